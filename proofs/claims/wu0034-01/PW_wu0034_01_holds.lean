import PyProof.Rows.All
import Wide.All
import OpenK.AllK
import Wide.FinOn
import PySem.Challenge.RW_wu0034_01
set_option Elab.async false
section -- WHead
open PySem PySem.W PyProof.Rows
set_option Elab.async false
namespace Mine
set_option maxRecDepth 100000
set_option maxHeartbeats 8000000
open_top hd for PySem.Challenge.rw_wu0034_01
end Mine
end -- WHead
section -- WBase
open PySem PySem.W PySem.Calls PySem.Spec PyProof.Rows
set_option Elab.async false
set_option maxRecDepth 100000
namespace Mine
noncomputable abbrev LOOSE : List Str := looseW Mine.hd.view_39 [Str.ofString "bisect_right", Str.ofString "insort_left", Str.ofString "bisect_left"]
abbrev TopV (mean : ExcName → Option Value) (mg mb : Str → Option Value) (h : Heap) : Prop := Top Mine.hd.view_39 LOOSE mean mg mb h
end Mine
namespace Mine
def Stop (P : Prop) : Prop := P
theorem stop_ {P : Prop} (h : Stop P) : P := h
end Mine
end -- WBase
section -- WPure1
open PySem PySem.W PySem.Calls PySem.Spec PyProof.Rows
set_option maxRecDepth 100000
namespace Mine

/-- what stands between the marks, as parse257 tells it -/
def P257 : List Nat → List Nat
  | [] => []
  | c :: r => if c = 34 then (match r with
      | [] => []
      | d :: r' => if d = 34 then 34 :: P257 r' else []) else c :: P257 r
theorem P257_plain {c : Nat} {r : List Nat} (h : c ≠ 34) : P257 (c :: r) = c :: P257 r := by rw [P257.eq_def]; simp [h]
theorem P257_two {r : List Nat} : P257 (34 :: 34 :: r) = 34 :: P257 r := by rw [P257.eq_def]; simp
theorem P257_end : P257 [34] = [] := by rw [P257.eq_def]; simp
theorem P257_brk {d : Nat} {r : List Nat} (h : d ≠ 34) : P257 (34 :: d :: r) = [] := by rw [P257.eq_def]; simp [h]
theorem P257_nil : P257 [] = [] := by rw [P257.eq_def]

theorem ofs_quote : Str.ofString "\"" = ⟨#[34]⟩ := by decide +kernel
def PInv (b : List Nat) (i : Int) (d : Str) : Prop := ∃ k : Nat, i = 5 + (k : Int) ∧ k ≤ b.length ∧ d.cps.toList ++ P257 (b.drop k) = P257 b
def PWord (b : List Nat) (i : Int) (d : Str) : Prop := 5 ≤ i ∧ i ≤ 5 + (b.length : Int) ∧ (d.length : Int) ≤ i ∧ PInv b i d
theorem pinv0 {b : List Nat} : 5 ≤ (5 : Int) ∧ (5 : Int) ≤ 5 + (b.length : Int) ∧ ((Str.ofString "").length : Int) ≤ (5 : Int) ∧ PInv b 5 (Str.ofString "") := ⟨by simp, by lia, by decide, 0, rfl, Nat.zero_le _, by simp; rfl⟩
theorem item_of {x : Str} {p b : List Nat} {i : Int} {k c : Nat} (hx : x.cps.toList = p ++ b) (hi : i = (p.length : Int) + (k : Int)) (hc : b[k]? = some c) : Txt.item x i = ⟨#[c]⟩ := by
  refine item_meets (by lia) ?_
  have h1 : x.cps[i.toNat]? = x.cps.toList[i.toNat]? := by simp
  rw [h1, hx, List.getElem?_append_right (by lia)]
  rw [show i.toNat - p.length = k by omega]
  exact hc
theorem str_one_beq {c d : Nat} : ((⟨#[c]⟩ : Str) == ⟨#[d]⟩) = (c == d) := by
  by_cases h : c = d
  · subst h; simp
  · have h1 : (c == d) = false := by simpa using h
    rw [h1]
    apply beq_eq_false_iff_ne.mpr
    intro e
    injection e with e
    simp at e
    exact h e
theorem item_is {x : Str} {p b : List Nat} {i : Int} {k c : Nat} {v : Bool} (hx : x.cps.toList = p ++ b) (hi : i = (p.length : Int) + (k : Int)) (hc : b[k]? = some c) (h : (Txt.item x i == Str.ofString "\"") = v) : (c == 34) = v := by
  rw [item_of hx hi hc, ofs_quote, str_one_beq] at h
  exact h
theorem drop_at {b : List Nat} {k : Nat} (h : k < b.length) : b.drop k = b[k] :: b.drop (k + 1) := List.drop_eq_getElem_cons h
theorem toList_item {d : Str} {c : Nat} : (d ++ (⟨#[c]⟩ : Str)).cps.toList = d.cps.toList ++ [c] := by
  rw [Str.cps_append]; simp
section
variable {x d : Str} {b : List Nat} {i : Int}
theorem parse_one (hx : x.cps.toList = [50,53,55,32,34] ++ b) (hl : x.length = 5 + b.length) (I : PInv b i d) (h1 : i < (x.length : Int)) (h2 : (Txt.item x i == Str.ofString "\"") = false) : PInv b (i + 1) (d ++ Txt.item x i) := by
  obtain ⟨k, rfl, hk, e⟩ := I
  have hk' : k < b.length := by (clear hk h2; lia)
  have hc : b[k]? = some b[k] := List.getElem?_eq_getElem hk'
  have h3 := item_is hx (by simp) hc h2
  refine ⟨k + 1, by (clear h3 hk h2 h1 hl; rfl), hk', ?_⟩
  rw [item_of hx (by simp) hc, toList_item, ← e, drop_at hk', P257_plain (by simpa using h3)]
  simp
theorem parse_two (hx : x.cps.toList = [50,53,55,32,34] ++ b) (hl : x.length = 5 + b.length) (I : PInv b i d) (h1 : i < (x.length : Int)) (h2 : (Txt.item x i == Str.ofString "\"") = true) (h3 : ¬ (x.length : Int) ≤ i + 1)
    (h4 : (Txt.item x (i + 1) != Str.ofString "\"") = false) : PInv b (i + 1 + 1) (d ++ Txt.item x i) := by
  obtain ⟨k, rfl, hk, e⟩ := I
  have hk' : k < b.length := by (clear hk h4 h3 h2; lia)
  have hk2 : k + 1 < b.length := by (clear hk' hk h4 h2 h1; lia)
  have hc : b[k]? = some b[k] := List.getElem?_eq_getElem hk'
  have hc2 : b[k + 1]? = some b[k + 1] := List.getElem?_eq_getElem hk2
  have h5 := item_is hx (by simp) hc h2
  have h6 := item_is (v := true) hx (k := k + 1) (i := 5 + (k : Int) + 1) (by simp; (clear h5 hk h4 h3 h2 h1 hl; rfl)) hc2 (by simpa using h4)
  have h5' : b[k] = 34 := by simpa using h5
  have h6' : b[k + 1] = 34 := by simpa using h6
  refine ⟨k + 2, by (clear h6' h5' h6 h5 hk h4 h3 h2 h1 hl; rfl), hk2, ?_⟩
  rw [item_of hx (by simp) hc, toList_item, ← e, drop_at hk', drop_at hk2, h5', h6', P257_two]
  simp
theorem parse_end (hl : x.length = 5 + b.length) (I : PInv b i d) (h1 : ¬ i < (x.length : Int)) : d.cps.toList = P257 b := by
  obtain ⟨k, rfl, hk, e⟩ := I
  have : k = b.length := by lia
  subst this
  rw [← e, List.drop_length, P257_nil, List.append_nil]
theorem parse_brk1 (hx : x.cps.toList = [50,53,55,32,34] ++ b) (hl : x.length = 5 + b.length) (I : PInv b i d) (h1 : i < (x.length : Int)) (h2 : (Txt.item x i == Str.ofString "\"") = true) (h3 : (x.length : Int) ≤ i + 1) : d.cps.toList = P257 b := by
  obtain ⟨k, rfl, hk, e⟩ := I
  have hk' : k < b.length := by (clear hk h3 h2; lia)
  have hc : b[k]? = some b[k] := List.getElem?_eq_getElem hk'
  have h5 := item_is hx (by simp) hc h2
  have h5' : b[k] = 34 := by simpa using h5
  have : b.drop (k + 1) = [] := List.drop_eq_nil_of_le (by (clear h5' h5 hk h2 h1; lia))
  rw [← e, drop_at hk', this, h5', P257_end, List.append_nil]
theorem parse_brk2 (hx : x.cps.toList = [50,53,55,32,34] ++ b) (hl : x.length = 5 + b.length) (I : PInv b i d) (h1 : i < (x.length : Int)) (h2 : (Txt.item x i == Str.ofString "\"") = true) (h3 : ¬ (x.length : Int) ≤ i + 1)
    (h4 : (Txt.item x (i + 1) != Str.ofString "\"") = true) : d.cps.toList = P257 b := by
  obtain ⟨k, rfl, hk, e⟩ := I
  have hk' : k < b.length := by (clear hk h4 h3 h2; lia)
  have hk2 : k + 1 < b.length := by (clear hk' hk h4 h2 h1; lia)
  have hc : b[k]? = some b[k] := List.getElem?_eq_getElem hk'
  have hc2 : b[k + 1]? = some b[k + 1] := List.getElem?_eq_getElem hk2
  have h5 := item_is hx (by simp) hc h2
  have h6 := item_is (v := false) hx (k := k + 1) (i := 5 + (k : Int) + 1) (by simp; (clear h5 hk h4 h3 h2 h1 hl; rfl)) hc2 (by simpa using h4)
  have h5' : b[k] = 34 := by simpa using h5
  have h6' : b[k + 1] ≠ 34 := by simpa using h6
  rw [← e, drop_at hk', drop_at hk2, h5', P257_brk h6', List.append_nil]
theorem slice3 {p q r u v : Nat} (hx : x.cps.toList = [p,q,r,u,v] ++ b) : Txt.slice x none (some 3) = ⟨#[p,q,r]⟩ := by
  have h := slice_closes_to (x := x) (j := 3) ⟨by simp, by rw [hx]; simp; lia⟩
  have h := eq_of_beq h
  rw [h, hx]
  rfl
theorem slice35 {p q r u v : Nat} (hx : x.cps.toList = [p,q,r,u,v] ++ b) : Txt.slice x (some 3) (some 5) = ⟨#[u,v]⟩ := by
  have h := slice_closes (x := x) (i := 3) (j := 5) ⟨by simp, by simp, by rw [hx]; simp; lia⟩
  have h := eq_of_beq h
  rw [h, hx]
  rfl
theorem ofs_257 : Str.ofString "257" = ⟨#[50,53,55]⟩ := by decide +kernel
theorem ofs_blankq : Str.ofString " \"" = ⟨#[32,34]⟩ := by decide +kernel
theorem not_ne_257 (hx : x.cps.toList = [50,53,55,32,34] ++ b) (h : (Txt.slice x none (some 3) != Str.ofString "257") = true) : False := by
  rw [slice3 hx, ofs_257] at h; simp at h
theorem not_ne_blankq (hx : x.cps.toList = [50,53,55,32,34] ++ b) (h : (Txt.slice x (some 3) (some 5) != Str.ofString " \"") = true) : False := by
  rw [slice35 hx, ofs_blankq] at h; simp at h
end
end Mine
end -- WPure1
section -- WPure2
open PySem PySem.W PySem.Calls PySem.Spec PyProof.Rows
set_option maxRecDepth 100000
namespace Mine

/-- what a search between lo and hi has found so far, to the left of x (bisect_left) -/
def BInv (ns : List Int) (x lo hi : Int) : Prop := (∀ (i : Nat) v, (i : Int) < lo → ns[i]? = some v → v < x) ∧ (∀ (i : Nat) v, hi ≤ (i : Int) → ns[i]? = some v → x ≤ v)
/-- the same to the right of x (bisect_right) -/
def RInv (ns : List Int) (x lo hi : Int) : Prop := (∀ (i : Nat) v, (i : Int) < lo → ns[i]? = some v → v ≤ x) ∧ (∀ (i : Nat) v, hi ≤ (i : Int) → ns[i]? = some v → x < v)
theorem binv0 {ns : List Int} {x : Int} : 0 ≤ (0 : Int) ∧ (0 : Int) ≤ (ns.length : Int) ∧ (ns.length : Int) ≤ (ns.length : Int) ∧ BInv ns x 0 (ns.length : Int) :=
  ⟨by simp, by simp, by simp, fun i v h _ => by lia, fun i v h e => by
    have := (List.getElem?_eq_some_iff.mp e).1
    omega⟩
theorem rinv0 {ns : List Int} {x : Int} : 0 ≤ (0 : Int) ∧ (0 : Int) ≤ (ns.length : Int) ∧ (ns.length : Int) ≤ (ns.length : Int) ∧ RInv ns x 0 (ns.length : Int) :=
  ⟨by simp, by simp, by simp, fun i v h _ => by lia, fun i v h e => by
    have := (List.getElem?_eq_some_iff.mp e).1
    omega⟩
theorem sorted_get {ns : List Int} (hs : ns.Pairwise (· ≤ ·)) {i j : Nat} {u v : Int} (h : i ≤ j) (hi : ns[i]? = some u) (hj : ns[j]? = some v) : u ≤ v := by
  rcases Nat.lt_or_eq_of_le h with h | rfl
  · obtain ⟨a, rfl⟩ := List.getElem?_eq_some_iff.mp hi
    obtain ⟨b, rfl⟩ := List.getElem?_eq_some_iff.mp hj
    exact List.pairwise_iff_getElem.mp hs i j a b h
  · rw [hi] at hj; exact Int.le_of_eq (Option.some.inj hj)
theorem getD_at {ns : List Int} {i : Nat} (h : i < ns.length) : ns[i]? = some (ns.getD i 0) := by
  rw [List.getD_eq_getElem?_getD, List.getElem?_eq_getElem h]; rfl
theorem mid_fd (lo hi : Int) : (lo + hi).fdiv 2 = (lo + hi) / 2 := Int.fdiv_eq_ediv_of_nonneg _ (by decide)
section
variable {ns : List Int} {x lo hi : Int}
theorem bmeas_lo (h : lo < hi) : (hi - ((lo + hi).fdiv 2 + 1)).toNat < (hi - lo).toNat := by rw [mid_fd]; omega
theorem bmeas_hi (h : lo < hi) : ((lo + hi).fdiv 2 - lo).toNat < (hi - lo).toNat := by rw [mid_fd]; lia
theorem binv_lo (hs : ns.Pairwise (· ≤ ·)) (h0 : 0 ≤ lo) (h1 : lo < hi) (h2 : hi ≤ (ns.length : Int)) (I : BInv ns x lo hi) (hc : ns.getD ((lo + hi).fdiv 2).toNat 0 < x) :
    0 ≤ (lo + hi).fdiv 2 + 1 ∧ (lo + hi).fdiv 2 + 1 ≤ hi ∧ hi ≤ (ns.length : Int) ∧ BInv ns x ((lo + hi).fdiv 2 + 1) hi := by
  rw [mid_fd] at hc ⊢
  refine ⟨by (clear hc h2; lia), by (clear hc h2 h0; lia), h2, fun i v hi' e => ?_, I.2⟩
  have hm : ((lo + hi) / 2).toNat < ns.length := by (clear hi' hc; lia)
  exact Int.lt_of_le_of_lt (sorted_get hs (by (clear hm hc h2 h1 h0; lia)) e (getD_at hm)) hc
theorem binv_hi (hs : ns.Pairwise (· ≤ ·)) (h0 : 0 ≤ lo) (h1 : lo < hi) (h2 : hi ≤ (ns.length : Int)) (I : BInv ns x lo hi) (hc : ¬ ns.getD ((lo + hi).fdiv 2).toNat 0 < x) :
    0 ≤ lo ∧ lo ≤ (lo + hi).fdiv 2 ∧ (lo + hi).fdiv 2 ≤ (ns.length : Int) ∧ BInv ns x lo ((lo + hi).fdiv 2) := by
  rw [mid_fd] at hc ⊢
  refine ⟨h0, by (clear hc h2 h0; lia), by (clear hc h0; lia), I.1, fun i v hi' e => ?_⟩
  have hm : ((lo + hi) / 2).toNat < ns.length := by (clear hi' hc; lia)
  exact Int.le_trans (Int.not_lt.mp hc) (sorted_get hs (by (clear hm hc h2 h1 h0; lia)) (getD_at hm) e)
theorem rinv_lo (hs : ns.Pairwise (· ≤ ·)) (h0 : 0 ≤ lo) (h1 : lo < hi) (h2 : hi ≤ (ns.length : Int)) (I : RInv ns x lo hi) (hc : ¬ x < ns.getD ((lo + hi).fdiv 2).toNat 0) :
    0 ≤ (lo + hi).fdiv 2 + 1 ∧ (lo + hi).fdiv 2 + 1 ≤ hi ∧ hi ≤ (ns.length : Int) ∧ RInv ns x ((lo + hi).fdiv 2 + 1) hi := by
  rw [mid_fd] at hc ⊢
  refine ⟨by (clear hc h2; lia), by (clear hc h2 h0; lia), h2, fun i v hi' e => ?_, I.2⟩
  have hm : ((lo + hi) / 2).toNat < ns.length := by (clear hi' hc; lia)
  exact Int.le_trans (sorted_get hs (by (clear hm hc h2 h1 h0; lia)) e (getD_at hm)) (Int.not_lt.mp hc)
theorem rinv_hi (hs : ns.Pairwise (· ≤ ·)) (h0 : 0 ≤ lo) (h1 : lo < hi) (h2 : hi ≤ (ns.length : Int)) (I : RInv ns x lo hi) (hc : x < ns.getD ((lo + hi).fdiv 2).toNat 0) :
    0 ≤ lo ∧ lo ≤ (lo + hi).fdiv 2 ∧ (lo + hi).fdiv 2 ≤ (ns.length : Int) ∧ RInv ns x lo ((lo + hi).fdiv 2) := by
  rw [mid_fd] at hc ⊢
  refine ⟨h0, by (clear hc h2 h0; lia), by (clear hc h0; lia), I.1, fun i v hi' e => ?_⟩
  have hm : ((lo + hi) / 2).toNat < ns.length := by (clear hi' hc; lia)
  exact Int.lt_of_lt_of_le hc (sorted_get hs (by (clear hm hc h2 h1 h0; lia)) (getD_at hm) e)
/-- the place that bisect_left tells of a sorted list -/
def BlAt (ns : List Int) (x : Int) (r : Nat) : Prop := r ≤ ns.length ∧ BInv ns x r r
def BrAt (ns : List Int) (x : Int) (r : Nat) : Prop := r ≤ ns.length ∧ RInv ns x r r
theorem bl_end (h0 : 0 ≤ lo) (h1 : lo ≤ hi) (h2 : hi ≤ (ns.length : Int)) (I : BInv ns x lo hi) (h : ¬ lo < hi) : BlAt ns x lo.toNat ∧ ((lo.toNat : Nat) : Int) = lo := by
  have e : hi = lo := by (clear h2 h0; lia)
  subst e
  have e2 : ((hi.toNat : Nat) : Int) = hi := by (clear h h1 h2; lia)
  exact ⟨⟨by (clear e2 h h1 h0; lia), by rw [e2]; exact I⟩, e2⟩
theorem br_end (h0 : 0 ≤ lo) (h1 : lo ≤ hi) (h2 : hi ≤ (ns.length : Int)) (I : RInv ns x lo hi) (h : ¬ lo < hi) : BrAt ns x lo.toNat ∧ ((lo.toNat : Nat) : Int) = lo := by
  have e : hi = lo := by (clear h2 h0; lia)
  subst e
  have e2 : ((hi.toNat : Nat) : Int) = hi := by (clear h h1 h2; lia)
  exact ⟨⟨by (clear e2 h h1 h0; lia), by rw [e2]; exact I⟩, e2⟩
end
end Mine
end -- WPure2
section -- WNeg
open PySem PySem.W PySem.Calls PySem.Spec PyProof.Rows
set_option Elab.async false
set_option maxRecDepth 100000
set_option maxHeartbeats 8000000
namespace Mine
set_option maxHeartbeats 8000000
theorem fillWNeg : (PySem.Challenge.rw_wu0034_01 = PySem.Challenge.rw_wu0034_01) ∧ (Mine.hd.heap_39 = Mine.hd.heap_39) := by
  w_top off
  k_fill
  exact ⟨rfl, rfl⟩
theorem neg_c {prog : Program} {w : World} {mean : ExcName → Option Value} {mg mb : Str → Option Value} {dp un : Nat} {gd : Option (List Code)} {cn : Str} {cs : Scope} {a : Addr} {ccd : Value} {cl : List (Str × Addr)} {outer : List Env} {A₀ : Around} {base h₀ : Heap} {L : Addr} {m : Str → Option Value} {news : List (Addr × Obj)} {s : Shared}
    {Q E : Value → Shared → Prop} {i : Int} {t0 : Tok}
    (B : Below A₀ base outer h₀) (F : Fr h₀ L s.heap m) (X : (Mine.hd.heap_39 w.params).In h₀) (N : News h₀ L s.heap news) (T : TopV mean mg mb h₀) (hk : cs.kind = .function) (hd : dp + 1 < recursionLimit) (hu : un + 8 < cLine)
    (hret : ∀ (t : Tok) (h' : Heap) (tk' : Nat), Fr h₀ L h' m → News h₀ L h' news → Q (.int (-i) t) { s with heap := h', toks := tk' }) :
    wpAny (model prog w) (ktrTop dp un gd cn cs L a ccd cl outer) (call (.ref 80) [.int i t0]) Q E s := by
  refine wpAny_call ?_
  k_dflt cell_enter
  k_steps
  exact hret _ _ _ (by k_asm) (by k_asm)
end Mine
end -- WNeg
section -- WParse
open PySem PySem.W PySem.Calls PySem.Spec PyProof.Rows
set_option Elab.async false
set_option maxRecDepth 100000
set_option maxHeartbeats 8000000
set_option linter.unusedVariables false
namespace Mine
theorem fillWParse : (PySem.Challenge.rw_wu0034_01 = PySem.Challenge.rw_wu0034_01) ∧ (Mine.hd.heap_39 = Mine.hd.heap_39) := by
  w_top off
  k_fill
  exact ⟨rfl, rfl⟩
section
variable {prog : Program} {w : World} {mean : ExcName → Option Value} {mg mb : Str → Option Value} {dp un : Nat} {gd : Option (List Code)} {cn : Str} {cs : Scope} {a : Addr} {ccd : Value} {cl : List (Str × Addr)} {outer : List Env} {A₀ : Around} {base h₀ : Heap} {L : Addr} {m : Str → Option Value} {news : List (Addr × Obj)} {s : Shared}
    {Q E : Value → Shared → Prop}

theorem parse_c {x : Str} {t0 : Tok} {b : List Nat}
    (B : Below A₀ base outer h₀) (F : Fr h₀ L s.heap m) (X : (Mine.hd.heap_39 w.params).In h₀) (N : News h₀ L s.heap news) (T : TopV mean mg mb h₀) (hk : cs.kind = .function) (hd : dp + 1 < recursionLimit) (hu : un + 8 < cLine)
    (hlen : x.length ≤ 100000) (hx : x.cps.toList = [50,53,55,32,34] ++ b)
    (hret : ∀ (y : Str) (t : Tok) (h' : Heap) (tk' : Nat), y.cps.toList = P257 b → Fr h₀ L h' m → News h₀ L h' news → Q (.str y t) { s with heap := h', toks := tk' }) :
    wpAny (model prog w) (ktrTop dp un gd cn cs L a ccd cl outer) (call (.ref 46) [.str x t0]) Q E s := by
  have hl : x.length = 5 + b.length := by
    have := congrArg List.length hx
    simp at this
    show x.cps.size = _
    (clear hlen hu hd; lia)
  k_with_none
  k_with "state" => first | exact pinv0 | exact ⟨by (clear hl hlen hu hd; (first | (lia) | omega)), by (clear hlen hu hd; (first | (lia) | omega)), by (clear hl hlen hu hd; (first | (lia) | omega)), parse_one hx hl (by assumption) (by assumption) (by assumption)⟩ | exact ⟨by (clear hl hlen hu hd; lia), by (clear hlen hu hd; lia), by (clear hl hlen hu hd; lia), parse_two hx hl (by assumption) (by assumption) (by assumption) (by assumption) (by assumption)⟩
  k_with "exec While Compare cons nil" => k_while (fun (_ : List Int) i d => 5 ≤ i ∧ i ≤ 5 + (b.length : Int) ∧ (d.length : Int) ≤ i ∧ PInv b i d) (fun _ i d => (5 + (b.length : Int) - i).toNat) "i" "dirname"
  refine wpAny_call ?_
  k_dflt cell_enter
  k_steps
  all_goals first
    | exact absurd (by assumption) (fun h => not_ne_257 hx h)
    | exact absurd (by assumption) (fun h => not_ne_blankq hx h)
    | (refine hret _ _ _ _ ?_ (by k_asm) (by k_asm); first
      | exact parse_end hl (by assumption) (by assumption)
      | exact parse_brk1 hx hl (by assumption) (by assumption) (by assumption) (by assumption)
      | exact parse_brk2 hx hl (by assumption) (by assumption) (by assumption) (by assumption) (by assumption))
end
end Mine
end -- WParse
section -- WBis
open PySem PySem.W PySem.Calls PySem.Spec PyProof.Rows
set_option Elab.async false
set_option maxRecDepth 100000
set_option maxHeartbeats 8000000
set_option linter.unusedVariables false
namespace Mine
theorem fillWBis : (PySem.Challenge.rw_wu0034_01 = PySem.Challenge.rw_wu0034_01) ∧ (Mine.hd.heap_39 = Mine.hd.heap_39) := by
  w_top off
  k_fill
  exact ⟨rfl, rfl⟩
section
variable {prog : Program} {w : World} {mean : ExcName → Option Value} {mg mb : Str → Option Value} {dp un : Nat} {gd : Option (List Code)} {cn : Str} {cs : Scope} {a : Addr} {ccd : Value} {cl : List (Str × Addr)} {outer : List Env} {A₀ : Around} {base h₀ : Heap} {L : Addr} {m : Str → Option Value} {news : List (Addr × Obj)} {s : Shared}
    {Q E : Value → Shared → Prop}


theorem bl_c {l : Addr} {vs : List Value} {ns : List Int} {nn : Nat} {x : Int} {t0 : Tok}
    (B : Below A₀ base outer h₀) (F : Fr h₀ L s.heap m) (X : (Mine.hd.heap_39 w.params).In h₀) (N : News h₀ L s.heap ((l, listOf vs.toArray nn) :: news)) (T : TopV mean mg mb h₀) (hk : cs.kind = .function) (hd : dp + 1 < recursionLimit) (hu : un + 8 < cLine)
    (hi : IntsAre vs ns) (hs : ns.Pairwise (· ≤ ·)) (hlen : ns.length ≤ 1000)
    (hret : ∀ (r : Nat) (t : Tok) (h' : Heap) (tk' : Nat), BlAt ns x r → Fr h₀ L h' m → News h₀ L h' ((l, listOf vs.toArray nn) :: news) → Q (.int (r : Int) t) { s with heap := h', toks := tk' }) :
    wpAny (model prog w) (ktrTop dp un gd cn cs L a ccd cl outer) (call (.ref 73) [.ref l, .int x t0]) Q E s := by
  k_with_none
  k_with "exec While Compare cons nil" => k_while (fun (_ : List Int) lo hi => 0 ≤ lo ∧ lo ≤ hi ∧ hi ≤ (ns.length : Int) ∧ BInv ns x lo hi) (fun _ lo hi => (hi - lo).toNat) "lo" "hi"
  k_with "state" => first | exact binv0 | exact binv_lo hs (by assumption) (by assumption) (by assumption) (by assumption) (by assumption) | exact binv_hi hs (by assumption) (by assumption) (by assumption) (by assumption) (by assumption)
  k_with "measure" => first | exact bmeas_lo (by assumption) | exact bmeas_hi (by assumption)
  refine wpAny_call ?_
  k_dflt (refine' code_def (binds := [(Str.ofString "a", .ref l), (Str.ofString "x", .int x t0), (Str.ofString "lo", .int 0 265), (Str.ofString "hi", .none), (Str.ofString "key", .none)]) ?k1 ?k2 ?k3 ?k4 ?k5 ?kA ?kF ?kK ?k6 ?k7 ?k8 ?k9 ?kB ?_ ?c2 ?c3 ?c4 ?c5; (case kA => exact rfl); (case kF => exact rfl); (case kK => assumption); (case k1 => k_asm); (case k2 => k_asm); (case k3 => k_asm); (case k4 => k_asm); (case k5 => k_asm); (case k6 => k_is); (case k7 => k_is); (case k8 => ktr_room); (case k9 => (refine' kp_binds ?kx ?ke; (case kx => k_in); (case ke => exact fun _ => rfl))); (case c5 => decide); (case kB => exact locs rfl); (case c2 => exact rfl); (case c3 => exact rfl); (case c4 => exact rfl); k_whole; intro g' L' h' FG' F' N' B' X' T'; (try dsimp only); (try k_lift B'); (try k_fold))
  k_steps
  rename_i I qk ek ha kF kN Tc kX
  obtain ⟨e1, e2⟩ := bl_end (by assumption) (by assumption) (by assumption) (by assumption) ha
  rw [← e2]
  exact hret _ _ _ _ e1 (by k_asm) (by k_asm)

theorem br_c {l : Addr} {vs : List Value} {ns : List Int} {nn : Nat} {x : Int} {t0 : Tok}
    (B : Below A₀ base outer h₀) (F : Fr h₀ L s.heap m) (X : (Mine.hd.heap_39 w.params).In h₀) (N : News h₀ L s.heap ((l, listOf vs.toArray nn) :: news)) (T : TopV mean mg mb h₀) (hk : cs.kind = .function) (hd : dp + 1 < recursionLimit) (hu : un + 8 < cLine)
    (hi : IntsAre vs ns) (hs : ns.Pairwise (· ≤ ·)) (hlen : ns.length ≤ 1000)
    (hret : ∀ (r : Nat) (t : Tok) (h' : Heap) (tk' : Nat), BrAt ns x r → Fr h₀ L h' m → News h₀ L h' ((l, listOf vs.toArray nn) :: news) → Q (.int (r : Int) t) { s with heap := h', toks := tk' }) :
    wpAny (model prog w) (ktrTop dp un gd cn cs L a ccd cl outer) (call (.ref 55) [.ref l, .int x t0]) Q E s := by
  k_with_none
  k_with "exec While Compare cons nil" => k_while (fun (_ : List Int) lo hi => 0 ≤ lo ∧ lo ≤ hi ∧ hi ≤ (ns.length : Int) ∧ RInv ns x lo hi) (fun _ lo hi => (hi - lo).toNat) "lo" "hi"
  k_with "state" => first | exact rinv0 | exact rinv_lo hs (by assumption) (by assumption) (by assumption) (by assumption) (by assumption) | exact rinv_hi hs (by assumption) (by assumption) (by assumption) (by assumption) (by assumption)
  k_with "measure" => first | exact bmeas_lo (by assumption) | exact bmeas_hi (by assumption)
  refine wpAny_call ?_
  k_dflt (refine' code_def (binds := [(Str.ofString "a", .ref l), (Str.ofString "x", .int x t0), (Str.ofString "lo", .int 0 238), (Str.ofString "hi", .none), (Str.ofString "key", .none)]) ?k1 ?k2 ?k3 ?k4 ?k5 ?kA ?kF ?kK ?k6 ?k7 ?k8 ?k9 ?kB ?_ ?c2 ?c3 ?c4 ?c5; (case kA => exact rfl); (case kF => exact rfl); (case kK => assumption); (case k1 => k_asm); (case k2 => k_asm); (case k3 => k_asm); (case k4 => k_asm); (case k5 => k_asm); (case k6 => k_is); (case k7 => k_is); (case k8 => ktr_room); (case k9 => (refine' kp_binds ?kx ?ke; (case kx => k_in); (case ke => exact fun _ => rfl))); (case c5 => decide); (case kB => exact locs rfl); (case c2 => exact rfl); (case c3 => exact rfl); (case c4 => exact rfl); k_whole; intro g' L' h' FG' F' N' B' X' T'; (try dsimp only); (try k_lift B'); (try k_fold))
  k_steps
  rename_i I qk ek ha kF kN Tc kX
  obtain ⟨e1, e2⟩ := br_end (by assumption) (by assumption) (by assumption) (by assumption) ha
  rw [← e2]
  exact hret _ _ _ _ e1 (by k_asm) (by k_asm)

end
end Mine
end -- WBis
section -- WIns
open PySem PySem.W PySem.Calls PySem.Spec PyProof.Rows
set_option Elab.async false
set_option maxRecDepth 100000
set_option maxHeartbeats 8000000
set_option linter.unusedVariables false
namespace Mine
theorem fillWIns : (PySem.Challenge.rw_wu0034_01 = PySem.Challenge.rw_wu0034_01) ∧ (Mine.hd.heap_39 = Mine.hd.heap_39) := by
  w_top off
  k_fill
  exact ⟨rfl, rfl⟩
section
variable {prog : Program} {w : World} {mean : ExcName → Option Value} {mg mb : Str → Option Value} {dp un : Nat} {gd : Option (List Code)} {cn : Str} {cs : Scope} {a : Addr} {ccd : Value} {cl : List (Str × Addr)} {outer : List Env} {A₀ : Around} {base h₀ : Heap} {L : Addr} {m : Str → Option Value} {news : List (Addr × Obj)} {s : Shared}
    {Q E : Value → Shared → Prop}

theorem bl4_c {l : Addr} {vs : List Value} {ns : List Int} {nn : Nat} {x : Int} {t0 t1 : Tok}
    (B : Below A₀ base outer h₀) (F : Fr h₀ L s.heap m) (X : (Mine.hd.heap_39 w.params).In h₀) (N : News h₀ L s.heap ((l, listOf vs.toArray nn) :: news)) (T : TopV mean mg mb h₀) (hk : cs.kind = .function) (hd : dp + 1 < recursionLimit) (hu : un + 8 < cLine)
    (hi : IntsAre vs ns) (hs : ns.Pairwise (· ≤ ·)) (hlen : ns.length ≤ 1000)
    (hret : ∀ (r : Nat) (t : Tok) (h' : Heap) (tk' : Nat), BlAt ns x r → Fr h₀ L h' m → News h₀ L h' ((l, listOf vs.toArray nn) :: news) → Q (.int (r : Int) t) { s with heap := h', toks := tk' }) :
    wpAny (model prog w) (ktrTop dp un gd cn cs L a ccd cl outer) (call (.ref 73) [.ref l, .int x t0, .int 0 t1, .none]) Q E s := by
  k_with_none
  k_with "exec While Compare cons nil" => k_while (fun (_ : List Int) lo hi => 0 ≤ lo ∧ lo ≤ hi ∧ hi ≤ (ns.length : Int) ∧ BInv ns x lo hi) (fun _ lo hi => (hi - lo).toNat) "lo" "hi"
  k_with "state" => first | exact binv0 | exact binv_lo hs (by assumption) (by assumption) (by assumption) (by assumption) (by assumption) | exact binv_hi hs (by assumption) (by assumption) (by assumption) (by assumption) (by assumption)
  k_with "measure" => first | exact bmeas_lo (by assumption) | exact bmeas_hi (by assumption)
  refine wpAny_call ?_
  k_dflt (refine' code_def (binds := [(Str.ofString "a", .ref l), (Str.ofString "x", .int x t0), (Str.ofString "lo", .int 0 t1), (Str.ofString "hi", .none), (Str.ofString "key", .none)]) ?k1 ?k2 ?k3 ?k4 ?k5 ?kA ?kF ?kK ?k6 ?k7 ?k8 ?k9 ?kB ?_ ?c2 ?c3 ?c4 ?c5; (case kA => exact rfl); (case kF => exact rfl); (case kK => assumption); (case k1 => k_asm); (case k2 => k_asm); (case k3 => k_asm); (case k4 => k_asm); (case k5 => k_asm); (case k6 => k_is); (case k7 => k_is); (case k8 => ktr_room); (case k9 => (refine' kp_binds ?kx ?ke; (case kx => k_in); (case ke => exact fun _ => rfl))); (case c5 => decide); (case kB => exact locs rfl); (case c2 => exact rfl); (case c3 => exact rfl); (case c4 => exact rfl); k_whole; intro g' L' h' FG' F' N' B' X' T'; (try dsimp only); (try k_lift B'); (try k_fold))
  k_steps
  rename_i I qk ek ha kF kN Tc kX
  obtain ⟨e1, e2⟩ := bl_end (by assumption) (by assumption) (by assumption) (by assumption) ha
  rw [← e2]
  exact hret _ _ _ _ e1 (by k_asm) (by k_asm)


theorem ins_fits {ns : List Int} {x : Int} {r : Nat} (h : BlAt ns x r) (hl : ns.length ≤ 1000) : Builtin.List.listFitsIndex (r : Int) = true := by
  have := h.1
  unfold Builtin.List.listFitsIndex
  simp only [Bool.and_eq_true, decide_eq_true_eq]
  omega
theorem ins_ints {vs : List Value} {ns : List Int} {x : Int} {t : Tok} {r : Nat} (h : IntsAre vs ns) (hb : BlAt ns x r) : IntsAre (kl_ins vs.toArray.toList (r : Int) (.int x t)) (ns.take r ++ x :: ns.drop r) := by
  have hr := hb.1
  have hl : vs.length = ns.length := h.length
  have e : kl_ins vs.toArray.toList (r : Int) (.int x t) = vs.take r ++ .int x t :: vs.drop r := by
    unfold kl_ins
    simp only [List.toList_toArray]
    have h1 : ¬ ((r : Int) < 0) := by (clear hl hr; omega)
    rw [if_neg h1]
    have h2 : min ((r : Int).toNat) vs.length = r := by (clear h1; omega)
    rw [h2]
  rw [e]
  exact (h.take r).append (.cons _ _ (h.drop r))
theorem ins_c {l : Addr} {vs : List Value} {ns : List Int} {nn : Nat} {x : Int} {t0 : Tok}
    (B : Below A₀ base outer h₀) (F : Fr h₀ L s.heap m) (X : (Mine.hd.heap_39 w.params).In h₀) (N : News h₀ L s.heap ((l, listOf vs.toArray nn) :: news)) (T : TopV mean mg mb h₀) (hk : cs.kind = .function) (hd : dp + 2 < recursionLimit) (hu : un + 16 < cLine)
    (hi : IntsAre vs ns) (hs : ns.Pairwise (· ≤ ·)) (hlen : ns.length ≤ 1000) (hoff : ∀ p ∈ news, p.1 ≠ l)
    (hret : ∀ (r : Nat) (vs' : List Value) (nn' : Nat) (h' : Heap) (tk' : Nat), BlAt ns x r → IntsAre vs' (ns.take r ++ x :: ns.drop r) → Fr h₀ L h' m → News h₀ L h' ((l, listOf vs'.toArray nn') :: news) → Q .none { s with heap := h', toks := tk' }) :
    wpAny (model prog w) (ktrTop dp un gd cn cs L a ccd cl outer) (call (.ref 64) [.ref l, .int x t0]) Q E s := by
  have hvl : vs.length = ns.length := hi.length
  k_with_none
  k_with "call builtin:list.insert" => (rename BlAt _ _ _ => hB; rename Fr _ _ _ _ => lF; rename News _ _ _ _ => lN; refine kl_insert lF lN (ins_fits hB hlen) rfl (Upd.head hoff) (by simp only [List.toList_toArray]; rw [sizeLine_eq]; (clear hu hd; omega)) ?_; intro h8 F8 N8; (try dsimp only); (try k_fold))
  k_with "call ref" => ((k_dflt (refine' bl4_c ?k1 ?k2 ?k3 ?k4 ?k5 ?kK ?kd ?ku hi hs hlen ?kR)); (case k1 => k_asm); (case k2 => k_asm); (case k3 => k_asm); (case k4 => k_asm); (case k5 => k_asm); (case kK => exact rfl); (case kd => ktr_room); (case ku => ktr_units); (intro r9 t9 h9 tk9 hr9 F9 N9); (try dsimp only); (try k_fold))
  refine wpAny_call ?_
  k_dflt (refine' code_def (binds := [(Str.ofString "a", .ref l), (Str.ofString "x", .int x t0), (Str.ofString "lo", .int 0 252), (Str.ofString "hi", .none), (Str.ofString "key", .none)]) ?k1 ?k2 ?k3 ?k4 ?k5 ?kA ?kF ?kK ?k6 ?k7 ?k8 ?k9 ?kB ?_ ?c2 ?c3 ?c4 ?c5; (case kA => exact rfl); (case kF => exact rfl); (case kK => assumption); (case k1 => k_asm); (case k2 => k_asm); (case k3 => k_asm); (case k4 => k_asm); (case k5 => k_asm); (case k6 => k_is); (case k7 => k_is); (case k8 => ktr_room); (case k9 => (refine' kp_binds ?kx ?ke; (case kx => k_in); (case ke => exact fun _ => rfl))); (case c5 => decide); (case kB => exact locs rfl); (case c2 => exact rfl); (case c3 => exact rfl); (case c4 => exact rfl); k_whole; intro g' L' h' FG' F' N' B' X' T'; (try dsimp only); (try k_lift B'); (try k_fold))
  k_steps
  rename BlAt _ _ _ => hB
  exact hret _ _ _ _ _ hB (ins_ints hi hB) (by k_asm) (by k_asm)
end
end Mine
end -- WIns
section -- WCon
open PySem PySem.W PySem.Calls PySem.Spec PyProof.Rows
set_option Elab.async false
set_option maxRecDepth 100000
set_option maxHeartbeats 8000000
set_option linter.unusedVariables false
namespace Mine
theorem fillWCon : (PySem.Challenge.rw_wu0034_01 = PySem.Challenge.rw_wu0034_01) ∧ (Mine.hd.heap_39 = Mine.hd.heap_39) := by
  w_top off
  k_fill
  exact ⟨rfl, rfl⟩
section
variable {prog : Program} {w : World} {mean : ExcName → Option Value} {mg mb : Str → Option Value} {dp un : Nat} {gd : Option (List Code)} {cn : Str} {cs : Scope} {a : Addr} {ccd : Value} {cl : List (Str × Addr)} {outer : List Env} {A₀ : Around} {base h₀ : Heap} {L : Addr} {m : Str → Option Value} {news : List (Addr × Obj)} {s : Shared}
    {Q E : Value → Shared → Prop}

theorem con_s {x : Str} {c : Nat} {t0 t1 : Tok}
    (B : Below A₀ base outer h₀) (F : Fr h₀ L s.heap m) (X : (Mine.hd.heap_39 w.params).In h₀) (N : News h₀ L s.heap news) (T : TopV mean mg mb h₀) (hk : cs.kind = .function) (hd : dp + 1 < recursionLimit) (hu : un + 8 < cLine)
    (hlen : x.length ≤ 100000)
    (hret : ∀ (h' : Heap) (tk' : Nat), Fr h₀ L h' m → News h₀ L h' news → Q (.bool (decide (c ∈ x.cps.toList))) { s with heap := h', toks := tk' }) :
    wpAny (model prog w) (ktrTop dp un gd cn cs L a ccd cl outer) (call (.ref 87) [.str x t0,   .str ⟨#[c]⟩ t1]) Q E s := by
  k_with_none
  refine wpAny_call ?_
  k_dflt cell_enter
  k_steps
  rw [StrLaws.found_one]
  exact hret _ _ (by k_asm) (by k_asm)
theorem con_l {l : Addr} {vs : List Value} {ns : List Int} {nn : Nat} {x : Int} {t0 : Tok}
    (B : Below A₀ base outer h₀) (F : Fr h₀ L s.heap m) (X : (Mine.hd.heap_39 w.params).In h₀) (N : News h₀ L s.heap ((l, listOf vs.toArray nn) :: news)) (T : TopV mean mg mb h₀) (hk : cs.kind = .function) (hd : dp + 1 < recursionLimit) (hu : un + 8 < cLine)
    (hi : IntsAre vs ns) (hlen : ns.length ≤ 1000)
    (hret : ∀ (h' : Heap) (tk' : Nat), Fr h₀ L h' m → News h₀ L h' ((l, listOf vs.toArray nn) :: news) → Q (.bool (ns.any fun y => y == x)) { s with heap := h', toks := tk' }) :
    wpAny (model prog w) (ktrTop dp un gd cn cs L a ccd cl outer) (call (.ref 87) [.ref l, .int x t0]) Q E s := by
  k_with_none
  refine wpAny_call ?_
  k_dflt cell_enter
  k_steps
  exact hret _ _ (by k_asm) (by k_asm)
end
end Mine
end -- WCon
section -- WArith
open PySem PySem.W PySem.Calls PySem.Spec PyProof.Rows
set_option Elab.async false
set_option maxRecDepth 100000
set_option maxHeartbeats 8000000
set_option linter.unusedVariables false
namespace Mine
theorem fillWArith : (PySem.Challenge.rw_wu0034_01 = PySem.Challenge.rw_wu0034_01) ∧ (Mine.hd.heap_39 = Mine.hd.heap_39) := by
  w_top off
  k_fill
  exact ⟨rfl, rfl⟩
section
variable {prog : Program} {w : World} {mean : ExcName → Option Value} {mg mb : Str → Option Value} {dp un : Nat} {gd : Option (List Code)} {cn : Str} {cs : Scope} {a : Addr} {ccd : Value} {cl : List (Str × Addr)} {outer : List Env} {A₀ : Around} {base h₀ : Heap} {L : Addr} {m : Str → Option Value} {news : List (Addr × Obj)} {s : Shared}
    {Q E : Value → Shared → Prop}
theorem iadd_c {i j : Int} {t0 t1 : Tok}
    (B : Below A₀ base outer h₀) (F : Fr h₀ L s.heap m) (X : (Mine.hd.heap_39 w.params).In h₀) (N : News h₀ L s.heap news) (T : TopV mean mg mb h₀) (hk : cs.kind = .function) (hd : dp + 1 < recursionLimit) (hu : un + 8 < cLine)
    (hret : ∀ (t : Tok) (h' : Heap) (tk' : Nat), Fr h₀ L h' m → News h₀ L h' news → Q (.int (i + j) t) { s with heap := h', toks := tk' }) :
    wpAny (model prog w) (ktrTop dp un gd cn cs L a ccd cl outer) (call (.ref 94) [.int i t0, .int j t1]) Q E s := by
  k_with_none
  refine wpAny_call ?_
  k_dflt cell_enter
  k_steps
  exact hret _ _ _ (by k_asm) (by k_asm)
theorem isub_c {i j : Int} {t0 t1 : Tok}
    (B : Below A₀ base outer h₀) (F : Fr h₀ L s.heap m) (X : (Mine.hd.heap_39 w.params).In h₀) (N : News h₀ L s.heap news) (T : TopV mean mg mb h₀) (hk : cs.kind = .function) (hd : dp + 1 < recursionLimit) (hu : un + 8 < cLine)
    (hret : ∀ (t : Tok) (h' : Heap) (tk' : Nat), Fr h₀ L h' m → News h₀ L h' news → Q (.int (i - j) t) { s with heap := h', toks := tk' }) :
    wpAny (model prog w) (ktrTop dp un gd cn cs L a ccd cl outer) (call (.ref 108) [.int i t0, .int j t1]) Q E s := by
  k_with_none
  refine wpAny_call ?_
  k_dflt cell_enter
  k_steps
  exact hret _ _ _ (by k_asm) (by k_asm)
theorem imul_c {i j : Int} {t0 t1 : Tok} (hm : IntMulOk i j)
    (B : Below A₀ base outer h₀) (F : Fr h₀ L s.heap m) (X : (Mine.hd.heap_39 w.params).In h₀) (N : News h₀ L s.heap news) (T : TopV mean mg mb h₀) (hk : cs.kind = .function) (hd : dp + 1 < recursionLimit) (hu : un + 8 < cLine)
    (hret : ∀ (t : Tok) (h' : Heap) (tk' : Nat), Fr h₀ L h' m → News h₀ L h' news → Q (.int (i * j) t) { s with heap := h', toks := tk' }) :
    wpAny (model prog w) (ktrTop dp un gd cn cs L a ccd cl outer) (call (.ref 101) [.int i t0, .int j t1]) Q E s := by
  k_with_none
  refine wpAny_call ?_
  k_dflt cell_enter
  k_steps
  exact hret _ _ _ (by k_asm) (by k_asm)
end
end Mine
end -- WArith
section -- WIaddR
open PySem PySem.W PySem.Calls PySem.Spec PyProof.Rows
set_option maxRecDepth 100000
namespace Mine
section
variable {M : Model} {A : Around} {E : Value → Shared → Prop} {s : Shared}
theorem look_iadd : typeLookup (.type "list") (dunderI "add") = pure (some (.builtin "list.__iadd__")) := PySem.F.slot_list_iadd.lookup
theorem inplace_lists {a b : Value} {Q : Value → Shared → Prop} (ha : s.TypeIs a "list") (hb : s.TypeIs b "list")
    (hc : wpAny M A (call (.builtin "list.__iadd__") [a, b]) Q E s) : wpAny M A (inplaceOp .Add a b) Q E s := by
  unfold inplaceOp
  refine wpAny_holding ?_
  have hfi : fillsInplaceSlot (.type "list") "add" (Operator.Add == .Add) = pure false := by
    unfold fillsInplaceSlot
    show (typeLookup (.type "list") (dunderI "add") >>= fun fi => pure (fi.isSome && !isSeqSlot fi)) = pure false
    rw [look_iadd]
    rfl
  have hsi : seqSlot? (.type "list") (dunderI "add") = pure (some (.builtin "list.__iadd__")) := PySem.seqSlot_of look_iadd rfl
  refine wpAny_bind (wpAny_typeOf ha (wpAny_bind (wpAny_of_eq hfi ?_)))
  show wpAny M A (if false = true then _ else _) Q E s
  rw [if_neg Bool.false_ne_true]
  refine wpAny_bind (wpAny_binaryOp1_none (nm := "add") ha hb PySem.noFill_list_add ?_)
  refine wpAny_bind (wpAny_of_eq hsi ?_)
  exact wpAny_bind (wpAny_rule hc)
end
section
variable {prog : Program} {w : World} {A : Around} {E : Value → Shared → Prop} {s : Shared} {h₀ : Heap} {L D b : Addr} {m : Str → Option Value} {news news' : List (Addr × Obj)} {vs ws : List Value} {n n2 : Nat}
theorem iadd_lists {Q : Value → Shared → Prop} (F : Fr h₀ L s.heap m) (N : News h₀ L s.heap news) (hb : (b, listOf ws.toArray n2) ∈ news) (hne : ws.length ≠ 0)
    (U : Upd D (listOf vs.toArray n) (listOf (vs ++ ws).toArray (n + 1)) news news') (hz : vs.length + ws.length ≤ 1000)
    (h : ∀ h', Fr h₀ L h' m → News h₀ L h' news' → Q (.ref D) { s with heap := h' }) : wpAny (model prog w) A (inplaceOp .Add (.ref D) (.ref b)) Q E s := by
  obtain ⟨pre, post, rfl, rfl, a, c⟩ := U.split
  have z := N (D, listOf vs.toArray n) (List.mem_append.mpr (.inr (.head _)))
  have zb := N _ hb
  refine inplace_lists ⟨_, z.1, rfl⟩ ⟨_, zb.1, rfl⟩ ?_
  refine call_meets PySem.F.slot_list_iadd ⟨_, z.1, rfl⟩ PySem.F.entry_list_iadd (PySem.F.args_list_iadd_2 _ _) (PySem.AutoSeq1.list___iadd___list_list_0 D vs.toArray n b ws.toArray n2 ?_ ?_ ?_) ⟨z.1, zb.1, h _ (F.change (Heap.SameBut.update ..) z.2.1 z.2.2) (kl_turn _ N a c ?_ ?_)⟩
  · have e : Builtin.List.listTooLong (vs.toArray.size + ws.toArray.size) = false := by
      unfold Builtin.List.listTooLong
      rw [decide_eq_false_iff_not, List.size_toArray, List.size_toArray, sizeLine_eq]
      (clear zb z hb hne; lia)
    rw [e, Bool.and_false]
    exact Bool.false_ne_true
  · rw [List.size_toArray, sizeLine_eq]; (clear zb z hb hne; lia)
  · rw [List.size_toArray, List.size_toArray, sizeLine_eq]; (clear zb z hb hne; lia)
  · simp
  · simp at hne ⊢
    exact hne
end
end Mine
end -- WIaddR
section -- WIaddL
open PySem PySem.W PySem.Calls PySem.Spec PyProof.Rows
set_option Elab.async false
set_option maxRecDepth 100000
set_option maxHeartbeats 8000000
set_option linter.unusedVariables false
namespace Mine
theorem fillWIaddL : (PySem.Challenge.rw_wu0034_01 = PySem.Challenge.rw_wu0034_01) ∧ (Mine.hd.heap_39 = Mine.hd.heap_39) := by
  w_top off
  k_fill
  exact ⟨rfl, rfl⟩
section
variable {prog : Program} {w : World} {mean : ExcName → Option Value} {mg mb : Str → Option Value} {dp un : Nat} {gd : Option (List Code)} {cn : Str} {cs : Scope} {a : Addr} {ccd : Value} {cl : List (Str × Addr)} {outer : List Env} {A₀ : Around} {base h₀ : Heap} {L : Addr} {m : Str → Option Value} {news : List (Addr × Obj)} {s : Shared}
    {Q E : Value → Shared → Prop}
theorem iaddl_c {l l2 : Addr} {vs ws : List Value} {nn n2 : Nat}
    (B : Below A₀ base outer h₀) (F : Fr h₀ L s.heap m) (X : (Mine.hd.heap_39 w.params).In h₀) (N : News h₀ L s.heap ((l, listOf vs.toArray nn) :: (l2, listOf ws.toArray n2) :: news)) (T : TopV mean mg mb h₀) (hk : cs.kind = .function) (hd : dp + 1 < recursionLimit) (hu : un + 8 < cLine)
    (hlen : vs.length + ws.length ≤ 1000) (hnil : ws.length ≠ 0) (hne : l2 ≠ l) (hoff : ∀ p ∈ news, p.1 ≠ l)
    (hret : ∀ (nn' : Nat) (h' : Heap) (tk' : Nat), Fr h₀ L h' m → News h₀ L h' ((l, listOf (vs ++ ws).toArray nn') :: (l2, listOf ws.toArray n2) :: news) → Q (.ref l) { s with heap := h', toks := tk' }) :
    wpAny (model prog w) (ktrTop dp un gd cn cs L a ccd cl outer) (call (.ref 94) [.ref l, .ref l2]) Q E s := by
  k_with_none
  k_with "inplaceOp Add ref ref" => ((rename Fr _ _ _ _ => lF); (rename News _ _ _ _ => lN); refine iadd_lists lF lN (.tail _ (.head _)) hnil (Upd.head ?_) hlen ?_; (· intro p hp; rcases List.mem_cons.mp hp with rfl | hp; exact hne; exact hoff p hp); intro h8 F8 N8; (try dsimp only); (try k_fold))
  refine wpAny_call ?_
  k_dflt cell_enter
  k_steps
  exact hret _ _ _ (by k_asm) (by k_asm)
end
end Mine
end -- WIaddL
section -- WRefE
open PySem PySem.W PySem.Calls PySem.Spec PyProof.Rows
set_option maxRecDepth 100000
namespace Mine
section
variable {prog : Program} {w : World} {A₀ A : Around} {s : Shared} {base h₀ : Heap} {env : Env} {L : Addr} {m : Str → Option Value} {news : List (Addr × Obj)} {K : Frag} {p : Program} {loose : List Str} {mean : ExcName → Option Value} {mg mb : Str → Option Value}
    {R : Result → Shared → Prop} {name qual : Str} {params : Arguments} {body : List Stmt} {scope : Scope} {dV kV doc pm cdv ct oc : Value} {an od : Option Addr} {osl : Array (Option Value)} {f : Addr} {args : Args} {binds : List (Str × Value)}
/-- what a def that catches leaves behind: its caller's frame may have been looked at -/
theorem back_from {G : Heap} {v : Value} {s' : Shared} (F₀ : h₀.get? L = none) (ab : h₀.objs.size ≤ L) (FG : Fr h₀ L G m) (h : LeaveS0 [L] h₀ L m G R v s') : R (.ok (.ret v)) s' := by
  obtain ⟨g', L', m', news', T, F', N', k⟩ := h
  obtain ⟨oL, es, ep, hL, hd, hk, hf⟩ := FG.ns
  obtain ⟨sl, hs⟩ := T.up hL
  have keep : ∀ b o, h₀.get? b = some o → g'.get? b = some o := fun b o e => T.other b o (FG.keep b o e) (by
    intro q
    rw [List.mem_singleton.mp q, F₀] at e
    cases e)
  refine k ⟨⟨_, es, ep, F'.keep _ _ hs, hd, hk, hf⟩, fun b o e => F'.keep b o (keep b o e), ab⟩ fun q hq => ⟨(N' q hq).1, ?_, ?_⟩
  · intro e
    have := (N' q hq).2.2
    rw [e, hs] at this
    cases this
  · cases e : h₀.get? q.1 with
    | none => rfl
    | some o =>
      have := (N' q hq).2.2
      rw [keep _ _ e] at this
      cases this
theorem enterS (B : Below A₀ base [] h₀) (F : Fr h₀ L s.heap m) (X₀ : K.In h₀) (N : News h₀ L s.heap news) (T : Top p loose mean mg mb h₀) (hA : A.frames = some [env]) (hf : env.frame = some L) (hke : env.scope.kind = .function)
    (ho : K.lookup f = some ⟨oc, od, .func (fnOf name qual params body scope dV kV doc pm an cdv ct), osl⟩) (hcd : codeIn K cdv qual = true) (hroom : A.depth < recursionLimit)
    (hbind : BindsTo s (fnOf name qual params body scope dV kV doc pm an cdv ct) args binds) (hloc : ∀ y ∈ binds, scope.names.lookup y.1 = some .local)
    (h : ∀ g L' h₁, Fr h₀ L g m → Fr g L' h₁ (fun y => binds.reverse.lookup y) → News g L' h₁ news → Below A base [env] g → K.In g → Top p loose mean mg mb g → KtsDicts ([env].filterMap (·.frame)) g →
      wpAny (model prog w) (A.deeper (envOf qual scope L' f cdv)) (execs body (envOf qual scope L' f cdv))
        (fun fl s' => LeaveS0 ([env].filterMap (·.frame)) h₀ L m g R (match fl with | .ret v => v | _ => .none) s')
        (fun e s' => wpAny (model prog w) (A.deeper (envOf qual scope L' f cdv)) (leaving (envOf qual scope L' f cdv) e) (fun _ s'' => R (.error e) s'') (fun e' s'' => R (.error e') s'') s')
        { s with heap := h₁, toks := s.toks + binds.length })
    (hco : scope.isCoroutine = false) (hgen : scope.isGenerator = false) (hk : scope.kind = .function)
    (hcell : ∀ x ∈ scope.names, x.2 ≠ .cell) : codeAny (model prog w) A (.call (.ref f) args) R s := by
  have X := X₀.keeps F.keep
  have efs : [env].filterMap (·.frame) = [L] := by simp [hf]
  rw [efs] at h
  obtain ⟨FG, BG, st, _⟩ := groundX (R := R) B F N hA hf hke
  refine codeAny_call_def (fd := fnOf name qual params body scope dV kV doc pm an cdv ct) (body := body) (binds := binds) hroom (X _ _ ho) rfl (T.nolimit.keeps F.keep) (codeRec_of X hcd) rfl hbind hcell hloc (fun h₁ hns hk₁ => ?_) hco hgen hk
  refine wpAny_mono (h _ s.heap.objs.size h₁ FG ⟨hns, fun b o e => hk₁ b o (of_hideAll _ e), Nat.le_of_eq (hideAll_size _ _)⟩
    (fun p hp => ⟨hk₁ _ _ (N p hp).1, Nat.ne_of_lt (Heap.lt_size (N p hp).1), hideAll_none _ (List.mem_map_of_mem hp)⟩) BG (X₀.keeps st) (T.keeps st) (fun b hb => ?_))
    (fun fl s' hl => back_from (kts_self F) F.above FG hl) fun _ _ y => y
  rw [List.mem_singleton.mp hb]
  obtain ⟨oL, es, ep, hL, hd, _⟩ := FG.ns
  exact ⟨oL, es, ep, hL, hd⟩
end
end Mine
end -- WRefE
section -- WRefS
open PySem PySem.W PySem.Calls PySem.Spec PyProof.Rows
set_option maxRecDepth 100000
namespace Mine
open PySem.Builtin PySem.Builtin.Str PySem.Builtin.BaseException PySem.Builtin.Exceptions
/-- an exception of a class of the text's own, made with one text -/
def OwnExc (K : Frag) (C e : Addr) (m : Str) (tk : Tok) (h : Heap) : Prop :=
  K.In h ∧ ∃ o ws t ot nt, h.get? e = some o ∧ o.cls = .ref C ∧ o.data = .fields ws ∧ ws[0]? = some (.ref t) ∧ h.get? t = some ot ∧ ot.cls = .type "tuple" ∧ ot.data = .seq #[Value.str m tk] nt
section
variable {prog : Program} {w : World} {A : Around} {E : Value → Shared → Prop} {s : Shared} {K : Frag} {C e : Addr} {m : Str} {tk : Tok}
theorem own_args {M : Model} {Q : Value × List Value → Shared → Prop} (x : OwnExc K C e m tk s.heap) (hq : ∀ t, Q (.ref t, [.str m tk]) s) : wpAny M A (bexcArgs (.ref e)) Q E s := by
  obtain ⟨_, o, ws, t, ot, nt, ho, hc, hd, h0, ht, htc, htd⟩ := x
  unfold bexcArgs
  exact wpAny_bind (wpAny_field ho hd h0 (wpAny_bind (wpAny_seqItems ht htd (wpAny_pure (hq t)))))
theorem own_entry {Q : Fin → Shared → Prop} (x : OwnExc K C e m tk s.heap) (hq : Q (.done (.ret (.str m tk))) s) : wpAny (model prog w) A (Builtin.«BaseException.__str__» ⟨[.ref e], []⟩) Q E s := by
  unfold Builtin.«BaseException.__str__»
  repeat (first | (with_reducible refine own_args x ?_; intro t) | wp_step)
  exact hq
theorem plain_bexc_str : plainId "BaseException.__str__" = true := by decide +kernel
theorem own_call {Q : Value → Shared → Prop} (hm : mroIn K C (.type "BaseException") = some true) (x : OwnExc K C e m tk s.heap) (hq : Q (.str m tk) s) : wpAny (model prog w) A (call (.builtin "BaseException.__str__") [.ref e]) Q E s := by
  have x' := x
  obtain ⟨X, o, ws, t, ot, nt, ho, hc, hd, h0, ht, htc, htd⟩ := x'
  have LT : Looks (model prog w) s.heap (typeOf (.ref e)) (.ref C) := hc ▸ (Looks.ld ho).andThen .now
  refine wpAny_call (codeAny_call_builtin plain_bexc_str PySem.F.entry_bexc_str (check_slot (i := "BaseException.__str__") (owner := "BaseException") (n := "__str__") (by decide +kernel) (by decide +kernel) (LT.andThen (looks_mroIn X hm)) (PySem.F.args_bexc_str _) ?_))
  exact own_entry x hq
theorem bind_bexc_str (self : Value) : bindSpecial (.builtin "BaseException.__str__") self = pure (.builtin "BaseException.__str__", [self]) := by
  first | rfl | kernel_rfl
theorem own_special {Q : Option Value → Shared → Prop} (hs : findIn K (.ref C) "__str__" = some (some (.builtin "BaseException.__str__"))) (hm : mroIn K C (.type "BaseException") = some true) (x : OwnExc K C e m tk s.heap) (hq : Q (some (.str m tk)) s) :
    wpAny (model prog w) A (callSpecial? (.ref e) "__str__" []) Q E s := by
  have x' := x
  obtain ⟨X, o, ws, t, ot, nt, ho, hc, hd, h0, ht, htc, htd⟩ := x'
  have LT : Looks (model prog w) s.heap (typeOf (.ref e)) (.ref C) := hc ▸ (Looks.ld ho).andThen .now
  exact wpAny_bind (wpAny_bind (LT.here ((looks_findIn X hs).here (wpAny_holding (wpAny_bind ((Looks.of_pure (bind_bexc_str _)).here (wpAny_bind (wpAny_mono (own_call hm x hq) (fun _ _ z => wpAny_pure z) fun _ _ z => z))))))))
theorem own_strOf {Q : Value → Shared → Prop} (hs : findIn K (.ref C) "__str__" = some (some (.builtin "BaseException.__str__"))) (hm : mroIn K C (.type "BaseException") = some true) (hu : A.units < cLine) (x : OwnExc K C e m tk s.heap) (hq : Q (.str m tk) s) :
    wpAny (model prog w) A (PySem.Builtin.Str.strOf (.ref e)) Q E s := by
  unfold PySem.Builtin.Str.strOf
  repeat (first | with_reducible refine wpAny_cRoomFor hu ?_ | with_reducible refine own_special hs hm x ?_ | wp_step)
  exact hq
theorem str_own {Q : Value → Shared → Prop} (hs : findIn K (.ref C) "__str__" = some (some (.builtin "BaseException.__str__"))) (hm : mroIn K C (.type "BaseException") = some true) (hu : A.units + 2 < cLine) (x : OwnExc K C e m tk s.heap) (hq : Q (.str m tk) s) :
    wpAny (model prog w) A (call (.type "str") [.ref e]) Q E s :=
  callType_new F.called_str (by decide) (F.typeCall_str_1 _) (F.newCall_str_1 _) (fun obj => F.args_object_init_2 obj _) F.entry_str_new
    (meets_str_new (S := fun A' R s' => A'.units + 1 < cLine ∧ OwnExc K C e m tk s'.heap ∧ R (.ok (.ret (.str m tk))) s')
      fun _ _ A' _ _ hq => own_strOf (A := A'.in1) hs hm hq.1 hq.2.1 hq.2.2)
    ⟨(show A.units + 1 + 1 < cLine from hu), x, typeIs_str _ _ _, hq⟩
theorem ownExc_got {h₀ h : Heap} {L t : Addr} {news : List (Addr × Obj)} (X : K.In h) (N : News h₀ L h news) (G : Got news e t (.ref C) [.str m tk]) : OwnExc K C e m tk h := by
  obtain ⟨oe, ot, ws, nt, h1, h2, hc, hd, h0, htc, htd⟩ := G
  exact ⟨X, oe, ws, t, ot, nt, N.get h1, hc, hd, h0, N.get h2, htc, htd⟩
end
end Mine
end -- WRefS
section -- WRef
open PySem PySem.W PySem.Calls PySem.Spec PyProof.Rows
set_option Elab.async false
set_option maxRecDepth 100000
set_option maxHeartbeats 8000000
set_option linter.unusedVariables false
namespace Mine
theorem fillWRef : (PySem.Challenge.rw_wu0034_01 = PySem.Challenge.rw_wu0034_01) ∧ (Mine.hd.heap_39 = Mine.hd.heap_39) := by
  w_top off
  k_fill
  exact ⟨rfl, rfl⟩
section
variable {prog : Program} {w : World} {mean : ExcName → Option Value} {mg mb : Str → Option Value} {dp un : Nat} {gd : Option (List Code)} {cn : Str} {cs : Scope} {a : Addr} {ccd : Value} {cl : List (Str × Addr)} {A₀ : Around} {base h₀ : Heap} {L : Addr} {m : Str → Option Value} {news : List (Addr × Obj)} {s : Shared}
    {Q E : Value → Shared → Prop}
theorem refused_c {x : Str} {t0 : Tok} {p q r : Nat} {b : List Nat}
    (B : Below A₀ base [] h₀) (F : Fr h₀ L s.heap m) (X : (Mine.hd.heap_39 w.params).In h₀) (N : News h₀ L s.heap news) (T : TopV mean mg mb h₀) (hk : cs.kind = .function) (hd : dp + 2 < recursionLimit) (hu : un + 16 < cLine)
    (XB : (Mine.hd.heap_39 w.params).In base) (TB : TopV mean mg mb base)
    (hlen : x.length ≤ 100000) (hx : x.cps.toList = [p,q,r,32,34] ++ b) (hne : (⟨#[p,q,r]⟩ : Str) ≠ Str.ofString "257")
    (hret : ∀ (h' : Heap) (tk' : Nat), Fr h₀ L h' m → News h₀ L h' news → Q (.bool true) { s with heap := h', toks := tk' }) :
    wpAny (model prog w) (ktrTop dp un gd cn cs L a ccd cl []) (call (.ref 134) [.str x t0]) Q E s := by
  have hE : (Txt.slice x none (some 3) != Str.ofString "257") = true := by
    rw [slice3 hx]
    exact bne_iff_ne.mpr hne
  k_with_none
  k_with "call type:str" => ((rename Got _ _ _ _ _ => gG); (refine' str_own (K := Mine.hd.heap_39 w.params) (C := 37) ?hs ?hm ?hu (ownExc_got ?kX (by assumption) gG) ?_); (case hs => k_is); (case hm => k_is); (case kX => k_in); (case hu => ktr_units))
  k_with "call ref" => (refine wpAny_call ?_; k_dflt (refine' code_def ?k1 ?k2 ?k3 ?k4 ?k5 ?kA ?kF ?kK ?k6 ?k7 ?k8 ?k9 ?kB ?_ ?c2 ?c3 ?c4 ?c5; (case kA => exact rfl); (case kF => exact rfl); (case kK => exact rfl); (case k1 => k_asm); (case k2 => k_asm); (case k3 => k_asm); (case k4 => k_asm); (case k5 => k_asm); (case k6 => k_is); (case k7 => k_is); (case k8 => ktr_room); (case k9 => exact BindsTo.of_eq rfl); (case c5 => decide); (case kB => exact locs rfl); (case c2 => exact rfl); (case c3 => exact rfl); (case c4 => exact rfl); k_whole; intro g' L' h' FG' F' N' B' X' T'; (try dsimp only); (try k_lift B'); (try k_fold)))
  refine wpAny_call ?_
  refine' enterS ?k1 ?k2 ?k3 ?k4 ?k5 ?kA ?kF ?kK ?k6 ?k7 ?k8 ?k9 ?kB ?_ ?c2 ?c3 ?c4 ?c5
  case kA => exact rfl
  case kF => exact rfl
  case kK => assumption
  case k1 => k_asm
  case k2 => k_asm
  case k3 => k_asm
  case k4 => k_asm
  case k5 => k_asm
  case k6 => k_is
  case k7 => k_is
  case k8 => ktr_room
  case k9 => exact BindsTo.of_eq rfl
  case c5 => decide
  case kB => exact locs rfl
  case c2 => exact rfl
  case c3 => exact rfl
  case c4 => exact rfl
  k_whole
  intro g' L' h' FG' F' N' B' X' T' D'
  (try dsimp only)
  (try k_lift B')
  (try k_fold)
  k_steps
  rw [beq_self_eq_true]
  exact hret _ _ (by k_asm) (by k_asm)
end
end Mine
end -- WRef
section -- WPure3
open PySem PySem.W PySem.Calls PySem.Spec PyProof.Rows
set_option maxRecDepth 100000
namespace Mine
/-- q marks, then the letter -/
def MQ (q c : Nat) (t : List Nat) : List Nat := List.replicate q 34 ++ c :: t
/-- what is told of q marks and a letter -/
def HQ (q c : Nat) : List Nat := List.replicate (q / 2) 34 ++ if q % 2 = 0 then [c] else []
theorem P257_mq {c : Nat} {t : List Nat} (hc : c ≠ 34) (ht : P257 t = []) : ∀ q : Nat, P257 (MQ q c t) = HQ q c
  | 0 => by
    show P257 (c :: t) = [c]
    rw [P257_plain hc, ht]
  | 1 => by
    show P257 (34 :: c :: t) = []
    exact P257_brk hc
  | q + 2 => by
    have h := P257_mq hc ht q
    have e : MQ (q + 2) c t = 34 :: 34 :: MQ q c t := rfl
    have e2 : (q + 2) / 2 = q / 2 + 1 := by (clear hc; simp)
    have e3 : (q + 2) % 2 = q % 2 := by (clear e2 hc; simp)
    rw [e, P257_two, h]
    unfold HQ
    rw [e2, e3, List.replicate_succ, List.cons_append]
theorem HQ_len {q c : Nat} : (HQ q c).length ≤ q + 1 := by
  unfold HQ
  rw [List.length_append, List.length_replicate]
  split <;> simp <;> (first | (lia) | omega)
theorem HQ_mem {q c : Nat} (hc : c ≠ 34) : decide (c ∈ HQ q c) = decide (q % 2 = 0) := by
  unfold HQ
  by_cases h : q % 2 = 0
  · rw [if_pos h]; simp [h]
  · rw [if_neg h]; simp [h, hc]
theorem HQ_even {q c : Nat} (h : q % 2 = 0) : HQ q c = MQ (q / 2) c [] := by
  unfold HQ MQ; rw [if_pos h]
theorem HQ_odd {q c : Nat} (h : ¬ q % 2 = 0) : HQ q c = List.replicate (q / 2) 34 := by
  unfold HQ; rw [if_neg h, List.append_nil]
/-- the level of crease n -/
def clv (n : Nat) : Nat := [0,0,1,0,2,0,1,0,3,0,1,0,2,0,1,0].getD n 0
/-- is crease n plain -/
def cpl (n : Nat) : Bool := [true,true,true,false,true,true,false,false,true,true,true,false,false,true,false,false].getD n true
theorem crease_all : ∀ q < 16, ∀ k < 4, q % 2 = 1 → q * 2 ^ k < 16 → clv (q * 2 ^ k) = k ∧ cpl (q * 2 ^ k) = decide ((q / 2) % 2 = 0) := by decide +kernel
theorem crease_is {n q k : Nat} (h : n = q * 2 ^ k) (hn : n < 16) (hq : q % 2 = 1) : clv n = k ∧ cpl n = decide ((q / 2) % 2 = 0) := by
  subst h
  have h1 : 1 ≤ q := by (clear hn; lia)
  have h2 : 2 ^ k ≤ q * 2 ^ k := Nat.le_mul_of_pos_left _ h1
  have h3 : k < 4 := by
    apply Nat.lt_of_not_le
    intro h
    have := Nat.pow_le_pow_right (n := 2) (by decide) h
    (clear h h1 hq; lia)
  have h4 : q ≤ q * 2 ^ k := Nat.le_mul_of_pos_right _ (Nat.pow_pos (by decide))
  exact crease_all q (by (clear h3 h2 h1 hq; (exact Nat.lt_of_le_of_lt (by assumption) (by assumption)))) k h3 hq hn
end Mine
end -- WPure3
section -- WPure4
open PySem PySem.W PySem.Calls PySem.Spec PyProof.Rows
set_option maxRecDepth 100000
namespace Mine
theorem strlen_of {x : Str} {l : List Nat} (h : x.cps.toList = l) : x.length = l.length := by
  rw [← h]
  show x.cps.size = _
  simp
theorem marks_list {n : Int} : (Txt.mul (Str.ofString "\"") n).cps.toList = List.replicate n.toNat 34 := by
  rw [ofs_quote]; exact mul_one_list 34 n
theorem told_list {n : Int} {c : Nat} : (Txt.mul (Str.ofString "\"") n ++ (⟨#[c]⟩ : Str)).cps.toList = MQ n.toNat c [] := by
  rw [toList_item, marks_list]; rfl
/-- what is left of n behind k halvings -/
def qOf (n : Int) (k : Nat) : Nat := n.toNat / 2 ^ k
theorem qOf_zero {n : Int} : qOf n 0 = n.toNat := by unfold qOf; simp
theorem qOf_succ {n : Int} {k : Nat} : qOf n (k + 1) = qOf n k / 2 := by
  unfold qOf; rw [Nat.pow_succ, Nat.div_div_eq_div_mul]
theorem qOf_le {n : Int} {k : Nat} : qOf n k ≤ n.toNat := Nat.div_le_self _ _
/-- what holds ahead of turn k of the inner loop -/
def TI (n : Int) (k : Nat) (told : Str) (c : Nat) : Prop := n.toNat % 2 ^ k = 0 ∧ told.length ≤ 20 ∧ told.cps.toList = MQ (qOf n k) c []
theorem ti_start {n : Int} {c : Nat} (h1 : 1 ≤ n) (h2 : n < 16) : TI n 0 (Txt.mul (Str.ofString "\"") n ++ (⟨#[c]⟩ : Str)) c := by
  refine ⟨by simp [Nat.mod_one], ?_, by rw [told_list, qOf_zero]⟩
  rw [strlen_of told_list]
  simp [MQ]
  (clear h1; lia)
theorem ti_turn {n : Int} {k c : Nat} {told y : Str} (h : TI n k told c) (h2 : n < 16) (hy : y.cps.toList = HQ (qOf n k) c) (he : qOf n k % 2 = 0) : TI n (k + 1) y c := by
  obtain ⟨a, _, _⟩ := h
  refine ⟨?_, ?_, by rw [hy, HQ_even he, qOf_succ]⟩
  · have e1 : n.toNat = qOf n k * 2 ^ k := by
      have := Nat.div_add_mod n.toNat (2 ^ k)
      unfold qOf
      rw [Nat.mul_comm]
      (clear he h2; grind)
    have e2 : qOf n k = qOf n k / 2 * 2 := by (clear e1 a h2; lia)
    rw [e1, e2, Nat.pow_succ, Nat.mul_assoc, Nat.mul_comm 2, Nat.mul_mod_left]
  · rw [strlen_of hy]
    have := @HQ_len (qOf n k) c
    have := @qOf_le n k
    (clear a he; grind)
theorem ti_done {n : Int} {c : Nat} {told : Str} (h1 : 1 ≤ n) (h : TI n n.toNat told c) : False := by
  obtain ⟨a, _, _⟩ := h
  rw [Nat.mod_eq_of_lt Nat.lt_two_pow_self] at a
  lia
theorem crease_of {n : Int} {k c : Nat} {told : Str} (h : TI n k told c) (h1 : 1 ≤ n) (h2 : n < 16) (ho : ¬ qOf n k % 2 = 0) : clv n.toNat = k ∧ cpl n.toNat = decide (qOf n k / 2 % 2 = 0) := by
  obtain ⟨a, _, _⟩ := h
  have e1 : n.toNat = qOf n k * 2 ^ k := by
    have := Nat.div_add_mod n.toNat (2 ^ k)
    unfold qOf
    rw [Nat.mul_comm]
    (clear ho h2 h1; grind)
  exact crease_is e1 (by (clear e1 a ho h1; lia)) (by (clear e1 a h2 h1; lia))
def creaseD (n : Int) : Dat := Dat.tuple [Dat.int (clv n.toNat : Int), Dat.bool (cpl n.toNat)]
theorem creaseD_of {n : Int} {k c : Nat} {told : Str} (h : TI n k told c) (h1 : 1 ≤ n) (h2 : n < 16) (ho : ¬ qOf n k % 2 = 0) : creaseD n = Dat.tuple [Dat.int (k : Int), Dat.bool (decide (qOf n k / 2 % 2 = 0))] := by
  obtain ⟨a, b⟩ := crease_of h h1 h2 ho
  unfold creaseD
  rw [a, b]
end Mine
namespace Mine
theorem ti_done' {n : Int} {c : Nat} {told : Str} (h1 : 1 ≤ n) (h : TI n (rangeKs 0 (n - 0).toNat).length told c) : False := by
  rw [rangeKs_length, Int.sub_zero] at h
  exact ti_done h1 h
theorem ti_text {n : Int} {k c : Nat} {told tail : Str} (h : TI n k told c) : ((Str.ofString "257 \"" ++ told) ++ tail).cps.toList = [50,53,55,32,34] ++ MQ (qOf n k) c tail.cps.toList := by
  rw [Str.cps_append, Str.cps_append, show Str.ofString "257 \"" = ⟨#[50,53,55,32,34]⟩ by decide +kernel]
  simp [h.2.2, MQ]
theorem odd_text {q c : Nat} {y tail : Str} (hy : y.cps.toList = HQ q c) (ho : ¬ q % 2 = 0) : (((Str.ofString "257 \"" ++ y) ++ (⟨#[c]⟩ : Str)) ++ tail).cps.toList = [50,53,55,32,34] ++ MQ (q / 2) c tail.cps.toList := by
  rw [HQ_odd ho] at hy
  rw [Str.cps_append, Str.cps_append, Str.cps_append, show Str.ofString "257 \"" = ⟨#[50,53,55,32,34]⟩ by decide +kernel]
  simp [hy, MQ]
theorem ti_q {n : Int} {k c : Nat} {told : Str} (_h : TI n k told c) (h2 : n < 16) : qOf n k ≤ 16 := by
  have := @qOf_le n k
  lia
end Mine
namespace Mine
theorem ti_done2 {n : Int} {c : Nat} {told : Str} (h : TI n (rangeKs 0 (n - 0).toNat).length told c) (h1 : 1 ≤ n) : False := ti_done' h1 h
theorem ti_next {n lv k : Int} {c : Nat} {pre : List Int} {told y : Str} (hl : lv = (pre.length : Int)) (h : TI n pre.length told c) (h2 : n < 16) (hy : y.cps.toList = HQ (qOf n pre.length) c) (he : qOf n pre.length % 2 = 0) (hb : y.length ≤ Nat.succ 16) :
    lv + 1 = ((pre ++ [k]).length : Int) ∧ y.length ≤ 20 ∧ TI n (pre ++ [k]).length y c := by
  have e : (pre ++ [k]).length = pre.length + 1 := by simp
  rw [e]
  refine ⟨by (clear e hb he h2; lia), by (clear e he h2 hl; lia), ti_turn h h2 hy he⟩
end Mine
namespace Mine
theorem allLt_mem {d : Addr} {l : List (Addr × Obj)} (h : AllLt d l) : ∀ p ∈ l, p.1 < d := by
  induction l with
  | nil => exact fun _ hp => absurd hp List.not_mem_nil
  | cons q r ih =>
    intro p hp
    rcases List.mem_cons.mp hp with rfl | hp
    · exact h.1
    · exact ih h.2 p hp
theorem new_apart {d l : Addr} {o : Obj} {news all : List (Addr × Obj)} (h : l < d ∧ AllLt d all) (hs : ∀ p ∈ news, p ∈ all) : ∀ q ∈ [(d, o)], ∀ b ∈ l :: List.map Prod.fst news, b ≠ q.1 := by
  intro q hq b hb
  rw [List.mem_singleton.mp hq]
  rcases List.mem_cons.mp hb with rfl | hb
  · exact Nat.ne_of_lt h.1
  · obtain ⟨p, hp, rfl⟩ := List.mem_map.mp hb
    exact Nat.ne_of_lt (allLt_mem h.2 _ (hs _ hp))
theorem new_apart2 {d l : Addr} {o : Obj} {own all : List (Addr × Obj)} (h : l < d ∧ AllLt d all) (hs : ∀ p ∈ own, p ∈ all) : ∀ q ∈ [(d, o)], ∀ p ∈ own, p.1 ≠ q.1 := by
  intro q hq p hp
  rw [List.mem_singleton.mp hq]
  exact Nat.ne_of_lt (allLt_mem h.2 _ (hs _ hp))
end Mine
namespace Mine
theorem cre_next {n lv : Int} {c : Nat} {pre pre2 : List Int} {told : Str} (h : TI n pre2.length told c) (hl : lv = (pre2.length : Int)) (ho : ¬ qOf n pre2.length % 2 = 0) (h1 : 1 ≤ n) (h2 : n < 16) :
    List.map creaseD pre ++ [Dat.tuple [Dat.int lv, Dat.bool (decide (qOf n pre2.length / 2 % 2 = 0))]] = List.map creaseD (pre ++ [n]) := by
  rw [List.map_append, hl, ← creaseD_of h h1 h2 ho]
  rfl
end Mine
end -- WPure4
section -- WParq
open PySem PySem.W PySem.Calls PySem.Spec PyProof.Rows
set_option Elab.async false
set_option maxRecDepth 100000
set_option maxHeartbeats 8000000
set_option linter.unusedVariables false
namespace Mine
theorem ofs_head : Str.ofString "257 \"" = ⟨#[50,53,55,32,34]⟩ := by decide +kernel
/-- a told text with its closing part, as the law makes them -/
theorem text_one {told tail : Str} {q c : Nat} {t : List Nat} (h : told.cps.toList = MQ q c []) (ht : tail.cps.toList = t) :
    ((Str.ofString "257 \"" ++ told) ++ tail).cps.toList = [50,53,55,32,34] ++ MQ q c t := by
  rw [Str.cps_append, Str.cps_append, ofs_head]
  simp [h, ht, MQ]
theorem text_two {told tail : Str} {q c : Nat} {t : List Nat} (h : told.cps.toList = List.replicate q 34) (ht : tail.cps.toList = t) :
    (((Str.ofString "257 \"" ++ told) ++ (⟨#[c]⟩ : Str)) ++ tail).cps.toList = [50,53,55,32,34] ++ MQ q c t := by
  rw [Str.cps_append, Str.cps_append, Str.cps_append, ofs_head]
  simp [h, ht, MQ]
theorem len_of {x : Str} {l : List Nat} (h : x.cps.toList = l) : x.length = l.length := by
  have : x.cps.toList.length = l.length := by rw [h]
  rw [← this]
  show x.cps.size = _
  simp
section
variable {prog : Program} {w : World} {mean : ExcName → Option Value} {mg mb : Str → Option Value} {dp un : Nat} {gd : Option (List Code)} {cn : Str} {cs : Scope} {a : Addr} {ccd : Value} {cl : List (Str × Addr)} {outer : List Env} {A₀ : Around} {base h₀ : Heap} {L : Addr} {m : Str → Option Value} {news : List (Addr × Obj)} {s : Shared}
    {Q E : Value → Shared → Prop}
theorem parse_q {x : Str} {t0 : Tok} {q c : Nat} {t : List Nat}
    (B : Below A₀ base outer h₀) (F : Fr h₀ L s.heap m) (X : (Mine.hd.heap_39 w.params).In h₀) (N : News h₀ L s.heap news) (T : TopV mean mg mb h₀) (hk : cs.kind = .function) (hd : dp + 1 < recursionLimit) (hu : un + 8 < cLine)
    (hx : x.cps.toList = [50,53,55,32,34] ++ MQ q c t) (hc : c ≠ 34) (ht : P257 t = []) (hq : q ≤ 1000) (htl : t.length ≤ 1000)
    (hret : ∀ (y : Str) (tk : Tok) (h' : Heap) (tk' : Nat), y.cps.toList = HQ q c → y.length ≤ q + 1 → Fr h₀ L h' m → News h₀ L h' news → Q (.str y tk) { s with heap := h', toks := tk' }) :
    wpAny (model prog w) (ktrTop dp un gd cn cs L a ccd cl outer) (call (.ref 46) [.str x t0]) Q E s := by
  refine parse_c B F X N T hk hd hu ?_ hx fun y tk h' tk' hy F' N' => ?_
  · rw [len_of hx]
    simp [MQ]
    (clear hc hu hd; lia)
  · rw [P257_mq hc ht] at hy
    exact hret y tk h' tk' hy (by rw [len_of hy]; exact HQ_len) F' N'
end
end Mine
end -- WParq
section -- WCre
open PySem PySem.W PySem.Calls PySem.Spec PyProof.Rows
set_option Elab.async false
set_option maxRecDepth 100000
set_option maxHeartbeats 8000000
set_option linter.unusedVariables false
namespace Mine
def PowIs (n P : Int) : Prop := (2 : Int) ^ n.toNat = P
theorem pow_to {prog : Program} {w : World} {A : Around} {s : Shared} {E Q : Value → Shared → Prop} {n P : Int} {t u : Tok} (h0 : 0 ≤ n) (h1 : n ≤ 1000000) (hP : PowIs n P) (h : Q (.int P s.toks) { s with toks := s.toks + 1 }) : wpAny (model prog w) A (binaryOp .Pow (.int 2 t) (.int n u)) Q E s := by
  unfold PowIs at hP
  subst hP
  exact pow_int_small h0 h1 (by decide) h
theorem fillWCre : (PySem.Challenge.rw_wu0034_01 = PySem.Challenge.rw_wu0034_01) ∧ (Mine.hd.heap_39 = Mine.hd.heap_39) := by
  w_top off
  k_fill
  exact ⟨rfl, rfl⟩
section
variable {prog : Program} {w : World} {mean : ExcName → Option Value} {mg mb : Str → Option Value} {dp un : Nat} {gd : Option (List Code)} {cn : Str} {cs : Scope} {a : Addr} {ccd : Value} {cl : List (Str × Addr)} {outer : List Env} {A₀ : Around} {base h₀ : Heap} {L : Addr} {m : Str → Option Value} {news : List (Addr × Obj)} {s : Shared}
    {Q E : Value → Shared → Prop}
theorem con_q {x : Str} {q c : Nat} {t0 t1 : Tok}
    (B : Below A₀ base outer h₀) (F : Fr h₀ L s.heap m) (X : (Mine.hd.heap_39 w.params).In h₀) (N : News h₀ L s.heap news) (T : TopV mean mg mb h₀) (hk : cs.kind = .function) (hd : dp + 1 < recursionLimit) (hu : un + 8 < cLine)
    (hx : x.cps.toList = HQ q c) (hc : c ≠ 34) (hq : q ≤ 1000)
    (hret : ∀ (h' : Heap) (tk' : Nat), Fr h₀ L h' m → News h₀ L h' news → Q (.bool (decide (q % 2 = 0))) { s with heap := h', toks := tk' }) :
    wpAny (model prog w) (ktrTop dp un gd cn cs L a ccd cl outer) (call (.ref 87) [.str x t0,   .str ⟨#[c]⟩ t1]) Q E s := by
  refine con_s B F X N T hk hd hu ?_ fun h' tk' F' N' => ?_
  · rw [len_of hx]
    have := @HQ_len q c
    (clear hc hu hd; lia)
  · rw [hx, HQ_mem hc]
    exact hret h' tk' F' N'

local macro_rules | `(tactic| walk_at "binaryOp Pow int int") => `(tactic| k_extra "PowOwn")
theorem creases_c {folds P : Int} {c : Nat} {tail : Str} {t0 t1 t2 : Tok}
    (B : Below A₀ base outer h₀) (F : Fr h₀ L s.heap m) (X : (Mine.hd.heap_39 w.params).In h₀) (N : News h₀ L s.heap news) (T : TopV mean mg mb h₀) (hk : cs.kind = .function) (hd : dp + 2 < recursionLimit) (hu : un + 16 < cLine)
    (hf1 : 2 ≤ folds) (hf2 : folds ≤ 4) (hP : PowIs folds P) (hp1 : 4 ≤ P) (hp2 : P ≤ 16) (hc : c ≠ 34) (htl : P257 tail.cps.toList = []) (htn : tail.cps.toList.length ≤ 1000) (htn2 : tail.length ≤ 1000)
    (hret : ∀ (l : Addr) (vs : List Value) (nn : Nat) (tls : List (Addr × Obj)) (h' : Heap) (tk' : Nat), DatAll (news ++ tls) vs ((rangeKs 1 (P - 1).toNat).map creaseD) → Fr h₀ L h' m → News h₀ L h' ((l, listOf vs.toArray nn) :: (news ++ tls)) → Q (.ref l) { s with heap := h', toks := tk' }) :
    wpAny (model prog w) (ktrTop dp un gd cn cs L a ccd cl outer) (call (.ref 115) [.int folds t0, .str ⟨#[c]⟩ t1, .str tail t2]) Q E s := by
  k_with_none
  k_with "PowOwn" => (refine pow_to (by omega) (by omega) (by assumption) ?_)
  k_with "pyIter ref" => (refine stop_ ?_)
  k_with "state" => first
    | exact ⟨rfl, (ti_start (by (clear kLen kLt htn2 htn hc hp2 hp1 hf2 hf1 hu hd; lia)) (by (clear kLen htn2 htn hc hp1 hf2 hf1 hu hd; lia))).2.1, ti_start (by (clear kLen kLt htn2 htn hc hp2 hp1 hf2 hf1 hu hd; omega)) (by (clear kLen htn2 htn hc hp1 hf2 hf1 hu hd; omega))⟩
    | exact ti_next (by assumption) (by assumption) (by (clear hl8 kLt kEq kLen htn2 htn hc hp1 hf2 hf1 hu hd; (first | (lia) | omega))) (by assumption) (by assumption) (by assumption)
    | exact rfl
    | exact cre_next (by assumption) (by assumption) (by assumption) (by (clear hl8 kLt kEq kLen htn2 htn hc hp2 hp1 hf2 hf1 hu hd; lia)) (by (clear hl8 kLt kEq kLen htn2 htn hc hp1 hf2 hf1 hu hd; lia))
  k_with "call ref" => first
    | (exfalso; exact ti_done2 (by assumption) (by (clear kLen kLt htn2 htn hc hp2 hp1 hf2 hf1 hu hd; lia)))
    | ((k_dflt (refine' parse_q ?k1 ?k2 ?k3 ?k4 ?k5 ?kK ?kd ?ku (odd_text ?kx ?ko) hc htl ?kq htn ?_)); (case kx => assumption); (case ko => assumption); (case k1 => k_asm); (case k2 => k_asm); (case k3 => k_asm); (case k4 => k_asm); (case k5 => k_asm); (case kK => exact rfl); (case kd => ktr_room); (case ku => ktr_units); (case kq => exact Nat.le_trans (Nat.div_le_self _ _) (Nat.le_trans (ti_q (by assumption) (by (clear hl8 kLt kEq kLen htn2 htn hc hp1 hf2 hf1 hu hd; lia))) (by decide))); (intro y9 t9 h9 tk9 hy9 hl9 F9 N9); clear hl9; (try dsimp only); (try k_fold))
    | ((k_dflt (refine' con_q ?k1 ?k2 ?k3 ?k4 ?k5 ?kK ?kd ?ku ?kx hc ?kq ?_)); (case kx => assumption); (case k1 => k_asm); (case k2 => k_asm); (case k3 => k_asm); (case k4 => k_asm); (case k5 => k_asm); (case kK => exact rfl); (case kd => ktr_room); (case ku => ktr_units); (case kq => first | exact Nat.le_trans (ti_q (by assumption) (by (clear hl8 kLt kEq kLen htn2 htn hc hp1 hf2 hf1 hu hd; omega))) (by decide) | exact Nat.le_trans (Nat.div_le_self _ _) (Nat.le_trans (ti_q (by assumption) (by (clear hl8 kLt kEq kLen htn2 htn hc hp1 hf2 hf1 hu hd; omega))) (by decide))); (intro h9 tk9 F9 N9); (try dsimp only); (try k_fold))
    | ((k_dflt (refine' parse_q ?k1 ?k2 ?k3 ?k4 ?k5 ?kK ?kd ?ku (ti_text ?kx) hc htl ?kq htn ?_)); (case kx => assumption); (case k1 => k_asm); (case k2 => k_asm); (case k3 => k_asm); (case k4 => k_asm); (case k5 => k_asm); (case kK => exact rfl); (case kd => ktr_room); (case ku => ktr_units); (case kq => exact Nat.le_trans (ti_q (by assumption) (by (clear kLt kEq kLen htn2 htn hc hp1 hf2 hf1 hu hd; lia))) (by decide)); (intro y9 t9 h9 tk9 hy9 hl9 F9 N9); (have hl8 := Nat.le_trans hl9 (Nat.succ_le_succ (ti_q (by assumption) (by (clear hl9 kLt kEq kLen htn2 htn hc hp1 hf2 hf1 hu hd; omega))))); clear hl9; (try dsimp only); (try k_fold))
  refine wpAny_call ?_
  k_dflt cell_enter
  k_steps
  unfold Stop
  k_dat (fun pre out => out = pre.map creaseD) "creases*"
  · k_steps
    unfold Stop
    k_state_given ["n"] (fun n pre told level => level = (pre.length : Int) ∧ told.length ≤ 20 ∧ TI n pre.length told c) "told" "level"
    · k_steps
      rename News _ _ _ _ => nX
      simp only [List.append_assoc] at nX
      kd_ends 6
      case kdb => exact new_apart (by assumption) (fun p hp => List.mem_append.mpr (.inl (List.mem_append.mpr (.inl hp))))
      case kdw => exact new_apart2 (by assumption) (fun p hp => List.mem_append.mpr (.inl (List.mem_append.mpr (.inr (List.mem_append.mpr (.inr hp))))))
      case kdk => kst_all
      case kdr => kst_same
      case kdf => kd_facts
      case kdp => kd_p
    · k_steps
  · k_steps
    exact hret _ _ _ _ _ _ (by assumption) (by k_asm) (by k_asm)
end
end Mine
end -- WCre
section -- WPure5
open PySem PySem.W PySem.Calls PySem.Spec PyProof.Rows
set_option maxRecDepth 100000
namespace Mine
/-- the way that is gone behind n turns -/
def wdir (t : Nat → Bool) (d : Int × Int) : Nat → Int × Int
  | 0 => d
  | n + 1 => if t n then (-(wdir t d n).2, (wdir t d n).1) else ((wdir t d n).2, -(wdir t d n).1)
def wpos (t : Nat → Bool) (d p : Int × Int) : Nat → Int × Int
  | 0 => p
  | n + 1 => ((wpos t d p n).1 + (wdir t d n).1, (wpos t d p n).2 + (wdir t d n).2)
def wcode (t : Nat → Bool) (d p : Int × Int) (n : Nat) : Int := 512 * ((wpos t d p n).1 + (wpos t d p (n + 1)).1) + ((wpos t d p n).2 + (wpos t d p (n + 1)).2)
def wcodes (t : Nat → Bool) (d p : Int × Int) (n : Nat) : List Int := (List.range n).map (wcode t d p)
theorem wcodes_succ {t : Nat → Bool} {d p : Int × Int} {n : Nat} : wcodes t d p (n + 1) = wcodes t d p n ++ [wcode t d p n] := by
  unfold wcodes; rw [List.range_succ, List.map_append]; rfl
theorem wcodes_length {t : Nat → Bool} {d p : Int × Int} {n : Nat} : (wcodes t d p n).length = n := by unfold wcodes; simp
/-- to which side crease n + 1 turns -/
def bturn (bs : List Bool) (n : Nat) : Bool := bs.getD (clv (n + 1)) false == cpl (n + 1)
/-- what holds ahead of step k of a walk over K creases -/
structure WI (bs : List Bool) (d p : Int × Int) (K k : Nat) (codes : List Int) (x y dx dy : Int) : Prop where
  codes : codes = wcodes (bturn bs) d p k
  x : x = (wpos (bturn bs) d p k).1
  y : y = (wpos (bturn bs) d p k).2
  way : k ≤ K → dx = (wdir (bturn bs) d k).1 ∧ dy = (wdir (bturn bs) d k).2
section
variable {bs : List Bool} {K k : Nat} {codes : List Int} {x y dx dy : Int} {d p : Int × Int}
theorem wi_start : WI bs (dx, dy) (x, y) K 0 [] x y dx dy := ⟨rfl, rfl, rfl, fun _ => ⟨rfl, rfl⟩⟩
theorem wi_code (h : WI bs d p K k codes x y dx dy) (hk : k ≤ K) : codes ++ [512 * (x + (x + dx)) + (y + (y + dy))] = wcodes (bturn bs) d p (k + 1) ∧ x + dx = (wpos (bturn bs) d p (k + 1)).1 ∧ y + dy = (wpos (bturn bs) d p (k + 1)).2 := by
  obtain ⟨h1, h2, h3, h4⟩ := h
  obtain ⟨h5, h6⟩ := h4 hk
  subst h1 h2 h3 h5 h6
  exact ⟨wcodes_succ.symm, rfl, rfl⟩
theorem wi_last (h : WI bs d p K k codes x y dx dy) (hk : k = K) : WI bs d p K (k + 1) (codes ++ [512 * (x + (x + dx)) + (y + (y + dy))]) (x + dx) (y + dy) dx dy := by
  obtain ⟨e1, e2, e3⟩ := wi_code h (Nat.le_of_eq hk)
  exact ⟨e1, e2, e3, fun h => by (clear e3 e2; lia)⟩
theorem wi_left (h : WI bs d p K k codes x y dx dy) (hk : k < K) (ht : bturn bs k = true) : WI bs d p K (k + 1) (codes ++ [512 * (x + (x + dx)) + (y + (y + dy))]) (x + dx) (y + dy) (-dy) dx := by
  obtain ⟨e1, e2, e3⟩ := wi_code h (Nat.le_of_lt hk)
  obtain ⟨h5, h6⟩ := h.way (Nat.le_of_lt hk)
  refine ⟨e1, e2, e3, fun _ => ?_⟩
  show _ = (if bturn bs k then _ else _ : Int × Int).1 ∧ _ = (if bturn bs k then _ else _ : Int × Int).2
  rw [if_pos ht, h5, h6]
  exact ⟨rfl, rfl⟩
theorem wi_right (h : WI bs d p K k codes x y dx dy) (hk : k < K) (ht : bturn bs k = false) : WI bs d p K (k + 1) (codes ++ [512 * (x + (x + dx)) + (y + (y + dy))]) (x + dx) (y + dy) dy (-dx) := by
  obtain ⟨e1, e2, e3⟩ := wi_code h (Nat.le_of_lt hk)
  obtain ⟨h5, h6⟩ := h.way (Nat.le_of_lt hk)
  refine ⟨e1, e2, e3, fun _ => ?_⟩
  show _ = (if bturn bs k then _ else _ : Int × Int).1 ∧ _ = (if bturn bs k then _ else _ : Int × Int).2
  rw [if_neg (by rw [ht]; exact Bool.false_ne_true), h5, h6]
  exact ⟨rfl, rfl⟩
end
theorem clv_lt : ∀ n < 16, clv n < 4 := by decide
theorem clv_lt2 : ∀ f < 5, ∀ n < 2 ^ f, 1 ≤ f → clv n < f := by decide
section
variable {prog : Program} {w : World} {A : Around} {E : Value → Shared → Prop} {s : Shared} {h₀ : Heap} {L l : Addr} {news L9 : List (Addr × Obj)} {vs : List Value} {nn K : Nat}
def HLv (K : Nat) (bs : List Bool) : Prop := ∀ n < K, clv (n + 1) < bs.length
/-- a crease out of the list of creases -/
theorem crease_item {bs : List Bool} {value slice : PySem.Expr} {k : Int} {u : Tok} {Q : Value → Shared → Prop} (N : News h₀ L s.heap L9) (hsub : ∀ p ∈ news, p ∈ L9) (hm : (l, listOf vs.toArray nn) ∈ news) (hd : DatAll news vs ((rangeKs 1 K).map creaseD))
    (hlv : HLv K bs) (h0 : 0 ≤ k) (h1 : k < (K : Int)) (hK : K ≤ 1000)
    (h : ∀ a tk n, clv (k.toNat + 1) < bs.length → News h₀ L s.heap ((a, ({ cls := .type "tuple", data := .seq #[.int (clv (k.toNat + 1) : Int) tk, .bool (cpl (k.toNat + 1))] n } : Obj)) :: L9) → Q (.ref a) s)
    (hs : subscripted slice false (.ref l) (.int k u) = operate [.ref l, .int k u] (getItem (.ref l) (.int k u)) := by with_unfolding_all rfl) :
    wpAny (model prog w) A (subscriptTail value slice (.ref l) (.int k u)) Q E s := by
  have N' : News h₀ L s.heap news := fun p hp => N p (hsub p hp)
  have hlen : ((rangeKs 1 K).map creaseD).length = K := by rw [List.length_map, rangeKs_length]
  refine kd_item N' hm hd h0 (by rw [hlen]; exact h1) (by (clear hlen h0 hm; lia)) (fun v d hg _ hD => ?_) hs
  have hk : k.toNat < K := by (clear hlen hK hm; omega)
  have e : ((rangeKs 1 K).map creaseD)[k.toNat]? = some (creaseD (1 + (k.toNat : Int))) := by
    rw [List.getElem?_map]
    have : (rangeKs 1 K)[k.toNat]? = some (1 + (k.toNat : Int)) := by simp [rangeKs, hk]
    rw [this]; rfl
  rw [e] at hg
  obtain rfl := Option.some.inj hg
  have e2 : (1 + (k.toNat : Int)).toNat = k.toNat + 1 := by (clear hk hlen hK h1 h0 hm; (exact Nat.add_comm _ _))
  unfold creaseD at hD
  rw [e2] at hD
  cases hD with
  | tuple hm2 hA =>
    cases hA with
    | cons h1 r =>
      cases h1
      cases r with
      | cons h2 r =>
        cases h2
        cases r
        refine h _ _ _ (hlv _ hk) (List.forall_mem_cons.mpr ⟨N' _ hm2, N⟩)
/-- which way a level is bent -/
theorem bent_item {value slice : PySem.Expr} {j : Nat} {u : Tok} {bs : List Bool} {Q : Value → Shared → Prop} (N : News h₀ L s.heap L9) (hsub : ∀ p ∈ news, p ∈ L9) (hm : (l, listOf (bs.map Value.bool).toArray nn) ∈ news)
    (h1 : j < bs.length) (hK : bs.length ≤ 1000) (h : Q (.bool (bs.getD j false)) s)
    (hs : subscripted slice false (.ref l) (.int (j : Int) u) = operate [.ref l, .int (j : Int) u] (getItem (.ref l) (.int (j : Int) u)) := by with_unfolding_all rfl) :
    wpAny (model prog w) A (subscriptTail value slice (.ref l) (.int (j : Int) u)) Q E s := by
  have z := N _ (hsub _ hm)
  have hl : s.heap.IsList l (bs.map Value.bool).toArray := ⟨_, z.1, rfl, nn, rfl⟩
  refine tail_any hl.typeIs slot_list_getitem.lookup (wpAny_getItem_list hl (by (clear z hK h1 hm; simp)) (by (clear z hm; lia)) (x := .bool (bs.getD j false)) ?_ h) hs
  simp [h1]
end
end Mine
namespace Mine
section
variable {prog : Program} {w : World} {A : Around} {E : Value → Shared → Prop} {s : Shared} {h₀ : Heap} {L l : Addr} {news L9 : List (Addr × Obj)} {vs : List Value} {nn K : Nat}
theorem crease_len {Q : Value → Shared → Prop} (N : News h₀ L s.heap L9) (hsub : ∀ p ∈ news, p ∈ L9) (hm : (l, listOf vs.toArray nn) ∈ news) (hd : DatAll news vs ((rangeKs 1 K).map creaseD)) (hK : K ≤ 1000)
    (h : Q (.int (K : Int) (s.toks + 1)) { s with toks := s.toks + 1 + 1 }) : wpAny (model prog w) A (call (.builtin "len") [.ref l]) Q E s := by
  have hlen : ((rangeKs 1 K).map creaseD).length = K := by rw [List.length_map, rangeKs_length]
  refine kd_len (fun p hp => N p (hsub p hp)) hm hd (by rw [hlen]; (clear hlen hm; lia)) ?_
  rw [hlen]
  exact h
end
end Mine
namespace Mine
section
variable {bs : List Bool} {K : Nat} {codes pre : List Int} {x y dx dy n : Int} {d p : Int × Int}
theorem st_len (hl : codes.length = pre.length) (hn : n = 0 + (pre.length : Int)) (hk : pre.length < ((K : Int) + 1 - 0).toNat) (c : Int) : (codes ++ [c]).length = (pre ++ [n]).length ∧ (pre ++ [n]).length ≤ K + 1 := by
  have e1 : (codes ++ [c]).length = codes.length + 1 := by simp
  have e2 : (pre ++ [n]).length = pre.length + 1 := by simp
  rw [e1, e2]
  (clear e2 e1 hn; lia)
theorem st_last (h : WI bs d p K pre.length codes x y dx dy) (hl : codes.length = pre.length) (hn : n = 0 + (pre.length : Int)) (hk : pre.length < ((K : Int) + 1 - 0).toNat) (hz : ¬ n < (K : Int)) :
    (codes ++ [512 * (x + (x + dx)) + (y + (y + dy))]).length = (pre ++ [n]).length ∧ (pre ++ [n]).length ≤ K + 1 ∧ WI bs d p K (pre ++ [n]).length (codes ++ [512 * (x + (x + dx)) + (y + (y + dy))]) (x + dx) (y + dy) dx dy := by
  obtain ⟨e1, e2⟩ := st_len hl hn hk (512 * (x + (x + dx)) + (y + (y + dy)))
  refine ⟨e1, e2, ?_⟩
  have e : (pre ++ [n]).length = pre.length + 1 := by simp
  rw [e]
  exact wi_last h (by (clear e e2 e1 hl; lia))
theorem st_left (h : WI bs d p K pre.length codes x y dx dy) (hl : codes.length = pre.length) (hn : n = 0 + (pre.length : Int)) (hk : pre.length < ((K : Int) + 1 - 0).toNat) (hz : n < (K : Int)) (ht : (bs.getD (clv (n.toNat + 1)) false == cpl (n.toNat + 1)) = true) :
    (codes ++ [512 * (x + (x + dx)) + (y + (y + dy))]).length = (pre ++ [n]).length ∧ (pre ++ [n]).length ≤ K + 1 ∧ WI bs d p K (pre ++ [n]).length (codes ++ [512 * (x + (x + dx)) + (y + (y + dy))]) (x + dx) (y + dy) (-dy) dx := by
  obtain ⟨e1, e2⟩ := st_len hl hn hk (512 * (x + (x + dx)) + (y + (y + dy)))
  refine ⟨e1, e2, ?_⟩
  have e : (pre ++ [n]).length = pre.length + 1 := by simp
  have e3 : n.toNat = pre.length := by (clear e e2 e1 ht hz hk hl; lia)
  rw [e]
  rw [e3] at ht
  exact wi_left h (by (clear e3 e e2 e1 ht hk hl; lia)) ht
theorem st_right (h : WI bs d p K pre.length codes x y dx dy) (hl : codes.length = pre.length) (hn : n = 0 + (pre.length : Int)) (hk : pre.length < ((K : Int) + 1 - 0).toNat) (hz : n < (K : Int)) (ht : (bs.getD (clv (n.toNat + 1)) false == cpl (n.toNat + 1)) = false) :
    (codes ++ [512 * (x + (x + dx)) + (y + (y + dy))]).length = (pre ++ [n]).length ∧ (pre ++ [n]).length ≤ K + 1 ∧ WI bs d p K (pre ++ [n]).length (codes ++ [512 * (x + (x + dx)) + (y + (y + dy))]) (x + dx) (y + dy) dy (-dx) := by
  obtain ⟨e1, e2⟩ := st_len hl hn hk (512 * (x + (x + dx)) + (y + (y + dy)))
  refine ⟨e1, e2, ?_⟩
  have e : (pre ++ [n]).length = pre.length + 1 := by simp
  have e3 : n.toNat = pre.length := by (clear e e2 e1 ht hz hk hl; lia)
  rw [e]
  rw [e3] at ht
  exact wi_right h (by (clear e3 e e2 e1 ht hk hl; lia)) ht
end
end Mine
namespace Mine
theorem wi_end {bs : List Bool} {K : Nat} {codes : List Int} {x y dx dy : Int} {d p : Int × Int} (h : WI bs d p K (rangeKs 0 ((K : Int) + 1 - 0).toNat).length codes x y dx dy) : WI bs d p K (K + 1) codes x y dx dy := by
  rw [rangeKs_length, show ((K : Int) + 1 - 0).toNat = K + 1 by rfl] at h
  exact h
end Mine
end -- WPure5
section -- WWalk
open PySem PySem.W PySem.Calls PySem.Spec PyProof.Rows
set_option Elab.async false
set_option maxRecDepth 100000
set_option maxHeartbeats 2000000
set_option linter.unusedVariables false
namespace Mine
theorem fillWWalk : (PySem.Challenge.rw_wu0034_01 = PySem.Challenge.rw_wu0034_01) ∧ (Mine.hd.heap_39 = Mine.hd.heap_39) := by
  w_top off
  k_fill
  exact ⟨rfl, rfl⟩
section
variable {prog : Program} {w : World} {mean : ExcName → Option Value} {mg mb : Str → Option Value} {dp un : Nat} {gd : Option (List Code)} {cn : Str} {cs : Scope} {a : Addr} {ccd : Value} {cl : List (Str × Addr)} {outer : List Env} {A₀ : Around} {base h₀ : Heap} {L : Addr} {m : Str → Option Value} {news : List (Addr × Obj)} {s : Shared}
    {Q E : Value → Shared → Prop}
theorem walk_c {x y dx dy : Int} {lc lb : Addr} {vs : List Value} {bs : List Bool} {nn nb K : Nat} {t0 t1 t2 t3 : Tok}
    (B : Below A₀ base outer h₀) (F : Fr h₀ L s.heap m) (X : (Mine.hd.heap_39 w.params).In h₀) (N : News h₀ L s.heap news) (T : TopV mean mg mb h₀) (hk : cs.kind = .function) (hd : dp + 2 < recursionLimit) (hu : un + 16 < cLine)
    (hmc : (lc, listOf vs.toArray nn) ∈ news) (hdc : DatAll news vs ((rangeKs 1 K).map creaseD)) (hmb : (lb, listOf (bs.map Value.bool).toArray nb) ∈ news) (hK : K ≤ 15) (hbs : bs.length ≤ 100) (hlv : HLv K bs)
    (hret : ∀ (r l : Addr) (cvs : List Value) (codes : List Int) (xe ye dxe dye : Int) (nn' n1 : Nat) (tx ty : Tok) (h' : Heap) (tk' : Nat), WI bs (dx, dy) (x, y) K (K + 1) codes xe ye dxe dye → IntsAre cvs codes → Fr h₀ L h' m →
      News h₀ L h' ((r, ({ cls := .type "tuple", data := .seq #[.ref l, .int xe tx, .int ye ty] n1 } : Obj)) :: (l, listOf cvs.toArray nn') :: news) → Q (.ref r) { s with heap := h', toks := tk' }) :
    wpAny (model prog w) (ktrTop dp un gd cn cs L a ccd cl outer) (call (.ref 122) [.int x t0, .int y t1, .int dx t2, .int dy t3, .ref lc, .ref lb]) Q E s := by
  have hvl : vs.length = K := by rw [hdc.length, List.length_map, rangeKs_length]
  have hnil : IntsAre [] [] := .nil
  k_with_none
  k_with "call builtin:len" => (k_here; (rename News _ _ _ _ => nW); (refine crease_len nW ?hsub (by assumption) (by assumption) (by (first | (lia) | omega)) ?_); (case hsub => (intro p hp; kst_mem)))
  k_with "subscriptTail" => (k_here; (rename News _ _ _ _ => nW); first | (refine crease_item nW ?hsub (by assumption) (by assumption) (by assumption) (by (first | (lia) | omega)) (by omega) (by omega) ?_ (by with_unfolding_all rfl); (case hsub => (intro p hp; kst_mem))) | (refine bent_item nW ?hsub (by assumption) (by omega) (by (first | (lia) | omega)) ?_ (by with_unfolding_all rfl); (case hsub => (intro p hp; kst_mem))))
  k_with "pyIter ref" => (refine stop_ ?_)
  k_with "state" => first
    | exact ⟨rfl, Nat.zero_le _, wi_start⟩
    | exact st_last (by assumption) (by assumption) (by assumption) (by assumption) (by (clear kLen kLt kEq hvl hbs hK hmb hmc hu hd; omega))
    | exact st_left (by assumption) (by assumption) (by assumption) (by assumption) (by (clear kLen kLt kEq hvl hbs hK hmb hmc hu hd; omega)) (by assumption)
    | exact st_right (by assumption) (by assumption) (by assumption) (by assumption) (by (clear kLen kLt kEq hvl hbs hK hmb hmc hu hd; omega)) (by assumption)
  k_with "call ref" => first
    | ((k_dflt (refine' iadd_c ?k1 ?k2 ?k3 ?k4 ?k5 ?kK ?kd ?ku ?_)); (case k1 => k_asm); (case k2 => k_asm); (case k3 => k_asm); (case k4 => k_asm); (case k5 => k_asm); (case kK => exact rfl); (case kd => ktr_room); (case ku => ktr_units); (intro t9 h9 tk9 F9 N9); (try dsimp only); (try k_fold))
    | ((k_dflt (refine' imul_c (IntMulOk.of_left (by decide)) ?k1 ?k2 ?k3 ?k4 ?k5 ?kK ?kd ?ku ?_)); (case k1 => k_asm); (case k2 => k_asm); (case k3 => k_asm); (case k4 => k_asm); (case k5 => k_asm); (case kK => exact rfl); (case kd => ktr_room); (case ku => ktr_units); (intro t9 h9 tk9 F9 N9); (try dsimp only); (try k_fold))
    | ((k_dflt (refine' neg_c ?k1 ?k2 ?k3 ?k4 ?k5 ?kK ?kd ?ku ?_)); (case k1 => k_asm); (case k2 => k_asm); (case k3 => k_asm); (case k4 => k_asm); (case k5 => k_asm); (case kK => exact rfl); (case kd => ktr_room); (case ku => ktr_units); (intro t9 h9 tk9 F9 N9); (try dsimp only); (try k_fold))
  refine wpAny_call ?_
  k_dflt cell_enter
  k_steps
  unfold Stop
  k_state (fun pre codes x1 y1 dx1 dy1 => codes.length = pre.length ∧ pre.length ≤ K + 1 ∧ WI bs (dx, dy) (x, y) K pre.length codes x1 y1 dx1 dy1) "codes" "x" "y" "dx" "dy"
  · k_steps
  · k_steps
    exact hret _ _ _ _ _ _ _ _ _ _ _ _ _ _ (wi_end (by assumption)) (by assumption) (by k_asm) (by k_asm)
end
end Mine
end -- WWalk
section -- WForC
open PySem PySem.W PySem.Calls PySem.Spec PyProof.Rows
set_option maxRecDepth 100000
namespace Mine
section
variable {prog : Program} {w : World} {A : Around} {E : Value → Shared → Prop} {s : Shared} {env : Env} {g : Heap}
theorem fr_same {h h' : Heap} {L b : Addr} {m : Str → Option Value} (F : Fr g L h m) (hs : Heap.SameBut b h h') (h1 : L ≠ b) (h2 : g.get? b = none) : Fr g L h' m :=
  ⟨F.ns.sameBut hs h1, fun d o e => (hs.2 d (fun q => by rw [q, h2] at e; cases e)).trans (F.keep d o e), F.above⟩
theorem news_same {h h' : Heap} {L b : Addr} {news : List (Addr × Obj)} (N : News g L h news) (hs : Heap.SameBut b h h') (hb : ∀ p ∈ news, p.1 ≠ b) : News g L h' news :=
  fun p hp => ⟨(hs.2 p.1 (hb p hp)).trans (N p hp).1, (N p hp).2⟩
/-- what stands between the turns of a loop whose own name is a cell: one list, found by one name of the frame -/
def HState (g : Heap) (L c : Addr) (hn : Str) (m₀ : Str → Option Value) (news : List (Addr × Obj)) (J : Nat → List Int → Prop) (s : Shared) (i : Nat) (more : List (Addr × Obj)) (s' : Shared) : Prop :=
  ∃ (hp : Addr) (vs : List Value) (hs : List Int) (k : Nat) (o : Obj) (v : Option Value) (h : Heap) (tk : Nat), s' = { s with heap := h, toks := tk } ∧ J i hs ∧ IntsAre vs hs ∧ o.data = .cell v ∧
    Fr g L h (fun y => if y = hn then some (.ref hp) else m₀ y) ∧ News g L h ((hp, listOf vs.toArray k) :: (c, o) :: (more ++ news))
theorem HState.intro {L c : Addr} {hn : Str} {m₀ : Str → Option Value} {news more led : List (Addr × Obj)} {J : Nat → List Int → Prop} {i : Nat} {hp : Addr} {vs : List Value} {hs : List Int} {k : Nat} {o : Obj} {v : Option Value} {h : Heap} {tk : Nat} {m : Str → Option Value}
    (hj : J i hs) (hi : IntsAre vs hs) (ho : o.data = .cell v) (F : Fr g L h m) (hm : m = fun y => if y = hn then some (.ref hp) else m₀ y) (N : News g L h led) (hs : ∀ p ∈ (hp, listOf vs.toArray k) :: (c, o) :: (more ++ news), p ∈ led) :
    HState g L c hn m₀ news J s i more { s with heap := h, toks := tk } := by
  subst hm
  exact ⟨hp, vs, _, k, o, v, h, tk, rfl, hj, hi, ho, F, fun p hp => N p (hs p hp)⟩
theorem For_heads {Q : Flow → Shared → Prop} {x hn : Str} {px pos : Pos} {iter : Expr} {body : List Stmt} {lb c hp₀ : Addr} {bs : List Bool} {nb k₀ : Nat} {m₀ : Str → Option Value} {news : List (Addr × Obj)} {o₀ : Obj} {v₀ : Option Value} {vs₀ : List Value} {hs₀ : List Int}
    (J : Nat → List Int → Prop) (hh : A.handled = none) (hkf : env.scope.kind = .function) (hx : env.kindOf x = some .cell) (hc : env.cells.lookup x = some c)
    (hlb : (lb, listOf (bs.map Value.bool).toArray nb) ∈ news) (hcn : ∀ p ∈ news, p.1 ≠ c)
    (heval : ∀ Q' : Value → Shared → Prop, Q' (.ref lb) s → wpAny (model prog w) A (eval iter env) Q' E s)
    (F : Fr g env.locals s.heap (fun y => if y = hn then some (.ref hp₀) else m₀ y)) (N : News g env.locals s.heap ((hp₀, listOf vs₀.toArray k₀) :: (c, o₀) :: news)) (ho : o₀.data = .cell v₀) (hi : IntsAre vs₀ hs₀) (hj : J 0 hs₀)
    (turn : ∀ i b hp vs hs k o it oi h tk, bs[i]? = some b → i < bs.length → J i hs → IntsAre vs hs → o.data = .cell (some (.bool b)) → Fr g env.locals h (fun y => if y = hn then some (.ref hp) else m₀ y) → News g env.locals h ((hp, listOf vs.toArray k) :: (c, o) :: (it, oi) :: news) →
      (it ≠ c ∧ hp ≠ c ∧ hp ≠ it) → wpAny (model prog w) A (execs body env) (fun f s' => f = .next ∧ HState g env.locals c hn m₀ news J s (i + 1) [(it, oi)] s') E { s with heap := h, toks := tk })
    (done : ∀ s', HState g env.locals c hn m₀ news J s bs.length [] s' → Q .next s')
    (hs : ∀ x, foldedSetIterable iter env x = pure x := by intro _; rfl)
    (hE : PassesOwn (model prog w) A env E := by passes_own) :
    wpAny (model prog w) A (exec (.For (.Name x px) iter body [] pos) env) Q E s := by
  refine wpAny_For (heval _ ?_) hs
  have zlb := N (lb, listOf (bs.map Value.bool).toArray nb) (.tail _ (.tail _ hlb))
  have hl : s.heap.IsList lb (bs.map Value.bool).toArray := ⟨_, zlb.1, rfl, nb, rfl⟩
  refine wpAny_pyIter_list hl ?_
  have hit_new : s.heap.objs.size ≠ env.locals := Nat.ne_of_gt F.ns.lt
  have hg_it : g.get? s.heap.objs.size = none := next_is_new F
  have off : ∀ p ∈ (hp₀, listOf vs₀.toArray k₀) :: (c, o₀) :: news, p.1 ≠ s.heap.objs.size := fun p hp => Nat.ne_of_lt (Heap.lt_size (N p hp).1)
  generalize hIt : s.heap.objs.size = it at *
  have offn : ∀ p ∈ news, p.1 ≠ it := fun p hp => off p (.tail _ (.tail _ hp))
  have hcit : c ≠ it := off (c, o₀) (.tail _ (.head _))
  have hcL : c ≠ env.locals := (N (c, o₀) (.tail _ (.head _))).2.1
  have hgc : g.get? c = none := (N (c, o₀) (.tail _ (.head _))).2.2
  refine codeAny_forLoop (fun k s' => ∃ i oi, HState g env.locals c hn m₀ news J s i [(it, oi)] s' ∧ s'.heap.IsListIter it lb i ∧ i ≤ bs.length ∧ k = bs.length + 1 - i) ?_ (bs.length + 1)
    ⟨0, ({ cls := .type "list_iterator", data := .fields #[.ref lb, .int 0 0] } : Obj), ⟨hp₀, vs₀, hs₀, k₀, o₀, v₀, _, s.toks, rfl, hj, hi, ho, F.push _, ?_⟩, ⟨_, hIt ▸ Heap.get?_push_size _ rfl, rfl, rfl⟩, Nat.zero_le _, rfl⟩
  · rintro kk s' ⟨i, oi, ⟨hp, vs, hs, k, o, v, h, tk, rfl, hJ, hI, hO, F', N'⟩, hit, hle, rfl⟩
    have zl : News g env.locals h news := fun p hp => N' p (.tail _ (.tail _ (.tail _ hp)))
    have hl' : h.IsList lb (bs.map Value.bool).toArray := ⟨_, (zl _ hlb).1, rfl, nb, rfl⟩
    have zh := N' (hp, listOf vs.toArray k) (.head _)
    have zc := N' (c, o) (.tail _ (.head _))
    have hne1 : hp ≠ c := fun q => by
      have e : h.get? hp = some (listOf vs.toArray k) := zh.1
      rw [q] at e
      have e2 : h.get? c = some o := zc.1
      rw [e] at e2
      have e3 : listOf vs.toArray k = o := Option.some.inj e2
      rw [← e3] at hO
      cases hO
    have hne2 : hp ≠ it := fun q => by
      obtain ⟨oo, ho1, ho2, _⟩ := hit
      have e : h.get? hp = some (listOf vs.toArray k) := zh.1
      rw [q] at e
      have e2 : h.get? it = some oo := ho1
      rw [e] at e2
      have e3 : listOf vs.toArray k = oo := Option.some.inj e2
      rw [← e3] at ho2
      exact absurd ho2 (by show ¬ (Value.type "list" = Value.type "list_iterator"); intro e; injection e with e; exact absurd e (by decide))
    by_cases hlt : i < bs.length
    · refine wpAny_pyNext_list_item hit hl' (x := .bool bs[i]) (by simp [hlt]) fun h₁ hit₁ hs₁ => ?_
      refine wpAny_assign_Name ?_
      have F₁ : Fr g env.locals h₁ _ := fr_same F' hs₁ (Ne.symm hit_new) hg_it
      have zc₁ : h₁.get? c = some o := (hs₁.2 c hcit).trans zc.1
      refine wpAny_storeName_cell hkf hx hc ⟨o, zc₁, hO⟩ fun h₂ hv₂ hs₂ => ?_
      obtain ⟨o', ho', hd'⟩ := hv₂
      have F₂ : Fr g env.locals h₂ _ := fr_same F₁ hs₂ (Ne.symm hcL) hgc
      obtain ⟨oi', hoi', hoic, hoid⟩ := hit₁
      have hoi₂ : h₂.get? it = some oi' := (hs₂.2 it (Ne.symm hcit)).trans hoi'
      have N₂ : News g env.locals h₂ ((hp, listOf vs.toArray k) :: (c, o') :: (it, oi') :: news) := by
        refine List.forall_mem_cons.mpr ⟨⟨((hs₂.2 hp hne1).trans (hs₁.2 hp hne2)).trans zh.1, zh.2⟩, List.forall_mem_cons.mpr ⟨⟨ho', zc.2⟩, List.forall_mem_cons.mpr ⟨⟨hoi₂, hit_new, hg_it⟩, ?_⟩⟩⟩
        exact news_same (news_same zl hs₁ offn) hs₂ hcn
      refine wpAny_mono (wpAny_passesOwn hE (turn i bs[i] hp vs hs k o' it oi' h₂ tk (List.getElem?_eq_getElem hlt) hlt hJ hI hd' F₂ N₂ ⟨Ne.symm hcit, hne1, hne2⟩)) (fun f s₃ h₃ => ?_) fun _ _ e => e
      obtain ⟨rfl, H⟩ := h₃
      refine ⟨bs.length + 1 - (i + 1), by (clear hne2 hne1 zc zh hle hcL hcit hit_new hIt zlb hlb; omega), i + 1, oi', H, ?_, hlt, rfl⟩
      obtain ⟨hp₃, vs₃, hs₃, k₃, o₃, v₃, h₃, tk₃, rfl, _, _, _, _, N₃⟩ := H
      exact ⟨oi', (N₃ (it, oi') (.tail _ (.tail _ (.head _)))).1, hoic, hoid⟩
    · have hin : i = bs.length := by (clear hne2 hne1 zc zh hcL hcit hit_new hIt zlb hlb; lia)
      subst hin
      refine wpAny_pyNext_list_end hh hit hl' (by simp) fun h₁ he₁ => ?_
      refine wpAny_execs_nil (done _ ⟨hp, vs, hs, k, o, v, h₁, tk, rfl, hJ, hI, hO, ?_, ?_⟩)
      · exact ⟨F'.ns.at' fun o e => he₁ _ o (Ne.symm hit_new) e, fun d o e => he₁ d o (fun q => by rw [q, hg_it] at e; cases e) (F'.keep d o e), F'.above⟩
      · refine List.forall_mem_cons.mpr ⟨⟨he₁ _ _ hne2 zh.1, zh.2⟩, List.forall_mem_cons.mpr ⟨⟨he₁ _ _ hcit zc.1, zc.2⟩, fun p hp => ⟨he₁ _ _ (offn p hp) (zl p hp).1, (zl p hp).2⟩⟩⟩
  · have NP : ∀ p ∈ (hp₀, listOf vs₀.toArray k₀) :: (c, o₀) :: news, (s.heap.push { cls := .type "list_iterator", data := .fields #[.ref lb, .int 0 0] }).get? p.1 = some p.2 ∧ p.1 ≠ env.locals ∧ g.get? p.1 = none := fun p hp => ⟨Heap.get?_push_of_some _ (N p hp).1, (N p hp).2⟩
    refine List.forall_mem_cons.mpr ⟨NP _ (.head _), List.forall_mem_cons.mpr ⟨NP _ (.tail _ (.head _)), List.forall_mem_cons.mpr ⟨⟨hIt ▸ Heap.get?_push_size _ rfl, hit_new, hg_it⟩, fun p hp => NP p (.tail _ (.tail _ hp))⟩⟩⟩
end
end Mine
end -- WForC
section -- WPure6
open PySem PySem.W PySem.Calls PySem.Spec PyProof.Rows
set_option maxRecDepth 100000
namespace Mine
/-- one unfolding of a list of headings -/
def ufold (hs : List Int) (b : Bool) : List Int := hs ++ hs.reverse.map fun h => (h + if b then 1 else 3).fmod 4
def uheads (h : Int) (bs : List Bool) : List Int := bs.foldl ufold [h]
theorem uheads_take {h : Int} {bs : List Bool} {i : Nat} {b : Bool} (e : bs[i]? = some b) : uheads h (bs.take (i + 1)) = ufold (uheads h (bs.take i)) b := by
  unfold uheads
  rw [List.take_add_one, e]
  simp [List.foldl_append]
theorem ufold_length {hs : List Int} {b : Bool} : (ufold hs b).length = 2 * hs.length := by
  unfold ufold; simp; lia
theorem uheads_length {h : Int} : ∀ (bs : List Bool), (uheads h bs).length = 2 ^ bs.length := by
  suffices H : ∀ (bs : List Bool) (hs : List Int), (bs.foldl ufold hs).length = hs.length * 2 ^ bs.length by
    intro bs
    have := H bs [h]
    simpa [uheads] using this
  intro bs
  induction bs with
  | nil => intro hs; simp
  | cons b r ih =>
    intro hs
    rw [List.foldl_cons, ih, ufold_length, List.length_cons, Nat.pow_succ]
    rw [Nat.mul_comm 2 hs.length, Nat.mul_assoc, Nat.mul_comm 2]
theorem ufold_range {hs : List Int} {b : Bool} (h : ∀ x ∈ hs, 0 ≤ x ∧ x < 4) : ∀ x ∈ ufold hs b, 0 ≤ x ∧ x < 4 := by
  intro x hx
  unfold ufold at hx
  rcases List.mem_append.mp hx with hx | hx
  · exact h x hx
  · obtain ⟨y, _, rfl⟩ := List.mem_map.mp hx
    rw [Int.fmod_eq_emod_of_nonneg _ (by decide)]
    (clear hx; grind)
theorem uheads_range {h : Int} (h0 : 0 ≤ h) (h4 : h < 4) (bs : List Bool) : ∀ x ∈ uheads h bs, 0 ≤ x ∧ x < 4 := by
  suffices H : ∀ (bs : List Bool) (hs : List Int), (∀ x ∈ hs, 0 ≤ x ∧ x < 4) → ∀ x ∈ bs.foldl ufold hs, 0 ≤ x ∧ x < 4 from H bs [h] (by simp; lia)
  intro bs
  induction bs with
  | nil => intro hs h; exact h
  | cons b r ih => intro hs h; exact ih _ (ufold_range h)
def hdir (h : Int) : Int × Int := if h = 0 then (1, 0) else if h = 1 then (0, 1) else if h = 2 then (-1, 0) else (0, -1)
def upos (p : Int × Int) (hs : List Int) : Int × Int := hs.foldl (fun p h => (p.1 + (hdir h).1, p.2 + (hdir h).2)) p
def ucode (p : Int × Int) (h : Int) : Int := 512 * (2 * p.1 + (hdir h).1) + 2 * p.2 + (hdir h).2
def ucodes : List Int → Int × Int → List Int
  | [], _ => []
  | h :: r, p => ucode p h :: ucodes r (p.1 + (hdir h).1, p.2 + (hdir h).2)
theorem ucodes_snoc {h : Int} : ∀ (hs : List Int) (p : Int × Int), ucodes (hs ++ [h]) p = ucodes hs p ++ [ucode (upos p hs) h]
  | [], p => rfl
  | a :: r, p => by
    show ucode p a :: ucodes (r ++ [h]) _ = ucode p a :: (ucodes r _ ++ _)
    rw [ucodes_snoc r]; rfl
theorem upos_snoc {h : Int} {hs : List Int} {p : Int × Int} : upos p (hs ++ [h]) = ((upos p hs).1 + (hdir h).1, (upos p hs).2 + (hdir h).2) := by
  unfold upos; rw [List.foldl_append]; rfl
theorem ucodes_length : ∀ (hs : List Int) (p : Int × Int), (ucodes hs p).length = hs.length
  | [], _ => rfl
  | _ :: r, p => by show (ucodes r _).length + 1 = _; rw [ucodes_length r]; rfl
end Mine
namespace Mine
def HJ (h : Int) (bs : List Bool) (i : Nat) (hs : List Int) : Prop := hs = uheads h (bs.take i)
theorem hj_next {h : Int} {bs : List Bool} {i : Nat} {hs : List Int} {b : Bool} (H : HJ h bs i hs) (hb : bs[i]? = some b) : HJ h bs (i + 1) (ufold hs b) := by
  unfold HJ at H ⊢
  rw [uheads_take hb, ← H]
theorem hj_le {h : Int} {bs : List Bool} {hs : List Int} {i : Nat} (hJ : HJ h bs i hs) (hlt : i < bs.length) (hb : bs.length ≤ 4) : hs.length ≤ 8 := by
  unfold HJ at hJ
  rw [hJ, uheads_length, List.length_take, Nat.min_eq_left (Nat.le_of_lt hlt)]
  exact Nat.le_trans (Nat.pow_le_pow_right (by decide) (by lia : i ≤ 3)) (by decide)
theorem hj_end {h : Int} {bs : List Bool} {hs : List Int} (hJ : HJ h bs bs.length hs) : hs = uheads h bs := by
  unfold HJ at hJ
  rw [hJ, List.take_length]
theorem ints_ufold {ws : List Value} {hs : List Int} {b : Bool} (h : IntsAre ws (hs ++ List.map (fun k' => if b = true then (k' + 1).fmod 4 else if b = false then (k' + 3).fmod 4 else k') hs.reverse)) : IntsAre ws (ufold hs b) := by
  unfold ufold
  cases b
  · simpa using h
  · simpa using h
/-- what holds ahead of a heading of the unfolded list -/
def UI (p : Int × Int) (pre codes : List Int) (x y : Int) : Prop := codes = ucodes pre p ∧ x = (upos p pre).1 ∧ y = (upos p pre).2
theorem ui_start {x y : Int} : UI (x, y) [] [] x y := ⟨rfl, rfl, rfl⟩
theorem ui_next {p : Int × Int} {pre codes : List Int} {x y h dx dy : Int} (H : UI p pre codes x y) (hd : hdir h = (dx, dy)) : UI p (pre ++ [h]) (codes ++ [512 * (2 * x + dx) + 2 * y + dy]) (x + dx) (y + dy) := by
  obtain ⟨h1, h2, h3⟩ := H
  refine ⟨?_, ?_, ?_⟩
  · rw [ucodes_snoc, ← h1, ucode, hd, h2, h3]
  · rw [upos_snoc, hd, h2]
  · rw [upos_snoc, hd, h3]
end Mine
namespace Mine
section
variable {prog : Program} {w : World} {A : Around} {E : Value → Shared → Prop} {s : Shared} {h₀ : Heap} {L l a0 a1 a2 a3 : Addr} {led : List (Addr × Obj)} {n n0 n1 n2 n3 : Nat}
/-- a way out of the four headings -/
theorem menu_item {value slice : PySem.Expr} {k : Int} {u x0 x1 x2 x3 y0 y1 y2 y3 : Tok} {Q : Value → Shared → Prop} (N : News h₀ L s.heap led) (hl : (l, listOf #[.ref a0, .ref a1, .ref a2, .ref a3] n) ∈ led)
    (m0 : (a0, ({ cls := .type "tuple", data := .seq #[.int 1 x0, .int 0 y0] n0 } : Obj)) ∈ led) (m1 : (a1, ({ cls := .type "tuple", data := .seq #[.int 0 x1, .int 1 y1] n1 } : Obj)) ∈ led)
    (m2 : (a2, ({ cls := .type "tuple", data := .seq #[.int (-1) x2, .int 0 y2] n2 } : Obj)) ∈ led) (m3 : (a3, ({ cls := .type "tuple", data := .seq #[.int 0 x3, .int (-1) y3] n3 } : Obj)) ∈ led)
    (h0 : 0 ≤ k) (h1 : k < 4)
    (h : ∀ a tx ty n, (@Eq Nat a a0 ∨ @Eq Nat a a1 ∨ @Eq Nat a a2 ∨ @Eq Nat a a3) → News h₀ L s.heap ((a, ({ cls := .type "tuple", data := .seq #[.int (hdir k).1 tx, .int (hdir k).2 ty] n } : Obj)) :: led) → Q (.ref a) s)
    (hs : subscripted slice false (.ref l) (.int k u) = operate [.ref l, .int k u] (getItem (.ref l) (.int k u)) := by with_unfolding_all rfl) :
    wpAny (model prog w) A (subscriptTail value slice (.ref l) (.int k u)) Q E s := by
  have hL : s.heap.IsList l (List.toArray [.ref a0, .ref a1, .ref a2, .ref a3]) := ⟨_, (N _ hl).1, rfl, n, rfl⟩
  rcases (by (clear m3 m2 m1 m0 hl; lia) : k = 0 ∨ k = 1 ∨ k = 2 ∨ k = 3) with rfl | rfl | rfl | rfl
  · exact tail_any hL.typeIs slot_list_getitem.lookup (wpAny_getItem_list hL h0 (by (clear h1 h0 m3 m2 m1 m0 hl; simp)) rfl (h a0 _ _ _ (.inl rfl) (List.forall_mem_cons.mpr ⟨N _ m0, N⟩))) hs
  · exact tail_any hL.typeIs slot_list_getitem.lookup (wpAny_getItem_list hL h0 (by (clear h1 h0 m3 m2 m1 m0 hl; simp)) rfl (h a1 _ _ _ (.inr (.inl rfl)) (List.forall_mem_cons.mpr ⟨N _ m1, N⟩))) hs
  · exact tail_any hL.typeIs slot_list_getitem.lookup (wpAny_getItem_list hL h0 (by (clear h1 h0 m3 m2 m1 m0 hl; simp)) rfl (h a2 _ _ _ (.inr (.inr (.inl rfl))) (List.forall_mem_cons.mpr ⟨N _ m2, N⟩))) hs
  · exact tail_any hL.typeIs slot_list_getitem.lookup (wpAny_getItem_list hL h0 (by (clear h1 h0 m3 m2 m1 m0 hl; simp)) rfl (h a3 _ _ _ (.inr (.inr (.inr rfl))) (List.forall_mem_cons.mpr ⟨N _ m3, N⟩))) hs
theorem ui_state {p : Int × Int} {pre codes : List Int} {x y h : Int} (H : UI p pre codes x y) (hl : codes.length = pre.length) :
    (codes ++ [512 * (2 * x + (hdir h).1) + 2 * y + (hdir h).2]).length = (pre ++ [h]).length ∧ UI p (pre ++ [h]) (codes ++ [512 * (2 * x + (hdir h).1) + 2 * y + (hdir h).2]) (x + (hdir h).1) (y + (hdir h).2) := by
  refine ⟨?_, ui_next H rfl⟩
  rw [List.length_append, List.length_append, hl]
  rfl
end
end Mine
end -- WPure6
section -- WUnf
open PySem PySem.W PySem.Calls PySem.Spec PyProof.Rows
set_option Elab.async false
set_option maxRecDepth 100000
set_option maxHeartbeats 2000000
set_option linter.unusedVariables false
namespace Mine
theorem fillWUnf : (PySem.Challenge.rw_wu0034_01 = PySem.Challenge.rw_wu0034_01) ∧ (Mine.hd.heap_39 = Mine.hd.heap_39) := by
  w_top off
  k_fill
  exact ⟨rfl, rfl⟩
section
variable {prog : Program} {w : World} {mean : ExcName → Option Value} {mg mb : Str → Option Value} {dp un : Nat} {gd : Option (List Code)} {cn : Str} {cs : Scope} {a : Addr} {ccd : Value} {cl : List (Str × Addr)} {outer : List Env} {A₀ : Around} {base h₀ : Heap} {L : Addr} {m : Str → Option Value} {news : List (Addr × Obj)} {s : Shared}
    {Q E : Value → Shared → Prop}
theorem unf_c {x y hd₀ : Int} {lb : Addr} {bs : List Bool} {nb : Nat} {t0 t1 t2 : Tok}
    (B : Below A₀ base outer h₀) (F : Fr h₀ L s.heap m) (X : (Mine.hd.heap_39 w.params).In h₀) (N : News h₀ L s.heap news) (T : TopV mean mg mb h₀) (hk : cs.kind = .function) (hd : dp + 2 < recursionLimit) (hu : un + 16 < cLine)
    (hmb : (lb, listOf (bs.map Value.bool).toArray nb) ∈ news) (hbs : bs.length ≤ 4) (hh0 : 0 ≤ hd₀) (hh4 : hd₀ < 4)
    (hret : ∀ (l : Addr) (cvs : List Value) (codes : List Int) (nn' : Nat) (h' : Heap) (tk' : Nat), codes = ucodes (uheads hd₀ bs) (x, y) → IntsAre cvs codes → Fr h₀ L h' m → News h₀ L h' ((l, listOf cvs.toArray nn') :: news) → Q (.ref l) { s with heap := h', toks := tk' }) :
    wpAny (model prog w) (ktrTop dp un gd cn cs L a ccd cl outer) (call (.ref 127) [.int x t0, .int y t1, .int hd₀ t2, .ref lb]) Q E s := by
  have hnil : IntsAre [] [] := .nil
  k_with_none
  k_with "subscriptTail" => (k_here; (rename News _ _ _ _ => nW); (refine menu_item nW (by k_mem) (by k_mem) (by k_mem) (by k_mem) (by k_mem) (by omega) (by omega) ?_ (by with_unfolding_all rfl)))
  k_with "pyIter ref" => (refine stop_ ?_)
  k_with "state" => first
    | exact ⟨rfl, ui_start⟩
    | exact ui_state (by assumption) (by assumption)
  refine wpAny_call ?_
  k_dflt (refine' code_defC (binds := [(Str.ofString "x", .int x t0), (Str.ofString "y", .int y t1), (Str.ofString "heading", .int hd₀ t2), (Str.ofString "bent", .ref lb)]) ?k1 ?k2 ?k3 ?k4 ?k5 ?kA ?kF ?kK ?k6 ?k7 ?k8 ?k9 ?kB ?kD ?_ ?c2 ?c3 ?c4; (case kA => exact rfl); (case kF => exact rfl); (case kK => assumption); (case k1 => k_asm); (case k2 => k_asm); (case k3 => k_asm); (case k4 => k_asm); (case k5 => k_asm); (case k6 => k_is); (case k7 => k_is); (case k8 => ktr_room); (case k9 => exact BindsTo.of_eq rfl); (case kB => exact rfl); (case kD => decide +kernel); (case c2 => exact rfl); (case c3 => exact rfl); (case c4 => exact rfl); k_whole; intro g' L' h' tk' cells' FG' F' N' Y' B' X' T' l1; (try k_lt l1); k_cells Y'; (try simp only [List.cons_append, List.nil_append] at N'); (try dsimp only); (try k_lift B'); (try k_fold))
  k_steps
  rename (∀ p ∈ news, p.1 < L') => hlow
  refine' For_heads (vs₀ := [.int hd₀ t2]) (hn := Str.ofString "heads") (c := L' + 1) (lb := lb) (bs := bs) (nb := nb) (news := news) (hs₀ := [hd₀]) (HJ hd₀ bs) ?hh ?hkf ?hx ?hc hmb ?hcn ?hev (by assumption) ?hN ?ho ?hi ?hj ?turn ?done
  case hh => exact rfl
  case hkf => exact rfl
  case hx => exact rfl
  case hc => exact rfl
  case hcn => exact fun p hp => Nat.ne_of_lt (Nat.lt_succ_of_lt (hlow p hp))
  case hev => exact fun Q' q => nameX_L (by assumption) (by with_unfolding_all rfl) q
  case hN => assumption
  case ho => assumption
  case hi => exact .cons _ _ .nil
  case hj => exact rfl
  case turn =>
    intro i b hp vs hs k o it oi h tk hb hlt hJ hI hO F9 N9 hne
    have hl1 : hs.length ≤ 8 := hj_le hJ hlt hbs
    have hl2 : vs.length ≤ 8 := by rw [hI.length]; exact hl1
    have hJ2 := hj_next hJ hb
    clear hJ hb
    k_steps
    refine' HState.intro hJ2 (ints_ufold (by assumption)) hO (by assumption) ?hm (by assumption) ?hs
    case hm =>
      funext y
      by_cases e : y = Str.ofString "heads"
      · rw [if_pos e, if_pos e]
      · rw [if_neg e, if_neg e, if_neg e]
    case hs => exact List.forall_mem_cons.mpr ⟨by k_memK, List.forall_mem_cons.mpr ⟨by k_memK, List.forall_mem_cons.mpr ⟨by k_memK, fun p hp => by kst_mem⟩⟩⟩
  case done =>
    rintro s' ⟨hp, vs, hs, k, o, v, h, tk, rfl, hJ, hI, hO, F9, N9⟩
    simp only [List.nil_append] at N9
    have hE := hj_end hJ
    have hr : ∀ x ∈ hs, 0 ≤ x ∧ x < 4 := by rw [hE]; exact uheads_range hh0 hh4 bs
    have hl1 : hs.length ≤ 16 := by
      rw [hE, uheads_length]
      exact Nat.le_trans (Nat.pow_le_pow_right (by decide) hbs) (by decide)
    have hl2 : vs.length ≤ 16 := by rw [hI.length]; exact hl1
    clear hJ
    generalize hG : uheads hd₀ bs = us at *
    clear hG
    k_steps
    unfold Stop
    k_state (fun pre codes x1 y1 => codes.length = pre.length ∧ UI (x, y) pre codes x1 y1) "codes" "x" "y"
    · obtain ⟨hq0, hq4⟩ := hr kN kMem
      k_steps
    · k_steps
      rename UI _ _ _ _ _ => hU
      rename News _ _ _ _ => nZ
      refine hret _ _ _ _ _ _ hU.1 (by assumption) (by k_asm) (List.forall_mem_cons.mpr ⟨nZ _ (.head _), fun p hp => nZ p (.tail _ (.tail _ (.tail _ hp)))⟩)
end
end Mine
end -- WUnf
section -- WSort1
open PySem PySem.W PySem.Calls PySem.Spec PyProof.Rows
set_option maxRecDepth 100000
namespace Mine
def gallop9 : Bool → Keyed → Array Keyed → Nat → Nat → Nat → StateT SortSt Sem (Option Nat) := sortPriv% PySem.Builtin.gallop
section
variable {prog : Program} {w : World} {A : Around} {E : Value → Shared → Prop} {s : Shared}
theorem wpS_lt9 {st : SortSt} {x y : Keyed} {a b : Int} {t u : Tok} {Q : Option Bool → SortSt → Prop} (hk : kindOf st = oneType') (hx : x.1 = .int a t) (hy : y.1 = .int b u) (h : Q (some (decide (a < b))) st) :
    wpS (model prog w) A E s (lt' x y) Q st := by
  rw [lt'_eq]
  refine wpS_bind (wpS_get ?_)
  rw [hk, keyLt'_oneType, hx, hy]
  exact wpS_bind (wpS_lift (wpAny_attempt (oneLt_int ⟨rfl, wpS_pure h⟩)))
theorem wpS_elem9 {st : SortSt} {arr : Array Keyed} {i : Nat} {p : Keyed} {Q : Keyed → SortSt → Prop} (he : arr[i]? = some p) (h : Q p st) : wpS (model prog w) A E s (elem' arr i) Q st := by
  rw [elem'_eq, he]
  exact wpS_pure h
/-- all keys are ints -/
def IntK (xs : Array Keyed) : Prop := ∀ i (h : i < xs.size), ∃ t, xs[i].1 = .int (K xs i) t
theorem IntK.get {xs : Array Keyed} (H : IntK xs) {i : Nat} (h : i < xs.size) : ∃ p t, xs[i]? = some p ∧ p.1 = .int (K xs i) t := by
  obtain ⟨t, e⟩ := H i h
  exact ⟨xs[i], t, getElem?_pos _ i h, e⟩
/-- does item i lie ahead of the key -/
def bey (left : Bool) (kv : Int) (arr : Array Keyed) (base i : Nat) : Bool := if left then decide (K arr (base + i) < kv) else !decide (kv < K arr (base + i))
theorem bey_at {st : SortSt} {left : Bool} {key : Keyed} {kv : Int} {kt : Tok} {arr : Array Keyed} {base i : Nat} {Q : Option Bool → SortSt → Prop} (hk : kindOf st = oneType') (hkey : key.1 = .int kv kt) (H : IntK arr) (hi : base + i < arr.size)
    (h : Q (some (bey left kv arr base i)) st) :
    wpS (model prog w) A E s (do
      let x ← elem' arr (base + i)
      if left = true then lt' x key else do
        let r ← lt' key x
        pure (Option.map (fun x => !x) r)) Q st := by
  obtain ⟨p, t, e, e1⟩ := H.get hi
  refine wpS_bind (wpS_elem9 e ?_)
  cases left with
  | true => exact wpS_lt9 hk e1 hkey h
  | false => exact wpS_bind (wpS_lt9 hk hkey e1 (wpS_pure h))
theorem mid_in {lo hi : Nat} (h : lo < hi) : lo ≤ lo + (hi - lo) / 2 ∧ lo + (hi - lo) / 2 < hi := by lia
theorem mid_up {lo hi x n m : Nat} (h : hi + x ≤ lo + n) (hm : lo ≤ m) : hi + (x + 1) ≤ m + 1 + n := by lia
theorem mid_dn {lo hi x n m : Nat} (h : hi + x ≤ lo + n) (hm : m < hi) : m + (x + 1) ≤ lo + n := by lia
theorem at_end {lo hi n : Nat} (h : hi + max 0 n ≤ lo + n) (hm : lo ≤ hi) : lo = hi := by lia
theorem wpS_gallop {left : Bool} {key : Keyed} {kv : Int} {kt : Tok} {arr : Array Keyed} {base n hint : Nat} {st : SortSt} {Q : Option Nat → SortSt → Prop} (hk : kindOf st = oneType') (hkey : key.1 = .int kv kt) (H : IntK arr) (hn : base + n ≤ arr.size) (hh : hint < n)
    (hm : ∀ i j, i ≤ j → j < n → bey left kv arr base j = true → bey left kv arr base i = true)
    (h : ∀ hi, hi ≤ n → (∀ i, i < hi → bey left kv arr base i = true) → (∀ i, hi ≤ i → i < n → bey left kv arr base i = false) → Q (some hi) st) :
    wpS (model prog w) A E s (gallop9 left key arr base n hint) Q st := by
  have hmf : ∀ i j, i ≤ j → j < n → bey left kv arr base i = false → bey left kv arr base j = false := by
    intro i j hij hj hf
    cases e : bey left kv arr base j with
    | false => rfl
    | true => rw [hm i j hij hj e] at hf; cases hf
  -- the last search between lo and hi
  have last : ∀ (lo hi : Nat) (k : Option (Option Nat) × Nat × Nat → StateT SortSt Sem (Option Nat)) (f : Nat → Option (Option Nat) × Nat × Nat → StateT SortSt Sem (ForInStep (Option (Option Nat) × Nat × Nat))),
      (∀ x lo hi Q', lo < hi → hi ≤ n → Q' (ForInStep.yield (none, if bey left kv arr base (lo + (hi - lo) / 2) = true then (lo + (hi - lo) / 2 + 1, hi) else (lo, lo + (hi - lo) / 2))) st → wpS (model prog w) A E s (f x (none, lo, hi)) Q' st) →
      (∀ x lo hi Q', ¬ lo < hi → Q' (ForInStep.done (none, lo, hi)) st → wpS (model prog w) A E s (f x (none, lo, hi)) Q' st) →
      (∀ lo hi, wpS (model prog w) A E s (k (none, lo, hi)) (fun r st' => r = some hi ∧ st' = st) st) →
      lo ≤ hi → hi ≤ n → (∀ i, i < lo → bey left kv arr base i = true) → (∀ i, hi ≤ i → i < n → bey left kv arr base i = false) →
      wpS (model prog w) A E s (do let c ← forIn [:n] ((none, lo, hi) : Option (Option Nat) × Nat × Nat) f; k c) Q st := by
    intro lo hi k f f1 f2 hk2 hle hhn h1 h2
    refine wpS_bind (wpS_mono (wpS_forRange (a := 0) (b := n) (I := fun x c st' => st' = st ∧ ∃ lo hi, c = (none, lo, hi) ∧ lo ≤ hi ∧ hi ≤ n ∧ hi + x ≤ lo + n ∧ (∀ i, i < lo → bey left kv arr base i = true) ∧ (∀ i, hi ≤ i → i < n → bey left kv arr base i = false))
      (Q := fun c st' => st' = st ∧ ∃ hi, c = (none, hi, hi) ∧ hi ≤ n ∧ (∀ i, i < hi → bey left kv arr base i = true) ∧ (∀ i, hi ≤ i → i < n → bey left kv arr base i = false)) ?step ?fin ⟨rfl, lo, hi, rfl, hle, hhn, Nat.le_trans (Nat.add_le_add_right hhn 0) (Nat.le_add_left _ _), h1, h2⟩) ?post)
    case step =>
      rintro x c st' _ hx ⟨rfl, lo, hi, rfl, hle, hhn, hms, h1, h2⟩
      by_cases hlt : lo < hi
      · refine f1 x lo hi _ hlt hhn ?_
        dsimp only
        have hmid := mid_in hlt
        cases e : bey left kv arr base (lo + (hi - lo) / 2) with
        | true =>
          rw [if_pos rfl]
          exact ⟨rfl, _, _, rfl, hmid.2, hhn, mid_up hms hmid.1, fun i hi' => hm i _ (Nat.le_of_lt_succ hi') (Nat.lt_of_lt_of_le hmid.2 hhn) e, h2⟩
        | false =>
          rw [if_neg Bool.false_ne_true]
          exact ⟨rfl, _, _, rfl, hmid.1, Nat.le_of_lt (Nat.lt_of_lt_of_le hmid.2 hhn), mid_dn hms hmid.2, h1, fun i hi1 hi2 => hmf _ i hi1 hi2 e⟩
      · refine f2 x lo hi _ hlt ?_
        dsimp only
        have : lo = hi := Nat.le_antisymm hle (Nat.le_of_not_lt hlt)
        subst this
        exact ⟨rfl, lo, rfl, hhn, h1, h2⟩
    case fin =>
      rintro c st' ⟨rfl, lo, hi, rfl, hle, hhn, hms, h1, h2⟩
      have : lo = hi := at_end hms hle
      subst this
      exact ⟨rfl, lo, rfl, hhn, h1, h2⟩
    case post =>
      rintro c st' ⟨rfl, hi, rfl, hhn, h1, h2⟩
      refine wpS_mono (hk2 hi hi) fun r st' hr => ?_
      obtain ⟨rfl, rfl⟩ := hr
      exact h hi hhn h1 h2
  refine wpS_bind (bey_at (left := left) hk hkey H (by (exact Nat.lt_of_lt_of_le (Nat.add_lt_add_left (by assumption) _) (by assumption))) ?_)
  cases e0 : bey left kv arr base hint with
  | true =>
    dsimp only
    rw [if_pos rfl]
    refine wpS_bind (wpS_mono (wpS_forRange (a := 0) (b := n) (I := fun x c st' => st' = st ∧ ∃ lo ofs, c = (none, lo, ofs) ∧ lo < ofs ∧ hint + lo < n ∧ x + 1 ≤ ofs ∧ bey left kv arr base (hint + lo) = true)
      (Q := fun c st' => st' = st ∧ ∃ lo ofs, c = (none, lo, ofs) ∧ lo < ofs ∧ hint + lo < n ∧ bey left kv arr base (hint + lo) = true ∧ (n - hint ≤ ofs ∨ bey left kv arr base (hint + ofs) = false)) ?step ?fin ⟨rfl, 0, 1, rfl, by (clear e0 hh hn; (exact Nat.lt_succ_self _)), by (clear e0 hn; omega), by (clear e0 hh hn; (exact Nat.lt_succ_self _)), e0⟩) ?post)
    case step =>
      rintro x c st' _ hx ⟨rfl, lo, ofs, rfl, h1, h2, h3, h4⟩
      dsimp only
      by_cases hge : ofs ≥ n - hint
      · rw [if_pos hge]
        exact wpS_pure ⟨rfl, lo, ofs, rfl, h1, h2, h4, .inl hge⟩
      · rw [if_neg hge]
        refine wpS_bind (bey_at (left := left) hk hkey H (by (clear h4 h3 h2 h1 hx e0 hh; omega)) ?_)
        cases e : bey left kv arr base (hint + ofs) with
        | true => exact wpS_pure ⟨rfl, ofs, 2 * ofs + 1, rfl, by (clear e hge h4 h3 h2 h1 hx e0 hh hn; lia), by (clear e h4 h3 h2 h1 hx e0 hh hn; omega), by (clear e hge h4 h2 h1 hx e0 hh hn; lia), e⟩
        | false => exact wpS_pure ⟨rfl, lo, ofs, rfl, h1, h2, h4, .inr e⟩
    case fin =>
      rintro c st' ⟨rfl, lo, ofs, rfl, h1, h2, h3, h4⟩
      exact ⟨rfl, lo, ofs, rfl, h1, h2, h4, .inl (by (clear h4 h2 h1 e0 hh hn; lia))⟩
    case post =>
      rintro c st' ⟨rfl, lo, ofs, rfl, h1, h2, h4, h5⟩
      dsimp only
      refine last _ _ _ _ ?f1 ?f2 ?f3 ?g1 ?g2 ?g3 ?g4
      case f3 => intro lo hi; exact wpS_pure ⟨rfl, rfl⟩
      case f2 => intro x lo hi Q' hlt hq; dsimp only; rw [if_pos (by (exact Nat.le_of_not_lt (by assumption)))]; exact wpS_pure hq
      case f1 =>
        intro x lo hi Q' hlt hhn hq
        dsimp only
        rw [if_neg (Nat.not_le_of_lt hlt)]
        refine wpS_bind (bey_at (left := left) hk hkey H (Nat.lt_of_lt_of_le (Nat.add_lt_add_left (Nat.lt_of_lt_of_le (mid_in hlt).2 hhn) _) hn) ?_)
        cases e : bey left kv arr base (lo + (hi - lo) / 2) with
        | true => rw [e, if_pos rfl] at hq; exact wpS_pure hq
        | false => rw [e, if_neg Bool.false_ne_true] at hq; exact wpS_pure hq
      case g1 => (clear h5 h4 e0 hh hn; lia)
      case g2 => (clear h5 h4 h2 h1 e0 hn; lia)
      case g3 => exact fun i hi => hm i (hint + lo) (by (exact Nat.le_of_lt_succ (by assumption))) h2 h4
      case g4 =>
        intro i hi1 hi2
        rcases h5 with h5 | h5
        · (clear h4 h2 h1 e0 hh hn; omega)
        · rcases Nat.lt_or_ge ofs (n - hint) with h6 | h6
          · exact hmf (hint + ofs) i (by (clear h6 h5 h4 h2 h1 e0 hh hn; lia)) hi2 h5
          · (clear h5 h4 h2 h1 e0 hh hn; omega)
  | false =>
    dsimp only
    rw [if_neg Bool.false_ne_true]
    refine wpS_bind (wpS_mono (wpS_forRange (a := 0) (b := n) (I := fun x c st' => st' = st ∧ ∃ lo ofs, c = (none, lo, ofs) ∧ lo < ofs ∧ lo ≤ hint ∧ x + 1 ≤ ofs ∧ bey left kv arr base (hint - lo) = false)
      (Q := fun c st' => st' = st ∧ ∃ lo ofs, c = (none, lo, ofs) ∧ lo < ofs ∧ lo ≤ hint ∧ bey left kv arr base (hint - lo) = false ∧ (hint + 1 ≤ ofs ∨ bey left kv arr base (hint - ofs) = true)) ?step ?fin ⟨rfl, 0, 1, rfl, by (clear e0 hh hn; (exact Nat.lt_succ_self _)), by (clear e0 hh hn; (exact Nat.zero_le _)), by (clear e0 hh hn; (exact Nat.lt_succ_self _)), e0⟩) ?post)
    case step =>
      rintro x c st' _ hx ⟨rfl, lo, ofs, rfl, h1, h2, h3, h4⟩
      dsimp only
      by_cases hge : ofs ≥ hint + 1
      · rw [if_pos hge]
        exact wpS_pure ⟨rfl, lo, ofs, rfl, h1, h2, h4, .inl hge⟩
      · rw [if_neg hge]
        refine wpS_bind (bey_at (left := left) hk hkey H (by (clear hge h4 h3 h2 h1 hx e0; omega)) ?_)
        cases e : bey left kv arr base (hint - ofs) with
        | true => exact wpS_pure ⟨rfl, lo, ofs, rfl, h1, h2, h4, .inr e⟩
        | false => exact wpS_pure ⟨rfl, ofs, 2 * ofs + 1, rfl, by (clear e hge h4 h3 h2 h1 hx e0 hh hn; omega), by (exact Nat.le_of_not_lt (by assumption)), by (clear e hge h4 h2 h1 hx e0 hh hn; omega), e⟩
    case fin =>
      rintro c st' ⟨rfl, lo, ofs, rfl, h1, h2, h3, h4⟩
      exact ⟨rfl, lo, ofs, rfl, h1, h2, h4, .inl (by (exact Nat.lt_trans (by assumption) (by assumption)))⟩
    case post =>
      rintro c st' ⟨rfl, lo, ofs, rfl, h1, h2, h4, h5⟩
      dsimp only
      refine last _ _ _ _ ?f1 ?f2 ?f3 ?g1 ?g2 ?g3 ?g4
      case f3 => intro lo hi; exact wpS_pure ⟨rfl, rfl⟩
      case f2 => intro x lo hi Q' hlt hq; dsimp only; rw [if_pos (by (exact Nat.le_of_not_lt (by assumption)))]; exact wpS_pure hq
      case f1 =>
        intro x lo hi Q' hlt hhn hq
        dsimp only
        rw [if_neg (Nat.not_le_of_lt hlt)]
        refine wpS_bind (bey_at (left := left) hk hkey H (Nat.lt_of_lt_of_le (Nat.add_lt_add_left (Nat.lt_of_lt_of_le (mid_in hlt).2 hhn) _) hn) ?_)
        cases e : bey left kv arr base (lo + (hi - lo) / 2) with
        | true => rw [e, if_pos rfl] at hq; exact wpS_pure hq
        | false => rw [e, if_neg Bool.false_ne_true] at hq; exact wpS_pure hq
      case g1 => (clear h5 h4 h2 e0 hh hn; omega)
      case g2 => (clear h5 h4 h2 h1 e0 hn; omega)
      case g3 =>
        intro i hi
        rcases h5 with h5 | h5
        · (clear h4 h2 h1 e0 hh hn; omega)
        · rcases Nat.lt_or_ge ofs (hint + 1) with h6 | h6
          · exact hm i (hint - ofs) (by (clear h6 h5 h4 h2 h1 e0 hh hn; omega)) (by (clear h6 h5 hi h4 h2 h1 e0 hn; omega)) h5
          · (clear h5 h4 h2 h1 e0 hh hn; omega)
      case g4 => exact fun i hi1 hi2 => hmf (hint - lo) i hi1 hi2 h4
end
end Mine
end -- WSort1
section -- WSort2
open PySem PySem.W PySem.Calls PySem.Spec PyProof.Rows
set_option maxRecDepth 100000
namespace Mine
def ky (p : Keyed) : Int := numOf p.1
theorem ky_at {xs : Array Keyed} {i : Nat} {p : Keyed} (h : xs[i]? = some p) : ky p = K xs i := by
  unfold ky K; rw [h]
def Asc (l : List Keyed) : Prop := l.Pairwise fun x y => ky x ≤ ky y
/-- what a merge from the left has made so far -/
structure MInv (a b out : Array Keyed) (ia ib : Nat) : Prop where
  la : ia < a.size
  lb : ib ≤ b.size
  perm : (out.toList ++ (a.toList.drop ia ++ b.toList.drop ib)).Perm (a.toList ++ b.toList)
  asc : Asc out.toList
  toA : ∀ x ∈ out.toList, ky x ≤ K a ia
  toB : ib < b.size → ∀ x ∈ out.toList, ky x ≤ K b ib
def MRes (a b r : Array Keyed) : Prop := r.toList.Perm (a.toList ++ b.toList) ∧ Asc r.toList
section
variable {a b out : Array Keyed} {ia ib : Nat}
theorem drop_some {xs : Array Keyed} {i : Nat} {p : Keyed} (h : xs[i]? = some p) : xs.toList.drop i = p :: xs.toList.drop (i + 1) := by
  have hi : i < xs.size := by
    rcases Nat.lt_or_ge i xs.size with h' | h'
    · exact h'
    · rw [Array.getElem?_eq_none h'] at h; cases h
  rw [List.drop_eq_getElem_cons (by simpa using hi)]
  congr 1
  have := Array.getElem?_eq_getElem hi
  rw [h] at this
  simpa using (Option.some.inj this).symm
theorem asc_push {l : List Keyed} {p : Keyed} (h : Asc l) (hp : ∀ x ∈ l, ky x ≤ ky p) : Asc (l ++ [p]) := by
  unfold Asc at h ⊢
  rw [List.pairwise_append]
  exact ⟨h, List.pairwise_singleton _ _, fun x hx y hy => by rw [List.mem_singleton.mp hy]; exact hp x hx⟩
theorem MInv.pushB {p : Keyed} (H : MInv a b out ia ib) (hsb : SortedTo b b.size) (hp : b[ib]? = some p) (hlt : ib < b.size) (hle : K b ib ≤ K a ia) : MInv a b (out.push p) ia (ib + 1) := by
  have hk := ky_at hp
  refine ⟨H.la, hlt, ?_, ?_, ?_, ?_⟩
  · refine List.Perm.trans ?_ H.perm
    rw [Array.toList_push, drop_some hp, List.append_assoc]
    refine List.Perm.append_left _ ?_
    show (p :: (a.toList.drop ia ++ b.toList.drop (ib + 1))).Perm _
    exact List.perm_middle.symm
  · rw [Array.toList_push]
    exact asc_push H.asc fun x hx => by rw [hk]; exact H.toB hlt x hx
  · intro x hx
    rw [Array.toList_push] at hx
    rcases List.mem_append.mp hx with hx | hx
    · exact H.toA x hx
    · rw [List.mem_singleton.mp hx, hk]; exact hle
  · intro h2 x hx
    have hs := hsb ib (ib + 1) (by (clear hx h2 hk hle hlt; (exact Nat.le_succ _))) h2
    rw [Array.toList_push] at hx
    rcases List.mem_append.mp hx with hx | hx
    · exact Int.le_trans (H.toB hlt x hx) hs
    · rw [List.mem_singleton.mp hx, hk]; exact hs
theorem MInv.pushA {p : Keyed} (H : MInv a b out ia ib) (hsa : SortedTo a a.size) (hp : a[ia]? = some p) (h1 : ia + 1 < a.size) (hle : ib < b.size → K a ia ≤ K b ib) : MInv a b (out.push p) (ia + 1) ib := by
  have hk := ky_at hp
  have hs := hsa ia (ia + 1) (by (clear hk hle h1; (exact Nat.le_succ _))) h1
  refine ⟨h1, H.lb, ?_, ?_, ?_, ?_⟩
  · refine List.Perm.trans ?_ H.perm
    rw [Array.toList_push, drop_some hp, List.append_assoc]
    exact List.Perm.refl _
  · rw [Array.toList_push]
    exact asc_push H.asc fun x hx => by rw [hk]; exact H.toA x hx
  · intro x hx
    rw [Array.toList_push] at hx
    rcases List.mem_append.mp hx with hx | hx
    · exact Int.le_trans (H.toA x hx) hs
    · rw [List.mem_singleton.mp hx, hk]; exact hs
  · intro h2 x hx
    rw [Array.toList_push] at hx
    rcases List.mem_append.mp hx with hx | hx
    · exact H.toB h2 x hx
    · rw [List.mem_singleton.mp hx, hk]; exact hle h2
theorem extract_push {xs : Array Keyed} {i k : Nat} (h : i + k < xs.size) : xs.extract i (i + (k + 1)) = (xs.extract i (i + k)).push xs[i + k] := by
  rw [← Nat.add_assoc, Array.push_extract_getElem, Nat.min_eq_left (by (clear h; (exact Nat.le_add_right _ _)))] <;> omega
theorem MInv.appA (H : MInv a b out ia ib) (hsa : SortedTo a a.size) (hlt : ib < b.size) : ∀ k : Nat, ia + k < a.size → (∀ i, i < k → K a (ia + i) ≤ K b ib) → MInv a b (out ++ a.extract ia (ia + k)) (ia + k) ib
  | 0, _, _ => by
    have : out ++ a.extract ia (ia + 0) = out := by simp; (clear hlt; lia)
    rw [this]
    exact H
  | k + 1, hk, hle => by
    have ih := MInv.appA H hsa hlt k (by (clear hlt; (exact Nat.le_of_lt (by assumption)))) fun i hi => hle i (by (clear hk hlt; lia))
    have e : out ++ a.extract ia (ia + (k + 1)) = (out ++ a.extract ia (ia + k)).push (a[ia + k]'(by (clear hlt; (exact Nat.le_of_lt (by assumption))))) := by
      rw [extract_push (by (clear hlt; (exact Nat.le_of_lt (by assumption)))), Array.append_push]
    rw [e]
    exact ih.pushA hsa (getElem?_pos _ _ _) (by (clear hlt; omega)) fun _ => hle k (by (clear hlt; (exact Nat.lt_succ_self _)))
theorem MInv.appB (H : MInv a b out ia ib) (hsb : SortedTo b b.size) : ∀ k : Nat, ib + k ≤ b.size → (∀ i, i < k → K b (ib + i) ≤ K a ia) → MInv a b (out ++ b.extract ib (ib + k)) ia (ib + k)
  | 0, _, _ => by
    have : out ++ b.extract ib (ib + 0) = out := by simp; lia
    rw [this]
    exact H
  | k + 1, hk, hle => by
    have ih := MInv.appB H hsb k (by (exact Nat.le_of_lt (by assumption))) fun i hi => hle i (by (clear hk; lia))
    have e : out ++ b.extract ib (ib + (k + 1)) = (out ++ b.extract ib (ib + k)).push (b[ib + k]'(by assumption)) := by
      rw [extract_push (by assumption), Array.append_push]
    rw [e]
    exact ih.pushB hsb (getElem?_pos _ _ _) (by omega) (hle k (by (exact Nat.lt_succ_self _)))
theorem asc_drop {xs : Array Keyed} (h : SortedTo xs xs.size) (i : Nat) : Asc (xs.toList.drop i) := by
  unfold Asc
  refine List.Pairwise.sublist (List.drop_sublist _ _) ?_
  rw [List.pairwise_iff_getElem]
  intro i j hi hj hij
  have h1 := ky_at (xs := xs) (i := i) (p := xs.toList[i]) (by simp at hi ⊢)
  have h2 := ky_at (xs := xs) (i := j) (p := xs.toList[j]) (by simp at hj ⊢)
  rw [h1, h2]
  exact h i j (Nat.le_of_lt hij) (by simpa using hj)
theorem mem_drop_K {xs : Array Keyed} {i : Nat} {p : Keyed} (h : p ∈ xs.toList.drop i) : ∃ j, i ≤ j ∧ j < xs.size ∧ ky p = K xs j := by
  obtain ⟨j, hj, rfl⟩ := List.mem_iff_getElem.mp h
  rw [List.length_drop] at hj
  rw [List.getElem_drop]
  refine ⟨i + j, by (clear h hj; (exact Nat.le_add_right _ _)), by simp at hj ⊢; (clear h; omega), ?_⟩
  exact ky_at (by simp at hj ⊢)
theorem asc_app {l m : List Keyed} (h : Asc l) (k : Asc m) (x : ∀ p ∈ l, ∀ q ∈ m, ky p ≤ ky q) : Asc (l ++ m) := by
  unfold Asc at h k ⊢
  exact List.pairwise_append.mpr ⟨h, k, x⟩
theorem extract_drop {xs : Array Keyed} {i : Nat} : (xs.extract i xs.size).toList = xs.toList.drop i := by
  simp
  exact List.take_of_length_le (by simp)
theorem MInv.done (H : MInv a b out ia ib) (hsa : SortedTo a a.size) (he : ib = b.size) : MRes a b (out ++ a.extract ia a.size ++ b.extract ib b.size) := by
  subst he
  have e : (out ++ a.extract ia a.size ++ b.extract b.size b.size).toList = out.toList ++ a.toList.drop ia := by
    rw [Array.toList_append, Array.toList_append, extract_drop, extract_drop]
    simp
  have hp := H.perm
  rw [List.drop_of_length_le (by simp : b.toList.length ≤ b.size), List.append_nil] at hp
  refine ⟨by rw [e]; exact hp, ?_⟩
  rw [e]
  refine asc_app H.asc (asc_drop hsa _) fun p hp q hq => ?_
  obtain ⟨j, h1, h2, h3⟩ := mem_drop_K hq
  rw [h3]
  exact Int.le_trans (H.toA p hp) (hsa ia j h1 h2)
theorem MInv.lastA (H : MInv a b out ia ib) (hsb : SortedTo b b.size) (he : ia + 1 = a.size) (hl : ∀ i, i < b.size → K b i ≤ K a (a.size - 1)) : MRes a b (out ++ b.extract ib b.size ++ a.extract ia a.size) := by
  have e : (out ++ b.extract ib b.size ++ a.extract ia a.size).toList = out.toList ++ (b.toList.drop ib ++ a.toList.drop ia) := by
    rw [Array.toList_append, Array.toList_append, extract_drop, extract_drop, List.append_assoc]
  have hx : ∀ q ∈ a.toList.drop ia, ky q = K a ia := fun q hq => by
    obtain ⟨j, h1, h2, h3⟩ := mem_drop_K hq
    rw [h3, show j = ia by (clear h3 hq; lia)]
  have hl' : ∀ i, i < b.size → K b i ≤ K a ia := fun i hi => by rw [show ia = a.size - 1 by (clear hi; lia)]; exact hl i hi
  refine ⟨by rw [e]; exact (List.Perm.append_left _ List.perm_append_comm).trans H.perm, ?_⟩
  rw [e]
  refine asc_app H.asc (asc_app (asc_drop hsb _) ?_ fun p hp q hq => ?_) fun p hp q hq => ?_
  · unfold Asc
    rw [List.pairwise_iff_getElem]
    intro i j hi hj hij
    rw [List.length_drop] at hj
    simp at hj
    lia
  · obtain ⟨j, h1, h2, h3⟩ := mem_drop_K hp
    rw [h3, hx q hq]
    exact hl' j h2
  · rcases List.mem_append.mp hq with hq | hq
    · obtain ⟨j, h1, h2, h3⟩ := mem_drop_K hq
      rw [h3]
      exact Int.le_trans (H.toB (by (clear h3 hq hp he; (exact Nat.lt_of_le_of_lt (by assumption) (by assumption)))) p hp) (hsb ib j h1 h2)
    · rw [hx q hq]; exact H.toA p hp
end
end Mine
end -- WSort2
section -- WSort3
open PySem PySem.W PySem.Calls PySem.Spec PyProof.Rows
set_option maxRecDepth 100000
set_option maxHeartbeats 2000000
namespace Mine
def mergeLo9 : Array Keyed → Array Keyed → StateT SortSt Sem (Array Keyed) := sortPriv% PySem.Builtin.mergeLo
/-- the same state but for the count that starts a gallop -/
structure GSt (st st' : SortSt) : Prop where
  kind : kindOf st' = kindOf st
  arr : arrOf st' = arrOf st
  pend : pendingOf st' = pendingOf st
  failed : failedOf st' = failedOf st
theorem GSt.refl {st : SortSt} : GSt st st := ⟨rfl, rfl, rfl, rfl⟩
theorem GSt.trans {s1 s2 s3 : SortSt} (h : GSt s1 s2) (k : GSt s2 s3) : GSt s1 s3 := ⟨k.kind.trans h.kind, k.arr.trans h.arr, k.pend.trans h.pend, k.failed.trans h.failed⟩
theorem GSt.set {st : SortSt} (n : Nat) : GSt st (SortSt.mk' (kindOf st) (arrOf st) (pendingOf st) n (failedOf st)) := ⟨rfl, rfl, rfl, rfl⟩
theorem bey_mono {left : Bool} {kv : Int} {xs : Array Keyed} {base n : Nat} (hs : SortedTo xs xs.size) (hn : base + n ≤ xs.size) : ∀ i j, i ≤ j → j < n → bey left kv xs base j = true → bey left kv xs base i = true := by
  intro i j hij hj h
  have h1 := hs (base + i) (base + j) (by (clear h hj hn; (exact Nat.add_le_add_left (by assumption) _))) (by (clear h hij; (exact Nat.lt_of_lt_of_le (Nat.add_lt_add_left (by assumption) _) (by assumption))))
  unfold bey at h ⊢
  cases left with
  | true =>
    simp only [if_true, decide_eq_true_eq] at h ⊢
    (clear hj hij hn; (exact Int.lt_of_le_of_lt (by assumption) (by assumption)))
  | false =>
    simp only [Bool.false_eq_true, if_false, Bool.not_eq_true', decide_eq_false_iff_not] at h ⊢
    (clear hj hij hn; lia)
theorem bey_true {kv : Int} {xs : Array Keyed} {base i : Nat} : (bey true kv xs base i = true ↔ K xs (base + i) < kv) ∧ (bey true kv xs base i = false ↔ ¬ K xs (base + i) < kv) := by
  unfold bey; simp
theorem bey_false {kv : Int} {xs : Array Keyed} {base i : Nat} : (bey false kv xs base i = true ↔ ¬ kv < K xs (base + i)) ∧ (bey false kv xs base i = false ↔ kv < K xs (base + i)) := by
  unfold bey; simp
section
variable {prog : Program} {w : World} {A : Around} {E : Value → Shared → Prop} {s : Shared}
/-- what a loop of the merge hands on -/
def MOut (a b : Array Keyed) (R : Nat) (r : Option (Array Keyed)) (out : Array Keyed) (ia ib : Nat) : Prop := match r with
  | some m => MRes a b m
  | none => MInv a b out ia ib ∧ ib < b.size ∧ ia + 1 < a.size ∧ R ≤ ia + ib
theorem fit {i n : Nat} (h : i < n) : i + (n - i) ≤ n := Nat.le_of_eq (Nat.add_sub_cancel' (Nat.le_of_lt h))
theorem wpS_ifjp {α : Type} {c : Prop} [Decidable c] {jp : PUnit → Nat → StateT SortSt Sem α} {n m : Nat} {Q : α → SortSt → Prop} {st : SortSt} (h : ∀ n, wpS (model prog w) A E s (jp ⟨⟩ n) Q st) :
    wpS (model prog w) A E s (if c then jp ⟨⟩ n else jp ⟨⟩ m) Q st := by split <;> exact h _
theorem wpS_useJ {α : Type} (P : Array Keyed → Nat → Prop) {jp : PUnit → Array Keyed → Nat → StateT SortSt Sem α} {m : StateT SortSt Sem α} {Q : α → SortSt → Prop} {st : SortSt}
    (hJ : ∀ o i, P o i → wpS (model prog w) A E s (jp ⟨⟩ o i) Q st) (h : (∀ o i, P o i → wpS (model prog w) A E s (jp ⟨⟩ o i) Q st) → wpS (model prog w) A E s m Q st) : wpS (model prog w) A E s m Q st := h hJ
theorem last_lt {a : Array Keyed} {kv : Int} {ia k : Nat} (hk : k ≤ a.size - ia) (hia : ia < a.size) (hl : kv < K a (a.size - 1)) (ht : ∀ i, i < k → bey false kv a ia i = true) : ia + k < a.size := by
  rcases Nat.lt_or_ge k (a.size - ia) with h9 | h9
  · (clear hl hia hk; omega)
  · have h8 := bey_false.1.mp (ht (a.size - ia - 1) (by (clear hl hk; grind)))
    rw [show ia + (a.size - ia - 1) = a.size - 1 by (clear h8 h9 hl hk; lia)] at h8
    exact absurd hl h8
theorem wpS_get9 {α : Type} {xs : Array Keyed} {i : Nat} {k : Keyed → StateT SortSt Sem α} {Q : α → SortSt → Prop} {st : SortSt} (H : IntK xs) (h : i < xs.size)
    (hk : ∀ p t, xs[i]? = some p → p.1 = .int (K xs i) t → wpS (model prog w) A E s (k p) Q st) : wpS (model prog w) A E s (elem' xs i >>= k) Q st := by
  obtain ⟨p, t, e, ek⟩ := H.get h
  exact wpS_bind (wpS_elem9 e (hk p t e ek))
theorem wpS_ite {α : Type} {c : Prop} [Decidable c] {t e : StateT SortSt Sem α} {Q : α → SortSt → Prop} {st : SortSt} (hp : c → wpS (model prog w) A E s t Q st) (hn : ¬ c → wpS (model prog w) A E s e Q st) :
    wpS (model prog w) A E s (if c then t else e) Q st := by
  by_cases h : c
  · rw [if_pos h]; exact hp h
  · rw [if_neg h]; exact hn h
theorem wpS_iteq {α : Type} {i n : Nat} {t e : StateT SortSt Sem α} {Q : α → SortSt → Prop} {st : SortSt} (hp : i = n → wpS (model prog w) A E s t Q st) (hn : ¬ i = n → wpS (model prog w) A E s e Q st) :
    wpS (model prog w) A E s (if (i == n) = true then t else e) Q st := wpS_ite (fun h => hp (by simpa using h)) fun h => hn (by simpa using h)
theorem wpS_itdec {α : Type} {c : Prop} [Decidable c] {t e : StateT SortSt Sem α} {Q : α → SortSt → Prop} {st : SortSt} (hp : c → wpS (model prog w) A E s t Q st) (hn : ¬ c → wpS (model prog w) A E s e Q st) :
    wpS (model prog w) A E s (if decide c = true then t else e) Q st := wpS_ite (fun h => hp (of_decide_eq_true h)) fun h => hn (by simpa using h)
abbrev CA := Option (Array Keyed) × Array Keyed × Nat × Nat × Nat
abbrev CB := Option (Array Keyed) × Array Keyed × Nat × Nat × Nat × Nat
abbrev CC := Option (Array Keyed) × Array Keyed × Nat × Nat × Nat × Nat × Nat
abbrev MIa (a b : Array Keyed) (st : SortSt) (R : Nat) (c : CA) (st' : SortSt) : Prop := GSt st st' ∧ ∃ out ia ib mg, c = (none, out, ia, ib, mg) ∧ MOut a b R none out ia ib
abbrev MQa (a b : Array Keyed) (st : SortSt) (c : CA) (st' : SortSt) : Prop := GSt st st' ∧ ∃ m out ia ib mg, c = (some m, out, ia, ib, mg) ∧ MRes a b m
abbrev MIb (a b : Array Keyed) (st : SortSt) (R : Nat) (c : CB) (st' : SortSt) : Prop := st' = st ∧ ∃ out ia ib ac bc, c = (none, out, ia, ib, ac, bc) ∧ MOut a b R none out ia ib
abbrev MQb (a b : Array Keyed) (st : SortSt) (R : Nat) (c : CB) (st' : SortSt) : Prop := st' = st ∧ ∃ r out ia ib ac bc, c = (r, out, ia, ib, ac, bc) ∧ MOut a b R r out ia ib
abbrev MIc (a b : Array Keyed) (st : SortSt) (R : Nat) (c : CC) (st' : SortSt) : Prop := GSt st st' ∧ ∃ out ia ib mg ac bc, c = (none, out, ia, ib, mg, ac, bc) ∧ MOut a b R none out ia ib
abbrev MQc (a b : Array Keyed) (st : SortSt) (R : Nat) (c : CC) (st' : SortSt) : Prop := GSt st st' ∧ ∃ r out ia ib mg ac bc, c = (r, out, ia, ib, mg, ac, bc) ∧ MOut a b R r out ia ib
theorem MIa.use {a b : Array Keyed} {st st' : SortSt} {R : Nat} {c : CA} {G : CA → SortSt → Prop} (H : MIa a b st R c st') (h : ∀ out ia ib mg, GSt st st' → MInv a b out ia ib → ib < b.size → ia + 1 < a.size → R ≤ ia + ib → G (none, out, ia, ib, mg) st') : G c st' := by
  obtain ⟨g, out, ia, ib, mg, rfl, M, hb, ha, hr⟩ := H
  exact h _ _ _ _ g M hb ha hr
theorem MIb.use {a b : Array Keyed} {st st' : SortSt} {R : Nat} {c : CB} {G : CB → SortSt → Prop} (H : MIb a b st R c st') (h : ∀ out ia ib ac bc, MInv a b out ia ib → ib < b.size → ia + 1 < a.size → R ≤ ia + ib → G (none, out, ia, ib, ac, bc) st) : G c st' := by
  obtain ⟨rfl, out, ia, ib, ac, bc, rfl, M, hb, ha, hr⟩ := H
  exact h _ _ _ _ _ M hb ha hr
theorem MQb.use {a b : Array Keyed} {st st' : SortSt} {R : Nat} {c : CB} {G : CB → SortSt → Prop} (H : MQb a b st R c st') (hm : ∀ m out ia ib ac bc, MRes a b m → G (some m, out, ia, ib, ac, bc) st)
    (h : ∀ out ia ib ac bc, MInv a b out ia ib → ib < b.size → ia + 1 < a.size → R ≤ ia + ib → G (none, out, ia, ib, ac, bc) st) : G c st' := by
  obtain ⟨rfl, r, out, ia, ib, ac, bc, rfl, M⟩ := H
  cases r with
  | some m => exact hm _ _ _ _ _ _ M
  | none => exact h _ _ _ _ _ M.1 M.2.1 M.2.2.1 M.2.2.2
theorem MIc.use {a b : Array Keyed} {st st' : SortSt} {R : Nat} {c : CC} {G : CC → SortSt → Prop} (H : MIc a b st R c st') (h : ∀ out ia ib mg ac bc, GSt st st' → MInv a b out ia ib → ib < b.size → ia + 1 < a.size → R ≤ ia + ib → G (none, out, ia, ib, mg, ac, bc) st') : G c st' := by
  obtain ⟨g, out, ia, ib, mg, ac, bc, rfl, M, hb, ha, hr⟩ := H
  exact h _ _ _ _ _ _ g M hb ha hr
theorem MQc.use {a b : Array Keyed} {st st' : SortSt} {R : Nat} {c : CC} {G : CC → SortSt → Prop} (H : MQc a b st R c st') (hm : ∀ m out ia ib mg ac bc, GSt st st' → MRes a b m → G (some m, out, ia, ib, mg, ac, bc) st')
    (h : ∀ out ia ib mg ac bc, GSt st st' → MOut a b R none out ia ib → G (none, out, ia, ib, mg, ac, bc) st') : G c st' := by
  obtain ⟨g, r, out, ia, ib, mg, ac, bc, rfl, M⟩ := H
  cases r with
  | some m => exact hm _ _ _ _ _ _ _ g M
  | none => exact h _ _ _ _ _ _ g M
theorem ib_step {x y ia ib : Nat} (h : x + 1 + y ≤ ia + ib) : x + 1 + (y + 1) ≤ ia + (ib + 1) ∧ x + 1 + 1 ≤ ia + (ib + 1) := by omega
theorem ia_step {x y ia ib : Nat} (h : x + 1 + y ≤ ia + ib) : x + 1 + (y + 1) ≤ ia + 1 + ib ∧ x + 1 + 1 ≤ ia + 1 + ib := by omega
theorem add_more {R ia ib k : Nat} (h : R ≤ ia + ib) : R ≤ ia + k + ib ∧ R ≤ ia + (ib + 1 + k) := by omega
theorem no_end {x n m ia ib : Nat} (h : n + m + x ≤ ia + ib) (hb : ib < m) (ha : ia + 1 < n) : False := by omega
theorem no_beg {x n m ia ib : Nat} (h : x + (n + m) ≤ ia + ib) (hb : ib < m) (ha : ia + 1 < n) : False := by omega
theorem left_lt {i k n : Nat} (h : i + k < n) : k < n - i := by omega
theorem fit2 {i n k : Nat} (h : i < n) (hk : k ≤ n - i) : i + k ≤ n := by omega
theorem wpS_mergeLo {a b : Array Keyed} {st : SortSt} {Q : Array Keyed → SortSt → Prop} (hk : kindOf st = oneType') (Ha : IntK a) (Hb : IntK b) (hsa : SortedTo a a.size) (hsb : SortedTo b b.size) (h1 : 0 < a.size) (h2 : 0 < b.size)
    (hlt : K b 0 < K a 0) (hl : ∀ i, i < b.size → K b i < K a (a.size - 1)) (h : ∀ r st', GSt st st' → MRes a b r → Q r st') : wpS (model prog w) A E s (mergeLo9 a b) Q st := by
  have hl' : ∀ i, i < b.size → K b i ≤ K a (a.size - 1) := fun i hi => Int.le_of_lt (hl i hi)
  refine wpS_bind (wpS_lift (wpAny_rule ⟨rfl, ?_⟩))
  refine wpS_get9 Hb h2 fun p0 t0 e0 k0 => ?_
  have M0 : MInv a b #[p0] 0 1 := by
    have H : MInv a b #[] 0 0 := ⟨h1, Nat.zero_le _, List.Perm.refl _, List.Pairwise.nil, fun x hx => absurd hx List.not_mem_nil, fun _ x hx => absurd hx List.not_mem_nil⟩
    exact H.pushB hsb e0 h2 (Int.le_of_lt hlt)
  clear e0 k0
  refine wpS_iteq (fun c1 => wpS_pure (h _ _ .refl (M0.done hsa c1))) fun c1 => ?_
  refine wpS_iteq (fun c2 => wpS_pure (h _ _ .refl (M0.lastA hsb c2 hl'))) fun c2 => ?_
  refine wpS_bind (wpS_get ?_)
  refine wpS_bind (wpS_mono (wpS_forRange (a := 0) (b := a.size + b.size) (I := fun x c st' => MIa a b st (x + 1) c st') (Q := fun c st' => MQa a b st c st') ?step ?fin ⟨.refl, _, _, _, _, rfl, M0, Nat.lt_of_le_of_ne h2 c1, Nat.lt_of_le_of_ne h1 c2, Nat.le_refl _⟩) ?post)
  case fin => exact fun c st' H => H.use (G := fun _ _ => _) fun out ia ib mg _ _ hb ha hr => (no_end (x := 1) (by simpa using hr) hb ha).elim
  case post =>
    rintro c st' ⟨G, m, out, ia, ib, mg, rfl, M⟩
    exact wpS_pure (h _ _ G M)
  case step =>
    intro x c st1 _ hx H
    clear M0 c1 c2 hlt h1 h2 h
    apply MIa.use H
    intro out ia ib mg G M hb ha hr
    clear H
    try dsimp -zeta only
    have hk1 : kindOf st1 = oneType' := G.kind.trans hk
    -- one by one
    refine wpS_bind (wpS_mono (wpS_forRange (a := 0) (b := a.size + b.size) (I := fun y c st' => MIb a b st1 (x + 1 + y) c st') (Q := fun c st' => MQb a b st1 (x + 1 + 1) c st') ?step1 ?fin1 ⟨rfl, _, _, _, _, _, rfl, M, hb, ha, hr⟩) ?post1)
    case fin1 => exact fun c st' H => H.use fun out ia ib ac bc _ hb ha hr => (no_beg (x := x + 1) (by simpa using hr) hb ha).elim
    case step1 =>
      intro y c st' _ hy H
      apply MIb.use H
      intro out ia ib ac bc M hb ha hr
      clear H
      try dsimp -zeta only
      refine wpS_get9 Hb hb fun p t e ek => wpS_get9 Ha M.la fun q u e' ek' => wpS_bind (wpS_lt9 hk1 ek ek' ?_)
      dsimp -zeta only
      refine wpS_itdec (fun c3 => ?_) fun c3 => ?_
      · refine wpS_bind (wpS_elem9 e ?_)
        have M1 := M.pushB hsb e hb (Int.le_of_lt c3)
        refine wpS_iteq (fun c4 => wpS_pure ⟨rfl, _, _, _, _, _, _, rfl, M1.done hsa c4⟩) fun c4 => ?_
        exact wpS_ite (fun _ => wpS_pure ⟨rfl, _, _, _, _, _, _, rfl, M1, Nat.lt_of_le_of_ne hb c4, ha, (ib_step hr).2⟩) fun _ => wpS_pure ⟨rfl, _, _, _, _, _, rfl, M1, Nat.lt_of_le_of_ne hb c4, ha, (ib_step hr).1⟩
      · refine wpS_bind (wpS_elem9 e' ?_)
        have M1 := M.pushA hsa e' ha fun _ => Int.not_lt.mp c3
        refine wpS_iteq (fun c4 => wpS_pure ⟨rfl, _, _, _, _, _, _, rfl, M1.lastA hsb c4 hl'⟩) fun c4 => ?_
        exact wpS_ite (fun _ => wpS_pure ⟨rfl, _, _, _, _, _, _, rfl, M1, hb, Nat.lt_of_le_of_ne ha c4, (ia_step hr).2⟩) fun _ => wpS_pure ⟨rfl, _, _, _, _, _, rfl, M1, hb, Nat.lt_of_le_of_ne ha c4, (ia_step hr).1⟩
    case post1 =>
      intro c st' H
      clear M hb ha hr
      apply MQb.use H
      · exact fun m out ia ib ac bc M => wpS_pure ⟨G, _, _, _, _, _, rfl, M⟩
      intro out ia ib ac bc M hb ha hr
      clear H
      try dsimp -zeta only
      refine wpS_bind (wpS_lift (wpAny_rule ⟨rfl, ?_⟩))
      -- in leaps
      refine wpS_bind (wpS_mono (wpS_forRange (a := 0) (b := a.size + b.size) (I := fun y c st' => MIc a b st (x + 1 + 1) c st') (Q := fun c st' => MQc a b st (x + 1 + 1) c st') ?step2 ?fin2 ⟨G, _, _, _, _, _, _, rfl, M, hb, ha, hr⟩) ?post2)
      case fin2 =>
        rintro c st' ⟨G, out, ia, ib, mg, ac, bc, rfl, M⟩
        exact ⟨G, _, _, _, _, _, _, _, rfl, M⟩
      case post2 =>
        intro c st' H
        apply MQc.use H
        · exact fun m out ia ib mg ac bc G M => wpS_pure ⟨G, _, _, _, _, _, rfl, M⟩
        · exact fun out ia ib mg ac bc G M => wpS_bind (wpS_modify (wpS_pure ⟨G.trans (.set _), _, _, _, _, rfl, M⟩))
      case step2 =>
        intro y c st2 _ hy H
        clear M hb ha hr G
        apply MIc.use H
        intro out ia ib mg ac bc G M hb ha hr
        clear H
        have hk9 : ∀ n : Nat, kindOf (SortSt.mk' (kindOf st2) (arrOf st2) (pendingOf st2) n (failedOf st2)) = oneType' := fun n => G.kind.trans hk
        have G9 : ∀ n : Nat, GSt st (SortSt.mk' (kindOf st2) (arrOf st2) (pendingOf st2) n (failedOf st2)) := fun n => G.trans (GSt.set n)
        extract_lets -underBinder +onlyGivenNames s1 out1 s2 ia1 s3 ib1 s4 mg1 s5 ac1 bc1 jp
        refine wpS_ifjp (jp := jp) fun n => ?_
        subst jp bc1 ac1 s5 mg1 s4 ib1 s3 ia1 s2 out1 s1
        dsimp -zeta only
        refine wpS_bind (wpS_modify ?_)
        refine wpS_get9 Hb hb fun p t e ek => ?_
        have ha1 := Nat.lt_of_succ_lt ha
        refine wpS_bind (wpS_gallop (left := false) (hk9 _) ek Ha (fit ha1) (Nat.sub_pos_of_lt ha1) (bey_mono hsa (fit ha1)) fun k hn ht hf => ?_)
        dsimp -zeta only
        have hka := last_lt hn ha1 (hl ib hb) ht
        have hnx := bey_false.2.mp (hf k (Nat.le_refl _) (left_lt hka))
        clear hf hn
        extract_lets -underBinder +onlyGivenNames k9 jp
        refine wpS_useJ (jp := jp) (fun o i => MInv a b o i ib ∧ i + 1 < a.size ∧ x + 1 + 1 ≤ i + ib ∧ K b ib < K a i) ?_ fun J => ?_
        · clear hka hnx ht M ha ha1 hr
          intro o i H
          have M2 := H.1.pushB hsb e hb (Int.le_of_lt H.2.2.2)
          subst jp k9
          dsimp -zeta only
          refine wpS_bind (wpS_elem9 e ?_)
          extract_lets -underBinder +onlyGivenNames o1 ib1
          subst ib1 o1
          refine wpS_iteq (fun c4 => wpS_pure ⟨G9 _, _, _, _, _, _, _, _, rfl, M2.done hsa c4⟩) fun c4 => ?_
          have hb2 : ib + 1 < b.size := Nat.lt_of_le_of_ne hb c4
          refine wpS_get9 Ha M2.la fun q u e' ek' => ?_
          refine wpS_bind (wpS_gallop (left := true) (hk9 _) ek' Hb (fit hb2) (Nat.sub_pos_of_lt hb2) (bey_mono hsb (fit hb2)) fun k2 hn2 ht2 hf2 => ?_)
          dsimp -zeta only
          extract_lets -underBinder +onlyGivenNames k8 jp
          refine wpS_useJ (jp := jp) (fun o j => MInv a b o i j ∧ j < b.size ∧ x + 1 + 1 ≤ i + j ∧ K a i ≤ K b j) ?_ fun J => ?_
          · clear ht2 hf2 hn2 M2
            intro o j H2
            have M4 := H2.1.pushA hsa e' H.2.1 fun _ => H2.2.2.2
            have hr2 := (ia_step (x := x) (y := 1) H2.2.2.1).2
            subst jp k8
            dsimp -zeta only
            refine wpS_bind (wpS_elem9 e' ?_)
            extract_lets -underBinder +onlyGivenNames o1 ia1
            subst ia1 o1
            refine wpS_iteq (fun c7 => wpS_pure ⟨G9 _, _, _, _, _, _, _, _, rfl, M4.lastA hsb c7 hl'⟩) fun c7 => ?_
            exact wpS_ite (fun _ => wpS_pure ⟨G9 _, _, _, _, _, _, _, _, rfl, M4, H2.2.1, Nat.lt_of_le_of_ne H.2.1 c7, hr2⟩) fun _ => wpS_pure ⟨G9 _, _, _, _, _, _, _, rfl, M4, H2.2.1, Nat.lt_of_le_of_ne H.2.1 c7, hr2⟩
          · have hle := fit2 hb2 hn2
            have hge : ib + 1 + k2 < b.size → K a i ≤ K b (ib + 1 + k2) := fun h => Int.not_lt.mp (bey_true.2.mp (hf2 k2 (Nat.le_refl _) (left_lt h)))
            have hr2 := (add_more (k := k2) H.2.2.1).2
            clear_value jp
            refine wpS_ite (fun _ => ?_) fun c5 => ?_
            · have M3 := M2.appB hsb k2 hle fun i hi => Int.le_of_lt (bey_true.1.mp (ht2 i hi))
              extract_lets -underBinder +onlyGivenNames o1 ib1
              subst ib1 o1
              refine wpS_iteq (fun c6 => wpS_pure ⟨G9 _, _, _, _, _, _, _, _, rfl, M3.done hsa c6⟩) fun c6 => ?_
              exact J _ _ ⟨M3, Nat.lt_of_le_of_ne hle c6, hr2, hge (Nat.lt_of_le_of_ne hle c6)⟩
            · have c50 : k2 = 0 := Nat.eq_zero_of_not_pos c5
              subst c50
              exact J _ _ ⟨M2, hb2, hr2, hge hb2⟩
        · have hr2 := (add_more (k := k) hr).1
          clear_value jp
          refine wpS_ite (fun _ => ?_) fun ck => ?_
          · have M1 := M.appA hsa hb k hka fun i hi => Int.not_lt.mp (bey_false.1.mp (ht i hi))
            extract_lets -underBinder +onlyGivenNames o1 ia1
            subst ia1 o1
            refine wpS_iteq (fun c3 => wpS_pure ⟨G9 _, _, _, _, _, _, _, _, rfl, M1.lastA hsb c3 hl'⟩) fun c3 => ?_
            refine wpS_iteq (fun c9 => absurd c9 (Nat.ne_of_lt hka)) fun _ => ?_
            exact J _ _ ⟨M1, Nat.lt_of_le_of_ne hka c3, hr2, hnx⟩
          · have ck0 : k = 0 := Nat.eq_zero_of_not_pos ck
            subst ck0
            exact J _ _ ⟨M, ha, hr2, hnx⟩
end
end Mine
end -- WSort3
section -- WSort4
open PySem PySem.W PySem.Calls PySem.Spec PyProof.Rows
set_option maxRecDepth 100000
set_option maxHeartbeats 2000000
namespace Mine
/-- in the midst of a sort -/
structure TB (a₀ : Array Keyed) (st : SortSt) : Prop where
  perm : (arrOf st).Perm a₀
  kind : kindOf st = oneType'
  failed : failedOf st = none
def SIn (xs : Array Keyed) (lo hi : Nat) : Prop := ∀ i j, lo ≤ i → i ≤ j → j < hi → K xs i ≤ K xs j
def KOut (xs ys : Array Keyed) (lo hi : Nat) : Prop := ∀ i, (i < lo ∨ hi ≤ i) → K ys i = K xs i
def KNodup (xs : Array Keyed) : Prop := (xs.toList.map ky).Nodup
theorem TB.size {a₀ : Array Keyed} {st : SortSt} (h : TB a₀ st) : (arrOf st).size = a₀.size := h.perm.size_eq
theorem TB.intK {a₀ : Array Keyed} {st : SortSt} (h : TB a₀ st) (h0 : IntKeys a₀) : IntK (arrOf st) := by
  intro i hi
  have hm : (arrOf st)[i] ∈ a₀.toList := (Array.perm_iff_toList_perm.mp h.perm).mem_iff.mp (by simp)
  obtain ⟨n, t, hn⟩ := h0 _ hm
  refine ⟨t, ?_⟩
  have e := ky_at (getElem?_pos (arrOf st) i hi)
  unfold ky at e
  rw [hn] at e ⊢
  rw [← e]
  rfl
theorem TB.set {a₀ : Array Keyed} {st : SortSt} (h : TB a₀ st) {xs : Array Keyed} (hp : xs.Perm (arrOf st)) : TB a₀ (setArr st xs) := ⟨hp.trans h.perm, h.kind, h.failed⟩
theorem KNodup.perm {xs ys : Array Keyed} (h : KNodup xs) (p : ys.Perm xs) : KNodup ys := by
  unfold KNodup at h ⊢
  exact ((Array.perm_iff_toList_perm.mp p).map ky).nodup_iff.mpr h
theorem KNodup.ne {xs : Array Keyed} (h : KNodup xs) {i j : Nat} (hij : i < j) (hj : j < xs.size) : K xs i ≠ K xs j := by
  have h1 := ky_at (getElem?_pos xs i (by (exact Nat.lt_trans (by assumption) (by assumption))))
  have h2 := ky_at (getElem?_pos xs j hj)
  have := List.pairwise_iff_getElem.mp h i j (by simp; (clear h2 h1; (exact Nat.lt_trans (by assumption) (by assumption)))) (by simpa using hj) hij
  simp only [List.getElem_map] at this
  rw [← h1, ← h2]
  simpa using this
section
variable {prog : Program} {w : World} {A : Around} {E : Value → Shared → Prop} {s : Shared} {a₀ : Array Keyed}
theorem wpS_ltAt9 {st : SortSt} {i j : Nat} {Q : Option Bool → SortSt → Prop} (hB : TB a₀ st) (h0 : IntKeys a₀) (hi : i < a₀.size) (hj : j < a₀.size) (h : Q (some (decide (K (arrOf st) i < K (arrOf st) j))) st) :
    wpS (model prog w) A E s (ltAt' i j) Q st := by
  obtain ⟨p, t, e1, k1⟩ := (hB.intK h0).get (i := i) (by rw [hB.size]; exact hi)
  obtain ⟨q, u, e2, k2⟩ := (hB.intK h0).get (i := j) (by rw [hB.size]; exact hj)
  have e1' : (arrOf st)[i]? = some (.int (K (arrOf st) i) t, p.2) := by rw [e1, ← k1]
  have e2' : (arrOf st)[j]? = some (.int (K (arrOf st) j) u, q.2) := by rw [e2, ← k2]
  exact wpS_ltAt hB.kind e1' e2' h
theorem wpS_binarySort9 {st : SortSt} {lo n ok : Nat} {Q : Bool → SortSt → Prop} (h0 : IntKeys a₀) (hn : lo + n ≤ a₀.size) (hok : ok ≤ n) (hB : TB a₀ st) (hs : SIn (arrOf st) lo (lo + ok))
    (h : ∀ st', TB a₀ st' → pendingOf st' = pendingOf st → SIn (arrOf st') lo (lo + n) → KOut (arrOf st) (arrOf st') lo (lo + n) → Q true st') : wpS (model prog w) A E s (binarySort' lo n ok) Q st := by
  rw [binarySort'_eq]
  refine wpS_bind (wpS_mono (wpS_forRange (I := fun k c st' => c = (none, ()) ∧ TB a₀ st' ∧ pendingOf st' = pendingOf st ∧ SIn (arrOf st') lo (lo + min k n) ∧ KOut (arrOf st) (arrOf st') lo (lo + n))
    (Q := fun c st' => c = (none, ()) ∧ TB a₀ st' ∧ pendingOf st' = pendingOf st ∧ SIn (arrOf st') lo (lo + n) ∧ KOut (arrOf st) (arrOf st') lo (lo + n)) ?step ?fin ?init) ?post)
  case post =>
    rintro c st' ⟨rfl, hB', hp, hs', hk⟩
    exact wpS_pure (h st' hB' hp hs' hk)
  case init =>
    refine ⟨rfl, hB, rfl, fun i j h1 hij hj => ?_, fun _ _ => rfl⟩
    by_cases h2 : ok = 0
    · have : i = j := by (clear hok hn; lia)
      subst this; exact Int.le_refl _
    · exact hs i j h1 hij (by (clear hij h1 hok hn; lia))
  case fin =>
    rintro c st' ⟨hc, hB', hp, hs', hk⟩
    refine ⟨hc, hB', hp, ?_, hk⟩
    rwa [show min (max (max ok 1) n) n = n from Nat.min_eq_right (Nat.le_max_right _ _)] at hs'
  case step =>
    rintro k c st' hak hkn ⟨rfl, hB', hp, hs', hko⟩
    rw [show min k n = k from Nat.min_eq_left (Nat.le_of_lt hkn)] at hs'
    refine wpS_bind (wpS_mono (wpS_forRange (I := fun x c st'' => st'' = st' ∧ ∃ l r, c = (none, l, r) ∧ l ≤ r ∧ r ≤ k ∧ r + x ≤ l + k ∧
        (∀ i, i < l → K (arrOf st') (lo + i) ≤ K (arrOf st') (lo + k)) ∧ (∀ i, r ≤ i → i < k → K (arrOf st') (lo + k) < K (arrOf st') (lo + i)))
      (Q := fun c st'' => st'' = st' ∧ ∃ l r, c = (none, l, r) ∧ l ≤ k ∧
        (∀ i, i < l → K (arrOf st') (lo + i) ≤ K (arrOf st') (lo + k)) ∧ (∀ i, l ≤ i → i < k → K (arrOf st') (lo + k) < K (arrOf st') (lo + i))) ?istep ?ifin ?iinit) ?ipost)
    case iinit => exact ⟨rfl, 0, k, rfl, by (clear hkn hak hok hn; (exact Nat.zero_le _)), by (clear hkn hak hok hn; (exact Nat.le_refl _)), by (clear hkn hak hok hn; (exact Nat.le_add_left _ _)), fun i hi => by (clear hkn hak hok hn; (exact Nat.not_lt_zero _ (by assumption) |>.elim)), fun i h1 h2 => by (clear hkn hak hok hn; grind)⟩
    case ifin =>
      rintro c st'' ⟨rfl, l, r, rfl, hlr, hrk, hm, hlo, hhi⟩
      have : l = r := by (clear hrk hkn hak hok hn; lia)
      subst this
      exact ⟨rfl, l, l, rfl, hrk, hlo, hhi⟩
    case istep =>
      rintro x c st'' _ hxk ⟨rfl, l, r, rfl, hlr, hrk, hm, hlo, hhi⟩
      dsimp only
      refine wpS_ite (fun hge => ?_) fun hge => ?_
      · skip
        have : l = r := by (clear hm hrk hxk hkn hak hok hn; (exact Nat.le_antisymm (by assumption) (by assumption)))
        subst this
        exact wpS_pure ⟨rfl, l, l, rfl, hrk, hlo, hhi⟩
      · refine wpS_bind (wpS_ltAt9 hB' h0 (by (clear hge hm hrk hlr hxk hak hok; (exact Nat.lt_of_lt_of_le (Nat.add_lt_add_left (by assumption) _) (by assumption)))) (by (clear hge hm hxk hak hok; lia)) ?_)
        dsimp only
        refine wpS_itdec (fun hless => ?_) fun hless => ?_
        · skip
          refine wpS_pure ⟨rfl, l, (l + r) / 2, rfl, by (clear hless hge hm hrk hxk hkn hak hok hn; lia), by (clear hless hge hm hxk hkn hak hok hn; lia), by (clear hless hge hrk hlr hkn hak hok hn; lia), hlo, fun i h1 h2 => ?_⟩
          exact Int.lt_of_lt_of_le hless (hs' _ _ (by (clear h2 h1 hless hge hm hrk hlr hxk hkn hak hok hn; (exact Nat.le_add_right _ _))) (by (clear h2 hless hge hm hrk hlr hxk hkn hak hok hn; (exact Nat.add_le_add_left (by assumption) _))) (by (clear h1 hless hge hm hrk hlr hxk hkn hak hok hn; (exact Nat.add_lt_add_left (by assumption) _))))
        · skip
          refine wpS_pure ⟨rfl, (l + r) / 2 + 1, r, rfl, by (clear hless hm hrk hlr hxk hkn hak hok hn; lia), by (clear hless hge hm hlr hxk hkn hak hok hn; omega), by (clear hless hge hrk hlr hkn hak hok hn; lia), fun i h1 => ?_, hhi⟩
          exact Int.le_trans (hs' (lo + i) (lo + (l + r) / 2) (by (clear h1 hless hge hm hrk hlr hxk hkn hak hok hn; (exact Nat.le_add_right _ _))) (by (clear hless hge hm hrk hlr hxk hkn hak hok hn; lia)) (by (clear h1 hless hm hlr hxk hkn hak hok hn; lia))) (Int.not_lt.mp hless)
    case ipost =>
      rintro c st'' ⟨rfl, l, r, rfl, hlk, hlo, hhi⟩
      show wpS _ _ _ _ (do moveDown' (lo + k) (lo + l); pure (ForInStep.yield (none, ()))) _ _
      rw [moveDown'_eq]
      have hks : lo + k < (arrOf st'').size := by rw [hB'.size]; (clear hlk hak hok; (exact Nat.lt_of_lt_of_le (Nat.add_lt_add_left (by assumption) _) (by assumption)))
      have hd : (lo + k) - (lo + l) ≤ lo + k := by (clear hks hlk hkn hak hok hn; (exact Nat.sub_le _ _))
      refine wpS_bind (wpS_modify (wpS_pure ⟨rfl, hB'.set (bubble_perm _ _ _), hp, ?_, ?_⟩))
      · rw [show min (k + 1) n = k + 1 from Nat.min_eq_left hkn]
        intro i j h1 hij hj
        show K (bubble (arrOf st'') (lo + k) ((lo + k) - (lo + l))) i ≤ K (bubble (arrOf st'') (lo + k) ((lo + k) - (lo + l))) j
        obtain ⟨i, rfl⟩ : ∃ i', i = lo + i' := ⟨i - lo, by (clear hj hij hd hks hlk hkn hak hok hn; grind)⟩
        obtain ⟨j, rfl⟩ : ∃ j', j = lo + j' := ⟨j - lo, by (clear h1 hj hd hks hlk hkn hak hok hn; lia)⟩
        rw [K_bubble hks hd, K_bubble hks hd, show lo + k - (lo + k - (lo + l)) = lo + l from Nat.sub_sub_self (Nat.add_le_add_left hlk lo)]
        have e1 : ∀ z, 0 < z → lo + z - 1 = lo + (z - 1) := fun z hz => by (clear hij hj h1 hd hks hlk hkn hak hok hn; (exact Nat.add_sub_assoc (by assumption) _))
        repeat' split
        all_goals first
          | (exfalso; (clear h1 hd hks hlk hkn hak hok hn; (first | (lia) | omega)))
          | exact Int.le_refl _
          | exact hlo _ (by (clear hj h1 hd hks hlk hkn hak hok hn; lia))
          | exact Int.le_of_lt (hhi _ (by omega) (by omega))
          | exact hs' _ _ (by (clear hij hj h1 hd hks hlk hkn hak hok hn; (first | (lia) | omega))) (by (clear hj h1 hd hks hlk hkn hak hok hn; omega)) (by (clear hij h1 hd hks hkn hak hok hn; omega))
          | (rw [e1 _ (by (clear hij hj h1 hd hks hlk hkn hak hok hn; lia))]; exact hlo _ (by omega))
          | (rw [e1 _ (by (clear hij hj h1 hd hks hlk hkn hak hok hn; lia))]; exact Int.le_of_lt (hhi _ (by (clear hij hj h1 hd hks hlk hkn hak hok hn; omega)) (by (clear hij hj h1 hd hks hlk hkn hak hok hn; lia))))
      · intro i hi
        show K (bubble (arrOf st'') (lo + k) ((lo + k) - (lo + l))) i = K (arrOf st) i
        rw [K_bubble hks hd, if_neg (by (clear hd hks hlk hak hok hn; omega)), if_neg (by (clear hd hks hlk hak hok hn; omega))]
        exact hko i hi
end
end Mine
end -- WSort4
section -- WSort5
open PySem PySem.W PySem.Calls PySem.Spec PyProof.Rows
set_option maxRecDepth 100000
set_option maxHeartbeats 2000000
namespace Mine
/-- what a run looks like in the array as it was: d items fall, the others rise -/
def Shape (xs : Array Keyed) (lo d n : Nat) : Prop := d ≤ n ∧ (∀ i, i + 1 < d → K xs (lo + i + 1) < K xs (lo + i)) ∧ (∀ i, d ≤ i → i + 1 < n → K xs (lo + i) < K xs (lo + i + 1))
section
variable {prog : Program} {w : World} {A : Around} {E : Value → Shared → Prop} {s : Shared} {a₀ : Array Keyed}
theorem rise_of {xs : Array Keyed} {lo n : Nat} (h : SIn xs lo (lo + n)) (hd : KNodup xs) (hn : lo + n ≤ xs.size) : ∀ i, 0 ≤ i → i + 1 < n → K xs (lo + i) < K xs (lo + i + 1) := by
  intro i _ hi
  have h1 := h (lo + i) (lo + i + 1) (by (clear hi hn; (exact Nat.le_add_right _ _))) (by (clear hi hn; (exact Nat.le_succ _))) (by (clear hn; (exact Nat.add_lt_add_left (by assumption) _)))
  have h2 := hd.ne (i := lo + i) (j := lo + i + 1) (by (clear h1 hi hn; (exact Nat.lt_succ_self _))) (by (clear h1; lia))
  (clear hi hn; lia)
theorem sin_snoc {xs : Array Keyed} {lo n : Nat} (h : SIn xs lo (lo + n)) (h1 : 1 ≤ n) (hk : K xs (lo + n - 1) ≤ K xs (lo + n)) : SIn xs lo (lo + (n + 1)) := by
  intro i j h2 hij hj
  rcases Nat.lt_or_ge j (lo + n) with h3 | h3
  · exact h i j h2 hij h3
  · have ej : j = lo + n := by (clear hij h2 hk h1; lia)
    subst ej
    rcases Nat.lt_or_ge i (lo + n) with h4 | h4
    · exact Int.le_trans (h i (lo + n - 1) h2 (by (clear h3 hj hij h2 hk h1; omega)) (by (clear h4 h3 hj hij h2 hk; omega))) hk
    · have : i = lo + n := by (clear h3 hj h2 hk h1; (exact Nat.le_antisymm (by assumption) (by assumption)))
      subst this; exact Int.le_refl _
theorem wpS_countRun9 {st : SortSt} {lo nrem : Nat} {Q : Option Nat → SortSt → Prop} (h0 : IntKeys a₀) (hnd : KNodup a₀) (hr : 1 ≤ nrem) (hn : lo + nrem ≤ a₀.size) (hB : TB a₀ st)
    (h : ∀ n d st', TB a₀ st' → pendingOf st' = pendingOf st → 1 ≤ n → n ≤ nrem → SIn (arrOf st') lo (lo + n) → KOut (arrOf st) (arrOf st') lo (lo + n) → Shape (arrOf st) lo d n → Q (some n) st') :
    wpS (model prog w) A E s (countRun' lo nrem) Q st := by
  have hnd1 : KNodup (arrOf st) := hnd.perm hB.perm
  have hsz := hB.size
  rw [countRun'_eq]
  refine wpS_bind (wpS_mono (wpS_forRange (I := fun x c st' => st' = st ∧ c = (none, x) ∧ SIn (arrOf st) lo (lo + x))
    (Q := fun c st' => st' = st ∧ ∃ n, c = (none, n) ∧ 1 ≤ n ∧ n ≤ nrem ∧ SIn (arrOf st) lo (lo + n) ∧ (n = nrem ∨ K (arrOf st) (lo + n) < K (arrOf st) (lo + n - 1))) ?step ?fin ⟨rfl, rfl, ?init⟩) ?post)
  case init =>
    intro i j h1 h2 h3
    have : i = j := by (clear hsz hn hr; lia)
    subst this; exact Int.le_refl _
  case fin =>
    rintro c st' ⟨rfl, rfl, hs⟩
    have e : max 1 nrem = nrem := by (clear hsz hn; lia)
    rw [e] at hs ⊢
    exact ⟨rfl, nrem, rfl, hr, Nat.le_refl _, hs, .inl rfl⟩
  case step =>
    rintro x c st' h1 hx ⟨rfl, rfl, hs⟩
    dsimp only
    refine wpS_bind (wpS_ltAt9 hB h0 (by (clear hsz h1 hr; (exact Nat.lt_of_lt_of_le (Nat.add_lt_add_left (by assumption) _) (by assumption)))) (by (clear hsz h1 hr; omega)) ?_)
    dsimp only
    refine wpS_itdec (fun hl => ?_) fun hl => ?_
    · skip
      exact wpS_pure ⟨rfl, x, rfl, h1, by (clear hl hsz h1 hn hr; (exact Nat.le_of_lt (by assumption))), hs, .inr hl⟩
    · skip
      exact wpS_pure ⟨rfl, rfl, sin_snoc hs h1 (Int.not_lt.mp hl)⟩
  case post =>
    rintro c st' ⟨rfl, n, rfl, h1, h2, hs, hend⟩
    dsimp only
    have asc : Shape (arrOf st') lo 0 n := ⟨Nat.zero_le _, fun i hi => by (clear hend h2 h1 hsz hn hr; (exact Nat.not_lt_zero _ (by assumption) |>.elim)), rise_of hs hnd1 (by (clear hend h1 hr; lia))⟩
    refine wpS_iteq (fun c1 => wpS_pure (h n 0 st' hB rfl h1 h2 hs (fun _ _ => rfl) asc)) fun c1 => ?_
    have hfall : K (arrOf st') (lo + n) < K (arrOf st') (lo + n - 1) := hend.resolve_left c1
    refine wpS_ite (fun c2 => ?_) fun c2 => ?_
    · skip
      refine wpS_bind (wpS_ltAt9 hB h0 (by (clear c2 hfall c1 hend h2 h1 hsz; (exact Nat.lt_of_lt_of_le (Nat.add_lt_add_left (by assumption) _) (by assumption)))) (by (clear c2 hfall c1 hend h1 hsz; omega)) ?_)
      have hrose : K (arrOf st') lo < K (arrOf st') (lo + n - 1) := by
        have h3 := hs lo (lo + n - 1) (by (clear c2 hfall c1 hend h2 h1 hsz hn hr; (exact Nat.le_refl _))) (by (clear c2 hfall c1 hend h2 hsz hn hr; omega)) (by (clear c2 hfall c1 hend h2 hsz hn hr; omega))
        have h4 := hnd1.ne (i := lo) (j := lo + n - 1) (by (clear h3 hfall c1 hend h2 h1 hsz hn hr; omega)) (by (clear h3 c2 hfall c1 hend h1; omega))
        (clear c2 hfall c1 hend h2 h1 hsz hn hr; lia)
      dsimp only
      exact wpS_itdec (fun _ => wpS_pure (h n 0 st' hB rfl h1 h2 hs (fun _ _ => rfl) asc)) fun c9 => absurd hrose c9
    have en : n = 1 := by (clear hfall c1 hend h2 hsz hn hr; lia)
    subst en
    refine wpS_bind (wpS_lift (wpAny_rule ⟨rfl, ?_⟩))
    refine wpS_bind (wpS_mono (wpS_forRange (I := fun x c st'' => st'' = st' ∧ c = (none, x, 0) ∧ ∀ i, i + 1 < x → K (arrOf st') (lo + i + 1) < K (arrOf st') (lo + i))
      (Q := fun c st'' => st'' = st' ∧ ∃ n, c = (none, n, 0) ∧ 2 ≤ n ∧ n ≤ nrem ∧ ∀ i, i + 1 < n → K (arrOf st') (lo + i + 1) < K (arrOf st') (lo + i)) ?step2 ?fin2 ⟨rfl, rfl, ?init2⟩) ?post2)
    case init2 =>
      intro i hi
      have : i = 0 := by (clear c2 hfall c1 hend h2 h1 hsz hn hr; lia)
      subst this
      exact hfall
    case fin2 =>
      rintro c st'' ⟨rfl, rfl, hs⟩
      have e : max (1 + 1) nrem = nrem := by (clear hfall hend hsz c2 h2 h1 hn; lia)
      rw [e] at hs ⊢
      exact ⟨rfl, nrem, rfl, by (clear e hfall hend hsz c2 h2 h1 hn; (exact Nat.lt_of_le_of_ne (by assumption) (by assumption))), Nat.le_refl _, hs⟩
    case step2 =>
      rintro x c st'' h1 hx ⟨rfl, rfl, hs⟩
      dsimp only
      refine wpS_bind (wpS_ltAt9 hB h0 (by (clear hfall hend hsz h1 c2 c1 h2 hr; (exact Nat.lt_of_lt_of_le (Nat.add_lt_add_left (by assumption) _) (by assumption)))) (by (clear hfall hend hsz h1 c2 c1 h2 hr; omega)) ?_)
      dsimp only
      refine wpS_itdec (fun hl => ?_) fun hl => ?_
      · skip
        rw [if_neg (by (clear hl hfall hend hsz hx h1 c2 c1 h2 hn hr; decide))]
        refine wpS_pure ⟨rfl, rfl, fun i hi => ?_⟩
        rcases Nat.lt_or_ge (i + 1) x with h3 | h3
        · exact hs i h3
        · have : x = i + 1 := by (clear hl hfall hend hsz hx h1 c2 c1 h2 hn hr; lia)
          subst this
          exact hl
      · skip
        refine wpS_bind (wpS_ltAt9 hB h0 (by (clear hl hfall hend hsz h1 c2 c1 h2 hr; omega)) (by (clear hl hfall hend hsz h1 c2 c1 h2 hr; (exact Nat.lt_of_lt_of_le (Nat.add_lt_add_left (by assumption) _) (by assumption)))) ?_)
        have h4 := hnd1.ne (i := lo + x - 1) (j := lo + x) (by (clear hl hfall hend hsz hx c2 c1 h2 hn hr; omega)) (by (clear hl hfall hend h1 c2 c1 h2 hr; lia))
        have hg : K (arrOf st'') (lo + x - 1) < K (arrOf st'') (lo + x) := by (clear hfall hend hsz hx h1 c2 c1 h2 hn hr; lia)
        dsimp only
        refine wpS_itdec (fun _ => ?_) fun c9 => absurd hg c9
        exact wpS_pure ⟨rfl, x, rfl, h1, by (clear hg h4 hl hfall hend hsz h1 c2 c1 h2 hn hr; (exact Nat.le_of_lt (by assumption))), hs⟩
    case post2 =>
      rintro c st'' ⟨rfl, n, rfl, hn2, hnr, hs⟩
      dsimp only
      rw [if_neg (by (clear hnr hn2 hfall hend hsz c2 c1 h2 h1 hn hr; decide))]
      rw [reverseSlice'_eq]
      refine wpS_bind (wpS_modify ?_)
      have hj : lo + n ≤ (arrOf st'').size := by (clear hn2 hfall hend c2 c1 h2 h1 hr; omega)
      have hB2 : TB a₀ (setArr st'' (mirror (arrOf st'') lo (lo + n) ((lo + n - lo) / 2))) := hB.set (mirror_perm _ _ _ _)
      have hfallall : ∀ i j, i ≤ j → j < n → K (arrOf st'') (lo + j) ≤ K (arrOf st'') (lo + i) := by
        intro i j hij hj
        induction j with
        | zero =>
          have : i = 0 := by (clear hj hnr hn2 hfall hend hsz c2 c1 h2 h1 hn hr; lia)
          subst this; exact Int.le_refl _
        | succ j ih =>
          rcases Nat.lt_or_ge i (j + 1) with h5 | h5
          · exact Int.le_trans (Int.le_of_lt (hs j (by (clear h5 hij ih hnr hn2 hfall hend hsz c2 c1 h2 h1 hn hr; omega)))) (ih (by (clear hj hij ih hnr hn2 hfall hend hsz c2 c1 h2 h1 hn hr; (exact Nat.le_of_lt_succ (by assumption)))) (by (clear h5 hij ih hnr hn2 hfall hend hsz c2 c1 h2 h1 hn hr; (exact Nat.le_of_lt (by assumption)))))
          · have : i = j + 1 := by (clear hj ih hnr hn2 hfall hend hsz c2 c1 h2 h1 hn hr; (exact Nat.le_antisymm (by assumption) (by assumption)))
            subst this; exact Int.le_refl _
      have eK : ∀ k, K (mirror (arrOf st'') lo (lo + n) ((lo + n - lo) / 2)) k = if lo ≤ k ∧ k < lo + n then K (arrOf st'') (lo + (lo + n) - 1 - k) else K (arrOf st'') k := fun k => K_mirror hj k
      have hs2 : SIn (mirror (arrOf st'') lo (lo + n) ((lo + n - lo) / 2)) lo (lo + n) := by
        intro i j h5 h6 h7
        rw [eK, eK, if_pos (by (clear hj hnr hn2 hfall hend hsz c2 c1 h2 h1 hn hr; lia)), if_pos (by (clear hj hnr hn2 hfall hend hsz c2 c1 h2 h1 hn hr; lia))]
        have := hfallall (lo + n - 1 - j) (lo + n - 1 - i) (by (clear h7 h5 hj hnr hn2 hfall hend hsz c2 c1 h2 h1 hn hr; omega)) (by (clear h7 h6 hj hnr hfall hend hsz c2 c1 h2 h1 hn hr; omega))
        rwa [show lo + (lo + n - 1 - i) = lo + (lo + n) - 1 - i by (clear this h5 hj hnr hn2 hfall hend hsz c2 c1 h2 h1 hn hr; omega), show lo + (lo + n - 1 - j) = lo + (lo + n) - 1 - j by (clear this h6 h5 hj hnr hn2 hfall hend hsz c2 c1 h2 h1 hn hr; omega)] at this
      generalize hY : mirror (arrOf st'') lo (lo + n) ((lo + n - lo) / 2) = ys at *
      have hndy : KNodup ys := hnd.perm hB2.perm
      have hysz : ys.size = a₀.size := hB2.size
      refine wpS_bind (wpS_mono (wpS_forRange (I := fun x c st3 => st3 = setArr st'' ys ∧ c = (none, x) ∧ SIn ys lo (lo + x))
        (Q := fun c st3 => st3 = setArr st'' ys ∧ ∃ x, c = (none, x) ∧ n ≤ x ∧ x ≤ nrem ∧ SIn ys lo (lo + x)) ?step3 ?fin3 ⟨rfl, rfl, hs2⟩) ?post3)
      case fin3 =>
        rintro c st3 ⟨rfl, rfl, hs⟩
        have e : max n nrem = nrem := by (clear hysz hj hn2 hfall hend hsz c2 c1 h2 h1 hn hr; lia)
        rw [e] at hs ⊢
        exact ⟨rfl, nrem, rfl, hnr, Nat.le_refl _, hs⟩
      case step3 =>
        rintro x c st3 h1 hx ⟨rfl, rfl, hs⟩
        dsimp only
        refine wpS_bind (wpS_ltAt9 hB2 h0 (by (clear h1 hysz hj hnr hn2 hfall hend hsz c2 c1 h2 hr; (exact Nat.lt_of_lt_of_le (Nat.add_lt_add_left (by assumption) _) (by assumption)))) (by (clear h1 hysz hj hnr hn2 hfall hend hsz c2 c1 h2 hr; omega)) ?_)
        dsimp only
        refine wpS_itdec (fun hl => ?_) fun hl => ?_
        · skip
          exact wpS_pure ⟨rfl, x, rfl, h1, by (clear hl h1 hysz hj hnr hn2 hfall hend hsz c2 c1 h2 hn hr; (exact Nat.le_of_lt (by assumption))), hs⟩
        · skip
          exact wpS_pure ⟨rfl, rfl, sin_snoc hs (by (clear hl hx hysz hj hnr hfall hend hsz c2 c1 h2 hn hr; lia)) (Int.not_lt.mp hl)⟩
      case post3 =>
        rintro c st3 ⟨rfl, x, rfl, h5, h6, hs3⟩
        dsimp only
        refine wpS_pure (h x n _ hB2 rfl (by (clear h6 hysz hj hnr hfall hend hsz c2 c1 h2 h1 hn hr; omega)) h6 hs3 (fun i hi => ?_) ⟨h5, hs, fun i h7 h8 => ?_⟩)
        · show K ys i = _
          rw [eK, if_neg (by (clear h6 hysz hj hnr hn2 hfall hend hsz c2 c1 h2 h1 hn hr; lia))]
        · have h9 := rise_of hs3 hndy (by (clear h8 h7 h5 hj hnr hn2 hfall hend hsz c2 c1 h2 h1 hr; lia)) i (Nat.zero_le _) h8
          rw [eK, eK, if_neg (by (clear h9 h8 h6 h5 hysz hj hnr hn2 hfall hend hsz c2 c1 h2 h1 hn hr; lia)), if_neg (by (clear h9 h8 h6 h5 hysz hj hnr hn2 hfall hend hsz c2 c1 h2 h1 hn hr; lia))] at h9
          exact h9
end
end Mine
end -- WSort5
section -- WSort6
open PySem PySem.W PySem.Calls PySem.Spec PyProof.Rows
set_option maxRecDepth 100000
set_option maxHeartbeats 2000000
namespace Mine
theorem set_fold (sa : Nat) : ∀ (ps : List Keyed) (n : Nat) (xs : Array Keyed), sa + n + ps.length ≤ xs.size →
    ((ps.zipIdx n).foldl (fun a x => a.setIfInBounds (sa + x.2) x.1) xs).toList = xs.toList.take (sa + n) ++ (ps ++ xs.toList.drop (sa + n + ps.length))
  | [], n, xs, _ => by simp
  | p :: r, n, xs, h => by
    rw [List.length_cons] at h
    rw [List.zipIdx_cons, List.foldl_cons, set_fold sa r (n + 1) _ (by simp; lia)]
    have e : (xs.setIfInBounds (sa + n) p).toList = xs.toList.set (sa + n) p := by simp
    rw [e, List.length_cons]
    have e1 : (xs.toList.set (sa + n) p).take (sa + (n + 1)) = xs.toList.take (sa + n) ++ [p] := by
      rw [show sa + (n + 1) = sa + n + 1 by (clear h; rfl), List.take_add_one, List.take_set_of_le (Nat.le_refl _)]
      rw [List.getElem?_set_self (by simp; lia)]
      rfl
    have e2 : (xs.toList.set (sa + n) p).drop (sa + (n + 1) + r.length) = xs.toList.drop (sa + n + (r.length + 1)) := by
      rw [List.drop_set_of_lt (by (clear h; (exact Nat.le_add_right _ _)))]
      congr 1
      (clear h; lia)
    rw [e1, e2]
    simp
theorem K_extract {xs : Array Keyed} {i j k : Nat} (h : i + k < j) (hj : j ≤ xs.size) : K (xs.extract i j) k = K xs (i + k) := by
  apply K_congr
  rw [Array.getElem?_extract]
  rw [if_pos (by lia)]
theorem IntK.extract {xs : Array Keyed} (H : IntK xs) {i j : Nat} (hj : j ≤ xs.size) : IntK (xs.extract i j) := by
  intro k hk
  rw [Array.size_extract] at hk
  have h1 : i + k < xs.size := by (clear hj; omega)
  obtain ⟨t, e⟩ := H (i + k) h1
  refine ⟨t, ?_⟩
  rw [K_extract (by (clear hj; omega)) hj]
  simpa using e
theorem mem_K {xs : Array Keyed} {p : Keyed} (h : p ∈ xs.toList) : ∃ i, i < xs.size ∧ ky p = K xs i := by
  obtain ⟨i, hi, rfl⟩ := List.mem_iff_getElem.mp h
  exact ⟨i, by simpa using hi, ky_at (by simp at hi ⊢)⟩
theorem mem_take_K {xs : Array Keyed} {p : Keyed} {k : Nat} (h : p ∈ xs.toList.take k) : ∃ i, i < k ∧ i < xs.size ∧ ky p = K xs i := by
  obtain ⟨i, hi, rfl⟩ := List.mem_iff_getElem.mp h
  rw [List.length_take] at hi
  rw [List.getElem_take]
  exact ⟨i, by (clear h; grind), by simp at hi; (clear h; grind), ky_at (by simp at hi ⊢)⟩
theorem sin_of_asc {xs : Array Keyed} (h : Asc xs.toList) : SIn xs 0 xs.size := by
  intro i j _ hij hj
  rcases Nat.lt_or_eq_of_le hij with h1 | rfl
  · have e1 := ky_at (getElem?_pos xs i (by (clear h1; (exact Nat.lt_of_le_of_lt (by assumption) (by assumption)))))
    have e2 := ky_at (getElem?_pos xs j hj)
    have := List.pairwise_iff_getElem.mp h i j (by simp; (clear e2 e1 h1; (exact Nat.lt_of_le_of_lt (by assumption) (by assumption)))) (by simpa using hj) h1
    rw [← e1, ← e2]
    simpa using this
  · exact Int.le_refl _
theorem asc_part {xs : Array Keyed} {l : List Keyed} {lo hi : Nat} (h : SIn xs lo hi) (e : l = (xs.toList.drop lo).take (hi - lo)) : Asc l := by
  subst e
  unfold Asc
  rw [List.pairwise_iff_getElem]
  intro i j hi' hj hij
  rw [List.length_take, List.length_drop, Array.length_toList] at hj
  rw [List.getElem_take, List.getElem_take, List.getElem_drop, List.getElem_drop]
  have e1 := ky_at (xs := xs) (i := lo + i) (p := xs.toList[lo + i]'(by simp; (clear hi'; omega))) (by simp)
  have e2 := ky_at (xs := xs) (i := lo + j) (p := xs.toList[lo + j]'(by simp; (clear e1 hij hi'; omega))) (by simp)
  rw [e1, e2]
  exact h (lo + i) (lo + j) (by (clear e2 e1 hij hj hi'; (exact Nat.le_add_right _ _))) (by (clear e2 e1 hj hi'; lia)) (by (clear e2 e1 hij hi'; omega))
def mergeAt9 : Nat → StateT SortSt Sem Bool := sortPriv% PySem.Builtin.mergeAt
section
variable {prog : Program} {w : World} {A : Around} {E : Value → Shared → Prop} {s : Shared} {a₀ : Array Keyed}
theorem wpS_set9 {st st' : SortSt} {Q : PUnit → SortSt → Prop} (h : Q ⟨⟩ st') : wpS (model prog w) A E s (set st' : StateT SortSt Sem PUnit) Q st := by
  unfold wpS
  rw [StateT.run_set]
  exact wpAny_pure ⟨rfl, h⟩
theorem pend_set {p1 p2 : Nat} : ((#[(0, 32, p1), (32, 32, p2)] : Array (Nat × Nat × Nat)).setIfInBounds 0 (0, 32 + 32, p1)).eraseIdxIfInBounds (0 + 1) = #[(0, 64, p1)] := by
  first | rfl | simp
theorem wpS_mergeAt9 {st : SortSt} {p1 p2 : Nat} {Q : Bool → SortSt → Prop} (h0 : IntKeys a₀) (h64 : a₀.size = 64) (hB : TB a₀ st) (hp : pendingOf st = #[(0, 32, p1), (32, 32, p2)]) (hs1 : SIn (arrOf st) 0 32) (hs2 : SIn (arrOf st) 32 64)
    (hsym : ∀ k nb, k < 32 → nb ≤ 32 → (∀ i, i < k → ¬ K (arrOf st) 32 < K (arrOf st) i) → (∀ i, k ≤ i → i < 32 → K (arrOf st) 32 < K (arrOf st) i) →
      (∀ i, i < nb → K (arrOf st) (32 + i) < K (arrOf st) 31) → (∀ i, nb ≤ i → i < 32 → ¬ K (arrOf st) (32 + i) < K (arrOf st) 31) → 32 - k ≤ nb)
    (h : ∀ st', TB a₀ st' → pendingOf st' = #[(0, 64, p1)] → SIn (arrOf st') 0 64 → Q true st') : wpS (model prog w) A E s (mergeAt9 0) Q st := by
  obtain ⟨kd, xs, pend, mg, fl⟩ := st
  have hp' : pend = #[(0, 32, p1), (32, 32, p2)] := hp
  subst hp'
  have hs1 : SIn xs 0 32 := hs1
  have hs2 : SIn xs 32 64 := hs2
  have hsz : xs.size = 64 := by have := hB.size; rw [h64] at this; exact this
  have HI : IntK xs := hB.intK h0
  have hkd : kd = oneType' := hB.kind
  have hfl : fl = none := hB.failed
  have hperm : xs.Perm a₀ := hB.perm
  subst hfl
  refine wpS_bind (wpS_get ?_)
  dsimp only
  rw [show (#[(0, 32, p1), (32, 32, p2)] : Array (Nat × Nat × Nat))[0]? = some (0, 32, p1) from rfl, show (#[(0, 32, p1), (32, 32, p2)] : Array (Nat × Nat × Nat))[0 + 1]? = some (32, 32, p2) from rfl]
  dsimp only
  rw [pend_set]
  have hsx : SIn xs 0 64 → Q true (SortSt.mk' kd xs #[(0, 64, p1)] mg none) := fun hs => h _ ⟨hperm, hkd, rfl⟩ rfl hs
  have hst1 : ∀ i j, i ≤ j → j < 32 → K xs i ≤ K xs j := fun i j h1 h2 => hs1 i j (Nat.zero_le _) h1 h2
  have hst2 : ∀ i j, 32 ≤ i → i ≤ j → j < 64 → K xs i ≤ K xs j := hs2
  refine wpS_bind (wpS_set9 ?_)
  obtain ⟨p, t, e, ek⟩ := HI.get (i := 32) (by (clear hsx h64; lia))
  refine wpS_bind (wpS_elem9 e ?_)
  refine wpS_bind (wpS_gallop (left := false) hkd ek HI (by (clear hsx h64; lia)) (by (clear hsx hsz h64; (exact Nat.le_add_left _ _))) ?mono fun k hkn hkt hkf => ?_)
  case mono =>
    intro i j hij hj hb
    have h1 := bey_false.1.mp hb
    have h2 := hst1 (0 + i) (0 + j) (by (clear h1 hb hj hsx hsz h64; (exact Nat.add_le_add_left (by assumption) _))) (by (clear h1 hb hij hsx hsz h64; (exact Nat.add_lt_add_left (by assumption) _)))
    exact bey_false.1.mpr (by (clear hb hj hij hsx hsz h64; omega))
  have hkt' : ∀ i, i < k → ¬ K xs 32 < K xs i := fun i hi => by
    have := bey_false.1.mp (hkt i hi)
    rwa [Nat.zero_add] at this
  have hkf' : ∀ i, k ≤ i → i < 32 → K xs 32 < K xs i := fun i h1 h2 => by
    have := bey_false.2.mp (hkf i h1 h2)
    rwa [Nat.zero_add] at this
  dsimp only
  by_cases c1 : 32 - k = 0
  · rw [if_pos (by simpa using c1)]
    refine wpS_pure (hsx fun i j _ hij hj => ?_)
    rcases Nat.lt_or_ge j 32 with h1 | h1
    · exact hst1 i j hij h1
    · rcases Nat.lt_or_ge i 32 with h2 | h2
      · exact Int.le_trans (Int.not_lt.mp (hkt' i (by (clear h1 hj hij hkn hsx hsz h64; omega)))) (hst2 32 j (Nat.le_refl _) h1 hj)
      · exact hst2 i j h2 hij hj
  rw [if_neg (by simpa using c1)]
  have ei : 0 + k + (32 - k) - 1 = 31 := by (clear c1 hsx hsz h64; omega)
  rw [ei]
  obtain ⟨q, u, e', ek'⟩ := HI.get (i := 31) (by (clear ei c1 hkn hsx h64; lia))
  refine wpS_bind (wpS_elem9 e' ?_)
  refine wpS_bind (wpS_gallop (left := true) hkd ek' HI (by (clear ei c1 hkn hsx h64; lia)) (by (clear ei c1 hkn hsx hsz h64; (exact Nat.lt_succ_self _))) ?mono2 fun nb hnn hnt hnf => ?_)
  case mono2 =>
    intro i j hij hj hb
    have h1 := bey_true.1.mp hb
    have h2 := hst2 (32 + i) (32 + j) (by (clear h1 hb hj hij ei c1 hkn hsx hsz h64; (exact Nat.le_add_right _ _))) (by (clear h1 hb hj ei c1 hkn hsx hsz h64; (exact Nat.add_le_add_left (by assumption) _))) (by (clear h1 hb hij ei c1 hkn hsx hsz h64; (exact Nat.add_lt_add_left (by assumption) _)))
    exact bey_true.1.mpr (by (clear hb hj hij ei c1 hkn hsx hsz h64; (exact Int.lt_of_le_of_lt (by assumption) (by assumption))))
  have hnt' : ∀ i, i < nb → K xs (32 + i) < K xs 31 := fun i hi => bey_true.1.mp (hnt i hi)
  have hnf' : ∀ i, nb ≤ i → i < 32 → ¬ K xs (32 + i) < K xs 31 := fun i h1 h2 => bey_true.2.mp (hnf i h1 h2)
  dsimp only
  have hle : 32 - k ≤ nb := hsym k nb (by (clear hnn ei hkn hsx hsz h64; omega)) hnn hkt' hkf' hnt' hnf'
  rw [if_neg (by simp; (clear hnn ei hkn hsx hsz h64; lia)), if_pos hle]
  rw [Nat.zero_add]
  have hxs : (xs.extract k 32).size = 32 - k := by rw [Array.size_extract]; (clear hle hnn ei c1 hkn hsx h64; grind)
  have hys : (xs.extract 32 (32 + nb)).size = nb := by rw [Array.size_extract]; (clear hxs hle ei c1 hkn hsx h64; grind)
  have KX : ∀ i, k + i < 32 → K (xs.extract k 32) i = K xs (k + i) := fun i hi => K_extract hi (by (clear hi hys hxs hle hnn ei c1 hkn hsx h64; lia))
  have KY : ∀ i, i < nb → K (xs.extract 32 (32 + nb)) i = K xs (32 + i) := fun i hi => K_extract (by (clear hys hxs hle hnn ei c1 hkn hsx hsz h64; (exact Nat.add_lt_add_left (by assumption) _))) (by (clear hi hys hxs hle ei c1 hkn hsx h64; lia))
  refine wpS_bind (wpS_mergeLo hkd (HI.extract (by (clear hys hxs hle hnn ei c1 hkn hsx h64; omega))) (HI.extract (by (clear hys hxs hle ei c1 hkn hsx h64; omega))) ?a1 ?a2 (by (clear hys hle hnn ei hkn hsx hsz h64; lia)) (by (clear hxs hnn ei hkn hsx hsz h64; lia)) ?a3 ?a4 fun r st' G M => ?_)
  case a1 =>
    intro i j hij hj
    rw [hxs] at hj
    rw [KX i (by (clear hys hxs hle hnn ei c1 hkn hsx hsz h64; omega)), KX j (by (clear hij hys hxs hle hnn ei c1 hkn hsx hsz h64; omega))]
    exact hst1 _ _ (by (clear hj hys hxs hle hnn ei c1 hkn hsx hsz h64; (exact Nat.add_le_add_left (by assumption) _))) (by (clear hij hys hxs hle hnn ei c1 hkn hsx hsz h64; omega))
  case a2 =>
    intro i j hij hj
    rw [hys] at hj
    rw [KY i (by (clear hys hxs hle hnn ei c1 hkn hsx hsz h64; (exact Nat.lt_of_le_of_lt (by assumption) (by assumption)))), KY j hj]
    exact hst2 _ _ (by (clear hj hij hys hxs hle hnn ei c1 hkn hsx hsz h64; (exact Nat.le_add_right _ _))) (by (clear hj hys hxs hle hnn ei c1 hkn hsx hsz h64; (exact Nat.add_le_add_left (by assumption) _))) (by (clear hij hys hxs hle ei c1 hkn hsx hsz h64; lia))
  case a3 =>
    rw [KX 0 (by (clear hys hxs hle hnn ei hkn hsx hsz h64; omega)), KY 0 (by (clear hys hxs hnn ei hkn hsx hsz h64; lia))]
    exact hkf' k (Nat.le_refl _) (by (clear hys hxs hle hnn ei hkn hsx hsz h64; omega))
  case a4 =>
    intro i hi
    rw [hys] at hi
    rw [KY i hi, hxs, KX _ (by (clear hi hys hxs hle hnn ei hkn hsx hsz h64; omega)), show k + (32 - k - 1) = 31 by (clear hi hys hxs hle hnn ei hkn hsx hsz h64; omega)]
    exact hnt' i hi
  obtain ⟨kd', xs', pend', mg', fl'⟩ := st'
  have g1 : xs' = xs := G.arr
  have g2 : pend' = #[(0, 64, p1)] := G.pend
  have g3 : fl' = none := G.failed
  have g4 : kd' = oneType' := G.kind.trans hkd
  subst g1 g2 g3
  refine wpS_bind (wpS_modify (wpS_bind (wpS_get (wpS_pure ?_))))
  obtain ⟨M1, M2⟩ := M
  have hrl : r.toList.length = 32 - k + nb := by
    rw [M1.length_eq, List.length_append, Array.length_toList, Array.length_toList, hxs, hys]
  have hfold := set_fold k r.toList 0 xs' (by rw [hrl]; (clear hrl hys hxs hsx hle ei c1 h64; grind))
  rw [hrl, show k + 0 = k by (clear hrl hys hxs hsx hsz hle hnn ei c1 hkn h64; rfl), show k + (32 - k + nb) = 32 + nb by (clear hrl hys hxs hsx hsz hle hnn ei c1 h64; grind)] at hfold
  have eX : (xs'.extract k 32).toList = (xs'.toList.drop k).take (32 - k) := by simp
  have eY : (xs'.extract 32 (32 + nb)).toList = (xs'.toList.drop 32).take nb := by simp
  have hsplit : xs'.toList = xs'.toList.take k ++ (((xs'.toList.drop k).take (32 - k) ++ (xs'.toList.drop 32).take nb) ++ xs'.toList.drop (32 + nb)) := by
    have s1 := (List.take_append_drop k xs'.toList).symm
    have s2 := (List.take_append_drop (32 - k) (xs'.toList.drop k)).symm
    have s3 := (List.take_append_drop nb (xs'.toList.drop 32)).symm
    rw [List.drop_drop, show k + (32 - k) = 32 by (clear hrl hys hxs hsx hsz hle hnn ei c1 h64; grind)] at s2
    rw [List.drop_drop] at s3
    rw [List.append_assoc, ← s3, ← s2]
    exact s1
  generalize hFA : List.foldl (fun (a : Array Keyed) x => a.setIfInBounds (k + x.snd) x.fst) xs' r.toList.zipIdx = fa at *
  have hfa : fa.toList = xs'.toList.take k ++ (r.toList ++ xs'.toList.drop (32 + nb)) := hfold
  rw [eX, eY] at M1
  have hpf : fa.toList.Perm xs'.toList := by
    rw [hfa]
    refine List.Perm.trans ?_ (List.Perm.of_eq hsplit.symm)
    exact List.Perm.append_left _ (List.Perm.append_right _ M1)
  have hpa : fa.Perm xs' := Array.perm_iff_toList_perm.mpr hpf
  have hfs : fa.size = 64 := by rw [hpa.size_eq, hsz]
  have ascA : Asc (xs'.toList.take k) := asc_part (lo := 0) (hi := k) (fun i j h1 h2 h3 => hst1 i j h2 (by (clear h2 h1 hfs hrl hys hxs hsx hsz hle hnn ei c1 h64; (exact Nat.lt_of_lt_of_le (by assumption) (by assumption))))) (by simp)
  have ascC : Asc (xs'.toList.drop (32 + nb)) := by
    refine asc_part (lo := 32 + nb) (hi := 64) (fun i j h1 h2 h3 => hst2 i j (by (clear h3 h2 hfs hrl hys hxs hsx hsz hle hnn ei c1 hkn h64; lia)) h2 h3) ?_
    rw [List.take_of_length_le]
    rw [List.length_drop, Array.length_toList]
    (clear hfs hrl hys hxs hsx hle hnn ei c1 hkn h64; omega)
  have memM : ∀ q ∈ r.toList, (∃ j, k ≤ j ∧ j < 32 ∧ ky q = K xs' j) ∨ ∃ j, j < nb ∧ ky q = K xs' (32 + j) := by
    intro q hq
    rcases List.mem_append.mp (M1.mem_iff.mp hq) with h1 | h1
    · rw [← eX] at h1
      obtain ⟨i, h2, h3⟩ := mem_K h1
      rw [hxs] at h2
      exact .inl ⟨k + i, by (clear h3 h2 h1 hq hfs hrl hys hxs hsx hsz hle hnn ei c1 hkn h64; (exact Nat.le_add_right _ _)), by (clear h3 h1 hq hfs hrl hys hxs hsx hsz hle hnn ei c1 hkn h64; omega), by rw [h3, KX i (by (clear h3 h1 hq hfs hrl hys hxs hsx hsz hle hnn ei c1 hkn h64; omega))]⟩
    · rw [← eY] at h1
      obtain ⟨i, h2, h3⟩ := mem_K h1
      rw [hys] at h2
      exact .inr ⟨i, h2, by rw [h3, KY i h2]⟩
  have memC : ∀ q ∈ xs'.toList.drop (32 + nb), ∃ j, nb ≤ j ∧ j < 32 ∧ ky q = K xs' (32 + j) := by
    intro q hq
    obtain ⟨j, h1, h2, h3⟩ := mem_drop_K hq
    exact ⟨j - 32, by (clear h3 h2 hq hfs hrl hys hxs hsx hsz hle hnn ei c1 hkn h64; omega), by (clear h3 h1 hq hfs hrl hys hxs hsx hle hnn ei c1 hkn h64; omega), by rw [h3]; congr 1; (clear h3 h2 hq hfs hrl hys hxs hsx hsz hle hnn ei c1 hkn h64; lia)⟩
  have hall : Asc fa.toList := by
    rw [hfa]
    refine asc_app ascA (asc_app M2 ascC fun p hp q hq => ?_) fun p hp q hq => ?_
    · obtain ⟨j, h1, h2, h3⟩ := memC q hq
      rw [h3]
      rcases memM p hp with ⟨i, h4, h5, h6⟩ | ⟨i, h4, h6⟩
      · rw [h6]
        exact Int.le_trans (hst1 i 31 (by (clear h6 h4 h3 h2 h1 hq hp hfs hrl hys hxs hsx hsz hle hnn ei c1 hkn h64; (exact Nat.le_of_lt_succ (by assumption)))) (by (clear h6 h5 h4 h3 h2 h1 hq hp hfs hrl hys hxs hsx hsz hle hnn ei c1 hkn h64; (exact Nat.lt_succ_self _)))) (Int.not_lt.mp (hnf' j h1 h2))
      · rw [h6]
        exact hst2 _ _ (by (clear h6 h4 h3 h2 h1 hq hp hfs hrl hys hxs hsx hsz hle hnn ei c1 hkn h64; (exact Nat.le_add_right _ _))) (by (clear h6 h3 h2 hq hp hfs hrl hys hxs hsx hsz hle hnn ei c1 hkn h64; lia)) (by (clear h6 h4 h3 h1 hq hp hfs hrl hys hxs hsx hsz hle hnn ei c1 hkn h64; (exact Nat.add_lt_add_left (by assumption) _)))
    · obtain ⟨i, h1, h2, h3⟩ := mem_take_K hp
      rw [h3]
      rcases List.mem_append.mp hq with hq | hq
      · rcases memM q hq with ⟨j, h4, h5, h6⟩ | ⟨j, h4, h6⟩
        · rw [h6]; exact hst1 i j (by (clear h6 h5 hq h3 h2 hp hfs hrl hys hxs hsx hsz hle hnn ei c1 hkn h64; lia)) h5
        · rw [h6]; exact Int.le_trans (Int.not_lt.mp (hkt' i h1)) (hst2 32 _ (by (clear h6 h4 hq h3 h2 h1 hp hfs hrl hys hxs hsx hsz hle hnn ei c1 hkn h64; (exact Nat.lt_succ_self _))) (by (clear h6 h4 hq h3 h2 h1 hp hfs hrl hys hxs hsx hsz hle hnn ei c1 hkn h64; (exact Nat.le_add_right _ _))) (by (clear h6 hq h3 h2 h1 hp hfs hrl hys hxs hsx hsz hle ei c1 hkn h64; omega)))
      · obtain ⟨j, h4, h5, h6⟩ := memC q hq
        rw [h6]; exact Int.le_trans (Int.not_lt.mp (hkt' i h1)) (hst2 32 _ (by (clear h6 h5 h4 hq h3 h2 h1 hp hfs hrl hys hxs hsx hsz hle hnn ei c1 hkn h64; (exact Nat.lt_succ_self _))) (by (clear h6 h5 h4 hq h3 h2 h1 hp hfs hrl hys hxs hsx hsz hle hnn ei c1 hkn h64; (exact Nat.le_add_right _ _))) (by (clear h6 h4 hq h3 h2 h1 hp hfs hrl hys hxs hsx hsz hle hnn ei c1 hkn h64; (exact Nat.add_lt_add_left (by assumption) _))))
  have hsin := sin_of_asc hall
  rw [hfs] at hsin
  exact h (SortSt.mk' kd' fa #[(0, 64, p1)] mg' none) ⟨hpa.trans hperm, g4, rfl⟩ rfl hsin
end
end Mine
end -- WSort6
section -- WSort7
open PySem PySem.W PySem.Calls PySem.Spec PyProof.Rows
set_option maxRecDepth 100000
set_option maxHeartbeats 2000000
namespace Mine
def keys (xs : Array Keyed) : List Int := xs.toList.map ky
/-- behind both trims the left run is no longer than the right one -/
def Sym64 (ns : List Int) : Prop := ∀ mb ∈ ns.drop 32, (∀ y ∈ ns.drop 32, mb ≤ y) → ∀ ma ∈ ns.take 32, (∀ x ∈ ns.take 32, x ≤ ma) →
  ((ns.take 32).filter fun x => decide (mb < x)).length ≤ ((ns.drop 32).filter fun y => decide (y < ma)).length
/-- the first half rises somewhere and falls behind that -/
def UpDown (ns : List Int) : Prop := ∃ i j, i < j ∧ j + 1 < 32 ∧ ns.getD i 0 < ns.getD (i + 1) 0 ∧ ns.getD (j + 1) 0 < ns.getD j 0
theorem keys_length {xs : Array Keyed} : (keys xs).length = xs.size := by unfold keys; simp
theorem keys_get {xs : Array Keyed} {i : Nat} (h : i < xs.size) : (keys xs)[i]? = some (K xs i) := by
  unfold keys
  rw [List.getElem?_map]
  have e := getElem?_pos xs i h
  have e2 := ky_at e
  have : xs.toList[i]? = some xs[i] := by simpa using h
  rw [this, ← e2]
  rfl
theorem keys_getD {xs : Array Keyed} {i : Nat} (h : i < xs.size) : (keys xs).getD i 0 = K xs i := by
  rw [List.getD_eq_getElem?_getD, keys_get h]; rfl
theorem keys_perm {xs ys : Array Keyed} (h : xs.Perm ys) : (keys xs).Perm (keys ys) := (Array.perm_iff_toList_perm.mp h).map ky
structure Halves (a₀ xs : Array Keyed) : Prop where
  one : ((keys xs).take 32).Perm ((keys a₀).take 32)
  two : ((keys xs).drop 32).Perm ((keys a₀).drop 32)
theorem drop_same {xs ys : Array Keyed} {k : Nat} (hs : xs.size = ys.size) (h : ∀ i, k ≤ i → K ys i = K xs i) : (keys ys).drop k = (keys xs).drop k := by
  apply List.ext_getElem?
  intro i
  rw [List.getElem?_drop, List.getElem?_drop]
  rcases Nat.lt_or_ge (k + i) xs.size with h1 | h1
  · rw [keys_get h1, keys_get (by lia), h _ (by (clear h1 hs; (exact Nat.le_add_right _ _)))]
  · rw [List.getElem?_eq_none (by rw [keys_length]; lia), List.getElem?_eq_none (by rw [keys_length]; (clear hs; omega))]
theorem take_same {xs ys : Array Keyed} {k : Nat} (hs : xs.size = ys.size) (h : ∀ i, i < k → K ys i = K xs i) : (keys ys).take k = (keys xs).take k := by
  apply List.ext_getElem?
  intro i
  rw [List.getElem?_take, List.getElem?_take]
  rcases Nat.lt_or_ge i k with h0 | h0
  · rw [if_pos h0, if_pos h0]
    rcases Nat.lt_or_ge i xs.size with h1 | h1
    · rw [keys_get h1, keys_get (by (clear h0; lia)), h _ h0]
    · rw [List.getElem?_eq_none (by rw [keys_length]; (clear h0; lia)), List.getElem?_eq_none (by rw [keys_length]; (clear h0 hs; omega))]
  · rw [if_neg (by (clear hs; lia)), if_neg (by (clear hs; omega))]
theorem halves_of {a₀ x1 x2 : Array Keyed} (p1 : x1.Perm a₀) (p2 : x2.Perm a₀) (k1 : KOut a₀ x1 0 32) (k2 : KOut x1 x2 32 64) : Halves a₀ x2 := by
  have e1 : (keys x1).drop 32 = (keys a₀).drop 32 := drop_same p1.size_eq.symm fun i hi => k1 i (.inr hi)
  have e2 : (keys x2).take 32 = (keys x1).take 32 := take_same (p1.size_eq.trans p2.size_eq.symm) fun i hi => k2 i (.inl hi)
  have q1 := keys_perm p1
  rw [← List.take_append_drop 32 (keys x1), ← List.take_append_drop 32 (keys a₀), e1] at q1
  have o1 : ((keys x2).take 32).Perm ((keys a₀).take 32) := by
    rw [e2]
    exact (List.perm_append_right_iff _).mp q1
  refine ⟨o1, ?_⟩
  have q2 := keys_perm p2
  rw [← List.take_append_drop 32 (keys x2), ← List.take_append_drop 32 (keys a₀)] at q2
  exact (List.perm_append_left_iff _).mp ((List.Perm.append_right _ o1.symm).trans q2)
theorem filter_split {l1 l2 : List Int} {p : Int → Bool} (h1 : ∀ x ∈ l1, p x = false) (h2 : ∀ x ∈ l2, p x = true) : ((l1 ++ l2).filter p).length = l2.length := by
  rw [List.filter_append, List.filter_eq_nil_iff.mpr fun x hx => by rw [h1 x hx]; exact Bool.false_ne_true, List.filter_eq_self.mpr h2]
  rfl
theorem filter_split' {l1 l2 : List Int} {p : Int → Bool} (h1 : ∀ x ∈ l1, p x = true) (h2 : ∀ x ∈ l2, p x = false) : ((l1 ++ l2).filter p).length = l1.length := by
  have e2 : l2.filter p = [] := List.filter_eq_nil_iff.mpr fun x hx => by rw [h2 x hx]; exact Bool.false_ne_true
  rw [List.filter_append, e2, List.filter_eq_self.mpr h1, List.append_nil]
theorem mem_keys_take {xs : Array Keyed} {x : Int} {k : Nat} (h : x ∈ (keys xs).take k) : ∃ i, i < k ∧ i < xs.size ∧ x = K xs i := by
  unfold keys at h
  rw [← List.map_take] at h
  obtain ⟨p, hp, rfl⟩ := List.mem_map.mp h
  exact mem_take_K hp
theorem mem_keys_drop {xs : Array Keyed} {x : Int} {k : Nat} (h : x ∈ (keys xs).drop k) : ∃ i, k ≤ i ∧ i < xs.size ∧ x = K xs i := by
  unfold keys at h
  rw [← List.map_drop] at h
  obtain ⟨p, hp, rfl⟩ := List.mem_map.mp h
  exact mem_drop_K hp
theorem sym_of {a₀ xs : Array Keyed} (h64 : a₀.size = 64) (hz : xs.size = 64) (H : Halves a₀ xs) (S : Sym64 (keys a₀)) (hs1 : SIn xs 0 32) (hs2 : SIn xs 32 64) {k nb : Nat} (hk : k < 32) (hnb : nb ≤ 32)
    (h1 : ∀ i, i < k → ¬ K xs 32 < K xs i) (h2 : ∀ i, k ≤ i → i < 32 → K xs 32 < K xs i) (h3 : ∀ i, i < nb → K xs (32 + i) < K xs 31) (h4 : ∀ i, nb ≤ i → i < 32 → ¬ K xs (32 + i) < K xs 31) : 32 - k ≤ nb := by
  have gt : ∀ i, i < 64 → (keys xs)[i]? = some (K xs i) := fun i hi => keys_get (by (clear hnb hk h64; lia))
  have mA : ∀ i, i < 32 → K xs i ∈ (keys xs).take 32 := fun i hi => List.mem_iff_getElem?.mpr ⟨i, by rw [List.getElem?_take, if_pos hi, gt i (by (clear hnb hk hz h64; lia))]⟩
  have mB : ∀ i, i < 32 → K xs (32 + i) ∈ (keys xs).drop 32 := fun i hi => List.mem_iff_getElem?.mpr ⟨i, by rw [List.getElem?_drop, gt _ (by (clear hnb hk hz h64; (exact Nat.add_lt_add_left (by assumption) _)))]⟩
  have h := S (K xs 32) (H.two.mem_iff.mp (mB 0 (by (clear hnb hk hz h64; (exact Nat.le_add_left _ _))))) (fun y hy => by
    obtain ⟨i, a1, a2, rfl⟩ := mem_keys_drop (H.two.mem_iff.mpr hy)
    exact hs2 32 i (Nat.le_refl _) a1 (by (clear hy a1 hnb hk h64; lia))) (K xs 31) (H.one.mem_iff.mp (mA 31 (by (clear hnb hk hz h64; (exact Nat.lt_succ_self _))))) (fun x hx => by
    obtain ⟨i, a1, a2, rfl⟩ := mem_keys_take (H.one.mem_iff.mpr hx)
    exact hs1 i 31 (Nat.zero_le _) (by (clear hx a2 hnb hk hz h64; (exact Nat.le_of_lt_succ (by assumption)))) (by (clear hx a2 a1 hnb hk hz h64; (exact Nat.lt_succ_self _))))
  rw [← (H.one.filter _).length_eq, ← (H.two.filter _).length_eq] at h
  have eA : (keys xs).take 32 = (keys xs).take k ++ ((keys xs).take 32).drop k := by
    have := (List.take_append_drop k ((keys xs).take 32)).symm
    rwa [List.take_take, Nat.min_eq_left (by (clear h hnb hz h64; (exact Nat.le_of_lt (by assumption))))] at this
  have eB : (keys xs).drop 32 = ((keys xs).drop 32).take nb ++ ((keys xs).drop 32).drop nb := (List.take_append_drop nb _).symm
  rw [eA, eB] at h
  rw [filter_split, filter_split'] at h
  · rw [List.length_drop, List.length_take, List.length_take, List.length_drop, keys_length] at h
    (clear hnb hk h64; omega)
  · intro x hx
    obtain ⟨i, hi, rfl⟩ := List.mem_iff_getElem.mp hx
    rw [List.length_take, List.length_drop, keys_length] at hi
    have e : (List.take nb (List.drop 32 (keys xs)))[i]'(by rw [List.length_take, List.length_drop, keys_length]; (clear hx h hnb hk hz h64; omega)) = K xs (32 + i) := by
      rw [List.getElem_take, List.getElem_drop]
      exact Option.some.inj ((List.getElem?_eq_getElem _).symm.trans (gt (32 + i) (by (clear hx h hnb hk h64; omega))))
    rw [e]
    exact decide_eq_true (h3 i (by (clear e hx h hnb hk hz h64; grind)))
  · intro x hx
    rw [List.drop_drop] at hx
    obtain ⟨i, a1, a2, rfl⟩ := mem_keys_drop hx
    have := h4 (i - 32) (by (clear hx a2 h hnb hk hz h64; omega)) (by (clear hx a1 h hnb hk h64; omega))
    rw [show 32 + (i - 32) = i by (clear this hx a2 h hnb hk hz h64; lia)] at this
    exact decide_eq_false this
  · intro x hx
    obtain ⟨i, a1, a2, rfl⟩ := mem_keys_take hx
    exact decide_eq_false (h1 i a1)
  · intro x hx
    obtain ⟨i, hi, rfl⟩ := List.mem_iff_getElem.mp hx
    rw [List.length_drop, List.length_take, keys_length] at hi
    have e : (List.drop k (List.take 32 (keys xs)))[i]'(by rw [List.length_drop, List.length_take, keys_length]; (clear hx h hnb hk hz h64; omega)) = K xs (k + i) := by
      rw [List.getElem_drop, List.getElem_take]
      exact Option.some.inj ((List.getElem?_eq_getElem _).symm.trans (gt (k + i) (by (clear hx h hnb hk hz h64; omega))))
    rw [e]
    exact decide_eq_true (h2 (k + i) (by (clear e hx hi h hnb hk hz h64; (exact Nat.le_add_right _ _))) (by (clear e hx h hnb hk hz h64; omega)))
end Mine
end -- WSort7
section -- WSort8
open PySem PySem.W PySem.Calls PySem.Spec PyProof.Rows
set_option maxRecDepth 100000
set_option maxHeartbeats 2000000
namespace Mine
theorem minRun_64 : minRun' 64 64 0 = 32 := by
  rw [minRun'_succ, if_neg (by decide), minRun'_succ, if_pos (by decide)]
  decide
section
variable {prog : Program} {w : World} {A : Around} {E : Value → Shared → Prop} {s : Shared} {a₀ : Array Keyed}
def S1 (a₀ : Array Keyed) (st : SortSt) : Prop := TB a₀ st ∧ pendingOf st = #[(0, 32, 0)] ∧ SIn (arrOf st) 0 32 ∧ KOut a₀ (arrOf st) 0 32
def S2 (a₀ : Array Keyed) (st : SortSt) : Prop := TB a₀ st ∧ (∃ p, pendingOf st = #[(0, 32, p), (32, 32, 0)]) ∧ SIn (arrOf st) 0 32 ∧ SIn (arrOf st) 32 64 ∧ Halves a₀ (arrOf st)
def S3 (a₀ : Array Keyed) (st : SortSt) : Prop := TB a₀ st ∧ (∃ p, pendingOf st = #[(0, 64, p)]) ∧ SIn (arrOf st) 0 64
theorem run_short {n d : Nat} (h64 : a₀.size = 64) (hud : UpDown (keys a₀)) (hsh : Shape a₀ 0 d n) : n < 32 := by
  apply Nat.lt_of_not_le
  intro hn
  obtain ⟨i, j, hij, hj, h1, h2⟩ := hud
  rw [keys_getD (by (clear h2 h1 hn; (first | (lia) | omega))), keys_getD (by (clear h2 h1 hn; (first | (lia) | omega)))] at h1 h2
  obtain ⟨_, a1, a2⟩ := hsh
  have b1 : ¬ i + 1 < d := fun h => by
    have := a1 i h
    rw [Nat.zero_add] at this
    (clear h h2 hj hij hn h64; lia)
  have b2 := a2 j (by (clear h2 h1 hj hn h64; lia)) (by (clear b1 h2 h1 hij h64; (exact Nat.lt_of_lt_of_le (by assumption) (by assumption))))
  rw [Nat.zero_add] at b2
  (clear b1 h1 hj hij hn h64; lia)
theorem wpS_sortRuns64 {st : SortSt} {Q : Unit → SortSt → Prop} (h0 : IntKeys a₀) (hnd : KNodup a₀) (h64 : a₀.size = 64) (hB : TB a₀ st) (ha : arrOf st = a₀) (hp : pendingOf st = #[]) (hud : UpDown (keys a₀)) (hsym : Sym64 (keys a₀))
    (h : ∀ st', TB a₀ st' → SIn (arrOf st') 0 64 → Q () st') : wpS (model prog w) A E s sortRuns' Q st := by
  rw [sortRuns'_eq]
  refine wpS_bind (wpS_get ?_)
  dsimp only
  rw [hB.size.trans h64, minRun_64]
  refine wpS_bind (wpS_mono (wpS_forRange
    (I := fun x c st' => (x = 0 ∧ c = (none, 0) ∧ st' = st) ∨ (x = 1 ∧ c = (none, 32) ∧ S1 a₀ st') ∨ (2 ≤ x ∧ c = (none, 64) ∧ S2 a₀ st'))
    (Q := fun c st' => c = (none, 64) ∧ S2 a₀ st') ?step ?fin (.inl ⟨rfl, rfl, rfl⟩)) ?post)
  case fin =>
    rintro c st' (⟨hx, _, _⟩ | ⟨hx, _, _⟩ | ⟨_, hc, hD⟩)
    · (clear h64; lia)
    · (clear h64; lia)
    · exact ⟨hc, hD⟩
  case step =>
    rintro x c st' _ hx (⟨rfl, rfl, rfl⟩ | ⟨rfl, rfl, hB1, hp1, hs1, hk1⟩ | ⟨hx2, rfl, hD⟩)
    · dsimp only
      rw [if_neg (by (clear hx h64; decide))]
      refine wpS_bind (wpS_countRun9 h0 hnd (by (clear hx h64; (exact Nat.le_add_left _ _))) (by (clear hx; lia)) hB fun n d st2 hB2 hp2 hn1 hn2 hs2 hk2 hsh => ?_)
      dsimp only
      rw [ha] at hsh hk2
      rw [if_pos (run_short h64 hud hsh)]
      refine wpS_bind (wpS_lift (wpAny_rule ⟨rfl, ?_⟩))
      have hlt := run_short h64 hud hsh
      refine wpS_bind (wpS_binarySort9 (n := 32) h0 (by (clear hlt hn2 hn1 hx; lia)) (by (clear hn2 hn1 hx h64; (exact Nat.le_of_lt (by assumption)))) hB2 hs2 fun st3 hB3 hp3 hs3 hk3 => ?_)
      refine wpS_ite (fun c9 => absurd c9 (by decide)) fun _ => ?_
      refine wpS_bind (wpS_get ?_)
      have hpe : pendingOf st3 = #[] := hp3.trans (hp2.trans hp)
      have hb : (pendingOf st3).back? = none := by rw [hpe]; rfl
      rw [hb]
      dsimp only
      refine wpS_bind (wpS_modify (wpS_pure (.inr (.inl ⟨by trivial, rfl, ⟨hB3.perm, hB3.kind, hB3.failed⟩, ?_, hs3, fun i hi => ?_⟩))))
      · show (pendingOf st3).push _ = _
        rw [hpe]; rfl
      · exact (hk3 i (by (clear hlt hn2 hn1 hx h64; omega))).trans (hk2 i (by (clear hn2 hn1 hx h64; lia)))
    · dsimp only
      rw [if_neg (by (clear hx h64; decide))]
      have fin2 : ∀ st4, TB a₀ st4 → pendingOf st4 = #[(0, 32, 0)] → SIn (arrOf st4) 32 64 → KOut (arrOf st') (arrOf st4) 32 64 → S2 a₀ (setPending st4 (((pendingOf st4).modify ((pendingOf st4).size - 1) fun (x : Nat × Nat × Nat) => (x.1, x.2.1, power' 64 (2 * 0 + 32) (2 * 0 + 32 + 32 + 32) 64)).push (32, 32, 0))) := by
        intro st4 hB4 hp4 hs4 hk4
        refine ⟨⟨hB4.perm, hB4.kind, hB4.failed⟩, ⟨power' 64 (2 * 0 + 32) (2 * 0 + 32 + 32 + 32) 64, ?_⟩, fun i j h1 h2 h3 => ?_, hs4, halves_of hB1.perm hB4.perm hk1 hk4⟩
        · show ((pendingOf st4).modify ((pendingOf st4).size - 1) _).push _ = _
          rw [hp4]; rfl
        · show K (arrOf st4) i ≤ K (arrOf st4) j
          rw [hk4 i (.inl (by (clear h1 hx h64; (exact Nat.lt_of_le_of_lt (by assumption) (by assumption))))), hk4 j (.inl h3)]
          exact hs1 i j h1 h2 h3
      refine wpS_bind (wpS_countRun9 h0 hnd (by (clear hx h64; (exact Nat.le_add_left _ _))) (by (clear hx; lia)) hB1 fun n d st2 hB2 hp2 hn1 hn2 hs2 hk2 hsh => ?_)
      dsimp only
      by_cases hlt : n < 32
      · rw [if_pos hlt]
        refine wpS_bind (wpS_lift (wpAny_rule ⟨rfl, ?_⟩))
        refine wpS_bind (wpS_binarySort9 (n := 32) h0 (by (clear hlt hn2 hn1 hx; lia)) (by (clear hlt hn1 hx h64; omega)) hB2 hs2 fun st3 hB3 hp3 hs3 hk3 => ?_)
        refine wpS_ite (fun c9 => absurd c9 (by decide)) fun _ => ?_
        refine wpS_bind (wpS_get ?_)
        have hpe : pendingOf st3 = #[(0, 32, 0)] := hp3.trans (hp2.trans hp1)
        have hb : (pendingOf st3).back? = some (0, 32, 0) := by rw [hpe]; rfl
        rw [hb]
        dsimp only
        refine wpS_bind (wpS_mono (wpS_forRange (I := fun _ c st'' => st'' = st3 ∧ c = (none, ())) (Q := fun c st'' => st'' = st3 ∧ c = (none, ())) ?_ (fun _ _ hh => hh) ⟨rfl, rfl⟩) ?_)
        · rintro x c st'' _ _ ⟨rfl, rfl⟩
          refine wpS_bind (wpS_get ?_)
          rw [hpe, if_neg (by decide)]
          exact wpS_pure ⟨rfl, rfl⟩
        · rintro c st'' ⟨rfl, rfl⟩
          dsimp only
          refine wpS_bind (wpS_modify (wpS_bind (wpS_modify (wpS_pure (.inr (.inr ⟨by (clear hlt hn2 hn1 hx h64; (exact Nat.lt_succ_self _)), rfl, fin2 st'' hB3 hpe hs3 fun i hi => ?_⟩))))))
          exact (hk3 i (by (clear hlt hn2 hn1 hx h64; omega))).trans (hk2 i (by (clear hlt hn1 hx h64; lia)))
      · rw [if_neg hlt]
        have en : n = 32 := by (clear hn1 hx h64; lia)
        subst en
        refine wpS_bind (wpS_get ?_)
        have hpe : pendingOf st2 = #[(0, 32, 0)] := hp2.trans hp1
        have hb : (pendingOf st2).back? = some (0, 32, 0) := by rw [hpe]; rfl
        rw [hb]
        dsimp only
        refine wpS_bind (wpS_mono (wpS_forRange (I := fun _ c st'' => st'' = st2 ∧ c = (none, ())) (Q := fun c st'' => st'' = st2 ∧ c = (none, ())) ?_ (fun _ _ hh => hh) ⟨rfl, rfl⟩) ?_)
        · rintro x c st'' _ _ ⟨rfl, rfl⟩
          refine wpS_bind (wpS_get ?_)
          rw [hpe, if_neg (by decide)]
          exact wpS_pure ⟨rfl, rfl⟩
        · rintro c st'' ⟨rfl, rfl⟩
          dsimp only
          exact wpS_bind (wpS_modify (wpS_bind (wpS_modify (wpS_pure (.inr (.inr ⟨by (clear hlt hn2 hn1 hx h64; (exact Nat.lt_succ_self _)), rfl, fin2 st'' hB2 hpe hs2 hk2⟩))))))
    · dsimp only
      rw [if_pos (Nat.le_refl _)]
      exact wpS_pure ⟨rfl, hD⟩
  case post =>
    rintro c st' ⟨rfl, hD⟩
    dsimp only
    refine wpS_bind (wpS_mono (wpS_forRange (I := fun x c st'' => c = (none, ()) ∧ ((x = 0 ∧ S2 a₀ st'') ∨ (1 ≤ x ∧ S3 a₀ st''))) (Q := fun c st'' => c = (none, ()) ∧ S3 a₀ st'') ?_ ?_ ⟨rfl, .inl ⟨rfl, hD⟩⟩) ?_)
    · rintro x c st'' _ _ ⟨rfl, ⟨rfl, hB2, ⟨p, hp2⟩, hs1, hs2, hH⟩ | ⟨hx, hB3, ⟨p, hp3⟩, hs⟩⟩
      · refine wpS_bind (wpS_get ?_)
        rw [hp2, if_neg (by show ¬ 2 ≤ 1; decide)]
        refine wpS_bind (wpS_mergeAt9 (p1 := p) (p2 := 0) h0 h64 hB2 hp2 hs1 hs2 (fun k nb hk hnb h1 h2 h3 h4 => sym_of h64 (hB2.size.trans h64) hH hsym hs1 hs2 hk hnb h1 h2 h3 h4) fun st3 hB3 hp3 hs3 => ?_)
        refine wpS_ite (fun c9 => absurd c9 (by decide)) fun _ => ?_
        exact wpS_pure ⟨rfl, .inr ⟨by (clear h64; (exact Nat.lt_succ_self _)), hB3, ⟨p, hp3⟩, hs3⟩⟩
      · refine wpS_bind (wpS_get ?_)
        rw [hp3, if_pos (by show 1 ≤ 1; decide)]
        exact wpS_pure ⟨rfl, hB3, ⟨p, hp3⟩, hs⟩
    · rintro c st'' ⟨rfl, ⟨hx, _⟩ | ⟨_, h3⟩⟩
      · (clear h64; omega)
      · exact ⟨rfl, h3⟩
    · rintro c st'' ⟨rfl, hB3, _, hs⟩
      exact wpS_pure (h _ hB3 hs)
end
end Mine
end -- WSort8
section -- WSort9
open PySem PySem.W PySem.Calls PySem.Spec PyProof.Rows
set_option maxRecDepth 100000
set_option maxHeartbeats 2000000
namespace Mine
section
variable {prog : Program} {w : World} {A : Around} {E : Value → Shared → Prop} {s : Shared}
theorem keys_pairs {vs : List Value} {ns : List Int} (h : IntsAre vs ns) : keys (pairsOf vs) = ns := by
  have e : (pairsOf vs).toList = vs.map fun v => (v, v) := by
    unfold pairsOf
    simp
    induction vs generalizing ns with
    | nil => rfl
    | cons v r ih =>
      cases h with
      | cons n t h => simp [ih h]
  unfold keys
  rw [e, List.map_map]
  clear e
  induction h with
  | nil => rfl
  | cons n t h ih => rw [List.map_cons, ih]; rfl
/-- what a sort of 64 asks of its ints -/
structure Sort64 (ns : List Int) : Prop where
  len : ns.length = 64
  nodup : ns.Nodup
  up : UpDown ns
  sym : Sym64 ns
theorem list_sort64 {a : Addr} {vs : List Value} {ns : List Int} {n : Nat} {P : Fin → Shared → Prop} (ho : s.heap.get? a = some (seqObj "list" vs.toArray n)) (hI : IntsAre vs ns) (H : Sort64 ns)
    (h : ∀ (out : Array Value) (ns' : List Int), IntsAre out.toList ns' → ns'.Perm ns → ns'.Pairwise (· ≤ ·) → P (.done (.ret .none)) { s with heap := sortedHeap s.heap a vs out }) :
    wpAny (model prog w) A (Builtin.«list.sort» ⟨[.ref a], []⟩) P E s := by
  rw [list_sort_plain]
  have ha : a < s.heap.objs.size := Heap.lt_size ho
  have hv : vs.length = 64 := by rw [hI.length, H.len]
  have hsz : vs.toArray.size = 64 := by simp [hv]
  have hps : (pairsOf vs).size = 64 := by rw [pairsOf_size, hv]
  refine wpAny_bind (listItems_at ho rfl ?_)
  refine wpAny_bind (listUpdate_at ho rfl ?_ (hsz := by rw [hsz, sizeLine_eq]; decide))
  obtain ⟨e1, ho1⟩ : ∃ e1, (s.heap.update a (Obj.mapSeq fun _ => #[])).get? a = some (seqObj "list" #[] e1) := ⟨_, get?_update_seq ho (fun _ => #[])⟩
  refine wpAny_bind (seqEpoch_at ho1 rfl ?_)
  refine wpAny_bind (wpAny_newTuple ?_ (by simp [hv, sizeLine_eq]))
  refine wpAny_bind (wpAny_newList ?_)
  refine wpAny_holding ?_
  have ho6 : (((s.heap.update a (Obj.mapSeq fun _ => #[])).push (seqObj "tuple" vs.toArray 0)).push (seqObj "list" #[] 0)).get? a = some (seqObj "list" #[] e1) := by
    rw [Heap.get?_push_ne _ _ _ (by rw [size_push', Heap.size_update]; exact Nat.ne_of_lt (Nat.lt_succ_of_lt ha)), Heap.get?_push_ne _ _ _ (by rw [Heap.size_update]; exact Nat.ne_of_lt ha)]
    exact ho1
  show wpAny (model prog w) A _ P E { s with heap := ((s.heap.update a (Obj.mapSeq fun _ => #[])).push (seqObj "tuple" vs.toArray 0)).push (seqObj "list" #[] 0) }
  dsimp only
  have h2 : ¬ vs.toArray.size < 2 := by rw [hsz]; decide
  rw [if_neg h2, if_neg h2]
  obtain ⟨v₁, v₂, rest, rfl⟩ : ∃ v₁ v₂ rest, vs = v₁ :: v₂ :: rest := by
    match vs, hv with
    | v₁ :: v₂ :: rest, _ => exact ⟨v₁, v₂, rest, rfl⟩
  rw [keyKind_ints hI]
  refine wpAny_bind (wpAny_pure ?_)
  refine wpAny_bind (wpAny_mono (wpS_sortRuns64 (a₀ := pairsOf (v₁ :: v₂ :: rest)) (st := SortSt.mk' oneType' ((v₁ :: v₂ :: rest).toArray.zip (v₁ :: v₂ :: rest).toArray) #[] 7 none)
    (Q := fun _ st' => TB (pairsOf (v₁ :: v₂ :: rest)) st' ∧ SIn (arrOf st') 0 64)
    hI.intKeys (by unfold KNodup; show (keys _).Nodup; rw [keys_pairs hI]; exact H.nodup) hps ⟨Array.Perm.refl _, rfl, rfl⟩ rfl rfl (by rw [keys_pairs hI]; exact H.up) (by rw [keys_pairs hI]; exact H.sym) fun st' a1 a2 => ⟨a1, a2⟩) ?_ fun _ _ e => e)
  rintro ⟨⟨⟩, st'⟩ s' ⟨rfl, hB, hs⟩
  dsimp only
  refine wpAny_bind (seqEpoch_at ho6 rfl ?_)
  refine wpAny_bind (listUpdate_at ho6 rfl ?_ (hsz2 := by
    show ((arrOf st').map (·.2)).size ≤ _
    rw [Array.size_map, hB.size, hps, sizeLine_eq]; decide))
  rw [hB.failed]
  simp only [bne_self_eq_false, Bool.false_eq_true, if_false]
  obtain ⟨ns', h3, h4, h5⟩ := sorted_out hI hB.perm (fun i j h6 h7 => hs i j (Nat.zero_le _) h6 (by rw [hps] at h7; exact h7))
  exact wpAny_pure (h _ ns' h3 h4 h5)
theorem sorted64 {l : Addr} {vs : List Value} {ns : List Int} {Q : Value → Shared → Prop} (hl : s.heap.IsList l vs.toArray) (hI : IntsAre vs ns) (H : Sort64 ns)
    (h : ∀ (out : Array Value) (ns' : List Int), IntsAre out.toList ns' → ns'.Perm ns → ns'.Pairwise (· ≤ ·) → Q (.ref (s.heap.objs.size + 1)) { s with heap := sortedAll s.heap vs out }) :
    wpAny (model prog w) A (call (.builtin "sorted") [.ref l]) Q E s := by
  have hv : vs.length = 64 := by rw [hI.length, H.len]
  refine Calls.call_function_entry kind_sorted plain_sorted entry_sorted (args_sorted1 _) ?_
  unfold Builtin.«sorted»
  refine wpAny_bind (m := checkCount "sorted" 1 1 _) (wpAny_pure ?_)
  refine wpAny_bind (collect_list hl ?_ (by rw [hv, sizeLine_eq]; decide))
  refine wpAny_bind (wpAny_newList ?_ (by rw [hv, sizeLine_eq]; decide))
  have hsz : ((s.heap.push (seqObj "list" #[] 0)).update s.heap.objs.size (Obj.mapSeq (· ++ vs.toArray))).objs.size = s.heap.objs.size + 1 := by
    rw [Heap.size_update, size_push']
  have hoL : (((s.heap.push (seqObj "list" #[] 0)).update s.heap.objs.size (Obj.mapSeq (· ++ vs.toArray))).push (seqObj "list" vs.toArray 0)).get? (s.heap.objs.size + 1) = some (seqObj "list" vs.toArray 0) := by
    rw [← hsz]; exact Heap.get?_push_size _ rfl
  show wpAny _ _ _ _ _ { s with heap := ((s.heap.push (seqObj "list" #[] 0)).update s.heap.objs.size (Obj.mapSeq (· ++ vs.toArray))).push (seqObj "list" vs.toArray 0) }
  rw [hsz]
  refine wpAny_bind (wpAny_holding (wpAny_call_entry slot_list_sort ⟨_, hoL, rfl⟩ entry_list_sort (list_sort64 hoL hI H fun out ns' a1 a2 a3 => ⟨_, rfl, ?_⟩) (args_list_sort _)))
  exact wpAny_pure ⟨_, rfl, h out ns' a1 a2 a3⟩
/-- sorted of fewer than 64 ints, or of 64 that lie as ours do -/
theorem sorted_any {h₀ : Heap} {L : Addr} {m : Str → Option Value} {news : List (Addr × Obj)} {l : Addr} {vs : List Value} {ns : List Int} {Q : Value → Shared → Prop}
    (F : Fr h₀ L s.heap m) (N : News h₀ L s.heap news) (hl : s.heap.IsList l vs.toArray) (hI : IntsAre vs ns) (H : ns.length < 64 ∨ Sort64 ns)
    (h : ∀ (D : Addr) (h' : Heap) (vs' : List Value) (ns' : List Int) (e : Nat), Fr h₀ L h' m → News h₀ L h' ((D, listOf vs'.toArray e) :: news) → IntsAre vs' ns' → ns'.Perm ns → ns'.Pairwise (· ≤ ·) → Q (.ref D) { s with heap := h' }) :
    wpAny (model prog w) A (call (.builtin "sorted") [.ref l]) Q E s := by
  rcases H with H | H
  · exact sorted_N F N hl hI (by rw [hI.length]; exact H) fun h' vs' ns' e F' N' hI' hp hs => h _ h' vs' ns' e F' N' hI' hp hs
  · refine sorted64 hl hI H fun out ns' a1 a2 a3 => ?_
    obtain ⟨e, he⟩ := sortedAll_at s.heap vs out
    exact h _ _ out.toList ns' e (F.kept fun _ _ => sortedAll_old) (N.kept_cons F (fun _ _ => sortedAll_old) (Nat.le_succ _) he) a1 a2 a3
end
end Mine
end -- WSort9
section -- WPlain
open PySem PySem.W PySem.Calls PySem.Spec PyProof.Rows
set_option maxRecDepth 100000
namespace Mine
/-- everything lies as from the place nought, moved -/
theorem upos_shift {x y : Int} (hs : List Int) : upos (x, y) hs = (x + (upos (0, 0) hs).1, y + (upos (0, 0) hs).2) := by
  suffices H : ∀ (hs : List Int) (a b : Int), upos (x + a, y + b) hs = (x + (upos (a, b) hs).1, y + (upos (a, b) hs).2) by
    have := H hs 0 0
    simpa using this
  intro hs
  induction hs with
  | nil => intro a b; rfl
  | cons h r ih =>
    intro a b
    show upos (x + a + (hdir h).1, y + b + (hdir h).2) r = _
    rw [show x + a + (hdir h).1 = x + (a + (hdir h).1) by (exact Int.add_assoc _ _ _), show y + b + (hdir h).2 = y + (b + (hdir h).2) by (exact Int.add_assoc _ _ _), ih]
    rfl
theorem ucodes_shift {x y : Int} (hs : List Int) : ucodes hs (x, y) = (ucodes hs (0, 0)).map fun c => c + (1024 * x + 2 * y) := by
  suffices H : ∀ (hs : List Int) (a b : Int), ucodes hs (x + a, y + b) = (ucodes hs (a, b)).map fun c => c + (1024 * x + 2 * y) by
    have := H hs 0 0
    simpa using this
  intro hs
  induction hs with
  | nil => intro a b; rfl
  | cons h r ih =>
    intro a b
    show ucode (x + a, y + b) h :: ucodes r (x + a + (hdir h).1, y + b + (hdir h).2) = (ucode (a, b) h + (1024 * x + 2 * y)) :: (ucodes r (a + (hdir h).1, b + (hdir h).2)).map _
    rw [show x + a + (hdir h).1 = x + (a + (hdir h).1) by (exact Int.add_assoc _ _ _), show y + b + (hdir h).2 = y + (b + (hdir h).2) by (exact Int.add_assoc _ _ _), ih]
    congr 1
    unfold ucode
    simp only
    lia
theorem wpos_shift {t : Nat → Bool} {d : Int × Int} {x y : Int} : ∀ n, wpos t d (x, y) n = (x + (wpos t d (0, 0) n).1, y + (wpos t d (0, 0) n).2)
  | 0 => by simp [wpos]
  | n + 1 => by
    show ((wpos t d (x, y) n).1 + (wdir t d n).1, (wpos t d (x, y) n).2 + (wdir t d n).2) = (x + ((wpos t d (0, 0) n).1 + (wdir t d n).1), y + ((wpos t d (0, 0) n).2 + (wdir t d n).2))
    rw [wpos_shift n]
    simp only [Int.add_assoc]
theorem wcodes_shift {t : Nat → Bool} {d : Int × Int} {x y : Int} {n : Nat} : wcodes t d (x, y) n = (wcodes t d (0, 0) n).map fun c => c + (1024 * x + 2 * y) := by
  unfold wcodes
  rw [List.map_map]
  refine List.map_congr_left fun k _ => ?_
  show wcode t d (x, y) k = wcode t d (0, 0) k + _
  unfold wcode
  rw [wpos_shift k, wpos_shift (k + 1)]
  simp only
  lia
/-- the walk with heading h, from nought -/
def rel (bs : List Bool) (h : Int) : List Int := ucodes (uheads h bs) (0, 0)
def relEnd (bs : List Bool) (h : Int) : Int × Int := upos (0, 0) (uheads h bs)
def rdue (bs : List Bool) (h : Int) : List Int := rel bs h ++ (rel bs ((h + 1).fmod 4) ++ (rel bs ((h + 2).fmod 4) ++ rel bs ((h + 3).fmod 4)))
def minOf : List Int → Int
  | [] => 0
  | a :: r => r.foldl min a
def maxOf : List Int → Int
  | [] => 0
  | a :: r => r.foldl max a
/-- the walk goes where unfolding tells, and ends as far off as it should -/
def chkWalk (bs : List Bool) (h : Int) : Bool :=
  decide (wcodes (bturn bs) (hdir h) (0, 0) (2 ^ bs.length) = rel bs h) && decide (wpos (bturn bs) (hdir h) (0, 0) (2 ^ bs.length) = relEnd bs h) &&
  decide ((relEnd bs h).1 * (relEnd bs h).1 + (relEnd bs h).2 * (relEnd bs h).2 = 2 ^ bs.length) && !((rdue bs 0).contains (1024 * (relEnd bs h).1 + 2 * (relEnd bs h).2))
def chkUp (ns : List Int) : Bool := (List.range 31).any fun i => decide (ns.getD i 0 < ns.getD (i + 1) 0) && (List.range 31).any fun j => decide (i < j) && decide (ns.getD (j + 1) 0 < ns.getD j 0)
def chkSym (ns : List Int) : Bool := decide (((ns.take 32).filter fun x => decide (minOf (ns.drop 32) < x)).length ≤ ((ns.drop 32).filter fun y => decide (y < maxOf (ns.take 32))).length)
def allB (n : Nat) : List (List Bool) := match n with
  | 0 => [[]]
  | n + 1 => (allB n).flatMap fun r => [true :: r, false :: r]
theorem mem_allB : ∀ bs : List Bool, bs ∈ allB bs.length
  | [] => .head _
  | b :: r => by
    show b :: r ∈ (allB r.length).flatMap _
    refine List.mem_flatMap.mpr ⟨r, mem_allB r, ?_⟩
    cases b <;> simp
def hs4 : List Int := [0, 1, 2, 3]
theorem walk2 : ∀ bs ∈ allB 2, ∀ h ∈ hs4, chkWalk bs h = true := by decide +kernel
theorem walk3 : ∀ bs ∈ allB 3, ∀ h ∈ hs4, chkWalk bs h = true := by decide +kernel
theorem walk4 : ∀ bs ∈ allB 4, ∀ h ∈ hs4, chkWalk bs h = true := by decide +kernel
def nOf (z : Int) : Nat := (z + 1048576).toNat
noncomputable def memN (a : Nat) (l : List Nat) : Bool := @List.rec Nat (fun _ => Bool) false (fun b _ ih => cond (Nat.beq a b) true ih) l
noncomputable def nodN (l : List Nat) : Bool := @List.rec Nat (fun _ => Bool) true (fun a r ih => cond (memN a r) false ih) l
theorem memN_of {a : Nat} {l : List Nat} (h : a ∈ l) : memN a l = true := by
  induction l with
  | nil => exact absurd h List.not_mem_nil
  | cons b r ih =>
    show cond (Nat.beq a b) true (memN a r) = true
    rcases List.mem_cons.mp h with e | e
    · subst e
      rw [Nat.beq_refl]; rfl
    · rw [ih e]; cases Nat.beq a b <;> rfl
theorem nodN_of {l : List Nat} (h : nodN l = true) : l.Nodup := by
  induction l with
  | nil => exact List.nodup_nil
  | cons a r ih =>
    have h2 : cond (memN a r) false (nodN r) = true := h
    cases e : memN a r with
    | true => rw [e] at h2; cases h2
    | false =>
      rw [e] at h2
      refine List.nodup_cons.mpr ⟨fun hm => ?_, ih h2⟩
      rw [memN_of hm] at e; cases e
theorem nodI_of {l : List Int} (h : nodN (l.map nOf) = true) : l.Nodup := by
  have h2 := nodN_of h
  unfold List.Nodup at h2 ⊢
  exact (List.pairwise_map.mp h2).imp fun hne e => hne (congrArg nOf e)
theorem nodup2n : ∀ bs ∈ allB 2, nodN ((rdue bs 0).map nOf) = true := by decide +kernel
theorem nodup2 : ∀ bs ∈ allB 2, (rdue bs 0).Nodup := fun bs h => nodI_of (nodup2n bs h)
theorem nodup3n : ∀ bs ∈ allB 3, nodN ((rdue bs 0).map nOf) = true := by decide +kernel
theorem nodup3 : ∀ bs ∈ allB 3, (rdue bs 0).Nodup := fun bs h => nodI_of (nodup3n bs h)
theorem nodup4n : ∀ bs ∈ allB 4, nodN ((rdue bs 0).map nOf) = true := by decide +kernel
theorem nodup4 : ∀ bs ∈ allB 4, (rdue bs 0).Nodup := fun bs h => nodI_of (nodup4n bs h)
theorem up4 : ∀ bs ∈ allB 4, ∀ h ∈ hs4, chkUp (rdue bs h) = true := by decide +kernel
theorem sym4 : ∀ bs ∈ allB 4, ∀ h ∈ hs4, chkSym (rdue bs h) = true := by decide +kernel
end Mine
end -- WPlain
section -- WPlain2
open PySem PySem.W PySem.Calls PySem.Spec PyProof.Rows
set_option maxRecDepth 100000
namespace Mine
theorem nodup_shift {l : List Int} {c : Int} (h : l.Nodup) : (l.map fun z => z + c).Nodup := by
  unfold List.Nodup at h ⊢
  rw [List.pairwise_map]
  exact h.imp fun hab e => hab (by (clear hab; lia))
theorem mem_hs4 {h : Int} (h0 : 0 ≤ h) (h4 : h < 4) : h ∈ hs4 := by
  rcases (by lia : h = 0 ∨ h = 1 ∨ h = 2 ∨ h = 3) with rfl | rfl | rfl | rfl <;> simp [hs4]
theorem chk_walk {bs : List Bool} {h : Int} (hl : bs.length = 2 ∨ bs.length = 3 ∨ bs.length = 4) (h0 : 0 ≤ h) (h4 : h < 4) : chkWalk bs h = true := by
  have hm := mem_allB bs
  rcases hl with e | e | e <;> rw [e] at hm
  · exact walk2 bs hm h (mem_hs4 h0 h4)
  · exact walk3 bs hm h (mem_hs4 h0 h4)
  · exact walk4 bs hm h (mem_hs4 h0 h4)
theorem chk_nodup {bs : List Bool} (hl : bs.length = 2 ∨ bs.length = 3 ∨ bs.length = 4) : (rdue bs 0).Nodup := by
  have hm := mem_allB bs
  rcases hl with e | e | e <;> rw [e] at hm
  · exact nodup2 bs hm
  · exact nodup3 bs hm
  · exact nodup4 bs hm
section
variable {bs : List Bool} {h : Int} {x y : Int}
theorem walk_codes (hl : bs.length = 2 ∨ bs.length = 3 ∨ bs.length = 4) (h0 : 0 ≤ h) (h4 : h < 4) : wcodes (bturn bs) (hdir h) (x, y) (2 ^ bs.length) = ucodes (uheads h bs) (x, y) := by
  have := chk_walk hl h0 h4
  unfold chkWalk at this
  simp only [Bool.and_eq_true, decide_eq_true_eq] at this
  rw [wcodes_shift, ucodes_shift, this.1.1.1]
  rfl
theorem walk_end (hl : bs.length = 2 ∨ bs.length = 3 ∨ bs.length = 4) (h0 : 0 ≤ h) (h4 : h < 4) : wpos (bturn bs) (hdir h) (x, y) (2 ^ bs.length) = (x + (relEnd bs h).1, y + (relEnd bs h).2) := by
  have := chk_walk hl h0 h4
  unfold chkWalk at this
  simp only [Bool.and_eq_true, decide_eq_true_eq] at this
  rw [wpos_shift, this.1.1.2]
theorem end_far (hl : bs.length = 2 ∨ bs.length = 3 ∨ bs.length = 4) (h0 : 0 ≤ h) (h4 : h < 4) : (relEnd bs h).1 * (relEnd bs h).1 + (relEnd bs h).2 * (relEnd bs h).2 = 2 ^ bs.length := by
  have := chk_walk hl h0 h4
  unfold chkWalk at this
  simp only [Bool.and_eq_true, decide_eq_true_eq] at this
  exact this.1.2
theorem end_not (hl : bs.length = 2 ∨ bs.length = 3 ∨ bs.length = 4) (h0 : 0 ≤ h) (h4 : h < 4) : 1024 * (relEnd bs h).1 + 2 * (relEnd bs h).2 ∉ rdue bs 0 := by
  have := chk_walk hl h0 h4
  unfold chkWalk at this
  simp only [Bool.and_eq_true, decide_eq_true_eq, Bool.not_eq_true', List.contains_eq_mem, decide_eq_false_iff_not] at this
  exact this.2
theorem rel_in_due {h' : Int} (h0 : 0 ≤ h') (h4 : h' < 4) {c : Int} (hc : c ∈ rel bs h') : c ∈ rdue bs 0 := by
  unfold rdue
  rcases (by (clear hc; lia) : h' = 0 ∨ h' = 1 ∨ h' = 2 ∨ h' = 3) with rfl | rfl | rfl | rfl
  · exact List.mem_append.mpr (.inl hc)
  · exact List.mem_append.mpr (.inr (List.mem_append.mpr (.inl hc)))
  · exact List.mem_append.mpr (.inr (List.mem_append.mpr (.inr (List.mem_append.mpr (.inl hc)))))
  · exact List.mem_append.mpr (.inr (List.mem_append.mpr (.inr (List.mem_append.mpr (.inr hc)))))
theorem rot {A B C D : List Int} : (A ++ (B ++ (C ++ D))).Perm (B ++ (C ++ (D ++ A))) := by
  have := List.perm_append_comm (l₁ := A) (l₂ := B ++ (C ++ D))
  simpa [List.append_assoc] using this
theorem rdue_perm (h0 : 0 ≤ h) (h4 : h < 4) : (rdue bs h).Perm (rdue bs 0) := by
  rcases (by lia : h = 0 ∨ h = 1 ∨ h = 2 ∨ h = 3) with rfl | rfl | rfl | rfl
  · exact List.Perm.refl _
  · exact rot.symm
  · exact (rot.trans rot).symm
  · exact (rot.trans (rot.trans rot)).symm
/-- what is due behind n walks, from the place p, the first with heading c -/
def dueN (bs : List Bool) (c : Int) (p : Int × Int) : Nat → List Int
  | 0 => []
  | n + 1 => dueN bs c p n ++ ucodes (uheads ((c + (n : Int)).fmod 4) bs) p
theorem fm4 (a : Int) : a.fmod 4 = a % 4 := Int.fmod_eq_emod_of_nonneg _ (by decide)
theorem dueN_four {c : Int} : dueN bs c (x, y) 4 = (rdue bs (c.fmod 4)).map fun z => z + (1024 * x + 2 * y) := by
  have e (k : Int) : (c + k).fmod 4 = (c.fmod 4 + k).fmod 4 := by rw [fm4, fm4, fm4]; simp
  show (((([] ++ ucodes (uheads ((c + 0).fmod 4) bs) (x, y)) ++ ucodes (uheads ((c + 1).fmod 4) bs) (x, y)) ++ ucodes (uheads ((c + 2).fmod 4) bs) (x, y)) ++ ucodes (uheads ((c + 3).fmod 4) bs) (x, y)) = _
  rw [e 1, e 2, e 3, Int.add_zero]
  simp only [ucodes_shift (x := x) (y := y)]
  unfold rdue rel
  simp only [List.map_append, List.nil_append, List.append_assoc]
theorem dueN_part {c : Int} : ∀ n ≤ 4, ∀ z ∈ dueN bs c (x, y) n, z ∈ dueN bs c (x, y) 4 := by
  have step : ∀ k, ∀ z ∈ dueN bs c (x, y) k, z ∈ dueN bs c (x, y) (k + 1) := fun k z hz => List.mem_append.mpr (.inl hz)
  intro n hn z hz
  rcases (by (clear hz; lia) : n = 0 ∨ n = 1 ∨ n = 2 ∨ n = 3 ∨ n = 4) with rfl | rfl | rfl | rfl | rfl
  · exact absurd hz List.not_mem_nil
  · exact step 3 _ (step 2 _ (step 1 _ hz))
  · exact step 3 _ (step 2 _ hz)
  · exact step 3 _ hz
  · exact hz
theorem fm_range (c : Int) : 0 ≤ c.fmod 4 ∧ c.fmod 4 < 4 := by rw [fm4]; lia
theorem dueN_nodup {c : Int} (hl : bs.length = 2 ∨ bs.length = 3 ∨ bs.length = 4) : (dueN bs c (x, y) 4).Nodup := by
  rw [dueN_four]
  have h1 := (rdue_perm (bs := bs) (fm_range c).1 (fm_range c).2).nodup_iff.mpr (chk_nodup hl)
  exact nodup_shift h1
theorem dueN_nodup' {c : Int} (hl : bs.length = 2 ∨ bs.length = 3 ∨ bs.length = 4) {n : Nat} (hn : n ≤ 4) : (dueN bs c (x, y) n).Nodup := by
  have h := dueN_nodup (x := x) (y := y) (c := c) hl
  have s : ∀ k, (dueN bs c (x, y) (k + 1)).Nodup → (dueN bs c (x, y) k).Nodup := fun k hk => (List.nodup_append.mp hk).1
  rcases (by (clear hl; lia) : n = 0 ∨ n = 1 ∨ n = 2 ∨ n = 3 ∨ n = 4) with rfl | rfl | rfl | rfl | rfl
  · exact List.nodup_nil
  · exact s 1 (s 2 (s 3 h))
  · exact s 2 (s 3 h)
  · exact s 3 h
  · exact h
theorem end_off {c : Int} (hl : bs.length = 2 ∨ bs.length = 3 ∨ bs.length = 4) (h0 : 0 ≤ h) (h4 : h < 4) : 1024 * (x + (relEnd bs h).1) + 2 * (y + (relEnd bs h).2) ∉ dueN bs c (x, y) 4 := by
  rw [dueN_four]
  intro hm
  obtain ⟨z, hz, e⟩ := List.mem_map.mp hm
  have hz' := (rdue_perm (bs := bs) (fm_range c).1 (fm_range c).2).mem_iff.mp hz
  have : z = 1024 * (relEnd bs h).1 + 2 * (relEnd bs h).2 := by (clear hz' hz hm h4 h0 hl; lia)
  rw [this] at hz'
  exact end_not hl h0 h4 hz'
theorem dueN_length {c : Int} {p : Int × Int} : ∀ n, (dueN bs c p n).length = n * 2 ^ bs.length
  | 0 => by simp [dueN]
  | n + 1 => by
    show (dueN bs c p n ++ _).length = _
    rw [List.length_append, dueN_length n, ucodes_length, uheads_length, Nat.succ_mul]
theorem minOf_min : ∀ (l : List Int), l ≠ [] → minOf l ∈ l ∧ ∀ z ∈ l, minOf l ≤ z
  | [], h => absurd rfl h
  | a :: r, _ => by
    suffices H : ∀ (r : List Int) (a : Int), (r.foldl min a = a ∨ r.foldl min a ∈ r) ∧ r.foldl min a ≤ a ∧ ∀ z ∈ r, r.foldl min a ≤ z by
      obtain ⟨h1, h2, h3⟩ := H r a
      refine ⟨?_, fun z hz => ?_⟩
      · rcases h1 with h1 | h1
        · show r.foldl min a ∈ a :: r
          rw [h1]; exact .head _
        · exact .tail _ h1
      · rcases List.mem_cons.mp hz with rfl | hz
        · exact h2
        · exact h3 z hz
    intro r
    induction r with
    | nil => intro a; exact ⟨.inl rfl, Int.le_refl _, fun _ hz => absurd hz List.not_mem_nil⟩
    | cons b r ih =>
      intro a
      obtain ⟨h1, h2, h3⟩ := ih (min a b)
      rw [List.foldl_cons]
      refine ⟨?_, by (clear h1; grind), fun z hz => ?_⟩
      · rcases h1 with h1 | h1
        · rcases (by (clear h1 h2; lia) : min a b = a ∨ min a b = b) with e | e
          · exact .inl (h1.trans e)
          · exact .inr (by rw [h1, e]; exact .head _)
        · exact .inr (.tail _ h1)
      · rcases List.mem_cons.mp hz with rfl | hz
        · (clear hz h1; grind)
        · exact h3 z hz
theorem maxOf_max : ∀ (l : List Int), l ≠ [] → maxOf l ∈ l ∧ ∀ z ∈ l, z ≤ maxOf l
  | [], h => absurd rfl h
  | a :: r, _ => by
    suffices H : ∀ (r : List Int) (a : Int), (r.foldl max a = a ∨ r.foldl max a ∈ r) ∧ a ≤ r.foldl max a ∧ ∀ z ∈ r, z ≤ r.foldl max a by
      obtain ⟨h1, h2, h3⟩ := H r a
      refine ⟨?_, fun z hz => ?_⟩
      · rcases h1 with h1 | h1
        · show r.foldl max a ∈ a :: r
          rw [h1]; exact .head _
        · exact .tail _ h1
      · rcases List.mem_cons.mp hz with rfl | hz
        · exact h2
        · exact h3 z hz
    intro r
    induction r with
    | nil => intro a; exact ⟨.inl rfl, Int.le_refl _, fun _ hz => absurd hz List.not_mem_nil⟩
    | cons b r ih =>
      intro a
      obtain ⟨h1, h2, h3⟩ := ih (max a b)
      rw [List.foldl_cons]
      refine ⟨?_, by (clear h1; grind), fun z hz => ?_⟩
      · rcases h1 with h1 | h1
        · rcases (by (clear h1 h2; lia) : max a b = a ∨ max a b = b) with e | e
          · exact .inl (h1.trans e)
          · exact .inr (by rw [h1, e]; exact .head _)
        · exact .inr (.tail _ h1)
      · rcases List.mem_cons.mp hz with rfl | hz
        · (clear hz h1; grind)
        · exact h3 z hz
theorem sort_ready {ns : List Int} {c : Int} (hlen : ns.length = 64) (hn : ns.Nodup) (hu : chkUp ns = true) (hs : chkSym ns = true) : Sort64 (ns.map fun z => z + c) := by
  have gd : ∀ i, i < 64 → (ns.map fun z => z + c).getD i 0 = ns.getD i 0 + c := by
    intro i hi
    have : i < ns.length := by (clear hs hu; lia)
    simp [List.getD_eq_getElem?_getD, this]
  refine ⟨by rw [List.length_map, hlen], nodup_shift hn, ?_, ?_⟩
  · unfold chkUp at hu
    simp only [List.any_eq_true, Bool.and_eq_true, decide_eq_true_eq, List.mem_range] at hu
    obtain ⟨i, hi, h1, j, hj, h2, h3⟩ := hu
    exact ⟨i, j, h2, by (clear h3 h2 h1 hi hs hlen; (exact Nat.succ_lt_succ (by assumption))), by rw [gd _ (by (clear h3 h2 hj h1 hs hlen; lia)), gd _ (by (clear h3 h2 hj h1 hs hlen; lia))]; (clear h3 h2 hj hi hs hlen; lia), by rw [gd _ (by (clear h3 h2 h1 hi hs hlen; omega)), gd _ (by (clear h3 h2 h1 hi hs hlen; omega))]; (clear h2 hj h1 hi hs hlen; lia)⟩
  · intro mb hmb hmin ma hma hmax
    rw [← List.map_drop] at hmb hmin ⊢
    rw [← List.map_take] at hma hmax ⊢
    obtain ⟨b, hb, rfl⟩ := List.mem_map.mp hmb
    obtain ⟨a, ha, rfl⟩ := List.mem_map.mp hma
    have eb : b = minOf (ns.drop 32) := by
      obtain ⟨m1, m2⟩ := minOf_min (ns.drop 32) (List.ne_nil_of_mem hb)
      have h1 := hmin _ (List.mem_map.mpr ⟨_, m1, rfl⟩)
      have h2 := m2 b hb
      (clear m1 hma ha hmb hb hs hu hlen; lia)
    have ea : a = maxOf (ns.take 32) := by
      obtain ⟨m1, m2⟩ := maxOf_max (ns.take 32) (List.ne_nil_of_mem ha)
      have h1 := hmax _ (List.mem_map.mpr ⟨_, m1, rfl⟩)
      have h2 := m2 a ha
      (clear m1 eb hma ha hmb hb hs hu hlen; lia)
    unfold chkSym at hs
    rw [decide_eq_true_eq] at hs
    rw [List.filter_map, List.filter_map, List.length_map, List.length_map, eb, ea]
    have e1 : ((fun x => decide (minOf (ns.drop 32) + c < x)) ∘ fun z => z + c) = fun x => decide (minOf (ns.drop 32) < x) := by
      funext z
      simp only [Function.comp]
      congr 1
      exact propext ⟨fun h => by (clear ea eb hma ha hmb hb hs hu hlen; lia), fun h => by (clear ea eb hma ha hmb hb hs hu hlen; lia)⟩
    have e2 : ((fun y => decide (y < maxOf (ns.take 32) + c)) ∘ fun z => z + c) = fun y => decide (y < maxOf (ns.take 32)) := by
      funext z
      simp only [Function.comp]
      congr 1
      exact propext ⟨fun h => by (clear ea eb hma ha hmb hb hs hu hlen; lia), fun h => by (clear ea eb hma ha hmb hb hs hu hlen; lia)⟩
    rw [e1, e2]
    exact hs
theorem due_sorts {c : Int} (hl : bs.length = 2 ∨ bs.length = 3 ∨ bs.length = 4) : (dueN bs c (x, y) 4).length < 64 ∨ Sort64 (dueN bs c (x, y) 4) := by
  rcases hl with e | e | e
  · left; rw [dueN_length, e]; decide
  · left; rw [dueN_length, e]; decide
  · right
    have hlen : (rdue bs (c.fmod 4)).length = 64 := by
      have := dueN_length (bs := bs) (c := c) (p := (0, 0)) 4
      rw [dueN_four, List.length_map, e] at this
      exact this
    have hm := mem_allB bs
    rw [e] at hm
    have hh := mem_hs4 (fm_range c).1 (fm_range c).2
    rw [dueN_four]
    exact sort_ready hlen ((rdue_perm (fm_range c).1 (fm_range c).2).nodup_iff.mpr (chk_nodup (.inr (.inr e)))) (up4 bs hm _ hh) (sym4 bs hm _ hh)
end
end Mine
end -- WPlain2
section -- WLawS
open PySem PySem.W PySem.Calls PySem.Spec PyProof.Rows
set_option maxRecDepth 100000
namespace Mine
def lawParts : List Stmt × Scope := match PySem.Challenge.pw_wu0034_01.main.body.getLast? with
  | some (.FunctionDef (body := b) (scope := c) ..) => (b, c)
  | _ => ([], default)
abbrev lawEnv (L fa : Addr) (cd : Value) : Env := envOfC (Str.ofString "law") lawParts.2 L fa cd
/-- a frame, its names that count written out -/
theorem fr_names {g h : Heap} {L : Addr} {m : Str → Option Value} (ps : List (Str × Value)) (F : Fr g L h m) (hp : ∀ p ∈ ps, m p.1 = some p.2) : Fr g L h (kstB m ps) := by
  have e : kstB m ps = m := by
    funext y
    exact kstB_eq hp fun _ => rfl
  rw [e]
  exact F
end Mine
end -- WLawS
section -- WEnum
open PySem PySem.W PySem.Calls PySem.Spec PyProof.Rows
set_option maxRecDepth 100000
namespace Mine
section
variable {prog : Program} {w : World} {A : Around} {E : Value → Shared → Prop} {s : Shared} {g : Heap} {L : Addr} {m : Str → Option Value} {news : List (Addr × Obj)}
/-- the numbered items of a list of the ledger, as a loop takes them: the ledger stands -/
def EnumLed (prog : Program) (w : World) (A : Around) (E : Value → Shared → Prop) (g : Heap) (L : Addr) (ns : List Int) (xv : Value) (s : Shared) (m : Str → Option Value) (news : List (Addr × Obj)) : Prop :=
  ∀ (env : Env) (xi xc : Str) (body : List Stmt) (Q : Flow → Shared → Prop) (J : Nat → (Str → Option Value) → Prop), env.locals = L → J 0 m →
    (∀ (i : Nat) n t u m₁ h tk own, ns[i]? = some n → J i m₁ → Fr g L h (fun y => if y = xc then some (.int n u) else if y = xi then some (.int i t) else m₁ y) → News g L h (own ++ news) →
      wpAny (model prog w) A (execs body env) (fun f s' => (f = .next ∧ ∃ h' tk' m', s' = { s with heap := h', toks := tk' } ∧ Fr g L h' m' ∧ News g L h' (own ++ news) ∧ J (i + 1) m')) E { s with heap := h, toks := tk }) →
    (∀ h' tk m', Fr g L h' m' → News g L h' news → J ns.length m' → Q .next { s with heap := h', toks := tk }) →
    wpAny (model prog w) A (pyIter xv) (fun it s₂ => PairAt3 prog w A g env xi xc body Q E it s₂) E s
theorem enum_led {l : Addr} {vs : List Value} {ns : List Int} {nn : Nat} {Q : Value → Shared → Prop} (hh : A.handled = none) (F : Fr g L s.heap m) (N : News g L s.heap news) (hm : (l, listOf vs.toArray nn) ∈ news) (hi : IntsAre vs ns)
    (h : ∀ h' e, Fr g L h' m → News g L h' news → EnumLed prog w A E g L ns (.ref e) { s with heap := h' } m news → Q (.ref e) { s with heap := h' }) :
    wpAny (model prog w) A (call (.type "enumerate") [.ref l]) Q E s := by
  have zl := N _ hm
  have hls : s.heap.IsList l vs.toArray := ⟨_, zl.1, rfl, nn, rfl⟩
  have hLs : L < s.heap.objs.size := F.ns.lt
  have hab : g.objs.size ≤ L := F.above
  have hl2 : l < s.heap.objs.size := Heap.lt_size zl.1
  refine call_enumerate_list hls fun h' he hit hsz hk => ?_
  have F' : Fr g L h' m := ⟨F.ns.keeps hk, fun b o e => hk b o (F.keep b o e), F.above⟩
  have N' : News g L h' news := fun p hp => ⟨hk _ _ (N p hp).1, (N p hp).2⟩
  refine h h' _ F' N' fun env xi xc body Q J hL hJ step done => ?_
  subst hL
  refine wpAny_pyIter_enum he ?_
  have D := Draws.list (prog := prog) (w := w) (A := A.in1) hh s.heap.objs.size l (Nat.ne_of_lt hl2) vs.toArray
  refine ⟨s.heap.objs.size + 1, (s.heap.objs.size + 1) :: [s.heap.objs.size, l], [s.heap.objs.size + 1, s.heap.objs.size], vs.toArray.size, _, _, _, (fun i v0 v1 => ∃ t, v0 = .int i t ∧ vs.toArray[i]? = some v1), m, news, (fun i m₁ news₁ => news₁ = news ∧ J i m₁), rfl,
    WalksT.enumerateD D (s.heap.objs.size + 1) (Nat.succ_ne_self _) ?_ (by simp), ?_, ?_, ?_, ?_, ⟨⟨_, by simpa using he⟩, hit, hls.at fun o e => hk l o e⟩, F', N', ⟨rfl, hJ⟩, ?_, ?_⟩
  · intro hm'
    rcases List.mem_cons.mp hm' with e | hm'
    · exact Nat.succ_ne_self _ e
    · exact Nat.ne_of_gt (Nat.lt_succ_of_lt hl2) (List.mem_singleton.mp hm')
  · rintro i vals ⟨t, x, hPx, rfl⟩
    exact ⟨_, _, rfl, t, rfl, hPx⟩
  · intro hm'
    rcases List.mem_cons.mp hm' with e | hm'
    · exact Nat.ne_of_lt (Nat.lt_succ_of_lt hLs) e
    · rcases List.mem_cons.mp hm' with e | hm'
      · exact Nat.ne_of_lt hLs e
      · exact zl.2.1 (List.mem_singleton.mp hm').symm
  · intro b hb
    rcases List.mem_cons.mp hb with rfl | hb
    · exact Heap.get?_none_of_le (Nat.le_trans hab (Nat.le_of_lt (Nat.lt_succ_of_lt hLs)))
    · rw [List.mem_singleton.mp hb]
      exact Heap.get?_none_of_le (Nat.le_trans hab (Nat.le_of_lt hLs))
  · intro p hp hb
    have hq1 : p.1 < s.heap.objs.size := Heap.lt_size (N p hp).1
    rcases List.mem_cons.mp hb with e1 | hb
    · exact Nat.ne_of_lt (Nat.lt_succ_of_lt hq1) e1
    · exact Nat.ne_of_lt hq1 (List.mem_singleton.mp hb)
  · rintro i v0 v1 m₁ news₁ s₁ own ⟨hh₁, tk₁, rfl⟩ hin ⟨t, rfl, hPx⟩ ⟨rfl, hJ'⟩ ha hsub F₁ N₁
    have hin' : i < ns.length := by
      rw [List.size_toArray, hi.length] at hin
      exact hin
    obtain ⟨u, hx⟩ := hi.get i ns[i] (by simp [hin'])
    have hv : v1 = .int ns[i] u := by
      have hP' : vs[i]? = some v1 := by simpa using hPx
      rw [hx] at hP'; exact (Option.some.inj hP').symm
    subst hv
    refine wpAny_mono (step i ns[i] t u m₁ hh₁ tk₁ own (by simp [hin']) hJ' F₁ N₁) (fun f s₂ p => ?_) fun _ _ e => e
    obtain ⟨rfl, h2, tk2, m2, rfl, F2, N2, J2⟩ := p
    exact ⟨rfl, h2, tk2, m2, news₁, rfl, F2, N2, rfl, rfl, J2⟩
  · rintro h2 tk2 m2 news2 F2 N2 _ ⟨e2, hJ'⟩
    rw [e2] at N2
    refine done h2 tk2 m2 F2 N2 ?_
    rw [List.size_toArray, hi.length] at hJ'
    exact hJ'
end
end Mine
end -- WEnum
section -- WMem
open PySem PySem.W PySem.Calls PySem.Spec PyProof.Rows
set_option Elab.async false
set_option maxRecDepth 100000
set_option maxHeartbeats 8000000
set_option linter.unusedVariables false
namespace Mine
theorem fillWMem : (PySem.Challenge.rw_wu0034_01 = PySem.Challenge.rw_wu0034_01) ∧ (Mine.hd.heap_39 = Mine.hd.heap_39) := by
  w_top off
  k_fill
  exact ⟨rfl, rfl⟩
theorem brAt_is {ns : List Int} {x : Int} {i r : Nat} (hs : ns.Pairwise (· < ·)) (hi : ns[i]? = some x) (h : BrAt ns x r) : r = i + 1 := by
  obtain ⟨h1, h2, h3⟩ := h
  have il := (List.getElem?_eq_some_iff.mp hi).1
  have a : i < r := by
    apply Nat.lt_of_not_le
    intro hc
    have := h3 i x (by (clear il h1; lia)) hi
    (clear hc il h1; lia)
  rcases Nat.lt_or_ge (i + 1) r with h5 | h5
  · have hl : i + 1 < ns.length := by (clear a il; (exact Nat.lt_of_lt_of_le (by assumption) (by assumption)))
    have e : ns[i + 1]? = some ns[i + 1] := List.getElem?_eq_getElem hl
    have h6 := h2 (i + 1) _ (by (clear a il h1; omega)) e
    have h7 := List.pairwise_iff_getElem.mp hs i (i + 1) il hl (by (clear h6 h5 a il h1; (exact Nat.lt_succ_self _)))
    have h8 : ns[i] = x := (List.getElem?_eq_some_iff.mp hi).2
    (clear h5 a h1; lia)
  · (clear il h1; (exact Nat.le_antisymm (by assumption) (by assumption)))
section
variable {prog : Program} {w : World} {mean : ExcName → Option Value} {mg mb : Str → Option Value} {dp un : Nat} {gd : Option (List Code)} {cn : Str} {cs : Scope} {a : Addr} {ccd : Value} {cl : List (Str × Addr)} {outer : List Env} {A₀ : Around} {base h₀ : Heap} {L : Addr} {m : Str → Option Value} {news : List (Addr × Obj)} {s : Shared}
    {Q E : Value → Shared → Prop}
theorem br_at {l : Addr} {vs : List Value} {ns : List Int} {nn i : Nat} {x : Int} {t0 : Tok}
    (B : Below A₀ base outer h₀) (F : Fr h₀ L s.heap m) (X : (Mine.hd.heap_39 w.params).In h₀) (N : News h₀ L s.heap news) (T : TopV mean mg mb h₀) (hk : cs.kind = .function) (hd : dp + 1 < recursionLimit) (hu : un + 8 < cLine)
    (hm : (l, listOf vs.toArray nn) ∈ news) (hi : IntsAre vs ns) (hs : ns.Pairwise (· < ·)) (hlen : ns.length ≤ 1000) (hx : ns[i]? = some x)
    (hret : ∀ (t : Tok) (h' : Heap) (tk' : Nat), Fr h₀ L h' m → News h₀ L h' news → Q (.int ((i : Int) + 1) t) { s with heap := h', toks := tk' }) :
    wpAny (model prog w) (ktrTop dp un gd cn cs L a ccd cl outer) (call (.ref 55) [.ref l, .int x t0]) Q E s := by
  refine br_c B F X (List.forall_mem_cons.mpr ⟨N _ hm, N⟩) T hk hd hu hi (hs.imp fun h => Int.le_of_lt h) hlen fun r t h' tk' hr F' N' => ?_
  have e := brAt_is hs hx hr
  subst e
  have e2 : ((i + 1 : Nat) : Int) = (i : Int) + 1 := by (clear hlen hm hu hd; rfl)
  rw [e2]
  exact hret t h' tk' F' fun p hp => N' p (.tail _ hp)
theorem parse_no {x : Str} {t0 : Tok} {u v : Nat} {b : List Nat}
    (B : Below A₀ base outer h₀) (F : Fr h₀ L s.heap m) (X : (Mine.hd.heap_39 w.params).In h₀) (N : News h₀ L s.heap news) (T : TopV mean mg mb h₀) (hk : cs.kind = .function) (hd : dp + 1 < recursionLimit) (hu : un + 8 < cLine)
    (hlen : x.length ≤ 100000) (hx : x.cps.toList = [50,53,55,u,v] ++ b) (hne : (⟨#[u,v]⟩ : Str) ≠ Str.ofString " \"")
    (hret : ∀ (t : Tok) (h' : Heap) (tk' : Nat), Fr h₀ L h' m → News h₀ L h' news → Q (.str (Str.ofString "") t) { s with heap := h', toks := tk' }) :
    wpAny (model prog w) (ktrTop dp un gd cn cs L a ccd cl outer) (call (.ref 46) [.str x t0]) Q E s := by
  have hE1 : (Txt.slice x none (some 3) != Str.ofString "257") = false := by
    rw [slice3 hx, ofs_257]; simp
  have hE2 : (Txt.slice x (some 3) (some 5) != Str.ofString " \"") = true := by
    rw [slice35 hx]
    exact bne_iff_ne.mpr hne
  k_with_none
  refine wpAny_call ?_
  k_dflt cell_enter
  k_steps
  exact hret _ _ _ (by k_asm) (by k_asm)
end
end Mine
end -- WMem
section -- WLawD
open PySem PySem.W PySem.Calls PySem.Spec PyProof.Rows
set_option Elab.async false
set_option maxRecDepth 100000
set_option maxHeartbeats 2000000
set_option linter.unusedVariables false
namespace Mine
theorem fillWLawD : (PySem.Challenge.rw_wu0034_01 = PySem.Challenge.rw_wu0034_01) ∧ (Mine.hd.heap_39 = Mine.hd.heap_39) := by
  w_top off
  k_fill
  exact ⟨rfl, rfl⟩
theorem EnumLed.use {prog : Program} {w : World} {A : Around} {E : Value → Shared → Prop} {s : Shared} {g : Heap} {L : Addr} {m : Str → Option Value} {news : List (Addr × Obj)} {ns : List Int} {xv : Value}
    (H : EnumLed prog w A E g L ns xv s m news) (env : Env) (xi xc : Str) (body : List Stmt) (Q : Flow → Shared → Prop) (J : Nat → (Str → Option Value) → Prop) (hL : env.locals = L) (h0 : J 0 m)
    (step : ∀ (i : Nat) n t u m₁ h tk own (P : Flow → Shared → Prop), (∀ h' tk' m', Fr g L h' m' → News g L h' (own ++ news) → J (i + 1) m' → P .next { s with heap := h', toks := tk' }) → ns[i]? = some n → J i m₁ → Fr g L h (fun y => if y = xc then some (.int n u) else if y = xi then some (.int i t) else m₁ y) → News g L h (own ++ news) →
      wpAny (model prog w) A (execs body env) P E { s with heap := h, toks := tk })
    (done : ∀ h' tk m', Fr g L h' m' → News g L h' news → J ns.length m' → Q .next { s with heap := h', toks := tk }) :
    wpAny (model prog w) A (pyIter xv) (fun it s₂ => PairAt3 prog w A g env xi xc body Q E it s₂) E s :=
  H env xi xc body Q J hL h0 (fun i n t u m₁ h tk own hx hJ F N => step i n t u m₁ h tk own _ (fun h' tk' m' F' N' J' => ⟨rfl, h', tk', m', rfl, F', N', J'⟩) hx hJ F N) done
section
variable {prog : Program} {w : World} {mean : ExcName → Option Value} {mg mb : Str → Option Value} {fa : Addr} {cd : Value} {h₀ : Heap} {L : Addr} {m : Str → Option Value} {news : List (Addr × Obj)} {s : Shared}
    {Q : Flow → Shared → Prop} {E : Value → Shared → Prop}
theorem cps_other {o tail : Str} {p q r c : Nat} (h : o = ⟨#[p,q,r]⟩) : (((o ++ Str.ofString " \"") ++ ⟨#[c]⟩) ++ tail).cps.toList = [p,q,r,32,34] ++ (c :: tail.cps.toList) := by
  rw [Str.cps_append, Str.cps_append, Str.cps_append, h, ofs_blankq]
  simp
theorem len_other {o tail : Str} {p q r c : Nat} (h : o = ⟨#[p,q,r]⟩) (ht : tail.length ≤ 100) : (((o ++ Str.ofString " \"") ++ ⟨#[c]⟩) ++ tail).length ≤ 100000 := by
  have e := cps_other (tail := tail) (c := c) h
  have e2 : (((o ++ Str.ofString " \"") ++ ⟨#[c]⟩) ++ tail).length = 6 + tail.length := by
    show Array.size _ = _ + Array.size _
    rw [← Array.length_toList, e]
    simp; (clear ht; lia)
  lia
theorem o157 : Str.ofString "157" = ⟨#[49,53,55]⟩ := by decide +kernel
theorem o267 : Str.ofString "267" = ⟨#[50,54,55]⟩ := by decide +kernel
theorem o258 : Str.ofString "258" = ⟨#[50,53,56]⟩ := by decide +kernel
theorem ofs_257d : Str.ofString "257-\"" = ⟨#[50,53,55,45,34]⟩ := by decide +kernel
theorem ofs_257s : Str.ofString "257 " = ⟨#[50,53,55,32]⟩ := by decide +kernel
theorem cps_dash {tail : Str} {c : Nat} : ((Str.ofString "257-\"" ++ ⟨#[c]⟩) ++ tail).cps.toList = [50,53,55,45,34] ++ (c :: tail.cps.toList) := by
  rw [Str.cps_append, Str.cps_append, ofs_257d]
  simp
theorem len_dash {tail : Str} {c : Nat} (ht : tail.length ≤ 100) : ((Str.ofString "257-\"" ++ ⟨#[c]⟩) ++ tail).length ≤ 100000 := by
  have e2 : ((Str.ofString "257-\"" ++ ⟨#[c]⟩) ++ tail).length = 6 + tail.length := by
    show Array.size _ = _ + Array.size _
    rw [← Array.length_toList, cps_dash]
    simp; (clear ht; omega)
  lia
theorem ne_dash : (⟨#[45,34]⟩ : Str) ≠ Str.ofString " \"" := by decide +kernel
theorem cps_dbl {tail : Str} {c : Nat} : ((Str.ofString "257 " ++ Txt.mul ⟨#[c]⟩ 2) ++ tail).cps.toList = [50,53,55,32,c] ++ (c :: tail.cps.toList) := by
  rw [Str.cps_append, Str.cps_append, ofs_257s]
  show ((_ ++ #[c,c]) ++ _ : Array Nat).toList = _
  simp
theorem len_dbl {tail : Str} {c : Nat} (ht : tail.length ≤ 100) : ((Str.ofString "257 " ++ Txt.mul ⟨#[c]⟩ 2) ++ tail).length ≤ 100000 := by
  have e2 : ((Str.ofString "257 " ++ Txt.mul ⟨#[c]⟩ 2) ++ tail).length = 6 + tail.length := by
    show Array.size _ = _ + Array.size _
    rw [← Array.length_toList, cps_dbl]
    simp; (clear ht; omega)
  lia
theorem ne_dbl {c : Nat} (hc : c ≠ 34) : (⟨#[32,c]⟩ : Str) ≠ Str.ofString " \"" := by
  rw [ofs_blankq]
  intro e
  injection e with e
  simp at e
  (exact absurd (by assumption) (by assumption))
theorem same_row {rs ds ns' : List Int} (hperm : rs.Perm ds) (hsort : rs.Pairwise (· < ·)) (hp : ns'.Perm ds) (hs : ns'.Pairwise (· ≤ ·)) : ns' = rs :=
  ksm_same (hp.trans hperm.symm) hs (hsort.imp fun h => Int.le_of_lt h)
theorem lawD {lr ld : Addr} {rvs dvs : List Value} {rs ds : List Int} {nr nd c : Nat} {t1 t2 : Tok} {tail : Str}
    (B : Below callerA h₀ [] h₀) (F : Fr h₀ L s.heap (kstB m [(Str.ofString "row", .ref lr), (Str.ofString "due", .ref ld), (Str.ofString "letter", .str ⟨#[c]⟩ t1), (Str.ofString "tail", .str tail t2)])) (X : (Mine.hd.heap_39 w.params).In h₀) (N : News h₀ L s.heap ((lr, listOf rvs.toArray nr) :: (ld, listOf dvs.toArray nd) :: news)) (T : TopV mean mg mb h₀)
    (hir : IntsAre rvs rs) (hid : IntsAre dvs ds) (hrl : rs.length ≤ 64) (hdl : ds.length ≤ 64)
    (hsd : ds.length < 64 ∨ Sort64 ds) (hperm : rs.Perm ds) (hsort : rs.Pairwise (· < ·)) (hc : c ≠ 34) (hc2 : c ≠ 32) (htn : tail.length ≤ 100)
    (hE : PassesOwn (model prog w) (callerA.deeper (lawEnv L fa cd)) (lawEnv L fa cd) E)
    (hret : ∀ h' tk' m' news', Fr h₀ L h' m' → News h₀ L h' news' → Q (.ret (.bool true)) { s with heap := h', toks := tk' }) :
    wpAny (model prog w) (callerA.deeper (lawEnv L fa cd)) (execs (lawParts.1.drop 11) (lawEnv L fa cd)) Q E s := by
  dsimp only [lawEnv, lawParts, PySem.Challenge.pw_wu0034_01, List.getLast?, List.getLast, List.drop]
  dsimp only [kstB] at F
  k_with_none
  k_with "pyIter ref" => (refine stop_ ?_)
  k_with "call builtin:sorted" => ((rename Fr _ _ _ _ => sF); (rename News _ _ _ _ => sN); (refine sorted_any sF sN (News.isList sN (.tail _ (.head _))) hid hsd ?_); (intro D9 h9 vs9 ns9 e9 F9 N9 hi9 hp9 hs9); (obtain rfl := same_row hperm hsort hp9 hs9); clear hp9 hs9; (try dsimp only); (try k_fold))
  k_with "call type:enumerate" => ((rename Fr _ _ _ _ => sF); (rename News _ _ _ _ => sN); (refine enum_led (by rfl) sF sN (.tail _ (.head _)) hir ?_); (intro h9 e9 F9 N9 hEn); (try dsimp only); (try k_fold))
  k_steps
  unfold Stop
  refine hEn.use _ _ _ _ _ (fun _ m' => ∀ p ∈ [(Str.ofString "row", Value.ref lr), (Str.ofString "letter", Value.str ⟨#[c]⟩ t1), (Str.ofString "tail", Value.str tail t2)], m' p.1 = some p.2) rfl ?init ?step ?done
  case init =>
    rw [List.forall_mem_cons, List.forall_mem_cons, List.forall_mem_cons]
    exact ⟨by (first | kernel_rfl! | (refine Eq.trans ?_ (by assumption); kernel_rfl!) | ((try dsimp only); (repeat (first | exact if_pos (by decide +kernel) | refine (if_neg (by decide +kernel)).trans ?_)); (try assumption))), by (first | kernel_rfl! | (refine Eq.trans ?_ (by assumption); kernel_rfl!) | ((try dsimp only); (repeat (first | exact if_pos (by decide +kernel) | refine (if_neg (by decide +kernel)).trans ?_)); (try assumption))), by (first | kernel_rfl! | (refine Eq.trans ?_ (by assumption); kernel_rfl!) | ((try dsimp only); (repeat (first | exact if_pos (by decide +kernel) | refine (if_neg (by decide +kernel)).trans ?_)); (try assumption))), List.forall_mem_nil _⟩
  case step =>
    intro i n t u m₁ h tk own P hP hx hJ F₁ N₁
    have G := fr_names [(Str.ofString "code", Value.int n u), (Str.ofString "place", Value.int i t), (Str.ofString "row", Value.ref lr)] F₁ (by
      rw [List.forall_mem_cons, List.forall_mem_cons, List.forall_mem_cons] at hJ ⊢
      have hJ1 := hJ.1
      exact ⟨by (first | kernel_rfl! | (refine Eq.trans ?_ (by assumption); kernel_rfl!) | ((try dsimp only); (repeat (first | exact if_pos (by decide +kernel) | refine (if_neg (by decide +kernel)).trans ?_)); (try assumption))), by (first | kernel_rfl! | (refine Eq.trans ?_ (by assumption); kernel_rfl!) | ((try dsimp only); (repeat (first | exact if_pos (by decide +kernel) | refine (if_neg (by decide +kernel)).trans ?_)); (try assumption))), by (first | kernel_rfl! | (refine Eq.trans ?_ (by assumption); kernel_rfl!) | ((try dsimp only); (repeat (first | exact if_pos (by decide +kernel) | refine (if_neg (by decide +kernel)).trans ?_)); (try assumption))), List.forall_mem_nil _⟩)
    dsimp only [kstB] at G
    clear F₁
    k_with_none
    k_with "call ref" => (refine stop_ ?_)
    k_steps
    unfold Stop
    k_dflt (refine' br_at ?k1 ?k2 ?k3 ?k4 ?k5 ?kK ?kd ?ku ?km ?ki ?ks ?kl ?kx ?_)
    case k1 => k_asm
    case k2 => k_asm
    case k3 => k_asm
    case k4 => k_asm
    case k5 => k_asm
    case kK => exact rfl
    case kd => ktr_room
    case ku => ktr_units
    case km => exact List.mem_append_right _ (.tail _ (.head _))
    case ki => exact hir
    case ks => exact hsort
    case kl => (clear htn hc2 hc hsd hdl; lia)
    case kx => exact hx
    intro t h tk F' N'
    (try dsimp only)
    (try k_fold)
    k_with_none
    k_steps
    · exfalso; simp_all
    · refine hP _ _ _ (by assumption) (by assumption) ?_
      rw [List.forall_mem_cons, List.forall_mem_cons, List.forall_mem_cons] at hJ ⊢
      obtain ⟨hJ1, hJ2, hJ3, -⟩ := hJ
      exact ⟨by (first | kernel_rfl! | (refine Eq.trans ?_ (by assumption); kernel_rfl!) | ((try dsimp only); (repeat (first | exact if_pos (by decide +kernel) | refine (if_neg (by decide +kernel)).trans ?_)); (try assumption))), by (first | kernel_rfl! | (refine Eq.trans ?_ (by assumption); kernel_rfl!) | ((try dsimp only); (repeat (first | exact if_pos (by decide +kernel) | refine (if_neg (by decide +kernel)).trans ?_)); (try assumption))), by (first | kernel_rfl! | (refine Eq.trans ?_ (by assumption); kernel_rfl!) | ((try dsimp only); (repeat (first | exact if_pos (by decide +kernel) | refine (if_neg (by decide +kernel)).trans ?_)); (try assumption))), List.forall_mem_nil _⟩
  case done =>
    intro h tk m' F₁ N₁ hJ
    have G := fr_names [(Str.ofString "letter", Value.str ⟨#[c]⟩ t1), (Str.ofString "tail", Value.str tail t2)] F₁ (by
      rw [List.forall_mem_cons, List.forall_mem_cons] at hJ ⊢
      rw [List.forall_mem_cons] at hJ
      exact ⟨hJ.2.1, hJ.2.2.1, List.forall_mem_nil _⟩)
    dsimp only [kstB] at G
    clear F₁
    have hM : MulOk ⟨#[c]⟩ 2 := mulOk_of 1 2 (Nat.le_refl 1) (by decide) (by decide) (by decide) (by decide)
    have N2 : News h₀ L h [] := List.forall_mem_nil _
    clear N₁
    k_with_none
    k_with "call ref" => (first | (k_dflt (refine' refused_c ?k1 ?k2 ?k3 ?k4 ?k5 ?kK ?kd ?ku ?kxb ?ktb ?kl ?kx ?kn ?_); (case k1 => k_asm); (case k2 => k_asm); (case k3 => k_asm); (case k4 => k_asm); (case k5 => k_asm); (case kK => exact rfl); (case kd => ktr_room); (case ku => ktr_units); (case kxb => k_asm); (case ktb => k_asm); (case kx => (first | exact cps_other o157 | exact cps_other o267 | exact cps_other o258)); (case kl => (first | exact len_other o157 htn | exact len_other o267 htn | exact len_other o258 htn)); (case kn => decide +kernel); (intro h tk F' N'); (try dsimp only); (try k_fold)) | (refine stop_ ?_))
    k_steps
    unfold Stop
    k_dflt (refine' parse_no ?k1 ?k2 ?k3 ?k4 ?k5 ?kK ?kd ?ku ?kl ?kx ?kn ?_)
    case k1 => k_asm
    case k2 => k_asm
    case k3 => k_asm
    case k4 => k_asm
    case k5 => k_asm
    case kK => exact rfl
    case kd => ktr_room
    case ku => ktr_units
    case kx => exact cps_dash
    case kl => exact len_dash htn
    case kn => exact ne_dash
    intro t h tk F' N'
    (try dsimp only)
    (try k_fold)
    k_steps
    unfold Stop
    k_dflt (refine' parse_no ?k1 ?k2 ?k3 ?k4 ?k5 ?kK ?kd ?ku ?kl ?kx ?kn ?_)
    case k1 => k_asm
    case k2 => k_asm
    case k3 => k_asm
    case k4 => k_asm
    case k5 => k_asm
    case kK => exact rfl
    case kd => ktr_room
    case ku => ktr_units
    case kx => exact cps_dbl
    case kl => exact len_dbl htn
    case kn => exact ne_dbl hc
    intro t h tk F' N'
    (try dsimp only)
    (try k_fold)
    k_steps
    rw [show (Str.ofString "" == Str.ofString "") = true from beq_self_eq_true _]
    exact hret _ _ _ _ F' N'
end
end Mine
end -- WLawD
section -- WLoops
open PySem PySem.W PySem.Calls PySem.Spec PyProof.Rows
set_option maxRecDepth 100000
namespace Mine
section
variable {prog : Program} {w : World} {A : Around} {E : Value → Shared → Prop} {s : Shared} {env : Env} {h₀ : Heap} {x : Str} {body : List Stmt} {Q : Flow → Shared → Prop}
/-- a turn of a loop is done: what stands then -/
abbrev TurnTo (h₀ : Heap) (L : Addr) (J : (Str → Option Value) → List (Addr × Obj) → Prop) (own : List (Addr × Obj)) (adr : List Addr) (s : Shared) (P : Flow → Shared → Prop) : Prop :=
  ∀ h' tk' m' news' nx', Fr h₀ L h' m' → News h₀ L h' news' → (∀ p ∈ nx', p ∈ news') → (∀ p ∈ own, p ∈ news') → nx'.map (·.1) = adr → J m' nx' → P .next { s with heap := h', toks := tk' }
theorem TurnTo.mk {L : Addr} {J : (Str → Option Value) → List (Addr × Obj) → Prop} {own : List (Addr × Obj)} {adr : List Addr} {s₁ : Shared} :
    TurnTo h₀ L J own adr s₁ (InvPostN h₀ L J own adr s₁ Q) :=
  fun h' tk' m' news' nx' F N h1 h2 h3 h4 => ⟨h', tk', m', news', nx', rfl, F, N, h1, h2, h3, h4⟩
/-- a loop over a list of the ledger -/
theorem list_J {l : Addr} {vs : List Value} {ns : List Int} {nn : Nat} {m₀ : Str → Option Value} {news : List (Addr × Obj)} (J : Nat → (Str → Option Value) → List (Addr × Obj) → Prop)
    (hh : A.handled = none) (hl : (l, listOf vs.toArray nn) ∈ news) (hi : IntsAre vs ns) (F : Fr h₀ env.locals s.heap m₀) (N : News h₀ env.locals s.heap news) (hj : J 0 m₀ news)
    (turn : ∀ i n t m₁ nx h tk own (P : Flow → Shared → Prop),
      TurnTo h₀ env.locals (fun m' nx' => (l, listOf vs.toArray nn) ∈ nx' ∧ J (i + 1) m' nx') own (news.map (·.1)) { s with heap := h, toks := tk } P →
      ns[i]? = some n → nx.map (·.1) = news.map (·.1) → OwnOff own (news.map (·.1)) → (l, listOf vs.toArray nn) ∈ nx → J i m₁ nx → Fr h₀ env.locals h (fun y => if y = x then some (.int n t) else m₁ y) → News h₀ env.locals h (nx ++ own) →
      wpAny (model prog w) A (execs body env) P E { s with heap := h, toks := tk })
    (done : ∀ m₁ nx h tk, (l, listOf vs.toArray nn) ∈ nx → J ns.length m₁ nx → Fr h₀ env.locals h m₁ → News h₀ env.locals h nx → Q .next { s with heap := h, toks := tk }) :
    wpAny (model prog w) A (pyIter (.ref l)) (fun it s₂ => LoopAtV prog w A h₀ env x body Q E it s₂) E s :=
  iter_invNL J hh hl hi F N hj (fun i n t m₁ nx h tk own hx ha ho hm hJ F₁ N₁ => turn i n t m₁ nx h tk own _ TurnTo.mk hx ha ho hm hJ F₁ N₁) done
/-- a loop over a range -/
theorem range_J {r : Addr} {a₀ b₀ : Int} {t₀ u₀ v₀ : Tok} {n : Nat} {m₀ : Str → Option Value} {news : List (Addr × Obj)} (J : Nat → (Str → Option Value) → List (Addr × Obj) → Prop)
    (hh : A.handled = none) (hr : IsRange s.heap r a₀ b₀ 1 t₀ u₀ v₀) (hsmall : Builtin.Range.small a₀ b₀ 1 = true) (hn : Builtin.Range.rangeSize a₀ b₀ 1 = (n : Int)) (F : Fr h₀ env.locals s.heap m₀) (N : News h₀ env.locals s.heap news) (hj : J 0 m₀ news)
    (turn : ∀ i t m₁ nx h tk own (P : Flow → Shared → Prop),
      TurnTo h₀ env.locals (J (i + 1)) own (news.map (·.1)) { s with heap := h, toks := tk } P →
      i < n → nx.map (·.1) = news.map (·.1) → OwnOff own (news.map (·.1)) → J i m₁ nx → Fr h₀ env.locals h (fun y => if y = x then some (.int (a₀ + (i : Int)) t) else m₁ y) → News h₀ env.locals h (nx ++ own) →
      wpAny (model prog w) A (execs body env) P E { s with heap := h, toks := tk })
    (done : ∀ m₁ nx h tk, J n m₁ nx → Fr h₀ env.locals h m₁ → News h₀ env.locals h nx → Q .next { s with heap := h, toks := tk }) :
    wpAny (model prog w) A (pyIter (.ref r)) (fun it s₂ => LoopAtV prog w A h₀ env x body Q E it s₂) E s := by
  refine wpAny_pyIter_range hr hsmall ?_
  have W : Walks prog w A s.heap.objs.size [s.heap.objs.size] [s.heap.objs.size] n (fun i v => i < n ∧ ∃ t, v = .int (a₀ + i * 1) t)
      (fun i h => IsRangeIter h s.heap.objs.size (a₀ + (i : Nat) * 1) ((n : Int) - (i : Nat)) 1) := (Walks.range hh _ a₀ 1 n).bound
  refine loop_invN J W ?_ ?_ ?_ ?_ (by show IsRangeIter _ _ _ _ _; rw [hn]; simpa using Heap.get?_push_size _ rfl) (F.push _) (fun p hp => ⟨Heap.get?_push_of_some _ (N p hp).1, (N p hp).2⟩) hj ?_ done
  · intro hm
    exact absurd F.ns.lt ((List.mem_singleton.mp hm) ▸ Nat.lt_irrefl _)
  · intro b hb
    rw [List.mem_singleton.mp hb]
    exact next_is_new F
  · intro p hp hI
    exact absurd (Heap.lt_size (N p hp).1) ((List.mem_singleton.mp hI) ▸ Nat.lt_irrefl _)
  · intro p hp hI
    exact absurd (Heap.lt_size (N p hp).1) ((List.mem_singleton.mp hI) ▸ Nat.lt_irrefl _)
  · rintro i v m₁ nx h tk own hi ⟨_, t, rfl⟩ ha hoff hJ F₁ N₁
    have e1 : a₀ + (i : Int) * 1 = a₀ + (i : Int) := by (clear hi hn hsmall; simp)
    rw [e1] at F₁
    exact turn i t m₁ nx h tk own _ TurnTo.mk hi ha hoff hJ F₁ N₁
end
end Mine
end -- WLoops
section -- WMem2
open PySem PySem.W PySem.Calls PySem.Spec PyProof.Rows
set_option Elab.async false
set_option maxRecDepth 100000
set_option linter.unusedVariables false
namespace Mine
section
variable {prog : Program} {w : World} {mean : ExcName → Option Value} {mg mb : Str → Option Value} {dp un : Nat} {gd : Option (List Code)} {cn : Str} {cs : Scope} {a : Addr} {ccd : Value} {cl : List (Str × Addr)} {outer : List Env} {A₀ : Around} {base h₀ : Heap} {L : Addr} {m : Str → Option Value} {news : List (Addr × Obj)} {s : Shared}
    {Q E : Value → Shared → Prop}
theorem bl_m {l : Addr} {vs : List Value} {ns : List Int} {nn : Nat} {x : Int} {t0 : Tok}
    (B : Below A₀ base outer h₀) (F : Fr h₀ L s.heap m) (X : (Mine.hd.heap_39 w.params).In h₀) (N : News h₀ L s.heap news) (T : TopV mean mg mb h₀) (hk : cs.kind = .function) (hd : dp + 1 < recursionLimit) (hu : un + 8 < cLine)
    (hm : (l, listOf vs.toArray nn) ∈ news) (hi : IntsAre vs ns) (hs : ns.Pairwise (· < ·)) (hlen : ns.length ≤ 1000)
    (hret : ∀ (r : Nat) (t : Tok) (h' : Heap) (tk' : Nat), BlAt ns x r → Fr h₀ L h' m → News h₀ L h' news → Q (.int (r : Int) t) { s with heap := h', toks := tk' }) :
    wpAny (model prog w) (ktrTop dp un gd cn cs L a ccd cl outer) (call (.ref 73) [.ref l, .int x t0]) Q E s :=
  bl_c B F X (List.forall_mem_cons.mpr ⟨N _ hm, N⟩) T hk hd hu hi (hs.imp fun h => Int.le_of_lt h) hlen fun r t h' tk' hr F' N' => hret r t h' tk' hr F' fun p hp => N' p (.tail _ hp)
theorem br_m {l : Addr} {vs : List Value} {ns : List Int} {nn : Nat} {x : Int} {t0 : Tok}
    (B : Below A₀ base outer h₀) (F : Fr h₀ L s.heap m) (X : (Mine.hd.heap_39 w.params).In h₀) (N : News h₀ L s.heap news) (T : TopV mean mg mb h₀) (hk : cs.kind = .function) (hd : dp + 1 < recursionLimit) (hu : un + 8 < cLine)
    (hm : (l, listOf vs.toArray nn) ∈ news) (hi : IntsAre vs ns) (hs : ns.Pairwise (· < ·)) (hlen : ns.length ≤ 1000)
    (hret : ∀ (r : Nat) (t : Tok) (h' : Heap) (tk' : Nat), BrAt ns x r → Fr h₀ L h' m → News h₀ L h' news → Q (.int (r : Int) t) { s with heap := h', toks := tk' }) :
    wpAny (model prog w) (ktrTop dp un gd cn cs L a ccd cl outer) (call (.ref 55) [.ref l, .int x t0]) Q E s :=
  br_c B F X (List.forall_mem_cons.mpr ⟨N _ hm, N⟩) T hk hd hu hi (hs.imp fun h => Int.le_of_lt h) hlen fun r t h' tk' hr F' N' => hret r t h' tk' hr F' fun p hp => N' p (.tail _ hp)
theorem con_m {l : Addr} {vs : List Value} {ns : List Int} {nn : Nat} {x : Int} {t0 : Tok}
    (B : Below A₀ base outer h₀) (F : Fr h₀ L s.heap m) (X : (Mine.hd.heap_39 w.params).In h₀) (N : News h₀ L s.heap news) (T : TopV mean mg mb h₀) (hk : cs.kind = .function) (hd : dp + 1 < recursionLimit) (hu : un + 8 < cLine)
    (hm : (l, listOf vs.toArray nn) ∈ news) (hi : IntsAre vs ns) (hlen : ns.length ≤ 1000)
    (hret : ∀ (h' : Heap) (tk' : Nat), Fr h₀ L h' m → News h₀ L h' news → Q (.bool (ns.any fun y => y == x)) { s with heap := h', toks := tk' }) :
    wpAny (model prog w) (ktrTop dp un gd cn cs L a ccd cl outer) (call (.ref 87) [.ref l, .int x t0]) Q E s :=
  con_l B F X (List.forall_mem_cons.mpr ⟨N _ hm, N⟩) T hk hd hu hi hlen fun h' tk' F' N' => hret h' tk' F' fun p hp => N' p (.tail _ hp)
theorem any_not {ns : List Int} {x : Int} (h : x ∉ ns) : (ns.any fun y => y == x) = false := by
  rw [List.any_eq_false]
  intro y hy
  simp only [beq_iff_eq]
  intro e
  exact h (e ▸ hy)
theorem any_is {ns : List Int} {x : Int} (h : x ∈ ns) : (ns.any fun y => y == x) = true :=
  List.any_eq_true.mpr ⟨x, h, beq_self_eq_true x⟩
end
end Mine
end -- WMem2
section -- WPure7
open PySem PySem.W PySem.Calls PySem.Spec PyProof.Rows
set_option maxRecDepth 100000
namespace Mine
theorem bl_in {ns : List Int} {x : Int} {r : Nat} (hx : x ∈ ns) (h : BlAt ns x r) (hs : ns.Pairwise (· < ·)) : ns[r]? = some x := by
  obtain ⟨h1, h2, h3⟩ := h
  obtain ⟨i, hi, e⟩ := List.getElem_of_mem hx
  have e' : ns[i]? = some x := by rw [List.getElem?_eq_getElem hi, e]
  have a : r ≤ i := by
    apply Nat.le_of_not_lt
    intro hc
    have := h2 i x (by (clear e hi h1 hx; omega)) e'
    (clear hc e hi h1 hx; lia)
  rcases Nat.lt_or_eq_of_le a with h5 | h5
  · have hr : r < ns.length := by (clear h5 e h1 hx; (exact Nat.lt_of_le_of_lt (by assumption) (by assumption)))
    have h6 := h3 r _ (by (clear hr h5 a e hi h1 hx; simp)) (List.getElem?_eq_getElem hr)
    have h7 := List.pairwise_iff_getElem.mp hs r i hr hi h5
    (clear h5 a h1 hx; lia)
  · rw [h5]; exact e'
theorem bl_br {ns : List Int} {x : Int} {r q : Nat} (hx : x ∉ ns) (h : BlAt ns x r) (h' : BrAt ns x q) : r = q := by
  obtain ⟨h1, h2, h3⟩ := h
  obtain ⟨k1, k2, k3⟩ := h'
  rcases Nat.lt_trichotomy r q with h5 | h5 | h5
  · have hr : r < ns.length := by (clear h1 hx; (exact Nat.lt_of_lt_of_le (by assumption) (by assumption)))
    have e := List.getElem?_eq_getElem hr
    have h6 := h3 r _ (by (clear h5 k1 h1 hx; simp)) e
    have h7 := k2 r _ (by (clear h6 k1 h1 hx; lia)) e
    have e2 : ns[r] = x := by (clear h5 k1 h1 hx; lia)
    exact absurd (e2 ▸ List.getElem_mem hr) hx
  · exact h5
  · have hr : q < ns.length := by (clear k1 hx; (exact Nat.lt_of_lt_of_le (by assumption) (by assumption)))
    have e := List.getElem?_eq_getElem hr
    have h6 := h2 q _ (by (clear k1 h1 hx; lia)) e
    have h7 := k3 q _ (by (clear h6 h5 k1 h1 hx; omega)) e
    (clear h5 k1 h1 hx; lia)
theorem ins_perm {ns : List Int} {x : Int} {r : Nat} : (ns.take r ++ x :: ns.drop r).Perm (ns ++ [x]) := by
  have h : (ns.take r ++ x :: ns.drop r).Perm (x :: (ns.take r ++ ns.drop r)) := List.perm_middle
  rw [List.take_append_drop] at h
  exact h.trans (List.perm_append_comm (l₁ := [x]))
theorem ins_strict {ns : List Int} {x : Int} {r : Nat} (hx : x ∉ ns) (h : BlAt ns x r) (hs : ns.Pairwise (· < ·)) : (ns.take r ++ x :: ns.drop r).Pairwise (· < ·) := by
  obtain ⟨h1, h2, h3⟩ := h
  have hs' := hs
  rw [← List.take_append_drop r ns] at hs'
  rw [List.pairwise_append] at hs' ⊢
  have hl : ∀ a ∈ ns.take r, a < x := by
    intro a ha
    obtain ⟨i, hi, e⟩ := List.getElem_of_mem ha
    rw [List.length_take] at hi
    have hi2 : i < ns.length := by (clear e ha hs' h1 hx; grind)
    have e2 : ns[i]? = some a := by
      rw [List.getElem?_eq_getElem hi2, ← e, List.getElem_take]
    exact h2 i a (by (clear hi2 e ha hs' h1 hx; omega)) e2
  have hr : ∀ b ∈ ns.drop r, x < b := by
    intro b hb
    have hb' : b ∈ ns := List.mem_of_mem_drop hb
    obtain ⟨i, hi, e⟩ := List.getElem_of_mem hb
    rw [List.length_drop] at hi
    have hi2 : r + i < ns.length := by (clear e hb' hb hs' h1 hx; omega)
    have e2 : ns[r + i]? = some b := by
      rw [List.getElem?_eq_getElem hi2, ← e, List.getElem_drop]
    have h6 := h3 (r + i) b (by (clear hi2 e hi hb' hb hs' h1 hx; lia)) e2
    have : x ≠ b := fun e => hx (e ▸ hb')
    (clear hi2 e hi hb' hb hs' h1 hx; lia)
  refine ⟨hs'.1, List.pairwise_cons.mpr ⟨hr, hs'.2.1⟩, ?_⟩
  intro a ha b hb
  rcases List.mem_cons.mp hb with rfl | hb
  · exact hl a ha
  · exact hs'.2.2 a ha b hb
/-- what the row holds when n codes of a turn are in -/
def RowAt (rs ds cs : List Int) (k : Nat) : Prop := rs.Perm (ds ++ cs.take k) ∧ rs.Pairwise (· < ·)
theorem row_step {rs ds cs : List Int} {k r : Nat} {x : Int} (h : RowAt rs ds cs k) (hx : cs[k]? = some x) (hn : (ds ++ cs).Nodup) (hb : BlAt rs x r) : RowAt (rs.take r ++ x :: rs.drop r) ds cs (k + 1) := by
  obtain ⟨hp, hs⟩ := h
  have e : cs.take (k + 1) = cs.take k ++ [x] := by simp [List.take_add_one, hx]
  have hsub : (ds ++ cs.take (k + 1)).Nodup := by
    refine hn.sublist (List.Sublist.append (List.Sublist.refl _) (List.take_sublist _ _))
  rw [e, ← List.append_assoc] at hsub
  have hnot : x ∉ rs := by
    intro hm
    have hm' := hp.mem_iff.mp hm
    exact (List.nodup_append.mp hsub).2.2 x hm' x (List.mem_singleton.mpr rfl) rfl
  refine ⟨?_, ins_strict hnot hb hs⟩
  refine ins_perm.trans ?_
  rw [e, ← List.append_assoc]
  exact hp.append_right _
theorem row_end {rs ds cs : List Int} {k : Nat} (h : RowAt rs ds cs k) (hk : cs.length ≤ k) : rs.Perm (ds ++ cs) ∧ rs.Pairwise (· < ·) := by
  obtain ⟨hp, hs⟩ := h
  rw [List.take_of_length_le hk] at hp
  exact ⟨hp, hs⟩
end Mine
end -- WPure7
section -- WTurnS
open PySem PySem.W PySem.Calls PySem.Spec PyProof.Rows
set_option maxRecDepth 100000
namespace Mine
/-- what the law does in each of the four turns -/
def turnParts : List Stmt := match lawParts.1.drop 10 with
  | .For (body := b) .. :: _ => b
  | _ => []
abbrev Names (m : Str → Option Value) (ps : List (Str × Value)) : Prop := ∀ p ∈ ps, m p.1 = some p.2
/-- the names of the law that the turns need -/
abbrev lawPs (folds : Int) (tf : Tok) (lb : Addr) (c : Nat) (t1 : Tok) (tail : Str) (t2 : Tok) (lc lr ld : Addr) : List (Str × Value) :=
  [(Str.ofString "folds", .int folds tf), (Str.ofString "bent", .ref lb), (Str.ofString "letter", .str ⟨#[c]⟩ t1), (Str.ofString "tail", .str tail t2), (Str.ofString "creases", .ref lc), (Str.ofString "row", .ref lr), (Str.ofString "due", .ref ld)]
abbrev lawKs : List Str := [Str.ofString "folds", Str.ofString "bent", Str.ofString "letter", Str.ofString "tail", Str.ofString "creases", Str.ofString "row", Str.ofString "due"]
/-- the names that a turn binds -/
abbrev turnPs (hdg : Int) (th : Tok) (lw : Addr) (xe : Int) (tx : Tok) (ye : Int) (ty : Tok) (ps : List (Str × Value)) : List (Str × Value) :=
  (Str.ofString "heading", .int hdg th) :: (Str.ofString "codes", .ref lw) :: (Str.ofString "x", .int xe tx) :: (Str.ofString "y", .int ye ty) :: ps
abbrev turnKs : List Str := Str.ofString "heading" :: Str.ofString "codes" :: Str.ofString "x" :: Str.ofString "y" :: lawKs
theorem names_skip {m : Str → Option Value} {ps : List (Str × Value)} {ks : List Str} {x : Str} {v : Option Value} (h : Names m ps) (hp : ps.map (·.1) = ks) (hx : x ∉ ks) : Names (fun y => if y = x then v else m y) ps := by
  intro p hm
  have : p.1 ≠ x := by
    intro e
    exact hx (hp ▸ e ▸ List.mem_map.mpr ⟨p, hm, rfl⟩)
  show (if p.1 = x then v else m p.1) = _
  rw [if_neg this]
  exact h p hm
theorem names_mix {m m' : Str → Option Value} (bs : List Bool) {ps : List (Str × Value)} (h : Names m ps) (e : ps.map (fun p => m' p.1) = List.zipWith (fun p b => cond b (some p.2) (m p.1)) ps bs) : Names m' ps := by
  induction ps generalizing bs with
  | nil => exact List.forall_mem_nil _
  | cons p ps ih =>
    cases bs with
    | nil => exact absurd e (List.cons_ne_nil _ _)
    | cons b bs =>
      have h2 := List.forall_mem_cons.mp h
      refine List.forall_mem_cons.mpr ⟨?_, ih bs h2.2 (List.cons.inj e).2⟩
      cases b with
      | true => exact (List.cons.inj e).1
      | false => exact (List.cons.inj e).1.trans h2.1
theorem names_direct {m : Str → Option Value} {ps : List (Str × Value)} (e : ps.map (fun p => m p.1) = ps.map (fun p => some p.2)) : Names m ps := fun p hp => List.map_inj_left.mp e p hp
theorem names_pick (is : List Nat) {m : Str → Option Value} {ps qs : List (Str × Value)} (h : Names m qs) (e : is.filterMap (fun i => qs[i]?) = ps) : Names m ps := by
  subst e
  intro p hp
  obtain ⟨i, -, hi⟩ := List.mem_filterMap.mp hp
  exact h p (List.mem_of_getElem? hi)
theorem list_ne {h₀ h : Heap} {L a b : Addr} {news : List (Addr × Obj)} {vs ws : List Value} {ns ms : List Int} {n k : Nat} (N : News h₀ L h news) (ha : (a, listOf vs.toArray n) ∈ news) (hb : (b, listOf ws.toArray k) ∈ news) (hv : IntsAre vs ns) (hw : IntsAre ws ms) (hne : ns ≠ ms) : a ≠ b := by
  intro e
  subst e
  have e1 := (N _ ha).1
  rw [(N _ hb).1] at e1
  have e2 := Option.some.inj e1
  have e3 : ws = vs := by
    have := congrArg Obj.data e2
    have h2 : Data.seq ws.toArray k = Data.seq vs.toArray n := this
    injection h2 with h3 _
    simpa using h3
  subst e3
  apply hne
  apply List.ext_getElem?
  intro i
  rcases Nat.lt_or_ge i ns.length with hi | hi
  · obtain ⟨t, hx⟩ := hv.get i ns[i] (by simp [hi])
    have hl : i < ms.length := by rw [← hw.length, hv.length]; exact hi
    obtain ⟨u, hy⟩ := hw.get i ms[i] (by simp [hl])
    rw [hx] at hy
    have := Option.some.inj hy
    injection this with e4 _
    rw [List.getElem?_eq_getElem hi, List.getElem?_eq_getElem hl, e4]
  · have hl : ms.length ≤ i := by rw [← hw.length, hv.length]; exact hi
    rw [List.getElem?_eq_none hi, List.getElem?_eq_none hl]
end Mine
end -- WTurnS
section -- WTurnA
open PySem PySem.W PySem.Calls PySem.Spec PyProof.Rows
set_option Elab.async false
set_option maxRecDepth 100000
set_option maxHeartbeats 2000000
set_option linter.unusedVariables false
namespace Mine
theorem fillWTurnA : (PySem.Challenge.rw_wu0034_01 = PySem.Challenge.rw_wu0034_01) ∧ (Mine.hd.heap_39 = Mine.hd.heap_39) := by
  w_top off
  k_fill
  exact ⟨rfl, rfl⟩
section
variable {prog : Program} {w : World} {mean : ExcName → Option Value} {mg mb : Str → Option Value} {fa : Addr} {cd : Value} {h₀ : Heap} {L : Addr} {m : Str → Option Value} {news : List (Addr × Obj)} {s : Shared}
    {Q : Flow → Shared → Prop} {E : Value → Shared → Prop}
theorem turnA {lr lb lc ld l' : Addr} {oc : Obj} {rvs lvs cvs : List Value} {rs ds : List Int} {bs : List Bool} {nr nb nc n' K c : Nat} {k folds : Int} {tt tf t1 t2 : Tok} {cs : List Int} {tail : Str}
    (B : Below callerA h₀ [] h₀) (X : (Mine.hd.heap_39 w.params).In h₀) (T : TopV mean mg mb h₀)
    (F : Fr h₀ L s.heap (kstB m ((Str.ofString "turned", .int k tt) :: lawPs folds tf lb c t1 tail t2 lc lr ld)))
    (N : News h₀ L s.heap ((lr, listOf rvs.toArray nr) :: (lb, listOf (bs.map Value.bool).toArray nb) :: (lc, listOf lvs.toArray nc) :: (l', listOf cvs.toArray n') :: (L + 1, oc) :: news))
    (hdc : DatAll ((lb, listOf (bs.map Value.bool).toArray nb) :: (lc, listOf lvs.toArray nc) :: (l', listOf cvs.toArray n') :: (L + 1, oc) :: news) lvs ((rangeKs 1 K).map creaseD)) (hK : K ≤ 15) (hbs : bs.length ≤ 4) (hlv : HLv K bs)
    (hap : ∀ p ∈ (lb, listOf (bs.map Value.bool).toArray nb) :: (lc, listOf lvs.toArray nc) :: (l', listOf cvs.toArray n') :: (L + 1, oc) :: news, p.1 ≠ lr)
    (hic : IntsAre cvs cs) (hcl : cs.length = 6) (dc : oc.data = .cell (some (.ref l')))
    (hir : IntsAre rvs rs) (hrow : rs.Perm ds ∧ rs.Pairwise (· < ·)) (hds : ds.length ≤ 64)
    (hnd : ∀ xe ye dxe dye codes, WI bs (hdir ((cs.getD 4 0 + k).fmod 4)) (cs.getD 2 0, cs.getD 3 0) K (K + 1) codes xe ye dxe dye → codes ≠ [] ∧ (ds ++ codes).Nodup)
    (hE : PassesOwn (model prog w) (callerA.deeper (lawEnv L fa cd)) (lawEnv L fa cd) E)
    (hret : ∀ (h' : Heap) (tk' : Nat) (m' : Str → Option Value) (lw : Addr) (wvs rvs' : List Value) (codes rs' : List Int) (nw nr' : Nat) (xe ye dxe dye : Int) (th tx ty : Tok),
      WI bs (hdir ((cs.getD 4 0 + k).fmod 4)) (cs.getD 2 0, cs.getD 3 0) K (K + 1) codes xe ye dxe dye → Fr h₀ L h' m' → Names m' (turnPs ((cs.getD 4 0 + k).fmod 4) th lw xe tx ye ty (lawPs folds tf lb c t1 tail t2 lc lr ld)) →
      News h₀ L h' ((lw, listOf wvs.toArray nw) :: (lr, listOf rvs'.toArray nr') :: (lb, listOf (bs.map Value.bool).toArray nb) :: (lc, listOf lvs.toArray nc) :: (l', listOf cvs.toArray n') :: (L + 1, oc) :: news) →
      IntsAre wvs codes → IntsAre rvs' rs' → rs'.Perm (ds ++ codes) → rs'.Pairwise (· < ·) →
      wpAny (model prog w) (callerA.deeper (lawEnv L fa cd)) (execs (turnParts.drop 4) (lawEnv L fa cd)) Q E { s with heap := h', toks := tk' }) :
    wpAny (model prog w) (callerA.deeper (lawEnv L fa cd)) (execs turnParts (lawEnv L fa cd)) Q E s := by
  dsimp only [lawEnv, turnParts, lawParts, PySem.Challenge.pw_wu0034_01, List.getLast?, List.getLast, List.drop]
  dsimp only [kstB, lawPs] at F
  have hfm := fm_range (cs.getD (Int.toNat 4) 0 + k)
  k_with_none
  k_with "subscriptTail" => (k_here; (rename News _ _ _ _ => nW); (refine menu_item nW (by k_mem) (by k_mem) (by k_mem) (by k_mem) (by k_mem) (by grind) (by omega) ?_ (by with_unfolding_all rfl)))
  k_with "pyIter ref" => (refine stop_ ?_)
  k_with "call ref" => (refine stop_ ?_)
  k_steps
  unfold Stop
  rename News _ _ _ _ => N1
  have N2 := fun p hp => N1 p (.tail _ (.tail _ (.tail _ (.tail _ (.tail _ (.tail _ hp))))))
  k_dflt (refine' walk_c (K := K) (bs := bs) ?k1 ?k2 ?k3 ?k4 ?k5 ?kK ?kd ?ku ?kmc ?kdc ?kmb ?kk ?kbs ?klv ?_)
  case k1 => k_asm
  case k2 => k_asm
  case k3 => k_asm
  case k4 => exact N2
  case k5 => k_asm
  case kK => exact rfl
  case kd => ktr_room
  case ku => ktr_units
  case kmc => exact .tail _ (.tail _ (.head _))
  case kmb => exact .tail _ (.head _)
  case kdc => exact hdc.mono fun p hp => .tail _ hp
  case kk => exact hK
  case kbs => (clear hfm hds hrow hcl hK; lia)
  case klv => exact hlv
  clear N1 N2
  intro rw9 lw wvs codes xe ye dxe dye nw n1 tx ty h9 tk9 hWI hiw F9 N9
  (try dsimp only)
  (try k_fold)
  obtain ⟨hcn, hcnd⟩ := hnd _ _ _ _ _ hWI
  have hlw : lw ≠ lr := list_ne N9 (.tail _ (.head _)) (.tail _ (.tail _ (.head _))) hiw hir (by
    intro e
    subst e
    obtain ⟨z, hz⟩ := List.exists_mem_of_ne_nil _ hcn
    exact (List.nodup_append.mp hcnd).2.2 z (hrow.1.mem_iff.mp hz) z hz rfl)
  k_steps
  unfold Stop
  rename News _ _ _ _ => N1
  rename Fr _ _ _ _ => F1
  have N2 := fun p hp => N1 p (.tail _ hp)
  clear N1
  refine' list_J (fun i m' nx => (∃ th, Names m' (turnPs ((cs.getD 4 0 + k).fmod 4) th lw xe tx ye ty (lawPs folds tf lb c t1 tail t2 lc lr ld))) ∧ ∃ rvs' rs' nr', nx = (lw, listOf wvs.toArray nw) :: (lr, listOf rvs'.toArray nr') :: (lb, listOf (bs.map Value.bool).toArray nb) :: (lc, listOf lvs.toArray nc) :: (l', listOf cvs.toArray n') :: (L + 1, oc) :: news ∧ IntsAre rvs' rs' ∧ RowAt rs' ds codes i) rfl (.head _) hiw F1 N2 ⟨⟨s.toks + 1 + 1 + 1, ?names⟩, _, _, _, rfl, hir, ?row⟩ ?turn ?done
  case row => exact ⟨by simpa using hrow.1, hrow.2⟩
  case names =>
    exact names_direct (by kernel_rfl!)
  case done =>
    rintro m₁ nx h tk - ⟨⟨th, hn⟩, rvs', rs', nr', rfl, hi', hrow'⟩ F3 N3
    have he := row_end hrow' (Nat.le_refl _)
    exact hret _ _ _ _ _ _ _ _ _ _ _ _ _ _ _ _ _ hWI F3 hn N3 hiw hi' he.1 he.2
  case turn =>
    rintro i n t m₁ nx h tk own P hP hx hadr hoff - ⟨⟨th, hn⟩, rvs', rs', nr', rfl, hi', hrow'⟩ F3 N3
    have hrl : rs'.length ≤ 1000 := by
      rw [hrow'.1.length_eq, List.length_append, List.length_take, hWI.codes]
      unfold wcodes
      rw [List.length_map, List.length_range]
      (clear hlw hcn hfm hrow hcl hbs; lia)
    have G := fr_names [(Str.ofString "code", Value.int n t), (Str.ofString "row", Value.ref lr)] F3 (by
      have hn9 := names_pick [9] hn rfl _ (.head _)
      exact List.forall_mem_cons.mpr ⟨by (first | kernel_rfl! | (refine Eq.trans ?_ (by assumption); kernel_rfl!) | ((try dsimp only); (repeat (first | exact if_pos (by decide +kernel) | refine (if_neg (by decide +kernel)).trans ?_)); (try assumption))), List.forall_mem_cons.mpr ⟨by (first | kernel_rfl! | (refine Eq.trans ?_ (by assumption); kernel_rfl!) | ((try dsimp only); (repeat (first | exact if_pos (by decide +kernel) | refine (if_neg (by decide +kernel)).trans ?_)); (try assumption))), List.forall_mem_nil _⟩⟩)
    dsimp only [kstB] at G
    clear F3
    k_with_none
    k_with "subscriptTail" => (k_here; (rename News _ _ _ _ => nW); (refine menu_item nW (by k_mem) (by k_mem) (by k_mem) (by k_mem) (by k_mem) (by omega) (by omega) ?_ (by with_unfolding_all rfl)))
    k_with "call ref" => (refine stop_ ?_)
    k_steps
    unfold Stop
    rename News _ _ _ _ => N4
    have hap4 : ∀ p ∈ (lw, listOf wvs.toArray nw) :: ((lb, listOf (bs.map Value.bool).toArray nb) :: (lc, listOf lvs.toArray nc) :: (l', listOf cvs.toArray n') :: (L + 1, oc) :: news ++ own), p.1 ≠ lr := by
      intro p hp
      rcases List.mem_cons.mp hp with rfl | hp
      · exact hlw
      · rcases List.mem_append.mp hp with hp | hp
        · exact hap p hp
        · exact hoff p hp lr (.tail _ (.head _))
    k_dflt (refine' ins_c (l := lr) (vs := rvs') (ns := rs') (nn := nr') (news := (lw, listOf wvs.toArray nw) :: ((lb, listOf (bs.map Value.bool).toArray nb) :: (lc, listOf lvs.toArray nc) :: (l', listOf cvs.toArray n') :: (L + 1, oc) :: news ++ own)) ?k1 ?k2 ?k3 ?k4 ?k5 ?kK ?kd ?ku hi' ?ks hrl hap4 ?_)
    case k1 => k_asm
    case k2 => k_asm
    case k3 => k_asm
    case k4 =>
      intro p hp
      rcases List.mem_cons.mp hp with rfl | hp
      · exact N4 _ (.tail _ (.head _))
      · rcases List.mem_cons.mp hp with rfl | hp
        · exact N4 _ (.head _)
        · exact N4 _ (.tail _ (.tail _ hp))
    case k5 => k_asm
    case kK => exact rfl
    case kd => ktr_room
    case ku => ktr_units
    case ks => exact hrow'.2.imp fun h => Int.le_of_lt h
    intro r9 vs9 nn9 h9 tk9 hb9 hi9 F9 N9
    (try dsimp only)
    (try k_fold)
    k_steps
    rename Fr _ _ _ _ => F8
    refine hP _ _ _ _ ((lw, listOf wvs.toArray nw) :: (lr, listOf vs9.toArray nn9) :: (lb, listOf (bs.map Value.bool).toArray nb) :: (lc, listOf lvs.toArray nc) :: (l', listOf cvs.toArray n') :: (L + 1, oc) :: news) F8 N9 ?_ ?_ rfl ⟨.head _, ⟨th, ?_⟩, _, _, _, rfl, hi9, row_step hrow' hx hcnd hb9⟩
    · intro p hp
      rcases List.mem_cons.mp hp with rfl | hp
      · exact .tail _ (.head _)
      · rcases List.mem_cons.mp hp with rfl | hp
        · exact .head _
        · exact .tail _ (.tail _ (List.mem_append_left _ hp))
    · intro p hp
      exact .tail _ (.tail _ (List.mem_append_right _ hp))
    · exact names_mix [false, false, false, false, false, false, false, false, false, true, false] hn (by kernel_rfl!)
end
end Mine
end -- WTurnA
section -- WTurnB
open PySem PySem.W PySem.Calls PySem.Spec PyProof.Rows
set_option Elab.async false
set_option maxRecDepth 100000
set_option maxHeartbeats 2000000
set_option linter.unusedVariables false
namespace Mine
theorem fillWTurnB : (PySem.Challenge.rw_wu0034_01 = PySem.Challenge.rw_wu0034_01) ∧ (Mine.hd.heap_39 = Mine.hd.heap_39) := by
  w_top off
  k_fill
  exact ⟨rfl, rfl⟩
section
variable {prog : Program} {w : World} {mean : ExcName → Option Value} {mg mb : Str → Option Value} {fa : Addr} {cd : Value} {h₀ : Heap} {L : Addr} {m : Str → Option Value} {news : List (Addr × Obj)} {s : Shared}
    {Q : Flow → Shared → Prop} {E : Value → Shared → Prop}
theorem turnB {lr lb lc ld l' lw : Addr} {oc : Obj} {rvs lvs cvs wvs dvs : List Value} {rs ds codes : List Int} {bs : List Bool} {nr nb nc n' nw nd c : Nat} {hdg folds xe ye c0 : Int} {tt tf t1 t2 th tx ty : Tok} {cs : List Int} {tail : Str}
    (B : Below callerA h₀ [] h₀) (X : (Mine.hd.heap_39 w.params).In h₀) (T : TopV mean mg mb h₀)
    (F : Fr h₀ L s.heap m) (hn : Names m (turnPs hdg th lw xe tx ye ty (lawPs folds tf lb c t1 tail t2 lc lr ld)))
    (N : News h₀ L s.heap ((lw, listOf wvs.toArray nw) :: (lr, listOf rvs.toArray nr) :: (lb, listOf (bs.map Value.bool).toArray nb) :: (lc, listOf lvs.toArray nc) :: (l', listOf cvs.toArray n') :: (L + 1, oc) :: (ld, listOf dvs.toArray nd) :: news))
    (hbs : bs.length ≤ 4) (hh0 : 0 ≤ hdg) (hh4 : hdg < 4)
    (hap : ∀ p ∈ (lr, listOf rvs.toArray nr) :: (lb, listOf (bs.map Value.bool).toArray nb) :: (lc, listOf lvs.toArray nc) :: (l', listOf cvs.toArray n') :: (L + 1, oc) :: news, p.1 ≠ ld)
    (hic : IntsAre cvs cs) (hcl : cs.length = 6) (dc : oc.data = .cell (some (.ref l')))
    (hir : IntsAre rvs rs) (hstr : rs.Pairwise (· < ·)) (hrl : rs.length ≤ 1000) (hiw : IntsAre wvs codes) (hid : IntsAre dvs ds) (hdl : ds.length ≤ 64) (hcd : codes.length ≤ 16)
    (hc0 : codes[0]? = some c0) (hsub : ∀ z ∈ codes, z ∈ rs) (hend : 1024 * xe + 2 * ye ∉ rs) (hne : ds ≠ codes)
    (hcu : codes = ucodes (uheads hdg bs) (cs.getD 2 0, cs.getD 3 0))
    (hE : PassesOwn (model prog w) (callerA.deeper (lawEnv L fa cd)) (lawEnv L fa cd) E)
    (hret : ∀ (h' : Heap) (tk' : Nat) (m' : Str → Option Value) (dvs' : List Value) (nd' : Nat),
      Fr h₀ L h' m' → Names m' (turnPs hdg th lw xe tx ye ty (lawPs folds tf lb c t1 tail t2 lc lr ld)) →
      News h₀ L h' ((lr, listOf rvs.toArray nr) :: (lb, listOf (bs.map Value.bool).toArray nb) :: (lc, listOf lvs.toArray nc) :: (l', listOf cvs.toArray n') :: (L + 1, oc) :: (ld, listOf dvs'.toArray nd') :: news) →
      IntsAre dvs' (ds ++ codes) →
      wpAny (model prog w) (callerA.deeper (lawEnv L fa cd)) (execs (turnParts.drop 8) (lawEnv L fa cd)) Q E { s with heap := h', toks := tk' }) :
    wpAny (model prog w) (callerA.deeper (lawEnv L fa cd)) (execs (turnParts.drop 4) (lawEnv L fa cd)) Q E s := by
  dsimp only [lawEnv, turnParts, lawParts, PySem.Challenge.pw_wu0034_01, List.getLast?, List.getLast, List.drop]
  have G := fr_names [(Str.ofString "heading", Value.int hdg th), (Str.ofString "codes", Value.ref lw), (Str.ofString "x", Value.int xe tx), (Str.ofString "y", Value.int ye ty), (Str.ofString "bent", Value.ref lb), (Str.ofString "row", Value.ref lr), (Str.ofString "due", Value.ref ld)] F (by
    exact names_pick [0, 1, 2, 3, 5, 9, 10] hn rfl)
  dsimp only [kstB] at G
  clear F
  have hcp : 0 < codes.length := (List.getElem?_eq_some_iff.mp hc0).1
  have hcg : codes.getD (Int.toNat 0) 0 = c0 := by
    show codes.getD 0 0 = c0
    rw [List.getD_eq_getElem?_getD, hc0]; rfl
  have hc0m : c0 ∈ codes := List.mem_of_getElem? hc0
  k_with_none
  k_with "call ref" => (refine stop_ ?_)
  k_steps
  unfold Stop
  k_dflt (refine' bl_m (vs := rvs) (ns := rs) (nn := nr) ?k1 ?k2 ?k3 ?k4 ?k5 ?kK ?kd ?ku ?km hir hstr hrl ?_)
  case k1 => k_asm
  case k2 => k_asm
  case k3 => k_asm
  case k4 => k_asm
  case k5 => k_asm
  case kK => exact rfl
  case kd => ktr_room
  case ku => ktr_units
  case km => exact .tail _ (.head _)
  intro r1 q1 h1 k1 hr1 F1 N1
  (try dsimp only)
  (try k_fold)
  k_steps
  unfold Stop
  k_dflt (refine' br_m (vs := rvs) (ns := rs) (nn := nr) ?k1 ?k2 ?k3 ?k4 ?k5 ?kK ?kd ?ku ?km hir hstr hrl ?_)
  case k1 => k_asm
  case k2 => k_asm
  case k3 => k_asm
  case k4 => k_asm
  case k5 => k_asm
  case kK => exact rfl
  case kd => ktr_room
  case ku => ktr_units
  case km => exact .tail _ (.head _)
  intro r2 q2 h2 k2 hr2 F2 N2
  obtain rfl := bl_br hend hr1 hr2
  (try dsimp only)
  (try k_fold)
  k_steps
  · rename ¬ _ = _ => hX9
    exact absurd rfl hX9
  unfold Stop
  k_dflt (refine' bl_m (vs := rvs) (ns := rs) (nn := nr) ?k1 ?k2 ?k3 ?k4 ?k5 ?kK ?kd ?ku ?km hir hstr hrl ?_)
  case k1 => k_asm
  case k2 => k_asm
  case k3 => k_asm
  case k4 => k_asm
  case k5 => k_asm
  case kK => exact rfl
  case kd => ktr_room
  case ku => ktr_units
  case km => exact .tail _ (.head _)
  intro r3 q3 h3 k3 hr3 F3 N3
  rw [hcg] at hr3
  have hg3 := bl_in (hsub _ hc0m) hr3 hstr
  have hl3 : r3 < rs.length := (List.getElem?_eq_some_iff.mp hg3).1
  (try dsimp only)
  (try k_fold)
  have hv3 : rs.getD ((r3 : Int)).toNat 0 = codes.getD (Int.toNat 0) 0 := by
    rw [hcg, Int.toNat_natCast, List.getD_eq_getElem?_getD, hg3]
    rfl
  k_steps
  · rename _ ≠ _ => hX9
    exact absurd hv3 hX9
  unfold Stop
  k_dflt (refine' con_m (vs := wvs) (ns := codes) (nn := nw) ?k1 ?k2 ?k3 ?k4 ?k5 ?kK ?kd ?ku ?km hiw (by (clear hv3 hl3 hc0m hcg hcp hne hend hdl hrl hcl hh4 hh0 hbs; lia)) ?_)
  case k1 => k_asm
  case k2 => k_asm
  case k3 => k_asm
  case k4 => k_asm
  case k5 => k_asm
  case kK => exact rfl
  case kd => ktr_room
  case ku => ktr_units
  case km => exact .head _
  intro h4 k4 F4 N4
  rw [any_not fun h => hend (hsub _ h)]
  (try dsimp only)
  (try k_fold)
  k_steps
  unfold Stop
  k_dflt (refine' con_m (vs := wvs) (ns := codes) (nn := nw) ?k1 ?k2 ?k3 ?k4 ?k5 ?kK ?kd ?ku ?km hiw (by (clear hv3 hl3 hc0m hcg hcp hne hend hdl hrl hcl hh4 hh0 hbs; omega)) ?_)
  case k1 => k_asm
  case k2 => k_asm
  case k3 => k_asm
  case k4 => k_asm
  case k5 => k_asm
  case kK => exact rfl
  case kd => ktr_room
  case ku => ktr_units
  case km => exact .head _
  intro h5 k5 F5 N5
  rw [hcg, any_is hc0m]
  (try dsimp only)
  (try k_fold)
  k_steps
  unfold Stop
  k_dflt (refine' unf_c (bs := bs) (nb := nb) ?k1 ?k2 ?k3 ?k4 ?k5 ?kK ?kd ?ku ?km hbs hh0 hh4 ?_)
  case k1 => k_asm
  case k2 => k_asm
  case k3 => k_asm
  case k4 => k_asm
  case k5 => k_asm
  case kK => exact rfl
  case kd => ktr_room
  case ku => ktr_units
  case km => exact .tail _ (.tail _ (.head _))
  intro lu uvs ucs nu h6 k6 hu6 hi6 F6 N6
  (try dsimp only)
  (try k_fold)
  k_steps
  unfold Stop
  obtain rfl : ucs = codes := hu6.trans hcu.symm
  rename News _ _ _ _ => N7
  have hlu : lu ≠ ld := list_ne N7 (.head _) (.tail _ (.tail _ (.tail _ (.tail _ (.tail _ (.tail _ (.tail _ (.head _)))))))) hi6 hid (Ne.symm hne)
  k_dflt (refine' iaddl_c (vs := dvs) (ws := uvs) (nn := nd) (n2 := nu) (news := (lr, listOf rvs.toArray nr) :: (lb, listOf (bs.map Value.bool).toArray nb) :: (lc, listOf lvs.toArray nc) :: (l', listOf cvs.toArray n') :: (L + 1, oc) :: news) ?k1 ?k2 ?k3 ?k4 ?k5 ?kK ?kd ?ku ?kl ?kn hlu hap ?_)
  case k1 => k_asm
  case k2 => k_asm
  case k3 => k_asm
  case k4 =>
    refine List.forall_mem_cons.mpr ⟨N7 _ (.tail _ (.tail _ (.tail _ (.tail _ (.tail _ (.tail _ (.tail _ (.head _)))))))), List.forall_mem_cons.mpr ⟨N7 _ (.head _), List.forall_mem_cons.mpr ⟨N7 _ (.tail _ (.tail _ (.head _))), List.forall_mem_cons.mpr ⟨N7 _ (.tail _ (.tail _ (.tail _ (.head _)))), List.forall_mem_cons.mpr ⟨N7 _ (.tail _ (.tail _ (.tail _ (.tail _ (.head _))))), List.forall_mem_cons.mpr ⟨N7 _ (.tail _ (.tail _ (.tail _ (.tail _ (.tail _ (.head _)))))), List.forall_mem_cons.mpr ⟨N7 _ (.tail _ (.tail _ (.tail _ (.tail _ (.tail _ (.tail _ (.head _))))))), fun p hp => N7 p (.tail _ (.tail _ (.tail _ (.tail _ (.tail _ (.tail _ (.tail _ (.tail _ hp))))))))⟩⟩⟩⟩⟩⟩⟩
  case k5 => k_asm
  case kK => exact rfl
  case kd => ktr_room
  case ku => ktr_units
  case kl => rw [hid.length, hi6.length]; (clear hlu hv3 hc0m hcg hcp hne hl3 hend hrl hcl hh4 hh0 hbs; lia)
  case kn => rw [hi6.length]; (clear hlu hv3 hc0m hcg hne hcd hl3 hend hdl hrl hcl hh4 hh0 hbs; (exact Nat.ne_of_gt (by assumption)))
  clear N7
  intro nd8 h8 k8 F8 N8
  (try dsimp only)
  (try k_fold)
  k_with "execs cons" => (refine stop_ ?_)
  k_steps
  unfold Stop
  rename Fr _ _ _ _ => F9
  refine hret _ _ _ _ nd8 F9 ?_ ?_ (hid.append hi6)
  · exact names_mix [true, true, true, true, false, true, false, false, false, true, true] hn (by kernel_rfl!)
  · refine List.forall_mem_cons.mpr ⟨N8 _ (.tail _ (.tail _ (.head _))), List.forall_mem_cons.mpr ⟨N8 _ (.tail _ (.tail _ (.tail _ (.head _)))), List.forall_mem_cons.mpr ⟨N8 _ (.tail _ (.tail _ (.tail _ (.tail _ (.head _))))), List.forall_mem_cons.mpr ⟨N8 _ (.tail _ (.tail _ (.tail _ (.tail _ (.tail _ (.head _)))))), List.forall_mem_cons.mpr ⟨N8 _ (.tail _ (.tail _ (.tail _ (.tail _ (.tail _ (.tail _ (.head _))))))), List.forall_mem_cons.mpr ⟨N8 _ (.head _), fun p hp => N8 p (.tail _ (.tail _ (.tail _ (.tail _ (.tail _ (.tail _ (.tail _ hp)))))))⟩⟩⟩⟩⟩⟩
end
end Mine
end -- WTurnB
section -- WTurnC
open PySem PySem.W PySem.Calls PySem.Spec PyProof.Rows
set_option Elab.async false
set_option maxRecDepth 100000
set_option maxHeartbeats 2000000
set_option linter.unusedVariables false
namespace Mine
theorem fillWTurnC : (PySem.Challenge.rw_wu0034_01 = PySem.Challenge.rw_wu0034_01) ∧ (Mine.hd.heap_39 = Mine.hd.heap_39) := by
  w_top off
  k_fill
  exact ⟨rfl, rfl⟩
theorem told_text {q c : Nat} {told tail : Str} (h : told.cps.toList = MQ q c []) : ((Str.ofString "257 \"" ++ told) ++ tail).cps.toList = [50,53,55,32,34] ++ MQ q c tail.cps.toList := by
  rw [Str.cps_append, Str.cps_append, show Str.ofString "257 \"" = ⟨#[50,53,55,32,34]⟩ by decide +kernel]
  simp [h, MQ]
theorem told_next {f i c : Nat} {y : Str} (hi : i < f) (hy : y.cps.toList = HQ (2 ^ (f - i)) c) : y.cps.toList = MQ (2 ^ (f - (i + 1))) c [] := by
  have e : 2 ^ (f - i) = 2 ^ (f - (i + 1)) * 2 := by rw [← Nat.pow_succ]; congr 1; grind
  rw [e, HQ_even (by (clear e hi; simp)), Nat.mul_div_cancel _ (by decide)] at hy
  exact hy
theorem told_done {c f : Nat} {told : Str} (h : told.cps.toList = MQ (2 ^ (f - f)) c []) : (told != Str.ofString "\"" ++ (⟨#[c]⟩ : Str)) = false := by
  have e : told = Str.ofString "\"" ++ (⟨#[c]⟩ : Str) := by
    have e2 : told.cps = (Str.ofString "\"" ++ (⟨#[c]⟩ : Str)).cps := by
      apply Array.toList_inj.mp
      rw [h, Str.cps_append, ofs_quote, Nat.sub_self]
      simp [MQ]
    cases told
    exact congrArg Str.mk e2
  rw [e]
  simp
theorem mul_len {n : Nat} : (Txt.mul (Str.ofString "\"") (n : Int)).length ≤ n := by
  have h := congrArg List.length (told_list (n := (n : Int)) (c := 0))
  rw [Str.cps_append, Array.toList_append, List.length_append] at h
  simp [MQ] at h
  show (Txt.mul _ _).cps.size ≤ n
  lia
section
variable {prog : Program} {w : World} {mean : ExcName → Option Value} {mg mb : Str → Option Value} {fa : Addr} {cd : Value} {h₀ : Heap} {L : Addr} {m : Str → Option Value} {news : List (Addr × Obj)} {s : Shared}
    {Q : Flow → Shared → Prop} {E : Value → Shared → Prop}
theorem turnC {lr lb lc ld l' lw : Addr} {oc : Obj} {rvs lvs cvs dvs : List Value} {bs : List Bool} {nr nb nc n' nd c f : Nat} {hdg folds xe ye : Int} {tf t1 t2 th tx ty : Tok} {cs : List Int} {tail : Str}
    (B : Below callerA h₀ [] h₀) (X : (Mine.hd.heap_39 w.params).In h₀) (T : TopV mean mg mb h₀)
    (F : Fr h₀ L s.heap m) (hn : Names m (turnPs hdg th lw xe tx ye ty (lawPs folds tf lb c t1 tail t2 lc lr ld)))
    (N : News h₀ L s.heap ((lr, listOf rvs.toArray nr) :: (lb, listOf (bs.map Value.bool).toArray nb) :: (lc, listOf lvs.toArray nc) :: (l', listOf cvs.toArray n') :: (L + 1, oc) :: (ld, listOf dvs.toArray nd) :: news))
    (hic : IntsAre cvs cs) (hcl : cs.length = 6) (dc : oc.data = .cell (some (.ref l')))
    (hff : folds = (f : Int)) (hf4 : f ≤ 4) (hc : c ≠ 34) (htl : P257 tail.cps.toList = []) (htn : tail.cps.toList.length ≤ 1000)
    (hm1 : IntMulOk (xe - cs.getD 2 0) (xe - cs.getD 2 0)) (hm2 : IntMulOk (ye + -cs.getD 3 0) (ye + -cs.getD 3 0))
    (hsq : (xe - cs.getD 2 0) * (xe - cs.getD 2 0) + (ye + -cs.getD 3 0) * (ye + -cs.getD 3 0) = ((2 ^ f : Nat) : Int))
    (hE : PassesOwn (model prog w) (callerA.deeper (lawEnv L fa cd)) (lawEnv L fa cd) E)
    (hret : ∀ (h' : Heap) (tk' : Nat) (m' : Str → Option Value),
      Fr h₀ L h' m' → Names m' (lawPs folds tf lb c t1 tail t2 lc lr ld) →
      News h₀ L h' ((lr, listOf rvs.toArray nr) :: (lb, listOf (bs.map Value.bool).toArray nb) :: (lc, listOf lvs.toArray nc) :: (l', listOf cvs.toArray n') :: (L + 1, oc) :: (ld, listOf dvs.toArray nd) :: news) →
      Q .next { s with heap := h', toks := tk' }) :
    wpAny (model prog w) (callerA.deeper (lawEnv L fa cd)) (execs (turnParts.drop 8) (lawEnv L fa cd)) Q E s := by
  dsimp only [lawEnv, turnParts, lawParts, PySem.Challenge.pw_wu0034_01, List.getLast?, List.getLast, List.drop]
  have G := fr_names [(Str.ofString "x", Value.int xe tx), (Str.ofString "y", Value.int ye ty), (Str.ofString "folds", Value.int folds tf), (Str.ofString "letter", .str ⟨#[c]⟩ t1), (Str.ofString "tail", .str tail t2)] F (by
    exact names_pick [2, 3, 4, 6, 7] hn rfl)
  dsimp only [kstB] at G
  clear F
  have hp16 : 2 ^ f ≤ 16 := Nat.pow_le_pow_right (by decide) hf4
  have hM : MulOk (Str.ofString "\"") ((xe - cs.getD (Int.toNat 2) 0) * (xe - cs.getD (Int.toNat 2) 0) + (ye + -cs.getD (Int.toNat 3) 0) * (ye + -cs.getD (Int.toNat 3) 0)) := by
    show MulOk (Str.ofString "\"") ((xe - cs.getD 2 0) * (xe - cs.getD 2 0) + (ye + -cs.getD 3 0) * (ye + -cs.getD 3 0))
    rw [hsq]
    generalize 2 ^ f = P at hp16
    exact mulOk_of 1 16 (by decide +kernel) (by (clear hsq htn hc hf4 hff hcl; lia)) (by (clear hp16 hsq htn hc hf4 hff hcl; simp)) (by decide) (by decide)
  have hML : (Txt.mul (Str.ofString "\"") ((xe - cs.getD (Int.toNat 2) 0) * (xe - cs.getD (Int.toNat 2) 0) + (ye + -cs.getD (Int.toNat 3) 0) * (ye + -cs.getD (Int.toNat 3) 0))).length ≤ 16 := by
    show (Txt.mul (Str.ofString "\"") ((xe - cs.getD 2 0) * (xe - cs.getD 2 0) + (ye + -cs.getD 3 0) * (ye + -cs.getD 3 0))).length ≤ 16
    rw [hsq]
    exact Nat.le_trans mul_len hp16
  k_with_none
  k_with "pyIter ref" => (refine stop_ ?_)
  k_with "call ref" => first
    | ((k_dflt (refine' iadd_c ?k1 ?k2 ?k3 ?k4 ?k5 ?kK ?kd ?ku ?_)); (case k1 => k_asm); (case k2 => k_asm); (case k3 => k_asm); (case k4 => k_asm); (case k5 => k_asm); (case kK => exact rfl); (case kd => ktr_room); (case ku => ktr_units); (intro t9 h9 tk9 F9 N9); (try dsimp only); (try k_fold))
    | ((k_dflt (refine' isub_c ?k1 ?k2 ?k3 ?k4 ?k5 ?kK ?kd ?ku ?_)); (case k1 => k_asm); (case k2 => k_asm); (case k3 => k_asm); (case k4 => k_asm); (case k5 => k_asm); (case kK => exact rfl); (case kd => ktr_room); (case ku => ktr_units); (intro t9 h9 tk9 F9 N9); (try dsimp only); (try k_fold))
    | ((k_dflt (refine' imul_c (by first | exact hm1 | exact hm2) ?k1 ?k2 ?k3 ?k4 ?k5 ?kK ?kd ?ku ?_)); (case k1 => k_asm); (case k2 => k_asm); (case k3 => k_asm); (case k4 => k_asm); (case k5 => k_asm); (case kK => exact rfl); (case kd => ktr_room); (case ku => ktr_units); (intro t9 h9 tk9 F9 N9); (try dsimp only); (try k_fold))
    | ((k_dflt (refine' neg_c ?k1 ?k2 ?k3 ?k4 ?k5 ?kK ?kd ?ku ?_)); (case k1 => k_asm); (case k2 => k_asm); (case k3 => k_asm); (case k4 => k_asm); (case k5 => k_asm); (case kK => exact rfl); (case kd => ktr_room); (case ku => ktr_units); (intro t9 h9 tk9 F9 N9); (try dsimp only); (try k_fold))
    | (refine stop_ ?_)
  k_steps
  unfold Stop
  rename IsRange _ _ _ _ _ _ _ _ => hR
  rename Fr _ _ _ _ => F1
  rename News _ _ _ _ => N1
  have N2 := fun p hp => N1 p (.tail _ hp)
  clear N1
  refine' range_J (n := f) (fun i m' nx => nx = (lr, listOf rvs.toArray nr) :: (lb, listOf (bs.map Value.bool).toArray nb) :: (lc, listOf lvs.toArray nc) :: (l', listOf cvs.toArray n') :: (L + 1, oc) :: (ld, listOf dvs.toArray nd) :: news ∧ Names m' (lawPs folds tf lb c t1 tail t2 lc lr ld) ∧ ∃ told tk, m' (Str.ofString "told") = some (.str told tk) ∧ told.cps.toList = MQ (2 ^ (f - i)) c []) rfl hR ?small ?size F1 N2 ⟨rfl, ?names, _, _, ?told, ?tcps⟩ ?turn ?done
  case small => exact small_one (by (clear hML hp16 hsq htn hc hf4 hff hcl; simp)) (by (clear hML hp16 hsq htn hc hf4 hff hcl; simp)) (by (clear hML hp16 hsq htn hc hf4 hcl; lia)) (by (clear hML hp16 hsq htn hc hcl; lia))
  case size => rw [hff]; exact (rangeSize_nat _ _).trans (by (clear hML hp16 hsq htn hc hf4 hff hcl; rfl))
  case told => (first | kernel_rfl! | (refine Eq.trans ?_ (by assumption); kernel_rfl!) | ((try dsimp only); (repeat (first | exact if_pos (by decide +kernel) | refine (if_neg (by decide +kernel)).trans ?_)); (try assumption))); rfl
  case tcps =>
    refine told_list.trans ?_
    show MQ ((xe - cs.getD 2 0) * (xe - cs.getD 2 0) + (ye + -cs.getD 3 0) * (ye + -cs.getD 3 0)).toNat c [] = _
    rw [hsq, Int.toNat_natCast, Nat.sub_zero]
  case names =>
    exact names_mix [true, false, true, true, false, false, false] (names_pick [4, 5, 6, 7, 8, 9, 10] hn rfl) (by kernel_rfl!)
  case done =>
    rintro m₁ nx h tk ⟨rfl, hn1, told, tk8, ht, htc⟩ F3 N3
    have G := fr_names [(Str.ofString "told", Value.str told tk8), (Str.ofString "letter", .str ⟨#[c]⟩ t1)] F3 (by
      exact List.forall_mem_cons.mpr ⟨ht, names_pick [2] hn1 rfl⟩)
    dsimp only [kstB] at G
    clear F3
    have hd9 := told_done htc
    k_with_none
    k_steps
    refine hret _ _ _ (by assumption) ?_ (by assumption)
    exact names_mix [false, false, true, false, false, false, false] hn1 (by kernel_rfl!)
  case turn =>
    rintro i t m₁ nx h tk own P hP hi hadr hoff ⟨rfl, hn1, told, tk8, ht, htc⟩ F3 N3
    have G := fr_names [(Str.ofString "_", Value.int (0 + (i : Int)) t), (Str.ofString "told", Value.str told tk8), (Str.ofString "tail", .str tail t2)] F3 (by
      have hn4 := names_pick [3] hn1 rfl _ (.head _)
      exact List.forall_mem_cons.mpr ⟨by (first | kernel_rfl! | (refine Eq.trans ?_ (by assumption); kernel_rfl!) | ((try dsimp only); (repeat (first | exact if_pos (by decide +kernel) | refine (if_neg (by decide +kernel)).trans ?_)); (try assumption))), List.forall_mem_cons.mpr ⟨by (first | kernel_rfl! | (refine Eq.trans ?_ (by assumption); kernel_rfl!) | ((try dsimp only); (repeat (first | exact if_pos (by decide +kernel) | refine (if_neg (by decide +kernel)).trans ?_)); (try assumption))), List.forall_mem_cons.mpr ⟨by (first | kernel_rfl! | (refine Eq.trans ?_ (by assumption); kernel_rfl!) | ((try dsimp only); (repeat (first | exact if_pos (by decide +kernel) | refine (if_neg (by decide +kernel)).trans ?_)); (try assumption))), List.forall_mem_nil _⟩⟩⟩)
    dsimp only [kstB] at G
    clear F3
    k_with_none
    k_with "call ref" => (refine stop_ ?_)
    have hle : 2 ^ (f - i) ≤ 16 := Nat.le_trans (Nat.pow_le_pow_right (by decide) (Nat.sub_le _ _)) hp16
    have hl8 : told.length ≤ 17 := by
      show told.cps.size ≤ 17
      rw [← Array.length_toList, htc]
      simp [MQ]
      (clear hi hML hp16 hsq htn hc hf4 hff hcl; omega)
    have hl9 : tail.length ≤ 1000 := by
      show tail.cps.size ≤ 1000
      rw [← Array.length_toList]
      exact htn
    k_steps
    unfold Stop
    k_dflt (refine' parse_q ?k1 ?k2 ?k3 ?k4 ?k5 ?kK ?kd ?ku (told_text htc) hc htl ?kq htn ?_)
    case k1 => k_asm
    case k2 => k_asm
    case k3 => k_asm
    case k4 => k_asm
    case k5 => k_asm
    case kK => exact rfl
    case kd => ktr_room
    case ku => ktr_units
    case kq => (clear hl9 hl8 hi hML hp16 hsq htn hc hf4 hff hcl; lia)
    intro y9 t9 h9 tk9 hy9 hly9 F9 N9
    (try dsimp only)
    (try k_fold)
    k_steps
    rename Fr _ _ _ _ => F8
    rename News _ _ _ _ => N8
    refine' hP _ _ _ _ ((lr, listOf rvs.toArray nr) :: (lb, listOf (bs.map Value.bool).toArray nb) :: (lc, listOf lvs.toArray nc) :: (l', listOf cvs.toArray n') :: (L + 1, oc) :: (ld, listOf dvs.toArray nd) :: news) F8 N8 (fun p hp => List.mem_append_left _ hp) (fun p hp => List.mem_append_right _ hp) rfl ⟨rfl, ?nms, y9, t9, ?tl, told_next hi hy9⟩
    case tl => (first | kernel_rfl! | (refine Eq.trans ?_ (by assumption); kernel_rfl!) | ((try dsimp only); (repeat (first | exact if_pos (by decide +kernel) | refine (if_neg (by decide +kernel)).trans ?_)); (try assumption)))
    exact names_mix [false, false, false, true, false, false, false] hn1 (by kernel_rfl!)
end
end Mine
end -- WTurnC
section -- WPure8
open PySem PySem.W PySem.Calls PySem.Spec PyProof.Rows
set_option maxRecDepth 100000
namespace Mine
theorem sq_small {a b : Int} {P : Nat} (h : a * a + b * b = (P : Int)) (hP : P ≤ 16) : -4 ≤ a ∧ a ≤ 4 := by
  have hb : 0 ≤ b * b := by
    rcases Int.le_total 0 b with h | h
    · exact Int.mul_nonneg h h
    · exact Int.mul_nonneg_of_nonpos_of_nonpos h h
  have ha : a * a ≤ 16 := by omega
  constructor
  · apply Int.not_lt.mp
    intro hc
    have : 25 ≤ (-a) * (-a) := by
      have h5 : 5 ≤ -a := by (clear ha hb hP h; lia)
      exact Int.mul_le_mul h5 h5 (by decide) (by (clear h5 ha hb hP h; lia))
    rw [Int.neg_mul_neg] at this
    (clear hc ha; omega)
  · apply Int.not_lt.mp
    intro hc
    have : 25 ≤ a * a := by
      have h5 : 5 ≤ a := by (clear ha hb hP h; assumption)
      exact Int.mul_le_mul h5 h5 (by decide) (by (clear h5 ha hb hP h; lia))
    (clear hc ha; omega)
theorem mulOk_small {a : Int} (h : -4 ≤ a ∧ a ≤ 4) : IntMulOk a a := by
  obtain ⟨h1, h2⟩ := h
  rcases (by lia : a = -4 ∨ a = -3 ∨ a = -2 ∨ a = -1 ∨ a = 0 ∨ a = 1 ∨ a = 2 ∨ a = 3 ∨ a = 4) with rfl | rfl | rfl | rfl | rfl | rfl | rfl | rfl | rfl <;> exact mulOk_of_bits (m := 8) (n := 8) (by decide) (by decide) (by decide)
theorem turn_plain {bs : List Bool} (hl : bs.length = 2 ∨ bs.length = 3 ∨ bs.length = 4) {c4 x0 y0 h : Int} {i K : Nat} (hi : i < 4) (hK : K + 1 = 2 ^ bs.length) (hh : h = (c4 + (i : Int)).fmod 4)
    {codes : List Int} {xe ye dxe dye : Int} (W : WI bs (hdir h) (x0, y0) K (K + 1) codes xe ye dxe dye) :
    codes = ucodes (uheads h bs) (x0, y0) ∧ codes.length = 2 ^ bs.length ∧ dueN bs c4 (x0, y0) i ++ codes = dueN bs c4 (x0, y0) (i + 1) ∧ (dueN bs c4 (x0, y0) i ++ codes).Nodup ∧ codes ≠ [] ∧
    1024 * xe + 2 * ye ∉ dueN bs c4 (x0, y0) (i + 1) ∧ dueN bs c4 (x0, y0) i ≠ codes ∧ IntMulOk (xe - x0) (xe - x0) ∧ IntMulOk (ye + -y0) (ye + -y0) ∧
    (xe - x0) * (xe - x0) + (ye + -y0) * (ye + -y0) = ((2 ^ bs.length : Nat) : Int) := by
  have hr := fm_range (c4 + (i : Int))
  rw [← hh] at hr
  obtain ⟨h0, h4⟩ := hr
  have e1 : codes = ucodes (uheads h bs) (x0, y0) := by rw [W.codes, hK, walk_codes hl h0 h4]
  have e2 : codes.length = 2 ^ bs.length := by rw [e1, ucodes_length, uheads_length]
  have e3 : dueN bs c4 (x0, y0) i ++ codes = dueN bs c4 (x0, y0) (i + 1) := by rw [e1, hh]; rfl
  have e4 : (dueN bs c4 (x0, y0) i ++ codes).Nodup := by rw [e3]; exact dueN_nodup' hl (by (clear e2 h4 h0 hh hK hl; assumption))
  have hp : 0 < 2 ^ bs.length := Nat.pow_pos (by decide)
  have e5 : codes ≠ [] := by
    intro e
    rw [e] at e2
    simp at e2
    (clear hp h4 h0 hh hi hl; lia)
  have hw := walk_end (x := x0) (y := y0) hl h0 h4
  have hx : xe = x0 + (relEnd bs h).1 := by rw [W.x, hK, hw]
  have hy : ye = y0 + (relEnd bs h).2 := by rw [W.y, hK, hw]
  have hf := end_far hl h0 h4
  have d1 : xe - x0 = (relEnd bs h).1 := by (clear hf hy hw e5 hp e2 h4 h0 hh hK hi hl; lia)
  have d2 : ye + -y0 = (relEnd bs h).2 := by (clear d1 hf hx hw e5 hp e2 h4 h0 hh hK hi hl; lia)
  have hsq : (xe - x0) * (xe - x0) + (ye + -y0) * (ye + -y0) = ((2 ^ bs.length : Nat) : Int) := by
    rw [d1, d2, hf]
    norm_cast
  have hP : 2 ^ bs.length ≤ 16 := by rcases hl with e | e | e <;> rw [e] <;> decide
  refine ⟨e1, e2, e3, e4, e5, ?_, ?_, mulOk_small (sq_small hsq hP), mulOk_small (sq_small (by rw [Int.add_comm]; exact hsq) hP), hsq⟩
  · intro hm
    rw [hx, hy] at hm
    exact end_off hl h0 h4 (dueN_part (i + 1) (by (clear hm hP hsq d2 d1 hf hy hx hw e5 hp e2 h4 h0 hh hK hl; assumption)) _ hm)
  · intro e
    obtain ⟨z, hz⟩ := List.exists_mem_of_ne_nil _ e5
    exact (List.nodup_append.mp e4).2.2 z (e ▸ hz) z hz rfl
end Mine
end -- WPure8
section -- WStageC
open PySem PySem.W PySem.Calls PySem.Spec PyProof.Rows
set_option Elab.async false
set_option maxRecDepth 100000
set_option maxHeartbeats 2000000
set_option linter.unusedVariables false
namespace Mine
theorem fillWStageC : (PySem.Challenge.rw_wu0034_01 = PySem.Challenge.rw_wu0034_01) ∧ (Mine.hd.heap_39 = Mine.hd.heap_39) := by
  w_top off
  k_fill
  exact ⟨rfl, rfl⟩
section
variable {prog : Program} {w : World} {mean : ExcName → Option Value} {mg mb : Str → Option Value} {fa : Addr} {cd : Value} {h₀ : Heap} {L : Addr} {m : Str → Option Value} {news : List (Addr × Obj)} {s : Shared}
    {Q : Flow → Shared → Prop} {E : Value → Shared → Prop}
theorem lawC {lr lb lc ld l' : Addr} {oc : Obj} {lvs cvs : List Value} {bs : List Bool} {nb nc n' c K : Nat} {folds : Int} {tf t1 t2 : Tok} {cs : List Int} {tail : Str}
    (B : Below callerA h₀ [] h₀) (X : (Mine.hd.heap_39 w.params).In h₀) (T : TopV mean mg mb h₀)
    (F : Fr h₀ L s.heap (kstB m (lawPs folds tf lb c t1 tail t2 lc lr ld)))
    (N : News h₀ L s.heap ((lr, listOf #[] 0) :: (lb, listOf (bs.map Value.bool).toArray nb) :: (lc, listOf lvs.toArray nc) :: (l', listOf cvs.toArray n') :: (L + 1, oc) :: (ld, listOf #[] 0) :: news))
    (hic : IntsAre cvs cs) (hcl : cs.length = 6) (dc : oc.data = .cell (some (.ref l')))
    (hl : bs.length = 2 ∨ bs.length = 3 ∨ bs.length = 4) (hff : folds = (bs.length : Int)) (hK : K + 1 = 2 ^ bs.length) (hlv : HLv K bs)
    (hdc : DatAll ((lb, listOf (bs.map Value.bool).toArray nb) :: (lc, listOf lvs.toArray nc) :: (l', listOf cvs.toArray n') :: (L + 1, oc) :: news) lvs ((rangeKs 1 K).map creaseD))
    (hapr : ∀ p ∈ (lb, listOf (bs.map Value.bool).toArray nb) :: (lc, listOf lvs.toArray nc) :: (l', listOf cvs.toArray n') :: (L + 1, oc) :: news, p.1 ≠ lr)
    (hapd : ∀ p ∈ (lb, listOf (bs.map Value.bool).toArray nb) :: (lc, listOf lvs.toArray nc) :: (l', listOf cvs.toArray n') :: (L + 1, oc) :: news, p.1 ≠ ld) (hrd : lr ≠ ld)
    (hc : c ≠ 34) (htl : P257 tail.cps.toList = []) (htn : tail.cps.toList.length ≤ 1000)
    (hret : ∀ (h' : Heap) (tk' : Nat) (m' : Str → Option Value) (rvs dvs : List Value) (rs : List Int) (nr nd : Nat),
      Fr h₀ L h' m' → Names m' (lawPs folds tf lb c t1 tail t2 lc lr ld) →
      News h₀ L h' ((lr, listOf rvs.toArray nr) :: (lb, listOf (bs.map Value.bool).toArray nb) :: (lc, listOf lvs.toArray nc) :: (l', listOf cvs.toArray n') :: (L + 1, oc) :: (ld, listOf dvs.toArray nd) :: news) →
      IntsAre rvs rs → IntsAre dvs (dueN bs (cs.getD 4 0) (cs.getD 2 0, cs.getD 3 0) 4) → rs.Perm (dueN bs (cs.getD 4 0) (cs.getD 2 0, cs.getD 3 0) 4) → rs.Pairwise (· < ·) →
      wpAny (model prog w) (callerA.deeper (lawEnv L fa cd)) (execs (lawParts.1.drop 11) (lawEnv L fa cd)) Q E { s with heap := h', toks := tk' })
    (hE : PassesOwn (model prog w) (callerA.deeper (lawEnv L fa cd)) (lawEnv L fa cd) E) :
    wpAny (model prog w) (callerA.deeper (lawEnv L fa cd)) (execs (lawParts.1.drop 10) (lawEnv L fa cd)) Q E s := by
  dsimp only [lawEnv, lawParts, PySem.Challenge.pw_wu0034_01, List.getLast?, List.getLast, List.drop]
  dsimp only [kstB, lawPs] at F
  k_with_none
  k_with "pyIter ref" => (refine stop_ ?_)
  k_steps
  unfold Stop
  rename IsRange _ _ _ _ _ _ _ _ => hR
  rename Fr _ _ _ _ => F1
  rename News _ _ _ _ => N1
  refine' range_J (n := 4) (fun i m' nx => ∃ rvs rs nr dvs nd, nx = (lr, listOf (rvs : List Value).toArray nr) :: (lb, listOf (bs.map Value.bool).toArray nb) :: (lc, listOf lvs.toArray nc) :: (l', listOf cvs.toArray n') :: (L + 1, oc) :: (ld, listOf (dvs : List Value).toArray nd) :: news ∧ Names m' (lawPs folds tf lb c t1 tail t2 lc lr ld) ∧
    IntsAre rvs rs ∧ IntsAre dvs (dueN bs (cs.getD 4 0) (cs.getD 2 0, cs.getD 3 0) i) ∧ rs.Perm (dueN bs (cs.getD 4 0) (cs.getD 2 0, cs.getD 3 0) i) ∧ rs.Pairwise (· < ·)) rfl hR (by decide) (by decide) F1 N1 ⟨[], [], 0, [], 0, rfl, ?names, .nil, .nil, List.Perm.refl _, List.Pairwise.nil⟩ ?turn ?done
  case names =>
    exact names_direct (by kernel_rfl!)
  case done =>
    rintro m₁ nx h tk ⟨rvs, rs, nr, dvs, nd, rfl, hn1, hir, hid, hp, hs⟩ F3 N3
    exact hret _ _ _ _ _ _ _ _ F3 hn1 N3 hir hid hp hs
  case turn =>
    rintro i t m₁ nx h tk own P hP hi hadr hoff ⟨rvs, rs, nr, dvs, nd, rfl, hn1, hir, hid, hp, hs⟩ F3 N3
    have F4 := fr_names ((Str.ofString "turned", Value.int (0 + (i : Int)) t) :: lawPs folds tf lb c t1 tail t2 lc lr ld) F3 (List.forall_mem_cons.mpr ⟨by (first | kernel_rfl! | (refine Eq.trans ?_ (by assumption); kernel_rfl!) | ((try dsimp only); (repeat (first | exact if_pos (by decide +kernel) | refine (if_neg (by decide +kernel)).trans ?_)); (try assumption))), names_skip hn1 (ks := lawKs) rfl (by decide +kernel)⟩)
    have hP4 : 2 ^ bs.length ≤ 16 := by rcases hl with e | e | e <;> rw [e] <;> decide
    have hdl : (dueN bs (cs.getD 4 0) (cs.getD 2 0, cs.getD 3 0) i).length ≤ 64 := by
      rw [dueN_length]
      exact Nat.le_trans (Nat.mul_le_mul (Nat.le_of_lt hi) hP4) (by decide)
    have hh : (cs.getD 4 0 + (0 + (i : Int))).fmod 4 = (cs.getD 4 0 + (i : Int)).fmod 4 := by rw [Int.zero_add]
    have hr4 := fm_range (cs.getD 4 0 + (0 + (i : Int)))
    refine turnA (K := K) (news := (ld, listOf dvs.toArray nd) :: (news ++ own)) B X T F4 N3 (hdc.mono ?m1) (by (clear hr4 hh hdl hi htn hc hrd hff hl hcl; lia)) (by (clear hr4 hh hdl hP4 hi htn hc hrd hK hff hcl; lia)) hlv ?ap hic hcl dc hir ⟨hp, hs⟩ hdl ?nd hE ?_
    case m1 =>
      intro p hp
      rcases List.mem_cons.mp hp with rfl | hp
      · exact .head _
      rcases List.mem_cons.mp hp with rfl | hp
      · exact .tail _ (.head _)
      rcases List.mem_cons.mp hp with rfl | hp
      · exact .tail _ (.tail _ (.head _))
      rcases List.mem_cons.mp hp with rfl | hp
      · exact .tail _ (.tail _ (.tail _ (.head _)))
      exact .tail _ (.tail _ (.tail _ (.tail _ (.tail _ (List.mem_append_left _ hp)))))
    case ap =>
      refine List.forall_mem_cons.mpr ⟨hapr _ (.head _), List.forall_mem_cons.mpr ⟨hapr _ (.tail _ (.head _)), List.forall_mem_cons.mpr ⟨hapr _ (.tail _ (.tail _ (.head _))), List.forall_mem_cons.mpr ⟨hapr _ (.tail _ (.tail _ (.tail _ (.head _)))), List.forall_mem_cons.mpr ⟨Ne.symm hrd, ?_⟩⟩⟩⟩⟩
      intro p hp
      rcases List.mem_append.mp hp with hp | hp
      · exact hapr p (.tail _ (.tail _ (.tail _ (.tail _ hp))))
      · exact hoff p hp lr (.head _)
    case nd =>
      intro xe ye dxe dye codes hW
      have := turn_plain hl hi hK hh hW
      exact ⟨this.2.2.2.2.1, this.2.2.2.1⟩
    intro h1 k1 m1 lw wvs rvs' codes rs' nw nr' xe ye dxe dye th tx ty hW F5 hn5 N5 hiw hir' hp' hs'
    obtain ⟨p1, p2, p3, p4, p5, p6, p7, p8, p9, p10⟩ := turn_plain hl hi hK hh hW
    have hcp : 0 < codes.length := List.length_pos_iff.mpr p5
    refine turnB (tt := t) (c0 := codes[0]) (ds := dueN bs (cs.getD 4 0) (cs.getD 2 0, cs.getD 3 0) i) (news := news ++ own) B X T F5 hn5 N5 (by (clear hcp p10 p7 p6 p5 p2 hr4 hh hdl hP4 hi htn hc hrd hK hff hcl; omega)) hr4.1 hr4.2 ?apd hic hcl dc hir' hs' ?rl hiw hid hdl (by (clear hcp p10 p7 p6 p5 hr4 hh hdl hi htn hc hrd hK hff hl hcl; lia)) (List.getElem?_eq_getElem hcp) ?sub ?en p7 p1 hE ?_
    case apd =>
      refine List.forall_mem_cons.mpr ⟨hrd, List.forall_mem_cons.mpr ⟨hapd _ (.head _), List.forall_mem_cons.mpr ⟨hapd _ (.tail _ (.head _)), List.forall_mem_cons.mpr ⟨hapd _ (.tail _ (.tail _ (.head _))), List.forall_mem_cons.mpr ⟨hapd _ (.tail _ (.tail _ (.tail _ (.head _)))), ?_⟩⟩⟩⟩⟩
      intro p hp
      rcases List.mem_append.mp hp with hp | hp
      · exact hapd p (.tail _ (.tail _ (.tail _ (.tail _ hp))))
      · exact hoff p hp ld (.tail _ (.tail _ (.tail _ (.tail _ (.tail _ (.head _))))))
    case rl => rw [hp'.length_eq, List.length_append]; (clear hcp p10 p7 p6 p5 hr4 hh hi htn hc hrd hK hff hl hcl; lia)
    case sub => exact fun z hz => hp'.mem_iff.mpr (List.mem_append_right _ hz)
    case en => exact fun hm => p6 (p3 ▸ hp'.mem_iff.mp hm)
    intro h2 k2 m2 dvs2 nd2 F6 hn6 N6 hid2
    refine turnC (f := bs.length) (news := news ++ own) B X T F6 hn6 N6 hic hcl dc hff (by (clear hcp p10 p7 p6 p5 p2 hr4 hh hdl hP4 hi htn hc hrd hK hff hcl; omega)) hc htl htn p8 p9 p10 hE ?_
    intro h3 k3 m3 F7 hn7 N7
    refine hP _ _ _ _ ((lr, listOf rvs'.toArray nr') :: (lb, listOf (bs.map Value.bool).toArray nb) :: (lc, listOf lvs.toArray nc) :: (l', listOf cvs.toArray n') :: (L + 1, oc) :: (ld, listOf dvs2.toArray nd2) :: news) F7 N7 ?sb ?ow rfl ⟨rvs', rs', nr', dvs2, nd2, rfl, hn7, hir', p3 ▸ hid2, p3 ▸ hp', hs'⟩
    case sb => exact fun p hp => List.mem_append_left own hp
    case ow => exact fun p hp => List.mem_append_right ((lr, listOf rvs'.toArray nr') :: (lb, listOf (bs.map Value.bool).toArray nb) :: (lc, listOf lvs.toArray nc) :: (l', listOf cvs.toArray n') :: (L + 1, oc) :: (ld, listOf dvs2.toArray nd2) :: news) hp
end
end Mine
end -- WStageC
section -- WNone
open PySem PySem.W PySem.Calls PySem.Spec PyProof.Rows PyProof.Rows.LCg
set_option maxRecDepth 100000
namespace Mine
section
variable {prog : Program} {w : World} {A : Around} {E : Value → Shared → Prop} {s : Shared} {env : Env} {g : Heap} {L : Addr} {m : Str → Option Value} {news : List (Addr × Obj)}
/-- what the test of a block must do: say no, and leave the ledger as it stands -/
abbrev SaysNo (prog : Program) (w : World) (A : Around) (g : Heap) (L : Addr) (m : Str → Option Value) (news : List (Addr × Obj)) (c : PySem.Expr) (x x₂ : Str) (scope : Scope) (cl : List (Str × Addr)) (env : Env) (s : Shared) (v : Value) : Prop :=
  ∃ (t : Addr) (ot : Obj) (v₁ v₂ : Value) (nt : Nat), v = .ref t ∧ (t, ot) ∈ news ∧ ot.cls = .type "tuple" ∧ ot.data = .seq #[v₁, v₂] nt ∧
      ∀ I oI C oC D m₂ h tk (E' : Value → Shared → Prop), NsObj oC m₂ → m₂ x = some v₁ → m₂ x₂ = some v₂ → Fr g L h m → News g L h ((I, oI) :: (C, oC) :: (D, lst []) :: news) →
        wpAny (model prog w) A (isTrue c (compEnvC scope cl C env) (eval c (compEnvC scope cl C env))) (fun okb s₃ => okb = false ∧ ∃ h' tk', s₃ = { s with heap := h', toks := tk' } ∧ Fr g L h' m ∧ News g L h' ((I, oI) :: (C, oC) :: (D, lst []) :: news)) E' { s with heap := h, toks := tk }
theorem none_block {elt iter c : PySem.Expr} {x x₂ : Str} {px px₂ tp : Pos} {kk : Nat} {scope : Scope} {cl : List (Str × Addr)} {pos : Pos} {ax I : Addr} {its : List Value} {nn : Nat} {s₂ : Shared} {RR : Value → Addr → Result → Shared → Prop}
    (hh : A.handled = none) (F : Fr g L s₂.heap m) (N : News g L s₂.heap news) (hm : (ax, listOf its.toArray nn) ∈ news) (hit : s₂.heap.IsListIter I ax 0) (hIL : L ≠ I) (hI₀ : g.get? I = none) (offI : ∀ p ∈ news, p.1 ≠ I)
    (hcell : ∀ y ∈ scope.names, y.2 ≠ .cell) (hkind : scope.kind = .function) (hx : scope.names.lookup x = some .local) (hx₂ : scope.names.lookup x₂ = some .local) (hxx : x ≠ x₂)
    (test : ∀ (i : Nat) (v : Value), its[i]? = some v → SaysNo prog w A g L m news c x x₂ scope cl env s₂ v)
    (hRR : ∀ D C h tk m', Fr g L h m → News g L h ((D, lst []) :: news) → (∀ p ∈ news, p.1 ≠ D) → h.Ns C m' → g.get? C = none → g.get? D = none → C ≠ L → D ≠ L → C ≠ D → (∀ p ∈ news, p.1 ≠ C) → RR (.ref D) C (.ok .next) { s₂ with heap := h, toks := tk }) :
    wpAny (model prog w) A (newList []) (fun acc s₃ => wpAny (model prog w) A (newFunctionEnv scope env.globals cl [] env.qual none .none (some env)) (fun cenv s₄ =>
      codeAny (model prog w) A (.compStart (.ListComp elt [⟨.Tuple [.Name x px, .Name x₂ px₂] kk tp, iter, [c], 0⟩] scope pos) 0 (.ref I) acc { cenv with scope := relabel scope env }) (RR acc cenv.locals) s₄) E s₃) E s₂ := by
  refine wpAny_newObj_type (wpAny_newFunctionEnv hcell (by intro y hy; simp at hy) (fun h₁ hns₁ hsb₁ => ?_) hkind)
  dsimp only at hns₁ hsb₁ ⊢
  have hLlt : L < s₂.heap.objs.size := F.ns.lt
  have hIlt : I < s₂.heap.objs.size := by obtain ⟨_, e, _⟩ := hit; exact Heap.lt_size e
  have hnlt : ∀ p ∈ news, p.1 < s₂.heap.objs.size := fun p hp => Heap.lt_size (N p hp).1
  have far : ∀ a, s₂.heap.objs.size ≤ a → g.get? a = none := fun a ha => by
    cases e : g.get? a with
    | none => rfl
    | some o => exact absurd (Heap.lt_size (F.keep _ o e)) (Nat.not_lt.mpr ha)
  have old : ∀ b o, s₂.heap.get? b = some o → h₁.get? b = some o := fun b o e => hsb₁.extBut b o (by
    rw [Heap.size_push]
    exact Nat.ne_of_lt (Nat.lt_succ_of_lt (Heap.lt_size e))) (Heap.get?_push_of_some _ (Heap.get?_push_of_some _ e))
  have hacc : h₁.get? s₂.heap.objs.size = some (lst []) := hsb₁.extBut _ _ (by rw [Heap.size_push]; exact Nat.ne_of_lt (Nat.lt_succ_self _)) (Heap.get?_push_of_some _ (Heap.get?_push_size _ rfl))
  rw [Heap.size_push] at hns₁ ⊢
  clear hsb₁
  generalize s₂.heap.objs.size = D at *
  have hD₀ : g.get? D = none := far _ (Nat.le_refl _)
  have hC₀ : g.get? (D + 1) = none := far _ (Nat.le_succ _)
  have hDL : D ≠ L := Nat.ne_of_gt hLlt
  have hCL : D + 1 ≠ L := Nat.ne_of_gt (Nat.lt_succ_of_lt hLlt)
  have hCI : I ≠ D + 1 := Nat.ne_of_lt (Nat.lt_succ_of_lt hIlt)
  have hDI : I ≠ D := Nat.ne_of_lt hIlt
  have hCD : D + 1 ≠ D := Nat.succ_ne_self _
  have offD : ∀ p ∈ news, p.1 ≠ D := fun p hp => Nat.ne_of_lt (hnlt p hp)
  have offC : ∀ p ∈ news, p.1 ≠ D + 1 := fun p hp => Nat.ne_of_lt (Nat.lt_succ_of_lt (hnlt p hp))
  generalize D + 1 = C at *
  have hit₁ : h₁.IsListIter I ax 0 := by obtain ⟨o, e, r⟩ := hit; exact ⟨o, old _ _ e, r⟩
  have N₁ : News g L h₁ ((D, lst []) :: news) := List.forall_mem_cons.mpr ⟨⟨hacc, hDL, hD₀⟩, fun p hp => ⟨old _ _ (N p hp).1, (N p hp).2⟩⟩
  have hne : ∀ p ∈ (D, lst []) :: news, p.1 ≠ I ∧ p.1 ≠ C := List.forall_mem_cons.mpr ⟨⟨Ne.symm hDI, Ne.symm hCD⟩, fun p hp => ⟨offI p hp, offC p hp⟩⟩
  have loop : ∀ s₃ : Shared, s₃ = { s₂ with heap := h₁, toks := s₂.toks + ([] : List (Str × Value)).length } →
      codeAny (model prog w) A (.compLoop (.ListComp elt [⟨.Tuple [.Name x px, .Name x₂ px₂] kk tp, iter, [c], 0⟩] scope pos) 0 (.ref I) (.ref D) (compEnvC scope cl C env)) (RR (.ref D) C) s₃ := by
    rintro s₃ rfl
    refine kct_loop (fun k s' => ∃ h' tk i m', s' = { s₂ with heap := h', toks := tk } ∧ i ≤ its.length ∧ k = its.length + 1 - i ∧ h'.IsListIter I ax i ∧ Fr g L h' m ∧ h'.Ns C m' ∧ News g L h' ((D, lst []) :: news)) ?_ (its.length + 1)
      ⟨h₁, _, 0, _, rfl, Nat.zero_le _, rfl, hit₁, F.keeps old, hns₁, N₁⟩
    rintro k s' ⟨h', tk, i, m', rfl, hi, rfl, hit', F', hn', N'⟩
    have hl' : h'.IsList ax its.toArray := ⟨_, (N' _ (.tail _ hm)).1, rfl, nn, rfl⟩
    by_cases hlt : i < its.length
    · refine wpAny_pyNext_list_item hit' hl' (x := its[i]) (by simp [hlt]) fun h₂ hit₂ hs₂ => ?_
      obtain ⟨t, ot, v₁, v₂, nt, ev, hmt, hct, hdt, R⟩ := test i its[i] (List.getElem?_eq_getElem hlt)
      rw [ev]
      refine wpAny_letOwnedTupleGo_listiter hit₂ ?_
      have F₂ : Fr g L h₂ m := F'.change hs₂ (Ne.symm hIL) hI₀
      have N₂ : News g L h₂ ((D, lst []) :: news) := fun p hp => ⟨(hs₂.2 p.1 (hne p hp).1).trans (N' p hp).1, (N' p hp).2⟩
      have ht : h₂.IsTuple t #[v₁, v₂] := ⟨ot, (N₂ _ (.tail _ hmt)).1, hct, nt, hdt⟩
      refine kcp_assign (env := compEnvC scope cl C env) hh ht (lookup_relabel_local hx) (lookup_relabel_local hx₂) (by simp [compEnvC, relabel, hkind]) (hn'.sameBut hs₂ (Ne.symm hCI)) fun h₄ tk₄ hn₄ hs₄ => ?_
      have F₄ : Fr g L h₄ m := ⟨F₂.ns.at' fun o e => hs₄ _ o (Ne.symm hCL) e, fun b o e => hs₄ b o (fun q => by rw [q] at e; exact absurd (hC₀.symm.trans e) (by simp)) (F₂.keep b o e), F₂.above⟩
      obtain ⟨oC, heC, hoC⟩ := ns_obj hn₄
      obtain ⟨oI, heI, hoI⟩ := id hit₂
      have hit₄ : h₄.get? I = some oI := hs₄ I oI hCI heI
      have N₄ : News g L h₄ ((I, oI) :: (C, oC) :: (D, lst []) :: news) := List.forall_mem_cons.mpr ⟨⟨hit₄, Ne.symm hIL, hI₀⟩, List.forall_mem_cons.mpr ⟨⟨heC, hCL, hC₀⟩, fun p hp => ⟨hs₄ _ _ (hne p hp).2 (N₂ p hp).1, (N₂ p hp).2⟩⟩⟩
      refine wpAny_mono (R I oI C oC D _ h₄ _ _ hoC (by simp [hxx]) (by simp) F₄ N₄) (fun okb s₅ h₅ => ?_) fun _ _ e => e
      obtain ⟨rfl, h₅, tk₅, rfl, F₅, N₅⟩ := h₅
      simp only [Bool.false_eq_true, if_false]
      have zI := (N₅ (I, oI) (.head _)).1
      have zC := (N₅ (C, oC) (.tail _ (.head _))).1
      exact ⟨its.length + 1 - (i + 1), by (clear hoI hmt hi hCD hCI hCL hDI hDL hIlt hLlt hxx hIL hm; omega), h₅, tk₅, i + 1, _, rfl, hlt, rfl, ⟨oI, zI, hoI⟩, F₅, hoC.ns zC, fun p hp => N₅ p (.tail _ (.tail _ hp))⟩
    · have hin : i = its.length := by (clear hCD hCI hCL hDI hDL hIlt hLlt hxx hIL hm; lia)
      subst hin
      refine wpAny_pyNext_list_end hh hit' hl' (by simp) fun h₂ he₂ => ?_
      refine hRR D C h₂ tk m' ?_ ?_ offD (hn'.at' fun o e => he₂ _ o (Ne.symm hCI) e) hC₀ hD₀ hCL hDL hCD offC
      · exact ⟨F'.ns.at' fun o e => he₂ _ o hIL e, fun b o e => he₂ b o (fun q => by rw [q] at e; exact absurd (hI₀.symm.trans e) (by simp)) (F'.keep b o e), F'.above⟩
      · exact fun p hp => ⟨he₂ _ _ (hne p hp).1 (N' p hp).1, (N' p hp).2⟩
  refine codeAny_compStart_list (loop _ rfl) ?_
  exact wpAny_pyIter_listiter hit₁ (loop _ rfl)
/-- a block over pairs of the ledger whose test lets none through -/
theorem comp_none {elt iter c : PySem.Expr} {x x₂ : Str} {px px₂ tp : Pos} {kk : Nat} {scope : Scope} {cl : List (Str × Addr)} {pos : Pos} {ax : Addr} {its : List Value} {nn : Nat} {Q : Value → Shared → Prop}
    (hh : A.handled = none) (F : Fr g L s.heap m) (N : News g L s.heap news) (hm : (ax, listOf its.toArray nn) ∈ news)
    (hclos : closureFor scope env = pure cl) (hcell : ∀ y ∈ scope.names, y.2 ≠ .cell) (hkind : scope.kind = .function)
    (hnames : ∀ y ∈ scope.names, y.2 = .local → scope.names.lookup y.1 = some .local) (hx : scope.names.lookup x = some .local) (hx₂ : scope.names.lookup x₂ = some .local) (hxx : x ≠ x₂)
    (heval : ∀ Q' : Value → Shared → Prop, Q' (.ref ax) s → wpAny (model prog w) A (eval iter env) Q' E s)
    (test : ∀ (i : Nat) (v : Value), its[i]? = some v → ∀ g', SaysNo prog w A g L m news c x x₂ scope cl env { s with heap := g' } v)
    (done : ∀ D h tk, Fr g L h m → News g L h ((D, lst []) :: news) → (∀ p ∈ news, p.1 ≠ D) → Q (.ref D) { s with heap := h, toks := tk })
    (hs : ∀ x, foldedSetIterable iter env x = pure x := by intro _; rfl) :
    wpAny (model prog w) A (eval (.ListComp elt [⟨.Tuple [.Name x px, .Name x₂ px₂] kk tp, iter, [c], 0⟩] scope pos) env) Q E s := by
  rw [eval_ListComp]
  refine wpAny_comprehension_free (use := none) rfl hs hclos hkind hnames (heval _ ?_)
  have zl := N _ hm
  have hl : s.heap.IsList ax its.toArray := ⟨_, zl.1, rfl, nn, rfl⟩
  refine wpAny_pyIter_list hl ?_
  refine none_block (s₂ := { s with heap := _ }) (nn := nn) hh (F.push _) (fun p hp => ⟨Heap.get?_push_of_some _ (N p hp).1, (N p hp).2⟩) hm ⟨_, Heap.get?_push_size _ rfl, rfl, rfl⟩ (Nat.ne_of_lt F.ns.lt) (next_is_new F) (fun p hp => Nat.ne_of_lt (Heap.lt_size (N p hp).1)) hcell hkind hx hx₂ hxx (fun i v e => test i v e _) ?_
  intro D C h tk m' F' N' o1 hn hC₀ hD₀ hCL hDL hCD offC
  refine ⟨m', hn, fun h'' hs'' => done D h'' tk (F'.change hs'' hCL hC₀) (fun p hp => ?_) o1⟩
  refine ⟨hs''.extBut _ _ ?_ (N' p hp).1, (N' p hp).2⟩
  rcases List.mem_cons.mp hp with rfl | hp
  · exact Ne.symm hCD
  · exact offC p hp
end
end Mine
end -- WNone
section -- WStageB
open PySem PySem.W PySem.Calls PySem.Spec PyProof.Rows
set_option Elab.async false
set_option maxRecDepth 100000
set_option maxHeartbeats 2000000
set_option linter.unusedVariables false
namespace Mine
theorem fillWStageB : (PySem.Challenge.rw_wu0034_01 = PySem.Challenge.rw_wu0034_01) ∧ (Mine.hd.heap_39 = Mine.hd.heap_39) := by
  w_top off
  k_fill
  exact ⟨rfl, rfl⟩
section
variable {prog : Program} {w : World} {mean : ExcName → Option Value} {mg mb : Str → Option Value} {fa : Addr} {cd : Value} {h₀ : Heap} {L : Addr} {m : Str → Option Value} {news : List (Addr × Obj)} {s : Shared}
    {Q : Flow → Shared → Prop} {E : Value → Shared → Prop}
theorem lawB {lb l' : Addr} {oc : Obj} {cvs : List Value} {bs : List Bool} {nb n' c : Nat} {folds P : Int} {tf t1 t2 : Tok} {cs : List Int} {tail : Str}
    (B : Below callerA h₀ [] h₀) (X : (Mine.hd.heap_39 w.params).In h₀) (T : TopV mean mg mb h₀)
    (F : Fr h₀ L s.heap (kstB m [(Str.ofString "folds", .int folds tf), (Str.ofString "bent", .ref lb), (Str.ofString "letter", .str ⟨#[c]⟩ t1), (Str.ofString "tail", .str tail t2)]))
    (N : News h₀ L s.heap [(lb, listOf (bs.map Value.bool).toArray nb), (l', listOf cvs.toArray n'), (L + 1, oc)])
    (hic : IntsAre cvs cs) (hcl : cs.length = 6) (dc : oc.data = .cell (some (.ref l')))
    (hf1 : 2 ≤ folds) (hf2 : folds ≤ 4) (hP : PowIs folds P) (hp1 : 4 ≤ P) (hp2 : P ≤ 16) (hc : c ≠ 34) (htl : P257 tail.cps.toList = []) (htn : tail.cps.toList.length ≤ 1000) (htn2 : tail.length ≤ 1000)
    (hE : PassesOwn (model prog w) (callerA.deeper (lawEnv L fa cd)) (lawEnv L fa cd) E)
    (hret : ∀ (h' : Heap) (tk' : Nat) (m' : Str → Option Value) (lc lr ld : Addr) (lvs : List Value) (nc : Nat) (tls : List (Addr × Obj)),
      Fr h₀ L h' m' → Names m' (lawPs folds tf lb c t1 tail t2 lc lr ld) →
      News h₀ L h' ((lr, listOf #[] 0) :: (lb, listOf (bs.map Value.bool).toArray nb) :: (lc, listOf lvs.toArray nc) :: (l', listOf cvs.toArray n') :: (L + 1, oc) :: (ld, listOf #[] 0) :: tls) →
      DatAll ((lb, listOf (bs.map Value.bool).toArray nb) :: (lc, listOf lvs.toArray nc) :: (l', listOf cvs.toArray n') :: (L + 1, oc) :: tls) lvs ((rangeKs 1 (P - 1).toNat).map creaseD) →
      (∀ p ∈ (lb, listOf (bs.map Value.bool).toArray nb) :: (lc, listOf lvs.toArray nc) :: (l', listOf cvs.toArray n') :: (L + 1, oc) :: tls, p.1 ≠ lr) →
      (∀ p ∈ (lb, listOf (bs.map Value.bool).toArray nb) :: (lc, listOf lvs.toArray nc) :: (l', listOf cvs.toArray n') :: (L + 1, oc) :: tls, p.1 ≠ ld) → lr ≠ ld →
      wpAny (model prog w) (callerA.deeper (lawEnv L fa cd)) (execs (lawParts.1.drop 10) (lawEnv L fa cd)) Q E { s with heap := h', toks := tk' }) :
    wpAny (model prog w) (callerA.deeper (lawEnv L fa cd)) (execs (lawParts.1.drop 6) (lawEnv L fa cd)) Q E s := by
  dsimp only [lawEnv, lawParts, PySem.Challenge.pw_wu0034_01, List.getLast?, List.getLast, List.drop]
  dsimp only [kstB] at F
  k_with_none
  k_with "pyIter ref" => (refine stop_ ?_)
  k_with "eval ListComp" => (refine stop_ ?_)
  k_with "call ref" => (refine stop_ ?_)
  k_steps
  unfold Stop
  k_dflt (refine' creases_c ?k1 ?k2 ?k3 ?k4 ?k5 ?kK ?kd ?ku hf1 hf2 hP hp1 hp2 hc htl htn htn2 ?_)
  case k1 => k_asm
  case k2 => k_asm
  case k3 => k_asm
  case k4 => k_asm
  case k5 => k_asm
  case kK => exact rfl
  case kd => ktr_room
  case ku => ktr_units
  intro lc lvs nc tls h9 tk9 hD9 F9 N9
  (try dsimp only)
  (try k_fold)
  k_with_none
  k_with "isTrue Compare" => (refine stop_ ?_)
  k_steps
  unfold Stop
  refine wpAny_isTrue_Compare1 ?_
  rename Fr _ _ _ _ => fF
  rename News _ _ _ _ => nN
  k_dflt (refine' comp_none (nn := nc) ?kh fF nN (.head _) ?kc1 ?kc2 ?kc3 ?kc4 ?kx ?kx2 ?kxx ?kev ?test ?done)
  case kh => exact rfl
  case kc1 => with_unfolding_all rfl
  case kc2 => decide
  case kc3 => rfl
  case kc4 => decide
  case kx => rfl
  case kx2 => rfl
  case kxx => decide +kernel
  case kev => exact fun Q' q => nameX_L (by assumption) (by with_unfolding_all rfl) q
  case test =>
    intro i v hv g9
    have hv2 : i < ((rangeKs 1 (P - 1).toNat).map creaseD).length := by
      rw [← hD9.length]
      exact (List.getElem?_eq_some_iff.mp hv).1
    obtain ⟨v9, hv9, hd9⟩ := hD9.get hv2
    rw [hv] at hv9
    obtain rfl := Option.some.inj hv9
    rw [List.getElem_map] at hd9
    unfold creaseD at hd9
    cases hd9 with
    | tuple hm9 hr9 =>
      cases hr9 with
      | cons ha9 hr9 =>
        cases hr9 with
        | cons hb9 hr9 =>
          cases hr9
          cases ha9
          cases hb9
          refine ⟨_, _, _, _, _, rfl, .tail _ hm9, rfl, rfl, ?_⟩
          intro I oI C oC D m₂ h tk E' hC hx hy F' N'
          clear fF nN hm9
          k_with_none
          k_steps
          · assumption
          · assumption
  case done =>
    intro D h tk F' N' hD
    change News h₀ L h ((D, listOf #[] 0) :: _) at N'
    clear fF nN
    (try dsimp only)
    (try k_fold)
    k_with_none
    k_with "execs cons" => (refine stop_ ?_)
    k_steps
    unfold Stop
    k_with_none
    k_with "newList" => (refine stop_ ?_)
    k_steps
    unfold Stop
    k_with_none
    k_with "execs cons" => (refine stop_ ?_)
    k_steps
    unfold Stop
    k_with_none
    k_with "newList" => (refine stop_ ?_)
    k_steps
    unfold Stop
    k_with_none
    k_with "execs cons" => (refine stop_ ?_)
    k_steps
    unfold Stop
    rename Fr _ _ _ _ => F2
    rename News _ _ _ _ => N2
    rename _ < _ ∧ _ < _ ∧ _ < _ ∧ _ < _ ∧ AllLt _ _ => hld
    rename _ < _ ∧ _ < _ ∧ _ < _ ∧ AllLt _ _ => hlr
    obtain ⟨a1, a2, a3, a4, a5⟩ := hld
    obtain ⟨b1, b2, b3, b4⟩ := hlr
    have a6 := allLt_mem a5
    have b5 := allLt_mem b4
    refine hret _ _ _ lc _ _ lvs nc tls F2 ?names ?led ?dat ?apr ?apd (Nat.ne_of_lt a1)
    case names =>
      exact names_direct (by kernel_rfl!)
    case led =>
      exact List.forall_mem_cons.mpr ⟨N2 _ (.tail _ (.head _)), List.forall_mem_cons.mpr ⟨N2 _ (.tail _ (.tail _ (.tail _ (.tail _ (.tail _ (.head _)))))), List.forall_mem_cons.mpr ⟨N2 _ (.tail _ (.tail _ (.tail _ (.tail _ (.head _))))), List.forall_mem_cons.mpr ⟨N2 _ (.tail _ (.tail _ (.tail _ (.tail _ (.tail _ (.tail _ (.head _))))))), List.forall_mem_cons.mpr ⟨N2 _ (.tail _ (.tail _ (.tail _ (.tail _ (.tail _ (.tail _ (.tail _ (.head _)))))))), List.forall_mem_cons.mpr ⟨N2 _ (.head _), fun p hp => N2 p (.tail _ (.tail _ (.tail _ (.tail _ (.tail _ (.tail _ (.tail _ (.tail _ hp))))))))⟩⟩⟩⟩⟩⟩
    case dat =>
      refine hD9.mono fun p hp => ?_
      rcases List.mem_cons.mp hp with rfl | hp
      · exact .head _
      · exact .tail _ (.tail _ hp)
    case apr =>
      refine List.forall_mem_cons.mpr ⟨Nat.ne_of_lt (b5 _ (.head _)), List.forall_mem_cons.mpr ⟨Nat.ne_of_lt b3, List.forall_mem_cons.mpr ⟨Nat.ne_of_lt (b5 _ (.tail _ (.head _))), List.forall_mem_cons.mpr ⟨Nat.ne_of_lt (b5 _ (.tail _ (.tail _ (.head _)))), fun p hp => Nat.ne_of_lt (b5 p (.tail _ (.tail _ (.tail _ hp))))⟩⟩⟩⟩
    case apd =>
      refine List.forall_mem_cons.mpr ⟨Nat.ne_of_lt (a6 _ (.head _)), List.forall_mem_cons.mpr ⟨Nat.ne_of_lt a4, List.forall_mem_cons.mpr ⟨Nat.ne_of_lt (a6 _ (.tail _ (.head _))), List.forall_mem_cons.mpr ⟨Nat.ne_of_lt (a6 _ (.tail _ (.tail _ (.head _)))), fun p hp => Nat.ne_of_lt (a6 p (.tail _ (.tail _ (.tail _ hp))))⟩⟩⟩⟩
end
end Mine
end -- WStageB
section -- WBool
open PySem PySem.W PySem.Calls PySem.Spec PyProof.Rows
set_option maxRecDepth 100000
namespace Mine
section
variable {prog : Program} {w : World} {A : Around} {h₀ : Heap} {L : Addr} {m : Str → Option Value} {env : Env} {elt : PySem.Expr} {x : Str} {scope : Scope} {cl : List (Str × Addr)} {s : Shared} {S : List (Addr × Obj) → Prop} {Fin : List Value → List (Addr × Obj) → Prop} {news : List (Addr × Obj)}
/-- the end of a turn that makes a truth value -/
def BoolEl (news : List (Addr × Obj)) (b : Bool) (y : Value) (news' : List (Addr × Obj)) : Prop := news' = news ∧ y = .bool b
/-- a block over a range whose element is a truth value -/
theorem bool_rest {n : Nat} {a : Int} (g : Int → Bool)
    (turn : ∀ k t I oI C oC D m₂ ys h tk (E' : Value → Shared → Prop), a ≤ k → k < a + (n : Int) → LCg.NsObj oC m₂ → m₂ x = some (.int k t) → Fr h₀ L h m → News h₀ L h ((I, oI) :: (C, oC) :: (D, LCg.lst ys) :: news) → LCg.Off3 I C D news → ((@Ne Nat I C) ∧ (@Ne Nat I D) ∧ (@Ne Nat C D)) →
      wpAny (model prog w) A (eval elt (compEnvC scope cl C env)) (LCg.CompEnd h₀ L m { s with heap := h, toks := tk } I oI C oC D (LCg.lst ys) S (fun y news' => BoolEl news (g k) y news')) E' { s with heap := h, toks := tk })
    (fin : Fin (((rangeKs a n).map g).map Value.bool) news) : LCg.CompRest prog w A h₀ L m env elt x scope cl s S (fun i v => ∃ t, v = .int (a + (i : Int)) t) Fin n 0 [] news := by
  have key : ∀ (j i : Nat), i + j = n → LCg.CompRest prog w A h₀ L m env elt x scope cl s S (fun i v => ∃ t, v = .int (a + (i : Int)) t) Fin j i ((((rangeKs a n).take i).map g).map Value.bool) news := by
    intro j
    induction j with
    | zero =>
      intro i hi
      have e : (rangeKs a n).take i = rangeKs a n := List.take_of_length_le (by rw [rangeKs_length]; lia)
      rw [e]
      exact LCg.CompRest.zero fin
    | succ j ih =>
      intro i hi
      refine LCg.CompRest.succ ?_
      rintro v I oI C oC D m₂ h tk E' ⟨t, rfl⟩ hC hx F N off ne
      refine wpAny_mono (turn (a + (i : Int)) t I oI C oC D m₂ _ h tk E' (by (clear ne hi; lia)) (by (clear ne; lia)) hC hx F N off ne) (fun y s₂ hq => ?_) fun _ _ e => e
      obtain ⟨h', tk', nw, e, F', N', off', hS, hn, hy'⟩ := hq
      rw [hn] at N' off' hS
      refine ⟨h', tk', news, e, F', N', off', hS, ?_⟩
      rw [hy']
      have hk : (rangeKs a n)[i]? = some (a + (i : Int)) := by simp [rangeKs, show i < n by (clear ne; lia)]
      have e2 := ih (i + 1) (by (clear ne; grind))
      rw [List.take_add_one, hk] at e2
      simpa using e2
  have := key n 0 (by (exact Nat.add_comm _ _))
  simpa using this
end
end Mine
end -- WBool
section -- WA2
open PySem PySem.W PySem.Calls PySem.Spec PyProof.Rows
set_option Elab.async false
set_option maxRecDepth 100000
set_option maxHeartbeats 2000000
set_option linter.unusedVariables false
namespace Mine
theorem fillWA2 : (PySem.Challenge.rw_wu0034_01 = PySem.Challenge.rw_wu0034_01) ∧ (Mine.hd.heap_39 = Mine.hd.heap_39) := by
  w_top off
  k_fill
  exact ⟨rfl, rfl⟩
def TailOk (tail : Str) : Prop := P257 tail.cps.toList = [] ∧ tail.cps.toList.length ≤ 100 ∧ tail.length ≤ 100
theorem tail_ok {tail : Str} {l : List Nat} (h : tail.cps.toList = l) (h1 : P257 l = []) (h2 : l.length ≤ 100) : TailOk tail := by
  refine ⟨h ▸ h1, h ▸ h2, ?_⟩
  show tail.cps.size ≤ 100
  rw [← Array.length_toList, h]
  exact h2
theorem tail_ok0 : TailOk (Str.ofString "\"") := tail_ok (l := [34]) (by rw [ofs_quote]) P257_end (by decide)
theorem tail_ok1 : TailOk (Str.ofString "") := tail_ok (l := []) (by rw [show Str.ofString "" = ⟨#[]⟩ by decide +kernel]) P257_nil (by decide)
theorem tail_ok2 {c : Nat} : TailOk (Str.ofString "\" " ++ ⟨#[c]⟩ ++ Str.ofString "\"\"") := tail_ok (l := [34, 32, c, 34, 34]) (by
  rw [Str.cps_append, Str.cps_append, show Str.ofString "\" " = ⟨#[34, 32]⟩ by decide +kernel, show Str.ofString "\"\"" = ⟨#[34, 34]⟩ by decide +kernel]
  simp) (P257_brk (by decide)) (by simp)
theorem tail_ok3 {c : Nat} (hc : c ≠ 34) : TailOk (Str.ofString "\"" ++ ⟨#[c]⟩ ++ Str.ofString "\"") := tail_ok (l := [34, c, 34]) (by
  rw [Str.cps_append, Str.cps_append, ofs_quote]
  simp) (P257_brk hc) (by simp)
abbrev bentOf (c n : Int) : List Bool := (rangeKs 0 (n - 0).toNat).map fun k => ((c.fdiv (2 ^ k.toNat)).fmod 2 == 1)
abbrev fourPs (folds : Int) (tf : Tok) (lb : Addr) (c : Nat) (t1 : Tok) (tail : Str) (t2 : Tok) : List (Str × Value) :=
  [(Str.ofString "folds", .int folds tf), (Str.ofString "bent", .ref lb), (Str.ofString "letter", .str ⟨#[c]⟩ t1), (Str.ofString "tail", .str tail t2)]
theorem four_names {m : Str → Option Value} {vt vl vb vf : Value} : Names (fun y => if y = Str.ofString "tail" then some vt else if y = Str.ofString "letter" then some vl else if y = Str.ofString "bent" then some vb else if y = Str.ofString "folds" then some vf else m y)
    [(Str.ofString "folds", vf), (Str.ofString "bent", vb), (Str.ofString "letter", vl), (Str.ofString "tail", vt)] := by
  refine List.forall_mem_cons.mpr ⟨?_, List.forall_mem_cons.mpr ⟨?_, List.forall_mem_cons.mpr ⟨?_, List.forall_mem_cons.mpr ⟨?_, List.forall_mem_nil _⟩⟩⟩⟩
  · exact (if_neg (by dsimp only; decide +kernel)).trans ((if_neg (by dsimp only; decide +kernel)).trans ((if_neg (by dsimp only; decide +kernel)).trans (if_pos rfl)))
  · exact (if_neg (by dsimp only; decide +kernel)).trans ((if_neg (by dsimp only; decide +kernel)).trans (if_pos rfl))
  · exact (if_neg (by dsimp only; decide +kernel)).trans (if_pos rfl)
  · exact if_pos rfl
section
variable {prog : Program} {w : World} {mean : ExcName → Option Value} {mg mb : Str → Option Value} {fa : Addr} {cd : Value} {h₀ : Heap} {L : Addr} {m : Str → Option Value} {news : List (Addr × Obj)} {s : Shared}
    {Q : Flow → Shared → Prop} {E : Value → Shared → Prop}
local macro_rules | `(tactic| walk_at "CompSrc") => `(tactic| k_extra "CompSrcOwn")
local macro_rules | `(tactic| walk_at "BoolEl") => `(tactic| exact ⟨rfl, rfl⟩)
theorem lawA2 {l' : Addr} {oc : Obj} {cvs : List Value} {n' : Nat} {cs : List Int}
    (B : Below callerA h₀ [] h₀) (X : (Mine.hd.heap_39 w.params).In h₀) (T : TopV mean mg mb h₀)
    (F : Fr h₀ L s.heap m)
    (N : News h₀ L s.heap [(l', listOf cvs.toArray n'), (L + 1, oc)])
    (hic : IntsAre cvs cs) (hcl : cs.length = 6) (dc : oc.data = .cell (some (.ref l')))
    (hE : PassesOwn (model prog w) (callerA.deeper (lawEnv L fa cd)) (lawEnv L fa cd) E)
    (hret : ∀ (h' : Heap) (tk' : Nat) (m' : Str → Option Value) (lb : Addr) (bs : List Bool) (nb c : Nat) (folds : Int) (tf t1 t2 : Tok) (tail : Str),
      2 ≤ folds → folds ≤ 4 → (bs.length : Int) = folds → c ≠ 34 → c ≠ 32 → TailOk tail → Fr h₀ L h' m' → Names m' (fourPs folds tf lb c t1 tail t2) →
      News h₀ L h' [(lb, listOf (bs.map Value.bool).toArray nb), (l', listOf cvs.toArray n'), (L + 1, oc)] →
      wpAny (model prog w) (callerA.deeper (lawEnv L fa cd)) (execs (lawParts.1.drop 6) (lawEnv L fa cd)) Q E { s with heap := h', toks := tk' }) :
    wpAny (model prog w) (callerA.deeper (lawEnv L fa cd)) (execs (lawParts.1.drop 2) (lawEnv L fa cd)) Q E s := by
  dsimp only [lawEnv, lawParts, PySem.Challenge.pw_wu0034_01, List.getLast?, List.getLast, List.drop]
  have hf0 := fmod_lo (cs.getD (Int.toNat 0) 0) (n := 3) (by decide)
  have hf1 := fmod_hi (cs.getD (Int.toNat 0) 0) (n := 3) (by decide)
  k_with_none
  k_with "CompSrcOwn" => (k_here; k_dflt (refine LCg.CompSrc.range (by rfl) (by k_asm) (by k_asm) (by assumption) (by exact small_one (by omega) (by omega) (by omega) (by omega)) (rangeSize_nat _ _) (by first | size_fits | (rw [PySem.sizeLine_eq]; omega)) ?_); intro g'; refine stop_ ?_)
  k_with "call ref" => (k_here; refine stop_ ?_)
  k_steps
  unfold Stop
  refine' bool_rest (fun k => (((cs.getD (Int.toNat 1) 0).fdiv (2 ^ k.toNat)).fmod 2 == 1)) (fun k9 t9 I9 oI9 C9 oC9 D9 m9 ys9 h9 tk9 E9 hlo9 hhi9 hC9 hx9 F9 N9 off9 ne9 => ?_) ?_
  · have hk9 : k9 < 10 := by (clear off9 ne9; omega)
    simp only [LCg.Off3, and_true] at off9
    obtain ⟨⟨o1, o2, o3⟩, o4, o5, o6⟩ := off9
    k_steps
  · k_with_none
    k_with "CompSrcOwn" => (k_here; k_dflt (refine LCg.CompSrc.range (by rfl) (by k_asm) (by k_asm) (by assumption) (by exact small_one (by omega) (by omega) (by omega) (by omega)) (rangeSize_nat _ _) (by first | size_fits | (rw [PySem.sizeLine_eq]; omega)) ?_); intro g'; refine stop_ ?_)
    k_with "call ref" => (k_here; refine stop_ ?_)
    k_with "binaryOp FloorDiv int int" => (refine stop_ ?_)
    k_steps
    unfold Stop
    have hc0 := fmod_lo (cs.getD (Int.toNat 5) 0) (n := 1000) (by decide)
    have hc1 : (35 + (cs.getD (Int.toNat 5) 0).fmod 1000).toNat ≠ 34 := by (clear hf1 hf0 hcl; grind)
    have hc2 : (35 + (cs.getD (Int.toNat 5) 0).fmod 1000).toNat ≠ 32 := by (clear hc1 hf1 hf0 hcl; grind)
    k_with_none
    k_with "CompSrcOwn" => (k_here; k_dflt (refine LCg.CompSrc.range (by rfl) (by k_asm) (by k_asm) (by assumption) (by exact small_one (by omega) (by omega) (by omega) (by omega)) (rangeSize_nat _ _) (by first | size_fits | (rw [PySem.sizeLine_eq]; omega)) ?_); intro g'; refine stop_ ?_)
    k_with "call ref" => (k_here; refine stop_ ?_)
    k_with "execs cons" => (refine stop_ ?_)
    k_steps
    all_goals (unfold Stop; rename Fr _ _ _ _ => F2; rename News _ _ _ _ => N2)
    all_goals (refine hret _ _ _ _ (bentOf (cs.getD (Int.toNat 1) 0) (2 + (cs.getD (Int.toNat 0) 0).fmod 3)) _ (35 + (cs.getD (Int.toNat 5) 0).fmod 1000).toNat (2 + (cs.getD (Int.toNat 0) 0).fmod 3) _ _ _ _ (by (clear hc2 hc1 hc0 hf1 hcl; omega)) (by (clear hc2 hc1 hc0 hf0 hcl; omega)) (by rw [List.length_map, rangeKs_length]; (clear hc2 hc1 hc0 hf1 hcl; omega)) hc1 hc2 ?_ F2 four_names (fun p hp => N2 p (.tail _ hp)))
    all_goals (first | exact tail_ok0 | exact tail_ok1 | exact tail_ok2 | exact tail_ok3 hc1)
end
end Mine
end -- WA2
section -- WA1
open PySem PySem.W PySem.Calls PySem.Spec PyProof.Rows
set_option Elab.async false
set_option maxRecDepth 100000
set_option maxHeartbeats 2000000
set_option linter.unusedVariables false
namespace Mine
theorem fillWA1 : (PySem.Challenge.rw_wu0034_01 = PySem.Challenge.rw_wu0034_01) ∧ (Mine.hd.heap_39 = Mine.hd.heap_39) := by
  w_top off
  k_fill
  exact ⟨rfl, rfl⟩
theorem led_back {g h : Heap} {L a b : Addr} {o₁ o₂ : Obj} {own : List (Addr × Obj)} (N : News g L h ((a, o₁) :: (b, o₂) :: own)) : News g L h (own ++ [(a, o₁), (b, o₂)]) := by
  intro p hp
  rcases List.mem_append.mp hp with hp | hp
  · exact N p (.tail _ (.tail _ hp))
  · rcases List.mem_cons.mp hp with rfl | hp
    · exact N _ (.head _)
    · exact N _ (.tail _ (List.mem_singleton.mp hp ▸ .head _))
section
variable {prog : Program} {w : World} {mean : ExcName → Option Value} {mg mb : Str → Option Value} {fa : Addr} {cd : Value} {h₀ : Heap} {L : Addr} {m : Str → Option Value} {news : List (Addr × Obj)} {s : Shared}
    {Q : Flow → Shared → Prop} {E : Value → Shared → Prop}
theorem lawA1 {ls : Addr} {oc : Obj} {svs : List Value} {ns : List Int} {vc : Option Value}
    (B : Below callerA h₀ [] h₀) (X : (Mine.hd.heap_39 w.params).In h₀) (T : TopV mean mg mb h₀)
    (F : Fr h₀ L s.heap (kstB m [(Str.ofString "script", .ref ls)]))
    (N : News h₀ L s.heap [(L + 1, oc)]) (dc : oc.data = .cell vc)
    (hls : h₀.IsList ls svs.toArray) (hI : IntsAre svs ns) (hlen : ns.length ≤ 63)
    (hE : PassesOwn (model prog w) (callerA.deeper (lawEnv L fa cd)) (lawEnv L fa cd) E)
    (hret : ∀ (h' : Heap) (tk' : Nat) (m' : Str → Option Value) (l' : Addr) (oc' : Obj) (cvs : List Value) (n' : Nat) (cs : List Int),
      IntsAre cvs cs → cs.length = 6 → oc'.data = .cell (some (.ref l')) → Fr h₀ L h' m' → News h₀ L h' [(l', listOf cvs.toArray n'), (L + 1, oc')] →
      wpAny (model prog w) (callerA.deeper (lawEnv L fa cd)) (execs (lawParts.1.drop 2) (lawEnv L fa cd)) Q E { s with heap := h', toks := tk' }) :
    wpAny (model prog w) (callerA.deeper (lawEnv L fa cd)) (execs lawParts.1 (lawEnv L fa cd)) Q E s := by
  dsimp only [lawEnv, lawParts, PySem.Challenge.pw_wu0034_01, List.getLast?, List.getLast, List.drop]
  dsimp only [kstB] at F
  k_with_none
  k_with "pyIter ref" => (refine stop_ ?_)
  k_steps
  unfold Stop
  rename PairSrcL _ _ _ _ _ _ _ _ _ _ _ _ => hP
  rename Obj.data _ = Data.cell (some (Value.ref _)) => hd9
  refine hP _ rfl _ _ _ _ (fun _ _ nx => ∃ l' cvs cs n o', nx = [(l', listOf (cvs : List Value).toArray n), (L + 1, o')] ∧ L + 1 ≠ l' ∧ IntsAre cvs cs ∧ cs.length = 6 ∧ Obj.data o' = .cell (some (.ref l'))) ?start ?step ?done
  case start =>
    exact ⟨_, [_, _, _, _, _, _], [_, _, _, _, _, _], _, _, rfl, Nat.ne_of_lt (by assumption), .cons _ _ (.cons _ _ (.cons _ _ (.cons _ _ (.cons _ _ (.cons _ _ .nil))))), rfl, hd9⟩
  case done =>
    rintro h2 tk2 m2 nx F2 N2 - ⟨l', cvs, cs, n, o', rfl, -, hi, hl, hd⟩
    exact hret _ _ _ _ _ _ _ _ hi hl hd F2 N2
  case step =>
    rintro i a t v m₁ nx s₁ own ⟨h1, tk1, rfl⟩ hx ⟨u, rfl⟩ ⟨l', cvs, cs, n, o', rfl, hne, hi, hl, hd⟩ hadr hoff F1 N1
    have hq := (List.cons.inj hadr).1
    dsimp only at hq
    change Fr h₀ L h1 _ at F1
    change News h₀ L h1 _ at N1
    have hil : i < ns.length := (List.getElem?_eq_some_iff.mp hx).1
    have G := fr_names [(Str.ofString "number", Value.int a u), (Str.ofString "i", Value.int (i : Int) t)] F1 (by
      exact List.forall_mem_cons.mpr ⟨by (first | kernel_rfl! | (refine Eq.trans ?_ (by assumption); kernel_rfl!) | ((try dsimp only); (repeat (first | exact if_pos (by decide +kernel) | refine (if_neg (by decide +kernel)).trans ?_)); (try assumption))), List.forall_mem_cons.mpr ⟨by (first | kernel_rfl! | (refine Eq.trans ?_ (by assumption); kernel_rfl!) | ((try dsimp only); (repeat (first | exact if_pos (by decide +kernel) | refine (if_neg (by decide +kernel)).trans ?_)); (try assumption))), List.forall_mem_nil _⟩⟩)
    dsimp only [kstB] at G
    clear F1 hret hP
    have N2 : News h₀ L h1 ((l', listOf cvs.toArray n) :: (L + 1, o') :: own) := List.forall_mem_cons.mpr ⟨N1 _ (List.mem_append_right _ (.head _)), List.forall_mem_cons.mpr ⟨N1 _ (List.mem_append_right _ (.tail _ (.head _))), fun p hp => N1 p (List.mem_append_left _ hp)⟩⟩
    have hap : ∀ p ∈ (L + 1, o') :: own, p.1 ≠ l' := List.forall_mem_cons.mpr ⟨hne, fun p hp => by rw [hq]; exact hoff p hp _ (.head _)⟩
    clear N1
    have hcl : cvs.length = 6 := hi.length.trans hl
    have hf0 := fmod_lo (i : Int) (n := 6) (by decide)
    have hf1 := fmod_hi (i : Int) (n := 6) (by decide)
    k_with_none
    k_with "setItem ref int" => ((rename Fr _ _ _ _ => lF); (rename News _ _ _ _ => lN); (refine ksa_set lF lN (Upd.head hap) hi (by (clear hf1 hcl hil hl hne hlen; omega)) (by (clear hf0 hcl hil hne hlen; omega)) (by (clear hf0 hcl hil hl hne hlen; omega)) ?_); intro h8 F8 N8 hi8 hl8 hs8; (try dsimp only); (try k_fold))
    k_steps
    exact LoopStep2.intro F8 (led_back N8) rfl ⟨l', _, _, _, o', rfl, hne, hi8, hl8.trans hl, hd⟩
end
end Mine
end -- WA1
section -- WAll
open PySem PySem.W PySem.Calls PySem.Spec PyProof.Rows
set_option Elab.async false
set_option maxRecDepth 100000
set_option maxHeartbeats 2000000
set_option linter.unusedVariables false
namespace Mine
theorem hlv_all {bs : List Bool} {K : Nat} (hl : bs.length = 2 ∨ bs.length = 3 ∨ bs.length = 4) (hK : K + 1 = 2 ^ bs.length) : HLv K bs := by
  have h2 : ∀ n < 3, clv (n + 1) < 2 := by decide
  have h3 : ∀ n < 7, clv (n + 1) < 3 := by decide
  have h4 : ∀ n < 15, clv (n + 1) < 4 := by decide
  unfold HLv
  rcases hl with e | e | e <;> rw [e] at hK ⊢
  · have : K = 3 := by (clear e; lia)
    subst this; exact h2
  · have : K = 7 := by (clear e; lia)
    subst this; exact h3
  · have : K = 15 := by (clear e; lia)
    subst this; exact h4
theorem due_le {bs : List Bool} (hl : bs.length = 2 ∨ bs.length = 3 ∨ bs.length = 4) {c : Int} {p : Int × Int} : (dueN bs c p 4).length ≤ 64 := by
  rw [dueN_length]
  rcases hl with e | e | e <;> rw [e] <;> decide
theorem law_powers {bs : List Bool} {folds : Int} (h1 : 2 ≤ folds) (h2 : folds ≤ 4) (h : (bs.length : Int) = folds) :
    (bs.length = 2 ∨ bs.length = 3 ∨ bs.length = 4) ∧ PowIs folds (2 ^ folds.toNat) ∧ (4 : Int) ≤ 2 ^ folds.toNat ∧ (2 : Int) ^ folds.toNat ≤ 16 ∧ ((2 : Int) ^ folds.toNat - 1).toNat + 1 = 2 ^ bs.length := by
  have hf : folds = 2 ∨ folds = 3 ∨ folds = 4 := by (clear h; lia)
  rcases hf with rfl | rfl | rfl
  · have : bs.length = 2 := by (clear h2 h1; lia)
    rw [this]; exact ⟨by decide, rfl, by decide, by decide, by decide⟩
  · have : bs.length = 3 := by (clear h2 h1; lia)
    rw [this]; exact ⟨by decide, rfl, by decide, by decide, by decide⟩
  · have : bs.length = 4 := by (clear h2 h1; lia)
    rw [this]; exact ⟨by decide, rfl, by decide, by decide, by decide⟩
section
variable {prog : Program} {w : World} {mean : ExcName → Option Value} {mg mb : Str → Option Value} {fa : Addr} {cd : Value} {h₀ : Heap} {L : Addr} {m : Str → Option Value} {news : List (Addr × Obj)} {s : Shared}
    {Q : Flow → Shared → Prop} {E : Value → Shared → Prop}
theorem lawAll {ls : Addr} {oc : Obj} {svs : List Value} {ns : List Int} {vc : Option Value}
    (B : Below callerA h₀ [] h₀) (X : (Mine.hd.heap_39 w.params).In h₀) (T : TopV mean mg mb h₀)
    (F : Fr h₀ L s.heap m) (hm : m (Str.ofString "script") = some (.ref ls))
    (N : News h₀ L s.heap [(L + 1, oc)]) (dc : oc.data = .cell vc)
    (hls : h₀.IsList ls svs.toArray) (hI : IntsAre svs ns) (hlen : ns.length ≤ 63)
    (hE : PassesOwn (model prog w) (callerA.deeper (lawEnv L fa cd)) (lawEnv L fa cd) E)
    (hret : ∀ h' tk' m' news', Fr h₀ L h' m' → News h₀ L h' news' → Q (.ret (.bool true)) { s with heap := h', toks := tk' }) :
    wpAny (model prog w) (callerA.deeper (lawEnv L fa cd)) (execs lawParts.1 (lawEnv L fa cd)) Q E s := by
  refine lawA1 B X T (fr_names _ F (List.forall_mem_cons.mpr ⟨hm, List.forall_mem_nil _⟩)) N dc hls hI hlen hE ?_
  intro h1 k1 m1 l' oc1 cvs n' cs hic hcl dc1 F1 N1
  refine lawA2 B X T F1 N1 hic hcl dc1 hE ?_
  intro h2 k2 m2 lb bs nb c folds tf t1 t2 tail hf1 hf2 hbl hc hc2 htl F2 hn2 N2
  obtain ⟨hl, hP, hp1, hp2, hK⟩ := law_powers hf1 hf2 hbl
  obtain ⟨ht1, ht2, ht3⟩ := htl
  refine lawB B X T (fr_names _ F2 hn2) N2 hic hcl dc1 hf1 hf2 hP hp1 hp2 hc ht1 (by (clear ht3 hK hp2 hp1 hl hc2 hc hbl hf2 hf1 hcl hlen; lia)) (by (clear ht2 hK hp2 hp1 hl hc2 hc hbl hf2 hf1 hcl hlen; lia)) hE ?_
  intro h3 k3 m3 lc lr ld lvs nc tls F3 hn3 N3 hdc hapr hapd hrd
  refine lawC B X T (fr_names _ F3 hn3) N3 hic hcl dc1 hl hbl.symm hK (hlv_all hl hK) hdc hapr hapd hrd hc ht1 (by (clear hrd ht3 hK hp2 hp1 hl hc2 hc hbl hf2 hf1 hcl hlen; omega)) ?_ hE
  intro h4 k4 m4 rvs dvs rs nr nd F4 hn4 N4 hir hid hperm hsort
  have hdl : (dueN bs (cs.getD 4 0) (cs.getD 2 0, cs.getD 3 0) 4).length ≤ 64 := due_le hl
  have F5 := fr_names [(Str.ofString "row", Value.ref lr), (Str.ofString "due", Value.ref ld), (Str.ofString "letter", Value.str ⟨#[c]⟩ t1), (Str.ofString "tail", Value.str tail t2)] F4 (by
    simp only [lawPs, Names, List.forall_mem_cons] at hn4
    obtain ⟨a1, a2, a3, a4, a5, a6, a7, -⟩ := hn4
    exact List.forall_mem_cons.mpr ⟨a6, List.forall_mem_cons.mpr ⟨a7, List.forall_mem_cons.mpr ⟨a3, List.forall_mem_cons.mpr ⟨a4, List.forall_mem_nil _⟩⟩⟩⟩)
  refine lawD (nr := nr) (nd := nd) (news := (lb, listOf (bs.map Value.bool).toArray nb) :: (lc, listOf lvs.toArray nc) :: (l', listOf cvs.toArray n') :: (L + 1, oc1) :: tls) B F5 X ?led T hir hid (by rw [hperm.length_eq]; exact hdl) hdl (due_sorts hl) hperm hsort hc hc2 (by (clear hdl hrd ht2 hK hp2 hp1 hl hc2 hc hbl hf2 hf1 hcl hlen; omega)) hE ?_
  case led =>
    exact List.forall_mem_cons.mpr ⟨N4 _ (.head _), List.forall_mem_cons.mpr ⟨N4 _ (.tail _ (.tail _ (.tail _ (.tail _ (.tail _ (.head _)))))), List.forall_mem_cons.mpr ⟨N4 _ (.tail _ (.head _)), List.forall_mem_cons.mpr ⟨N4 _ (.tail _ (.tail _ (.head _))), List.forall_mem_cons.mpr ⟨N4 _ (.tail _ (.tail _ (.tail _ (.head _)))), List.forall_mem_cons.mpr ⟨N4 _ (.tail _ (.tail _ (.tail _ (.tail _ (.head _))))), fun p hp => N4 p (.tail _ (.tail _ (.tail _ (.tail _ (.tail _ (.tail _ hp))))))⟩⟩⟩⟩⟩⟩
  intro h5 k5 m5 n5 F6 N6
  exact hret _ _ _ _ F6 N6
end
end Mine
end -- WAll
-- WFin
open PySem PySem.W PySem.Calls PySem.Spec PyProof.Rows
set_option Elab.async false
set_option maxRecDepth 100000
set_option maxHeartbeats 2000000
namespace Mine
theorem fillWFin : (PySem.Challenge.rw_wu0034_01 = PySem.Challenge.rw_wu0034_01) ∧ (Mine.hd.heap_39 = Mine.hd.heap_39) := by
  w_top off
  k_fill
  exact ⟨rfl, rfl⟩
end Mine
theorem PySem.Challenge.cw_wu0034_01_holds : PySem.Challenge.rw_wu0034_01.Holds :=
  Mine.hd (by
  k_go0
  (all_goals try k_fold)
  rename Fr _ _ _ _ => fF
  rename News _ _ _ _ => fN
  rename Heap.IsList _ _ _ => fL
  rename IntsAre _ _ => fI
  rename Obj.data _ = _ => fD
  rename Below _ _ _ _ => fB
  refine' Mine.lawAll fB ?k2 ?k3 fF ?k5 fN fD fL fI ?k10 ?k11 ?k12
  case k2 => assumption
  case k3 => assumption
  case k5 => with_unfolding_all rfl
  case k10 => omega
  case k11 => k_steps
  case k12 => 
    intro h9 tk9 m9 news9 F9 N9
    clear fF fN
    k_steps)
