import PyProof.Rows.All
import Wide.All
import OpenK.AllK
import Wide.FinOn
import PySem.Challenge.RW_tc0005_01
open PySem PySem.W PyProof.Rows PySem.Calls PySem.Spec
set_option Elab.async false
set_option maxRecDepth 100000
set_option maxHeartbeats 8000000
set_option linter.unusedVariables false
set_option compiler.extract_closed false
local macro_rules | `(tactic| omega) => `(tactic| first | decide | lia | omega (splitDisjunctions := true))
set_option genInjectivity false
set_option genSizeOf false
set_option genSizeOfSpec false
namespace Mine
section
noncomputable def seenText : Program := view PySem.Challenge.pw_tc0005_01 [1, 2, 3, 4, 11, 12, 14, 15, 16, 17, 18, 19, 20, 21, 22, 23, 24, 25, 26]
noncomputable abbrev looseNames : List Str := [Str.ofString "insort_right", Str.ofString "bisect_right", Str.ofString "insort_left", Str.ofString "bisect_left"]
theorem left_of {p q : Program} {loose : List Str} {Xt : Shared → Bool} {α : Type} {Yf : Shared → α} {Ya : World → α} {N : Nat} {g0 : Bool}
    (h : ∀ w, (openEnds PySem.W.Fast.tw14364793385576792824 p w N).map (fun s => (PySem.W.Fast.tw4187177175401517315 q loose (PySem.W.Fast.tw5923862056798008813 p.main.body) Xt g0 s, Yf s)) = some (openGood q loose, Ya w)) : LeftO p q loose Xt Yf Ya N g0 := by
  rw [← PySem.W.Fast.te14364793385576792824, ← PySem.W.Fast.te4187177175401517315, ← PySem.W.Fast.te5923862056798008813] at h
  exact h
local macro_rules | `(tactic| k_qdec) => `(tactic| decide +kernel)
local macro_rules | `(tactic| o_law) => `(tactic| refine holds_law (by decide +kernel) fun said => ?_)
local macro_rules | `(tactic| o_head $H) => `(tactic| (refine holds_open (q := seenText) (loose := looseNames) (Xt := fun s => xlAt seenText [] s && recOk (RowW.records (OpenRow.toRowW (OpenLaw.row PySem.Challenge.rw_tc0005_01))) s) (XP := XL seenText []) (Yf := Hook.obs $H) (Ya := Hook.val $H) (YP := Hook.says $H) (N := 1684) ?hl (Hook.of $H) (Hook.keeps $H) (fun s e => xl_of s (Bool.and_eq_true_iff.mp e).1) XL.keeps (by rfl) (by rfl) (by rfl) (fun s e => recFacts_of (Bool.and_eq_true_iff.mp e).2) (by rfl) (by first | assumption | decide +kernel) (by decide +kernel) ⟨rfl, rfl, rfl, rfl, rfl, by decide +kernel⟩ ?hw ?hc; (case hl => (refine left_of ?_; intro w; kernel_rfl))))
open_top hd for PySem.Challenge.rw_tc0005_01
end
section Pb
theorem sub_keep {α : Type} {a : α} {t t' : List α} (h : ∀ p ∈ t', p ∈ t) : ∀ p ∈ a :: t', p ∈ a :: t := List.forall_mem_cons.mpr ⟨List.mem_cons_self, fun p hp => List.mem_cons_of_mem _ (h p hp)⟩
theorem sub_skip {α : Type} {a : α} {t l : List α} (h : ∀ p ∈ l, p ∈ t) : ∀ p ∈ l, p ∈ a :: t := fun p hp => List.mem_cons_of_mem _ (h p hp)
theorem sub_nil {α : Type} {l : List α} : ∀ p ∈ ([] : List α), p ∈ l := fun _ h => nomatch h
theorem ex_eq {α : Type} (a : α) {G : Prop} (k : ∀ x, x = a → G) : G := k a rfl
theorem all_cons {α : Type} {p : α → Prop} {a : α} {l : List α} (h : p a) (t : ∀ x ∈ l, p x) : ∀ x ∈ a :: l, p x := List.forall_mem_cons.mpr ⟨h, t⟩
theorem all_nil {α : Type} {p : α → Prop} : ∀ x ∈ ([] : List α), p x := fun _ h => nomatch h
/-- what bisect_left's loop finds between lo and hi -/
noncomputable def bsl (xs : List Int) (x : Int) (lo hi : Nat) : Nat :=
  if lo < hi then (if xs.getD ((lo + hi) / 2) 0 < x then bsl xs x ((lo + hi) / 2 + 1) hi else bsl xs x lo ((lo + hi) / 2)) else lo
termination_by hi - lo
/-- what bisect_right's loop finds between lo and hi -/
noncomputable def bsr (xs : List Int) (x : Int) (lo hi : Nat) : Nat :=
  if lo < hi then (if x < xs.getD ((lo + hi) / 2) 0 then bsr xs x lo ((lo + hi) / 2) else bsr xs x ((lo + hi) / 2 + 1) hi) else lo
termination_by hi - lo
theorem mid_nat {lo hi : Int} (h0 : 0 ≤ lo) (h1 : lo ≤ hi) : ((lo + hi) / 2).toNat = (lo.toNat + hi.toNat) / 2 := by omega
theorem bsl_go {xs : List Int} {x lo hi : Int} (h0 : 0 ≤ lo) (h1 : lo < hi) (h : xs.getD ((lo + hi) / 2).toNat 0 < x) : bsl xs x lo.toNat hi.toNat = bsl xs x ((lo + hi) / 2 + 1).toNat hi.toNat := by
  have e : ((lo + hi) / 2 + 1).toNat = (lo.toNat + hi.toNat) / 2 + 1 := by omega
  rw [mid_nat h0 (by omega)] at h
  rw [e]
  conv => lhs; unfold bsl
  rw [if_pos (by omega), if_pos h]
theorem bsl_back {xs : List Int} {x lo hi : Int} (h0 : 0 ≤ lo) (h1 : lo < hi) (h : ¬ xs.getD ((lo + hi) / 2).toNat 0 < x) : bsl xs x lo.toNat hi.toNat = bsl xs x lo.toNat ((lo + hi) / 2).toNat := by
  rw [mid_nat h0 (by omega)] at h ⊢
  conv => lhs; unfold bsl
  rw [if_pos (by omega), if_neg h]
theorem bsl_end {xs : List Int} {x : Int} {lo hi : Nat} (h : ¬ lo < hi) : bsl xs x lo hi = lo := by
  unfold bsl; rw [if_neg h]
theorem bsr_back {xs : List Int} {x lo hi : Int} (h0 : 0 ≤ lo) (h1 : lo < hi) (h : x < xs.getD ((lo + hi) / 2).toNat 0) : bsr xs x lo.toNat hi.toNat = bsr xs x lo.toNat ((lo + hi) / 2).toNat := by
  rw [mid_nat h0 (by omega)] at h ⊢
  conv => lhs; unfold bsr
  rw [if_pos (by omega), if_pos h]
theorem bsr_go {xs : List Int} {x lo hi : Int} (h0 : 0 ≤ lo) (h1 : lo < hi) (h : ¬ x < xs.getD ((lo + hi) / 2).toNat 0) : bsr xs x lo.toNat hi.toNat = bsr xs x ((lo + hi) / 2 + 1).toNat hi.toNat := by
  have e : ((lo + hi) / 2 + 1).toNat = (lo.toNat + hi.toNat) / 2 + 1 := by omega
  rw [mid_nat h0 (by omega)] at h
  rw [e]
  conv => lhs; unfold bsr
  rw [if_pos (by omega), if_neg h]
theorem bsr_end {xs : List Int} {x : Int} {lo hi : Nat} (h : ¬ lo < hi) : bsr xs x lo hi = lo := by
  unfold bsr; rw [if_neg h]

theorem fdiv2 (x : Int) : x.fdiv 2 = x / 2 := Int.fdiv_eq_ediv_of_nonneg x (by decide)

/-- the loop's word: between lo and hi lies what lies between 0 and n -/
noncomputable def BslAt (ns : List Int) (x lo hi : Int) : Prop := bsl ns x lo.toNat hi.toNat = bsl ns x 0 ns.length
theorem BslAt.start (ns : List Int) (x : Int) : 0 ≤ (0 : Int) ∧ (0 : Int) ≤ (ns.length : Int) ∧ (ns.length : Int) ≤ (ns.length : Int) ∧ BslAt ns x 0 (ns.length : Int) := ⟨by omega, by omega, by omega, rfl⟩
theorem BslAt.go {ns : List Int} {x lo hi : Int} (a : 0 ≤ lo) (b : lo ≤ hi) (c : hi ≤ (ns.length : Int)) (d : BslAt ns x lo hi) (h1 : lo < hi) (h2 : ns.getD ((lo + hi).fdiv 2).toNat 0 < x) :
    0 ≤ (lo + hi).fdiv 2 + 1 ∧ (lo + hi).fdiv 2 + 1 ≤ hi ∧ hi ≤ (ns.length : Int) ∧ BslAt ns x ((lo + hi).fdiv 2 + 1) hi := by
  rw [fdiv2] at h2 ⊢
  exact ⟨by omega, by omega, c, (bsl_go a h1 h2).symm.trans d⟩
theorem BslAt.back {ns : List Int} {x lo hi : Int} (a : 0 ≤ lo) (b : lo ≤ hi) (c : hi ≤ (ns.length : Int)) (d : BslAt ns x lo hi) (h1 : lo < hi) (h2 : ¬ ns.getD ((lo + hi).fdiv 2).toNat 0 < x) :
    0 ≤ lo ∧ lo ≤ (lo + hi).fdiv 2 ∧ (lo + hi).fdiv 2 ≤ (ns.length : Int) ∧ BslAt ns x lo ((lo + hi).fdiv 2) := by
  rw [fdiv2] at h2 ⊢
  exact ⟨a, by omega, by omega, (bsl_back a h1 h2).symm.trans d⟩
theorem BslAt.done {ns : List Int} {x lo hi : Int} (a : 0 ≤ lo) (b : lo ≤ hi) (d : BslAt ns x lo hi) (h1 : ¬ lo < hi) : lo = (bsl ns x 0 ns.length : Nat) := by
  unfold BslAt at d
  rw [← d, bsl_end (by omega)]; omega
noncomputable def BsrAt (ns : List Int) (x lo hi : Int) : Prop := bsr ns x lo.toNat hi.toNat = bsr ns x 0 ns.length
theorem BsrAt.start (ns : List Int) (x : Int) : 0 ≤ (0 : Int) ∧ (0 : Int) ≤ (ns.length : Int) ∧ (ns.length : Int) ≤ (ns.length : Int) ∧ BsrAt ns x 0 (ns.length : Int) := ⟨by omega, by omega, by omega, rfl⟩
theorem BsrAt.go {ns : List Int} {x lo hi : Int} (a : 0 ≤ lo) (b : lo ≤ hi) (c : hi ≤ (ns.length : Int)) (d : BsrAt ns x lo hi) (h1 : lo < hi) (h2 : ¬ x < ns.getD ((lo + hi).fdiv 2).toNat 0) :
    0 ≤ (lo + hi).fdiv 2 + 1 ∧ (lo + hi).fdiv 2 + 1 ≤ hi ∧ hi ≤ (ns.length : Int) ∧ BsrAt ns x ((lo + hi).fdiv 2 + 1) hi := by
  rw [fdiv2] at h2 ⊢
  exact ⟨by omega, by omega, c, (bsr_go a h1 h2).symm.trans d⟩
theorem BsrAt.back {ns : List Int} {x lo hi : Int} (a : 0 ≤ lo) (b : lo ≤ hi) (c : hi ≤ (ns.length : Int)) (d : BsrAt ns x lo hi) (h1 : lo < hi) (h2 : x < ns.getD ((lo + hi).fdiv 2).toNat 0) :
    0 ≤ lo ∧ lo ≤ (lo + hi).fdiv 2 ∧ (lo + hi).fdiv 2 ≤ (ns.length : Int) ∧ BsrAt ns x lo ((lo + hi).fdiv 2) := by
  rw [fdiv2] at h2 ⊢
  exact ⟨a, by omega, by omega, (bsr_back a h1 h2).symm.trans d⟩
theorem BsrAt.done {ns : List Int} {x lo hi : Int} (a : 0 ≤ lo) (b : lo ≤ hi) (d : BsrAt ns x lo hi) (h1 : ¬ lo < hi) : lo = (bsr ns x 0 ns.length : Nat) := by
  unfold BsrAt at d
  rw [← d, bsr_end (by omega)]; omega
theorem bs_less1 {lo hi : Int} (h : lo < hi) (h0 : 0 ≤ lo) : (hi - ((lo + hi).fdiv 2 + 1)).toNat < (hi - lo).toNat := by rw [fdiv2]; omega
theorem bs_less2 {lo hi : Int} (h : lo < hi) (h0 : 0 ≤ lo) : ((lo + hi).fdiv 2 - lo).toNat < (hi - lo).toNat := by rw [fdiv2]; omega

end Pb

section Pll
/-- the values are lists of ints that the ledger bears -/
inductive LLAre (led : List (Addr × Obj)) : List Value → List (List Int) → Prop
  | nil : LLAre led [] []
  | cons {a : Addr} {ws : List Value} {n : Nat} {r : List Int} {vs : List Value} {rs : List (List Int)} : (a, listOf ws.toArray n) ∈ led → IntsAre ws r → LLAre led vs rs → LLAre led (.ref a :: vs) (r :: rs)
/-- one value that is a list of ints of the ledger's -/
noncomputable def LIs (led : List (Addr × Obj)) (v : Value) (r : List Int) : Prop := ∃ a ws n, v = .ref a ∧ (a, listOf ws.toArray n) ∈ led ∧ IntsAre ws r
structure Sub (c n : List (Addr × Obj)) : Prop where
  of : ∀ p ∈ c, p ∈ n
section
variable {led led' : List (Addr × Obj)} {vs us : List Value} {rs qs : List (List Int)}
theorem LIs.mk {a : Addr} {ws : List Value} {n : Nat} {r : List Int} (h : (a, listOf ws.toArray n) ∈ led) (hi : IntsAre ws r) : LIs led (.ref a) r := ⟨a, ws, n, rfl, h, hi⟩
theorem LLAre.mono (s : ∀ p ∈ led, p ∈ led') (h : LLAre led vs rs) : LLAre led' vs rs := by
  induction h with
  | nil => exact .nil
  | cons hm hi _ ih => exact .cons (s _ hm) hi ih
theorem LLAre.length (h : LLAre led vs rs) : vs.length = rs.length := by
  induction h with
  | nil => rfl
  | cons _ _ _ ih => rw [List.length_cons, List.length_cons, ih]
theorem LLAre.append (h : LLAre led vs rs) (k : LLAre led us qs) : LLAre led (vs ++ us) (rs ++ qs) := by
  induction h with
  | nil => exact k
  | cons hm hi _ ih => exact .cons hm hi ih
theorem LLAre.one {v : Value} {r : List Int} (h : LIs led v r) : LLAre led [v] [r] := by
  obtain ⟨a, ws, n, rfl, hm, hi⟩ := h; exact .cons hm hi .nil
theorem LLAre.consL {v : Value} {r : List Int} (h : LIs led v r) (k : LLAre led vs rs) : LLAre led (v :: vs) (r :: rs) := by
  obtain ⟨a, ws, n, rfl, hm, hi⟩ := h; exact .cons hm hi k
theorem LLAre.get (h : LLAre led vs rs) {k : Nat} (hk : k < rs.length) : ∃ v, vs[k]? = some v ∧ LIs led v (rs.getD k []) := by
  induction h generalizing k with
  | nil => exact absurd hk (Nat.not_lt_zero _)
  | cons hm hi _ ih =>
    cases k with
    | zero => exact ⟨_, rfl, LIs.mk hm hi⟩
    | succ k => exact ih (Nat.lt_of_succ_lt_succ hk)
theorem LLAre.take (h : LLAre led vs rs) : ∀ k, LLAre led (vs.take k) (rs.take k) := by
  induction h with
  | nil => intro k; simpa using .nil
  | cons hm hi _ ih =>
    intro k
    cases k with
    | zero => exact .nil
    | succ k => exact .cons hm hi (ih k)
theorem LLAre.drop (h : LLAre led vs rs) : ∀ k, LLAre led (vs.drop k) (rs.drop k) := by
  induction h with
  | nil => intro k; simpa using .nil
  | cons hm hi h ih =>
    intro k
    cases k with
    | zero => exact .cons hm hi h
    | succ k => exact ih k
theorem LLAre.reverse (h : LLAre led vs rs) : LLAre led vs.reverse rs.reverse := by
  induction h with
  | nil => exact .nil
  | cons hm hi _ ih => rw [List.reverse_cons, List.reverse_cons]; exact ih.append (.cons hm hi .nil)
theorem LLAre.ins (h : LLAre led vs rs) {v : Value} {r : List Int} (hv : LIs led v r) (k : Nat) : LLAre led (vs.take k ++ v :: vs.drop k) (rs.take k ++ r :: rs.drop k) :=
  (h.take k).append ((h.drop k).consL hv)
end
section
variable {prog : Program} {w : World} {A : Around} {E : Value → Shared → Prop} {s : Shared} {h₀ : Heap} {L l : Addr}
theorem ll_getItem {news L9 : List (Addr × Obj)} {us : List Value} {rs : List (List Int)} {n : Nat} {k : Int} {u : Tok} {Q : Value → Shared → Prop} (N : News h₀ L s.heap news) (hm : (l, listOf us.toArray n) ∈ news) (hd : LLAre L9 us rs)
    (h0 : 0 ≤ k) (h1 : k < (rs.length : Int)) (hfit : k < 2 ^ 63) (h : ∀ a ws n', (a, listOf ws.toArray n') ∈ L9 → IntsAre ws (rs.getD k.toNat []) → rs.getD k.toNat [] ∈ rs → Q (.ref a) s) : wpAny (model prog w) A (getItem (.ref l) (.int k u)) Q E s := by
  have hk : k.toNat < rs.length := by omega
  obtain ⟨v, hv, a, ws, n', rfl, hm', hi⟩ := hd.get hk
  have hl : s.heap.IsList l us.toArray := ⟨_, (N _ hm).1, rfl, n, rfl⟩
  exact wpAny_getItem_list hl h0 hfit (by simpa using hv) (h a ws n' hm' hi (by rw [List.getD_eq_getElem?_getD, List.getElem?_eq_getElem hk]; exact List.getElem_mem hk))
theorem ll_len {news L9 : List (Addr × Obj)} {us : List Value} {rs : List (List Int)} {n : Nat} {Q : Value → Shared → Prop} (N : News h₀ L s.heap news) (hm : (l, listOf us.toArray n) ∈ news) (hd : LLAre L9 us rs) (hfit : rs.length ≤ 100000)
    (h : Q (.int (rs.length : Int) (s.toks + 1)) { s with toks := s.toks + 1 + 1 }) : wpAny (model prog w) A (call (.builtin "len") [.ref l]) Q E s := by
  have hl : s.heap.IsList l us.toArray := ⟨_, (N _ hm).1, rfl, n, rfl⟩
  have e : us.toArray.size = rs.length := by rw [List.size_toArray, hd.length]
  exact len_list hl (by rw [e]; omega) (by rw [e]; exact h)
theorem ll_item {value slice : PySem.Expr} {news L9 : List (Addr × Obj)} {us : List Value} {rs : List (List Int)} {n : Nat} {k : Int} {u : Tok} {Q : Value → Shared → Prop} (N : News h₀ L s.heap news) (hm : (l, listOf us.toArray n) ∈ news) (hd : LLAre L9 us rs)
    (h0 : 0 ≤ k) (h1 : k < (rs.length : Int)) (hfit : k < 2 ^ 63) (hs : subscripted slice false (.ref l) (.int k u) = operate [.ref l, .int k u] (getItem (.ref l) (.int k u)))
    (h : ∀ a ws n', (a, listOf ws.toArray n') ∈ L9 → IntsAre ws (rs.getD k.toNat []) → rs.getD k.toNat [] ∈ rs → Q (.ref a) s) :
    wpAny (model prog w) A (subscriptTail value slice (.ref l) (.int k u)) Q E s := by
  have hl : s.heap.IsList l us.toArray := ⟨_, (N _ hm).1, rfl, n, rfl⟩
  exact tail_any hl.typeIs slot_list_getitem.lookup (ll_getItem N hm hd h0 h1 hfit h) hs
end

/-- the keys that _law_second reads -/
noncomputable def keysOf (rs : List (List Int)) : List Int := rs.map fun r => r.getD 1 0
theorem keysOf_length (rs : List (List Int)) : (keysOf rs).length = rs.length := List.length_map _
theorem keysOf_getD (rs : List (List Int)) (k : Nat) : (keysOf rs).getD k 0 = (rs.getD k []).getD 1 0 := by
  unfold keysOf
  rw [List.getD_eq_getElem?_getD, List.getElem?_map, List.getD_eq_getElem?_getD (l := rs)]
  cases rs[k]? <;> rfl
theorem BslAt.startK (rs : List (List Int)) (x : Int) : 0 ≤ (0 : Int) ∧ (0 : Int) ≤ (rs.length : Int) ∧ (rs.length : Int) ≤ (rs.length : Int) ∧ BslAt (keysOf rs) x 0 (rs.length : Int) := by
  have := BslAt.start (keysOf rs) x; rw [keysOf_length] at this; exact this
theorem BslAt.goK {rs : List (List Int)} {x lo hi : Int} (a : 0 ≤ lo) (b : lo ≤ hi) (c : hi ≤ (rs.length : Int)) (d : BslAt (keysOf rs) x lo hi) (h1 : lo < hi) (h2 : (rs.getD ((lo + hi).fdiv 2).toNat []).getD (Int.toNat 1) 0 < x) :
    0 ≤ (lo + hi).fdiv 2 + 1 ∧ (lo + hi).fdiv 2 + 1 ≤ hi ∧ hi ≤ (rs.length : Int) ∧ BslAt (keysOf rs) x ((lo + hi).fdiv 2 + 1) hi := by
  have := BslAt.go a b (by rw [keysOf_length]; exact c) d h1 (by rw [keysOf_getD]; exact h2); rw [keysOf_length] at this; exact this
theorem BslAt.backK {rs : List (List Int)} {x lo hi : Int} (a : 0 ≤ lo) (b : lo ≤ hi) (c : hi ≤ (rs.length : Int)) (d : BslAt (keysOf rs) x lo hi) (h1 : lo < hi) (h2 : ¬ (rs.getD ((lo + hi).fdiv 2).toNat []).getD (Int.toNat 1) 0 < x) :
    0 ≤ lo ∧ lo ≤ (lo + hi).fdiv 2 ∧ (lo + hi).fdiv 2 ≤ (rs.length : Int) ∧ BslAt (keysOf rs) x lo ((lo + hi).fdiv 2) := by
  have := BslAt.back a b (by rw [keysOf_length]; exact c) d h1 (by rw [keysOf_getD]; exact h2); rw [keysOf_length] at this; exact this
theorem BslAt.doneK {rs : List (List Int)} {x lo hi : Int} (a : 0 ≤ lo) (b : lo ≤ hi) (d : BslAt (keysOf rs) x lo hi) (h1 : ¬ lo < hi) : lo = (bsl (keysOf rs) x 0 rs.length : Nat) := by
  have := BslAt.done a b d h1; rw [keysOf_length] at this; exact this
theorem BsrAt.startK (rs : List (List Int)) (x : Int) : 0 ≤ (0 : Int) ∧ (0 : Int) ≤ (rs.length : Int) ∧ (rs.length : Int) ≤ (rs.length : Int) ∧ BsrAt (keysOf rs) x 0 (rs.length : Int) := by
  have := BsrAt.start (keysOf rs) x; rw [keysOf_length] at this; exact this
theorem BsrAt.goK {rs : List (List Int)} {x lo hi : Int} (a : 0 ≤ lo) (b : lo ≤ hi) (c : hi ≤ (rs.length : Int)) (d : BsrAt (keysOf rs) x lo hi) (h1 : lo < hi) (h2 : ¬ x < (rs.getD ((lo + hi).fdiv 2).toNat []).getD (Int.toNat 1) 0) :
    0 ≤ (lo + hi).fdiv 2 + 1 ∧ (lo + hi).fdiv 2 + 1 ≤ hi ∧ hi ≤ (rs.length : Int) ∧ BsrAt (keysOf rs) x ((lo + hi).fdiv 2 + 1) hi := by
  have := BsrAt.go a b (by rw [keysOf_length]; exact c) d h1 (by rw [keysOf_getD]; exact h2); rw [keysOf_length] at this; exact this
theorem BsrAt.backK {rs : List (List Int)} {x lo hi : Int} (a : 0 ≤ lo) (b : lo ≤ hi) (c : hi ≤ (rs.length : Int)) (d : BsrAt (keysOf rs) x lo hi) (h1 : lo < hi) (h2 : x < (rs.getD ((lo + hi).fdiv 2).toNat []).getD (Int.toNat 1) 0) :
    0 ≤ lo ∧ lo ≤ (lo + hi).fdiv 2 ∧ (lo + hi).fdiv 2 ≤ (rs.length : Int) ∧ BsrAt (keysOf rs) x lo ((lo + hi).fdiv 2) := by
  have := BsrAt.back a b (by rw [keysOf_length]; exact c) d h1 (by rw [keysOf_getD]; exact h2); rw [keysOf_length] at this; exact this
theorem BsrAt.doneK {rs : List (List Int)} {x lo hi : Int} (a : 0 ≤ lo) (b : lo ≤ hi) (d : BsrAt (keysOf rs) x lo hi) (h1 : ¬ lo < hi) : lo = (bsr (keysOf rs) x 0 rs.length : Nat) := by
  have := BsrAt.done a b d h1; rw [keysOf_length] at this; exact this
theorem row_len {rs : List (List Int)} {r : List Int} {c : Nat} (h : ∀ r ∈ rs, r.length = c) (hr : r ∈ rs) : r.length = c := h r hr

theorem ints_two {ws : List Value} {x y : Int} (h : IntsAre ws [x, y]) : ∃ t u, ws = [Value.int x t, Value.int y u] := by
  cases h with
  | cons _ t h => cases h with
    | cons _ u h => cases h; exact ⟨t, u, rfl⟩
theorem two_of {r : List Int} (h : r.length = 2) : ∃ x y, r = [x, y] := by
  match r, h with
  | [x, y], _ => exact ⟨x, y, rfl⟩

theorem drop_at {α : Type} {xs : List α} {i : Nat} {x : α} (h : xs[i]? = some x) : xs.drop i = x :: xs.drop (i + 1) := by
  obtain ⟨hi, e⟩ := List.getElem?_eq_some_iff.mp h
  rw [List.drop_eq_getElem_cons hi, e]
section
variable {prog : Program} {w : World} {A : Around} {E : Value → Shared → Prop} {s : Shared} {h₀ : Heap} {L l : Addr}
theorem lit_item {value slice : PySem.Expr} {news : List (Addr × Obj)} {us : List Value} {n : Nat} {k : Int} {u : Tok} {v : Value} {Q : Value → Shared → Prop} (N : News h₀ L s.heap news) (hm : (l, listOf us.toArray n) ∈ news)
    (h0 : 0 ≤ k) (hfit : k < 2 ^ 63) (hv : us[k.toNat]? = some v)
    (hs : subscripted slice false (.ref l) (.int k u) = operate [.ref l, .int k u] (getItem (.ref l) (.int k u))) (h : Q v s) :
    wpAny (model prog w) A (subscriptTail value slice (.ref l) (.int k u)) Q E s := by
  have hl : s.heap.IsList l us.toArray := ⟨_, (N _ hm).1, rfl, n, rfl⟩
  exact tail_any hl.typeIs slot_list_getitem.lookup (wpAny_getItem_list hl h0 hfit (by simpa using hv) h) hs
end

end Pll

section Pins
/-- v put into vs at place k -/
noncomputable def insV {α : Type} (vs : List α) (k : Nat) (v : α) : List α := vs.take k ++ v :: vs.drop k
theorem insV_length {α : Type} (vs : List α) (k : Nat) (v : α) : (insV vs k v).length = vs.length + 1 := by
  unfold insV; rw [List.length_append, List.length_cons, List.length_take, List.length_drop]; omega
theorem insV_mem {α : Type} {vs : List α} {k : Nat} {v u : α} (h : u ∈ insV vs k v) : u = v ∨ u ∈ vs := by
  unfold insV at h
  rcases List.mem_append.mp h with h | h
  · exact .inr (List.mem_of_mem_take h)
  · rcases List.mem_cons.mp h with h | h
    · exact .inl h
    · exact .inr (List.mem_of_mem_drop h)
noncomputable def insL (ns : List Int) (x : Int) : List Int := insV ns (bsl ns x 0 ns.length) x
noncomputable def insR (ns : List Int) (x : Int) : List Int := insV ns (bsr ns x 0 ns.length) x
noncomputable def insLK (rs : List (List Int)) (q : List Int) : List (List Int) := insV rs (bsl (keysOf rs) (q.getD 1 0) 0 rs.length) q
noncomputable def insRK (rs : List (List Int)) (q : List Int) : List (List Int) := insV rs (bsr (keysOf rs) (q.getD 1 0) 0 rs.length) q
theorem insL_length (ns : List Int) (x : Int) : (insL ns x).length = ns.length + 1 := insV_length _ _ _
theorem insR_length (ns : List Int) (x : Int) : (insR ns x).length = ns.length + 1 := insV_length _ _ _
theorem insLK_length (rs : List (List Int)) (q : List Int) : (insLK rs q).length = rs.length + 1 := insV_length _ _ _
theorem insRK_length (rs : List (List Int)) (q : List Int) : (insRK rs q).length = rs.length + 1 := insV_length _ _ _
theorem bsl_le (xs : List Int) (x : Int) (lo hi : Nat) (h : lo ≤ hi) : bsl xs x lo hi ≤ hi := by
  fun_induction bsl xs x lo hi with
  | case1 lo hi h1 h2 ih => exact ih (by omega)
  | case2 lo hi h1 h2 ih => exact Nat.le_trans (ih (by omega)) (by omega)
  | case3 lo hi h1 => exact h
theorem bsr_le (xs : List Int) (x : Int) (lo hi : Nat) (h : lo ≤ hi) : bsr xs x lo hi ≤ hi := by
  fun_induction bsr xs x lo hi with
  | case1 lo hi h1 h2 ih => exact Nat.le_trans (ih (by omega)) (by omega)
  | case2 lo hi h1 h2 ih => exact ih (by omega)
  | case3 lo hi h1 => exact h
theorem ins_nat (vs : List Value) {k : Int} {j : Nat} (y : Value) (e : k = (j : Int)) (h : j ≤ vs.length) : kl_ins vs.toArray.toList k y = insV vs j y := by
  subst e
  unfold kl_ins insV
  have : ¬ ((j : Int) < 0) := by omega
  rw [if_neg this]
  have e2 : min (j : Int).toNat vs.toArray.toList.length = j := by simp; omega
  rw [e2]
theorem ints_take {vs : List Value} {ns : List Int} (h : IntsAre vs ns) (k : Nat) : IntsAre (vs.take k) (ns.take k) := by
  induction h generalizing k with
  | nil => simpa using .nil
  | cons n t h ih => cases k with
    | zero => exact .nil
    | succ k => exact .cons n t (ih k)
theorem ints_drop {vs : List Value} {ns : List Int} (h : IntsAre vs ns) (k : Nat) : IntsAre (vs.drop k) (ns.drop k) := by
  induction h generalizing k with
  | nil => simpa using .nil
  | cons n t h ih => cases k with
    | zero => exact .cons n t h
    | succ k => exact ih k
theorem ints_ins {vs : List Value} {ns : List Int} (h : IntsAre vs ns) (k : Nat) (x : Int) (t : Tok) : IntsAre (insV vs k (.int x t)) (insV ns k x) := IntsAre.append (ints_take h k) (.cons x t (ints_drop h k))
theorem ll_ins {led : List (Addr × Obj)} {vs : List Value} {rs : List (List Int)} (h : LLAre led vs rs) (k : Nat) {v : Value} {q : List Int} (hv : LIs led v q) : LLAre led (insV vs k v) (insV rs k q) := h.ins hv k
theorem pairs_ins {rs : List (List Int)} {q : List Int} {c : Nat} (h : ∀ r ∈ rs, r.length = c) (hq : q.length = c) (k : Nat) : ∀ r ∈ insV rs k q, r.length = c := fun r hr => by
  rcases insV_mem hr with e | hr
  · rw [e]; exact hq
  · exact h r hr
theorem ins_eqL {vs : List Value} {ns : List Int} {x k : Int} {y : Value} (hi : IntsAre vs ns) (e : k = ((bsl ns x 0 ns.length : Nat) : Int)) : kl_ins vs.toArray.toList k y = insV vs (bsl ns x 0 ns.length) y :=
  ins_nat vs y e (by rw [hi.length]; exact bsl_le _ _ _ _ (Nat.zero_le _))
theorem ins_eqR {vs : List Value} {ns : List Int} {x k : Int} {y : Value} (hi : IntsAre vs ns) (e : k = ((bsr ns x 0 ns.length : Nat) : Int)) : kl_ins vs.toArray.toList k y = insV vs (bsr ns x 0 ns.length) y :=
  ins_nat vs y e (by rw [hi.length]; exact bsr_le _ _ _ _ (Nat.zero_le _))
theorem ins_eqLK {led : List (Addr × Obj)} {vs : List Value} {rs : List (List Int)} {x k : Int} {y : Value} (hi : LLAre led vs rs) (e : k = ((bsl (keysOf rs) x 0 rs.length : Nat) : Int)) : kl_ins vs.toArray.toList k y = insV vs (bsl (keysOf rs) x 0 rs.length) y :=
  ins_nat vs y e (by rw [hi.length]; exact bsl_le _ _ _ _ (Nat.zero_le _))
theorem ins_eqRK {led : List (Addr × Obj)} {vs : List Value} {rs : List (List Int)} {x k : Int} {y : Value} (hi : LLAre led vs rs) (e : k = ((bsr (keysOf rs) x 0 rs.length : Nat) : Int)) : kl_ins vs.toArray.toList k y = insV vs (bsr (keysOf rs) x 0 rs.length) y :=
  ins_nat vs y e (by rw [hi.length]; exact bsr_le _ _ _ _ (Nat.zero_le _))
theorem upd_in {d : Addr} {o o' : Obj} {l l' : List (Addr × Obj)} (U : Upd d o o' l l') : (d, o) ∈ l := by
  obtain ⟨pre, post, rfl, rfl, _, _⟩ := U.split
  exact List.mem_append.mpr (.inr (.head _))
theorem room_of {n : Nat} (h : n ≤ 1000) : n ≤ sizeLine := by rw [PySem.sizeLine_eq]; omega
theorem listFits {k : Int} {n : Nat} (h : k = (n : Int)) (hn : n ≤ 1000) : Builtin.List.listFitsIndex k = true := by
  subst h
  simp only [Builtin.List.listFitsIndex, Bool.and_eq_true, decide_eq_true_eq]
  constructor <;> omega
theorem fitsL {ns : List Int} {x k : Int} (e : k = ((bsl ns x 0 ns.length : Nat) : Int)) (hn : ns.length ≤ 1000) : Builtin.List.listFitsIndex k = true := listFits e (Nat.le_trans (bsl_le _ _ _ _ (Nat.zero_le _)) hn)
theorem fitsR {ns : List Int} {x k : Int} (e : k = ((bsr ns x 0 ns.length : Nat) : Int)) (hn : ns.length ≤ 1000) : Builtin.List.listFitsIndex k = true := listFits e (Nat.le_trans (bsr_le _ _ _ _ (Nat.zero_le _)) hn)
theorem fitsLK {ns : List (List Int)} {x k : Int} (e : k = ((bsl (keysOf ns) x 0 ns.length : Nat) : Int)) (hn : ns.length ≤ 1000) : Builtin.List.listFitsIndex k = true := listFits e (Nat.le_trans (bsl_le _ _ _ _ (Nat.zero_le _)) hn)
theorem fitsRK {ns : List (List Int)} {x k : Int} (e : k = ((bsr (keysOf ns) x 0 ns.length : Nat) : Int)) (hn : ns.length ≤ 1000) : Builtin.List.listFitsIndex k = true := listFits e (Nat.le_trans (bsr_le _ _ _ _ (Nat.zero_le _)) hn)

theorem foldl_take_one {α β : Type} (f : β → α → β) (b : β) {ns : List α} {i : Nat} {n : α} (h : ns[i]? = some n) : (ns.take (i + 1)).foldl f b = f ((ns.take i).foldl f b) n := by
  rw [List.take_add_one, h, List.foldl_append]; rfl
section
variable {prog : Program} {w : World} {A : Around} {E : Value → Shared → Prop} {s : Shared} {h₀ : Heap} {L D : Addr} {m : Str → Option Value} {news news' : List (Addr × Obj)}
theorem append_V {vs : List Value} {n : Nat} {x : Value} {Q : Value → Shared → Prop} (F : Fr h₀ L s.heap m) (N : News h₀ L s.heap news) (U : Upd D (listOf vs.toArray n) (listOf (vs ++ [x]).toArray (n + 1)) news news') (hz : vs.length ≤ 1000)
    (h : ∀ h', Fr h₀ L h' m → News h₀ L h' news' → Q .none { s with heap := h' }) : wpAny (model prog w) A (call (.builtin "list.append") [.ref D, x]) Q E s := by
  have U' : Upd D (listOf vs.toArray n) (listOf (vs.toArray.push x) (n + 1)) news news' := by rw [List.push_toArray]; exact U
  refine append_K F N U' h (room_of ?_)
  rw [List.size_toArray]; exact hz
theorem rev_V {l : Addr} {value slice : PySem.Expr} {vk : Value} {ops : List Value} {vs : List Value} {n : Nat} {Q : Value → Shared → Prop} (F : Fr h₀ L s.heap m) (N : News h₀ L s.heap news) (hl : (l, listOf vs.toArray n) ∈ news) (pk : IsPart vk (some (-1)))
    (hs : subscripted slice false (.ref l) (.ref s.heap.objs.size) = operate ops (getItem (.ref l) (.ref s.heap.objs.size))) (ht : ∀ r, letTemporaryGo value (.ref l) r = pure ()) (hz : vs.length ≤ 1000)
    (h : ∀ D h', Fr h₀ L h' m → News h₀ L h' ((D, listOf vs.reverse.toArray 0) :: news) → (∀ p ∈ news, p.1 < D) → Q (.ref D) { s with heap := h' }) :
    wpAny (model prog w) A (subscriptTail value slice (.ref l) (.ref s.heap.objs.size)) Q E { s with heap := s.heap.push { cls := .type "slice", data := .fields #[.none, .none, vk] } } :=
  krv_lit (its := vs.toArray) (zs := vs.reverse) F N ⟨_, (N _ hl).1, rfl, n, rfl⟩ pk rfl h hs ht (room_of (by rw [List.size_toArray]; exact hz))
end

end Pins

section Pft
section
variable {prog : Program} {w : World} {A : Around} {E : Value → Shared → Prop} {s : Shared} {env : Env} {h₀ : Heap} {Q : Flow → Shared → Prop}
/-- what stands between two turns of a loop, and how late it is -/
structure Between {σ : Type} (h₀ : Heap) (L I : Addr) (Led : σ → List (Addr × Obj)) (ps : σ → List (Str × Value)) (stored : List Str) (m₀ : Str → Option Value) (J : Nat → Nat → σ → Prop) (i : Nat) (c : σ) (h : Heap) (tk : Nat) (m : Str → Option Value) : Prop where
  fr : Fr h₀ L h m
  led : News h₀ L h (Led c)
  off : ∀ p ∈ Led c, p.1 ≠ I
  names : ∀ p ∈ ps c, m p.1 = some p.2
  rest : ∀ z, (∀ p ∈ ps c, z ≠ p.1) → stored.contains z = false → m z = m₀ z
  word : J i tk c
/-- a turn's end -/
noncomputable def TurnEnd {σ : Type} (h₀ : Heap) (L I : Addr) (oI : Obj) (Led : σ → List (Addr × Obj)) (ps : σ → List (Str × Value)) (stored : List Str) (m₀ : Str → Option Value) (J : Nat → Nat → σ → Prop) (i : Nat) (s : Shared) (Q : Flow → Shared → Prop) (f : Flow) (s' : Shared) : Prop :=
  match f with
  | .ret v => Q (.ret v) s'
  | .brk => Q .next s'
  | _ => ∃ c h tk m news, s' = { s with heap := h, toks := tk } ∧ Fr h₀ L h m ∧ News h₀ L h news ∧ (I, oI) ∈ news ∧ (∀ p ∈ Led c, p ∈ news) ∧ (∀ p ∈ Led c, p.1 ≠ I) ∧ (∀ p ∈ ps c, m p.1 = some p.2) ∧ (∀ z, (∀ p ∈ ps c, z ≠ p.1) → stored.contains z = false → m z = m₀ z) ∧ J i tk c
theorem turn_end {σ : Type} {L I : Addr} {oI : Obj} {Led : σ → List (Addr × Obj)} {ps : σ → List (Str × Value)} {stored : List Str} {m₀ m : Str → Option Value} {J : Nat → Nat → σ → Prop} {i : Nat} {h : Heap} {tk : Nat} {news : List (Addr × Obj)} (c : σ)
    (F : Fr h₀ L h m) (N : News h₀ L h news) (hn : ∀ p ∈ ps c, m p.1 = some p.2) (hr : ∀ z, (∀ p ∈ ps c, z ≠ p.1) → stored.contains z = false → m z = m₀ z) (hI : (I, oI) ∈ news) (hs : ∀ p ∈ Led c, p ∈ news) (ho : ∀ p ∈ Led c, p.1 ≠ I) (hj : J i tk c) :
    TurnEnd h₀ L I oI Led ps stored m₀ J i s Q .next { s with heap := h, toks := tk } := ⟨c, h, tk, m, news, rfl, F, N, hI, hs, ho, hn, hr, hj⟩

theorem turn_ret {σ : Type} {L I : Addr} {oI : Obj} {Led : σ → List (Addr × Obj)} {ps : σ → List (Str × Value)} {stored : List Str} {m₀ : Str → Option Value} {J : Nat → Nat → σ → Prop} {i : Nat} {v : Value} {s' : Shared} (h : Q (.ret v) s') :
    TurnEnd h₀ L I oI Led ps stored m₀ J i s Q (.ret v) s' := h
theorem lot_list {target : Expr} {v : Value} {I l : Addr} {i : Nat} {Q : Unit → Shared → Prop} (hit : s.heap.IsListIter I l i) (hQ : Q () s) : wpAny (model prog w) A (letOwnedTupleGo target (.ref I) v) Q E s := by
  cases target with
  | Tuple elts x pos => cases v with
    | ref T => exact wpAny_letOwnedTupleGo_listiter hit hQ
    | _ => exact wpAny_pure hQ
  | List elts pos => cases v with
    | ref T => exact wpAny_letOwnedTupleGo_listiter (elts := elts) (x1 := 0) (pos := pos) hit hQ
    | _ => exact wpAny_pure hQ
  | _ => exact wpAny_pure hQ
theorem lot_int {target : Expr} {k : Int} {t : Tok} {I : Addr} {Q : Unit → Shared → Prop} (hQ : Q () s) : wpAny (model prog w) A (letOwnedTupleGo target (.ref I) (.int k t)) Q E s := by
  cases target <;> exact wpAny_pure hQ
theorem for_walk {σ : Type} {target : Expr} {body : List Stmt} {I : Addr} {fp : List Addr} {n : Nat} {P : Nat → Value → Prop} {St : Nat → Heap → Prop} {m₀ : Str → Option Value}
    (Led : σ → List (Addr × Obj)) (ps : σ → List (Str × Value)) (stored : List Str) (J : Nat → Nat → σ → Prop) (c₀ : σ)
    (W : Walks prog w A I fp [I] n P St) (hob : ∀ i h, St i h → ∃ o, h.get? I = some o) (hjm : ∀ i tk tk' c, tk ≤ tk' → J i tk c → J i tk' c)
    (hst : ∀ i j h h' o c tk, St i h → h.get? I = some o → h'.get? I = some o → News h₀ env.locals h' (Led c) → (∀ b x, h₀.get? b = some x → h'.get? b = some x) → J j tk c → St i h')
    (hLI : env.locals ≠ I) (hI₀ : h₀.get? I = none) (hs0 : St 0 s.heap) (F : Fr h₀ env.locals s.heap m₀) (N : News h₀ env.locals s.heap (Led c₀)) (off : ∀ p ∈ Led c₀, p.1 ≠ I) (hk : ∀ p ∈ ps c₀, m₀ p.1 = some p.2) (hj : J 0 s.toks c₀)
    (turn : ∀ c i v (u : Str → Option Value) h tk oI, i < n → P i v → J i tk c → s.toks ≤ tk → (∀ p ∈ Led c, p.1 ≠ I) → Fr h₀ env.locals h (kstB (fun z => if stored.contains z then u z else m₀ z) (ps c)) → News h₀ env.locals h ((I, oI) :: Led c) →
      wpAny (model prog w) A (assign target env v) (fun _ s₂ => wpAny (model prog w) A (execs body env) (TurnEnd h₀ env.locals I oI Led ps stored m₀ J (i + 1) s Q) E s₂) E { s with heap := h, toks := tk })
    (done : ∀ c (u : Str → Option Value) h tk, J n tk c → s.toks ≤ tk → Fr h₀ env.locals h (kstB (fun z => if stored.contains z then u z else m₀ z) (ps c)) → News h₀ env.locals h (Led c) → Q .next { s with heap := h, toks := tk })
    (hE : PassesOwn (model prog w) A env E) (ht : ∀ i v (s' : Shared) (Q : Unit → Shared → Prop) (E : Value → Shared → Prop), i < n → P i v → St (i + 1) s'.heap → Q () s' → wpAny (model prog w) A (letOwnedTupleGo target (.ref I) v) Q E s') :
    codeAny (model prog w) A (.forLoop target (.ref I) body [] env) (fun r s' => match r with | .ok f => Q f s' | .error e => cameBackBy (model prog w) A env E e s') s := by
  refine codeAny_forLoop_any (fun k s' => ∃ i c h tk m, s' = { s with heap := h, toks := tk } ∧ s.toks ≤ tk ∧ i ≤ n ∧ k = n - i ∧ St i h ∧ Between h₀ env.locals I Led ps stored m₀ J i c h tk m) ?_ n
    ⟨0, c₀, s.heap, s.toks, m₀, rfl, Nat.le_refl _, Nat.zero_le _, rfl, hs0, F, N, off, hk, fun _ _ _ => rfl, hj⟩
  intro k s' hI9
  refine Classical.byContradiction fun ng9 => ?_
  obtain ⟨i, c, h, tk, m, rfl, hle, hi, rfl, hs, B⟩ := hI9
  refine ng9 ?_; clear ng9
  have back : ∀ h' : Heap, (∀ b o, b ∉ [I] → h.get? b = some o → h'.get? b = some o) → Fr h₀ env.locals h' m ∧ News h₀ env.locals h' (Led c) := fun h' hb =>
    ⟨LCg.fr_but B.fr hb hLI hI₀, LCg.news_but B.led hb B.off⟩
  by_cases hlt : i < n
  · refine wpAny_with_toks (n := tk) (Nat.le_refl _) (W.item i _ _ _ hlt hs fun v h' tk' hP hs' hb => ?_)
    intro htk
    have F' := (back h' hb).1
    have N' := (back h' hb).2
    obtain ⟨oI, hoI⟩ := hob _ _ hs'
    have N2 : News h₀ env.locals h' ((I, oI) :: Led c) := fun p hp => by
      rcases List.mem_cons.mp hp with rfl | hp
      · exact ⟨hoI, Ne.symm hLI, hI₀⟩
      · exact N' p hp
    have T := turn c i v m h' tk' oI hlt hP (hjm _ _ _ _ htk B.word) (Nat.le_trans hle htk) B.off (ksw_fr B.names B.rest F') N2
    have T2 := wpAny_with_toks (n := tk') (Q := fun _ s₂ => wpAny (model prog w) A (execs body env) (fun f s₃ => match f with
          | .next | .cont => ∃ k, k < n - i ∧ ∃ i c h tk m, s₃ = { s with heap := h, toks := tk } ∧ s.toks ≤ tk ∧ i ≤ n ∧ k = n - i ∧ St i h ∧ Between h₀ env.locals I Led ps stored m₀ J i c h tk m
          | .brk => Q .next s₃
          | .ret v => Q (.ret v) s₃) E s₂) (M := model prog w) (A := A) (E := E) (t := assign target env v) (s := { s with heap := h', toks := tk' }) (Nat.le_refl _) (wpAny_mono T (fun _ s₂ h₂ hle₂ => ?_) fun _ _ e _ => e)
    · exact ht i v _ _ _ hlt hP hs' (wpAny_mono (wpAny_passesOwn hE T2) (fun _ s₂ h₂ => wpAny_passesOwn hE h₂) fun _ _ e => e)
    · refine wpAny_with_toks (n := tk') hle₂ (wpAny_mono h₂ (fun f s₃ h₃ hle₃ => ?_) fun _ _ e _ => e)
      have go : (∃ c h tk m news, s₃ = { s with heap := h, toks := tk } ∧ Fr h₀ env.locals h m ∧ News h₀ env.locals h news ∧ (I, oI) ∈ news ∧ (∀ p ∈ Led c, p ∈ news) ∧ (∀ p ∈ Led c, p.1 ≠ I) ∧ (∀ p ∈ ps c, m p.1 = some p.2) ∧ (∀ z, (∀ p ∈ ps c, z ≠ p.1) → stored.contains z = false → m z = m₀ z) ∧ J (i + 1) tk c) →
          ∃ k, k < n - i ∧ ∃ i c h tk m, s₃ = { s with heap := h, toks := tk } ∧ s.toks ≤ tk ∧ i ≤ n ∧ k = n - i ∧ St i h ∧ Between h₀ env.locals I Led ps stored m₀ J i c h tk m := by
        intro hG9
        refine Classical.byContradiction fun ng9 => ?_
        obtain ⟨c₃, h₃', tk₃, m₃, news₃, rfl, F₃, N₃, hI₃, hsub, ho, hn₃, hr₃, hj₃⟩ := hG9
        refine ng9 ?_; clear ng9
        have N4 : News h₀ env.locals h₃' (Led c₃) := fun p hp => N₃ p (hsub p hp)
        exact ⟨n - (i + 1), by omega, i + 1, c₃, h₃', tk₃, m₃, rfl, Nat.le_trans (Nat.le_trans hle htk) hle₃, hlt, rfl, hst _ _ _ _ _ _ _ hs' hoI (N₃ _ hI₃).1 N4 F₃.keep hj₃, F₃, N4, ho, hn₃, hr₃, hj₃⟩
      cases f with
      | ret v => exact h₃
      | brk => exact h₃
      | next => exact go h₃
      | cont => exact go h₃
  · obtain rfl : i = n := Nat.le_antisymm hi (Nat.not_lt.mp hlt)
    refine wpAny_with_toks (n := tk) (Nat.le_refl _) (W.done _ _ _ hs fun h' tk' hb => ?_)
    intro htk
    have F' := (back h' hb).1
    have N' := (back h' hb).2
    exact wpAny_execs_nil (done c m h' tk' (hjm _ _ _ _ htk B.word) (Nat.le_trans hle htk) (ksw_fr B.names B.rest F') N')

theorem for_list {σ : Type} {target : Expr} {body : List Stmt} {l : Addr} {vs : List Value} {nn : Nat} {m₀ : Str → Option Value}
    (Led : σ → List (Addr × Obj)) (ps : σ → List (Str × Value)) (stored : List Str) (J : Nat → Nat → σ → Prop) (c₀ : σ)
    (hh : A.handled = none) (hl : ∀ i tk c, J i tk c → (l, listOf vs.toArray nn) ∈ Led c) (hjm : ∀ i tk tk' c, tk ≤ tk' → J i tk c → J i tk' c)
    (F : Fr h₀ env.locals s.heap m₀) (N : News h₀ env.locals s.heap (Led c₀)) (hk : ∀ p ∈ ps c₀, m₀ p.1 = some p.2) (hj : J 0 s.toks c₀)
    (turn : ∀ c i v (u : Str → Option Value) h tk I oI, vs[i]? = some v → J i tk c → s.toks ≤ tk → (∀ p ∈ Led c, p.1 ≠ I) → Fr h₀ env.locals h (kstB (fun z => if stored.contains z then u z else m₀ z) (ps c)) → News h₀ env.locals h ((I, oI) :: Led c) →
      wpAny (model prog w) A (assign target env v) (fun _ s₂ => wpAny (model prog w) A (execs body env) (TurnEnd h₀ env.locals I oI Led ps stored m₀ J (i + 1) s Q) E s₂) E { s with heap := h, toks := tk })
    (done : ∀ c (u : Str → Option Value) h tk, J vs.length tk c → s.toks ≤ tk → Fr h₀ env.locals h (kstB (fun z => if stored.contains z then u z else m₀ z) (ps c)) → News h₀ env.locals h (Led c) → Q .next { s with heap := h, toks := tk })
    (hE : PassesOwn (model prog w) A env E) :
    wpAny (model prog w) A (pyIter (.ref l)) (fun it s₂ => codeAny (model prog w) A (.forLoop target it body [] env) (fun r s' => match r with | .ok f => Q f s' | .error e => cameBackBy (model prog w) A env E e s') s₂) E s := by
  have hol : s.heap.get? l = some (listOf vs.toArray nn) := (N _ (hl 0 _ _ hj)).1
  have hls : s.heap.IsList l vs.toArray := ⟨_, hol, rfl, nn, rfl⟩
  refine wpAny_pyIter_list hls ?_
  have W := Walks.list (prog := prog) (w := w) hh s.heap.objs.size l (Nat.ne_of_lt (Heap.lt_size hol)) vs.toArray
  have hlen : vs.toArray.size = vs.length := by simp
  rw [hlen] at W
  refine for_walk (m₀ := m₀) Led ps stored J c₀ W (fun i h st => ?_) hjm (fun i j h h' o c tk st e e' N' _ hJ => ?_) (Nat.ne_of_lt F.ns.lt) (next_is_new F) ⟨⟨_, Heap.get?_push_size _ rfl, rfl, rfl⟩, hls.at fun o e => Heap.get?_push_of_some _ e⟩ (F.push _)
    (fun p hp => ⟨Heap.get?_push_of_some _ (N p hp).1, (N p hp).2⟩) (fun p hp => Nat.ne_of_lt (Heap.lt_size (N p hp).1)) hk hj (fun c i v u h tk oI _ hP => turn c i v u h tk _ oI (by simpa using hP)) done hE (fun i v s' Q E _ _ st hQ => lot_list st.1 hQ)
  · obtain ⟨o, e, _⟩ := st.1; exact ⟨o, e⟩
  · obtain ⟨o', q, r⟩ := st.1
    rw [e] at q; cases q
    exact ⟨⟨o, e', r⟩, ⟨_, (N' _ (hl _ _ _ hJ)).1, rfl, nn, rfl⟩⟩

theorem for_range {σ : Type} {target : Expr} {body : List Stmt} {r : Addr} {a₀ b₀ : Int} {t₀ u₀ v₀ : Tok} {n : Nat} {m₀ : Str → Option Value}
    (Led : σ → List (Addr × Obj)) (ps : σ → List (Str × Value)) (stored : List Str) (J : Nat → Nat → σ → Prop) (c₀ : σ)
    (hh : A.handled = none) (hr : IsRange s.heap r a₀ b₀ 1 t₀ u₀ v₀) (hsmall : Builtin.Range.small a₀ b₀ 1 = true) (hsz : Builtin.Range.rangeSize a₀ b₀ 1 = (n : Int)) (hjm : ∀ i tk tk' c, tk ≤ tk' → J i tk c → J i tk' c)
    (F : Fr h₀ env.locals s.heap m₀) (N : News h₀ env.locals s.heap (Led c₀)) (hk : ∀ p ∈ ps c₀, m₀ p.1 = some p.2) (hj : J 0 s.toks c₀)
    (turn : ∀ c i t (u : Str → Option Value) h tk I oI, i < n → J i tk c → s.toks ≤ tk → (∀ p ∈ Led c, p.1 ≠ I) → Fr h₀ env.locals h (kstB (fun z => if stored.contains z then u z else m₀ z) (ps c)) → News h₀ env.locals h ((I, oI) :: Led c) →
      wpAny (model prog w) A (assign target env (.int (a₀ + (i : Int)) t)) (fun _ s₂ => wpAny (model prog w) A (execs body env) (TurnEnd h₀ env.locals I oI Led ps stored m₀ J (i + 1) s Q) E s₂) E { s with heap := h, toks := tk })
    (done : ∀ c (u : Str → Option Value) h tk, J n tk c → s.toks ≤ tk → Fr h₀ env.locals h (kstB (fun z => if stored.contains z then u z else m₀ z) (ps c)) → News h₀ env.locals h (Led c) → Q .next { s with heap := h, toks := tk })
    (hE : PassesOwn (model prog w) A env E) :
    wpAny (model prog w) A (pyIter (.ref r)) (fun it s₂ => codeAny (model prog w) A (.forLoop target it body [] env) (fun r s' => match r with | .ok f => Q f s' | .error e => cameBackBy (model prog w) A env E e s') s₂) E s := by
  refine wpAny_pyIter_range hr hsmall ?_
  refine for_walk (m₀ := m₀) Led ps stored J c₀ (LCg.range_walks hh a₀ n) (fun i h st => ⟨_, st⟩) hjm (fun i j h h' o c tk st e e' N' _ hJ => ?_) (Nat.ne_of_lt F.ns.lt) (next_is_new F) (by show IsRangeIter _ _ _ _ _; rw [hsz]; simpa using Heap.get?_push_size _ rfl) (F.push _)
    (fun p hp => ⟨Heap.get?_push_of_some _ (N p hp).1, (N p hp).2⟩) (fun p hp => Nat.ne_of_lt (Heap.lt_size (N p hp).1)) hk hj (fun c i v u h tk oI hi hP => ?_) done hE (fun i v s' Q E _ hP _ hQ => by obtain ⟨t, rfl⟩ := hP; exact lot_int hQ)
  · have st' : h.get? _ = some _ := st
    show h'.get? _ = some _
    rw [e', ← e]; exact st'
  · obtain ⟨t, rfl⟩ := hP
    exact turn c i t u h tk _ oI hi
end

end Pft

section Pcp
section
variable {prog : Program} {w : World} {A : Around} {E : Value → Shared → Prop} {s : Shared} {env : Env} {h₀ : Heap} {L : Addr} {m : Str → Option Value}
/-- a tuple's block -/
noncomputable abbrev tupOf (vs : List Value) : Obj := { cls := .type "tuple", data := .seq vs.toArray }
noncomputable def Apart3 (I C D : Addr) (l : List (Addr × Obj)) : Prop := ∀ p ∈ l, p.1 ≠ I ∧ p.1 ≠ C ∧ p.1 ≠ D
/-- an element's end: y joins the list -/
noncomputable def EltEnd {σ : Type} (h₀ : Heap) (L : Addr) (m : Str → Option Value) (I C D : Addr) (oI oC : Obj) (Led : σ → List (Addr × Obj)) (J : Nat → Nat → List Value → σ → Prop) (i : Nat) (ys : List Value) (s : Shared) (y : Value) (s' : Shared) : Prop :=
  ∃ c h tk news, s' = { s with heap := h, toks := tk } ∧ Fr h₀ L h m ∧ News h₀ L h news ∧ (I, oI) ∈ news ∧ (C, oC) ∈ news ∧ (D, LCg.lst ys) ∈ news ∧ (∀ p ∈ Led c, p ∈ news) ∧ Apart3 I C D (Led c) ∧ J i tk (ys ++ [y]) c
theorem elt_end {σ : Type} {I C D : Addr} {oI oC : Obj} {Led : σ → List (Addr × Obj)} {J : Nat → Nat → List Value → σ → Prop} {i : Nat} {ys : List Value} {y : Value} {h : Heap} {tk : Nat} {news : List (Addr × Obj)} (c : σ)
    (F : Fr h₀ L h m) (N : News h₀ L h news) (hI : (I, oI) ∈ news) (hC : (C, oC) ∈ news) (hD : (D, LCg.lst ys) ∈ news) (hs : ∀ p ∈ Led c, p ∈ news) (ho : Apart3 I C D (Led c)) (hj : J i tk (ys ++ [y]) c) :
    EltEnd h₀ L m I C D oI oC Led J i ys s y { s with heap := h, toks := tk } := ⟨c, h, tk, news, rfl, F, N, hI, hC, hD, hs, ho, hj⟩

/-- what the target binds -/
noncomputable abbrev Binds (prog : Program) (w : World) (A : Around) (h₀ : Heap) (L : Addr) (m : Str → Option Value) (env : Env) (scope : Scope) (cl : List (Str × Addr)) (s : Shared) (t : Expr) (I : Addr) {σ : Type} (Led : σ → List (Addr × Obj)) (J : Nat → Nat → List Value → σ → Prop) (P : Nat → Value → Prop) (St : Nat → Heap → Prop) (Bd : σ → Value → (Str → Option Value) → Prop) : Prop :=
  ∀ C D c i v ys h₁ tk tk₀ oI oC mC (Q : Unit → Shared → Prop) (E' : Value → Shared → Prop), (@Ne Nat I C) → (@Ne Nat C D) → P i v → J i tk₀ ys c → St (i + 1) h₁ → Apart3 I C D (Led c) → Fr h₀ L h₁ m → News h₀ L h₁ ((I, oI) :: (C, oC) :: (D, LCg.lst ys) :: Led c) → LCg.NsObj oC mC →
    (∀ h₂ tk₂ oC₂ m₂, tk ≤ tk₂ → Fr h₀ L h₂ m → News h₀ L h₂ ((I, oI) :: (C, oC₂) :: (D, LCg.lst ys) :: Led c) → LCg.NsObj oC₂ m₂ → Bd c v m₂ → Q () { s with heap := h₂, toks := tk₂ }) →
    wpAny (model prog w) A (letOwnedTupleGo t (.ref I) v) (fun _ s₀ => wpAny (model prog w) A (assign t (compEnvC scope cl C env) v) Q E' s₀) E' { s with heap := h₁, toks := tk }

theorem comp_loop {σ : Type} {elt iter t : Expr} {Bd : σ → Value → (Str → Option Value) → Prop} {scope : Scope} {cl : List (Str × Addr)} {pos : Pos} {I C D : Addr} {fp : List Addr} {n : Nat} {P : Nat → Value → Prop} {St : Nat → Heap → Prop} {mC : Str → Option Value} {R : Result → Shared → Prop}
    (Led : σ → List (Addr × Obj)) (J : Nat → Nat → List Value → σ → Prop) (c₀ : σ)
    (W : Walks prog w A I fp [I] n P St) (hsz : n ≤ sizeLine) (hob : ∀ i h, St i h → ∃ o, h.get? I = some o) (hjm : ∀ i tk tk' ys c, tk ≤ tk' → J i tk ys c → J i tk' ys c)
    (hst : ∀ i h h' o c j tk ys, St i h → h.get? I = some o → h'.get? I = some o → News h₀ L h' (Led c) → (∀ b x, h₀.get? b = some x → h'.get? b = some x) → J j tk ys c → St i h')
    (hkind : scope.kind = .function) (hbd : Binds prog w A h₀ L m env scope cl s t I Led J P St Bd) (hLI : L ≠ I) (hI₀ : h₀.get? I = none) (hCL : C ≠ L) (hC₀ : h₀.get? C = none) (hDL : D ≠ L) (hD₀ : h₀.get? D = none) (hIC : I ≠ C) (hID : I ≠ D) (hCD : C ≠ D) (hDf : D ∉ fp) (hCf : C ∉ fp)
    (hs0 : St 0 s.heap) (F : Fr h₀ L s.heap m) (hC : s.heap.Ns C mC) (hD : s.heap.get? D = some (LCg.lst [])) (N : News h₀ L s.heap (Led c₀)) (off : Apart3 I C D (Led c₀)) (hj : J 0 s.toks [] c₀)
    (turn : ∀ c i v ys h tk oI oC m₂ (E' : Value → Shared → Prop), i < n → P i v → J i tk ys c → s.toks ≤ tk → LCg.NsObj oC m₂ → Bd c v m₂ → Apart3 I C D (Led c) → Fr h₀ L h m → News h₀ L h ((I, oI) :: (C, oC) :: (D, LCg.lst ys) :: Led c) →
      wpAny (model prog w) A (eval elt (compEnvC scope cl C env)) (EltEnd h₀ L m I C D oI oC Led J (i + 1) ys { s with heap := h, toks := tk }) E' { s with heap := h, toks := tk })
    (done : ∀ c ys h tk mC', J n tk ys c → s.toks ≤ tk → Fr h₀ L h m → News h₀ L h ((D, LCg.lst ys) :: Led c) → h.Ns C mC' → Apart3 I C D (Led c) → R (.ok .next) { s with heap := h, toks := tk }) :
    codeAny (model prog w) A (.compLoop (.ListComp elt [⟨t, iter, [], 0⟩] scope pos) 0 (.ref I) (.ref D) (compEnvC scope cl C env)) R s := by
  refine kcp_loop (fun k s' => ∃ i ys c h tk mC', s' = { s with heap := h, toks := tk } ∧ s.toks ≤ tk ∧ i ≤ n ∧ k = n - i ∧ ys.length = i ∧ St i h ∧ Fr h₀ L h m ∧ h.Ns C mC' ∧ News h₀ L h ((D, LCg.lst ys) :: Led c) ∧ Apart3 I C D (Led c) ∧ J i tk ys c) ?_ n
    ⟨0, [], c₀, s.heap, s.toks, mC, rfl, Nat.le_refl _, Nat.zero_le _, rfl, rfl, hs0, F, hC, fun p hp => ?_, off, hj⟩
  · intro k s' hI9
    refine Classical.byContradiction fun ng9 => ?_
    obtain ⟨i, ys, c, h, tk, mC', rfl, hle, hi, rfl, hyl, hs, F', hn, N', ho, hJ⟩ := hI9
    refine ng9 ?_; clear ng9
    have N2 : News h₀ L h (Led c) := fun p hp => N' p (.tail _ hp)
    have zD := N' _ (.head _)
    have back : ∀ h' : Heap, (∀ b o, b ∉ [I] → h.get? b = some o → h'.get? b = some o) → Fr h₀ L h' m ∧ News h₀ L h' ((D, LCg.lst ys) :: Led c) := fun h' hb =>
      ⟨LCg.fr_but F' hb hLI hI₀, LCg.news_but N' hb fun p hp => by
        rcases List.mem_cons.mp hp with rfl | hp
        · exact Ne.symm hID
        · exact (ho p hp).1⟩
    by_cases hlt : i < n
    · refine wpAny_with_toks (n := tk) (Nat.le_refl _) (W.item i _ _ _ hlt hs fun v h₁ tk₁ hP hs₁ hb => ?_)
      intro htk
      have F₁ := (back h₁ hb).1
      have N₁ := (back h₁ hb).2
      refine Classical.byContradiction fun ng9 => ?_
      obtain ⟨oI1, eI1⟩ := hob _ _ hs₁
      have hn₁ := hn.at' (h' := h₁) (fun o e => hb _ o (by simpa using Ne.symm hIC) e)
      obtain ⟨oC1, eC1, hoC1⟩ := LCg.ns_obj hn₁
      refine ng9 ?_; clear ng9
      have Nk : News h₀ L h₁ ((I, oI1) :: (C, oC1) :: (D, LCg.lst ys) :: Led c) := fun p hp => by
        rcases List.mem_cons.mp hp with rfl | hp
        · exact ⟨eI1, Ne.symm hLI, hI₀⟩
        · rcases List.mem_cons.mp hp with rfl | hp
          · exact ⟨eC1, hCL, hC₀⟩
          · exact N₁ p hp
      refine hbd C D c i v ys h₁ tk₁ _ oI1 oC1 _ _ _ hIC hCD hP hJ hs₁ ho F₁ Nk hoC1 fun h₂ tk₂ oC m₂ htk₂ F₂ N₃ hoC hB => ?_
      have hs2 : St (i + 1) h₂ := hst _ _ _ _ _ _ _ _ hs₁ eI1 (N₃ _ (.head _)).1 (fun p hp => N₃ p (.tail _ (.tail _ (.tail _ hp)))) F₂.keep hJ
      have eI := (N₃ _ (.head _)).1
      have le₂ : s.toks ≤ tk₂ := Nat.le_trans (Nat.le_trans hle htk) htk₂
      refine wpAny_with_toks (n := tk₂) (Nat.le_refl _) (wpAny_mono (turn c i v ys h₂ tk₂ oI1 oC _ _ hlt hP (hjm _ _ _ _ _ (Nat.le_trans htk htk₂) hJ) le₂ hoC hB ho F₂ N₃) (fun y s₄ h₄ => ?_) fun _ _ e => e)
      intro htk₄
      refine Classical.byContradiction fun ng9 => ?_
      obtain ⟨c', h₄, tk₄, news₄, rfl, F₄, N₄, mI, mC₄, mD, sub, off', hJ'⟩ := h₄
      refine ng9 ?_; clear ng9
      have zI := (N₄ _ mI).1
      have zC := (N₄ _ mC₄).1
      have zD₄ := (N₄ _ mD).1
      have N₄' : News h₀ L h₄ (Led c') := fun p hp => N₄ p (sub p hp)
      have hs4 : St (i + 1) h₄ := hst _ _ _ _ _ _ _ _ hs2 eI zI N₄' F₄.keep hJ'
      refine wpAny_with_toks (n := tk₄) (Nat.le_refl _) (append_at (hsz := by show ys.toArray.size ≤ sizeLine; rw [List.size_toArray, hyl]; exact Nat.le_trans hi hsz) zD₄ fun h₅ hs₅ hD₅ => ?_)
      intro _
      refine ⟨n - (i + 1), by omega, i + 1, ys ++ [y], c', h₅, tk₄, _, rfl, Nat.le_trans le₂ htk₄, hlt, rfl, by rw [List.length_append, hyl]; rfl, W.frame _ _ _ hs4 fun b hb o e => hs₅.extBut b o (fun q => hDf (by have q' : b = D := q; rw [← q']; exact hb)) e,
        F₄.change hs₅ hDL hD₀, (hoC.ns zC).sameBut hs₅ hCD, fun p hp => ?_, off', hJ'⟩
      rcases List.mem_cons.mp hp with rfl | hp
      · exact ⟨hD₅.trans (congrArg some (LCg.lst_snoc ys y)), hDL, hD₀⟩
      · exact ⟨hs₅.extBut _ _ (off' p hp).2.2 (N₄' p hp).1, (N₄' p hp).2⟩
    · obtain rfl : i = n := Nat.le_antisymm hi (Nat.not_lt.mp hlt)
      refine wpAny_with_toks (n := tk) (Nat.le_refl _) (W.done _ _ _ hs fun h₁ tk₁ hb => ?_)
      intro htk
      have F₁ := (back h₁ hb).1
      have N₁ := (back h₁ hb).2
      exact done c ys h₁ tk₁ _ (hjm _ _ _ _ _ htk hJ) (Nat.le_trans hle htk) F₁ N₁ (hn.at' fun o e => hb _ o (by simpa using Ne.symm hIC) e) ho
  · rcases List.mem_cons.mp hp with rfl | hp
    · exact ⟨hD, hDL, hD₀⟩
    · exact N p hp

theorem comp_block {σ : Type} {elt iter t : Expr} {Bd : σ → Value → (Str → Option Value) → Prop} {scope : Scope} {cl : List (Str × Addr)} {pos : Pos} {I : Addr} {fp : List Addr} {n : Nat} {P : Nat → Value → Prop} {St : Nat → Heap → Prop} {RR : Value → Addr → Result → Shared → Prop}
    (Led : σ → List (Addr × Obj)) (J : Nat → Nat → List Value → σ → Prop) (c₀ : σ)
    (W : Walks prog w A I fp [I] n P St) (hsz : n ≤ sizeLine) (hob : ∀ i h, St i h → ∃ o, h.get? I = some o) (hjm : ∀ i tk tk' ys c, tk ≤ tk' → J i tk ys c → J i tk' ys c)
    (hst : ∀ i h h' o c j tk ys, St i h → h.get? I = some o → h'.get? I = some o → News h₀ L h' (Led c) → (∀ b x, h₀.get? b = some x → h'.get? b = some x) → J j tk ys c → St i h')
    (hcell : ∀ y ∈ scope.names, y.2 ≠ .cell) (hkind : scope.kind = .function) (hbd : ∀ s' : Shared, (∃ h k, s' = { s with heap := h, toks := k }) → Binds prog w A h₀ L m env scope cl s' t I Led J P St Bd) (hs0 : St 0 s.heap) (hfp : ∀ b ∈ fp, b < s.heap.objs.size)
    (F : Fr h₀ L s.heap m) (N : News h₀ L s.heap (Led c₀)) (hLI : L ≠ I) (hI₀ : h₀.get? I = none) (off : ∀ p ∈ Led c₀, p.1 ≠ I) (hj : J 0 s.toks [] c₀)
    (turn : ∀ C D c i v ys h tk oI oC m₂ (E' : Value → Shared → Prop), (@Ne Nat I C) → (@Ne Nat I D) → (@Ne Nat C D) → i < n → P i v → J i tk ys c → s.toks ≤ tk → LCg.NsObj oC m₂ → Bd c v m₂ → Apart3 I C D (Led c) → Fr h₀ L h m → News h₀ L h ((I, oI) :: (C, oC) :: (D, LCg.lst ys) :: Led c) →
      wpAny (model prog w) A (eval elt (compEnvC scope cl C env)) (EltEnd h₀ L m I C D oI oC Led J (i + 1) ys { s with heap := h, toks := tk }) E' { s with heap := h, toks := tk })
    (hRR : ∀ C D c ys h tk mC', J n tk ys c → s.toks ≤ tk → Fr h₀ L h m → News h₀ L h ((D, LCg.lst ys) :: Led c) → h.Ns C mC' → h₀.get? C = none → h₀.get? D = none → C ≠ L → D ≠ L → C ≠ D → Apart3 I C D (Led c) → RR (.ref D) C (.ok .next) { s with heap := h, toks := tk }) :
    wpAny (model prog w) A (newList []) (fun acc s₃ => wpAny (model prog w) A (newFunctionEnv scope env.globals cl [] env.qual none .none (some env)) (fun cenv s₄ =>
      codeAny (model prog w) A (.compStart (.ListComp elt [⟨t, iter, [], 0⟩] scope pos) 0 (.ref I) acc { cenv with scope := relabel scope env }) (RR acc cenv.locals) s₄) E s₃) E s := by
  refine wpAny_newObj_type (wpAny_newFunctionEnv hcell (by intro y hy; cases hy) (fun h₁ hns hsb => ?_) hkind)
  dsimp only at hns hsb ⊢
  generalize hH : s.heap.push { cls := .type "list", dict := none, data := .seq ([] : List Value).toArray } = H at hns hsb ⊢
  have eC : H.objs.size = s.heap.objs.size + 1 := by rw [← hH, Heap.size_push]
  have lt : ∀ b, b < s.heap.objs.size → b ≠ H.objs.size ∧ b ≠ s.heap.objs.size := fun b hb => by
    rw [eC]
    exact ⟨Nat.ne_of_lt (Nat.lt_succ_of_lt hb), Nat.ne_of_lt hb⟩
  have old : ∀ b o, s.heap.get? b = some o → h₁.get? b = some o := fun b o e => hsb.extBut b o (lt b (Heap.lt_size e)).1 (Heap.get?_push_of_some _ (hH ▸ Heap.get?_push_of_some _ e))
  have none₀ : ∀ a, s.heap.objs.size ≤ a → h₀.get? a = none := fun a ha => by
    cases e : h₀.get? a with
    | none => rfl
    | some o => exact absurd (Heap.lt_size (F.keep a o e)) (Nat.not_lt.mpr ha)
  have hIf : I ∈ fp := W.sub I (List.mem_singleton.mpr rfl)
  have hDC : H.objs.size ≠ s.heap.objs.size := by rw [eC]; exact Nat.ne_of_gt (Nat.lt_succ_self _)
  have hCf : H.objs.size ∉ fp := fun hm => (lt _ (hfp _ hm)).1 rfl
  have hDf : s.heap.objs.size ∉ fp := fun hm => (lt _ (hfp _ hm)).2 rfl
  have loop : ∀ s₃ : Shared, s₃ = { s with heap := h₁, toks := s.toks + ([] : List (Str × Value)).length } →
      codeAny (model prog w) A (.compLoop (.ListComp elt [⟨t, iter, [], 0⟩] scope pos) 0 (.ref I) (.ref s.heap.objs.size) (compEnvC scope cl H.objs.size env)) (RR (.ref s.heap.objs.size) H.objs.size) s₃ := by
    rintro s₃ rfl
    refine comp_loop (fp := fp) Led J c₀ W hsz hob hjm hst hkind (hbd _ ⟨_, _, rfl⟩) hLI hI₀ (Ne.symm (lt L F.ns.lt).1) (none₀ _ (by rw [eC]; exact Nat.le_succ _)) (Ne.symm (lt L F.ns.lt).2) (none₀ _ (Nat.le_refl _)) (lt I (hfp I hIf)).1 (lt I (hfp I hIf)).2 hDC hDf hCf
      (W.frame _ _ _ hs0 fun b _ o e => old b o e) (F.keeps old) hns (hsb.extBut _ _ (Ne.symm hDC) (Heap.get?_push_of_some _ (hH ▸ Heap.get?_push_size _ rfl))) (N.grown old) (fun p hp => ⟨off p hp, lt _ (Heap.lt_size (N p hp).1)⟩) hj ?_ ?_
    · intro c i v ys h tk oI oC m₂ E' hi hP hJ hle hoC hm hap F' N'
      exact turn _ _ c i v ys h tk oI oC m₂ E' (lt I (hfp I hIf)).1 (lt I (hfp I hIf)).2 hDC hi hP hJ hle hoC hm hap F' N'
    · intro c ys h tk mC' hJ hle F' N' hn hap
      exact hRR _ _ c ys h tk mC' hJ hle F' N' hn (none₀ _ (by rw [eC]; exact Nat.le_succ _)) (none₀ _ (Nat.le_refl _)) (Ne.symm (lt L F.ns.lt).1) (Ne.symm (lt L F.ns.lt).2) hDC hap
  exact codeAny_compStart_list (loop _ rfl) (W.self 0 _ _ _ (W.frame _ _ _ hs0 fun b _ o e => old b o e) (loop _ rfl))

theorem binds_name {σ : Type} {Led : σ → List (Addr × Obj)} {J : Nat → Nat → List Value → σ → Prop} {P : Nat → Value → Prop} {St : Nat → Heap → Prop} {x : Str} {px : Pos} {scope : Scope} {cl : List (Str × Addr)} {I : Addr} (hkind : scope.kind = .function) (hx : scope.names.lookup x = some .local) :
    Binds prog w A h₀ L m env scope cl s (.Name x px) I Led J P St (fun _ v m₂ => m₂ x = some v) := by
  intro C D c i v ys h₁ tk tk₀ oI oC mC Q E' hIC hCD hP hJ hs ho F N hoC k
  have zC := N _ (.tail _ (.head _))
  show wpAny _ A (pure ()) _ _ _
  refine wpAny_pure ?_
  refine wpAny_assign_Name (wpAny_storeName_local (lookup_relabel_local hx) (hoC.ns zC.1) (fun h₂ hn₂ hs₂ => ?_) (by simp [compEnvC, relabel, hkind]))
  obtain ⟨oC₂, eC, hoC₂⟩ := LCg.ns_obj hn₂
  refine k h₂ _ oC₂ _ (Nat.le_succ _) (F.change hs₂ zC.2.1 zC.2.2) (fun p hp => ?_) hoC₂ (if_pos rfl)
  rcases List.mem_cons.mp hp with rfl | hp
  · exact ⟨hs₂.extBut _ _ hIC (N _ (.head _)).1, (N _ (.head _)).2⟩
  · rcases List.mem_cons.mp hp with rfl | hp
    · exact ⟨eC, zC.2⟩
    · have z := N p (.tail _ (.tail _ hp))
      refine ⟨hs₂.extBut _ _ ?_ z.1, z.2⟩
      rcases List.mem_cons.mp hp with rfl | hp
      · exact Ne.symm hCD
      · exact (ho p hp).2.1

/-- what a comprehension walks over, and what it makes of it -/
noncomputable def CompIn (prog : Program) (w : World) (A : Around) (h₀ : Heap) (L : Addr) (m : Str → Option Value) (env : Env) (elt : Expr) (x : Str) (scope : Scope) (cl : List (Str × Addr)) (Fin : Shared → Addr → List Value → List (Addr × Obj) → Heap → Nat → Prop) (xv : Value) (s₁ : Shared) : Prop :=
  ∃ (σ : Type) (Led : σ → List (Addr × Obj)) (J : Nat → Nat → List Value → σ → Prop) (c₀ : σ) (n : Nat) (P : Nat → Value → Prop),
    A.handled = none ∧ Fr h₀ L s₁.heap m ∧ News h₀ L s₁.heap (Led c₀) ∧ (∀ i tk tk' ys c, tk ≤ tk' → J i tk ys c → J i tk' ys c) ∧ J 0 s₁.toks [] c₀ ∧ n ≤ sizeLine ∧
    ((∃ (ax : Addr) (its : List Value) (nn : Nat), xv = .ref ax ∧ n = its.length ∧ (∀ i tk ys c, J i tk ys c → (ax, listOf its.toArray nn) ∈ Led c) ∧ P = fun i v => its[i]? = some v) ∨
      (∃ (r : Addr) (a b : Int) (t u v : Tok), xv = .ref r ∧ IsRange s₁.heap r a b 1 t u v ∧ Builtin.Range.small a b 1 = true ∧ Builtin.Range.rangeSize a b 1 = (n : Int) ∧ P = fun i v => ∃ t, v = .int (a + (i : Int)) t) ∨
      (∃ (ax : Addr) (its : List Value), xv = .ref ax ∧ n = its.length ∧ (∀ i tk ys c, J i tk ys c → (ax, tupOf its) ∈ Led c) ∧ P = fun i v => its[i]? = some v)) ∧
    (∀ I C D c i v ys h tk oI oC m₂ (E' : Value → Shared → Prop), (@Ne Nat I C) → (@Ne Nat I D) → (@Ne Nat C D) → i < n → P i v → J i tk ys c → s₁.toks ≤ tk → LCg.NsObj oC m₂ → m₂ x = some v → Apart3 I C D (Led c) → Fr h₀ L h m → News h₀ L h ((I, oI) :: (C, oC) :: (D, LCg.lst ys) :: Led c) →
      wpAny (model prog w) A (eval elt (compEnvC scope cl C env)) (EltEnd h₀ L m I C D oI oC Led J (i + 1) ys { s₁ with heap := h, toks := tk }) E' { s₁ with heap := h, toks := tk }) ∧
    ∀ D c ys h tk, J n tk ys c → s₁.toks ≤ tk → (∀ p ∈ Led c, p.1 ≠ D) → Fin s₁ D ys (Led c) h tk

theorem compIn_list {σ : Type} {elt : Expr} {x : Str} {scope : Scope} {cl : List (Str × Addr)} {Fin : Shared → Addr → List Value → List (Addr × Obj) → Heap → Nat → Prop} {ax : Addr} {its : List Value} {nn : Nat}
    (Led : σ → List (Addr × Obj)) (J : Nat → Nat → List Value → σ → Prop) (c₀ : σ) (hh : A.handled = none) (F : Fr h₀ L s.heap m) (N : News h₀ L s.heap (Led c₀)) (hjm : ∀ i tk tk' ys c, tk ≤ tk' → J i tk ys c → J i tk' ys c) (hj : J 0 s.toks [] c₀)
    (hsz : its.length ≤ sizeLine) (hl : ∀ i tk ys c, J i tk ys c → (ax, listOf its.toArray nn) ∈ Led c)
    (turn : ∀ I C D c i v ys h tk oI oC m₂ (E' : Value → Shared → Prop), (@Ne Nat I C) → (@Ne Nat I D) → (@Ne Nat C D) → its[i]? = some v → J i tk ys c → s.toks ≤ tk → LCg.NsObj oC m₂ → m₂ x = some v → Apart3 I C D (Led c) → Fr h₀ L h m → News h₀ L h ((I, oI) :: (C, oC) :: (D, LCg.lst ys) :: Led c) →
      wpAny (model prog w) A (eval elt (compEnvC scope cl C env)) (EltEnd h₀ L m I C D oI oC Led J (i + 1) ys { s with heap := h, toks := tk }) E' { s with heap := h, toks := tk })
    (fin : ∀ D c ys h tk, J its.length tk ys c → s.toks ≤ tk → (∀ p ∈ Led c, p.1 ≠ D) → Fin s D ys (Led c) h tk) :
    CompIn prog w A h₀ L m env elt x scope cl Fin (.ref ax) s :=
  ⟨σ, Led, J, c₀, its.length, _, hh, F, N, hjm, hj, hsz, .inl ⟨ax, its, nn, rfl, rfl, hl, rfl⟩, fun I C D c i v ys h tk oI oC m₂ E' a b d _ => turn I C D c i v ys h tk oI oC m₂ E' a b d, fin⟩
theorem compIn_range {σ : Type} {elt : Expr} {x : Str} {scope : Scope} {cl : List (Str × Addr)} {Fin : Shared → Addr → List Value → List (Addr × Obj) → Heap → Nat → Prop} {r : Addr} {a₀ b₀ : Int} {t₀ u₀ v₀ : Tok} {n : Nat}
    (Led : σ → List (Addr × Obj)) (J : Nat → Nat → List Value → σ → Prop) (c₀ : σ) (hh : A.handled = none) (F : Fr h₀ L s.heap m) (N : News h₀ L s.heap (Led c₀)) (hjm : ∀ i tk tk' ys c, tk ≤ tk' → J i tk ys c → J i tk' ys c) (hj : J 0 s.toks [] c₀)
    (hsz : n ≤ sizeLine) (hr : IsRange s.heap r a₀ b₀ 1 t₀ u₀ v₀) (hsmall : Builtin.Range.small a₀ b₀ 1 = true) (hn : Builtin.Range.rangeSize a₀ b₀ 1 = (n : Int))
    (turn : ∀ I C D c i t ys h tk oI oC m₂ (E' : Value → Shared → Prop), (@Ne Nat I C) → (@Ne Nat I D) → (@Ne Nat C D) → i < n → J i tk ys c → s.toks ≤ tk → LCg.NsObj oC m₂ → m₂ x = some (.int (a₀ + (i : Int)) t) → Apart3 I C D (Led c) → Fr h₀ L h m → News h₀ L h ((I, oI) :: (C, oC) :: (D, LCg.lst ys) :: Led c) →
      wpAny (model prog w) A (eval elt (compEnvC scope cl C env)) (EltEnd h₀ L m I C D oI oC Led J (i + 1) ys { s with heap := h, toks := tk }) E' { s with heap := h, toks := tk })
    (fin : ∀ D c ys h tk, J n tk ys c → s.toks ≤ tk → (∀ p ∈ Led c, p.1 ≠ D) → Fin s D ys (Led c) h tk) :
    CompIn prog w A h₀ L m env elt x scope cl Fin (.ref r) s :=
  ⟨σ, Led, J, c₀, n, _, hh, F, N, hjm, hj, hsz, .inr (.inl ⟨r, a₀, b₀, t₀, u₀, v₀, rfl, hr, hsmall, hn, rfl⟩), fun I C D c i v ys h tk oI oC m₂ E' a b d hi ⟨t, e⟩ => by subst e; exact turn I C D c i t ys h tk oI oC m₂ E' a b d hi, fin⟩

theorem compIn_tuple {σ : Type} {elt : Expr} {x : Str} {scope : Scope} {cl : List (Str × Addr)} {Fin : Shared → Addr → List Value → List (Addr × Obj) → Heap → Nat → Prop} {ax : Addr} {its : List Value}
    (Led : σ → List (Addr × Obj)) (J : Nat → Nat → List Value → σ → Prop) (c₀ : σ) (hh : A.handled = none) (F : Fr h₀ L s.heap m) (N : News h₀ L s.heap (Led c₀)) (hjm : ∀ i tk tk' ys c, tk ≤ tk' → J i tk ys c → J i tk' ys c) (hj : J 0 s.toks [] c₀)
    (hsz : its.length ≤ sizeLine) (hl : ∀ i tk ys c, J i tk ys c → (ax, tupOf its) ∈ Led c)
    (turn : ∀ I C D c i v ys h tk oI oC m₂ (E' : Value → Shared → Prop), (@Ne Nat I C) → (@Ne Nat I D) → (@Ne Nat C D) → its[i]? = some v → J i tk ys c → s.toks ≤ tk → LCg.NsObj oC m₂ → m₂ x = some v → Apart3 I C D (Led c) → Fr h₀ L h m → News h₀ L h ((I, oI) :: (C, oC) :: (D, LCg.lst ys) :: Led c) →
      wpAny (model prog w) A (eval elt (compEnvC scope cl C env)) (EltEnd h₀ L m I C D oI oC Led J (i + 1) ys { s with heap := h, toks := tk }) E' { s with heap := h, toks := tk })
    (fin : ∀ D c ys h tk, J its.length tk ys c → s.toks ≤ tk → (∀ p ∈ Led c, p.1 ≠ D) → Fin s D ys (Led c) h tk) :
    CompIn prog w A h₀ L m env elt x scope cl Fin (.ref ax) s :=
  ⟨σ, Led, J, c₀, its.length, _, hh, F, N, hjm, hj, hsz, .inr (.inr ⟨ax, its, rfl, rfl, hl, rfl⟩), fun I C D c i v ys h tk oI oC m₂ E' a b d _ => turn I C D c i v ys h tk oI oC m₂ E' a b d, fin⟩

noncomputable def FinV (h₀ : Heap) (L : Addr) (m : Str → Option Value) (Q : Value → Shared → Prop) (s₁ : Shared) (D : Addr) (ys : List Value) (led : List (Addr × Obj)) (h : Heap) (tk : Nat) : Prop :=
  Fr h₀ L h m → News h₀ L h ((D, LCg.lst ys) :: led) → Q (.ref D) { s₁ with heap := h, toks := tk }
noncomputable def FinS (h₀ : Heap) (L : Addr) (m : Str → Option Value) (y : Str) (Q : Flow → Shared → Prop) (s₁ : Shared) (D : Addr) (ys : List Value) (led : List (Addr × Obj)) (h : Heap) (tk : Nat) : Prop :=
  Fr h₀ L h (fun z => if z = y then some (.ref D) else m z) → News h₀ L h ((D, LCg.lst ys) :: led) → Q .next { s₁ with heap := h, toks := tk }

theorem comp_run {elt iter : Expr} {x : Str} {px : Pos} {scope : Scope} {cl : List (Str × Addr)} {pos : Pos} {Fin : Shared → Addr → List Value → List (Addr × Obj) → Heap → Nat → Prop} {RR : Shared → Value → Addr → Result → Shared → Prop} {xv : Value}
    (hcell : ∀ y ∈ scope.names, y.2 ≠ .cell) (hkind : scope.kind = .function) (hx : scope.names.lookup x = some .local) (h : CompIn prog w A h₀ L m env elt x scope cl Fin xv s)
    (hRR : ∀ I C D ys led h tk mC', (∀ h' tk', tk ≤ tk' → Fin s D ys led h' tk') → Fr h₀ L h m → News h₀ L h ((D, LCg.lst ys) :: led) → h.Ns C mC' → h₀.get? C = none → h₀.get? D = none → C ≠ L → D ≠ L → C ≠ D → Apart3 I C D led → RR s (.ref D) C (.ok .next) { s with heap := h, toks := tk }) :
    wpAny (model prog w) A (pyIter xv) (fun it s₂ => wpAny (model prog w) A (newList []) (fun acc s₃ => wpAny (model prog w) A (newFunctionEnv scope env.globals cl [] env.qual none .none (some env)) (fun cenv s₄ =>
      codeAny (model prog w) A (.compStart (.ListComp elt [⟨.Name x px, iter, [], 0⟩] scope pos) 0 it acc { cenv with scope := relabel scope env }) (RR s acc cenv.locals) s₄) E s₃) E s₂) E s := by
  refine Classical.byContradiction fun ng9 => ?_
  obtain ⟨σ, Led, J, c₀, n, P, hh, F, N, hjm, hj, hsz, hP, turn, fin⟩ := h
  rcases hP with ⟨ax, its, nn, rfl, rfl, hl, rfl⟩ | ⟨r, a, b, t, u, v, rfl, hr, hsm, hn, rfl⟩ | ⟨ax, its, rfl, rfl, hl, rfl⟩
  · refine ng9 ?_; clear ng9
    have hol : s.heap.get? ax = some (listOf its.toArray nn) := (N _ (hl 0 _ _ _ hj)).1
    have hls : s.heap.IsList ax its.toArray := ⟨_, hol, rfl, nn, rfl⟩
    refine wpAny_pyIter_list hls ?_
    have W := Walks.list (prog := prog) (w := w) hh s.heap.objs.size ax (Nat.ne_of_lt (Heap.lt_size hol)) its.toArray
    have hlen : its.toArray.size = its.length := by simp
    rw [hlen] at W
    have up : ∀ b o, s.heap.get? b = some o → (s.heap.push { cls := .type "list_iterator", data := .fields #[.ref ax, .int 0 0] }).get? b = some o := fun b o e => Heap.get?_push_of_some _ e
    refine comp_block Led J c₀ W hsz (fun i h st => by obtain ⟨o, e, _⟩ := st.1; exact ⟨o, e⟩) hjm (fun i h h' o c j tk ys st e e' N' _ hJ => ?_) hcell hkind (fun _ _ => binds_name hkind hx) ⟨⟨_, Heap.get?_push_size _ rfl, rfl, rfl⟩, hls.at fun o e => Heap.get?_push_of_some _ e⟩ (fun b hb => ?_) (F.keeps up) (N.grown up) (Nat.ne_of_lt F.ns.lt) (next_is_new F) (fun p hp => Nat.ne_of_lt (Heap.lt_size (N p hp).1)) hj ?_ ?_
    · obtain ⟨o', q, r⟩ := st.1
      rw [e] at q; cases q
      exact ⟨⟨o, e', r⟩, ⟨_, (N' _ (hl _ _ _ _ hJ)).1, rfl, nn, rfl⟩⟩
    · show b < (s.heap.push _).objs.size
      rw [Heap.size_push]
      rcases List.mem_cons.mp hb with rfl | hb
      · exact Nat.lt_succ_self _
      · rw [List.mem_singleton.mp hb]; exact Nat.lt_succ_of_lt (Heap.lt_size hol)
    · intro C D c i v ys h tk oI oC m₂ E' a b d hi hP
      exact turn _ C D c i v ys h tk oI oC m₂ E' a b d hi (by simpa using hP)
    · intro C D c ys h tk mC' hJ hle F' N' hn hC₀ hD₀ hCL hDL hCD hap
      exact hRR _ C D ys (Led c) h tk mC' (fun h' tk' ht => fin D c ys h' tk' (hjm _ _ _ _ _ ht hJ) (Nat.le_trans hle ht) fun p hp => (hap p hp).2.2) F' N' hn hC₀ hD₀ hCL hDL hCD hap
  · refine ng9 ?_; clear ng9
    refine wpAny_pyIter_range hr hsm ?_
    have up : ∀ b o, s.heap.get? b = some o → (s.heap.push { cls := .type "range_iterator", data := .fields #[.int a 0, .int (Builtin.Range.rangeSize a b 1) 0, .int 1 0] }).get? b = some o := fun b o e => Heap.get?_push_of_some _ e
    refine comp_block Led J c₀ (LCg.range_walks hh a n) hsz (fun i h st => ⟨_, st⟩) hjm (fun i h h' o c j tk ys st e e' N' _ hJ => ?_) hcell hkind (fun _ _ => binds_name hkind hx) (by show IsRangeIter _ _ _ _ _; rw [hn]; simpa using Heap.get?_push_size _ rfl) (fun b hb => ?_) (F.keeps fun _ _ e => Heap.get?_push_of_some _ e) (N.grown fun _ _ e => Heap.get?_push_of_some _ e) (Nat.ne_of_lt F.ns.lt) (next_is_new F) (fun p hp => Nat.ne_of_lt (Heap.lt_size (N p hp).1)) hj ?_ ?_
    · have st' : h.get? _ = some _ := st
      show h'.get? _ = some _
      rw [e', ← e]; exact st'
    · rw [List.mem_singleton.mp hb]
      show s.heap.objs.size < (s.heap.push _).objs.size
      rw [Heap.size_push]; exact Nat.lt_succ_self _
    · intro C D c i v ys h tk oI oC m₂ E' a b d hi hP
      exact turn _ C D c i v ys h tk oI oC m₂ E' a b d hi hP
    · intro C D c ys h tk mC' hJ hle F' N' hn' hC₀ hD₀ hCL hDL hCD hap
      exact hRR _ C D ys (Led c) h tk mC' (fun h' tk' ht => fin D c ys h' tk' (hjm _ _ _ _ _ ht hJ) (Nat.le_trans hle ht) fun p hp => (hap p hp).2.2) F' N' hn' hC₀ hD₀ hCL hDL hCD hap
  · refine ng9 ?_; clear ng9
    have hol : s.heap.get? ax = some (tupOf its) := (N _ (hl 0 _ _ _ hj)).1
    have hls : s.heap.IsTuple ax its.toArray := ⟨_, hol, rfl, _, rfl⟩
    refine wpAny_pyIter_tuple hls ?_
    have W := Walks.tuple (prog := prog) (w := w) hh s.heap.objs.size ax (Nat.ne_of_lt (Heap.lt_size hol)) its.toArray
    have hlen : its.toArray.size = its.length := by simp
    rw [hlen] at W
    have up : ∀ b o, s.heap.get? b = some o → (s.heap.push { cls := .type "tuple_iterator", data := .fields #[.ref ax, .int 0 0] }).get? b = some o := fun b o e => Heap.get?_push_of_some _ e
    refine comp_block Led J c₀ W hsz (fun i h st => by obtain ⟨o, e, _⟩ := st.1; exact ⟨o, e⟩) hjm (fun i h h' o c j tk ys st e e' N' _ hJ => ?_) hcell hkind (fun _ _ => binds_name hkind hx) ⟨⟨_, Heap.get?_push_size _ rfl, rfl, rfl⟩, hls.at fun o e => Heap.get?_push_of_some _ e⟩ (fun b hb => ?_) (F.keeps up) (N.grown up) (Nat.ne_of_lt F.ns.lt) (next_is_new F) (fun p hp => Nat.ne_of_lt (Heap.lt_size (N p hp).1)) hj ?_ ?_
    · obtain ⟨o', q, r⟩ := st.1
      rw [e] at q; cases q
      exact ⟨⟨o, e', r⟩, ⟨_, (N' _ (hl _ _ _ _ hJ)).1, rfl, _, rfl⟩⟩
    · show b < (s.heap.push _).objs.size
      rw [Heap.size_push]
      rcases List.mem_cons.mp hb with rfl | hb
      · exact Nat.lt_succ_self _
      · rw [List.mem_singleton.mp hb]; exact Nat.lt_succ_of_lt (Heap.lt_size hol)
    · intro C D c i v ys h tk oI oC m₂ E' a b d hi hP
      exact turn _ C D c i v ys h tk oI oC m₂ E' a b d hi (by simpa using hP)
    · intro C D c ys h tk mC' hJ hle F' N' hn hC₀ hD₀ hCL hDL hCD hap
      exact hRR _ C D ys (Led c) h tk mC' (fun h' tk' ht => fin D c ys h' tk' (hjm _ _ _ _ _ ht hJ) (Nat.le_trans hle ht) fun p hp => (hap p hp).2.2) F' N' hn hC₀ hD₀ hCL hDL hCD hap

theorem listComp_V {elt iter : Expr} {x : Str} {px : Pos} {scope : Scope} {cl : List (Str × Addr)} {pos : Pos} {Q : Value → Shared → Prop} (_F : Fr h₀ L s.heap m)
    (hclos : closureFor scope env = pure cl) (hcell : ∀ y ∈ scope.names, y.2 ≠ .cell) (hkind : scope.kind = .function)
    (hnames : ∀ y ∈ scope.names, y.2 = .local → scope.names.lookup y.1 = some .local) (hx : scope.names.lookup x = some .local)
    (h : wpAny (model prog w) A (eval iter env) (CompIn prog w A h₀ L m env elt x scope cl (FinV h₀ L m Q)) E s)
    (hs : ∀ x, foldedSetIterable iter env x = pure x := by intro _; rfl) :
    wpAny (model prog w) A (eval (.ListComp elt [⟨.Name x px, iter, [], 0⟩] scope pos) env) Q E s := by
  rw [eval_ListComp]
  refine wpAny_comprehension_free (use := none) rfl hs hclos hkind hnames (wpAny_mono h (fun xv s₁ h₁ => ?_) fun _ _ e => e)
  refine comp_run (RR := fun _ acc C => compPost (model prog w) A E none Q acc C) hcell hkind hx h₁ ?_
  intro I C D ys led h tk mC' fin F' N' hn hC₀ hD₀ hCL hDL hCD hap
  refine ⟨mC', hn, fun h'' hs'' => fin h'' tk (Nat.le_refl _) (F'.change hs'' hCL hC₀) fun p hp => ⟨hs''.extBut _ _ ?_ (N' p hp).1, (N' p hp).2⟩⟩
  rcases List.mem_cons.mp hp with rfl | hp
  · exact Ne.symm hCD
  · exact (hap p hp).2.1

theorem listComp_S {elt iter : Expr} {x y : Str} {px py : Pos} {scope : Scope} {cl : List (Str × Addr)} {pos spos : Pos} {Q : Flow → Shared → Prop} (_F : Fr h₀ L s.heap m) (hLe : env.locals = L)
    (hsw : swapsWith (.ListComp elt [⟨.Name x px, iter, [], 0⟩] scope pos) (some (.Name y py)) spos.line env = pure true)
    (hclos : closureFor scope env = pure cl) (hcell : ∀ z ∈ scope.names, z.2 ≠ .cell) (hkind : scope.kind = .function)
    (hnames : ∀ z ∈ scope.names, z.2 = .local → scope.names.lookup z.1 = some .local) (hx : scope.names.lookup x = some .local)
    (hy : env.kindOf y = some .local) (hp : (env.scope.kind == .class || (env.scope.kind == .module && env.locals != env.globals)) = false)
    (h : wpAny (model prog w) A (eval iter env) (CompIn prog w A h₀ L m env elt x scope cl (FinS h₀ L m y Q)) E s)
    (hs : ∀ x, foldedSetIterable iter env x = pure x := by intro _; rfl) :
    wpAny (model prog w) A (exec (.Assign [.Name y py] (.ListComp elt [⟨.Name x px, iter, [], 0⟩] scope pos) spos) env) Q E s := by
  subst hLe
  rw [exec_Assign_Name_used _ _ _ _ hsw]
  refine wpAny_bind (wpAny_standAt (wpAny_bind ?_))
  show wpAny _ A (do let _ ← comprehension (.ListComp elt [⟨.Name x px, iter, [], 0⟩] scope pos) scope env _ (newList []) false (eval iter env) (some (assign (.Name y py) env))) _ _ s
  refine wpAny_bind (wpAny_mono (wpAny_comprehension_free (use := some (assign (.Name y py) env)) (Q := fun _ s' => Q .next s') rfl hs hclos hkind hnames
    (wpAny_mono h (fun xv s₁ h₁ => ?_) fun _ _ e => e)) (fun _ s' hq => wpAny_pure (wpAny_pure hq)) fun _ _ e => e)
  refine comp_run (RR := fun _ acc C => compPost (model prog w) A E (some (assign (.Name y py) env)) (fun _ s' => Q .next s') acc C) hcell hkind hx h₁ ?_
  intro I C D ys led h tk mC' fin F' N' hn hC₀ hD₀ hCL hDL hCD hap
  show wpAny _ A (assign (.Name y py) env (.ref D)) _ _ _
  refine wpAny_assign_Name (wpAny_storeName_local hy F'.ns (fun h₂ hn₂ hs₂ => ?_) hp)
  have hL₀ : h₀.get? env.locals = none := Heap.get?_none_of_le F'.above
  have F₂ : Fr h₀ env.locals h₂ (fun z => if z = y then some (.ref D) else m z) := ⟨hn₂, fun b o e => hs₂.extBut b o (fun q => by rw [q, hL₀] at e; cases e) (F'.keep b o e), F'.above⟩
  refine ⟨mC', hn.sameBut hs₂ hCL, fun h'' hs'' => fin h'' _ (Nat.le_succ _) (F₂.change hs'' hCL hC₀) fun p hp => ?_⟩
  have z : h₂.get? p.1 = some p.2 := hs₂.extBut _ _ (N' p hp).2.1 (N' p hp).1
  refine ⟨hs''.extBut _ _ ?_ z, (N' p hp).2⟩
  rcases List.mem_cons.mp hp with rfl | hp
  · exact Ne.symm hCD
  · exact (hap p hp).2.1
end

end Pcp

section Ptok
/-- the token is a late one's elder, and no private one -/
noncomputable def TokOk (T : Nat) : Value → Prop
  | .int _ t => 1 ≤ t ∧ t < T
  | _ => True
noncomputable def ToksB (T : Nat) (vs : List Value) : Prop := ∀ v ∈ vs, TokOk T v
theorem tok_ok {k : Int} {t T : Nat} (h1 : 1 ≤ t) (h2 : t < T) : TokOk T (.int k t) := ⟨h1, h2⟩
theorem TokOk.mono {T U : Nat} (h : T ≤ U) : ∀ {v : Value}, TokOk T v → TokOk U v
  | .int _ _, k => ⟨k.1, Nat.lt_of_lt_of_le k.2 h⟩
  | .none, _ | .bool _, _ | .float _ _, _ | .str _ _, _ | .bytes _ _, _ | .ellipsis, _ | .notImplemented, _ | .type _, _ | .builtin _, _ | .ref _, _ => trivial
theorem ToksB.mono {T U : Nat} {vs : List Value} (h : T ≤ U) (k : ToksB T vs) : ToksB U vs := fun v hv => (k v hv).mono h
theorem ToksB.nil {T : Nat} : ToksB T [] := fun _ h => nomatch h
theorem ToksB.cons {T : Nat} {v : Value} {vs : List Value} (h : TokOk T v) (k : ToksB T vs) : ToksB T (v :: vs) := fun u hu => by
  rcases List.mem_cons.mp hu with rfl | hu
  · exact h
  · exact k u hu
theorem ToksB.append {T : Nat} {vs us : List Value} (h : ToksB T vs) (k : ToksB T us) : ToksB T (vs ++ us) := fun u hu => by
  rcases List.mem_append.mp hu with hu | hu
  · exact h u hu
  · exact k u hu
theorem ToksB.ins {T : Nat} {v : Value} {vs : List Value} (h : ToksB T vs) (k : TokOk T v) (i : Nat) : ToksB T (insV vs i v) := fun u hu => by
  rcases insV_mem hu with rfl | hu
  · exact k
  · exact h u hu
/-- lists of ints whose tokens are bounded -/
inductive LLT (led : List (Addr × Obj)) (T : Nat) : List Value → List (List Int) → Prop
  | nil : LLT led T [] []
  | cons {a : Addr} {ws : List Value} {n : Nat} {r : List Int} {vs : List Value} {rs : List (List Int)} : (a, listOf ws.toArray n) ∈ led → IntsAre ws r → ToksB T ws → LLT led T vs rs → LLT led T (.ref a :: vs) (r :: rs)
section
variable {led led' : List (Addr × Obj)} {T U : Nat} {vs us : List Value} {rs qs : List (List Int)}
theorem LLT.ll (h : LLT led T vs rs) : LLAre led vs rs := by
  induction h with
  | nil => exact .nil
  | cons hm hi _ _ ih => exact .cons hm hi ih
theorem LLT.mono (s : ∀ p ∈ led, p ∈ led') (hT : T ≤ U) (h : LLT led T vs rs) : LLT led' U vs rs := by
  induction h with
  | nil => exact .nil
  | cons hm hi ht _ ih => exact .cons (s _ hm) hi (ht.mono hT) ih
theorem LLT.append (h : LLT led T vs rs) (k : LLT led T us qs) : LLT led T (vs ++ us) (rs ++ qs) := by
  induction h with
  | nil => exact k
  | cons hm hi ht _ ih => exact .cons hm hi ht ih
theorem LLT.one {a : Addr} {ws : List Value} {n : Nat} {r : List Int} (hm : (a, listOf ws.toArray n) ∈ led) (hi : IntsAre ws r) (ht : ToksB T ws) : LLT led T [.ref a] [r] := .cons hm hi ht .nil
theorem LLT.at (h : LLT led T vs rs) {k : Nat} {v : Value} (hv : vs[k]? = some v) : ∃ a ws n r, v = .ref a ∧ (a, listOf ws.toArray n) ∈ led ∧ rs[k]? = some r ∧ IntsAre ws r ∧ ToksB T ws := by
  induction h generalizing k with
  | nil => simp at hv
  | cons hm hi ht _ ih =>
    cases k with
    | zero => simp at hv; exact ⟨_, _, _, _, hv.symm, hm, rfl, hi, ht⟩
    | succ k => simp at hv; obtain ⟨a, ws, n, r, h1, h2, h3, h4⟩ := ih hv; exact ⟨a, ws, n, r, h1, h2, by simpa using h3, h4⟩
theorem LLT.take (h : LLT led T vs rs) : ∀ k, LLT led T (vs.take k) (rs.take k) := by
  induction h with
  | nil => intro k; simpa using .nil
  | cons hm hi ht _ ih =>
    intro k
    cases k with
    | zero => exact .nil
    | succ k => exact .cons hm hi ht (ih k)
theorem LLT.drop (h : LLT led T vs rs) : ∀ k, LLT led T (vs.drop k) (rs.drop k) := by
  induction h with
  | nil => intro k; simpa using .nil
  | cons hm hi ht h ih =>
    intro k
    cases k with
    | zero => exact .cons hm hi ht h
    | succ k => exact ih k
theorem LLT.ins (h : LLT led T vs rs) {a : Addr} {ws : List Value} {n : Nat} {r : List Int} (hm : (a, listOf ws.toArray n) ∈ led) (hi : IntsAre ws r) (ht : ToksB T ws) (k : Nat) : LLT led T (insV vs k (.ref a)) (insV rs k r) :=
  (h.take k).append (.cons hm hi ht (h.drop k))
end
theorem LLAre.at {led : List (Addr × Obj)} {vs : List Value} {rs : List (List Int)} (h : LLAre led vs rs) {k : Nat} {v : Value} (hv : vs[k]? = some v) : ∃ a ws n r, v = .ref a ∧ (a, listOf ws.toArray n) ∈ led ∧ rs[k]? = some r ∧ IntsAre ws r := by
  induction h generalizing k with
  | nil => simp at hv
  | cons hm hi _ ih =>
    cases k with
    | zero => simp at hv; exact ⟨_, _, _, _, hv.symm, hm, rfl, hi⟩
    | succ k => simp at hv; obtain ⟨a, ws, n, r, h1, h2, h3, h4⟩ := ih hv; exact ⟨a, ws, n, r, h1, h2, by simpa using h3, h4⟩
theorem ints_at {vs : List Value} {ns : List Int} (h : IntsAre vs ns) {k : Nat} {v : Value} (hv : vs[k]? = some v) : ∃ i t, v = .int i t ∧ ns[k]? = some i := by
  obtain ⟨i, t, e, e2⟩ := IntsAre.at h k v hv
  exact ⟨i, t, e, e2⟩
theorem allLt_mem {d : Addr} {l : List (Addr × Obj)} (h : AllLt d l) : ∀ p ∈ l, p.1 < d := by
  induction l with
  | nil => exact fun p hp => nomatch hp
  | cons q l ih =>
    intro p hp
    rcases List.mem_cons.mp hp with e | hp
    · rw [e]; exact h.1
    · exact ih h.2 p hp
/-- a goal that the walk leaves alone -/
noncomputable def Hold (p : Prop) : Prop := p
theorem Hold.mk {p : Prop} (h : Hold p) : p := h
section
variable {M : Model} {A : Around} {E : Value → Shared → Prop} {s : Shared} {Q : Value → Shared → Prop}
theorem is_int {p q : Int} {t u : Tok} (ht : 1 ≤ t) (htu : t < u) (hs : p = q → smallInt p = true) (h : Q (.bool (decide (p = q))) s) : wpAny M A (compareOp .Is (.int p t) (.int q u)) Q E s := by
  show wpAny M A (do return .bool (← isSame (.int p t) (.int q u))) Q E s
  have h0 : (t == 0 || u == 0) = false := by
    have h1 : ¬ t = 0 := fun e => by rw [e] at ht; exact absurd ht (by decide)
    have h2 : ¬ u = 0 := fun e => by rw [e] at htu; exact absurd htu (Nat.not_lt_zero _)
    simp [h1, h2]
  by_cases e : p = q
  · subst e
    refine wpAny_bind ?_
    show wpAny M A (if (p == p && smallInt p) = true then isSame.cachedInt t u else isSame.created (p == p) t u) _ E s
    rw [if_pos (by rw [beq_self_eq_true, hs rfl]; rfl)]
    unfold isSame.cachedInt
    rw [if_neg (by rw [h0]; exact Bool.false_ne_true)]
    refine wpAny_bind (wpAny_rule (wpAny_pure (wpAny_pure ?_)))
    rw [decide_eq_true rfl] at h
    exact h
  · refine wpAny_bind ?_
    have en : (p == q) = false := by simpa using e
    show wpAny M A (if (p == q && smallInt p) = true then isSame.cachedInt t u else isSame.created (p == q) t u) _ E s
    rw [en, if_neg (by simp)]
    have ne : (t == u) = false := by simpa using Nat.ne_of_lt htu
    have e3 : isSame.created false t u = pure false := by
      unfold isSame.created
      rw [if_neg (by rw [h0]; exact Bool.false_ne_true), if_neg (by rw [ne]; exact Bool.false_ne_true)]
      rfl
    rw [e3]
    rw [decide_eq_false e] at h
    exact wpAny_pure (wpAny_pure h)
theorem is_lists {h₀ : Heap} {L a b : Addr} {news : List (Addr × Obj)} {vs us : List Value} {n k : Nat} (N : News h₀ L s.heap news) (ha : (a, listOf vs.toArray n) ∈ news) (hb : (b, listOf us.toArray k) ∈ news) (h : Q (.bool (decide (a = b))) s) : wpAny M A (compareOp .Is (.ref a) (.ref b)) Q E s := by
  by_cases e : a = b
  · subst e
    rw [decide_eq_true rfl] at h
    exact wpAny_is_ref_self h
  · rw [decide_eq_false e] at h
    exact wpAny_is_ref_other e (N _ ha).1 (N _ hb).1 (by simp) h
theorem ints_same {vs : List Value} {r q : List Int} (h : IntsAre vs r) (k : IntsAre vs q) : r = q := by
  induction h generalizing q with
  | nil => cases k; rfl
  | cons n t _ ih => cases k with | cons _ _ k => rw [ih k]
theorem list_same {h₀ h : Heap} {L a : Addr} {news : List (Addr × Obj)} {vs us : List Value} {n k : Nat} (N : News h₀ L h news) (ha : (a, listOf vs.toArray n) ∈ news) (hb : (a, listOf us.toArray k) ∈ news) : vs = us := by
  have h1 := (N _ ha).1
  have h2 := (N _ hb).1
  simp only at h1 h2
  rw [h1] at h2
  have h3 := Option.some.inj h2
  simp only [W.listOf, Obj.mk.injEq, Data.seq.injEq] at h3
  have h4 := congrArg Array.toList h3.2.2.1.1
  simpa using h4
theorem int_swap {a b : Int} {t : Tok} (e : a = b) (h : Q (.int b t) s) : Q (.int a t) s := e ▸ h
theorem news_sub {h₀ h : Heap} {L : Addr} {n1 n2 : List (Addr × Obj)} (N : News h₀ L h n1) (k : ∀ p ∈ n2, p ∈ n1) : News h₀ L h n2 := fun p hp => N p (k p hp)
theorem gen_toks {α : Type} {M : Model} {A : Around} {t : Sem α} {Q : α → Shared → Prop} {E : Value → Shared → Prop} {h : Heap} {g : Array GenState} {d : Drawn} {n : Nat} {os : OsState} (k : ∀ tk, n ≤ tk → wpAny M A t Q E ⟨h, g, d, tk, os⟩) : wpAny M A t Q E ⟨h, g, d, n, os⟩ := k n (Nat.le_refl _)
end

end Ptok

section Peq
open PyProof.V in
theorem carried_lists {led : List (Addr × Obj)} {h₀ h : Heap} {L : Addr} (N : News h₀ L h led) {vs : List Value} {rs : List (List Int)} (k : LLAre led vs rs) : ∃ as, ReadsAll h vs (rs.map fun r => PyData.list (r.map PyData.int)) as := by
  induction k with
  | nil => exact ⟨_, .nil⟩
  | cons hm hi _ ih =>
    obtain ⟨as, ih⟩ := ih
    exact ⟨_, ReadsAll.cons (reads_newData ⟨_, (N _ hm).1, rfl, _, rfl⟩ (ke_carried hi)) ih⟩
theorem eqv_lists : ∀ rs : List (List Int), PyData.eqvAll (rs.map fun r => PyData.list (r.map PyData.int)) (rs.map fun r => PyData.list (r.map PyData.int)) = true
  | [] => by simp [PyData.eqvAll]
  | r :: rs => by simp [PyData.eqvAll, PyData.eqv, ked_eqvAll, eqv_lists rs]
theorem lay_lists : ∀ rs : List (List Int), PyData.canLayAll0 (rs.map fun r => PyData.list (r.map PyData.int)) = true ∧ PyData.depthAll (rs.map fun r => PyData.list (r.map PyData.int)) ≤ 1
  | [] => by simp [PyData.canLayAll0, PyData.depthAll]
  | r :: rs => by
    have := lay_lists rs
    simp only [List.map_cons, PyData.canLayAll0, PyData.depthAll, PyData.canLay0, PyData.depth, ke_canLayAll0, ke_depthAll, Bool.and_eq_true]
    exact ⟨⟨trivial, this.1⟩, by omega⟩
section
variable {prog : Program} {w : World} {A : Around} {E : Value → Shared → Prop} {s : Shared} {h₀ : Heap} {L : Addr} {news : List (Addr × Obj)}
theorem ll_eq {led led' : List (Addr × Obj)} {a b : Addr} {vs us : List Value} {n k : Nat} {rs : List (List Int)} {Q : Value → Shared → Prop} (N : News h₀ L s.heap news) (ma : (a, listOf vs.toArray n) ∈ news) (mb : (b, listOf us.toArray k) ∈ news)
    (ha : LLAre led vs rs) (sa : ∀ p ∈ led, p ∈ news) (hb : LLAre led' us rs) (sb : ∀ p ∈ led', p ∈ news) (hu : A.units + 64 < cLine) (h : Q (.bool true) s) : wpAny (model prog w) A (compareOp .Eq (.ref a) (.ref b)) Q E s := by
  obtain ⟨as, ra⟩ := carried_lists N (ha.mono sa)
  obtain ⟨bs, rb⟩ := carried_lists N (hb.mono sb)
  have hs : SeqAt.shaped (.list (rs.map fun r => PyData.list (r.map PyData.int))) = true := by
    have := lay_lists rs
    unfold SeqAt.shaped
    rw [Bool.and_eq_true]
    exact ⟨by simp only [PyData.canLay0]; exact this.1, decide_eq_true (by simp only [PyData.depth]; omega)⟩
  refine eq_dataH (reads_list_at (N.get ma) rfl rfl (by simpa using ra)) (reads_list_at (N.get mb) rfl rfl (by simpa using rb)) hs hs hu ?_
  have e : PyData.eqv (.list (rs.map fun r => PyData.list (r.map PyData.int))) (.list (rs.map fun r => PyData.list (r.map PyData.int))) = true := by simp only [PyData.eqv]; exact eqv_lists rs
  rw [e]; exact h
theorem pair_ne {t u a b c d : Addr} {va vb vc vd : List Value} {na nb nc nd : Nat} {xs ys xs' ys' : List Int} {Q : Value → Shared → Prop} (N : News h₀ L s.heap news) (mt : (t, tupOf [.ref a, .ref b]) ∈ news) (mu : (u, tupOf [.ref c, .ref d]) ∈ news)
    (ma : (a, listOf va.toArray na) ∈ news) (mb : (b, listOf vb.toArray nb) ∈ news) (mc : (c, listOf vc.toArray nc) ∈ news) (md : (d, listOf vd.toArray nd) ∈ news)
    (ia : IntsAre va xs) (ib : IntsAre vb ys) (ic : IntsAre vc xs') (id : IntsAre vd ys') (e1 : xs = xs') (e2 : ys = ys') (hu : A.units + 64 < cLine) (h : Q (.bool false) s) : wpAny (model prog w) A (compareOp .NotEq (.ref t) (.ref u)) Q E s := by
  subst e1 e2
  have r1 := fun {a : Addr} {v : List Value} {n : Nat} {x : List Int} (m : (a, listOf v.toArray n) ∈ news) (i : IntsAre v x) => reads_newData (h := s.heap) (⟨_, (N _ m).1, rfl, _, rfl⟩ : s.heap.IsList a v.toArray) (ke_carried i)
  have hs : SeqAt.shaped (.tuple [PyData.list (xs.map PyData.int), PyData.list (ys.map PyData.int)]) = true := by
    simp [SeqAt.shaped, PyData.canLay0, PyData.canLayAll0, PyData.depth, PyData.depthAll, ke_canLayAll0, ke_depthAll]
  refine ne_dataH (reads_tuple_at (N.get mt) rfl rfl (ReadsAll.cons (r1 ma ia) (ReadsAll.cons (r1 mb ib) .nil))) (reads_tuple_at (N.get mu) rfl rfl (ReadsAll.cons (r1 mc ic) (ReadsAll.cons (r1 md id) .nil))) hs hs hu ?_
  have e : PyData.eqv (.tuple [PyData.list (xs.map PyData.int), PyData.list (ys.map PyData.int)]) (.tuple [PyData.list (xs.map PyData.int), PyData.list (ys.map PyData.int)]) = true := by simp [PyData.eqv, PyData.eqvAll, ked_eqvAll]
  rw [e]; exact h
end

end Peq

section Pcpp
section
variable {prog : Program} {w : World} {A : Around} {E : Value → Shared → Prop} {s : Shared} {env : Env} {h₀ : Heap} {L : Addr} {m : Str → Option Value}
theorem binds_pair {σ : Type} {Led : σ → List (Addr × Obj)} {J : Nat → Nat → List Value → σ → Prop} {P : Nat → Value → Prop} {St : Nat → Heap → Prop} {xa xb : Str} {pa pb tp : Pos} {kk : Nat} {scope : Scope} {cl : List (Str × Addr)} {I : Addr} (hkind : scope.kind = .function) (hh : A.handled = none) (hxa : scope.names.lookup xa = some .local) (hxb : scope.names.lookup xb = some .local) (hab : ¬ xa = xb)
    (hpair : ∀ i v tk ys c, P i v → J i tk ys c → ∃ T x y nn, v = .ref T ∧ (T, listOf [x, y].toArray nn) ∈ Led c)
    (hlot : ∀ i v (s' : Shared) (Q : Unit → Shared → Prop) (E : Value → Shared → Prop), St (i + 1) s'.heap → Q () s' → wpAny (model prog w) A (letOwnedTupleGo (.Tuple [.Name xa pa, .Name xb pb] kk tp) (.ref I) v) Q E s') :
    Binds prog w A h₀ L m env scope cl s (.Tuple [.Name xa pa, .Name xb pb] kk tp) I Led J P St (fun c v m₂ => ∃ T x y nn, v = .ref T ∧ (T, listOf [x, y].toArray nn) ∈ Led c ∧ m₂ xa = some x ∧ m₂ xb = some y) := by
  intro C D c i v ys h₁ tk tk₀ oI oC mC Q E' hIC hCD hP hJ hs ho F N hoC k
  refine Classical.byContradiction fun ng9 => ?_
  obtain ⟨T, x, y, nn, rfl, hTm⟩ := hpair i v _ _ c hP hJ
  refine ng9 ?_; clear ng9
  have zC := N _ (.tail _ (.head _))
  refine hlot i _ _ _ _ hs ?_
  have hTl : h₁.IsList T [x, y].toArray := ⟨_, (N _ (.tail _ (.tail _ (.tail _ hTm)))).1, rfl, nn, rfl⟩
  refine kun_list (env := compEnvC scope cl C env) F N hTl hh rfl rfl fun hu Fu Nu => ?_
  show wpAny _ _ (assignInOrder [assign (.Name xa pa) (compEnvC scope cl C env), assign (.Name xb pb) (compEnvC scope cl C env)] [x, y]) _ _ _
  refine assignInOrder_cons ?_
  refine wpAny_assign_Name (wpAny_storeName_local (lookup_relabel_local hxa) (hoC.ns (Nu _ (.tail _ (.head _))).1) (fun h₂' hn₂' hs₂' => ?_) (by simp [compEnvC, relabel, hkind]))
  refine assignInOrder_cons ?_
  refine wpAny_assign_Name (wpAny_storeName_local (lookup_relabel_local hxb) hn₂' (fun h₂ hn₂ hs₂'' => ?_) (by simp [compEnvC, relabel, hkind]))
  refine assignInOrder_nil ?_
  have ext2 : ∀ b o, b ≠ C → hu.get? b = some o → h₂.get? b = some o := fun b o q e => hs₂''.extBut b o q (hs₂'.extBut b o q e)
  obtain ⟨oC₂, eC, hoC₂⟩ := LCg.ns_obj hn₂
  refine k h₂ _ oC₂ _ (Nat.le_trans (Nat.le_succ _) (Nat.le_succ _)) ((Fu.change hs₂' zC.2.1 zC.2.2).change hs₂'' zC.2.1 zC.2.2) (fun p hp => ?_) hoC₂ ⟨T, x, y, nn, rfl, hTm, by simp [hab], by simp⟩
  rcases List.mem_cons.mp hp with rfl | hp
  · exact ⟨ext2 _ _ hIC (Nu _ (.head _)).1, (N _ (.head _)).2⟩
  · rcases List.mem_cons.mp hp with rfl | hp
    · exact ⟨eC, zC.2⟩
    · have z := Nu p (.tail _ (.tail _ hp))
      refine ⟨ext2 _ _ ?_ z.1, z.2⟩
      rcases List.mem_cons.mp hp with rfl | hp
      · exact Ne.symm hCD
      · exact (ho p hp).2.1

/-- what a comprehension over pairs walks over, and what it makes of it -/
noncomputable def CompInP (prog : Program) (w : World) (A : Around) (h₀ : Heap) (L : Addr) (m : Str → Option Value) (env : Env) (elt : Expr) (xa xb : Str) (scope : Scope) (cl : List (Str × Addr)) (Fin : Shared → Addr → List Value → List (Addr × Obj) → Heap → Nat → Prop) (xv : Value) (s₁ : Shared) : Prop :=
  ∃ (σ : Type) (Led : σ → List (Addr × Obj)) (J : Nat → Nat → List Value → σ → Prop) (c₀ : σ) (ax : Addr) (its : List Value) (nn : Nat),
    xv = .ref ax ∧ A.handled = none ∧ Fr h₀ L s₁.heap m ∧ News h₀ L s₁.heap (Led c₀) ∧ (∀ i tk tk' ys c, tk ≤ tk' → J i tk ys c → J i tk' ys c) ∧ J 0 s₁.toks [] c₀ ∧ its.length ≤ sizeLine ∧
    (∀ i tk ys c, J i tk ys c → (ax, listOf its.toArray nn) ∈ Led c) ∧ (∀ i v tk ys c, its[i]? = some v → J i tk ys c → ∃ T x y nn, v = .ref T ∧ (T, listOf [x, y].toArray nn) ∈ Led c) ∧
    (∀ I C D c i T x y nn ys h tk oI oC m₂ (E' : Value → Shared → Prop), (@Ne Nat I C) → (@Ne Nat I D) → (@Ne Nat C D) → its[i]? = some (.ref T) → (T, listOf [x, y].toArray nn) ∈ Led c → J i tk ys c → s₁.toks ≤ tk → LCg.NsObj oC m₂ → m₂ xa = some x → m₂ xb = some y → Apart3 I C D (Led c) → Fr h₀ L h m → News h₀ L h ((I, oI) :: (C, oC) :: (D, LCg.lst ys) :: Led c) →
      wpAny (model prog w) A (eval elt (compEnvC scope cl C env)) (EltEnd h₀ L m I C D oI oC Led J (i + 1) ys { s₁ with heap := h, toks := tk }) E' { s₁ with heap := h, toks := tk }) ∧
    ∀ D c ys h tk, J its.length tk ys c → s₁.toks ≤ tk → (∀ p ∈ Led c, p.1 ≠ D) → Fin s₁ D ys (Led c) h tk

theorem compInP_list {σ : Type} {elt : Expr} {xa xb : Str} {scope : Scope} {cl : List (Str × Addr)} {Fin : Shared → Addr → List Value → List (Addr × Obj) → Heap → Nat → Prop} {ax : Addr} {its : List Value} {nn : Nat}
    (Led : σ → List (Addr × Obj)) (J : Nat → Nat → List Value → σ → Prop) (c₀ : σ) (hh : A.handled = none) (F : Fr h₀ L s.heap m) (N : News h₀ L s.heap (Led c₀)) (hjm : ∀ i tk tk' ys c, tk ≤ tk' → J i tk ys c → J i tk' ys c) (hj : J 0 s.toks [] c₀)
    (hsz : its.length ≤ sizeLine) (hl : ∀ i tk ys c, J i tk ys c → (ax, listOf its.toArray nn) ∈ Led c) (hpair : ∀ i v tk ys c, its[i]? = some v → J i tk ys c → ∃ T x y nn, v = .ref T ∧ (T, listOf [x, y].toArray nn) ∈ Led c)
    (turn : ∀ I C D c i T x y nn ys h tk oI oC m₂ (E' : Value → Shared → Prop), (@Ne Nat I C) → (@Ne Nat I D) → (@Ne Nat C D) → its[i]? = some (.ref T) → (T, listOf [x, y].toArray nn) ∈ Led c → J i tk ys c → s.toks ≤ tk → LCg.NsObj oC m₂ → m₂ xa = some x → m₂ xb = some y → Apart3 I C D (Led c) → Fr h₀ L h m → News h₀ L h ((I, oI) :: (C, oC) :: (D, LCg.lst ys) :: Led c) →
      wpAny (model prog w) A (eval elt (compEnvC scope cl C env)) (EltEnd h₀ L m I C D oI oC Led J (i + 1) ys { s with heap := h, toks := tk }) E' { s with heap := h, toks := tk })
    (fin : ∀ D c ys h tk, J its.length tk ys c → s.toks ≤ tk → (∀ p ∈ Led c, p.1 ≠ D) → Fin s D ys (Led c) h tk) :
    CompInP prog w A h₀ L m env elt xa xb scope cl Fin (.ref ax) s :=
  ⟨σ, Led, J, c₀, ax, its, nn, rfl, hh, F, N, hjm, hj, hsz, hl, hpair, turn, fin⟩

theorem listComp_P {elt iter : Expr} {xa xb : Str} {pa pb tp : Pos} {kk : Nat} {scope : Scope} {cl : List (Str × Addr)} {pos : Pos} {Q : Value → Shared → Prop} (_F : Fr h₀ L s.heap m)
    (hclos : closureFor scope env = pure cl) (hcell : ∀ y ∈ scope.names, y.2 ≠ .cell) (hkind : scope.kind = .function)
    (hnames : ∀ y ∈ scope.names, y.2 = .local → scope.names.lookup y.1 = some .local) (hxa : scope.names.lookup xa = some .local) (hxb : scope.names.lookup xb = some .local) (hab : ¬ xa = xb)
    (h : wpAny (model prog w) A (eval iter env) (CompInP prog w A h₀ L m env elt xa xb scope cl (FinV h₀ L m Q)) E s)
    (hs : ∀ x, foldedSetIterable iter env x = pure x := by intro _; rfl) :
    wpAny (model prog w) A (eval (.ListComp elt [⟨.Tuple [.Name xa pa, .Name xb pb] kk tp, iter, [], 0⟩] scope pos) env) Q E s := by
  rw [eval_ListComp]
  refine wpAny_comprehension_free (use := none) rfl hs hclos hkind hnames (wpAny_mono h (fun xv s₁ h₁ => ?_) fun _ _ e => e)
  refine Classical.byContradiction fun ng9 => ?_
  obtain ⟨σ, Led, J, c₀, ax, its, nn, rfl, hh, F, N, hjm, hj, hsz, hl, hpair, turn, fin⟩ := h₁
  refine ng9 ?_; clear ng9
  have hol : s₁.heap.get? ax = some (listOf its.toArray nn) := (N _ (hl 0 _ _ _ hj)).1
  have hls : s₁.heap.IsList ax its.toArray := ⟨_, hol, rfl, nn, rfl⟩
  refine wpAny_pyIter_list hls ?_
  have W := Walks.list (prog := prog) (w := w) hh s₁.heap.objs.size ax (Nat.ne_of_lt (Heap.lt_size hol)) its.toArray
  have hlen : its.toArray.size = its.length := by simp
  rw [hlen] at W
  have up : ∀ b o, s₁.heap.get? b = some o → (s₁.heap.push { cls := .type "list_iterator", data := .fields #[.ref ax, .int 0 0] }).get? b = some o := fun b o e => Heap.get?_push_of_some _ e
  refine comp_block (RR := fun acc C => compPost (model prog w) A E none Q acc C) Led J c₀ W hsz (fun i h st => by obtain ⟨o, e, _⟩ := st.1; exact ⟨o, e⟩) hjm (fun i h h' o c j tk ys st e e' N' _ hJ => ?_) hcell hkind (fun _ _ => binds_pair hkind hh hxa hxb hab (fun i v tk ys c hP hJ => hpair i v tk ys c (by simpa using hP) hJ) (fun i v s' Q E st hQ => lot_list st.1 hQ)) ⟨⟨_, Heap.get?_push_size _ rfl, rfl, rfl⟩, hls.at fun o e => Heap.get?_push_of_some _ e⟩ (fun b hb => ?_) (F.keeps up) (N.grown up) (Nat.ne_of_lt F.ns.lt) (next_is_new F) (fun p hp => Nat.ne_of_lt (Heap.lt_size (N p hp).1)) hj ?_ ?_
  · obtain ⟨o', q, r⟩ := st.1
    rw [e] at q; cases q
    exact ⟨⟨o, e', r⟩, ⟨_, (N' _ (hl _ _ _ _ hJ)).1, rfl, nn, rfl⟩⟩
  · show b < (s₁.heap.push _).objs.size
    rw [Heap.size_push]
    rcases List.mem_cons.mp hb with rfl | hb
    · exact Nat.lt_succ_self _
    · rw [List.mem_singleton.mp hb]; exact Nat.lt_succ_of_lt (Heap.lt_size hol)
  · intro C D c i v ys h tk oI oC m₂ E' a b d hi hP hJ hle hoC ⟨T, x, y, nn, ev, hTm, e1, e2⟩
    subst ev
    exact turn _ C D c i T x y nn ys h tk oI oC m₂ E' a b d (by simpa using hP) hTm hJ hle hoC e1 e2
  · intro C D c ys h tk mC' hJ hle F' N' hn hC₀ hD₀ hCL hDL hCD hap
    refine ⟨mC', hn, fun h'' hs'' => fin D c ys h'' tk hJ hle (fun p hp => (hap p hp).2.2) (F'.change hs'' hCL hC₀) fun p hp => ⟨hs''.extBut _ _ ?_ (N' p hp).1, (N' p hp).2⟩⟩
    rcases List.mem_cons.mp hp with rfl | hp
    · exact Ne.symm hCD
    · exact (hap p hp).2.1
end

end Pcpp

section Pmm
noncomputable def gtF (a b : UInt64) : Bool := Float64.cmp a b == some Ordering.gt
noncomputable def ltF (a b : UInt64) : Bool := Float64.cmp a b == some Ordering.lt
noncomputable def best3 (g : UInt64 → UInt64 → Bool) (a b c : UInt64) : UInt64 := if g c (if g b a then b else a) then c else (if g b a then b else a)
noncomputable def val3 (a b c : UInt64) : Nat → UInt64
  | 0 => a
  | 1 => b
  | _ => c
theorem best3_eq (g : UInt64 → UInt64 → Bool) (a b c : UInt64) : val3 a b c (argBest (fun i j => g (val3 a b c i) (val3 a b c j)) 2) = best3 g a b c := by
  have e1 : argBest (fun i j => g (val3 a b c i) (val3 a b c j)) 1 = if g b a then 1 else 0 := rfl
  have e2 : argBest (fun i j => g (val3 a b c i) (val3 a b c j)) 2 = if g c (val3 a b c (argBest (fun i j => g (val3 a b c i) (val3 a b c j)) 1)) then 2 else argBest (fun i j => g (val3 a b c i) (val3 a b c j)) 1 := rfl
  unfold best3
  rw [e2, e1]
  by_cases h1 : g b a = true
  · simp only [if_pos h1]
    by_cases h2 : g c b = true
    · have h2' : g c (val3 a b c 1) = true := h2
      rw [if_pos h2', if_pos h2]; rfl
    · have h2' : ¬ g c (val3 a b c 1) = true := h2
      rw [if_neg h2', if_neg h2]; rfl
  · simp only [if_neg h1]
    by_cases h2 : g c a = true
    · have h2' : g c (val3 a b c 0) = true := h2
      rw [if_pos h2', if_pos h2]; rfl
    · have h2' : ¬ g c (val3 a b c 0) = true := h2
      rw [if_neg h2', if_neg h2]; rfl
theorem at3 {a b c : UInt64} {t u x : Tok} {i : Nat} {v : Value} (h : (#[Value.float a t, Value.float b u, Value.float c x] : Array Value)[i]? = some v) : ∃ y, v = .float (val3 a b c i) y := by
  match i, h with
  | 0, h => simp at h; exact ⟨t, h.symm⟩
  | 1, h => simp at h; exact ⟨u, h.symm⟩
  | 2, h => simp at h; exact ⟨x, h.symm⟩
  | n + 3, h => simp at h
section
variable {prog : Program} {w : World} {A : Around} {E : Value → Shared → Prop} {s : Shared} {h₀ : Heap} {L : Addr} {m : Str → Option Value} {news : List (Addr × Obj)} {a b c : UInt64} {t u x : Tok} {Q : Value → Shared → Prop}
theorem mm_frame (F : Fr h₀ L s.heap m) (N : News h₀ L s.heap news) (h' : Heap) (k : ∀ d o, s.heap.get? d = some o → h'.get? d = some o) : Fr h₀ L h' m ∧ News h₀ L h' news := ⟨F.keeps k, N.grown k⟩
theorem mm_old {o₁ o₂ : Obj} {h' : Heap} (hk : ∀ b o, b ∉ [(s.heap.push o₁).objs.size] → ((s.heap.push o₁).push o₂).get? b = some o → h'.get? b = some o) : ∀ d o, s.heap.get? d = some o → h'.get? d = some o := fun d o e => by
  refine hk d o (fun hm => ?_) (Heap.get?_push_of_some _ (Heap.get?_push_of_some _ e))
  have e1 := List.mem_singleton.mp hm
  have e2 := Heap.lt_size e
  rw [e1, Heap.size_push] at e2
  exact absurd e2 (Nat.not_lt.mpr (Nat.le_succ _))
theorem max3_ok (hh : A.handled = none) (F : Fr h₀ L s.heap m) (N : News h₀ L s.heap news)
    (h : ∀ y h' tk, Fr h₀ L h' m → News h₀ L h' news → Q (.float (best3 gtF a b c) y) { s with heap := h', toks := tk }) :
    wpAny (model prog w) A (call (.builtin "max") [.float a t, .float b u, .float c x]) Q E s := by
  have hT : (s.heap.push { cls := .type "tuple", data := .seq #[.float a t, .float b u, .float c x] }).IsTuple s.heap.objs.size #[.float a t, .float b u, .float c x] := ⟨_, Heap.get?_push_size _ rfl, rfl, 0, rfl⟩
  refine call_max_three (wpAny_pyIter_tuple hT ?_)
  have hsz : (s.heap.push { cls := .type "tuple", data := .seq #[.float a t, .float b u, .float c x] }).objs.size = s.heap.objs.size + 1 := Heap.size_push ..
  refine ⟨_, [_, s.heap.objs.size], [_], _, _, _, fun i j => gtF (val3 a b c i) (val3 a b c j), rfl, Walks.tuple (A := A.in1) hh _ s.heap.objs.size (by rw [hsz]; exact Nat.ne_of_lt (Nat.lt_succ_self _)) #[.float a t, .float b u, .float c x],
    ⟨⟨_, Heap.get?_push_size _ rfl, rfl, rfl⟩, hT.push _⟩, fun d hd => ?_, by simp, fun i j vi vj s' Q' E' hi hj hq => ?_, fun v h' tk hP hk => ?_⟩
  · show d < ((s.heap.push _).push _).objs.size
    rw [Heap.size_push, hsz]
    rcases List.mem_cons.mp hd with rfl | hd
    · rw [hsz]; exact Nat.lt_succ_self _
    · rw [List.mem_singleton.mp hd]; exact Nat.lt_succ_of_lt (Nat.lt_succ_self _)
  · obtain ⟨_, rfl⟩ := at3 hi
    obtain ⟨_, rfl⟩ := at3 hj
    exact AutoFloatOps.gt_0 hq
  · obtain ⟨y, rfl⟩ := at3 hP
    have e : val3 a b c (argBest (fun i j => gtF (val3 a b c i) (val3 a b c j)) (#[Value.float a t, Value.float b u, Value.float c x].size - 1)) = best3 gtF a b c := best3_eq gtF a b c
    rw [e]
    obtain ⟨F', N'⟩ := mm_frame F N h' (mm_old hk)
    exact h y h' tk F' N'
theorem min3_ok (hh : A.handled = none) (F : Fr h₀ L s.heap m) (N : News h₀ L s.heap news)
    (h : ∀ y h' tk, Fr h₀ L h' m → News h₀ L h' news → Q (.float (best3 ltF a b c) y) { s with heap := h', toks := tk }) :
    wpAny (model prog w) A (call (.builtin "min") [.float a t, .float b u, .float c x]) Q E s := by
  have hT : (s.heap.push { cls := .type "tuple", data := .seq #[.float a t, .float b u, .float c x] }).IsTuple s.heap.objs.size #[.float a t, .float b u, .float c x] := ⟨_, Heap.get?_push_size _ rfl, rfl, 0, rfl⟩
  refine call_min_three (wpAny_pyIter_tuple hT ?_)
  have hsz : (s.heap.push { cls := .type "tuple", data := .seq #[.float a t, .float b u, .float c x] }).objs.size = s.heap.objs.size + 1 := Heap.size_push ..
  refine ⟨_, [_, s.heap.objs.size], [_], _, _, _, fun i j => ltF (val3 a b c i) (val3 a b c j), rfl, Walks.tuple (A := A.in1) hh _ s.heap.objs.size (by rw [hsz]; exact Nat.ne_of_lt (Nat.lt_succ_self _)) #[.float a t, .float b u, .float c x],
    ⟨⟨_, Heap.get?_push_size _ rfl, rfl, rfl⟩, hT.push _⟩, fun d hd => ?_, by simp, fun i j vi vj s' Q' E' hi hj hq => ?_, fun v h' tk hP hk => ?_⟩
  · show d < ((s.heap.push _).push _).objs.size
    rw [Heap.size_push, hsz]
    rcases List.mem_cons.mp hd with rfl | hd
    · rw [hsz]; exact Nat.lt_succ_self _
    · rw [List.mem_singleton.mp hd]; exact Nat.lt_succ_of_lt (Nat.lt_succ_self _)
  · obtain ⟨_, rfl⟩ := at3 hi
    obtain ⟨_, rfl⟩ := at3 hj
    exact AutoFloatOps.lt_0 hq
  · obtain ⟨y, rfl⟩ := at3 hP
    have e : val3 a b c (argBest (fun i j => ltF (val3 a b c i) (val3 a b c j)) (#[Value.float a t, Value.float b u, Value.float c x].size - 1)) = best3 ltF a b c := best3_eq ltF a b c
    rw [e]
    obtain ⟨F', N'⟩ := mm_frame F N h' (mm_old hk)
    exact h y h' tk F' N'
end

end Pmm

section Pf
noncomputable abbrev F1 : UInt64 := 4607182418800017408
noncomputable abbrev F2 : UInt64 := 4611686018427387904
noncomputable abbrev F4 : UInt64 := 4616189618054758400
noncomputable abbrev F6 : UInt64 := 4618441417868443648
noncomputable abbrev eqF (a b : UInt64) : Bool := Float64.cmp a b == some Ordering.eq
/-- int by int -/
noncomputable abbrev idiv (a b : Int) : UInt64 := Float64.ofFrac (decide (a < 0) != decide (b < 0)) a.natAbs b.natAbs
/-- the whole of a float -/
noncomputable abbrev intF (x : UInt64) : Int := Flt.toInt Float64.truncOf x
noncomputable abbrev hsvI (x : UInt64) : Int := intF (Float64.mul x F6)
noncomputable def hsvF (x y z : UInt64) : UInt64 × UInt64 × UInt64 :=
  if (hsvI x).fmod 6 = 0 then (z, Float64.mul z (Float64.sub F1 (Float64.mul y (Float64.sub F1 (Float64.sub (Float64.mul x F6) (Float64.ofInt (hsvI x)))))), Float64.mul z (Float64.sub F1 y))
  else if (hsvI x).fmod 6 = 1 then (Float64.mul z (Float64.sub F1 (Float64.mul y (Float64.sub (Float64.mul x F6) (Float64.ofInt (hsvI x))))), z, Float64.mul z (Float64.sub F1 y))
  else if (hsvI x).fmod 6 = 2 then (Float64.mul z (Float64.sub F1 y), z, Float64.mul z (Float64.sub F1 (Float64.mul y (Float64.sub F1 (Float64.sub (Float64.mul x F6) (Float64.ofInt (hsvI x)))))))
  else if (hsvI x).fmod 6 = 3 then (Float64.mul z (Float64.sub F1 y), Float64.mul z (Float64.sub F1 (Float64.mul y (Float64.sub (Float64.mul x F6) (Float64.ofInt (hsvI x))))), z)
  else if (hsvI x).fmod 6 = 4 then (Float64.mul z (Float64.sub F1 (Float64.mul y (Float64.sub F1 (Float64.sub (Float64.mul x F6) (Float64.ofInt (hsvI x)))))), Float64.mul z (Float64.sub F1 y), z)
  else (z, Float64.mul z (Float64.sub F1 y), Float64.mul z (Float64.sub F1 (Float64.mul y (Float64.sub (Float64.mul x F6) (Float64.ofInt (hsvI x))))))
/-- hsv_to_rgb neither takes the grey's way nor raises -/
noncomputable def hsvOk (x y : UInt64) : Bool := !eqF y 0 && Float64.isFinite (Float64.mul x F6) && decide ((hsvI x).natAbs < 1000)
noncomputable def rgbH (x y z mx mn : UInt64) : UInt64 :=
  if eqF x mx then Float64.sub (Float64.div (Float64.sub mx z) (Float64.sub mx mn)) (Float64.div (Float64.sub mx y) (Float64.sub mx mn))
  else if eqF y mx then Float64.sub (Float64.add F2 (Float64.div (Float64.sub mx x) (Float64.sub mx mn))) (Float64.div (Float64.sub mx z) (Float64.sub mx mn))
  else Float64.sub (Float64.add F4 (Float64.div (Float64.sub mx y) (Float64.sub mx mn))) (Float64.div (Float64.sub mx x) (Float64.sub mx mn))
noncomputable def rgbF (x y z : UInt64) : UInt64 × UInt64 × UInt64 :=
  ((Float64.divmod (Float64.div (rgbH x y z (best3 gtF x y z) (best3 ltF x y z)) F6) F1).2, Float64.div (Float64.sub (best3 gtF x y z) (best3 ltF x y z)) (best3 gtF x y z), best3 gtF x y z)
noncomputable def rgbOk (x y z : UInt64) : Bool := !eqF (best3 ltF x y z) (best3 gtF x y z) && !Float64.isZero (best3 gtF x y z) && !Float64.isZero (Float64.sub (best3 gtF x y z) (best3 ltF x y z))
noncomputable abbrev nearF (x : UInt64) : Int := (intF (Float64.add (Float64.mul x (Float64.ofInt 2)) (Float64.ofInt 1))).fdiv 2
noncomputable def wholeF (x : UInt64) : Int := if Float64.cmpInt (Float64.mul (Float64.abs (Float64.sub x (Float64.ofInt (nearF x)))) (Float64.ofInt (2 ^ Int.toNat 30))) 1 == some Ordering.lt then nearF x else -1
noncomputable def wholeOk (x : UInt64) : Bool := Float64.isFinite (Float64.add (Float64.mul x (Float64.ofInt 2)) (Float64.ofInt 1)) && decide ((nearF x).natAbs < 100000)
/-- the paint's part by the law's own reckoning -/
noncomputable def farI (hue k : Int) : Int := if (16 * k - hue).fmod 48 < (hue - 16 * k).fmod 48 then (16 * k - hue).fmod 48 else (hue - 16 * k).fmod 48
noncomputable def clipI (a : Int) : Int := if (if a - 8 > 0 then a - 8 else 0) < 8 then if a - 8 > 0 then a - 8 else 0 else 8
noncomputable def partI (hue share level k : Int) : Int := level * (32 - share * clipI (farI hue k))

theorem big_no {n : Nat} (h : n < 100000) (k : 2 ^ 1024 - 2 ^ 970 ≤ n) : False := by
  have : (100000 : Nat) ≤ 2 ^ 1024 - 2 ^ 970 := by decide +kernel
  omega
theorem whole_finite {x : UInt64} (h : wholeOk x = true) : Float64.isFinite (Float64.add (Float64.mul x (Float64.ofInt 2)) (Float64.ofInt 1)) = true := (Bool.and_eq_true_iff.mp h).1
theorem whole_small {x : UInt64} (h : wholeOk x = true) : (nearF x).natAbs < 100000 := by simpa using (Bool.and_eq_true_iff.mp h).2
theorem whole_yes {x : UInt64} (h : (Float64.cmpInt (Float64.mul (Float64.abs (Float64.sub x (Float64.ofInt (nearF x)))) (Float64.ofInt (2 ^ Int.toNat 30))) 1 == some Ordering.lt) = true) : nearF x = wholeF x := by
  unfold wholeF; rw [if_pos h]
theorem whole_no {x : UInt64} (h : (Float64.cmpInt (Float64.mul (Float64.abs (Float64.sub x (Float64.ofInt (nearF x)))) (Float64.ofInt (2 ^ Int.toNat 30))) 1 == some Ordering.lt) = false) : -1 = wholeF x := by
  unfold wholeF; rw [if_neg (by rw [h]; exact Bool.false_ne_true)]
theorem hsvOk_sat {x y : UInt64} (h : hsvOk x y = true) : eqF y 0 = false := by
  simp only [hsvOk, Bool.and_eq_true, Bool.not_eq_true'] at h; exact h.1.1
theorem hsvOk_fin {x y : UInt64} (h : hsvOk x y = true) : Float64.isFinite (Float64.mul x F6) = true := by
  simp only [hsvOk, Bool.and_eq_true, Bool.not_eq_true'] at h; exact h.1.2
theorem hsvOk_small {x y : UInt64} (h : hsvOk x y = true) : (hsvI x).natAbs < 100000 := by
  simp only [hsvOk, Bool.and_eq_true, Bool.not_eq_true', decide_eq_true_eq] at h; exact Nat.lt_trans h.2 (by decide)
theorem hsv_0 {x y z : UInt64} (h : (hsvI x).fmod 6 = 0) : hsvF x y z = (z, Float64.mul z (Float64.sub F1 (Float64.mul y (Float64.sub F1 (Float64.sub (Float64.mul x F6) (Float64.ofInt (hsvI x)))))), Float64.mul z (Float64.sub F1 y)) := by
  unfold hsvF; rw [if_pos h]
theorem hsv_1 {x y z : UInt64} (h : (hsvI x).fmod 6 = 1) : hsvF x y z = (Float64.mul z (Float64.sub F1 (Float64.mul y (Float64.sub (Float64.mul x F6) (Float64.ofInt (hsvI x))))), z, Float64.mul z (Float64.sub F1 y)) := by
  unfold hsvF; rw [if_neg (by rw [h]; decide), if_pos h]
theorem hsv_2 {x y z : UInt64} (h : (hsvI x).fmod 6 = 2) : hsvF x y z = (Float64.mul z (Float64.sub F1 y), z, Float64.mul z (Float64.sub F1 (Float64.mul y (Float64.sub F1 (Float64.sub (Float64.mul x F6) (Float64.ofInt (hsvI x))))))) := by
  unfold hsvF; rw [if_neg (by rw [h]; decide), if_neg (by rw [h]; decide), if_pos h]
theorem hsv_3 {x y z : UInt64} (h : (hsvI x).fmod 6 = 3) : hsvF x y z = (Float64.mul z (Float64.sub F1 y), Float64.mul z (Float64.sub F1 (Float64.mul y (Float64.sub (Float64.mul x F6) (Float64.ofInt (hsvI x))))), z) := by
  unfold hsvF; rw [if_neg (by rw [h]; decide), if_neg (by rw [h]; decide), if_neg (by rw [h]; decide), if_pos h]
theorem hsv_4 {x y z : UInt64} (h : (hsvI x).fmod 6 = 4) : hsvF x y z = (Float64.mul z (Float64.sub F1 (Float64.mul y (Float64.sub F1 (Float64.sub (Float64.mul x F6) (Float64.ofInt (hsvI x)))))), Float64.mul z (Float64.sub F1 y), z) := by
  unfold hsvF; rw [if_neg (by rw [h]; decide), if_neg (by rw [h]; decide), if_neg (by rw [h]; decide), if_neg (by rw [h]; decide), if_pos h]
theorem hsv_5 {x y z : UInt64} (h : (hsvI x).fmod 6 = 5) : hsvF x y z = (z, Float64.mul z (Float64.sub F1 y), Float64.mul z (Float64.sub F1 (Float64.mul y (Float64.sub (Float64.mul x F6) (Float64.ofInt (hsvI x)))))) := by
  unfold hsvF; rw [if_neg (by rw [h]; decide), if_neg (by rw [h]; decide), if_neg (by rw [h]; decide), if_neg (by rw [h]; decide), if_neg (by rw [h]; decide)]
theorem bool_clash {a : Bool} (h : a = true) (k : a = false) : False := Bool.false_ne_true (k.symm.trans h)
theorem rgbOk_eq {x y z : UInt64} (h : rgbOk x y z = true) : eqF (best3 ltF x y z) (best3 gtF x y z) = false := by
  simp only [rgbOk, Bool.and_eq_true, Bool.not_eq_true'] at h; exact h.1.1
theorem rgbOk_z1 {x y z : UInt64} (h : rgbOk x y z = true) : Float64.isZero (best3 gtF x y z) = false := by
  simp only [rgbOk, Bool.and_eq_true, Bool.not_eq_true'] at h; exact h.1.2
theorem rgbOk_z2 {x y z : UInt64} (h : rgbOk x y z = true) : Float64.isZero (Float64.sub (best3 gtF x y z) (best3 ltF x y z)) = false := by
  simp only [rgbOk, Bool.and_eq_true, Bool.not_eq_true'] at h; exact h.2
/-- rgb_to_hsv's answer out of the hue's sixth -/
noncomputable abbrev rgbT (x y z h : UInt64) : UInt64 × UInt64 × UInt64 := ((Float64.divmod (Float64.div h F6) F1).2, Float64.div (Float64.sub (best3 gtF x y z) (best3 ltF x y z)) (best3 gtF x y z), best3 gtF x y z)
theorem rgb_x {x y z : UInt64} (h : (Float64.cmp x (best3 gtF x y z) == some Ordering.eq) = true) : rgbF x y z = rgbT x y z (Float64.sub (Float64.div (Float64.sub (best3 gtF x y z) z) (Float64.sub (best3 gtF x y z) (best3 ltF x y z))) (Float64.div (Float64.sub (best3 gtF x y z) y) (Float64.sub (best3 gtF x y z) (best3 ltF x y z)))) := by
  have e : eqF x (best3 gtF x y z) = true := h
  unfold rgbF rgbH; rw [if_pos e]
theorem rgb_y {x y z : UInt64} (h : (Float64.cmp x (best3 gtF x y z) == some Ordering.eq) = false) (k : (Float64.cmp y (best3 gtF x y z) == some Ordering.eq) = true) : rgbF x y z = rgbT x y z (Float64.sub (Float64.add F2 (Float64.div (Float64.sub (best3 gtF x y z) x) (Float64.sub (best3 gtF x y z) (best3 ltF x y z)))) (Float64.div (Float64.sub (best3 gtF x y z) z) (Float64.sub (best3 gtF x y z) (best3 ltF x y z)))) := by
  have e : ¬ eqF x (best3 gtF x y z) = true := fun q => bool_clash q h
  have e2 : eqF y (best3 gtF x y z) = true := k
  unfold rgbF rgbH; rw [if_neg e, if_pos e2]
theorem rgb_z {x y z : UInt64} (h : (Float64.cmp x (best3 gtF x y z) == some Ordering.eq) = false) (k : (Float64.cmp y (best3 gtF x y z) == some Ordering.eq) = false) : rgbF x y z = rgbT x y z (Float64.sub (Float64.add F4 (Float64.div (Float64.sub (best3 gtF x y z) y) (Float64.sub (best3 gtF x y z) (best3 ltF x y z)))) (Float64.div (Float64.sub (best3 gtF x y z) x) (Float64.sub (best3 gtF x y z) (best3 ltF x y z)))) := by
  have e : ¬ eqF x (best3 gtF x y z) = true := fun q => bool_clash q h
  have e2 : ¬ eqF y (best3 gtF x y z) = true := fun q => bool_clash q k
  unfold rgbF rgbH; rw [if_neg e, if_neg e2]
/-- what the floats of _law_told answer at a light -/
structure ToldOk (x y z tot place size : Int) (H S V : UInt64) : Prop where
  ix : Float64.isInf (idiv x 8192) = false
  iy : Float64.isInf (idiv y 8192) = false
  iz : Float64.isInf (idiv z 8192) = false
  rgb : rgbOk (idiv x 8192) (idiv y 8192) (idiv z 8192) = true
  rgbE : rgbF (idiv x 8192) (idiv y 8192) (idiv z 8192) = (H, S, V)
  w1 : wholeOk (Float64.mul H (Float64.ofInt 48)) = true
  e1 : wholeF (Float64.mul H (Float64.ofInt 48)) = place
  h0 : (Float64.cmpInt H 0 == some Ordering.gt || Float64.cmpInt H 0 == some Ordering.eq) = true
  h1 : (Float64.cmpInt H 1 == some Ordering.lt) = true
  p0 : ¬ place < 0
  p8 : (place - tot).fmod 8 = 0
  v0 : ∀ M, x ≤ M → y ≤ M → z ≤ M → M ∈ [x, y, z] → (Float64.cmp V (idiv M 8192) != some Ordering.eq) = false
  w2 : wholeOk (Float64.div (Float64.mul (Float64.mul S V) (Float64.ofInt 1024)) (Float64.ofInt (((tot.fdiv 48).fmod 4 + 1) * ((tot.fdiv 192).fmod 4 + 1)))) = true
  e2 : wholeF (Float64.div (Float64.mul (Float64.mul S V) (Float64.ofInt 1024)) (Float64.ofInt (((tot.fdiv 48).fmod 4 + 1) * ((tot.fdiv 192).fmod 4 + 1)))) = size
/-- what the floats of _law_paint answer at a hue -/
structure PaintOk (hue share level : Int) (a b c : UInt64) : Prop where
  ih : Float64.isInf (idiv hue 48) = false
  is : Float64.isInf (idiv share 4) = false
  il : Float64.isInf (idiv level 4) = false
  ok : hsvOk (idiv hue 48) (idiv share 4) = true
  e : hsvF (idiv hue 48) (idiv share 4) (idiv level 4) = (a, b, c)
  wa : wholeOk (Float64.mul a (Float64.ofInt 128)) = true
  wb : wholeOk (Float64.mul b (Float64.ofInt 128)) = true
  wc : wholeOk (Float64.mul c (Float64.ofInt 128)) = true
  ea : wholeF (Float64.mul a (Float64.ofInt 128)) = partI hue share level 0
  eb : wholeF (Float64.mul b (Float64.ofInt 128)) = partI hue share level 1
  ec : wholeF (Float64.mul c (Float64.ofInt 128)) = partI hue share level 2

/-- the paints of the law -/
noncomputable def paintI (tot c : Int) : List Int :=
  if c = 0 then [partI (tot.fmod 48) ((tot.fdiv 48).fmod 4 + 1) ((tot.fdiv 192).fmod 4 + 1) 0, partI (tot.fmod 48) ((tot.fdiv 48).fmod 4 + 1) ((tot.fdiv 192).fmod 4 + 1) 1, partI (tot.fmod 48) ((tot.fdiv 48).fmod 4 + 1) ((tot.fdiv 192).fmod 4 + 1) 2]
  else if c = 2 then [partI (tot.fmod 48 + 16) ((tot.fdiv 48).fmod 4 + 1) ((tot.fdiv 192).fmod 4 + 1) 0, partI (tot.fmod 48 + 16) ((tot.fdiv 48).fmod 4 + 1) ((tot.fdiv 192).fmod 4 + 1) 1, partI (tot.fmod 48 + 16) ((tot.fdiv 48).fmod 4 + 1) ((tot.fdiv 192).fmod 4 + 1) 2]
  else [partI (tot.fmod 48) ((tot.fdiv 48).fmod 4 + 1) ((tot.fdiv 192).fmod 4 + 1) 0 + partI (tot.fmod 48 + 16) ((tot.fdiv 48).fmod 4 + 1) ((tot.fdiv 192).fmod 4 + 1) 0, partI (tot.fmod 48) ((tot.fdiv 48).fmod 4 + 1) ((tot.fdiv 192).fmod 4 + 1) 1 + partI (tot.fmod 48 + 16) ((tot.fdiv 48).fmod 4 + 1) ((tot.fdiv 192).fmod 4 + 1) 1, partI (tot.fmod 48) ((tot.fdiv 48).fmod 4 + 1) ((tot.fdiv 192).fmod 4 + 1) 2 + partI (tot.fmod 48 + 16) ((tot.fdiv 48).fmod 4 + 1) ((tot.fdiv 192).fmod 4 + 1) 2]
/-- the light of a kind and a size -/
noncomputable def lightI (tot : Int) (q : List Int) : List Int := (paintI tot (q.getD 0 0)).map (· * q.getD 1 0)
structure PairOk (q : List Int) : Prop where
  two : q.length = 2
  k0 : 0 ≤ q.getD 0 0
  k2 : q.getD 0 0 ≤ 2
  s1 : 1 ≤ q.getD 1 0
  s2 : q.getD 1 0 ≤ 63
theorem lightI_three (tot : Int) (q : List Int) : ∃ x y z, lightI tot q = [x, y, z] := by
  unfold lightI paintI
  split
  · exact ⟨_, _, _, rfl⟩
  · split <;> exact ⟨_, _, _, rfl⟩
theorem ints_three {ws : List Value} {x y z : Int} (h : IntsAre ws [x, y, z]) : ∃ t u v, ws = [Value.int x t, Value.int y u, Value.int z v] := by
  cases h with
  | cons _ t h => cases h with
    | cons _ u h => cases h with
      | cons _ v h => cases h; exact ⟨t, u, v, rfl⟩
theorem ints_pair {q : List Int} {t u : Tok} (h : q.length = 2) : IntsAre [Value.int (q.getD 0 0) t, Value.int (q.getD 1 0) u] q := by
  match q, h with
  | [x, y], _ => exact .cons _ _ (.cons _ _ .nil)
theorem row_of_map {tot : Int} {qs : List (List Int)} {i : Nat} {r : List Int} (h : (qs.map (lightI tot))[i]? = some r) : ∃ q, qs[i]? = some q ∧ r = lightI tot q := by
  rw [List.getElem?_map] at h
  cases e : qs[i]? with
  | none => rw [e] at h; cases h
  | some q => rw [e] at h; exact ⟨q, rfl, (Option.some.inj h).symm⟩
theorem paintI_len (tot c : Int) : (paintI tot c).length = 3 := by
  unfold paintI; split
  · rfl
  · split <;> rfl

end Pf

section Pfv
open PySem.Float64 in
/-- a float not below nought, of W times 2^-1074 -/
noncomputable def Fv (x : UInt64) (W : Nat) : Prop := ∃ t, x = pack false t ∧ t < infMag ∧ V t = W
open PySem.Float64 in
/-- a number that a float can be -/
noncomputable def Rep (W : Nat) : Prop := ∃ t, t < infMag ∧ V t = W
section
open PySem.Float64
theorem V_inj {t u : Nat} (h : V t = V u) : t = u := by
  rcases Nat.lt_trichotomy t u with k | k | k
  · have := V_lt k; omega
  · exact k
  · have := V_lt k; omega
theorem Fv.uniq {x y : UInt64} {W : Nat} (h : Fv x W) (k : Fv y W) : x = y := by
  obtain ⟨t, rfl, _, e⟩ := h
  obtain ⟨u, rfl, _, e2⟩ := k
  rw [V_inj (e.trans e2.symm)]
theorem Fv.rep {x : UInt64} {W : Nat} (h : Fv x W) : Rep W := by obtain ⟨t, _, a, b⟩ := h; exact ⟨t, a, b⟩
theorem Fv.dec {x : UInt64} {W : Nat} (h : Fv x W) : ∃ m e, decode x = .fin false m e ∧ val x = (W : Int) := by
  obtain ⟨t, rfl, ht, e⟩ := h
  obtain ⟨m, f, hd, _⟩ := decode_pack false ht
  exact ⟨m, f, hd, by rw [val_pack false ht, e]; rfl⟩
theorem rep_pow : ∀ (j n : Nat), n ≤ 2 ^ 53 → j ≤ 2000 → Rep (n * 2 ^ j)
  | 0, n, hn, _ => ⟨n, by have : infMag = 2047 * 2 ^ 52 := rfl; omega, by have := V_at (k := 0) hn (.inr rfl); rwa [Nat.zero_mul, Nat.zero_add] at this⟩
  | j + 1, n, hn, hj => by
    by_cases h : 2 ^ 52 ≤ n
    · exact ⟨(j + 1) * 2 ^ 52 + n, by have : infMag = 2047 * 2 ^ 52 := rfl; omega, V_at hn (.inl h)⟩
    · have := rep_pow j (n * 2) (by omega) (by omega)
      rwa [Nat.mul_assoc, ← Nat.pow_succ'] at this
theorem rep_zero : Rep 0 := ⟨0, by decide, V_zero⟩
theorem V_top {t : Nat} (h : t < infMag) : 2 * V t < (2 ^ 54 - 1) * 2 ^ 2045 := by
  have h1 := V_mono (show t ≤ infMag - 1 by omega)
  have h2 : 2 * V (infMag - 1) < (2 ^ 54 - 1) * 2 ^ 2045 := by decide +kernel
  exact Nat.lt_of_le_of_lt (Nat.mul_le_mul_left 2 h1) h2
theorem dist_iff {a b e : Nat} : dist a b ≤ e ↔ a ≤ b + e ∧ b ≤ a + e := by
  unfold dist
  rcases Nat.le_total a b with h | h
  · rw [Nat.sub_eq_zero_of_le h, Nat.zero_add]
    exact ⟨fun k => ⟨Nat.le_trans h (Nat.le_add_right _ _), by rw [Nat.add_comm]; exact Nat.sub_le_iff_le_add.mp k⟩, fun k => Nat.sub_le_of_le_add (by rw [Nat.add_comm]; exact k.2)⟩
  · rw [Nat.sub_eq_zero_of_le h, Nat.add_zero]
    exact ⟨fun k => ⟨by rw [Nat.add_comm]; exact Nat.sub_le_iff_le_add.mp k, Nat.le_trans h (Nat.le_add_right _ _)⟩, fun k => Nat.sub_le_of_le_add (by rw [Nat.add_comm]; exact k.1)⟩
theorem dist_zero {a b : Nat} (h : dist a b = 0) : a = b := by unfold dist at h; omega
theorem dist_self (a : Nat) : dist a a = 0 := by unfold dist; omega
/-- an answer that a float can be is hit -/
theorem right_exact {r : UInt64} {neg : Bool} {D N W : Nat} (h : Right r neg N D) (hD : 0 < D) (hN : N = D * W) (k : Rep W) : ∃ t, r = pack neg t ∧ t < infMag ∧ V t = W := by
  subst hN
  obtain ⟨u, hu, rfl⟩ := k
  obtain ⟨t, rfl, ht, hov, hn⟩ := h
  have hlt : t < infMag := by
    rcases Nat.lt_or_ge t infMag with q | q
    · exact q
    · have e := hov.mp (by omega)
      have q1 := V_top hu
      have q2 := Nat.mul_lt_mul_of_pos_left q1 hD
      rw [show 2 * (D * V u) = D * (2 * V u) by ac_rfl] at e
      omega
  have q := (hn hlt u).1
  rw [dist_self] at q
  have q2 := dist_zero (Nat.le_zero.mp q)
  exact ⟨t, rfl, hlt, Nat.eq_of_mul_eq_mul_left hD q2.symm⟩
theorem frac_fv {n d W : Nat} (hd : 0 < d) (hW : n * 2 ^ 1074 = W * d) (k : Rep W) : Fv (ofFrac false n d) W :=
  right_exact (ofFrac_right (W := W) (D := 1) hd (by rw [Nat.mul_one, hW]) (by decide)) (by decide) (by rw [Nat.one_mul]) k
theorem sub_fv {x y : UInt64} {a b : Nat} (hx : Fv x a) (hy : Fv y b) (hle : b ≤ a) (k : Rep (a - b)) : Fv (sub x y) (a - b) := by
  obtain ⟨m, e, dx, vx⟩ := hx.dec
  obtain ⟨n, f, dy, vy⟩ := hy.dec
  obtain ⟨h0, h1⟩ := sub_right dx dy
  rw [vx, vy] at h0 h1
  by_cases e0 : a = b
  · rw [h0 (by omega)]
    exact ⟨0, rfl, by decide, by rw [V_zero]; omega⟩
  · have h2 := h1 (by omega)
    rw [decide_eq_false (by omega), show ((a : Int) - b).natAbs = a - b by omega] at h2
    exact right_exact h2 (by decide) (by rw [Nat.one_mul]) k
theorem fv_mant {x : UInt64} {a : Nat} (hx : Fv x a) (ha : a ≠ 0) : ∃ m e, decode x = .fin false m e ∧ val x = (a : Int) ∧ m ≠ 0 := by
  obtain ⟨m, e, dx, vx⟩ := hx.dec
  refine ⟨m, e, dx, vx, fun h => ha ?_⟩
  rw [val_eq dx, h] at vx
  simp [sgn] at vx
  omega
theorem div_fv {x y : UInt64} {a b W : Nat} (hx : Fv x a) (hy : Fv y b) (hb : b ≠ 0) (h : a * 2 ^ 1074 = b * W) (k : Rep W) : Fv (div x y) W := by
  obtain ⟨m, e, dx, vx⟩ := hx.dec
  obtain ⟨n, f, dy, vy, hn⟩ := fv_mant hy hb
  have h1 := div_right dx dy hn
  rw [vx, vy] at h1
  exact right_exact h1 (Nat.pos_of_ne_zero hb) h k
theorem cmp_fv {x y : UInt64} {a b : Nat} (hx : Fv x a) (hy : Fv y b) : cmp x y = some (compare a b) := by
  obtain ⟨m, e, dx, vx⟩ := hx.dec
  obtain ⟨n, f, dy, vy⟩ := hy.dec
  rw [cmp_right dx dy, vx, vy]
  congr 1
  rcases Nat.lt_trichotomy a b with h | h | h
  · rw [Int.compare_eq_lt.mpr (by omega), Nat.compare_eq_lt.mpr h]
  · rw [Int.compare_eq_eq.mpr (by omega), Nat.compare_eq_eq.mpr h]
  · rw [Int.compare_eq_gt.mpr (by omega), Nat.compare_eq_gt.mpr h]
theorem eqF_fv {x y : UInt64} {a b : Nat} (hx : Fv x a) (hy : Fv y b) : eqF x y = decide (a = b) := by
  unfold eqF
  rw [cmp_fv hx hy]
  rcases Nat.lt_trichotomy a b with h | h | h
  · rw [Nat.compare_eq_lt.mpr h, decide_eq_false (by omega)]; rfl
  · rw [Nat.compare_eq_eq.mpr h, decide_eq_true h]; rfl
  · rw [Nat.compare_eq_gt.mpr h, decide_eq_false (by omega)]; rfl
theorem gtF_fv {x y : UInt64} {a b : Nat} (hx : Fv x a) (hy : Fv y b) : gtF x y = decide (b < a) := by
  unfold gtF
  rw [cmp_fv hx hy]
  rcases Nat.lt_trichotomy a b with h | h | h
  · rw [Nat.compare_eq_lt.mpr h, decide_eq_false (by omega)]; rfl
  · rw [Nat.compare_eq_eq.mpr h, decide_eq_false (by omega)]; rfl
  · rw [Nat.compare_eq_gt.mpr h, decide_eq_true h]; rfl
theorem ltF_fv {x y : UInt64} {a b : Nat} (hx : Fv x a) (hy : Fv y b) : ltF x y = decide (a < b) := by
  unfold ltF
  rw [cmp_fv hx hy]
  rcases Nat.lt_trichotomy a b with h | h | h
  · rw [Nat.compare_eq_lt.mpr h, decide_eq_true h]; rfl
  · rw [Nat.compare_eq_eq.mpr h, decide_eq_false (by omega)]; rfl
  · rw [Nat.compare_eq_gt.mpr h, decide_eq_false (by omega)]; rfl
theorem isZero_fv {x : UInt64} {a : Nat} (hx : Fv x a) (ha : a ≠ 0) : isZero x = false := by
  obtain ⟨m, e, dx, _, hm⟩ := fv_mant hx ha
  unfold isZero
  rw [dx]
  cases m with
  | zero => exact absurd rfl hm
  | succ m => rfl
theorem isInf_fv {x : UInt64} {a : Nat} (hx : Fv x a) : isInf x = false := by
  obtain ⟨m, e, dx, _⟩ := hx.dec
  unfold isInf; rw [dx]
theorem isFinite_fv {x : UInt64} {a : Nat} (hx : Fv x a) : isFinite x = true := by
  obtain ⟨m, e, dx, _⟩ := hx.dec
  unfold isFinite; rw [dx]
end

end Pfv

section Pfh
noncomputable abbrev e8 (c : Nat) : UInt64 := idiv (c : Int) 8
noncomputable abbrev q13 (n : Nat) : UInt64 := idiv (n : Int) 8192
theorem e8_fv {c : Nat} (h : c ≤ 8) : Fv (e8 c) (c * 2 ^ 1071) := by
  refine frac_fv (by decide) ?_ (rep_pow 1071 c (by omega) (by omega))
  show c * 2 ^ 1074 = c * 2 ^ 1071 * 8
  rw [Nat.mul_assoc, show (8 : Nat) = 2 ^ 3 from rfl, ← Nat.pow_add]
theorem q13_fv {n : Nat} (h : n ≤ 2 ^ 53) : Fv (q13 n) (n * 2 ^ 1061) := by
  refine frac_fv (by decide) ?_ (rep_pow 1061 n h (by omega))
  show n * 2 ^ 1074 = n * 2 ^ 1061 * 8192
  rw [Nat.mul_assoc, show (8192 : Nat) = 2 ^ 13 from rfl, ← Nat.pow_add]
theorem p61 {a b : Nat} : decide (a * 2 ^ 1061 < b * 2 ^ 1061) = decide (a < b) := decide_eq_decide.mpr (Nat.mul_lt_mul_right (Nat.two_pow_pos _))
theorem q13_sub {a b : Nat} (ha : a ≤ 2 ^ 53) (hb : b ≤ a) : Fv (Float64.sub (q13 a) (q13 b)) ((a - b) * 2 ^ 1061) := by
  have e : (a - b) * 2 ^ 1061 = a * 2 ^ 1061 - b * 2 ^ 1061 := Nat.sub_mul _ _ _
  rw [e]
  exact sub_fv (q13_fv ha) (q13_fv (by omega)) (Nat.mul_le_mul_right _ hb) (by rw [← e]; exact rep_pow _ _ (by omega) (by omega))
theorem q13_gt {a b : Nat} (ha : a ≤ 2 ^ 53) (hb : b ≤ 2 ^ 53) : gtF (q13 a) (q13 b) = decide (b < a) := by
  rw [gtF_fv (q13_fv ha) (q13_fv hb), p61]
theorem q13_lt {a b : Nat} (ha : a ≤ 2 ^ 53) (hb : b ≤ 2 ^ 53) : ltF (q13 a) (q13 b) = decide (a < b) := by
  rw [ltF_fv (q13_fv ha) (q13_fv hb), p61]
theorem q13_eq {a b : Nat} (ha : a ≤ 2 ^ 53) (hb : b ≤ 2 ^ 53) : eqF (q13 a) (q13 b) = decide (a = b) := by
  rw [eqF_fv (q13_fv ha) (q13_fv hb)]
  exact decide_eq_decide.mpr ⟨fun h => Nat.eq_of_mul_eq_mul_right (Nat.two_pow_pos _) h, fun h => h ▸ rfl⟩
theorem best_max {a b c : Nat} (ha : a ≤ 2 ^ 53) (hb : b ≤ 2 ^ 53) (hc : c ≤ 2 ^ 53) : best3 gtF (q13 a) (q13 b) (q13 c) = q13 (max a (max b c)) := by
  unfold best3
  rw [q13_gt hb ha]
  by_cases h1 : a < b
  · simp only [decide_eq_true h1, if_true]
    rw [q13_gt hc hb]
    by_cases h2 : b < c
    · rw [decide_eq_true h2, if_pos rfl, show max a (max b c) = c by omega]
    · rw [decide_eq_false h2, if_neg (by simp), show max a (max b c) = b by omega]
  · simp only [decide_eq_false h1, Bool.false_eq_true, if_false]
    rw [q13_gt hc ha]
    by_cases h2 : a < c
    · rw [decide_eq_true h2, if_pos rfl, show max a (max b c) = c by omega]
    · rw [decide_eq_false h2, if_neg (by simp), show max a (max b c) = a by omega]
theorem best_min {a b c : Nat} (ha : a ≤ 2 ^ 53) (hb : b ≤ 2 ^ 53) (hc : c ≤ 2 ^ 53) : best3 ltF (q13 a) (q13 b) (q13 c) = q13 (min a (min b c)) := by
  unfold best3
  rw [q13_lt hb ha]
  by_cases h1 : b < a
  · simp only [decide_eq_true h1, if_true]
    rw [q13_lt hc hb]
    by_cases h2 : c < b
    · rw [decide_eq_true h2, if_pos rfl, show min a (min b c) = c by omega]
    · rw [decide_eq_false h2, if_neg (by simp), show min a (min b c) = b by omega]
  · simp only [decide_eq_false h1, Bool.false_eq_true, if_false]
    rw [q13_lt hc ha]
    by_cases h2 : c < a
    · rw [decide_eq_true h2, if_pos rfl, show min a (min b c) = c by omega]
    · rw [decide_eq_false h2, if_neg (by simp), show min a (min b c) = a by omega]
/-- a part's way below the greatest, in eighths of the range -/
theorem eighth {M T c : Nat} (hT : 1 ≤ T) (hM : 8 * T ≤ M) (h2 : M ≤ 2 ^ 53) (hc : c ≤ 8) : Float64.div (Float64.sub (q13 M) (q13 (M - T * c))) (Float64.sub (q13 M) (q13 (M - 8 * T))) = e8 c := by
  have hcT : T * c ≤ 8 * T := by rw [Nat.mul_comm 8]; exact Nat.mul_le_mul_left _ hc
  have h1 := q13_sub h2 (Nat.sub_le M (T * c))
  have h3 := q13_sub h2 (Nat.sub_le M (8 * T))
  rw [show M - (M - T * c) = T * c by omega] at h1
  rw [show M - (M - 8 * T) = 8 * T by omega] at h3
  refine (div_fv h1 h3 (Nat.ne_of_gt (Nat.mul_pos (by omega) (Nat.two_pow_pos _))) ?_ (e8_fv hc).rep).uniq (e8_fv hc)
  have e : (2 : Nat) ^ 1074 = 8 * 2 ^ 1071 := by rw [show (8 : Nat) = 2 ^ 3 from rfl, ← Nat.pow_add]
  rw [e]
  generalize (2 : Nat) ^ 1071 = K
  generalize (2 : Nat) ^ 1061 = K2
  ac_rfl
/-- the hue's sixth out of the ways below the greatest -/
noncomputable def hueE (c0 c1 c2 : Nat) : UInt64 :=
  if c0 = 0 then Float64.sub (e8 c2) (e8 c1)
  else if c1 = 0 then Float64.sub (Float64.add F2 (e8 c0)) (e8 c2)
  else Float64.sub (Float64.add F4 (e8 c1)) (e8 c0)
theorem hue_chain {M T c0 c1 c2 : Nat} (hT : 1 ≤ T) (hM : 8 * T ≤ M) (h2 : M ≤ 2 ^ 53) (b0 : c0 ≤ 8) (b1 : c1 ≤ 8) (b2 : c2 ≤ 8) :
    rgbH (q13 (M - T * c0)) (q13 (M - T * c1)) (q13 (M - T * c2)) (q13 M) (q13 (M - 8 * T)) = hueE c0 c1 c2 := by
  have hz : ∀ c, c ≤ 8 → (M - T * c = M ↔ c = 0) := fun c hc => by
    have hcT : T * c ≤ 8 * T := by rw [Nat.mul_comm 8]; exact Nat.mul_le_mul_left _ hc
    constructor
    · intro h
      rcases Nat.eq_zero_or_pos c with e | e
      · exact e
      · have := Nat.mul_pos hT e; omega
    · intro h; rw [h]; simp
  unfold rgbH hueE
  rw [eighth hT hM h2 b0, eighth hT hM h2 b1, eighth hT hM h2 b2, q13_eq (by omega) h2, q13_eq (by omega) h2]
  by_cases e0 : c0 = 0
  · rw [decide_eq_true ((hz c0 b0).mpr e0), if_pos rfl, if_pos e0]
  · rw [decide_eq_false (fun h => e0 ((hz c0 b0).mp h)), if_neg (by simp), if_neg e0]
    by_cases e1 : c1 = 0
    · rw [decide_eq_true ((hz c1 b1).mpr e1), if_pos rfl, if_pos e1]
    · rw [decide_eq_false (fun h => e1 ((hz c1 b1).mp h)), if_neg (by simp), if_neg e1]
/-- the hue that is read off -/
noncomputable def hueF (c0 c1 c2 : Nat) : UInt64 := (Float64.divmod (Float64.div (hueE c0 c1 c2) F6) F1).2
noncomputable def hueOk (H : UInt64) (place : Int) : Bool :=
  wholeOk (Float64.mul H (Float64.ofInt 48)) && wholeF (Float64.mul H (Float64.ofInt 48)) == place && (Float64.cmpInt H 0 == some Ordering.gt || Float64.cmpInt H 0 == some Ordering.eq) && Float64.cmpInt H 1 == some Ordering.lt
/-- the clipped way of a channel from a place on the wheel -/
noncomputable def wayN (place k : Nat) : Nat := (clipI (farI place k)).toNat
noncomputable def placeOk (place : Nat) : Bool :=
  (wayN place 0 ≤ 8 && wayN place 1 ≤ 8 && wayN place 2 ≤ 8) && (min (wayN place 0) (min (wayN place 1) (wayN place 2)) == 0) && (max (wayN place 0) (max (wayN place 1) (wayN place 2)) == 8) && hueOk (hueF (wayN place 0) (wayN place 1) (wayN place 2)) place
theorem places_ok : (List.range 48).all placeOk = true := by decide +kernel
theorem place_ok {place : Nat} (h : place < 48) : placeOk place = true := List.all_eq_true.mp places_ok place (List.mem_range.mpr h)
/-- the clipped ways of a kind's paint, added up -/
noncomputable def sumI (hue kind k : Int) : Int := if kind = 0 then clipI (farI hue k) else if kind = 2 then clipI (farI (hue + 16) k) else clipI (farI hue k) + clipI (farI (hue + 16) k)
noncomputable def placeN (hue kind : Nat) : Nat := (hue + 8 * kind) % 48
noncomputable def lowN (hue kind : Nat) : Nat := (min (sumI hue kind 0) (min (sumI hue kind 1) (sumI hue kind 2))).toNat
noncomputable def kindOk (hue kind : Nat) : Bool :=
  (sumI hue kind 0 == (lowN hue kind : Int) + wayN (placeN hue kind) 0) && (sumI hue kind 1 == (lowN hue kind : Int) + wayN (placeN hue kind) 1) && (sumI hue kind 2 == (lowN hue kind : Int) + wayN (placeN hue kind) 2) && lowN hue kind ≤ (if kind = 1 then 8 else 0)
theorem kinds_ok : (List.range 48).all (fun hue => (List.range 3).all fun kind => kindOk hue kind) = true := by decide +kernel
theorem kind_ok {hue kind : Nat} (h : hue < 48) (k : kind < 3) : kindOk hue kind = true := List.all_eq_true.mp (List.all_eq_true.mp kinds_ok hue (List.mem_range.mpr h)) kind (List.mem_range.mpr k)

end Pfh

section Pfn
open PySem.Float64 in
/-- a float not below nought, within e of W, in 2^-1074 -/
noncomputable def Near (x : UInt64) (W e : Nat) : Prop := ∃ W', Fv x W' ∧ dist W' W ≤ e
section
open PySem.Float64
theorem Fv.near {x : UInt64} {W : Nat} (h : Fv x W) : Near x W 0 := ⟨W, h, by rw [dist_self]; exact Nat.le_refl _⟩
theorem Near.mono {x : UInt64} {W e e' : Nat} (h : Near x W e) (k : e ≤ e') : Near x W e' := by
  obtain ⟨W', f, v⟩ := h; exact ⟨W', f, Nat.le_trans v k⟩
theorem right_near0 {r : UInt64} {neg : Bool} {D N W e : Nat} (h : Right r neg N D) (hD : 0 < D) (k : Rep W) (hd : dist N (D * W) ≤ D * e) (hs : 2 * (W + e) < (2 ^ 54 - 1) * 2 ^ 2045) : ∃ t, r = pack neg t ∧ t < infMag ∧ dist N (D * V t) ≤ D * e := by
  obtain ⟨u, hu, rfl⟩ := k
  obtain ⟨t, rfl, ht, hov, hn⟩ := h
  have hlt : t < infMag := by
    rcases Nat.lt_or_ge t infMag with q | q
    · exact q
    · have e1 := hov.mp (by omega)
      have q1 := Nat.mul_lt_mul_of_pos_left hs hD
      have q2 : 2 * N ≤ D * (2 * (V u + e)) := by
        have : N ≤ D * V u + D * e := (dist_iff.mp hd).1
        rw [Nat.mul_left_comm, Nat.mul_add]; omega
      omega
  exact ⟨t, rfl, hlt, Nat.le_trans (hn hlt u).1 hd⟩
theorem dist_tri (a b c : Nat) : dist a c ≤ dist b a + dist b c := by
  obtain ⟨h1, h2⟩ := dist_iff.mp (Nat.le_refl (dist b a))
  obtain ⟨h3, h4⟩ := dist_iff.mp (Nat.le_refl (dist b c))
  generalize dist b a = x at *
  generalize dist b c = y at *
  exact dist_iff.mpr ⟨by omega, by omega⟩
/-- what is rounded stays within twice the way to a number that a float can be -/
theorem right_near {r : UInt64} {D N W e : Nat} (h : Right r false N D) (hD : 0 < D) (k : Rep W) (hd : dist N (D * W) ≤ D * e) (hs : 2 * (W + e) < (2 ^ 54 - 1) * 2 ^ 2045) : Near r W (2 * e) := by
  obtain ⟨t, rfl, hlt, q⟩ := right_near0 h hD k hd hs
  refine ⟨_, ⟨t, rfl, hlt, rfl⟩, ?_⟩
  have hh : dist (D * V t) (D * W) ≤ D * (2 * e) := by
    rw [Nat.mul_left_comm]
    have := dist_tri (D * V t) N (D * W)
    omega
  rw [dist_mul] at hh
  exact Nat.le_of_mul_le_mul_left hh hD
theorem lid {W e : Nat} (h1 : W ≤ 2 ^ 1100) (h2 : e ≤ 2 ^ 1100) : 2 * (W + e) < (2 ^ 54 - 1) * 2 ^ 2045 := by
  have : 2 * (2 ^ 1100 + 2 ^ 1100) < (2 ^ 54 - 1) * 2 ^ 2045 := by decide +kernel
  omega
theorem near_mul {x y : UInt64} {W b e W2 e2 : Nat} (hx : Near x W e) (hy : Fv y b) (h : W * b = 2 ^ 1074 * W2) (k : Rep W2) (he : e * b ≤ 2 ^ 1074 * e2) (h1 : W2 ≤ 2 ^ 1100) (h2 : e2 ≤ 2 ^ 1100) : Near (mul x y) W2 (2 * e2) := by
  obtain ⟨W', hx, hd⟩ := hx
  obtain ⟨m, f, dx, vx⟩ := hx.dec
  obtain ⟨n, g, dy, vy⟩ := hy.dec
  have r := mul_right dx dy
  rw [vx, vy] at r
  refine right_near r (Nat.two_pow_pos _) k ?_ (lid h1 h2)
  show dist (W' * b) _ ≤ _
  rw [← h, Nat.mul_comm W', Nat.mul_comm W, dist_mul]
  exact Nat.le_trans (Nat.mul_le_mul_left _ hd) (by rw [Nat.mul_comm]; exact he)
theorem near_div {x y : UInt64} {W b e W2 e2 : Nat} (hx : Near x W e) (hy : Fv y b) (hb : b ≠ 0) (h : W * 2 ^ 1074 = b * W2) (k : Rep W2) (he : e * 2 ^ 1074 ≤ b * e2) (h1 : W2 ≤ 2 ^ 1100) (h2 : e2 ≤ 2 ^ 1100) : Near (div x y) W2 (2 * e2) := by
  obtain ⟨W', hx, hd⟩ := hx
  obtain ⟨m, f, dx, vx⟩ := hx.dec
  obtain ⟨n, g, dy, vy, hn⟩ := fv_mant hy hb
  have r := div_right dx dy hn
  rw [vx, vy] at r
  refine right_near r (Nat.pos_of_ne_zero hb) k ?_ (lid h1 h2)
  show dist (W' * 2 ^ 1074) (b * W2) ≤ b * e2
  rw [← h, Nat.mul_comm W', Nat.mul_comm W, dist_mul]
  exact Nat.le_trans (Nat.mul_le_mul_left _ hd) (by rw [Nat.mul_comm]; exact he)
theorem near_add {x y : UInt64} {W b e : Nat} (hx : Near x W e) (hy : Fv y b) (k : Rep (W + b)) (h1 : W + b ≤ 2 ^ 1100) (h2 : e ≤ 2 ^ 1100) (h0 : e < b) : Near (add x y) (W + b) (2 * e) := by
  obtain ⟨W', hx, hd⟩ := hx
  obtain ⟨m, f, dx, vx⟩ := hx.dec
  obtain ⟨n, g, dy, vy⟩ := hy.dec
  obtain ⟨_, r⟩ := add_right dx dy
  rw [vx, vy] at r
  have r := r (by omega)
  rw [decide_eq_false (by omega), show ((W' : Int) + b).natAbs = W' + b by omega] at r
  refine right_near (D := 1) r Nat.one_pos k ?_ (lid h1 h2)

  have := dist_iff.mp hd
  exact dist_iff.mpr ⟨by omega, by omega⟩
theorem int_fv {n : Nat} (h : n ≤ 2 ^ 53) : Fv (ofInt (n : Int)) (n * 2 ^ 1074) := by
  have e : ofInt (n : Int) = ofFrac false n 1 := by unfold ofInt; rw [decide_eq_false (by omega), Int.natAbs_natCast]
  rw [e]
  refine frac_fv (d := 1) Nat.one_pos ?_ (rep_pow 1074 n h (by omega))
  show n * 2 ^ 1074 = n * 2 ^ 1074 * 1
  omega
/-- the whole part -/
theorem trunc_fv {x : UInt64} {W : Nat} (h : Fv x W) : Flt.toInt truncOf x = ((W / 2 ^ 1074 : Nat) : Int) := by
  obtain ⟨m, e, d, v⟩ := h.dec
  have he := decode_ge d
  have hw := val_natAbs d
  rw [v, Int.natAbs_natCast] at hw
  rw [Flt.toInt_fin d, hw]
  show floorOf false m e = _
  unfold floorOf
  split
  · rename_i h
    have e1 : (e + 1074).toNat = e.toNat + 1074 := by omega
    rw [e1, Nat.pow_add, ← Nat.mul_assoc, Nat.mul_div_cancel _ (Nat.two_pow_pos _)]
    show (m : Int) * 2 ^ e.toNat = _
    rw [Int.natCast_mul, Int.natCast_pow]; rfl
  · rename_i h
    have e1 : 1074 = (-e).toNat + (e + 1074).toNat := by omega
    have e2 : (2 : Nat) ^ 1074 = 2 ^ (-e).toNat * 2 ^ (e + 1074).toNat := by rw [← Nat.pow_add, ← e1]
    rw [e2, Nat.mul_div_mul_right _ _ (Nat.two_pow_pos _)]
    show (m : Int).fdiv (2 ^ (-e).toNat) = _
    have e3 : ((2 : Int) ^ (-e).toNat) = ((2 ^ (-e).toNat : Nat) : Int) := by rw [Int.natCast_pow]; rfl
    rw [e3, Int.fdiv_eq_ediv_of_nonneg _ (Int.natCast_nonneg _)]
    rfl
theorem abs_pack (neg : Bool) {t : Nat} (h : t < infMag) : abs (pack neg t) = pack false t := by
  have hi : infMag = 2047 * 2 ^ 52 := rfl
  have hn := pack_toNat neg (t := t) (by omega)
  unfold abs
  rw [isNaN_pack neg (Nat.le_of_lt h), if_neg Bool.false_ne_true, hn]
  congr 1
  cases neg
  · simp; omega
  · simp; omega
theorem near_sub {x y : UInt64} {W J : Nat} (h : Near x W J) (hy : Fv y W) (hJ : J ≤ 2 ^ 1100) : ∃ neg t, t < infMag ∧ sub x y = pack neg t ∧ V t ≤ 2 * J := by
  obtain ⟨W', fx, dx⟩ := h
  obtain ⟨m, f, dd, v⟩ := fx.dec
  obtain ⟨m2, f2, dd2, v2⟩ := hy.dec
  obtain ⟨z0, z1⟩ := sub_right dd dd2
  rw [v, v2] at z0 z1
  by_cases e0 : (W' : Int) - (W : Int) = 0
  · refine ⟨false, 0, by decide, ?_, by rw [V_zero]; exact Nat.zero_le _⟩
    rw [z0 e0]; rfl
  · obtain ⟨t, e1, e2, e3⟩ := right_near0 (W := 0) (e := J) (z1 e0) Nat.one_pos rep_zero (by have q := dist_iff.mp dx; exact dist_iff.mpr ⟨by omega, by omega⟩) (lid (Nat.zero_le _) hJ)
    exact ⟨_, t, e2, e1, by have q := dist_iff.mp e3; have q0 := dist_iff.mp dx; omega⟩
/-- a float near a whole number reads as that number -/
theorem whole_near {x : UInt64} {n : Nat} (h : Near x (n * 2 ^ 1074) (2 ^ 1040)) (hn : n ≤ 100) : wholeOk x = true ∧ wholeF x = n := by
  have c1 : n * 2 ^ 1074 ≤ 100 * 2 ^ 1074 := Nat.mul_le_mul_right _ hn
  have b0 : (100 : Nat) * 2 ^ 1074 * 2 + 2 ^ 1074 ≤ 2 ^ 1100 := by decide +kernel
  have b1 : (2 : Nat) ^ 1043 < 2 ^ 1074 := by decide +kernel
  have b2 : (2 : Nat) ^ 1041 ≤ 2 ^ 1100 := by decide +kernel
  have b3 : (2 : Nat) ^ 1042 ≤ 2 ^ 1100 := by decide +kernel
  have b4 : (2 : Nat) ^ 1041 = 2 ^ 1040 * 2 := by rw [Nat.pow_succ]
  have b5 : (2 : Nat) ^ 1042 = 2 ^ 1041 * 2 := by rw [Nat.pow_succ]
  have b6 : (2 : Nat) ^ 1043 = 2 ^ 1042 * 2 := by rw [Nat.pow_succ]
  have k2 : Near (mul x (ofInt 2)) (n * 2 * 2 ^ 1074) (2 * 2 ^ 1041) := by
    refine near_mul h (int_fv (n := 2) (by decide)) ?_ (rep_pow 1074 (n * 2) (by omega) (by omega)) ?_ ?_ b2
    · generalize (2 : Nat) ^ 1074 = K; ac_rfl
    · rw [b4]; generalize (2 : Nat) ^ 1074 = K; generalize (2 : Nat) ^ 1040 = J
      exact Nat.le_of_eq (by ac_rfl)
    · rw [Nat.mul_right_comm]; omega
  have k3 : Near (add (mul x (ofInt 2)) (ofInt 1)) (n * 2 * 2 ^ 1074 + 1 * 2 ^ 1074) (2 * 2 ^ 1042) := by
    refine near_add (k2.mono (e' := 2 ^ 1042) (by omega)) (int_fv (n := 1) (by decide)) ?_ ?_ b3 (by omega)
    · rw [← Nat.add_mul]; exact rep_pow 1074 (n * 2 + 1) (by omega) (by omega)
    · rw [Nat.mul_right_comm]; omega
  obtain ⟨W3, f3, d3⟩ := k3
  have t3 : nearF x = n := by
    show (Flt.toInt truncOf (add (mul x (ofInt 2)) (ofInt 1))).fdiv 2 = _
    rw [trunc_fv f3]
    have q1 : n * 2 * 2 ^ 1074 ≤ W3 := by have d4 := dist_iff.mp d3; omega
    have q2 : W3 < (n * 2 + 2) * 2 ^ 1074 := by rw [Nat.add_mul]; have d4 := dist_iff.mp d3; omega
    have q3 : n * 2 ≤ W3 / 2 ^ 1074 := (Nat.le_div_iff_mul_le (Nat.two_pow_pos _)).mpr q1
    have q4 : W3 / 2 ^ 1074 < n * 2 + 2 := (Nat.div_lt_iff_lt_mul (Nat.two_pow_pos _)).mpr q2
    rw [Int.fdiv_eq_ediv_of_nonneg _ (by decide)]
    omega
  constructor
  · unfold wholeOk
    rw [isFinite_fv f3, t3]
    simp; omega
  · unfold wholeF
    rw [t3]
    have r9 : Fv (ofInt (2 ^ Int.toNat 30)) (2 ^ 30 * 2 ^ 1074) := int_fv (n := 2 ^ 30) (by decide)
    have key : ∃ W, Fv (mul (abs (sub x (ofInt n))) (ofInt (2 ^ Int.toNat 30))) W ∧ W < 2 ^ 1074 := by
      obtain ⟨W', fx, dx⟩ := h
      have ab := near_sub ⟨W', fx, dx⟩ (int_fv (n := n) (by omega)) (Nat.le_trans (Nat.pow_le_pow_right (by decide) (by decide)) b2)
      obtain ⟨neg, t, ht, es, hV⟩ := ab
      rw [es, abs_pack _ ht]
      rw [← Nat.mul_comm, ← b4] at hV
      have nt : Near (pack false t) 0 (2 ^ 1041) := ⟨V t, ⟨t, rfl, ht, rfl⟩, dist_iff.mpr ⟨by omega, by omega⟩⟩
      have b8 : (2 : Nat) ^ 1041 * (2 ^ 30 * 2 ^ 1074) = 2 ^ 1074 * 2 ^ 1071 := by rw [← Nat.pow_add, ← Nat.pow_add, ← Nat.pow_add]
      have b9 : (2 : Nat) ^ 1072 = 2 * 2 ^ 1071 := by rw [Nat.pow_succ, Nat.mul_comm]
      have b10 : (2 : Nat) ^ 1074 = 4 * 2 ^ 1072 := by rw [Nat.pow_add 2 2 1072]
      obtain ⟨W9, f9, d9⟩ := near_mul nt r9 (W2 := 0) (e2 := 2 ^ 1071) (by rw [Nat.zero_mul, Nat.mul_zero]) rep_zero (Nat.le_of_eq b8) (Nat.zero_le _) (by omega)
      exact ⟨W9, f9, by have d8 := dist_iff.mp d9; omega⟩
    obtain ⟨W, fw, hw⟩ := key
    obtain ⟨m, f, dd, v⟩ := fw.dec
    rw [cmpInt_right dd, v]
    have e1 : (1 : Int) * 2 ^ 1074 = ((2 ^ 1074 : Nat) : Int) := by rw [Int.natCast_pow, Int.one_mul]; rfl
    rw [e1, Int.compare_eq_lt.mpr (Int.ofNat_lt.mpr hw)]
    rfl
end

end Pfn

section Pfs
section
open PySem.Float64
theorem size_chain {M T once size : Nat} (hT : T = once * size) (o1 : 1 ≤ once) (o2 : once ≤ 16) (s1 : 1 ≤ size) (s2 : size ≤ 63) (hM : 8 * T ≤ M) (h2 : M ≤ 2 ^ 14) :
    Near (div (mul (mul (div (sub (q13 M) (q13 (M - 8 * T))) (q13 M)) (q13 M)) (ofInt 1024)) (ofInt once)) (size * 2 ^ 1074) (2 ^ 1040) := by
  have hT1 : 1 ≤ T := by rw [hT]; exact Nat.mul_pos o1 s1
  have hT2 : T ≤ 1008 := by rw [hT]; exact Nat.mul_le_mul o2 s2
  have hMf := q13_fv (n := M) (by omega)
  have hR := q13_sub (a := M) (b := M - 8 * T) (by omega) (by omega)
  rw [show M - (M - 8 * T) = 8 * T by omega] at hR
  generalize sub (q13 M) (q13 (M - 8 * T)) = R at hR ⊢
  generalize q13 M = X at hMf ⊢
  -- the powers
  have p1 : (2 : Nat) ^ 1074 = 2 ^ 53 * 2 ^ 1021 := by rw [← Nat.pow_add]
  have p2 : (2 : Nat) ^ 1074 = 8192 * 2 ^ 1061 := by rw [show (8192 : Nat) = 2 ^ 13 from rfl, ← Nat.pow_add]
  have p3 : (2 : Nat) ^ 1074 = 1024 * 2 ^ 1064 := by rw [show (1024 : Nat) = 2 ^ 10 from rfl, ← Nat.pow_add]
  have p4 : (2 : Nat) ^ 1064 = 8 * 2 ^ 1061 := by rw [show (8 : Nat) = 2 ^ 3 from rfl, ← Nat.pow_add]
  have p5 : (2 : Nat) ^ 1040 = 524288 * 2 ^ 1021 := by rw [show (524288 : Nat) = 2 ^ 19 from rfl, ← Nat.pow_add]
  have rS := rep_pow 1021 (8 * T * 2 ^ 53 / M) (Nat.div_le_of_le_mul (by rw [Nat.mul_comm M, Nat.mul_comm (8 * T)]; exact Nat.mul_le_mul_left _ hM)) (by omega)
  have rP := rep_pow 1064 T (by omega) (by omega)
  have rT := rep_pow 1074 T (by omega) (by omega)
  have rz := rep_pow 1074 size (by omega) (by omega)
  have l1 : (2 : Nat) ^ 1100 = 67108864 * 2 ^ 1074 := by rw [show (67108864 : Nat) = 2 ^ 26 from rfl, ← Nat.pow_add]
  have l2 : (2 : Nat) ^ 1074 = 9007199254740992 * 2 ^ 1021 := p1
  have l0 : 0 < (2 : Nat) ^ 1021 := Nat.two_pow_pos _
  have l9 : 0 < (2 : Nat) ^ 1061 := Nat.two_pow_pos _
  have hof := int_fv (n := once) (by omega)
  have h10 := int_fv (n := 1024) (by decide)
  have hlid : ∀ {W e : Nat}, W ≤ 2 ^ 1100 → e ≤ 2 ^ 1100 → 2 * (W + e) < (2 ^ 54 - 1) * 2 ^ 2045 := lid
  have hdiv : ∀ {x y : UInt64} {a b : Nat}, Fv x a → Fv y b → b ≠ 0 → Right (div x y) false (a * 2 ^ 1074) b := fun hx hy hb => by
    obtain ⟨m, e, dx, vx⟩ := hx.dec
    obtain ⟨n, f, dy, vy, hn⟩ := fv_mant hy hb
    have h1 := div_right dx dy hn
    rw [vx, vy] at h1
    exact h1
  have hmul : ∀ {x y : UInt64} {a b : Nat}, Fv x a → Fv y b → Right (mul x y) false (a * b) (2 ^ 1074) := fun hx hy => by
    obtain ⟨m, e, dx, vx⟩ := hx.dec
    obtain ⟨n, f, dy, vy⟩ := hy.dec
    have h1 := mul_right dx dy
    rw [vx, vy] at h1
    exact h1
  have hM0 : M * 2 ^ 1061 ≠ 0 := Nat.ne_of_gt (Nat.mul_pos (by omega) l9)
  have hdm := Nat.div_add_mod (8 * T * 2 ^ 53) M
  have hml := Nat.mod_lt (8 * T * 2 ^ 53) (show 0 < M by omega)
  generalize 8 * T * 2 ^ 53 / M = Q at *
  generalize 8 * T * 2 ^ 53 % M = Z at *
  have hQ : Q ≤ 2 ^ 53 := by
    rcases Nat.lt_or_ge (2 ^ 53) Q with q | q
    · have a1 : M * (2 ^ 53 + 1) ≤ M * Q := Nat.mul_le_mul_left _ q
      rw [Nat.mul_add] at a1
      omega
    · exact q
  obtain ⟨t, eS, ht, dS⟩ := right_near0 (e := 2 ^ 1021) (hdiv hR hMf hM0) (Nat.pos_of_ne_zero hM0) rS (by
      have e1 : 8 * T * 2 ^ 1061 * 2 ^ 1074 = (2 ^ 1061 * 2 ^ 1021) * (8 * T * 2 ^ 53) := by rw [p1]; generalize (2 : Nat) ^ 1061 = A; generalize (2 : Nat) ^ 1021 = B; generalize (2 : Nat) ^ 53 = C; ac_rfl
      have e2 : M * 2 ^ 1061 * (Q * 2 ^ 1021) = (2 ^ 1061 * 2 ^ 1021) * (M * Q) := by generalize (2 : Nat) ^ 1061 = A; generalize (2 : Nat) ^ 1021 = B; ac_rfl
      have e3 : M * 2 ^ 1061 * 2 ^ 1021 = (2 ^ 1061 * 2 ^ 1021) * M := by generalize (2 : Nat) ^ 1061 = A; generalize (2 : Nat) ^ 1021 = B; ac_rfl
      rw [e1, e2, e3, dist_mul]
      refine Nat.mul_le_mul_left _ ?_
      exact dist_iff.mpr ⟨by omega, by omega⟩) (hlid (by rw [l1, l2]; have := Nat.mul_le_mul_right (2 ^ 1021) hQ; omega) (by rw [l1, l2]; omega))
  have fS : Fv (div R X) (V t) := ⟨t, eS, ht, rfl⟩
  generalize div R X = S at fS ⊢
  generalize V t = v at fS dS
  have dS2 : dist (8 * T * 2 ^ 1074) (M * v) ≤ M * 2 ^ 1021 := by
    have e1 : 8 * T * 2 ^ 1061 * 2 ^ 1074 = 2 ^ 1061 * (8 * T * 2 ^ 1074) := by generalize (2 : Nat) ^ 1061 = A; generalize (2 : Nat) ^ 1074 = B; ac_rfl
    have e2 : M * 2 ^ 1061 * v = 2 ^ 1061 * (M * v) := by generalize (2 : Nat) ^ 1061 = A; ac_rfl
    have e3 : M * 2 ^ 1061 * 2 ^ 1021 = 2 ^ 1061 * (M * 2 ^ 1021) := by generalize (2 : Nat) ^ 1061 = A; generalize (2 : Nat) ^ 1021 = B; ac_rfl
    rw [e1, e2, e3, dist_mul] at dS
    exact Nat.le_of_mul_le_mul_left dS l9
  clear eS dS
  have nP : Near (mul S X) (T * 2 ^ 1064) (2 * (2 * 2 ^ 1021)) := by
    refine right_near (hmul fS hMf) (Nat.two_pow_pos _) rP ?_ (hlid ?_ (by rw [l1, l2]; omega))
    · have e1 : v * (M * 2 ^ 1061) = 2 ^ 1061 * (M * v) := by generalize (2 : Nat) ^ 1061 = A; ac_rfl
      have e2 : 2 ^ 1074 * (T * 2 ^ 1064) = 2 ^ 1061 * (8 * T * 2 ^ 1074) := by rw [p4]; generalize (2 : Nat) ^ 1061 = A; generalize (2 : Nat) ^ 1074 = B; ac_rfl
      have e3 : 2 ^ 1074 * (2 * 2 ^ 1021) = 2 ^ 1061 * (16384 * 2 ^ 1021) := by rw [p2]; generalize (2 : Nat) ^ 1061 = A; generalize (2 : Nat) ^ 1021 = B; rw [show (16384 : Nat) = 8192 * 2 from rfl]; ac_rfl
      rw [e1, e2, e3, dist_mul]
      refine Nat.mul_le_mul_left _ ?_
      have h3 : M * 2 ^ 1021 ≤ 16384 * 2 ^ 1021 := Nat.mul_le_mul_right _ h2
      refine Nat.le_trans ?_ (Nat.le_trans dS2 h3)
      exact Nat.le_of_eq (by unfold dist; rw [Nat.add_comm])
    · have : T * 2 ^ 1064 ≤ 1008 * 2 ^ 1064 := Nat.mul_le_mul_right _ hT2
      omega
  have nP2 : Near (mul (mul S X) (ofInt 1024)) (T * 2 ^ 1074) (2 * (4096 * 2 ^ 1021)) := by
    refine near_mul nP h10 ?_ rT ?_ ?_ ?_
    · rw [p3]; generalize (2 : Nat) ^ 1064 = A; ac_rfl
    · generalize (2 : Nat) ^ 1074 = A; generalize (2 : Nat) ^ 1021 = B
      refine Nat.le_of_eq ?_
      rw [show (4096 : Nat) = 2 * 2 * 1024 from rfl]; ac_rfl
    · have : T * 2 ^ 1074 ≤ 1008 * 2 ^ 1074 := Nat.mul_le_mul_right _ hT2
      omega
    · rw [l1, l2]; omega
  refine (near_div nP2 hof (Nat.ne_of_gt (Nat.mul_pos o1 (Nat.two_pow_pos _))) (e2 := 8192 * 2 ^ 1021) ?_ rz ?_ ?_ ?_).mono ?_
  · rw [hT]; generalize (2 : Nat) ^ 1074 = A; ac_rfl
  · generalize (2 : Nat) ^ 1074 = A; generalize (2 : Nat) ^ 1021 = B
    have h3 : 1 * (A * (8192 * B)) ≤ once * (A * (8192 * B)) := Nat.mul_le_mul_right _ o1
    have h4 : 2 * (4096 * B) * A = A * (8192 * B) := by rw [show (8192 : Nat) = 2 * 4096 from rfl]; ac_rfl
    rw [h4, Nat.mul_assoc]; omega
  · have : size * 2 ^ 1074 ≤ 63 * 2 ^ 1074 := Nat.mul_le_mul_right _ s2
    omega
  · rw [l1, l2]; omega
  · rw [p5]; omega
end

end Pfs

section Pfl
section
open PySem.Float64
/-- hsv_to_rgb's falling part -/
noncomputable def qF (f s l : Nat) : UInt64 := mul (idiv l 4) (sub F1 (mul (idiv s 4) (e8 f)))
noncomputable def pF (s l : Nat) : UInt64 := mul (idiv l 4) (sub F1 (idiv s 4))
noncomputable def partOk (x : UInt64) (v : Int) : Bool := wholeOk (mul x (ofInt 128)) && wholeF (mul x (ofInt 128)) == v
noncomputable def slOk (s l : Nat) : Bool := (List.range 9).all (fun f => partOk (qF f s l) (l * (32 - s * f))) && partOk (pF s l) (l * (32 - s * 8)) && partOk (idiv l 4) (l * 32) && !eqF (idiv s 4) 0 && !isInf (idiv s 4) && !isInf (idiv l 4)
theorem sls_ok : (List.range 4).all (fun s => (List.range 4).all fun l => slOk (s + 1) (l + 1)) = true := by decide +kernel
noncomputable def fOk (f : Nat) : Bool := sub F1 (e8 f) == e8 (8 - f)
theorem fs_ok : (List.range 9).all fOk = true := by decide +kernel
/-- a channel's way from a hue, by the sixth and the rest -/
noncomputable def wayT (i f : Nat) : Nat → Nat
  | 0 => if i = 0 then 0 else if i = 1 then f else if i = 2 then 8 else if i = 3 then 8 else if i = 4 then 8 - f else 0
  | 1 => if i = 0 then 8 - f else if i = 1 then 0 else if i = 2 then 0 else if i = 3 then f else if i = 4 then 8 else 8
  | _ => if i = 0 then 8 else if i = 1 then 8 else if i = 2 then 8 - f else if i = 3 then 0 else if i = 4 then 0 else f
noncomputable def hueB (hue : Nat) : Bool :=
  mul (idiv hue 48) F6 == idiv hue 8 && intF (idiv hue 8) == (hue / 8 : Nat) && sub (idiv hue 8) (ofInt (hue / 8 : Nat)) == e8 (hue % 8) && isFinite (idiv hue 8) && !isInf (idiv hue 48)
  && clipI (farI hue 0) == wayT (hue / 8 % 6) (hue % 8) 0 && clipI (farI hue 1) == wayT (hue / 8 % 6) (hue % 8) 1 && clipI (farI hue 2) == wayT (hue / 8 % 6) (hue % 8) 2
theorem hues_ok : (List.range 64).all hueB = true := by decide +kernel
theorem part_w {x : UInt64} {v : Int} (h : partOk x v = true) : wholeOk (mul x (ofInt 128)) = true ∧ wholeF (mul x (ofInt 128)) = v := by
  unfold partOk at h
  simp only [Bool.and_eq_true, beq_iff_eq] at h
  exact h
theorem nat_of {a : Int} {n : Int} (h0 : 0 ≤ a) (h1 : a < n) : ∃ m : Nat, a = m ∧ (m : Int) < n := ⟨a.toNat, by omega, by omega⟩
theorem paint_float {hue tot : Int} (h0 : 0 ≤ hue) (h1 : hue < 64) (ht0 : 0 ≤ tot) (ht1 : tot < 768) : ∃ a b c, PaintOk hue ((tot.fdiv 48).fmod 4 + 1) ((tot.fdiv 192).fmod 4 + 1) a b c := by
  obtain ⟨hn, rfl, h1⟩ := nat_of h0 h1
  obtain ⟨s, es, hs⟩ := nat_of (Int.fmod_nonneg_of_pos (tot.fdiv 48) (b := 4) (by decide)) (Int.fmod_lt_of_pos (tot.fdiv 48) (b := 4) (by decide))
  obtain ⟨l, el, hl⟩ := nat_of (Int.fmod_nonneg_of_pos (tot.fdiv 192) (b := 4) (by decide)) (Int.fmod_lt_of_pos (tot.fdiv 192) (b := 4) (by decide))
  rw [es, el]
  have e1 : ((s : Int) + 1) = ((s + 1 : Nat) : Int) := by omega
  have e2 : ((l : Int) + 1) = ((l + 1 : Nat) : Int) := by omega
  rw [e1, e2]
  have hsl := List.all_eq_true.mp (List.all_eq_true.mp sls_ok s (List.mem_range.mpr (by omega))) l (List.mem_range.mpr (by omega))
  have hB := List.all_eq_true.mp hues_ok hn (List.mem_range.mpr (by omega))
  generalize s + 1 = share at *
  generalize l + 1 = level at *
  simp only [slOk, Bool.and_eq_true, Bool.not_eq_true', List.all_eq_true, List.mem_range] at hsl
  obtain ⟨⟨⟨⟨⟨hq, hp⟩, hv⟩, hy⟩, is⟩, il⟩ := hsl
  simp only [hueB, Bool.and_eq_true, Bool.not_eq_true', beq_iff_eq] at hB
  obtain ⟨⟨⟨⟨⟨⟨⟨b1, b2⟩, b3⟩, b4⟩, b5⟩, b6⟩, b7⟩, b8⟩ := hB
  have hI : hsvI (idiv hn 48) = (hn / 8 : Nat) := by show intF (mul (idiv hn 48) F6) = _; rw [b1, b2]
  have hf8 : hn % 8 < 9 := by omega
  have hf : sub F1 (e8 (hn % 8)) = e8 (8 - hn % 8) := by
    have := List.all_eq_true.mp fs_ok (hn % 8) (List.mem_range.mpr hf8)
    simpa [fOk] using this
  have ok : hsvOk (idiv hn 48) (idiv share 4) = true := by
    unfold hsvOk
    rw [hI, b1, hy, b4]
    simp; omega
  have q0 := part_w (hq (hn % 8) hf8)
  have q1 := part_w (hq (8 - hn % 8) (by omega))
  have qp := part_w hp
  have qv := part_w hv
  have cq : sub (mul (idiv hn 48) F6) (ofInt (hsvI (idiv hn 48))) = e8 (hn % 8) := by rw [hI, b1]; exact b3
  have ev : ((level : Int) * (32 - share * ((0 : Nat) : Int))) = level * 32 := by simp
  have hm : (hsvI (idiv hn 48)).fmod 6 = ((hn / 8 % 6 : Nat) : Int) := by rw [hI, Int.fmod_eq_emod_of_nonneg _ (by decide)]; omega
  have h6 : hn / 8 % 6 < 6 := Nat.mod_lt _ (by decide)
  have epart : ∀ k : Int, partI hn share level k = level * (32 - share * clipI (farI hn k)) := fun _ => rfl
  have done : ∀ a b c : UInt64, hsvF (idiv hn 48) (idiv share 4) (idiv level 4) = (a, b, c) →
      (wholeOk (mul a (ofInt 128)) = true ∧ wholeF (mul a (ofInt 128)) = level * (32 - share * (wayT (hn / 8 % 6) (hn % 8) 0 : Nat))) → (wholeOk (mul b (ofInt 128)) = true ∧ wholeF (mul b (ofInt 128)) = level * (32 - share * (wayT (hn / 8 % 6) (hn % 8) 1 : Nat))) → (wholeOk (mul c (ofInt 128)) = true ∧ wholeF (mul c (ofInt 128)) = level * (32 - share * (wayT (hn / 8 % 6) (hn % 8) 2 : Nat))) →
      ∃ a b c, PaintOk hn share level a b c := fun a b c e wa wb wc =>
    ⟨a, b, c, b5, is, il, ok, e, wa.1, wb.1, wc.1, by rw [wa.2, epart, b6], by rw [wb.2, epart, b7], by rw [wc.2, epart, b8]⟩
  have q1' : wholeOk (mul (qF (8 - hn % 8) share level) (ofInt 128)) = true ∧ wholeF (mul (qF (8 - hn % 8) share level) (ofInt 128)) = level * (32 - share * ((8 - hn % 8 : Nat) : Int)) := q1
  have qv' : wholeOk (mul (idiv level 4) (ofInt 128)) = true ∧ wholeF (mul (idiv level 4) (ofInt 128)) = level * (32 - share * ((0 : Nat) : Int)) := by rw [ev]; exact qv
  have eT : mul (idiv level 4) (sub F1 (mul (idiv share 4) (sub F1 (sub (mul (idiv hn 48) F6) (ofInt (hsvI (idiv hn 48))))))) = qF (8 - hn % 8) share level := by rw [cq, hf]; rfl
  have eQ : mul (idiv level 4) (sub F1 (mul (idiv share 4) (sub (mul (idiv hn 48) F6) (ofInt (hsvI (idiv hn 48)))))) = qF (hn % 8) share level := by rw [cq]; rfl
  have cases6 : hn / 8 % 6 = 0 ∨ hn / 8 % 6 = 1 ∨ hn / 8 % 6 = 2 ∨ hn / 8 % 6 = 3 ∨ hn / 8 % 6 = 4 ∨ hn / 8 % 6 = 5 := by omega
  rcases cases6 with k | k | k | k | k | k <;> rw [k] at hm done
  · refine done _ _ _ (hsv_0 hm) qv' ?_ qp
    rw [eT]; exact q1'
  · refine done _ _ _ (hsv_1 hm) ?_ qv' qp
    rw [eQ]; exact q0
  · refine done _ _ _ (hsv_2 hm) qp qv' ?_
    rw [eT]; exact q1'
  · refine done _ _ _ (hsv_3 hm) qp ?_ qv'
    rw [eQ]; exact q0
  · refine done _ _ _ (hsv_4 hm) ?_ qp qv'
    rw [eT]; exact q1'
  · refine done _ _ _ (hsv_5 hm) qv' qp ?_
    rw [eQ]; exact q0
theorem part_sum {tot : Int} {share level : Nat} (es : (tot.fdiv 48).fmod 4 + 1 = share) (el : (tot.fdiv 192).fmod 4 + 1 = level) {kind : Nat} (hk : kind < 3) :
    paintI tot kind = [(level : Int) * ((if kind = 1 then 64 else 32) - share * sumI (tot.fmod 48) kind 0), (level : Int) * ((if kind = 1 then 64 else 32) - share * sumI (tot.fmod 48) kind 1), (level : Int) * ((if kind = 1 then 64 else 32) - share * sumI (tot.fmod 48) kind 2)] := by
  have hk3 : kind = 0 ∨ kind = 1 ∨ kind = 2 := by omega
  have hadd : ∀ a b : Int, (level : Int) * (32 - share * a) + level * (32 - share * b) = level * (64 - share * (a + b)) := fun a b => by
    rw [← Int.mul_add, Int.mul_add (share : Int)]
    congr 1; omega
  unfold paintI
  rw [es, el]
  rcases hk3 with rfl | rfl | rfl
  · rfl
  · rw [if_neg (by decide), if_neg (by decide)]
    simp only [partI, hadd]
    rfl
  · rw [if_neg (by decide), if_pos (by decide)]; rfl
theorem max_top {A B C M : Nat} (a : A ≤ M) (b : B ≤ M) (c : C ≤ M) (h : A = M ∨ B = M ∨ C = M) : max A (max B C) = M :=
  Nat.le_antisymm (Nat.max_le.mpr ⟨a, Nat.max_le.mpr ⟨b, c⟩⟩) (by
    rcases h with rfl | rfl | rfl
    · exact Nat.le_max_left _ _
    · exact Nat.le_trans (Nat.le_max_left _ _) (Nat.le_max_right _ _)
    · exact Nat.le_trans (Nat.le_max_right _ _) (Nat.le_max_right _ _))
theorem min_low {A B C M : Nat} (a : M ≤ A) (b : M ≤ B) (c : M ≤ C) (h : A = M ∨ B = M ∨ C = M) : min A (min B C) = M :=
  Nat.le_antisymm (by
    rcases h with rfl | rfl | rfl
    · exact Nat.min_le_left _ _
    · exact Nat.le_trans (Nat.min_le_right _ _) (Nat.min_le_left _ _)
    · exact Nat.le_trans (Nat.min_le_right _ _) (Nat.min_le_right _ _)) (Nat.le_min.mpr ⟨a, Nat.le_min.mpr ⟨b, c⟩⟩)
theorem three_is {A B C : Nat} {N : Int} (n0 : (A : Int) ≤ N) (n1 : (B : Int) ≤ N) (n2 : (C : Int) ≤ N) (h : N = A ∨ N = B ∨ N = C) : N = ((max A (max B C) : Nat) : Int) := by
  rcases h with rfl | rfl | rfl
  · exact congrArg _ (max_top (Nat.le_refl _) (Int.ofNat_le.mp n1) (Int.ofNat_le.mp n2) (.inl rfl)).symm
  · exact congrArg _ (max_top (Int.ofNat_le.mp n0) (Nat.le_refl _) (Int.ofNat_le.mp n2) (.inr (.inl rfl))).symm
  · exact congrArg _ (max_top (Int.ofNat_le.mp n0) (Int.ofNat_le.mp n1) (Nat.le_refl _) (.inr (.inr rfl))).symm
theorem told_float {tot : Int} {q : List Int} {x y z : Int} (h0 : 0 ≤ tot) (h1 : tot < 768) (hq : PairOk q) (e : lightI tot q = [x, y, z]) :
    ∃ place H S V, ToldOk x y z tot place (q.getD 1 0) H S V ∧ ((place - tot).fmod 48).fdiv 8 = q.getD 0 0 := by
  obtain ⟨kind, ek, hk⟩ := nat_of (n := 3) hq.k0 (by have := hq.k2; omega)
  obtain ⟨size, ez, hz⟩ := nat_of (n := 64) (show 0 ≤ q.getD 1 0 by have := hq.s1; omega) (by have := hq.s2; omega)
  have hz1 : 1 ≤ size := by have := hq.s1; omega
  obtain ⟨hue, eh, hh⟩ := nat_of (Int.fmod_nonneg_of_pos tot (b := 48) (by decide)) (Int.fmod_lt_of_pos tot (b := 48) (by decide))
  obtain ⟨s, es, hs⟩ := nat_of (Int.fmod_nonneg_of_pos (tot.fdiv 48) (b := 4) (by decide)) (Int.fmod_lt_of_pos (tot.fdiv 48) (b := 4) (by decide))
  obtain ⟨l, el, hl⟩ := nat_of (Int.fmod_nonneg_of_pos (tot.fdiv 192) (b := 4) (by decide)) (Int.fmod_lt_of_pos (tot.fdiv 192) (b := 4) (by decide))
  have es' : (tot.fdiv 48).fmod 4 + 1 = ((s + 1 : Nat) : Int) := by omega
  have el' : (tot.fdiv 192).fmod 4 + 1 = ((l + 1 : Nat) : Int) := by omega
  have hs1 : 1 ≤ s + 1 := by omega
  have hs4 : s + 1 ≤ 4 := by omega
  have hl1 : 1 ≤ l + 1 := by omega
  have hl4 : l + 1 ≤ 4 := by omega
  clear es el hs hl
  generalize s + 1 = share at *
  generalize l + 1 = level at *
  have hK := kind_ok (hue := hue) (kind := kind) (by omega) (by omega)
  have hP := place_ok (place := placeN hue kind) (Nat.mod_lt _ (by decide))
  simp only [kindOk, Bool.and_eq_true, beq_iff_eq, decide_eq_true_eq] at hK
  obtain ⟨⟨⟨k0, k1⟩, k2⟩, k3⟩ := hK
  simp only [placeOk, Bool.and_eq_true, beq_iff_eq, decide_eq_true_eq, hueOk] at hP
  obtain ⟨⟨⟨⟨⟨g0, g1⟩, g2⟩, gmin⟩, gmax⟩, ⟨⟨hw, hp⟩, hge⟩, hlt⟩ := hP
  have hpl : ((placeN hue kind : Int) - tot).fmod 48 = 8 * kind := by
    have : placeN hue kind = (hue + 8 * kind) % 48 := rfl
    rw [Int.fmod_eq_emod_of_nonneg _ (by decide)] at eh ⊢
    omega
  generalize placeN hue kind = place at *
  generalize wayN place 0 = c0 at *
  generalize wayN place 1 = c1 at *
  generalize wayN place 2 = c2 at *
  generalize lowN hue kind = low at *
  -- the light's parts
  have hM8 : 8 * share + share * low ≤ (if kind = 1 then 64 else 32) := by
    split at k3
    · rw [if_pos (by assumption)]
      have := Nat.mul_le_mul hs4 k3
      omega
    · rw [if_neg (by assumption)]
      have : low = 0 := by omega
      rw [this]; omega
  obtain ⟨w, ew⟩ : ∃ w : Nat, w = if kind = 1 then 64 else 32 := ⟨_, rfl⟩
  have ewI : (if kind = 1 then (64 : Int) else 32) = w := by rw [ew]; split <;> rfl
  rw [← ew] at hM8
  have hw64 : w ≤ 64 := by rw [ew]; split <;> decide
  obtain ⟨u, eu⟩ : ∃ u, w = u + share * low := ⟨w - share * low, by omega⟩
  have hu8 : 8 * share ≤ u := by omega
  obtain ⟨M, eM⟩ : ∃ M, M = level * u * size := ⟨_, rfl⟩
  obtain ⟨T, eT⟩ : ∃ T, T = level * share * size := ⟨_, rfl⟩
  have hT1 : 1 ≤ T := by rw [eT]; exact Nat.mul_pos (Nat.mul_pos hl1 hs1) hz1
  have hTM : 8 * T ≤ M := by
    rw [eT, eM]
    have := Nat.mul_le_mul_right size (Nat.mul_le_mul_left level hu8)
    calc 8 * (level * share * size) = level * (8 * share) * size := by ac_rfl
      _ ≤ _ := this
  have hM14 : M ≤ 2 ^ 14 := by
    rw [eM]
    have a1 : level * u ≤ 4 * 64 := Nat.mul_le_mul hl4 (by omega)
    have a2 := Nat.mul_le_mul a1 (show size ≤ 63 by omega)
    exact Nat.le_trans a2 (by decide)
  have cT : ∀ c, c ≤ 8 → T * c ≤ 8 * T := fun c hc => by rw [Nat.mul_comm 8]; exact Nat.mul_le_mul_left _ hc
  have hX : ∀ c : Nat, c ≤ 8 → (level : Int) * (w - share * (low + c)) * size = ((M - T * c : Nat) : Int) := fun c hc => by
    have := cT c hc
    rw [Int.natCast_sub (by omega), eM, eT, eu]
    simp only [Int.natCast_mul, Int.natCast_add, Int.mul_add, Int.add_mul, Int.mul_sub, Int.sub_mul]
    have a1 : (level : Int) * ((share : Int) * low) * size = level * ((share : Int) * low) * size := rfl
    have a2 : (level : Int) * ((share : Int) * c) * size = level * (share : Int) * size * c := by ac_rfl
    rw [a2]; omega
  have hlight : lightI tot q = [((M - T * c0 : Nat) : Int), ((M - T * c1 : Nat) : Int), ((M - T * c2 : Nat) : Int)] := by
    unfold lightI
    rw [ek, ez, part_sum es' el' (by omega), eh, k0, k1, k2, ewI]
    simp only [List.map_cons, List.map_nil, hX _ g0, hX _ g1, hX _ g2]
  rw [hlight] at e
  obtain ⟨rfl, rfl, rfl⟩ : ((M - T * c0 : Nat) : Int) = x ∧ ((M - T * c1 : Nat) : Int) = y ∧ ((M - T * c2 : Nat) : Int) = z := by simpa using e
  clear e hlight
  have b0 := cT c0 g0
  have b1 := cT c1 g1
  have b2 := cT c2 g2
  have l53 : (2 : Nat) ^ 14 ≤ 2 ^ 53 := by decide
  have hmx : max (M - T * c0) (max (M - T * c1) (M - T * c2)) = M := by
    have : c0 = 0 ∨ c1 = 0 ∨ c2 = 0 := by omega
    exact max_top (Nat.sub_le _ _) (Nat.sub_le _ _) (Nat.sub_le _ _) (this.imp (fun h => congrArg (fun c => M - T * c) h) fun h => h.imp (fun h => congrArg (fun c => M - T * c) h) fun h => congrArg (fun c => M - T * c) h)
  have hmn : min (M - T * c0) (min (M - T * c1) (M - T * c2)) = M - 8 * T := by
    have : c0 = 8 ∨ c1 = 8 ∨ c2 = 8 := by omega
    have z : ∀ c, T * c ≤ 8 * T → M - 8 * T ≤ M - T * c := fun c h => Nat.sub_le_sub_left h M
    exact min_low (z _ b0) (z _ b1) (z _ b2) (by rw [Nat.mul_comm 8]; exact this.imp (fun h => congrArg (fun c => M - T * c) h) fun h => h.imp (fun h => congrArg (fun c => M - T * c) h) fun h => congrArg (fun c => M - T * c) h)
  have bM := best_max (a := M - T * c0) (b := M - T * c1) (c := M - T * c2) (by omega) (by omega) (by omega)
  have bm := best_min (a := M - T * c0) (b := M - T * c1) (c := M - T * c2) (by omega) (by omega) (by omega)
  rw [hmx] at bM
  rw [hmn] at bm
  have fM := q13_fv (n := M) (by omega)
  have lt1 : M - 8 * T < M := Nat.sub_lt (by omega) (by omega)
  have lt2 : 0 < M - (M - 8 * T) := Nat.sub_pos_of_lt lt1
  have fR := q13_sub (a := M) (b := M - 8 * T) (by omega) (by omega)
  have z61 : 0 < (2 : Nat) ^ 1061 := Nat.two_pow_pos _
  have nM : M * 2 ^ 1061 ≠ 0 := Nat.ne_of_gt (Nat.mul_pos (by omega) z61)
  have nR : (M - (M - 8 * T)) * 2 ^ 1061 ≠ 0 := Nat.ne_of_gt (Nat.mul_pos lt2 z61)
  have hrgb : rgbF (q13 (M - T * c0)) (q13 (M - T * c1)) (q13 (M - T * c2)) = (hueF c0 c1 c2, div (sub (q13 M) (q13 (M - 8 * T))) (q13 M), q13 M) := by
    unfold rgbF
    rw [bM, bm, hue_chain hT1 hTM (by omega) g0 g1 g2]; rfl
  have hto : T = share * level * size := by rw [eT, Nat.mul_comm level]
  have hsz := whole_near (size_chain (once := share * level) (size := size) hto (Nat.mul_pos hs1 hl1) (Nat.le_trans (Nat.mul_le_mul hs4 hl4) (by decide)) hz1 (by omega) hTM hM14) (by omega)
  have hon : ((tot.fdiv 48).fmod 4 + 1) * ((tot.fdiv 192).fmod 4 + 1) = ((share * level : Nat) : Int) := by rw [es', el', Int.natCast_mul]
  refine ⟨place, _, _, _, ⟨isInf_fv (q13_fv (by omega)), isInf_fv (q13_fv (by omega)), isInf_fv (q13_fv (by omega)), ?_, hrgb, hw, hp, hge, by rw [hlt]; rfl, by omega, ?_, ?_, ?_, ?_⟩, ?_⟩
  · unfold rgbOk
    have e1 : eqF (q13 (M - 8 * T)) (q13 M) = false := by rw [q13_eq (by omega) (by omega)]; exact decide_eq_false (Nat.ne_of_lt lt1)
    have e2 := isZero_fv fM nM
    have e3 := isZero_fv fR nR
    have bM' : best3 gtF (idiv ((M - T * c0 : Nat) : Int) 8192) (idiv ((M - T * c1 : Nat) : Int) 8192) (idiv ((M - T * c2 : Nat) : Int) 8192) = q13 M := bM
    have bm' : best3 ltF (idiv ((M - T * c0 : Nat) : Int) 8192) (idiv ((M - T * c1 : Nat) : Int) 8192) (idiv ((M - T * c2 : Nat) : Int) 8192) = q13 (M - 8 * T) := bm
    rw [bM', bm', e1, e2, e3]; rfl
  · rw [Int.fmod_eq_emod_of_nonneg _ (by decide)] at hpl ⊢
    omega
  · intro N n0 n1 n2 hm
    have eN : N = (M : Int) := by
      simp only [List.mem_cons, List.not_mem_nil, or_false] at hm
      rw [← hmx]; exact three_is n0 n1 n2 hm
    rw [eN]
    have := eqF_fv fM fM
    unfold eqF at this
    have c9 : cmp (q13 M) (q13 M) = some Ordering.eq := by simpa using this
    rw [c9]; rfl
  · rw [hon]; exact hsz.1
  · rw [hon, ez]; exact hsz.2
  · rw [hpl, ek, Int.fdiv_eq_ediv_of_nonneg _ (by decide)]
    omega
end

end Pfl

local macro_rules | `(tactic| k_qdec) => `(tactic| decide +kernel)
local macro_rules | `(tactic| k_memK) => `(tactic| k_extra "memK")
local macro_rules | `(tactic| k_mem) => `(tactic| k_extra "mem")
local macro_rules | `(tactic| is_list) => `(tactic| k_extra "is_list")
local macro_rules | `(tactic| k_enter) => `(tactic| k_extra "enter")
local macro_rules | `(tactic| k_all) => `(tactic| k_extra "all")
local macro_rules | `(tactic| k_upd) => `(tactic| k_extra "upd")
local macro_rules | `(tactic| mul_fits) => `(tactic| k_extra "mul_fits")
local macro_rules | `(tactic| kun_lst) => `(tactic| k_extra "kun_lst")
local macro_rules | `(tactic| k_lt $h) => `(tactic| (replace $h := allLt_of $h; dsimp only [AllLt] at $h:ident))
local macro_rules | `(tactic| kcf_all) => `(tactic| k_extra "kcf_all")
local macro_rules | `(tactic| walk_at $s:str) => `(tactic| k_extra $s)

theorem fill_Cbl : (hd.heap_1 = hd.heap_1) ∧ (PySem.Challenge.rw_tc0005_01 = PySem.Challenge.rw_tc0005_01) := by
  w_top off
  k_fill
  exact ⟨rfl, rfl⟩
theorem layCbl1 : True := by
  k_with_none
  k_with "memK" => (first | assumption | exact Sub.of (by assumption) _ (by assumption) | kd_lift)
  k_with "subl" => (first | exact fun _ hp => hp | exact sub_nil | (with_reducible refine sub_keep ?_; k_extra "subl") | (with_reducible refine sub_skip ?_; k_extra "subl"))
  k_with "kcf_all" => (first | exact all_nil | k_extra "subl" | (refine all_cons ?_ ?_; (focus kcf_m); kcf_all))
  k_with "mem" => (exact Sub.of (by assumption) _ (by assumption))
  k_with "is_list" => (first | exact News.isList (by assumption) (by assumption) | exact News.isList (by assumption) (Sub.of (by assumption) _ (by assumption)) | exact News.isList (by assumption) (by kd_lift))
  k_with "all" => (first | assumption | ((rename (∀ p : Addr × Obj, p ∈ _ → p.1 < _) => l9); intro p9 hp9; (have q9 := ltN (l9 p9 hp9)); refine neN ?_; omega) | exact all_nil | (apply all_cons; (k_ne); (k_all)))
  k_with "enter" => ((apply code_def; k_asm; k_asm; k_asm; k_asm; k_asm; exact rfl; exact rfl; (first | exact rfl | assumption); k_is; k_is; ktr_room; (exact BindsTo.of_eq rfl); (exact locs rfl); rotate_left; (exact rfl); (exact rfl); (exact rfl); decide; k_whole); intros; (try dsimp only); (try ((rename (Below _ _ _ _) => B9); k_lift B9; revert B9; intros)); (try k_fold))
  k_with "subscriptTail" => (k_here; (with_reducible show wpAny _ _ (subscriptTail _ _ (Value.ref _) (Value.int _ _)) _ _ _); (with_unfolding_all (apply ll_item; k_asm; k_memK; assumption; (first | kd_idx | (simp only [fdiv2]; omega)); (first | kd_idx | (simp only [fdiv2]; omega)); (first | kd_idx | (simp only [fdiv2]; omega)); (with_unfolding_all rfl); k_whole)); intros; (try (rename_i hr9; (have hw9 := row_len (by assumption) hr9); revert hr9 hw9; intros)))
  k_with "getItem ref int" => (k_here; (with_unfolding_all (apply ll_getItem; k_asm; k_memK; assumption; (first | kd_idx | (simp only [fdiv2]; omega)); (first | kd_idx | (simp only [fdiv2]; omega)); (first | kd_idx | (simp only [fdiv2]; omega)); k_whole)); intros; (try (rename_i hr9; (have hw9 := row_len (by assumption) hr9); revert hr9 hw9; intros)))
  k_with "call builtin:len" => (k_here; (with_reducible show wpAny _ _ (call (Value.builtin "len") [Value.ref _]) _ _ _); k_dflt (apply ll_len; k_asm; (first | assumption | k_memK | kd_lift); assumption; (first | omega | ((try simp only [List.length_append, List.length_cons, List.length_nil, List.length_map, List.length_reverse, rangeKs_length] at *); omega)); k_whole))
  k_with "compareOp Eq ref ref" => (k_here; (with_reducible show wpAny _ _ (compareOp CmpOp.Eq (Value.ref _) (Value.ref _)) _ _ _); (with_unfolding_all (apply eq_intsK; is_list; l_ints; is_list; l_ints; ktr_units; k_whole)))
  k_with "subscriptTail Name Slice ref ref" => (k_here; (with_reducible show wpAny _ _ (subscriptTail _ (PySem.Expr.Slice none none (some _) _) (Value.ref _) (Value.ref _)) _ _ _); k_dflt (apply rev_V; k_asm; k_asm; k_memK; (exact IsPart.int _ _); (with_unfolding_all rfl); kmk_pure; omega; k_whole); intros; (rename_i l9); (try k_lt l9); (try k_sweep); (try (revert l9; intros)))
  k_with "exec Assign" => (k_fold; walk_at "exec Assign")
  k_with "exec Expr" => (k_fold; walk_at "exec Expr")
  k_with "exec If" => (k_fold; walk_at "exec If")
  k_with "exec Return" => (k_fold; walk_at "exec Return")
  k_with "exec AugAssign" => (k_fold; walk_at "exec AugAssign")
  k_with "exec While" => (k_fold; walk_at "exec While")
  trivial
section Cbl
section
variable {prog : Program} {w : World} {p : Program} {loose : List Str} {mean : ExcName → Option Value} {mg mb : Str → Option Value}
theorem bl_gen {dp un : Nat} {gd : Option (List Code)} {cn : Str} {cs : Scope} {a : Addr} {ccd : Value} {cl : List (Str × Addr)} {outer : List Env} {A₀ : Around} {base h₀ : Heap} {L : Addr} {m : Str → Option Value} {s : Shared} {Q E : Value → Shared → Prop} {news : List (Addr × Obj)} (B : Below A₀ base outer h₀) (F : Fr h₀ L s.heap m) (X : (hd.heap_1 w.params).In h₀) (N : News h₀ L s.heap news) (T : Top p loose mean mg mb h₀) (hk : cs.kind = .function) (hd1 : dp + 3 < recursionLimit) (hu : un + 30 < cLine)
   {l : Addr} {vs : List Value} {ns : List Int} {nn : Nat} {x : Int} {tx t0 : Tok} {args : List Value} (hl : (l, listOf vs.toArray nn) ∈ news) (hi : IntsAre vs ns) (hlen : ns.length ≤ 1000)
   (hbd : ∀ fd oc od osl, (hd.heap_1 w.params).lookup 78 = some ⟨oc, od, .func fd, osl⟩ → PySem.BindsTo s fd ⟨args, []⟩ [(Str.ofString "a", Value.ref l), (Str.ofString "x", Value.int x tx), (Str.ofString "lo", Value.int 0 t0), (Str.ofString "hi", Value.none), (Str.ofString "key", Value.none)])
   (ret : ∀ (k : Int) t h' tk', k = (bsl ns x 0 ns.length : Nat) → Fr h₀ L h' m → News h₀ L h' news → Q (.int k t) {s with heap := h', toks := tk'}) :
   wpAny (model prog w) (ktrTop dp un gd cn cs L a ccd cl outer) (call (.ref 78) args) Q E s := by
  refine wpAny_call ?_
  k_dflt (refine' code_def (binds := [(Str.ofString "a", Value.ref l), (Str.ofString "x", Value.int x tx), (Str.ofString "lo", Value.int 0 t0), (Str.ofString "hi", Value.none), (Str.ofString "key", Value.none)]) ?k1 ?k2 ?k3 ?k4 ?k5 ?kA ?kF ?kK ?k6 ?k7 ?k8 ?k9 ?kB ?_ ?c2 ?c3 ?c4 ?c5; (case kA => exact rfl); (case kF => exact rfl); (case kK => assumption); (case k1 => k_asm); (case k2 => k_asm); (case k3 => k_asm); (case k4 => k_asm); (case k5 => k_asm); (case k6 => k_is); (case k7 => k_is); (case k8 => ktr_room); (case k9 => first | exact BindsTo.of_eq rfl | exact hbd _ _ _ _ rfl | (refine' kp_binds ?kx ?ke; (case kx => k_in); (case ke => exact fun _ => rfl))); (case c5 => decide); (case kB => exact locs rfl); (case c2 => exact rfl); (case c3 => exact rfl); (case c4 => exact rfl); k_whole; intro g' L' h' FG' F' N' B' X' T'; (try dsimp only); (try k_lift B'); (try k_fold))
  k_with "state" => first | exact BslAt.start _ _ | exact BslAt.go (by assumption) (by assumption) (by assumption) (by assumption) (by assumption) (by assumption) | exact BslAt.back (by assumption) (by assumption) (by assumption) (by assumption) (by assumption) (by assumption)
  k_with "measure" => first | exact bs_less1 (by assumption) (by assumption) | exact bs_less2 (by assumption) (by assumption)
  k_with "exec While Compare cons nil" => k_while (fun _ lo hi => 0 ≤ lo ∧ lo ≤ hi ∧ hi ≤ (ns.length : Int) ∧ BslAt ns x lo hi) (fun _ lo hi => (hi - lo).toNat) "lo" "hi"
  k_steps
  all_goals first | exact ret _ _ _ _ (BslAt.done (by assumption) (by assumption) (by assumption) (by assumption)) (by assumption) (by assumption) | fail
theorem bl_ok {dp un : Nat} {gd : Option (List Code)} {cn : Str} {cs : Scope} {a : Addr} {ccd : Value} {cl : List (Str × Addr)} {outer : List Env} {A₀ : Around} {base h₀ : Heap} {L : Addr} {m : Str → Option Value} {s : Shared} {Q E : Value → Shared → Prop} {news : List (Addr × Obj)} (B : Below A₀ base outer h₀) (F : Fr h₀ L s.heap m) (X : (hd.heap_1 w.params).In h₀) (N : News h₀ L s.heap news) (T : Top p loose mean mg mb h₀) (hk : cs.kind = .function) (hd1 : dp + 3 < recursionLimit) (hu : un + 30 < cLine)
   {l : Addr} {vs : List Value} {ns : List Int} {nn : Nat} {x : Int} {tx : Tok} (hl : (l, listOf vs.toArray nn) ∈ news) (hi : IntsAre vs ns) (hlen : ns.length ≤ 1000)
   (ret : ∀ (k : Int) t h' tk', k = (bsl ns x 0 ns.length : Nat) → Fr h₀ L h' m → News h₀ L h' news → Q (.int k t) {s with heap := h', toks := tk'}) :
   wpAny (model prog w) (ktrTop dp un gd cn cs L a ccd cl outer) (call (.ref 78) [.ref l, .int x tx]) Q E s := by
  refine bl_gen (tx := tx) (t0 := 265) B F X N T hk hd1 hu hl hi hlen (fun fd oc od osl e => ?_) ret
  cases (show some _ = some _ from e)
  have XF := X.keeps F.keep
  first | exact BindsTo.of_eq rfl | (refine' kp_binds ?kx ?ke; (case kx => k_in); (case ke => exact fun _ => rfl)) | fail
theorem bl4_ok {dp un : Nat} {gd : Option (List Code)} {cn : Str} {cs : Scope} {a : Addr} {ccd : Value} {cl : List (Str × Addr)} {outer : List Env} {A₀ : Around} {base h₀ : Heap} {L : Addr} {m : Str → Option Value} {s : Shared} {Q E : Value → Shared → Prop} {news : List (Addr × Obj)} (B : Below A₀ base outer h₀) (F : Fr h₀ L s.heap m) (X : (hd.heap_1 w.params).In h₀) (N : News h₀ L s.heap news) (T : Top p loose mean mg mb h₀) (hk : cs.kind = .function) (hd1 : dp + 3 < recursionLimit) (hu : un + 30 < cLine)
   {l : Addr} {vs : List Value} {ns : List Int} {nn : Nat} {x : Int} {tx t0 : Tok} (hl : (l, listOf vs.toArray nn) ∈ news) (hi : IntsAre vs ns) (hlen : ns.length ≤ 1000)
   (ret : ∀ (k : Int) t h' tk', k = (bsl ns x 0 ns.length : Nat) → Fr h₀ L h' m → News h₀ L h' news → Q (.int k t) {s with heap := h', toks := tk'}) :
   wpAny (model prog w) (ktrTop dp un gd cn cs L a ccd cl outer) (call (.ref 78) [.ref l, .int x tx, .int 0 t0, .none]) Q E s := by
  refine bl_gen (tx := tx) (t0 := t0) B F X N T hk hd1 hu hl hi hlen (fun fd oc od osl e => ?_) ret
  cases (show some _ = some _ from e)
  have XF := X.keeps F.keep
  first | exact BindsTo.of_eq rfl | (refine' kp_binds ?kx ?ke; (case kx => k_in); (case ke => exact fun _ => rfl)) | fail
end
end Cbl



theorem layCbr1 : True := by
  k_with_none
  k_with "memK" => (first | assumption | exact Sub.of (by assumption) _ (by assumption) | kd_lift)
  k_with "subl" => (first | exact fun _ hp => hp | exact sub_nil | (with_reducible refine sub_keep ?_; k_extra "subl") | (with_reducible refine sub_skip ?_; k_extra "subl"))
  k_with "kcf_all" => (first | exact all_nil | k_extra "subl" | (refine all_cons ?_ ?_; (focus kcf_m); kcf_all))
  k_with "mem" => (exact Sub.of (by assumption) _ (by assumption))
  k_with "is_list" => (first | exact News.isList (by assumption) (by assumption) | exact News.isList (by assumption) (Sub.of (by assumption) _ (by assumption)) | exact News.isList (by assumption) (by kd_lift))
  k_with "all" => (first | assumption | ((rename (∀ p : Addr × Obj, p ∈ _ → p.1 < _) => l9); intro p9 hp9; (have q9 := ltN (l9 p9 hp9)); refine neN ?_; omega) | exact all_nil | (apply all_cons; (k_ne); (k_all)))
  k_with "enter" => ((apply code_def; k_asm; k_asm; k_asm; k_asm; k_asm; exact rfl; exact rfl; (first | exact rfl | assumption); k_is; k_is; ktr_room; (exact BindsTo.of_eq rfl); (exact locs rfl); rotate_left; (exact rfl); (exact rfl); (exact rfl); decide; k_whole); intros; (try dsimp only); (try ((rename (Below _ _ _ _) => B9); k_lift B9; revert B9; intros)); (try k_fold))
  k_with "subscriptTail" => (k_here; (with_reducible show wpAny _ _ (subscriptTail _ _ (Value.ref _) (Value.int _ _)) _ _ _); (with_unfolding_all (apply ll_item; k_asm; k_memK; assumption; (first | kd_idx | (simp only [fdiv2]; omega)); (first | kd_idx | (simp only [fdiv2]; omega)); (first | kd_idx | (simp only [fdiv2]; omega)); (with_unfolding_all rfl); k_whole)); intros; (try (rename_i hr9; (have hw9 := row_len (by assumption) hr9); revert hr9 hw9; intros)))
  k_with "getItem ref int" => (k_here; (with_unfolding_all (apply ll_getItem; k_asm; k_memK; assumption; (first | kd_idx | (simp only [fdiv2]; omega)); (first | kd_idx | (simp only [fdiv2]; omega)); (first | kd_idx | (simp only [fdiv2]; omega)); k_whole)); intros; (try (rename_i hr9; (have hw9 := row_len (by assumption) hr9); revert hr9 hw9; intros)))
  k_with "call builtin:len" => (k_here; (with_reducible show wpAny _ _ (call (Value.builtin "len") [Value.ref _]) _ _ _); k_dflt (apply ll_len; k_asm; (first | assumption | k_memK | kd_lift); assumption; (first | omega | ((try simp only [List.length_append, List.length_cons, List.length_nil, List.length_map, List.length_reverse, rangeKs_length] at *); omega)); k_whole))
  k_with "compareOp Eq ref ref" => (k_here; (with_reducible show wpAny _ _ (compareOp CmpOp.Eq (Value.ref _) (Value.ref _)) _ _ _); (with_unfolding_all (apply eq_intsK; is_list; l_ints; is_list; l_ints; ktr_units; k_whole)))
  k_with "subscriptTail Name Slice ref ref" => (k_here; (with_reducible show wpAny _ _ (subscriptTail _ (PySem.Expr.Slice none none (some _) _) (Value.ref _) (Value.ref _)) _ _ _); k_dflt (apply rev_V; k_asm; k_asm; k_memK; (exact IsPart.int _ _); (with_unfolding_all rfl); kmk_pure; omega; k_whole); intros; (rename_i l9); (try k_lt l9); (try k_sweep); (try (revert l9; intros)))
  k_with "exec Assign" => (k_fold; walk_at "exec Assign")
  k_with "exec Expr" => (k_fold; walk_at "exec Expr")
  k_with "exec If" => (k_fold; walk_at "exec If")
  k_with "exec Return" => (k_fold; walk_at "exec Return")
  k_with "exec AugAssign" => (k_fold; walk_at "exec AugAssign")
  k_with "exec While" => (k_fold; walk_at "exec While")
  k_with "call ref" => (k_here; (with_reducible show wpAny _ _ (call (Value.ref 78) [Value.ref _, Value.int _ _]) _ _ _); (with_reducible refine wpAny_with_toks (Nat.le_refl _) ?_); k_dflt (apply bl_ok; k_asm; k_asm; k_asm; k_asm; k_asm; (first | exact rfl | assumption); ktr_room; ktr_units; (k_memK); (l_ints); (omega); k_whole; intros; (try (rename_i e9; dsimp only at e9; revert e9; intro _)); (try k_sweep); (try dsimp only)))
  k_with "call ref" => (k_here; (with_reducible show wpAny _ _ (call (Value.ref 78) [Value.ref _, Value.int _ _, Value.int _ _, Value.none]) _ _ _); (with_reducible refine wpAny_with_toks (Nat.le_refl _) ?_); k_dflt (apply bl4_ok; k_asm; k_asm; k_asm; k_asm; k_asm; (first | exact rfl | assumption); ktr_room; ktr_units; (k_memK); (l_ints); (omega); k_whole; intros; (try (rename_i e9; dsimp only at e9; revert e9; intro _)); (try k_sweep); (try dsimp only)))
  trivial
section Cbr
section
variable {prog : Program} {w : World} {p : Program} {loose : List Str} {mean : ExcName → Option Value} {mg mb : Str → Option Value}
theorem br_gen {dp un : Nat} {gd : Option (List Code)} {cn : Str} {cs : Scope} {a : Addr} {ccd : Value} {cl : List (Str × Addr)} {outer : List Env} {A₀ : Around} {base h₀ : Heap} {L : Addr} {m : Str → Option Value} {s : Shared} {Q E : Value → Shared → Prop} {news : List (Addr × Obj)} (B : Below A₀ base outer h₀) (F : Fr h₀ L s.heap m) (X : (hd.heap_1 w.params).In h₀) (N : News h₀ L s.heap news) (T : Top p loose mean mg mb h₀) (hk : cs.kind = .function) (hd1 : dp + 3 < recursionLimit) (hu : un + 30 < cLine)
   {l : Addr} {vs : List Value} {ns : List Int} {nn : Nat} {x : Int} {tx t0 : Tok} {args : List Value} (hl : (l, listOf vs.toArray nn) ∈ news) (hi : IntsAre vs ns) (hlen : ns.length ≤ 1000)
   (hbd : ∀ fd oc od osl, (hd.heap_1 w.params).lookup 60 = some ⟨oc, od, .func fd, osl⟩ → PySem.BindsTo s fd ⟨args, []⟩ [(Str.ofString "a", Value.ref l), (Str.ofString "x", Value.int x tx), (Str.ofString "lo", Value.int 0 t0), (Str.ofString "hi", Value.none), (Str.ofString "key", Value.none)])
   (ret : ∀ (k : Int) t h' tk', k = (bsr ns x 0 ns.length : Nat) → Fr h₀ L h' m → News h₀ L h' news → Q (.int k t) {s with heap := h', toks := tk'}) :
   wpAny (model prog w) (ktrTop dp un gd cn cs L a ccd cl outer) (call (.ref 60) args) Q E s := by
  refine wpAny_call ?_
  k_dflt (refine' code_def (binds := [(Str.ofString "a", Value.ref l), (Str.ofString "x", Value.int x tx), (Str.ofString "lo", Value.int 0 t0), (Str.ofString "hi", Value.none), (Str.ofString "key", Value.none)]) ?k1 ?k2 ?k3 ?k4 ?k5 ?kA ?kF ?kK ?k6 ?k7 ?k8 ?k9 ?kB ?_ ?c2 ?c3 ?c4 ?c5; (case kA => exact rfl); (case kF => exact rfl); (case kK => assumption); (case k1 => k_asm); (case k2 => k_asm); (case k3 => k_asm); (case k4 => k_asm); (case k5 => k_asm); (case k6 => k_is); (case k7 => k_is); (case k8 => ktr_room); (case k9 => first | exact BindsTo.of_eq rfl | exact hbd _ _ _ _ rfl | (refine' kp_binds ?kx ?ke; (case kx => k_in); (case ke => exact fun _ => rfl))); (case c5 => decide); (case kB => exact locs rfl); (case c2 => exact rfl); (case c3 => exact rfl); (case c4 => exact rfl); k_whole; intro g' L' h' FG' F' N' B' X' T'; (try dsimp only); (try k_lift B'); (try k_fold))
  k_with "state" => first | exact BsrAt.start _ _ | exact BsrAt.go (by assumption) (by assumption) (by assumption) (by assumption) (by assumption) (by assumption) | exact BsrAt.back (by assumption) (by assumption) (by assumption) (by assumption) (by assumption) (by assumption)
  k_with "measure" => first | exact bs_less1 (by assumption) (by assumption) | exact bs_less2 (by assumption) (by assumption)
  k_with "exec While Compare cons nil" => k_while (fun _ lo hi => 0 ≤ lo ∧ lo ≤ hi ∧ hi ≤ (ns.length : Int) ∧ BsrAt ns x lo hi) (fun _ lo hi => (hi - lo).toNat) "lo" "hi"
  k_steps
  all_goals first | exact ret _ _ _ _ (BsrAt.done (by assumption) (by assumption) (by assumption) (by assumption)) (by assumption) (by assumption) | fail
theorem br_ok {dp un : Nat} {gd : Option (List Code)} {cn : Str} {cs : Scope} {a : Addr} {ccd : Value} {cl : List (Str × Addr)} {outer : List Env} {A₀ : Around} {base h₀ : Heap} {L : Addr} {m : Str → Option Value} {s : Shared} {Q E : Value → Shared → Prop} {news : List (Addr × Obj)} (B : Below A₀ base outer h₀) (F : Fr h₀ L s.heap m) (X : (hd.heap_1 w.params).In h₀) (N : News h₀ L s.heap news) (T : Top p loose mean mg mb h₀) (hk : cs.kind = .function) (hd1 : dp + 3 < recursionLimit) (hu : un + 30 < cLine)
   {l : Addr} {vs : List Value} {ns : List Int} {nn : Nat} {x : Int} {tx : Tok} (hl : (l, listOf vs.toArray nn) ∈ news) (hi : IntsAre vs ns) (hlen : ns.length ≤ 1000)
   (ret : ∀ (k : Int) t h' tk', k = (bsr ns x 0 ns.length : Nat) → Fr h₀ L h' m → News h₀ L h' news → Q (.int k t) {s with heap := h', toks := tk'}) :
   wpAny (model prog w) (ktrTop dp un gd cn cs L a ccd cl outer) (call (.ref 60) [.ref l, .int x tx]) Q E s := by
  refine br_gen (tx := tx) (t0 := 238) B F X N T hk hd1 hu hl hi hlen (fun fd oc od osl e => ?_) ret
  cases (show some _ = some _ from e)
  have XF := X.keeps F.keep
  first | exact BindsTo.of_eq rfl | (refine' kp_binds ?kx ?ke; (case kx => k_in); (case ke => exact fun _ => rfl)) | fail
theorem br4_ok {dp un : Nat} {gd : Option (List Code)} {cn : Str} {cs : Scope} {a : Addr} {ccd : Value} {cl : List (Str × Addr)} {outer : List Env} {A₀ : Around} {base h₀ : Heap} {L : Addr} {m : Str → Option Value} {s : Shared} {Q E : Value → Shared → Prop} {news : List (Addr × Obj)} (B : Below A₀ base outer h₀) (F : Fr h₀ L s.heap m) (X : (hd.heap_1 w.params).In h₀) (N : News h₀ L s.heap news) (T : Top p loose mean mg mb h₀) (hk : cs.kind = .function) (hd1 : dp + 3 < recursionLimit) (hu : un + 30 < cLine)
   {l : Addr} {vs : List Value} {ns : List Int} {nn : Nat} {x : Int} {tx t0 : Tok} (hl : (l, listOf vs.toArray nn) ∈ news) (hi : IntsAre vs ns) (hlen : ns.length ≤ 1000)
   (ret : ∀ (k : Int) t h' tk', k = (bsr ns x 0 ns.length : Nat) → Fr h₀ L h' m → News h₀ L h' news → Q (.int k t) {s with heap := h', toks := tk'}) :
   wpAny (model prog w) (ktrTop dp un gd cn cs L a ccd cl outer) (call (.ref 60) [.ref l, .int x tx, .int 0 t0, .none]) Q E s := by
  refine br_gen (tx := tx) (t0 := t0) B F X N T hk hd1 hu hl hi hlen (fun fd oc od osl e => ?_) ret
  cases (show some _ = some _ from e)
  have XF := X.keeps F.keep
  first | exact BindsTo.of_eq rfl | (refine' kp_binds ?kx ?ke; (case kx => k_in); (case ke => exact fun _ => rfl)) | fail
end
end Cbr



theorem layCbk1 : True := by
  k_with_none
  k_with "memK" => (first | assumption | exact Sub.of (by assumption) _ (by assumption) | kd_lift)
  k_with "subl" => (first | exact fun _ hp => hp | exact sub_nil | (with_reducible refine sub_keep ?_; k_extra "subl") | (with_reducible refine sub_skip ?_; k_extra "subl"))
  k_with "kcf_all" => (first | exact all_nil | k_extra "subl" | (refine all_cons ?_ ?_; (focus kcf_m); kcf_all))
  k_with "mem" => (exact Sub.of (by assumption) _ (by assumption))
  k_with "is_list" => (first | exact News.isList (by assumption) (by assumption) | exact News.isList (by assumption) (Sub.of (by assumption) _ (by assumption)) | exact News.isList (by assumption) (by kd_lift))
  k_with "all" => (first | assumption | ((rename (∀ p : Addr × Obj, p ∈ _ → p.1 < _) => l9); intro p9 hp9; (have q9 := ltN (l9 p9 hp9)); refine neN ?_; omega) | exact all_nil | (apply all_cons; (k_ne); (k_all)))
  k_with "enter" => ((apply code_def; k_asm; k_asm; k_asm; k_asm; k_asm; exact rfl; exact rfl; (first | exact rfl | assumption); k_is; k_is; ktr_room; (exact BindsTo.of_eq rfl); (exact locs rfl); rotate_left; (exact rfl); (exact rfl); (exact rfl); decide; k_whole); intros; (try dsimp only); (try ((rename (Below _ _ _ _) => B9); k_lift B9; revert B9; intros)); (try k_fold))
  k_with "subscriptTail" => (k_here; (with_reducible show wpAny _ _ (subscriptTail _ _ (Value.ref _) (Value.int _ _)) _ _ _); (with_unfolding_all (apply ll_item; k_asm; k_memK; assumption; (first | kd_idx | (simp only [fdiv2]; omega)); (first | kd_idx | (simp only [fdiv2]; omega)); (first | kd_idx | (simp only [fdiv2]; omega)); (with_unfolding_all rfl); k_whole)); intros; (try (rename_i hr9; (have hw9 := row_len (by assumption) hr9); revert hr9 hw9; intros)))
  k_with "getItem ref int" => (k_here; (with_unfolding_all (apply ll_getItem; k_asm; k_memK; assumption; (first | kd_idx | (simp only [fdiv2]; omega)); (first | kd_idx | (simp only [fdiv2]; omega)); (first | kd_idx | (simp only [fdiv2]; omega)); k_whole)); intros; (try (rename_i hr9; (have hw9 := row_len (by assumption) hr9); revert hr9 hw9; intros)))
  k_with "call builtin:len" => (k_here; (with_reducible show wpAny _ _ (call (Value.builtin "len") [Value.ref _]) _ _ _); k_dflt (apply ll_len; k_asm; (first | assumption | k_memK | kd_lift); assumption; (first | omega | ((try simp only [List.length_append, List.length_cons, List.length_nil, List.length_map, List.length_reverse, rangeKs_length] at *); omega)); k_whole))
  k_with "compareOp Eq ref ref" => (k_here; (with_reducible show wpAny _ _ (compareOp CmpOp.Eq (Value.ref _) (Value.ref _)) _ _ _); (with_unfolding_all (apply eq_intsK; is_list; l_ints; is_list; l_ints; ktr_units; k_whole)))
  k_with "subscriptTail Name Slice ref ref" => (k_here; (with_reducible show wpAny _ _ (subscriptTail _ (PySem.Expr.Slice none none (some _) _) (Value.ref _) (Value.ref _)) _ _ _); k_dflt (apply rev_V; k_asm; k_asm; k_memK; (exact IsPart.int _ _); (with_unfolding_all rfl); kmk_pure; omega; k_whole); intros; (rename_i l9); (try k_lt l9); (try k_sweep); (try (revert l9; intros)))
  k_with "exec Assign" => (k_fold; walk_at "exec Assign")
  k_with "exec Expr" => (k_fold; walk_at "exec Expr")
  k_with "exec If" => (k_fold; walk_at "exec If")
  k_with "exec Return" => (k_fold; walk_at "exec Return")
  k_with "exec AugAssign" => (k_fold; walk_at "exec AugAssign")
  k_with "exec While" => (k_fold; walk_at "exec While")
  trivial
section Cbk
section
variable {prog : Program} {w : World} {p : Program} {loose : List Str} {mean : ExcName → Option Value} {mg mb : Str → Option Value}
theorem bl5_ok {dp un : Nat} {gd : Option (List Code)} {cn : Str} {cs : Scope} {a : Addr} {ccd : Value} {cl : List (Str × Addr)} {outer : List Env} {A₀ : Around} {base h₀ : Heap} {L : Addr} {m : Str → Option Value} {s : Shared} {Q E : Value → Shared → Prop} {news : List (Addr × Obj)} (B : Below A₀ base outer h₀) (F : Fr h₀ L s.heap m) (X : (hd.heap_1 w.params).In h₀) (N : News h₀ L s.heap news) (T : Top p loose mean mg mb h₀) (hk : cs.kind = .function) (hd1 : dp + 5 < recursionLimit) (hu : un + 50 < cLine)
   {l : Addr} {vs : List Value} {rs : List (List Int)} {nn : Nat} {x : Int} {tx t0 : Tok} {cst : List (Addr × Obj)} (hl : (l, listOf vs.toArray nn) ∈ news) (hi : LLAre cst vs rs) (hS : Sub cst news) (hw : ∀ r ∈ rs, r.length = 2) (hlen : rs.length ≤ 1000)
   (ret : ∀ (k : Int) t h' tk', k = (bsl (keysOf rs) x 0 rs.length : Nat) → Fr h₀ L h' m → News h₀ L h' news → Q (.int k t) {s with heap := h', toks := tk'}) :
   wpAny (model prog w) (ktrTop dp un gd cn cs L a ccd cl outer) (call (.ref 78) [.ref l, .int x tx, .int 0 t0, .none] [(Str.ofString "key", .ref 130)]) Q E s := by
  have hlv := hi.length
  refine wpAny_call ?_
  k_dflt (refine' code_def (binds := [(Str.ofString "a", Value.ref l), (Str.ofString "x", Value.int x tx), (Str.ofString "lo", Value.int 0 t0), (Str.ofString "hi", Value.none), (Str.ofString "key", Value.ref 130)]) ?k1 ?k2 ?k3 ?k4 ?k5 ?kA ?kF ?kK ?k6 ?k7 ?k8 ?k9 ?kB ?_ ?c2 ?c3 ?c4 ?c5; (case kA => exact rfl); (case kF => exact rfl); (case kK => assumption); (case k1 => k_asm); (case k2 => k_asm); (case k3 => k_asm); (case k4 => k_asm); (case k5 => k_asm); (case k6 => k_is); (case k7 => k_is); (case k8 => ktr_room); (case k9 => first | exact BindsTo.of_eq rfl | exact hbd _ _ _ _ rfl | (refine' kp_binds ?kx ?ke; (case kx => k_in); (case ke => exact fun _ => rfl))); (case c5 => decide); (case kB => exact locs rfl); (case c2 => exact rfl); (case c3 => exact rfl); (case c4 => exact rfl); k_whole; intro g' L' h' FG' F' N' B' X' T'; (try dsimp only); (try k_lift B'); (try k_fold))
  k_with "state" => first | exact BslAt.startK _ _ | exact BslAt.goK (by assumption) (by assumption) (by assumption) (by assumption) (by assumption) (by assumption) | exact BslAt.backK (by assumption) (by assumption) (by assumption) (by assumption) (by assumption) (by assumption)
  k_with "measure" => first | exact bs_less1 (by assumption) (by assumption) | exact bs_less2 (by assumption) (by assumption)
  k_with "exec While Compare cons nil" => k_while (fun _ lo hi => 0 ≤ lo ∧ lo ≤ hi ∧ hi ≤ (rs.length : Int) ∧ BslAt (keysOf rs) x lo hi) (fun _ lo hi => (hi - lo).toNat) "lo" "hi"
  k_steps
  all_goals first | exact ret _ _ _ _ (BslAt.doneK (by assumption) (by assumption) (by assumption) (by assumption)) (by assumption) (by assumption) | fail
theorem br5_ok {dp un : Nat} {gd : Option (List Code)} {cn : Str} {cs : Scope} {a : Addr} {ccd : Value} {cl : List (Str × Addr)} {outer : List Env} {A₀ : Around} {base h₀ : Heap} {L : Addr} {m : Str → Option Value} {s : Shared} {Q E : Value → Shared → Prop} {news : List (Addr × Obj)} (B : Below A₀ base outer h₀) (F : Fr h₀ L s.heap m) (X : (hd.heap_1 w.params).In h₀) (N : News h₀ L s.heap news) (T : Top p loose mean mg mb h₀) (hk : cs.kind = .function) (hd1 : dp + 5 < recursionLimit) (hu : un + 50 < cLine)
   {l : Addr} {vs : List Value} {rs : List (List Int)} {nn : Nat} {x : Int} {tx t0 : Tok} {cst : List (Addr × Obj)} (hl : (l, listOf vs.toArray nn) ∈ news) (hi : LLAre cst vs rs) (hS : Sub cst news) (hw : ∀ r ∈ rs, r.length = 2) (hlen : rs.length ≤ 1000)
   (ret : ∀ (k : Int) t h' tk', k = (bsr (keysOf rs) x 0 rs.length : Nat) → Fr h₀ L h' m → News h₀ L h' news → Q (.int k t) {s with heap := h', toks := tk'}) :
   wpAny (model prog w) (ktrTop dp un gd cn cs L a ccd cl outer) (call (.ref 60) [.ref l, .int x tx, .int 0 t0, .none] [(Str.ofString "key", .ref 130)]) Q E s := by
  have hlv := hi.length
  refine wpAny_call ?_
  k_dflt (refine' code_def (binds := [(Str.ofString "a", Value.ref l), (Str.ofString "x", Value.int x tx), (Str.ofString "lo", Value.int 0 t0), (Str.ofString "hi", Value.none), (Str.ofString "key", Value.ref 130)]) ?k1 ?k2 ?k3 ?k4 ?k5 ?kA ?kF ?kK ?k6 ?k7 ?k8 ?k9 ?kB ?_ ?c2 ?c3 ?c4 ?c5; (case kA => exact rfl); (case kF => exact rfl); (case kK => assumption); (case k1 => k_asm); (case k2 => k_asm); (case k3 => k_asm); (case k4 => k_asm); (case k5 => k_asm); (case k6 => k_is); (case k7 => k_is); (case k8 => ktr_room); (case k9 => first | exact BindsTo.of_eq rfl | exact hbd _ _ _ _ rfl | (refine' kp_binds ?kx ?ke; (case kx => k_in); (case ke => exact fun _ => rfl))); (case c5 => decide); (case kB => exact locs rfl); (case c2 => exact rfl); (case c3 => exact rfl); (case c4 => exact rfl); k_whole; intro g' L' h' FG' F' N' B' X' T'; (try dsimp only); (try k_lift B'); (try k_fold))
  k_with "state" => first | exact BsrAt.startK _ _ | exact BsrAt.goK (by assumption) (by assumption) (by assumption) (by assumption) (by assumption) (by assumption) | exact BsrAt.backK (by assumption) (by assumption) (by assumption) (by assumption) (by assumption) (by assumption)
  k_with "measure" => first | exact bs_less1 (by assumption) (by assumption) | exact bs_less2 (by assumption) (by assumption)
  k_with "exec While Compare cons nil" => k_while (fun _ lo hi => 0 ≤ lo ∧ lo ≤ hi ∧ hi ≤ (rs.length : Int) ∧ BsrAt (keysOf rs) x lo hi) (fun _ lo hi => (hi - lo).toNat) "lo" "hi"
  k_steps
  all_goals first | exact ret _ _ _ _ (BsrAt.doneK (by assumption) (by assumption) (by assumption) (by assumption)) (by assumption) (by assumption) | fail
end
end Cbk



theorem layCins1 : True := by
  k_with_none
  k_with "memK" => (first | assumption | exact Sub.of (by assumption) _ (by assumption) | kd_lift)
  k_with "subl" => (first | exact fun _ hp => hp | exact sub_nil | (with_reducible refine sub_keep ?_; k_extra "subl") | (with_reducible refine sub_skip ?_; k_extra "subl"))
  k_with "kcf_all" => (first | exact all_nil | k_extra "subl" | (refine all_cons ?_ ?_; (focus kcf_m); kcf_all))
  k_with "mem" => (exact Sub.of (by assumption) _ (by assumption))
  k_with "is_list" => (first | exact News.isList (by assumption) (by assumption) | exact News.isList (by assumption) (Sub.of (by assumption) _ (by assumption)) | exact News.isList (by assumption) (by kd_lift))
  k_with "all" => (first | assumption | ((rename (∀ p : Addr × Obj, p ∈ _ → p.1 < _) => l9); intro p9 hp9; (have q9 := ltN (l9 p9 hp9)); refine neN ?_; omega) | exact all_nil | (apply all_cons; (k_ne); (k_all)))
  k_with "enter" => ((apply code_def; k_asm; k_asm; k_asm; k_asm; k_asm; exact rfl; exact rfl; (first | exact rfl | assumption); k_is; k_is; ktr_room; (exact BindsTo.of_eq rfl); (exact locs rfl); rotate_left; (exact rfl); (exact rfl); (exact rfl); decide; k_whole); intros; (try dsimp only); (try ((rename (Below _ _ _ _) => B9); k_lift B9; revert B9; intros)); (try k_fold))
  k_with "subscriptTail" => (k_here; (with_reducible show wpAny _ _ (subscriptTail _ _ (Value.ref _) (Value.int _ _)) _ _ _); (with_unfolding_all (apply ll_item; k_asm; k_memK; assumption; (first | kd_idx | (simp only [fdiv2]; omega)); (first | kd_idx | (simp only [fdiv2]; omega)); (first | kd_idx | (simp only [fdiv2]; omega)); (with_unfolding_all rfl); k_whole)); intros; (try (rename_i hr9; (have hw9 := row_len (by assumption) hr9); revert hr9 hw9; intros)))
  k_with "getItem ref int" => (k_here; (with_unfolding_all (apply ll_getItem; k_asm; k_memK; assumption; (first | kd_idx | (simp only [fdiv2]; omega)); (first | kd_idx | (simp only [fdiv2]; omega)); (first | kd_idx | (simp only [fdiv2]; omega)); k_whole)); intros; (try (rename_i hr9; (have hw9 := row_len (by assumption) hr9); revert hr9 hw9; intros)))
  k_with "call builtin:len" => (k_here; (with_reducible show wpAny _ _ (call (Value.builtin "len") [Value.ref _]) _ _ _); k_dflt (apply ll_len; k_asm; (first | assumption | k_memK | kd_lift); assumption; (first | omega | ((try simp only [List.length_append, List.length_cons, List.length_nil, List.length_map, List.length_reverse, rangeKs_length] at *); omega)); k_whole))
  k_with "compareOp Eq ref ref" => (k_here; (with_reducible show wpAny _ _ (compareOp CmpOp.Eq (Value.ref _) (Value.ref _)) _ _ _); (with_unfolding_all (apply eq_intsK; is_list; l_ints; is_list; l_ints; ktr_units; k_whole)))
  k_with "subscriptTail Name Slice ref ref" => (k_here; (with_reducible show wpAny _ _ (subscriptTail _ (PySem.Expr.Slice none none (some _) _) (Value.ref _) (Value.ref _)) _ _ _); k_dflt (apply rev_V; k_asm; k_asm; k_memK; (exact IsPart.int _ _); (with_unfolding_all rfl); kmk_pure; omega; k_whole); intros; (rename_i l9); (try k_lt l9); (try k_sweep); (try (revert l9; intros)))
  k_with "exec Assign" => (k_fold; walk_at "exec Assign")
  k_with "exec Expr" => (k_fold; walk_at "exec Expr")
  k_with "exec If" => (k_fold; walk_at "exec If")
  k_with "exec Return" => (k_fold; walk_at "exec Return")
  k_with "exec AugAssign" => (k_fold; walk_at "exec AugAssign")
  k_with "exec While" => (k_fold; walk_at "exec While")
  k_with "call ref" => (k_here; (with_reducible show wpAny _ _ (call (Value.ref 78) [Value.ref _, Value.int _ _]) _ _ _); (with_reducible refine wpAny_with_toks (Nat.le_refl _) ?_); k_dflt (apply bl_ok; k_asm; k_asm; k_asm; k_asm; k_asm; (first | exact rfl | assumption); ktr_room; ktr_units; (k_memK); (l_ints); (omega); k_whole; intros; (try (rename_i e9; dsimp only at e9; revert e9; intro _)); (try k_sweep); (try dsimp only)))
  k_with "call ref" => (k_here; (with_reducible show wpAny _ _ (call (Value.ref 78) [Value.ref _, Value.int _ _, Value.int _ _, Value.none]) _ _ _); (with_reducible refine wpAny_with_toks (Nat.le_refl _) ?_); k_dflt (apply bl4_ok; k_asm; k_asm; k_asm; k_asm; k_asm; (first | exact rfl | assumption); ktr_room; ktr_units; (k_memK); (l_ints); (omega); k_whole; intros; (try (rename_i e9; dsimp only at e9; revert e9; intro _)); (try k_sweep); (try dsimp only)))
  k_with "call ref" => (k_here; (with_reducible show wpAny _ _ (call (Value.ref 60) [Value.ref _, Value.int _ _]) _ _ _); (with_reducible refine wpAny_with_toks (Nat.le_refl _) ?_); k_dflt (apply br_ok; k_asm; k_asm; k_asm; k_asm; k_asm; (first | exact rfl | assumption); ktr_room; ktr_units; (k_memK); (l_ints); (omega); k_whole; intros; (try (rename_i e9; dsimp only at e9; revert e9; intro _)); (try k_sweep); (try dsimp only)))
  k_with "call ref" => (k_here; (with_reducible show wpAny _ _ (call (Value.ref 60) [Value.ref _, Value.int _ _, Value.int _ _, Value.none]) _ _ _); (with_reducible refine wpAny_with_toks (Nat.le_refl _) ?_); k_dflt (apply br4_ok; k_asm; k_asm; k_asm; k_asm; k_asm; (first | exact rfl | assumption); ktr_room; ktr_units; (k_memK); (l_ints); (omega); k_whole; intros; (try (rename_i e9; dsimp only at e9; revert e9; intro _)); (try k_sweep); (try dsimp only)))
  k_with "call ref" => (k_here; (with_reducible show wpAny _ _ (call (Value.ref 78) [Value.ref _, Value.int _ _, Value.int _ _, Value.none] _) _ _ _); (with_reducible refine wpAny_with_toks (Nat.le_refl _) ?_); k_dflt (apply bl5_ok; k_asm; k_asm; k_asm; k_asm; k_asm; (first | exact rfl | assumption); ktr_room; ktr_units; (k_memK); (assumption); (assumption); (assumption); (omega); k_whole; intros; (try (rename_i e9; dsimp only at e9; revert e9; intro _)); (try k_sweep); (try dsimp only)))
  k_with "call ref" => (k_here; (with_reducible show wpAny _ _ (call (Value.ref 60) [Value.ref _, Value.int _ _, Value.int _ _, Value.none] _) _ _ _); (with_reducible refine wpAny_with_toks (Nat.le_refl _) ?_); k_dflt (apply br5_ok; k_asm; k_asm; k_asm; k_asm; k_asm; (first | exact rfl | assumption); ktr_room; ktr_units; (k_memK); (assumption); (assumption); (assumption); (omega); k_whole; intros; (try (rename_i e9; dsimp only at e9; revert e9; intro _)); (try k_sweep); (try dsimp only)))
  trivial
section Cins
theorem layCins2 : True := by
  k_with "upd" => (assumption)
  k_with "call builtin:list.insert" => (k_here; (with_reducible show wpAny _ _ (call (Value.builtin _) [Value.ref _, Value.int _ _, _]) _ _ _); k_dflt (apply kl_insert; k_asm; k_asm; rotate_left; (first | exact ins_eqL (by assumption) (by assumption) | exact ins_eqR (by assumption) (by assumption) | exact ins_eqLK (by assumption) (by assumption) | exact ins_eqRK (by assumption) (by assumption)); assumption; (exact room_of (by rw [Array.length_toList, List.size_toArray]; omega)); rotate_left; (first | exact fitsL (by assumption) (by omega) | exact fitsR (by assumption) (by omega) | exact fitsLK (by assumption) (by omega) | exact fitsRK (by assumption) (by omega))); kl_rest)
  trivial
section
variable {prog : Program} {w : World} {p : Program} {loose : List Str} {mean : ExcName → Option Value} {mg mb : Str → Option Value}
theorem insl_ok {dp un : Nat} {gd : Option (List Code)} {cn : Str} {cs : Scope} {a : Addr} {ccd : Value} {cl : List (Str × Addr)} {outer : List Env} {A₀ : Around} {base h₀ : Heap} {L : Addr} {m : Str → Option Value} {s : Shared} {Q E : Value → Shared → Prop} {news : List (Addr × Obj)} (B : Below A₀ base outer h₀) (F : Fr h₀ L s.heap m) (X : (hd.heap_1 w.params).In h₀) (N : News h₀ L s.heap news) (T : Top p loose mean mg mb h₀) (hk : cs.kind = .function) (hd1 : dp + 8 < recursionLimit) (hu : un + 80 < cLine)
   {l : Addr} {vs : List Value} {ns : List Int} {nn : Nat} {x : Int} {tx : Tok} {news' : List (Addr × Obj)} 
   (U : Upd l (listOf vs.toArray nn) (listOf (insV vs (bsl ns x 0 ns.length) (.int x tx)).toArray (nn + 1)) news news')
   (hi : IntsAre vs ns) (hlen : ns.length ≤ 900)
   (ret : ∀ h' tk', Fr h₀ L h' m → News h₀ L h' news' → IntsAre (insV vs (bsl ns x 0 ns.length) (.int x tx)) (insL ns x) → Q .none {s with heap := h', toks := tk'}) :
   wpAny (model prog w) (ktrTop dp un gd cn cs L a ccd cl outer) (call (.ref 69) [.ref l, .int x tx]) Q E s := by
  have hl := upd_in U
  have hvl := hi.length
  refine wpAny_call ?_
  k_dflt (refine' code_def (binds := [(Str.ofString "a", Value.ref l), (Str.ofString "x", Value.int x tx), (Str.ofString "lo", Value.int 0 252), (Str.ofString "hi", Value.none), (Str.ofString "key", Value.none)]) ?k1 ?k2 ?k3 ?k4 ?k5 ?kA ?kF ?kK ?k6 ?k7 ?k8 ?k9 ?kB ?_ ?c2 ?c3 ?c4 ?c5; (case kA => exact rfl); (case kF => exact rfl); (case kK => assumption); (case k1 => k_asm); (case k2 => k_asm); (case k3 => k_asm); (case k4 => k_asm); (case k5 => k_asm); (case k6 => k_is); (case k7 => k_is); (case k8 => ktr_room); (case k9 => first | exact BindsTo.of_eq rfl | exact hbd _ _ _ _ rfl | (refine' kp_binds ?kx ?ke; (case kx => k_in); (case ke => exact fun _ => rfl))); (case c5 => decide); (case kB => exact locs rfl); (case c2 => exact rfl); (case c3 => exact rfl); (case c4 => exact rfl); k_whole; intro g' L' h' FG' F' N' B' X' T'; (try dsimp only); (try k_lift B'); (try k_fold))
  k_steps
  all_goals first | exact ret _ _ (by assumption) (by assumption) (ints_ins hi _ _ _) | fail
theorem insr_ok {dp un : Nat} {gd : Option (List Code)} {cn : Str} {cs : Scope} {a : Addr} {ccd : Value} {cl : List (Str × Addr)} {outer : List Env} {A₀ : Around} {base h₀ : Heap} {L : Addr} {m : Str → Option Value} {s : Shared} {Q E : Value → Shared → Prop} {news : List (Addr × Obj)} (B : Below A₀ base outer h₀) (F : Fr h₀ L s.heap m) (X : (hd.heap_1 w.params).In h₀) (N : News h₀ L s.heap news) (T : Top p loose mean mg mb h₀) (hk : cs.kind = .function) (hd1 : dp + 8 < recursionLimit) (hu : un + 80 < cLine)
   {l : Addr} {vs : List Value} {ns : List Int} {nn : Nat} {x : Int} {tx : Tok} {news' : List (Addr × Obj)} 
   (U : Upd l (listOf vs.toArray nn) (listOf (insV vs (bsr ns x 0 ns.length) (.int x tx)).toArray (nn + 1)) news news')
   (hi : IntsAre vs ns) (hlen : ns.length ≤ 900)
   (ret : ∀ h' tk', Fr h₀ L h' m → News h₀ L h' news' → IntsAre (insV vs (bsr ns x 0 ns.length) (.int x tx)) (insR ns x) → Q .none {s with heap := h', toks := tk'}) :
   wpAny (model prog w) (ktrTop dp un gd cn cs L a ccd cl outer) (call (.ref 51) [.ref l, .int x tx]) Q E s := by
  have hl := upd_in U
  have hvl := hi.length
  refine wpAny_call ?_
  k_dflt (refine' code_def (binds := [(Str.ofString "a", Value.ref l), (Str.ofString "x", Value.int x tx), (Str.ofString "lo", Value.int 0 225), (Str.ofString "hi", Value.none), (Str.ofString "key", Value.none)]) ?k1 ?k2 ?k3 ?k4 ?k5 ?kA ?kF ?kK ?k6 ?k7 ?k8 ?k9 ?kB ?_ ?c2 ?c3 ?c4 ?c5; (case kA => exact rfl); (case kF => exact rfl); (case kK => assumption); (case k1 => k_asm); (case k2 => k_asm); (case k3 => k_asm); (case k4 => k_asm); (case k5 => k_asm); (case k6 => k_is); (case k7 => k_is); (case k8 => ktr_room); (case k9 => first | exact BindsTo.of_eq rfl | exact hbd _ _ _ _ rfl | (refine' kp_binds ?kx ?ke; (case kx => k_in); (case ke => exact fun _ => rfl))); (case c5 => decide); (case kB => exact locs rfl); (case c2 => exact rfl); (case c3 => exact rfl); (case c4 => exact rfl); k_whole; intro g' L' h' FG' F' N' B' X' T'; (try dsimp only); (try k_lift B'); (try k_fold))
  k_steps
  all_goals first | exact ret _ _ (by assumption) (by assumption) (ints_ins hi _ _ _) | fail
theorem inslk_ok {dp un : Nat} {gd : Option (List Code)} {cn : Str} {cs : Scope} {a : Addr} {ccd : Value} {cl : List (Str × Addr)} {outer : List Env} {A₀ : Around} {base h₀ : Heap} {L : Addr} {m : Str → Option Value} {s : Shared} {Q E : Value → Shared → Prop} {news : List (Addr × Obj)} (B : Below A₀ base outer h₀) (F : Fr h₀ L s.heap m) (X : (hd.heap_1 w.params).In h₀) (N : News h₀ L s.heap news) (T : Top p loose mean mg mb h₀) (hk : cs.kind = .function) (hd1 : dp + 9 < recursionLimit) (hu : un + 90 < cLine)
   {l b : Addr} {vs : List Value} {rs : List (List Int)} {nn : Nat} {q : List Int} {cst news' : List (Addr × Obj)} 
   (U : Upd l (listOf vs.toArray nn) (listOf (insV vs (bsl (keysOf rs) (q.getD 1 0) 0 rs.length) (.ref b)).toArray (nn + 1)) news news')
   (hi : LLAre cst vs rs) (hS : Sub cst news) (hx : LIs cst (.ref b) q) (hw : ∀ r ∈ rs, r.length = 2) (hq : q.length = 2) (hlen : rs.length ≤ 900)
   (ret : ∀ h' tk', Fr h₀ L h' m → News h₀ L h' news' → LLAre cst (insV vs (bsl (keysOf rs) (q.getD 1 0) 0 rs.length) (.ref b)) (insLK rs q) → (∀ r ∈ insLK rs q, r.length = 2) → Q .none {s with heap := h', toks := tk'}) :
   wpAny (model prog w) (ktrTop dp un gd cn cs L a ccd cl outer) (call (.ref 69) [.ref l, .ref b] [(Str.ofString "key", .ref 130)]) Q E s := by
  have hl := upd_in U
  have hvl := hi.length
  obtain ⟨b', ws', n', eb, hm', hi'⟩ := id hx
  cases eb
  refine wpAny_call ?_
  k_dflt (refine' code_def (binds := [(Str.ofString "a", Value.ref l), (Str.ofString "x", Value.ref b), (Str.ofString "lo", Value.int 0 252), (Str.ofString "hi", Value.none), (Str.ofString "key", Value.ref 130)]) ?k1 ?k2 ?k3 ?k4 ?k5 ?kA ?kF ?kK ?k6 ?k7 ?k8 ?k9 ?kB ?_ ?c2 ?c3 ?c4 ?c5; (case kA => exact rfl); (case kF => exact rfl); (case kK => assumption); (case k1 => k_asm); (case k2 => k_asm); (case k3 => k_asm); (case k4 => k_asm); (case k5 => k_asm); (case k6 => k_is); (case k7 => k_is); (case k8 => ktr_room); (case k9 => first | exact BindsTo.of_eq rfl | exact hbd _ _ _ _ rfl | (refine' kp_binds ?kx ?ke; (case kx => k_in); (case ke => exact fun _ => rfl))); (case c5 => decide); (case kB => exact locs rfl); (case c2 => exact rfl); (case c3 => exact rfl); (case c4 => exact rfl); k_whole; intro g' L' h' FG' F' N' B' X' T'; (try dsimp only); (try k_lift B'); (try k_fold))
  k_steps
  all_goals first | exact ret _ _ (by assumption) (by assumption) (ll_ins hi _ hx) (pairs_ins hw hq _) | fail
theorem insrk_ok {dp un : Nat} {gd : Option (List Code)} {cn : Str} {cs : Scope} {a : Addr} {ccd : Value} {cl : List (Str × Addr)} {outer : List Env} {A₀ : Around} {base h₀ : Heap} {L : Addr} {m : Str → Option Value} {s : Shared} {Q E : Value → Shared → Prop} {news : List (Addr × Obj)} (B : Below A₀ base outer h₀) (F : Fr h₀ L s.heap m) (X : (hd.heap_1 w.params).In h₀) (N : News h₀ L s.heap news) (T : Top p loose mean mg mb h₀) (hk : cs.kind = .function) (hd1 : dp + 9 < recursionLimit) (hu : un + 90 < cLine)
   {l b : Addr} {vs : List Value} {rs : List (List Int)} {nn : Nat} {q : List Int} {cst news' : List (Addr × Obj)} 
   (U : Upd l (listOf vs.toArray nn) (listOf (insV vs (bsr (keysOf rs) (q.getD 1 0) 0 rs.length) (.ref b)).toArray (nn + 1)) news news')
   (hi : LLAre cst vs rs) (hS : Sub cst news) (hx : LIs cst (.ref b) q) (hw : ∀ r ∈ rs, r.length = 2) (hq : q.length = 2) (hlen : rs.length ≤ 900)
   (ret : ∀ h' tk', Fr h₀ L h' m → News h₀ L h' news' → LLAre cst (insV vs (bsr (keysOf rs) (q.getD 1 0) 0 rs.length) (.ref b)) (insRK rs q) → (∀ r ∈ insRK rs q, r.length = 2) → Q .none {s with heap := h', toks := tk'}) :
   wpAny (model prog w) (ktrTop dp un gd cn cs L a ccd cl outer) (call (.ref 51) [.ref l, .ref b] [(Str.ofString "key", .ref 130)]) Q E s := by
  have hl := upd_in U
  have hvl := hi.length
  obtain ⟨b', ws', n', eb, hm', hi'⟩ := id hx
  cases eb
  refine wpAny_call ?_
  k_dflt (refine' code_def (binds := [(Str.ofString "a", Value.ref l), (Str.ofString "x", Value.ref b), (Str.ofString "lo", Value.int 0 225), (Str.ofString "hi", Value.none), (Str.ofString "key", Value.ref 130)]) ?k1 ?k2 ?k3 ?k4 ?k5 ?kA ?kF ?kK ?k6 ?k7 ?k8 ?k9 ?kB ?_ ?c2 ?c3 ?c4 ?c5; (case kA => exact rfl); (case kF => exact rfl); (case kK => assumption); (case k1 => k_asm); (case k2 => k_asm); (case k3 => k_asm); (case k4 => k_asm); (case k5 => k_asm); (case k6 => k_is); (case k7 => k_is); (case k8 => ktr_room); (case k9 => first | exact BindsTo.of_eq rfl | exact hbd _ _ _ _ rfl | (refine' kp_binds ?kx ?ke; (case kx => k_in); (case ke => exact fun _ => rfl))); (case c5 => decide); (case kB => exact locs rfl); (case c2 => exact rfl); (case c3 => exact rfl); (case c4 => exact rfl); k_whole; intro g' L' h' FG' F' N' B' X' T'; (try dsimp only); (try k_lift B'); (try k_fold))
  k_steps
  all_goals first | exact ret _ _ (by assumption) (by assumption) (ll_ins hi _ hx) (pairs_ins hw hq _) | fail
theorem insrkN_ok {dp un : Nat} {gd : Option (List Code)} {cn : Str} {cs : Scope} {a : Addr} {ccd : Value} {cl : List (Str × Addr)} {outer : List Env} {A₀ : Around} {base h₀ : Heap} {L : Addr} {m : Str → Option Value} {s : Shared} {Q E : Value → Shared → Prop} {news : List (Addr × Obj)} (B : Below A₀ base outer h₀) (F : Fr h₀ L s.heap m) (X : (hd.heap_1 w.params).In h₀) (N : News h₀ L s.heap news) (T : Top p loose mean mg mb h₀) (hk : cs.kind = .function) (hd1 : dp + 9 < recursionLimit) (hu : un + 90 < cLine)
   {l b : Addr} {vs : List Value} {rs : List (List Int)} {nn : Nat} {q : List Int} {news' : List (Addr × Obj)} 
   (U : Upd l (listOf vs.toArray nn) (listOf (insV vs (bsr (keysOf rs) (q.getD 1 0) 0 rs.length) (.ref b)).toArray (nn + 1)) news news')
   (hi : LLAre news vs rs) (hx : LIs news (.ref b) q) (hw : ∀ r ∈ rs, r.length = 2) (hq : q.length = 2) (hlen : rs.length ≤ 900)
   (ret : ∀ h' tk', Fr h₀ L h' m → News h₀ L h' news' → (∀ r ∈ insRK rs q, r.length = 2) → Q .none {s with heap := h', toks := tk'}) :
   wpAny (model prog w) (ktrTop dp un gd cn cs L a ccd cl outer) (call (.ref 51) [.ref l, .ref b] [(Str.ofString "key", .ref 130)]) Q E s :=
  insrk_ok B F X N T hk hd1 hu U hi ⟨fun _ h => h⟩ hx hw hq hlen fun h' tk' F' N' _ W' => ret h' tk' F' N' W'
end
end Cins





theorem layCcnt1 : True := by
  k_with_none
  k_with "memK" => (first | assumption | exact Sub.of (by assumption) _ (by assumption) | kd_lift)
  k_with "subl" => (first | exact fun _ hp => hp | exact sub_nil | (with_reducible refine sub_keep ?_; k_extra "subl") | (with_reducible refine sub_skip ?_; k_extra "subl"))
  k_with "kcf_all" => (first | exact all_nil | k_extra "subl" | (refine all_cons ?_ ?_; (focus kcf_m); kcf_all))
  k_with "mem" => (exact Sub.of (by assumption) _ (by assumption))
  k_with "is_list" => (first | exact News.isList (by assumption) (by assumption) | exact News.isList (by assumption) (Sub.of (by assumption) _ (by assumption)) | exact News.isList (by assumption) (by kd_lift))
  k_with "all" => (first | assumption | ((rename (∀ p : Addr × Obj, p ∈ _ → p.1 < _) => l9); intro p9 hp9; (have q9 := ltN (l9 p9 hp9)); refine neN ?_; omega) | exact all_nil | (apply all_cons; (k_ne); (k_all)))
  k_with "enter" => ((apply code_def; k_asm; k_asm; k_asm; k_asm; k_asm; exact rfl; exact rfl; (first | exact rfl | assumption); k_is; k_is; ktr_room; (exact BindsTo.of_eq rfl); (exact locs rfl); rotate_left; (exact rfl); (exact rfl); (exact rfl); decide; k_whole); intros; (try dsimp only); (try ((rename (Below _ _ _ _) => B9); k_lift B9; revert B9; intros)); (try k_fold))
  k_with "subscriptTail" => (k_here; (with_reducible show wpAny _ _ (subscriptTail _ _ (Value.ref _) (Value.int _ _)) _ _ _); (with_unfolding_all (apply ll_item; k_asm; k_memK; assumption; (first | kd_idx | (simp only [fdiv2]; omega)); (first | kd_idx | (simp only [fdiv2]; omega)); (first | kd_idx | (simp only [fdiv2]; omega)); (with_unfolding_all rfl); k_whole)); intros; (try (rename_i hr9; (have hw9 := row_len (by assumption) hr9); revert hr9 hw9; intros)))
  k_with "getItem ref int" => (k_here; (with_unfolding_all (apply ll_getItem; k_asm; k_memK; assumption; (first | kd_idx | (simp only [fdiv2]; omega)); (first | kd_idx | (simp only [fdiv2]; omega)); (first | kd_idx | (simp only [fdiv2]; omega)); k_whole)); intros; (try (rename_i hr9; (have hw9 := row_len (by assumption) hr9); revert hr9 hw9; intros)))
  k_with "call builtin:len" => (k_here; (with_reducible show wpAny _ _ (call (Value.builtin "len") [Value.ref _]) _ _ _); k_dflt (apply ll_len; k_asm; (first | assumption | k_memK | kd_lift); assumption; (first | omega | ((try simp only [List.length_append, List.length_cons, List.length_nil, List.length_map, List.length_reverse, rangeKs_length] at *); omega)); k_whole))
  k_with "compareOp Eq ref ref" => (k_here; (with_reducible show wpAny _ _ (compareOp CmpOp.Eq (Value.ref _) (Value.ref _)) _ _ _); (with_unfolding_all (apply eq_intsK; is_list; l_ints; is_list; l_ints; ktr_units; k_whole)))
  k_with "subscriptTail Name Slice ref ref" => (k_here; (with_reducible show wpAny _ _ (subscriptTail _ (PySem.Expr.Slice none none (some _) _) (Value.ref _) (Value.ref _)) _ _ _); k_dflt (apply rev_V; k_asm; k_asm; k_memK; (exact IsPart.int _ _); (with_unfolding_all rfl); kmk_pure; omega; k_whole); intros; (rename_i l9); (try k_lt l9); (try k_sweep); (try (revert l9; intros)))
  k_with "exec Assign" => (k_fold; walk_at "exec Assign")
  k_with "exec Expr" => (k_fold; walk_at "exec Expr")
  k_with "exec If" => (k_fold; walk_at "exec If")
  k_with "exec Return" => (k_fold; walk_at "exec Return")
  k_with "exec AugAssign" => (k_fold; walk_at "exec AugAssign")
  k_with "exec While" => (k_fold; walk_at "exec While")
  trivial
section Ccnt
theorem layCcnt2 : True := by
  k_with "exec For Name Name cons nil" => (k_here; k_dflt (refine wpAny_For ?_))
  k_with "exec For Name Call cons nil" => (k_here; k_dflt (refine wpAny_For ?_))
  k_with "exec For Name Subscript cons nil" => (k_here; k_dflt (refine wpAny_For ?_))
  k_with "exec For" => (k_here; k_dflt (refine wpAny_For ?_))
  k_with "execs cons Assign cons" => ((with_reducible refine wpAny_execs_cons ?_); (try dsimp only))
  k_with "last pyIter ref" => (refine Hold.mk ?_)
  k_with "call builtin:list.append" => (k_here; (with_reducible show wpAny _ _ (call (Value.builtin _) [Value.ref _, _]) _ _ _); k_dflt (apply append_V; k_asm; k_asm; k_upd; (omega); k_whole); intros; (try k_sweep))
  k_with "compareOp Is int int" => (k_here; (apply is_int; assumption; assumption; (focus (intro e9; rw [e9]; assumption))))
  trivial
theorem take_succ_count {ns : List Int} {i : Nat} {n x : Int} (h : ns[i]? = some n) : (ns.take (i + 1)).count x = (ns.take i).count x + (if n = x then 1 else 0) := by
  rw [List.take_add_one, h]
  by_cases e : n = x <;> simp [e, List.count_append]
section
variable {prog : Program} {w : World} {p : Program} {loose : List Str} {mean : ExcName → Option Value} {mg mb : Str → Option Value}
theorem cnt_ok {dp un : Nat} {gd : Option (List Code)} {cn : Str} {cs : Scope} {a : Addr} {ccd : Value} {cl : List (Str × Addr)} {outer : List Env} {A₀ : Around} {base h₀ : Heap} {L : Addr} {m : Str → Option Value} {s : Shared} {Q E : Value → Shared → Prop} {news : List (Addr × Obj)} (B : Below A₀ base outer h₀) (F : Fr h₀ L s.heap m) (X : (hd.heap_1 w.params).In h₀) (N : News h₀ L s.heap news) (T : Top p loose mean mg mb h₀) (hk : cs.kind = .function) (hd1 : dp + 4 < recursionLimit) (hu : un + 40 < cLine)
   {l : Addr} {vs : List Value} {ns : List Int} {nn : Nat} {x : Int} {tx : Nat} (hl : (l, listOf vs.toArray nn) ∈ news) (hi : IntsAre vs ns) (ht : ToksB tx vs) (h1 : 1 ≤ tx) (hx : smallInt x = true)
   (ret : ∀ (k : Int) t h' tk', k = (ns.count x : Nat) → Fr h₀ L h' m → News h₀ L h' news → Q (.int k t) {s with heap := h', toks := tk'}) :
   wpAny (model prog w) (ktrTop dp un gd cn cs L a ccd cl outer) (call (.ref 42) [.ref l, .int x tx]) Q E s := by
  have hvl := hi.length
  refine wpAny_call ?_
  k_dflt (refine' code_def (binds := [(Str.ofString "a", Value.ref l), (Str.ofString "b", Value.int x tx)]) ?k1 ?k2 ?k3 ?k4 ?k5 ?kA ?kF ?kK ?k6 ?k7 ?k8 ?k9 ?kB ?_ ?c2 ?c3 ?c4 ?c5; (case kA => exact rfl); (case kF => exact rfl); (case kK => assumption); (case k1 => k_asm); (case k2 => k_asm); (case k3 => k_asm); (case k4 => k_asm); (case k5 => k_asm); (case k6 => k_is); (case k7 => k_is); (case k8 => ktr_room); (case k9 => first | exact BindsTo.of_eq rfl | exact hbd _ _ _ _ rfl | (refine' kp_binds ?kx ?ke; (case kx => k_in); (case ke => exact fun _ => rfl))); (case c5 => decide); (case kB => exact locs rfl); (case c2 => exact rfl); (case c3 => exact rfl); (case c4 => exact rfl); k_whole; intro g' L' h' FG' F' N' B' X' T'; (try dsimp only); (try k_lift B'); (try k_fold))
  k_steps
  (with_unfolding_all refine' for_list (σ := Int × Nat) (fun _ => news) (fun c => [(Str.ofString "count", Value.int c.1 c.2)]) [Str.ofString "i"] (fun i _ c => c.1 = ((ns.take i).count x : Nat)) (?a, ?b) rfl (fun _ _ _ _ => hl) (fun _ _ _ _ _ h => h) ?F ?N ?hk ?hj ?turn ?done ?hE)
  case F => assumption
  case N => assumption
  case hk => kst_all
  case hj => rfl
  case hE => passes_own
  case turn =>
    rintro ⟨k, tk0⟩ i v u h tk I oI hv hJ hle hoff F1 N1
    obtain ⟨n, t, rfl, hn⟩ := ints_at hi hv
    have htk := ht _ (List.mem_of_getElem? hv)
    have hta := htk.1
    have htb := htk.2
    dsimp only [kstB] at F1
    (try dsimp only)
    (try k_fold)
    k_steps
    all_goals exact turn_end (_, _) (by assumption) (by assumption) (by kst_all) (by ksw_same) (by kcf_m) (by kcf_all) (by assumption) (by (dsimp only at hJ ⊢; rw [take_succ_count hn]; first | rw [if_pos (by assumption)] | rw [if_neg (by assumption)]); omega)
  case done =>
    rintro ⟨k, tk0⟩ u h tk hJ hle F1 N1
    dsimp only [kstB] at F1
    (try dsimp only)
    k_steps
    exact ret _ _ _ _ (by rw [hvl, List.take_length] at hJ; exact hJ) (by assumption) (by assumption)
theorem take_succ_countL {ns : List (List Int)} {i : Nat} {n x : List Int} (h : ns[i]? = some n) : (ns.take (i + 1)).count x = (ns.take i).count x + (if n = x then 1 else 0) := by
  rw [List.take_add_one, h]
  by_cases e : n = x <;> simp [e, List.count_append]
theorem layCcnt3 : True := by
  k_with "compareOp Is ref ref" => (k_here; k_dflt (apply is_lists; k_asm; k_memK; k_memK))
  k_with "memK" => (refine List.Mem.tail _ ?_; assumption)
  k_with "is_list" => (exact News.isList (by assumption) (List.Mem.tail _ (by assumption)))
  trivial
theorem cntl_ok {dp un : Nat} {gd : Option (List Code)} {cn : Str} {cs : Scope} {a : Addr} {ccd : Value} {cl : List (Str × Addr)} {outer : List Env} {A₀ : Around} {base h₀ : Heap} {L : Addr} {m : Str → Option Value} {s : Shared} {Q E : Value → Shared → Prop} {news : List (Addr × Obj)} (B : Below A₀ base outer h₀) (F : Fr h₀ L s.heap m) (X : (hd.heap_1 w.params).In h₀) (N : News h₀ L s.heap news) (T : Top p loose mean mg mb h₀) (hk : cs.kind = .function) (hd1 : dp + 4 < recursionLimit) (hu : un + 200 < cLine)
   {l b : Addr} {vs us : List Value} {rs : List (List Int)} {nn nb : Nat} {q : List Int} (hl : (l, listOf vs.toArray nn) ∈ news) (hi : LLAre news vs rs) (hb : (b, listOf us.toArray nb) ∈ news) (hq : IntsAre us q)
   (ret : ∀ (k : Int) t h' tk', k = (rs.count q : Nat) → Fr h₀ L h' m → News h₀ L h' news → Q (.int k t) {s with heap := h', toks := tk'}) :
   wpAny (model prog w) (ktrTop dp un gd cn cs L a ccd cl outer) (call (.ref 42) [.ref l, .ref b]) Q E s := by
  have hvl := hi.length
  refine wpAny_call ?_
  k_dflt (refine' code_def (binds := [(Str.ofString "a", Value.ref l), (Str.ofString "b", Value.ref b)]) ?k1 ?k2 ?k3 ?k4 ?k5 ?kA ?kF ?kK ?k6 ?k7 ?k8 ?k9 ?kB ?_ ?c2 ?c3 ?c4 ?c5; (case kA => exact rfl); (case kF => exact rfl); (case kK => assumption); (case k1 => k_asm); (case k2 => k_asm); (case k3 => k_asm); (case k4 => k_asm); (case k5 => k_asm); (case k6 => k_is); (case k7 => k_is); (case k8 => ktr_room); (case k9 => first | exact BindsTo.of_eq rfl | exact hbd _ _ _ _ rfl | (refine' kp_binds ?kx ?ke; (case kx => k_in); (case ke => exact fun _ => rfl))); (case c5 => decide); (case kB => exact locs rfl); (case c2 => exact rfl); (case c3 => exact rfl); (case c4 => exact rfl); k_whole; intro g' L' h' FG' F' N' B' X' T'; (try dsimp only); (try k_lift B'); (try k_fold))
  k_steps
  (with_unfolding_all refine' for_list (σ := Int × Nat) (fun _ => news) (fun c => [(Str.ofString "count", Value.int c.1 c.2)]) [Str.ofString "i"] (fun i _ c => c.1 = ((rs.take i).count q : Nat)) (?a, ?b) rfl (fun _ _ _ _ => hl) (fun _ _ _ _ _ h => h) ?F ?N ?hk ?hj ?turn ?done ?hE)
  case F => assumption
  case N => assumption
  case hk => kst_all
  case hj => rfl
  case hE => passes_own
  case turn =>
    rintro ⟨k, tk0⟩ i v u h tk I oI hv hJ hle hoff F1 N1
    obtain ⟨a', ws', n', r, rfl, hm', hn, hi'⟩ := hi.at hv
    dsimp only [kstB] at F1
    (try dsimp only)
    (try k_fold)
    k_steps
    all_goals exact turn_end (_, _) (by assumption) (by assumption) (by kst_all) (by ksw_same) (by kcf_m) (by kcf_all) (by assumption) (by (dsimp only at hJ ⊢; rw [take_succ_countL hn]; first | rw [if_pos (by assumption)] | rw [if_neg (by assumption)] | (rename a' = b => e9; subst e9; have e8 := list_same N1 (.tail _ hm') (.tail _ hb); subst e8; rw [if_pos (ints_same hi' hq)])); omega)
  case done =>
    rintro ⟨k, tk0⟩ u h tk hJ hle F1 N1
    dsimp only [kstB] at F1
    (try dsimp only)
    k_steps
    exact ret _ _ _ _ (by rw [hvl, List.take_length] at hJ; exact hJ) (by assumption) (by assumption)
end
end Ccnt



theorem layCops1 : True := by
  k_with_none
  k_with "memK" => (first | assumption | exact Sub.of (by assumption) _ (by assumption) | kd_lift)
  k_with "subl" => (first | exact fun _ hp => hp | exact sub_nil | (with_reducible refine sub_keep ?_; k_extra "subl") | (with_reducible refine sub_skip ?_; k_extra "subl"))
  k_with "kcf_all" => (first | exact all_nil | k_extra "subl" | (refine all_cons ?_ ?_; (focus kcf_m); kcf_all))
  k_with "mem" => (exact Sub.of (by assumption) _ (by assumption))
  k_with "is_list" => (first | exact News.isList (by assumption) (by assumption) | exact News.isList (by assumption) (Sub.of (by assumption) _ (by assumption)) | exact News.isList (by assumption) (by kd_lift))
  k_with "all" => (first | assumption | ((rename (∀ p : Addr × Obj, p ∈ _ → p.1 < _) => l9); intro p9 hp9; (have q9 := ltN (l9 p9 hp9)); refine neN ?_; omega) | exact all_nil | (apply all_cons; (k_ne); (k_all)))
  k_with "enter" => ((apply code_def; k_asm; k_asm; k_asm; k_asm; k_asm; exact rfl; exact rfl; (first | exact rfl | assumption); k_is; k_is; ktr_room; (exact BindsTo.of_eq rfl); (exact locs rfl); rotate_left; (exact rfl); (exact rfl); (exact rfl); decide; k_whole); intros; (try dsimp only); (try ((rename (Below _ _ _ _) => B9); k_lift B9; revert B9; intros)); (try k_fold))
  k_with "subscriptTail" => (k_here; (with_reducible show wpAny _ _ (subscriptTail _ _ (Value.ref _) (Value.int _ _)) _ _ _); (with_unfolding_all (apply ll_item; k_asm; k_memK; assumption; (first | kd_idx | (simp only [fdiv2]; omega)); (first | kd_idx | (simp only [fdiv2]; omega)); (first | kd_idx | (simp only [fdiv2]; omega)); (with_unfolding_all rfl); k_whole)); intros; (try (rename_i hr9; (have hw9 := row_len (by assumption) hr9); revert hr9 hw9; intros)))
  k_with "getItem ref int" => (k_here; (with_unfolding_all (apply ll_getItem; k_asm; k_memK; assumption; (first | kd_idx | (simp only [fdiv2]; omega)); (first | kd_idx | (simp only [fdiv2]; omega)); (first | kd_idx | (simp only [fdiv2]; omega)); k_whole)); intros; (try (rename_i hr9; (have hw9 := row_len (by assumption) hr9); revert hr9 hw9; intros)))
  k_with "call builtin:len" => (k_here; (with_reducible show wpAny _ _ (call (Value.builtin "len") [Value.ref _]) _ _ _); k_dflt (apply ll_len; k_asm; (first | assumption | k_memK | kd_lift); assumption; (first | omega | ((try simp only [List.length_append, List.length_cons, List.length_nil, List.length_map, List.length_reverse, rangeKs_length] at *); omega)); k_whole))
  k_with "compareOp Eq ref ref" => (k_here; (with_reducible show wpAny _ _ (compareOp CmpOp.Eq (Value.ref _) (Value.ref _)) _ _ _); (with_unfolding_all (apply eq_intsK; is_list; l_ints; is_list; l_ints; ktr_units; k_whole)))
  k_with "subscriptTail Name Slice ref ref" => (k_here; (with_reducible show wpAny _ _ (subscriptTail _ (PySem.Expr.Slice none none (some _) _) (Value.ref _) (Value.ref _)) _ _ _); k_dflt (apply rev_V; k_asm; k_asm; k_memK; (exact IsPart.int _ _); (with_unfolding_all rfl); kmk_pure; omega; k_whole); intros; (rename_i l9); (try k_lt l9); (try k_sweep); (try (revert l9; intros)))
  k_with "exec Assign" => (k_fold; walk_at "exec Assign")
  k_with "exec Expr" => (k_fold; walk_at "exec Expr")
  k_with "exec If" => (k_fold; walk_at "exec If")
  k_with "exec Return" => (k_fold; walk_at "exec Return")
  k_with "exec AugAssign" => (k_fold; walk_at "exec AugAssign")
  k_with "exec While" => (k_fold; walk_at "exec While")
  trivial
section Cops
theorem layCops2 : True := by
  k_with "execs cons" => (k_here; (with_reducible show wpAny _ _ _ _ _ (Shared.mk _ _ _ (_ + _) _)); (refine gen_toks ?_); intros; (try (rename_i e9; simp only [List.length_cons, List.length_nil, Nat.zero_add] at e9; revert e9; intro _)))
  k_with "execs nil" => (k_here; (with_reducible show wpAny _ _ _ _ _ (Shared.mk _ _ _ (_ + _) _)); (refine gen_toks ?_); intros; (try (rename_i e9; simp only [List.length_cons, List.length_nil, Nat.zero_add] at e9; revert e9; intro _)))
  trivial
section
variable {prog : Program} {w : World} {p : Program} {loose : List Str} {mean : ExcName → Option Value} {mg mb : Str → Option Value}
theorem layCops3 : True := by
  k_with "mul_fits" => (exact PySem.IntMulOk.of_right (PySem.intBits_le_64 (by omega) (by omega)))
  trivial
theorem mul_ok {dp un : Nat} {gd : Option (List Code)} {cn : Str} {cs : Scope} {a : Addr} {ccd : Value} {cl : List (Str × Addr)} {outer : List Env} {A₀ : Around} {base h₀ : Heap} {L : Addr} {m : Str → Option Value} {s : Shared} {Q E : Value → Shared → Prop} {news : List (Addr × Obj)} (B : Below A₀ base outer h₀) (F : Fr h₀ L s.heap m) (X : (hd.heap_1 w.params).In h₀) (N : News h₀ L s.heap news) (T : Top p loose mean mg mb h₀) (hk : cs.kind = .function) (hd1 : dp + 3 < recursionLimit) (hu : un + 40 < cLine)
   {x y : Int} {tx ty : Tok} (hb : y.natAbs ≤ 100000)
   (ret : ∀ (t : Nat) h' tk', s.toks ≤ t → t < tk' → Fr h₀ L h' m → News h₀ L h' news → Q (.int (x * y) t) {s with heap := h', toks := tk'}) :
   wpAny (model prog w) (ktrTop dp un gd cn cs L a ccd cl outer) (call (.ref 28) [.int x tx, .int y ty]) Q E s := by
  refine wpAny_call ?_
  k_dflt (refine' code_def (binds := [(Str.ofString "a", Value.int x tx), (Str.ofString "b", Value.int y ty)]) ?k1 ?k2 ?k3 ?k4 ?k5 ?kA ?kF ?kK ?k6 ?k7 ?k8 ?k9 ?kB ?_ ?c2 ?c3 ?c4 ?c5; (case kA => exact rfl); (case kF => exact rfl); (case kK => assumption); (case k1 => k_asm); (case k2 => k_asm); (case k3 => k_asm); (case k4 => k_asm); (case k5 => k_asm); (case k6 => k_is); (case k7 => k_is); (case k8 => ktr_room); (case k9 => first | exact BindsTo.of_eq rfl | exact hbd _ _ _ _ rfl | (refine' kp_binds ?kx ?ke; (case kx => k_in); (case ke => exact fun _ => rfl))); (case c5 => decide); (case kB => exact locs rfl); (case c2 => exact rfl); (case c3 => exact rfl); (case c4 => exact rfl); k_whole; intro g' L' h' FG' F' N' B' X' T'; (try dsimp only); (try k_lift B'); (try k_fold))
  k_steps
  all_goals first | (refine ret _ _ _ ?_ ?_ (by assumption) (by assumption); (first | exact Nat.le_add_left _ _ | ((try dsimp only); omega)); (first | exact Nat.lt_succ_self _ | ((try dsimp only); omega))) | fail
theorem add_ok {dp un : Nat} {gd : Option (List Code)} {cn : Str} {cs : Scope} {a : Addr} {ccd : Value} {cl : List (Str × Addr)} {outer : List Env} {A₀ : Around} {base h₀ : Heap} {L : Addr} {m : Str → Option Value} {s : Shared} {Q E : Value → Shared → Prop} {news : List (Addr × Obj)} (B : Below A₀ base outer h₀) (F : Fr h₀ L s.heap m) (X : (hd.heap_1 w.params).In h₀) (N : News h₀ L s.heap news) (T : Top p loose mean mg mb h₀) (hk : cs.kind = .function) (hd1 : dp + 3 < recursionLimit) (hu : un + 40 < cLine)
   {x y : Int} {tx ty : Tok}
   (ret : ∀ (t : Nat) h' tk', s.toks ≤ t → t < tk' → Fr h₀ L h' m → News h₀ L h' news → Q (.int (x + y) t) {s with heap := h', toks := tk'}) :
   wpAny (model prog w) (ktrTop dp un gd cn cs L a ccd cl outer) (call (.ref 21) [.int x tx, .int y ty]) Q E s := by
  refine wpAny_call ?_
  k_dflt (refine' code_def (binds := [(Str.ofString "a", Value.int x tx), (Str.ofString "b", Value.int y ty)]) ?k1 ?k2 ?k3 ?k4 ?k5 ?kA ?kF ?kK ?k6 ?k7 ?k8 ?k9 ?kB ?_ ?c2 ?c3 ?c4 ?c5; (case kA => exact rfl); (case kF => exact rfl); (case kK => assumption); (case k1 => k_asm); (case k2 => k_asm); (case k3 => k_asm); (case k4 => k_asm); (case k5 => k_asm); (case k6 => k_is); (case k7 => k_is); (case k8 => ktr_room); (case k9 => first | exact BindsTo.of_eq rfl | exact hbd _ _ _ _ rfl | (refine' kp_binds ?kx ?ke; (case kx => k_in); (case ke => exact fun _ => rfl))); (case c5 => decide); (case kB => exact locs rfl); (case c2 => exact rfl); (case c3 => exact rfl); (case c4 => exact rfl); k_whole; intro g' L' h' FG' F' N' B' X' T'; (try dsimp only); (try k_lift B'); (try k_fold))
  k_steps
  all_goals first | (refine ret _ _ _ ?_ ?_ (by assumption) (by assumption); (first | exact Nat.le_add_left _ _ | ((try dsimp only); omega)); (first | exact Nat.lt_succ_self _ | ((try dsimp only); omega))) | fail
theorem sub_ok {dp un : Nat} {gd : Option (List Code)} {cn : Str} {cs : Scope} {a : Addr} {ccd : Value} {cl : List (Str × Addr)} {outer : List Env} {A₀ : Around} {base h₀ : Heap} {L : Addr} {m : Str → Option Value} {s : Shared} {Q E : Value → Shared → Prop} {news : List (Addr × Obj)} (B : Below A₀ base outer h₀) (F : Fr h₀ L s.heap m) (X : (hd.heap_1 w.params).In h₀) (N : News h₀ L s.heap news) (T : Top p loose mean mg mb h₀) (hk : cs.kind = .function) (hd1 : dp + 3 < recursionLimit) (hu : un + 40 < cLine)
   {x y : Int} {tx ty : Tok}
   (ret : ∀ (t : Nat) h' tk', s.toks ≤ t → t < tk' → Fr h₀ L h' m → News h₀ L h' news → Q (.int (x - y) t) {s with heap := h', toks := tk'}) :
   wpAny (model prog w) (ktrTop dp un gd cn cs L a ccd cl outer) (call (.ref 35) [.int x tx, .int y ty]) Q E s := by
  refine wpAny_call ?_
  k_dflt (refine' code_def (binds := [(Str.ofString "a", Value.int x tx), (Str.ofString "b", Value.int y ty)]) ?k1 ?k2 ?k3 ?k4 ?k5 ?kA ?kF ?kK ?k6 ?k7 ?k8 ?k9 ?kB ?_ ?c2 ?c3 ?c4 ?c5; (case kA => exact rfl); (case kF => exact rfl); (case kK => assumption); (case k1 => k_asm); (case k2 => k_asm); (case k3 => k_asm); (case k4 => k_asm); (case k5 => k_asm); (case k6 => k_is); (case k7 => k_is); (case k8 => ktr_room); (case k9 => first | exact BindsTo.of_eq rfl | exact hbd _ _ _ _ rfl | (refine' kp_binds ?kx ?ke; (case kx => k_in); (case ke => exact fun _ => rfl))); (case c5 => decide); (case kB => exact locs rfl); (case c2 => exact rfl); (case c3 => exact rfl); (case c4 => exact rfl); k_whole; intro g' L' h' FG' F' N' B' X' T'; (try dsimp only); (try k_lift B'); (try k_fold))
  k_steps
  all_goals first | (refine ret _ _ _ ?_ ?_ (by assumption) (by assumption); (first | exact Nat.le_add_left _ _ | ((try dsimp only); omega)); (first | exact Nat.lt_succ_self _ | ((try dsimp only); omega))) | fail
end
end Cops




theorem layChsv1 : True := by
  k_with_none
  k_with "memK" => (first | assumption | exact Sub.of (by assumption) _ (by assumption) | kd_lift)
  k_with "subl" => (first | exact fun _ hp => hp | exact sub_nil | (with_reducible refine sub_keep ?_; k_extra "subl") | (with_reducible refine sub_skip ?_; k_extra "subl"))
  k_with "kcf_all" => (first | exact all_nil | k_extra "subl" | (refine all_cons ?_ ?_; (focus kcf_m); kcf_all))
  k_with "mem" => (exact Sub.of (by assumption) _ (by assumption))
  k_with "is_list" => (first | exact News.isList (by assumption) (by assumption) | exact News.isList (by assumption) (Sub.of (by assumption) _ (by assumption)) | exact News.isList (by assumption) (by kd_lift))
  k_with "all" => (first | assumption | ((rename (∀ p : Addr × Obj, p ∈ _ → p.1 < _) => l9); intro p9 hp9; (have q9 := ltN (l9 p9 hp9)); refine neN ?_; omega) | exact all_nil | (apply all_cons; (k_ne); (k_all)))
  k_with "enter" => ((apply code_def; k_asm; k_asm; k_asm; k_asm; k_asm; exact rfl; exact rfl; (first | exact rfl | assumption); k_is; k_is; ktr_room; (exact BindsTo.of_eq rfl); (exact locs rfl); rotate_left; (exact rfl); (exact rfl); (exact rfl); decide; k_whole); intros; (try dsimp only); (try ((rename (Below _ _ _ _) => B9); k_lift B9; revert B9; intros)); (try k_fold))
  k_with "subscriptTail" => (k_here; (with_reducible show wpAny _ _ (subscriptTail _ _ (Value.ref _) (Value.int _ _)) _ _ _); (with_unfolding_all (apply ll_item; k_asm; k_memK; assumption; (first | kd_idx | (simp only [fdiv2]; omega)); (first | kd_idx | (simp only [fdiv2]; omega)); (first | kd_idx | (simp only [fdiv2]; omega)); (with_unfolding_all rfl); k_whole)); intros; (try (rename_i hr9; (have hw9 := row_len (by assumption) hr9); revert hr9 hw9; intros)))
  k_with "getItem ref int" => (k_here; (with_unfolding_all (apply ll_getItem; k_asm; k_memK; assumption; (first | kd_idx | (simp only [fdiv2]; omega)); (first | kd_idx | (simp only [fdiv2]; omega)); (first | kd_idx | (simp only [fdiv2]; omega)); k_whole)); intros; (try (rename_i hr9; (have hw9 := row_len (by assumption) hr9); revert hr9 hw9; intros)))
  k_with "call builtin:len" => (k_here; (with_reducible show wpAny _ _ (call (Value.builtin "len") [Value.ref _]) _ _ _); k_dflt (apply ll_len; k_asm; (first | assumption | k_memK | kd_lift); assumption; (first | omega | ((try simp only [List.length_append, List.length_cons, List.length_nil, List.length_map, List.length_reverse, rangeKs_length] at *); omega)); k_whole))
  k_with "compareOp Eq ref ref" => (k_here; (with_reducible show wpAny _ _ (compareOp CmpOp.Eq (Value.ref _) (Value.ref _)) _ _ _); (with_unfolding_all (apply eq_intsK; is_list; l_ints; is_list; l_ints; ktr_units; k_whole)))
  k_with "subscriptTail Name Slice ref ref" => (k_here; (with_reducible show wpAny _ _ (subscriptTail _ (PySem.Expr.Slice none none (some _) _) (Value.ref _) (Value.ref _)) _ _ _); k_dflt (apply rev_V; k_asm; k_asm; k_memK; (exact IsPart.int _ _); (with_unfolding_all rfl); kmk_pure; omega; k_whole); intros; (rename_i l9); (try k_lt l9); (try k_sweep); (try (revert l9; intros)))
  trivial
section Chsv
theorem fmod_six {k : Int} (h0 : k.fmod 6 ≠ 0) (h1 : k.fmod 6 ≠ 1) (h2 : k.fmod 6 ≠ 2) (h3 : k.fmod 6 ≠ 3) (h4 : k.fmod 6 ≠ 4) : k.fmod 6 = 5 := by
  have a := Int.fmod_nonneg_of_pos k (by decide : (0 : Int) < 6)
  have b := Int.fmod_lt_of_pos k (by decide : (0 : Int) < 6)
  omega
section
variable {prog : Program} {w : World} {p : Program} {loose : List Str} {mean : ExcName → Option Value} {mg mb : Str → Option Value}
theorem hsv_ok {dp un : Nat} {gd : Option (List Code)} {cn : Str} {cs : Scope} {a : Addr} {ccd : Value} {cl : List (Str × Addr)} {outer : List Env} {A₀ : Around} {base h₀ : Heap} {L : Addr} {m : Str → Option Value} {s : Shared} {Q E : Value → Shared → Prop} {news : List (Addr × Obj)} (B : Below A₀ base outer h₀) (F : Fr h₀ L s.heap m) (X : (hd.heap_1 w.params).In h₀) (N : News h₀ L s.heap news) (T : Top p loose mean mg mb h₀) (hk : cs.kind = .function) (hd1 : dp + 4 < recursionLimit) (hu : un + 100 < cLine)
   {x y z : UInt64} {tx ty tz : Tok} (ok : hsvOk x y = true)
   (ret : ∀ (t : Addr) a b c ta tb tc h' tk', hsvF x y z = (a, b, c) → Fr h₀ L h' m → News h₀ L h' ((t, tupOf [.float a ta, .float b tb, .float c tc]) :: news) → Q (.ref t) {s with heap := h', toks := tk'}) :
   wpAny (model prog w) (ktrTop dp un gd cn cs L a ccd cl outer) (call (.ref 92) [.float x tx, .float y ty, .float z tz]) Q E s := by
  have hfin := hsvOk_fin ok
  have hsm := hsvOk_small ok
  have hsat := hsvOk_sat ok
  refine wpAny_call ?_
  k_dflt (refine' code_def (binds := [(Str.ofString "h", Value.float x tx), (Str.ofString "s", Value.float y ty), (Str.ofString "v", Value.float z tz)]) ?k1 ?k2 ?k3 ?k4 ?k5 ?kA ?kF ?kK ?k6 ?k7 ?k8 ?k9 ?kB ?_ ?c2 ?c3 ?c4 ?c5; (case kA => exact rfl); (case kF => exact rfl); (case kK => assumption); (case k1 => k_asm); (case k2 => k_asm); (case k3 => k_asm); (case k4 => k_asm); (case k5 => k_asm); (case k6 => k_is); (case k7 => k_is); (case k8 => ktr_room); (case k9 => first | exact BindsTo.of_eq rfl | exact hbd _ _ _ _ rfl | (refine' kp_binds ?kx ?ke; (case kx => k_in); (case ke => exact fun _ => rfl))); (case c5 => decide); (case kB => exact locs rfl); (case c2 => exact rfl); (case c3 => exact rfl); (case c4 => exact rfl); k_whole; intro g' L' h' FG' F' N' B' X' T'; (try dsimp only); (try k_lift B'); (try k_fold))
  k_steps
  all_goals first
    | exact absurd (by assumption) (not_nan hfin)
    | exact absurd (by assumption) (not_inf hfin)
    | exact (eqF_clash (by assumption) hsat).elim
    | exact (big_no hsm (by assumption)).elim
    | exact ret _ _ _ _ _ _ _ _ _ (hsv_0 (by assumption)) (by assumption) (by assumption)
    | exact ret _ _ _ _ _ _ _ _ _ (hsv_1 (by assumption)) (by assumption) (by assumption)
    | exact ret _ _ _ _ _ _ _ _ _ (hsv_2 (by assumption)) (by assumption) (by assumption)
    | exact ret _ _ _ _ _ _ _ _ _ (hsv_3 (by assumption)) (by assumption) (by assumption)
    | exact ret _ _ _ _ _ _ _ _ _ (hsv_4 (by assumption)) (by assumption) (by assumption)
    | exact ret _ _ _ _ _ _ _ _ _ (hsv_5 (by first | assumption | exact fmod_six (by assumption) (by assumption) (by assumption) (by assumption) (by assumption))) (by assumption) (by assumption)
    | exact (hsv_no (by assumption) (by assumption) (by assumption) (by assumption) (by assumption) (by assumption)).elim
    | fail
theorem hsv_okE {dp un : Nat} {gd : Option (List Code)} {cn : Str} {cs : Scope} {a : Addr} {ccd : Value} {cl : List (Str × Addr)} {outer : List Env} {A₀ : Around} {base h₀ : Heap} {L : Addr} {m : Str → Option Value} {s : Shared} {Q E : Value → Shared → Prop} {news : List (Addr × Obj)} (B : Below A₀ base outer h₀) (F : Fr h₀ L s.heap m) (X : (hd.heap_1 w.params).In h₀) (N : News h₀ L s.heap news) (T : Top p loose mean mg mb h₀) (hk : cs.kind = .function) (hd1 : dp + 4 < recursionLimit) (hu : un + 100 < cLine)
   {x y z a₁ b₁ c₁ : UInt64} {tx ty tz : Tok} (ok : hsvOk x y = true) (hr : hsvF x y z = (a₁, b₁, c₁))
   (ret : ∀ (t : Addr) ta tb tc h' tk', Fr h₀ L h' m → News h₀ L h' ((t, tupOf [.float a₁ ta, .float b₁ tb, .float c₁ tc]) :: news) → Q (.ref t) {s with heap := h', toks := tk'}) :
   wpAny (model prog w) (ktrTop dp un gd cn cs L a ccd cl outer) (call (.ref 92) [.float x tx, .float y ty, .float z tz]) Q E s :=
  hsv_ok B F X N T hk hd1 hu ok fun t a b c ta tb tc h' tk' e F' N' => by
    rw [hr] at e
    obtain ⟨rfl, rfl, rfl⟩ : a₁ = a ∧ b₁ = b ∧ c₁ = c := by simpa using e
    exact ret t ta tb tc h' tk' F' N'
end
end Chsv


theorem layCrgb1 : True := by
  k_with_none
  k_with "memK" => (first | assumption | exact Sub.of (by assumption) _ (by assumption) | kd_lift)
  k_with "subl" => (first | exact fun _ hp => hp | exact sub_nil | (with_reducible refine sub_keep ?_; k_extra "subl") | (with_reducible refine sub_skip ?_; k_extra "subl"))
  k_with "kcf_all" => (first | exact all_nil | k_extra "subl" | (refine all_cons ?_ ?_; (focus kcf_m); kcf_all))
  k_with "mem" => (exact Sub.of (by assumption) _ (by assumption))
  k_with "is_list" => (first | exact News.isList (by assumption) (by assumption) | exact News.isList (by assumption) (Sub.of (by assumption) _ (by assumption)) | exact News.isList (by assumption) (by kd_lift))
  k_with "all" => (first | assumption | ((rename (∀ p : Addr × Obj, p ∈ _ → p.1 < _) => l9); intro p9 hp9; (have q9 := ltN (l9 p9 hp9)); refine neN ?_; omega) | exact all_nil | (apply all_cons; (k_ne); (k_all)))
  k_with "enter" => ((apply code_def; k_asm; k_asm; k_asm; k_asm; k_asm; exact rfl; exact rfl; (first | exact rfl | assumption); k_is; k_is; ktr_room; (exact BindsTo.of_eq rfl); (exact locs rfl); rotate_left; (exact rfl); (exact rfl); (exact rfl); decide; k_whole); intros; (try dsimp only); (try ((rename (Below _ _ _ _) => B9); k_lift B9; revert B9; intros)); (try k_fold))
  k_with "subscriptTail" => (k_here; (with_reducible show wpAny _ _ (subscriptTail _ _ (Value.ref _) (Value.int _ _)) _ _ _); (with_unfolding_all (apply ll_item; k_asm; k_memK; assumption; (first | kd_idx | (simp only [fdiv2]; omega)); (first | kd_idx | (simp only [fdiv2]; omega)); (first | kd_idx | (simp only [fdiv2]; omega)); (with_unfolding_all rfl); k_whole)); intros; (try (rename_i hr9; (have hw9 := row_len (by assumption) hr9); revert hr9 hw9; intros)))
  k_with "getItem ref int" => (k_here; (with_unfolding_all (apply ll_getItem; k_asm; k_memK; assumption; (first | kd_idx | (simp only [fdiv2]; omega)); (first | kd_idx | (simp only [fdiv2]; omega)); (first | kd_idx | (simp only [fdiv2]; omega)); k_whole)); intros; (try (rename_i hr9; (have hw9 := row_len (by assumption) hr9); revert hr9 hw9; intros)))
  k_with "call builtin:len" => (k_here; (with_reducible show wpAny _ _ (call (Value.builtin "len") [Value.ref _]) _ _ _); k_dflt (apply ll_len; k_asm; (first | assumption | k_memK | kd_lift); assumption; (first | omega | ((try simp only [List.length_append, List.length_cons, List.length_nil, List.length_map, List.length_reverse, rangeKs_length] at *); omega)); k_whole))
  k_with "compareOp Eq ref ref" => (k_here; (with_reducible show wpAny _ _ (compareOp CmpOp.Eq (Value.ref _) (Value.ref _)) _ _ _); (with_unfolding_all (apply eq_intsK; is_list; l_ints; is_list; l_ints; ktr_units; k_whole)))
  k_with "subscriptTail Name Slice ref ref" => (k_here; (with_reducible show wpAny _ _ (subscriptTail _ (PySem.Expr.Slice none none (some _) _) (Value.ref _) (Value.ref _)) _ _ _); k_dflt (apply rev_V; k_asm; k_asm; k_memK; (exact IsPart.int _ _); (with_unfolding_all rfl); kmk_pure; omega; k_whole); intros; (rename_i l9); (try k_lt l9); (try k_sweep); (try (revert l9; intros)))
  k_with "exec Assign" => (k_fold; walk_at "exec Assign")
  k_with "exec Expr" => (k_fold; walk_at "exec Expr")
  k_with "exec If" => (k_fold; walk_at "exec If")
  k_with "exec Return" => (k_fold; walk_at "exec Return")
  k_with "exec AugAssign" => (k_fold; walk_at "exec AugAssign")
  k_with "exec While" => (k_fold; walk_at "exec While")
  trivial
section Crgb
theorem layCrgb2 : True := by
  k_with "call builtin:max" => (k_here; k_dflt (apply max3_ok; (exact rfl); k_asm; k_asm); intros; (try k_sweep); (try dsimp only))
  k_with "call builtin:min" => (k_here; k_dflt (apply min3_ok; (exact rfl); k_asm; k_asm); intros; (try k_sweep); (try dsimp only))
  trivial
section
variable {prog : Program} {w : World} {p : Program} {loose : List Str} {mean : ExcName → Option Value} {mg mb : Str → Option Value}
theorem rgb_ok {dp un : Nat} {gd : Option (List Code)} {cn : Str} {cs : Scope} {a : Addr} {ccd : Value} {cl : List (Str × Addr)} {outer : List Env} {A₀ : Around} {base h₀ : Heap} {L : Addr} {m : Str → Option Value} {s : Shared} {Q E : Value → Shared → Prop} {news : List (Addr × Obj)} (B : Below A₀ base outer h₀) (F : Fr h₀ L s.heap m) (X : (hd.heap_1 w.params).In h₀) (N : News h₀ L s.heap news) (T : Top p loose mean mg mb h₀) (hk : cs.kind = .function) (hd1 : dp + 4 < recursionLimit) (hu : un + 100 < cLine)
   {x y z : UInt64} {tx ty tz : Tok} (ok : rgbOk x y z = true)
   (ret : ∀ (t : Addr) a b c ta tb tc h' tk', rgbF x y z = (a, b, c) → Fr h₀ L h' m → News h₀ L h' ((t, tupOf [.float a ta, .float b tb, .float c tc]) :: news) → Q (.ref t) {s with heap := h', toks := tk'}) :
   wpAny (model prog w) (ktrTop dp un gd cn cs L a ccd cl outer) (call (.ref 85) [.float x tx, .float y ty, .float z tz]) Q E s := by
  have he := rgbOk_eq ok
  have hz1 := rgbOk_z1 ok
  have hz2 := rgbOk_z2 ok
  refine wpAny_call ?_
  k_dflt (refine' code_def (binds := [(Str.ofString "r", Value.float x tx), (Str.ofString "g", Value.float y ty), (Str.ofString "b", Value.float z tz)]) ?k1 ?k2 ?k3 ?k4 ?k5 ?kA ?kF ?kK ?k6 ?k7 ?k8 ?k9 ?kB ?_ ?c2 ?c3 ?c4 ?c5; (case kA => exact rfl); (case kF => exact rfl); (case kK => assumption); (case k1 => k_asm); (case k2 => k_asm); (case k3 => k_asm); (case k4 => k_asm); (case k5 => k_asm); (case k6 => k_is); (case k7 => k_is); (case k8 => ktr_room); (case k9 => first | exact BindsTo.of_eq rfl | exact hbd _ _ _ _ rfl | (refine' kp_binds ?kx ?ke; (case kx => k_in); (case ke => exact fun _ => rfl))); (case c5 => decide); (case kB => exact locs rfl); (case c2 => exact rfl); (case c3 => exact rfl); (case c4 => exact rfl); k_whole; intro g' L' h' FG' F' N' B' X' T'; (try dsimp only); (try k_lift B'); (try k_fold))
  k_steps
  all_goals first
    | exact (eqF_clash (by assumption) he).elim
    | exact (bool_clash (by assumption) hz1).elim
    | exact (bool_clash (by assumption) hz2).elim
    | exact ret _ _ _ _ _ _ _ _ _ (rgb_x (by assumption)) (by assumption) (by assumption)
    | exact ret _ _ _ _ _ _ _ _ _ (rgb_y (by assumption) (by assumption)) (by assumption) (by assumption)
    | exact ret _ _ _ _ _ _ _ _ _ (rgb_z (by assumption) (by assumption)) (by assumption) (by assumption)
    | fail
theorem rgb_okE {dp un : Nat} {gd : Option (List Code)} {cn : Str} {cs : Scope} {a : Addr} {ccd : Value} {cl : List (Str × Addr)} {outer : List Env} {A₀ : Around} {base h₀ : Heap} {L : Addr} {m : Str → Option Value} {s : Shared} {Q E : Value → Shared → Prop} {news : List (Addr × Obj)} (B : Below A₀ base outer h₀) (F : Fr h₀ L s.heap m) (X : (hd.heap_1 w.params).In h₀) (N : News h₀ L s.heap news) (T : Top p loose mean mg mb h₀) (hk : cs.kind = .function) (hd1 : dp + 4 < recursionLimit) (hu : un + 100 < cLine)
   {x y z a₁ b₁ c₁ : UInt64} {tx ty tz : Tok} (ok : rgbOk x y z = true) (hr : rgbF x y z = (a₁, b₁, c₁))
   (ret : ∀ (t : Addr) ta tb tc h' tk', Fr h₀ L h' m → News h₀ L h' ((t, tupOf [.float a₁ ta, .float b₁ tb, .float c₁ tc]) :: news) → Q (.ref t) {s with heap := h', toks := tk'}) :
   wpAny (model prog w) (ktrTop dp un gd cn cs L a ccd cl outer) (call (.ref 85) [.float x tx, .float y ty, .float z tz]) Q E s :=
  rgb_ok B F X N T hk hd1 hu ok fun t a b c ta tb tc h' tk' e F' N' => by
    rw [hr] at e
    obtain ⟨rfl, rfl, rfl⟩ : a₁ = a ∧ b₁ = b ∧ c₁ = c := by simpa using e
    exact ret t ta tb tc h' tk' F' N'
end
end Crgb


theorem layCwhole1 : True := by
  k_with_none
  k_with "memK" => (first | assumption | exact Sub.of (by assumption) _ (by assumption) | kd_lift)
  k_with "subl" => (first | exact fun _ hp => hp | exact sub_nil | (with_reducible refine sub_keep ?_; k_extra "subl") | (with_reducible refine sub_skip ?_; k_extra "subl"))
  k_with "kcf_all" => (first | exact all_nil | k_extra "subl" | (refine all_cons ?_ ?_; (focus kcf_m); kcf_all))
  k_with "mem" => (exact Sub.of (by assumption) _ (by assumption))
  k_with "is_list" => (first | exact News.isList (by assumption) (by assumption) | exact News.isList (by assumption) (Sub.of (by assumption) _ (by assumption)) | exact News.isList (by assumption) (by kd_lift))
  k_with "all" => (first | assumption | ((rename (∀ p : Addr × Obj, p ∈ _ → p.1 < _) => l9); intro p9 hp9; (have q9 := ltN (l9 p9 hp9)); refine neN ?_; omega) | exact all_nil | (apply all_cons; (k_ne); (k_all)))
  k_with "enter" => ((apply code_def; k_asm; k_asm; k_asm; k_asm; k_asm; exact rfl; exact rfl; (first | exact rfl | assumption); k_is; k_is; ktr_room; (exact BindsTo.of_eq rfl); (exact locs rfl); rotate_left; (exact rfl); (exact rfl); (exact rfl); decide; k_whole); intros; (try dsimp only); (try ((rename (Below _ _ _ _) => B9); k_lift B9; revert B9; intros)); (try k_fold))
  k_with "subscriptTail" => (k_here; (with_reducible show wpAny _ _ (subscriptTail _ _ (Value.ref _) (Value.int _ _)) _ _ _); (with_unfolding_all (apply ll_item; k_asm; k_memK; assumption; (first | kd_idx | (simp only [fdiv2]; omega)); (first | kd_idx | (simp only [fdiv2]; omega)); (first | kd_idx | (simp only [fdiv2]; omega)); (with_unfolding_all rfl); k_whole)); intros; (try (rename_i hr9; (have hw9 := row_len (by assumption) hr9); revert hr9 hw9; intros)))
  k_with "getItem ref int" => (k_here; (with_unfolding_all (apply ll_getItem; k_asm; k_memK; assumption; (first | kd_idx | (simp only [fdiv2]; omega)); (first | kd_idx | (simp only [fdiv2]; omega)); (first | kd_idx | (simp only [fdiv2]; omega)); k_whole)); intros; (try (rename_i hr9; (have hw9 := row_len (by assumption) hr9); revert hr9 hw9; intros)))
  k_with "call builtin:len" => (k_here; (with_reducible show wpAny _ _ (call (Value.builtin "len") [Value.ref _]) _ _ _); k_dflt (apply ll_len; k_asm; (first | assumption | k_memK | kd_lift); assumption; (first | omega | ((try simp only [List.length_append, List.length_cons, List.length_nil, List.length_map, List.length_reverse, rangeKs_length] at *); omega)); k_whole))
  k_with "compareOp Eq ref ref" => (k_here; (with_reducible show wpAny _ _ (compareOp CmpOp.Eq (Value.ref _) (Value.ref _)) _ _ _); (with_unfolding_all (apply eq_intsK; is_list; l_ints; is_list; l_ints; ktr_units; k_whole)))
  k_with "subscriptTail Name Slice ref ref" => (k_here; (with_reducible show wpAny _ _ (subscriptTail _ (PySem.Expr.Slice none none (some _) _) (Value.ref _) (Value.ref _)) _ _ _); k_dflt (apply rev_V; k_asm; k_asm; k_memK; (exact IsPart.int _ _); (with_unfolding_all rfl); kmk_pure; omega; k_whole); intros; (rename_i l9); (try k_lt l9); (try k_sweep); (try (revert l9; intros)))
  k_with "exec Assign" => (k_fold; walk_at "exec Assign")
  k_with "exec Expr" => (k_fold; walk_at "exec Expr")
  k_with "exec If" => (k_fold; walk_at "exec If")
  k_with "exec Return" => (k_fold; walk_at "exec Return")
  k_with "exec AugAssign" => (k_fold; walk_at "exec AugAssign")
  k_with "exec While" => (k_fold; walk_at "exec While")
  trivial
section Cwhole
theorem layCwhole2 : True := by
  k_with "execs cons" => (k_here; (with_reducible show wpAny _ _ _ _ _ (Shared.mk _ _ _ (_ + _) _)); (refine gen_toks ?_); intros; (try (rename_i e9; simp only [List.length_cons, List.length_nil, Nat.zero_add] at e9; revert e9; intro _)))
  k_with "execs nil" => (k_here; (with_reducible show wpAny _ _ _ _ _ (Shared.mk _ _ _ (_ + _) _)); (refine gen_toks ?_); intros; (try (rename_i e9; simp only [List.length_cons, List.length_nil, Nat.zero_add] at e9; revert e9; intro _)))
  trivial
section
variable {prog : Program} {w : World} {p : Program} {loose : List Str} {mean : ExcName → Option Value} {mg mb : Str → Option Value}
theorem whole_ok {dp un : Nat} {gd : Option (List Code)} {cn : Str} {cs : Scope} {a : Addr} {ccd : Value} {cl : List (Str × Addr)} {outer : List Env} {A₀ : Around} {base h₀ : Heap} {L : Addr} {m : Str → Option Value} {s : Shared} {Q E : Value → Shared → Prop} {news : List (Addr × Obj)} (B : Below A₀ base outer h₀) (F : Fr h₀ L s.heap m) (X : (hd.heap_1 w.params).In h₀) (N : News h₀ L s.heap news) (T : Top p loose mean mg mb h₀) (hk : cs.kind = .function) (hd1 : dp + 4 < recursionLimit) (hu : un + 200 < cLine)
   {x : UInt64} {tx : Tok} (hx : wholeOk x = true)
   (ret : ∀ (t : Nat) h' tk', s.toks ≤ t → t < tk' → Fr h₀ L h' m → News h₀ L h' news → Q (.int (wholeF x) t) {s with heap := h', toks := tk'}) :
   wpAny (model prog w) (ktrTop dp un gd cn cs L a ccd cl outer) (call (.ref 106) [.float x tx]) Q E s := by
  have hfin := whole_finite hx
  have hsm := whole_small hx
  refine wpAny_call ?_
  k_dflt (refine' code_def (binds := [(Str.ofString "number", Value.float x tx)]) ?k1 ?k2 ?k3 ?k4 ?k5 ?kA ?kF ?kK ?k6 ?k7 ?k8 ?k9 ?kB ?_ ?c2 ?c3 ?c4 ?c5; (case kA => exact rfl); (case kF => exact rfl); (case kK => assumption); (case k1 => k_asm); (case k2 => k_asm); (case k3 => k_asm); (case k4 => k_asm); (case k5 => k_asm); (case k6 => k_is); (case k7 => k_is); (case k8 => ktr_room); (case k9 => first | exact BindsTo.of_eq rfl | exact hbd _ _ _ _ rfl | (refine' kp_binds ?kx ?ke; (case kx => k_in); (case ke => exact fun _ => rfl))); (case c5 => decide); (case kB => exact locs rfl); (case c2 => exact rfl); (case c3 => exact rfl); (case c4 => exact rfl); k_whole; intro g' L' h' FG' F' N' B' X' T'; (try dsimp only); (try k_lift B'); (try k_fold))
  k_steps
  all_goals first
    | exact absurd (by assumption) (not_nan hfin)
    | exact absurd (by assumption) (not_inf hfin)
    | exact (big_no hsm (by assumption)).elim
    | (refine int_swap (Q := Q) (whole_yes (by assumption)) ?_; refine ret _ _ _ ?_ ?_ (by assumption) (by assumption); (first | ((repeat (rename (_ : Nat) < 2 ^ 1024 - 2 ^ 970 => z9; clear z9)); (try dsimp only); omega)); (first | exact Nat.lt_succ_self _ | ((repeat (rename (_ : Nat) < 2 ^ 1024 - 2 ^ 970 => z9; clear z9)); (try dsimp only); omega)))
    | (refine int_swap (Q := Q) (whole_no (by assumption)) ?_; refine ret _ _ _ ?_ ?_ (by assumption) (by assumption); (first | ((repeat (rename (_ : Nat) < 2 ^ 1024 - 2 ^ 970 => z9; clear z9)); (try dsimp only); omega)); (first | exact Nat.lt_succ_self _ | ((repeat (rename (_ : Nat) < 2 ^ 1024 - 2 ^ 970 => z9; clear z9)); (try dsimp only); omega)))
theorem whole_okE {dp un : Nat} {gd : Option (List Code)} {cn : Str} {cs : Scope} {a : Addr} {ccd : Value} {cl : List (Str × Addr)} {outer : List Env} {A₀ : Around} {base h₀ : Heap} {L : Addr} {m : Str → Option Value} {s : Shared} {Q E : Value → Shared → Prop} {news : List (Addr × Obj)} (B : Below A₀ base outer h₀) (F : Fr h₀ L s.heap m) (X : (hd.heap_1 w.params).In h₀) (N : News h₀ L s.heap news) (T : Top p loose mean mg mb h₀) (hk : cs.kind = .function) (hd1 : dp + 4 < recursionLimit) (hu : un + 200 < cLine)
   {x : UInt64} {tx : Tok} {k : Int} (hx : wholeOk x = true) (he : wholeF x = k)
   (ret : ∀ (t : Nat) h' tk', s.toks ≤ t → t < tk' → Fr h₀ L h' m → News h₀ L h' news → Q (.int k t) {s with heap := h', toks := tk'}) :
   wpAny (model prog w) (ktrTop dp un gd cn cs L a ccd cl outer) (call (.ref 106) [.float x tx]) Q E s := by
  subst he
  exact whole_ok B F X N T hk hd1 hu hx ret
end
end Cwhole


theorem layClight1 : True := by
  k_with_none
  k_with "memK" => (first | assumption | exact Sub.of (by assumption) _ (by assumption) | kd_lift)
  k_with "subl" => (first | exact fun _ hp => hp | exact sub_nil | (with_reducible refine sub_keep ?_; k_extra "subl") | (with_reducible refine sub_skip ?_; k_extra "subl"))
  k_with "kcf_all" => (first | exact all_nil | k_extra "subl" | (refine all_cons ?_ ?_; (focus kcf_m); kcf_all))
  k_with "mem" => (exact Sub.of (by assumption) _ (by assumption))
  k_with "is_list" => (first | exact News.isList (by assumption) (by assumption) | exact News.isList (by assumption) (Sub.of (by assumption) _ (by assumption)) | exact News.isList (by assumption) (by kd_lift))
  k_with "all" => (first | assumption | ((rename (∀ p : Addr × Obj, p ∈ _ → p.1 < _) => l9); intro p9 hp9; (have q9 := ltN (l9 p9 hp9)); refine neN ?_; omega) | exact all_nil | (apply all_cons; (k_ne); (k_all)))
  k_with "enter" => ((apply code_def; k_asm; k_asm; k_asm; k_asm; k_asm; exact rfl; exact rfl; (first | exact rfl | assumption); k_is; k_is; ktr_room; (exact BindsTo.of_eq rfl); (exact locs rfl); rotate_left; (exact rfl); (exact rfl); (exact rfl); decide; k_whole); intros; (try dsimp only); (try ((rename (Below _ _ _ _) => B9); k_lift B9; revert B9; intros)); (try k_fold))
  k_with "subscriptTail" => (k_here; (with_reducible show wpAny _ _ (subscriptTail _ _ (Value.ref _) (Value.int _ _)) _ _ _); (with_unfolding_all (apply ll_item; k_asm; k_memK; assumption; (first | kd_idx | (simp only [fdiv2]; omega)); (first | kd_idx | (simp only [fdiv2]; omega)); (first | kd_idx | (simp only [fdiv2]; omega)); (with_unfolding_all rfl); k_whole)); intros; (try (rename_i hr9; (have hw9 := row_len (by assumption) hr9); revert hr9 hw9; intros)))
  k_with "getItem ref int" => (k_here; (with_unfolding_all (apply ll_getItem; k_asm; k_memK; assumption; (first | kd_idx | (simp only [fdiv2]; omega)); (first | kd_idx | (simp only [fdiv2]; omega)); (first | kd_idx | (simp only [fdiv2]; omega)); k_whole)); intros; (try (rename_i hr9; (have hw9 := row_len (by assumption) hr9); revert hr9 hw9; intros)))
  k_with "call builtin:len" => (k_here; (with_reducible show wpAny _ _ (call (Value.builtin "len") [Value.ref _]) _ _ _); k_dflt (apply ll_len; k_asm; (first | assumption | k_memK | kd_lift); assumption; (first | omega | ((try simp only [List.length_append, List.length_cons, List.length_nil, List.length_map, List.length_reverse, rangeKs_length] at *); omega)); k_whole))
  k_with "compareOp Eq ref ref" => (k_here; (with_reducible show wpAny _ _ (compareOp CmpOp.Eq (Value.ref _) (Value.ref _)) _ _ _); (with_unfolding_all (apply eq_intsK; is_list; l_ints; is_list; l_ints; ktr_units; k_whole)))
  k_with "subscriptTail Name Slice ref ref" => (k_here; (with_reducible show wpAny _ _ (subscriptTail _ (PySem.Expr.Slice none none (some _) _) (Value.ref _) (Value.ref _)) _ _ _); k_dflt (apply rev_V; k_asm; k_asm; k_memK; (exact IsPart.int _ _); (with_unfolding_all rfl); kmk_pure; omega; k_whole); intros; (rename_i l9); (try k_lt l9); (try k_sweep); (try (revert l9; intros)))
  k_with "exec Assign" => (k_fold; walk_at "exec Assign")
  k_with "exec Expr" => (k_fold; walk_at "exec Expr")
  k_with "exec If" => (k_fold; walk_at "exec If")
  k_with "exec Return" => (k_fold; walk_at "exec Return")
  k_with "exec AugAssign" => (k_fold; walk_at "exec AugAssign")
  k_with "exec While" => (k_fold; walk_at "exec While")
  k_with "call ref" => (k_here; (with_reducible show wpAny _ _ (call (Value.ref 28) [Value.int _ _, Value.int _ _]) _ _ _); (with_reducible refine wpAny_with_toks (Nat.le_refl _) ?_); k_dflt (apply mul_ok; k_asm; k_asm; k_asm; k_asm; k_asm; (first | exact rfl | assumption); ktr_room; ktr_units; (omega); k_whole; intros; (try (rename_i a9 b9 c9 d9 e9; (try dsimp only at e9); (try dsimp only at a9); revert a9 b9 c9 d9 e9; intros)); (try k_sweep); (try dsimp only)))
  k_with "call ref" => (k_here; (with_reducible show wpAny _ _ (call (Value.ref 21) [Value.int _ _, Value.int _ _]) _ _ _); (with_reducible refine wpAny_with_toks (Nat.le_refl _) ?_); k_dflt (apply add_ok; k_asm; k_asm; k_asm; k_asm; k_asm; (first | exact rfl | assumption); ktr_room; ktr_units; k_whole; intros; (try (rename_i a9 b9 c9 d9 e9; (try dsimp only at e9); (try dsimp only at a9); revert a9 b9 c9 d9 e9; intros)); (try k_sweep); (try dsimp only)))
  k_with "call ref" => (k_here; (with_reducible show wpAny _ _ (call (Value.ref 35) [Value.int _ _, Value.int _ _]) _ _ _); (with_reducible refine wpAny_with_toks (Nat.le_refl _) ?_); k_dflt (apply sub_ok; k_asm; k_asm; k_asm; k_asm; k_asm; (first | exact rfl | assumption); ktr_room; ktr_units; k_whole; intros; (try (rename_i a9 b9 c9 d9 e9; (try dsimp only at e9); (try dsimp only at a9); revert a9 b9 c9 d9 e9; intros)); (try k_sweep); (try dsimp only)))
  trivial
section Clight
theorem layClight2 : True := by
  k_with "mem" => (assumption)
  trivial
theorem off1_mem {D : Addr} {l : List (Addr × Obj)} (h : LCg.Off1 D l) : ∀ p ∈ l, @Ne Nat p.1 D := by
  induction l with
  | nil => exact fun p hp => nomatch hp
  | cons q l ih =>
    intro p hp
    rcases List.mem_cons.mp hp with e | hp
    · rw [e]; exact h.1
    · exact ih h.2 p hp
theorem off1_of {D : Addr} : ∀ {l : List (Addr × Obj)}, (∀ p ∈ l, @Ne Nat p.1 D) → LCg.Off1 D l
  | [], _ => trivial
  | p :: l, h => ⟨h p (.head _), off1_of fun q hq => h q (.tail _ hq)⟩
section
variable {prog : Program} {w : World} {p : Program} {loose : List Str} {mean : ExcName → Option Value} {mg mb : Str → Option Value}
theorem light_ok {dp un : Nat} {gd : Option (List Code)} {cn : Str} {cs : Scope} {a : Addr} {ccd : Value} {cl : List (Str × Addr)} {outer : List Env} {A₀ : Around} {base h₀ : Heap} {L : Addr} {m : Str → Option Value} {s : Shared} {Q E : Value → Shared → Prop} {news : List (Addr × Obj)} (B : Below A₀ base outer h₀) (F : Fr h₀ L s.heap m) (X : (hd.heap_1 w.params).In h₀) (N : News h₀ L s.heap news) (T : Top p loose mean mg mb h₀) (hk : cs.kind = .function) (hd1 : dp + 4 < recursionLimit) (hu : un + 100 < cLine)
   {l : Addr} {vs : List Value} {ns : List Int} {nn : Nat} {x : Int} {tx : Tok} (hl : (l, listOf vs.toArray nn) ∈ news) (hi : IntsAre vs ns) (hn : ns.length ≤ 1000) (hx : x.natAbs ≤ 100000)
   (ret : ∀ (t : Addr) ws nn' h' tk', IntsAre ws (ns.map (· * x)) → Fr h₀ L h' m → News h₀ L h' ((t, listOf ws.toArray nn') :: news) → (∀ p ∈ news, @Ne Nat p.1 t) → Q (.ref t) {s with heap := h', toks := tk'}) :
   wpAny (model prog w) (ktrTop dp un gd cn cs L a ccd cl outer) (call (.ref 116) [.ref l, .int x tx]) Q E s := by
  refine wpAny_call ?_
  k_dflt (refine' code_defC (binds := [(Str.ofString "paint", Value.ref l), (Str.ofString "size", Value.int x tx)]) ?k1 ?k2 ?k3 ?k4 ?k5 ?kA ?kF ?kK ?k6 ?k7 ?k8 ?k9 ?kB ?kD ?_ ?c2 ?c3 ?c4; (case kA => exact rfl); (case kF => exact rfl); (case kK => assumption); (case k1 => k_asm); (case k2 => k_asm); (case k3 => k_asm); (case k4 => k_asm); (case k5 => k_asm); (case k6 => k_is); (case k7 => k_is); (case k8 => ktr_room); (case k9 => first | exact BindsTo.of_eq rfl | exact hbd _ _ _ _ rfl | (refine' kp_binds ?kx ?ke; (case kx => k_in); (case ke => exact fun _ => rfl))); (case kB => exact rfl); (case kD => decide +kernel); (case c2 => exact rfl); (case c3 => exact rfl); (case c4 => exact rfl); k_whole; intro g' L' h' tk' cells' FG' F' N' Y' B' X' T' l1; (try k_lt l1); k_cells Y'; (try simp only [List.cons_append, List.nil_append] at N'); (try dsimp only); (try k_lift B'); (try k_fold))
  k_steps
  exact ret _ _ _ _ _ (by assumption) (by assumption) (news_sub (by assumption) (by kcf_all)) (by rename (_ ∧ LCg.Off1 _ _) => o9; exact off1_mem o9.2)
end
end Clight


theorem layCgap1 : True := by
  k_with_none
  k_with "memK" => (first | assumption | exact Sub.of (by assumption) _ (by assumption) | kd_lift)
  k_with "subl" => (first | exact fun _ hp => hp | exact sub_nil | (with_reducible refine sub_keep ?_; k_extra "subl") | (with_reducible refine sub_skip ?_; k_extra "subl"))
  k_with "kcf_all" => (first | exact all_nil | k_extra "subl" | (refine all_cons ?_ ?_; (focus kcf_m); kcf_all))
  k_with "mem" => (exact Sub.of (by assumption) _ (by assumption))
  k_with "is_list" => (first | exact News.isList (by assumption) (by assumption) | exact News.isList (by assumption) (Sub.of (by assumption) _ (by assumption)) | exact News.isList (by assumption) (by kd_lift))
  k_with "all" => (first | assumption | ((rename (∀ p : Addr × Obj, p ∈ _ → p.1 < _) => l9); intro p9 hp9; (have q9 := ltN (l9 p9 hp9)); refine neN ?_; omega) | exact all_nil | (apply all_cons; (k_ne); (k_all)))
  k_with "enter" => ((apply code_def; k_asm; k_asm; k_asm; k_asm; k_asm; exact rfl; exact rfl; (first | exact rfl | assumption); k_is; k_is; ktr_room; (exact BindsTo.of_eq rfl); (exact locs rfl); rotate_left; (exact rfl); (exact rfl); (exact rfl); decide; k_whole); intros; (try dsimp only); (try ((rename (Below _ _ _ _) => B9); k_lift B9; revert B9; intros)); (try k_fold))
  k_with "subscriptTail" => (k_here; (with_reducible show wpAny _ _ (subscriptTail _ _ (Value.ref _) (Value.int _ _)) _ _ _); (with_unfolding_all (apply ll_item; k_asm; k_memK; assumption; (first | kd_idx | (simp only [fdiv2]; omega)); (first | kd_idx | (simp only [fdiv2]; omega)); (first | kd_idx | (simp only [fdiv2]; omega)); (with_unfolding_all rfl); k_whole)); intros; (try (rename_i hr9; (have hw9 := row_len (by assumption) hr9); revert hr9 hw9; intros)))
  k_with "getItem ref int" => (k_here; (with_unfolding_all (apply ll_getItem; k_asm; k_memK; assumption; (first | kd_idx | (simp only [fdiv2]; omega)); (first | kd_idx | (simp only [fdiv2]; omega)); (first | kd_idx | (simp only [fdiv2]; omega)); k_whole)); intros; (try (rename_i hr9; (have hw9 := row_len (by assumption) hr9); revert hr9 hw9; intros)))
  k_with "call builtin:len" => (k_here; (with_reducible show wpAny _ _ (call (Value.builtin "len") [Value.ref _]) _ _ _); k_dflt (apply ll_len; k_asm; (first | assumption | k_memK | kd_lift); assumption; (first | omega | ((try simp only [List.length_append, List.length_cons, List.length_nil, List.length_map, List.length_reverse, rangeKs_length] at *); omega)); k_whole))
  k_with "compareOp Eq ref ref" => (k_here; (with_reducible show wpAny _ _ (compareOp CmpOp.Eq (Value.ref _) (Value.ref _)) _ _ _); (with_unfolding_all (apply eq_intsK; is_list; l_ints; is_list; l_ints; ktr_units; k_whole)))
  k_with "subscriptTail Name Slice ref ref" => (k_here; (with_reducible show wpAny _ _ (subscriptTail _ (PySem.Expr.Slice none none (some _) _) (Value.ref _) (Value.ref _)) _ _ _); k_dflt (apply rev_V; k_asm; k_asm; k_memK; (exact IsPart.int _ _); (with_unfolding_all rfl); kmk_pure; omega; k_whole); intros; (rename_i l9); (try k_lt l9); (try k_sweep); (try (revert l9; intros)))
  k_with "exec Assign" => (k_fold; walk_at "exec Assign")
  k_with "exec Expr" => (k_fold; walk_at "exec Expr")
  k_with "exec If" => (k_fold; walk_at "exec If")
  k_with "exec Return" => (k_fold; walk_at "exec Return")
  k_with "exec AugAssign" => (k_fold; walk_at "exec AugAssign")
  k_with "exec While" => (k_fold; walk_at "exec While")
  trivial
section Cgap
noncomputable def gapI (below kind : Int) : Int := if kind = 1 then 2 else if below = 0 ∧ kind = 2 then 2 else 1
theorem gap_1 {x y : Int} (h : y = 1) : 2 = gapI x y := by unfold gapI; rw [if_pos h]
theorem gap_2 {x y : Int} (h : y ≠ 1) (k : [x, y] = [0, 2]) : 2 = gapI x y := by
  injection k with e1 k; injection k with e2 _
  unfold gapI; rw [if_neg h, if_pos ⟨e1, e2⟩]
theorem gap_3 {x y : Int} (h : y ≠ 1) (k : ¬ [x, y] = [0, 2]) : 1 = gapI x y := by
  unfold gapI; rw [if_neg h, if_neg (fun ⟨e1, e2⟩ => k (by rw [e1, e2]))]
section
variable {prog : Program} {w : World} {p : Program} {loose : List Str} {mean : ExcName → Option Value} {mg mb : Str → Option Value}
theorem gap_ok {dp un : Nat} {gd : Option (List Code)} {cn : Str} {cs : Scope} {a : Addr} {ccd : Value} {cl : List (Str × Addr)} {outer : List Env} {A₀ : Around} {base h₀ : Heap} {L : Addr} {m : Str → Option Value} {s : Shared} {Q E : Value → Shared → Prop} {news : List (Addr × Obj)} (B : Below A₀ base outer h₀) (F : Fr h₀ L s.heap m) (X : (hd.heap_1 w.params).In h₀) (N : News h₀ L s.heap news) (T : Top p loose mean mg mb h₀) (hk : cs.kind = .function) (hd1 : dp + 3 < recursionLimit) (hu : un + 100 < cLine)
   {x y : Int} {tx ty : Tok}
   (ret : ∀ (t : Tok) h' tk', Fr h₀ L h' m → News h₀ L h' news → Q (.int (gapI x y) t) {s with heap := h', toks := tk'}) :
   wpAny (model prog w) (ktrTop dp un gd cn cs L a ccd cl outer) (call (.ref 154) [.int x tx, .int y ty]) Q E s := by
  refine wpAny_call ?_
  k_dflt (refine' code_def (binds := [(Str.ofString "below", Value.int x tx), (Str.ofString "kind", Value.int y ty)]) ?k1 ?k2 ?k3 ?k4 ?k5 ?kA ?kF ?kK ?k6 ?k7 ?k8 ?k9 ?kB ?_ ?c2 ?c3 ?c4 ?c5; (case kA => exact rfl); (case kF => exact rfl); (case kK => assumption); (case k1 => k_asm); (case k2 => k_asm); (case k3 => k_asm); (case k4 => k_asm); (case k5 => k_asm); (case k6 => k_is); (case k7 => k_is); (case k8 => ktr_room); (case k9 => first | exact BindsTo.of_eq rfl | exact hbd _ _ _ _ rfl | (refine' kp_binds ?kx ?ke; (case kx => k_in); (case ke => exact fun _ => rfl))); (case c5 => decide); (case kB => exact locs rfl); (case c2 => exact rfl); (case c3 => exact rfl); (case c4 => exact rfl); k_whole; intro g' L' h' FG' F' N' B' X' T'; (try dsimp only); (try k_lift B'); (try k_fold))
  k_steps
  all_goals first
    | (refine int_swap (Q := Q) (gap_1 (x := x) (y := y) (by assumption)) ?_; exact ret _ _ _ (by assumption) (news_sub (by assumption) (by kcf_all)))
    | (refine int_swap (Q := Q) (gap_2 (x := x) (y := y) (by assumption) (by assumption)) ?_; exact ret _ _ _ (by assumption) (news_sub (by assumption) (by kcf_all)))
    | (refine int_swap (Q := Q) (gap_3 (x := x) (y := y) (by assumption) (by assumption)) ?_; exact ret _ _ _ (by assumption) (news_sub (by assumption) (by kcf_all)))
end
end Cgap


theorem layCdrawn1 : True := by
  k_with_none
  k_with "memK" => (first | assumption | exact Sub.of (by assumption) _ (by assumption) | kd_lift)
  k_with "subl" => (first | exact fun _ hp => hp | exact sub_nil | (with_reducible refine sub_keep ?_; k_extra "subl") | (with_reducible refine sub_skip ?_; k_extra "subl"))
  k_with "kcf_all" => (first | exact all_nil | k_extra "subl" | (refine all_cons ?_ ?_; (focus kcf_m); kcf_all))
  k_with "mem" => (exact Sub.of (by assumption) _ (by assumption))
  k_with "is_list" => (first | exact News.isList (by assumption) (by assumption) | exact News.isList (by assumption) (Sub.of (by assumption) _ (by assumption)) | exact News.isList (by assumption) (by kd_lift))
  k_with "all" => (first | assumption | ((rename (∀ p : Addr × Obj, p ∈ _ → p.1 < _) => l9); intro p9 hp9; (have q9 := ltN (l9 p9 hp9)); refine neN ?_; omega) | exact all_nil | (apply all_cons; (k_ne); (k_all)))
  k_with "enter" => ((apply code_def; k_asm; k_asm; k_asm; k_asm; k_asm; exact rfl; exact rfl; (first | exact rfl | assumption); k_is; k_is; ktr_room; (exact BindsTo.of_eq rfl); (exact locs rfl); rotate_left; (exact rfl); (exact rfl); (exact rfl); decide; k_whole); intros; (try dsimp only); (try ((rename (Below _ _ _ _) => B9); k_lift B9; revert B9; intros)); (try k_fold))
  k_with "subscriptTail" => (k_here; (with_reducible show wpAny _ _ (subscriptTail _ _ (Value.ref _) (Value.int _ _)) _ _ _); (with_unfolding_all (apply ll_item; k_asm; k_memK; assumption; (first | kd_idx | (simp only [fdiv2]; omega)); (first | kd_idx | (simp only [fdiv2]; omega)); (first | kd_idx | (simp only [fdiv2]; omega)); (with_unfolding_all rfl); k_whole)); intros; (try (rename_i hr9; (have hw9 := row_len (by assumption) hr9); revert hr9 hw9; intros)))
  k_with "getItem ref int" => (k_here; (with_unfolding_all (apply ll_getItem; k_asm; k_memK; assumption; (first | kd_idx | (simp only [fdiv2]; omega)); (first | kd_idx | (simp only [fdiv2]; omega)); (first | kd_idx | (simp only [fdiv2]; omega)); k_whole)); intros; (try (rename_i hr9; (have hw9 := row_len (by assumption) hr9); revert hr9 hw9; intros)))
  k_with "call builtin:len" => (k_here; (with_reducible show wpAny _ _ (call (Value.builtin "len") [Value.ref _]) _ _ _); k_dflt (apply ll_len; k_asm; (first | assumption | k_memK | kd_lift); assumption; (first | omega | ((try simp only [List.length_append, List.length_cons, List.length_nil, List.length_map, List.length_reverse, rangeKs_length] at *); omega)); k_whole))
  k_with "compareOp Eq ref ref" => (k_here; (with_reducible show wpAny _ _ (compareOp CmpOp.Eq (Value.ref _) (Value.ref _)) _ _ _); (with_unfolding_all (apply eq_intsK; is_list; l_ints; is_list; l_ints; ktr_units; k_whole)))
  k_with "subscriptTail Name Slice ref ref" => (k_here; (with_reducible show wpAny _ _ (subscriptTail _ (PySem.Expr.Slice none none (some _) _) (Value.ref _) (Value.ref _)) _ _ _); k_dflt (apply rev_V; k_asm; k_asm; k_memK; (exact IsPart.int _ _); (with_unfolding_all rfl); kmk_pure; omega; k_whole); intros; (rename_i l9); (try k_lt l9); (try k_sweep); (try (revert l9; intros)))
  k_with "exec Assign" => (k_fold; walk_at "exec Assign")
  k_with "exec Expr" => (k_fold; walk_at "exec Expr")
  k_with "exec If" => (k_fold; walk_at "exec If")
  k_with "exec Return" => (k_fold; walk_at "exec Return")
  k_with "exec AugAssign" => (k_fold; walk_at "exec AugAssign")
  k_with "exec While" => (k_fold; walk_at "exec While")
  k_with "call ref" => (k_here; (with_reducible show wpAny _ _ (call (Value.ref 154) [Value.int _ _, Value.int _ _]) _ _ _); (with_reducible refine wpAny_with_toks (Nat.le_refl _) ?_); k_dflt (apply gap_ok; k_asm; k_asm; k_asm; k_asm; k_asm; (first | exact rfl | assumption); ktr_room; ktr_units; k_whole; intros; (try (rename_i e9; dsimp only at e9; revert e9; intro _)); (try k_sweep); (try dsimp only)))
  trivial
section Cdrawn
theorem layCdrawn2 : True := by
  k_with "exec For Name Name cons nil" => (k_here; k_dflt (refine wpAny_For ?_))
  k_with "exec For Name Call cons nil" => (k_here; k_dflt (refine wpAny_For ?_))
  k_with "exec For Name Subscript cons nil" => (k_here; k_dflt (refine wpAny_For ?_))
  k_with "exec For" => (k_here; k_dflt (refine wpAny_For ?_))
  k_with "execs cons Assign cons" => ((with_reducible refine wpAny_execs_cons ?_); (try dsimp only))
  k_with "last pyIter ref" => (refine Hold.mk ?_)
  k_with "call builtin:list.append" => (k_here; (with_reducible show wpAny _ _ (call (Value.builtin _) [Value.ref _, _]) _ _ _); k_dflt (apply append_V; k_asm; k_asm; k_upd; (omega); k_whole); intros; (try k_sweep))
  k_with "execs cons" => (k_here; (with_reducible show wpAny _ _ _ _ _ (Shared.mk _ _ _ (_ + _) _)); (refine gen_toks ?_); intros; (try (rename_i e9; simp only [List.length_cons, List.length_nil, Nat.zero_add] at e9; revert e9; intro _)))
  k_with "execs nil" => (k_here; (with_reducible show wpAny _ _ _ _ _ (Shared.mk _ _ _ (_ + _) _)); (refine gen_toks ?_); intros; (try (rename_i e9; simp only [List.length_cons, List.length_nil, Nat.zero_add] at e9; revert e9; intro _)))
  trivial
/-- a turn of _law_drawn: the row so far, below, last -/
noncomputable def drawnStep (c : List (List Int) × Int × Int) (n : Int) : List (List Int) × Int × Int :=
  (c.1 ++ [[n.fmod 3, c.2.2 + (gapI c.2.1 (n.fmod 3) + (n.fdiv 3).fmod 3)]], n.fmod 3, c.2.2 + (gapI c.2.1 (n.fmod 3) + (n.fdiv 3).fmod 3))
noncomputable def drawnI (ns : List Int) : List (List Int) := (ns.foldl drawnStep ([], 1, 0)).1
structure DrawnSt where
  vs : List Value
  nn : Nat
  b : Int
  tb : Nat
  l : Int
  tl : Nat
  lits : List (Addr × Obj)
theorem layCdrawn3 : True := by
  k_with "upd" => (exact Upd.head (by assumption))
  trivial
section
variable {prog : Program} {w : World} {p : Program} {loose : List Str} {mean : ExcName → Option Value} {mg mb : Str → Option Value}
theorem drawn_ok {dp un : Nat} {gd : Option (List Code)} {cn : Str} {cs : Scope} {a : Addr} {ccd : Value} {cl : List (Str × Addr)} {outer : List Env} {A₀ : Around} {base h₀ : Heap} {L : Addr} {m : Str → Option Value} {s : Shared} {Q E : Value → Shared → Prop} {news : List (Addr × Obj)} (B : Below A₀ base outer h₀) (F : Fr h₀ L s.heap m) (X : (hd.heap_1 w.params).In h₀) (N : News h₀ L s.heap news) (T : Top p loose mean mg mb h₀) (hk : cs.kind = .function) (hd1 : dp + 5 < recursionLimit) (hu : un + 150 < cLine)
   {l : Addr} {vs : List Value} {ns : List Int} {nn : Nat} (hl : (l, listOf vs.toArray nn) ∈ news) (hi : IntsAre vs ns) (hn : ns.length ≤ 1000)
   (ret : ∀ (t : Addr) ws nn' led h' tk', LLAre led ws (drawnI ns) → Fr h₀ L h' m → News h₀ L h' ((t, listOf ws.toArray nn') :: led ++ news) → Q (.ref t) {s with heap := h', toks := tk'}) :
   wpAny (model prog w) (ktrTop dp un gd cn cs L a ccd cl outer) (call (.ref 168) [.ref l]) Q E s := by
  refine wpAny_call ?_
  k_dflt (refine' code_def (binds := [(Str.ofString "sums", Value.ref l)]) ?k1 ?k2 ?k3 ?k4 ?k5 ?kA ?kF ?kK ?k6 ?k7 ?k8 ?k9 ?kB ?_ ?c2 ?c3 ?c4 ?c5; (case kA => exact rfl); (case kF => exact rfl); (case kK => assumption); (case k1 => k_asm); (case k2 => k_asm); (case k3 => k_asm); (case k4 => k_asm); (case k5 => k_asm); (case k6 => k_is); (case k7 => k_is); (case k8 => ktr_room); (case k9 => first | exact BindsTo.of_eq rfl | exact hbd _ _ _ _ rfl | (refine' kp_binds ?kx ?ke; (case kx => k_in); (case ke => exact fun _ => rfl))); (case c5 => decide); (case kB => exact locs rfl); (case c2 => exact rfl); (case c3 => exact rfl); (case c4 => exact rfl); k_whole; intro g' L' h' FG' F' N' B' X' T'; (try dsimp only); (try k_lift B'); (try k_fold))
  k_steps
  rename_i row _ lr _ D _ l1 _ _ h9 F9 N9 tk9 hk9
  unfold Hold
  (with_unfolding_all refine' for_list (σ := DrawnSt) (fun c => (row, listOf c.vs.toArray c.nn) :: (c.lits ++ news)) (fun c => [(Str.ofString "below", Value.int c.b c.tb), (Str.ofString "last", Value.int c.l c.tl)]) [Str.ofString "number", Str.ofString "last", Str.ofString "below"] (fun i _ c => LLAre c.lits c.vs ((ns.take i).foldl drawnStep ([], 1, 0)).1 ∧ ((ns.take i).foldl drawnStep ([], 1, 0)).2 = (c.b, c.l) ∧ (∀ p ∈ c.lits ++ news, p.1 ≠ row) ∧ c.vs.length = i) ⟨[], 0, 1, ?a, 0, ?b, []⟩ rfl (fun _ _ _ _ => List.Mem.tail _ (List.mem_append_right _ hl)) (fun _ _ _ _ _ h => h) ?F ?N ?hk ?hj ?turn ?done ?hE)
  case F => assumption
  case N => exact news_sub N9 (by kcf_all)
  case hk => kst_all
  case hj => exact ⟨.nil, rfl, fun p hp => Nat.ne_of_lt (lr p hp), rfl⟩
  case hE => passes_own
  case turn =>
    rintro ⟨ws, nw, b, tb, l0, tl, lits⟩ i v u h tk I oI hv hJ9 hle hoff F1 N1
    refine Classical.byContradiction fun ng9 => ?_
    obtain ⟨hA, hB, hC, hD⟩ := hJ9
    have hIr : @Ne Nat row I := hoff _ (.head _)
    have hvl := (List.getElem?_eq_some_iff.mp hv).1
    have hlen := hi.length
    obtain ⟨n, t, rfl, hn⟩ := ints_at hi hv
    refine ng9 ?_; clear ng9
    dsimp only at hA hB hC hD hoff F1 N1
    dsimp only [kstB] at F1
    (try dsimp only)
    (try k_fold)
    k_steps
    refine' turn_end (DrawnSt.mk _ _ (n.fmod 3) _ (l0 + (gapI b (n.fmod 3) + (n.fdiv 3).fmod 3)) _ ((_, _) :: lits)) (by assumption) (by assumption) ?tn ?tr ?tI ?ts ?to ?tj
    case ts => exact (all_cons (by kcf_m) (List.forall_mem_append.mpr ⟨(all_cons (by kcf_m) (by kcf_all)), by kcf_all⟩))
    case tn => kst_all
    case tr => ksw_same
    case tI => kcf_m
    case to => exact (all_cons hIr (List.forall_mem_append.mpr ⟨(all_cons (by k_ne) (fun p hp => hoff p (.tail _ (List.mem_append_left _ hp)))), fun p hp => hoff p (.tail _ (List.mem_append_right _ hp))⟩))
    case tj =>
      refine ⟨?_, ?_, ?_, ?_⟩
      · rw [foldl_take_one _ _ hn]; simp only [drawnStep, hB]; exact (hA.mono (fun p hp => .tail _ hp)).append (LLAre.one (LIs.mk (.head _) (.cons _ _ (.cons _ _ .nil))))
      · rw [foldl_take_one _ _ hn]; simp only [drawnStep, hB]
      · intro p hp
        rcases List.mem_cons.mp hp with rfl | hp
        · k_ne
        · exact hC p hp
      · simp [hD]
  case done =>
    rintro ⟨ws, nw, b, tb, l0, tl, lits⟩ u h tk hJ9 hle F1 N1
    refine Classical.byContradiction fun ng9 => ?_
    obtain ⟨hA, hB, hC, hD⟩ := hJ9
    refine ng9 ?_; clear ng9
    dsimp only [kstB] at F1
    (try dsimp only)
    k_steps
    exact ret _ _ _ _ _ _ (by rw [hi.length, List.take_length] at hA; exact hA) (by assumption) (by assumption)
end
end Cdrawn


theorem layCgaps1 : True := by
  k_with_none
  k_with "memK" => (first | assumption | exact Sub.of (by assumption) _ (by assumption) | kd_lift)
  k_with "subl" => (first | exact fun _ hp => hp | exact sub_nil | (with_reducible refine sub_keep ?_; k_extra "subl") | (with_reducible refine sub_skip ?_; k_extra "subl"))
  k_with "kcf_all" => (first | exact all_nil | k_extra "subl" | (refine all_cons ?_ ?_; (focus kcf_m); kcf_all))
  k_with "mem" => (exact Sub.of (by assumption) _ (by assumption))
  k_with "is_list" => (first | exact News.isList (by assumption) (by assumption) | exact News.isList (by assumption) (Sub.of (by assumption) _ (by assumption)) | exact News.isList (by assumption) (by kd_lift))
  k_with "all" => (first | assumption | ((rename (∀ p : Addr × Obj, p ∈ _ → p.1 < _) => l9); intro p9 hp9; (have q9 := ltN (l9 p9 hp9)); refine neN ?_; omega) | exact all_nil | (apply all_cons; (k_ne); (k_all)))
  k_with "enter" => ((apply code_def; k_asm; k_asm; k_asm; k_asm; k_asm; exact rfl; exact rfl; (first | exact rfl | assumption); k_is; k_is; ktr_room; (exact BindsTo.of_eq rfl); (exact locs rfl); rotate_left; (exact rfl); (exact rfl); (exact rfl); decide; k_whole); intros; (try dsimp only); (try ((rename (Below _ _ _ _) => B9); k_lift B9; revert B9; intros)); (try k_fold))
  k_with "subscriptTail" => (k_here; (with_reducible show wpAny _ _ (subscriptTail _ _ (Value.ref _) (Value.int _ _)) _ _ _); (with_unfolding_all (apply ll_item; k_asm; k_memK; assumption; (first | kd_idx | (simp only [fdiv2]; omega)); (first | kd_idx | (simp only [fdiv2]; omega)); (first | kd_idx | (simp only [fdiv2]; omega)); (with_unfolding_all rfl); k_whole)); intros; (try (rename_i hr9; (have hw9 := row_len (by assumption) hr9); revert hr9 hw9; intros)))
  k_with "getItem ref int" => (k_here; (with_unfolding_all (apply ll_getItem; k_asm; k_memK; assumption; (first | kd_idx | (simp only [fdiv2]; omega)); (first | kd_idx | (simp only [fdiv2]; omega)); (first | kd_idx | (simp only [fdiv2]; omega)); k_whole)); intros; (try (rename_i hr9; (have hw9 := row_len (by assumption) hr9); revert hr9 hw9; intros)))
  k_with "call builtin:len" => (k_here; (with_reducible show wpAny _ _ (call (Value.builtin "len") [Value.ref _]) _ _ _); k_dflt (apply ll_len; k_asm; (first | assumption | k_memK | kd_lift); assumption; (first | omega | ((try simp only [List.length_append, List.length_cons, List.length_nil, List.length_map, List.length_reverse, rangeKs_length] at *); omega)); k_whole))
  k_with "compareOp Eq ref ref" => (k_here; (with_reducible show wpAny _ _ (compareOp CmpOp.Eq (Value.ref _) (Value.ref _)) _ _ _); (with_unfolding_all (apply eq_intsK; is_list; l_ints; is_list; l_ints; ktr_units; k_whole)))
  k_with "subscriptTail Name Slice ref ref" => (k_here; (with_reducible show wpAny _ _ (subscriptTail _ (PySem.Expr.Slice none none (some _) _) (Value.ref _) (Value.ref _)) _ _ _); k_dflt (apply rev_V; k_asm; k_asm; k_memK; (exact IsPart.int _ _); (with_unfolding_all rfl); kmk_pure; omega; k_whole); intros; (rename_i l9); (try k_lt l9); (try k_sweep); (try (revert l9; intros)))
  k_with "exec Assign" => (k_fold; walk_at "exec Assign")
  k_with "exec Expr" => (k_fold; walk_at "exec Expr")
  k_with "exec If" => (k_fold; walk_at "exec If")
  k_with "exec Return" => (k_fold; walk_at "exec Return")
  k_with "exec AugAssign" => (k_fold; walk_at "exec AugAssign")
  k_with "exec While" => (k_fold; walk_at "exec While")
  k_with "call ref" => (k_here; (with_reducible show wpAny _ _ (call (Value.ref 154) [Value.int _ _, Value.int _ _]) _ _ _); (with_reducible refine wpAny_with_toks (Nat.le_refl _) ?_); k_dflt (apply gap_ok; k_asm; k_asm; k_asm; k_asm; k_asm; (first | exact rfl | assumption); ktr_room; ktr_units; k_whole; intros; (try (rename_i e9; dsimp only at e9; revert e9; intro _)); (try k_sweep); (try dsimp only)))
  trivial
section Cgaps
theorem layCgaps2 : True := by
  k_with "exec For Name Name cons nil" => (k_here; k_dflt (refine wpAny_For ?_))
  k_with "exec For Name Call cons nil" => (k_here; k_dflt (refine wpAny_For ?_))
  k_with "exec For Name Subscript cons nil" => (k_here; k_dflt (refine wpAny_For ?_))
  k_with "exec For" => (k_here; k_dflt (refine wpAny_For ?_))
  k_with "execs cons Assign cons" => ((with_reducible refine wpAny_execs_cons ?_); (try dsimp only))
  k_with "last pyIter ref" => (refine Hold.mk ?_)
  k_with "call builtin:list.append" => (k_here; (with_reducible show wpAny _ _ (call (Value.builtin _) [Value.ref _, _]) _ _ _); k_dflt (apply append_V; k_asm; k_asm; k_upd; (omega); k_whole); intros; (try k_sweep))
  k_with "execs cons" => (k_here; (with_reducible show wpAny _ _ _ _ _ (Shared.mk _ _ _ (_ + _) _)); (refine gen_toks ?_); intros; (try (rename_i e9; simp only [List.length_cons, List.length_nil, Nat.zero_add] at e9; revert e9; intro _)))
  k_with "execs nil" => (k_here; (with_reducible show wpAny _ _ _ _ _ (Shared.mk _ _ _ (_ + _) _)); (refine gen_toks ?_); intros; (try (rename_i e9; simp only [List.length_cons, List.length_nil, Nat.zero_add] at e9; revert e9; intro _)))
  trivial
noncomputable def gapsI : Int → Int → List (List Int) → Bool
  | _, _, [] => true
  | b, l, r :: rs => if ¬ (r.getD 0 0 = 0 ∨ r.getD 0 0 = 1 ∨ r.getD 0 0 = 2) then false else if r.getD 1 0 - l < gapI b (r.getD 0 0) then false else gapsI (r.getD 0 0) (r.getD 1 0) rs
theorem any012 {x : Int} : (([0, 1, 2] : List Int).any fun z => z == x) = true ↔ (0 = x ∨ 1 = x ∨ 2 = x) := by
  simp only [List.any_cons, List.any_nil, Bool.or_false, Bool.or_eq_true, beq_iff_eq]
theorem gaps_eq {b l x y : Int} {rs : List (List Int)} : gapsI b l ([x, y] :: rs) = if ¬ (x = 0 ∨ x = 1 ∨ x = 2) then false else if y - l < gapI b x then false else gapsI x y rs := rfl
theorem gaps_f1 {b l x y : Int} {rs : List (List Int)} (h : (([0, 1, 2] : List Int).any fun z => z == x) = true) (k : y - l < gapI b x) : gapsI b l ([x, y] :: rs) = false := by
  have h' := any012.mp h
  rw [gaps_eq, if_neg (by omega), if_pos k]
theorem gaps_f2 {b l x y : Int} {rs : List (List Int)} (h : (([0, 1, 2] : List Int).any fun z => z == x) = false) : gapsI b l ([x, y] :: rs) = false := by
  have h' : ¬ (x = 0 ∨ x = 1 ∨ x = 2) := fun q => by rw [any012.mpr (by omega)] at h; cases h
  rw [gaps_eq, if_pos h']
theorem gaps_t {b l x y : Int} {rs : List (List Int)} (h : (([0, 1, 2] : List Int).any fun z => z == x) = true) (k : ¬ y - l < gapI b x) : gapsI b l ([x, y] :: rs) = gapsI x y rs := by
  have h' := any012.mp h
  rw [gaps_eq, if_neg (by omega), if_neg k]
structure GapsSt where
  b : Int
  tb : Nat
  l : Int
  tl : Nat
section
variable {prog : Program} {w : World} {p : Program} {loose : List Str} {mean : ExcName → Option Value} {mg mb : Str → Option Value}
theorem gaps_ok {dp un : Nat} {gd : Option (List Code)} {cn : Str} {cs : Scope} {a : Addr} {ccd : Value} {cl : List (Str × Addr)} {outer : List Env} {A₀ : Around} {base h₀ : Heap} {L : Addr} {m : Str → Option Value} {s : Shared} {Q E : Value → Shared → Prop} {news : List (Addr × Obj)} (B : Below A₀ base outer h₀) (F : Fr h₀ L s.heap m) (X : (hd.heap_1 w.params).In h₀) (N : News h₀ L s.heap news) (T : Top p loose mean mg mb h₀) (hk : cs.kind = .function) (hd1 : dp + 5 < recursionLimit) (hu : un + 150 < cLine)
   {l : Addr} {vs : List Value} {rs : List (List Int)} {nn : Nat} {cst : List (Addr × Obj)} (hl : (l, listOf vs.toArray nn) ∈ news) (hi : LLAre cst vs rs) (hS : Sub cst news) (hw : ∀ r ∈ rs, r.length = 2)
   (ret : ∀ h' tk', Fr h₀ L h' m → News h₀ L h' news → Q (.bool (gapsI 1 0 rs)) {s with heap := h', toks := tk'}) :
   wpAny (model prog w) (ktrTop dp un gd cn cs L a ccd cl outer) (call (.ref 161) [.ref l]) Q E s := by
  refine wpAny_call ?_
  k_dflt (refine' code_def (binds := [(Str.ofString "told", Value.ref l)]) ?k1 ?k2 ?k3 ?k4 ?k5 ?kA ?kF ?kK ?k6 ?k7 ?k8 ?k9 ?kB ?_ ?c2 ?c3 ?c4 ?c5; (case kA => exact rfl); (case kF => exact rfl); (case kK => assumption); (case k1 => k_asm); (case k2 => k_asm); (case k3 => k_asm); (case k4 => k_asm); (case k5 => k_asm); (case k6 => k_is); (case k7 => k_is); (case k8 => ktr_room); (case k9 => first | exact BindsTo.of_eq rfl | exact hbd _ _ _ _ rfl | (refine' kp_binds ?kx ?ke; (case kx => k_in); (case ke => exact fun _ => rfl))); (case c5 => decide); (case kB => exact locs rfl); (case c2 => exact rfl); (case c3 => exact rfl); (case c4 => exact rfl); k_whole; intro g' L' h' FG' F' N' B' X' T'; (try dsimp only); (try k_lift B'); (try k_fold))
  k_steps
  rename_i D _ l1 _ _ h9 F9 N9 tk9 hk9
  unfold Hold
  (with_unfolding_all refine' for_list (σ := GapsSt) (fun c => news) (fun c => [(Str.ofString "below", Value.int c.b c.tb), (Str.ofString "last", Value.int c.l c.tl)]) [Str.ofString "kind", Str.ofString "size", Str.ofString "last", Str.ofString "below"] (fun i _ c => gapsI 1 0 rs = gapsI c.b c.l (rs.drop i)) ⟨1, ?a, 0, ?b⟩ rfl (fun _ _ _ _ => hl) (fun _ _ _ _ _ h => h) ?F ?N ?hk ?hj ?turn ?done ?hE)
  case F => assumption
  case N => exact news_sub N9 (by kcf_all)
  case hk => kst_all
  case hj => rfl
  case hE => passes_own
  case turn =>
    rintro ⟨b, tb, l0, tl⟩ i v u h tk I oI hv hJ hle hoff F1 N1
    refine Classical.byContradiction fun ng9 => ?_
    obtain ⟨a', ws', n', r, rfl, hm', hn, hi'⟩ := hi.at hv
    have hr2 := hw r (List.mem_of_getElem? hn)
    obtain ⟨x, y, rfl⟩ : ∃ x y, r = [x, y] := by
      match r, hr2 with
      | [x, y], _ => exact ⟨x, y, rfl⟩
    obtain ⟨t1, t2, rfl⟩ := ints_two hi'
    refine ng9 ?_; clear ng9
    dsimp only at hJ hoff F1 N1
    dsimp only [kstB] at F1
    (try dsimp only)
    (try k_fold)
    have ex : gapsI b l0 (List.drop i rs) = gapsI b l0 ([x, y] :: rs.drop (i + 1)) := by rw [drop_at hn]
    k_steps
    · have e : gapsI 1 0 rs = false := by rw [hJ, ex]; exact gaps_f1 (by assumption) (by assumption)
      rw [e] at ret
      (try dsimp only)
      refine turn_ret ?_
      (try dsimp only)
      k_steps
      exact ret _ _ (by assumption) (news_sub (by assumption) (by kcf_all))
    · refine' turn_end (GapsSt.mk x _ y _) (by assumption) (by assumption) ?tn ?tr ?tI ?ts ?to ?tj
      case tn => kst_all
      case tr => ksw_same
      case tI => kcf_m
      case ts => kcf_all
      case to => exact hoff
      case tj => (show gapsI 1 0 rs = gapsI x y (List.drop (i + 1) rs); rw [hJ, ex]; exact gaps_t (by assumption) (by assumption))
    · have e : gapsI 1 0 rs = false := by rw [hJ, ex]; exact gaps_f2 (by assumption)
      rw [e] at ret
      (try dsimp only)
      refine turn_ret ?_
      (try dsimp only)
      k_steps
      exact ret _ _ (by assumption) (news_sub (by assumption) (by kcf_all))
  case done =>
    rintro ⟨b, tb, l0, tl⟩ u h tk hJ hle F1 N1
    dsimp only [kstB] at F1
    (try dsimp only)
    k_steps
    have e : gapsI 1 0 rs = true := by rw [hJ, hi.length, List.drop_length]; rfl
    rw [e] at ret
    exact ret _ _ (by assumption) (by assumption)
end
end Cgaps


theorem layCmerged1 : True := by
  k_with_none
  k_with "memK" => (first | assumption | exact Sub.of (by assumption) _ (by assumption) | kd_lift)
  k_with "subl" => (first | exact fun _ hp => hp | exact sub_nil | (with_reducible refine sub_keep ?_; k_extra "subl") | (with_reducible refine sub_skip ?_; k_extra "subl"))
  k_with "kcf_all" => (first | exact all_nil | k_extra "subl" | (refine all_cons ?_ ?_; (focus kcf_m); kcf_all))
  k_with "mem" => (exact Sub.of (by assumption) _ (by assumption))
  k_with "is_list" => (first | exact News.isList (by assumption) (by assumption) | exact News.isList (by assumption) (Sub.of (by assumption) _ (by assumption)) | exact News.isList (by assumption) (by kd_lift))
  k_with "all" => (first | assumption | ((rename (∀ p : Addr × Obj, p ∈ _ → p.1 < _) => l9); intro p9 hp9; (have q9 := ltN (l9 p9 hp9)); refine neN ?_; omega) | exact all_nil | (apply all_cons; (k_ne); (k_all)))
  k_with "enter" => ((apply code_def; k_asm; k_asm; k_asm; k_asm; k_asm; exact rfl; exact rfl; (first | exact rfl | assumption); k_is; k_is; ktr_room; (exact BindsTo.of_eq rfl); (exact locs rfl); rotate_left; (exact rfl); (exact rfl); (exact rfl); decide; k_whole); intros; (try dsimp only); (try ((rename (Below _ _ _ _) => B9); k_lift B9; revert B9; intros)); (try k_fold))
  k_with "subscriptTail" => (k_here; (with_reducible show wpAny _ _ (subscriptTail _ _ (Value.ref _) (Value.int _ _)) _ _ _); (with_unfolding_all (apply ll_item; k_asm; k_memK; assumption; (first | kd_idx | (simp only [fdiv2]; omega)); (first | kd_idx | (simp only [fdiv2]; omega)); (first | kd_idx | (simp only [fdiv2]; omega)); (with_unfolding_all rfl); k_whole)); intros; (try (rename_i hr9; (have hw9 := row_len (by assumption) hr9); revert hr9 hw9; intros)))
  k_with "getItem ref int" => (k_here; (with_unfolding_all (apply ll_getItem; k_asm; k_memK; assumption; (first | kd_idx | (simp only [fdiv2]; omega)); (first | kd_idx | (simp only [fdiv2]; omega)); (first | kd_idx | (simp only [fdiv2]; omega)); k_whole)); intros; (try (rename_i hr9; (have hw9 := row_len (by assumption) hr9); revert hr9 hw9; intros)))
  k_with "call builtin:len" => (k_here; (with_reducible show wpAny _ _ (call (Value.builtin "len") [Value.ref _]) _ _ _); k_dflt (apply ll_len; k_asm; (first | assumption | k_memK | kd_lift); assumption; (first | omega | ((try simp only [List.length_append, List.length_cons, List.length_nil, List.length_map, List.length_reverse, rangeKs_length] at *); omega)); k_whole))
  k_with "compareOp Eq ref ref" => (k_here; (with_reducible show wpAny _ _ (compareOp CmpOp.Eq (Value.ref _) (Value.ref _)) _ _ _); (with_unfolding_all (apply eq_intsK; is_list; l_ints; is_list; l_ints; ktr_units; k_whole)))
  k_with "subscriptTail Name Slice ref ref" => (k_here; (with_reducible show wpAny _ _ (subscriptTail _ (PySem.Expr.Slice none none (some _) _) (Value.ref _) (Value.ref _)) _ _ _); k_dflt (apply rev_V; k_asm; k_asm; k_memK; (exact IsPart.int _ _); (with_unfolding_all rfl); kmk_pure; omega; k_whole); intros; (rename_i l9); (try k_lt l9); (try k_sweep); (try (revert l9; intros)))
  k_with "exec Assign" => (k_fold; walk_at "exec Assign")
  k_with "exec Expr" => (k_fold; walk_at "exec Expr")
  k_with "exec If" => (k_fold; walk_at "exec If")
  k_with "exec Return" => (k_fold; walk_at "exec Return")
  k_with "exec AugAssign" => (k_fold; walk_at "exec AugAssign")
  k_with "exec While" => (k_fold; walk_at "exec While")
  k_with "call ref" => (k_here; (with_reducible show wpAny _ _ (call (Value.ref 78) [Value.ref _, Value.int _ _]) _ _ _); (with_reducible refine wpAny_with_toks (Nat.le_refl _) ?_); k_dflt (apply bl_ok; k_asm; k_asm; k_asm; k_asm; k_asm; (first | exact rfl | assumption); ktr_room; ktr_units; (k_memK); (l_ints); (omega); k_whole; intros; (try (rename_i e9; dsimp only at e9; revert e9; intro _)); (try k_sweep); (try dsimp only)))
  k_with "call ref" => (k_here; (with_reducible show wpAny _ _ (call (Value.ref 78) [Value.ref _, Value.int _ _, Value.int _ _, Value.none]) _ _ _); (with_reducible refine wpAny_with_toks (Nat.le_refl _) ?_); k_dflt (apply bl4_ok; k_asm; k_asm; k_asm; k_asm; k_asm; (first | exact rfl | assumption); ktr_room; ktr_units; (k_memK); (l_ints); (omega); k_whole; intros; (try (rename_i e9; dsimp only at e9; revert e9; intro _)); (try k_sweep); (try dsimp only)))
  k_with "call ref" => (k_here; (with_reducible show wpAny _ _ (call (Value.ref 60) [Value.ref _, Value.int _ _]) _ _ _); (with_reducible refine wpAny_with_toks (Nat.le_refl _) ?_); k_dflt (apply br_ok; k_asm; k_asm; k_asm; k_asm; k_asm; (first | exact rfl | assumption); ktr_room; ktr_units; (k_memK); (l_ints); (omega); k_whole; intros; (try (rename_i e9; dsimp only at e9; revert e9; intro _)); (try k_sweep); (try dsimp only)))
  k_with "call ref" => (k_here; (with_reducible show wpAny _ _ (call (Value.ref 60) [Value.ref _, Value.int _ _, Value.int _ _, Value.none]) _ _ _); (with_reducible refine wpAny_with_toks (Nat.le_refl _) ?_); k_dflt (apply br4_ok; k_asm; k_asm; k_asm; k_asm; k_asm; (first | exact rfl | assumption); ktr_room; ktr_units; (k_memK); (l_ints); (omega); k_whole; intros; (try (rename_i e9; dsimp only at e9; revert e9; intro _)); (try k_sweep); (try dsimp only)))
  k_with "call ref" => (k_here; (with_reducible show wpAny _ _ (call (Value.ref 78) [Value.ref _, Value.int _ _, Value.int _ _, Value.none] _) _ _ _); (with_reducible refine wpAny_with_toks (Nat.le_refl _) ?_); k_dflt (apply bl5_ok; k_asm; k_asm; k_asm; k_asm; k_asm; (first | exact rfl | assumption); ktr_room; ktr_units; (k_memK); (assumption); (assumption); (assumption); (omega); k_whole; intros; (try (rename_i e9; dsimp only at e9; revert e9; intro _)); (try k_sweep); (try dsimp only)))
  k_with "call ref" => (k_here; (with_reducible show wpAny _ _ (call (Value.ref 60) [Value.ref _, Value.int _ _, Value.int _ _, Value.none] _) _ _ _); (with_reducible refine wpAny_with_toks (Nat.le_refl _) ?_); k_dflt (apply br5_ok; k_asm; k_asm; k_asm; k_asm; k_asm; (first | exact rfl | assumption); ktr_room; ktr_units; (k_memK); (assumption); (assumption); (assumption); (omega); k_whole; intros; (try (rename_i e9; dsimp only at e9; revert e9; intro _)); (try k_sweep); (try dsimp only)))
  k_with "call ref" => (k_here; (with_reducible show wpAny _ _ (call (Value.ref 69) [Value.ref _, Value.int _ _]) _ _ _); (with_reducible refine wpAny_with_toks (Nat.le_refl _) ?_); k_dflt (apply insl_ok; k_asm; k_asm; k_asm; k_asm; k_asm; (first | exact rfl | assumption); ktr_room; ktr_units; (k_upd); (l_ints); (omega); k_whole; intros; (try (rename_i e9; dsimp only at e9; revert e9; intro _)); (try k_sweep); (try dsimp only)))
  k_with "call ref" => (k_here; (with_reducible show wpAny _ _ (call (Value.ref 51) [Value.ref _, Value.int _ _]) _ _ _); (with_reducible refine wpAny_with_toks (Nat.le_refl _) ?_); k_dflt (apply insr_ok; k_asm; k_asm; k_asm; k_asm; k_asm; (first | exact rfl | assumption); ktr_room; ktr_units; (k_upd); (l_ints); (omega); k_whole; intros; (try (rename_i e9; dsimp only at e9; revert e9; intro _)); (try k_sweep); (try dsimp only)))
  k_with "call ref" => (k_here; (with_reducible show wpAny _ _ (call (Value.ref 69) [Value.ref _, Value.ref _] _) _ _ _); (with_reducible refine wpAny_with_toks (Nat.le_refl _) ?_); k_dflt (apply inslk_ok; k_asm; k_asm; k_asm; k_asm; k_asm; (first | exact rfl | assumption); ktr_room; ktr_units; (k_upd); (assumption); (first | assumption | exact ⟨by kd_subs⟩); (assumption); (assumption); (assumption); (omega); k_whole; intros; (try (rename_i e9; dsimp only at e9; revert e9; intro _)); (try k_sweep); (try dsimp only)))
  k_with "call ref" => (k_here; (with_reducible show wpAny _ _ (call (Value.ref 51) [Value.ref _, Value.ref _] _) _ _ _); (with_reducible refine wpAny_with_toks (Nat.le_refl _) ?_); k_dflt (apply insrk_ok; k_asm; k_asm; k_asm; k_asm; k_asm; (first | exact rfl | assumption); ktr_room; ktr_units; (k_upd); (assumption); (first | assumption | exact ⟨by kd_subs⟩); (assumption); (assumption); (assumption); (omega); k_whole; intros; (try (rename_i e9; dsimp only at e9; revert e9; intro _)); (try k_sweep); (try dsimp only)))
  trivial
section Cmerged
theorem layCmerged2 : True := by
  k_with "exec For Name Name cons nil" => (k_here; k_dflt (refine wpAny_For ?_))
  k_with "exec For Name Call cons nil" => (k_here; k_dflt (refine wpAny_For ?_))
  k_with "exec For Name Subscript cons nil" => (k_here; k_dflt (refine wpAny_For ?_))
  k_with "exec For" => (k_here; k_dflt (refine wpAny_For ?_))
  k_with "execs cons Assign cons" => ((with_reducible refine wpAny_execs_cons ?_); (try dsimp only))
  k_with "last pyIter ref" => (refine Hold.mk ?_)
  k_with "call builtin:list.append" => (k_here; (with_reducible show wpAny _ _ (call (Value.builtin _) [Value.ref _, _]) _ _ _); k_dflt (apply append_V; k_asm; k_asm; k_upd; (omega); k_whole); intros; (try k_sweep))
  k_with "execs cons" => (k_here; (with_reducible show wpAny _ _ _ _ _ (Shared.mk _ _ _ (_ + _) _)); (refine gen_toks ?_); intros; (try (rename_i e9; simp only [List.length_cons, List.length_nil, Nat.zero_add] at e9; revert e9; intro _)))
  k_with "execs nil" => (k_here; (with_reducible show wpAny _ _ _ _ _ (Shared.mk _ _ _ (_ + _) _)); (refine gen_toks ?_); intros; (try (rename_i e9; simp only [List.length_cons, List.length_nil, Nat.zero_add] at e9; revert e9; intro _)))
  trivial
noncomputable def mergedI (low high : List (List Int)) (left : Bool) : List (List Int) := if left then low.reverse.foldl insLK high else high.foldl insRK low
theorem foldLK_length (ls : List (List Int)) : ∀ qs, (ls.foldl insLK qs).length = qs.length + ls.length := by
  induction ls with
  | nil => intro qs; rfl
  | cons a ls ih => intro qs; rw [List.foldl_cons, ih, insLK_length, List.length_cons]; omega
theorem foldRK_length (ls : List (List Int)) : ∀ qs, (ls.foldl insRK qs).length = qs.length + ls.length := by
  induction ls with
  | nil => intro qs; rfl
  | cons a ls ih => intro qs; rw [List.foldl_cons, ih, insRK_length, List.length_cons]; omega
structure MergedSt where
  us : List Value
  nu : Nat
theorem layCmerged3 : True := by
  k_with "all" => (assumption)
  trivial
section
variable {prog : Program} {w : World} {p : Program} {loose : List Str} {mean : ExcName → Option Value} {mg mb : Str → Option Value}
theorem merged_ok {hiA loA : Addr} {us vs : List Value} {nu nv : Nat} {rs qs : List (List Int)} {dp un : Nat} {gd : Option (List Code)} {cn : Str} {cs : Scope} {a : Addr} {ccd : Value} {cl : List (Str × Addr)} {outer : List Env} {A₀ : Around} {base h₀ : Heap} {L : Addr} {m : Str → Option Value} {s : Shared} {Q E : Value → Shared → Prop} {news : List (Addr × Obj)} (B : Below A₀ base outer h₀) (F : Fr h₀ L s.heap m) (X : (hd.heap_1 w.params).In h₀) (N : News h₀ L s.heap ((hiA, listOf us.toArray nu) :: (loA, listOf vs.toArray nv) :: news)) (T : Top p loose mean mg mb h₀) (hk : cs.kind = .function) (hd1 : dp + 11 < recursionLimit) (hu : un + 150 < cLine)
   (hne : @Ne Nat hiA loA) (hoh : ∀ p ∈ news, @Ne Nat p.1 hiA) (hol : ∀ p ∈ news, @Ne Nat p.1 loA) (hi : LLAre news us qs) (lo : LLAre news vs rs) (hw : ∀ r ∈ qs, r.length = 2) (lw : ∀ r ∈ rs, r.length = 2) (hlen : rs.length + qs.length ≤ 800) {b : Bool}
   (ret : ∀ (t : Addr) ws nn' h' tk', LLAre news ws (mergedI rs qs b) → Fr h₀ L h' m → News h₀ L h' ((t, listOf ws.toArray nn') :: news) → Q (.ref t) {s with heap := h', toks := tk'}) :
   wpAny (model prog w) (ktrTop dp un gd cn cs L a ccd cl outer) (call (.ref 137) [.ref loA, .ref hiA, .bool b]) Q E s := by
  refine wpAny_call ?_
  k_dflt (refine' code_def (binds := [(Str.ofString "low", Value.ref loA), (Str.ofString "high", Value.ref hiA), (Str.ofString "left", Value.bool b)]) ?k1 ?k2 ?k3 ?k4 ?k5 ?kA ?kF ?kK ?k6 ?k7 ?k8 ?k9 ?kB ?_ ?c2 ?c3 ?c4 ?c5; (case kA => exact rfl); (case kF => exact rfl); (case kK => assumption); (case k1 => k_asm); (case k2 => k_asm); (case k3 => k_asm); (case k4 => k_asm); (case k5 => k_asm); (case k6 => k_is); (case k7 => k_is); (case k8 => ktr_room); (case k9 => first | exact BindsTo.of_eq rfl | exact hbd _ _ _ _ rfl | (refine' kp_binds ?kx ?ke; (case kx => k_in); (case ke => exact fun _ => rfl))); (case c5 => decide); (case kB => exact locs rfl); (case c2 => exact rfl); (case c3 => exact rfl); (case c4 => exact rfl); k_whole; intro g' L' h' FG' F' N' B' X' T'; (try dsimp only); (try k_lift B'); (try k_fold))
  have hul := hi.length
  have hvl := lo.length
  k_steps
  · rename_i D h9 F9 N9 l9
    have hb : b = true := by assumption
    have lr := lo.reverse
    (try unfold Hold)
    (with_unfolding_all refine' for_list (σ := MergedSt) (fun c => (hiA, listOf c.us.toArray c.nu) :: (D, listOf vs.reverse.toArray 0) :: news) (fun c => []) [Str.ofString "part"] (fun i _ c => LLAre news c.us ((rs.reverse.take i).foldl insLK qs) ∧ ∀ r ∈ (rs.reverse.take i).foldl insLK qs, r.length = 2) ⟨us, nu⟩ rfl (fun _ _ _ _ => .tail _ (.head _)) (fun _ _ _ _ _ h => h) ?F ?N ?hk ?hj ?turn ?done ?hE)
    case F => assumption
    case N => exact news_sub N9 (by kcf_all)
    case hk => kst_all
    case hj => exact ⟨hi, hw⟩
    case hE => passes_own
    case turn =>
      rintro ⟨ws, nw⟩ i v u h tk I oI hv hJ9 hle hoff F1 N1
      refine Classical.byContradiction fun ng9 => ?_
      obtain ⟨hA, hW⟩ := hJ9
      obtain ⟨a', ws', n', r, rfl, hm', hn, hi'⟩ := lr.at hv
      refine ng9 ?_; clear ng9
      have hr2 : r.length = 2 := lw r (List.mem_reverse.mp (List.mem_of_getElem? hn))
      have hLI : LIs news (.ref a') r := LIs.mk hm' hi'
      have hIh : @Ne Nat hiA I := hoff _ (.head _)
      have hDh : @Ne Nat D hiA := by omega
      have hln : ((rs.reverse.take i).foldl insLK qs).length ≤ 900 := by rw [foldLK_length, List.length_take, List.length_reverse]; omega
      dsimp only at hA hW hoff F1 N1
      dsimp only [kstB] at F1
      (try dsimp only)
      (try k_fold)
      k_steps
      refine' turn_end (MergedSt.mk _ _) (by assumption) (by assumption) ?tn ?tr ?tI ?ts ?to ?tj
      case ts => kcf_all
      case tn => exact fun p hp => nomatch hp
      case tr => ksw_same
      case tI => kcf_m
      case to => exact (all_cons hIh (fun p hp => hoff p (.tail _ hp)))
      case tj => (dsimp only; rw [foldl_take_one _ _ hn]; exact ⟨by assumption, by assumption⟩)
    case done =>
      rintro ⟨ws, nw⟩ u h tk ⟨hA, hW⟩ hle F1 N1
      dsimp only [kstB] at F1
      (try dsimp only)
      k_steps
      exact ret _ _ _ _ _ (by rw [lr.length, List.take_length] at hA; rw [hb]; exact hA) (by assumption) (news_sub (by assumption) (by kcf_all))
  · rename_i hb
    (try unfold Hold)
    (with_unfolding_all refine' for_list (σ := MergedSt) (fun c => (loA, listOf c.us.toArray c.nu) :: (hiA, listOf us.toArray nu) :: news) (fun c => []) [Str.ofString "part"] (fun i _ c => LLAre news c.us ((qs.take i).foldl insRK rs) ∧ ∀ r ∈ (qs.take i).foldl insRK rs, r.length = 2) ⟨vs, nv⟩ rfl (fun _ _ _ _ => .tail _ (.head _)) (fun _ _ _ _ _ h => h) ?F ?N ?hk ?hj ?turn ?done ?hE)
    case F => assumption
    case N => exact news_sub (by assumption) (by kcf_all)
    case hk => kst_all
    case hj => exact ⟨lo, lw⟩
    case hE => passes_own
    case turn =>
      rintro ⟨ws, nw⟩ i v u h tk I oI hv hJ9 hle hoff F1 N1
      refine Classical.byContradiction fun ng9 => ?_
      obtain ⟨hA, hW⟩ := hJ9
      obtain ⟨a', ws', n', r, rfl, hm', hn, hi'⟩ := hi.at hv
      refine ng9 ?_; clear ng9
      have hr2 : r.length = 2 := hw r (List.mem_of_getElem? hn)
      have hLI : LIs news (.ref a') r := LIs.mk hm' hi'
      have hIh : @Ne Nat loA I := hoff _ (.head _)
      have hln : ((qs.take i).foldl insRK rs).length ≤ 900 := by rw [foldRK_length, List.length_take]; omega
      dsimp only at hA hW hoff F1 N1
      dsimp only [kstB] at F1
      (try dsimp only)
      (try k_fold)
      k_steps
      refine' turn_end (MergedSt.mk _ _) (by assumption) (by assumption) ?tn ?tr ?tI ?ts ?to ?tj
      case ts => kcf_all
      case tn => exact fun p hp => nomatch hp
      case tr => ksw_same
      case tI => kcf_m
      case to => exact (all_cons hIh (fun p hp => hoff p (.tail _ hp)))
      case tj => (dsimp only; rw [foldl_take_one _ _ hn]; exact ⟨by assumption, by assumption⟩)
    case done =>
      rintro ⟨ws, nw⟩ u h tk ⟨hA, hW⟩ hle F1 N1
      dsimp only [kstB] at F1
      (try dsimp only)
      k_steps
      exact ret _ _ _ _ _ (by rw [hi.length, List.take_length] at hA; rw [mergedI, if_neg (by simp only [hb]; exact Bool.false_ne_true)]; exact hA) (by assumption) (news_sub (by assumption) (by kcf_all))
end
end Cmerged

theorem layCtold1 : True := by
  k_with_none
  k_with "memK" => (first | assumption | exact Sub.of (by assumption) _ (by assumption) | kd_lift)
  k_with "subl" => (first | exact fun _ hp => hp | exact sub_nil | (with_reducible refine sub_keep ?_; k_extra "subl") | (with_reducible refine sub_skip ?_; k_extra "subl"))
  k_with "kcf_all" => (first | exact all_nil | k_extra "subl" | (refine all_cons ?_ ?_; (focus kcf_m); kcf_all))
  k_with "mem" => (exact Sub.of (by assumption) _ (by assumption))
  k_with "is_list" => (first | exact News.isList (by assumption) (by assumption) | exact News.isList (by assumption) (Sub.of (by assumption) _ (by assumption)) | exact News.isList (by assumption) (by kd_lift))
  k_with "all" => (first | assumption | ((rename (∀ p : Addr × Obj, p ∈ _ → p.1 < _) => l9); intro p9 hp9; (have q9 := ltN (l9 p9 hp9)); refine neN ?_; omega) | exact all_nil | (apply all_cons; (k_ne); (k_all)))
  k_with "enter" => ((apply code_def; k_asm; k_asm; k_asm; k_asm; k_asm; exact rfl; exact rfl; (first | exact rfl | assumption); k_is; k_is; ktr_room; (exact BindsTo.of_eq rfl); (exact locs rfl); rotate_left; (exact rfl); (exact rfl); (exact rfl); decide; k_whole); intros; (try dsimp only); (try ((rename (Below _ _ _ _) => B9); k_lift B9; revert B9; intros)); (try k_fold))
  k_with "subscriptTail" => (k_here; (with_reducible show wpAny _ _ (subscriptTail _ _ (Value.ref _) (Value.int _ _)) _ _ _); (with_unfolding_all (apply ll_item; k_asm; k_memK; assumption; (first | kd_idx | (simp only [fdiv2]; omega)); (first | kd_idx | (simp only [fdiv2]; omega)); (first | kd_idx | (simp only [fdiv2]; omega)); (with_unfolding_all rfl); k_whole)); intros; (try (rename_i hr9; (have hw9 := row_len (by assumption) hr9); revert hr9 hw9; intros)))
  k_with "getItem ref int" => (k_here; (with_unfolding_all (apply ll_getItem; k_asm; k_memK; assumption; (first | kd_idx | (simp only [fdiv2]; omega)); (first | kd_idx | (simp only [fdiv2]; omega)); (first | kd_idx | (simp only [fdiv2]; omega)); k_whole)); intros; (try (rename_i hr9; (have hw9 := row_len (by assumption) hr9); revert hr9 hw9; intros)))
  k_with "call builtin:len" => (k_here; (with_reducible show wpAny _ _ (call (Value.builtin "len") [Value.ref _]) _ _ _); k_dflt (apply ll_len; k_asm; (first | assumption | k_memK | kd_lift); assumption; (first | omega | ((try simp only [List.length_append, List.length_cons, List.length_nil, List.length_map, List.length_reverse, rangeKs_length] at *); omega)); k_whole))
  k_with "compareOp Eq ref ref" => (k_here; (with_reducible show wpAny _ _ (compareOp CmpOp.Eq (Value.ref _) (Value.ref _)) _ _ _); (with_unfolding_all (apply eq_intsK; is_list; l_ints; is_list; l_ints; ktr_units; k_whole)))
  k_with "subscriptTail Name Slice ref ref" => (k_here; (with_reducible show wpAny _ _ (subscriptTail _ (PySem.Expr.Slice none none (some _) _) (Value.ref _) (Value.ref _)) _ _ _); k_dflt (apply rev_V; k_asm; k_asm; k_memK; (exact IsPart.int _ _); (with_unfolding_all rfl); kmk_pure; omega; k_whole); intros; (rename_i l9); (try k_lt l9); (try k_sweep); (try (revert l9; intros)))
  k_with "exec Assign" => (k_fold; walk_at "exec Assign")
  k_with "exec Expr" => (k_fold; walk_at "exec Expr")
  k_with "exec If" => (k_fold; walk_at "exec If")
  k_with "exec Return" => (k_fold; walk_at "exec Return")
  k_with "exec AugAssign" => (k_fold; walk_at "exec AugAssign")
  k_with "exec While" => (k_fold; walk_at "exec While")
  k_with "call ref" => (k_here; (with_reducible show wpAny _ _ (call (Value.ref 85) [Value.float _ _, Value.float _ _, Value.float _ _]) _ _ _); (with_reducible refine wpAny_with_toks (Nat.le_refl _) ?_); k_dflt (apply rgb_okE; k_asm; k_asm; k_asm; k_asm; k_asm; (first | exact rfl | assumption); ktr_room; ktr_units; (assumption); (assumption); k_whole; intros; (try (rename_i e9; dsimp only at e9; revert e9; intro _)); (try k_sweep); (try dsimp only)))
  k_with "call ref" => (k_here; (with_reducible show wpAny _ _ (call (Value.ref 106) [Value.float _ _]) _ _ _); (with_reducible refine wpAny_with_toks (Nat.le_refl _) ?_); k_dflt (apply whole_okE; k_asm; k_asm; k_asm; k_asm; k_asm; (first | exact rfl | assumption); ktr_room; ktr_units; (assumption); (assumption); k_whole; intros; (try (rename_i e9; dsimp only at e9; revert e9; intro _)); (try k_sweep); (try dsimp only)))
  trivial
section Ctold
theorem layCtold2 : True := by
  k_with "exec For Name Name cons nil" => (k_here; k_dflt (refine wpAny_For ?_))
  k_with "exec For Name Call cons nil" => (k_here; k_dflt (refine wpAny_For ?_))
  k_with "exec For Name Subscript cons nil" => (k_here; k_dflt (refine wpAny_For ?_))
  k_with "exec For" => (k_here; k_dflt (refine wpAny_For ?_))
  k_with "execs cons Assign cons" => ((with_reducible refine wpAny_execs_cons ?_); (try dsimp only))
  k_with "last pyIter ref" => (refine Hold.mk ?_)
  k_with "call builtin:list.append" => (k_here; (with_reducible show wpAny _ _ (call (Value.builtin _) [Value.ref _, _]) _ _ _); k_dflt (apply append_V; k_asm; k_asm; k_upd; (omega); k_whole); intros; (try k_sweep))
  k_with "execs cons" => (k_here; (with_reducible show wpAny _ _ _ _ _ (Shared.mk _ _ _ (_ + _) _)); (refine gen_toks ?_); intros; (try (rename_i e9; simp only [List.length_cons, List.length_nil, Nat.zero_add] at e9; revert e9; intro _)))
  k_with "execs nil" => (k_here; (with_reducible show wpAny _ _ _ _ _ (Shared.mk _ _ _ (_ + _) _)); (refine gen_toks ?_); intros; (try (rename_i e9; simp only [List.length_cons, List.length_nil, Nat.zero_add] at e9; revert e9; intro _)))
  trivial
theorem once_pos {tot : Int} : 0 < ((tot.fdiv 48).fmod 4 + 1) * ((tot.fdiv 192).fmod 4 + 1) := by
  have a : 0 ≤ (tot.fdiv 48).fmod 4 := Int.fmod_nonneg_of_pos _ (by decide)
  have b : 0 ≤ (tot.fdiv 192).fmod 4 := Int.fmod_nonneg_of_pos _ (by decide)
  exact Int.mul_pos (by omega) (by omega)
theorem once_no {tot : Int} (_ : 0 ≤ tot) (_ : tot < 768) (h : ((tot.fdiv 48).fmod 4 + 1) * ((tot.fdiv 192).fmod 4 + 1) = 0) : False := by
  have := once_pos (tot := tot); omega
theorem once_le {tot : Int} : ((tot.fdiv 48).fmod 4 + 1) * ((tot.fdiv 192).fmod 4 + 1) ≤ 16 := by
  have a : 0 ≤ (tot.fdiv 48).fmod 4 := Int.fmod_nonneg_of_pos _ (by decide)
  have b : 0 ≤ (tot.fdiv 192).fmod 4 := Int.fmod_nonneg_of_pos _ (by decide)
  have a' : (tot.fdiv 48).fmod 4 < 4 := Int.fmod_lt_of_pos _ (by decide)
  have b' : (tot.fdiv 192).fmod 4 < 4 := Int.fmod_lt_of_pos _ (by decide)
  calc _ ≤ (4 : Int) * 4 := Int.mul_le_mul (by omega) (by omega) (by omega) (by omega)
    _ = 16 := rfl
theorem over_no {tot : Int} (_ : 0 ≤ tot) (_ : tot < 768) (h : Flt.Over (((tot.fdiv 48).fmod 4 + 1) * ((tot.fdiv 192).fmod 4 + 1))) : False := by
  have h1 := once_pos (tot := tot)
  have h2 := once_le (tot := tot)
  exact big_no (n := (((tot.fdiv 48).fmod 4 + 1) * ((tot.fdiv 192).fmod 4 + 1)).natAbs) (by omega) h
section
variable {prog : Program} {w : World} {p : Program} {loose : List Str} {mean : ExcName → Option Value} {mg mb : Str → Option Value}
theorem told_walk {dp un : Nat} {gd : Option (List Code)} {cn : Str} {cs : Scope} {a : Addr} {ccd : Value} {cl : List (Str × Addr)} {outer : List Env} {A₀ : Around} {base h₀ : Heap} {L : Addr} {m : Str → Option Value} {s : Shared} {Q E : Value → Shared → Prop} {news : List (Addr × Obj)} (B : Below A₀ base outer h₀) (F : Fr h₀ L s.heap m) (X : (hd.heap_1 w.params).In h₀) (N : News h₀ L s.heap news) (T : Top p loose mean mg mb h₀) (hk : cs.kind = .function) (hd1 : dp + 6 < recursionLimit) (hu : un + 300 < cLine)
   {l : Addr} {x y z tot place size : Int} {H S V : UInt64} {tx ty tz tt : Tok} {nn : Nat} (hl : (l, listOf [Value.int x tx, Value.int y ty, Value.int z tz].toArray nn) ∈ news) (ok : ToldOk x y z tot place size H S V) (h1 : 1 ≤ s.toks) (ht0 : 0 ≤ tot) (ht1 : tot < 768)
   (ret : ∀ (t : Addr) (ta tb : Nat) nn' (h' : Heap) (tk' : Nat), 1 ≤ ta → ta < tk' → 1 ≤ tb → tb < tk' → Fr h₀ L h' m → News h₀ L h' ((t, listOf [Value.int (((place - tot).fmod 48).fdiv 8) ta, Value.int size tb].toArray nn') :: news) → (∀ p ∈ news, p.1 < t) → Q (.ref t) {s with heap := h', toks := tk'}) :
   wpAny (model prog w) (ktrTop dp un gd cn cs L a ccd cl outer) (call (.ref 123) [.ref l, .int tot tt]) Q E s := by
  have oix : Float64.isInf (Float64.ofFrac (decide ([x, y, z].getD (Int.toNat 0) 0 < 0) != decide ((8192 : Int) < 0)) ([x, y, z].getD (Int.toNat 0) 0).natAbs (Int.natAbs 8192)) = false := ok.ix
  have oiy : Float64.isInf (Float64.ofFrac (decide ([x, y, z].getD (Int.toNat 1) 0 < 0) != decide ((8192 : Int) < 0)) ([x, y, z].getD (Int.toNat 1) 0).natAbs (Int.natAbs 8192)) = false := ok.iy
  have oiz : Float64.isInf (Float64.ofFrac (decide ([x, y, z].getD (Int.toNat 2) 0 < 0) != decide ((8192 : Int) < 0)) ([x, y, z].getD (Int.toNat 2) 0).natAbs (Int.natAbs 8192)) = false := ok.iz
  have org := ok.rgb
  have orE := ok.rgbE
  have ow1 := ok.w1
  have oe1 := ok.e1
  have oh0 := ok.h0
  have oh1 := ok.h1
  have op0 := ok.p0
  have op8 := ok.p8
  have ov0 : ∀ M : Int, M = x ∨ M = y ∨ M = z → x ≤ M ∧ y ≤ M ∧ z ≤ M → (Float64.cmp V (Float64.ofFrac (decide (M < 0) != decide ((8192 : Int) < 0)) M.natAbs (Int.natAbs 8192)) != some Ordering.eq) = false := fun M hm hb => ok.v0 M hb.1 hb.2.1 hb.2.2 (by rcases hm with rfl | rfl | rfl <;> simp)
  have oiM : ∀ M : Int, M = x ∨ M = y ∨ M = z → Float64.isInf (Float64.ofFrac (decide (M < 0) != decide ((8192 : Int) < 0)) M.natAbs (Int.natAbs 8192)) = false := fun M hm => by
    rcases hm with rfl | rfl | rfl
    · exact ok.ix
    · exact ok.iy
    · exact ok.iz
  have ow2 := ok.w2
  have oe2 := ok.e2
  refine wpAny_call ?_
  k_dflt (refine' code_def (binds := [(Str.ofString "light", Value.ref l), (Str.ofString "total", Value.int tot tt)]) ?k1 ?k2 ?k3 ?k4 ?k5 ?kA ?kF ?kK ?k6 ?k7 ?k8 ?k9 ?kB ?_ ?c2 ?c3 ?c4 ?c5; (case kA => exact rfl); (case kF => exact rfl); (case kK => assumption); (case k1 => k_asm); (case k2 => k_asm); (case k3 => k_asm); (case k4 => k_asm); (case k5 => k_asm); (case k6 => k_is); (case k7 => k_is); (case k8 => ktr_room); (case k9 => first | exact BindsTo.of_eq rfl | exact hbd _ _ _ _ rfl | (refine' kp_binds ?kx ?ke; (case kx => k_in); (case ke => exact fun _ => rfl))); (case c5 => decide); (case kB => exact locs rfl); (case c2 => exact rfl); (case c3 => exact rfl); (case c4 => exact rfl); k_whole; intro g' L' h' FG' F' N' B' X' T'; (try dsimp only); (try k_lift B'); (try k_fold))
  k_steps
  all_goals first
    | exact (bool_clash (by assumption) oix).elim
    | exact (bool_clash (by assumption) oiy).elim
    | exact (bool_clash (by assumption) oiz).elim
    | exact absurd op8 (by assumption)
    | exact (bool_clash (by assumption) (oiM _ (by assumption))).elim
    | exact (bool_clash (by assumption) (ov0 _ (by assumption) (by assumption))).elim
    | exact (over_no ht0 ht1 (by assumption)).elim
    | exact (once_no ht0 ht1 (by assumption)).elim
    | (refine' ret _ _ _ _ _ _ ?_ ?_ ?_ ?_ (by assumption) (news_sub (by assumption) (by kcf_all)) ?_; (exact Nat.le_add_left _ _); ((repeat (rename (_ : Nat) < 2 ^ 1024 - 2 ^ 970 => z9; clear z9)); (try dsimp only at *); omega); ((repeat (rename (_ : Nat) < 2 ^ 1024 - 2 ^ 970 => z9; clear z9)); (try dsimp only at *); omega); ((repeat (rename (_ : Nat) < 2 ^ 1024 - 2 ^ 970 => z9; clear z9)); (try dsimp only at *); omega); (exact allLt_mem (by rename_i q9 _ _ _ _; first | exact (by assumption : _ ∧ AllLt _ _).2 | exact q9.2)))
    | fail
theorem told_ok {dp un : Nat} {gd : Option (List Code)} {cn : Str} {cs : Scope} {a : Addr} {ccd : Value} {cl : List (Str × Addr)} {outer : List Env} {A₀ : Around} {base h₀ : Heap} {L : Addr} {m : Str → Option Value} {s : Shared} {Q E : Value → Shared → Prop} {news : List (Addr × Obj)} (B : Below A₀ base outer h₀) (F : Fr h₀ L s.heap m) (X : (hd.heap_1 w.params).In h₀) (N : News h₀ L s.heap news) (T : Top p loose mean mg mb h₀) (hk : cs.kind = .function) (hd1 : dp + 6 < recursionLimit) (hu : un + 300 < cLine)
   {l : Addr} {q : List Int} {vs : List Value} {tot : Int} {tt : Tok} {nn : Nat} (hl : (l, listOf vs.toArray nn) ∈ news) (hi : IntsAre vs (lightI tot q)) (okq : PairOk q) (h1 : 1 ≤ s.toks) (ht0 : 0 ≤ tot) (ht1 : tot < 768)
   (ret : ∀ (t : Addr) (ta tb : Nat) nn' (h' : Heap) (tk' : Nat), 1 ≤ ta → ta < tk' → 1 ≤ tb → tb < tk' → Fr h₀ L h' m → News h₀ L h' ((t, listOf [Value.int (q.getD 0 0) ta, Value.int (q.getD 1 0) tb].toArray nn') :: news) → (∀ p ∈ news, p.1 < t) → Q (.ref t) {s with heap := h', toks := tk'}) :
   wpAny (model prog w) (ktrTop dp un gd cn cs L a ccd cl outer) (call (.ref 123) [.ref l, .int tot tt]) Q E s := by
  obtain ⟨x, y, z, exyz⟩ := lightI_three tot q
  obtain ⟨place, H, S, V, ok, hp⟩ := told_float ht0 ht1 okq exyz
  rw [exyz] at hi
  obtain ⟨t1, t2, t3, rfl⟩ := ints_three hi
  refine told_walk B F X N T hk hd1 hu hl ok h1 ht0 ht1 ?_
  rw [hp]
  exact ret
end
end Ctold


theorem layCpaint1 : True := by
  k_with_none
  k_with "memK" => (first | assumption | exact Sub.of (by assumption) _ (by assumption) | kd_lift)
  k_with "subl" => (first | exact fun _ hp => hp | exact sub_nil | (with_reducible refine sub_keep ?_; k_extra "subl") | (with_reducible refine sub_skip ?_; k_extra "subl"))
  k_with "kcf_all" => (first | exact all_nil | k_extra "subl" | (refine all_cons ?_ ?_; (focus kcf_m); kcf_all))
  k_with "mem" => (exact Sub.of (by assumption) _ (by assumption))
  k_with "is_list" => (first | exact News.isList (by assumption) (by assumption) | exact News.isList (by assumption) (Sub.of (by assumption) _ (by assumption)) | exact News.isList (by assumption) (by kd_lift))
  k_with "all" => (first | assumption | ((rename (∀ p : Addr × Obj, p ∈ _ → p.1 < _) => l9); intro p9 hp9; (have q9 := ltN (l9 p9 hp9)); refine neN ?_; omega) | exact all_nil | (apply all_cons; (k_ne); (k_all)))
  k_with "enter" => ((apply code_def; k_asm; k_asm; k_asm; k_asm; k_asm; exact rfl; exact rfl; (first | exact rfl | assumption); k_is; k_is; ktr_room; (exact BindsTo.of_eq rfl); (exact locs rfl); rotate_left; (exact rfl); (exact rfl); (exact rfl); decide; k_whole); intros; (try dsimp only); (try ((rename (Below _ _ _ _) => B9); k_lift B9; revert B9; intros)); (try k_fold))
  k_with "subscriptTail" => (k_here; (with_reducible show wpAny _ _ (subscriptTail _ _ (Value.ref _) (Value.int _ _)) _ _ _); (with_unfolding_all (apply ll_item; k_asm; k_memK; assumption; (first | kd_idx | (simp only [fdiv2]; omega)); (first | kd_idx | (simp only [fdiv2]; omega)); (first | kd_idx | (simp only [fdiv2]; omega)); (with_unfolding_all rfl); k_whole)); intros; (try (rename_i hr9; (have hw9 := row_len (by assumption) hr9); revert hr9 hw9; intros)))
  k_with "getItem ref int" => (k_here; (with_unfolding_all (apply ll_getItem; k_asm; k_memK; assumption; (first | kd_idx | (simp only [fdiv2]; omega)); (first | kd_idx | (simp only [fdiv2]; omega)); (first | kd_idx | (simp only [fdiv2]; omega)); k_whole)); intros; (try (rename_i hr9; (have hw9 := row_len (by assumption) hr9); revert hr9 hw9; intros)))
  k_with "call builtin:len" => (k_here; (with_reducible show wpAny _ _ (call (Value.builtin "len") [Value.ref _]) _ _ _); k_dflt (apply ll_len; k_asm; (first | assumption | k_memK | kd_lift); assumption; (first | omega | ((try simp only [List.length_append, List.length_cons, List.length_nil, List.length_map, List.length_reverse, rangeKs_length] at *); omega)); k_whole))
  k_with "compareOp Eq ref ref" => (k_here; (with_reducible show wpAny _ _ (compareOp CmpOp.Eq (Value.ref _) (Value.ref _)) _ _ _); (with_unfolding_all (apply eq_intsK; is_list; l_ints; is_list; l_ints; ktr_units; k_whole)))
  k_with "subscriptTail Name Slice ref ref" => (k_here; (with_reducible show wpAny _ _ (subscriptTail _ (PySem.Expr.Slice none none (some _) _) (Value.ref _) (Value.ref _)) _ _ _); k_dflt (apply rev_V; k_asm; k_asm; k_memK; (exact IsPart.int _ _); (with_unfolding_all rfl); kmk_pure; omega; k_whole); intros; (rename_i l9); (try k_lt l9); (try k_sweep); (try (revert l9; intros)))
  k_with "exec Assign" => (k_fold; walk_at "exec Assign")
  k_with "exec Expr" => (k_fold; walk_at "exec Expr")
  k_with "exec If" => (k_fold; walk_at "exec If")
  k_with "exec Return" => (k_fold; walk_at "exec Return")
  k_with "exec AugAssign" => (k_fold; walk_at "exec AugAssign")
  k_with "exec While" => (k_fold; walk_at "exec While")
  k_with "call ref" => (k_here; (with_reducible show wpAny _ _ (call (Value.ref 92) [Value.float _ _, Value.float _ _, Value.float _ _]) _ _ _); (with_reducible refine wpAny_with_toks (Nat.le_refl _) ?_); k_dflt (apply hsv_okE; k_asm; k_asm; k_asm; k_asm; k_asm; (first | exact rfl | assumption); ktr_room; ktr_units; (assumption); (assumption); k_whole; intros; (try (rename_i e9; dsimp only at e9; revert e9; intro _)); (try k_sweep); (try dsimp only)))
  k_with "call ref" => (k_here; (with_reducible show wpAny _ _ (call (Value.ref 106) [Value.float _ _]) _ _ _); (with_reducible refine wpAny_with_toks (Nat.le_refl _) ?_); k_dflt (apply whole_okE; k_asm; k_asm; k_asm; k_asm; k_asm; (first | exact rfl | assumption); ktr_room; ktr_units; (assumption); (assumption); k_whole; intros; (try (rename_i e9; dsimp only at e9; revert e9; intro _)); (try k_sweep); (try dsimp only)))
  trivial
section Cpaint
theorem layCpaint2 : True := by
  k_with "exec For Name Name cons nil" => (k_here; k_dflt (refine wpAny_For ?_))
  k_with "exec For Name Call cons nil" => (k_here; k_dflt (refine wpAny_For ?_))
  k_with "exec For Name Subscript cons nil" => (k_here; k_dflt (refine wpAny_For ?_))
  k_with "exec For" => (k_here; k_dflt (refine wpAny_For ?_))
  k_with "execs cons Assign cons" => ((with_reducible refine wpAny_execs_cons ?_); (try dsimp only))
  k_with "last pyIter ref" => (refine Hold.mk ?_)
  k_with "call builtin:list.append" => (k_here; (with_reducible show wpAny _ _ (call (Value.builtin _) [Value.ref _, _]) _ _ _); k_dflt (apply append_V; k_asm; k_asm; k_upd; (omega); k_whole); intros; (try k_sweep))
  k_with "execs cons" => (k_here; (with_reducible show wpAny _ _ _ _ _ (Shared.mk _ _ _ (_ + _) _)); (refine gen_toks ?_); intros; (try (rename_i e9; simp only [List.length_cons, List.length_nil, Nat.zero_add] at e9; revert e9; intro _)))
  k_with "execs nil" => (k_here; (with_reducible show wpAny _ _ _ _ _ (Shared.mk _ _ _ (_ + _) _)); (refine gen_toks ?_); intros; (try (rename_i e9; simp only [List.length_cons, List.length_nil, Nat.zero_add] at e9; revert e9; intro _)))
  trivial
theorem paint_eq (hue share level : Int) : [partI hue share level 0, partI hue share level 1, partI hue share level 2] = List.map (fun k' => level * (32 - share * if (if k' - 8 > 0 then k' - 8 else 0) < 8 then if k' - 8 > 0 then k' - 8 else 0 else 8)) (List.map (fun k' => if (16 * k' - hue).fmod 48 < (hue - 16 * k').fmod 48 then (16 * k' - hue).fmod 48 else (hue - 16 * k').fmod 48) (rangeKs 0 3)) := rfl
theorem paint_at {hue share level : Int} {a b c : UInt64} {ta tb tc : Tok} (ok : PaintOk hue share level a b c) {i : Nat} {v : Value} (h : [Value.float a ta, Value.float b tb, Value.float c tc][i]? = some v) :
    ∃ x t k, v = .float x t ∧ wholeOk (Float64.mul x (Float64.ofInt 128)) = true ∧ wholeF (Float64.mul x (Float64.ofInt 128)) = k ∧ [partI hue share level 0, partI hue share level 1, partI hue share level 2][i]? = some k := by
  match i, h with
  | 0, h => simp at h; exact ⟨a, ta, _, h.symm, ok.wa, ok.ea, rfl⟩
  | 1, h => simp at h; exact ⟨b, tb, _, h.symm, ok.wb, ok.eb, rfl⟩
  | 2, h => simp at h; exact ⟨c, tc, _, h.symm, ok.wc, ok.ec, rfl⟩
  | n + 3, h => simp at h
theorem layCpaint3 : True := by
  k_with "exec Assign cons ListComp" => (k_here; (with_reducible show wpAny _ _ (exec (Stmt.Assign _ (Expr.ListComp _ [⟨_, Expr.Call _ [_, _, _] _ _, _, _⟩] _ _) _) _) _ _ _); (refine Hold.mk ?_))
  trivial
section
variable {prog : Program} {w : World} {p : Program} {loose : List Str} {mean : ExcName → Option Value} {mg mb : Str → Option Value}
theorem paint_ok {dp un : Nat} {gd : Option (List Code)} {cn : Str} {cs : Scope} {a : Addr} {ccd : Value} {cl : List (Str × Addr)} {outer : List Env} {A₀ : Around} {base h₀ : Heap} {L : Addr} {m : Str → Option Value} {s : Shared} {Q E : Value → Shared → Prop} {news : List (Addr × Obj)} (B : Below A₀ base outer h₀) (F : Fr h₀ L s.heap m) (X : (hd.heap_1 w.params).In h₀) (N : News h₀ L s.heap news) (T : Top p loose mean mg mb h₀) (hk : cs.kind = .function) (hd1 : dp + 6 < recursionLimit) (hu : un + 300 < cLine)
   {hue tot : Int} {a₁ b₁ c₁ : UInt64} {th tt : Tok} (ok : PaintOk hue ((tot.fdiv 48).fmod 4 + 1) ((tot.fdiv 192).fmod 4 + 1) a₁ b₁ c₁) (h0 : 0 ≤ hue) (h1 : hue < 64) (ht0 : 0 ≤ tot) (ht1 : tot < 768)
   (ret : ∀ (t : Addr) ws nn' (h' : Heap) (tk' : Nat), IntsAre ws [partI hue ((tot.fdiv 48).fmod 4 + 1) ((tot.fdiv 192).fmod 4 + 1) 0, partI hue ((tot.fdiv 48).fmod 4 + 1) ((tot.fdiv 192).fmod 4 + 1) 1, partI hue ((tot.fdiv 48).fmod 4 + 1) ((tot.fdiv 192).fmod 4 + 1) 2] → Fr h₀ L h' m → News h₀ L h' ((t, listOf ws.toArray nn') :: news) → (∀ p ∈ news, @Ne Nat p.1 t) → Q (.ref t) {s with heap := h', toks := tk'}) :
   wpAny (model prog w) (ktrTop dp un gd cn cs L a ccd cl outer) (call (.ref 111) [.int hue th, .int tot tt]) Q E s := by
  have oih := ok.ih
  have ois := ok.is
  have oil := ok.il
  have ook := ok.ok
  have oe := ok.e
  refine wpAny_call ?_
  k_dflt (refine' code_defC (binds := [(Str.ofString "hue", Value.int hue th), (Str.ofString "total", Value.int tot tt)]) ?k1 ?k2 ?k3 ?k4 ?k5 ?kA ?kF ?kK ?k6 ?k7 ?k8 ?k9 ?kB ?kD ?_ ?c2 ?c3 ?c4; (case kA => exact rfl); (case kF => exact rfl); (case kK => assumption); (case k1 => k_asm); (case k2 => k_asm); (case k3 => k_asm); (case k4 => k_asm); (case k5 => k_asm); (case k6 => k_is); (case k7 => k_is); (case k8 => ktr_room); (case k9 => first | exact BindsTo.of_eq rfl | exact hbd _ _ _ _ rfl | (refine' kp_binds ?kx ?ke; (case kx => k_in); (case ke => exact fun _ => rfl))); (case kB => exact rfl); (case kD => decide +kernel); (case c2 => exact rfl); (case c3 => exact rfl); (case c4 => exact rfl); k_whole; intro g' L' h' tk' cells' FG' F' N' Y' B' X' T' l1; (try k_lt l1); k_cells Y'; (try simp only [List.cons_append, List.nil_append] at N'); (try dsimp only); (try k_lift B'); (try k_fold))
  k_steps
  unfold Hold
  k_dflt (refine listComp_S (by k_asm) (by rfl) (by with_unfolding_all rfl) (by with_unfolding_all rfl) (by decide) (by rfl) (by decide) (by rfl) (by rfl) (by rfl) ?_)
  k_steps
  k_dflt (refine' compIn_tuple (σ := Unit) (fun _ => _) (fun i _ ys _ => IntsAre ys ([partI hue ((tot.fdiv 48).fmod 4 + 1) ((tot.fdiv 192).fmod 4 + 1) 0, partI hue ((tot.fdiv 48).fmod 4 + 1) ((tot.fdiv 192).fmod 4 + 1) 1, partI hue ((tot.fdiv 48).fmod 4 + 1) ((tot.fdiv 192).fmod 4 + 1) 2].take i)) () rfl ?F ?N (fun _ _ _ _ _ _ h => h) .nil ?hz ?hl ?turn ?fin; (case F => assumption); (case N => assumption))
  case hl => exact fun _ _ _ _ _ => by kcf_m
  case hz => exact room_of (Nat.le_of_ble_eq_true rfl)
  case turn =>
    intro I C D c i v ys h tk oI oC m₂ E' hIC hID hCD hv hJ hle hoC hm hap F1 N1
    refine Classical.byContradiction fun ng9 => ?_
    obtain ⟨x, t, k, rfl, wx, wk, hn⟩ := paint_at ok hv
    refine ng9 ?_; clear ng9
    k_steps
    exact elt_end () (by assumption) (by assumption) (by kcf_m) (by kcf_m) (by kcf_m) (by kcf_all) hap (by rw [List.take_add_one, hn]; exact IntsAre.append hJ (.cons _ _ .nil))
  case fin =>
    intro D c ys h tk hJ hle hoff F1 N1
    k_steps
    · exact ret _ _ _ _ _ hJ (by assumption) (news_sub (by assumption) (by kcf_all)) (fun p hp => hoff p (by repeat (first | assumption | refine List.Mem.tail _ ?_)))
    · rename (¬ List.take _ _ = _) => no9
      exact absurd (paint_eq hue ((tot.fdiv 48).fmod 4 + 1) ((tot.fdiv 192).fmod 4 + 1)) no9
theorem paint_okF {dp un : Nat} {gd : Option (List Code)} {cn : Str} {cs : Scope} {a : Addr} {ccd : Value} {cl : List (Str × Addr)} {outer : List Env} {A₀ : Around} {base h₀ : Heap} {L : Addr} {m : Str → Option Value} {s : Shared} {Q E : Value → Shared → Prop} {news : List (Addr × Obj)} (B : Below A₀ base outer h₀) (F : Fr h₀ L s.heap m) (X : (hd.heap_1 w.params).In h₀) (N : News h₀ L s.heap news) (T : Top p loose mean mg mb h₀) (hk : cs.kind = .function) (hd1 : dp + 6 < recursionLimit) (hu : un + 300 < cLine)
   {hue tot : Int} {th tt : Tok} (h0 : 0 ≤ hue) (h1 : hue < 64) (ht0 : 0 ≤ tot) (ht1 : tot < 768)
   (ret : ∀ (t : Addr) ws nn' (h' : Heap) (tk' : Nat), IntsAre ws [partI hue ((tot.fdiv 48).fmod 4 + 1) ((tot.fdiv 192).fmod 4 + 1) 0, partI hue ((tot.fdiv 48).fmod 4 + 1) ((tot.fdiv 192).fmod 4 + 1) 1, partI hue ((tot.fdiv 48).fmod 4 + 1) ((tot.fdiv 192).fmod 4 + 1) 2] → Fr h₀ L h' m → News h₀ L h' ((t, listOf ws.toArray nn') :: news) → (∀ p ∈ news, @Ne Nat p.1 t) → Q (.ref t) {s with heap := h', toks := tk'}) :
   wpAny (model prog w) (ktrTop dp un gd cn cs L a ccd cl outer) (call (.ref 111) [.int hue th, .int tot tt]) Q E s := by
  obtain ⟨a, b, c, ok⟩ := paint_float h0 h1 ht0 ht1
  exact paint_ok B F X N T hk hd1 hu ok h0 h1 ht0 ht1 ret
end
end Cpaint

theorem layCparted1 : True := by
  k_with_none
  k_with "memK" => (first | assumption | exact Sub.of (by assumption) _ (by assumption) | kd_lift)
  k_with "subl" => (first | exact fun _ hp => hp | exact sub_nil | (with_reducible refine sub_keep ?_; k_extra "subl") | (with_reducible refine sub_skip ?_; k_extra "subl"))
  k_with "kcf_all" => (first | exact all_nil | k_extra "subl" | (refine all_cons ?_ ?_; (focus kcf_m); kcf_all))
  k_with "mem" => (exact Sub.of (by assumption) _ (by assumption))
  k_with "is_list" => (first | exact News.isList (by assumption) (by assumption) | exact News.isList (by assumption) (Sub.of (by assumption) _ (by assumption)) | exact News.isList (by assumption) (by kd_lift))
  k_with "all" => (first | assumption | ((rename (∀ p : Addr × Obj, p ∈ _ → p.1 < _) => l9); intro p9 hp9; (have q9 := ltN (l9 p9 hp9)); refine neN ?_; omega) | exact all_nil | (apply all_cons; (k_ne); (k_all)))
  k_with "enter" => ((apply code_def; k_asm; k_asm; k_asm; k_asm; k_asm; exact rfl; exact rfl; (first | exact rfl | assumption); k_is; k_is; ktr_room; (exact BindsTo.of_eq rfl); (exact locs rfl); rotate_left; (exact rfl); (exact rfl); (exact rfl); decide; k_whole); intros; (try dsimp only); (try ((rename (Below _ _ _ _) => B9); k_lift B9; revert B9; intros)); (try k_fold))
  k_with "subscriptTail" => (k_here; (with_reducible show wpAny _ _ (subscriptTail _ _ (Value.ref _) (Value.int _ _)) _ _ _); (with_unfolding_all (apply ll_item; k_asm; k_memK; assumption; (first | kd_idx | (simp only [fdiv2]; omega)); (first | kd_idx | (simp only [fdiv2]; omega)); (first | kd_idx | (simp only [fdiv2]; omega)); (with_unfolding_all rfl); k_whole)); intros; (try (rename_i hr9; (have hw9 := row_len (by assumption) hr9); revert hr9 hw9; intros)))
  k_with "getItem ref int" => (k_here; (with_unfolding_all (apply ll_getItem; k_asm; k_memK; assumption; (first | kd_idx | (simp only [fdiv2]; omega)); (first | kd_idx | (simp only [fdiv2]; omega)); (first | kd_idx | (simp only [fdiv2]; omega)); k_whole)); intros; (try (rename_i hr9; (have hw9 := row_len (by assumption) hr9); revert hr9 hw9; intros)))
  k_with "call builtin:len" => (k_here; (with_reducible show wpAny _ _ (call (Value.builtin "len") [Value.ref _]) _ _ _); k_dflt (apply ll_len; k_asm; (first | assumption | k_memK | kd_lift); assumption; (first | omega | ((try simp only [List.length_append, List.length_cons, List.length_nil, List.length_map, List.length_reverse, rangeKs_length] at *); omega)); k_whole))
  k_with "compareOp Eq ref ref" => (k_here; (with_reducible show wpAny _ _ (compareOp CmpOp.Eq (Value.ref _) (Value.ref _)) _ _ _); (with_unfolding_all (apply eq_intsK; is_list; l_ints; is_list; l_ints; ktr_units; k_whole)))
  k_with "subscriptTail Name Slice ref ref" => (k_here; (with_reducible show wpAny _ _ (subscriptTail _ (PySem.Expr.Slice none none (some _) _) (Value.ref _) (Value.ref _)) _ _ _); k_dflt (apply rev_V; k_asm; k_asm; k_memK; (exact IsPart.int _ _); (with_unfolding_all rfl); kmk_pure; omega; k_whole); intros; (rename_i l9); (try k_lt l9); (try k_sweep); (try (revert l9; intros)))
  k_with "exec Assign" => (k_fold; walk_at "exec Assign")
  k_with "exec Expr" => (k_fold; walk_at "exec Expr")
  k_with "exec If" => (k_fold; walk_at "exec If")
  k_with "exec Return" => (k_fold; walk_at "exec Return")
  k_with "exec AugAssign" => (k_fold; walk_at "exec AugAssign")
  k_with "exec While" => (k_fold; walk_at "exec While")
  k_with "call ref" => (k_here; (with_reducible show wpAny _ _ (call (Value.ref 78) [Value.ref _, Value.int _ _]) _ _ _); (with_reducible refine wpAny_with_toks (Nat.le_refl _) ?_); k_dflt (apply bl_ok; k_asm; k_asm; k_asm; k_asm; k_asm; (first | exact rfl | assumption); ktr_room; ktr_units; (k_memK); (l_ints); (omega); k_whole; intros; (try (rename_i e9; dsimp only at e9; revert e9; intro _)); (try k_sweep); (try dsimp only)))
  k_with "call ref" => (k_here; (with_reducible show wpAny _ _ (call (Value.ref 78) [Value.ref _, Value.int _ _, Value.int _ _, Value.none]) _ _ _); (with_reducible refine wpAny_with_toks (Nat.le_refl _) ?_); k_dflt (apply bl4_ok; k_asm; k_asm; k_asm; k_asm; k_asm; (first | exact rfl | assumption); ktr_room; ktr_units; (k_memK); (l_ints); (omega); k_whole; intros; (try (rename_i e9; dsimp only at e9; revert e9; intro _)); (try k_sweep); (try dsimp only)))
  k_with "call ref" => (k_here; (with_reducible show wpAny _ _ (call (Value.ref 60) [Value.ref _, Value.int _ _]) _ _ _); (with_reducible refine wpAny_with_toks (Nat.le_refl _) ?_); k_dflt (apply br_ok; k_asm; k_asm; k_asm; k_asm; k_asm; (first | exact rfl | assumption); ktr_room; ktr_units; (k_memK); (l_ints); (omega); k_whole; intros; (try (rename_i e9; dsimp only at e9; revert e9; intro _)); (try k_sweep); (try dsimp only)))
  k_with "call ref" => (k_here; (with_reducible show wpAny _ _ (call (Value.ref 60) [Value.ref _, Value.int _ _, Value.int _ _, Value.none]) _ _ _); (with_reducible refine wpAny_with_toks (Nat.le_refl _) ?_); k_dflt (apply br4_ok; k_asm; k_asm; k_asm; k_asm; k_asm; (first | exact rfl | assumption); ktr_room; ktr_units; (k_memK); (l_ints); (omega); k_whole; intros; (try (rename_i e9; dsimp only at e9; revert e9; intro _)); (try k_sweep); (try dsimp only)))
  k_with "call ref" => (k_here; (with_reducible show wpAny _ _ (call (Value.ref 78) [Value.ref _, Value.int _ _, Value.int _ _, Value.none] _) _ _ _); (with_reducible refine wpAny_with_toks (Nat.le_refl _) ?_); k_dflt (apply bl5_ok; k_asm; k_asm; k_asm; k_asm; k_asm; (first | exact rfl | assumption); ktr_room; ktr_units; (k_memK); (assumption); (assumption); (assumption); (omega); k_whole; intros; (try (rename_i e9; dsimp only at e9; revert e9; intro _)); (try k_sweep); (try dsimp only)))
  k_with "call ref" => (k_here; (with_reducible show wpAny _ _ (call (Value.ref 60) [Value.ref _, Value.int _ _, Value.int _ _, Value.none] _) _ _ _); (with_reducible refine wpAny_with_toks (Nat.le_refl _) ?_); k_dflt (apply br5_ok; k_asm; k_asm; k_asm; k_asm; k_asm; (first | exact rfl | assumption); ktr_room; ktr_units; (k_memK); (assumption); (assumption); (assumption); (omega); k_whole; intros; (try (rename_i e9; dsimp only at e9; revert e9; intro _)); (try k_sweep); (try dsimp only)))
  k_with "call ref" => (k_here; (with_reducible show wpAny _ _ (call (Value.ref 69) [Value.ref _, Value.int _ _]) _ _ _); (with_reducible refine wpAny_with_toks (Nat.le_refl _) ?_); k_dflt (apply insl_ok; k_asm; k_asm; k_asm; k_asm; k_asm; (first | exact rfl | assumption); ktr_room; ktr_units; (k_upd); (l_ints); (omega); k_whole; intros; (try (rename_i e9; dsimp only at e9; revert e9; intro _)); (try k_sweep); (try dsimp only)))
  k_with "call ref" => (k_here; (with_reducible show wpAny _ _ (call (Value.ref 51) [Value.ref _, Value.int _ _]) _ _ _); (with_reducible refine wpAny_with_toks (Nat.le_refl _) ?_); k_dflt (apply insr_ok; k_asm; k_asm; k_asm; k_asm; k_asm; (first | exact rfl | assumption); ktr_room; ktr_units; (k_upd); (l_ints); (omega); k_whole; intros; (try (rename_i e9; dsimp only at e9; revert e9; intro _)); (try k_sweep); (try dsimp only)))
  k_with "call ref" => (k_here; (with_reducible show wpAny _ _ (call (Value.ref 69) [Value.ref _, Value.ref _] _) _ _ _); (with_reducible refine wpAny_with_toks (Nat.le_refl _) ?_); k_dflt (apply inslk_ok; k_asm; k_asm; k_asm; k_asm; k_asm; (first | exact rfl | assumption); ktr_room; ktr_units; (k_upd); (assumption); (first | assumption | exact ⟨by kd_subs⟩); (assumption); (assumption); (assumption); (omega); k_whole; intros; (try (rename_i e9; dsimp only at e9; revert e9; intro _)); (try k_sweep); (try dsimp only)))
  k_with "call ref" => (k_here; (with_reducible show wpAny _ _ (call (Value.ref 51) [Value.ref _, Value.ref _] _) _ _ _); (with_reducible refine wpAny_with_toks (Nat.le_refl _) ?_); k_dflt (apply insrk_ok; k_asm; k_asm; k_asm; k_asm; k_asm; (first | exact rfl | assumption); ktr_room; ktr_units; (k_upd); (assumption); (first | assumption | exact ⟨by kd_subs⟩); (assumption); (assumption); (assumption); (omega); k_whole; intros; (try (rename_i e9; dsimp only at e9; revert e9; intro _)); (try k_sweep); (try dsimp only)))
  k_with "call ref" => (k_here; (with_reducible show wpAny _ _ (call (Value.ref 42) [Value.ref _, Value.int _ _]) _ _ _); (with_reducible refine wpAny_with_toks (Nat.le_refl _) ?_); k_dflt (apply cnt_ok; k_asm; k_asm; k_asm; k_asm; k_asm; (first | exact rfl | assumption); ktr_room; ktr_units; (k_memK); (l_ints); (first | assumption | (refine' ToksB.mono ?_ (by assumption); omega)); (omega); (first | assumption | decide | rfl); k_whole; intros; (try (rename_i e9; dsimp only at e9; revert e9; intro _)); (try k_sweep); (try dsimp only)))
  k_with "call ref" => (k_here; (with_reducible show wpAny _ _ (call (Value.ref 42) [Value.ref _, Value.ref _]) _ _ _); (with_reducible refine wpAny_with_toks (Nat.le_refl _) ?_); k_dflt (apply cntl_ok; k_asm; k_asm; k_asm; k_asm; k_asm; (first | exact rfl | assumption); ktr_room; ktr_units; (k_memK); (first | assumption | exact LLAre.mono (by kd_subs) (by assumption)); (k_memK); (l_ints); k_whole; intros; (try (rename_i e9; dsimp only at e9; revert e9; intro _)); (try k_sweep); (try dsimp only)))
  k_with "call ref" => (k_here; (with_reducible show wpAny _ _ (call (Value.ref 28) [Value.int _ _, Value.int _ _]) _ _ _); (with_reducible refine wpAny_with_toks (Nat.le_refl _) ?_); k_dflt (apply mul_ok; k_asm; k_asm; k_asm; k_asm; k_asm; (first | exact rfl | assumption); ktr_room; ktr_units; (omega); k_whole; intros; (try (rename_i a9 b9 c9 d9 e9; (try dsimp only at e9); (try dsimp only at a9); revert a9 b9 c9 d9 e9; intros)); (try k_sweep); (try dsimp only)))
  k_with "call ref" => (k_here; (with_reducible show wpAny _ _ (call (Value.ref 21) [Value.int _ _, Value.int _ _]) _ _ _); (with_reducible refine wpAny_with_toks (Nat.le_refl _) ?_); k_dflt (apply add_ok; k_asm; k_asm; k_asm; k_asm; k_asm; (first | exact rfl | assumption); ktr_room; ktr_units; k_whole; intros; (try (rename_i a9 b9 c9 d9 e9; (try dsimp only at e9); (try dsimp only at a9); revert a9 b9 c9 d9 e9; intros)); (try k_sweep); (try dsimp only)))
  k_with "call ref" => (k_here; (with_reducible show wpAny _ _ (call (Value.ref 35) [Value.int _ _, Value.int _ _]) _ _ _); (with_reducible refine wpAny_with_toks (Nat.le_refl _) ?_); k_dflt (apply sub_ok; k_asm; k_asm; k_asm; k_asm; k_asm; (first | exact rfl | assumption); ktr_room; ktr_units; k_whole; intros; (try (rename_i a9 b9 c9 d9 e9; (try dsimp only at e9); (try dsimp only at a9); revert a9 b9 c9 d9 e9; intros)); (try k_sweep); (try dsimp only)))
  k_with "call ref" => (k_here; (with_reducible show wpAny _ _ (call (Value.ref 85) [Value.float _ _, Value.float _ _, Value.float _ _]) _ _ _); (with_reducible refine wpAny_with_toks (Nat.le_refl _) ?_); k_dflt (apply rgb_okE; k_asm; k_asm; k_asm; k_asm; k_asm; (first | exact rfl | assumption); ktr_room; ktr_units; (assumption); (assumption); k_whole; intros; (try (rename_i e9; dsimp only at e9; revert e9; intro _)); (try k_sweep); (try dsimp only)))
  k_with "call ref" => (k_here; (with_reducible show wpAny _ _ (call (Value.ref 106) [Value.float _ _]) _ _ _); (with_reducible refine wpAny_with_toks (Nat.le_refl _) ?_); k_dflt (apply whole_okE; k_asm; k_asm; k_asm; k_asm; k_asm; (first | exact rfl | assumption); ktr_room; ktr_units; (assumption); (assumption); k_whole; intros; (try (rename_i e9; dsimp only at e9; revert e9; intro _)); (try k_sweep); (try dsimp only)))
  k_with "call ref" => (k_here; (with_reducible show wpAny _ _ (call (Value.ref 123) [Value.ref _, Value.int _ _]) _ _ _); (with_reducible refine wpAny_with_toks (Nat.le_refl _) ?_); k_dflt (apply told_ok; k_asm; k_asm; k_asm; k_asm; k_asm; (first | exact rfl | assumption); ktr_room; ktr_units; (k_memK); (first | assumption | exact LLAre.mono (by kd_subs) (by assumption)); (assumption); (((try dsimp only); omega)); (assumption); (assumption); k_whole; intros; rename_i h9 t9; (try dsimp only at t9); (try k_sweep); (try dsimp only)); (try k_lt h9); (try (revert t9; intros)); (try (revert h9; intros)))
  trivial
section Cparted
theorem layCparted2 : True := by
  k_with "exec For Name Name cons nil" => (k_here; k_dflt (refine wpAny_For ?_))
  k_with "exec For Name Call cons nil" => (k_here; k_dflt (refine wpAny_For ?_))
  k_with "exec For Name Subscript cons nil" => (k_here; k_dflt (refine wpAny_For ?_))
  k_with "exec For" => (k_here; k_dflt (refine wpAny_For ?_))
  k_with "execs cons Assign cons" => ((with_reducible refine wpAny_execs_cons ?_); (try dsimp only))
  k_with "last pyIter ref" => (refine Hold.mk ?_)
  k_with "call builtin:list.append" => (k_here; (with_reducible show wpAny _ _ (call (Value.builtin _) [Value.ref _, _]) _ _ _); k_dflt (apply append_V; k_asm; k_asm; k_upd; (omega); k_whole); intros; (try k_sweep))
  k_with "execs cons" => (k_here; (with_reducible show wpAny _ _ _ _ _ (Shared.mk _ _ _ (_ + _) _)); (refine gen_toks ?_); intros; (try (rename_i e9; simp only [List.length_cons, List.length_nil, Nat.zero_add] at e9; revert e9; intro _)))
  k_with "execs nil" => (k_here; (with_reducible show wpAny _ _ _ _ _ (Shared.mk _ _ _ (_ + _) _)); (refine gen_toks ?_); intros; (try (rename_i e9; simp only [List.length_cons, List.length_nil, Nat.zero_add] at e9; revert e9; intro _)))
  trivial
/-- a turn of _law_parted's second loop -/
noncomputable def partedStep (row : List (List Int)) (most : Int) (c : List Int × List Int × List Int) (i : Nat) : List Int × List Int × List Int :=
  if (row.getD i []).getD 0 0 = 0 then (c.1, c.2.1 ++ [(row.getD i []).getD 1 0 - i + (most + c.2.1.length)], c.2.2)
  else (if (row.getD i []).getD 0 0 = 1 then insL c.1 (most - c.2.2.length) else c.1, c.2.1, c.2.2 ++ [(row.getD i []).getD 1 0 - i + c.2.2.length])
noncomputable def partedMost (row : List (List Int)) : Int := (row.length : Int) - ((row.map fun r => r.getD 0 0).count 0 : Nat)
noncomputable def partedMid (row : List (List Int)) : List Int × List Int × List Int := (List.range row.length).foldl (partedStep row (partedMost row)) ([], [], [])
noncomputable def partedEnd (most : Int) (small : List Int) (o : List Int) (i : Nat) : List Int := o.set i (o.getD i 0 - ((small.length : Int) - (bsl small (most - i) 0 small.length : Nat)))
noncomputable def partedRow (qs : List (List Int)) : List (List Int) := qs.foldl insRK []
noncomputable def partedOf (row : List (List Int)) : List Int × List Int :=
  ((partedMid row).1 ++ (partedMid row).2.1, (List.range (partedMost row).toNat).foldl (partedEnd (partedMost row) (partedMid row).1) (partedMid row).2.2)
structure MidSt where
  sv : List Value
  sn : Nat
  lv : List Value
  ln : Nat
  ov : List Value
  on : Nat
noncomputable def partedMidAt (row : List (List Int)) (i : Nat) : List Int × List Int × List Int := (List.range i).foldl (partedStep row (partedMost row)) ([], [], [])
theorem partedMidAt_succ (row : List (List Int)) (i : Nat) : partedMidAt row (i + 1) = partedStep row (partedMost row) (partedMidAt row i) i := by
  unfold partedMidAt; rw [List.range_succ, List.foldl_append]; rfl
theorem partedMidAt_len (row : List (List Int)) : ∀ i, (partedMidAt row i).1.length ≤ (partedMidAt row i).2.2.length ∧ (partedMidAt row i).2.1.length + (partedMidAt row i).2.2.length = i
  | 0 => ⟨Nat.le_refl _, rfl⟩
  | i + 1 => by
    have ih := partedMidAt_len row i
    rw [partedMidAt_succ]
    unfold partedStep
    split
    · simp only [List.length_append, List.length_cons, List.length_nil]; omega
    · split
      · simp only [List.length_append, List.length_cons, List.length_nil, insL_length]; omega
      · simp only [List.length_append, List.length_cons, List.length_nil]; omega
theorem partedMidAt_cnt (row : List (List Int)) : ∀ {i}, i ≤ row.length → (partedMidAt row i).2.1.length = ((row.take i).map fun r => r.getD 0 0).count 0
  | 0, _ => rfl
  | i + 1, h => by
    have ih := partedMidAt_cnt row (i := i) (by omega)
    have e : row[i]? = some (row.getD i []) := by rw [List.getD_eq_getElem?_getD, List.getElem?_eq_getElem (by omega)]; rfl
    rw [partedMidAt_succ, List.take_add_one, e]
    simp only [Option.toList, List.map_append, List.count_append, List.map_cons, List.map_nil]
    unfold partedStep
    split
    · rename_i h0
      rw [h0, List.length_append, ih]; rfl
    · rename_i h0
      have e9 : List.count 0 [(row.getD i []).getD 0 0] = 0 := List.count_eq_zero.mpr (fun hb => h0 (List.mem_singleton.mp hb).symm)
      rw [e9]; split <;> exact ih
theorem partedEnd_len (most : Int) (small : List Int) (o : List Int) : ∀ is : List Nat, (is.foldl (partedEnd most small) o).length = o.length := by
  intro is
  induction is generalizing o with
  | nil => rfl
  | cons i is ih => rw [List.foldl_cons, ih, partedEnd, List.length_set]
structure EndSt where
  ov : List Value
  on : Nat
structure RowSt where
  vs : List Value
  nn : Nat
  lits : List (Addr × Obj)
theorem layCparted3 : True := by
  k_with "call ref" => (k_here; (with_reducible show wpAny _ _ (call (Value.ref 51) [Value.ref _, Value.ref _] _) _ _ _); (with_reducible refine wpAny_with_toks (Nat.le_refl _) ?_); k_dflt (apply insrkN_ok; k_asm; k_asm; k_asm; k_asm; k_asm; (first | exact rfl | assumption); ktr_room; ktr_units; (k_upd); ((refine' LLAre.mono ?_ (by assumption); kcf_all)); (exact LIs.mk (by kcf_m) (ints_pair (by assumption))); (assumption); (assumption); (omega); k_whole; intros; (try (rename_i e9; dsimp only at e9; revert e9; intro _)); (try k_sweep); (try dsimp only)))
  k_with "subscriptTail Name Constant ref int" => (k_here; (with_reducible show wpAny _ _ (subscriptTail _ _ (Value.ref _) (Value.int _ _)) _ _ _); (with_unfolding_all (apply lit_item; k_asm; (focus kcf_m); decide; decide; (exact rfl); (with_unfolding_all rfl); k_whole)))
  k_with "eval ListComp" => (k_here; (refine Hold.mk ?_))
  trivial
section
variable {prog : Program} {w : World} {p : Program} {loose : List Str} {mean : ExcName → Option Value} {mg mb : Str → Option Value}
theorem parted_ok {dp un : Nat} {gd : Option (List Code)} {cn : Str} {cs : Scope} {a : Addr} {ccd : Value} {cl : List (Str × Addr)} {outer : List Env} {A₀ : Around} {base h₀ : Heap} {L : Addr} {m : Str → Option Value} {s : Shared} {Q E : Value → Shared → Prop} {news : List (Addr × Obj)} (B : Below A₀ base outer h₀) (F : Fr h₀ L s.heap m) (X : (hd.heap_1 w.params).In h₀) (N : News h₀ L s.heap news) (T : Top p loose mean mg mb h₀) (hk : cs.kind = .function) (hd1 : dp + 12 < recursionLimit) (hu : un + 400 < cLine)
   {l : Addr} {vs : List Value} {qs : List (List Int)} {tot : Int} {tt : Tok} {nn : Nat} {cst : List (Addr × Obj)} (hl : (l, listOf vs.toArray nn) ∈ news) (hi : LLAre cst vs (qs.map (lightI tot))) (hS : Sub cst news) (okq : ∀ q ∈ qs, PairOk q) (hlen : qs.length ≤ 30) (h1 : 1 ≤ s.toks) (ht0 : 0 ≤ tot) (ht1 : tot < 768)
   (ret : ∀ (t a₁ a₂ : Addr) ws₁ ws₂ n₁ n₂ (h' : Heap) (tk' : Nat), IntsAre ws₁ (partedOf (partedRow qs)).1 → IntsAre ws₂ (partedOf (partedRow qs)).2 → Fr h₀ L h' m → News h₀ L h' ((t, tupOf [.ref a₁, .ref a₂]) :: (a₁, listOf ws₁.toArray n₁) :: (a₂, listOf ws₂.toArray n₂) :: news) → Q (.ref t) {s with heap := h', toks := tk'}) :
   wpAny (model prog w) (ktrTop dp un gd cn cs L a ccd cl outer) (call (.ref 147) [.ref l, .int tot tt]) Q E s := by
  refine wpAny_call ?_
  k_dflt (refine' code_def (binds := [(Str.ofString "lights", Value.ref l), (Str.ofString "total", Value.int tot tt)]) ?k1 ?k2 ?k3 ?k4 ?k5 ?kA ?kF ?kK ?k6 ?k7 ?k8 ?k9 ?kB ?_ ?c2 ?c3 ?c4 ?c5; (case kA => exact rfl); (case kF => exact rfl); (case kK => assumption); (case k1 => k_asm); (case k2 => k_asm); (case k3 => k_asm); (case k4 => k_asm); (case k5 => k_asm); (case k6 => k_is); (case k7 => k_is); (case k8 => ktr_room); (case k9 => first | exact BindsTo.of_eq rfl | exact hbd _ _ _ _ rfl | (refine' kp_binds ?kx ?ke; (case kx => k_in); (case ke => exact fun _ => rfl))); (case c5 => decide); (case kB => exact locs rfl); (case c2 => exact rfl); (case c3 => exact rfl); (case c4 => exact rfl); k_whole; intro g' L' h' FG' F' N' B' X' T'; (try dsimp only); (try k_lift B'); (try k_fold))
  k_steps
  rename_i row _ lr h9 F9 N9 tk9 hk9
  (try unfold Hold)
  (with_unfolding_all refine' for_list (σ := RowSt) (fun c => (row, listOf c.vs.toArray c.nn) :: (c.lits ++ news)) (fun c => []) [Str.ofString "light"] (fun i tk c => LLT c.lits tk c.vs (partedRow (qs.take i)) ∧ (∀ r ∈ partedRow (qs.take i), r.length = 2) ∧ (∀ p ∈ c.lits ++ news, p.1 ≠ row) ∧ 1 ≤ tk) ⟨[], 0, []⟩ rfl (fun _ _ _ _ => List.Mem.tail _ (List.mem_append_right _ hl)) (fun _ _ _ _ le h => ⟨h.1.mono (fun _ h => h) le, h.2.1, h.2.2.1, Nat.le_trans h.2.2.2 le⟩) ?Fa ?Na ?hka ?hja ?turna ?donea ?hEa)
  case Fa => assumption
  case Na => exact news_sub N9 (by kcf_all)
  case hka => kst_all
  case hja => exact ⟨.nil, (fun r hr => nomatch hr), fun p hp => Nat.ne_of_lt (lr p hp), by (try dsimp only); omega⟩
  case hEa => passes_own
  case turna =>
--[[
    rintro ⟨ws, nw, lits⟩ i v u h tk I oI hv hJ9 hle hoff F1 N1
    refine Classical.byContradiction fun ng9 => ?_
    obtain ⟨hA, hW, hC, hT⟩ := hJ9
    obtain ⟨a', ws', n', r, rfl, hm', hn, hi'⟩ := hi.at hv
    obtain ⟨q, hq, rfl⟩ := row_of_map hn
    refine ng9 ?_; clear ng9
    have okq' := okq q (List.mem_of_getElem? hq)
    have hq2 := okq'.two
    have hL := hA.ll
    have hm9 := hS.of _ hm'
    have hrl : (partedRow (qs.take i)).length ≤ 900 := by rw [partedRow, foldRK_length, List.length_take]; (try simp only [List.length_nil]); omega
    have hIr : @Ne Nat row I := hoff _ (.head _)
    dsimp only at hA hW hC hL hoff F1 N1
    dsimp only [kstB] at F1
    (try dsimp only)
    (try k_fold)
    k_steps
    refine' turn_end (RowSt.mk _ _ ((_, _) :: lits)) (by assumption) (by assumption) ?tn ?tr ?tI ?ts ?to ?tj
    case ts => exact (all_cons (by kcf_m) (List.forall_mem_append.mpr ⟨(all_cons (by kcf_m) (by kcf_all)), by kcf_all⟩))
    case tn => exact fun p hp => nomatch hp
    case tr => ksw_same
    case tI => kcf_m
    case to => exact (all_cons hIr (List.forall_mem_append.mpr ⟨(all_cons (by k_ne) (fun p hp => hoff p (.tail _ (List.mem_append_left _ hp)))), fun p hp => hoff p (.tail _ (List.mem_append_right _ hp))⟩))
    case tj =>
      have ep : partedRow (qs.take (i + 1)) = insRK (partedRow (qs.take i)) q := foldl_take_one _ _ hq
      dsimp only
      rw [ep]
      refine ⟨LLT.ins (hA.mono (fun p hp => .tail _ hp) (by omega)) (.head _) (ints_pair hq2) (ToksB.cons (tok_ok (by assumption) (by omega)) (ToksB.cons (tok_ok (by assumption) (by omega)) ToksB.nil)) _, by assumption, fun p hp => ?_, by omega⟩
      rcases List.mem_cons.mp hp with rfl | hp
      · k_ne
      · exact hC p hp
--]]
  case donea =>
    rintro ⟨ws, nw, lits⟩ u h tk hJ9 hle F1 N1
    refine Classical.byContradiction fun ng9 => ?_
    obtain ⟨hA, hW, hC, hT⟩ := hJ9
    refine ng9 ?_; clear ng9
    dsimp only [kstB] at F1
    (try dsimp only)
    dsimp only at hA hW hC N1 hle
    rw [hi.length, List.length_map, List.take_length] at hA hW
    have hL := hA.ll
    have hrl : (partedRow qs).length = qs.length := by rw [partedRow, foldRK_length]; simp
    k_steps
    unfold Hold
    k_dflt (refine listComp_V (by k_asm) (by rfl) (by decide) (by rfl) (by decide) (by rfl) ?_)
    k_steps
    k_dflt (refine' compIn_list (σ := Unit) (fun _ => _) (fun i tk ys _ => IntsAre ys (((partedRow qs).map fun r => r.getD 0 0).take i) ∧ ToksB tk ys) () rfl ?Fb ?Nb (fun _ _ _ _ _ le h => ⟨h.1, h.2.mono le⟩) ⟨.nil, ToksB.nil⟩ ?hz ?hl ?turnb ?fin; (case Fb => assumption); (case Nb => assumption))
    case hl => exact fun _ _ _ _ _ => by kcf_m
    case hz => exact room_of (by rw [hL.length]; omega)
    case turnb =>
      intro I C D c i v ys h tk oI oC m₂ E' hIC hID hCD hv hJ hle hoC hm hap F1 N1
      refine Classical.byContradiction fun ng9 => ?_
      obtain ⟨a', ws', n', r, rfl, hm', hn, hi', ht'⟩ := hA.at hv
      obtain ⟨x, y, rfl⟩ := two_of (hW _ (List.mem_of_getElem? hn))
      obtain ⟨t1, t2, rfl⟩ := ints_two hi'
      refine ng9 ?_; clear ng9
      dsimp only at hle
      clear hi'
      k_steps
      exact elt_end () (by assumption) (by assumption) (by kcf_m) (by kcf_m) (by kcf_m) (by kcf_all) hap ⟨by rw [List.take_add_one, List.getElem?_map, hn]; exact IntsAre.append hJ.1 (.cons _ _ .nil), ToksB.append (hJ.2.mono (by (try dsimp only); omega)) (ToksB.cons ((ht' _ (.head _)).mono (by (try dsimp only); omega)) ToksB.nil)⟩
    case fin =>
      intro D c ys h tk hJ hle hoff F1 N1
      have N2 : News g' L' h ((D, listOf ys.toArray ys.length) :: (row, listOf ws.toArray nw) :: (lits ++ news)) := N1
      clear N1
      have hI9 : IntsAre ys ((partedRow qs).map fun r => r.getD 0 0) := by
        have h9 := hJ.1
        rw [List.take_of_length_le (by rw [List.length_map, hL.length]; exact Nat.le_refl _)] at h9
        exact h9
      have hT9 := hJ.2
      dsimp only at hle
      k_steps
      rename_i k9 t9 _ tk9' hk9' tl9 _ sm _ l1a la _ l1b ot _ l1c _ _ l1d _ _ _ _ F8 N8 _ _ h8 _ _ _ _ hR F9 N9 up9
      subst hk9'
      obtain ⟨mo, hmo⟩ : ∃ mo : Nat, ((partedRow qs).length : Int) - ((List.count 0 (List.map (fun r => r.getD 0 0) (partedRow qs)) : Nat) : Int) = (mo : Int) := ⟨(((partedRow qs).length : Int) - ((List.count 0 (List.map (fun r => r.getD 0 0) (partedRow qs)) : Nat) : Int)).toNat, by have h9 := (List.count_le_length (a := (0 : Int)) (l := List.map (fun r : List Int => r.getD 0 0) (partedRow qs))); rw [List.length_map] at h9; omega⟩
      have hmo' : partedMost (partedRow qs) = (mo : Int) := hmo
      have hmol : (partedMidAt (partedRow qs) (partedRow qs).length).2.2.length = mo := by have h9 := partedMidAt_cnt (partedRow qs) (Nat.le_refl _); rw [List.take_length] at h9; have h8 := partedMidAt_len (partedRow qs) (partedRow qs).length; omega
      rw [hmo] at F9
      clear F8 N8
      unfold Hold
      (with_unfolding_all refine' for_range (σ := MidSt) (n := (partedRow qs).length) (fun c => (ot, listOf c.ov.toArray c.on) :: (la, listOf c.lv.toArray c.ln) :: (sm, listOf c.sv.toArray c.sn) :: (row, listOf ws.toArray nw) :: (lits ++ news)) (fun c => []) [Str.ofString "place", Str.ofString "worth"] (fun i tk c => IntsAre c.sv (partedMidAt (partedRow qs) i).1 ∧ IntsAre c.lv (partedMidAt (partedRow qs) i).2.1 ∧ IntsAre c.ov (partedMidAt (partedRow qs) i).2.2) ⟨[], 0, [], 0, [], 0⟩ rfl hR ?smallc ?sizec (fun _ _ _ _ _ h => h) ?Fc ?Nc ?hkc ?hjc ?turnc ?donec ?hEc)
      case Fc => assumption
      case Nc => exact news_sub (by assumption) (by kcf_all)
      case hkc => kst_all
      case hjc => exact ⟨.nil, .nil, .nil⟩
      case hEc => passes_own
      case smallc => exact small_one (by omega) (by omega) (by omega) (by omega)
      case sizec => (rw [rangeSize_nat]; simp)
      case turnc =>
--[[
        rintro ⟨sv, sn, lv, ln, ov, on⟩ i t u h tk I oI hv hJ9 hle hoff F1 N1
        refine Classical.byContradiction fun ng9 => ?_
        obtain ⟨hA1, hB1, hC1⟩ := hJ9
        refine ng9 ?_; clear ng9
        have hpm := partedMidAt_succ (partedRow qs) i
        have hpl := partedMidAt_len (partedRow qs) i
        have hsl := hA1.length
        have hll := hB1.length
        have hol := hC1.length
        dsimp only at hA1 hB1 hC1 hoff F1 N1
        dsimp only [kstB] at F1
        have hIs : @Ne Nat sm I := hoff _ (.tail _ (.tail _ (.head _)))
        have hIl : @Ne Nat la I := hoff _ (.tail _ (.head _))
        have hIo : @Ne Nat ot I := hoff _ (.head _)
        (try dsimp only)
        (try k_fold)
        rw [Int.zero_add]
        k_steps
        · rename_i h9' F9' N9'
          (try simp only [List.push_toArray] at N9')
          refine' turn_end (MidSt.mk _ _ _ _ _ _) (by assumption) (by assumption) ?tn ?tr ?tI ?ts ?to ?tj
          case ts => kcf_all
          case tn => exact fun p hp => nomatch hp
          case tr => ksw_same
          case tI => kcf_m
          case to => exact (all_cons hIo ((all_cons hIl ((all_cons hIs (fun p hp => hoff p (.tail _ (.tail _ (.tail _ hp)))))))))
          case tj => (dsimp only; rw [hpm, partedStep, if_pos (by assumption), hmo']; exact ⟨hA1, IntsAre.append hB1 (.cons _ _ .nil), hC1⟩)
        · rename_i h9' F9' N9'
          (try simp only [List.push_toArray] at N9')
          refine' turn_end (MidSt.mk _ _ _ _ _ _) (by assumption) (by assumption) ?tn ?tr ?tI ?ts ?to ?tj
          case ts => kcf_all
          case tn => exact fun p hp => nomatch hp
          case tr => ksw_same
          case tI => kcf_m
          case to => exact (all_cons hIo ((all_cons hIl ((all_cons hIs (fun p hp => hoff p (.tail _ (.tail _ (.tail _ hp)))))))))
          case tj => (dsimp only; rw [hpm, partedStep, if_neg (by assumption), if_pos (by assumption), hmo']; exact ⟨by assumption, hB1, IntsAre.append hC1 (.cons _ _ .nil)⟩)
        · rename_i h9' F9' N9'
          (try simp only [List.push_toArray] at N9')
          refine' turn_end (MidSt.mk _ _ _ _ _ _) (by assumption) (by assumption) ?tn ?tr ?tI ?ts ?to ?tj
          case ts => kcf_all
          case tn => exact fun p hp => nomatch hp
          case tr => ksw_same
          case tI => kcf_m
          case to => exact (all_cons hIo ((all_cons hIl ((all_cons hIs (fun p hp => hoff p (.tail _ (.tail _ (.tail _ hp)))))))))
          case tj => (dsimp only; rw [hpm, partedStep, if_neg (by assumption), if_neg (by assumption)]; exact ⟨hA1, hB1, IntsAre.append hC1 (.cons _ _ .nil)⟩)
--]]
      case donec =>
        rintro ⟨sv, sn, lv, ln, ov, on⟩ u h tk hJ9 hle F1 N1
        refine Classical.byContradiction fun ng9 => ?_
        obtain ⟨hA1, hB1, hC1⟩ := hJ9
        refine ng9 ?_; clear ng9
        have hpl := partedMidAt_len (partedRow qs) (partedRow qs).length
        have hsl := hA1.length
        have hll := hB1.length
        have hol := hC1.length
        dsimp only at hA1 hB1 hC1 hsl hll hol F1 N1
        dsimp only [kstB] at F1
        (try dsimp only)
        (try k_fold)
        k_steps
        rename_i h8' _ _ _ _ hR2 F92 N92 up92
        unfold Hold
        (with_unfolding_all refine' for_range (σ := EndSt) (n := mo) (fun c => (ot, listOf c.ov.toArray c.on) :: (la, listOf lv.toArray ln) :: (sm, listOf sv.toArray sn) :: (row, listOf ws.toArray nw) :: (lits ++ news)) (fun c => []) [Str.ofString "place"] (fun i tk c => IntsAre c.ov ((List.range i).foldl (partedEnd mo (partedMidAt (partedRow qs) (partedRow qs).length).1) (partedMidAt (partedRow qs) (partedRow qs).length).2.2)) ⟨ov, on⟩ rfl hR2 ?smalld ?sized (fun _ _ _ _ _ h => h) ?Fd ?Nd ?hkd ?hjd ?turnd ?doned ?hEd)
        case Fd => assumption
        case Nd => exact news_sub (by assumption) (by kcf_all)
        case hkd => kst_all
        case hjd => exact hC1
        case hEd => passes_own
        case smalld => exact small_one (by omega) (by omega) (by omega) (by omega)
        case sized => (rw [rangeSize_nat]; simp)
        case turnd =>
          rintro ⟨ov, on⟩ i t u h tk I oI hv hC1 hle hoff F1 N1
          have hol := hC1.length
          have hel := (partedEnd_len (mo : Int) (partedMidAt (partedRow qs) (partedRow qs).length).1 (partedMidAt (partedRow qs) (partedRow qs).length).2.2 (List.range i)).trans hmol
          dsimp only at hC1 hoff hol F1 N1
          dsimp only [kstB] at F1
          have hIo : @Ne Nat ot I := hoff _ (.head _)
          (try dsimp only)
          (try k_fold)
          rw [Int.zero_add]
          k_steps
          rename (_ = ((bsl _ _ _ _ : Nat) : Int)) => hk5
          subst hk5
          refine' turn_end (EndSt.mk _ _) (by assumption) (by assumption) ?tn ?tr ?tI ?ts ?to ?tj
          case ts => kcf_all
          case tn => exact fun p hp => nomatch hp
          case tr => ksw_same
          case tI => kcf_m
          case to => exact (all_cons hIo (fun p hp => hoff p (.tail _ hp)))
          case tj => (dsimp only; rw [List.range_succ, List.foldl_append]; assumption)
        case doned =>
          rintro ⟨ov, on⟩ u h tk hC1 hle F1 N1
          have hol := hC1.length
          dsimp only at hC1 hol F1 N1
          dsimp only [kstB] at F1
          (try dsimp only)
          (try k_fold)
          have eP : (partedOf (partedRow qs)).2 = List.foldl (partedEnd (mo : Int) (partedMidAt (partedRow qs) (partedRow qs).length).1) (partedMidAt (partedRow qs) (partedRow qs).length).2.2 (List.range mo) := by
            show List.foldl (partedEnd (partedMost (partedRow qs)) (partedMidAt (partedRow qs) (partedRow qs).length).1) (partedMidAt (partedRow qs) (partedRow qs).length).2.2 (List.range (partedMost (partedRow qs)).toNat) = _
            rw [hmo']; rfl
          rw [eP] at ret
          k_steps
          (rename News h₀ _ _ (_ :: _ :: _ :: _) => kN9)
          exact ret _ _ _ _ _ _ _ _ _ (by assumption) hC1 (by assumption) (news_sub kN9 ((all_cons (.head _) ((all_cons (.tail _ (.head _)) ((all_cons (.tail _ (.tail _ (.head _))) (by kcf_all))))))))
end
--LINES
end Cparted

theorem layCjoined1 : True := by
  k_with_none
  k_with "memK" => (first | assumption | exact Sub.of (by assumption) _ (by assumption) | kd_lift)
  k_with "subl" => (first | exact fun _ hp => hp | exact sub_nil | (with_reducible refine sub_keep ?_; k_extra "subl") | (with_reducible refine sub_skip ?_; k_extra "subl"))
  k_with "kcf_all" => (first | exact all_nil | k_extra "subl" | (refine all_cons ?_ ?_; (focus kcf_m); kcf_all))
  k_with "mem" => (exact Sub.of (by assumption) _ (by assumption))
  k_with "is_list" => (first | exact News.isList (by assumption) (by assumption) | exact News.isList (by assumption) (Sub.of (by assumption) _ (by assumption)) | exact News.isList (by assumption) (by kd_lift))
  k_with "all" => (first | assumption | ((rename (∀ p : Addr × Obj, p ∈ _ → p.1 < _) => l9); intro p9 hp9; (have q9 := ltN (l9 p9 hp9)); refine neN ?_; omega) | exact all_nil | (apply all_cons; (k_ne); (k_all)))
  k_with "enter" => ((apply code_def; k_asm; k_asm; k_asm; k_asm; k_asm; exact rfl; exact rfl; (first | exact rfl | assumption); k_is; k_is; ktr_room; (exact BindsTo.of_eq rfl); (exact locs rfl); rotate_left; (exact rfl); (exact rfl); (exact rfl); decide; k_whole); intros; (try dsimp only); (try ((rename (Below _ _ _ _) => B9); k_lift B9; revert B9; intros)); (try k_fold))
  k_with "subscriptTail" => (k_here; (with_reducible show wpAny _ _ (subscriptTail _ _ (Value.ref _) (Value.int _ _)) _ _ _); (with_unfolding_all (apply ll_item; k_asm; k_memK; assumption; (first | kd_idx | (simp only [fdiv2]; omega)); (first | kd_idx | (simp only [fdiv2]; omega)); (first | kd_idx | (simp only [fdiv2]; omega)); (with_unfolding_all rfl); k_whole)); intros; (try (rename_i hr9; (have hw9 := row_len (by assumption) hr9); revert hr9 hw9; intros)))
  k_with "getItem ref int" => (k_here; (with_unfolding_all (apply ll_getItem; k_asm; k_memK; assumption; (first | kd_idx | (simp only [fdiv2]; omega)); (first | kd_idx | (simp only [fdiv2]; omega)); (first | kd_idx | (simp only [fdiv2]; omega)); k_whole)); intros; (try (rename_i hr9; (have hw9 := row_len (by assumption) hr9); revert hr9 hw9; intros)))
  k_with "call builtin:len" => (k_here; (with_reducible show wpAny _ _ (call (Value.builtin "len") [Value.ref _]) _ _ _); k_dflt (apply ll_len; k_asm; (first | assumption | k_memK | kd_lift); assumption; (first | omega | ((try simp only [List.length_append, List.length_cons, List.length_nil, List.length_map, List.length_reverse, rangeKs_length] at *); omega)); k_whole))
  k_with "compareOp Eq ref ref" => (k_here; (with_reducible show wpAny _ _ (compareOp CmpOp.Eq (Value.ref _) (Value.ref _)) _ _ _); (with_unfolding_all (apply eq_intsK; is_list; l_ints; is_list; l_ints; ktr_units; k_whole)))
  k_with "subscriptTail Name Slice ref ref" => (k_here; (with_reducible show wpAny _ _ (subscriptTail _ (PySem.Expr.Slice none none (some _) _) (Value.ref _) (Value.ref _)) _ _ _); k_dflt (apply rev_V; k_asm; k_asm; k_memK; (exact IsPart.int _ _); (with_unfolding_all rfl); kmk_pure; omega; k_whole); intros; (rename_i l9); (try k_lt l9); (try k_sweep); (try (revert l9; intros)))
  k_with "call ref" => (k_here; (with_reducible show wpAny _ _ (call (Value.ref 78) [Value.ref _, Value.int _ _]) _ _ _); (with_reducible refine wpAny_with_toks (Nat.le_refl _) ?_); k_dflt (apply bl_ok; k_asm; k_asm; k_asm; k_asm; k_asm; (first | exact rfl | assumption); ktr_room; ktr_units; (k_memK); (l_ints); (omega); k_whole; intros; (try (rename_i e9; dsimp only at e9; revert e9; intro _)); (try k_sweep); (try dsimp only)))
  k_with "call ref" => (k_here; (with_reducible show wpAny _ _ (call (Value.ref 78) [Value.ref _, Value.int _ _, Value.int _ _, Value.none]) _ _ _); (with_reducible refine wpAny_with_toks (Nat.le_refl _) ?_); k_dflt (apply bl4_ok; k_asm; k_asm; k_asm; k_asm; k_asm; (first | exact rfl | assumption); ktr_room; ktr_units; (k_memK); (l_ints); (omega); k_whole; intros; (try (rename_i e9; dsimp only at e9; revert e9; intro _)); (try k_sweep); (try dsimp only)))
  k_with "call ref" => (k_here; (with_reducible show wpAny _ _ (call (Value.ref 60) [Value.ref _, Value.int _ _]) _ _ _); (with_reducible refine wpAny_with_toks (Nat.le_refl _) ?_); k_dflt (apply br_ok; k_asm; k_asm; k_asm; k_asm; k_asm; (first | exact rfl | assumption); ktr_room; ktr_units; (k_memK); (l_ints); (omega); k_whole; intros; (try (rename_i e9; dsimp only at e9; revert e9; intro _)); (try k_sweep); (try dsimp only)))
  k_with "call ref" => (k_here; (with_reducible show wpAny _ _ (call (Value.ref 60) [Value.ref _, Value.int _ _, Value.int _ _, Value.none]) _ _ _); (with_reducible refine wpAny_with_toks (Nat.le_refl _) ?_); k_dflt (apply br4_ok; k_asm; k_asm; k_asm; k_asm; k_asm; (first | exact rfl | assumption); ktr_room; ktr_units; (k_memK); (l_ints); (omega); k_whole; intros; (try (rename_i e9; dsimp only at e9; revert e9; intro _)); (try k_sweep); (try dsimp only)))
  k_with "call ref" => (k_here; (with_reducible show wpAny _ _ (call (Value.ref 78) [Value.ref _, Value.int _ _, Value.int _ _, Value.none] _) _ _ _); (with_reducible refine wpAny_with_toks (Nat.le_refl _) ?_); k_dflt (apply bl5_ok; k_asm; k_asm; k_asm; k_asm; k_asm; (first | exact rfl | assumption); ktr_room; ktr_units; (k_memK); (assumption); (assumption); (assumption); (omega); k_whole; intros; (try (rename_i e9; dsimp only at e9; revert e9; intro _)); (try k_sweep); (try dsimp only)))
  k_with "call ref" => (k_here; (with_reducible show wpAny _ _ (call (Value.ref 60) [Value.ref _, Value.int _ _, Value.int _ _, Value.none] _) _ _ _); (with_reducible refine wpAny_with_toks (Nat.le_refl _) ?_); k_dflt (apply br5_ok; k_asm; k_asm; k_asm; k_asm; k_asm; (first | exact rfl | assumption); ktr_room; ktr_units; (k_memK); (assumption); (assumption); (assumption); (omega); k_whole; intros; (try (rename_i e9; dsimp only at e9; revert e9; intro _)); (try k_sweep); (try dsimp only)))
  k_with "call ref" => (k_here; (with_reducible show wpAny _ _ (call (Value.ref 69) [Value.ref _, Value.int _ _]) _ _ _); (with_reducible refine wpAny_with_toks (Nat.le_refl _) ?_); k_dflt (apply insl_ok; k_asm; k_asm; k_asm; k_asm; k_asm; (first | exact rfl | assumption); ktr_room; ktr_units; (k_upd); (l_ints); (omega); k_whole; intros; (try (rename_i e9; dsimp only at e9; revert e9; intro _)); (try k_sweep); (try dsimp only)))
  k_with "call ref" => (k_here; (with_reducible show wpAny _ _ (call (Value.ref 51) [Value.ref _, Value.int _ _]) _ _ _); (with_reducible refine wpAny_with_toks (Nat.le_refl _) ?_); k_dflt (apply insr_ok; k_asm; k_asm; k_asm; k_asm; k_asm; (first | exact rfl | assumption); ktr_room; ktr_units; (k_upd); (l_ints); (omega); k_whole; intros; (try (rename_i e9; dsimp only at e9; revert e9; intro _)); (try k_sweep); (try dsimp only)))
  k_with "call ref" => (k_here; (with_reducible show wpAny _ _ (call (Value.ref 69) [Value.ref _, Value.ref _] _) _ _ _); (with_reducible refine wpAny_with_toks (Nat.le_refl _) ?_); k_dflt (apply inslk_ok; k_asm; k_asm; k_asm; k_asm; k_asm; (first | exact rfl | assumption); ktr_room; ktr_units; (k_upd); (assumption); (first | assumption | exact ⟨by kd_subs⟩); (assumption); (assumption); (assumption); (omega); k_whole; intros; (try (rename_i e9; dsimp only at e9; revert e9; intro _)); (try k_sweep); (try dsimp only)))
  k_with "call ref" => (k_here; (with_reducible show wpAny _ _ (call (Value.ref 51) [Value.ref _, Value.ref _] _) _ _ _); (with_reducible refine wpAny_with_toks (Nat.le_refl _) ?_); k_dflt (apply insrk_ok; k_asm; k_asm; k_asm; k_asm; k_asm; (first | exact rfl | assumption); ktr_room; ktr_units; (k_upd); (assumption); (first | assumption | exact ⟨by kd_subs⟩); (assumption); (assumption); (assumption); (omega); k_whole; intros; (try (rename_i e9; dsimp only at e9; revert e9; intro _)); (try k_sweep); (try dsimp only)))
  k_with "call ref" => (k_here; (with_reducible show wpAny _ _ (call (Value.ref 42) [Value.ref _, Value.int _ _]) _ _ _); (with_reducible refine wpAny_with_toks (Nat.le_refl _) ?_); k_dflt (apply cnt_ok; k_asm; k_asm; k_asm; k_asm; k_asm; (first | exact rfl | assumption); ktr_room; ktr_units; (k_memK); (l_ints); (first | assumption | (refine' ToksB.mono ?_ (by assumption); omega)); (omega); (first | assumption | decide | rfl); k_whole; intros; (try (rename_i e9; dsimp only at e9; revert e9; intro _)); (try k_sweep); (try dsimp only)))
  k_with "call ref" => (k_here; (with_reducible show wpAny _ _ (call (Value.ref 42) [Value.ref _, Value.ref _]) _ _ _); (with_reducible refine wpAny_with_toks (Nat.le_refl _) ?_); k_dflt (apply cntl_ok; k_asm; k_asm; k_asm; k_asm; k_asm; (first | exact rfl | assumption); ktr_room; ktr_units; (k_memK); (first | assumption | exact LLAre.mono (by kd_subs) (by assumption)); (k_memK); (l_ints); k_whole; intros; (try (rename_i e9; dsimp only at e9; revert e9; intro _)); (try k_sweep); (try dsimp only)))
  k_with "call ref" => (k_here; (with_reducible show wpAny _ _ (call (Value.ref 28) [Value.int _ _, Value.int _ _]) _ _ _); (with_reducible refine wpAny_with_toks (Nat.le_refl _) ?_); k_dflt (apply mul_ok; k_asm; k_asm; k_asm; k_asm; k_asm; (first | exact rfl | assumption); ktr_room; ktr_units; (omega); k_whole; intros; (try (rename_i a9 b9 c9 d9 e9; (try dsimp only at e9); (try dsimp only at a9); revert a9 b9 c9 d9 e9; intros)); (try k_sweep); (try dsimp only)))
  k_with "call ref" => (k_here; (with_reducible show wpAny _ _ (call (Value.ref 21) [Value.int _ _, Value.int _ _]) _ _ _); (with_reducible refine wpAny_with_toks (Nat.le_refl _) ?_); k_dflt (apply add_ok; k_asm; k_asm; k_asm; k_asm; k_asm; (first | exact rfl | assumption); ktr_room; ktr_units; k_whole; intros; (try (rename_i a9 b9 c9 d9 e9; (try dsimp only at e9); (try dsimp only at a9); revert a9 b9 c9 d9 e9; intros)); (try k_sweep); (try dsimp only)))
  k_with "call ref" => (k_here; (with_reducible show wpAny _ _ (call (Value.ref 35) [Value.int _ _, Value.int _ _]) _ _ _); (with_reducible refine wpAny_with_toks (Nat.le_refl _) ?_); k_dflt (apply sub_ok; k_asm; k_asm; k_asm; k_asm; k_asm; (first | exact rfl | assumption); ktr_room; ktr_units; k_whole; intros; (try (rename_i a9 b9 c9 d9 e9; (try dsimp only at e9); (try dsimp only at a9); revert a9 b9 c9 d9 e9; intros)); (try k_sweep); (try dsimp only)))
  k_with "call ref" => (k_here; (with_reducible show wpAny _ _ (call (Value.ref 85) [Value.float _ _, Value.float _ _, Value.float _ _]) _ _ _); (with_reducible refine wpAny_with_toks (Nat.le_refl _) ?_); k_dflt (apply rgb_okE; k_asm; k_asm; k_asm; k_asm; k_asm; (first | exact rfl | assumption); ktr_room; ktr_units; (assumption); (assumption); k_whole; intros; (try (rename_i e9; dsimp only at e9; revert e9; intro _)); (try k_sweep); (try dsimp only)))
  k_with "call ref" => (k_here; (with_reducible show wpAny _ _ (call (Value.ref 106) [Value.float _ _]) _ _ _); (with_reducible refine wpAny_with_toks (Nat.le_refl _) ?_); k_dflt (apply whole_okE; k_asm; k_asm; k_asm; k_asm; k_asm; (first | exact rfl | assumption); ktr_room; ktr_units; (assumption); (assumption); k_whole; intros; (try (rename_i e9; dsimp only at e9; revert e9; intro _)); (try k_sweep); (try dsimp only)))
  k_with "call ref" => (k_here; (with_reducible show wpAny _ _ (call (Value.ref 116) [Value.ref _, Value.int _ _]) _ _ _); (with_reducible refine wpAny_with_toks (Nat.le_refl _) ?_); k_dflt (apply light_ok; k_asm; k_asm; k_asm; k_asm; k_asm; (first | exact rfl | assumption); ktr_room; ktr_units; (k_memK); (l_ints); (((try simp only [paintI_len]); omega)); (omega); k_whole; intros; rename_i h9 t9; (try dsimp only at t9); (try k_sweep); (try dsimp only)); (replace h9 := off1_of h9; dsimp only [LCg.Off1] at h9); (try (revert t9; intros)); (try (revert h9; intros)))
  k_with "call ref" => (k_here; (with_reducible show wpAny _ _ (call (Value.ref 123) [Value.ref _, Value.int _ _]) _ _ _); (with_reducible refine wpAny_with_toks (Nat.le_refl _) ?_); k_dflt (apply told_ok; k_asm; k_asm; k_asm; k_asm; k_asm; (first | exact rfl | assumption); ktr_room; ktr_units; (k_memK); (first | assumption | exact LLAre.mono (by kd_subs) (by assumption)); (assumption); (((try dsimp only); omega)); (assumption); (assumption); k_whole; intros; rename_i h9 t9; (try dsimp only at t9); (try k_sweep); (try dsimp only)); (try k_lt h9); (try (revert t9; intros)); (try (revert h9; intros)))
  trivial
section Cjoined
theorem layCjoined2 : True := by
  k_with "exec For Name Name cons nil" => (k_here; k_dflt (refine wpAny_For ?_))
  k_with "exec For Name Call cons nil" => (k_here; k_dflt (refine wpAny_For ?_))
  k_with "exec For Name Subscript cons nil" => (k_here; k_dflt (refine wpAny_For ?_))
  k_with "exec For" => (k_here; k_dflt (refine wpAny_For ?_))
  k_with "execs cons Assign cons" => ((with_reducible refine wpAny_execs_cons ?_); (try dsimp only))
  k_with "last pyIter ref" => (refine Hold.mk ?_)
  k_with "call builtin:list.append" => (k_here; (with_reducible show wpAny _ _ (call (Value.builtin _) [Value.ref _, _]) _ _ _); k_dflt (apply append_V; k_asm; k_asm; k_upd; (omega); k_whole); intros; (try k_sweep))
  k_with "execs cons" => (k_here; (with_reducible show wpAny _ _ _ _ _ (Shared.mk _ _ _ (_ + _) _)); (refine gen_toks ?_); intros; (try (rename_i e9; simp only [List.length_cons, List.length_nil, Nat.zero_add] at e9; revert e9; intro _)))
  k_with "execs nil" => (k_here; (with_reducible show wpAny _ _ _ _ _ (Shared.mk _ _ _ (_ + _) _)); (refine gen_toks ?_); intros; (try (rename_i e9; simp only [List.length_cons, List.length_nil, Nat.zero_add] at e9; revert e9; intro _)))
  trivial
/-- a turn of _law_joined's first loop -/
noncomputable def joinedStep (c : List Int × List Int) (q : List Int) : List Int × List Int :=
  if q.getD 0 0 = 0 then (insL c.1 (q.getD 1 0), c.2) else (c.1, insR c.2 (q.getD 1 0))
noncomputable def joinedTwo (qs : List (List Int)) : List Int × List Int := qs.foldl joinedStep ([], [])
noncomputable def joinedLow (ones others : List Int) (p : Nat) : List Int :=
  [2 - (ones.count ((others.length : Int) - p) : Nat), others.getD p 0 + (((bsr ones others.length 0 ones.length : Nat) : Int) - (bsl ones ((others.length : Int) - p) 0 ones.length : Nat)) - p]
noncomputable def joinedHigh (ones others : List Int) (j : Nat) : List Int :=
  [0, ones.getD (bsr ones others.length 0 ones.length + j) 0 - ((others.length : Int) + ((bsr ones others.length 0 ones.length : Nat) + (j : Int)) - (bsr ones others.length 0 ones.length : Nat))]
noncomputable def joinedLows (ones others : List Int) : List (List Int) := (List.range others.length).map (joinedLow ones others)
noncomputable def joinedHighs (ones others : List Int) : List (List Int) := (List.range (ones.length - bsr ones others.length 0 ones.length)).map (joinedHigh ones others)
noncomputable def joinedRow (ones others : List Int) (left : Bool) : List (List Int) := mergedI (joinedLows ones others) (joinedHighs ones others) left
noncomputable def placed (rs : List (List Int)) (i : Nat) : List Int := [(rs.getD i []).getD 0 0, (rs.getD i []).getD 1 0 + i]
noncomputable def placedAll (rs : List (List Int)) : List (List Int) := (List.range rs.length).map (placed rs)
noncomputable def joinedI (qs : List (List Int)) (left : Bool) : List (List Int) := placedAll (joinedRow (joinedTwo qs).1 (joinedTwo qs).2 left)
theorem joinedTwo_len (qs : List (List Int)) : (joinedTwo qs).1.length + (joinedTwo qs).2.length = qs.length := by
  suffices h : ∀ (c : List Int × List Int), (qs.foldl joinedStep c).1.length + (qs.foldl joinedStep c).2.length = c.1.length + c.2.length + qs.length by
    have := h ([], []); simpa [joinedTwo] using this
  induction qs with
  | nil => intro c; rfl
  | cons q qs ih =>
    intro c
    rw [List.foldl_cons, ih, joinedStep]
    split
    · simp only [insL_length, List.length_cons]; omega
    · simp only [insR_length, List.length_cons]; omega
theorem apart3_mid {I C D : Addr} {pre c news : List (Addr × Obj)} {x : Addr × Obj} (h : Apart3 I C D (pre ++ (c ++ news))) (hx : (@Ne Nat x.1 I) ∧ (@Ne Nat x.1 C) ∧ (@Ne Nat x.1 D)) : Apart3 I C D (pre ++ (x :: c ++ news)) := fun p hp => by
  rcases List.mem_append.mp hp with hp | hp
  · exact h p (List.mem_append_left _ hp)
  · rcases List.mem_cons.mp hp with rfl | hp
    · exact hx
    · exact h p (List.mem_append_right _ hp)
theorem off_mid {c news : List (Addr × Obj)} {lo hi x : Nat} (h : ∀ p ∈ c, @LT.lt Nat _ hi p.1) (k : ∀ p ∈ news, @LT.lt Nat _ p.1 lo) (a : lo ≤ x) (b : x ≤ hi) : ∀ p ∈ c ++ news, p.1 ≠ x := fun p hp => by
  rcases List.mem_append.mp hp with hp | hp
  · exact Nat.ne_of_gt (Nat.lt_of_le_of_lt b (h p hp))
  · exact Nat.ne_of_lt (Nat.lt_of_lt_of_le (k p hp) a)
theorem off_mid2 {c n : List (Addr × Obj)} {hi x : Nat} (h : ∀ p ∈ c, @LT.lt Nat _ hi p.1) (k : ∀ p ∈ n, p.1 ≠ x) (b : x ≤ hi) : ∀ p ∈ c ++ n, p.1 ≠ x := fun p hp => by
  rcases List.mem_append.mp hp with hp | hp
  · exact Nat.ne_of_gt (Nat.lt_of_le_of_lt b (h p hp))
  · exact k p hp
theorem news_ne {h₀ h : Heap} {L a b : Addr} {o o' : Obj} {news : List (Addr × Obj)} (N : News h₀ L h news) (ha : (a, o) ∈ news) (hb : (b, o') ∈ news) (hd : o.data ≠ o'.data) : @Ne Nat a b := fun e => by
  have h1 := (N _ ha).1
  have h2 := (N _ hb).1
  have e' : a = b := e
  simp only at h1 h2
  rw [e', h2] at h1
  exact hd (congrArg Obj.data (Option.some.inj h1)).symm
theorem joinedLow_two (a b : List Int) : ∀ r ∈ joinedLows a b, r.length = 2 := fun r hr => by
  obtain ⟨i, _, e⟩ := List.mem_map.mp hr
  rw [← e]; rfl
theorem joinedHigh_two (a b : List Int) : ∀ r ∈ joinedHighs a b, r.length = 2 := fun r hr => by
  obtain ⟨i, _, e⟩ := List.mem_map.mp hr
  rw [← e]; rfl
theorem LLAre.drop_cell {a : Addr} {o : Obj} {led : List (Addr × Obj)} {vs : List Value} {rs : List (List Int)} {x : Option Value} (h : LLAre ((a, o) :: led) vs rs) (hd : o.data = Data.cell x) : LLAre led vs rs := by
  induction h with
  | nil => exact .nil
  | cons hm hi _ ih =>
    rcases List.mem_cons.mp hm with e | hm
    · rw [← (Prod.mk.inj e).2] at hd; exact nomatch hd
    · exact .cons hm hi ih
theorem paints_at {tot k : Int} (h0 : 0 ≤ k) (h2 : k ≤ 2) : [paintI tot 0, paintI tot 1, paintI tot 2].getD k.toNat [] = paintI tot k := by
  have : k = 0 ∨ k = 1 ∨ k = 2 := by omega
  rcases this with rfl | rfl | rfl <;> rfl
theorem foldRK_two : ∀ (ls qs : List (List Int)), (∀ r ∈ ls, r.length = 2) → (∀ r ∈ qs, r.length = 2) → ∀ r ∈ ls.foldl insRK qs, r.length = 2
  | [], _, _, hq => hq
  | a :: ls, qs, hl, hq => foldRK_two ls (insRK qs a) (fun r hr => hl r (.tail _ hr)) (pairs_ins hq (hl a (.head _)) _)
theorem foldLK_two : ∀ (ls qs : List (List Int)), (∀ r ∈ ls, r.length = 2) → (∀ r ∈ qs, r.length = 2) → ∀ r ∈ ls.foldl insLK qs, r.length = 2
  | [], _, _, hq => hq
  | a :: ls, qs, hl, hq => foldLK_two ls (insLK qs a) (fun r hr => hl r (.tail _ hr)) (pairs_ins hq (hl a (.head _)) _)
theorem merged_two {low high : List (List Int)} (h1 : ∀ r ∈ low, r.length = 2) (h2 : ∀ r ∈ high, r.length = 2) (b : Bool) : ∀ r ∈ mergedI low high b, r.length = 2 := by
  unfold mergedI
  split
  · exact foldLK_two _ _ (fun r hr => h1 r (List.mem_reverse.mp hr)) h2
  · exact foldRK_two _ _ h2 h1
structure LowSt where
  lv : List Value
  ln : Nat
  lits : List (Addr × Obj)
theorem small_int {x : Int} (h0 : 0 ≤ x) (h1 : x ≤ 200) : smallInt x = true := by
  simp only [smallInt, Bool.and_eq_true, decide_eq_true_eq]; omega
structure TwoSt where
  nv : List Value
  nn : Nat
  ov : List Value
  on : Nat
theorem layCjoined3 : True := by
  k_with "kun_lst" => (exact News.isList (by assumption) (by repeat (first | assumption | refine List.Mem.tail _ ?_)))
  k_with "exec Assign cons ListComp" => (k_here; (refine Hold.mk ?_))
  k_with "call type:range" => ((with_reducible refine wpAny_with_toks (Nat.le_refl _) ?_); (first | (with_unfolding_all refine range1_rows (by k_asm) (by k_asm) ?_) | (with_unfolding_all refine range2_rows (by k_asm) (by k_asm) ?_)); intros; (try (rename_i t9; (dsimp only at t9); revert t9; intro _)))
  k_with "memK" => (focus ((repeat (first | assumption | exact Sub.of (by assumption) _ (by assumption) | refine List.Mem.tail _ ?_)); done))
  k_with "call ref" => (k_here; (with_reducible show wpAny _ _ (call (Value.ref 137) [Value.ref _, Value.ref _, Value.bool _]) _ _ _); (refine Hold.mk ?_))
  k_with "eval ListComp" => (k_here; (refine Hold.mk ?_))
  trivial
section
variable {prog : Program} {w : World} {p : Program} {loose : List Str} {mean : ExcName → Option Value} {mg mb : Str → Option Value}
theorem joined_ok {dp un : Nat} {gd : Option (List Code)} {cn : Str} {cs : Scope} {a : Addr} {ccd : Value} {cl : List (Str × Addr)} {outer : List Env} {A₀ : Around} {base h₀ : Heap} {L : Addr} {m : Str → Option Value} {s : Shared} {Q E : Value → Shared → Prop} {news : List (Addr × Obj)} (B : Below A₀ base outer h₀) (F : Fr h₀ L s.heap m) (X : (hd.heap_1 w.params).In h₀) (N : News h₀ L s.heap news) (T : Top p loose mean mg mb h₀) (hk : cs.kind = .function) (hd1 : dp + 13 < recursionLimit) (hu : un + 500 < cLine)
   {l pp : Addr} {vs pv : List Value} {qs : List (List Int)} {tot : Int} {tt : Tok} {nn np : Nat} {cst : List (Addr × Obj)} {left : Bool} (hl : (l, listOf vs.toArray nn) ∈ news) (hi : LLAre cst vs (qs.map (lightI tot))) (hS : Sub cst news) (hpp : (pp, listOf pv.toArray np) ∈ news) (hpi : LLAre cst pv [paintI tot 0, paintI tot 1, paintI tot 2]) (okq : ∀ q ∈ qs, PairOk q) (okj : ∀ q ∈ joinedI qs left, PairOk q) (hlen : qs.length ≤ 30) (h1 : 1 ≤ s.toks) (ht0 : 0 ≤ tot) (ht1 : tot < 768)
   (ret : ∀ (t : Addr) ws nn' led (h' : Heap) (tk' : Nat), LLAre led ws ((joinedI qs left).map (lightI tot)) → Fr h₀ L h' m → News h₀ L h' ((t, listOf ws.toArray nn') :: led ++ news) → Q (.ref t) {s with heap := h', toks := tk'}) :
   wpAny (model prog w) (ktrTop dp un gd cn cs L a ccd cl outer) (call (.ref 142) [.ref l, .int tot tt, .ref pp, .bool left]) Q E s := by
  refine wpAny_call ?_
  k_dflt (refine' code_defC (binds := [(Str.ofString "lights", Value.ref l), (Str.ofString "total", Value.int tot tt), (Str.ofString "paints", Value.ref pp), (Str.ofString "left", Value.bool left)]) ?k1 ?k2 ?k3 ?k4 ?k5 ?kA ?kF ?kK ?k6 ?k7 ?k8 ?k9 ?kB ?kD ?_ ?c2 ?c3 ?c4; (case kA => exact rfl); (case kF => exact rfl); (case kK => assumption); (case k1 => k_asm); (case k2 => k_asm); (case k3 => k_asm); (case k4 => k_asm); (case k5 => k_asm); (case k6 => k_is); (case k7 => k_is); (case k8 => ktr_room); (case k9 => first | exact BindsTo.of_eq rfl | exact hbd _ _ _ _ rfl | (refine' kp_binds ?kx ?ke; (case kx => k_in); (case ke => exact fun _ => rfl))); (case kB => exact rfl); (case kD => decide +kernel); (case c2 => exact rfl); (case c3 => exact rfl); (case c4 => exact rfl); k_whole; intro g' L' h' tk' cells' FG' F' N' Y' B' X' T' l1; (try k_lt l1); k_cells Y'; (try simp only [List.cons_append, List.nil_append] at N'); (try dsimp only); (try k_lift B'); (try k_fold))
  k_steps
  rename_i o1 o2 o3 o4 o5 o6 d1 d2 d3 d4 d5 d6 on _ lA ot _ lB _ _ lC _ _ oc dc _ F9 N9 tk9 hk9
  replace d6 : o6.data = Data.cell (some (Value.int tot tt)) := d6
  replace d5 : o5.data = Data.cell (some (Value.ref pp)) := d5
  replace d1 : o1.data = Data.cell none := d1
  replace d2 : o2.data = Data.cell none := d2
  replace d3 : o3.data = Data.cell none := d3
  clear d4
  have lon : @LT.lt Nat _ (L' + 1 + 1 + 1 + 1 + 1 + 1) on := lA.1
  have lot : @LT.lt Nat _ on ot := lB.1
  unfold Hold
  k_dflt (refine listComp_V (by k_asm) (by rfl) (by decide) (by rfl) (by decide) (by rfl) ?_)
  k_steps
  k_dflt (refine' compIn_list (σ := List (Addr × Obj)) (fun c => (ot, listOf #[] 0) :: (on, listOf #[] 0) :: (L' + 1 + 1 + 1 + 1 + 1 + 1, o1) :: (L' + 1 + 1 + 1 + 1 + 1, o2) :: (L' + 1 + 1 + 1 + 1, o3) :: (L' + 1 + 1 + 1, oc) :: (L' + 1 + 1, o5) :: (L' + 1, o6) :: (c ++ news)) (fun i tk ys c => LLT c tk ys (qs.take i) ∧ (∀ p ∈ c, @LT.lt Nat _ ot p.1) ∧ 1 ≤ tk) [] rfl ?F ?N (fun _ _ _ _ _ le h => ⟨h.1.mono (fun _ h => h) le, h.2.1, Nat.le_trans h.2.2 le⟩) ⟨.nil, (fun p hp => nomatch hp), ?tk0⟩ ?hz ?hl ?turn ?fin; (case F => assumption); (case N => exact news_sub (by assumption) (by kcf_all)))
  case tk0 => ((try dsimp only); omega)
  case hl => exact fun _ _ _ _ _ => .tail _ (.tail _ (.tail _ (.tail _ (.tail _ (.tail _ (.tail _ (.tail _ (List.mem_append_right _ hl))))))))
  case hz => exact room_of (by rw [hi.length, List.length_map]; omega)
  case turn =>
--[[
    intro I C D c i v ys h tk oI oC m₂ E' hIC hID hCD hv hJ hle hoC hm hap F1 N1
    refine Classical.byContradiction fun ng9 => ?_
    obtain ⟨a', ws', n', r, rfl, hm', hn, hi'⟩ := hi.at hv
    obtain ⟨q, hq, rfl⟩ := row_of_map hn
    have okq' := okq q (List.mem_of_getElem? hq)
    have hq2 := okq'.two
    have hm9 := hS.of _ hm'
    obtain ⟨hJ1, hJ2, hJ4⟩ := hJ
    refine ng9 ?_; clear ng9
    dsimp only at hle
    k_steps
    rename_i l5
    have hc5 : ∀ p ∈ c ++ news, @Ne Nat p.1 _ := fun p hp => Nat.ne_of_lt (allLt_mem l5.2.2.2.2.2.2.2.2.2.2.2 p hp)
    exact elt_end ((_, _) :: c) (by assumption) (by assumption) (by kcf_m) (by kcf_m) (by kcf_m) (by dsimp only [List.cons_append]; kcf_all) (apart3_mid (pre := [_, _, _, _, _, _, _, _]) hap ⟨by k_ne, by k_ne, by k_ne⟩) ⟨by rw [List.take_add_one, hq]; exact LLT.append (hJ1.mono (fun p hp => .tail _ hp) (by omega)) (LLT.one (.head _) (ints_pair hq2) (ToksB.cons (tok_ok (by assumption) (by omega)) (ToksB.cons (tok_ok (by assumption) (by omega)) ToksB.nil))), (all_cons l5.2.2.2.1 hJ2), by omega⟩
--]]
  case fin =>
    intro D c ys h tk hJ hle hoff F1 N1
    obtain ⟨hJ1, hJ2, hJ4⟩ := hJ
    have ho1 : ∀ p ∈ c ++ news, p.1 ≠ ot := off_mid hJ2 l1 (by omega) (by omega)
    have ho2 : ∀ p ∈ c ++ news, p.1 ≠ on := off_mid hJ2 l1 (by omega) (by omega)
    have ho3 : ∀ p ∈ c ++ news, p.1 ≠ L' + 1 + 1 + 1 + 1 + 1 + 1 := off_mid hJ2 l1 (by omega) (by omega)
    have ho4 : ∀ p ∈ c ++ news, p.1 ≠ L' + 1 + 1 + 1 + 1 + 1 := off_mid hJ2 l1 (by omega) (by omega)
    have ho5 : ∀ p ∈ c ++ news, p.1 ≠ L' + 1 + 1 + 1 + 1 := off_mid hJ2 l1 (by omega) (by omega)
    have hD3 : @Ne Nat (L' + 1 + 1 + 1 + 1 + 1 + 1) D := hoff _ (.tail _ (.tail _ (.head _)))
    have hD4 : @Ne Nat (L' + 1 + 1 + 1 + 1 + 1) D := hoff _ (.tail _ (.tail _ (.tail _ (.head _))))
    have hD5 : @Ne Nat (L' + 1 + 1 + 1 + 1) D := hoff _ (.tail _ (.tail _ (.tail _ (.tail _ (.head _)))))
    have hc0 := hJ1.ll.length
    have hDo : @Ne Nat ot D := hoff _ (.head _)
    have hDn : @Ne Nat on D := hoff _ (.tail _ (.head _))
    k_steps
    unfold Hold
    (with_unfolding_all refine' for_list (σ := TwoSt) (fun c0 => (ot, listOf c0.ov.toArray c0.on) :: (on, listOf c0.nv.toArray c0.nn) :: (D, listOf ys.toArray ys.length) :: (L' + 1 + 1 + 1 + 1 + 1 + 1, o1) :: (L' + 1 + 1 + 1 + 1 + 1, o2) :: (L' + 1 + 1 + 1 + 1, o3) :: (L' + 1 + 1 + 1, oc) :: (L' + 1 + 1, o5) :: (L' + 1, o6) :: (c ++ news)) (fun c => []) [Str.ofString "kind", Str.ofString "size"] (fun i tk c0 => IntsAre c0.nv (joinedTwo (qs.take i)).1 ∧ IntsAre c0.ov (joinedTwo (qs.take i)).2 ∧ ToksB tk c0.nv) ⟨[], 0, [], 0⟩ rfl (fun _ _ _ _ => .tail _ (.tail _ (.head _))) (fun _ _ _ _ le h => ⟨h.1, h.2.1, h.2.2.mono le⟩) ?F ?N ?hk ?hj ?turn ?done ?hE)
    case F => assumption
    case N => exact news_sub (by assumption) (by kcf_all)
    case hk => kst_all
    case hj => exact ⟨.nil, .nil, ToksB.nil⟩
    case hE => passes_own
    case turn =>
--[[
      rintro ⟨nv, nn, ov, on'⟩ i v u h tk I oI hv hJ9 hle hoff F1 N1
      refine Classical.byContradiction fun ng9 => ?_
      obtain ⟨hA, hB, hT⟩ := hJ9
      obtain ⟨a', ws', n', r, rfl, hm', hn, hi', ht'⟩ := hJ1.at hv
      have hn' : qs[i]? = some r := by rw [List.take_of_length_le (by rw [hi.length, List.length_map]; exact Nat.le_refl _)] at hn; exact hn
      obtain ⟨x, y, rfl⟩ := two_of (okq r (List.mem_of_getElem? hn')).two
      obtain ⟨t1, t2, rfl⟩ := ints_two hi'
      refine ng9 ?_; clear ng9
      have hm9 := List.mem_append_left news hm'
      have htl := joinedTwo_len (qs.take i)
      rw [List.length_take] at htl
      have hol := hB.length
      have hnl := hA.length
      have hIo : @Ne Nat ot I := hoff _ (.head _)
      have hIn : @Ne Nat on I := hoff _ (.tail _ (.head _))
      have hID : @Ne Nat D I := hoff _ (.tail _ (.tail _ (.head _)))
      dsimp only at hA hB hT hol hnl hoff F1 N1 hle
      dsimp only [kstB] at F1
      (try dsimp only)
      (try k_fold)
      k_steps
      · refine' turn_end (TwoSt.mk _ _ _ _) (by assumption) (by assumption) ?tn ?tr ?tI ?ts ?to ?tj
        case ts => kcf_all
        case tn => exact fun p hp => nomatch hp
        case tr => ksw_same
        case tI => kcf_m
        case to => exact (all_cons hIo ((all_cons hIn (fun p hp => hoff p (.tail _ (.tail _ hp))))))
        case tj =>
          dsimp only
          rw [show joinedTwo (qs.take (i + 1)) = joinedStep (joinedTwo (qs.take i)) [x, y] from foldl_take_one _ _ hn', joinedStep, if_pos (by assumption)]
          exact ⟨by assumption, hB, ToksB.ins (hT.mono (by omega)) ((ht' _ (.tail _ (.head _))).mono (by omega)) _⟩
      · refine' turn_end (TwoSt.mk _ _ _ _) (by assumption) (by assumption) ?tn ?tr ?tI ?ts ?to ?tj
        case ts => kcf_all
        case tn => exact fun p hp => nomatch hp
        case tr => ksw_same
        case tI => kcf_m
        case to => exact (all_cons hIo ((all_cons hIn (fun p hp => hoff p (.tail _ (.tail _ hp))))))
        case tj =>
          dsimp only
          rw [show joinedTwo (qs.take (i + 1)) = joinedStep (joinedTwo (qs.take i)) [x, y] from foldl_take_one _ _ hn', joinedStep, if_neg (by assumption)]
          exact ⟨hA, by assumption, hT.mono (by omega)⟩
--]]
    case done =>
      rintro ⟨nv, nn, ov, on'⟩ u h tk hJ9 hle F1 N1
      refine Classical.byContradiction fun ng9 => ?_
      obtain ⟨hA, hB, hT⟩ := hJ9
      refine ng9 ?_; clear ng9
      rw [List.take_of_length_le (by rw [hc0, hi.length, List.length_map, List.take_length]; exact Nat.le_refl _)] at hA hB
      have htl := joinedTwo_len qs
      have hol := hB.length
      have hnl := hA.length
      dsimp only at hA hB hT hol hnl F1 N1 hle
      dsimp only [kstB] at F1
      (try dsimp only)
      (try k_fold)
      k_steps
      rename_i _ omo dmo kc tc _ tk8 hkc tl8 _ oct dct lo _ l8 _ F8 N8 tk7 hk7 h7 _ _ _ _ hR F9 N9 up9 tl7
      subst hkc
      clear F8 N8
      obtain ⟨news8, hn8⟩ : ∃ n8, n8 = c ++ news := ⟨_, rfl⟩
      have hS8 : Sub cst news8 := ⟨fun p hp => by rw [hn8]; exact List.mem_append_right _ (hS.of p hp)⟩
      have hB8 : ∀ p ∈ news, p ∈ news8 := fun p hp => by rw [hn8]; exact List.mem_append_right _ hp
      rw [← hn8] at ho1 ho2 ho3 ho4 ho5 l8 N9
      have hlo8 : ∀ p ∈ news8, p.1 ≠ lo := fun p hp => Nat.ne_of_lt (allLt_mem l8.2.2.2.2.2.2.2.2.2 p hp)
      unfold Hold
      (with_unfolding_all refine' for_range (σ := LowSt) (n := (joinedTwo qs).2.length) (fun c => (lo, listOf c.lv.toArray c.ln) :: (ot, listOf ov.toArray on') :: (on, listOf nv.toArray nn) :: (L' + 1 + 1 + 1 + 1 + 1 + 1, o1) :: (L' + 1 + 1 + 1 + 1 + 1, oct) :: (L' + 1 + 1 + 1 + 1, omo) :: (L' + 1 + 1 + 1, oc) :: (L' + 1 + 1, o5) :: (L' + 1, o6) :: (c.lits ++ news8)) (fun c => []) [Str.ofString "place", Str.ofString "reach", Str.ofString "more"] (fun i tk c => LLAre c.lits c.lv ((List.range i).map (joinedLow (joinedTwo qs).1 (joinedTwo qs).2)) ∧ (∀ p ∈ c.lits, @LT.lt Nat _ lo p.1)) ⟨[], 0, []⟩ rfl hR ?small ?size (fun _ _ _ _ _ h => h) ?F ?N ?hk ?hj ?turn ?done ?hE)
      case F => assumption
      case N => exact news_sub (by assumption) (by kcf_all)
      case hk => kst_all
      case hj => exact ⟨.nil, fun p hp => nomatch hp⟩
      case hE => passes_own
      case small => exact small_one (by omega) (by omega) (by omega) (by omega)
      case size => (rw [rangeSize_nat]; simp)
      case turn =>
--[[
        rintro ⟨lv, ln, lits⟩ i t u h tk I oI hv hJ9 hle hoff F1 N1
        refine Classical.byContradiction fun ng9 => ?_
        obtain ⟨hL1, hL2⟩ := hJ9
        refine ng9 ?_; clear ng9
        have hL3 : ∀ p ∈ lits ++ news8, p.1 ≠ lo := off_mid2 hL2 hlo8 (Nat.le_refl _)
        have hvl := hL1.length
        rw [List.length_map, List.length_range] at hvl
        have hsm : smallInt (((joinedTwo qs).2.length : Int) - (i : Int)) = true := small_int (by omega) (by omega)
        dsimp only at hL1 hL2 hvl hoff F1 N1 hle
        dsimp only [kstB] at F1
        have hIl : @Ne Nat lo I := hoff _ (.head _)
        have hT1 : ToksB (tk + 1) nv := hT.mono (by omega)
        (try dsimp only)
        (try k_fold)
        rw [Int.zero_add]
        k_steps
        rename_i l5 _ _ _
        rename (_ = ((bsl _ _ _ _ : Nat) : Int)) => e1
        subst e1
        rename (_ = ((List.count _ _ : Nat) : Int)) => e2
        subst e2
        refine' turn_end (LowSt.mk _ _ ((_, _) :: lits)) (by assumption) (by assumption) ?tn ?tr ?tI ?ts ?to ?tj
        case ts => (dsimp only [List.cons_append]; kcf_all)
        case tn => exact fun p hp => nomatch hp
        case tr => ksw_same
        case tI => kcf_m
        case to => exact (all_cons hIl ((all_cons (hoff _ (.tail _ (.head _))) ((all_cons (hoff _ (.tail _ (.tail _ (.head _)))) ((all_cons (hoff _ (.tail _ (.tail _ (.tail _ (.head _))))) ((all_cons (hoff _ (.tail _ (.tail _ (.tail _ (.tail _ (.head _)))))) ((all_cons (hoff _ (.tail _ (.tail _ (.tail _ (.tail _ (.tail _ (.head _))))))) ((all_cons (hoff _ (.tail _ (.tail _ (.tail _ (.tail _ (.tail _ (.tail _ (.head _)))))))) ((all_cons (hoff _ (.tail _ (.tail _ (.tail _ (.tail _ (.tail _ (.tail _ (.tail _ (.head _))))))))) ((all_cons (hoff _ (.tail _ (.tail _ (.tail _ (.tail _ (.tail _ (.tail _ (.tail _ (.tail _ (.head _)))))))))) ((all_cons (by k_ne) (fun p hp => hoff p (.tail _ (.tail _ (.tail _ (.tail _ (.tail _ (.tail _ (.tail _ (.tail _ (.tail _ hp)))))))))))))))))))))))))))))
        case tj =>
          dsimp only
          rw [List.range_succ, List.map_append]
          exact ⟨(hL1.mono (fun p hp => .tail _ hp)).append (LLAre.one (LIs.mk (.head _) (.cons _ _ (.cons _ _ .nil)))), (all_cons l5.2.1 hL2)⟩
--]]
      case done =>
        rintro ⟨lv, ln, lits⟩ u h tk ⟨hL1, hL2⟩ hle F1 N1
        have hvl := hL1.length
        rw [List.length_map, List.length_range] at hvl
        dsimp only at hL1 hL2 hvl F1 N1 hle
        dsimp only [kstB] at F1
        (try dsimp only)
        (try k_fold)
        have hL3 : ∀ p ∈ lits ++ news8, p.1 ≠ lo := off_mid2 hL2 hlo8 (Nat.le_refl _)
        have hL4 : ∀ p ∈ lits ++ news8, p.1 ≠ L' + 1 + 1 + 1 + 1 + 1 + 1 := off_mid2 hL2 ho3 (by omega)
        obtain ⟨news7, hn7⟩ : ∃ n8, n8 = lits ++ news8 := ⟨_, rfl⟩
        have hS7 : Sub cst news7 := ⟨fun p hp => by rw [hn7]; exact List.mem_append_right _ (hS8.of p hp)⟩
        have hB7 : ∀ p ∈ news, p ∈ news7 := fun p hp => by rw [hn7]; exact List.mem_append_right _ (hB8 p hp)
        have hL7 : LLAre news7 lv ((List.range (joinedTwo qs).2.length).map (joinedLow (joinedTwo qs).1 (joinedTwo qs).2)) := hL1.mono (fun p hp => by rw [hn7]; exact List.mem_append_left _ hp)
        rw [← hn7] at hL3 hL4 N1
        have hcl : bsr (joinedTwo qs).1 ((joinedTwo qs).2.length : Int) 0 (joinedTwo qs).1.length ≤ (joinedTwo qs).1.length := bsr_le _ _ _ _ (Nat.zero_le _)
        k_steps
        unfold Hold
        k_dflt (refine listComp_S (by k_asm) (by rfl) (by with_unfolding_all rfl) (by with_unfolding_all rfl) (by decide) (by rfl) (by decide) (by rfl) (by rfl) (by rfl) ?_)
        k_steps
        rename_i hR9 _ _ _ _
        k_dflt (refine' compIn_range (n := (joinedTwo qs).1.length - bsr (joinedTwo qs).1 ((joinedTwo qs).2.length : Int) 0 (joinedTwo qs).1.length) (σ := List (Addr × Obj)) (fun c => (lo, listOf lv.toArray ln) :: (on, listOf nv.toArray nn) :: (L' + 1 + 1 + 1 + 1 + 1 + 1, o1) :: (L' + 1 + 1 + 1 + 1 + 1, oct) :: (L' + 1 + 1 + 1 + 1, omo) :: (L' + 1 + 1 + 1, oc) :: (L' + 1 + 1, o5) :: (L' + 1, o6) :: (c ++ news7)) (fun i tk ys c => LLAre c ys ((List.range i).map (joinedHigh (joinedTwo qs).1 (joinedTwo qs).2)) ∧ (∀ p ∈ c, @LT.lt Nat _ lo p.1)) [] rfl ?F ?N (fun _ _ _ _ _ le h => h) ⟨.nil, fun p hp => nomatch hp⟩ ?hz hR9 ?small ?size ?turn ?fin; (case F => assumption); (case N => exact news_sub (by assumption) (by kcf_all)))
        case hz => exact room_of (by omega)
        case small => exact small_one (by omega) (by omega) (by omega) (by omega)
        case size => (rw [rangeSize_nat]; omega)
        case turn =>
--[[
          intro I C D c i t ys h tk oI oC m₂ E' hIC hID hCD hv hJ hle hoC hm hap F1 N1
          obtain ⟨hJ1, hJ2⟩ := hJ
          dsimp only at hle
          k_steps
          rename_i l5
          exact elt_end ((_, _) :: c) (by assumption) (by assumption) (by kcf_m) (by kcf_m) (by kcf_m) (by dsimp only [List.cons_append]; kcf_all) (apart3_mid (pre := [_, _, _, _, _, _, _, _]) hap ⟨by k_ne, by k_ne, by k_ne⟩) ⟨by rw [List.range_succ, List.map_append]; exact (hJ1.mono (fun p hp => .tail _ hp)).append (LLAre.one (LIs.mk (.head _) (.cons _ _ (.cons _ _ .nil)))), (all_cons l5.2.2.2.1 hJ2)⟩
--]]
        case fin =>
          intro D c ys h tk hJ hle hoff F1 N1
          obtain ⟨hJ1, hJ2⟩ := hJ
          have hH9 : LLAre (c ++ news7) ys (joinedHighs (joinedTwo qs).1 (joinedTwo qs).2) := hJ1.mono (fun p hp => List.mem_append_left _ hp)
          have hH8 : LLAre (c ++ news7) lv (joinedLows (joinedTwo qs).1 (joinedTwo qs).2) := hL7.mono (fun p hp => List.mem_append_right _ hp)
          have hq3 : ∀ p ∈ c ++ news7, p.1 ≠ lo := off_mid2 hJ2 hL3 (Nat.le_refl _)
          have hq4 : ∀ p ∈ c ++ news7, p.1 ≠ L' + 1 + 1 + 1 + 1 + 1 + 1 := off_mid2 hJ2 hL4 (by omega)
          have hS6 : Sub cst (c ++ news7) := ⟨fun p hp => List.mem_append_right _ (hS7.of p hp)⟩
          have hB6 : ∀ p ∈ news, p ∈ c ++ news7 := fun p hp => List.mem_append_right _ (hB7 p hp)
          have hq5 : ∀ p ∈ c ++ news7, p.1 ≠ D := fun p hp => hoff p (.tail _ (.tail _ (.tail _ (.tail _ (.tail _ (.tail _ (.tail _ (.tail _ hp))))))))
          have hlD : @Ne Nat D lo := Ne.symm (hoff _ (.head _))
          have hc1 : @Ne Nat (L' + 1 + 1 + 1 + 1 + 1 + 1) D := hoff _ (.tail _ (.tail _ (.head _)))
          have hc2 : @Ne Nat (L' + 1 + 1 + 1 + 1 + 1) D := hoff _ (.tail _ (.tail _ (.tail _ (.head _))))
          have hc3 : @Ne Nat (L' + 1 + 1 + 1 + 1) D := hoff _ (.tail _ (.tail _ (.tail _ (.tail _ (.head _)))))
          have hc4 : @Ne Nat (L' + 1 + 1 + 1) D := hoff _ (.tail _ (.tail _ (.tail _ (.tail _ (.tail _ (.head _))))))
          have hc5 : @Ne Nat (L' + 1 + 1) D := hoff _ (.tail _ (.tail _ (.tail _ (.tail _ (.tail _ (.tail _ (.head _)))))))
          have hc6 : @Ne Nat (L' + 1) D := hoff _ (.tail _ (.tail _ (.tail _ (.tail _ (.tail _ (.tail _ (.tail _ (.head _))))))))
          obtain ⟨news6, hn6⟩ : ∃ n8, n8 = c ++ news7 := ⟨_, rfl⟩
          rw [← hn6] at hH9 hH8 hq3 hq4 hS6 hB6 hq5 N1
          k_steps
          unfold Hold
          k_dflt (refine' merged_ok (news := (L' + 1 + 1 + 1 + 1 + 1 + 1, o1) :: (L' + 1 + 1 + 1 + 1 + 1, oct) :: (L' + 1 + 1 + 1 + 1, omo) :: (L' + 1 + 1 + 1, oc) :: (L' + 1 + 1, o5) :: (L' + 1, o6) :: news6) (us := ys) (nu := ys.length) (vs := lv) (nv := ln) (qs := joinedHighs (joinedTwo qs).1 (joinedTwo qs).2) (rs := joinedLows (joinedTwo qs).1 (joinedTwo qs).2) ?k1 ?k2 ?k3 ?k4 ?k5 ?k6 ?k7 ?k8 hlD ?q1 ?q2 ?q3 ?q4 (joinedHigh_two _ _) (joinedLow_two _ _) ?q5 ?_; (case k1 => k_asm); (case k2 => k_asm); (case k3 => k_asm); (case k4 => exact news_sub N1 (by kcf_all)); (case k5 => k_asm); (case k6 => first | exact rfl | assumption); (case k7 => ktr_room); (case k8 => ktr_units); k_whole)
          case q1 => exact (all_cons hc1 ((all_cons hc2 ((all_cons hc3 ((all_cons hc4 ((all_cons hc5 ((all_cons hc6 hq5)))))))))))
          case q2 => exact (all_cons (by k_ne) ((all_cons (by k_ne) ((all_cons (by k_ne) ((all_cons (by k_ne) ((all_cons (by k_ne) ((all_cons (by k_ne) hq3)))))))))))
          case q3 => exact hH9.mono (fun p hp => .tail _ (.tail _ (.tail _ (.tail _ (.tail _ (.tail _ hp))))))
          case q4 => exact hH8.mono (fun p hp => .tail _ (.tail _ (.tail _ (.tail _ (.tail _ (.tail _ hp))))))
          case q5 => (unfold joinedLows joinedHighs; simp only [List.length_map, List.length_range]; omega)
          intro r ws5 nn5 h5 tk5 hW5 F5 N5
          (try k_sweep)
          (try dsimp only)
          have hr6 : @Ne Nat r (L' + 1 + 1 + 1 + 1 + 1 + 1) := news_ne N5 (.head _) (.tail _ (.head _)) (by rw [d1]; exact fun e => nomatch e)
          have hW6 : LLAre news6 ws5 (joinedRow (joinedTwo qs).1 (joinedTwo qs).2 left) := (((((hW5.drop_cell d1).drop_cell dct).drop_cell dmo).drop_cell dc).drop_cell d5).drop_cell d6
          clear hW5
          refine ex_eq (joinedRow (joinedTwo qs).1 (joinedTwo qs).2 left) fun rw9 hrw => ?_
          have ej : joinedI qs left = placedAll rw9 := by rw [hrw]; rfl
          rw [ej] at ret okj
          rw [← hrw] at hW6
          have hrl : rw9.length ≤ 100 := by
            rw [hrw]; unfold joinedRow mergedI
            split <;> simp only [foldLK_length, foldRK_length, List.length_reverse] <;> (unfold joinedLows joinedHighs; simp only [List.length_map, List.length_range]; omega)
          have hr2 : ∀ r ∈ rw9, r.length = 2 := by rw [hrw]; exact merged_two (joinedLow_two _ _) (joinedHigh_two _ _) left
          k_steps
          rename_i orw _ _ drw
          unfold Hold
          k_dflt (refine listComp_V (by k_asm) (by rfl) (by decide) (by rfl) (by decide) (by rfl) ?_)
          k_steps
          rename_i hR9 _ _ _ _
          k_dflt (refine' compIn_range (n := rw9.length) (σ := List (Addr × Obj)) (fun c => (r, listOf ws5.toArray nn5) :: (L' + 1 + 1 + 1 + 1 + 1 + 1, orw) :: (L' + 1 + 1 + 1 + 1 + 1, oct) :: (L' + 1 + 1 + 1 + 1, omo) :: (L' + 1 + 1 + 1, oc) :: (L' + 1 + 1, o5) :: (L' + 1, o6) :: (c ++ news6)) (fun i tk ys c => LLAre c ys (((List.range i).map (placed rw9)).map (lightI tot))) [] rfl ?F ?N (fun _ _ _ _ _ le h => h) .nil ?hz hR9 ?small ?size ?turn ?fin; (case F => assumption); (case N => exact news_sub (by assumption) (by kcf_all)))
          case hz => exact room_of (by omega)
          case small => exact small_one (by omega) (by omega) (by omega) (by omega)
          case size => (rw [rangeSize_nat]; omega)
          case turn =>
            intro I C D c i t ys h tk oI oC m₂ E' hIC hID hCD hv hJ hle hoC hm hap F1 N1
            have hok := okj (placed rw9 i) (List.mem_map.mpr ⟨i, List.mem_range.mpr hv, rfl⟩)
            have hk0 : 0 ≤ (rw9.getD (i : Int).toNat []).getD (Int.toNat 0) 0 := hok.k0
            have hk1 : (rw9.getD (i : Int).toNat []).getD (Int.toNat 0) 0 ≤ 2 := hok.k2
            have hs0 : 1 ≤ (rw9.getD (i : Int).toNat []).getD (Int.toNat 1) 0 + (i : Int) := hok.s1
            have hs1 : (rw9.getD (i : Int).toNat []).getD (Int.toNat 1) 0 + (i : Int) ≤ 63 := hok.s2
            refine ex_eq ([paintI tot 0, paintI tot 1, paintI tot 2]) fun P3 hP3 => ?_
            have hpi3 : LLAre cst pv P3 := by rw [hP3]; exact hpi
            have hP3l : P3.length = 3 := by rw [hP3]; rfl
            have hPe : P3.getD ((rw9.getD (i : Int).toNat []).getD (Int.toNat 0) 0).toNat [] = paintI tot ((rw9.getD (i : Int).toNat []).getD (Int.toNat 0) 0) := by rw [hP3]; exact paints_at hk0 hk1
            have hPl : (P3.getD ((rw9.getD (i : Int).toNat []).getD (Int.toNat 0) 0).toNat []).length = 3 := by rw [hPe]; exact paintI_len _ _
            have hpp7 := List.mem_append_right c (hB6 _ hpp)
            have hS5 : Sub cst (c ++ news6) := ⟨fun p hp => List.mem_append_right _ (hS6.of p hp)⟩
            rw [Int.zero_add] at hm
            dsimp only at hle hJ
            k_steps
            rename_i hof8 hof9
            have hel : List.map (fun k' => k' * ((rw9.getD (i : Int).toNat []).getD (Int.toNat 1) 0 + (i : Int))) (P3.getD ((rw9.getD (i : Int).toNat []).getD (Int.toNat 0) 0).toNat []) = lightI tot (placed rw9 i) := by rw [hPe]; rfl
            rename IntsAre _ (List.map _ _) => I9
            rw [hel] at I9
            exact elt_end ((_, _) :: c) (by assumption) (by assumption) (by kcf_m) (by kcf_m) (by kcf_m) (by dsimp only [List.cons_append]; kcf_all) (apart3_mid (pre := [_, _, _, _, _, _, _]) hap ⟨by k_ne, by k_ne, by k_ne⟩) (by rw [List.range_succ, List.map_append, List.map_append]; exact (hJ.mono (fun p hp => .tail _ hp)).append (LLAre.one (LIs.mk (.head _) I9)))
          case fin =>
            intro D c ys h tk hJ hle hoff F1 N1
            k_steps
            (rename News h₀ _ _ (_ :: _ :: _) => kN9)
            exact ret _ _ _ c _ _ hJ (by assumption) (news_sub kN9 ((all_cons (.head _) (fun p hp => .tail _ (.tail _ (.tail _ (.tail _ (.tail _ (.tail _ (.tail _ (.tail _ (by
              rcases List.mem_append.mp hp with hp | hp
              · exact List.mem_append_left _ hp
              · exact List.mem_append_right _ (hB6 p hp)))))))))))))
end
end Cjoined

theorem layCsums1 : True := by
  k_with_none
  k_with "memK" => (first | assumption | exact Sub.of (by assumption) _ (by assumption) | kd_lift)
  k_with "subl" => (first | exact fun _ hp => hp | exact sub_nil | (with_reducible refine sub_keep ?_; k_extra "subl") | (with_reducible refine sub_skip ?_; k_extra "subl"))
  k_with "kcf_all" => (first | exact all_nil | k_extra "subl" | (refine all_cons ?_ ?_; (focus kcf_m); kcf_all))
  k_with "mem" => (exact Sub.of (by assumption) _ (by assumption))
  k_with "is_list" => (first | exact News.isList (by assumption) (by assumption) | exact News.isList (by assumption) (Sub.of (by assumption) _ (by assumption)) | exact News.isList (by assumption) (by kd_lift))
  k_with "all" => (first | assumption | ((rename (∀ p : Addr × Obj, p ∈ _ → p.1 < _) => l9); intro p9 hp9; (have q9 := ltN (l9 p9 hp9)); refine neN ?_; omega) | exact all_nil | (apply all_cons; (k_ne); (k_all)))
  k_with "enter" => ((apply code_def; k_asm; k_asm; k_asm; k_asm; k_asm; exact rfl; exact rfl; (first | exact rfl | assumption); k_is; k_is; ktr_room; (exact BindsTo.of_eq rfl); (exact locs rfl); rotate_left; (exact rfl); (exact rfl); (exact rfl); decide; k_whole); intros; (try dsimp only); (try ((rename (Below _ _ _ _) => B9); k_lift B9; revert B9; intros)); (try k_fold))
  k_with "subscriptTail" => (k_here; (with_reducible show wpAny _ _ (subscriptTail _ _ (Value.ref _) (Value.int _ _)) _ _ _); (with_unfolding_all (apply ll_item; k_asm; k_memK; assumption; (first | kd_idx | (simp only [fdiv2]; omega)); (first | kd_idx | (simp only [fdiv2]; omega)); (first | kd_idx | (simp only [fdiv2]; omega)); (with_unfolding_all rfl); k_whole)); intros; (try (rename_i hr9; (have hw9 := row_len (by assumption) hr9); revert hr9 hw9; intros)))
  k_with "getItem ref int" => (k_here; (with_unfolding_all (apply ll_getItem; k_asm; k_memK; assumption; (first | kd_idx | (simp only [fdiv2]; omega)); (first | kd_idx | (simp only [fdiv2]; omega)); (first | kd_idx | (simp only [fdiv2]; omega)); k_whole)); intros; (try (rename_i hr9; (have hw9 := row_len (by assumption) hr9); revert hr9 hw9; intros)))
  k_with "call builtin:len" => (k_here; (with_reducible show wpAny _ _ (call (Value.builtin "len") [Value.ref _]) _ _ _); k_dflt (apply ll_len; k_asm; (first | assumption | k_memK | kd_lift); assumption; (first | omega | ((try simp only [List.length_append, List.length_cons, List.length_nil, List.length_map, List.length_reverse, rangeKs_length] at *); omega)); k_whole))
  k_with "compareOp Eq ref ref" => (k_here; (with_reducible show wpAny _ _ (compareOp CmpOp.Eq (Value.ref _) (Value.ref _)) _ _ _); (with_unfolding_all (apply eq_intsK; is_list; l_ints; is_list; l_ints; ktr_units; k_whole)))
  k_with "subscriptTail Name Slice ref ref" => (k_here; (with_reducible show wpAny _ _ (subscriptTail _ (PySem.Expr.Slice none none (some _) _) (Value.ref _) (Value.ref _)) _ _ _); k_dflt (apply rev_V; k_asm; k_asm; k_memK; (exact IsPart.int _ _); (with_unfolding_all rfl); kmk_pure; omega; k_whole); intros; (rename_i l9); (try k_lt l9); (try k_sweep); (try (revert l9; intros)))
  k_with "exec Assign" => (k_fold; walk_at "exec Assign")
  k_with "exec Expr" => (k_fold; walk_at "exec Expr")
  k_with "exec If" => (k_fold; walk_at "exec If")
  k_with "exec Return" => (k_fold; walk_at "exec Return")
  k_with "exec AugAssign" => (k_fold; walk_at "exec AugAssign")
  k_with "exec While" => (k_fold; walk_at "exec While")
  k_with "call ref" => (k_here; (with_reducible show wpAny _ _ (call (Value.ref 28) [Value.int _ _, Value.int _ _]) _ _ _); (with_reducible refine wpAny_with_toks (Nat.le_refl _) ?_); k_dflt (apply mul_ok; k_asm; k_asm; k_asm; k_asm; k_asm; (first | exact rfl | assumption); ktr_room; ktr_units; (omega); k_whole; intros; (try (rename_i a9 b9 c9 d9 e9; (try dsimp only at e9); (try dsimp only at a9); revert a9 b9 c9 d9 e9; intros)); (try k_sweep); (try dsimp only)))
  k_with "call ref" => (k_here; (with_reducible show wpAny _ _ (call (Value.ref 21) [Value.int _ _, Value.int _ _]) _ _ _); (with_reducible refine wpAny_with_toks (Nat.le_refl _) ?_); k_dflt (apply add_ok; k_asm; k_asm; k_asm; k_asm; k_asm; (first | exact rfl | assumption); ktr_room; ktr_units; k_whole; intros; (try (rename_i a9 b9 c9 d9 e9; (try dsimp only at e9); (try dsimp only at a9); revert a9 b9 c9 d9 e9; intros)); (try k_sweep); (try dsimp only)))
  k_with "call ref" => (k_here; (with_reducible show wpAny _ _ (call (Value.ref 35) [Value.int _ _, Value.int _ _]) _ _ _); (with_reducible refine wpAny_with_toks (Nat.le_refl _) ?_); k_dflt (apply sub_ok; k_asm; k_asm; k_asm; k_asm; k_asm; (first | exact rfl | assumption); ktr_room; ktr_units; k_whole; intros; (try (rename_i a9 b9 c9 d9 e9; (try dsimp only at e9); (try dsimp only at a9); revert a9 b9 c9 d9 e9; intros)); (try k_sweep); (try dsimp only)))
  trivial
section Csums
theorem layCsums2 : True := by
  k_with "exec For Name Name cons nil" => (k_here; k_dflt (refine wpAny_For ?_))
  k_with "exec For Name Call cons nil" => (k_here; k_dflt (refine wpAny_For ?_))
  k_with "exec For Name Subscript cons nil" => (k_here; k_dflt (refine wpAny_For ?_))
  k_with "exec For" => (k_here; k_dflt (refine wpAny_For ?_))
  k_with "execs cons Assign cons" => ((with_reducible refine wpAny_execs_cons ?_); (try dsimp only))
  k_with "last pyIter ref" => (refine Hold.mk ?_)
  k_with "call builtin:list.append" => (k_here; (with_reducible show wpAny _ _ (call (Value.builtin _) [Value.ref _, _]) _ _ _); k_dflt (apply append_V; k_asm; k_asm; k_upd; (omega); k_whole); intros; (try k_sweep))
  k_with "execs cons" => (k_here; (with_reducible show wpAny _ _ _ _ _ (Shared.mk _ _ _ (_ + _) _)); (refine gen_toks ?_); intros; (try (rename_i e9; simp only [List.length_cons, List.length_nil, Nat.zero_add] at e9; revert e9; intro _)))
  k_with "execs nil" => (k_here; (with_reducible show wpAny _ _ _ _ _ (Shared.mk _ _ _ (_ + _) _)); (refine gen_toks ?_); intros; (try (rename_i e9; simp only [List.length_cons, List.length_nil, Nat.zero_add] at e9; revert e9; intro _)))
  trivial
structure SumsSt where
  vs : List Value
  nn : Nat
  ms : List Int
section
variable {prog : Program} {w : World} {p : Program} {loose : List Str} {mean : ExcName → Option Value} {mg mb : Str → Option Value}
theorem sums_ok {dp un : Nat} {gd : Option (List Code)} {cn : Str} {cs : Scope} {a : Addr} {ccd : Value} {cl : List (Str × Addr)} {outer : List Env} {A₀ : Around} {base h₀ : Heap} {L : Addr} {m : Str → Option Value} {s : Shared} {Q E : Value → Shared → Prop} {news : List (Addr × Obj)} (B : Below A₀ base outer h₀) (F : Fr h₀ L s.heap m) (X : (hd.heap_1 w.params).In h₀) (N : News h₀ L s.heap news) (T : Top p loose mean mg mb h₀) (hk : cs.kind = .function) (hd1 : dp + 5 < recursionLimit) (hu : un + 100 < cLine)
   {l : Addr} {vs : List Value} {ns : List Int} (hl : h₀.IsList l vs.toArray) (hi : IntsAre vs ns) (hn : ns.length ≤ 1000)
   (ret : ∀ (t : Addr) ws ms nn' h' tk', IntsAre ws ms → ms.length = 12 → Fr h₀ L h' m → News h₀ L h' ((t, listOf ws.toArray nn') :: news) → (∀ p ∈ news, p.1 < t) → Q (.ref t) {s with heap := h', toks := tk'}) :
   wpAny (model prog w) (ktrTop dp un gd cn cs L a ccd cl outer) (call (.ref 99) [.ref l]) Q E s := by
  refine wpAny_call ?_
  k_dflt (refine' code_def (binds := [(Str.ofString "script", Value.ref l)]) ?k1 ?k2 ?k3 ?k4 ?k5 ?kA ?kF ?kK ?k6 ?k7 ?k8 ?k9 ?kB ?_ ?c2 ?c3 ?c4 ?c5; (case kA => exact rfl); (case kF => exact rfl); (case kK => assumption); (case k1 => k_asm); (case k2 => k_asm); (case k3 => k_asm); (case k4 => k_asm); (case k5 => k_asm); (case k6 => k_is); (case k7 => k_is); (case k8 => ktr_room); (case k9 => first | exact BindsTo.of_eq rfl | exact hbd _ _ _ _ rfl | (refine' kp_binds ?kx ?ke; (case kx => k_in); (case ke => exact fun _ => rfl))); (case c5 => decide); (case kB => exact locs rfl); (case c2 => exact rfl); (case c3 => exact rfl); (case c4 => exact rfl); k_whole; intro g' L' h' FG' F' N' B' X' T'; (try dsimp only); (try k_lift B'); (try k_fold))
  have hl2 : g'.IsList l vs.toArray := hl.at fun o e => FG'.keep _ o e
  k_steps
  rename_i q _ l9 _ F8 N8 _ _ h7 _ _ _ _ hR F9 N9 up9
  unfold Hold
  (with_unfolding_all refine' for_range (σ := SumsSt) (n := ns.length) (fun c => (q, listOf c.vs.toArray c.nn) :: news) (fun c => []) [Str.ofString "place"] (fun i tk c => IntsAre c.vs c.ms ∧ c.ms.length = 12) ⟨_, _, [16, 33, 24, 11, 34, 3, 28, 10, 12, 11, 19, 26]⟩ rfl hR ?small ?size (fun _ _ _ _ _ h => h) ?F ?N ?hk ?hj ?turn ?done ?hE)
  case F => assumption
  case N => exact N9
  case hk => kst_all
  case hj => exact ⟨by repeat (first | exact .nil | refine .cons _ _ ?_), rfl⟩
  case hE => passes_own
  case small => exact small_one (by omega) (by omega) (by omega) (by omega)
  case size => (rw [rangeSize_nat]; simp)
  case turn =>
    rintro ⟨ws, nw, ms⟩ i t u h tk I oI hv ⟨hA, hB⟩ hle hoff F1 N1
    have hvl := hi.length
    have hIq : @Ne Nat q I := hoff _ (.head _)
    dsimp only at hA hB hoff F1 N1
    dsimp only [kstB] at F1
    (try dsimp only)
    (try k_fold)
    rw [Int.zero_add]
    have hf0 : 0 ≤ (i : Int).fmod 12 := Int.fmod_nonneg_of_pos _ (by decide)
    have hf1 : (i : Int).fmod 12 < 12 := Int.fmod_lt_of_pos _ (by decide)
    k_steps
    refine' turn_end (SumsSt.mk _ _ _) (by assumption) (by assumption) ?tn ?tr ?tI ?ts ?to ?tj
    case ts => kcf_all
    case tn => exact fun p hp => nomatch hp
    case tr => ksw_same
    case tI => kcf_m
    case to => exact (all_cons hIq (fun p hp => hoff p (.tail _ hp)))
    case tj => exact ⟨by assumption, by rw [List.length_set]; exact hB⟩
  case done =>
    rintro ⟨ws, nw, ms⟩ u h tk ⟨hA, hB⟩ hle F1 N1
    dsimp only at hA hB F1 N1
    dsimp only [kstB] at F1
    (try dsimp only)
    (try k_fold)
    k_steps
    exact ret _ _ _ _ _ _ hA hB (by assumption) (by assumption) l9
end
end Csums


section Pmg
theorem bsr_at {xs : List Int} {x : Int} {k : Nat} (h1 : ∀ i, i < k → xs.getD i 0 ≤ x) (h2 : ∀ i, k ≤ i → i < xs.length → x < xs.getD i 0) (lo hi : Nat) (a : lo ≤ k) (b : k ≤ hi) (c : hi ≤ xs.length) : bsr xs x lo hi = k := by
  fun_induction bsr xs x lo hi with
  | case1 lo hi h3 h4 ih =>
    have hk : k ≤ (lo + hi) / 2 := by
      rcases Nat.lt_or_ge ((lo + hi) / 2) k with q | q
      · have := h1 _ q; omega
      · exact q
    exact ih a hk (by omega)
  | case2 lo hi h3 h4 ih =>
    have hk : (lo + hi) / 2 + 1 ≤ k := by
      rcases Nat.lt_or_ge ((lo + hi) / 2) k with q | q
      · omega
      · exact absurd (h2 _ q (by omega)) h4
    exact ih hk b c
  | case3 lo hi h3 => omega
theorem bsl_at {xs : List Int} {x : Int} {k : Nat} (h1 : ∀ i, i < k → xs.getD i 0 < x) (h2 : ∀ i, k ≤ i → i < xs.length → x ≤ xs.getD i 0) (lo hi : Nat) (a : lo ≤ k) (b : k ≤ hi) (c : hi ≤ xs.length) : bsl xs x lo hi = k := by
  fun_induction bsl xs x lo hi with
  | case1 lo hi h3 h4 ih =>
    have hk : (lo + hi) / 2 + 1 ≤ k := by
      rcases Nat.lt_or_ge ((lo + hi) / 2) k with q | q
      · omega
      · have := h2 _ q (by omega); omega
    exact ih hk b c
  | case2 lo hi h3 h4 ih =>
    have hk : k ≤ (lo + hi) / 2 := by
      rcases Nat.lt_or_ge ((lo + hi) / 2) k with q | q
      · exact absurd (h1 _ q) h4
      · exact q
    exact ih a hk (by omega)
  | case3 lo hi h3 => omega
theorem getD_app_l {a b : List Int} {i : Nat} (h : i < a.length) : (a ++ b).getD i 0 = a.getD i 0 := by
  rw [List.getD_eq_getElem?_getD, List.getD_eq_getElem?_getD, List.getElem?_append_left h]
theorem getD_app_r {a b : List Int} {i : Nat} (h : a.length ≤ i) : (a ++ b).getD i 0 = b.getD (i - a.length) 0 := by
  rw [List.getD_eq_getElem?_getD, List.getD_eq_getElem?_getD, List.getElem?_append_right h]
theorem getD_all {p : Int → Prop} {a : List Int} (h : ∀ x ∈ a, p x) {i : Nat} (hi : i < a.length) : p (a.getD i 0) := by
  rw [List.getD_eq_getElem?_getD, List.getElem?_eq_getElem hi]
  exact h _ (List.getElem_mem hi)
theorem bsr_mid {a b : List Int} {x : Int} (h1 : ∀ y ∈ a, y ≤ x) (h2 : ∀ y ∈ b, x < y) : bsr (a ++ b) x 0 (a ++ b).length = a.length := by
  refine bsr_at (fun i hi => ?_) (fun i hi hi2 => ?_) 0 _ (Nat.zero_le _) (by simp) (Nat.le_refl _)
  · rw [getD_app_l hi]; exact getD_all (p := fun y => y ≤ x) h1 hi
  · rw [List.length_append] at hi2
    rw [getD_app_r hi]; exact getD_all (p := fun y => x < y) h2 (by omega)
theorem bsl_mid {a b : List Int} {x : Int} (h1 : ∀ y ∈ a, y < x) (h2 : ∀ y ∈ b, x ≤ y) : bsl (a ++ b) x 0 (a ++ b).length = a.length := by
  refine bsl_at (fun i hi => ?_) (fun i hi hi2 => ?_) 0 _ (Nat.zero_le _) (by simp) (Nat.le_refl _)
  · rw [getD_app_l hi]; exact getD_all (p := fun y => y < x) h1 hi
  · rw [List.length_append] at hi2
    rw [getD_app_r hi]; exact getD_all (p := fun y => x ≤ y) h2 (by omega)
theorem insV_mid {α : Type} (a b : List α) (q : α) : insV (a ++ b) a.length q = a ++ q :: b := by
  unfold insV; rw [List.take_left', List.drop_left'] <;> rfl
theorem insR_mid {a b : List Int} {x : Int} (h1 : ∀ y ∈ a, y ≤ x) (h2 : ∀ y ∈ b, x < y) : insR (a ++ b) x = a ++ x :: b := by
  unfold insR; rw [bsr_mid h1 h2, insV_mid]
theorem insL_mid {a b : List Int} {x : Int} (h1 : ∀ y ∈ a, y < x) (h2 : ∀ y ∈ b, x ≤ y) : insL (a ++ b) x = a ++ x :: b := by
  unfold insL; rw [bsl_mid h1 h2, insV_mid]
/-- a part's key -/
noncomputable abbrev key2 (q : List Int) : Int := q.getD 1 0
theorem insRK_mid {a b : List (List Int)} {q : List Int} (h1 : ∀ y ∈ a, key2 y ≤ key2 q) (h2 : ∀ y ∈ b, key2 q < key2 y) : insRK (a ++ b) q = a ++ q :: b := by
  unfold insRK
  have e : keysOf (a ++ b) = keysOf a ++ keysOf b := List.map_append
  have hl : (a ++ b).length = (keysOf a ++ keysOf b).length := by rw [← e, keysOf_length]
  rw [e, hl, bsr_mid (fun y hy => by obtain ⟨r, hr, rfl⟩ := List.mem_map.mp hy; exact h1 r hr) (fun y hy => by obtain ⟨r, hr, rfl⟩ := List.mem_map.mp hy; exact h2 r hr), keysOf_length, insV_mid]
theorem insLK_mid {a b : List (List Int)} {q : List Int} (h1 : ∀ y ∈ a, key2 y < key2 q) (h2 : ∀ y ∈ b, key2 q ≤ key2 y) : insLK (a ++ b) q = a ++ q :: b := by
  unfold insLK
  have e : keysOf (a ++ b) = keysOf a ++ keysOf b := List.map_append
  have hl : (a ++ b).length = (keysOf a ++ keysOf b).length := by rw [← e, keysOf_length]
  rw [e, hl, bsl_mid (fun y hy => by obtain ⟨r, hr, rfl⟩ := List.mem_map.mp hy; exact h1 r hr) (fun y hy => by obtain ⟨r, hr, rfl⟩ := List.mem_map.mp hy; exact h2 r hr), keysOf_length, insV_mid]
/-- a high part: the first paint alone -/
noncomputable abbrev isHi (q : List Int) : Bool := q.getD 0 0 == 0
/-- x may stand ahead of y: below it, or beside it with the lows first -/
noncomputable def Ahead (x y : List Int) : Prop := key2 x < key2 y ∨ (key2 x = key2 y ∧ (isHi x = true → isHi y = true))
theorem merged_right : ∀ (u p : List (List Int)), (p ++ u).Pairwise Ahead → (u.filter isHi).foldl insRK (p ++ u.filter fun q => !isHi q) = p ++ u
  | [], p, _ => by simp
  | x :: u, p, h => by
    have ih := merged_right u (p ++ [x]) (by rw [List.append_assoc]; exact h)
    obtain ⟨hp, hu, hpu⟩ := List.pairwise_append.mp h
    have hxu := (List.pairwise_cons.mp hu).1
    cases e : isHi x with
    | true =>
      rw [List.filter_cons_of_pos (p := isHi) e, List.filter_cons_of_neg (p := fun q => !isHi q) (by rw [e]; decide), List.foldl_cons]
      rw [insRK_mid]
      · rw [List.append_assoc, List.append_assoc] at ih; exact ih
      · intro y hy
        rcases hpu y hy x (.head _) with k | k
        · exact Int.le_of_lt k
        · exact Int.le_of_eq k.1
      · intro y hy
        obtain ⟨hy1, hy2⟩ := List.mem_filter.mp hy
        rcases hxu y hy1 with k | k
        · exact k
        · rw [k.2 e] at hy2; cases hy2
    | false =>
      rw [List.filter_cons_of_neg (p := isHi) (by rw [e]; decide), List.filter_cons_of_pos (p := fun q => !isHi q) (by rw [e]; rfl)]
      rw [List.append_assoc, List.append_assoc] at ih; exact ih
theorem merged_left : ∀ (p u : List (List Int)), (p.reverse ++ u).Pairwise Ahead → (p.filter fun q => !isHi q).foldl insLK ((p.filter isHi).reverse ++ u) = p.reverse ++ u
  | [], u, _ => by simp
  | x :: p, u, h => by
    rw [List.reverse_cons, List.append_assoc] at h
    obtain ⟨hp, hu, hpu⟩ := List.pairwise_append.mp h
    have hxu := (List.pairwise_cons.mp hu).1
    have ih := merged_left p (x :: u) h
    cases e : isHi x with
    | true =>
      rw [List.filter_cons_of_pos (p := isHi) e, List.filter_cons_of_neg (p := fun q => !isHi q) (by rw [e]; decide), List.reverse_cons, List.append_assoc, List.reverse_cons, List.append_assoc]
      exact ih
    | false =>
      rw [List.filter_cons_of_neg (p := isHi) (by rw [e]; decide), List.filter_cons_of_pos (p := fun q => !isHi q) (by rw [e]; rfl), List.foldl_cons, List.reverse_cons, List.append_assoc, insLK_mid]
      · exact ih
      · intro y hy
        obtain ⟨hy1, hy2⟩ := List.mem_filter.mp (List.mem_reverse.mp hy)
        rcases hpu y (List.mem_reverse.mpr hy1) x (.head _) with k | k
        · exact k
        · rw [k.2 hy2] at e; cases e
      · intro y hy
        rcases hxu y hy with k | k
        · exact Int.le_of_lt k
        · exact Int.le_of_eq k.1
/-- the merge of an ordered row's lows and highs is the row -/
theorem merged_ordered {S : List (List Int)} (h : S.Pairwise Ahead) (b : Bool) : mergedI (S.filter fun q => !isHi q) (S.filter isHi) b = S := by
  unfold mergedI
  split
  · have := merged_left S.reverse [] (by simpa using h)
    rw [List.reverse_reverse, List.append_nil, List.append_nil, List.filter_reverse, List.filter_reverse, List.reverse_reverse] at this
    exact this
  · exact merged_right S [] (by simpa using h)

end Pmg

section Ppm
/-- _law_parted's second loop over the unplaced row -/
noncomputable def pmid (most : Int) (c : List Int × List Int × List Int) : List (List Int) → List Int × List Int × List Int
  | [] => c
  | q :: S => pmid most (if q.getD 0 0 = 0 then (c.1, c.2.1 ++ [key2 q + (most + c.2.1.length)], c.2.2)
      else (if q.getD 0 0 = 1 then insL c.1 (most - c.2.2.length) else c.1, c.2.1, c.2.2 ++ [key2 q + c.2.2.length])) S
noncomputable def largeFrom (m : Int) : Nat → List (List Int) → List Int
  | _, [] => []
  | j, q :: H => (key2 q + (m + j)) :: largeFrom m (j + 1) H
noncomputable def othersFrom : Nat → List (List Int) → List Int
  | _, [] => []
  | p, q :: L => (key2 q + p) :: othersFrom (p + 1) L
noncomputable def smallFrom (m : Int) : Nat → List Int → List (List Int) → List Int
  | _, c, [] => c
  | p, c, q :: L => smallFrom m (p + 1) (if q.getD 0 0 = 1 then insL c (m - p) else c) L
theorem pmid_split (m : Int) : ∀ (S : List (List Int)) (c : List Int × List Int × List Int),
    pmid m c S = (smallFrom m c.2.2.length c.1 (S.filter fun q => !isHi q), c.2.1 ++ largeFrom m c.2.1.length (S.filter isHi), c.2.2 ++ othersFrom c.2.2.length (S.filter fun q => !isHi q))
  | [], c => by simp [pmid, smallFrom, largeFrom, othersFrom]
  | q :: S, c => by
    unfold pmid
    rw [pmid_split m S]
    by_cases e : q.getD 0 0 = 0
    · have e1 : isHi q = true := by simpa [isHi] using e
      rw [if_pos e, List.filter_cons_of_pos (p := isHi) e1, List.filter_cons_of_neg (p := fun q => !isHi q) (by rw [e1]; decide)]
      simp only [List.length_append, List.length_cons, List.length_nil, largeFrom, List.append_assoc, List.cons_append, List.nil_append]
    · have e1 : isHi q = false := by simpa [isHi] using e
      rw [if_neg e, List.filter_cons_of_neg (p := isHi) (by rw [e1]; decide), List.filter_cons_of_pos (p := fun q => !isHi q) (by rw [e1]; rfl)]
      simp only [List.length_append, List.length_cons, List.length_nil, othersFrom, smallFrom, List.append_assoc, List.cons_append, List.nil_append]
theorem placedAll_len (S : List (List Int)) : (placedAll S).length = S.length := by simp [placedAll]
theorem placedAll_get (S : List (List Int)) {i : Nat} (h : i < S.length) : (placedAll S).getD i [] = [(S.getD i []).getD 0 0, (S.getD i []).getD 1 0 + i] := by
  unfold placedAll
  rw [List.getD_eq_getElem?_getD, List.getElem?_map, List.getElem?_range h]; rfl
theorem partedMidAt_pmid (S : List (List Int)) : ∀ k, k ≤ S.length → pmid (partedMost (placedAll S)) (partedMidAt (placedAll S) (S.length - k)) (S.drop (S.length - k)) = partedMidAt (placedAll S) S.length
  | 0, _ => by simp [pmid]
  | k + 1, h => by
    have ih := partedMidAt_pmid S k (by omega)
    have hi : S.length - (k + 1) < S.length := by omega
    have e : S.drop (S.length - (k + 1)) = S.getD (S.length - (k + 1)) [] :: S.drop (S.length - k) := by
      rw [List.drop_eq_getElem_cons hi, List.getD_eq_getElem?_getD, List.getElem?_eq_getElem hi, show S.length - (k + 1) + 1 = S.length - k by omega]; rfl
    rw [e, pmid, ← ih, show S.length - k = (S.length - (k + 1)) + 1 by omega, partedMidAt_succ, partedStep, placedAll_get S hi]
    have e2 : ∀ x y : Int, [x, y].getD 0 0 = x := fun _ _ => rfl
    have e3 : ∀ x y : Int, [x, y].getD 1 0 = y := fun _ _ => rfl
    simp only [e2, e3, Int.add_sub_cancel]
theorem partedMid_placed (S : List (List Int)) : partedMid (placedAll S) = (smallFrom (partedMost (placedAll S)) 0 [] (S.filter fun q => !isHi q), largeFrom (partedMost (placedAll S)) 0 (S.filter isHi), othersFrom 0 (S.filter fun q => !isHi q)) := by
  have h := partedMidAt_pmid S S.length (Nat.le_refl _)
  rw [Nat.sub_self, List.drop_zero, pmid_split] at h
  unfold partedMid
  rw [placedAll_len]
  exact h.symm

end Ppm

section Psm
noncomputable abbrev isMix (q : List Int) : Bool := q.getD 0 0 == 1
noncomputable def stepsOf (m : Int) : Nat → List (List Int) → List Int
  | _, [] => []
  | p, q :: L => if q.getD 0 0 = 1 then (m - p) :: stepsOf m (p + 1) L else stepsOf m (p + 1) L
theorem stepsOf_le (m : Int) : ∀ (L : List (List Int)) (p : Nat), ∀ y ∈ stepsOf m p L, y ≤ m - p
  | [], _, y, h => nomatch h
  | q :: L, p, y, h => by
    unfold stepsOf at h
    split at h
    · rcases List.mem_cons.mp h with rfl | h
      · omega
      · have := stepsOf_le m L (p + 1) y h; omega
    · have := stepsOf_le m L (p + 1) y h; omega
theorem stepsOf_gt (m : Int) : ∀ (L : List (List Int)) (p : Nat), ∀ y ∈ stepsOf m p L, m - p - L.length < y
  | [], _, y, h => nomatch h
  | q :: L, p, y, h => by
    unfold stepsOf at h
    rw [List.length_cons]
    split at h
    · rcases List.mem_cons.mp h with rfl | h
      · omega
      · have := stepsOf_gt m L (p + 1) y h; omega
    · have := stepsOf_gt m L (p + 1) y h; omega
theorem stepsOf_len (m : Int) : ∀ (L : List (List Int)) (p : Nat), (stepsOf m p L).length = (L.filter isMix).length
  | [], _ => rfl
  | q :: L, p => by
    unfold stepsOf
    by_cases e : q.getD 0 0 = 1
    · rw [if_pos e, List.filter_cons_of_pos (by simpa [isMix] using e), List.length_cons, List.length_cons, stepsOf_len m L]
    · rw [if_neg e, List.filter_cons_of_neg (by simpa [isMix] using e), stepsOf_len m L]
theorem stepsOf_app (m : Int) : ∀ (L K : List (List Int)) (p : Nat), stepsOf m p (L ++ K) = stepsOf m p L ++ stepsOf m (p + L.length) K
  | [], K, p => rfl
  | q :: L, K, p => by
    rw [List.cons_append, stepsOf, stepsOf, stepsOf_app m L K (p + 1), List.length_cons, show p + 1 + L.length = p + (L.length + 1) by omega]
    split <;> rfl
theorem smallFrom_eq (m : Int) : ∀ (L : List (List Int)) (p : Nat) (c : List Int), (∀ y ∈ c, m - p < y) → smallFrom m p c L = (stepsOf m p L).reverse ++ c
  | [], _, c, _ => rfl
  | q :: L, p, c, h => by
    unfold smallFrom stepsOf
    by_cases e : q.getD 0 0 = 1
    · rw [if_pos e, if_pos e, show insL c (m - p) = (m - p) :: c from insL_mid (a := []) (fun y hy => nomatch hy) (fun y hy => Int.le_of_lt (h y hy))]
      rw [smallFrom_eq m L (p + 1) _ (fun y hy => by
        rcases List.mem_cons.mp hy with rfl | hy
        · omega
        · have := h y hy; omega)]
      simp
    · rw [if_neg e, if_neg e]
      exact smallFrom_eq m L (p + 1) _ (fun y hy => by have := h y hy; omega)
theorem steps_bsl (m : Int) (L : List (List Int)) {p : Nat} (h : p < L.length) : ((stepsOf m 0 L).reverse.length : Int) - (bsl (stepsOf m 0 L).reverse (m - p) 0 (stepsOf m 0 L).reverse.length : Nat) = ((L.take (p + 1)).filter isMix).length := by
  have e : stepsOf m 0 L = stepsOf m 0 (L.take (p + 1)) ++ stepsOf m (p + 1) (L.drop (p + 1)) := by
    conv => lhs; rw [← List.take_append_drop (p + 1) L]
    rw [stepsOf_app, List.length_take, Nat.min_eq_left (by omega), Nat.zero_add]
  rw [e, List.reverse_append, bsl_mid, List.length_append, List.length_reverse, List.length_reverse, stepsOf_len m (L.take (p + 1)) 0]
  · omega
  · intro y hy
    have := stepsOf_le m _ _ y (List.mem_reverse.mp hy); omega
  · intro y hy
    have := stepsOf_gt m _ _ y (List.mem_reverse.mp hy)
    rw [List.length_take] at this; omega
/-- a list whose every place is changed once -/
theorem foldl_set (f : Nat → Int) (o : List Int) : ∀ n, n ≤ o.length → (List.range n).foldl (fun c i => c.set i (c.getD i 0 - f i)) o = (o.take n).mapIdx (fun i x => x - f i) ++ o.drop n
  | 0, _ => by simp
  | n + 1, h => by
    rw [List.range_succ, List.foldl_append, foldl_set f o n (by omega)]
    show List.set _ n _ = _
    have hl : ((o.take n).mapIdx (fun i x => x - f i)).length = n := by simp; omega
    have hd : o.drop n = o.getD n 0 :: o.drop (n + 1) := by
      rw [List.drop_eq_getElem_cons (by omega), List.getD_eq_getElem?_getD, List.getElem?_eq_getElem (by omega)]; rfl
    have ht : o.take (n + 1) = o.take n ++ [o.getD n 0] := by
      rw [List.take_add_one, List.getD_eq_getElem?_getD, List.getElem?_eq_getElem (by omega)]; rfl
    have hg : ((o.take n).mapIdx (fun i x => x - f i) ++ o.drop n).getD n 0 = o.getD n 0 := by
      rw [getD_app_r (by omega), hl, Nat.sub_self, hd]; rfl
    rw [hg, hd, List.set_append_right _ _ (by omega), hl, Nat.sub_self, List.set_cons_zero, ht, List.mapIdx_append, List.length_take, Nat.min_eq_left (by omega), List.append_assoc]
    simp

end Psm

section Ppo
theorem othersFrom_eq : ∀ (L : List (List Int)) (p : Nat), othersFrom p L = L.mapIdx (fun i q => key2 q + ((p + i : Nat) : Int))
  | [], _ => by simp [othersFrom]
  | q :: L, p => by
    rw [othersFrom, othersFrom_eq L (p + 1), List.mapIdx_cons]
    congr 1
    congr 1
    funext i r
    rw [show p + 1 + i = p + (i + 1) by omega]
theorem largeFrom_eq (m : Int) : ∀ (L : List (List Int)) (p : Nat), largeFrom m p L = L.mapIdx (fun i q => key2 q + (m + ((p + i : Nat) : Int)))
  | [], _ => by simp [largeFrom]
  | q :: L, p => by
    rw [largeFrom, largeFrom_eq m L (p + 1), List.mapIdx_cons]
    congr 1
    congr 1
    funext i r
    rw [show p + 1 + i = p + (i + 1) by omega]
theorem count_kinds : ∀ S : List (List Int), (S.map fun r => r.getD 0 0).count 0 + (S.filter fun q => !isHi q).length = S.length
  | [] => rfl
  | q :: S => by
    have ih := count_kinds S
    by_cases e : q.getD 0 0 = 0
    · have e1 : isHi q = true := by simpa [isHi] using e
      rw [List.filter_cons_of_neg (p := fun q => !isHi q) (by rw [e1]; decide), List.map_cons, e, List.count_cons_self, List.length_cons]; omega
    · have e1 : isHi q = false := by simpa [isHi] using e
      rw [List.filter_cons_of_pos (p := fun q => !isHi q) (by rw [e1]; rfl), List.map_cons, List.count_cons_of_ne (by simpa using e), List.length_cons, List.length_cons]; omega
theorem placed_kinds (S : List (List Int)) : ((placedAll S).map fun r => r.getD 0 0) = S.map fun r => r.getD 0 0 := by
  apply List.ext_getElem
  · simp [placedAll]
  · intro i h1 h2
    have hi : i < S.length := by simpa using h2
    have := placedAll_get S hi
    simp only [List.getElem_map]
    have e1 : (placedAll S)[i]'(by rw [placedAll_len]; exact hi) = (placedAll S).getD i [] := by rw [List.getD_eq_getElem?_getD, List.getElem?_eq_getElem]; rfl
    have e2 : S[i] = S.getD i [] := by rw [List.getD_eq_getElem?_getD, List.getElem?_eq_getElem hi]; rfl
    rw [e1, this, e2]; rfl
theorem partedMost_placed (S : List (List Int)) : partedMost (placedAll S) = ((S.filter fun q => !isHi q).length : Nat) := by
  unfold partedMost
  rw [placed_kinds, placedAll_len]
  have := count_kinds S
  omega
/-- _law_parted of a row, told by its lows and highs -/
theorem partedOf_placed (S : List (List Int)) : partedOf (placedAll S) =
    ((stepsOf ((S.filter fun q => !isHi q).length : Nat) 0 (S.filter fun q => !isHi q)).reverse ++ largeFrom ((S.filter fun q => !isHi q).length : Nat) 0 (S.filter isHi),
     (S.filter fun q => !isHi q).mapIdx fun p q => key2 q + (p : Int) - ((((S.filter fun q => !isHi q).take (p + 1)).filter isMix).length : Nat)) := by
  unfold partedOf
  rw [partedMid_placed, partedMost_placed]
  generalize (S.filter fun q => !isHi q) = lo
  have hs : smallFrom ((lo.length : Nat) : Int) 0 [] lo = (stepsOf (lo.length : Nat) 0 lo).reverse := by
    rw [smallFrom_eq _ lo 0 [] (fun y hy => absurd hy (by simp)), List.append_nil]
  rw [hs]
  refine Prod.ext rfl ?_
  show (List.range ((lo.length : Nat) : Int).toNat).foldl (fun c i => c.set i (c.getD i 0 - (((stepsOf (lo.length : Nat) 0 lo).reverse.length : Int) - (bsl (stepsOf (lo.length : Nat) 0 lo).reverse ((lo.length : Nat) - (i : Int)) 0 (stepsOf (lo.length : Nat) 0 lo).reverse.length : Nat)))) (othersFrom 0 lo) = _
  have hol : (othersFrom 0 lo).length = lo.length := by rw [othersFrom_eq]; simp
  rw [Int.toNat_natCast, foldl_set (fun i => ((stepsOf (lo.length : Nat) 0 lo).reverse.length : Int) - (bsl (stepsOf (lo.length : Nat) 0 lo).reverse ((lo.length : Nat) - (i : Int)) 0 (stepsOf (lo.length : Nat) 0 lo).reverse.length : Nat)) _ _ (by rw [hol]; exact Nat.le_refl _), List.drop_eq_nil_of_le (by rw [hol]; exact Nat.le_refl _), List.append_nil, List.take_of_length_le (by rw [hol]; exact Nat.le_refl _), othersFrom_eq]
  apply List.ext_getElem
  · simp
  · intro i h1 h2
    have hi : i < lo.length := by simpa using h2
    simp only [List.getElem_mapIdx, Nat.zero_add]
    rw [steps_bsl _ _ hi]

end Ppo

section Prw
theorem getD_elem {α : Type} (l : List α) (d : α) {i : Nat} (h : i < l.length) : l.getD i d = l[i] := by
  rw [List.getD_eq_getElem?_getD, List.getElem?_eq_getElem h]; rfl
theorem row_up : ∀ (u p : List (List Int)), (p ++ u).Pairwise (fun x y => key2 x < key2 y) → u.foldl insRK p = p ++ u
  | [], p, _ => by simp
  | x :: u, p, h => by
    have ih := row_up u (p ++ [x]) (by rw [List.append_assoc]; exact h)
    obtain ⟨_, _, hpu⟩ := List.pairwise_append.mp h
    have e : insRK p x = p ++ [x] := by
      have := insRK_mid (a := p) (b := []) (q := x) (fun y hy => Int.le_of_lt (hpu y hy x (.head _))) (fun y hy => absurd hy (by simp))
      rw [List.append_nil] at this; exact this
    rw [List.foldl_cons, e, ih, List.append_assoc]; rfl
theorem row_down : ∀ (u p : List (List Int)), (u.reverse ++ p).Pairwise (fun x y => key2 x < key2 y) → u.foldl insRK p = u.reverse ++ p
  | [], p, _ => by simp
  | x :: u, p, h => by
    rw [List.reverse_cons, List.append_assoc] at h
    have ih := row_down u (x :: p) h
    obtain ⟨_, hu, _⟩ := List.pairwise_append.mp h
    have hx := (List.pairwise_cons.mp hu).1
    have e : insRK p x = x :: p := insRK_mid (a := []) (b := p) (q := x) (fun y hy => absurd hy (by simp)) hx
    rw [List.foldl_cons, e, ih, List.reverse_cons, List.append_assoc]; rfl
theorem partedRow_up {T : List (List Int)} (h : T.Pairwise (fun x y => key2 x < key2 y)) : partedRow T = T := row_up T [] h
theorem partedRow_down {T : List (List Int)} (h : T.Pairwise (fun x y => key2 x < key2 y)) : partedRow T.reverse = T := by
  have := row_down T.reverse [] (by simpa using h)
  rw [List.reverse_reverse, List.append_nil] at this
  exact this
/-- an ordered row's sizes rise -/
theorem placed_up {S : List (List Int)} (h : S.Pairwise Ahead) : (placedAll S).Pairwise (fun x y => key2 x < key2 y) := by
  rw [List.pairwise_iff_getElem] at h ⊢
  intro i j hi hj hij
  rw [placedAll_len] at hi hj
  have e : ∀ {k : Nat} (hk : k < S.length), (placedAll S)[k]'(by rw [placedAll_len]; exact hk) = [(S[k]).getD 0 0, (S[k]).getD 1 0 + k] := fun {k} hk => by
    rw [← getD_elem (placedAll S) [] (by rw [placedAll_len]; exact hk), placedAll_get S hk, getD_elem S [] hk]
  rw [e hi, e hj]
  have hk : (S[i]).getD 1 0 ≤ (S[j]).getD 1 0 := by
    rcases h i j hi hj hij with k | k
    · exact Int.le_of_lt k
    · exact Int.le_of_eq k.1
  show (S[i]).getD 1 0 + (i : Int) < (S[j]).getD 1 0 + (j : Int)
  omega
/-- the rising sort by insL and insR -/
theorem insL_perm (c : List Int) (x : Int) : (insL c x).Perm (x :: c) := by
  unfold insL insV
  refine List.perm_middle.trans (List.Perm.cons x ?_)
  rw [List.take_append_drop]
theorem insR_perm (c : List Int) (x : Int) : (insR c x).Perm (x :: c) := by
  unfold insR insV
  refine List.perm_middle.trans (List.Perm.cons x ?_)
  rw [List.take_append_drop]
theorem sorted_split (c : List Int) (x : Int) (h : c.Pairwise (fun a b => a ≤ b)) : ∃ a b, c = a ++ b ∧ (∀ y ∈ a, y < x) ∧ ∀ y ∈ b, x ≤ y := by
  induction c with
  | nil => exact ⟨[], [], rfl, (fun y hy => absurd hy (by simp)), fun y hy => absurd hy (by simp)⟩
  | cons z c ih =>
    obtain ⟨hz, hc⟩ := List.pairwise_cons.mp h
    by_cases e : z < x
    · obtain ⟨a, b, e1, e2, e3⟩ := ih hc
      exact ⟨z :: a, b, by rw [e1]; rfl, (all_cons e e2), e3⟩
    · exact ⟨[], z :: c, rfl, (fun y hy => absurd hy (by simp)), (all_cons (by omega) (fun y hy => by have := hz y hy; omega))⟩
theorem insL_sorted {c : List Int} {x : Int} (h : c.Pairwise (fun a b => a ≤ b)) : (insL c x).Pairwise (fun a b => a ≤ b) := by
  obtain ⟨a, b, rfl, h1, h2⟩ := sorted_split c x h
  rw [insL_mid h1 h2]
  obtain ⟨ha, hb, hab⟩ := List.pairwise_append.mp h
  refine List.pairwise_append.mpr ⟨ha, List.pairwise_cons.mpr ⟨h2, hb⟩, fun y hy z hz => ?_⟩
  rcases List.mem_cons.mp hz with rfl | hz
  · exact Int.le_of_lt (h1 y hy)
  · exact hab y hy z hz
theorem sorted_splitR (c : List Int) (x : Int) (h : c.Pairwise (fun a b => a ≤ b)) : ∃ a b, c = a ++ b ∧ (∀ y ∈ a, y ≤ x) ∧ ∀ y ∈ b, x < y := by
  obtain ⟨a, b, e, h1, h2⟩ := sorted_split c (x + 1) h
  exact ⟨a, b, e, fun y hy => by have := h1 y hy; omega, fun y hy => by have := h2 y hy; omega⟩
theorem insR_sorted {c : List Int} {x : Int} (h : c.Pairwise (fun a b => a ≤ b)) : (insR c x).Pairwise (fun a b => a ≤ b) := by
  obtain ⟨a, b, rfl, h1, h2⟩ := sorted_splitR c x h
  rw [insR_mid h1 h2]
  obtain ⟨ha, hb, hab⟩ := List.pairwise_append.mp h
  refine List.pairwise_append.mpr ⟨ha, List.pairwise_cons.mpr ⟨fun y hy => Int.le_of_lt (h2 y hy), hb⟩, fun y hy z hz => ?_⟩
  rcases List.mem_cons.mp hz with rfl | hz
  · exact h1 y hy
  · exact hab y hy z hz
theorem joinedTwo_spec (qs : List (List Int)) : ∀ c : List Int × List Int, c.1.Pairwise (fun a b => a ≤ b) → c.2.Pairwise (fun a b => a ≤ b) →
    ((qs.foldl joinedStep c).1.Perm (c.1 ++ (qs.filter isHi).map key2) ∧ (qs.foldl joinedStep c).1.Pairwise (fun a b => a ≤ b)) ∧
    ((qs.foldl joinedStep c).2.Perm (c.2 ++ (qs.filter fun q => !isHi q).map key2) ∧ (qs.foldl joinedStep c).2.Pairwise (fun a b => a ≤ b)) := by
  induction qs with
  | nil => intro c h1 h2; simp [h1, h2]
  | cons q qs ih =>
    intro c h1 h2
    rw [List.foldl_cons]
    by_cases e : q.getD 0 0 = 0
    · have e1 : isHi q = true := by simpa [isHi] using e
      rw [List.filter_cons_of_pos (p := isHi) e1, List.filter_cons_of_neg (p := fun q => !isHi q) (by rw [e1]; decide)]
      have := ih (joinedStep c q) (by rw [joinedStep, if_pos e]; exact insL_sorted h1) (by rw [joinedStep, if_pos e]; exact h2)
      rw [show (joinedStep c q).1 = insL c.1 (q.getD 1 0) by rw [joinedStep, if_pos e], show (joinedStep c q).2 = c.2 by rw [joinedStep, if_pos e]] at this
      refine ⟨⟨this.1.1.trans ?_, this.1.2⟩, this.2⟩
      rw [List.map_cons]
      exact ((insL_perm _ _).append_right _).trans List.perm_middle.symm
    · have e1 : isHi q = false := by simpa [isHi] using e
      rw [List.filter_cons_of_neg (p := isHi) (by rw [e1]; decide), List.filter_cons_of_pos (p := fun q => !isHi q) (by rw [e1]; rfl)]
      have := ih (joinedStep c q) (by rw [joinedStep, if_neg e]; exact h1) (by rw [joinedStep, if_neg e]; exact insR_sorted h2)
      rw [show (joinedStep c q).1 = c.1 by rw [joinedStep, if_neg e], show (joinedStep c q).2 = insR c.2 (q.getD 1 0) by rw [joinedStep, if_neg e]] at this
      refine ⟨this.1, ⟨this.2.1.trans ?_, this.2.2⟩⟩
      rw [List.map_cons]
      exact ((insR_perm _ _).append_right _).trans List.perm_middle.symm
/-- two rising lists of the same ints are one -/
theorem sorted_eq : ∀ {a b : List Int}, a.Perm b → a.Pairwise (fun x y => x ≤ y) → b.Pairwise (fun x y => x ≤ y) → a = b := by
  intro a b h ha hb
  exact h.eq_of_pairwise (fun x y _ _ h1 h2 => Int.le_antisymm h1 h2) ha hb

end Prw

section Pmx
/-- the plain merge of lows and highs -/
noncomputable def mg : List (List Int) → List (List Int) → List (List Int)
  | [], H => H
  | l :: L, [] => l :: L
  | l :: L, h :: H => if key2 l ≤ key2 h then l :: mg L (h :: H) else h :: mg (l :: L) H
termination_by L H => L.length + H.length
theorem mg_mem {x : List Int} (L H : List (List Int)) (h : x ∈ mg L H) : x ∈ L ∨ x ∈ H := by
  fun_induction mg L H with
  | case1 H => exact .inr h
  | case2 l L => exact .inl h
  | case3 l L h' H hle ih =>
    rcases List.mem_cons.mp h with rfl | h
    · exact .inl (.head _)
    · rcases ih h with k | k
      · exact .inl (.tail _ k)
      · exact .inr k
  | case4 l L h' H hle ih =>
    rcases List.mem_cons.mp h with rfl | h
    · exact .inr (.head _)
    · rcases ih h with k | k
      · exact .inl k
      · exact .inr (.tail _ k)
theorem mg_low (L H : List (List Int)) (hL : ∀ q ∈ L, isHi q = false) (hH : ∀ q ∈ H, isHi q = true) : (mg L H).filter (fun q => !isHi q) = L := by
  fun_induction mg L H with
  | case1 H => exact List.filter_eq_nil_iff.mpr fun q hq => by rw [hH q hq]; decide
  | case2 l L => exact List.filter_eq_self.mpr fun q hq => by rw [hL q hq]; rfl
  | case3 l L h' H hle ih =>
    rw [List.filter_cons_of_pos (by rw [hL l (.head _)]; rfl), ih (fun q hq => hL q (.tail _ hq)) hH]
  | case4 l L h' H hle ih =>
    rw [List.filter_cons_of_neg (by rw [hH h' (.head _)]; decide), ih hL (fun q hq => hH q (.tail _ hq))]
theorem mg_high (L H : List (List Int)) (hL : ∀ q ∈ L, isHi q = false) (hH : ∀ q ∈ H, isHi q = true) : (mg L H).filter isHi = H := by
  fun_induction mg L H with
  | case1 H => exact List.filter_eq_self.mpr hH
  | case2 l L => exact List.filter_eq_nil_iff.mpr fun q hq => by rw [hL q hq]; decide
  | case3 l L h' H hle ih =>
    rw [List.filter_cons_of_neg (by rw [hL l (.head _)]; decide), ih (fun q hq => hL q (.tail _ hq)) hH]
  | case4 l L h' H hle ih =>
    rw [List.filter_cons_of_pos (hH h' (.head _)), ih hL (fun q hq => hH q (.tail _ hq))]
theorem mg_ahead (L H : List (List Int)) (hL : ∀ q ∈ L, isHi q = false) (hH : ∀ q ∈ H, isHi q = true) (pL : L.Pairwise fun x y => key2 x ≤ key2 y) (pH : H.Pairwise fun x y => key2 x ≤ key2 y) : (mg L H).Pairwise Ahead := by
  have lift : ∀ x y : List Int, key2 x ≤ key2 y → (isHi x = true → isHi y = true) → Ahead x y := fun x y h k => by
    rcases Int.lt_or_eq_of_le h with q | q
    · exact .inl q
    · exact .inr ⟨q, k⟩
  fun_induction mg L H with
  | case1 H => exact pH.imp_of_mem fun ha hb h => lift _ _ h fun _ => hH _ hb
  | case2 l L => exact pL.imp_of_mem fun ha hb h => lift _ _ h fun k => by rw [hL _ ha] at k; cases k
  | case3 l L h' H hle ih =>
    obtain ⟨pl, pL'⟩ := List.pairwise_cons.mp pL
    refine List.pairwise_cons.mpr ⟨fun y hy => ?_, ih (fun q hq => hL q (.tail _ hq)) hH pL' pH⟩
    have hl := hL l (.head _)
    refine lift _ _ ?_ (fun k => by rw [hl] at k; cases k)
    rcases mg_mem _ _ hy with k | k
    · exact pl y k
    · rcases List.mem_cons.mp k with rfl | k
      · exact hle
      · exact Int.le_trans hle ((List.pairwise_cons.mp pH).1 y k)
  | case4 l L h' H hle ih =>
    obtain ⟨ph, pH'⟩ := List.pairwise_cons.mp pH
    refine List.pairwise_cons.mpr ⟨fun y hy => ?_, ih hL (fun q hq => hH q (.tail _ hq)) pL pH'⟩
    rcases mg_mem _ _ hy with k | k
    · refine .inl ?_
      rcases List.mem_cons.mp k with rfl | k
      · omega
      · have := (List.pairwise_cons.mp pL).1 y k; omega
    · exact lift _ _ (ph y k) fun _ => hH y (.tail _ k)
theorem merged_mg {L H : List (List Int)} (hL : ∀ q ∈ L, isHi q = false) (hH : ∀ q ∈ H, isHi q = true) (pL : L.Pairwise fun x y => key2 x ≤ key2 y) (pH : H.Pairwise fun x y => key2 x ≤ key2 y) (b : Bool) : mergedI L H b = mg L H := by
  have h := merged_ordered (mg_ahead L H hL hH pL pH) b
  rw [mg_low L H hL hH, mg_high L H hL hH] at h
  exact h
/-- counting in a rising list -/
theorem bsl_count {A : List Int} (h : A.Pairwise (fun a b => a ≤ b)) (x : Int) : bsl A x 0 A.length = (A.filter fun a => a < x).length := by
  obtain ⟨a, b, rfl, h1, h2⟩ := sorted_split A x h
  rw [bsl_mid h1 h2, List.filter_append, List.filter_eq_self.mpr (fun y hy => by simpa using h1 y hy), List.filter_eq_nil_iff.mpr (fun y hy => by have := h2 y hy; simp; omega), List.append_nil]
theorem bsr_count {A : List Int} (h : A.Pairwise (fun a b => a ≤ b)) (x : Int) : bsr A x 0 A.length = (A.filter fun a => a ≤ x).length := by
  obtain ⟨a, b, rfl, h1, h2⟩ := sorted_splitR A x h
  rw [bsr_mid h1 h2, List.filter_append, List.filter_eq_self.mpr (fun y hy => by simpa using h1 y hy), List.filter_eq_nil_iff.mpr (fun y hy => by have := h2 y hy; simp; omega), List.append_nil]

end Pmx

section Pja
noncomputable abbrev Up (c : List Int) : Prop := c.Pairwise (fun a b => a < b)
theorem Up.le {c : List Int} (h : Up c) : c.Pairwise (fun a b => a ≤ b) := h.imp fun h => Int.le_of_lt h
theorem Up.nodup {c : List Int} (h : Up c) : c.Nodup := h.imp fun h => Int.ne_of_lt h
theorem Up.gap {c : List Int} (h : Up c) : ∀ {i j : Nat}, i ≤ j → j < c.length → c.getD i 0 + ((j : Int) - i) ≤ c.getD j 0
  | i, 0, hij, hj => by
    have : i = 0 := by omega
    subst this; omega
  | i, j + 1, hij, hj => by
    rcases Nat.lt_or_eq_of_le hij with q | q
    · have ih := Up.gap h (i := i) (j := j) (by omega) (by omega)
      have hs : c.getD j 0 < c.getD (j + 1) 0 := by
        rw [getD_elem c 0 (by omega : j < c.length), getD_elem c 0 hj]
        exact List.pairwise_iff_getElem.mp h j (j + 1) (by omega) hj (by omega)
      omega
    · rw [q]; omega
theorem filter_le {A : List Int} {p q : Int → Bool} (h : ∀ x ∈ A, p x = true → q x = true) : (A.filter p).length ≤ (A.filter q).length := by
  rw [← List.countP_eq_length_filter, ← List.countP_eq_length_filter]
  exact List.countP_mono_left h
theorem count_mem {A : List Int} (h : A.Nodup) (x : Int) : A.count x = if x ∈ A then 1 else 0 := by
  induction A with
  | nil => rfl
  | cons a A ih =>
    obtain ⟨h1, h2⟩ := List.nodup_cons.mp h
    have ih := ih h2
    by_cases e : a = x
    · subst e
      rw [List.count_cons_self, ih, if_neg h1, if_pos (List.mem_cons_self ..)]
    · rw [List.count_cons_of_ne e, ih]
      have : x ∈ a :: A ↔ x ∈ A := ⟨fun h => by rcases List.mem_cons.mp h with h | h; exact absurd h.symm e; exact h, .tail _⟩
      by_cases q : x ∈ A
      · rw [if_pos q, if_pos (this.mpr q)]
      · rw [if_neg q, if_neg (fun z => q (this.mp z))]
section
variable {A B : List Int} (hA : Up A)
theorem lows_low : ∀ q ∈ joinedLows A B, A.Nodup → isHi q = false := fun q hq hn => by
  obtain ⟨p, _, rfl⟩ := List.mem_map.mp hq
  show ((2 - ((A.count ((B.length : Int) - p) : Nat) : Int)) == 0) = false
  rw [count_mem hn]
  split <;> decide
theorem highs_high : ∀ q ∈ joinedHighs A B, isHi q = true := fun q hq => by
  obtain ⟨p, _, rfl⟩ := List.mem_map.mp hq
  rfl
theorem lows_rise (hA : Up A) (hB : Up B) : (joinedLows A B).Pairwise fun x y => key2 x ≤ key2 y := by
  unfold joinedLows
  rw [List.pairwise_map]
  refine List.pairwise_iff_getElem.mpr fun i j hi hj hij => ?_
  rw [List.length_range] at hi hj
  rw [List.getElem_range, List.getElem_range]
  show B.getD i 0 + (_ - (bsl A ((B.length : Int) - i) 0 A.length : Nat)) - (i : Int) ≤ B.getD j 0 + (_ - (bsl A ((B.length : Int) - j) 0 A.length : Nat)) - (j : Int)
  have g := hB.gap (Nat.le_of_lt hij) hj
  rw [bsl_count hA.le, bsl_count hA.le]
  have k : (A.filter fun a => a < (B.length : Int) - j).length ≤ (A.filter fun a => a < (B.length : Int) - i).length := filter_le fun x _ hx => by
    have := of_decide_eq_true hx
    exact decide_eq_true (by omega)
  omega
theorem highs_rise (hA : Up A) : (joinedHighs A B).Pairwise fun x y => key2 x ≤ key2 y := by
  unfold joinedHighs
  rw [List.pairwise_map]
  refine List.pairwise_iff_getElem.mpr fun i j hi hj hij => ?_
  rw [List.length_range] at hi hj
  rw [List.getElem_range, List.getElem_range]
  have g := hA.gap (i := bsr A (B.length : Int) 0 A.length + i) (j := bsr A (B.length : Int) 0 A.length + j) (by omega) (by omega)
  show A.getD (bsr A (B.length : Int) 0 A.length + i) 0 - _ ≤ A.getD (bsr A (B.length : Int) 0 A.length + j) 0 - _
  omega
end
/-- the joined row, before the steps back -/
noncomputable def joinedS (A B : List Int) : List (List Int) := mg (joinedLows A B) (joinedHighs A B)
theorem joinedRow_S {A B : List Int} (hA : Up A) (hB : Up B) (left : Bool) : joinedRow A B left = joinedS A B :=
  merged_mg (fun q hq => lows_low q hq hA.nodup) highs_high (lows_rise hA hB) (highs_rise hA) left
theorem joinedS_ahead {A B : List Int} (hA : Up A) (hB : Up B) : (joinedS A B).Pairwise Ahead :=
  mg_ahead _ _ (fun q hq => lows_low q hq hA.nodup) highs_high (lows_rise hA hB) (highs_rise hA)
theorem joinedS_low {A B : List Int} (hA : Up A) : (joinedS A B).filter (fun q => !isHi q) = joinedLows A B := mg_low _ _ (fun q hq => lows_low q hq hA.nodup) highs_high
theorem joinedS_high {A B : List Int} (hA : Up A) : (joinedS A B).filter isHi = joinedHighs A B := mg_high _ _ (fun q hq => lows_low q hq hA.nodup) highs_high
theorem stepsOf_map (m : Int) (f : Nat → List Int) : ∀ n s, stepsOf m s ((List.range' s n).map f) = ((List.range' s n).filter fun p => (f p).getD 0 0 == 1).map fun p => m - (p : Nat)
  | 0, _ => rfl
  | n + 1, s => by
    rw [List.range'_succ, List.map_cons, stepsOf, stepsOf_map m f n (s + 1)]
    by_cases e : (f s).getD 0 0 = 1
    · rw [if_pos e, List.filter_cons_of_pos (by simpa using e), List.map_cons]
    · rw [if_neg e, List.filter_cons_of_neg (by simpa using e)]

end Pja

section Pjb
theorem up_eq {a b : List Int} (ha : Up a) (hb : Up b) (h : ∀ x, x ∈ a ↔ x ∈ b) : a = b :=
  sorted_eq ((List.perm_ext_iff_of_nodup ha.nodup hb.nodup).mpr h) ha.le hb.le
theorem joinedLows_kind {A B : List Int} (hA : Up A) (p : Nat) : ((joinedLow A B p).getD 0 0 == 1) = decide (((B.length : Int) - p) ∈ A) := by
  show ((2 - ((A.count ((B.length : Int) - p) : Nat) : Int)) == 1) = _
  rw [count_mem hA.nodup]
  by_cases h : ((B.length : Int) - p) ∈ A
  · rw [if_pos h, decide_eq_true h]; rfl
  · rw [if_neg h, decide_eq_false h]; rfl
/-- the steps of the first n lows -/
theorem steps_lows {A B : List Int} (hA : Up A) (n : Nat) : stepsOf (B.length : Nat) 0 ((List.range n).map (joinedLow A B)) = ((List.range n).filter fun p : Nat => decide (((B.length : Int) - (p : Nat)) ∈ A)).map fun p : Nat => (B.length : Int) - (p : Nat) := by
  rw [List.range_eq_range', stepsOf_map]
  congr 1
  exact List.filter_congr fun p _ => joinedLows_kind hA p
theorem steps_up {A B : List Int} (n : Nat) : Up (((List.range n).filter fun p : Nat => decide (((B.length : Int) - (p : Nat)) ∈ A)).map fun p : Nat => (B.length : Int) - (p : Nat)).reverse := by
  unfold Up
  rw [List.pairwise_reverse, List.pairwise_map]
  refine (List.Pairwise.filter _ List.pairwise_lt_range).imp fun h => ?_
  omega
theorem steps_mem {A B : List Int} (n : Nat) (y : Int) : y ∈ (((List.range n).filter fun p : Nat => decide (((B.length : Int) - (p : Nat)) ∈ A)).map fun p : Nat => (B.length : Int) - (p : Nat)) ↔ y ∈ A ∧ (B.length : Int) - n < y ∧ y ≤ B.length := by
  constructor
  · intro h
    obtain ⟨p, hp, rfl⟩ := List.mem_map.mp h
    obtain ⟨h1, h2⟩ := List.mem_filter.mp hp
    have h1 := List.mem_range.mp h1
    exact ⟨of_decide_eq_true h2, by omega, by omega⟩
  · rintro ⟨h1, h2, h3⟩
    refine List.mem_map.mpr ⟨((B.length : Int) - y).toNat, List.mem_filter.mpr ⟨List.mem_range.mpr (by omega), ?_⟩, by omega⟩
    rw [show ((B.length : Int) - (((B.length : Int) - y).toNat : Nat)) = y by omega]
    exact decide_eq_true h1
theorem up_filter {A : List Int} (hA : Up A) (p : Int → Bool) : Up (A.filter p) := List.Pairwise.filter _ hA
/-- all the lows' steps are the first row's sizes up to the second's length -/
theorem steps_all {A B : List Int} (hA : Up A) (h1 : ∀ x ∈ A, 1 ≤ x) : (stepsOf (B.length : Nat) 0 (joinedLows A B)).reverse = A.filter fun a => a ≤ (B.length : Int) := by
  unfold joinedLows
  rw [steps_lows hA]
  refine up_eq (steps_up _) (up_filter hA _) fun y => ?_
  rw [List.mem_reverse, steps_mem, List.mem_filter]
  constructor
  · rintro ⟨a, b, c⟩; exact ⟨a, decide_eq_true c⟩
  · rintro ⟨a, b⟩
    have := h1 y a
    have := of_decide_eq_true b
    exact ⟨a, by omega, this⟩
theorem filter_split (A : List Int) (x y : Int) (h : x ≤ y + 1) : (A.filter fun a => a ≤ y).length = (A.filter fun a => a < x).length + (A.filter fun a => decide (x ≤ a ∧ a ≤ y)).length := by
  induction A with
  | nil => rfl
  | cons a A ih =>
    simp only [List.filter_cons]
    by_cases h1 : a ≤ y
    · by_cases h2 : a < x
      · rw [if_pos (decide_eq_true h1), if_pos (decide_eq_true h2), if_neg (by simp; omega), List.length_cons, List.length_cons, ih]; omega
      · rw [if_pos (decide_eq_true h1), if_neg (by simpa using h2), if_pos (by simp; omega), List.length_cons, List.length_cons, ih]; omega
    · rw [if_neg (by simpa using h1), if_neg (by simp; omega), if_neg (by simp; omega), ih]
/-- how many steps the p-th low got -/
theorem steps_at {A B : List Int} (hA : Up A) {p : Nat} (hp : p < B.length) : ((((joinedLows A B).take (p + 1)).filter isMix).length : Int) = (bsr A (B.length : Int) 0 A.length : Nat) - ((bsl A ((B.length : Int) - p) 0 A.length : Nat) : Int) := by
  have e : (joinedLows A B).take (p + 1) = (List.range (p + 1)).map (joinedLow A B) := by
    unfold joinedLows
    rw [← List.map_take, List.take_range, Nat.min_eq_left (by omega)]
  rw [e, ← stepsOf_len (B.length : Nat) _ 0, steps_lows hA, bsr_count hA.le, bsl_count hA.le, filter_split A ((B.length : Int) - p) (B.length : Int) (by omega)]
  have q : (((List.range (p + 1)).filter fun p : Nat => decide (((B.length : Int) - (p : Nat)) ∈ A)).map fun p : Nat => (B.length : Int) - (p : Nat)).reverse = A.filter fun a => decide ((B.length : Int) - p ≤ a ∧ a ≤ B.length) := by
    refine up_eq (steps_up _) (up_filter hA _) fun y => ?_
    rw [List.mem_reverse, steps_mem, List.mem_filter]
    constructor
    · rintro ⟨a, b, c⟩; exact ⟨a, decide_eq_true ⟨by omega, c⟩⟩
    · rintro ⟨a, b⟩
      obtain ⟨b1, b2⟩ := of_decide_eq_true b
      exact ⟨a, by omega, b2⟩
  have ql := congrArg List.length q
  rw [List.length_reverse] at ql
  rw [ql]; omega
theorem up_split {A : List Int} (hA : Up A) (x : Int) : A.drop (bsr A x 0 A.length) = A.filter (fun a => decide (x < a)) ∧ A.take (bsr A x 0 A.length) = A.filter fun a => a ≤ x := by
  obtain ⟨a, b, rfl, h1, h2⟩ := sorted_splitR A x hA.le
  rw [bsr_mid h1 h2, List.drop_left, List.take_left, List.filter_append, List.filter_append]
  rw [List.filter_eq_nil_iff.mpr (fun y hy => by have := h1 y hy; simp; omega), List.filter_eq_self.mpr (fun y hy => by simpa using h2 y hy), List.filter_eq_self.mpr (fun y hy => by simpa using h1 y hy), List.filter_eq_nil_iff.mpr (fun y hy => by have := h2 y hy; simp; omega)]
  simp
/-- the two rows come back -/
theorem parted_joined {A B : List Int} (hA : Up A) (hB : Up B) (h1 : ∀ x ∈ A, 1 ≤ x) : partedOf (placedAll (joinedS A B)) = (A, B) := by
  have hll : (joinedLows A B).length = B.length := by simp [joinedLows]
  rw [partedOf_placed, joinedS_low hA, joinedS_high hA, hll, steps_all hA h1]
  refine Prod.ext ?_ ?_
  · show _ ++ largeFrom _ 0 (joinedHighs A B) = A
    have e : largeFrom ((B.length : Nat) : Int) 0 (joinedHighs A B) = A.drop (bsr A (B.length : Int) 0 A.length) := by
      rw [largeFrom_eq]
      apply List.ext_getElem
      · simp [joinedHighs]
      · intro i g1 g2
        rw [List.length_drop] at g2
        rw [List.getElem_mapIdx, List.getElem_drop]
        simp only [joinedHighs, List.getElem_map, List.getElem_range]
        show A.getD (bsr A (B.length : Int) 0 A.length + i) 0 - _ + _ = _
        rw [getD_elem A 0 (by omega : bsr A (B.length : Int) 0 A.length + i < A.length)]
        omega
    rw [e, ← (up_split hA _).2, List.take_append_drop]
  · show (joinedLows A B).mapIdx _ = B
    apply List.ext_getElem
    · simp [joinedLows]
    · intro i g1 g2
      rw [List.getElem_mapIdx, steps_at hA g2]
      simp only [joinedLows, List.getElem_map, List.getElem_range]
      show B.getD i 0 + (_ - _) - (i : Int) + (i : Int) - (_ - _) = _
      rw [getD_elem B 0 g2]
      omega

end Pjb

section Prs
/-- a turn of law's first loop -/
noncomputable def rowsStep (tot : Int) (c : List (List Int) × List Int × List Int) (n : Int) : List (List Int) × List Int × List Int :=
  if (c.1.map (lightI tot)).count (lightI tot [n.fmod 2 * 2, (n.fdiv 2).fmod 12 + 1]) = 0 then
    (c.1 ++ [[n.fmod 2 * 2, (n.fdiv 2).fmod 12 + 1]], if n.fmod 2 = 0 then c.2.1 ++ [(n.fdiv 2).fmod 12 + 1] else c.2.1, if n.fmod 2 = 0 then c.2.2 else c.2.2 ++ [(n.fdiv 2).fmod 12 + 1])
  else c
noncomputable def rowsAt (tot : Int) (ns : List Int) : List (List Int) × List Int × List Int := ns.foldl (rowsStep tot) ([], [], [])
theorem rowsStep_len (tot : Int) (c : List (List Int) × List Int × List Int) (n : Int) : (rowsStep tot c n).1.length ≤ c.1.length + 1 ∧ (rowsStep tot c n).2.1.length ≤ c.2.1.length + 1 ∧ (rowsStep tot c n).2.2.length ≤ c.2.2.length + 1 := by
  unfold rowsStep
  split
  · refine ⟨?_, ?_, ?_⟩
    · simp
    · dsimp only; split
      · simp
      · omega
    · dsimp only; split
      · omega
      · simp
  · exact ⟨by omega, by omega, by omega⟩
theorem rowsAt_len (tot : Int) (ns : List Int) : (rowsAt tot ns).1.length ≤ ns.length ∧ (rowsAt tot ns).2.1.length ≤ ns.length ∧ (rowsAt tot ns).2.2.length ≤ ns.length := by
  suffices h : ∀ (c : List (List Int) × List Int × List Int), (ns.foldl (rowsStep tot) c).1.length ≤ c.1.length + ns.length ∧ (ns.foldl (rowsStep tot) c).2.1.length ≤ c.2.1.length + ns.length ∧ (ns.foldl (rowsStep tot) c).2.2.length ≤ c.2.2.length + ns.length by
    have := h ([], [], []); simpa [rowsAt] using this
  induction ns with
  | nil => exact fun c => ⟨Nat.le_refl _, Nat.le_refl _, Nat.le_refl _⟩
  | cons n ns ih =>
    intro c
    have h1 := ih (rowsStep tot c n)
    have h2 := rowsStep_len tot c n
    rw [List.foldl_cons, List.length_cons]; omega
/-- what holds of the rows of the first loop -/
structure RowsOk (c : List (List Int) × List Int × List Int) : Prop where
  nd : c.1.Nodup
  ok : ∀ q ∈ c.1, PairOk q
  k02 : ∀ q ∈ c.1, q.getD 0 0 = 0 ∨ q.getD 0 0 = 2
  s12 : ∀ q ∈ c.1, q.getD 1 0 ≤ 12
  as : c.2.1 = (c.1.filter isHi).map key2
  bs : c.2.2 = (c.1.filter fun q => !isHi q).map key2
theorem rowsStep_ok (tot : Int) {c : List (List Int) × List Int × List Int} (h : RowsOk c) (n : Int) : RowsOk (rowsStep tot c n) := by
  unfold rowsStep
  split
  · rename_i h0
    have a1 := Int.fmod_nonneg_of_pos n (b := 2) (by decide)
    have a2 := Int.fmod_lt_of_pos n (b := 2) (by decide)
    have b1 : 0 ≤ (n.fdiv 2).fmod 12 := Int.fmod_nonneg_of_pos _ (by decide)
    have b2 : (n.fdiv 2).fmod 12 < 12 := Int.fmod_lt_of_pos _ (by decide)
    have hn : [n.fmod 2 * 2, (n.fdiv 2).fmod 12 + 1] ∉ c.1 := fun hm => by
      have := List.count_pos_iff.mpr (List.mem_map_of_mem (f := lightI tot) hm)
      omega
    have hp : PairOk [n.fmod 2 * 2, (n.fdiv 2).fmod 12 + 1] := ⟨rfl, by show 0 ≤ n.fmod 2 * 2; omega, by show n.fmod 2 * 2 ≤ 2; omega, by show 1 ≤ (n.fdiv 2).fmod 12 + 1; omega, by show (n.fdiv 2).fmod 12 + 1 ≤ 63; omega⟩
    have all : ∀ {P : List Int → Prop}, (∀ q ∈ c.1, P q) → P [n.fmod 2 * 2, (n.fdiv 2).fmod 12 + 1] → ∀ q ∈ c.1 ++ [[n.fmod 2 * 2, (n.fdiv 2).fmod 12 + 1]], P q := fun h1 h2 q hq => by
      rcases List.mem_append.mp hq with hq | hq
      · exact h1 q hq
      · rw [List.mem_singleton.mp hq]; exact h2
    refine ⟨?_, all h.ok hp, all h.k02 (by show n.fmod 2 * 2 = 0 ∨ n.fmod 2 * 2 = 2; omega), all h.s12 (by show (n.fdiv 2).fmod 12 + 1 ≤ 12; omega), ?_, ?_⟩
    · refine List.nodup_append.mpr ⟨h.nd, by simp, fun x hx y hy e => ?_⟩
      rw [List.mem_singleton.mp hy] at e
      exact hn (e ▸ hx)
    · show (if n.fmod 2 = 0 then _ else _) = ((c.1 ++ _).filter isHi).map key2
      by_cases e : n.fmod 2 = 0
      · have e1 : isHi [n.fmod 2 * 2, (n.fdiv 2).fmod 12 + 1] = true := by show (n.fmod 2 * 2 == 0) = true; rw [e]; rfl
        rw [if_pos e, List.filter_append, List.filter_cons_of_pos e1, List.map_append, ← h.as]; rfl
      · have e1 : isHi [n.fmod 2 * 2, (n.fdiv 2).fmod 12 + 1] = false := by show (n.fmod 2 * 2 == 0) = false; rw [show n.fmod 2 = 1 by omega]; rfl
        rw [if_neg e, List.filter_append, List.filter_cons_of_neg (by rw [e1]; decide), List.filter_nil, List.append_nil, ← h.as]
    · show (if n.fmod 2 = 0 then _ else _) = ((c.1 ++ _).filter fun q => !isHi q).map key2
      by_cases e : n.fmod 2 = 0
      · have e1 : isHi [n.fmod 2 * 2, (n.fdiv 2).fmod 12 + 1] = true := by show (n.fmod 2 * 2 == 0) = true; rw [e]; rfl
        rw [if_pos e, List.filter_append, List.filter_cons_of_neg (p := fun q => !isHi q) (by rw [e1]; decide), List.filter_nil, List.append_nil, ← h.bs]
      · have e1 : isHi [n.fmod 2 * 2, (n.fdiv 2).fmod 12 + 1] = false := by show (n.fmod 2 * 2 == 0) = false; rw [show n.fmod 2 = 1 by omega]; rfl
        rw [if_neg e, List.filter_append, List.filter_cons_of_pos (p := fun q => !isHi q) (by rw [e1]; rfl), List.map_append, ← h.bs]; rfl
  · exact h
theorem rows_ok (tot : Int) (ns : List Int) : RowsOk (rowsAt tot ns) := by
  unfold rowsAt
  suffices h : ∀ c, RowsOk c → RowsOk (ns.foldl (rowsStep tot) c) from h _ ⟨by simp, by simp, by simp, by simp, rfl, rfl⟩
  induction ns with
  | nil => exact fun c h => h
  | cons n ns ih => exact fun c h => ih _ (rowsStep_ok tot h n)
theorem rows_pairs (tot : Int) (ns : List Int) : ∀ q ∈ (rowsAt tot ns).1, PairOk q := (rows_ok tot ns).ok
theorem map_nodup {L : List (List Int)} (h : L.Nodup) (hk : ∀ x ∈ L, ∀ y ∈ L, key2 x = key2 y → x = y) : (L.map key2).Nodup := by
  unfold List.Nodup
  rw [List.pairwise_map]
  exact h.imp_of_mem fun ha hb hne e => hne (hk _ ha _ hb e)
theorem pair_eq {x y : List Int} (h1 : x.length = 2) (h2 : y.length = 2) (e0 : x.getD 0 0 = y.getD 0 0) (e1 : x.getD 1 0 = y.getD 1 0) : x = y := by
  match x, y, h1, h2 with
  | [a, b], [c, d], _, _ =>
    have e0' : a = c := e0
    have e1' : b = d := e1
    rw [e0', e1']
theorem up_of {a : List Int} (h : a.Pairwise (fun x y => x ≤ y)) (nd : a.Nodup) : Up a := (h.and nd).imp fun h => Int.lt_iff_le_and_ne.mpr h
/-- the two rows, rising -/
theorem rows_up (tot : Int) (ns : List Int) : Up (joinedTwo (rowsAt tot ns).1).1 ∧ Up (joinedTwo (rowsAt tot ns).1).2 ∧ (joinedTwo (rowsAt tot ns).1).1.Perm (rowsAt tot ns).2.1 ∧ (joinedTwo (rowsAt tot ns).1).2.Perm (rowsAt tot ns).2.2 := by
  have h := rows_ok tot ns
  have s := joinedTwo_spec (rowsAt tot ns).1 ([], []) .nil .nil
  rw [List.nil_append, List.nil_append, ← h.as, ← h.bs] at s
  have n1 : (rowsAt tot ns).2.1.Nodup := by
    rw [h.as]
    refine map_nodup (h.nd.filter _) fun x hx y hy e => ?_
    obtain ⟨x1, x2⟩ := List.mem_filter.mp hx
    obtain ⟨y1, y2⟩ := List.mem_filter.mp hy
    exact pair_eq (h.ok x x1).two (h.ok y y1).two (by rw [show x.getD 0 0 = 0 by simpa [isHi] using x2, show y.getD 0 0 = 0 by simpa [isHi] using y2]) e
  have n2 : (rowsAt tot ns).2.2.Nodup := by
    rw [h.bs]
    refine map_nodup (h.nd.filter _) fun x hx y hy e => ?_
    obtain ⟨x1, x2⟩ := List.mem_filter.mp hx
    obtain ⟨y1, y2⟩ := List.mem_filter.mp hy
    have x3 : x.getD 0 0 ≠ 0 := by simpa [isHi] using x2
    have y3 : y.getD 0 0 ≠ 0 := by simpa [isHi] using y2
    exact pair_eq (h.ok x x1).two (h.ok y y1).two (by have := h.k02 x x1; have := h.k02 y y1; omega) e
  exact ⟨up_of s.1.2 (s.1.1.nodup_iff.mpr n1), up_of s.2.2 (s.2.1.nodup_iff.mpr n2), s.1.1, s.2.1⟩
theorem joined_placed (tot : Int) (ns : List Int) (left : Bool) : joinedI (rowsAt tot ns).1 left = placedAll (joinedS (joinedTwo (rowsAt tot ns).1).1 (joinedTwo (rowsAt tot ns).1).2) := by
  obtain ⟨h1, h2, _, _⟩ := rows_up tot ns
  unfold joinedI
  rw [joinedRow_S h1 h2]
theorem rows_pos (tot : Int) (ns : List Int) : (∀ x ∈ (joinedTwo (rowsAt tot ns).1).1, 1 ≤ x ∧ x ≤ 12) ∧ ∀ x ∈ (joinedTwo (rowsAt tot ns).1).2, 1 ≤ x ∧ x ≤ 12 := by
  obtain ⟨_, _, p1, p2⟩ := rows_up tot ns
  have h := rows_ok tot ns
  constructor
  · intro x hx
    have := p1.mem_iff.mp hx
    rw [h.as] at this
    obtain ⟨q, hq, rfl⟩ := List.mem_map.mp this
    have hq' := (List.mem_filter.mp hq).1
    exact ⟨(h.ok q hq').s1, h.s12 q hq'⟩
  · intro x hx
    have := p2.mem_iff.mp hx
    rw [h.bs] at this
    obtain ⟨q, hq, rfl⟩ := List.mem_map.mp this
    have hq' := (List.mem_filter.mp hq).1
    exact ⟨(h.ok q hq').s1, h.s12 q hq'⟩
theorem law_parted {tot : Int} (h0 : 0 ≤ tot) (h1 : tot < 768) {ns : List Int} {left : Bool} {sa sb : List Int} (pa : sa.Perm (rowsAt tot ns).2.1) (oa : sa.Pairwise (fun x y => x ≤ y)) (pb : sb.Perm (rowsAt tot ns).2.2) (ob : sb.Pairwise (fun x y => x ≤ y)) : partedOf (partedRow (joinedI (rowsAt tot ns).1 left).reverse) = (sa, sb) := by
  obtain ⟨u1, u2, p1, p2⟩ := rows_up tot ns
  rw [joined_placed, partedRow_down (placed_up (joinedS_ahead u1 u2)), parted_joined u1 u2 (fun x hx => ((rows_pos tot ns).1 x hx).1), sorted_eq (p1.trans pa.symm) u1.le oa, sorted_eq (p2.trans pb.symm) u2.le ob]

end Prs

section Plc
theorem count_kind (k : Int) : ∀ S : List (List Int), (S.map fun r => r.getD 0 0).count k = (S.filter fun q => q.getD 0 0 == k).length
  | [] => rfl
  | q :: S => by
    by_cases e : q.getD 0 0 = k
    · rw [List.map_cons, e, List.count_cons_self, List.filter_cons_of_pos (by simpa using e), List.length_cons, count_kind k S]
    · rw [List.map_cons, List.count_cons_of_ne e, List.filter_cons_of_neg (by simpa using e), count_kind k S]
theorem mix_low (S : List (List Int)) : S.filter isMix = (S.filter fun q => !isHi q).filter isMix := by
  rw [List.filter_filter]
  refine List.filter_congr fun q _ => ?_
  by_cases e : q.getD 0 0 = 1
  · simp only [isMix, isHi, e]; rfl
  · have e1 : isMix q = false := by
      show (q.getD 0 0 == 1) = false
      exact beq_eq_false_iff_ne.mpr e
    rw [e1]; rfl
theorem two_parts (p : List Int → Bool) : ∀ L : List (List Int), (L.filter p).length + (L.filter fun q => !p q).length = L.length
  | [] => rfl
  | q :: L => by
    have ih := two_parts p L
    cases e : p q with
    | true => rw [List.filter_cons_of_pos e, List.filter_cons_of_neg (p := fun q => !p q) (by rw [e]; decide), List.length_cons, List.length_cons]; omega
    | false => rw [List.filter_cons_of_neg (by rw [e]; decide), List.filter_cons_of_pos (p := fun q => !p q) (by rw [e]; rfl), List.length_cons, List.length_cons]; omega
section
variable {A B : List Int}
theorem joinedS_mix (hA : Up A) (h1 : ∀ x ∈ A, 1 ≤ x) : ((joinedS A B).filter isMix).length = bsr A (B.length : Int) 0 A.length := by
  rw [mix_low, joinedS_low hA, ← stepsOf_len (B.length : Nat) _ 0, bsr_count hA.le, ← steps_all hA h1, List.length_reverse]
theorem joinedS_cnt0 (hA : Up A) (h1 : ∀ x ∈ A, 1 ≤ x) : ((joinedS A B).map fun r => r.getD 0 0).count 0 + ((joinedS A B).map fun r => r.getD 0 0).count 1 = A.length := by
  rw [count_kind, count_kind]
  have e1 : (joinedS A B).filter (fun q => q.getD 0 0 == 0) = joinedHighs A B := joinedS_high hA
  have e2 := joinedS_mix (B := B) hA h1
  rw [e1, show ((joinedS A B).filter fun q => q.getD 0 0 == 1).length = _ from e2]
  have hb := bsr_le A (B.length : Int) 0 A.length (Nat.zero_le _)
  simp only [joinedHighs, List.length_map, List.length_range]; omega
theorem lows_two (hA : Up A) (p : Nat) : (joinedLow A B p).getD 0 0 = 1 ∨ (joinedLow A B p).getD 0 0 = 2 := by
  show (2 - ((A.count ((B.length : Int) - p) : Nat) : Int)) = 1 ∨ (2 - ((A.count ((B.length : Int) - p) : Nat) : Int)) = 2
  rw [count_mem hA.nodup]
  split <;> simp
theorem joinedS_cnt2 (hA : Up A) : ((joinedS A B).map fun r => r.getD 0 0).count 2 + ((joinedS A B).map fun r => r.getD 0 0).count 1 = B.length := by
  rw [count_kind, count_kind]
  have e1 : (joinedS A B).filter (fun q => q.getD 0 0 == 2) = (joinedLows A B).filter fun q => !isMix q := by
    rw [← joinedS_low hA (B := B), List.filter_filter]
    refine List.filter_congr fun q hq => ?_
    have hk : q.getD 0 0 = 0 ∨ q.getD 0 0 = 1 ∨ q.getD 0 0 = 2 := by
      rcases mg_mem _ _ hq with k | k
      · obtain ⟨p, _, rfl⟩ := List.mem_map.mp k
        exact .inr (lows_two hA p)
      · obtain ⟨p, _, rfl⟩ := List.mem_map.mp k
        exact .inl rfl
    rcases hk with k | k | k <;> simp only [isMix, isHi, k] <;> rfl
  have e2 : ((joinedS A B).filter fun q => q.getD 0 0 == 1) = (joinedLows A B).filter isMix := by
    have := mix_low (joinedS A B)
    rw [joinedS_low hA] at this; exact this
  rw [e1, e2]
  have := two_parts isMix (joinedLows A B)
  have hl : (joinedLows A B).length = B.length := by simp [joinedLows]
  omega
end
theorem law_cnt0 {tot : Int} (h0 : 0 ≤ tot) (h1 : tot < 768) (ns : List Int) (left : Bool) : ((((joinedI (rowsAt tot ns).1 left).map fun r => r.getD 0 0).count 0 : Nat) : Int) + ((((joinedI (rowsAt tot ns).1 left).map fun r => r.getD 0 0).count 1 : Nat) : Int) = (rowsAt tot ns).2.1.length := by
  obtain ⟨u1, u2, p1, p2⟩ := rows_up tot ns
  rw [joined_placed, placed_kinds, ← p1.length_eq]
  have := joinedS_cnt0 (B := (joinedTwo (rowsAt tot ns).1).2) u1 (fun x hx => ((rows_pos tot ns).1 x hx).1)
  omega
theorem law_cnt2 {tot : Int} (h0 : 0 ≤ tot) (h1 : tot < 768) (ns : List Int) (left : Bool) : ((((joinedI (rowsAt tot ns).1 left).map fun r => r.getD 0 0).count 2 : Nat) : Int) + ((((joinedI (rowsAt tot ns).1 left).map fun r => r.getD 0 0).count 1 : Nat) : Int) = (rowsAt tot ns).2.2.length := by
  obtain ⟨u1, u2, p1, p2⟩ := rows_up tot ns
  rw [joined_placed, placed_kinds, ← p2.length_eq]
  have := joinedS_cnt2 (B := (joinedTwo (rowsAt tot ns).1).2) u1
  omega
theorem sum_le {c : Int} : ∀ {l : List Int}, (∀ x ∈ l, 0 ≤ x ∧ x ≤ c) → 0 ≤ l.sum ∧ l.sum ≤ c * l.length
  | [], _ => by simp
  | x :: l, h => by
    have ih := sum_le (fun y hy => h y (.tail _ hy))
    have hx := h x (.head _)
    rw [List.sum_cons, List.length_cons, Int.natCast_add, Int.mul_add]
    omega
theorem law_bs {tot : Int} (h0 : 0 ≤ tot) (h1 : tot < 768) {ns : List Int} (hl : ns.length ≤ 7) : (rowsAt tot ns).2.2.sum.natAbs ≤ 100000 := by
  obtain ⟨u1, u2, p1, p2⟩ := rows_up tot ns
  have hr := rowsAt_len tot ns
  have := sum_le (c := 12) (l := (rowsAt tot ns).2.2) (fun x hx => by have := (rows_pos tot ns).2 x (p2.mem_iff.mpr hx); omega)
  omega

end Plc

section Pgp
theorem mg_pairwise {R : List Int → List Int → Prop} (L H : List (List Int)) (pL : L.Pairwise fun x y => key2 x ≤ key2 y) (pH : H.Pairwise fun x y => key2 x ≤ key2 y) (rL : L.Pairwise R) (rH : H.Pairwise R)
    (c1 : ∀ l ∈ L, ∀ h ∈ H, key2 l ≤ key2 h → R l h) (c2 : ∀ l ∈ L, ∀ h ∈ H, key2 h < key2 l → R h l) : (mg L H).Pairwise R := by
  fun_induction mg L H with
  | case1 H => exact rH
  | case2 l L => exact rL
  | case3 l L h' H hle ih =>
    obtain ⟨pl, pL'⟩ := List.pairwise_cons.mp pL
    obtain ⟨rl, rL'⟩ := List.pairwise_cons.mp rL
    refine List.pairwise_cons.mpr ⟨fun y hy => ?_, ih pL' pH rL' rH (fun l hl => c1 l (.tail _ hl)) (fun l hl => c2 l (.tail _ hl))⟩
    rcases mg_mem _ _ hy with k | k
    · exact rl y k
    · refine c1 l (.head _) y k ?_
      rcases List.mem_cons.mp k with rfl | k
      · exact hle
      · exact Int.le_trans hle ((List.pairwise_cons.mp pH).1 y k)
  | case4 l L h' H hle ih =>
    obtain ⟨ph, pH'⟩ := List.pairwise_cons.mp pH
    obtain ⟨rh, rH'⟩ := List.pairwise_cons.mp rH
    refine List.pairwise_cons.mpr ⟨fun y hy => ?_, ih pL pH' rL rH' (fun l hl h hh => c1 l hl h (.tail _ hh)) (fun l hl h hh => c2 l hl h (.tail _ hh))⟩
    rcases mg_mem _ _ hy with k | k
    · refine c2 y k h' (.head _) ?_
      rcases List.mem_cons.mp k with rfl | k
      · omega
      · have := (List.pairwise_cons.mp pL).1 y k; omega
    · exact rh y k
/-- x may stand ahead of y with the gaps kept -/
noncomputable def Gap (x y : List Int) : Prop := key2 x < key2 y ∨ (key2 x = key2 y ∧ (isHi x = true → isHi y = true) ∧ isMix y = false)
noncomputable def placedFrom : Nat → List (List Int) → List (List Int)
  | _, [] => []
  | k, q :: S => [q.getD 0 0, q.getD 1 0 + (k : Nat)] :: placedFrom (k + 1) S
theorem placedFrom_eq : ∀ (S : List (List Int)) (k : Nat), placedFrom k S = S.mapIdx fun i q => [q.getD 0 0, q.getD 1 0 + ((k + i : Nat) : Int)]
  | [], _ => by simp [placedFrom]
  | q :: S, k => by
    rw [placedFrom, placedFrom_eq S (k + 1), List.mapIdx_cons]
    congr 1
    congr 1
    funext i r
    rw [show k + 1 + i = k + (i + 1) by omega]
theorem placedAll_from (S : List (List Int)) : placedAll S = placedFrom 0 S := by
  rw [placedFrom_eq]
  apply List.ext_getElem
  · simp [placedAll]
  · intro i h1 h2
    have hi : i < S.length := by simpa using h2
    rw [← getD_elem (placedAll S) [] h1, placedAll_get S hi, List.getElem_mapIdx, getD_elem S [] hi, Nat.zero_add]
theorem gaps_from : ∀ (S : List (List Int)) (k : Nat) (p : List Int), (∀ q ∈ S, q.getD 0 0 = 0 ∨ q.getD 0 0 = 1 ∨ q.getD 0 0 = 2) → (p :: S).Pairwise Gap → gapsI (p.getD 0 0) (key2 p + (k : Int) - 1) (placedFrom k S) = true
  | [], _, _, _, _ => rfl
  | q :: S, k, p, hk, h => by
    obtain ⟨h1, h2⟩ := List.pairwise_cons.mp h
    have hq := hk q (.head _)
    have g := h1 q (.head _)
    have ih := gaps_from S (k + 1) q (fun r hr => hk r (.tail _ hr)) h2
    rw [placedFrom, gaps_eq, if_neg (by omega), if_neg]
    · rw [show key2 q + ((k + 1 : Nat) : Int) - 1 = q.getD 1 0 + (k : Nat) by show q.getD 1 0 + _ - 1 = _; omega] at ih
      exact ih
    · have g' : p.getD 1 0 < q.getD 1 0 ∨ (p.getD 1 0 = q.getD 1 0 ∧ (isHi p = true → isHi q = true) ∧ isMix q = false) := g
      show ¬ q.getD 1 0 + (k : Nat) - (p.getD 1 0 + (k : Int) - 1) < gapI (p.getD 0 0) (q.getD 0 0)
      unfold gapI
      rcases g' with g' | ⟨g1, g2, g3⟩
      · split
        · omega
        · split <;> omega
      · have n1 : q.getD 0 0 ≠ 1 := fun e => by rw [show isMix q = true by simpa [isMix] using e] at g3; cases g3
        rw [if_neg n1, if_neg (fun e => by
          have e1 : isHi p = true := by simpa [isHi] using e.1
          have e2 := g2 e1
          have e3 : q.getD 0 0 = 0 := by simpa [isHi] using e2
          omega)]
        omega
section
variable {A B : List Int}
theorem low_key (hA : Up A) {p : Nat} (hp : p < B.length) : key2 (joinedLow A B p) = B.getD p 0 + ((A.filter fun a => decide ((B.length : Int) - p ≤ a ∧ a ≤ B.length)).length : Nat) - p := by
  show B.getD p 0 + (((bsr A (B.length : Int) 0 A.length : Nat) : Int) - (bsl A ((B.length : Int) - p) 0 A.length : Nat)) - (p : Int) = _
  rw [bsr_count hA.le, bsl_count hA.le, filter_split A ((B.length : Int) - p) (B.length : Int) (by omega)]
  omega
theorem mix_in (hA : Up A) {p : Nat} (h : isMix (joinedLow A B p) = true) : ((B.length : Int) - p) ∈ A := by
  have := joinedLows_kind (B := B) hA p
  rw [show ((joinedLow A B p).getD 0 0 == 1) = true from h] at this
  exact of_decide_eq_true this.symm
theorem lows_gap (hA : Up A) (hB : Up B) : (joinedLows A B).Pairwise Gap := by
  unfold joinedLows
  rw [List.pairwise_map]
  refine List.pairwise_iff_getElem.mpr fun i j hi hj hij => ?_
  rw [List.length_range] at hi hj
  rw [List.getElem_range, List.getElem_range]
  have g := hB.gap (Nat.le_of_lt hij) hj
  have ki := low_key hA hi
  have kj := low_key hA hj
  have hle : (A.filter fun a => decide ((B.length : Int) - i ≤ a ∧ a ≤ B.length)).length ≤ (A.filter fun a => decide ((B.length : Int) - j ≤ a ∧ a ≤ B.length)).length := filter_le fun x _ hx => by
    have := of_decide_eq_true hx
    exact decide_eq_true (by omega)
  cases e : isMix (joinedLow A B j) with
  | false =>
    rcases Int.lt_or_eq_of_le (show key2 (joinedLow A B i) ≤ key2 (joinedLow A B j) by rw [ki, kj]; omega) with q | q
    · exact .inl q
    · exact .inr ⟨q, fun h => (by
        have := lows_low (A := A) (B := B) _ (List.mem_map_of_mem (List.mem_range.mpr hi)) hA.nodup
        rw [this] at h; cases h), e⟩
  | true =>
    have hm := mix_in hA e
    have hlt : (A.filter fun a => decide ((B.length : Int) - i ≤ a ∧ a ≤ B.length)).length < (A.filter fun a => decide ((B.length : Int) - j ≤ a ∧ a ≤ B.length)).length := by
      have h1 := filter_split A ((B.length : Int) - j) (B.length : Int) (by omega)
      have h2 := filter_split A ((B.length : Int) - i) (B.length : Int) (by omega)
      have h3 : (A.filter fun a => a ≤ (B.length : Int) - j).length ≤ (A.filter fun a => a < (B.length : Int) - i).length := filter_le fun x _ hx => by
        have := of_decide_eq_true hx
        exact decide_eq_true (by omega)
      have h4 := filter_split A ((B.length : Int) - j) ((B.length : Int) - j) (by omega)
      have h5 : 0 < (A.filter fun a => decide ((B.length : Int) - j ≤ a ∧ a ≤ (B.length : Int) - j)).length := List.length_pos_of_mem (List.mem_filter.mpr ⟨hm, decide_eq_true ⟨by omega, by omega⟩⟩)
      omega
    exact .inl (by rw [ki, kj]; omega)
theorem highs_gap (hA : Up A) : (joinedHighs A B).Pairwise Gap := (highs_rise hA).imp_of_mem fun {x y} hx hy h => by
  rcases Int.lt_or_eq_of_le h with q | q
  · exact .inl q
  · refine .inr ⟨q, fun _ => highs_high y hy, ?_⟩
    obtain ⟨j, _, rfl⟩ := List.mem_map.mp hy
    rfl
theorem joinedS_gap (hA : Up A) (hB : Up B) : (joinedS A B).Pairwise Gap := by
  refine mg_pairwise _ _ (lows_rise hA hB) (highs_rise hA) (lows_gap hA hB) (highs_gap hA) (fun l hl h hh k => ?_) fun l _ h _ k => .inl k
  rcases Int.lt_or_eq_of_le k with q | q
  · exact .inl q
  · refine .inr ⟨q, fun e => ?_, ?_⟩
    · rw [lows_low l hl hA.nodup] at e; cases e
    · obtain ⟨j, _, rfl⟩ := List.mem_map.mp hh
      rfl
theorem joinedS_first (hA : Up A) (hB : Up B) (h1 : ∀ x ∈ B, 1 ≤ x) : ∀ q ∈ joinedS A B, Gap [1, 1] q := fun q hq => by
  show (1 : Int) < key2 q ∨ ((1 : Int) = key2 q ∧ _)
  rcases mg_mem _ _ hq with k | k
  · obtain ⟨p, hp, rfl⟩ := List.mem_map.mp k
    have hp := List.mem_range.mp hp
    have g := hB.gap (Nat.zero_le p) hp
    have b0 : 1 ≤ B.getD 0 0 := getD_all (p := fun x => 1 ≤ x) h1 (by omega)
    have kp := low_key hA hp
    cases e : isMix (joinedLow A B p) with
    | false =>
      rcases Int.lt_or_eq_of_le (show 1 ≤ key2 (joinedLow A B p) by rw [kp]; omega) with z | z
      · exact .inl z
      · exact .inr ⟨z, fun h => (by cases h), by first | exact e | rfl⟩
    | true =>
      have h5 : 0 < (A.filter fun a => decide ((B.length : Int) - p ≤ a ∧ a ≤ B.length)).length := List.length_pos_of_mem (List.mem_filter.mpr ⟨mix_in hA e, decide_eq_true ⟨by omega, by omega⟩⟩)
      exact .inl (by rw [kp]; omega)
  · obtain ⟨j, hj, rfl⟩ := List.mem_map.mp k
    have hj := List.mem_range.mp hj
    have hin : A.getD (bsr A (B.length : Int) 0 A.length + j) 0 ∈ A.drop (bsr A (B.length : Int) 0 A.length) := by
      rw [getD_elem A 0 (by omega), ← List.getElem_drop (h := by rw [List.length_drop]; omega)]
      exact List.getElem_mem _
    have h0 : A.getD (bsr A (B.length : Int) 0 A.length) 0 ∈ A.drop (bsr A (B.length : Int) 0 A.length) := by
      rw [List.drop_eq_getElem_cons (by omega), getD_elem A 0 (by omega)]
      exact .head _
    rw [(up_split hA _).1] at h0
    have b0 := of_decide_eq_true (List.mem_filter.mp h0).2
    have g := hA.gap (i := bsr A (B.length : Int) 0 A.length) (j := bsr A (B.length : Int) 0 A.length + j) (by omega) (by omega)
    have kk : key2 (joinedHigh A B j) = A.getD (bsr A (B.length : Int) 0 A.length + j) 0 - ((B.length : Int) + ((bsr A (B.length : Int) 0 A.length : Nat) + (j : Int)) - (bsr A (B.length : Int) 0 A.length : Nat)) := rfl
    rcases Int.lt_or_eq_of_le (show 1 ≤ key2 (joinedHigh A B j) by rw [kk]; omega) with z | z
    · exact .inl z
    · exact .inr ⟨z, fun h => (by cases h), rfl⟩
theorem joinedS_kinds (hA : Up A) : ∀ q ∈ joinedS A B, q.getD 0 0 = 0 ∨ q.getD 0 0 = 1 ∨ q.getD 0 0 = 2 := fun q hq => by
  rcases mg_mem _ _ hq with k | k
  · obtain ⟨p, _, rfl⟩ := List.mem_map.mp k
    exact .inr (lows_two hA p)
  · obtain ⟨p, _, rfl⟩ := List.mem_map.mp k
    exact .inl rfl
end
theorem law_gaps {tot : Int} (h0 : 0 ≤ tot) (h1 : tot < 768) (ns : List Int) (left : Bool) : gapsI 1 0 (joinedI (rowsAt tot ns).1 left) = true := by
  obtain ⟨u1, u2, p1, p2⟩ := rows_up tot ns
  rw [joined_placed, placedAll_from]
  exact gaps_from _ 0 [1, 1] (joinedS_kinds u1) (List.pairwise_cons.mpr ⟨joinedS_first u1 u2 (fun x hx => ((rows_pos tot ns).2 x hx).1), joinedS_gap u1 u2⟩)

end Pgp

section Pjp
theorem gap_one {q : List Int} (h : Gap [1, 1] q) : 1 ≤ key2 q := by
  have h' : (1 : Int) < key2 q ∨ ((1 : Int) = key2 q ∧ _) := h
  omega
theorem mg_len (L H : List (List Int)) : (mg L H).length = L.length + H.length := by
  fun_induction mg L H with
  | case1 H => simp
  | case2 l L => simp
  | case3 l L h' H hle ih => rw [List.length_cons, ih, List.length_cons, List.length_cons]; omega
  | case4 l L h' H hle ih => rw [List.length_cons, ih, List.length_cons, List.length_cons]; omega
theorem joinedS_len (A B : List Int) : (joinedS A B).length ≤ A.length + B.length := by
  unfold joinedS
  rw [mg_len]
  simp only [joinedLows, joinedHighs, List.length_map, List.length_range]; omega
theorem joinedS_upper {A B : List Int} {c : Int} (hA : Up A) (a : ∀ x ∈ A, x ≤ c) (b : ∀ x ∈ B, x ≤ c) : ∀ q ∈ joinedS A B, key2 q ≤ c + A.length := fun q hq => by
  rcases mg_mem _ _ hq with k | k
  · obtain ⟨p, hp, rfl⟩ := List.mem_map.mp k
    have hp := List.mem_range.mp hp
    rw [low_key hA hp]
    have h1 : B.getD p 0 ≤ c := getD_all (p := fun x => x ≤ c) b hp
    have h2 := List.length_filter_le (fun a => decide ((B.length : Int) - p ≤ a ∧ a ≤ B.length)) A
    omega
  · obtain ⟨j, hj, rfl⟩ := List.mem_map.mp k
    have hj := List.mem_range.mp hj
    have h1 : A.getD (bsr A (B.length : Int) 0 A.length + j) 0 ≤ c := getD_all (p := fun x => x ≤ c) a (by omega)
    have kk : key2 (joinedHigh A B j) = A.getD (bsr A (B.length : Int) 0 A.length + j) 0 - ((B.length : Int) + ((bsr A (B.length : Int) 0 A.length : Nat) + (j : Int)) - (bsr A (B.length : Int) 0 A.length : Nat)) := rfl
    rw [kk]; omega
theorem joined_pairs {tot : Int} (h0 : 0 ≤ tot) (h1 : tot < 768) {ns : List Int} (hl : ns.length ≤ 7) (left : Bool) : ∀ q ∈ joinedI (rowsAt tot ns).1 left, PairOk q := by
  obtain ⟨u1, u2, p1, p2⟩ := rows_up tot ns
  have hr := rowsAt_len tot ns
  have hS := joinedS_len (joinedTwo (rowsAt tot ns).1).1 (joinedTwo (rowsAt tot ns).1).2
  have e1 := p1.length_eq
  have e2 := p2.length_eq
  rw [joined_placed]
  intro q hq
  obtain ⟨i, hi, rfl⟩ := List.mem_map.mp hq
  have hi := List.mem_range.mp hi
  have hm : (joinedS (joinedTwo (rowsAt tot ns).1).1 (joinedTwo (rowsAt tot ns).1).2).getD i [] ∈ joinedS (joinedTwo (rowsAt tot ns).1).1 (joinedTwo (rowsAt tot ns).1).2 := by
    rw [getD_elem _ [] hi]; exact List.getElem_mem hi
  have k1 := joinedS_kinds u1 _ hm
  have k2 := gap_one (joinedS_first u1 u2 (fun x hx => ((rows_pos tot ns).2 x hx).1) _ hm)
  have k3 := joinedS_upper (c := 12) u1 (fun x hx => ((rows_pos tot ns).1 x hx).2) (fun x hx => ((rows_pos tot ns).2 x hx).2) _ hm
  refine ⟨rfl, ?_, ?_, ?_, ?_⟩
  · show 0 ≤ (List.getD _ i []).getD 0 0; omega
  · show (List.getD _ i []).getD 0 0 ≤ 2; omega
  · show 1 ≤ (List.getD _ i []).getD 1 0 + (i : Int)
    have : 1 ≤ ((joinedS (joinedTwo (rowsAt tot ns).1).1 (joinedTwo (rowsAt tot ns).1).2).getD i []).getD 1 0 := k2
    omega
  · show (List.getD _ i []).getD 1 0 + (i : Int) ≤ 63
    have : ((joinedS (joinedTwo (rowsAt tot ns).1).1 (joinedTwo (rowsAt tot ns).1).2).getD i []).getD 1 0 ≤ 12 + ((joinedTwo (rowsAt tot ns).1).1.length : Nat) := k3
    omega

end Pjp

section Pst
section
open PySem.SetTable
/-- the places rise -/
noncomputable def PlUp (xs : Array Nat) : Prop := xs.toList.Pairwise (· < ·)
theorem plup_lt {xs : Array Nat} (h : PlUp xs) {i j : Nat} (hij : i < j) (hj : j < xs.size) : xs.getD i 0 < xs.getD j 0 := by
  have hj' : j < xs.toList.length := by simpa using hj
  have := List.pairwise_iff_getElem.mp h i j (by omega) hj' hij
  have e1 : xs.getD i 0 = xs[i]'(by omega) := by simp [Array.getD, show i < xs.size by omega]
  have e2 : xs.getD j 0 = xs[j] := by simp [Array.getD, hj]
  rw [e1, e2]; simpa using this
theorem below_go {xs : Array Nat} {j : Nat} (h : PlUp xs) : ∀ (fuel lo hi : Nat), lo ≤ hi → hi ≤ xs.size → hi - lo ≤ fuel → (∀ i, i < lo → xs.getD i 0 < j) → (∀ i, hi ≤ i → i < xs.size → j ≤ xs.getD i 0) →
    below.go xs j fuel lo hi ≤ xs.size ∧ (∀ i, i < below.go xs j fuel lo hi → xs.getD i 0 < j) ∧ ∀ i, below.go xs j fuel lo hi ≤ i → i < xs.size → j ≤ xs.getD i 0
  | 0, lo, hi, hle, hs, hf, a, b => by
    have : lo = hi := by omega
    subst this
    exact ⟨hs, a, b⟩
  | fuel + 1, lo, hi, hle, hs, hf, a, b => by
    unfold below.go
    by_cases hlt : lo < hi
    · rw [if_pos hlt]
      have hm1 : lo ≤ (lo + hi) / 2 := by omega
      have hm2 : (lo + hi) / 2 < hi := by omega
      have hms : (lo + hi) / 2 < xs.size := by omega
      have eg : xs.getD ((lo + hi) / 2) j = xs.getD ((lo + hi) / 2) 0 := by simp [Array.getD, hms]
      show (if xs.getD ((lo + hi) / 2) j < j then below.go xs j fuel ((lo + hi) / 2 + 1) hi else below.go xs j fuel lo ((lo + hi) / 2)) ≤ _ ∧ _
      dsimp only
      rw [eg]
      by_cases hc : xs.getD ((lo + hi) / 2) 0 < j
      · rw [if_pos hc]
        refine below_go h fuel _ hi (by omega) hs (by omega) (fun i hi' => ?_) b
        rcases Nat.lt_or_ge i ((lo + hi) / 2) with q | q
        · exact Nat.lt_trans (plup_lt h q hms) hc
        · rw [show i = (lo + hi) / 2 by omega]; exact hc
      · rw [if_neg hc]
        refine below_go h fuel lo _ (by omega) (by omega) (by omega) a (fun i h1 h2 => ?_)
        rcases Nat.lt_or_ge ((lo + hi) / 2) i with q | q
        · have := plup_lt h q h2; omega
        · rw [show i = (lo + hi) / 2 by omega]; omega
    · rw [if_neg hlt]
      have : lo = hi := by omega
      subst this
      exact ⟨hs, a, b⟩
theorem below_spec {xs : Array Nat} (h : PlUp xs) (j : Nat) : below xs j ≤ xs.size ∧ (∀ i, i < below xs j → xs.getD i 0 < j) ∧ ∀ i, below xs j ≤ i → i < xs.size → j ≤ xs.getD i 0 :=
  below_go h xs.size 0 xs.size (Nat.zero_le _) (Nat.le_refl _) (Nat.le_refl _) (fun i hi => absurd hi (Nat.not_lt_zero _)) fun i h1 h2 => absurd h2 (by omega)
/-- a place that is there is found -/
theorem below_mem {xs : Array Nat} (h : PlUp xs) {j : Nat} (hj : j ∈ xs.toList) : xs[below xs j]? = some j := by
  obtain ⟨i, hi, e⟩ := List.mem_iff_getElem.mp hj
  have hi' : i < xs.size := by simpa using hi
  have eg : xs.getD i 0 = j := by simp [Array.getD, hi']; simpa using e
  obtain ⟨s1, s2, s3⟩ := below_spec h j
  have h1 : below xs j ≤ i := by
    rcases Nat.lt_or_ge i (below xs j) with q | q
    · have := s2 i q; omega
    · exact q
  have h2 : ¬ below xs j < i := fun q => by
    have a := plup_lt h q hi'
    have b := s3 _ (Nat.le_refl _) (by omega : below xs j < xs.size)
    omega
  rw [show below xs j = i by omega, Array.getElem?_eq_getElem hi']
  simpa using e
/-- the i-th place's own and the one behind it -/
theorem below_at {xs : Array Nat} (h : PlUp xs) {i : Nat} (hi : i < xs.size) : below xs (xs.getD i 0) = i ∧ below xs (xs.getD i 0 + 1) = i + 1 := by
  constructor
  · obtain ⟨s1, s2, s3⟩ := below_spec h (xs.getD i 0)
    rcases Nat.lt_trichotomy (below xs (xs.getD i 0)) i with q | q | q
    · have a := plup_lt h q hi
      have b := s3 _ (Nat.le_refl _) (by omega)
      omega
    · exact q
    · have := s2 i q; omega
  · obtain ⟨s1, s2, s3⟩ := below_spec h (xs.getD i 0 + 1)
    rcases Nat.lt_trichotomy (below xs (xs.getD i 0 + 1)) (i + 1) with q | q | q
    · have b := s3 i (by omega) hi
      omega
    · exact q
    · have b := s2 (i + 1) q
      have a := plup_lt h (show i < i + 1 by omega) (by omega)
      omega
theorem below_zero {xs : Array Nat} (h : PlUp xs) : below xs 0 = 0 := by
  obtain ⟨_, s2, _⟩ := below_spec h 0
  rcases Nat.eq_zero_or_pos (below xs 0) with q | q
  · exact q
  · exact absurd (s2 0 q) (Nat.not_lt_zero _)
/-- a new place put where it belongs -/
theorem insert_up {xs : Array Nat} (h : PlUp xs) {j : Nat} (hj : j ∉ xs.toList) : PlUp (insertAt xs (below xs j) j) := by
  obtain ⟨s1, s2, s3⟩ := below_spec h j
  unfold PlUp
  rw [toList_insertAt, List.pairwise_append]
  have hmem : ∀ i, i < xs.size → xs.getD i 0 ∈ xs.toList := fun i hi => by
    have e : xs.getD i 0 = xs[i] := by simp [Array.getD, hi]
    rw [e]; exact Array.mem_toList_iff.mpr (Array.getElem_mem hi)
  refine ⟨h.sublist (List.take_sublist _ _), List.pairwise_cons.mpr ⟨fun y hy => ?_, h.sublist (List.drop_sublist _ _)⟩, fun x hx y hy => ?_⟩
  · obtain ⟨i, hi, rfl⟩ := List.mem_iff_getElem.mp hy
    rw [List.length_drop] at hi
    have hi2 : below xs j + i < xs.size := by have : xs.toList.length = xs.size := by simp
                                              omega
    have a := s3 (below xs j + i) (by omega) hi2
    have e : xs.getD (below xs j + i) 0 = (xs.toList.drop (below xs j))[i]'(by rw [List.length_drop]; exact hi) := by simp [Array.getD, hi2]
    have ne : xs.getD (below xs j + i) 0 ≠ j := fun q => hj (q ▸ hmem _ hi2)
    rw [← e]; omega
  · obtain ⟨i, hi, rfl⟩ := List.mem_iff_getElem.mp hx
    rw [List.length_take] at hi
    have hi2 : i < xs.size := by have : xs.toList.length = xs.size := by simp
                                 omega
    have a := s2 i (by omega)
    have e : xs.getD i 0 = (xs.toList.take (below xs j))[i]'(by rw [List.length_take]; exact hi) := by simp [Array.getD, hi2]
    rw [← e]
    rcases List.mem_cons.mp hy with rfl | hy
    · exact a
    · obtain ⟨k, hk, rfl⟩ := List.mem_iff_getElem.mp hy
      rw [List.length_drop] at hk
      have hk2 : below xs j + k < xs.size := by have : xs.toList.length = xs.size := by simp
                                                omega
      have b := s3 (below xs j + k) (by omega) hk2
      have e2 : xs.getD (below xs j + k) 0 = (xs.toList.drop (below xs j))[k]'(by rw [List.length_drop]; exact hk) := by simp [Array.getD, hk2]
      rw [← e2]; omega
theorem size_insertAt {α : Type} (xs : Array α) (p : Nat) (x : α) : (insertAt xs p x).size = xs.size + 1 := by
  have := congrArg List.length (toList_insertAt xs p x)
  rw [Array.length_toList, List.length_append, List.length_cons, List.length_take, List.length_drop, Array.length_toList] at this
  omega
theorem slot_live {t : SetTable} (h : PlUp t.place) (hd : t.dummies = #[]) (j : Nat) : (j ∈ t.place.toList ∧ ∃ i, t.slot j = .live i) ∨ (j ∉ t.place.toList ∧ t.slot j = .empty) := by
  by_cases hj : j ∈ t.place.toList
  · exact .inl ⟨hj, below t.place j, by unfold SetTable.slot; dsimp only; rw [below_mem h hj]; simp⟩
  · refine .inr ⟨hj, ?_⟩
    unfold SetTable.slot
    dsimp only
    have e1 : ¬ (t.place[below t.place j]? == some j) = true := fun q => hj (by
      have q := beq_iff_eq.mp q
      obtain ⟨hi, e⟩ := Array.getElem?_eq_some_iff.mp q
      rw [← e]; exact Array.mem_toList_iff.mpr (Array.getElem_mem hi))
    rw [if_neg e1, hd]
    simp [SetTable.has]
/-- the slots that a search visits -/
noncomputable def visits (t : SetTable) : Nat → SetTable.Probe → List Nat
  | 0, _ => []
  | n + 1, p => p.j :: visits t n (t.advance p)
theorem advance_dummy (t : SetTable) (p : SetTable.Probe) : (t.advance p).dummy = p.dummy := by unfold SetTable.advance; split <;> rfl
theorem probe_go {t : SetTable} (h : PlUp t.place) (hd : t.dummies = #[]) {x : Int} : ∀ (n fuel : Nat) (p : SetTable.Probe), n ≤ fuel → p.dummy = none →
    (∃ j, SetTable.probe.go t (fun _ => x + 1) x fuel p = some (.empty j none) ∧ j ∉ t.place.toList) ∨ ∀ y ∈ visits t n p, y ∈ t.place.toList
  | 0, _, _, _, _ => .inr fun y hy => nomatch hy
  | n + 1, fuel + 1, p, hn, hp => by
    rcases slot_live h hd p.j with ⟨hm, i, e⟩ | ⟨hm, e⟩
    · rcases probe_go (x := x) h hd n fuel (t.advance p) (by omega) (by rw [advance_dummy]; exact hp) with ⟨j, e2, e3⟩ | r
      · refine .inl ⟨j, ?_, e3⟩
        unfold SetTable.probe.go
        rw [e]
        dsimp only
        rw [if_neg (by simp; omega), e2]
      · refine .inr fun y hy => ?_
        rcases List.mem_cons.mp hy with rfl | hy
        · exact hm
        · exact r y hy
    · refine .inl ⟨p.j, ?_, hm⟩
      unfold SetTable.probe.go
      rw [e]
      dsimp only
      rw [hp]
theorem visits_mask {t u : SetTable} (h : t.mask = u.mask) : ∀ (n : Nat) (p : SetTable.Probe), visits t n p = visits u n p
  | 0, _ => rfl
  | n + 1, p => by
    have e : t.advance p = u.advance p := by unfold SetTable.advance; rw [h]
    unfold visits
    rw [e, visits_mask h n]
noncomputable def t7 : SetTable := SetTable.fresh 0 0 false
noncomputable def covers7 (h : Nat) : Bool := (List.range 8).all fun j => (visits t7 12 (t7.probeStart (h : Int))).contains j
theorem all7 : (List.range 64).all covers7 = true := by decide +kernel
theorem free7 {t : SetTable} (hm : t.mask = 7) (h : PlUp t.place) (hd : t.dummies = #[]) (hs : t.place.size ≤ 7) {x : Int} (h0 : 0 ≤ x) (h1 : x < 64) : ∃ j, t.freeSlot x = some (j, false) ∧ j ∉ t.place.toList := by
  have hst : t.probeStart x = t7.probeStart x := by unfold SetTable.probeStart; rw [hm]; rfl
  unfold SetTable.freeSlot SetTable.probe
  rcases probe_go (x := x) h hd 12 (10 * turns t.mask) (t.probeStart x) (by rw [hm]; decide) rfl with ⟨j, e, e2⟩ | r
  · rw [e]; exact ⟨j, rfl, e2⟩
  · exfalso
    have hc := List.all_eq_true.mp all7 x.toNat (List.mem_range.mpr (by omega))
    have hx : ((x.toNat : Nat) : Int) = x := by omega
    unfold covers7 at hc
    rw [hx] at hc
    have sub : List.range 8 ⊆ t.place.toList := fun j hj => by
      have := List.all_eq_true.mp hc j hj
      refine r j ?_
      rw [visits_mask (u := t7) hm, hst]
      simpa using this
    have := List.Nodup.length_le_of_subset List.nodup_range sub
    rw [List.length_range, Array.length_toList] at this
    omega

/-- a table of few ints, whose places are known -/
structure TOk (led : Bool) (t : SetTable) (n : Nat) : Prop where
  up : PlUp t.place
  sz : t.place.size = n
  du : t.dummies = #[]
  pl : t.plain = true
  ld : t.led = led
  le : n ≤ t.mask
theorem TOk.fits {led : Bool} {t : SetTable} {n : Nat} (h : TOk led t n) : t.fits n = true := by
  unfold SetTable.fits SetTable.fill
  rw [h.sz, h.du]
  have := h.le
  simp; omega
theorem lay_ok {led : Bool} {t : SetTable} {es : Array (Int × Value)} (h : TOk led t es.size) (hm : t.mask = 7) (hs : es.size ≤ 4) {x : Int} (h0 : 0 ≤ x) (h1 : x < 64) (v : Value) :
    ∃ es1 t1, layNew t es x v = (es1, t1, false, false) ∧ TOk led t1 (es.size + 1) ∧ es1.size = es.size + 1 ∧ t1.mask = 7 := by
  obtain ⟨j, hf, hj⟩ := free7 hm h.up h.du (by rw [h.sz]; omega) h0 h1
  have hput : t.put j = ({ t with place := insertAt t.place (below t.place j) j }, below t.place j) := by
    unfold SetTable.put
    have e : SetTable.has t.dummies j = false := by rw [h.du]; simp [SetTable.has]
    dsimp only
    rw [e]; simp
  have hok : TOk led { t with place := insertAt t.place (below t.place j) j } (es.size + 1) :=
    ⟨insert_up h.up hj, by rw [← h.sz]; exact size_insertAt _ _ _, h.du, h.pl, h.ld, by show es.size + 1 ≤ t.mask; rw [hm]; omega⟩
  have hsz : (insertAt es (below t.place j) (x, v)).size = es.size + 1 := size_insertAt _ _ _
  have hft := hok.fits
  refine ⟨insertAt es (below t.place j) (x, v), { t with place := insertAt t.place (below t.place j) j }, ?_, hok, hsz, hm⟩
  unfold layNew
  rw [hf]
  dsimp only
  rw [hput]
  dsimp only
  unfold SetTable.orStandIn
  rw [hsz, hft]; rfl
end

end Pst

section Psr
section
open PySem.SetTable
noncomputable def liveOf (owner : Array (Option Nat)) (l : List Nat) : List (Nat × Nat) := l.filterMap fun j => (owner.getD j none).map (j, ·)
structure OwnOk (owner : Array (Option Nat)) (k : Nat) : Prop where
  sz : owner.size = 32
  pm : ((liveOf owner (List.range 32)).map (·.2)).Perm (List.range k)
theorem live_len {owner : Array (Option Nat)} : ∀ l : List Nat, (∀ y ∈ l, (owner.getD y none).isSome = true) → (liveOf owner l).length = l.length
  | [], _ => rfl
  | a :: l, h => by
    have ha := h a (.head _)
    obtain ⟨v, hv⟩ := Option.isSome_iff_exists.mp ha
    unfold liveOf
    rw [List.filterMap_cons_some (b := (a, v)) (by rw [hv]; rfl), List.length_cons, List.length_cons]
    exact congrArg (· + 1) (live_len l fun y hy => h y (.tail _ hy))
theorem live_fst {owner : Array (Option Nat)} : ∀ l : List Nat, (liveOf owner l).map (·.1) = l.filter fun j => (owner.getD j none).isSome
  | [] => rfl
  | a :: l => by
    have ih := live_fst (owner := owner) l
    unfold liveOf at ih ⊢
    cases e : owner.getD a none with
    | none => rw [List.filterMap_cons_none (by rw [e]; rfl), List.filter_cons_of_neg (by simp [e]), ih]
    | some v => rw [List.filterMap_cons_some (b := (a, v)) (by rw [e]; rfl), List.filter_cons_of_pos (by simp [e]), List.map_cons, ih]
theorem live_append (owner : Array (Option Nat)) (a b : List Nat) : liveOf owner (a ++ b) = liveOf owner a ++ liveOf owner b := List.filterMap_append
theorem live_congr {o1 o2 : Array (Option Nat)} : ∀ l : List Nat, (∀ y ∈ l, o1.getD y none = o2.getD y none) → liveOf o1 l = liveOf o2 l
  | [], _ => rfl
  | a :: l, h => by
    have ih := live_congr l fun y hy => h y (.tail _ hy)
    have ha := h a (.head _)
    unfold liveOf at ih ⊢
    cases e : o2.getD a none with
    | none => rw [List.filterMap_cons_none (by rw [ha, e]; rfl), List.filterMap_cons_none (by rw [e]; rfl), ih]
    | some v => rw [List.filterMap_cons_some (b := (a, v)) (by rw [ha, e]; rfl), List.filterMap_cons_some (b := (a, v)) (by rw [e]; rfl), ih]
theorem getD_set {o : Array (Option Nat)} {j y : Nat} {v : Option Nat} (hj : j < o.size) : (o.setIfInBounds j v).getD y none = if y = j then v else o.getD y none := by
  by_cases h : y = j
  · subst h; rw [if_pos rfl]; simp [Array.getD, hj]
  · rw [if_neg h]
    by_cases hy : y < o.size
    · simp [Array.getD, hy, Array.getElem_setIfInBounds, Ne.symm h]
    · simp [Array.getD, hy]
theorem own_step {o : Array (Option Nat)} {k j : Nat} (h : OwnOk o k) (hj : j < 32) (he : o.getD j none = none) : OwnOk (o.setIfInBounds j (some k)) (k + 1) := by
  have hjs : j < o.size := by rw [h.sz]; exact hj
  obtain ⟨a, b, e⟩ := List.append_of_mem (List.mem_range.mpr hj)
  have hnd : (a ++ j :: b).Nodup := by rw [← e]; exact List.nodup_range
  have h1 : j ∉ a ∧ j ∉ b := by
    rw [List.nodup_append, List.nodup_cons] at hnd
    exact ⟨fun q => hnd.2.2 j q j (.head _) rfl, hnd.2.1.1⟩
  refine ⟨by rw [Array.size_setIfInBounds]; exact h.sz, ?_⟩
  have hp := h.pm
  rw [e, live_append] at hp ⊢
  have c1 : liveOf (o.setIfInBounds j (some k)) a = liveOf o a := live_congr a fun y hy => by rw [getD_set hjs, if_neg (show ¬ y = j from fun q => h1.1 (q ▸ hy))]
  have c2 : liveOf (o.setIfInBounds j (some k)) b = liveOf o b := live_congr b fun y hy => by rw [getD_set hjs, if_neg (show ¬ y = j from fun q => h1.2 (q ▸ hy))]
  have c3 : liveOf (o.setIfInBounds j (some k)) (j :: b) = (j, k) :: liveOf (o.setIfInBounds j (some k)) b := by
    unfold liveOf
    rw [List.filterMap_cons_some (b := (j, k)) (by rw [getD_set hjs, if_pos rfl]; rfl)]
  have c4 : liveOf o (j :: b) = liveOf o b := by
    unfold liveOf
    rw [List.filterMap_cons_none (by rw [he]; rfl)]
  rw [c4] at hp
  rw [c3, c1, c2, List.map_append, List.map_cons, List.range_succ]
  rw [List.map_append] at hp
  exact (List.perm_middle.trans (hp.cons k)).trans (List.perm_append_singleton k (List.range k)).symm
/-- where the clean laying looks -/
noncomputable def visitsL : Nat → Nat → Nat → List Nat
  | 0, _, _ => []
  | n + 1, i, p => i :: visitsL n (leap 31 i p).1 (leap 31 i p).2
theorem free_ok {o : Array (Option Nat)} (hsz : o.size = 32) : ∀ (n fuel i p : Nat), n ≤ fuel →
    (∃ j, layClean.free 31 o fuel i p = some j ∧ j < 32 ∧ o.getD j none = none) ∨ ∀ y ∈ visitsL n i p, y < 32 → (o.getD y none).isSome = true
  | 0, _, _, _, _ => .inr fun y hy => nomatch hy
  | n + 1, fuel + 1, i, p, hn => by
    unfold layClean.free
    cases hf : (List.range (runEnd 31 i + 1 - i)).find? fun k => (o.getD (i + k) (some 0)).isNone with
    | some k =>
      refine .inl ⟨i + k, rfl, ?_⟩
      have hk := List.find?_some hf
      have hlt : i + k < o.size := by
        rcases Nat.lt_or_ge (i + k) o.size with q | q
        · exact q
        · have e : o.getD (i + k) (some 0) = some 0 := by simp [Array.getD, Nat.not_lt.mpr q]
          rw [e] at hk; cases hk
      refine ⟨by omega, ?_⟩
      have e : o.getD (i + k) none = o.getD (i + k) (some 0) := by simp [Array.getD, hlt]
      rw [e]; simpa using hk
    | none =>
      dsimp only
      rcases free_ok hsz n fuel (leap 31 i p).1 (leap 31 i p).2 (by omega) with r | r
      · exact .inl r
      · refine .inr fun y hy hy32 => ?_
        rcases List.mem_cons.mp hy with rfl | hy
        · have h0 := List.find?_eq_none.mp hf 0 (List.mem_range.mpr (by unfold runEnd; split <;> omega))
          rw [Nat.add_zero] at h0
          have e : o.getD y none = o.getD y (some 0) := by simp [Array.getD, show y < o.size by omega]
          rw [e]
          cases q : o.getD y (some 0) with
          | none => rw [q] at h0; simp at h0
          | some v => rfl
        · exact r y hy hy32
noncomputable def covers31 (h : Nat) : Bool := (List.range 32).all fun j => (visitsL 36 (bits (h : Int) % 32) (bits (h : Int))).contains j
theorem all31 : (List.range 64).all covers31 = true := by decide +kernel
theorem free31 {o : Array (Option Nat)} {k : Nat} (h : OwnOk o k) (hk : k < 32) {x : Int} (h0 : 0 ≤ x) (h1 : x < 64) : ∃ j, layClean.free 31 o (turns 31) (bits x % (31 + 1)) (bits x) = some j ∧ j < 32 ∧ o.getD j none = none := by
  rcases free_ok h.sz 36 (turns 31) (bits x % 32) (bits x) (by decide) with r | r
  · exact r
  · exfalso
    have hc := List.all_eq_true.mp all31 x.toNat (List.mem_range.mpr (by omega))
    have hx : ((x.toNat : Nat) : Int) = x := by omega
    unfold covers31 at hc
    rw [hx] at hc
    have := live_len (owner := o) (List.range 32) fun y hy => r y (by have := List.all_eq_true.mp hc y hy; simpa using this) (List.mem_range.mp hy)
    have hp := h.pm.length_eq
    rw [List.length_map, this, List.length_range, List.length_range] at hp
    omega
noncomputable abbrev layGo (acc : Option (Array (Option Nat) × Nat)) (h : Int) : Option (Array (Option Nat) × Nat) := do
  let (owner, k) ← acc
  let j ← layClean.free 31 owner (turns 31) (bits h % (31 + 1)) (bits h)
  pure (owner.setIfInBounds j (some k), k + 1)
theorem lay_go : ∀ (hs : List Int) (o : Array (Option Nat)) (k : Nat), OwnOk o k → k + hs.length ≤ 32 → (∀ x ∈ hs, 0 ≤ x ∧ x < 64) → ∃ o', hs.foldl layGo (some (o, k)) = some (o', k + hs.length) ∧ OwnOk o' (k + hs.length)
  | [], o, k, h, _, _ => ⟨o, rfl, h⟩
  | x :: hs, o, k, h, hk, hx => by
    rw [List.length_cons] at hk
    obtain ⟨j, e, hj, he⟩ := free31 h (by omega) (hx x (.head _)).1 (hx x (.head _)).2
    obtain ⟨o', e2, h2⟩ := lay_go hs _ (k + 1) (own_step h hj he) (by omega) fun y hy => hx y (.tail _ hy)
    refine ⟨o', ?_, by rw [List.length_cons, show k + (hs.length + 1) = k + 1 + hs.length by omega]; exact h2⟩
    rw [List.foldl_cons, List.length_cons, show k + (hs.length + 1) = k + 1 + hs.length by omega, ← e2]
    congr 1
    show (layClean.free 31 o (turns 31) (bits x % (31 + 1)) (bits x) >>= fun j => pure (o.setIfInBounds j (some k), k + 1)) = _
    rw [e]; rfl
theorem own_zero : OwnOk (Array.replicate (31 + 1) none) 0 := ⟨by simp, by decide⟩
theorem relay_ok {led : Bool} {t : SetTable} {es : Array (Int × Value)} (h : TOk led t es.size) (hs : es.size = 5) (hx : ∀ e ∈ es.toList, 0 ≤ e.1 ∧ e.1 < 64) :
    ∃ es1 t1, relayAll t es (SetTable.grown es.size) = (es1, t1, false) ∧ TOk led t1 es1.size ∧ es1.size = es.size := by
  obtain ⟨o, e, ho⟩ := lay_go (es.map (·.1)).toList _ 0 own_zero (by simp; omega) (fun x hx' => by
    rw [Array.toList_map] at hx'
    obtain ⟨p, hp, rfl⟩ := List.mem_map.mp hx'
    exact hx p hp)
  rw [Nat.zero_add] at e ho
  have hl : (es.map (·.1)).toList.length = es.size := by simp
  rw [hl] at e ho
  have hlay : layClean 31 (es.map (·.1)) = some o := by
    unfold layClean
    rw [← Array.foldl_toList]
    show ((es.map (·.1)).toList.foldl layGo (some (Array.replicate (31 + 1) none, 0))).map (·.1) = some o
    rw [e]; rfl
  have hrel : t.relaid (es.map (·.1)) (SetTable.grown es.size) = some ({ mask := 31, place := ((liveOf o (List.range 32)).map (·.1)).toArray, dummies := #[], finger := t.finger, led := t.led, moves := t.movedTo 31, plain := t.plain }, ((liveOf o (List.range 32)).map (·.2)).toArray) := by
    unfold SetTable.relaid
    have eg : SetTable.sizeAbove (SetTable.grown es.size) - 1 = 31 := by rw [hs]; decide
    rw [eg]
    unfold SetTable.laid
    rw [hlay]; rfl
  have hlen := ho.pm.length_eq
  rw [List.length_map, List.length_range] at hlen
  have hup : PlUp ((liveOf o (List.range 32)).map (·.1)).toArray := by
    show ((liveOf o (List.range 32)).map (·.1)).Pairwise (· < ·)
    rw [live_fst]
    exact List.Pairwise.filter _ List.pairwise_lt_range
  have hsz : ((((liveOf o (List.range 32)).map (·.2)).toArray).filterMap (es[·]?)).size = es.size := by
    rw [← Array.length_toList, Array.toList_filterMap]
    have := (ho.pm.filterMap fun i => es[i]?).length_eq
    rw [filterMap_getElem?_range] at this
    simpa using this
  have hok : TOk led ({ mask := 31, place := ((liveOf o (List.range 32)).map (·.1)).toArray, dummies := #[], finger := t.finger, led := t.led, moves := t.movedTo 31, plain := t.plain } : SetTable) es.size :=
    ⟨hup, by rw [List.size_toArray, List.length_map, hlen], rfl, h.pl, h.ld, by show es.size ≤ 31; omega⟩
  refine ⟨_, _, ?_, hsz ▸ hok, hsz⟩
  unfold relayAll
  rw [hrel]
  dsimp only
  have hc : coversAll ((liveOf o (List.range 32)).map (·.2)).toArray es.size = true := by
    unfold coversAll
    exact List.isPerm_iff.mpr ho.pm
  rw [hc, hsz, hok.fits]; rfl
end

end Psr

section Pse
section
variable {prog : Program} {w : World} {A : Around} {E : Value → Shared → Prop} {s : Shared}
/-- a set of few small ints: what it holds, and that its table is led -/
noncomputable def SetI (prog : Program) (w : World) (led : Bool) (o : Obj) (vs : List Value) : Prop :=
  o.ExactSet ∧ ∃ es ep t, o.data = .set es ep t ∧ TOk led t es.size ∧ (es.toList.map (·.2)).Perm vs ∧ ElemsOf (intKind prog w) es.toList ∧ (∀ e ∈ es.toList, 0 ≤ e.1 ∧ e.1 < 64) ∧ (es.size ≤ 4 → t.mask = 7)
noncomputable def hashB (x : Nat) : Bool := hashInt x == x
theorem hashes : (List.range 64).all hashB = true := by decide +kernel
theorem hash_small {x : Int} (h0 : 0 ≤ x) (h1 : x < 64) : hashInt x = x := by
  have := List.all_eq_true.mp hashes x.toNat (List.mem_range.mpr (by omega))
  have e : ((x.toNat : Nat) : Int) = x := by omega
  unfold hashB at this
  rw [e] at this
  simpa using this
theorem perm_size {es : Array (Int × Value)} {vs : List Value} (h : (es.toList.map (·.2)).Perm vs) : es.size = vs.length := by
  have := h.length_eq
  simpa using this
theorem store_at {h : Heap} {a : Addr} {o : Obj} {es : Array (Int × Value)} {ep : Nat} {t : SetTable} (ho : h.get? a = some o) (hd : o.data = .set es ep t) (es' : Array (Int × Value)) (t' : SetTable) :
    (h.update a (Obj.putSet es' t')).get? a = some { o with data := .set es' (ep + 1) t' } := by
  have := Heap.get?_update_self (Obj.putSet es' t') ho (by rw [putSet_of es' t' hd]; rfl)
  rw [putSet_of es' t' hd] at this; exact this
theorem set_add_new {led : Bool} {a : Addr} {o : Obj} {vs : List Value} {x : Int} {u : Tok} {Q : Bool → Shared → Prop} (ho : s.heap.get? a = some o) (hS : SetI prog w led o vs) (hlen : vs.length ≤ 4) (h0 : 0 ≤ x) (h1 : x < 64)
    (hnew : ∀ y ∈ vs, Value.isInt x y = false) (h : ∀ h' o', Heap.SameBut a s.heap h' → h'.get? a = some o' → SetI prog w led o' (vs ++ [.int x u]) → Q true { s with heap := h' }) :
    wpAny (model prog w) A (setAddHashed a (.int x u) (hashInt x)) Q E s := by
  obtain ⟨hex, es, ep, t, hd, hT, hp, hel, hb, hm⟩ := hS
  have hn := perm_size hp
  have hm7 := hm (by omega)
  have hfit := hT.fits
  have hkey : (intKind prog w).is x (.int x u) = true := intKind_is prog w x u
  obtain ⟨es1, t1, hlay, hT1, hsz1, hm1⟩ := lay_ok hT hm7 (by omega) h0 h1 (.int x u)
  have hp1 := layNew_perm t es x (.int x u)
  rw [hlay, Array.toList_push] at hp1
  dsimp only at hp1
  have hx : hashInt x = x := hash_small h0 h1
  have hel1 : ElemsOf (intKind prog w) es1.toList := by
    have := (hel.push (k := x) (x := .int x u) hkey rfl).perm (l' := es1.toList)
    refine this ?_
    show es1.toList.Perm (es.toList ++ [(hashInt x, .int x u)])
    rw [hx]; exact hp1
  have hp2 : (es1.toList.map (·.2)).Perm (vs ++ [.int x u]) := by
    refine (hp1.map (·.2)).trans ?_
    rw [List.map_append]
    exact hp.append_right _
  have hb1 : ∀ e ∈ es1.toList, 0 ≤ e.1 ∧ e.1 < 64 := fun e he => by
    rcases List.mem_append.mp (hp1.mem_iff.mp he) with q | q
    · exact hb e q
    · rw [List.mem_singleton.mp q]; exact ⟨h0, h1⟩
  unfold setAddHashed setAddHashedIn
  refine wpAny_holding (wpAny_bind (wpAny_setState_of ho hd hfit ?_))
  dsimp only
  rw [byScan_of (knd := intKind prog w) (x := .int x u) rfl (by unfold scanBound; omega) hel]
  simp only [↓reduceIte]
  unfold setAddByScan
  refine wpAny_bind ?_
  refine wpAny_bind (wpAny_rule ?_)
  refine wpAny_bind (wpAny_setScan_of (knd := intKind prog w) hkey ho hd hfit hel ?_)
  have hnone : es.toList.findIdx? (fun e => (intKind prog w).is x e.2) = none := List.findIdx?_eq_none_iff.mpr fun e he => by
    have := hnew e.2 (hp.mem_iff.mp (List.mem_map_of_mem he))
    exact this
  rw [hnone]
  dsimp only
  rw [hx, hlay]
  dsimp only
  refine wpAny_bind (wpAny_pure ?_)
  rw [if_pos hT1.pl]
  refine wpAny_bind ?_
  rw [hashByValue_scannable 8 (x := .int x u) rfl]
  refine wpAny_pure ?_
  simp only [plainKind, ↓reduceIte, Bool.not_false, Bool.true_and]
  refine wpAny_bind (wpAny_storeSet_of ho hd ?_ (fits_of_scanBound (by unfold scanBound; omega)))
  have ho1 := store_at ho hd es1 t1
  have hsb1 := Heap.SameBut.update s.heap a (Obj.putSet es1 t1)
  have hfill : t1.fill = es.size + 1 := by
    unfold SetTable.fill
    rw [hT1.sz, hT1.du]; rfl
  by_cases h5 : es.size = 4
  · have htf : t1.tooFull = true := by
      unfold SetTable.tooFull
      rw [hfill, hm1, h5]; rfl
    rw [if_pos htf]
    obtain ⟨es2, t2, hrel, hT2, hsz2⟩ := relay_ok (es := es1) (by rw [hsz1]; exact hT1) (by omega) hb1
    have hp3 := relayAll_perm t1 es1 (SetTable.grown es1.size)
    rw [hrel] at hp3
    dsimp only at hp3
    rw [hrel]
    dsimp only
    refine wpAny_bind (wpAny_pure ?_)
    refine wpAny_bind (wpAny_storeSet_of (s := { s with heap := s.heap.update a (Obj.putSet es1 t1) }) ho1 rfl ?_ (fits_of_scanBound (by unfold scanBound; omega)))
    refine wpAny_pure ?_
    dsimp only
    refine wpAny_pure (h _ _ (hsb1.trans (Heap.SameBut.update _ a _)) (store_at ho1 rfl es2 t2) ⟨hex, es2, _, t2, rfl, hT2, (hp3.map (·.2)).trans hp2, hel1.perm hp3, fun e he => hb1 e (hp3.mem_iff.mp he), fun q => absurd q (by omega)⟩)
  · have htf : ¬ t1.tooFull = true := by
      unfold SetTable.tooFull
      rw [hfill, hm1]; simp; omega
    rw [if_neg htf]
    refine wpAny_pure ?_
    dsimp only
    exact wpAny_pure (h _ _ hsb1 ho1 ⟨hex, es1, _, t1, rfl, by rw [hsz1]; exact hT1, hp2, hel1, hb1, fun _ => hm1⟩)
end

end Pse

section Psc
noncomputable abbrev ledOf (w : World) : Bool := !w.params.followText "set-order"
section
variable {prog : Program} {w : World} {A : Around} {R : Result → Shared → Prop} {E : Value → Shared → Prop} {s : Shared} {I : Addr} {fp wr : List Addr} {G : Array GenState → Array GenState → Prop} {n : Nat} {P : Nat → Value → Prop} {St : Nat → Shared → Prop}
theorem ints_new {vs : List Value} {ns : List Int} (h : IntsAre vs ns) (hne : ns.Nodup) {i : Nat} {x : Int} {u : Tok} (hx : vs[i]? = some (.int x u)) : ∀ y ∈ vs.take i, Value.isInt x y = false := by
  intro y hy
  obtain ⟨j, hj, rfl⟩ := List.mem_iff_getElem.mp hy
  rw [List.length_take] at hj
  have hjv : vs[j]? = some ((vs.take i)[j]'(by rw [List.length_take]; exact hj)) := by
    rw [List.getElem_take]; exact List.getElem?_eq_getElem (by omega)
  obtain ⟨a, t, ea, ja⟩ := IntsAre.at h j _ hjv
  obtain ⟨b, t2, eb, jb⟩ := IntsAre.at h i _ hx
  cases eb
  rw [ea]
  have hab : a ≠ x := fun e => by
    subst e
    have h1 := (List.getElem?_eq_some_iff.mp ja)
    have h2 := (List.getElem?_eq_some_iff.mp jb)
    obtain ⟨p1, q1⟩ := h1
    obtain ⟨p2, q2⟩ := h2
    exact List.pairwise_iff_getElem.mp hne j i p1 p2 (by omega) (q1.trans q2.symm)
  simp [Value.isInt, hab]
theorem update_loop {led : Bool} {vs : List Value} {ns : List Int} (W : WalksS prog w A.in1 I fp wr G vs.length P St) (S : Addr) (hSf : S ∉ fp) (hi : IntsAre vs ns) (hne : ns.Nodup) (hb : ∀ x ∈ ns, 0 ≤ x ∧ x < 64) (hlen : vs.length ≤ 5)
    (hP : ∀ i v, P i v → vs[i]? = some v) : ∀ (k i : Nat) (s : Shared) (o : Obj), vs.length - i = k → i ≤ vs.length → St i s → s.heap.get? S = some o → SetI prog w led o (vs.take i) →
      (∀ s' o', Moved (S :: wr) G s s' → s'.heap.get? S = some o' → SetI prog w led o' vs → R (.ok (.ret .none)) s') →
      codeAny (model prog w) A (.builtin "set.update.loop" ⟨[.ref S, .ref I], []⟩) R s := by
  have hSw : S ∉ wr := fun h => hSf (W.sub _ h)
  have hsub : ∀ b ∈ wr, b ∈ S :: wr := fun b hb => List.mem_cons_of_mem _ hb
  intro k
  induction k with
  | zero =>
    intro i s o hk hin hst ho hS hR
    have e : i = vs.length := by omega
    subst e
    rw [List.take_length] at hS
    refine codeAny_builtin PyProof.Rows.F.entry_set_update_loop ?_
    rw [Around.under_plainId PyProof.Rows.F.plain_set_update_loop _]
    show wpAny _ A.in1 (pyNext (.ref I) >>= _) _ _ s
    refine wpAny_bind (W.done s _ _ hst fun s' hm => ?_)
    show wpAny _ A.in1 (ret Value.none) _ _ s'
    exact wpAny_pure (hR s' o (hm.mono hsub) (hm.heap S _ hSw ho) hS)
  | succ k ih =>
    intro i s o hk hin hst ho hS hR
    have hlt : i < vs.length := by omega
    refine codeAny_builtin PyProof.Rows.F.entry_set_update_loop ?_
    rw [Around.under_plainId PyProof.Rows.F.plain_set_update_loop _]
    show wpAny _ A.in1 (pyNext (.ref I) >>= _) _ _ s
    refine wpAny_bind (W.item i s _ _ hlt hst fun v s' hPv hst' hm => ?_)
    have hv := hP i v hPv
    obtain ⟨x, u, rfl, hx⟩ := IntsAre.at hi i v hv
    have ho' := hm.heap S _ hSw ho
    have hxb := hb x (List.mem_of_getElem? hx)
    show wpAny _ A.in1 (holding [Value.int x u] (setAdd S (.int x u)) >>= _) _ _ s'
    refine wpAny_bind (wpAny_holding ?_)
    unfold setAdd
    refine wpAny_holding ?_
    refine wpAny_bind ((intKind prog w).pyHash (k := x) (intKind_is _ _ _ _) ?_)
    refine set_add_new (s := { s' with toks := s'.toks + 1 }) ho' hS (by rw [List.length_take]; omega) hxb.1 hxb.2 (ints_new hi hne hv) fun h' o2 hsb ho2 hS2 => ?_
    have e : vs.take (i + 1) = vs.take i ++ [.int x u] := by rw [List.take_add_one, hv]; rfl
    refine wpAny_pure ⟨plainId_quiet PyProof.Rows.F.plain_set_update_loop _, ih (i + 1) _ o2 (by omega) hlt (W.frame _ s' _ _ hst' (Nat.le_succ _) fun b hb o e => ?_) ho2 (by rw [e]; exact hS2) fun s'' o3 hm'' ho3 hS3 => ?_⟩
    · rw [hsb.2 b (fun h : b = S => hSf (by rw [← h]; exact hb))]; exact e
    · refine hR s'' o3 (Moved.trans W.gtrans ((hm.mono hsub).then_heap (Nat.le_succ _) fun b o hb e => ?_) hm'') ho3 hS3
      rw [hsb.2 b (fun h : b = S => hb (by rw [h]; exact List.mem_cons_self))]; exact e
theorem fresh_set (led : Bool) : SetI prog w led { cls := .type "set", dict := none, data := .set #[] 0 (.fresh 0 0 led) } [] :=
  ⟨⟨rfl, rfl, rfl⟩, #[], 0, _, rfl, ⟨.nil, rfl, rfl, rfl, rfl, Nat.zero_le _⟩, .nil, fun e he => (by simp at he), fun e he => (by simp at he), fun _ => rfl⟩
/-- set.__new__, and how its table is led -/
theorem code_new_set (a : Value) {Q₁ : Value → Shared → Prop}
    (h : Q₁ (.ref s.heap.objs.size) { s with heap := s.heap.push { cls := .type "set", dict := none, data := .set #[] 0 (.fresh 0 0 (ledOf w)) } }) :
    codeAny (model prog w) A (.call (.builtin "set.__new__") ⟨[.type "set", a], []⟩) (wants Q₁ E) s := by
  refine codeAny_of_tree ?_
  show wpAny _ A.in1 (do checkBuiltinCall "set.__new__" ⟨[.type "set", a], []⟩; again (.builtin "set.__new__" ⟨[.type "set", a], []⟩)) _ _ s
  refine wpAny_bind (wpAny_of_eq (PySem.F.newCall_set_1 a) (wpAny_pure ⟨plainId_quiet PySem.F.plain_set_new _, codeAny_builtin PySem.F.entry_set_new ?_⟩))
  rw [Around.under_plainId PySem.F.plain_set_new _]
  unfold Builtin.«set.__new__» Builtin.Frozenset.newClass
  have hsub := sub_set_self
  obtain ⟨hp, g, d, tk, os⟩ := s
  dsimp only
  wp_walk
  refine wpAny_askSetting (wpAny_pure ?_)
  dsimp only
  simp only [newObj]
  refine wpAny_bind (wpAny_alloc (wpAny_pure ?_))
  exact wpAny_pure h
set_option maxRecDepth 100000 in
set_option maxHeartbeats 3200000 in
theorem set_call {l : Addr} {vs : List Value} {ns : List Int} {Q : Value → Shared → Prop}
    (hh : A.handled = none) (hl : s.heap.IsList l vs.toArray) (hi : IntsAre vs ns) (hne : ns.Nodup) (hb : ∀ x ∈ ns, 0 ≤ x ∧ x < 64) (hlen : vs.length ≤ 5)
    (h : ∀ (h' : Heap) (tk : Nat) (o : Obj), h'.get? s.heap.objs.size = some o → SetI prog w (ledOf w) o vs →
      (∀ b o, b < s.heap.objs.size → s.heap.get? b = some o → h'.get? b = some o) → Q (.ref s.heap.objs.size) { s with heap := h', toks := tk }) :
    wpAny (model prog w) A (call (.type "set") [.ref l]) Q E s := by
  k_with "wp" => (first | (with_reducible (first | refine wpAny_pure ?_ | refine wpAny_bind ?_ | refine wpAny_holding ?_ | refine wpAny_standAt ?_ | refine wpAny_point ?_ | refine wpAny_rule ?_ | refine wpAny_letGo ?_ | refine wpAny_mkInt' ?_ | refine wpAny_throw ?_ | refine wpAny_of_eq (by assumption) ?_ | refine wpAny_typeOf (by assumption) ?_ | refine wpAny_specialOf_val (by assumption) (by assumption) ?_ | refine wpAny_specialOf (by assumption) (by assumption) ?_ | refine wpAny_isInstance_val (by assumption) (by assumption) ?_ | refine wpAny_isInstance (by assumption) (by assumption) ?_ | refine wpAny_call ?_ | refine wpAny_runValue ?_ | refine wpAny_run ?_)) | ((with_reducible apply wpAny_loadPart'); focus (heap_get; done)) | ((with_reducible apply wpAny_load'); focus (heap_get; done)) | ((with_reducible apply wpAny_ite_false); focus (rfl; done)) | ((with_reducible apply wpAny_ite_true); focus (rfl; done)) | wp_delta | wp_step)
  obtain ⟨c, tl, hmro⟩ := PySem.F.called_set.mro
  have hmade := PySem.F.called_set.made
  have hsub := PySem.F.called_set.sub
  refine wpAny_call (codeAny_of_tree ?_)
  show wpAny _ _ (callAny (.type "set") _) _ _ _
  refine wpAny_pure ⟨Code.quiet_builtin _ (by decide +kernel), codeAny_builtin PySem.F.entry_type_call ?_⟩
  rw [Around.under_plain (weight_type_call_type "set" [.ref l] []) rfl]
  have h1 := PySem.F.called_set.notType
  have h2 := PySem.F.called_set.canCreate
  have hct := PySem.F.typeCall_set_1 (.ref l)
  repeat (any_goals (first | (with_reducible assumption) | k_extra "wp"))
  refine codeAny_mono (code_new_set (.ref l) (E := E) (Q₁ := fun obj s₁ => obj = .ref s.heap.objs.size ∧ s₁ = { s with heap := s.heap.push { cls := .type "set", dict := none, data := .set #[] 0 (.fresh 0 0 (ledOf w)) } }) ⟨rfl, rfl⟩) fun r s₁ hr => ?_
  cases r with
  | error e => exact hr
  | ok fl =>
    cases fl with
    | ret obj =>
      obtain ⟨rfl, rfl⟩ := hr
      have hS : (s.heap.push { cls := .type "set", dict := none, data := .set #[] 0 (.fresh 0 0 (ledOf w)) }).get? s.heap.objs.size = some { cls := .type "set", dict := none, data := .set #[] 0 (.fresh 0 0 (ledOf w)) } := Heap.get?_push_size _ rfl
      have hT : Shared.TypeIs { s with heap := s.heap.push { cls := .type "set", dict := none, data := .set #[] 0 (.fresh 0 0 (ledOf w)) } } (.ref s.heap.objs.size) "set" := ⟨_, hS, rfl⟩
      generalize ledOf w = led at *
      have hli := PySem.F.called_set.init.lookup
      have hbi := PySem.F.called_set.init.bind (.ref s.heap.objs.size)
      repeat (any_goals (first | (with_reducible assumption) | k_extra "wp"))
      refine codeAny_mono (codeAny_call_builtin (R := wants (fun r s₂ => r = .none ∧ ∃ h' tk o, s₂ = { s with heap := h', toks := tk } ∧ h'.get? s.heap.objs.size = some o ∧ SetI prog w led o vs ∧
          (∀ b o, b < s.heap.objs.size → s.heap.get? b = some o → h'.get? b = some o)) E) PySem.F.called_set.init.plain PySem.F.entry_set_init (check_set_init_1 hT ?_)) fun r₂ s₂ hr₂ => ?_
      · obtain ⟨ol, hol, hcl, nl, hdl⟩ := hl
        obtain ⟨ocls, odict, odata, oslots⟩ := ol
        simp only at hcl hdl
        subst hcl; subst hdl
        have hol' : (s.heap.push { cls := .type "set", dict := none, data := .set #[] 0 (.fresh 0 0 led) }).get? l = some { cls := .type "list", dict := odict, data := .seq vs.toArray nl, slots := oslots } := Heap.get?_push_of_some _ hol
        have hsls := PySem.F.sub_list_set
        have hslf := PySem.F.sub_list_frozenset
        have hne9 : (Value.type "list" == Value.type "dict") = false := by decide
        have hl1 : (s.heap.push { cls := .type "set", dict := none, data := .set #[] 0 (.fresh 0 0 led) }).IsList l vs.toArray := ⟨_, hol', rfl, nl, rfl⟩
        unfold Builtin.«set.__init__» noKeywords Builtin.Frozenset.updateFrom
        generalize hPI : pyIter = PI
        repeat (k_extra "wp")
        subst hPI
        refine wpAny_pyIter_list hl1 ?_
        refine wpAny_bind (wpAny_runValue ?_)
        have hlS : l < s.heap.objs.size := Heap.lt_size hol
        have hh3 : A.in1.in1.in1.handled = none := by simp [hh]
        have hneI : l ≠ (s.heap.push { cls := .type "set", dict := none, data := .set #[] 0 (.fresh 0 0 led) }).objs.size := by
          rw [Heap.size_push]; exact Nat.ne_of_lt (Nat.lt_succ_of_lt hlS)
        have hSf : s.heap.objs.size ∉ [(s.heap.push { cls := .type "set", dict := none, data := .set #[] 0 (.fresh 0 0 led) }).objs.size, l] := by
          rw [Heap.size_push]; simp only [List.mem_cons, List.mem_singleton, List.not_mem_nil, or_false, not_or]
          exact ⟨Nat.ne_of_lt (Nat.lt_succ_self _), Nat.ne_of_gt hlS⟩
        have W := (Walks.list (prog := prog) (w := w) hh3 (s.heap.push { cls := .type "set", dict := none, data := .set #[] 0 (.fresh 0 0 led) }).objs.size l hneI vs.toArray).toS
        rw [List.size_toArray] at W
        refine update_loop (vs := vs) (led := led) W s.heap.objs.size hSf hi hne hb hlen (fun i v hv => by simpa using hv) (vs.length - 0) 0 _ { cls := .type "set", dict := none, data := .set #[] 0 (.fresh 0 0 led) } (by omega) (Nat.zero_le _)
          ⟨⟨_, Heap.get?_push_size _ rfl, rfl, rfl⟩, (hl1.push _)⟩ (Heap.get?_push_of_some _ hS) (fresh_set led) ?hR
        case hR =>
          intro s' o' hm ho' hS'
          obtain ⟨h', g', d', tk', os'⟩ := s'
          have eg : g' = s.gens := hm.gens
          have ed : d' = s.drawn := hm.drawn
          have eo : os' = s.os := hm.os
          subst eg; subst ed; subst eo
          show wpAny _ _ _ _ _ _
          refine wpAny_pure ?_
          show wpAny _ _ (ret Value.none) _ _ _
          refine wpAny_pure ⟨rfl, h', tk', o', rfl, ho', hS', fun b o hb e => ?_⟩
          have hb1 : b ≠ s.heap.objs.size := Nat.ne_of_lt hb
          have hb2 : b ≠ (s.heap.push { cls := .type "set", dict := none, data := .set #[] 0 (.fresh 0 0 led) }).objs.size := by
            rw [Heap.size_push]; exact Nat.ne_of_lt (Nat.lt_succ_of_lt hb)
          exact hm.heap b o (by simp only [List.mem_cons, List.mem_singleton, List.not_mem_nil, or_false, not_or]; exact ⟨hb1, hb2⟩) (Heap.get?_push_of_some _ (Heap.get?_push_of_some _ e))
      · cases r₂ with
        | error e => exact hr₂
        | ok fl₂ =>
          cases fl₂ with
          | ret r =>
            obtain ⟨rfl, h', tk, o, rfl, ho', hS', hk'⟩ := hr₂
            repeat (any_goals (first | (with_reducible assumption) | k_extra "wp"))
            exact h _ _ _ ho' hS' hk'
          | _ => exact hr₂.elim
    | _ => exact hr.elim
end

end Psc

section Psi
section
theorem slot_setit_next : Slot "set_iterator" "__next__" "set_iterator.__next__" :=
  .of (owner := "set_iterator") (n := "__next__") (by rw [typeLookup_type, builtinLookup_eq_fast]; kernel_rfl) (by decide +kernel) (by decide +kernel) (by decide +kernel)
    (by first | exact .inl (by decide +kernel) | exact .inr (by decide +kernel)) (by rw [isSubtype_type]; kernel_rfl)
theorem slot_setit_iter : Slot "set_iterator" "__iter__" "set_iterator.__iter__" :=
  .of (owner := "set_iterator") (n := "__iter__") (by rw [typeLookup_type, builtinLookup_eq_fast]; kernel_rfl) (by decide +kernel) (by decide +kernel) (by decide +kernel)
    (by first | exact .inl (by decide +kernel) | exact .inr (by decide +kernel)) (by rw [isSubtype_type]; kernel_rfl)
theorem entry_setit_next : entryFor table "set_iterator.__next__" = some Builtin.«set_iterator.__next__» := entryFor_of_tree (by kernel_rfl)
theorem entry_setit_iter : entryFor table "set_iterator.__iter__" = some Builtin.«dict_keyiterator.__iter__» := entryFor_alias (id' := "dict_keyiterator.__iter__") (by kernel_rfl) rfl (by decide +kernel) (by kernel_rfl)
theorem entry_set_iter : entryFor table "set.__iter__" = some Builtin.«frozenset.__iter__» := entryFor_alias (id' := "frozenset.__iter__") (by kernel_rfl) rfl (by decide +kernel) (by kernel_rfl)
theorem owner_setit : Manifest.owners.lookup (String.ofList ['r', 'o', 't', 'a', 'r', 'e', 't', 'i', '_', 't', 'e', 's'].reverse) = some Manifest.sig_set_iterator := by kernel_rfl
theorem args_setit_next (a : Value) : argsOk "set_iterator.__next__" ⟨[a], []⟩ := by
  unfold argsOk; rw [signature?_of (id := "set_iterator.__next__") (n := ['_', '_', 't', 'x', 'e', 'n', '_', '_']) (o := ['r', 'o', 't', 'a', 'r', 'e', 't', 'i', '_', 't', 'e', 's']) (by kernel_rfl) owner_setit]; kernel_rfl
theorem args_setit_iter (a : Value) : argsOk "set_iterator.__iter__" ⟨[a], []⟩ := by
  unfold argsOk; rw [signature?_of (id := "set_iterator.__iter__") (n := ['_', '_', 'r', 'e', 't', 'i', '_', '_']) (o := ['r', 'o', 't', 'a', 'r', 'e', 't', 'i', '_', 't', 'e', 's']) (by kernel_rfl) owner_setit]; kernel_rfl
theorem pick_go {α : Type} (next : Nat → Nat) : ∀ (fuel k : Nat) (left : List α) (out : Array α), left.length ≤ fuel → (pickOrder.go next fuel k left out).toList.Perm (out.toList ++ left)
  | 0, k, left, out, h => by
    have : left = [] := List.length_eq_zero_iff.mp (by omega)
    subst this
    unfold pickOrder.go; simp
  | fuel + 1, k, left, out, h => by
    unfold pickOrder.go
    by_cases hl : left = []
    · subst hl; simp
    · have hpos : 0 < left.length := List.length_pos_iff.mpr hl
      have hi : next k % left.length < left.length := Nat.mod_lt _ hpos
      rw [List.getElem?_eq_getElem hi]
      dsimp only
      refine (pick_go next fuel (k + 1) _ _ (by rw [List.length_eraseIdx_of_lt hi]; omega)).trans ?_
      rw [Array.toList_push, List.append_assoc]
      refine List.Perm.append_left _ ?_
      rw [List.eraseIdx_eq_take_drop_succ]
      have e : left.take (next k % left.length) ++ left[next k % left.length] :: left.drop (next k % left.length + 1) = left := by
        rw [List.getElem_cons_drop, List.take_append_drop]
      have p : (left[next k % left.length] :: (left.take (next k % left.length) ++ left.drop (next k % left.length + 1))).Perm (left.take (next k % left.length) ++ left[next k % left.length] :: left.drop (next k % left.length + 1)) := List.perm_middle.symm
      rw [e] at p
      exact p
theorem pick_perm {α : Type} (next : Nat → Nat) (xs : Array α) : (pickOrder next xs).toList.Perm xs.toList := by
  have := pick_go next xs.size 0 xs.toList #[] (by simp)
  simpa [pickOrder] using this
end
section
variable {prog : Program} {w : World} {A : Around} {E : Value → Shared → Prop} {s : Shared}
/-- in which order a set is walked -/
noncomputable def walkOf (w : World) (S ep : Nat) (es : Array (Int × Value)) : Array (Int × Value) := if w.params.followText "set-order" then pickOrder (w.params.setOrder S ep) es else es
theorem walk_perm (w : World) (S ep : Nat) (es : Array (Int × Value)) : (walkOf w S ep es).toList.Perm es.toList := by
  unfold walkOf; split
  · exact pick_perm _ _
  · exact .rfl
theorem walk_size (w : World) (S ep : Nat) (es : Array (Int × Value)) : (walkOf w S ep es).size = es.size := by
  have := (walk_perm w S ep es).length_eq; simpa using this
/-- the slot that the iterator keeps ahead of its i-th turn -/
noncomputable def slotOf (w : World) (t : SetTable) (i : Nat) : Nat := if w.params.followText "set-order" then 0 else if i = 0 then 0 else t.place.getD (i - 1) 0 + 1
noncomputable def SetIter (h : Heap) (I S slot i n ep : Nat) : Prop := ∃ o, h.get? I = some o ∧ o.cls = .type "set_iterator" ∧ o.data = .fields #[.int slot 0, .int i 0, .ref S, .int n 0, .int ep 0]
theorem SetIter.typeIs {I S slot i n ep : Nat} (x : SetIter s.heap I S slot i n ep) : s.TypeIs (.ref I) "set_iterator" := let ⟨o, ho, hc, _⟩ := x; ⟨o, ho, hc⟩
theorem slot_below {t : SetTable} {n : Nat} {led : Bool} (hT : TOk led t n) (hw : w.params.followText "set-order" = false) {i : Nat} (hi : i ≤ n) : SetTable.below t.place (slotOf w t i) = i := by
  unfold slotOf
  rw [hw, if_neg (by simp)]
  by_cases h0 : i = 0
  · rw [if_pos h0, h0]; exact below_zero hT.up
  · rw [if_neg h0]
    have := (below_at hT.up (i := i - 1) (by rw [hT.sz]; omega)).2
    rw [this]; omega
theorem pyIter_set {S : Addr} {o : Obj} {es : Array (Int × Value)} {ep : Nat} {t : SetTable} {led : Bool} {Q : Value → Shared → Prop} (ho : s.heap.get? S = some o) (hex : o.ExactSet) (hd : o.data = .set es ep t) (hT : TOk led t es.size)
    (hQ : Q (.ref s.heap.objs.size) { s with heap := s.heap.push { cls := .type "set_iterator", data := .fields #[.int 0 0, .int 0 0, .ref S, .int es.size 0, .int ep 0] } }) :
    wpAny (model prog w) A (pyIter (.ref S)) Q E s := by
  have hty : s.TypeIs (.ref S) "set" := ⟨o, ho, hex.1⟩
  have hf := hT.fits
  refine wpAny_pyIter_slot hty PySem.F.slot_set_iter (wpAny_call_entry PySem.F.slot_set_iter hty entry_set_iter ?_ (PySem.F.args_set_iter_1 _))
  unfold Builtin.«frozenset.__iter__» Builtin.Frozenset.slot0 slotArgs
  simp only [List.isEmpty_nil, Bool.not_true, Bool.false_eq_true, ↓reduceIte, bind_assoc, List.length_nil, bne_self_eq_false]
  unfold Builtin.Frozenset.addrOf Builtin.Frozenset.sizeOf
  refine wpAny_bind (wpAny_pure ?_)
  try dsimp only
  refine wpAny_bind (wpAny_pure ?_)
  refine wpAny_bind (wpAny_bind (wpAny_setEntries_of ho hd hf (wpAny_pure ?_)))
  refine wpAny_bind ?_
  unfold setDrawn
  refine wpAny_bind (wpAny_setState_of ho hd hf ?_)
  dsimp only
  unfold setsByText
  refine wpAny_bind (wpAny_bind (wpAny_askSetting (wpAny_pure ?_)))
  dsimp only
  have hdr : ∀ b : Bool, (!b && (!t.plain && decide (es.size > 1))) = false := fun b => by rw [hT.pl]; simp
  refine wpAny_pure ?_
  refine wpAny_ite_split (fun hb => ?_) (fun _ => ?_)
  · have hb' : (!w.params.followText "set-order" && (!t.plain && decide (es.size > 1))) = true := hb
    rw [hdr] at hb'; cases hb'
  refine wpAny_bind (wpAny_pure ?_)
  refine wpAny_bind (wpAny_setEpoch_of ho hd hf ?_)
  exact wpAny_bind (wpAny_newObj_type (wpAny_pure ⟨_, rfl, "set_iterator", _, ⟨_, Heap.get?_push_size _ rfl, rfl⟩, slot_setit_next.lookup, hQ⟩))
theorem pyIter_setit {I S slot i n ep : Nat} {Q : Value → Shared → Prop} (hit : SetIter s.heap I S slot i n ep) (h : Q (.ref I) s) : wpAny (model prog w) A (pyIter (.ref I)) Q E s := by
  refine wpAny_pyIter_slot hit.typeIs slot_setit_iter (wpAny_call_entry slot_setit_iter hit.typeIs entry_setit_iter ?_ (args_setit_iter _))
  show wpAny _ _ (ret (.ref I)) _ _ s
  exact wpAny_pure ⟨_, rfl, "set_iterator", _, hit.typeIs, slot_setit_next.lookup, h⟩
/-- a set's next one -/
theorem setNext_ok {S : Addr} {o : Obj} {es : Array (Int × Value)} {ep : Nat} {t : SetTable} {i : Nat} {Q : Option (Value × Nat) → Shared → Prop} (ho : s.heap.get? S = some o) (hd : o.data = .set es ep t) (hT : TOk (ledOf w) t es.size) (hi : i ≤ es.size)
    (hsome : ∀ v, ((walkOf w S ep es).toList.map (·.2))[i]? = some v → Q (some (v, slotOf w t (i + 1))) s) (hnone : i = es.size → Q none s) : wpAny (model prog w) A (setNext S (slotOf w t i) i ep) Q E s := by
  have hf := hT.fits
  unfold setNext
  refine wpAny_bind (wpAny_setState_of ho hd hf ?_)
  dsimp only
  refine wpAny_bind ?_
  unfold setsByText
  refine wpAny_bind (wpAny_askSetting (wpAny_pure ?_))
  dsimp only
  cases hw : w.params.followText "set-order" with
  | true =>
    refine wpAny_ite_split (fun _ => ?_) (fun hb => absurd hw hb)
    rw [if_neg (by simp)]
    refine wpAny_bind ?_
    unfold setWalk
    refine wpAny_bind (wpAny_setState_of ho hd hf ?_)
    dsimp only
    refine wpAny_bind ?_
    unfold setsByText
    refine wpAny_bind (wpAny_askSetting (wpAny_pure ?_))
    (try dsimp only)
    refine wpAny_ite_split (fun _ => ?_) (fun hb => absurd hw hb)
    refine wpAny_bind (wpAny_askSetting ?_)
    refine wpAny_pure ?_
    refine wpAny_pure ?_
    have ew : walkOf w S ep es = pickOrder (w.params.setOrder S ep) es := by unfold walkOf; rw [if_pos hw]
    have es0 : slotOf w t i = slotOf w t (i + 1) := by unfold slotOf; rw [if_pos hw, if_pos hw]
    have hsz := walk_size w S ep es
    show Q ((pickOrder (w.params.setOrder S ep) es)[i]?.map fun e => (e.2, slotOf w t i)) s
    rw [← ew]
    by_cases hlt : i < es.size
    · have hlt' : i < (walkOf w S ep es).size := by omega
      rw [Array.getElem?_eq_getElem hlt', es0]
      exact hsome _ (by rw [List.getElem?_map, Array.getElem?_toList, Array.getElem?_eq_getElem hlt']; rfl)
    · rw [Array.getElem?_eq_none (by omega)]
      exact hnone (by omega)
  | false =>
    refine wpAny_ite_split (fun hb => absurd (hw.symm.trans hb) Bool.false_ne_true) (fun _ => ?_)
    refine wpAny_ite_split (fun hb => ?_) (fun _ => ?_)
    · have hb' : (!t.plain && decide (es.size > 1)) = true := hb
      rw [hT.pl] at hb'; cases hb'
    have hled : t.led = true := by rw [hT.ld]; unfold ledOf; rw [hw]; rfl
    refine wpAny_bind ?_
    refine wpAny_ite_split (fun hb => ?_) (fun _ => wpAny_pure ?_)
    · have hb' : (!t.led && !es.isEmpty) = true := hb
      rw [hled] at hb'; cases hb'
    have hbl := slot_below hT hw hi
    have ew : walkOf w S ep es = es := by unfold walkOf; rw [if_neg (by rw [hw]; exact Bool.false_ne_true)]
    refine wpAny_pure ?_
    rw [hbl]
    by_cases hlt : i < es.size
    · have hlt2 : i < t.place.size := by rw [hT.sz]; exact hlt
      rw [Array.getElem?_eq_getElem hlt, Array.getElem?_eq_getElem hlt2]
      have e1 : slotOf w t (i + 1) = t.place[i] + 1 := by
        unfold slotOf
        rw [if_neg (by rw [hw]; exact Bool.false_ne_true), if_neg (by omega)]
        simp [Array.getD, hlt2]
      have := hsome es[i].2 (by rw [ew, List.getElem?_map, Array.getElem?_toList, Array.getElem?_eq_getElem hlt]; rfl)
      rw [e1] at this
      exact this
    · rw [Array.getElem?_eq_none (by omega)]
      exact hnone (by omega)
end

end Psi

section Psk
section
variable {prog : Program} {w : World} {A : Around} {E : Value → Shared → Prop} {s : Shared}
/-- the iterator's two stores -/
theorem setit_step {I S slot i n ep slot' : Nat} {h : Heap} {o : Obj} (ho : h.get? I = some o) (hc : o.cls = .type "set_iterator") (hd : o.data = .fields #[.int slot 0, .int i 0, .ref S, .int n 0, .int ep 0]) :
    ∃ o1, (h.update I (Obj.mapFields (·.setIfInBounds 0 (rawInt slot')))).get? I = some o1 ∧ o1.data = .fields #[.int slot' 0, .int i 0, .ref S, .int n 0, .int ep 0] ∧
      SetIter ((h.update I (Obj.mapFields (·.setIfInBounds 0 (rawInt slot')))).update I (Obj.mapFields (·.setIfInBounds 1 (rawInt ((i : Int) + 1))))) I S slot' (i + 1) n ep ∧
      Heap.SameBut I h ((h.update I (Obj.mapFields (·.setIfInBounds 0 (rawInt slot')))).update I (Obj.mapFields (·.setIfInBounds 1 (rawInt ((i : Int) + 1))))) := by
  have h1 : (h.update I (Obj.mapFields (·.setIfInBounds 0 (rawInt slot')))).get? I = some (Obj.mapFields (·.setIfInBounds 0 (rawInt slot')) o) := Heap.get?_update_self _ ho (Obj.isFreed_of_fields (Obj.data_mapFields hd _))
  have d1 : (Obj.mapFields (·.setIfInBounds 0 (rawInt slot')) o).data = .fields #[.int slot' 0, .int i 0, .ref S, .int n 0, .int ep 0] := by rw [Obj.data_mapFields hd]; simp [rawInt]
  exact ⟨_, h1, d1, ⟨_, Heap.get?_update_self _ h1 (Obj.isFreed_of_fields (Obj.data_mapFields d1 _)), (Obj.cls_mapFields ..).trans ((Obj.cls_mapFields ..).trans hc), by rw [Obj.data_mapFields d1]; simp [rawInt]⟩, (Heap.SameBut.update ..).trans (Heap.SameBut.update ..)⟩
theorem pyNext_set_item {I S : Addr} {o : Obj} {es : Array (Int × Value)} {ep : Nat} {t : SetTable} {i : Nat} {v : Value} {Q : Option Value → Shared → Prop} (hit : SetIter s.heap I S (slotOf w t i) i es.size ep) (ho : s.heap.get? S = some o) (hd : o.data = .set es ep t) (hT : TOk (ledOf w) t es.size)
    (hv : ((walkOf w S ep es).toList.map (·.2))[i]? = some v) (hQ : ∀ h', SetIter h' I S (slotOf w t (i + 1)) (i + 1) es.size ep → Heap.SameBut I s.heap h' → Q (some v) { s with heap := h' }) :
    wpAny (model prog w) A (pyNext (.ref I)) Q E s := by
  obtain ⟨oI, hoI, hcI, hdI⟩ := id hit
  have hlt : i < es.size := by
    have h1 := (List.getElem?_eq_some_iff.mp hv).1
    rw [List.length_map, Array.length_toList, walk_size] at h1
    exact h1
  have hf := hT.fits
  unfold pyNext
  refine wpAny_bind (wpAny_attempt (wpAny_callSpecial?_slot (name := Str.ofString "__next__") hit.typeIs slot_setit_next
    (wpAny_call_entry slot_setit_next hit.typeIs entry_setit_next ?_ (args_setit_next _))))
  unfold Builtin.«set_iterator.__next__» slotArgs
  refine wpAny_bind (wpAny_of_eq (a := (Value.ref I, ([] : List Value))) rfl ?_)
  dsimp only
  refine wpAny_bind (wpAny_fieldsOf hoI hdI ?_)
  dsimp only
  refine wpAny_bind (wpAny_setEntries_of ho hd hf ?_)
  refine wpAny_ite_split (fun hb => absurd hb (by simp)) (fun _ => ?_)
  simp only [Int.toNat_natCast]
  refine wpAny_bind (setNext_ok ho hd hT (Nat.le_of_lt hlt) (fun v' hv' => ?_) fun e => absurd e (Nat.ne_of_lt hlt))
  rw [hv] at hv'
  cases hv'
  dsimp only
  obtain ⟨o1, h1, d1, hit', hs'⟩ := setit_step (slot' := slotOf w t (i + 1)) hoI hcI hdI
  refine wpAny_bind (wpAny_setField hoI hdI (by simp) ?_)
  refine wpAny_bind (wpAny_setField h1 d1 (by simp) ?_)
  exact wpAny_pure ⟨v, rfl, wpAny_pure (hQ _ hit' hs')⟩
theorem pyNext_set_end {I S : Addr} {o : Obj} {es : Array (Int × Value)} {ep : Nat} {t : SetTable} {Q : Option Value → Shared → Prop} (hh : A.handled = none) (hit : SetIter s.heap I S (slotOf w t es.size) es.size es.size ep) (ho : s.heap.get? S = some o) (hd : o.data = .set es ep t) (hT : TOk (ledOf w) t es.size)
    (hQ : ∀ h', Heap.ExtBut I s.heap h' → Q none { s with heap := h' }) : wpAny (model prog w) A (pyNext (.ref I)) Q E s := by
  obtain ⟨oI, hoI, hcI, hdI⟩ := id hit
  have hf := hT.fits
  unfold pyNext
  refine wpAny_bind (wpAny_attempt (wpAny_callSpecial?_slot (name := Str.ofString "__next__") hit.typeIs slot_setit_next
    (wpAny_call_entry slot_setit_next hit.typeIs entry_setit_next ?_ (args_setit_next _))))
  unfold Builtin.«set_iterator.__next__» slotArgs
  refine wpAny_bind (wpAny_of_eq (a := (Value.ref I, ([] : List Value))) rfl ?_)
  dsimp only
  refine wpAny_bind (wpAny_fieldsOf hoI hdI ?_)
  dsimp only
  refine wpAny_bind (wpAny_setEntries_of ho hd hf ?_)
  refine wpAny_ite_split (fun hb => absurd hb (by simp)) (fun _ => ?_)
  simp only [Int.toNat_natCast]
  refine wpAny_bind (setNext_ok ho hd hT (Nat.le_refl _) (fun v' hv' => ?_) fun _ => ?_)
  · have h1 := (List.getElem?_eq_some_iff.mp hv').1
    rw [List.length_map, Array.length_toList, walk_size] at h1
    exact absurd h1 (Nat.lt_irrefl _)
  dsimp only
  refine wpAny_bind (wpAny_setField hoI hdI (by simp) ?_)
  show wpAny _ _ (newExc (.type "StopIteration") [] >>= _) _ _ _
  refine wpAny_bind ?_
  unfold newExc newTuple
  refine wpAny_bind (wpAny_newObj_type ?_ (by size_fits))
  refine wpAny_bind (m := firstArgMember _ _) (wpAny_of_eq (a := Value.none) (by first | rfl | (simp only [firstArgMember]; rfl)) ?_)
  refine wpAny_newObj_type ?_ (by size_fits)
  unfold raiseNew
  refine wpAny_bind (wpAny_handled ?_)
  rw [show A.in1.handled = none from hh]
  refine wpAny_bind (wpAny_pure (wpAny_throw ?_))
  refine wpAny_bind (wpAny_isInstance (T := "StopIteration") (b := true) ⟨_, Heap.get?_push_size _ rfl, rfl⟩ isSubtype_stop ?_)
  exact wpAny_pure (hQ _ (((Heap.SameBut.update ..).extBut.push _).push _))
theorem Walks.set (hh : A.handled = none) (I S : Addr) (hne : S ≠ I) (o : Obj) (es : Array (Int × Value)) (ep : Nat) (t : SetTable) (hd : o.data = .set es ep t) (hT : TOk (ledOf w) t es.size) :
    Walks prog w A I [I, S] [I] es.size (fun i v => ((walkOf w S ep es).toList.map (·.2))[i]? = some v) (fun i h => SetIter h I S (slotOf w t i) i es.size ep ∧ h.get? S = some o) where
  sub := fun b hb => by simp at hb; simp [hb]
  frame := fun _ _ _ st hk => ⟨let ⟨oI, h1, r⟩ := st.1; ⟨oI, hk I (by simp) _ h1, r⟩, hk S (by simp) _ st.2⟩
  item := fun i s Q E hi st hQ => by
    have hl : i < ((walkOf w S ep es).toList.map (·.2)).length := by rw [List.length_map, Array.length_toList, walk_size]; exact hi
    refine pyNext_set_item st.1 st.2 hd hT (List.getElem?_eq_getElem hl) fun h' hit' hs' => ?_
    exact hQ _ h' s.toks (List.getElem?_eq_getElem hl) ⟨hit', hs'.extBut S _ hne st.2⟩ fun b o hb e => hs'.extBut b o (fun h => hb (by simp [h])) e
  done := fun s Q E st hQ => pyNext_set_end hh st.1 st.2 hd hT fun h' he' => hQ h' s.toks fun b o hb e => he' b o (fun h => hb (by simp [h])) e
  self := fun _ _ _ _ st hQ => pyIter_setit st.1 hQ
theorem hint_set {r : Addr} {Q : Bool → Shared → Prop} (hT : s.TypeIs (.ref r) "set") (h : Q false s) : wpAny (model prog w) A (Builtin.List.listLengthHint (.ref r)) Q E s := by
  unfold Builtin.List.listLengthHint
  refine wpAny_bind (wpAny_specialOf hT PySem.F.slot_set_len.lookup ?_)
  generalize hid : ("set.__len__" : String) = id0
  wp_delta
  rw [show splitId id0 = some ("set", "__len__") from by subst hid; decide +kernel]
  subst hid
  refine wpAny_bind (wpAny_isInstance (T := "set") (b := true) hT (by rw [isSubtype_type]; kernel_rfl) ?_)
  refine wpAny_ite_split (fun hab => absurd hab (by decide)) (fun _ => ?_)
  refine wpAny_ite_split (fun _ => ?_) (fun hab => absurd (by decide +kernel) hab)
  refine wpAny_bind (wpAny_typeOf hT ?_)
  exact wpAny_pure h
theorem set_src {S : Addr} {o : Obj} {es : Array (Int × Value)} {ep : Nat} {t : SetTable} (hex : o.ExactSet) (hd : o.data = .set es ep t) (hT : TOk (ledOf w) t es.size) :
    PySem.W.KdlSrc prog w "set" S S es.size (fun i v => ((walkOf w S ep es).toList.map (·.2))[i]? = some v) (fun h => h.get? S = some o) where
  type := fun _ hm => ⟨o, hm, hex.1⟩
  there := fun _ hm => ⟨Heap.lt_size hm, Heap.lt_size hm⟩
  keep := fun _ _ hm hk => hk S (.inl rfl) _ hm
  notList := by decide
  notTuple := by decide
  hint := fun _ _ _ _ hm hq => hint_set ⟨o, hm, hex.1⟩ hq
  iter := fun _ _ hh hm => ⟨_, _, (fun _ _ hq => pyIter_set hm hex hd hT hq), Walks.set hh _ S (Nat.ne_of_lt (Heap.lt_size hm)) o es ep t hd hT, ⟨⟨_, Heap.get?_push_size _ rfl, rfl, by unfold slotOf; split <;> rfl⟩, Heap.get?_push_of_some _ hm⟩⟩
theorem ints_perm {vs us : List Value} {ns : List Int} (h : IntsAre vs ns) (p : us.Perm vs) : ∃ ms, IntsAre us ms ∧ ms.Perm ns := by
  let val : Value → Int := fun v => match v with | .int i _ => i | _ => 0
  have h1 : ∀ {vs : List Value} {ns : List Int}, IntsAre vs ns → ns = vs.map val ∧ ∀ v ∈ vs, ∃ i t, v = .int i t := fun h => by
    induction h with
    | nil => exact ⟨rfl, fun v hv => nomatch hv⟩
    | cons n t _ ih => exact ⟨by rw [List.map_cons, ← ih.1], fun v hv => by
        rcases List.mem_cons.mp hv with rfl | hv
        · exact ⟨n, t, rfl⟩
        · exact ih.2 v hv⟩
  have h2 : ∀ us : List Value, (∀ v ∈ us, ∃ i t, v = .int i t) → IntsAre us (us.map val) := fun us => by
    induction us with
    | nil => exact fun _ => .nil
    | cons u us ih =>
      intro hu
      obtain ⟨i, t, rfl⟩ := hu u (.head _)
      exact .cons i t (ih fun v hv => hu v (.tail _ hv))
  obtain ⟨e, ha⟩ := h1 h
  exact ⟨us.map val, h2 us fun v hv => ha v (p.mem_iff.mp hv), by rw [e]; exact p.map val⟩
/-- sorted() of a set of ints -/
theorem sorted_set {h₀ : Heap} {L : Addr} {m : Str → Option Value} {news : List (Addr × Obj)} {S : Addr} {o : Obj} {vs : List Value} {ns : List Int} {Q : Value → Shared → Prop} (hh : A.handled = none) (F : Fr h₀ L s.heap m) (N : News h₀ L s.heap news)
    (ho : s.heap.get? S = some o) (hS : SetI prog w (ledOf w) o vs) (hi : IntsAre vs ns) (hlen : vs.length ≤ 5)
    (h : ∀ D vs' ns' c h' tk, Fr h₀ L h' m → News h₀ L h' ((D, listOf vs'.toArray c) :: news) → (∀ q ∈ news, q.1 < D) → IntsAre vs' ns' → ns'.Perm ns → ns'.Pairwise (· ≤ ·) → Q (.ref D) { s with heap := h', toks := tk }) :
    wpAny (model prog w) A (call (.builtin "sorted") [.ref S]) Q E s := by
  obtain ⟨hex, es, ep, t, hd, hT, hp, _, _, _⟩ := hS
  have hn := perm_size hp
  refine PySem.W.kdu_sorted (set_src hex hd hT) hh F N ho (by rw [sizeLine_eq]; omega) fun D h' tk us F' N' l1 hl hv => ?_
  have eu : us = (walkOf w S ep es).toList.map (·.2) := by
    apply List.ext_getElem
    · rw [hl, List.length_map, Array.length_toList, walk_size]
    · intro i g1 g2
      have := hv i _ (List.getElem?_eq_getElem g1)
      rw [List.getElem?_eq_getElem g2] at this
      exact (Option.some.inj this).symm
  have hup : us.Perm vs := by rw [eu]; exact ((walk_perm w S ep es).map _).trans hp
  obtain ⟨ms, hms, hpm⟩ := ints_perm hi hup
  have z := N' _ (.head _)
  refine wpAny_call_entry PyProof.Rows.slot_list_sort ⟨_, z.1, rfl⟩ PyProof.Rows.entry_list_sort (PyProof.Rows.list_sort_tree (n := 0) (vs := us) z.1 hms (by rw [hl]; omega) fun out ns' a1 a2 a3 => ⟨_, rfl, ?_⟩) (PyProof.Rows.args_list_sort _)
  obtain ⟨c, hc⟩ := PyProof.Rows.sortedHeap_at (out := out) z.1
  have hkeep : ∀ b o', b ≠ D → h'.get? b = some o' → (PyProof.Rows.sortedHeap h' D us out).get? b = some o' := fun b o' hb e => (PyProof.Rows.sortedHeap_old hb (Heap.lt_size e)).trans e
  refine h D out.toList ns' c _ tk ?_ ?_ l1 a1 (a2.trans hpm) a3
  · obtain ⟨oL, x1, x2, hL, x3⟩ := F'.ns
    exact ⟨⟨oL, x1, x2, hkeep _ _ (Ne.symm z.2.1) hL, x3⟩, fun b o' e => hkeep _ _ (fun q => by rw [q, z.2.2] at e; cases e) (F'.keep b o' e), F'.above⟩
  · intro p hp'
    rcases List.mem_cons.mp hp' with rfl | hp'
    · exact ⟨hc, z.2⟩
    · have y := N' p (.tail _ hp')
      exact ⟨hkeep _ _ (Nat.ne_of_lt (l1 p hp')) y.1, y.2⟩
/-- set() of a list of ints, in a frame -/
theorem set_N {h₀ : Heap} {L l : Addr} {m : Str → Option Value} {news : List (Addr × Obj)} {vs : List Value} {n : Nat} {ns : List Int} {Q : Value → Shared → Prop} (hh : A.handled = none) (F : Fr h₀ L s.heap m) (N : News h₀ L s.heap news)
    (hm : (l, listOf vs.toArray n) ∈ news) (hi : IntsAre vs ns) (hne : ns.Nodup) (hb : ∀ x ∈ ns, 0 ≤ x ∧ x < 64) (hlen : ns.length ≤ 5)
    (h : ∀ S o h' tk, Fr h₀ L h' m → News h₀ L h' ((S, o) :: news) → (∀ q ∈ news, q.1 < S) → SetI prog w (ledOf w) o vs → Q (.ref S) { s with heap := h', toks := tk }) :
    wpAny (model prog w) A (call (.type "set") [.ref l]) Q E s := by
  have z := N _ hm
  refine set_call hh ⟨_, z.1, rfl, n, rfl⟩ hi hne hb (by rw [hi.length]; exact hlen) fun h' tk o ho hS hk => ?_
  have hlt : ∀ b o', s.heap.get? b = some o' → b < s.heap.objs.size := fun b o' e => Heap.lt_size e
  have hk' : ∀ b o', s.heap.get? b = some o' → h'.get? b = some o' := fun b o' e => hk b o' (hlt b o' e) e
  refine h _ o h' tk (F.keeps hk') (fun p hp => ?_) (fun q hq => hlt _ _ (N q hq).1) hS
  rcases List.mem_cons.mp hp with rfl | hp
  · obtain ⟨oL, _, _, hL, _⟩ := F.ns
    refine ⟨ho, Nat.ne_of_gt (hlt _ _ hL), ?_⟩
    cases hq : h₀.get? s.heap.objs.size with
    | none => rfl
    | some o' => exact absurd (hlt _ _ (F.keep _ _ hq)) (Nat.lt_irrefl _)
  · exact ⟨hk' _ _ (N p hp).1, (N p hp).2⟩
end

end Psk

section Psu
/-- k + (k + 1) + .. of n -/
noncomputable def tri : Nat → Nat → Int
  | _, 0 => 0
  | k, n + 1 => (k : Int) + tri (k + 1) n
theorem tri_app : ∀ (n m k : Nat), tri k (n + m) = tri k n + tri (k + n) m
  | 0, m, k => by simp [tri]
  | n + 1, m, k => by
    rw [show n + 1 + m = (n + m) + 1 by omega, tri, tri, tri_app n m (k + 1), show k + 1 + n = k + (n + 1) by omega]; omega
noncomputable def keySum (S : List (List Int)) : Int := (S.map key2).sum
theorem keySum_cons (q : List Int) (S : List (List Int)) : keySum (q :: S) = key2 q + keySum S := by unfold keySum; rw [List.map_cons, List.sum_cons]
theorem placed_sum : ∀ (S : List (List Int)) (k : Nat), ((placedFrom k S).map fun r => r.getD 1 0).sum = keySum S + tri k S.length
  | [], _ => by simp [placedFrom, keySum, tri]
  | q :: S, k => by
    rw [placedFrom, List.map_cons, List.sum_cons, placed_sum S (k + 1), keySum_cons, List.length_cons, tri]
    show key2 q + (k : Int) + _ = _
    omega
theorem large_sum (m : Nat) : ∀ (H : List (List Int)) (j : Nat), (largeFrom m j H).sum = keySum H + tri (m + j) H.length
  | [], _ => by simp [largeFrom, keySum, tri]
  | q :: H, j => by
    rw [largeFrom, List.sum_cons, large_sum m H (j + 1), keySum_cons, List.length_cons, tri, show m + (j + 1) = m + j + 1 by omega]; omega
/-- the second row, with c mixes ahead -/
noncomputable def lowsFrom : Nat → Nat → List (List Int) → List Int
  | _, _, [] => []
  | p, c, q :: L => (key2 q + (p : Int) - ((c + (if isMix q then 1 else 0) : Nat) : Int)) :: lowsFrom (p + 1) (c + (if isMix q then 1 else 0)) L
theorem lowsFrom_eq : ∀ (L : List (List Int)) (p c : Nat), lowsFrom p c L = L.mapIdx fun i q => key2 q + ((p + i : Nat) : Int) - ((c + ((L.take (i + 1)).filter isMix).length : Nat) : Int)
  | [], _, _ => by simp [lowsFrom]
  | q :: L, p, c => by
    rw [lowsFrom, lowsFrom_eq L, List.mapIdx_cons]
    congr 1
    · cases e : isMix q <;> simp [List.filter, e]
    · congr 1
      funext i r
      rw [show p + 1 + i = p + (i + 1) by omega, List.take_succ_cons]
      cases e : isMix q
      · rw [List.filter_cons_of_neg (by rw [e]; decide)]; simp
      · rw [List.filter_cons_of_pos e, List.length_cons]
        simp only [if_pos]
        rw [show c + 1 + (List.filter isMix (List.take (i + 1) L)).length = c + ((List.filter isMix (List.take (i + 1) L)).length + 1) by omega]
theorem lows_sum : ∀ (L : List (List Int)) (p c : Nat), (lowsFrom p c L).sum = keySum L + tri p L.length - (c : Int) * L.length - (stepsOf ((p + L.length : Nat) : Int) p L).sum
  | [], _, _ => by simp [lowsFrom, keySum, tri, stepsOf]
  | q :: L, p, c => by
    rw [lowsFrom, List.sum_cons, lows_sum L, keySum_cons, List.length_cons, tri, stepsOf, show p + 1 + L.length = p + (L.length + 1) by omega]
    by_cases e : q.getD 0 0 = 1
    · have e1 : isMix q = true := by simpa [isMix] using e
      rw [if_pos e, List.sum_cons, e1]
      simp only [if_pos]
      have h1 : ((c + 1 : Nat) : Int) * (L.length : Int) = (c : Int) * L.length + L.length := by rw [Int.natCast_add, Int.add_mul]; simp
      have h2 : (c : Int) * ((L.length + 1 : Nat) : Int) = (c : Int) * L.length + c := by rw [Int.natCast_add, Int.mul_add]; simp
      rw [h1, h2]; omega
    · have e1 : isMix q = false := by simpa [isMix] using e
      rw [if_neg e, e1]
      simp only [Bool.false_eq_true, if_false, Nat.add_zero]
      have h2 : (c : Int) * ((L.length + 1 : Nat) : Int) = (c : Int) * L.length + c := by rw [Int.natCast_add, Int.mul_add]; simp
      rw [h2]; omega
theorem split_sum : ∀ S : List (List Int), keySum S = keySum (S.filter fun q => !isHi q) + keySum (S.filter isHi)
  | [] => by simp [keySum]
  | q :: S => by
    rw [keySum_cons, split_sum S]
    cases e : isHi q
    · rw [List.filter_cons_of_pos (p := fun q => !isHi q) (by rw [e]; rfl), List.filter_cons_of_neg (p := isHi) (by rw [e]; decide), keySum_cons]; omega
    · rw [List.filter_cons_of_neg (p := fun q => !isHi q) (by rw [e]; decide), List.filter_cons_of_pos (p := isHi) e, keySum_cons]; omega
theorem split_len (S : List (List Int)) : S.length = (S.filter fun q => !isHi q).length + (S.filter isHi).length := by
  have := two_parts isHi S; omega
theorem sum_app : ∀ a b : List Int, (a ++ b).sum = a.sum + b.sum
  | [], b => by simp
  | x :: a, b => by rw [List.cons_append, List.sum_cons, List.sum_cons, sum_app a b]; omega
theorem sum_rev : ∀ a : List Int, a.reverse.sum = a.sum
  | [] => rfl
  | x :: a => by rw [List.reverse_cons, sum_app, sum_rev a, List.sum_cons]; simp; omega
theorem sum_perm {a b : List Int} (h : a.Perm b) : a.sum = b.sum := by
  induction h with
  | nil => rfl
  | cons x _ ih => rw [List.sum_cons, List.sum_cons, ih]
  | swap x y l => rw [List.sum_cons, List.sum_cons, List.sum_cons, List.sum_cons]; omega
  | trans _ _ h1 h2 => exact h1.trans h2
/-- what is parted is together as great as the row -/
theorem parted_sum (S : List (List Int)) : (partedOf (placedAll S)).1.sum + (partedOf (placedAll S)).2.sum = ((placedAll S).map fun r => r.getD 1 0).sum := by
  rw [placedAll_from, placed_sum, ← placedAll_from, partedOf_placed]
  show (_ ++ _ : List Int).sum + (List.mapIdx _ _).sum = _
  have e : ((S.filter fun q => !isHi q).mapIdx fun p q => key2 q + (p : Int) - ((((S.filter fun q => !isHi q).take (p + 1)).filter isMix).length : Nat)) = lowsFrom 0 0 (S.filter fun q => !isHi q) := by
    rw [lowsFrom_eq]; simp
  rw [e, sum_app, sum_rev, large_sum, lows_sum, split_sum S]
  have e2 : tri 0 S.length = tri 0 (S.filter fun q => !isHi q).length + tri (S.filter fun q => !isHi q).length (S.filter isHi).length := by
    conv => lhs; rw [split_len S, tri_app, Nat.zero_add]
  rw [e2]
  simp only [Nat.zero_add, Nat.add_zero, Int.natCast_zero, Int.zero_mul]
  omega
theorem law_sum {tot : Int} (h0 : 0 ≤ tot) (h1 : tot < 768) (ns : List Int) (left : Bool) : (rowsAt tot ns).2.1.sum - ((joinedI (rowsAt tot ns).1 left).map fun r => r.getD 1 0).sum + (rowsAt tot ns).2.2.sum = 0 := by
  obtain ⟨u1, u2, p1, p2⟩ := rows_up tot ns
  rw [joined_placed, ← parted_sum, parted_joined u1 u2 (fun x hx => ((rows_pos tot ns).1 x hx).1), sum_perm p1, sum_perm p2]
  omega

end Psu

section Pdb
theorem Gap.trans {x y z : List Int} (h : Gap x y) (k : Gap y z) : Gap x z := by
  unfold Gap at *
  rcases h with h | ⟨h1, h2, h3⟩
  · rcases k with k | ⟨k1, _, _⟩
    · exact .inl (by omega)
    · exact .inl (by omega)
  · rcases k with k | ⟨k1, k2, k3⟩
    · exact .inl (by omega)
    · exact .inr ⟨by omega, fun e => k2 (h2 e), k3⟩
theorem Gap.ahead {x y : List Int} (h : Gap x y) : Ahead x y := by
  rcases h with h | ⟨h1, h2, _⟩
  · exact .inl h
  · exact .inr ⟨h1, h2⟩
/-- the drawn row, and before its steps -/
noncomputable def drawnFrom : Int → Int → List Int → List (List Int)
  | _, _, [] => []
  | b, l, n :: ns => [n.fmod 3, l + (gapI b (n.fmod 3) + (n.fdiv 3).fmod 3)] :: drawnFrom (n.fmod 3) (l + (gapI b (n.fmod 3) + (n.fdiv 3).fmod 3)) ns
noncomputable def drawnS : Nat → Int → Int → List Int → List (List Int)
  | _, _, _, [] => []
  | i, b, l, n :: ns => [n.fmod 3, l + (gapI b (n.fmod 3) + (n.fdiv 3).fmod 3) - (i : Int)] :: drawnS (i + 1) (n.fmod 3) (l + (gapI b (n.fmod 3) + (n.fdiv 3).fmod 3)) ns
theorem drawn_from : ∀ (ns : List Int) (acc : List (List Int)) (b l : Int), (ns.foldl drawnStep (acc, b, l)).1 = acc ++ drawnFrom b l ns
  | [], acc, b, l => by simp [drawnFrom]
  | n :: ns, acc, b, l => by
    rw [List.foldl_cons, drawnStep, drawn_from ns, drawnFrom, List.append_assoc]; rfl
theorem drawnI_from (ns : List Int) : drawnI ns = drawnFrom 1 0 ns := by unfold drawnI; rw [drawn_from]; rfl
theorem drawn_placed : ∀ (ns : List Int) (i : Nat) (b l : Int), placedFrom i (drawnS i b l ns) = drawnFrom b l ns
  | [], _, _, _ => rfl
  | n :: ns, i, b, l => by
    rw [drawnS, placedFrom, drawn_placed ns, drawnFrom]
    congr 1
    show [n.fmod 3, l + (gapI b (n.fmod 3) + (n.fdiv 3).fmod 3) - (i : Int) + (i : Int)] = _
    rw [Int.sub_add_cancel]
theorem drawnI_placed (ns : List Int) : drawnI ns = placedAll (drawnS 0 1 0 ns) := by rw [drawnI_from, placedAll_from, drawn_placed]
theorem drawnS_len : ∀ (ns : List Int) (i : Nat) (b l : Int), (drawnS i b l ns).length = ns.length
  | [], _, _, _ => rfl
  | n :: ns, i, b, l => by rw [drawnS, List.length_cons, List.length_cons, drawnS_len ns]
theorem three {n : Int} : 0 ≤ n.fmod 3 ∧ n.fmod 3 ≤ 2 := by
  have h1 := Int.fmod_nonneg_of_pos n (b := 3) (by decide)
  have h2 := Int.fmod_lt_of_pos n (b := 3) (by decide)
  omega
theorem gapI_two (b k : Int) : 1 ≤ gapI b k ∧ gapI b k ≤ 2 := by
  unfold gapI; split
  · omega
  · split <;> omega
theorem drawnS_kinds : ∀ (ns : List Int) (i : Nat) (b l : Int), ∀ q ∈ drawnS i b l ns, q.length = 2 ∧ 0 ≤ q.getD 0 0 ∧ q.getD 0 0 ≤ 2 ∧ key2 q ≤ l + 4 * ns.length
  | n :: ns, i, b, l, q, hq => by
    have ht := three (n := n)
    have h3 := three (n := n.fdiv 3)
    have hg := gapI_two b (n.fmod 3)
    rw [List.length_cons]
    rcases List.mem_cons.mp hq with rfl | hq
    · refine ⟨rfl, ht.1, ht.2, ?_⟩
      show l + (gapI b (n.fmod 3) + (n.fdiv 3).fmod 3) - (i : Int) ≤ _
      omega
    · have := drawnS_kinds ns _ _ _ q hq
      exact ⟨this.1, this.2.1, this.2.2.1, by omega⟩
theorem drawnS_gap : ∀ (ns : List Int) (i : Nat) (b l : Int) (p : List Int), p.getD 0 0 = b → key2 p + (i : Int) - 1 = l → (p :: drawnS i b l ns).Pairwise Gap
  | [], _, _, _, _, _, _ => List.pairwise_singleton _ _
  | n :: ns, i, b, l, p, hb, hl => by
    have ht := three (n := n)
    have h3 := three (n := n.fdiv 3)
    have ih := drawnS_gap ns (i + 1) (n.fmod 3) (l + (gapI b (n.fmod 3) + (n.fdiv 3).fmod 3)) [n.fmod 3, l + (gapI b (n.fmod 3) + (n.fdiv 3).fmod 3) - (i : Int)] rfl (by
      show l + (gapI b (n.fmod 3) + (n.fdiv 3).fmod 3) - (i : Int) + ((i + 1 : Nat) : Int) - 1 = _
      omega)
    have hq : Gap p [n.fmod 3, l + (gapI b (n.fmod 3) + (n.fdiv 3).fmod 3) - (i : Int)] := by
      show key2 p < l + (gapI b (n.fmod 3) + (n.fdiv 3).fmod 3) - (i : Int) ∨ (key2 p = l + (gapI b (n.fmod 3) + (n.fdiv 3).fmod 3) - (i : Int) ∧ (isHi p = true → (n.fmod 3 == 0) = true) ∧ (n.fmod 3 == 1) = false)
      by_cases h1 : n.fmod 3 = 1
      · have : gapI b (n.fmod 3) = 2 := by unfold gapI; rw [if_pos h1]
        exact .inl (by omega)
      · by_cases h2 : b = 0 ∧ n.fmod 3 = 2
        · have : gapI b (n.fmod 3) = 2 := by unfold gapI; rw [if_neg h1, if_pos h2]
          exact .inl (by omega)
        · have : gapI b (n.fmod 3) = 1 := by unfold gapI; rw [if_neg h1, if_neg h2]
          by_cases h4 : (n.fdiv 3).fmod 3 = 0
          · refine .inr ⟨by omega, fun e => ?_, by simpa using h1⟩
            have e0 : p.getD 0 0 = 0 := by simpa [isHi] using e
            have : n.fmod 3 = 0 := by omega
            simpa using this
          · exact .inl (by omega)
    rw [drawnS]
    refine List.pairwise_cons.mpr ⟨fun r hr => ?_, ih⟩
    rcases List.mem_cons.mp hr with rfl | hr
    · exact hq
    · exact hq.trans ((List.pairwise_cons.mp ih).1 r hr)
theorem drawn_pairs {ns : List Int} (h : ns.length ≤ 5) : ∀ q ∈ drawnI ns, PairOk q := by
  rw [drawnI_placed]
  intro q hq
  obtain ⟨i, hi, rfl⟩ := List.mem_map.mp hq
  have hi := List.mem_range.mp hi
  have hlen := drawnS_len ns 0 1 0
  have hm : (drawnS 0 1 0 ns).getD i [] ∈ drawnS 0 1 0 ns := by rw [getD_elem _ [] hi]; exact List.getElem_mem hi
  have hk := drawnS_kinds ns 0 1 0 _ hm
  have hg := gap_one ((List.pairwise_cons.mp (drawnS_gap ns 0 1 0 [1, 1] rfl rfl)).1 _ hm)
  refine ⟨rfl, hk.2.1, hk.2.2.1, ?_, ?_⟩
  · show 1 ≤ key2 (List.getD _ i []) + (i : Int); omega
  · show key2 (List.getD _ i []) + (i : Int) ≤ 63; omega
theorem drawn_len {ns : List Int} (h : ns.length ≤ 5) : (drawnI ns).length ≤ 5 := by
  rw [drawnI_placed, placedAll_len, drawnS_len]; exact h
/-- a row of gaps comes back from its two rows -/
structure RowOk (S : List (List Int)) : Prop where
  two : ∀ q ∈ S, q.length = 2
  k0 : ∀ q ∈ S, 0 ≤ q.getD 0 0
  k2 : ∀ q ∈ S, q.getD 0 0 ≤ 2
  gap : S.Pairwise Gap
  one : ∀ q ∈ S, Gap [1, 1] q
section
variable {S : List (List Int)}
noncomputable abbrev lo (S : List (List Int)) : List (List Int) := S.filter fun q => !isHi q
noncomputable abbrev hi (S : List (List Int)) : List (List Int) := S.filter isHi
/-- how many mixes among the first lows -/
noncomputable abbrev mixN (S : List (List Int)) (p : Nat) : Nat := (((lo S).take (p + 1)).filter isMix).length
noncomputable abbrev rowA (S : List (List Int)) : List Int := (stepsOf ((lo S).length : Nat) 0 (lo S)).reverse ++ largeFrom ((lo S).length : Nat) 0 (hi S)
noncomputable abbrev rowB (S : List (List Int)) : List Int := (lo S).mapIdx fun p q => key2 q + (p : Int) - ((mixN S p : Nat) : Int)
theorem gap_le {x y : List Int} (h : Gap x y) : key2 x ≤ key2 y := by
  rcases h with h | h
  · exact Int.le_of_lt h
  · exact Int.le_of_eq h.1
theorem steps_down (m : Int) : ∀ (L : List (List Int)) (p : Nat), (stepsOf m p L).Pairwise fun a b => b < a
  | [], _ => .nil
  | q :: L, p => by
    unfold stepsOf
    split
    · refine List.pairwise_cons.mpr ⟨fun y hy => ?_, steps_down m L (p + 1)⟩
      have := stepsOf_le m L (p + 1) y hy; omega
    · exact steps_down m L (p + 1)
theorem large_up (m : Int) : ∀ (H : List (List Int)) (j : Nat), (H.Pairwise fun x y => key2 x ≤ key2 y) → Up (largeFrom m j H) ∧ ∀ x ∈ largeFrom m j H, ∃ q ∈ H, key2 q + (m + j) ≤ x ∧ x ≤ key2 q + (m + j) + H.length
  | [], _, _ => ⟨.nil, fun x hx => nomatch hx⟩
  | q :: H, j, h => by
    obtain ⟨h1, h2⟩ := List.pairwise_cons.mp h
    obtain ⟨i1, i2⟩ := large_up m H (j + 1) h2
    rw [largeFrom]
    refine ⟨List.pairwise_cons.mpr ⟨fun x hx => ?_, i1⟩, fun x hx => ?_⟩
    · obtain ⟨r, hr, e1, _⟩ := i2 x hx
      have := h1 r hr; omega
    · rcases List.mem_cons.mp hx with rfl | hx
      · exact ⟨q, .head _, by omega, by omega⟩
      · obtain ⟨r, hr, e1, e2⟩ := i2 x hx
        rw [List.length_cons]
        exact ⟨r, .tail _ hr, by omega, by omega⟩
theorem RowOk.lo_gap (h : RowOk S) : (lo S).Pairwise Gap := List.Pairwise.filter _ h.gap
theorem RowOk.hi_gap (h : RowOk S) : (hi S).Pairwise Gap := List.Pairwise.filter _ h.gap
theorem RowOk.large (h : RowOk S) : ∀ x ∈ largeFrom ((lo S).length : Nat) 0 (hi S), ((lo S).length : Int) < x := fun x hx => by
  obtain ⟨q, hq, e, _⟩ := (large_up ((lo S).length : Nat) (hi S) 0 (h.hi_gap.imp fun g => gap_le g)).2 x hx
  have := gap_one (h.one q (List.mem_filter.mp hq).1)
  omega
theorem RowOk.steps (h : RowOk S) : ∀ x ∈ (stepsOf ((lo S).length : Nat) 0 (lo S)).reverse, 1 ≤ x ∧ x ≤ (lo S).length := fun x hx => by
  have hx := List.mem_reverse.mp hx
  have h1 := stepsOf_le ((lo S).length : Nat) (lo S) 0 x hx
  have h2 := stepsOf_gt ((lo S).length : Nat) (lo S) 0 x hx
  omega
theorem RowOk.upA (h : RowOk S) : Up (rowA S) := by
  refine List.pairwise_append.mpr ⟨?_, (large_up _ _ 0 (h.hi_gap.imp fun g => gap_le g)).1, fun x hx y hy => ?_⟩
  · rw [List.pairwise_reverse]; exact steps_down _ _ 0
  · have h1 := h.steps x hx
    have h2 := h.large y hy
    omega
theorem RowOk.lenB (S : List (List Int)) : (rowB S).length = (lo S).length := by simp
theorem rowB_get (S : List (List Int)) {p : Nat} (hp : p < (lo S).length) : (rowB S).getD p 0 = key2 ((lo S).getD p []) + (p : Int) - ((mixN S p : Nat) : Int) := by
  rw [getD_elem _ 0 (by rw [RowOk.lenB]; exact hp), getD_elem _ [] hp, List.getElem_mapIdx]
theorem mixN_succ (S : List (List Int)) {p : Nat} (hp : p + 1 < (lo S).length) : mixN S (p + 1) = mixN S p + (if isMix ((lo S).getD (p + 1) []) = true then 1 else 0) := by
  show (((lo S).take (p + 1 + 1)).filter isMix).length = _
  rw [List.take_add_one, List.getElem?_eq_getElem hp, List.filter_append, List.length_append, getD_elem _ [] hp]
  congr 1
  show (List.filter isMix [(lo S)[p + 1]]).length = _
  split
  · rename_i e; rw [List.filter_cons_of_pos e]; rfl
  · rename_i e; rw [List.filter_cons_of_neg e]; rfl
theorem mixN_zero (S : List (List Int)) (hp : 0 < (lo S).length) : mixN S 0 = if isMix ((lo S).getD 0 []) = true then 1 else 0 := by
  show (((lo S).take (0 + 1)).filter isMix).length = _
  rw [List.take_add_one, List.getElem?_eq_getElem hp, List.take_zero, List.nil_append, getD_elem _ [] hp]
  show (List.filter isMix [(lo S)[0]]).length = _
  split
  · rename_i e; rw [List.filter_cons_of_pos e]; rfl
  · rename_i e; rw [List.filter_cons_of_neg e]; rfl
theorem up_of_step {c : List Int} (h : ∀ i, i + 1 < c.length → c.getD i 0 < c.getD (i + 1) 0) : Up c := by
  have key : ∀ (d i : Nat), i + d + 1 < c.length → c.getD i 0 < c.getD (i + d + 1) 0 := fun d => by
    induction d with
    | zero => exact fun i hi => h i hi
    | succ d ih => exact fun i hi => Int.lt_trans (ih i (by omega)) (h (i + d + 1) hi)
  refine List.pairwise_iff_getElem.mpr fun i j hi hj hij => ?_
  have := key (j - i - 1) i (by omega)
  rw [show i + (j - i - 1) + 1 = j by omega, getD_elem c 0 hi, getD_elem c 0 hj] at this
  exact this
theorem lo_mem (S : List (List Int)) {p : Nat} (hp : p < (lo S).length) : (lo S).getD p [] ∈ S := by
  rw [getD_elem _ [] hp]; exact (List.mem_filter.mp (List.getElem_mem hp)).1
theorem RowOk.upB (h : RowOk S) : Up (rowB S) := by
  refine up_of_step fun i hi => ?_
  rw [RowOk.lenB] at hi
  rw [rowB_get S (by omega), rowB_get S hi, mixN_succ S hi]
  have g : Gap ((lo S).getD i []) ((lo S).getD (i + 1) []) := by
    rw [getD_elem _ [] (by omega), getD_elem _ [] hi]
    exact List.pairwise_iff_getElem.mp h.lo_gap i (i + 1) (by omega) hi (by omega)
  split
  · rename_i e
    rcases g with g | ⟨_, _, g⟩
    · omega
    · rw [g] at e; cases e
  · have := gap_le g; omega
theorem RowOk.oneB (h : RowOk S) : ∀ x ∈ rowB S, 1 ≤ x := by
  intro x hx
  obtain ⟨i, hi, rfl⟩ := List.mem_iff_getElem.mp hx
  have hi' : i < (lo S).length := by rw [RowOk.lenB] at hi; exact hi
  have g0 := h.upB.gap (Nat.zero_le i) hi
  rw [getD_elem _ 0 hi] at g0
  have e0 := rowB_get S (p := 0) (by omega)
  rw [mixN_zero S (by omega)] at e0
  have g := h.one _ (lo_mem S (p := 0) (by omega))
  split at e0
  · rename_i e
    rcases g with g | ⟨_, _, g⟩
    · have g' : (1 : Int) < key2 ((lo S).getD 0 []) := g
      omega
    · rw [g] at e; cases e
  · have g' := gap_one g; omega
/-- the steps up to a place -/
theorem RowOk.cut (h : RowOk S) : bsr (rowA S) ((lo S).length : Int) 0 (rowA S).length = ((lo S).filter isMix).length := by
  rw [bsr_mid (fun y hy => (h.steps y hy).2) h.large, List.length_reverse, stepsOf_len]
theorem RowOk.cutAt (h : RowOk S) {p : Nat} (hp : p < (lo S).length) : ((bsr (rowA S) ((lo S).length : Int) 0 (rowA S).length : Nat) : Int) - ((bsl (rowA S) (((lo S).length : Int) - p) 0 (rowA S).length : Nat) : Int) = (mixN S p : Nat) := by
  have hs := steps_bsl ((lo S).length : Nat) (lo S) hp
  rw [List.length_reverse, stepsOf_len] at hs
  have e : bsl (rowA S) (((lo S).length : Int) - p) 0 (rowA S).length = bsl (stepsOf ((lo S).length : Nat) 0 (lo S)).reverse (((lo S).length : Nat) - (p : Int)) 0 (stepsOf ((lo S).length : Nat) 0 (lo S)).reverse.length := by
    have u : Up (stepsOf ((lo S).length : Nat) 0 (lo S)).reverse := by show List.Pairwise _ _; rw [List.pairwise_reverse]; exact steps_down _ _ 0
    have hz : (largeFrom ((lo S).length : Nat) 0 (hi S)).filter (fun a => decide (a < ((lo S).length : Int) - p)) = [] := List.filter_eq_nil_iff.mpr fun y hy => by
      have := h.large y hy
      simp; omega
    rw [bsl_count h.upA.le, bsl_count u.le, List.filter_append, List.length_append, hz]
    simp
  rw [h.cut, e, List.length_reverse, stepsOf_len]
  exact hs
theorem steps_have (m : Int) : ∀ (L : List (List Int)) (s p : Nat), p < L.length → ((m - ((s + p : Nat) : Int)) ∈ stepsOf m s L ↔ isMix (L.getD p []) = true)
  | q :: L, s, 0, _ => by
    unfold stepsOf
    by_cases e : q.getD 0 0 = 1
    · have e1 : isMix q = true := by simpa [isMix] using e
      rw [if_pos e]
      exact ⟨fun _ => e1, fun _ => by rw [Nat.add_zero]; exact .head _⟩
    · rw [if_neg e]
      refine ⟨fun h => ?_, fun h => absurd (by simpa [isMix] using h) e⟩
      have := stepsOf_le m L (s + 1) _ h
      omega
  | q :: L, s, p + 1, hp => by
    rw [List.length_cons] at hp
    have ih := steps_have m L (s + 1) p (by omega)
    rw [show s + 1 + p = s + (p + 1) by omega] at ih
    show _ ↔ isMix (L.getD p []) = true
    rw [← ih, stepsOf]
    split
    · refine ⟨fun h => ?_, fun h => .tail _ h⟩
      rcases List.mem_cons.mp h with h | h
      · omega
      · exact h
    · exact Iff.rfl
theorem RowOk.inA (h : RowOk S) {p : Nat} (hp : p < (lo S).length) : (((lo S).length : Int) - p) ∈ rowA S ↔ isMix ((lo S).getD p []) = true := by
  have := steps_have ((lo S).length : Nat) (lo S) 0 p hp
  rw [Nat.zero_add] at this
  rw [← this, List.mem_append, List.mem_reverse]
  refine ⟨fun k => k.elim id fun k => ?_, .inl⟩
  have := h.large _ k; omega
theorem two_get {q : List Int} (h : q.length = 2) : q = [q.getD 0 0, q.getD 1 0] := by
  match q, h with
  | [x, y], _ => rfl
theorem RowOk.lows (h : RowOk S) : joinedLows (rowA S) (rowB S) = lo S := by
  apply List.ext_getElem
  · simp [joinedLows]
  · intro p h1 hp
    have hq := List.mem_filter.mp (List.getElem_mem hp)
    have hm := h.inA hp
    have hcut := h.cutAt hp
    have hb := rowB_get S hp
    rw [getD_elem _ [] hp] at hm hb
    simp only [joinedLows, List.getElem_map, List.getElem_range]
    rw [two_get (h.two _ hq.1)]
    show [2 - (((rowA S).count (((rowB S).length : Int) - p) : Nat) : Int), (rowB S).getD p 0 + (((bsr (rowA S) ((rowB S).length : Int) 0 (rowA S).length : Nat) : Int) - (bsl (rowA S) (((rowB S).length : Int) - p) 0 (rowA S).length : Nat)) - (p : Int)] = _
    rw [RowOk.lenB, count_mem h.upA.nodup, hb, hcut]
    have k0 := h.k0 _ hq.1
    have k2 := h.k2 _ hq.1
    have kn : ((lo S)[p]).getD 0 0 ≠ 0 := fun e => by
      have := hq.2
      rw [show isHi (lo S)[p] = true by simpa [isHi] using e] at this
      cases this
    have ek : (2 - (((if (((lo S).length : Int) - p) ∈ rowA S then 1 else 0 : Nat)) : Int)) = ((lo S)[p]).getD 0 0 := by
      by_cases e : ((lo S)[p]).getD 0 0 = 1
      · rw [if_pos (hm.mpr (by simpa [isMix] using e)), e]; rfl
      · rw [if_neg (fun k => e (by simpa [isMix] using hm.mp k))]
        show (2 : Int) - 0 = _
        omega
    rw [ek]
    congr 2
    show key2 _ + (p : Int) - _ + _ - (p : Int) = key2 _
    omega
theorem RowOk.lenA (S : List (List Int)) : (rowA S).length = ((lo S).filter isMix).length + (hi S).length := by
  rw [List.length_append, List.length_reverse, stepsOf_len, largeFrom_eq]; simp
theorem RowOk.highs (h : RowOk S) : joinedHighs (rowA S) (rowB S) = hi S := by
  have hc := h.cut
  have hl := RowOk.lenA S
  have hL : (joinedHighs (rowA S) (rowB S)).length = (hi S).length := by
    simp only [joinedHighs, List.length_map, List.length_range]
    rw [RowOk.lenB, hc]; omega
  apply List.ext_getElem hL
  intro j h1 hj
  have hq := List.mem_filter.mp (List.getElem_mem hj)
  simp only [joinedHighs, List.getElem_map, List.getElem_range]
  rw [two_get (h.two _ hq.1)]
  show [0, (rowA S).getD (bsr (rowA S) ((rowB S).length : Int) 0 (rowA S).length + j) 0 - (((rowB S).length : Int) + ((bsr (rowA S) ((rowB S).length : Int) 0 (rowA S).length : Nat) + (j : Int)) - (bsr (rowA S) ((rowB S).length : Int) 0 (rowA S).length : Nat))] = _
  rw [RowOk.lenB, hc]
  have e0 : ((hi S)[j]).getD 0 0 = 0 := by simpa [isHi] using hq.2
  have hlen : (stepsOf ((lo S).length : Nat) 0 (lo S)).reverse.length = ((lo S).filter isMix).length := by rw [List.length_reverse, stepsOf_len]
  have hjl : j < (largeFrom ((lo S).length : Nat) 0 (hi S)).length := by rw [largeFrom_eq]; simpa using hj
  have eg : (rowA S).getD (((lo S).filter isMix).length + j) 0 = key2 (hi S)[j] + (((lo S).length : Int) + j) := by
    rw [getD_app_r (by omega), hlen, Nat.add_sub_cancel_left, getD_elem _ 0 hjl]
    simp only [largeFrom_eq, List.getElem_mapIdx, Nat.zero_add]
  rw [eg, e0]
  congr 2
  show _ = key2 _
  omega
theorem RowOk.back (h : RowOk S) : joinedS (rowA S) (rowB S) = S := by
  have ha : S.Pairwise Ahead := h.gap.imp fun g => g.ahead
  unfold joinedS
  rw [h.lows, h.highs, ← merged_mg (L := lo S) (H := hi S) (fun q hq => by simpa using (List.mem_filter.mp hq).2) (fun q hq => (List.mem_filter.mp hq).2) (h.lo_gap.imp fun g => gap_le g) (h.hi_gap.imp fun g => gap_le g) true]
  exact merged_ordered ha true
end
theorem two_rows (A B : List Int) (hA : Up A) (hB : Up B) : joinedTwo ((B.map fun y => [2, y]) ++ A.map fun x => [0, x]) = (A, B) := by
  have s := joinedTwo_spec ((B.map fun y => [2, y]) ++ A.map fun x => [0, x]) ([], []) .nil .nil
  rw [List.nil_append, List.nil_append] at s
  have f1 : (((B.map fun y => [2, y]) ++ A.map fun x => [0, x]).filter isHi).map key2 = A := by
    rw [List.filter_append, List.filter_eq_nil_iff.mpr (fun q hq => by obtain ⟨y, _, rfl⟩ := List.mem_map.mp hq; show ¬ ((2 : Int) == 0) = true; decide), List.filter_eq_self.mpr (fun q hq => by obtain ⟨y, _, rfl⟩ := List.mem_map.mp hq; rfl), List.nil_append, List.map_map]
    exact List.map_id' A
  have f2 : (((B.map fun y => [2, y]) ++ A.map fun x => [0, x]).filter fun q => !isHi q).map key2 = B := by
    rw [List.filter_append, List.filter_eq_self.mpr (fun q hq => by obtain ⟨y, _, rfl⟩ := List.mem_map.mp hq; rfl), List.filter_eq_nil_iff.mpr (fun q hq => by obtain ⟨y, _, rfl⟩ := List.mem_map.mp hq; show ¬ (!((0 : Int) == 0)) = true; decide), List.append_nil, List.map_map]
    exact List.map_id' B
  rw [f1, f2] at s
  exact Prod.ext (sorted_eq s.1.1 s.1.2 hA.le) (sorted_eq s.2.1 s.2.2 hB.le)
theorem drawn_back {ns : List Int} (h : ns.length ≤ 5) (left : Bool) : ∃ A B, partedOf (partedRow (drawnI ns)) = (A, B) ∧ Up A ∧ Up B ∧ (∀ x ∈ A, 1 ≤ x ∧ x ≤ 63) ∧ (∀ x ∈ B, 1 ≤ x ∧ x ≤ 63) ∧ A.length ≤ 5 ∧ B.length ≤ 5 ∧ joinedI ((B.map fun y => [2, y]) ++ A.map fun x => [0, x]) left = drawnI ns := by
  have hg := List.pairwise_cons.mp (drawnS_gap ns 0 1 0 [1, 1] rfl rfl)
  have hk := drawnS_kinds ns 0 1 0
  have hlen := drawnS_len ns 0 1 0
  rw [drawnI_placed]
  generalize drawnS 0 1 0 ns = S at *
  have ok : RowOk S := ⟨fun q hq => (hk q hq).1, fun q hq => (hk q hq).2.1, fun q hq => (hk q hq).2.2.1, hg.2, hg.1⟩
  have hsl : S.length = (lo S).length + (hi S).length := split_len S
  have hml := List.length_filter_le isMix (lo S)
  have hA := RowOk.lenA S
  have hup : ∀ q ∈ S, key2 q ≤ 20 := fun q hq => by have := (hk q hq).2.2.2; omega
  refine ⟨rowA S, rowB S, ?_, ok.upA, ok.upB, fun x hx => ?_, fun x hx => ⟨ok.oneB x hx, ?_⟩, ?_, ?_, ?_⟩
  · rw [partedRow_up (placed_up (ok.gap.imp fun g => g.ahead)), partedOf_placed]
  · rcases List.mem_append.mp hx with hx | hx
    · have := ok.steps x hx
      have : ((lo S).length : Int) ≤ 5 := by omega
      omega
    · obtain ⟨q, hq, e1, e2⟩ := (large_up ((lo S).length : Nat) (hi S) 0 (ok.hi_gap.imp fun g => gap_le g)).2 x hx
      have h1 := gap_one (ok.one q (List.mem_filter.mp hq).1)
      have h2 := hup q (List.mem_filter.mp hq).1
      omega
  · obtain ⟨i, hi, rfl⟩ := List.mem_iff_getElem.mp hx
    have hi' : i < (lo S).length := by rw [RowOk.lenB] at hi; exact hi
    have e := rowB_get S hi'
    rw [getD_elem _ 0 hi] at e
    have := hup _ (lo_mem S hi')
    omega
  · omega
  · rw [RowOk.lenB]; omega
  · unfold joinedI
    rw [two_rows _ _ ok.upA ok.upB]
    show placedAll (joinedRow (rowA S) (rowB S) left) = _
    rw [joinedRow_S ok.upA ok.upB, ok.back]

end Pdb

theorem layClaw1 : True := by
  k_with_none
  k_with "memK" => (first | assumption | exact Sub.of (by assumption) _ (by assumption) | kd_lift)
  k_with "subl" => (first | exact fun _ hp => hp | exact sub_nil | (with_reducible refine sub_keep ?_; k_extra "subl") | (with_reducible refine sub_skip ?_; k_extra "subl"))
  k_with "kcf_all" => (first | exact all_nil | k_extra "subl" | (refine all_cons ?_ ?_; (focus kcf_m); kcf_all))
  k_with "mem" => (exact Sub.of (by assumption) _ (by assumption))
  k_with "is_list" => (first | exact News.isList (by assumption) (by assumption) | exact News.isList (by assumption) (Sub.of (by assumption) _ (by assumption)) | exact News.isList (by assumption) (by kd_lift))
  k_with "all" => (first | assumption | ((rename (∀ p : Addr × Obj, p ∈ _ → p.1 < _) => l9); intro p9 hp9; (have q9 := ltN (l9 p9 hp9)); refine neN ?_; omega) | exact all_nil | (apply all_cons; (k_ne); (k_all)))
  k_with "enter" => ((apply code_def; k_asm; k_asm; k_asm; k_asm; k_asm; exact rfl; exact rfl; (first | exact rfl | assumption); k_is; k_is; ktr_room; (exact BindsTo.of_eq rfl); (exact locs rfl); rotate_left; (exact rfl); (exact rfl); (exact rfl); decide; k_whole); intros; (try dsimp only); (try ((rename (Below _ _ _ _) => B9); k_lift B9; revert B9; intros)); (try k_fold))
  k_with "subscriptTail" => (k_here; (with_reducible show wpAny _ _ (subscriptTail _ _ (Value.ref _) (Value.int _ _)) _ _ _); (with_unfolding_all (apply ll_item; k_asm; k_memK; assumption; (first | kd_idx | (simp only [fdiv2]; omega)); (first | kd_idx | (simp only [fdiv2]; omega)); (first | kd_idx | (simp only [fdiv2]; omega)); (with_unfolding_all rfl); k_whole)); intros; (try (rename_i hr9; (have hw9 := row_len (by assumption) hr9); revert hr9 hw9; intros)))
  k_with "getItem ref int" => (k_here; (with_unfolding_all (apply ll_getItem; k_asm; k_memK; assumption; (first | kd_idx | (simp only [fdiv2]; omega)); (first | kd_idx | (simp only [fdiv2]; omega)); (first | kd_idx | (simp only [fdiv2]; omega)); k_whole)); intros; (try (rename_i hr9; (have hw9 := row_len (by assumption) hr9); revert hr9 hw9; intros)))
  k_with "call builtin:len" => (k_here; (with_reducible show wpAny _ _ (call (Value.builtin "len") [Value.ref _]) _ _ _); k_dflt (apply ll_len; k_asm; (first | assumption | k_memK | kd_lift); assumption; (first | omega | ((try simp only [List.length_append, List.length_cons, List.length_nil, List.length_map, List.length_reverse, rangeKs_length] at *); omega)); k_whole))
  k_with "compareOp Eq ref ref" => (k_here; (with_reducible show wpAny _ _ (compareOp CmpOp.Eq (Value.ref _) (Value.ref _)) _ _ _); (with_unfolding_all (apply eq_intsK; is_list; l_ints; is_list; l_ints; ktr_units; k_whole)))
  k_with "subscriptTail Name Slice ref ref" => (k_here; (with_reducible show wpAny _ _ (subscriptTail _ (PySem.Expr.Slice none none (some _) _) (Value.ref _) (Value.ref _)) _ _ _); k_dflt (apply rev_V; k_asm; k_asm; k_memK; (exact IsPart.int _ _); (with_unfolding_all rfl); kmk_pure; omega; k_whole); intros; (rename_i l9); (try k_lt l9); (try k_sweep); (try (revert l9; intros)))
  k_with "call ref" => (k_here; (with_reducible show wpAny _ _ (call (Value.ref 78) [Value.ref _, Value.int _ _]) _ _ _); (with_reducible refine wpAny_with_toks (Nat.le_refl _) ?_); k_dflt (apply bl_ok; k_asm; k_asm; k_asm; k_asm; k_asm; (first | exact rfl | assumption); ktr_room; ktr_units; (k_memK); (l_ints); (omega); k_whole; intros; (try (rename_i e9; dsimp only at e9; revert e9; intro _)); (try k_sweep); (try dsimp only)))
  k_with "call ref" => (k_here; (with_reducible show wpAny _ _ (call (Value.ref 78) [Value.ref _, Value.int _ _, Value.int _ _, Value.none]) _ _ _); (with_reducible refine wpAny_with_toks (Nat.le_refl _) ?_); k_dflt (apply bl4_ok; k_asm; k_asm; k_asm; k_asm; k_asm; (first | exact rfl | assumption); ktr_room; ktr_units; (k_memK); (l_ints); (omega); k_whole; intros; (try (rename_i e9; dsimp only at e9; revert e9; intro _)); (try k_sweep); (try dsimp only)))
  k_with "call ref" => (k_here; (with_reducible show wpAny _ _ (call (Value.ref 60) [Value.ref _, Value.int _ _]) _ _ _); (with_reducible refine wpAny_with_toks (Nat.le_refl _) ?_); k_dflt (apply br_ok; k_asm; k_asm; k_asm; k_asm; k_asm; (first | exact rfl | assumption); ktr_room; ktr_units; (k_memK); (l_ints); (omega); k_whole; intros; (try (rename_i e9; dsimp only at e9; revert e9; intro _)); (try k_sweep); (try dsimp only)))
  k_with "call ref" => (k_here; (with_reducible show wpAny _ _ (call (Value.ref 60) [Value.ref _, Value.int _ _, Value.int _ _, Value.none]) _ _ _); (with_reducible refine wpAny_with_toks (Nat.le_refl _) ?_); k_dflt (apply br4_ok; k_asm; k_asm; k_asm; k_asm; k_asm; (first | exact rfl | assumption); ktr_room; ktr_units; (k_memK); (l_ints); (omega); k_whole; intros; (try (rename_i e9; dsimp only at e9; revert e9; intro _)); (try k_sweep); (try dsimp only)))
  k_with "call ref" => (k_here; (with_reducible show wpAny _ _ (call (Value.ref 78) [Value.ref _, Value.int _ _, Value.int _ _, Value.none] _) _ _ _); (with_reducible refine wpAny_with_toks (Nat.le_refl _) ?_); k_dflt (apply bl5_ok; k_asm; k_asm; k_asm; k_asm; k_asm; (first | exact rfl | assumption); ktr_room; ktr_units; (k_memK); (assumption); (assumption); (assumption); (omega); k_whole; intros; (try (rename_i e9; dsimp only at e9; revert e9; intro _)); (try k_sweep); (try dsimp only)))
  k_with "call ref" => (k_here; (with_reducible show wpAny _ _ (call (Value.ref 60) [Value.ref _, Value.int _ _, Value.int _ _, Value.none] _) _ _ _); (with_reducible refine wpAny_with_toks (Nat.le_refl _) ?_); k_dflt (apply br5_ok; k_asm; k_asm; k_asm; k_asm; k_asm; (first | exact rfl | assumption); ktr_room; ktr_units; (k_memK); (assumption); (assumption); (assumption); (omega); k_whole; intros; (try (rename_i e9; dsimp only at e9; revert e9; intro _)); (try k_sweep); (try dsimp only)))
  k_with "call ref" => (k_here; (with_reducible show wpAny _ _ (call (Value.ref 69) [Value.ref _, Value.int _ _]) _ _ _); (with_reducible refine wpAny_with_toks (Nat.le_refl _) ?_); k_dflt (apply insl_ok; k_asm; k_asm; k_asm; k_asm; k_asm; (first | exact rfl | assumption); ktr_room; ktr_units; (k_upd); (l_ints); (omega); k_whole; intros; (try (rename_i e9; dsimp only at e9; revert e9; intro _)); (try k_sweep); (try dsimp only)))
  k_with "call ref" => (k_here; (with_reducible show wpAny _ _ (call (Value.ref 51) [Value.ref _, Value.int _ _]) _ _ _); (with_reducible refine wpAny_with_toks (Nat.le_refl _) ?_); k_dflt (apply insr_ok; k_asm; k_asm; k_asm; k_asm; k_asm; (first | exact rfl | assumption); ktr_room; ktr_units; (k_upd); (l_ints); (omega); k_whole; intros; (try (rename_i e9; dsimp only at e9; revert e9; intro _)); (try k_sweep); (try dsimp only)))
  k_with "call ref" => (k_here; (with_reducible show wpAny _ _ (call (Value.ref 69) [Value.ref _, Value.ref _] _) _ _ _); (with_reducible refine wpAny_with_toks (Nat.le_refl _) ?_); k_dflt (apply inslk_ok; k_asm; k_asm; k_asm; k_asm; k_asm; (first | exact rfl | assumption); ktr_room; ktr_units; (k_upd); (assumption); (first | assumption | exact ⟨by kd_subs⟩); (assumption); (assumption); (assumption); (omega); k_whole; intros; (try (rename_i e9; dsimp only at e9; revert e9; intro _)); (try k_sweep); (try dsimp only)))
  k_with "call ref" => (k_here; (with_reducible show wpAny _ _ (call (Value.ref 51) [Value.ref _, Value.ref _] _) _ _ _); (with_reducible refine wpAny_with_toks (Nat.le_refl _) ?_); k_dflt (apply insrk_ok; k_asm; k_asm; k_asm; k_asm; k_asm; (first | exact rfl | assumption); ktr_room; ktr_units; (k_upd); (assumption); (first | assumption | exact ⟨by kd_subs⟩); (assumption); (assumption); (assumption); (omega); k_whole; intros; (try (rename_i e9; dsimp only at e9; revert e9; intro _)); (try k_sweep); (try dsimp only)))
  k_with "call ref" => (k_here; (with_reducible show wpAny _ _ (call (Value.ref 42) [Value.ref _, Value.int _ _]) _ _ _); (with_reducible refine wpAny_with_toks (Nat.le_refl _) ?_); k_dflt (apply cnt_ok; k_asm; k_asm; k_asm; k_asm; k_asm; (first | exact rfl | assumption); ktr_room; ktr_units; (k_memK); (l_ints); (first | assumption | (refine' ToksB.mono ?_ (by assumption); omega)); (omega); (first | assumption | decide | rfl); k_whole; intros; (try (rename_i e9; dsimp only at e9; revert e9; intro _)); (try k_sweep); (try dsimp only)))
  k_with "call ref" => (k_here; (with_reducible show wpAny _ _ (call (Value.ref 42) [Value.ref _, Value.ref _]) _ _ _); (with_reducible refine wpAny_with_toks (Nat.le_refl _) ?_); k_dflt (apply cntl_ok; k_asm; k_asm; k_asm; k_asm; k_asm; (first | exact rfl | assumption); ktr_room; ktr_units; (k_memK); (first | assumption | exact LLAre.mono (by kd_subs) (by assumption)); (k_memK); (l_ints); k_whole; intros; (try (rename_i e9; dsimp only at e9; revert e9; intro _)); (try k_sweep); (try dsimp only)))
  k_with "call ref" => (k_here; (with_reducible show wpAny _ _ (call (Value.ref 28) [Value.int _ _, Value.int _ _]) _ _ _); (with_reducible refine wpAny_with_toks (Nat.le_refl _) ?_); k_dflt (apply mul_ok; k_asm; k_asm; k_asm; k_asm; k_asm; (first | exact rfl | assumption); ktr_room; ktr_units; (omega); k_whole; intros; (try (rename_i a9 b9 c9 d9 e9; (try dsimp only at e9); (try dsimp only at a9); revert a9 b9 c9 d9 e9; intros)); (try k_sweep); (try dsimp only)))
  k_with "call ref" => (k_here; (with_reducible show wpAny _ _ (call (Value.ref 21) [Value.int _ _, Value.int _ _]) _ _ _); (with_reducible refine wpAny_with_toks (Nat.le_refl _) ?_); k_dflt (apply add_ok; k_asm; k_asm; k_asm; k_asm; k_asm; (first | exact rfl | assumption); ktr_room; ktr_units; k_whole; intros; (try (rename_i a9 b9 c9 d9 e9; (try dsimp only at e9); (try dsimp only at a9); revert a9 b9 c9 d9 e9; intros)); (try k_sweep); (try dsimp only)))
  k_with "call ref" => (k_here; (with_reducible show wpAny _ _ (call (Value.ref 35) [Value.int _ _, Value.int _ _]) _ _ _); (with_reducible refine wpAny_with_toks (Nat.le_refl _) ?_); k_dflt (apply sub_ok; k_asm; k_asm; k_asm; k_asm; k_asm; (first | exact rfl | assumption); ktr_room; ktr_units; k_whole; intros; (try (rename_i a9 b9 c9 d9 e9; (try dsimp only at e9); (try dsimp only at a9); revert a9 b9 c9 d9 e9; intros)); (try k_sweep); (try dsimp only)))
  k_with "call ref" => (k_here; (with_reducible show wpAny _ _ (call (Value.ref 92) [Value.float _ _, Value.float _ _, Value.float _ _]) _ _ _); (with_reducible refine wpAny_with_toks (Nat.le_refl _) ?_); k_dflt (apply hsv_okE; k_asm; k_asm; k_asm; k_asm; k_asm; (first | exact rfl | assumption); ktr_room; ktr_units; (assumption); (assumption); k_whole; intros; (try (rename_i e9; dsimp only at e9; revert e9; intro _)); (try k_sweep); (try dsimp only)))
  k_with "call ref" => (k_here; (with_reducible show wpAny _ _ (call (Value.ref 85) [Value.float _ _, Value.float _ _, Value.float _ _]) _ _ _); (with_reducible refine wpAny_with_toks (Nat.le_refl _) ?_); k_dflt (apply rgb_okE; k_asm; k_asm; k_asm; k_asm; k_asm; (first | exact rfl | assumption); ktr_room; ktr_units; (assumption); (assumption); k_whole; intros; (try (rename_i e9; dsimp only at e9; revert e9; intro _)); (try k_sweep); (try dsimp only)))
  k_with "call ref" => (k_here; (with_reducible show wpAny _ _ (call (Value.ref 106) [Value.float _ _]) _ _ _); (with_reducible refine wpAny_with_toks (Nat.le_refl _) ?_); k_dflt (apply whole_okE; k_asm; k_asm; k_asm; k_asm; k_asm; (first | exact rfl | assumption); ktr_room; ktr_units; (assumption); (assumption); k_whole; intros; (try (rename_i e9; dsimp only at e9; revert e9; intro _)); (try k_sweep); (try dsimp only)))
  k_with "call ref" => (k_here; (with_reducible show wpAny _ _ (call (Value.ref 116) [Value.ref _, Value.int _ _]) _ _ _); (with_reducible refine wpAny_with_toks (Nat.le_refl _) ?_); k_dflt (apply light_ok; k_asm; k_asm; k_asm; k_asm; k_asm; (first | exact rfl | assumption); ktr_room; ktr_units; (k_memK); (l_ints); (((try simp only [paintI_len]); omega)); (omega); k_whole; intros; rename_i h9 t9; (try dsimp only at t9); (try k_sweep); (try dsimp only)); (replace h9 := off1_of h9; dsimp only [LCg.Off1] at h9); (try (revert t9; intros)); (try (revert h9; intros)))
  k_with "call ref" => (k_here; (with_reducible show wpAny _ _ (call (Value.ref 154) [Value.int _ _, Value.int _ _]) _ _ _); (with_reducible refine wpAny_with_toks (Nat.le_refl _) ?_); k_dflt (apply gap_ok; k_asm; k_asm; k_asm; k_asm; k_asm; (first | exact rfl | assumption); ktr_room; ktr_units; k_whole; intros; (try (rename_i e9; dsimp only at e9; revert e9; intro _)); (try k_sweep); (try dsimp only)))
  k_with "call ref" => (k_here; (with_reducible show wpAny _ _ (call (Value.ref 168) [Value.ref _]) _ _ _); (with_reducible refine wpAny_with_toks (Nat.le_refl _) ?_); k_dflt (apply drawn_ok; k_asm; k_asm; k_asm; k_asm; k_asm; (first | exact rfl | assumption); ktr_room; ktr_units; (k_memK); (l_ints); (omega); k_whole; intros; (try (rename_i e9; dsimp only at e9; revert e9; intro _)); (try k_sweep); (try dsimp only)))
  k_with "call ref" => (k_here; (with_reducible show wpAny _ _ (call (Value.ref 161) [Value.ref _]) _ _ _); (with_reducible refine wpAny_with_toks (Nat.le_refl _) ?_); k_dflt (apply gaps_ok; k_asm; k_asm; k_asm; k_asm; k_asm; (first | exact rfl | assumption); ktr_room; ktr_units; (k_memK); (assumption); (first | assumption | exact ⟨by kd_subs⟩); (assumption); k_whole; intros; (try (rename_i e9; dsimp only at e9; revert e9; intro _)); (try k_sweep); (try dsimp only)))
  k_with "call ref" => (k_here; (with_reducible show wpAny _ _ (call (Value.ref 123) [Value.ref _, Value.int _ _]) _ _ _); (with_reducible refine wpAny_with_toks (Nat.le_refl _) ?_); k_dflt (apply told_ok; k_asm; k_asm; k_asm; k_asm; k_asm; (first | exact rfl | assumption); ktr_room; ktr_units; (k_memK); (first | assumption | exact LLAre.mono (by kd_subs) (by assumption)); (assumption); (((try dsimp only); omega)); (assumption); (assumption); k_whole; intros; rename_i h9 t9; (try dsimp only at t9); (try k_sweep); (try dsimp only)); (try k_lt h9); (try (revert t9; intros)); (try (revert h9; intros)))
  k_with "call ref" => (k_here; (with_reducible show wpAny _ _ (call (Value.ref 99) [Value.ref _]) _ _ _); (with_reducible refine wpAny_with_toks (Nat.le_refl _) ?_); k_dflt (apply sums_ok; k_asm; k_asm; k_asm; k_asm; k_asm; (first | exact rfl | assumption); ktr_room; ktr_units; (assumption); (l_ints); (omega); k_whole; intros; rename_i h9 t9; (try dsimp only at t9); (try k_sweep); (try dsimp only)); (try k_lt h9); (try (revert t9; intros)); (try (revert h9; intros)))
  trivial
section Claw
theorem layClaw2 : True := by
  k_with "exec For Name Name cons nil" => (k_here; k_dflt (refine wpAny_For ?_))
  k_with "exec For Name Call cons nil" => (k_here; k_dflt (refine wpAny_For ?_))
  k_with "exec For Name Subscript cons nil" => (k_here; k_dflt (refine wpAny_For ?_))
  k_with "exec For" => (k_here; k_dflt (refine wpAny_For ?_))
  k_with "execs cons Assign cons" => ((with_reducible refine wpAny_execs_cons ?_); (try dsimp only))
  k_with "last pyIter ref" => (refine Hold.mk ?_)
  k_with "call builtin:list.append" => (k_here; (with_reducible show wpAny _ _ (call (Value.builtin _) [Value.ref _, _]) _ _ _); k_dflt (apply append_V; k_asm; k_asm; k_upd; (omega); k_whole); intros; (try k_sweep))
  k_with "execs cons" => (k_here; (with_reducible show wpAny _ _ _ _ _ (Shared.mk _ _ _ (_ + _) _)); (refine gen_toks ?_); intros; (try (rename_i e9; simp only [List.length_cons, List.length_nil, Nat.zero_add] at e9; revert e9; intro _)))
  k_with "execs nil" => (k_here; (with_reducible show wpAny _ _ _ _ _ (Shared.mk _ _ _ (_ + _) _)); (refine gen_toks ?_); intros; (try (rename_i e9; simp only [List.length_cons, List.length_nil, Nat.zero_add] at e9; revert e9; intro _)))
  trivial
theorem paint_add {tot : Int} {i : Nat} (h : i < 3) : (paintI tot 1).take (i + 1) = (paintI tot 1).take i ++ [(paintI tot 0).getD (i : Int).toNat 0 + (paintI tot 2).getD (i : Int).toNat 0] := by
  match i, h with
  | 0, _ => rfl
  | 1, _ => rfl
  | 2, _ => rfl
theorem news_mid {h₀ h : Heap} {L : Addr} {x : Addr × Obj} {pre led led' w : List (Addr × Obj)} (N : News h₀ L h ((x :: led) ++ (pre ++ w))) (hs : ∀ p ∈ led', p ∈ led) : News h₀ L h (x :: (pre ++ (led' ++ w))) := fun p hp => N p (by
  rcases List.mem_cons.mp hp with rfl | hp
  · exact .head _
  · rcases List.mem_append.mp hp with hp | hp
    · exact List.mem_append_right _ (List.mem_append_left _ hp)
    · rcases List.mem_append.mp hp with hp | hp
      · exact .tail _ (List.mem_append_left _ (hs p hp))
      · exact List.mem_append_right _ (List.mem_append_right _ hp))
theorem LLAre.trim {led : List (Addr × Obj)} {vs : List Value} {rs : List (List Int)} (h : LLAre led vs rs) : ∃ led', LLAre led' vs rs ∧ (∀ p ∈ led', p ∈ led) ∧ ∀ p ∈ led', ∃ ws n, p.2 = listOf ws n := by
  induction h with
  | nil => exact ⟨[], .nil, (fun p hp => nomatch hp), fun p hp => nomatch hp⟩
  | cons hm hi _ ih =>
    obtain ⟨led', k1, k2, k3⟩ := ih
    exact ⟨_ :: led', .cons (.head _) hi (k1.mono fun p hp => .tail _ hp), List.forall_mem_cons.mpr ⟨hm, k2⟩, List.forall_mem_cons.mpr ⟨⟨_, _, rfl⟩, k3⟩⟩
theorem joinedI_len (qs : List (List Int)) (left : Bool) : (joinedI qs left).length ≤ qs.length := by
  have h := joinedTwo_len qs
  have hb := bsr_le (joinedTwo qs).1 ((joinedTwo qs).2.length : Int) 0 (joinedTwo qs).1.length (Nat.zero_le _)
  unfold joinedI placedAll joinedRow mergedI
  rw [List.length_map, List.length_range]
  split <;> simp only [foldLK_length, foldRK_length, List.length_reverse] <;> (unfold joinedLows joinedHighs; simp only [List.length_map, List.length_range]; omega)
structure RowsSt where
  lv : List Value
  ln : Nat
  av : List Value
  an : Nat
  bv : List Value
  bn : Nat
  lits : List (Addr × Obj)
theorem two_item {prog : Program} {w : World} {A : Around} {E : Value → Shared → Prop} {s : Shared} {h₀ : Heap} {L l a b : Addr} {value slice : PySem.Expr} {news : List (Addr × Obj)} {n : Nat} {k : Int} {u : Tok} {Q : Value → Shared → Prop} (N : News h₀ L s.heap news) (hm : (l, listOf [Value.ref a, Value.ref b].toArray n) ∈ news)
    (hk : k = 0 ∨ k = 1)
    (hs : subscripted slice false (.ref l) (.int k u) = operate [.ref l, .int k u] (getItem (.ref l) (.int k u))) (h0 : k = 0 → Q (.ref a) s) (h1 : k = 1 → Q (.ref b) s) :
    wpAny (model prog w) A (subscriptTail value slice (.ref l) (.int k u)) Q E s := by
  rcases hk with e | e
  · exact lit_item N hm (by omega) (by omega) (by rw [e]; rfl) hs (h0 e)
  · exact lit_item N hm (by omega) (by omega) (by rw [e]; rfl) hs (h1 e)
theorem layClaw3 : True := by
  k_with "subscriptTail" => (k_here; (with_reducible show wpAny _ _ (subscriptTail _ _ (Value.ref _) (Value.int _ _)) _ _ _); (with_unfolding_all (apply two_item; k_asm; (focus ((repeat (first | assumption | refine List.Mem.tail _ ?_)); (exact List.mem_append_right _ (by assumption)))); assumption; (with_unfolding_all rfl); k_whole)); intro _)
  trivial
noncomputable def Marked (_ : Nat) : Prop := True
theorem layClaw4 : True := by
  k_with "memK" => (focus ((repeat (first | assumption | exact Sub.of (by assumption) _ (by assumption) | refine List.Mem.tail _ ?_)); done))
  k_with "call ref" => (k_here; (with_reducible show wpAny _ _ (call (Value.ref 42) [Value.ref _, Value.ref _]) _ _ _); (with_reducible refine wpAny_with_toks (Nat.le_refl _) ?_); k_dflt (apply cntl_ok; k_asm; k_asm; k_asm; k_asm; k_asm; (first | exact rfl | assumption); ktr_room; ktr_units; (k_memK); (exact LLAre.mono (fun p hp => by repeat (first | exact Sub.of (by assumption) _ hp | refine List.Mem.tail _ ?_)) (by assumption)); (k_memK); (l_ints); k_whole; intros; (try (rename_i e9; dsimp only at e9; revert e9; intro _)); (try k_sweep); (try dsimp only)))
  k_with "call ref" => (k_here; (with_reducible show wpAny _ _ (call (Value.ref 111) [Value.int _ _, Value.int _ _]) _ _ _); (with_reducible refine wpAny_with_toks (Nat.le_refl _) ?_); k_dflt (apply paint_okF; k_asm; k_asm; k_asm; k_asm; k_asm; (first | exact rfl | assumption); ktr_room; ktr_units; (omega); (omega); (assumption); (assumption); k_whole; intros; rename_i h9 t9; (try dsimp only at t9); (try k_sweep); (try dsimp only)); (replace h9 := off1_of h9; simp only [LCg.Off1, and_true] at h9); (try (revert t9; intros)); (try (revert h9; intros)))
  k_with "call ref" => (k_here; (first | (with_reducible show wpAny _ _ (call (Value.ref 142) _) _ _ _) | (with_reducible show wpAny _ _ (call (Value.ref 168) _) _ _ _) | (with_reducible show wpAny _ _ (call (Value.ref 147) _) _ _ _)); (refine Hold.mk ?_))
  k_with "subscriptTail Name Constant ref int" => (k_here; (with_reducible show wpAny _ _ (subscriptTail _ _ (Value.ref _) (Value.int _ _)) _ _ _); (with_unfolding_all (apply lit_item; k_asm; (focus k_memK); decide; decide; (exact rfl); (with_unfolding_all rfl); k_whole)))
  k_with "call type:range" => ((with_reducible refine wpAny_with_toks (Nat.le_refl _) ?_); (first | (with_unfolding_all refine range1_rows (by k_asm) (by k_asm) ?_) | (with_unfolding_all refine range2_rows (by k_asm) (by k_asm) ?_)); intros; (try (rename_i t9; (dsimp only at t9); revert t9; intro _)))
  k_with "call builtin:sum" => (k_here; (with_reducible show wpAny _ _ (call (Value.builtin "sum") [Value.ref _]) _ _ _); (with_reducible refine wpAny_with_toks (Nat.le_refl _) ?_); (with_unfolding_all (apply sumK; (with_unfolding_all rfl); k_asm; k_asm; is_list; (first | l_ints | l_intsW); k_whole)); intros; (try (rename_i t9; (dsimp only at t9); revert t9; intro _)))
  k_with "compareOp Eq ref ref" => (k_here; (fail_if_success (fail_if_success (rename Marked 7 => mk9))); (refine Hold.mk ?_))
  k_with "compareOp NotEq ref ref" => (k_here; (fail_if_success (fail_if_success (rename Marked 4 => mk9))); (refine Hold.mk ?_))
  k_with "eval ListComp" => (k_here; (refine Hold.mk ?_))
  k_with "exec Assign cons ListComp" => (k_here; (fail_if_success (rename Marked 2 => mk9)); (refine Hold.mk ?_))
  k_with "exec Assign" => (k_here; (fail_if_success (rename Marked 1 => mk9)); (with_reducible show wpAny _ _ (exec (Stmt.Assign [Expr.Tuple [_, _] _ _] (Expr.Tuple [Expr.Call _ _ _ _, Expr.Call _ _ _ _] _ _) _) _) _ _ _); (refine Hold.mk ?_))
  trivial
structure Keep (p : Prop) : Prop where
  out : p
theorem law_ok : PySem.Challenge.rw_tc0005_01.Holds := by
  refine hd ?_
  k_go0
  (all_goals try k_fold)
  k_steps
  rename_i wd s0 s1 mg mb G Y fa fo pm doc ho hg KX X V GL T B TE TW ma mo M da db hcd ns hs hlay0 hL0 hr0 hl2 la lb la2 vs lc hLs ra w1 r0 hI hr1 hcond ht K0 hD h1 tk1 F0 c5 c4 c3 c2 c1 dd5 dd4 dd3 dd2 dd1 N0 X0 q ws ms nn _ tkq Iq hms tlq lq _ _ _ tt _ _ ot Fq Nq dt
  unfold Hold
  have ht0 : 0 ≤ ms.sum.fmod 768 := Int.fmod_nonneg_of_pos _ (by decide)
  have ht1 : ms.sum.fmod 768 < 768 := Int.fmod_lt_of_pos _ (by decide)
  generalize ms.sum.fmod 768 = tot at *
  have hu0 : 0 ≤ tot.fmod 48 := Int.fmod_nonneg_of_pos _ (by decide)
  have hu1 : tot.fmod 48 < 48 := Int.fmod_lt_of_pos _ (by decide)
  have hm1 : Marked 1 := trivial
  k_steps
  rename_i t1 ws1 n1 _ _ I1 _ of1 t2 ws2 n2 _ tk9 I2 _ of2 D9 _ l9 _ _ o2 d2 _ o3 d3 _ e1 _ l8 a1 e2 _ F9 N9 l7 a2
  clear a1 a2
  unfold Hold
  obtain ⟨P0, hP0⟩ : ∃ x, x = paintI tot 0 := ⟨_, rfl⟩
  obtain ⟨P2, hP2⟩ : ∃ x, x = paintI tot 2 := ⟨_, rfl⟩
  obtain ⟨P1, hP1⟩ : ∃ x, x = paintI tot 1 := ⟨_, rfl⟩
  replace I1 : IntsAre ws1 P0 := by rw [hP0]; exact I1
  replace I2 : IntsAre ws2 P2 := by rw [hP2]; exact I2
  have hP0l : P0.length = 3 := by rw [hP0]; exact paintI_len _ _
  have hP1l : P1.length = 3 := by rw [hP1]; exact paintI_len _ _
  have hP2l : P2.length = 3 := by rw [hP2]; exact paintI_len _ _
  have hPa : ∀ i : Nat, i < 3 → P1.take (i + 1) = P1.take i ++ [P0.getD (i : Int).toNat 0 + P2.getD (i : Int).toNat 0] := fun i hi => by rw [hP0, hP1, hP2]; exact paint_add hi
  replace dd4 : c4.data = Data.cell none := dd4
  replace dd5 : c5.data = Data.cell none := dd5
  clear dd1 dd2 dd3
  k_dflt (refine listComp_V (by k_asm) (by rfl) (by decide) (by rfl) (by decide) (by rfl) ?_)
  k_steps
  rename_i hR9 _ _ _ _
  k_dflt (refine' compIn_range (n := 3) (σ := Unit) (fun c => [(t2, listOf ws2.toArray n2), (t1, listOf ws1.toArray n1), (q, listOf ws.toArray nn), (s1.heap.objs.size + 1 + 1 + 1 + 1 + 1, c5), (s1.heap.objs.size + 1 + 1 + 1 + 1, c4), (s1.heap.objs.size + 1 + 1 + 1, o3), (s1.heap.objs.size + 1 + 1, o2), (s1.heap.objs.size + 1, ot)]) (fun i tk ys c => IntsAre ys (P1.take i)) () rfl ?F ?N (fun _ _ _ _ _ le h => h) .nil ?hz hR9 ?small ?size ?turn ?fin; (case F => assumption); (case N => exact news_sub (by assumption) (by kcf_all)))
  case hz => exact room_of (by omega)
  case small => exact small_one (by omega) (by omega) (by omega) (by omega)
  case size => rfl
  case turn =>
--[[
    intro I C D c i t ys h tk oI oC m₂ E' hIC hID hCD hv hJ hle hoC hm hap F1 N1
    rw [Int.zero_add] at hm
    dsimp only at hle hJ
    have hPi := hPa i hv
    k_steps
    exact elt_end () (by assumption) (by assumption) (by kcf_m) (by kcf_m) (by kcf_m) (by kcf_all) hap (by rw [hPi]; exact IntsAre.append hJ (.cons _ _ .nil))
--]]
  case fin =>
    intro D c ys h tk hJ hle hoff F1 N1
    have hof9 := off1_of hoff
    simp only [LCg.Off1, and_true] at hof9
    have I3 : IntsAre ys P1 := by rw [List.take_of_length_le (by omega)] at hJ; exact hJ
    clear hJ
    k_steps
    rename_i pl _ lpl _ c4' d4 _ ra _ lra rb _ lrb rws _ lrw li _ lli D8 _ lD8 _ _ _ tk8 hk8 Dq wsq _ F9 N9 Iq7 hC7 hL7 lDq
    unfold Hold
    obtain ⟨b9, hb9⟩ : ∃ x : List (Addr × Obj), x = [(Dq, listOf wsq.toArray 0), (rws, listOf [Value.ref ra, Value.ref rb].toArray 0), (pl, listOf [Value.ref t1, Value.ref D, Value.ref t2].toArray 0), (D, listOf ys.toArray ys.length), (t2, listOf ws2.toArray n2), (t1, listOf ws1.toArray n1), (q, listOf ws.toArray nn)] := ⟨_, rfl⟩
    have hDq9 : (Dq, listOf wsq.toArray 0) ∈ b9 := by rw [hb9]; kcf_m
    have hrw9 : (rws, listOf [Value.ref ra, Value.ref rb].toArray 0) ∈ b9 := by rw [hb9]; kcf_m
    have hpl9 : (pl, listOf [Value.ref t1, Value.ref D, Value.ref t2].toArray 0) ∈ b9 := by rw [hb9]; kcf_m
    have hq9 : (q, listOf ws.toArray nn) ∈ b9 := by rw [hb9]; kcf_m
    have hP9 : LLAre b9 [Value.ref t1, Value.ref D, Value.ref t2] [P0, P1, P2] := by rw [hb9]; exact .cons (by kcf_m) I1 (.cons (by kcf_m) I3 (.cons (by kcf_m) I2 .nil))
    have f9li : ∀ p ∈ b9, p.1 ≠ li := by rw [hb9]; exact List.forall_mem_cons.mpr ⟨by k_ne, List.forall_mem_cons.mpr ⟨by k_ne, List.forall_mem_cons.mpr ⟨by k_ne, List.forall_mem_cons.mpr ⟨by k_ne, List.forall_mem_cons.mpr ⟨by k_ne, List.forall_mem_cons.mpr ⟨by k_ne, List.forall_mem_cons.mpr ⟨by k_ne, fun p hp => nomatch hp⟩⟩⟩⟩⟩⟩⟩
    have f9ra : ∀ p ∈ b9, p.1 ≠ ra := by rw [hb9]; exact List.forall_mem_cons.mpr ⟨by k_ne, List.forall_mem_cons.mpr ⟨by k_ne, List.forall_mem_cons.mpr ⟨by k_ne, List.forall_mem_cons.mpr ⟨by k_ne, List.forall_mem_cons.mpr ⟨by k_ne, List.forall_mem_cons.mpr ⟨by k_ne, List.forall_mem_cons.mpr ⟨by k_ne, fun p hp => nomatch hp⟩⟩⟩⟩⟩⟩⟩
    have f9rb : ∀ p ∈ b9, p.1 ≠ rb := by rw [hb9]; exact List.forall_mem_cons.mpr ⟨by k_ne, List.forall_mem_cons.mpr ⟨by k_ne, List.forall_mem_cons.mpr ⟨by k_ne, List.forall_mem_cons.mpr ⟨by k_ne, List.forall_mem_cons.mpr ⟨by k_ne, List.forall_mem_cons.mpr ⟨by k_ne, List.forall_mem_cons.mpr ⟨by k_ne, fun p hp => nomatch hp⟩⟩⟩⟩⟩⟩⟩
    have f9ki : ∀ p ∈ b9, p.1 ≠ s1.heap.objs.size + 1 + 1 + 1 + 1 + 1 := by rw [hb9]; exact List.forall_mem_cons.mpr ⟨by k_ne, List.forall_mem_cons.mpr ⟨by k_ne, List.forall_mem_cons.mpr ⟨by k_ne, List.forall_mem_cons.mpr ⟨by k_ne, List.forall_mem_cons.mpr ⟨by k_ne, List.forall_mem_cons.mpr ⟨by k_ne, List.forall_mem_cons.mpr ⟨by k_ne, fun p hp => nomatch hp⟩⟩⟩⟩⟩⟩⟩
    have hab : @Ne Nat ra rb := by k_ne
    have hla : @Ne Nat li ra := by k_ne
    have hlb : @Ne Nat li rb := by k_ne
    rw [show ms.length = 12 from hms] at hC7
    (with_unfolding_all refine' for_list (σ := RowsSt) (fun c => (li, listOf c.lv.toArray c.ln) :: (ra, listOf c.av.toArray c.an) :: (rb, listOf c.bv.toArray c.bn) :: (s1.heap.objs.size + 1 + 1 + 1 + 1 + 1, c5) :: (s1.heap.objs.size + 1 + 1 + 1 + 1, c4') :: (s1.heap.objs.size + 1 + 1 + 1, o3) :: (s1.heap.objs.size + 1 + 1, o2) :: (s1.heap.objs.size + 1, ot) :: (c.lits ++ b9)) (fun c => []) [Str.ofString "number", Str.ofString "light"] (fun i tk c => LLAre c.lits c.lv ((rowsAt tot ((ms.take 7).take i)).1.map (lightI tot)) ∧ IntsAre c.av (rowsAt tot ((ms.take 7).take i)).2.1 ∧ IntsAre c.bv (rowsAt tot ((ms.take 7).take i)).2.2 ∧ (∀ p ∈ c.lits, p.1 ≠ li) ∧ (∀ p ∈ c.lits, p.1 ≠ ra) ∧ (∀ p ∈ c.lits, p.1 ≠ rb) ∧ (∀ p ∈ c.lits, p.1 ≠ s1.heap.objs.size + 1 + 1 + 1 + 1 + 1)) ⟨[], 0, [], 0, [], 0, []⟩ rfl (fun _ _ _ _ => .tail _ (.tail _ (.tail _ (.tail _ (.tail _ (.tail _ (.tail _ (.tail _ (List.mem_append_right _ hDq9))))))))) (fun _ _ _ _ _ h => h) ?F ?N ?hk ?hj ?turn ?done ?hE)
    case F => assumption
    case N => exact news_sub N9 (by rw [hb9]; kcf_all)
    case hk => kst_all
    case hj => exact ⟨.nil, .nil, .nil, (fun p hp => nomatch hp), (fun p hp => nomatch hp), (fun p hp => nomatch hp), fun p hp => nomatch hp⟩
    case hE => passes_own
    case turn =>
--[[
      rintro ⟨lv, ln, av, an, bv, bn, lits⟩ i v u h tk I oI hv ⟨hA, hB, hC, g1, g2, g3, g4⟩ hle hoff F1 N1
      obtain ⟨n, t, rfl, hn⟩ := ints_at Iq7 hv
      have hstep : rowsAt tot ((ms.take 7).take (i + 1)) = rowsStep tot (rowsAt tot ((ms.take 7).take i)) n := foldl_take_one _ _ hn
      have hrl := rowsAt_len tot ((ms.take 7).take i)
      have hil : i < (ms.take 7).length := (List.getElem?_eq_some_iff.mp hn).1
      rw [List.length_take (i := i)] at hrl
      have hAl := hA.length
      have hBl := hB.length
      have hCl := hC.length
      rw [List.length_map] at hAl
      have hn01 : n.fmod 2 = 0 ∨ n.fmod 2 = 1 := by have a := Int.fmod_nonneg_of_pos n (b := 2) (by decide); have b := Int.fmod_lt_of_pos n (b := 2) (by decide); omega
      have hz0 : 0 ≤ (n.fdiv 2).fmod 12 := Int.fmod_nonneg_of_pos _ (by decide)
      have hz1 : (n.fdiv 2).fmod 12 < 12 := Int.fmod_lt_of_pos _ (by decide)
      have q1 : ∀ p ∈ lits ++ b9, p.1 ≠ li := fun p hp => (List.mem_append.mp hp).elim (g1 p) (f9li p)
      have q2 : ∀ p ∈ lits ++ b9, p.1 ≠ ra := fun p hp => (List.mem_append.mp hp).elim (g2 p) (f9ra p)
      have q3 : ∀ p ∈ lits ++ b9, p.1 ≠ rb := fun p hp => (List.mem_append.mp hp).elim (g3 p) (f9rb p)
      have hSb : Sub b9 (lits ++ b9) := ⟨fun p hp => List.mem_append_right _ hp⟩
      have hSl : Sub lits (lits ++ b9) := ⟨fun p hp => List.mem_append_left _ hp⟩
      have hIl : @Ne Nat li I := hoff _ (.head _)
      have hIa : @Ne Nat ra I := hoff _ (.tail _ (.head _))
      have hIb : @Ne Nat rb I := hoff _ (.tail _ (.tail _ (.head _)))
      obtain ⟨P3, hP3⟩ : ∃ x, x = [P0, P1, P2] := ⟨_, rfl⟩
      have hP3l : P3.length = 3 := by rw [hP3]; rfl
      have hP93 : LLAre b9 [Value.ref t1, Value.ref D, Value.ref t2] P3 := by rw [hP3]; exact hP9
      have hPe : P3.getD (n.fmod 2 * 2).toNat [] = paintI tot (n.fmod 2 * 2) := by rw [hP3, hP0, hP1, hP2]; exact paints_at (by omega) (by omega)
      have hPl : (P3.getD (n.fmod 2 * 2).toNat []).length = 3 := by rw [hPe]; exact paintI_len _ _
      have hel : List.map (fun k' => k' * ((n.fdiv 2).fmod 12 + 1)) (P3.getD (n.fmod 2 * 2).toNat []) = lightI tot [n.fmod 2 * 2, (n.fdiv 2).fmod 12 + 1] := by rw [hPe]; rfl
      dsimp only at hA hB hC hAl hBl hCl hoff F1 N1
      dsimp only [kstB] at F1
      (try dsimp only)
      (try k_fold)
      k_steps
      · rename (_ = ((List.count _ _ : Nat) : Int)) => e2
        rw [hel] at e2
        rename IntsAre _ (List.map _ _) => I9
        rw [hel] at I9
        refine' turn_end (RowsSt.mk _ _ _ _ _ _ ((_, _) :: lits)) (by assumption) (by assumption) ?tn ?tr ?tI ?ts ?to ?tj
        case ts => (dsimp only [List.cons_append]; kcf_all)
        case tn => exact fun p hp => nomatch hp
        case tr => ksw_same
        case tI => kcf_m
        case to => exact List.forall_mem_cons.mpr ⟨hIl, List.forall_mem_cons.mpr ⟨hIa, List.forall_mem_cons.mpr ⟨hIb, List.forall_mem_cons.mpr ⟨hoff _ (.tail _ (.tail _ (.tail _ (.head _)))), List.forall_mem_cons.mpr ⟨hoff _ (.tail _ (.tail _ (.tail _ (.tail _ (.head _))))), List.forall_mem_cons.mpr ⟨hoff _ (.tail _ (.tail _ (.tail _ (.tail _ (.tail _ (.head _)))))), List.forall_mem_cons.mpr ⟨hoff _ (.tail _ (.tail _ (.tail _ (.tail _ (.tail _ (.tail _ (.head _))))))), List.forall_mem_cons.mpr ⟨hoff _ (.tail _ (.tail _ (.tail _ (.tail _ (.tail _ (.tail _ (.tail _ (.head _)))))))), List.forall_mem_cons.mpr ⟨by k_ne, fun p hp => hoff p (.tail _ (.tail _ (.tail _ (.tail _ (.tail _ (.tail _ (.tail _ (.tail _ (hp)))))))))⟩⟩⟩⟩⟩⟩⟩⟩⟩
        case tj =>
          dsimp only
          rw [hstep, rowsStep, if_pos (by omega), if_pos (by assumption), if_pos (by assumption), List.map_append]
          exact ⟨(hA.mono (fun p hp => .tail _ hp)).append (LLAre.one (LIs.mk (.head _) I9)), IntsAre.append hB (.cons _ _ .nil), hC, List.forall_mem_cons.mpr ⟨by k_ne, g1⟩, List.forall_mem_cons.mpr ⟨by k_ne, g2⟩, List.forall_mem_cons.mpr ⟨by k_ne, g3⟩, List.forall_mem_cons.mpr ⟨by k_ne, g4⟩⟩
      · rename (_ = ((List.count _ _ : Nat) : Int)) => e2
        rw [hel] at e2
        rename IntsAre _ (List.map _ _) => I9
        rw [hel] at I9
        refine' turn_end (RowsSt.mk _ _ _ _ _ _ ((_, _) :: lits)) (by assumption) (by assumption) ?tn ?tr ?tI ?ts ?to ?tj
        case ts => (dsimp only [List.cons_append]; kcf_all)
        case tn => exact fun p hp => nomatch hp
        case tr => ksw_same
        case tI => kcf_m
        case to => exact List.forall_mem_cons.mpr ⟨hIl, List.forall_mem_cons.mpr ⟨hIa, List.forall_mem_cons.mpr ⟨hIb, List.forall_mem_cons.mpr ⟨hoff _ (.tail _ (.tail _ (.tail _ (.head _)))), List.forall_mem_cons.mpr ⟨hoff _ (.tail _ (.tail _ (.tail _ (.tail _ (.head _))))), List.forall_mem_cons.mpr ⟨hoff _ (.tail _ (.tail _ (.tail _ (.tail _ (.tail _ (.head _)))))), List.forall_mem_cons.mpr ⟨hoff _ (.tail _ (.tail _ (.tail _ (.tail _ (.tail _ (.tail _ (.head _))))))), List.forall_mem_cons.mpr ⟨hoff _ (.tail _ (.tail _ (.tail _ (.tail _ (.tail _ (.tail _ (.tail _ (.head _)))))))), List.forall_mem_cons.mpr ⟨by k_ne, fun p hp => hoff p (.tail _ (.tail _ (.tail _ (.tail _ (.tail _ (.tail _ (.tail _ (.tail _ (hp)))))))))⟩⟩⟩⟩⟩⟩⟩⟩⟩
        case tj =>
          dsimp only
          rw [hstep, rowsStep, if_pos (by omega), if_neg (by omega), if_neg (by omega), List.map_append]
          exact ⟨(hA.mono (fun p hp => .tail _ hp)).append (LLAre.one (LIs.mk (.head _) I9)), hB, IntsAre.append hC (.cons _ _ .nil), List.forall_mem_cons.mpr ⟨by k_ne, g1⟩, List.forall_mem_cons.mpr ⟨by k_ne, g2⟩, List.forall_mem_cons.mpr ⟨by k_ne, g3⟩, List.forall_mem_cons.mpr ⟨by k_ne, g4⟩⟩
      · rename (_ = ((List.count _ _ : Nat) : Int)) => e2
        rw [hel] at e2
        refine' turn_end (RowsSt.mk lv ln av an bv bn lits) (by assumption) (by assumption) ?tn ?tr ?tI ?ts ?to ?tj
        case ts => kcf_all
        case tn => exact fun p hp => nomatch hp
        case tr => ksw_same
        case tI => kcf_m
        case to => exact hoff
        case tj =>
          dsimp only
          rw [hstep, rowsStep, if_neg (by omega)]
          exact ⟨hA, hB, hC, g1, g2, g3, g4⟩
--]]
    case done =>
      rintro ⟨lv, ln, av, an, bv, bn, lits⟩ u h tk ⟨hA, hB, hC, g1, g2, g3, g4⟩ hle F1 N1
      rw [Iq7.length, List.take_length] at hA hB hC
      dsimp only [kstB] at F1
      dsimp only at hA hB hC g1 g2 g3 g4 N1
      obtain ⟨w9, hw9⟩ : ∃ x, x = lits ++ b9 := ⟨_, rfl⟩
      replace hA : LLAre w9 lv _ := hA.mono (fun p hp => by rw [hw9]; exact List.mem_append_left _ hp)
      have hP : LLAre w9 [Value.ref t1, Value.ref D, Value.ref t2] [paintI tot 0, paintI tot 1, paintI tot 2] := by rw [← hP0, ← hP1, ← hP2]; exact hP9.mono (fun p hp => by rw [hw9]; exact List.mem_append_right _ hp)
      have hq10 : (q, listOf ws.toArray nn) ∈ w9 := by rw [hw9]; exact List.mem_append_right _ hq9
      have hpl10 : (pl, listOf [Value.ref t1, Value.ref D, Value.ref t2].toArray 0) ∈ w9 := by rw [hw9]; exact List.mem_append_right _ hpl9
      have hrw10 : (rws, listOf [Value.ref ra, Value.ref rb].toArray 0) ∈ w9 := by rw [hw9]; exact List.mem_append_right _ hrw9
      have g4' : ∀ p ∈ w9, p.1 ≠ s1.heap.objs.size + 1 + 1 + 1 + 1 + 1 := by rw [hw9]; exact fun p hp => (List.mem_append.mp hp).elim (g4 p) (f9ki p)
      rw [← hw9] at N1
      have hrl := rowsAt_len tot (ms.take 7)
      rw [List.length_take] at hrl
      dsimp only at hle
      have tk1 : 1 ≤ tk := by omega
      (try dsimp only)
      (try k_fold)
      k_steps
      unfold Hold
      have okq := rows_pairs tot (ms.take 7)
      have okj := joined_pairs ht0 ht1 (by rw [List.length_take]; omega : (ms.take 7).length ≤ 7) (((ns.length : Int).fmod 2 == 1) : Bool)
      have hTl : ∀ b, (joinedI (rowsAt tot (ms.take 7)).1 b).length ≤ 30 := fun b => by have := joinedI_len (rowsAt tot (ms.take 7)).1 b; omega
      generalize (((ns.length : Int).fmod 2 == 1) : Bool) = left at *
      (with_reducible refine wpAny_with_toks (Nat.le_refl _) ?_)
      k_dflt (refine' joined_ok (cst := w9) ?k1 ?k2 ?k3 ?k4 ?k5 ?k6 ?k7 ?k8 ?j1 hA ?j2 ?j3 hP okq okj ?j4 ?j5 ht0 ht1 ?_; (case k1 => k_asm); (case k2 => k_asm); (case k3 => k_asm); (case k4 => k_asm); (case k5 => k_asm); (case k6 => first | exact rfl | assumption); (case k7 => ktr_room); (case k8 => ktr_units); (case j1 => exact .head _); (case j2 => exact ⟨fun p hp => .tail _ (.tail _ (.tail _ (.tail _ (.tail _ (.tail _ (.tail _ (.tail _ hp)))))))⟩); (case j3 => exact .tail _ (.tail _ (.tail _ (.tail _ (.tail _ (.tail _ (.tail _ (.tail _ hpl10)))))))); (case j4 => omega); (case j5 => ((try dsimp only); omega)); k_whole)
      intro jn jv nj led0 h3 tk3 hJn F3 N3 tl3
      dsimp only at tl3
      obtain ⟨led, hJl, hsub, hlst⟩ := hJn.trim
      have N4 := news_mid (pre := [_, _, _, _, _, _, _, _]) N3 hsub
      simp only [List.cons_append, List.nil_append] at N4
      clear N3 hJn
      have g5 : ∀ p ∈ led ++ w9, p.1 ≠ s1.heap.objs.size + 1 + 1 + 1 + 1 + 1 := fun p hp => (List.mem_append.mp hp).elim (fun hp => by
        obtain ⟨x9, n9, e9⟩ := hlst p hp
        have hp9 : (p.1, listOf x9 n9) ∈ led := by rw [← e9]; exact hp
        exact news_ne N4 (.tail _ (.tail _ (.tail _ (.tail _ (.tail _ (.tail _ (.tail _ (.tail _ (.tail _ (List.mem_append_left _ hp9)))))))))) (.tail _ (.tail _ (.tail _ (.tail _ (.head _))))) (by rw [dd5]; exact fun e => nomatch e)) (g4' p)
      have hjn5 : @Ne Nat jn (s1.heap.objs.size + 1 + 1 + 1 + 1 + 1) := news_ne N4 (.head _) (.tail _ (.tail _ (.tail _ (.tail _ (.head _))))) (by rw [dd5]; exact fun e => nomatch e)
      obtain ⟨w10, hw10⟩ : ∃ x, x = led ++ w9 := ⟨_, rfl⟩
      have hJl' : LLAre w10 jv _ := hJl.mono (fun p hp => by rw [hw10]; exact List.mem_append_left _ hp)
      have hP' : LLAre w10 [Value.ref t1, Value.ref D, Value.ref t2] [paintI tot 0, paintI tot 1, paintI tot 2] := hP.mono (fun p hp => by rw [hw10]; exact List.mem_append_right _ hp)
      have hq11 : (q, listOf ws.toArray nn) ∈ w10 := by rw [hw10]; exact List.mem_append_right _ hq10
      have hpl11 : (pl, listOf [Value.ref t1, Value.ref D, Value.ref t2].toArray 0) ∈ w10 := by rw [hw10]; exact List.mem_append_right _ hpl10
      have hrw11 : (rws, listOf [Value.ref ra, Value.ref rb].toArray 0) ∈ w10 := by rw [hw10]; exact List.mem_append_right _ hrw10
      rw [← hw10] at N4 g5
      clear hA hP hq10 hpl10 hrw10 g1 g2 g3 g4 g4' hJl hsub hlst
      obtain ⟨J, hJe⟩ : ∃ x, x = joinedI (rowsAt tot (ms.take 7)).1 left := ⟨_, rfl⟩
      have hJ30 := hTl left
      rw [← hJe] at hJl' okj hJ30
      have hjl := hJl'.length
      rw [List.length_map] at hjl
      k_steps
      unfold Hold
      k_dflt (refine listComp_S (by k_asm) (by rfl) (by with_unfolding_all rfl) (by with_unfolding_all rfl) (by decide) (by rfl) (by decide) (by rfl) (by rfl) (by rfl) ?_)
      k_steps
      k_dflt (refine' compIn_list (σ := List (Addr × Obj)) (fun c => (jn, listOf jv.toArray nj) :: (li, listOf lv.toArray ln) :: (ra, listOf av.toArray an) :: (rb, listOf bv.toArray bn) :: (s1.heap.objs.size + 1 + 1 + 1 + 1 + 1, c5) :: (s1.heap.objs.size + 1 + 1 + 1 + 1, c4') :: (s1.heap.objs.size + 1 + 1 + 1, o3) :: (s1.heap.objs.size + 1 + 1, o2) :: (s1.heap.objs.size + 1, ot) :: (c ++ w10)) (fun i tk ys c => LLT c tk ys (J.take i) ∧ (∀ p ∈ c, p.1 ≠ s1.heap.objs.size + 1 + 1 + 1 + 1 + 1) ∧ 1 ≤ tk) [] rfl ?F ?N (fun _ _ _ _ _ le h => ⟨h.1.mono (fun _ h => h) le, h.2.1, Nat.le_trans h.2.2 le⟩) ⟨.nil, (fun p hp => nomatch hp), ?tk0⟩ ?hz ?hl ?turn ?fin; (case F => assumption); (case N => exact news_sub (by assumption) (by kcf_all)))
      case tk0 => ((try dsimp only); omega)
      case hl => exact fun _ _ _ _ _ => .head _
      case hz => exact room_of (by omega)
      case turn =>
--[[
        intro I C D c i v ys h tk oI oC m₂ E' hIC hID hCD hv hJ hle hoC hm hap F1 N1
        refine Classical.byContradiction fun ng9 => ?_
        obtain ⟨a', ws', n', r, rfl, hm', hn, hi'⟩ := hJl'.at hv
        obtain ⟨q, hq, rfl⟩ := row_of_map hn
        have okq' := okj q (List.mem_of_getElem? hq)
        have hq2 := okq'.two
        have hSw : Sub w10 (c ++ w10) := ⟨fun p hp => List.mem_append_right _ hp⟩
        obtain ⟨hJ1, hJ2, hJ4⟩ := hJ
        refine ng9 ?_; clear ng9
        dsimp only at hle
        k_steps
        rename_i l5
        exact elt_end ((_, _) :: c) (by assumption) (by assumption) (by kcf_m) (by kcf_m) (by kcf_m) (by dsimp only [List.cons_append]; kcf_all) (apart3_mid (pre := [_, _, _, _, _, _, _, _, _]) hap ⟨by k_ne, by k_ne, by k_ne⟩) ⟨by rw [List.take_add_one, hq]; exact LLT.append (hJ1.mono (fun p hp => .tail _ hp) (by omega)) (LLT.one (.head _) (ints_pair hq2) (ToksB.cons (tok_ok (by assumption) (by omega)) (ToksB.cons (tok_ok (by assumption) (by omega)) ToksB.nil))), List.forall_mem_cons.mpr ⟨by k_ne, hJ2⟩, by omega⟩
--]]
      case fin =>
        intro D5 c ys5 h tk hJ hle hoff F1 N1
        obtain ⟨hJ1, hJ2, hJ4⟩ := hJ
        rw [List.take_of_length_le (by omega)] at hJ1
        dsimp only at hle
        have hm2 : Marked 2 := trivial
        have hD5 : @Ne Nat (s1.heap.objs.size + 1 + 1 + 1 + 1 + 1) D5 := hoff _ (.tail _ (.tail _ (.tail _ (.tail _ (.head _)))))
        have g6 : ∀ p ∈ c ++ w10, p.1 ≠ s1.heap.objs.size + 1 + 1 + 1 + 1 + 1 := fun p hp => (List.mem_append.mp hp).elim (hJ2 p) (g5 p)
        obtain ⟨w11, hw11⟩ : ∃ x, x = c ++ w10 := ⟨_, rfl⟩
        have hS10 : Sub w10 w11 := ⟨fun p hp => by rw [hw11]; exact List.mem_append_right _ hp⟩
        replace hJ1 : LLT w11 tk ys5 J := hJ1.mono (fun p hp => by rw [hw11]; exact List.mem_append_left _ hp) (Nat.le_refl _)
        have hLy := hJ1.ll.length
        rw [← hw11] at g6 N1
        k_steps
        clear hm2
        unfold Hold
        k_dflt (refine listComp_V (by k_asm) (by rfl) (by decide) (by rfl) (by decide) (by rfl) ?_)
        k_steps
        k_dflt (refine' compIn_list (σ := Unit) (fun _ => (D5, LCg.lst ys5) :: (jn, listOf jv.toArray nj) :: (li, listOf lv.toArray ln) :: (ra, listOf av.toArray an) :: (rb, listOf bv.toArray bn) :: (s1.heap.objs.size + 1 + 1 + 1 + 1 + 1, c5) :: (s1.heap.objs.size + 1 + 1 + 1 + 1, c4') :: (s1.heap.objs.size + 1 + 1 + 1, o3) :: (s1.heap.objs.size + 1 + 1, o2) :: (s1.heap.objs.size + 1, ot) :: w11) (fun i tk ys _ => IntsAre ys ((J.map fun r => r.getD 0 0).take i) ∧ ToksB tk ys) () rfl ?F ?N (fun _ _ _ _ _ le h => ⟨h.1, h.2.mono le⟩) ⟨.nil, ToksB.nil⟩ ?hz ?hl ?turn ?fin; (case F => assumption); (case N => exact news_sub (by assumption) (by kcf_all)))
        case hl => exact fun _ _ _ _ _ => .head _
        case hz => exact room_of (by omega)
        case turn =>
--[[
          intro I C D c i v ys h tk oI oC m₂ E' hIC hID hCD hv hJ hle hoC hm hap F1 N1
          refine Classical.byContradiction fun ng9 => ?_
          obtain ⟨a', ws', n', r, rfl, hm', hn, hi', ht'⟩ := hJ1.at hv
          obtain ⟨x, y, rfl⟩ := two_of ((okj r (List.mem_of_getElem? hn)).two)
          obtain ⟨t1, t2, rfl⟩ := ints_two hi'
          refine ng9 ?_; clear ng9
          dsimp only at hle
          clear hi'
          k_steps
          exact elt_end () (by assumption) (by assumption) (by kcf_m) (by kcf_m) (by kcf_m) (by kcf_all) hap ⟨by rw [List.take_add_one, List.getElem?_map, hn]; exact IntsAre.append hJ.1 (.cons _ _ .nil), ToksB.append (hJ.2.mono (by (try dsimp only); omega)) (ToksB.cons ((ht' _ (.head _)).mono (by (try dsimp only); omega)) ToksB.nil)⟩
--]]
        case fin =>
          intro D6 c ys6 h tk hJ hle hoff F1 N1
          have hof6 := off1_of hoff
          simp only [LCg.Off1, and_true] at hof6
          obtain ⟨hK1, hK2⟩ := hJ
          rw [List.take_of_length_le (by rw [List.length_map, hLy]; exact Nat.le_refl _)] at hK1
          have g7 : ∀ p ∈ w11, p.1 ≠ D6 := fun p hp => hoff p (.tail _ (.tail _ (.tail _ (.tail _ (.tail _ (.tail _ (.tail _ (.tail _ (.tail _ (.tail _ hp))))))))))
          have hrw12 : (rws, listOf [Value.ref ra, Value.ref rb].toArray 0) ∈ w11 := hS10.of _ hrw11
          have hq12 : (q, listOf ws.toArray nn) ∈ w11 := hS10.of _ hq11
          have hpl12 := hS10.of _ hpl11
          dsimp only at hle
          k_steps
          rename_i _ ck F5 N5 dk _ _ _ F6 N6 tl6
          unfold Hold
          k_dflt (refine listComp_V (by k_asm) (by rfl) (by decide) (by rfl) (by decide) (by rfl) ?_)
          k_steps
          k_dflt (refine' compIn_list (σ := Unit) (fun _ => (D6, LCg.lst ys6) :: (D5, LCg.lst ys5) :: (jn, listOf jv.toArray nj) :: (li, listOf lv.toArray ln) :: (ra, listOf av.toArray an) :: (rb, listOf bv.toArray bn) :: (s1.heap.objs.size + 1 + 1 + 1 + 1 + 1, ck) :: (s1.heap.objs.size + 1 + 1 + 1 + 1, c4') :: (s1.heap.objs.size + 1 + 1 + 1, o3) :: (s1.heap.objs.size + 1 + 1, o2) :: (s1.heap.objs.size + 1, ot) :: w11) (fun i tk ys _ => IntsAre ys ((J.map fun r => r.getD 1 0).take i)) () rfl ?F ?N (fun _ _ _ _ _ le h => h) .nil ?hz ?hl ?turn ?fin; (case F => assumption); (case N => exact news_sub (by assumption) (by kcf_all)))
          case hl => exact fun _ _ _ _ _ => .tail _ (.head _)
          case hz => exact room_of (by omega)
          case turn =>
--[[
            intro I C D c i v ys h tk oI oC m₂ E' hIC hID hCD hv hJ hle hoC hm hap F1 N1
            refine Classical.byContradiction fun ng9 => ?_
            obtain ⟨a', ws', n', r, rfl, hm', hn, hi', ht'⟩ := hJ1.at hv
            obtain ⟨x, y, rfl⟩ := two_of ((okj r (List.mem_of_getElem? hn)).two)
            obtain ⟨t1, t2, rfl⟩ := ints_two hi'
            refine ng9 ?_; clear ng9
            dsimp only at hle
            clear hi'
            k_steps
            exact elt_end () (by assumption) (by assumption) (by kcf_m) (by kcf_m) (by kcf_m) (by kcf_all) hap (by rw [List.take_add_one, List.getElem?_map, hn]; exact IntsAre.append hJ (.cons _ _ .nil))
--]]
          case fin =>
            intro D7 c ys7 h tk hJ hle hoff F1 N1
            rw [List.take_of_length_le (by rw [List.length_map, hLy]; exact Nat.le_refl _)] at hJ
            have hM1 := hJ1.ll
            have hS11 : Sub w11 w11 := ⟨fun _ h => h⟩
            have hJ2 : ∀ r ∈ J, r.length = 2 := fun r hr => (okj r hr).two
            refine Classical.byContradiction fun ng9 => ?_
            obtain ⟨as, has⟩ : ∃ x, x = (rowsAt tot (ms.take 7)).2.1 := ⟨_, rfl⟩
            obtain ⟨bs, hbs⟩ : ∃ x, x = (rowsAt tot (ms.take 7)).2.2 := ⟨_, rfl⟩
            obtain ⟨sz, hsz⟩ : ∃ x, x = J.map fun r => r.getD 1 0 := ⟨_, rfl⟩
            obtain ⟨kn, hkn⟩ : ∃ x, x = J.map fun r => r.getD 0 0 := ⟨_, rfl⟩
            refine ng9 ?_; clear ng9
            rw [← has] at hB hrl
            rw [← hbs] at hC hrl
            rw [← hsz] at hJ
            rw [← hkn] at hK1
            have hgap : gapsI 1 0 J = true := by rw [hJe]; exact law_gaps ht0 ht1 _ _
            have hsum : as.sum - sz.sum + bs.sum = 0 := by rw [has, hbs, hsz, hJe]; exact law_sum ht0 ht1 _ _
            have hbb : bs.sum.natAbs ≤ 100000 := by rw [hbs]; exact law_bs ht0 ht1 (by rw [List.length_take]; omega)
            rw [← has]
            dsimp only at hle
            k_steps
            unfold Hold
            have hcnt0 : ((kn.count 0 : Nat) : Int) + ((kn.count 1 : Nat) : Int) = as.length := by rw [hkn, has, hJe]; exact law_cnt0 ht0 ht1 _ _
            have hcnt2 : ((kn.count 2 : Nat) : Int) + ((kn.count 1 : Nat) : Int) = bs.length := by rw [hkn, hbs, hJe]; exact law_cnt2 ht0 ht1 _ _
            k_dflt (refine listComp_V (by k_asm) (by rfl) (by decide) (by rfl) (by decide) (by rfl) ?_)
            k_steps
            rename_i hR9 _ _ _ _
            k_dflt (refine' compIn_range (n := 2) (σ := Unit) (fun _ => (D6, listOf ys6.toArray ys6.length) :: (D5, LCg.lst ys5) :: (jn, listOf jv.toArray nj) :: (li, listOf lv.toArray ln) :: (ra, listOf av.toArray an) :: (rb, listOf bv.toArray bn) :: (s1.heap.objs.size + 1 + 1 + 1 + 1 + 1, ck) :: (s1.heap.objs.size + 1 + 1 + 1 + 1, c4') :: (s1.heap.objs.size + 1 + 1 + 1, o3) :: (s1.heap.objs.size + 1 + 1, o2) :: (s1.heap.objs.size + 1, ot) :: w11) (fun i tk ys _ => IntsAre ys (([as.length, bs.length] : List Int).take i)) () rfl ?F ?N (fun _ _ _ _ _ le h => h) .nil ?hz hR9 ?small ?size ?turn ?fin; (case F => assumption); (case N => exact news_sub (by assumption) (by kcf_all)))
            case hz => exact room_of (by omega)
            case small => exact small_one (by omega) (by omega) (by omega) (by omega)
            case size => rfl
            case turn =>
--[[
              intro I C D c i t ys h tk oI oC m₂ E' hIC hID hCD hv hJ hle hoC hm hap F1 N1
              rw [Int.zero_add] at hm
              have hsm : smallInt (2 * (i : Int)) = true := small_int (by omega) (by omega)
              have hcw : ((kn.count (2 * (i : Int)) : Nat) : Int) + ((kn.count 1 : Nat) : Int) = ([as.length, bs.length] : List Int).getD i 0 := by
                have : i = 0 ∨ i = 1 := by omega
                rcases this with rfl | rfl
                · exact hcnt0
                · exact hcnt2
              dsimp only at hle hJ
              k_steps
              exact elt_end () (by assumption) (by assumption) (by kcf_m) (by kcf_m) (by kcf_m) (by kcf_all) hap (by
                (rename (_ = ((List.count 1 _ : Nat) : Int)) => e7)
                (rename (_ = ((List.count (2 * _) _ : Nat) : Int)) => e8)
                subst e7 e8
                rw [hcw]
                have : i = 0 ∨ i = 1 := by omega
                rcases this with rfl | rfl
                · exact IntsAre.append hJ (.cons _ _ .nil)
                · exact IntsAre.append hJ (.cons _ _ .nil))
--]]
            case fin =>
              intro D8 c ys8 h tk hJ hle hoff F1 N1
              have hJ8 : IntsAre ys8 [(as.length : Int), (bs.length : Int)] := hJ
              clear hJ
              have hrv := hJl'.reverse
              dsimp only at hle
              k_steps
              rename_i _ _ _ tk8' hk8' Dr _ F8 N8 l8'
              unfold Hold
              have hrv' : LLAre w10 jv.reverse (J.reverse.map (lightI tot)) := by rw [List.map_reverse]; exact hrv
              have okr : ∀ q ∈ J.reverse, PairOk q := fun q hq => okj q (List.mem_reverse.mp hq)
              (with_reducible refine wpAny_with_toks (Nat.le_refl _) ?_)
              k_dflt (refine' parted_ok (cst := w10) (news := (Dr, listOf jv.reverse.toArray 0) :: (ra, listOf av.toArray an) :: (rb, listOf bv.toArray bn) :: (s1.heap.objs.size + 1 + 1 + 1 + 1 + 1, ck) :: (s1.heap.objs.size + 1 + 1 + 1 + 1, c4') :: (s1.heap.objs.size + 1 + 1 + 1, o3) :: (s1.heap.objs.size + 1 + 1, o2) :: (s1.heap.objs.size + 1, ot) :: w11) ?k1 ?k2 ?k3 ?k4 ?k5 ?k6 ?k7 ?k8 (.head _) hrv' ?j2 okr ?j4 ?j5 ht0 ht1 ?_; (case k1 => k_asm); (case k2 => k_asm); (case k3 => k_asm); (case k4 => exact news_sub N8 (by kcf_all)); (case k5 => k_asm); (case k6 => first | exact rfl | assumption); (case k7 => ktr_room); (case k8 => ktr_units); (case j2 => exact ⟨fun p hp => .tail _ (.tail _ (.tail _ (.tail _ (.tail _ (.tail _ (.tail _ (.tail _ (hS10.of p hp))))))))⟩); (case j4 => (rw [List.length_reverse]; omega)); (case j5 => ((try dsimp only); omega)); k_whole)
              intro tp p1 p2 v1 v2 m1 m2 h4 tk4 hv1 hv2 F4 N4 tl4
              dsimp only at tl4
              have hm4 : Marked 4 := trivial
              k_steps
              rename_i Da va sa _ _ ia ea pa oa ba pa0 la9 Db vb sb _ _ ib eb pb ob bb pb0 lb9 Du _ Fu Nu lu
              clear hm4
              unfold Hold
              have hpar : partedOf (partedRow J.reverse) = (sa, sb) := by rw [hJe]; exact law_parted ht0 ht1 (has ▸ pa) oa (hbs ▸ pb) ob
              rw [hpar] at hv1 hv2
              k_dflt (refine' pair_ne ?k1 ?m1 ?m2 ?m3 ?m4 ?m5 ?m6 hv1 hv2 ia ib rfl rfl ?k5 ?_; (case k1 => k_asm); (case m1 => kcf_m); (case m2 => kcf_m); (case m3 => kcf_m); (case m4 => kcf_m); (case m5 => kcf_m); (case m6 => kcf_m); (case k5 => units_room); k_whole)
              k_steps
              rename_i tk5 hk5 Dd vd _ Fd Nd Id _ hld ld
              unfold Hold
              (with_reducible refine wpAny_with_toks (Nat.le_refl _) ?_)
              k_dflt (refine' drawn_ok (news := (Dd, listOf vd.toArray 0) :: (s1.heap.objs.size + 1 + 1 + 1 + 1 + 1, ck) :: (s1.heap.objs.size + 1 + 1 + 1 + 1, c4') :: (s1.heap.objs.size + 1 + 1 + 1, o3) :: (s1.heap.objs.size + 1 + 1, o2) :: (s1.heap.objs.size + 1, ot) :: w11) ?k1 ?k2 ?k3 ?k4 ?k5 ?k6 ?k7 ?k8 (.head _) Id ?j1 ?_; (case k1 => k_asm); (case k2 => k_asm); (case k3 => k_asm); (case k4 => exact news_sub Nd (by kcf_all)); (case k5 => k_asm); (case k6 => first | exact rfl | assumption); (case k7 => ktr_room); (case k8 => ktr_units); (case j1 => omega); k_whole)
              intro dn vn nn5 led0 h5 tk6 hDn F5' N5' tl5
              dsimp only at tl5
              obtain ⟨led, hDl, hsub, hlst⟩ := hDn.trim
              have N6' := news_mid (pre := [_, _, _, _, _, _]) N5' hsub
              simp only [List.cons_append, List.nil_append] at N6'
              clear N5' hDn hlst hsub
              obtain ⟨w12, hw12⟩ : ∃ x, x = led ++ w11 := ⟨_, rfl⟩
              have hDl' : LLAre w12 vn (drawnI (ms.drop 7)) := hDl.mono (fun p hp => by rw [hw12]; exact List.mem_append_left _ hp)
              have hP12 : LLAre w12 [Value.ref t1, Value.ref D, Value.ref t2] [paintI tot 0, paintI tot 1, paintI tot 2] := hP'.mono (fun p hp => by rw [hw12]; exact List.mem_append_right _ (hS10.of p hp))
              have hpl13 : (pl, listOf [Value.ref t1, Value.ref D, Value.ref t2].toArray 0) ∈ w12 := by rw [hw12]; exact List.mem_append_right _ hpl12
              rw [← hw12] at N6'
              replace N6' := news_sub (n2 := (dn, listOf vn.toArray nn5) :: (s1.heap.objs.size + 1 + 1 + 1 + 1 + 1, ck) :: (s1.heap.objs.size + 1 + 1 + 1 + 1, c4') :: (s1.heap.objs.size + 1 + 1 + 1, o3) :: (s1.heap.objs.size + 1 + 1, o2) :: (s1.heap.objs.size + 1, ot) :: w12) N6' (by kcf_all)
              clear hDl
              obtain ⟨DR, hDR⟩ : ∃ x, x = drawnI (ms.drop 7) := ⟨_, rfl⟩
              rw [← hDR] at hDl'
              have hDok : ∀ q ∈ DR, PairOk q := by rw [hDR]; exact drawn_pairs (by rw [List.length_drop]; omega)
              have hDlen : DR.length ≤ 5 := by rw [hDR]; exact drawn_len (by rw [List.length_drop]; omega)
              k_steps
              unfold Hold
              k_dflt (refine listComp_P (by k_asm) (by rfl) (by decide) (by rfl) (by decide) (by rfl) (by rfl) (by decide) ?_)
              k_steps
              have hvnl := hDl'.length
              k_dflt (refine' compInP_list (σ := List (Addr × Obj)) (fun c => (dn, listOf vn.toArray nn5) :: (s1.heap.objs.size + 1 + 1 + 1 + 1 + 1, ck) :: (s1.heap.objs.size + 1 + 1 + 1 + 1, c4') :: (s1.heap.objs.size + 1 + 1 + 1, o3) :: (s1.heap.objs.size + 1 + 1, o2) :: (s1.heap.objs.size + 1, ot) :: (c ++ w12)) (fun i tk ys c => LLAre c ys ((DR.take i).map (lightI tot))) [] rfl ?F ?N (fun _ _ _ _ _ _ h => h) .nil ?hz ?hl ?hpair ?turn ?fin; (case F => assumption); (case N => exact news_sub (by assumption) (by kcf_all)))
              case hl => exact fun _ _ _ _ _ => .head _
              case hz => exact room_of (by omega)
              case hpair =>
                intro i v tk ys c hv hJ
                obtain ⟨a', ws', n', r, rfl, hm', hn, hi'⟩ := hDl'.at hv
                obtain ⟨x, y, rfl⟩ := two_of (hDok r (List.mem_of_getElem? hn)).two
                obtain ⟨t1, t2, rfl⟩ := ints_two hi'
                exact ⟨a', _, _, n', rfl, (.tail _ (.tail _ (.tail _ (.tail _ (.tail _ (.tail _ (List.mem_append_right _ hm')))))))⟩
              case turn =>
--[[
                intro I C D c i T9 x9 y9 nn9 ys h tk oI oC m₂ E' hIC hID hCD hv hTm hJ hle hoC hma hmb hap F1 N1
                refine Classical.byContradiction fun ng9 => ?_
                obtain ⟨a', ws', n', r, ea, hm', hn, hi'⟩ := hDl'.at hv
                cases ea
                have eW := list_same N1 (.tail _ (.tail _ (.tail _ hTm))) (.tail _ (.tail _ (.tail _ (.tail _ (.tail _ (.tail _ (.tail _ (.tail _ (.tail _ (List.mem_append_right _ hm'))))))))))
                have okr' := hDok r (List.mem_of_getElem? hn)
                obtain ⟨x, y, rfl⟩ := two_of okr'.two
                obtain ⟨tk1, tk2, rfl⟩ := ints_two hi'
                cases eW
                refine ng9 ?_; clear ng9
                have hx0 : 0 ≤ x := okr'.k0
                have hx2 : x ≤ 2 := okr'.k2
                have hy1 : 1 ≤ y := okr'.s1
                have hy2 : y ≤ 63 := okr'.s2
                obtain ⟨P3, hP3⟩ : ∃ x, x = [paintI tot 0, paintI tot 1, paintI tot 2] := ⟨_, rfl⟩
                have hP3l : P3.length = 3 := by rw [hP3]; rfl
                have hP93 := hP12
                rw [← hP3] at hP93
                have hPe : P3.getD x.toNat [] = paintI tot x := by rw [hP3]; exact paints_at hx0 hx2
                have hPl : (P3.getD x.toNat []).length = 3 := by rw [hPe]; exact paintI_len _ _
                have hel : List.map (fun k' => k' * y) (P3.getD x.toNat []) = lightI tot [x, y] := by rw [hPe]; rfl
                have hSw : Sub w12 (c ++ w12) := ⟨fun p hp => List.mem_append_right _ hp⟩
                dsimp only at hle hJ
                k_steps
                rename IntsAre _ (List.map _ _) => I9
                rw [hel] at I9
                exact elt_end ((_, _) :: c) (by assumption) (by assumption) (by kcf_m) (by kcf_m) (by kcf_m) (by dsimp only [List.cons_append]; kcf_all) (apart3_mid (pre := [_, _, _, _, _, _]) hap ⟨by k_ne, by k_ne, by k_ne⟩) (by rw [List.take_add_one, hn, List.map_append]; exact (hJ.mono (fun p hp => .tail _ hp)).append (LLAre.one (LIs.mk (.head _) I9)))
--]]
              case fin =>
                intro D9 c ys9 h tk hJ hle hoff F1 N1
                rw [hvnl, List.take_length] at hJ
                obtain ⟨w13, hw13⟩ : ∃ x, x = c ++ w12 := ⟨_, rfl⟩
                rw [← hw13] at N1 hoff
                have hJ9 : LLAre w13 ys9 (DR.map (lightI tot)) := hJ.mono (fun p hp => by rw [hw13]; exact List.mem_append_left _ hp)
                have hDl13 : LLAre w13 vn DR := hDl'.mono (fun p hp => by rw [hw13]; exact List.mem_append_right _ hp)
                have hP13 : LLAre w13 [Value.ref t1, Value.ref D, Value.ref t2] [paintI tot 0, paintI tot 1, paintI tot 2] := hP12.mono (fun p hp => by rw [hw13]; exact List.mem_append_right _ hp)
                have hpl14 : (pl, listOf [Value.ref t1, Value.ref D, Value.ref t2].toArray 0) ∈ w13 := by rw [hw13]; exact List.mem_append_right _ hpl13
                clear hw13 hJ
                dsimp only at hle
                k_steps
                unfold Hold
                (with_reducible refine wpAny_with_toks (Nat.le_refl _) ?_)
                k_dflt (refine' parted_ok (cst := w13) (news := (D9, listOf ys9.toArray ys9.length) :: (dn, listOf vn.toArray nn5) :: (s1.heap.objs.size + 1 + 1 + 1 + 1 + 1, ck) :: (s1.heap.objs.size + 1 + 1 + 1 + 1, c4') :: (s1.heap.objs.size + 1 + 1 + 1, o3) :: (s1.heap.objs.size + 1 + 1, o2) :: (s1.heap.objs.size + 1, ot) :: w13) ?k1 ?k2 ?k3 ?k4 ?k5 ?k6 ?k7 ?k8 (.head _) hJ9 ?j2 hDok ?j4 ?j5 ht0 ht1 ?_; (case k1 => k_asm); (case k2 => k_asm); (case k3 => k_asm); (case k4 => exact news_sub N1 (by kcf_all)); (case k5 => k_asm); (case k6 => first | exact rfl | assumption); (case k7 => ktr_room); (case k8 => ktr_units); (case j2 => exact ⟨fun p hp => .tail _ (.tail _ (.tail _ (.tail _ (.tail _ (.tail _ (.tail _ hp))))))⟩); (case j4 => omega); (case j5 => ((try dsimp only); omega)); k_whole)
                intro tq q1 q2 u1 u2 k1 k2 h14 tk14 hu1 hu2 F14 N14 tl14
                dsimp only at tl14
                refine Classical.byContradiction fun ng9 => ?_
                obtain ⟨A, B, hAB, upA, upB, hA, hB', lenA, lenB, hback⟩ := drawn_back (ns := ms.drop 7) (by rw [List.length_drop]; omega) left
                refine ng9 ?_; clear ng9
                rw [← hDR] at hAB hback
                rw [hAB] at hu1 hu2
                replace hu1 : IntsAre u1 A := hu1
                replace hu2 : IntsAre u2 B := hu2
                k_steps
                k_dflt (refine' set_N ?zq1h ?zq1F ?zq1N ?zq1m hu1 upA.nodup ?zq1b lenA ?_; (case zq1h => first | exact rfl | assumption); (case zq1F => k_asm); (case zq1N => k_asm); (case zq1m => kcf_m); (case zq1b => exact fun x hx => by have := hA x hx; omega))
                intro S1 o1 h21 tk21 F21 N21 l21 SI1
                k_steps
                k_dflt (refine' sorted_set ?zq2h ?zq2F ?zq2N ?zq2o SI1 hu1 ?zq2l ?_; (case zq2h => first | exact rfl | assumption); (case zq2F => k_asm); (case zq2N => k_asm); (case zq2o => exact (N21 _ (.head _)).1); (case zq2l => rw [hu1.length]; exact lenA))
                intro D1 w1 ns1 c1 h22 tk22 F22 N22 l22 iw1 pw1 ow1
                rw [sorted_eq pw1 ow1 upA.le] at iw1
                clear pw1 ow1 SI1 N21 F21
                k_steps
                k_dflt (refine' set_N ?zq3h ?zq3F ?zq3N ?zq3m hu2 upB.nodup ?zq3b lenB ?_; (case zq3h => first | exact rfl | assumption); (case zq3F => k_asm); (case zq3N => k_asm); (case zq3m => kcf_m); (case zq3b => exact fun x hx => by have := hB' x hx; omega))
                intro S2 o2' h23 tk23 F23 N23 l23 SI2
                k_steps
                k_dflt (refine' sorted_set ?zq4h ?zq4F ?zq4N ?zq4o SI2 hu2 ?zq4l ?_; (case zq4h => first | exact rfl | assumption); (case zq4F => k_asm); (case zq4N => k_asm); (case zq4o => exact (N23 _ (.head _)).1); (case zq4l => rw [hu2.length]; exact lenB))
                intro D2 w2 ns2 c2 h24 tk24 F24 N24 l24 iw2 pw2 ow2
                rw [sorted_eq pw2 ow2 upB.le] at iw2
                clear pw2 ow2 SI2 N23 F23
                k_steps
                rename_i tkc hkc
                have z1 : Keep (1 ≤ tkc) := ⟨by omega⟩
                have z2 : Keep (DR.length ≤ 5) := ⟨hDlen⟩
                have z3 : Keep (A.length ≤ 5) := ⟨lenA⟩
                have z4 : Keep (B.length ≤ 5) := ⟨lenB⟩
                have z5 : Keep (0 ≤ tot) := ⟨ht0⟩
                have z6 : Keep (tot < 768) := ⟨ht1⟩
                repeat (rename (@LE.le Nat _ _ _) => z9; clear z9)
                repeat (rename (@LT.lt Nat _ _ _) => z9; clear z9)
                repeat (rename (@Ne Nat _ _) => z9; clear z9)
                repeat (rename ((_ : Nat) < _ ∧ _) => z9; clear z9)
                repeat (rename (@Ne Nat _ _ ∧ _) => z9; clear z9)
                repeat (rename (∀ _, _ ∈ _ → _ ≠ _) => z9; clear z9)
                repeat (rename (∀ _, _ ∈ _ → @LT.lt Nat _ _ _) => z9; clear z9)
                repeat (rename (@LE.le Int _ _ _) => z9; clear z9)
                repeat (rename (@LT.lt Int _ _ _) => z9; clear z9)
                replace z1 := z1.out
                replace z2 := z2.out
                replace z3 := z3.out
                replace z4 := z4.out
                replace z5 := z5.out
                replace z6 := z6.out
                unfold Hold
                obtain ⟨wA, nA, hmA, hiA, wB, nB, hmB, hiB⟩ : ∃ wA nA, (t1, listOf wA.toArray nA) ∈ w13 ∧ IntsAre wA (paintI tot 0) ∧ ∃ wB nB, (t2, listOf wB.toArray nB) ∈ w13 ∧ IntsAre wB (paintI tot 2) := by
                  cases hP13 with
                  | cons ma ia h => cases h with
                    | cons _ _ h => cases h with
                      | cons mb ib _ => exact ⟨_, _, ma, ia, _, _, mb, ib⟩
                have hlA : (paintI tot 0).length = 3 := paintI_len _ _
                have hlB : (paintI tot 2).length = 3 := paintI_len _ _
                k_dflt (refine listComp_V (by k_asm) (by rfl) (by decide) (by rfl) (by decide) (by rfl) ?_)
                k_steps
                k_dflt (refine' compIn_list (σ := List (Addr × Obj)) (fun c => (q2, listOf u2.toArray k2) :: (q1, listOf u1.toArray k1) :: (dn, listOf vn.toArray nn5) :: (s1.heap.objs.size + 1 + 1 + 1 + 1 + 1, ck) :: (s1.heap.objs.size + 1 + 1 + 1 + 1, c4') :: (s1.heap.objs.size + 1 + 1 + 1, o3) :: (s1.heap.objs.size + 1 + 1, o2) :: (s1.heap.objs.size + 1, ot) :: (c ++ w13)) (fun i tk ys c => LLAre c ys (((B.take i).map fun y => [2, y]).map (lightI tot))) [] rfl ?F ?N (fun _ _ _ _ _ _ h => h) .nil ?hz ?hl ?turn ?fin; (case F => assumption); (case N => exact news_sub (by assumption) (by kcf_all)))
                case hl => exact fun _ _ _ _ _ => .head _
                case hz => exact room_of (by rw [hu2.length]; omega)
                case turn =>
--[[
                  intro I C D' c i v ys h tk oI oC m₂ E' hIC hID hCD hv hJ hle hoC hm hap F1 N1
                  obtain ⟨y, ty, rfl, hy⟩ := ints_at hu2 hv
                  have hyb := hB' y (List.mem_of_getElem? hy)
                  have hy1 : 1 ≤ y := hyb.1
                  have hy2 : y ≤ 63 := hyb.2
                  have hel : List.map (fun k' => k' * y) (paintI tot 2) = lightI tot [2, y] := rfl
                  have hSw : Sub w13 (c ++ w13) := ⟨fun p hp => List.mem_append_right _ hp⟩
                  dsimp only at hle hJ
                  k_steps
                  rename IntsAre _ (List.map _ _) => I9
                  rw [hel] at I9
                  exact elt_end ((_, _) :: c) (by assumption) (by assumption) (by kcf_m) (by kcf_m) (by kcf_m) (by dsimp only [List.cons_append]; kcf_all) (apart3_mid (pre := [_, _, _, _, _, _, _, _]) hap ⟨by k_ne, by k_ne, by k_ne⟩) (by rw [List.take_add_one, hy, List.map_append, List.map_append]; exact (hJ.mono (fun p hp => .tail _ hp)).append (LLAre.one (LIs.mk (.head _) I9)))
--]]
                case fin =>
                  intro D11 c ys11 h tk hJ hle hoff F1 N1
                  rw [hu2.length, List.take_length] at hJ
                  dsimp only at hle
                  obtain ⟨w14, hw14⟩ : ∃ x, x = c ++ w13 := ⟨_, rfl⟩
                  rw [← hw14] at N1 hoff
                  have hJ11 : LLAre w14 ys11 ((B.map fun y => [2, y]).map (lightI tot)) := hJ.mono (fun p hp => by rw [hw14]; exact List.mem_append_left _ hp)
                  have hS14 : ∀ p ∈ w13, p ∈ w14 := fun p hp => by rw [hw14]; exact List.mem_append_right _ hp
                  have hmA2 := hS14 _ hmA
                  clear hJ hw14 hmA hmB hiB
                  k_steps
                  unfold Hold
                  k_dflt (refine listComp_V (by k_asm) (by rfl) (by decide) (by rfl) (by decide) (by rfl) ?_)
                  k_steps
                  k_dflt (refine' compIn_list (σ := List (Addr × Obj)) (fun c => (q1, listOf u1.toArray k1) :: (D11, listOf ys11.toArray ys11.length) :: (dn, listOf vn.toArray nn5) :: (s1.heap.objs.size + 1 + 1 + 1 + 1 + 1, ck) :: (s1.heap.objs.size + 1 + 1 + 1 + 1, c4') :: (s1.heap.objs.size + 1 + 1 + 1, o3) :: (s1.heap.objs.size + 1 + 1, o2) :: (s1.heap.objs.size + 1, ot) :: (c ++ w14)) (fun i tk ys c => LLAre c ys (((A.take i).map fun y => [0, y]).map (lightI tot))) [] rfl ?F ?N (fun _ _ _ _ _ _ h => h) .nil ?hz ?hl ?turn ?fin; (case F => assumption); (case N => exact news_sub (by assumption) (by kcf_all)))
                  case hl => exact fun _ _ _ _ _ => .head _
                  case hz => exact room_of (by rw [hu1.length]; omega)
                  case turn =>
--[[
                    intro I C D' c i v ys h tk oI oC m₂ E' hIC hID hCD hv hJ hle hoC hm hap F1 N1
                    obtain ⟨y, ty, rfl, hy⟩ := ints_at hu1 hv
                    have hyb := hA y (List.mem_of_getElem? hy)
                    have hy1 : 1 ≤ y := hyb.1
                    have hy2 : y ≤ 63 := hyb.2
                    have hel : List.map (fun k' => k' * y) (paintI tot 0) = lightI tot [0, y] := rfl
                    have hSw : Sub w14 (c ++ w14) := ⟨fun p hp => List.mem_append_right _ hp⟩
                    have hSv : Sub w13 (c ++ w14) := ⟨fun p hp => List.mem_append_right _ (hS14 p hp)⟩
                    dsimp only at hle hJ
                    k_steps
                    rename IntsAre _ (List.map _ _) => I9
                    rw [hel] at I9
                    exact elt_end ((_, _) :: c) (by assumption) (by assumption) (by kcf_m) (by kcf_m) (by kcf_m) (by dsimp only [List.cons_append]; kcf_all) (apart3_mid (pre := [_, _, _, _, _, _, _, _]) hap ⟨by k_ne, by k_ne, by k_ne⟩) (by rw [List.take_add_one, hy, List.map_append, List.map_append]; exact (hJ.mono (fun p hp => .tail _ hp)).append (LLAre.one (LIs.mk (.head _) I9)))
--]]
                  case fin =>
                    intro D12 c ys12 h tk hJ hle hoff F1 N1
                    rw [hu1.length, List.take_length] at hJ
                    dsimp only at hle
                    obtain ⟨w15, hw15⟩ : ∃ x, x = c ++ w14 := ⟨_, rfl⟩
                    rw [← hw15] at N1 hoff
                    have hJ12 : LLAre w15 ys12 ((A.map fun y => [0, y]).map (lightI tot)) := hJ.mono (fun p hp => by rw [hw15]; exact List.mem_append_left _ hp)
                    have hS15 : ∀ p ∈ w14, p ∈ w15 := fun p hp => by rw [hw15]; exact List.mem_append_right _ hp
                    clear hJ hw15
                    k_steps
                    k_dflt (refine' kmk_add_lit (zs := ys11 ++ ys12) F1 N1 ?zq5a ?zq5b rfl ?_ ?zq5z; (case zq5a => exact ⟨_, (N1 _ (.tail _ (.tail _ (.head _)))).1, rfl, _, rfl⟩); (case zq5b => exact ⟨_, (N1 _ (.head _)).1, rfl, _, rfl⟩); (case zq5z => show ys11.length + ys12.length ≤ sizeLine; have e11 := hJ11.length; have e12 := hJ12.length; rw [List.length_map, List.length_map] at e11 e12; rw [sizeLine_eq]; omega))
                    intro D13 h31 F31 N31 l31
                    have hAp : LLAre w15 (ys11 ++ ys12) (((B.map fun y => [2, y]) ++ A.map fun x => [0, x]).map (lightI tot)) := by rw [List.map_append]; exact (hJ11.mono hS15).append hJ12
                    have hDl15 : LLAre w15 vn DR := hDl13.mono (fun p hp => hS15 p (hS14 p hp))
                    have hP15 : LLAre w15 [Value.ref t1, Value.ref D, Value.ref t2] [paintI tot 0, paintI tot 1, paintI tot 2] := hP13.mono (fun p hp => hS15 p (hS14 p hp))
                    have hpl15 : (pl, listOf [Value.ref t1, Value.ref D, Value.ref t2].toArray 0) ∈ w15 := hS15 _ (hS14 _ hpl14)
                    have tk13 : 1 ≤ tk := by omega
                    clear hJ11 hJ12 N1 F1 hoff
                    k_steps
                    unfold Hold
                    k_dflt (refine listComp_V (by k_asm) (by rfl) (by decide) (by rfl) (by decide) (by rfl) ?_)
                    k_steps
                    unfold Hold
                    have okA : ∀ q ∈ (B.map fun y => [2, y]) ++ A.map fun x => [0, x], PairOk q := fun q hq => by
                      rcases List.mem_append.mp hq with h9 | h9
                      · obtain ⟨y, hy, rfl⟩ := List.mem_map.mp h9
                        have := hB' y hy
                        exact ⟨rfl, (show (0 : Int) ≤ 2 by decide), (show (2 : Int) ≤ 2 by decide), this.1, this.2⟩
                      · obtain ⟨y, hy, rfl⟩ := List.mem_map.mp h9
                        have := hA y hy
                        exact ⟨rfl, (show (0 : Int) ≤ 0 by decide), (show (0 : Int) ≤ 2 by decide), this.1, this.2⟩
                    (with_reducible refine wpAny_with_toks (Nat.le_refl _) ?_)
                    k_dflt (refine' joined_ok (cst := w15) (news := (D13, listOf (ys11 ++ ys12).toArray 0) :: (dn, listOf vn.toArray nn5) :: (s1.heap.objs.size + 1 + 1 + 1 + 1 + 1, ck) :: (s1.heap.objs.size + 1 + 1 + 1 + 1, c4') :: (s1.heap.objs.size + 1 + 1 + 1, o3) :: (s1.heap.objs.size + 1 + 1, o2) :: (s1.heap.objs.size + 1, ot) :: w15) ?k1 ?k2 ?k3 ?k4 ?k5 ?k6 ?k7 ?k8 (.head _) hAp ?j2 ?j3 hP15 okA ?okj ?j4 ?j5 z5 z6 ?_; (case k1 => k_asm); (case k2 => k_asm); (case k3 => k_asm); (case k4 => exact news_sub (by assumption) (by kcf_all)); (case k5 => k_asm); (case k6 => first | exact rfl | assumption); (case k7 => ktr_room); (case k8 => ktr_units); (case j2 => exact ⟨fun p hp => .tail _ (.tail _ (.tail _ (.tail _ (.tail _ (.tail _ (.tail _ hp))))))⟩); (case j3 => exact .tail _ (.tail _ (.tail _ (.tail _ (.tail _ (.tail _ (.tail _ hpl15))))))); (case okj => rw [hback]; exact hDok); (case j4 => rw [List.length_append, List.length_map, List.length_map]; omega); (case j5 => ((try dsimp only); omega)); k_whole)
                    intro jn2 jv2 nj2 led2 h32 tk32 hJn2 F32 N32 tl32
                    rw [hback] at hJn2
                    dsimp only at tl32
                    obtain ⟨led3, hJl3, hsub3, hlst3⟩ := hJn2.trim
                    have N33 := news_mid (pre := [_, _, _, _, _, _, _]) N32 hsub3
                    simp only [List.cons_append, List.nil_append] at N33
                    clear N32 hJn2 hlst3 hsub3
                    obtain ⟨w16, hw16⟩ : ∃ x, x = led3 ++ w15 := ⟨_, rfl⟩
                    rw [← hw16] at N33
                    have hJ16 : LLAre w16 jv2 (DR.map (lightI tot)) := hJl3.mono (fun p hp => by rw [hw16]; exact List.mem_append_left _ hp)
                    have hDl16 : LLAre w16 vn DR := hDl15.mono (fun p hp => by rw [hw16]; exact List.mem_append_right _ hp)
                    clear hw16 hJl3
                    have hjl2 := hJ16.length
                    rw [List.length_map] at hjl2
                    have tk33 : 1 ≤ tk32 := by omega
                    k_dflt (refine' compIn_list (σ := List (Addr × Obj)) (fun c => (jn2, listOf jv2.toArray nj2) :: (dn, listOf vn.toArray nn5) :: (s1.heap.objs.size + 1 + 1 + 1 + 1 + 1, ck) :: (s1.heap.objs.size + 1 + 1 + 1 + 1, c4') :: (s1.heap.objs.size + 1 + 1 + 1, o3) :: (s1.heap.objs.size + 1 + 1, o2) :: (s1.heap.objs.size + 1, ot) :: (c ++ w16)) (fun i tk ys c => LLAre c ys (DR.take i) ∧ 1 ≤ tk) [] rfl ?F ?N (fun _ _ _ _ _ le h => ⟨h.1, Nat.le_trans h.2 le⟩) ⟨.nil, ?tk0⟩ ?hz ?hl ?turn ?fin; (case F => assumption); (case N => exact news_sub (by assumption) (by kcf_all)))
                    case tk0 => exact tk33
                    case hl => exact fun _ _ _ _ _ => .head _
                    case hz => exact room_of (by omega)
                    case turn =>
--[[
                      intro I C D' c i v ys h tk oI oC m₂ E' hIC hID hCD hv hJ hle hoC hm hap F1 N1
                      refine Classical.byContradiction fun ng9 => ?_
                      obtain ⟨a', ws', n', r, rfl, hm', hn, hi'⟩ := hJ16.at hv
                      obtain ⟨q, hq, rfl⟩ := row_of_map hn
                      have okq' := hDok q (List.mem_of_getElem? hq)
                      have hq2 := okq'.two
                      have hSw : Sub w16 (c ++ w16) := ⟨fun p hp => List.mem_append_right _ hp⟩
                      obtain ⟨hJ1, hJ4⟩ := hJ
                      refine ng9 ?_; clear ng9
                      dsimp only at hle
                      k_steps
                      rename_i l5
                      exact elt_end ((_, _) :: c) (by assumption) (by assumption) (by kcf_m) (by kcf_m) (by kcf_m) (by dsimp only [List.cons_append]; kcf_all) (apart3_mid (pre := [_, _, _, _, _, _, _]) hap ⟨by k_ne, by k_ne, by k_ne⟩) ⟨by rw [List.take_add_one, hq]; exact (hJ1.mono (fun p hp => .tail _ hp)).append (LLAre.one (LIs.mk (.head _) (ints_pair hq2))), by omega⟩
--]]
                    case fin =>
                      intro D14 c ys14 h tk hJ hle hoff F1 N1
                      rw [hjl2, List.take_length] at hJ
                      dsimp only at hle
                      have hm7 : Marked 7 := trivial
                      k_steps
                      clear hm7
                      unfold Hold
                      k_dflt (refine' ll_eq ?zq6N ?zq6a ?zq6b hJ.1 ?zq6sa hDl16 ?zq6sb ?zq6u ?_; (case zq6N => assumption); (case zq6a => exact .head _); (case zq6b => kcf_m); (case zq6sa => exact fun p hp => .tail _ (.tail _ (.tail _ (.tail _ (.tail _ (.tail _ (.tail _ (.tail _ (List.mem_append_left _ hp)))))))));  (case zq6sb => exact fun p hp => .tail _ (.tail _ (.tail _ (.tail _ (.tail _ (.tail _ (.tail _ (.tail _ (List.mem_append_right _ hp))))))))); (case zq6u => units_room); k_whole)
                      k_steps
end Claw

end Mine
set_option maxRecDepth 100000 in
set_option maxHeartbeats 8000000 in
theorem PySem.Challenge.cw_tc0005_01_holds : PySem.Challenge.rw_tc0005_01.Holds := by
  exact Mine.law_ok
