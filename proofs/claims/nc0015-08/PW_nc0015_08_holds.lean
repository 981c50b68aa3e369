import PyProof.Rows.All
import Wide.All
import OpenK.AllK
import Wide.FinOn
import Lean
import PySem.Challenge.RW_nc0015_08
open PySem PySem.W PyProof.Rows
set_option Elab.async false
set_option maxRecDepth 100000
set_option maxHeartbeats 8000000
set_option linter.unusedVariables false

namespace Mine
open_top hd for PySem.Challenge.rw_nc0015_08
end Mine

namespace Mine
open PySem.Calls PySem.Spec

/-- the ints that a range of n steps yields -/
def stepKs (a c : Int) (n : Nat) : List Int := (List.range n).map fun (i : Nat) => a + (i : Int) * c

structure FTurn (h₀ : Heap) (L : Addr) (m : PySem.Str → Option Value) (s₁ : Shared) (led : List (Addr × Obj)) (b v : Bool) (s₂ : Shared) : Prop where
  tells : v = b ∧ ∃ h' tk', s₂ = { s₁ with heap := h', toks := tk' } ∧ Fr h₀ L h' m ∧ News h₀ L h' led
theorem fturn_end {h₀ : Heap} {L : Addr} {m : PySem.Str → Option Value} {s₁ : Shared} {led : List (Addr × Obj)} {b v : Bool} {h' : Heap} {tk' : Nat} (e : v = b) (F : Fr h₀ L h' m) (N : News h₀ L h' led) :
    FTurn h₀ L m s₁ led b v { s₁ with heap := h', toks := tk' } := ⟨⟨e, h', tk', rfl, F, N⟩⟩

theorem ints_snoc {k : Int} {t : Tok} : ∀ {vs : List Value} {ns : List Int}, IntsAre vs ns → IntsAre (vs ++ [.int k t]) (ns ++ [k])
  | _, _, .nil => .cons k t .nil
  | _, _, .cons z u r => .cons z u (ints_snoc r)

section
variable {prog : Program} {w : World} {A : Around} {E : Value → Shared → Prop} {h₀ : Heap} {L : Addr} {m : PySem.Str → Option Value} {env : Env} {ct : Expr} {x : PySem.Str} {px pe : Pos} {scope : Scope} {cl : List (PySem.Str × Addr)} {s : Shared} {Fin : List Value → List (Addr × Obj) → Prop} {news : List (Addr × Obj)}

theorem filt_rest {n : Nat} {a c : Int} {P : Nat → Value → Prop} (hP : ∀ i v, P i v → ∃ t, v = .int (a + (i : Int) * c) t) (p : Int → Bool)
    (hk : scope.kind = .function) (hl : ∀ C, (compEnvC scope cl C env).kindOf x = some .local) (hd : (x == ("__debug__" : PySem.Str)) = false)
    (turn : ∀ (i : Nat) (k : Int) (t : Tok) (I : Addr) (oI : Obj) (C : Addr) (oC : Obj) (D : Addr) (m₂ : PySem.Str → Option Value) (ys : List Value) (h : Heap) (tk : Nat) (E' : Value → Shared → Prop), i < n → k = a + (i : Int) * c → LCg.NsObj oC m₂ → m₂ x = some (.int k t) → Fr h₀ L h m →
      News h₀ L h ((I, oI) :: (C, oC) :: (D, LCg.lst ys) :: news) →
      wpAny (model prog w) A (isTrue ct (compEnvC scope cl C env) (eval ct (compEnvC scope cl C env))) (FTurn h₀ L m { s with heap := h, toks := tk } ((I, oI) :: (C, oC) :: (D, LCg.lst ys) :: news) (p k)) E' { s with heap := h, toks := tk })
    (fin : ∀ ys, IntsAre ys ((stepKs a c n).filter p) → ys.length ≤ n → Fin ys news) :
    LCt.CompRestT prog w A h₀ L m env ct (.Name x pe) x scope cl s (fun _ => True) P Fin n 0 [] news := by
  have key : ∀ (j i : Nat) (ys : List Value), i + j = n → IntsAre ys ((stepKs a c i).filter p) → ys.length ≤ i → LCt.CompRestT prog w A h₀ L m env ct (.Name x pe) x scope cl s (fun _ => True) P Fin j i ys news := by
    intro j
    induction j with
    | zero =>
      intro i ys hi hy hle
      have e : i = n := by omega
      subst e
      exact LCt.CompRestT.zero (fin ys hy hle)
    | succ j ih =>
      intro i ys hi hy hle
      refine LCt.CompRestT.succ ?_
      intro v I oI C oC D m₂ h tk E' hv hC hx F N off ne
      obtain ⟨t, rfl⟩ := hP i v hv
      have hs : stepKs a c (i + 1) = stepKs a c i ++ [a + (i : Int) * c] := by
        simp [stepKs, List.range_succ]
      refine wpAny_mono (turn i _ t I oI C oC D m₂ ys h tk E' (by omega) rfl hC hx F N) (fun b s₂ hq => ?_) fun _ _ e => e
      obtain ⟨hb, h', tk', rfl, F', N'⟩ := hq.tells
      cases b with
      | true =>
        simp only [if_true]
        refine LCgL.ld_own N' (.tail _ (.head _)) hC hx ?_ hk (hl C) hd
        refine ⟨h', tk', news, rfl, F', N', off, trivial, ih (i + 1) _ (by omega) ?_ (by simp; omega)⟩
        rw [hs, List.filter_append]
        have e1 : [a + (i : Int) * c].filter p = [a + (i : Int) * c] := by simp [← hb]
        rw [e1]
        exact ints_snoc hy
      | false =>
        simp only [Bool.false_eq_true, if_false]
        refine ⟨h', tk', news, rfl, F', N', off, trivial, ih (i + 1) _ (by omega) ?_ (by omega)⟩
        rw [hs, List.filter_append]
        have e1 : [a + (i : Int) * c].filter p = [] := by simp [← hb]
        rw [e1, List.append_nil]
        exact hy
  exact key n 0 [] (by omega) (by simp [stepKs]; exact .nil) (by simp)

/-- the source of a comprehension over a range of any step -/
def FSrc (prog : Program) (w : World) (A : Around) (h₀ : Heap) (L : Addr) (m : PySem.Str → Option Value) (env : Env) (ct elt : Expr) (x : PySem.Str) (scope : Scope) (cl : List (PySem.Str × Addr)) (Q : Value → Shared → Prop) (xv : Value) (s₁ : Shared) : Prop :=
  ∃ r a b c t u v n news, xv = .ref r ∧ A.handled = none ∧ Fr h₀ L s₁.heap m ∧ News h₀ L s₁.heap news ∧ IsRange s₁.heap r a b c t u v ∧ Builtin.Range.small a b c = true ∧ Builtin.Range.rangeSize a b c = ((n : Nat) : Int) ∧ n ≤ sizeLine ∧
    ∀ s₂ : Shared, (∃ h, s₂ = { s₁ with heap := h }) → LCt.CompRestT prog w A h₀ L m env ct elt x scope cl s₂ (fun _ => True) (fun i v => ∃ t, v = .int (a + (i : Nat) * c) t) (LCg.FinE h₀ L m s₂ Q) n 0 [] news

theorem fsrc_of {elt : Expr} {Q : Value → Shared → Prop} {s₁ : Shared} {r : Addr} {a b c : Int} {t u v : Tok} {n : Nat}
    (hh : A.handled = none) (F : Fr h₀ L s₁.heap m) (N : News h₀ L s₁.heap news) (hr : IsRange s₁.heap r a b c t u v) (hsm : Builtin.Range.small a b c = true) (hn : Builtin.Range.rangeSize a b c = ((n : Nat) : Int)) (hsz : n ≤ sizeLine)
    (h : ∀ g, LCt.CompRestT prog w A h₀ L m env ct elt x scope cl { s₁ with heap := g } (fun _ => True) (fun i v => ∃ t, v = .int (a + (i : Nat) * c) t) (LCg.FinE h₀ L m { s₁ with heap := g } Q) n 0 [] news) :
    FSrc prog w A h₀ L m env ct elt x scope cl Q (.ref r) s₁ := ⟨r, a, b, c, t, u, v, n, news, rfl, hh, F, N, hr, hsm, hn, hsz, fun _ ⟨g, e⟩ => e ▸ h g⟩

theorem iter_still {I : Addr} {a c : Int} {n : Nat} (i : Nat) (h h' : Heap) (o : Obj) (nw : List (Addr × Obj)) (st : IsRangeIter h I (a + (i : Nat) * c) ((n : Int) - (i : Nat)) c) (e : h.get? I = some o) (e' : h'.get? I = some o)
    (k : ∀ b o, h₀.get? b = some o → h'.get? b = some o) (N : News h₀ L h' nw) (S : True) : IsRangeIter h' I (a + (i : Nat) * c) ((n : Int) - (i : Nat)) c := by
  have q : h.get? I = some _ := st
  show h'.get? I = some _
  rw [e', ← e]
  exact q

theorem comp_range {elt iter : Expr} {pos : Pos} {Q : Value → Shared → Prop} (F₀ : Fr h₀ L s.heap m)
    (hclos : closureFor scope env = pure cl) (hcell : ∀ y ∈ scope.names, y.2 ≠ .cell) (hkind : scope.kind = .function)
    (hnames : ∀ y ∈ scope.names, y.2 = .local → scope.names.lookup y.1 = some .local) (hx : scope.names.lookup x = some .local)
    (h : wpAny (model prog w) A (eval iter env) (FSrc prog w A h₀ L m env ct elt x scope cl Q) E s)
    (hs : ∀ x, foldedSetIterable iter env x = pure x := by intro _; rfl) :
    wpAny (model prog w) A (eval (.ListComp elt [⟨.Name x px, iter, [ct], 0⟩] scope pos) env) Q E s := by
  rw [eval_ListComp]
  refine wpAny_comprehension_free (use := none) rfl hs hclos hkind hnames (wpAny_mono h (fun xv s₁ h₁ => ?_) fun _ _ e => e)
  obtain ⟨r, a, b, c, t, u, v, n, news, rfl, hh, F, N, hr, hsm, hn, hsz, R⟩ := h₁
  refine wpAny_pyIter_range hr hsm ?_
  have up : ∀ (o : Obj) b o', s₁.heap.get? b = some o' → (s₁.heap.push o).get? b = some o' := fun o b o' e => Heap.get?_push_of_some _ e
  refine LCt.block_T (Walks.range hh s₁.heap.objs.size a c n) hsz (fun i h st => ⟨_, st⟩) iter_still hcell hkind hx ?_ (fun b hb => ?_)
    (F.keeps (up _)) (N.grown (up _)) (Nat.ne_of_lt F.ns.lt) (next_is_new F) (fun p hp => Nat.ne_of_lt (Heap.lt_size (N p hp).1)) trivial (R _ ⟨_, rfl⟩) ?_
  · show IsRangeIter _ _ _ _ _
    rw [hn]
    simpa using Heap.get?_push_size _ rfl
  · have e : b = s₁.heap.objs.size := List.mem_singleton.mp hb
    rw [e]
    exact (Heap.size_push _ _).symm ▸ Nat.lt_succ_self _
  · intro D C h tk m' ys news' F' N' o1 hns hC₀ hD₀ hCL hDL hCD offC fin
    refine ⟨m', hns, fun h'' hs'' => fin D h'' tk (F'.change hs'' hCL hC₀) (fun p hp => ⟨hs''.extBut _ _ ?_ (N' p hp).1, (N' p hp).2⟩) o1⟩
    rcases List.mem_cons.mp hp with rfl | hp
    · exact fun q => hCD q.symm
    · exact offC p hp
end

abbrev rangeObj (a b c : Int) (t u v : Tok) : Obj := { cls := .type "range", dict := none, data := .fields #[.int a t, .int b u, .int c v], slots := #[] }
structure MostMark : Prop where
theorem range_led {prog : Program} {w : World} {A : Around} {E : Value → Shared → Prop} {s : Shared} {h₀ : Heap} {L : Addr} {m : PySem.Str → Option Value} {Q : Value → Shared → Prop} {n : Int} {t : Tok} {news : List (Addr × Obj)} (F : Fr h₀ L s.heap m) (N : News h₀ L s.heap news)
    (h : ∀ r h' tk t₁ v₁, Fr h₀ L h' m → News h₀ L h' ((r, rangeObj 0 n 1 t₁ t v₁) :: news) → (∀ p ∈ news, p.1 < r) → Q (.ref r) { s with heap := h', toks := tk }) :
    wpAny (model prog w) A (call (.type "range") [.int n t]) Q E s :=
  call_range_1 (h _ _ _ _ _ (F.push _) (N.push F _) (fun p hp => Heap.lt_size (N p hp).1))
end Mine

namespace Mine
open PySem.Builtin PySem.Builtin.Str

/-- the signs of a text as a list -/
abbrev sg (x : PySem.Str) : List Nat := x.cps.toList
theorem sg_len (x : PySem.Str) : (sg x).length = x.length := by
  show x.cps.toList.length = x.cps.size
  simp
theorem sg_ext {x y : PySem.Str} (h : sg x = sg y) : x = y := by
  cases x; cases y
  simp only [sg] at h
  congr
  exact Array.toList_inj.mp h
theorem beq_sg (x y : PySem.Str) : (x == y) = (sg x == sg y) := by
  rw [Bool.eq_iff_iff]
  simp only [beq_iff_eq]
  exact ⟨fun h => by rw [h], sg_ext⟩

theorem slice_idx (l u : Option Int) (n : Nat) : strSliceIndices l u 1 n = (List.range (kms_hi u n - kms_lo l n)).map (fun k => kms_lo l n + k) := by
  have key : ∀ (a b : Nat), sliceRange (a : Int) (b : Int) 1 = (List.range (b - a)).map (fun k => a + k) := by
    intro a b
    unfold sliceRange
    simp only [show (1 : Int) > 0 by decide, if_true]
    have e : (if (a : Int) < (b : Int) then ((b : Int) - a + 1 - 1) / 1 else 0).toNat = b - a := by
      split
      · simp only [Int.ediv_one]; omega
      · simp; omega
    rw [e]
    apply List.map_congr_left
    intro k _
    omega
  unfold strSliceIndices
  rw [← key]
  simp only [show (1 : Int) > 0 by decide, if_true]
  congr 1
  · cases l with
    | none => simp [kms_lo]
    | some i => simp only [kms_lo]; split <;> omega
  · cases u with
    | none => simp [kms_hi]
    | some i => simp only [kms_hi]; split <;> omega

theorem pick_idx (l : List Nat) (lo c : Nat) (h : lo + c ≤ l.length) : ((List.range c).map (fun k => lo + k)).filterMap (l[·]?) = (l.drop lo).take c := by
  induction c with
  | zero => simp
  | succ c ih =>
    rw [List.range_succ, List.map_append, List.filterMap_append, ih (by omega)]
    have hl : lo + c < l.length := by omega
    simp only [List.map_cons, List.map_nil, List.filterMap_cons, List.filterMap_nil]
    rw [List.getElem?_eq_getElem hl]
    rw [List.take_add_one]
    congr 1
    rw [List.getElem?_drop, List.getElem?_eq_getElem hl]
    rfl

theorem kms_hi_le (u : Option Int) (n : Nat) : kms_hi u n ≤ n := by
  cases u with
  | none => simp [kms_hi]
  | some i => simp only [kms_hi]; split <;> omega
theorem kms_lo_le (u : Option Int) (n : Nat) : kms_lo u n ≤ n := by
  cases u with
  | none => simp [kms_lo]
  | some i => simp only [kms_lo]; split <;> omega

theorem slice_sg (x : PySem.Str) (l u : Option Int) : sg (Txt.slice x l u) = ((sg x).drop (kms_lo l (sg x).length)).take (kms_hi u (sg x).length - kms_lo l (sg x).length) := by
  have hlen := sg_len x
  rw [hlen]
  unfold Txt.slice
  have h2 := kms_hi_le u x.length
  have h3 := kms_lo_le l x.length
  split
  · rename_i h
    simp only [beq_self_eq_true, Bool.true_and, beq_iff_eq] at h
    rw [slice_idx] at h
    simp only [List.length_map, List.length_range] at h
    have h1 : kms_lo l x.length = 0 ∨ x.length = 0 := by omega
    rcases h1 with h1 | h1
    · rw [h1] at h ⊢
      rw [List.drop_zero, h, List.take_of_length_le (by omega)]
    · have e : sg x = [] := List.eq_nil_of_length_eq_zero (by omega)
      rw [e]; simp
  · rw [slice_idx]
    show ((List.filterMap (fun i => x.cps[i]?) _).toArray).toList = _
    have e : (fun i : Nat => x.cps[i]?) = (fun i : Nat => (sg x)[i]?) := by
      funext i
      simp [sg]
    rw [e]
    by_cases hc : kms_lo l x.length ≤ kms_hi u x.length
    · rw [pick_idx _ _ _ (by omega)]
    · have e0 : kms_hi u x.length - kms_lo l x.length = 0 := by omega
      rw [e0]; simp

/-- the four shapes of slices that the program takes -/
theorem slice_to (x : PySem.Str) {k : Int} (h : 0 ≤ k) : sg (Txt.slice x none (some k)) = (sg x).take k.toNat := by
  rw [slice_sg]
  have h1 : ¬ k < 0 := by omega
  simp only [kms_lo, kms_hi, if_neg h1, List.drop_zero, Nat.sub_zero]
  rw [List.take_eq_take_iff]
  omega
theorem slice_from (x : PySem.Str) {k : Int} (h : 0 ≤ k) : sg (Txt.slice x (some k) none) = (sg x).drop k.toNat := by
  rw [slice_sg]
  have h1 : ¬ k < 0 := by omega
  simp only [kms_lo, kms_hi, if_neg h1]
  rw [List.take_of_length_le (by simp)]
  by_cases hk : k.toNat ≤ (sg x).length
  · rw [Nat.min_eq_left hk]
  · rw [Nat.min_eq_right (by omega), List.drop_of_length_le (Nat.le_refl _), List.drop_of_length_le (by omega)]
theorem slice_neg (x : PySem.Str) {k : Int} (h : 0 < k) : sg (Txt.slice x (some (-k)) none) = (sg x).drop ((sg x).length - k.toNat) := by
  rw [slice_sg]
  have h1 : -k < 0 := by omega
  simp only [kms_lo, kms_hi, if_pos h1, Int.neg_neg]
  rw [List.take_of_length_le (by simp)]
theorem slice_mid (x : PySem.Str) {i j : Int} (hi : 0 ≤ i) (hj : 0 ≤ j) : sg (Txt.slice x (some i) (some j)) = ((sg x).take j.toNat).drop i.toNat := by
  rw [slice_sg]
  have h1 : ¬ i < 0 := by omega
  have h2 : ¬ j < 0 := by omega
  simp only [kms_lo, kms_hi, if_neg h1, if_neg h2]
  rw [List.drop_take]
  by_cases hk : i.toNat ≤ (sg x).length
  · rw [Nat.min_eq_left hk]
    rw [List.take_eq_take_iff]
    simp; omega
  · have e : Min.min i.toNat (sg x).length = (sg x).length := Nat.min_eq_right (by omega)
    rw [e, List.drop_of_length_le (Nat.le_refl _), List.drop_of_length_le (show (sg x).length ≤ i.toNat by omega)]
    simp
theorem slice_negmid (x : PySem.Str) {i j : Int} (hi : 0 < i) (hj : 0 ≤ j) : sg (Txt.slice x (some (-i)) (some j)) = ((sg x).take j.toNat).drop ((sg x).length - i.toNat) := by
  rw [slice_sg]
  have h1 : -i < 0 := by omega
  have h2 : ¬ j < 0 := by omega
  simp only [kms_lo, kms_hi, if_pos h1, if_neg h2, Int.neg_neg]
  rw [List.drop_take]
  rw [List.take_eq_take_iff]
  simp; omega

/-- what str.find tells -/
theorem find_spec (x y : PySem.Str) : (Txt.find x y = -1 ∧ ∀ i, i + (sg y).length ≤ (sg x).length → ((sg x).drop i).take (sg y).length ≠ sg y) ∨
    (∃ i : Nat, Txt.find x y = (i : Int) ∧ i + (sg y).length ≤ (sg x).length ∧ ((sg x).drop i).take (sg y).length = sg y ∧ ∀ j, j < i → ((sg x).drop j).take (sg y).length ≠ sg y) := by
  have hat : ∀ i, StrLaws.At x y x.length i ↔ (i + (sg y).length ≤ (sg x).length ∧ ((sg x).drop i).take (sg y).length = sg y) := by
    intro i
    unfold StrLaws.At
    rw [StrLaws.subAt_eq, sg_len, sg_len]
    simp only [beq_iff_eq]
  unfold Txt.find
  rcases StrLaws.occ_head x y 1 (Nat.le_refl _) with ⟨h, hn⟩ | ⟨i, r, h, ha, hn⟩
  · left
    rw [h]
    exact ⟨rfl, fun i hi e => hn i ((hat i).mpr ⟨hi, e⟩)⟩
  · right
    rw [h]
    have h1 := (hat i).mp ha
    exact ⟨i, rfl, h1.1, h1.2, fun j hj e => hn j hj ((hat j).mpr ⟨by omega, e⟩)⟩

/-- the greatest k of 0 .. n at which p holds (0 where there is none) -/
def top (p : Int → Bool) : Nat → Nat
  | 0 => 0
  | n + 1 => if p ((n + 1 : Nat) : Int) = true then n + 1 else top p n
theorem top_le (p : Int → Bool) : ∀ n, top p n ≤ n
  | 0 => Nat.le_refl _
  | n + 1 => by
    unfold top
    split
    · exact Nat.le_refl _
    · exact Nat.le_succ_of_le (top_le p n)
theorem top_holds {p : Int → Bool} (h0 : p 0 = true) : ∀ n, p (top p n : Nat) = true
  | 0 => h0
  | n + 1 => by
    unfold top
    split
    · assumption
    · exact top_holds h0 n
theorem le_top {p : Int → Bool} : ∀ {n k : Nat}, k ≤ n → p (k : Int) = true → k ≤ top p n
  | 0, k, hk, _ => hk
  | n + 1, k, hk, hp => by
    unfold top
    split
    · exact hk
    · rename_i h
      refine le_top (Nat.le_of_lt_succ (Nat.lt_of_le_of_ne hk fun e => h ?_)) hp
      exact (show ((n + 1 : Nat) : Int) = (k : Int) by omega) ▸ hp
theorem top_eq {p : Int → Bool} {n k : Nat} (h0 : p 0 = true) (hk : k ≤ n) (hp : p (k : Int) = true) (hm : ∀ j, k < j → j ≤ n → p (j : Int) = false) : top p n = k := by
  have h1 := le_top hk hp
  have h2 := top_holds h0 n
  have h3 := top_le p n
  apply Nat.le_antisymm _ h1
  apply Nat.le_of_not_lt
  intro h
  rw [hm _ h h3] at h2
  cases h2

/-- the three tests -/
def pH (x y : PySem.Str) (k : Int) : Bool := Txt.slice x none (some k) == Txt.slice y none (some k)
def pE (x y : PySem.Str) (k : Int) : Bool := Txt.slice x (some ((x.length : Int) - k)) none == Txt.slice y (some ((y.length : Int) - k)) none
def pL (x y : PySem.Str) (k : Int) : Bool := Txt.slice x (some ((x.length : Int) - k)) none == Txt.slice y none (some k)
theorem pH_iff {x y : PySem.Str} {k : Nat} : pH x y k = true ↔ (sg x).take k = (sg y).take k := by
  unfold pH
  rw [beq_sg, slice_to x (by omega), slice_to y (by omega)]
  simp
theorem pE_iff {x y : PySem.Str} {k : Nat} (hx : k ≤ (sg x).length) (hy : k ≤ (sg y).length) : pE x y k = true ↔ (sg x).drop ((sg x).length - k) = (sg y).drop ((sg y).length - k) := by
  unfold pE
  rw [sg_len] at hx hy
  rw [beq_sg, slice_from x (by omega), slice_from y (by omega), sg_len, sg_len]
  have e1 : ((x.length : Int) - k).toNat = x.length - k := by omega
  have e2 : ((y.length : Int) - k).toNat = y.length - k := by omega
  rw [e1, e2]
  simp
theorem pL_iff {x y : PySem.Str} {k : Nat} (hx : k ≤ (sg x).length) : pL x y k = true ↔ (sg x).drop ((sg x).length - k) = (sg y).take k := by
  unfold pL
  rw [sg_len] at hx
  rw [beq_sg, slice_from x (by omega), slice_to y (by omega), sg_len]
  have e1 : ((x.length : Int) - k).toNat = x.length - k := by omega
  rw [e1]
  simp
theorem pH_zero (x y : PySem.Str) : pH x y 0 = true := (pH_iff (k := 0)).mpr (by simp)
theorem pE_zero (x y : PySem.Str) : pE x y 0 = true := (pE_iff (k := 0) (Nat.zero_le _) (Nat.zero_le _)).mpr (by rw [Nat.sub_zero, Nat.sub_zero, List.drop_length, List.drop_length])
theorem pL_zero (x y : PySem.Str) : pL x y 0 = true := (pL_iff (k := 0) (Nat.zero_le _)).mpr (by simp)
end Mine

namespace Mine
open PySem.Calls PySem.Spec
theorem mem_stepKs {a c k : Int} {n : Nat} (h : k ∈ stepKs a c n) : ∃ i : Nat, i < n ∧ k = a + (i : Int) * c := by
  obtain ⟨i, hi, e⟩ := List.mem_map.mp h
  exact ⟨i, List.mem_range.mp hi, e.symm⟩
theorem stepKs_mem {a c : Int} {n i : Nat} (h : i < n) : a + (i : Int) * c ∈ stepKs a c n := List.mem_map.mpr ⟨i, List.mem_range.mpr h, rfl⟩
theorem max_top {p : Int → Bool} {n N : Nat} {M : Int} (hn : n = N + 1) (h0 : p 0 = true) (hM : M ∈ (stepKs 0 1 n).filter p) (hx : ∀ a, a ∈ (stepKs 0 1 n).filter p → a ≤ M) : M = (top p N : Nat) := by
  obtain ⟨h1, h2⟩ := List.mem_filter.mp hM
  obtain ⟨i, hi, e⟩ := mem_stepKs h1
  have e' : M = (i : Int) := by omega
  have h3 := hx (top p N : Nat) (List.mem_filter.mpr ⟨by
    have := stepKs_mem (a := 0) (c := 1) (n := n) (i := top p N) (by have := top_le p N; omega)
    simpa using this, top_holds h0 N⟩)
  have h4 : i ≤ top p N := le_top (by omega) (by rw [← e']; exact h2)
  omega
theorem max_filt {prog : Program} {w : World} {A : Around} {E : Value → Shared → Prop} {s : Shared} {h₀ : Heap} {L l : Addr} {m : PySem.Str → Option Value} {news : List (Addr × Obj)} {Q : Value → Shared → Prop} {ys : List Value} {p : Int → Bool} {n N : Nat}
    (F : Fr h₀ L s.heap m) (N' : News h₀ L s.heap news) (hm : (l, LCg.lst ys) ∈ news) (hi : IntsAre ys ((stepKs 0 1 n).filter p)) (hn : n = N + 1) (h0 : p 0 = true) (hh : A.handled = none)
    (h : ∀ h' t tk, Fr h₀ L h' m → News h₀ L h' news → Q (.int (top p N : Nat) t) { s with heap := h', toks := tk }) :
    wpAny (model prog w) A (call (.builtin "max") [.ref l]) Q E s := by
  refine kso_max F N' ⟨_, (N' _ hm).1, rfl, _, rfl⟩ hi ?_ hh fun h' M t tk F' N'' hM hx => ?_
  · have : (0 : Int) ∈ (stepKs 0 1 n).filter p := List.mem_filter.mpr ⟨by
      have := stepKs_mem (a := 0) (c := 1) (n := n) (i := 0) (by omega)
      simpa using this, h0⟩
    exact List.length_pos_of_mem this
  · rw [max_top hn h0 hM hx]
    exact h h' t tk F' N''
end Mine

namespace Mine
open PySem.Calls PySem.Spec
def MTurn (h₀ : Heap) (L : Addr) (m : PySem.Str → Option Value) (s₁ : Shared) (led : List (Addr × Obj)) (r : PySem.Str) (v : Value) (s₂ : Shared) : Prop :=
  (∃ t, v = .str r t) ∧ ∃ h' tk', s₂ = { s₁ with heap := h', toks := tk' } ∧ Fr h₀ L h' m ∧ News h₀ L h' led
theorem mturn_end {h₀ : Heap} {L : Addr} {m : PySem.Str → Option Value} {s₁ : Shared} {led all : List (Addr × Obj)} {r y : PySem.Str} {t : Tok} {h' : Heap} {tk' : Nat} (e : y = r) (F : Fr h₀ L h' m) (N : News h₀ L h' all) (sub : ∀ p ∈ led, p ∈ all) :
    MTurn h₀ L m s₁ led r (.str y t) { s₁ with heap := h', toks := tk' } := ⟨⟨t, by rw [e]⟩, h', tk', rfl, F, fun p hp => N p (sub p hp)⟩
/-- the sign that a number leaves -/
def signOf (k : Int) : PySem.Str := if k.fmod 4 = 1 then PySem.Str.ofString "b" else if k.fmod 4 = 3 then PySem.Str.ofString "c" else PySem.Str.ofString "a"
theorem signOf_len (k : Int) : (signOf k).length = 1 := by
  unfold signOf
  split
  · decide +kernel
  · split <;> decide +kernel
section
variable {prog : Program} {w : World} {A : Around} {E : Value → Shared → Prop} {h₀ : Heap} {L : Addr} {m : PySem.Str → Option Value} {env : Env} {elt : Expr} {x : PySem.Str} {scope : Scope} {cl : List (PySem.Str × Addr)} {s : Shared} {S : List (Addr × Obj) → Prop} {Fin : List Value → List (Addr × Obj) → Prop} {news : List (Addr × Obj)}
theorem map_rest {ws : List Value} {ns : List Int} (g : Int → PySem.Str) (hi : IntsAre ws ns) (hS : S news)
    (turn : ∀ (k : Int) (t : Tok) (I : Addr) (oI : Obj) (C : Addr) (oC : Obj) (D : Addr) (m₂ : PySem.Str → Option Value) (ys : List Value) (h : Heap) (tk : Nat) (E' : Value → Shared → Prop), k ∈ ns → LCg.NsObj oC m₂ → m₂ x = some (.int k t) → Fr h₀ L h m →
      News h₀ L h ((I, oI) :: (C, oC) :: (D, LCg.lst ys) :: news) →
      wpAny (model prog w) A (eval elt (compEnvC scope cl C env)) (MTurn h₀ L m { s with heap := h, toks := tk } ((I, oI) :: (C, oC) :: (D, LCg.lst ys) :: news) (g k)) E' { s with heap := h, toks := tk })
    (fin : ∀ ys, CarriedAll ys (ns.map fun k => PyData.str (g k)) → Fin ys news) :
    LCg.CompRest prog w A h₀ L m env elt x scope cl s S (fun i v => ws.toArray[i]? = some v) Fin ws.toArray.size 0 [] news :=
  kct_list g hi (fun k t I oI C oC D m₂ ys h tk E' hk hC hx F N off ne _ => wpAny_mono (turn k t I oI C oC D m₂ ys h tk E' hk hC hx F N)
    (fun y s₂ hq => by
      obtain ⟨⟨t', e⟩, h', tk', e', F', N'⟩ := hq
      exact ⟨h', tk', news, e', F', N', off, hS, rfl, t', e⟩) fun _ _ e => e) (fun ys h _ => fin ys h)
end
theorem srcAt_of {h₀ : Heap} {ax : Addr} {its : Array Value} {k : Nat} {news : List (Addr × Obj)} (hm : (ax, ({ cls := .type "list", data := .seq its k } : Obj)) ∈ news) : LCg.SrcAt h₀ ax its news := Or.inr ⟨_, hm, rfl, _, rfl⟩
section
variable {prog : Program} {w : World} {A : Around} {E : Value → Shared → Prop} {s : Shared} {D : Addr} {ys : List Value} {l : List Int} {g : Int → PySem.Str} {t : Tok} {Q : Value → Shared → Prop}
/-- the joined text, of which the length alone is kept -/
theorem join_any (hl : s.heap.IsList D ys.toArray) (hc : CarriedAll ys (l.map fun a => PyData.str (g a))) (h1 : ∀ a ∈ l, (g a).length = 1) (hn : l.length ≤ 1048576)
    (h : ∀ (y : PySem.Str) t' k, y.length = l.length → Q (.str y t') { s with toks := k }) : wpAny (model prog w) A (call (.builtin "str.join") [.str (PySem.Str.ofString "") t, .ref D]) Q E s :=
  KT.join_1 hl hc h1 hn fun t' k e => h _ t' k (by omega)
end
theorem sign0 {k : Int} (h : k.fmod 4 = 0) : PySem.Str.ofString "a" = signOf k := by unfold signOf; rw [h]; rfl
theorem sign1 {k : Int} (h : k.fmod 4 = 1) : PySem.Str.ofString "b" = signOf k := by unfold signOf; rw [h]; rfl
theorem sign2 {k : Int} (h : k.fmod 4 = 2) : PySem.Str.ofString "a" = signOf k := by unfold signOf; rw [h]; rfl
theorem sign3 {k : Int} (h : k.fmod 4 = 3) : PySem.Str.ofString "c" = signOf k := by unfold signOf; rw [h]; rfl
section
variable {prog : Program} {w : World} {A : Around} {E : Value → Shared → Prop} {s : Shared} {h₀ : Heap} {L l : Addr} {m : PySem.Str → Option Value} {news : List (Addr × Obj)} {value slice : PySem.Expr} {vs : List Value} {ns : List Int} {vl vu vk : Value} {lo hi st : Option Int} {ops : List Value} {Q : Value → Shared → Prop}
/-- a slice by a step of a list of ints: some list of ints, no longer than it -/
theorem step_slice (F : Fr h₀ L s.heap m) (N : News h₀ L s.heap news) (hl : s.heap.IsList l vs.toArray) (pl : IsPart vl lo) (pu : IsPart vu hi) (pk : IsPart vk st) (h0 : st ≠ some 0) (hi' : IntsAre vs ns)
    (h : ∀ D ws ms h', Fr h₀ L h' m → News h₀ L h' ((D, PySem.W.listOf (List.toArray ws) 0) :: news) → (∀ p ∈ news, p.1 < D) → IntsAre ws ms → ms.length ≤ ns.length → Q (.ref D) { s with heap := h' })
    (hs : subscripted slice false (.ref l) (.ref s.heap.objs.size) = operate ops (getItem (.ref l) (.ref s.heap.objs.size))) (ht : ∀ r, letTemporaryGo value (.ref l) r = pure ()) (hz : vs.toArray.size ≤ sizeLine) :
    wpAny (model prog w) A (subscriptTail value slice (.ref l) (.ref s.heap.objs.size)) Q E { s with heap := s.heap.push { cls := .type "slice", data := .fields #[vl, vu, vk] } } := by
  have hp := IntsAre.pick hi' lo hi st
  refine kmk_slice3_lit F N hl pl pu pk h0 rfl (fun D h' F' N' l1 => h D _ _ h' F' N' l1 hp ?_) hs ht hz
  have h1 := slicePick_size_le vs.toArray lo hi st
  rw [← hp.length, ← hi'.length]
  simpa using h1
end
end Mine

namespace Mine
open PySem.Calls PySem.Spec
/-- the text that the law calls left (a mark for the loop's word) -/
structure LeftIs (x : PySem.Str) : Prop where
abbrev leftOf {x : PySem.Str} (_ : LeftIs x) : PySem.Str := x
section
variable {prog : Program} {w : World} {A : Around} {E : Value → Shared → Prop} {s : Shared} {h₀ : Heap} {L : Addr} {m : PySem.Str → Option Value} {news : List (Addr × Obj)} {value slice : PySem.Expr} {x : PySem.Str} {t : Tok} {Q : Value → Shared → Prop}
/-- a slice of a text of which the length's bound alone is kept -/
theorem slice_any_ns {j : Int} {uj : Tok} (hF : Fr h₀ L s.heap m) (hN : News h₀ L s.heap news) (h : ∀ (y : PySem.Str) h' t' k, Fr h₀ L h' m → News h₀ L h' news → y.length ≤ x.length → LeftIs y → Q (.str y t') { s with heap := h', toks := k })
    (hs : subscripted slice false (.str x t) (.ref s.heap.objs.size) = operate [.ref s.heap.objs.size, .str x t] (getItem (.str x t) (.ref s.heap.objs.size)) := by with_unfolding_all rfl)
    (ht : ∀ r, letTemporaryGo value (.str x t) r = pure () := by intro _; with_unfolding_all rfl) (hsz : x.length ≤ sizeLine := by size_fits) :
    wpAny (model prog w) A (subscriptTail value slice (.str x t) (.ref s.heap.objs.size)) Q E { s with heap := s.heap.push { cls := .type "slice", data := .fields #[.none, .int j uj, .none] } } :=
  slice_strN_ns_len hF hN (fun h' t' k F N l => h _ h' t' k F N l ⟨⟩) hs ht hsz
theorem slice_any_sn {i : Int} {ui : Tok} (hF : Fr h₀ L s.heap m) (hN : News h₀ L s.heap news) (h : ∀ (y : PySem.Str) h' t' k, Fr h₀ L h' m → News h₀ L h' news → y.length ≤ x.length → Q (.str y t') { s with heap := h', toks := k })
    (hs : subscripted slice false (.str x t) (.ref s.heap.objs.size) = operate [.ref s.heap.objs.size, .str x t] (getItem (.str x t) (.ref s.heap.objs.size)) := by with_unfolding_all rfl)
    (ht : ∀ r, letTemporaryGo value (.str x t) r = pure () := by intro _; with_unfolding_all rfl) (hsz : x.length ≤ sizeLine := by size_fits) :
    wpAny (model prog w) A (subscriptTail value slice (.str x t) (.ref s.heap.objs.size)) Q E { s with heap := s.heap.push { cls := .type "slice", data := .fields #[.int i ui, .none, .none] } } :=
  slice_strN_sn_len hF hN (fun h' t' k F N l => h _ h' t' k F N l) hs ht hsz
end
end Mine

namespace Mine
open PySem.Calls PySem.Spec
/-- the text that the law calls word -/
structure WordIs (x : PySem.Str) : Prop where
/-- the test of the law's list of left's borders -/
def pB (x : PySem.Str) (k : Int) : Bool := Txt.slice x none (some k) == Txt.slice x (some ((x.length : Int) - k)) none
/-- the test of the law's list of roots -/
def pR (x : PySem.Str) (k : Int) : Bool := decide ((x.length : Int).fmod k = 0) && (Txt.mul (Txt.slice x none (some k)) ((x.length : Int).fdiv k) == x)
abbrev pBord {x : PySem.Str} (_ : LeftIs x) : Int → Bool := pB x
abbrev pRoot {x : PySem.Str} (_ : WordIs x) : Int → Bool := pR x
theorem root_no {x : PySem.Str} {k : Int} (h : ¬ (x.length : Int).fmod k = 0) : false = pR x k := by
  unfold pR
  rw [decide_eq_false h]
  rfl
theorem root_yes {x : PySem.Str} {k : Int} (h : (x.length : Int).fmod k = 0) : (Txt.mul (Txt.slice x none (some k)) ((x.length : Int).fdiv k) == x) = pR x k := by
  unfold pR
  rw [decide_eq_true h, Bool.true_and]
theorem root_t {x : PySem.Str} {k : Int} (h : (x.length : Int).fmod k = 0) (hb : (Txt.mul (Txt.slice x none (some k)) ((x.length : Int).fdiv k) == x) = true) : true = pR x k := hb ▸ root_yes h
theorem root_f {x : PySem.Str} {k : Int} (h : (x.length : Int).fmod k = 0) (hb : (Txt.mul (Txt.slice x none (some k)) ((x.length : Int).fdiv k) == x) = false) : false = pR x k := hb ▸ root_yes h
theorem ite_two {b : Bool} {P P' : Prop} (h1 : b = true → P) (h2 : b = false → P') : if b = true then P else P' := by
  cases b with
  | true => simpa using h1 rfl
  | false => simpa using h2 rfl
section
variable {prog : Program} {w : World} {A : Around} {E : Value → Shared → Prop} {s : Shared} {x : PySem.Str} {t u : Tok} {k : Int} {Q : Value → Shared → Prop}
theorem word_mul (hx1 : 1 ≤ x.length) (hx : x.length ≤ 24) (h1 : 1 ≤ k) (h3 : k ≤ 3) (h : ∀ (y : PySem.Str) t' k', 1 ≤ y.length → y.length ≤ 72 → WordIs y → Q (.str y t') { s with toks := k' }) :
    wpAny (model prog w) A (binaryOp .Mult (.str x t) (.int k u)) Q E s := by
  have e := len_mul x k
  have h0 : ¬ k < 0 := by omega
  rw [if_neg (by simpa using h0)] at e
  have e1 : (1 : Int) ≤ (x.length : Int) * k := by
    have := Int.mul_le_mul (a := 1) (b := 1) (c := (x.length : Int)) (d := k) (by omega) h1 (by omega) (by omega)
    simpa using this
  have e2 : (x.length : Int) * k ≤ 24 * 3 := Int.mul_le_mul (by omega) h3 (by omega) (by omega)
  exact SB.mul (mulOk_of 24 3 hx (by omega) (by omega) (by decide) (by decide)) fun t' k' => h _ t' k' (by omega) (by omega) ⟨⟩
theorem root_mul (hx : x.length ≤ 72) (h1 : 0 ≤ k) (h3 : k ≤ 72) (h : ∀ t' k', Q (.str (Txt.mul x k) t') { s with toks := k' }) :
    wpAny (model prog w) A (binaryOp .Mult (.str x t) (.int k u)) Q E s :=
  SB.mul (mulOk_of 72 72 hx (by omega) (by omega) (by decide) (by decide)) h
end
theorem mul_one' (x : PySem.Str) : Txt.mul x 1 = x := by
  unfold Txt.mul
  simp
theorem pR_self {x : PySem.Str} (h : 1 ≤ x.length) : pR x (x.length : Int) = true := by
  unfold pR
  have e1 : (x.length : Int).fmod (x.length : Int) = 0 := by rw [Int.fmod_eq_emod_of_nonneg _ (by omega)]; exact Int.emod_self
  have e2 : (x.length : Int).fdiv (x.length : Int) = 1 := by rw [Int.fdiv_eq_ediv_of_nonneg _ (by omega)]; exact Int.ediv_self (by omega)
  rw [e1, e2, mul_one']
  have e3 : Txt.slice x none (some (x.length : Int)) = x := by
    apply sg_ext
    rw [slice_to x (by omega)]
    apply List.take_of_length_le
    rw [sg_len]; omega
  rw [e3]
  simp
/-- the head of the law's list of roots -/
structure RootIs (x : PySem.Str) (r : Int) : Prop where
  eq : ((stepKs 1 1 x.length).filter (pR x)).head? = some r
theorem ne_len {x : PySem.Str} (h : (x != PySem.Str.ofString "") = true) : 1 ≤ x.length := by
  apply Nat.pos_of_ne_zero
  intro h0
  have e : x = PySem.Str.ofString "" := by
    apply sg_ext
    have h1 : sg x = [] := List.eq_nil_of_length_eq_zero (by rw [sg_len]; exact h0)
    rw [h1]; decide +kernel
  rw [e] at h
  exact absurd h (by decide +kernel)
section
variable {prog : Program} {w : World} {A : Around} {E : Value → Shared → Prop} {s : Shared} {h₀ : Heap} {L l : Addr} {m : PySem.Str → Option Value} {news : List (Addr × Obj)} {Q : Value → Shared → Prop} {value slice : PySem.Expr} {ys : List Value} {x : PySem.Str} {n : Nat} {u : Tok}
theorem root_item (N : News h₀ L s.heap news) (hm : (l, LCg.lst ys) ∈ news) (hi : IntsAre ys ((stepKs 1 1 n).filter (pR x))) (hn : n = x.length) (hx : 1 ≤ x.length)
    (h : ∀ (r : Int) t', RootIs x r → Q (.int r t') s)
    (hs : subscripted slice false (.ref l) (.int 0 u) = operate [.ref l, .int 0 u] (getItem (.ref l) (.int 0 u)) := by with_unfolding_all rfl) :
    wpAny (model prog w) A (subscriptTail value slice (.ref l) (.int 0 u)) Q E s := by
  subst hn
  have hl : s.heap.IsList l ys.toArray := ⟨_, (N _ hm).1, rfl, _, rfl⟩
  have hmem : (x.length : Int) ∈ (stepKs 1 1 x.length).filter (pR x) := List.mem_filter.mpr ⟨by
    have := stepKs_mem (a := 1) (c := 1) (n := x.length) (i := x.length - 1) (by omega)
    have e : (1 : Int) + ((x.length - 1 : Nat) : Int) * 1 = (x.length : Int) := by omega
    rwa [e] at this, pR_self hx⟩
  have hR : ∀ r, ((stepKs 1 1 x.length).filter (pR x)).head? = some r → RootIs x r := fun r e => ⟨e⟩
  revert hi hmem hR
  generalize (stepKs 1 1 x.length).filter (pR x) = fs
  intro hi hmem hR
  cases hi with
  | nil => cases hmem
  | cons r t' rest =>
    refine tail_any hl.typeIs slot_list_getitem.lookup (wpAny_getItem_list hl (Int.le_refl 0) (by decide) (by simp) (h r t' (hR r rfl))) hs
end
theorem stepP1 {i : Nat} {v : Value} (h : ∃ t, v = .int ((1 : Int) + (i : Int)) t) : ∃ t, v = .int ((1 : Int) + (i : Int) * 1) t := by
  obtain ⟨t, e⟩ := h
  exact ⟨t, by rw [e, Int.mul_one]⟩
theorem fdiv_le72 {n k : Int} (hn : 0 ≤ n) (h : n ≤ 72) (hk : 1 ≤ k) : 0 ≤ n.fdiv k ∧ n.fdiv k ≤ 72 := by
  rw [Int.fdiv_eq_ediv_of_nonneg _ (by omega)]
  exact ⟨Int.ediv_nonneg hn (by omega), Int.le_trans (Int.ediv_le_self _ hn) h⟩
end Mine

namespace Mine
theorem fdiv2 (x : Int) (h : 0 ≤ x) : x.fdiv 2 = x / 2 := Int.fdiv_eq_ediv_of_nonneg _ (by omega)

/-- what holds between the turns of the two searches by halves -/
def BInv (p : Int → Bool) (N mn mx md st : Int) : Prop :=
  0 ≤ mn ∧ mn ≤ md ∧ md ≤ mx ∧ mx ≤ N ∧ st = mn ∧ p mn = true ∧ ((mn = 0 ∧ md = N ∧ mx = N ∧ 1 ≤ N) ∨ (md = (mx - mn) / 2 + mn ∧ (p mx = false ∨ (mn = mx ∧ mx = N))))
def BMea (mn mx md : Int) : Nat := (2 * (mx - mn) + (md - mn)).toNat
theorem b_start {p : Int → Bool} {N : Int} (h0 : p 0 = true) (hN : 1 ≤ N) : BInv p N 0 N N 0 :=
  ⟨by omega, by omega, by omega, by omega, rfl, h0, .inl ⟨rfl, rfl, rfl, hN⟩⟩
theorem b_yes {p : Int → Bool} {N mn mx md st : Int} (h : BInv p N mn mx md st) (hlt : mn < md) (hp : p md = true) : BInv p N md mx ((mx - md).fdiv 2 + md) md := by
  obtain ⟨h1, h2, h3, h4, h5, h6, h7⟩ := h
  rw [fdiv2 _ (by omega)]
  refine ⟨by omega, by omega, by omega, h4, rfl, hp, .inr ⟨rfl, ?_⟩⟩
  rcases h7 with ⟨a, b, c, d⟩ | ⟨a, b | ⟨b, c⟩⟩
  · exact .inr ⟨by omega, by omega⟩
  · exact .inl b
  · exact absurd a (by omega)
theorem b_no {p : Int → Bool} {N mn mx md st : Int} (h : BInv p N mn mx md st) (hlt : mn < md) (hp : p md = false) : BInv p N mn md ((md - mn).fdiv 2 + mn) st := by
  obtain ⟨h1, h2, h3, h4, h5, h6, h7⟩ := h
  rw [fdiv2 _ (by omega)]
  exact ⟨h1, by omega, by omega, by omega, h5, h6, .inr ⟨rfl, .inl hp⟩⟩
theorem b_less_yes {p : Int → Bool} {N mn mx md st : Int} (h : BInv p N mn mx md st) (hlt : mn < md) : BMea md mx ((mx - md).fdiv 2 + md) < BMea mn mx md := by
  obtain ⟨h1, h2, h3, h4, h5, h6, h7⟩ := h
  rw [fdiv2 _ (by omega)]
  unfold BMea
  rcases h7 with ⟨a, b, c, d⟩ | ⟨a, _⟩ <;> omega
theorem b_less_no {p : Int → Bool} {N mn mx md st : Int} (h : BInv p N mn mx md st) (hlt : mn < md) : BMea mn md ((md - mn).fdiv 2 + mn) < BMea mn mx md := by
  obtain ⟨h1, h2, h3, h4, h5, h6, h7⟩ := h
  rw [fdiv2 _ (by omega)]
  unfold BMea
  omega
theorem b_end {p : Int → Bool} {n : Nat} {mn mx md st : Int} (h0 : p 0 = true) (mono : ∀ j k : Nat, j ≤ k → k ≤ n → p (k : Int) = true → p (j : Int) = true) (h : BInv p (n : Int) mn mx md st) (hge : ¬ mn < md) : md = (top p n : Nat) := by
  obtain ⟨h1, h2, h3, h4, h5, h6, h7⟩ := h
  have e : md = mn := by omega
  obtain ⟨k, hk⟩ := Int.eq_ofNat_of_zero_le h1
  have ht : top p n = k := by
    refine top_eq h0 (by omega) (by rw [← hk]; exact h6) ?_
    intro j hj hjn
    cases hpj : p (j : Int) with
    | false => rfl
    | true =>
      exfalso
      rcases h7 with ⟨a, b, c, d⟩ | ⟨a, b | ⟨b, c⟩⟩
      · omega
      · obtain ⟨q, hq⟩ := Int.eq_ofNat_of_zero_le (show 0 ≤ mx by omega)
        have hqk : q ≤ k + 1 := by omega
        have hqj : q ≤ j := by omega
        have := mono q j hqj hjn hpj
        rw [hq] at b
        rw [this] at b
        cases b
      · omega
  rw [ht]; omega

theorem take_mid {l : List Nat} {i j : Nat} (h : i ≤ j) : l.take j = l.take i ++ (l.take j).drop i := by
  have := List.take_append_drop i (l.take j)
  rw [List.take_take, Nat.min_eq_left h] at this
  exact this.symm
theorem drop_mid {l : List Nat} {i j : Nat} (h : i ≤ j) : l.drop i = (l.take j).drop i ++ l.drop j := by
  have e : l.drop j = (l.drop i).drop (j - i) := by rw [List.drop_drop]; congr 1; omega
  rw [e, List.drop_take]
  exact (List.take_append_drop _ _).symm

theorem pH_mono (x y : PySem.Str) (n : Nat) : ∀ j k : Nat, j ≤ k → k ≤ n → pH x y (k : Int) = true → pH x y (j : Int) = true := by
  intro j k hjk _ h
  rw [pH_iff] at h ⊢
  have e1 : (sg x).take j = ((sg x).take k).take j := by rw [List.take_take, Nat.min_eq_left hjk]
  have e2 : (sg y).take j = ((sg y).take k).take j := by rw [List.take_take, Nat.min_eq_left hjk]
  rw [e1, e2, h]
theorem pH_step {x y : PySem.Str} {mn md : Int} (h0 : 0 ≤ mn) (h1 : mn ≤ md) (hp : pH x y mn = true) : (Txt.slice x (some mn) (some md) == Txt.slice y (some mn) (some md)) = pH x y md := by
  obtain ⟨i, hi⟩ := Int.eq_ofNat_of_zero_le h0
  obtain ⟨j, hj⟩ := Int.eq_ofNat_of_zero_le (show 0 ≤ md by omega)
  subst hi hj
  rw [pH_iff] at hp
  have hij : i ≤ j := by omega
  rw [beq_sg, slice_mid x (by omega) (by omega), slice_mid y (by omega) (by omega)]
  rw [Bool.eq_iff_iff, pH_iff, beq_iff_eq]
  show ((sg x).take j).drop i = ((sg y).take j).drop i ↔ _
  rw [take_mid (l := sg x) hij, take_mid (l := sg y) hij, hp]
  constructor
  · intro h
    have e : ∀ l : List Nat, ((sg y).take i ++ l).drop i = ((sg y).take i ++ l).drop i := fun _ => rfl
    have hx : ((sg y).take i ++ ((sg x).take j).drop i) = (sg x).take j := by rw [← hp]; exact (take_mid hij).symm
    have hy : ((sg y).take i ++ ((sg y).take j).drop i) = (sg y).take j := (take_mid hij).symm
    rw [hx, hy] at h
    rw [h]
  · intro h
    rw [h]

theorem pE_mono (x y : PySem.Str) (n : Nat) (hx : n ≤ (sg x).length) (hy : n ≤ (sg y).length) : ∀ j k : Nat, j ≤ k → k ≤ n → pE x y (k : Int) = true → pE x y (j : Int) = true := by
  intro j k hjk hkn h
  rw [pE_iff (by omega) (by omega)] at h ⊢
  have e1 : (sg x).drop ((sg x).length - j) = ((sg x).drop ((sg x).length - k)).drop (k - j) := by rw [List.drop_drop]; congr 1; omega
  have e2 : (sg y).drop ((sg y).length - j) = ((sg y).drop ((sg y).length - k)).drop (k - j) := by rw [List.drop_drop]; congr 1; omega
  rw [e1, e2, h]
theorem pE_step {x y : PySem.Str} {mn md : Int} (h0 : 0 ≤ mn) (h1 : mn < md) (hx : md ≤ x.length) (hy : md ≤ y.length) (hp : pE x y mn = true) :
    (Txt.slice x (some (-md)) (some ((x.length : Int) - mn)) == Txt.slice y (some (-md)) (some ((y.length : Int) - mn))) = pE x y md := by
  obtain ⟨i, hi⟩ := Int.eq_ofNat_of_zero_le h0
  obtain ⟨j, hj⟩ := Int.eq_ofNat_of_zero_le (show 0 ≤ md by omega)
  subst hi hj
  have lx := sg_len x
  have ly := sg_len y
  rw [pE_iff (by omega) (by omega)] at hp
  rw [beq_sg, slice_negmid x (by omega) (by omega), slice_negmid y (by omega) (by omega)]
  rw [Bool.eq_iff_iff, pE_iff (by omega) (by omega), beq_iff_eq]
  have e1 : ((x.length : Int) - (i : Int)).toNat = (sg x).length - i := by omega
  have e2 : ((y.length : Int) - (i : Int)).toNat = (sg y).length - i := by omega
  rw [e1, e2]
  show ((sg x).take ((sg x).length - i)).drop ((sg x).length - j) = ((sg y).take ((sg y).length - i)).drop ((sg y).length - j) ↔ _
  have d1 := drop_mid (l := sg x) (i := (sg x).length - j) (j := (sg x).length - i) (by omega)
  have d2 := drop_mid (l := sg y) (i := (sg y).length - j) (j := (sg y).length - i) (by omega)
  rw [d1, d2, hp]
  constructor
  · intro h; rw [h]
  · intro h; exact List.append_cancel_right h
end Mine

namespace Mine
theorem charAt_zero {x : PySem.Str} (h : x.length ≠ 0) : Txt.charAt x 0 = (sg x)[0]? := by
  unfold Txt.charAt seqIndex?
  have h1 : 0 < x.length := by omega
  simp [h1, sg]
theorem charAt_last {x : PySem.Str} (h : x.length ≠ 0) : Txt.charAt x (-1) = (sg x)[(sg x).length - 1]? := by
  unfold Txt.charAt seqIndex?
  have e : ((-1 : Int) + (x.length : Int)).toNat = x.length - 1 := by omega
  have h2 : (0 : Int) ≤ -1 + (x.length : Int) := by omega
  have h3 : -1 + (x.length : Int) < (x.length : Int) := by omega
  have e2 : (sg x).length = x.length := sg_len x
  simp [h2, h3, e, e2, sg]
theorem pH_one {x y : PySem.Str} (hx : (x.length : Int) ≠ 0) (hy : (y.length : Int) ≠ 0) (h : (Txt.item x 0 != Txt.item y 0) = true) : pH x y ((1 : Nat) : Int) = false := by
  cases hp : pH x y ((1 : Nat) : Int) with
  | false => rfl
  | true =>
    rw [pH_iff] at hp
    have e : Txt.charAt x 0 = Txt.charAt y 0 := by
      rw [charAt_zero (by omega), charAt_zero (by omega)]
      have h1 : ((sg x).take 1)[0]? = ((sg y).take 1)[0]? := by rw [hp]
      simpa using h1
    unfold Txt.item at h
    rw [e] at h
    simp at h
theorem pE_one {x y : PySem.Str} (hx : (x.length : Int) ≠ 0) (hy : (y.length : Int) ≠ 0) (h : (Txt.item x (-1) != Txt.item y (-1)) = true) : pE x y ((1 : Nat) : Int) = false := by
  cases hp : pE x y ((1 : Nat) : Int) with
  | false => rfl
  | true =>
    have lx := sg_len x
    have ly := sg_len y
    rw [pE_iff (by omega) (by omega)] at hp
    have e : Txt.charAt x (-1) = Txt.charAt y (-1) := by
      rw [charAt_last (by omega), charAt_last (by omega)]
      have h1 : ((sg x).drop ((sg x).length - 1))[0]? = ((sg y).drop ((sg y).length - 1))[0]? := by rw [hp]
      rw [List.getElem?_drop, List.getElem?_drop] at h1
      simpa using h1
    unfold Txt.item at h
    rw [e] at h
    simp at h
theorem top_none {p : Int → Bool} {n : Nat} (h0 : p 0 = true) (mono : ∀ j k : Nat, j ≤ k → k ≤ n → p (k : Int) = true → p (j : Int) = true) (h1 : p ((1 : Nat) : Int) = false) : top p n = 0 := by
  refine top_eq h0 (Nat.zero_le _) h0 fun j hj hn => ?_
  cases hpj : p (j : Int) with
  | false => rfl
  | true =>
    have := mono 1 j hj hn hpj
    rw [this] at h1
    cases h1

abbrev minL (x y : PySem.Str) : Nat := min x.length y.length
/-- the words of the two searches -/
def PInv (a b : PySem.Str) (mn mx md st : Int) : Prop := BInv (pH a b) (minL a b : Nat) mn mx md st
def SInv (a b : PySem.Str) (mn mx md st : Int) : Prop := BInv (pE a b) (minL a b : Nat) mn mx md st
theorem min_if (x y : PySem.Str) : (if (y.length : Int) < (x.length : Int) then (y.length : Int) else (x.length : Int)) = (minL x y : Nat) := by
  unfold minL
  split <;> omega
section
variable {x y : PySem.Str} {mn mx md st : Int}
theorem p_start (hx : (x.length : Int) ≠ 0) (hy : (y.length : Int) ≠ 0) :
    PInv x y 0 (if (y.length : Int) < (x.length : Int) then (y.length : Int) else (x.length : Int)) (if (y.length : Int) < (x.length : Int) then (y.length : Int) else (x.length : Int)) 0 := by
  rw [min_if]
  exact b_start (pH_zero x y) (by unfold minL; omega)
theorem p_yes (h : PInv x y mn mx md st) (hlt : mn < md) (hb : (Txt.slice x (some st) (some md) == Txt.slice y (some st) (some md)) = true) : PInv x y md mx ((mx - md).fdiv 2 + md) md := by
  have h' := h
  obtain ⟨h1, h2, h3, h4, h5, h6, h7⟩ := h'
  subst h5
  exact b_yes h hlt ((pH_step h1 h2 h6).symm.trans hb)
theorem p_no (h : PInv x y mn mx md st) (hlt : mn < md) (hb : (Txt.slice x (some st) (some md) == Txt.slice y (some st) (some md)) = false) : PInv x y mn md ((md - mn).fdiv 2 + mn) st := by
  have h' := h
  obtain ⟨h1, h2, h3, h4, h5, h6, h7⟩ := h'
  subst h5
  exact b_no h hlt ((pH_step h1 h2 h6).symm.trans hb)
theorem p_end (h : PInv x y mn mx md st) (hge : ¬ mn < md) : md = (top (pH x y) (min x.length y.length) : Nat) := b_end (pH_zero x y) (pH_mono x y _) h hge
theorem p_zero_x (h : (x.length : Int) = 0) : (0 : Int) = (top (pH x y) (min x.length y.length) : Nat) := by
  have e : min x.length y.length = 0 := by omega
  rw [e]; rfl
theorem p_zero_y (h : (y.length : Int) = 0) : (0 : Int) = (top (pH x y) (min x.length y.length) : Nat) := by
  have e : min x.length y.length = 0 := by omega
  rw [e]; rfl
theorem p_zero_1 (hx : (x.length : Int) ≠ 0) (hy : (y.length : Int) ≠ 0) (h : (Txt.item x 0 != Txt.item y 0) = true) : (0 : Int) = (top (pH x y) (min x.length y.length) : Nat) := by
  rw [top_none (pH_zero x y) (pH_mono x y _) (pH_one hx hy h)]; rfl

theorem s_start (hx : (x.length : Int) ≠ 0) (hy : (y.length : Int) ≠ 0) :
    SInv x y 0 (if (y.length : Int) < (x.length : Int) then (y.length : Int) else (x.length : Int)) (if (y.length : Int) < (x.length : Int) then (y.length : Int) else (x.length : Int)) 0 := by
  rw [min_if]
  exact b_start (pE_zero x y) (by unfold minL; omega)
theorem s_step (h : SInv x y mn mx md st) (hlt : mn < md) : (Txt.slice x (some (-md)) (some ((x.length : Int) - st)) == Txt.slice y (some (-md)) (some ((y.length : Int) - st))) = pE x y md := by
  obtain ⟨h1, h2, h3, h4, h5, h6, h7⟩ := h
  subst h5
  have := Nat.min_le_left x.length y.length
  have := Nat.min_le_right x.length y.length
  unfold minL at h4
  exact pE_step h1 hlt (by omega) (by omega) h6
theorem s_yes (h : SInv x y mn mx md st) (hlt : mn < md) (hb : (Txt.slice x (some (-md)) (some ((x.length : Int) - st)) == Txt.slice y (some (-md)) (some ((y.length : Int) - st))) = true) : SInv x y md mx ((mx - md).fdiv 2 + md) md :=
  b_yes h hlt ((s_step h hlt).symm.trans hb)
theorem s_no (h : SInv x y mn mx md st) (hlt : mn < md) (hb : (Txt.slice x (some (-md)) (some ((x.length : Int) - st)) == Txt.slice y (some (-md)) (some ((y.length : Int) - st))) = false) : SInv x y mn md ((md - mn).fdiv 2 + mn) st :=
  b_no h hlt ((s_step h hlt).symm.trans hb)
theorem e_mono : ∀ j k : Nat, j ≤ k → k ≤ min x.length y.length → pE x y (k : Int) = true → pE x y (j : Int) = true :=
  pE_mono x y _ (by rw [sg_len]; exact Nat.min_le_left _ _) (by rw [sg_len]; exact Nat.min_le_right _ _)
theorem s_end (h : SInv x y mn mx md st) (hge : ¬ mn < md) : md = (top (pE x y) (min x.length y.length) : Nat) := b_end (pE_zero x y) e_mono h hge
theorem s_zero_x (h : (x.length : Int) = 0) : (0 : Int) = (top (pE x y) (min x.length y.length) : Nat) := by
  have e : min x.length y.length = 0 := by omega
  rw [e]; rfl
theorem s_zero_y (h : (y.length : Int) = 0) : (0 : Int) = (top (pE x y) (min x.length y.length) : Nat) := by
  have e : min x.length y.length = 0 := by omega
  rw [e]; rfl
theorem s_zero_1 (hx : (x.length : Int) ≠ 0) (hy : (y.length : Int) ≠ 0) (h : (Txt.item x (-1) != Txt.item y (-1)) = true) : (0 : Int) = (top (pE x y) (min x.length y.length) : Nat) := by
  rw [top_none (pE_zero x y) e_mono (pE_one hx hy h)]; rfl
theorem p_less_yes (h : PInv x y mn mx md st) (hlt : mn < md) : BMea md mx ((mx - md).fdiv 2 + md) < BMea mn mx md := b_less_yes h hlt
theorem p_less_no (h : PInv x y mn mx md st) (hlt : mn < md) : BMea mn md ((md - mn).fdiv 2 + mn) < BMea mn mx md := b_less_no h hlt
theorem s_less_yes (h : SInv x y mn mx md st) (hlt : mn < md) : BMea md mx ((mx - md).fdiv 2 + md) < BMea mn mx md := b_less_yes h hlt
theorem s_less_no (h : SInv x y mn mx md st) (hlt : mn < md) : BMea mn md ((md - mn).fdiv 2 + mn) < BMea mn mx md := b_less_no h hlt
end
end Mine

namespace Mine
/-- what holds between the turns of diff_commonOverlap's loop, for two different texts of one length -/
def OInv (a b : PySem.Str) (best len : Int) : Prop :=
  (sg a).length = (sg b).length ∧ sg a ≠ sg b ∧ 0 ≤ best ∧ best < len ∧ len ≤ ((sg a).length : Int) ∧ pL a b best = true ∧ ∀ j : Nat, best < (j : Int) → (j : Int) < len → pL a b (j : Int) = false
def OMea (a b : PySem.Str) (best len : Int) : Nat := (((sg a).length : Int) - len).toNat
section
variable {a b : PySem.Str} {best len : Int}
theorem o_start (hl : (sg a).length = (sg b).length) (hne : (a == b) = false) (h1 : 1 ≤ (sg a).length) : OInv a b 0 1 := by
  refine ⟨hl, ?_, by omega, by omega, by omega, pL_zero a b, fun j h0 h1 => by omega⟩
  rw [beq_sg] at hne
  simpa using hne
/-- the pattern, and an overlap that holds it -/
theorem o_pat {k : Nat} (hk : 1 ≤ k) (hn : k ≤ (sg a).length) : sg (Txt.slice a (some (-(k : Int))) none) = (sg a).drop ((sg a).length - k) := by
  rw [slice_neg a (by omega)]
  congr 1
theorem o_has {k j : Nat} (hl : (sg a).length = (sg b).length) (hk : k ≤ j) (hj : j ≤ (sg a).length) (hp : pL a b (j : Int) = true) : ((sg b).drop (j - k)).take k = (sg a).drop ((sg a).length - k) := by
  rw [pL_iff hj] at hp
  have e : (sg a).drop ((sg a).length - k) = ((sg a).drop ((sg a).length - j)).drop (j - k) := by rw [List.drop_drop]; congr 1; omega
  rw [e, hp, List.drop_take]
  congr 1
  omega
theorem o_len {k : Nat} (hn : k ≤ (sg a).length) : ((sg a).drop ((sg a).length - k)).length = k := by rw [List.length_drop]; omega
theorem o_whole (h : OInv a b best len) : pL a b ((sg a).length : Int) = false := by
  obtain ⟨hl, hne, _⟩ := h
  cases hp : pL a b ((sg a).length : Int) with
  | false => rfl
  | true =>
    rw [pL_iff (Nat.le_refl _)] at hp
    rw [Nat.sub_self, List.drop_zero, List.take_of_length_le (by omega)] at hp
    exact absurd hp hne
/-- a place found: nothing between -/
theorem o_found (h : OInv a b best len) (hf : Txt.find b (Txt.slice a (some (-len)) none) ≠ -1) :
    ∃ i : Nat, Txt.find b (Txt.slice a (some (-len)) none) = (i : Int) ∧ len + (i : Int) ≤ ((sg a).length : Int) ∧ ((i = 0) → pL a b len = true) ∧ ∀ j : Nat, len ≤ (j : Int) → (j : Int) < len + (i : Int) → pL a b (j : Int) = false := by
  obtain ⟨hl, hne, h0, h1, h2, h3, h4⟩ := h
  obtain ⟨k, hk⟩ := Int.eq_ofNat_of_zero_le (show 0 ≤ len by omega)
  subst hk
  have hpat := o_pat (a := a) (k := k) (by omega) (by omega)
  have hlen := o_len (a := a) (k := k) (by omega)
  rcases find_spec b (Txt.slice a (some (-(k : Int))) none) with ⟨e, _⟩ | ⟨i, e, hi, ha, hm⟩
  · exact absurd e hf
  · rw [hpat, hlen] at hi ha
    refine ⟨i, e, by omega, fun hi0 => ?_, fun j hj1 hj2 => ?_⟩
    · subst hi0
      rw [List.drop_zero] at ha
      rw [pL_iff (by omega)]
      exact ha.symm
    · cases hp : pL a b (j : Int) with
      | false => rfl
      | true =>
        have := o_has (k := k) (j := j) hl (by omega) (by omega) hp
        have hq := hm (j - k) (by omega)
        rw [hpat, hlen] at hq
        exact absurd this hq
theorem o_go (h : OInv a b best len) {i : Nat} (hi : len + (i : Int) ≤ ((sg a).length : Int)) (hb : ∀ j : Nat, len ≤ (j : Int) → (j : Int) < len + (i : Int) → pL a b (j : Int) = false) :
    ∀ j : Nat, best < (j : Int) → (j : Int) < len + (i : Int) → pL a b (j : Int) = false := by
  intro j h1 h2
  by_cases hj : (j : Int) < len
  · exact h.2.2.2.2.2.2 j h1 hj
  · exact hb j (by omega) h2
theorem o_hit {i : Nat} (h : OInv a b best len) (hi : len + (i : Int) ≤ ((sg a).length : Int)) (hp : pL a b (len + (i : Int)) = true) : OInv a b (len + (i : Int)) (len + (i : Int) + 1) := by
  have hw := o_whole h
  obtain ⟨hl, hne, h0, h1, h2, h3, h4⟩ := h
  refine ⟨hl, hne, by omega, by omega, ?_, hp, fun j a1 a2 => by omega⟩
  by_cases e : len + (i : Int) = ((sg a).length : Int)
  · rw [e, hw] at hp; cases hp
  · omega
theorem o_zero (h : OInv a b best len) (hf : Txt.find b (Txt.slice a (some (-len)) none) ≠ -1) (hz : Txt.find b (Txt.slice a (some (-len)) none) = 0) :
    OInv a b (len + Txt.find b (Txt.slice a (some (-len)) none)) (len + Txt.find b (Txt.slice a (some (-len)) none) + 1) := by
  obtain ⟨i, e, hi, hp, hb⟩ := o_found h hf
  have hi0 : i = 0 := by omega
  rw [e]
  refine o_hit h hi ?_
  subst hi0
  simpa using hp rfl
theorem o_eq {k : Int} (h : OInv a b best len) (h1 : 1 ≤ k) (h2 : k ≤ ((sg a).length : Int)) : (Txt.slice a (some (-k)) none == Txt.slice b none (some k)) = pL a b k := by
  obtain ⟨i, hi⟩ := Int.eq_ofNat_of_zero_le (show 0 ≤ k by omega)
  subst hi
  rw [beq_sg, o_pat (by omega) (by omega), slice_to b (by omega), Bool.eq_iff_iff, pL_iff (by omega), beq_iff_eq]
  rfl
theorem o_pos (h : OInv a b best len) : 1 ≤ len := by
  obtain ⟨hl, hne, h0, h1, h2, h3, h4⟩ := h
  omega
theorem o_yes (h : OInv a b best len) (hf : Txt.find b (Txt.slice a (some (-len)) none) ≠ -1)
    (hb : (Txt.slice a (some (-(len + Txt.find b (Txt.slice a (some (-len)) none)))) none == Txt.slice b none (some (len + Txt.find b (Txt.slice a (some (-len)) none)))) = true) :
    OInv a b (len + Txt.find b (Txt.slice a (some (-len)) none)) (len + Txt.find b (Txt.slice a (some (-len)) none) + 1) := by
  obtain ⟨i, e, hi, hp, hm⟩ := o_found h hf
  have := o_pos h
  rw [e] at hb ⊢
  rw [o_eq h (by omega) hi] at hb
  exact o_hit h hi hb
theorem o_no (h : OInv a b best len) (hf : Txt.find b (Txt.slice a (some (-len)) none) ≠ -1) (hz : Txt.find b (Txt.slice a (some (-len)) none) ≠ 0) :
    OInv a b best (len + Txt.find b (Txt.slice a (some (-len)) none)) := by
  obtain ⟨i, e, hi, hp, hm⟩ := o_found h hf
  rw [e]
  have hg := o_go h hi hm
  obtain ⟨hl, hne, h0, h1, h2, h3, h4⟩ := h
  exact ⟨hl, hne, h0, by omega, hi, h3, hg⟩
theorem o_less_hit (h : OInv a b best len) (hf : Txt.find b (Txt.slice a (some (-len)) none) ≠ -1)
    (hn : OInv a b (len + Txt.find b (Txt.slice a (some (-len)) none)) (len + Txt.find b (Txt.slice a (some (-len)) none) + 1)) :
    OMea a b (len + Txt.find b (Txt.slice a (some (-len)) none)) (len + Txt.find b (Txt.slice a (some (-len)) none) + 1) < OMea a b best len := by
  obtain ⟨i, e, hi, hp, hm⟩ := o_found h hf
  have h2 := hn.2.2.2.2.1
  unfold OMea
  rw [e] at h2 ⊢
  omega
theorem o_less_zero (h : OInv a b best len) (hf : Txt.find b (Txt.slice a (some (-len)) none) ≠ -1) (hz : Txt.find b (Txt.slice a (some (-len)) none) = 0) :
    OMea a b (len + Txt.find b (Txt.slice a (some (-len)) none)) (len + Txt.find b (Txt.slice a (some (-len)) none) + 1) < OMea a b best len := o_less_hit h hf (o_zero h hf hz)
theorem o_less_yes (h : OInv a b best len) (hf : Txt.find b (Txt.slice a (some (-len)) none) ≠ -1)
    (hb : (Txt.slice a (some (-(len + Txt.find b (Txt.slice a (some (-len)) none)))) none == Txt.slice b none (some (len + Txt.find b (Txt.slice a (some (-len)) none)))) = true) :
    OMea a b (len + Txt.find b (Txt.slice a (some (-len)) none)) (len + Txt.find b (Txt.slice a (some (-len)) none) + 1) < OMea a b best len := o_less_hit h hf (o_yes h hf hb)
theorem o_less_no (h : OInv a b best len) (hf : Txt.find b (Txt.slice a (some (-len)) none) ≠ -1) (hz : Txt.find b (Txt.slice a (some (-len)) none) ≠ 0) :
    OMea a b best (len + Txt.find b (Txt.slice a (some (-len)) none)) < OMea a b best len := by
  obtain ⟨i, e, hi, hp, hm⟩ := o_found h hf
  unfold OMea
  rw [e] at hz ⊢
  omega
theorem o_end (h : OInv a b best len) (hf : Txt.find b (Txt.slice a (some (-len)) none) = -1) : best = (top (pL a b) (sg a).length : Nat) := by
  obtain ⟨hl, hne, h0, h1, h2, h3, h4⟩ := h
  obtain ⟨k, hk⟩ := Int.eq_ofNat_of_zero_le (show 0 ≤ len by omega)
  obtain ⟨q, hq⟩ := Int.eq_ofNat_of_zero_le h0
  subst hk hq
  have hpat := o_pat (a := a) (k := k) (by omega) (by omega)
  have hlen := o_len (a := a) (k := k) (by omega)
  have ht : top (pL a b) (sg a).length = q := by
    refine top_eq (pL_zero a b) (by omega) h3 ?_
    intro j hj hjn
    by_cases hjk : j < k
    · exact h4 j (by omega) (by omega)
    · cases hp : pL a b (j : Int) with
      | false => rfl
      | true =>
        exfalso
        have := o_has (k := k) (j := j) hl (by omega) hjn hp
        rcases find_spec b (Txt.slice a (some (-(k : Int))) none) with ⟨e, hno⟩ | ⟨i, e, _⟩
        · have hx := hno (j - k)
          rw [hpat, hlen] at hx
          exact hx (by omega) this
        · omega
  rw [ht]
end

theorem top_congr {p q : Int → Bool} : ∀ {n : Nat}, (∀ k : Nat, k ≤ n → p (k : Int) = q (k : Int)) → top p n = top q n
  | 0, _ => rfl
  | n + 1, h => by
    unfold top
    rw [h (n + 1) (Nat.le_refl _), top_congr fun k hk => h k (Nat.le_succ_of_le hk)]
section
variable {x y : PySem.Str} {best len : Int}
/-- the three beginnings -/
theorem cutx_sg (h : (y.length : Int) < (x.length : Int)) (hy : (y.length : Int) ≠ 0) : sg (Txt.slice x (some (-(y.length : Int))) none) = (sg x).drop ((sg x).length - (sg y).length) := by
  rw [slice_neg x (by omega), sg_len y]; congr 1
theorem cutx_top (h : (y.length : Int) < (x.length : Int)) (hy : (y.length : Int) ≠ 0) : top (pL (Txt.slice x (some (-(y.length : Int))) none) y) (sg (Txt.slice x (some (-(y.length : Int))) none)).length = top (pL x y) (min x.length y.length) := by
  have e := cutx_sg h hy
  have lx := sg_len x
  have ly := sg_len y
  have el : (sg (Txt.slice x (some (-(y.length : Int))) none)).length = (sg y).length := by rw [e, List.length_drop]; omega
  have en : min x.length y.length = (sg y).length := by omega
  rw [el, en]
  refine top_congr fun k hk => ?_
  rw [Bool.eq_iff_iff, pL_iff (by omega), pL_iff (by omega), el, e, List.drop_drop]
  have : (sg x).length - (sg y).length + ((sg y).length - k) = (sg x).length - k := by omega
  rw [this]
theorem cutx_start (h : (y.length : Int) < (x.length : Int)) (hy : (y.length : Int) ≠ 0) (hne : (Txt.slice x (some (-(y.length : Int))) none == y) = false) : OInv (Txt.slice x (some (-(y.length : Int))) none) y 0 1 := by
  have e := cutx_sg h hy
  have lx := sg_len x
  have ly := sg_len y
  have el : (sg (Txt.slice x (some (-(y.length : Int))) none)).length = (sg y).length := by rw [e, List.length_drop]; omega
  exact o_start el hne (by omega)
theorem cuty_sg : sg (Txt.slice y none (some (x.length : Int))) = (sg y).take (sg x).length := by
  rw [slice_to y (by omega), sg_len x]; congr 1
theorem cuty_top (h : (x.length : Int) < (y.length : Int)) : top (pL x (Txt.slice y none (some (x.length : Int)))) (sg x).length = top (pL x y) (min x.length y.length) := by
  have e := cuty_sg (x := x) (y := y)
  have lx := sg_len x
  have ly := sg_len y
  have en : min x.length y.length = (sg x).length := by omega
  rw [en]
  refine top_congr fun k hk => ?_
  rw [Bool.eq_iff_iff, pL_iff hk, pL_iff hk, e, List.take_take, Nat.min_eq_left hk]
theorem cuty_start (h : (x.length : Int) < (y.length : Int)) (hx : (x.length : Int) ≠ 0) (hne : (x == Txt.slice y none (some (x.length : Int))) = false) : OInv x (Txt.slice y none (some (x.length : Int))) 0 1 := by
  have e := cuty_sg (x := x) (y := y)
  have lx := sg_len x
  have ly := sg_len y
  refine o_start ?_ hne (by omega)
  rw [e, List.length_take]; omega
theorem same_start (h1 : ¬ (y.length : Int) < (x.length : Int)) (h2 : ¬ (x.length : Int) < (y.length : Int)) (hx : (x.length : Int) ≠ 0) (hne : (x == y) = false) : OInv x y 0 1 := by
  have lx := sg_len x
  have ly := sg_len y
  exact o_start (by omega) hne (by omega)
theorem same_top (h1 : ¬ (y.length : Int) < (x.length : Int)) (h2 : ¬ (x.length : Int) < (y.length : Int)) : top (pL x y) (sg x).length = top (pL x y) (min x.length y.length) := by
  have lx := sg_len x
  have e : min x.length y.length = (sg x).length := by omega
  rw [e]
theorem end_x (h : (y.length : Int) < (x.length : Int)) (hy : (y.length : Int) ≠ 0) (hi : OInv (Txt.slice x (some (-(y.length : Int))) none) y best len) (hf : Txt.find y (Txt.slice (Txt.slice x (some (-(y.length : Int))) none) (some (-len)) none) = -1) : best = (top (pL x y) (min x.length y.length) : Nat) := by
  rw [o_end hi hf, cutx_top h hy]
theorem end_y (h : (x.length : Int) < (y.length : Int)) (hi : OInv x (Txt.slice y none (some (x.length : Int))) best len) (hf : Txt.find (Txt.slice y none (some (x.length : Int))) (Txt.slice x (some (-len)) none) = -1) : best = (top (pL x y) (min x.length y.length) : Nat) := by
  rw [o_end hi hf, cuty_top h]
theorem end_s (h1 : ¬ (y.length : Int) < (x.length : Int)) (h2 : ¬ (x.length : Int) < (y.length : Int)) (hi : OInv x y best len) (hf : Txt.find y (Txt.slice x (some (-len)) none) = -1) : best = (top (pL x y) (min x.length y.length) : Nat) := by
  rw [o_end hi hf, same_top h1 h2]
/-- the returns ahead of the loop -/
theorem top_all {p : Int → Bool} {n : Nat} (h : p (n : Int) = true) : top p n = n := by
  cases n with
  | zero => rfl
  | succ n => unfold top; rw [if_pos h]
theorem o_if : (if (y.length : Int) < (x.length : Int) then (y.length : Int) else (x.length : Int)) = (min x.length y.length : Nat) := by
  split <;> omega
theorem eq_x (h : (y.length : Int) < (x.length : Int)) (hy : (y.length : Int) ≠ 0) (he : (Txt.slice x (some (-(y.length : Int))) none == y) = true) : (if (y.length : Int) < (x.length : Int) then (y.length : Int) else (x.length : Int)) = (top (pL x y) (min x.length y.length) : Nat) := by
  have e := cutx_sg h hy
  have lx := sg_len x
  have ly := sg_len y
  rw [beq_sg, beq_iff_eq, e] at he
  rw [o_if, top_all]
  have en : min x.length y.length = (sg y).length := by omega
  rw [en, pL_iff (by omega), he, List.take_of_length_le (Nat.le_refl _)]
theorem eq_y (h : (x.length : Int) < (y.length : Int)) (he : (x == Txt.slice y none (some (x.length : Int))) = true) : (if (y.length : Int) < (x.length : Int) then (y.length : Int) else (x.length : Int)) = (top (pL x y) (min x.length y.length) : Nat) := by
  have e := cuty_sg (x := x) (y := y)
  have lx := sg_len x
  have ly := sg_len y
  rw [beq_sg, beq_iff_eq, e] at he
  rw [o_if, top_all]
  have en : min x.length y.length = (sg x).length := by omega
  rw [en, pL_iff (Nat.le_refl _), Nat.sub_self, List.drop_zero]
  exact he
theorem eq_s (he : (x == y) = true) : (if (y.length : Int) < (x.length : Int) then (y.length : Int) else (x.length : Int)) = (top (pL x y) (min x.length y.length) : Nat) := by
  rw [beq_iff_eq] at he
  subst he
  rw [o_if, top_all]
  have lx := sg_len x
  have en : min x.length x.length = (sg x).length := by omega
  rw [en, pL_iff (Nat.le_refl _), Nat.sub_self, List.drop_zero, List.take_of_length_le (Nat.le_refl _)]
theorem o_zero_x (h : (x.length : Int) = 0) : (0 : Int) = (top (pL x y) (min x.length y.length) : Nat) := by
  have e : min x.length y.length = 0 := by omega
  rw [e]; rfl
theorem o_zero_y (h : (y.length : Int) = 0) : (0 : Int) = (top (pL x y) (min x.length y.length) : Nat) := by
  have e : min x.length y.length = 0 := by omega
  rw [e]; rfl
end
end Mine

namespace Mine
theorem pB_iff {x : PySem.Str} {k : Nat} (hx : k ≤ (sg x).length) : pB x k = true ↔ (sg x).take k = (sg x).drop ((sg x).length - k) := by
  unfold pB
  rw [sg_len] at hx
  rw [beq_sg, slice_to x (by omega), slice_from x (by omega), sg_len]
  have e1 : ((x.length : Int) - k).toNat = x.length - k := by omega
  rw [e1]
  simp
structure OvIs (x1 x2 : PySem.Str) (v : Nat) : Prop where
  eq : v = top (pL x1 x2) (min x1.length x2.length)
/-- the longest proper border of a text, as diff_commonOverlap tells it -/
theorem ov_border {u : PySem.Str} {v : Nat} (hu : 1 ≤ u.length) (h : OvIs (Txt.slice u (some 1) none) u v) :
    v < (sg u).length ∧ (sg u).take v = (sg u).drop ((sg u).length - v) ∧ ∀ k, v < k → k < (sg u).length → (sg u).take k ≠ (sg u).drop ((sg u).length - k) := by
  have e := h.eq
  have lu := sg_len u
  have hs : sg (Txt.slice u (some 1) none) = (sg u).drop 1 := slice_from u (by decide)
  have hl : (sg (Txt.slice u (some 1) none)).length = (sg u).length - 1 := by rw [hs, List.length_drop]
  have hl' : (Txt.slice u (some 1) none).length = (sg u).length - 1 := by rw [← sg_len, hl]
  have hm : min (Txt.slice u (some 1) none).length u.length = (sg u).length - 1 := by omega
  rw [hm] at e
  have key : ∀ k, k ≤ (sg u).length - 1 → (pL (Txt.slice u (some 1) none) u (k : Int) = true ↔ (sg u).take k = (sg u).drop ((sg u).length - k)) := by
    intro k hk
    rw [pL_iff (by omega), hl, hs, List.drop_drop]
    have e1 : 1 + ((sg u).length - 1 - k) = (sg u).length - k := by omega
    rw [e1]
    exact eq_comm
  have hle := top_le (pL (Txt.slice u (some 1) none) u) ((sg u).length - 1)
  have hh := top_holds (pL_zero (Txt.slice u (some 1) none) u) ((sg u).length - 1)
  rw [← e] at hle hh
  refine ⟨by omega, (key v hle).mp hh, fun k h1 h2 hk => ?_⟩
  have := le_top (p := pL (Txt.slice u (some 1) none) u) (n := (sg u).length - 1) (k := k) (by omega) ((key k (by omega)).mpr hk)
  omega

theorem stepKs_add (a c : Int) (i j : Nat) : stepKs a c (i + j) = stepKs a c i ++ stepKs (a + (i : Int) * c) c j := by
  unfold stepKs
  rw [List.range_add, List.map_append, List.map_map]
  congr 1
  apply List.map_congr_left
  intro k _
  show a + ((i + k : Nat) : Int) * c = a + (i : Int) * c + (k : Int) * c
  rw [show ((i + k : Nat) : Int) = (i : Int) + (k : Int) by omega, Int.add_mul]
  omega
theorem stepKs_one (a c : Int) : stepKs a c 1 = [a] := by simp [stepKs]

/-- the word of the law's second loop -/
def LInv (left : PySem.Str) (t : Nat) (rest : PySem.Str) (found : List Int) : Prop :=
  ∃ r : Nat, r + t ≤ left.length ∧ sg rest = (sg left).take r ∧ (r = left.length ∨ pB left (r : Int) = true) ∧ found = (stepKs ((left.length : Int) - 1) (-1) (left.length - r)).filter (pB left) ∧ found.length ≤ t
section
variable {left rest : PySem.Str} {found : List Int} {t : Nat}
theorem linv_start : LInv left 0 left [] := by
  refine ⟨left.length, by omega, ?_, .inl rfl, ?_, by simp⟩
  · rw [List.take_of_length_le]; rw [sg_len]; omega
  · rw [Nat.sub_self]; rfl
theorem linv_skip (h : LInv left t rest found) (hlt : t < left.length) (he : (rest != PySem.Str.ofString "") = false) : LInv left (t + 1) rest found := by
  obtain ⟨r, h1, h2, h3, h4, h5⟩ := h
  have lr := sg_len rest
  have ll := sg_len left
  have hr0 : rest.length = 0 := by
    have e : rest = PySem.Str.ofString "" := by simpa using he
    rw [e]; decide +kernel
  have : ((sg left).take r).length = 0 := by rw [← h2, lr, hr0]
  rw [List.length_take] at this
  have hr : r = 0 := by omega
  exact ⟨r, by omega, h2, h3, h4, by omega⟩
theorem linv_go {v : Nat} (h : LInv left t rest found) (hlt : t < left.length) (hne : (rest != PySem.Str.ofString "") = true) (ov : OvIs (Txt.slice rest (some 1) none) rest v) :
    LInv left (t + 1) (Txt.slice left none (some (v : Int))) (found ++ [(v : Int)]) := by
  obtain ⟨r, h1, h2, h3, h4, h5⟩ := h
  have lr := sg_len rest
  have ll := sg_len left
  have hu := ne_len hne
  obtain ⟨b1, b2, b3⟩ := ov_border hu ov
  have hlr : (sg rest).length = r := by rw [h2, List.length_take]; omega
  have hdrop : sg rest = (sg left).drop ((sg left).length - r) := by
    rw [h2]
    rcases h3 with e | e
    · rw [e, ← ll, Nat.sub_self, List.drop_zero, List.take_of_length_le (Nat.le_refl _)]
    · exact (pB_iff (by omega)).mp e
  have htake : ∀ k, k ≤ r → (sg rest).take k = (sg left).take k := by
    intro k hk
    rw [h2, List.take_take, Nat.min_eq_left hk]
  have hdr : ∀ k, k ≤ r → (sg rest).drop (r - k) = (sg left).drop ((sg left).length - k) := by
    intro k hk
    rw [hdrop, List.drop_drop]
    congr 1
    omega
  rw [hlr] at b1 b2 b3
  refine ⟨v, by omega, ?_, .inr ?_, ?_, ?_⟩
  · rw [slice_to left (by omega)]; rfl
  · rw [pB_iff (by omega), ← htake v (by omega), b2, hdr v (by omega)]
  · have e1 : left.length - v = (left.length - r) + ((r - v - 1) + 1) := by omega
    rw [e1, stepKs_add, stepKs_add, List.filter_append, List.filter_append, ← h4]
    have e2 : ((left.length : Int) - 1 + ((left.length - r : Nat) : Int) * -1) = (r : Int) - 1 := by omega
    have e3 : (r : Int) - 1 + ((r - v - 1 : Nat) : Int) * -1 = (v : Int) := by omega
    rw [e2, e3, stepKs_one]
    have hv : pB left (v : Int) = true := by rw [pB_iff (by omega), ← htake v (by omega), b2, hdr v (by omega)]
    have f1 : [(v : Int)].filter (pB left) = [(v : Int)] := by simp [hv]
    have f2 : (stepKs ((r : Int) - 1) (-1) (r - v - 1)).filter (pB left) = [] := by
      rw [List.filter_eq_nil_iff]
      intro k hk
      obtain ⟨i, hi, e⟩ := mem_stepKs hk
      obtain ⟨q, hq⟩ := Int.eq_ofNat_of_zero_le (show 0 ≤ k by omega)
      subst hq
      rw [pB_iff (by omega), ← htake q (by omega), ← hdr q (by omega)]
      exact b3 q (by omega) (by omega)
    rw [f1, f2, List.nil_append]
  · rw [List.length_append]; simp; omega
theorem linv_end (h : LInv left (rangeKs 0 ((left.length : Int) - 0).toNat).length rest found) : found = (stepKs ((left.length : Int) - 1) (-1) ((left.length : Int) - 1 - -1).toNat).filter (pB left) := by
  obtain ⟨r, h1, h2, h3, h4, h5⟩ := h
  rw [rangeKs_length] at h1
  have hr : r = 0 := by omega
  subst hr
  rw [h4]
  congr 2
  omega
end
end Mine

namespace Mine
/-- d is a period of w -/
def Per (w : List Nat) (d : Nat) : Prop := w.drop d = w.take (w.length - d)
theorem per_at {w : List Nat} {d : Nat} (h : Per w d) {i : Nat} (hi : i + d < w.length) : w[i]? = w[i + d]? := by
  have e1 : (w.drop d)[i]? = w[d + i]? := List.getElem?_drop
  have e2 : (w.take (w.length - d))[i]? = w[i]? := List.getElem?_take_of_lt (by omega)
  rw [← e2, ← h, e1, Nat.add_comm]
theorem per_of {w : List Nat} {d : Nat} (h : ∀ i, i + d < w.length → w[i]? = w[i + d]?) : Per w d := by
  unfold Per
  apply List.ext_getElem?
  intro i
  rw [List.getElem?_drop]
  by_cases hi : i + d < w.length
  · rw [List.getElem?_take_of_lt (by omega), h i hi, Nat.add_comm]
  · rw [List.getElem?_eq_none (by omega), List.getElem?_eq_none (by rw [List.length_take]; omega)]
theorem per_border {w : List Nat} {k : Nat} (hk : k ≤ w.length) : Per w (w.length - k) ↔ w.take k = w.drop (w.length - k) := by
  unfold Per
  have e : w.length - (w.length - k) = k := by omega
  rw [e]
  exact eq_comm
/-- of two periods that go together into the length, their difference is one -/
theorem per_sub {w : List Nat} {p q : Nat} (hp : Per w p) (hq : Per w q) (hpq : p ≤ q) (hl : p + q ≤ w.length) : Per w (q - p) := by
  apply per_of
  intro i hi
  by_cases h1 : i + q < w.length
  · rw [per_at hq h1]
    have := per_at hp (i := i + (q - p)) (by omega)
    rw [this]
    congr 1
    omega
  · have h2 : p ≤ i := by omega
    have e1 := per_at hp (i := i - p) (by omega)
    have e2 := per_at hq (i := i - p) (by omega)
    have e3 : i - p + p = i := by omega
    have e4 : i - p + q = i + (q - p) := by omega
    rw [e3] at e1
    rw [e4] at e2
    rw [← e1, e2]
theorem per_mod {w : List Nat} {p : Nat} (hp : Per w p) (hp1 : 1 ≤ p) : ∀ (q : Nat), Per w q → p + q ≤ w.length → Per w (q % p) := by
  intro q
  induction q using Nat.strongRecOn with
  | ind q ih =>
    intro hq hl
    by_cases h : q < p
    · rw [Nat.mod_eq_of_lt h]; exact hq
    · have hs := per_sub hp hq (by omega) hl
      have := ih (q - p) (by omega) hs (by omega)
      rwa [Nat.mod_eq_sub_mod (by omega)]
theorem rep_per {w : List Nat} {k m : Nat} (hk : w.length = k * m) (hm : 1 ≤ m) : (List.replicate m (w.take k)).flatten = w ↔ Per w k := by
  have hkl : k ≤ w.length := by
    rw [hk]
    exact Nat.le_mul_of_pos_right k hm
  constructor
  · intro h
    obtain ⟨j, rfl⟩ : ∃ j, m = j + 1 := ⟨m - 1, by omega⟩
    have hul : (w.take k).length = k := by rw [List.length_take]; omega
    have e1 : w = w.take k ++ (List.replicate j (w.take k)).flatten := by
      conv => lhs; rw [← h]
      rw [List.replicate_succ, List.flatten_cons]
    have e2 : w = (List.replicate j (w.take k)).flatten ++ w.take k := by
      conv => lhs; rw [← h]
      rw [List.replicate_succ', List.flatten_append, List.flatten_singleton]
    unfold Per
    have d1 : w.drop k = (List.replicate j (w.take k)).flatten := by
      conv => lhs; rw [e1]
      rw [List.drop_append_of_le_length (by omega), List.drop_of_length_le (by omega), List.nil_append]
    have l1 : (List.replicate j (w.take k)).flatten.length = w.length - k := by rw [← d1, List.length_drop]
    have e5 : w.take (w.length - k) = ((List.replicate j (w.take k)).flatten ++ w.take k).take (w.length - k) := congrArg (List.take (w.length - k)) e2
    rw [d1, e5, ← l1, List.take_left]
  · intro h
    clear hkl
    induction m generalizing w with
    | zero => omega
    | succ j ih =>
      by_cases hj : j = 0
      · subst hj
        simp only [Nat.zero_add, Nat.mul_one] at hk
        simp only [Nat.zero_add, List.replicate_one, List.flatten_singleton]
        exact List.take_of_length_le (by omega)
      · have hkm : k * (j + 1) = k * j + k := by rw [Nat.mul_succ]
        have hkj : k ≤ k * j := Nat.le_mul_of_pos_right k (by omega)
        have hd : w.drop k = w.take (w.length - k) := h
        have hl : (w.drop k).length = k * j := by rw [List.length_drop]; omega
        have ht : (w.drop k).take k = w.take k := by
          rw [hd, List.take_take, Nat.min_eq_left (by omega)]
        have hp : Per (w.drop k) k := by
          apply per_of
          intro i hi
          rw [List.getElem?_drop, List.getElem?_drop]
          have := per_at h (i := k + i) (by omega)
          rw [this]
          congr 1
          omega
        have := ih hl (by omega) hp
        rw [ht] at this
        rw [List.replicate_succ, List.flatten_cons, this]
        exact List.take_append_drop k w

theorem foldl_app (m : Nat) (c : Array Nat) (acc : Array Nat) : ((List.replicate m c).foldl (· ++ ·) acc).toList = acc.toList ++ (List.replicate m c.toList).flatten := by
  induction m generalizing acc with
  | zero => simp
  | succ m ih =>
    rw [List.replicate_succ, List.foldl_cons, ih, List.replicate_succ, List.flatten_cons, Array.toList_append, List.append_assoc]
theorem mul_sg (x : PySem.Str) {k : Int} (h : 1 ≤ k) : sg (Txt.mul x k) = (List.replicate k.toNat (sg x)).flatten := by
  unfold Txt.mul
  rw [if_neg (by omega)]
  split
  · rename_i h1
    simp only [Bool.or_eq_true, beq_iff_eq] at h1
    rcases h1 with h1 | h1
    · subst h1
      simp
    · have e : sg x = [] := List.eq_nil_of_length_eq_zero (by rw [sg_len]; exact h1)
      rw [e]
      simp
  · show ((List.replicate k.toNat x.cps).foldl (· ++ ·) #[]).toList = _
    rw [foldl_app]
    rfl
theorem pR_iff {x : PySem.Str} {k : Nat} (h1 : 1 ≤ k) (hk : k ≤ x.length) : pR x (k : Int) = true ↔ x.length % k = 0 ∧ Per (sg x) k := by
  unfold pR
  have lx := sg_len x
  have e1 : (x.length : Int).fmod (k : Int) = ((x.length % k : Nat) : Int) := by rw [Int.fmod_eq_emod_of_nonneg _ (by omega)]; rfl
  have e2 : (x.length : Int).fdiv (k : Int) = ((x.length / k : Nat) : Int) := by rw [Int.fdiv_eq_ediv_of_nonneg _ (by omega)]; rfl
  rw [e1, e2, Bool.and_eq_true, decide_eq_true_iff]
  have e3 : (((x.length % k : Nat) : Int) = 0) ↔ x.length % k = 0 := by omega
  rw [e3]
  apply and_congr_right
  intro hm
  have hd : x.length = k * (x.length / k) := by
    have := Nat.div_add_mod x.length k
    omega
  have hp : 1 ≤ x.length / k := Nat.div_pos hk (by omega)
  rw [beq_sg, beq_iff_eq, mul_sg _ (by omega), slice_to x (by omega)]
  show (List.replicate (x.length / k) ((sg x).take k)).flatten = sg x ↔ _
  exact rep_per (by rw [lx]; exact hd) hp

theorem root_least {x : PySem.Str} {r : Int} (h : RootIs x r) : ∃ q : Nat, r = (q : Int) ∧ 1 ≤ q ∧ q ≤ x.length ∧ pR x (q : Int) = true ∧ ∀ k : Nat, 1 ≤ k → k < q → pR x (k : Int) = false := by
  have e := h.eq
  have key : ∀ (n : Nat) (r : Int), ((stepKs 1 1 n).filter (pR x)).head? = some r → ∃ q : Nat, r = (q : Int) ∧ 1 ≤ q ∧ q ≤ n ∧ pR x (q : Int) = true ∧ ∀ k : Nat, 1 ≤ k → k < q → pR x (k : Int) = false := by
    intro n
    induction n with
    | zero => intro r h; simp [stepKs] at h
    | succ n ih =>
      intro r h
      rw [stepKs_add, List.filter_append, List.head?_append] at h
      cases hh : ((stepKs 1 1 n).filter (pR x)).head? with
      | some r' =>
        rw [hh] at h
        simp only [Option.or_some, Option.some_or] at h
        obtain ⟨q, a, b, c, d, e⟩ := ih r' hh
        have h' : r' = r := by simpa using h
        subst h'
        exact ⟨q, a, b, by omega, d, e⟩
      | none =>
        rw [hh] at h
        have hnil : (stepKs 1 1 n).filter (pR x) = [] := by simpa using hh
        have e1 : (1 : Int) + (n : Int) * 1 = ((n + 1 : Nat) : Int) := by omega
        rw [e1, stepKs_one] at h
        cases hp : pR x ((n + 1 : Nat) : Int) with
        | false =>
          rw [List.filter_cons_of_neg (by rw [hp]; decide)] at h
          simp at h
        | true =>
          rw [List.filter_cons_of_pos hp] at h
          have hr : ((n + 1 : Nat) : Int) = r := by
            simp only [List.head?_cons, Option.none_or] at h
            exact Option.some.inj h
          refine ⟨n + 1, hr.symm, by omega, by omega, hp, fun k h1 h2 => ?_⟩
          rw [List.filter_eq_nil_iff] at hnil
          have hm := stepKs_mem (a := 1) (c := 1) (n := n) (i := k - 1) (by omega)
          have e2 : (1 : Int) + ((k - 1 : Nat) : Int) * 1 = (k : Int) := by omega
          rw [e2] at hm
          have := hnil _ hm
          simpa using this
  exact key _ _ e
section
variable {y : PySem.Str} {v : Nat} {r : Int}
theorem step_per (hv : OvIs (Txt.slice y (some 1) none) y v) (h1 : v < y.length) : Per (sg y) ((sg y).length - v) ∧ ∀ d, 1 ≤ d → d < (sg y).length - v → ¬ Per (sg y) d := by
  have ly := sg_len y
  obtain ⟨b1, b2, b3⟩ := ov_border (by omega) hv
  refine ⟨(per_border (by omega)).mpr b2, fun d hd1 hd2 hp => ?_⟩
  have e : (sg y).length - ((sg y).length - d) = d := by omega
  have := (per_border (w := sg y) (k := (sg y).length - d) (by omega)).mp (by rw [e]; exact hp)
  exact b3 _ (by omega) (by omega) this
theorem root_end1 (hv : OvIs (Txt.slice y (some 1) none) y v) (h1 : v < y.length) (hR : RootIs y r) (h0 : (y.length : Int).fmod ((y.length : Int) - (v : Int)) = 0) : Value.bool (r == (y.length : Int) - (v : Int)) = .bool true := by
  have ly := sg_len y
  obtain ⟨q, e, q1, q2, q3, q4⟩ := root_least hR
  obtain ⟨p1, p2⟩ := step_per hv h1
  have es : (y.length : Int) - (v : Int) = ((y.length - v : Nat) : Int) := by omega
  rw [es] at h0 ⊢
  rw [Int.fmod_eq_emod_of_nonneg _ (by omega)] at h0
  have hm : y.length % (y.length - v) = 0 := by
    have : ((y.length % (y.length - v) : Nat) : Int) = 0 := h0
    omega
  rw [ly] at p1 p2
  have hs : pR y ((y.length - v : Nat) : Int) = true := (pR_iff (by omega) (by omega)).mpr ⟨hm, p1⟩
  have hq := (pR_iff q1 q2).mp q3
  have : q = y.length - v := by
    rcases Nat.lt_trichotomy q (y.length - v) with h | h | h
    · exact absurd hq.2 (p2 q q1 h)
    · exact h
    · have := q4 _ (by omega) h
      rw [hs] at this
      cases this
  rw [e, this]
  simp
theorem root_end2 (hv : OvIs (Txt.slice y (some 1) none) y v) (h1 : v < y.length) (hR : RootIs y r) (h0 : ¬ (y.length : Int).fmod ((y.length : Int) - (v : Int)) = 0) : Value.bool (r == (y.length : Int)) = .bool true := by
  have ly := sg_len y
  obtain ⟨q, e, q1, q2, q3, q4⟩ := root_least hR
  obtain ⟨p1, p2⟩ := step_per hv h1
  have es : (y.length : Int) - (v : Int) = ((y.length - v : Nat) : Int) := by omega
  rw [es] at h0
  rw [Int.fmod_eq_emod_of_nonneg _ (by omega)] at h0
  have hm : y.length % (y.length - v) ≠ 0 := by
    intro hz
    apply h0
    have : ((y.length % (y.length - v) : Nat) : Int) = 0 := by omega
    exact this
  rw [ly] at p1 p2
  obtain ⟨hqm, hqp⟩ := (pR_iff q1 q2).mp q3
  have : q = y.length := by
    apply Nat.le_antisymm q2
    apply Nat.le_of_not_lt
    intro hlt
    have hsq : y.length - v ≤ q := by
      apply Nat.le_of_not_lt
      intro h
      exact p2 q q1 h hqp
    have hd : y.length = q * (y.length / q) := by
      have := Nat.div_add_mod y.length q
      omega
    have h2 : 2 ≤ y.length / q := by
      apply Nat.le_of_not_lt
      intro h
      have h3 : y.length / q ≤ 1 := by omega
      have h4 := Nat.mul_le_mul_left q h3
      omega
    have h2q : 2 * q ≤ y.length := by
      have h4 := Nat.mul_le_mul_left q h2
      omega
    have hmod := per_mod p1 (by omega) q hqp (by rw [ly]; omega)
    by_cases hz : q % (y.length - v) = 0
    · apply hm
      have d1 : (y.length - v) ∣ q := Nat.dvd_of_mod_eq_zero hz
      have d2 : q ∣ y.length := Nat.dvd_of_mod_eq_zero hqm
      exact Nat.mod_eq_zero_of_dvd (Nat.dvd_trans d1 d2)
    · exact p2 _ (by omega) (Nat.mod_lt _ (by omega)) hmod
  rw [e, this]
  simp
end
end Mine

namespace Mine
abbrev TC (w : World) (loose : List PySem.Str) (mean : ExcName → Option Value) (mg mb : PySem.Str → Option Value) (f : Addr) (news : List (Addr × Obj)) (pre : Prop) (vs : List Value) (R : Tok → Value) : Prop :=
  CbClaim PySem.Challenge.rw_nc0015_08.row.prog w (Mine.hd.heap_39 w.params) Mine.hd.view_39 loose mean mg mb f news [] pre vs R
theorem prefix_c (w : World) (loose : List PySem.Str) (mean : ExcName → Option Value) (mg mb : PySem.Str → Option Value) (news : List (Addr × Obj)) (x : Addr) (x1 x2 : PySem.Str) (t1 t2 : Tok) :
    TC w loose mean mg mb 71 news (x1.length ≤ 1000 ∧ x2.length ≤ 1000) [.ref x, .str x1 t1, .str x2 t2] (fun t => .int (top (pH x1 x2) (min x1.length x2.length) : Nat) t) := by
  k_with_none
  w_on
  dsimp only [TC, CbClaim, CbLists, CbRet]
  k_fill
  intro dp un gd cn cs a ccd cl outer A₀ base h₀ L m s Q E B F X N T hk hp hd hu hret
  obtain ⟨hp1, hp2⟩ := hp
  k_with "exec While Compare cons nil" => k_while_given ["text1", "text2"] (fun a b _ mn mx md st => PInv a b mn mx md st) (fun _ _ _ mn mx md _ => BMea mn mx md) "pointermin" "pointermax" "pointermid" "pointerstart"
  k_with "state" => (first | exact p_start (by assumption) (by assumption) | exact p_yes (by assumption) (by assumption) (by assumption) | exact p_no (by assumption) (by assumption) (by assumption))
  k_with "measure" => (first | exact p_less_yes (by assumption) (by assumption) | exact p_less_no (by assumption) (by assumption))
  refine wpAny_call ?_
  k_dflt cell_enter
  k_steps
  all_goals (refine' cb_retI (Q := Q) hret ?e1 ?e2 ?e3; (case e2 => k_asm); (case e3 => k_asm); (case e1 => first | exact p_end (by assumption) (by assumption) | exact p_zero_x (by assumption) | exact p_zero_y (by assumption) | exact p_zero_1 (by assumption) (by assumption) (by assumption)))
theorem suffix_c (w : World) (loose : List PySem.Str) (mean : ExcName → Option Value) (mg mb : PySem.Str → Option Value) (news : List (Addr × Obj)) (x : Addr) (x1 x2 : PySem.Str) (t1 t2 : Tok) :
    TC w loose mean mg mb 78 news (x1.length ≤ 1000 ∧ x2.length ≤ 1000) [.ref x, .str x1 t1, .str x2 t2] (fun t => .int (top (pE x1 x2) (min x1.length x2.length) : Nat) t) := by
  k_with_none
  w_on
  dsimp only [TC, CbClaim, CbLists, CbRet]
  k_fill
  intro dp un gd cn cs a ccd cl outer A₀ base h₀ L m s Q E B F X N T hk hp hd hu hret
  obtain ⟨hp1, hp2⟩ := hp
  k_with "exec While Compare cons nil" => k_while_given ["text1", "text2"] (fun a b _ mn mx md st => SInv a b mn mx md st) (fun _ _ _ mn mx md _ => BMea mn mx md) "pointermin" "pointermax" "pointermid" "pointerend"
  k_with "state" => (first | exact s_start (by assumption) (by assumption) | exact s_yes (by assumption) (by assumption) (by assumption) | exact s_no (by assumption) (by assumption) (by assumption))
  k_with "measure" => (first | exact s_less_yes (by assumption) (by assumption) | exact s_less_no (by assumption) (by assumption))
  refine wpAny_call ?_
  k_dflt cell_enter
  k_steps
  all_goals (refine' cb_retI (Q := Q) hret ?e1 ?e2 ?e3; (case e2 => k_asm); (case e3 => k_asm); (case e1 => first | exact s_end (by assumption) (by assumption) | exact s_zero_x (by assumption) | exact s_zero_y (by assumption) | exact s_zero_1 (by assumption) (by assumption) (by assumption)))
end Mine

namespace Mine
theorem overlap_c (w : World) (loose : List PySem.Str) (mean : ExcName → Option Value) (mg mb : PySem.Str → Option Value) (news : List (Addr × Obj)) (x : Addr) (x1 x2 : PySem.Str) (t1 t2 : Tok) :
    TC w loose mean mg mb 85 news (x1.length ≤ 1000 ∧ x2.length ≤ 1000) [.ref x, .str x1 t1, .str x2 t2] (fun t => .int (top (pL x1 x2) (min x1.length x2.length) : Nat) t) := by
  k_with_none
  w_on
  dsimp only [TC, CbClaim, CbLists, CbRet]
  k_fill
  intro dp un gd cn cs a ccd cl outer A₀ base h₀ L m s Q E B F X N T hk hp hd hu hret
  obtain ⟨hp1, hp2⟩ := hp
  k_with "exec While" => k_while_given ["text1", "text2"] (fun a b _ x y => OInv a b x y) (fun a b _ x y => OMea a b x y) "best" "length"
  k_with "exec While Constant cons nil" => k_while_given ["text1", "text2"] (fun a b _ x y => OInv a b x y) (fun a b _ x y => OMea a b x y) "best" "length"
  k_with "state" => (first | exact cutx_start (by assumption) (by assumption) (by assumption) | exact cuty_start (by assumption) (by assumption) (by assumption) | exact same_start (by assumption) (by assumption) (by assumption) (by assumption) | exact o_zero (by assumption) (by assumption) (by assumption) | exact o_yes (by assumption) (by assumption) (by assumption) | exact o_no (by assumption) (by assumption) (by assumption))
  k_with "measure" => (first | exact o_less_zero (by assumption) (by assumption) (by assumption) | exact o_less_yes (by assumption) (by assumption) (by assumption) | exact o_less_no (by assumption) (by assumption) (by assumption))
  refine wpAny_call ?_
  k_dflt cell_enter
  k_steps
  all_goals (refine' cb_retI (Q := Q) hret ?e1 ?e2 ?e3; (case e2 => k_asm); (case e3 => k_asm); (case e1 => first | exact end_x (by assumption) (by assumption) (by assumption) (by assumption) | exact end_y (by assumption) (by assumption) (by assumption) | exact end_s (by assumption) (by assumption) (by assumption) (by assumption) | exact o_zero_x (by assumption) | exact o_zero_y (by assumption) | exact eq_x (by assumption) (by assumption) (by assumption) | exact eq_y (by assumption) (by assumption) | exact eq_s (by assumption)))
end Mine

namespace Mine
theorem allLt_mem {d : Addr} : ∀ {l : List (Addr × Obj)}, AllLt d l → ∀ p ∈ l, p.1 < d
  | [], _, p, hp => nomatch hp
  | _ :: _, h, p, hp => by
    rcases List.mem_cons.mp hp with rfl | hp
    · exact h.1
    · exact allLt_mem h.2 p hp
theorem keep_one {news : List (Addr × Obj)} {x a b c d e f : Addr × Obj} : ∀ p ∈ x :: news, p ∈ x :: a :: b :: c :: d :: e :: f :: news := by
  intro p hp
  rcases List.mem_cons.mp hp with rfl | hp
  · exact .head _
  · exact .tail _ (.tail _ (.tail _ (.tail _ (.tail _ (.tail _ (.tail _ hp))))))
section
structure MMark (x1 x2 : PySem.Str) : Prop where
abbrev pHead {x1 x2 : PySem.Str} (_ : MMark x1 x2) : Int → Bool := pH x1 x2
abbrev pEnd {x1 x2 : PySem.Str} (_ : MMark x1 x2) : Int → Bool := pE x1 x2
abbrev pLap {x1 x2 : PySem.Str} (_ : MMark x1 x2) : Int → Bool := pL x1 x2
abbrev mmN {x1 x2 : PySem.Str} (_ : MMark x1 x2) : Nat := min x1.length x2.length
theorem stepP {i : Nat} {v : Value} (h : ∃ t, v = .int ((0 : Int) + (i : Int)) t) : ∃ t, v = .int ((0 : Int) + (i : Int) * 1) t := by
  obtain ⟨t, e⟩ := h
  exact ⟨t, by rw [e, Int.mul_one]⟩
local macro_rules | `(tactic| walk_at "call type:range") => `(tactic| (k_here; (rename MMark _ _ => mM'); (with_reducible show wpAny _ _ (call _ [Value.int _ _]) _ _ _); k_dflt (refine' range_led ?k1 ?k2 ?_; (case k1 => k_asm); (case k2 => k_asm); k_whole); intro r' h' tk' t1' v1' F' N' l1; (try k_lt l1); (try k_sweep)))
local macro_rules | `(tactic| walk_at "exec Assign cons ListComp") => `(tactic| (k_here; (rename MMark _ _ => mM'); k_dflt (refine LCt.Assign_ListComp_T (F₀ := by k_asm) (by rfl) (by with_unfolding_all rfl) (by with_unfolding_all rfl) (by decide) (by rfl) (by decide) (by rfl) (by rfl) (by rfl) ?_)))
local macro_rules | `(tactic| walk_at "CompSrcT") => `(tactic| (k_here; (rename MMark _ _ => mM'); k_dflt (refine LCt.CompSrcT.range (by rfl) (by k_asm) (by k_asm) (by exact News.get (by k_asm) (by k_mem)) (by exact small_one (by omega) (by omega) (by omega) (by omega)) (by exact rangeSize_nat _ _) (by rw [PySem.sizeLine_eq]; omega) ?_); intro g'; (first | (((with_reducible show LCt.CompRestT _ _ _ _ _ _ _ (Expr.Compare (Expr.Subscript _ (Expr.Slice none _ _ _) _) _ _ _) _ _ _ _ _ _ _ _ _ _ _ _)); k_dflt (refine' filt_rest (fun i v h => stepP h) (pHead mM') (by rfl) (fun C => by rfl) (by decide) (fun i' k' t' I' oI' C' oC' D' m' ys' h' tk' E' hlo' hk' hC' hx' F' N' => ?_) ?_)) | (((with_reducible show LCt.CompRestT _ _ _ _ _ _ _ (Expr.Compare (Expr.Subscript _ (Expr.Slice _ none _ _) _) _ [Expr.Subscript _ (Expr.Slice _ none _ _) _] _) _ _ _ _ _ _ _ _ _ _ _ _)); k_dflt (refine' filt_rest (fun i v h => stepP h) (pEnd mM') (by rfl) (fun C => by rfl) (by decide) (fun i' k' t' I' oI' C' oC' D' m' ys' h' tk' E' hlo' hk' hC' hx' F' N' => ?_) ?_)) | (k_dflt (refine' filt_rest (fun i v h => stepP h) (pLap mM') (by rfl) (fun C => by rfl) (by decide) (fun i' k' t' I' oI' C' oC' D' m' ys' h' tk' E' hlo' hk' hC' hx' F' N' => ?_) ?_)))))
local macro_rules | `(tactic| walk_at "FTurn") => `(tactic| (refine fturn_end ?e ?f ?n; (case f => k_asm); (case n => k_asm); (case e => rfl)))
local macro_rules | `(tactic| walk_at "forall") => `(tactic| ((rename MMark _ _ => mM'); (with_reducible show ∀ ys, IntsAre ys _ → _); intro ys' hys' hlen'))
local macro_rules | `(tactic| walk_at "call builtin:max") => `(tactic| (k_here; (rename MMark _ _ => mM'); k_dflt (refine' max_filt (N := mmN mM') ?k1 ?k2 ?k3 ?k4 ?k5 ?k6 ?k7 ?_; (case k1 => k_asm); (case k2 => k_asm); (case k3 => k_mem); (case k4 => assumption); (case k5 => (dsimp only [mmN]; split <;> omega)); (case k6 => first | exact pH_zero _ _ | exact pE_zero _ _ | exact pL_zero _ _); (case k7 => rfl)); intro h' t' tk' F' N'; (try k_sweep)))


abbrev MostClaim (w : World) (loose : List PySem.Str) (mean : ExcName → Option Value) (mg mb : PySem.Str → Option Value) (news : List (Addr × Obj)) (x1 x2 : PySem.Str) (t1 t2 : Tok) : Prop :=
  ∀ (dp un : Nat) (gd : Option (List Code)) (cn : PySem.Str) (cs : Scope) (a : Addr) (ccd : Value) (cl : List (PySem.Str × Addr)) (outer : List Env) (A₀ : Around) (base h₀ : Heap) (L : Addr) (m : PySem.Str → Option Value) (s : Shared) (Q E : Value → Shared → Prop),
    Below A₀ base outer h₀ → Fr h₀ L s.heap m → (Mine.hd.heap_39 w.params).In h₀ → News h₀ L s.heap news → Top Mine.hd.view_39 loose mean mg mb h₀ → cs.kind = .function → (x1.length ≤ 1000 ∧ x2.length ≤ 1000) → dp + 1 < recursionLimit → un + 8 < cLine →
    (∀ (D : Addr) (ta tb tc : Tok) (h' : Heap) (tk' : Nat), Fr h₀ L h' m →
      News h₀ L h' ((D, PySem.W.listOf #[.int (top (pH x1 x2) (min x1.length x2.length) : Nat) ta, .int (top (pE x1 x2) (min x1.length x2.length) : Nat) tb, .int (top (pL x1 x2) (min x1.length x2.length) : Nat) tc] 0) :: news) → (∀ p ∈ news, p.1 < D) → Q (.ref D) { s with heap := h', toks := tk' }) →
    wpAny (model PySem.Challenge.rw_nc0015_08.row.prog w) (ktrTop dp un gd cn cs L a ccd cl outer) (call (.ref 146) [.str x1 t1, .str x2 t2]) Q E s
theorem most_c (w : World) (loose : List PySem.Str) (mean : ExcName → Option Value) (mg mb : PySem.Str → Option Value) (news : List (Addr × Obj)) (x1 x2 : PySem.Str) (t1 t2 : Tok) :
    MostClaim w loose mean mg mb news x1 x2 t1 t2 := by
  k_with_none
  w_on
  dsimp only [MostClaim]
  k_fill
  intro dp un gd cn cs a ccd cl outer A₀ base h₀ L m s Q E B F X N T hk hp hd hu hret
  obtain ⟨hp1, hp2⟩ := hp
  have hM : MMark x1 x2 := ⟨⟩
  refine wpAny_call ?_
  k_dflt ((refine' code_defC ?k1 ?k2 ?k3 ?k4 ?k5 ?kA ?kF ?kK ?k6 ?k7 ?k8 ?k9 ?kB ?kD ?_ ?c2 ?c3 ?c4; (case kA => exact rfl); (case kF => exact rfl); (case kK => assumption); (case k1 => k_asm); (case k2 => k_asm); (case k3 => k_asm); (case k4 => k_asm); (case k5 => k_asm); (case k6 => k_is); (case k7 => k_is); (case k8 => ktr_room); (case k9 => exact BindsTo.of_eq rfl); (case kB => exact rfl); (case kD => decide +kernel); (case c2 => exact rfl); (case c3 => exact rfl); (case c4 => exact rfl); k_whole; intro g' L' h' tk' cells' FG' F' N' Y' B' X' T' l1; (try k_lt l1); k_cells Y'; (try simp only [List.cons_append, List.nil_append] at N'); (try dsimp only); (try k_lift B'); (try k_fold)))
  k_steps
  all_goals ((rename News h₀ L _ (_ :: _) => nEnd); (rename (_ < _) ∧ (_ < _) ∧ (_ < _) ∧ (_ < _) ∧ (_ < _) ∧ (_ < _) ∧ AllLt _ _ => lEnd); exact hret _ _ _ _ _ _ (by k_asm) (cb_drop nEnd keep_one) (allLt_mem lEnd.2.2.2.2.2.2))
end
end Mine

namespace Mine
section
variable {w : World} {loose : List PySem.Str} {mean : ExcName → Option Value} {mg mb : PySem.Str → Option Value} {news : List (Addr × Obj)} {x : Addr} {x1 x2 : PySem.Str} {t1 t2 : Tok}
  {dp un : Nat} {gd : Option (List Code)} {cn : PySem.Str} {cs : Scope} {a : Addr} {ccd : Value} {cl : List (PySem.Str × Addr)} {outer : List Env} {A₀ : Around} {base h₀ : Heap} {L : Addr} {m : PySem.Str → Option Value} {s : Shared} {Q E : Value → Shared → Prop}
theorem prefix_use (B : Below A₀ base outer h₀) (F : Fr h₀ L s.heap m) (X : (Mine.hd.heap_39 w.params).In h₀) (N : News h₀ L s.heap news) (T : Top Mine.hd.view_39 loose mean mg mb h₀) (hk : cs.kind = .function)
    (hp1 : x1.length ≤ 1000) (hp2 : x2.length ≤ 1000) (hd : dp + 1 < recursionLimit) (hu : un + 8 < cLine)
    (hret : ∀ (t : Tok) (h' : Heap) (tk' : Nat), Fr h₀ L h' m → News h₀ L h' news → Q (.int (top (pH x1 x2) (min x1.length x2.length) : Nat) t) { s with heap := h', toks := tk' }) :
    wpAny (model PySem.Challenge.rw_nc0015_08.row.prog w) (ktrTop dp un gd cn cs L a ccd cl outer) (call (.ref 71) [.ref x, .str x1 t1, .str x2 t2]) Q E s := by
  exact prefix_c w loose mean mg mb news x x1 x2 t1 t2 dp un gd cn cs a ccd cl outer A₀ base h₀ L m s Q E B F X N T hk ⟨hp1, hp2⟩ hd hu hret
theorem suffix_use (B : Below A₀ base outer h₀) (F : Fr h₀ L s.heap m) (X : (Mine.hd.heap_39 w.params).In h₀) (N : News h₀ L s.heap news) (T : Top Mine.hd.view_39 loose mean mg mb h₀) (hk : cs.kind = .function)
    (hp1 : x1.length ≤ 1000) (hp2 : x2.length ≤ 1000) (hd : dp + 1 < recursionLimit) (hu : un + 8 < cLine)
    (hret : ∀ (t : Tok) (h' : Heap) (tk' : Nat), Fr h₀ L h' m → News h₀ L h' news → Q (.int (top (pE x1 x2) (min x1.length x2.length) : Nat) t) { s with heap := h', toks := tk' }) :
    wpAny (model PySem.Challenge.rw_nc0015_08.row.prog w) (ktrTop dp un gd cn cs L a ccd cl outer) (call (.ref 78) [.ref x, .str x1 t1, .str x2 t2]) Q E s := by
  exact suffix_c w loose mean mg mb news x x1 x2 t1 t2 dp un gd cn cs a ccd cl outer A₀ base h₀ L m s Q E B F X N T hk ⟨hp1, hp2⟩ hd hu hret
theorem overlap_use (B : Below A₀ base outer h₀) (F : Fr h₀ L s.heap m) (X : (Mine.hd.heap_39 w.params).In h₀) (N : News h₀ L s.heap news) (T : Top Mine.hd.view_39 loose mean mg mb h₀) (hk : cs.kind = .function)
    (hp1 : x1.length ≤ 1000) (hp2 : x2.length ≤ 1000) (hd : dp + 1 < recursionLimit) (hu : un + 8 < cLine)
    (hret : ∀ (t : Tok) (h' : Heap) (tk' : Nat), Fr h₀ L h' m → News h₀ L h' news → Q (.int (top (pL x1 x2) (min x1.length x2.length) : Nat) t) { s with heap := h', toks := tk' }) :
    wpAny (model PySem.Challenge.rw_nc0015_08.row.prog w) (ktrTop dp un gd cn cs L a ccd cl outer) (call (.ref 85) [.ref x, .str x1 t1, .str x2 t2]) Q E s := by
  exact overlap_c w loose mean mg mb news x x1 x2 t1 t2 dp un gd cn cs a ccd cl outer A₀ base h₀ L m s Q E B F X N T hk ⟨hp1, hp2⟩ hd hu hret
theorem overlap_own {L' : Addr} {y : PySem.Str} (B : Below A₀ base outer h₀) (F : Fr h₀ L' s.heap m) (X : (Mine.hd.heap_39 w.params).In h₀) (N : News h₀ L' s.heap news) (T : Top Mine.hd.view_39 loose mean mg mb h₀) (hk : cs.kind = .function) (hLL : L' = L)
    (hp1 : 1 ≤ y.length) (hp2 : y.length ≤ 1000) (hd : dp + 1 < recursionLimit) (hu : un + 8 < cLine)
    (hret : ∀ (v : Nat) (t : Tok) (h' : Heap) (tk' : Nat), OvIs (Txt.slice y (some 1) none) y v → v < y.length → Fr h₀ L' h' m → News h₀ L' h' news → Q (.int (v : Int) t) { s with heap := h', toks := tk' }) :
    wpAny (model PySem.Challenge.rw_nc0015_08.row.prog w) (ktrTop dp un gd cn cs L a ccd cl outer) (call (.ref 85) [.ref x, .str (Txt.slice y (some 1) none) t1, .str y t2]) Q E s := by
  subst hLL
  have hlen : (Txt.slice y (some 1) none).length = y.length - 1 := by
    rw [← sg_len, slice_from y (by decide), List.length_drop, sg_len]; rfl
  exact overlap_use B F X N T hk (by omega) hp2 hd hu fun t h' tk' F' N' => hret _ t h' tk' ⟨rfl⟩ (by
    have := top_le (pL (Txt.slice y (some 1) none) y) (min (Txt.slice y (some 1) none).length y.length)
    have := Nat.min_le_left (Txt.slice y (some 1) none).length y.length
    omega) F' N'
theorem most_use (B : Below A₀ base outer h₀) (F : Fr h₀ L s.heap m) (X : (Mine.hd.heap_39 w.params).In h₀) (N : News h₀ L s.heap news) (T : Top Mine.hd.view_39 loose mean mg mb h₀) (hk : cs.kind = .function)
    (hp1 : x1.length ≤ 1000) (hp2 : x2.length ≤ 1000) (hd : dp + 1 < recursionLimit) (hu : un + 8 < cLine)
    (hret : ∀ (D : Addr) (ta tb tc : Tok) (h' : Heap) (tk' : Nat), Fr h₀ L h' m →
      News h₀ L h' ((D, PySem.W.listOf #[.int (top (pH x1 x2) (min x1.length x2.length) : Nat) ta, .int (top (pE x1 x2) (min x1.length x2.length) : Nat) tb, .int (top (pL x1 x2) (min x1.length x2.length) : Nat) tc] 0) :: news) → (∀ p ∈ news, p.1 < D) → Q (.ref D) { s with heap := h', toks := tk' }) :
    wpAny (model PySem.Challenge.rw_nc0015_08.row.prog w) (ktrTop dp un gd cn cs L a ccd cl outer) (call (.ref 146) [.str x1 t1, .str x2 t2]) Q E s := by
  exact most_c w loose mean mg mb news x1 x2 t1 t2 dp un gd cn cs a ccd cl outer A₀ base h₀ L m s Q E B F X N T hk ⟨hp1, hp2⟩ hd hu hret
end
end Mine

namespace Mine
open PySem.Calls PySem.Spec
theorem fr_pick {h₀ h : Heap} {L : Addr} {m : PySem.Str → Option Value} {a b c : PySem.Str} {va vb vc : Value} (F : Fr h₀ L h m) (h1 : m a = some va) (h2 : m b = some vb) (h3 : m c = some vc) :
    Fr h₀ L h (fun y => if y = a then some va else if y = b then some vb else if y = c then some vc else m y) := by
  have e : (fun y => if y = a then some va else if y = b then some vb else if y = c then some vc else m y) = m := by
    funext y
    by_cases ha : y = a
    · subst ha; simp [h1]
    · by_cases hb : y = b
      · subst hb; simp [ha, h2]
      · by_cases hc : y = c
        · subst hc; simp [ha, hb, h3]
        · simp [ha, hb, hc]
  rw [e]; exact F
theorem law_clean {h₀ h : Heap} {L x C dx dn : Addr} {es : List DictEntry} {n c : Nat} {ws : List Value} {o1 o2 : Obj} {news : List (Addr × Obj)} (N : News h₀ L h news) (m1 : (x, instObj C dx) ∈ news) (m2 : (dx, dictOf es n) ∈ news) (m3 : (dn, PySem.W.listOf ws.toArray c) ∈ news) (m4 : (L + 1 + 1, o1) ∈ news) (m5 : (L + 1, o2) ∈ news) :
    News h₀ L h [(x, instObj C dx), (dx, dictOf es n), (dn, PySem.W.listOf ws.toArray c), (L + 1 + 1, o1), (L + 1, o2)] := by
  intro p hp
  simp only [List.mem_cons, List.not_mem_nil, or_false] at hp
  rcases hp with rfl | rfl | rfl | rfl | rfl
  · exact N _ m1
  · exact N _ m2
  · exact N _ m3
  · exact N _ m4
  · exact N _ m5

def sixth : List Stmt → Stmt
  | _ :: _ :: _ :: _ :: _ :: s :: _ => s
  | _ => .Pass default
def behindSix : List Stmt → List Stmt
  | _ :: _ :: _ :: _ :: _ :: _ :: r => r
  | _ => []
def lawDef : Stmt := sixth PySem.Challenge.pw_nc0015_08.main.body
def lawBody : List Stmt := match lawDef with
  | .FunctionDef _ _ b _ _ _ _ _ _ _ => b
  | _ => []
def lawScope : Scope := match lawDef with
  | .FunctionDef _ _ _ _ _ _ s _ _ _ => s
  | _ => default
def lawTail : List Stmt := behindSix lawBody
/-- what is shown of the law's statements behind the first loop, in a small context -/
def TailClaim (w : World) (tail : List Stmt) (scope : Scope) : Prop :=
  ∀ (loose : List PySem.Str) (mean : ExcName → Option Value) (mg mb : PySem.Str → Option Value) (fa : Addr) (cdv : Value) (base h₀ : Heap) (L : Addr) (m : PySem.Str → Option Value) (s : Shared) (Q : Flow → Shared → Prop) (R : Value → Shared → Prop)
    (x dx dn : Addr) (es : List DictEntry) (n : Nat) (ws : List Value) (ns : List Int) (o1 o2 : Obj) (left right : PySem.Str) (tl tr : Tok) (c2 : Option Value),
    getL (PySem.Str.ofString "diff_commonOverlap") es = some none → Below callerA base [] h₀ → Fr h₀ L s.heap (fun y => if y = PySem.Str.ofString "tool" then some (.ref x) else if y = PySem.Str.ofString "numbers" then some (.ref dn) else if y = PySem.Str.ofString "right" then some (.str right tr) else m y) → (Mine.hd.heap_39 w.params).In h₀ →
    News h₀ L s.heap [(x, instObj 137 dx), (dx, dictOf es n), (dn, PySem.W.listOf ws.toArray 0), (L + 1 + 1, o2), (L + 1, o1)] → Top Mine.hd.view_39 loose mean mg mb h₀ →
    (@LT.lt Nat _ (L + 1 + 1) dn ∧ @LT.lt Nat _ dn dx ∧ @LT.lt Nat _ dx x) → IntsAre ws ns → ns.length ≤ 24 → left.length ≤ 24 → right.length ≤ 24 → LeftIs left → o1.data = .cell (some (.str left tl)) → o2.data = .cell c2 →
    (∀ (v : Value) (m' : PySem.Str → Option Value) (h' : Heap) (tk' : Nat), v = .bool true → Fr h₀ L h' m' → Q (.ret v) { s with heap := h', toks := tk' }) →
    wpAny (model PySem.Challenge.rw_nc0015_08.row.prog w) (callerA.deeper (envOfC (PySem.Str.ofString "law") scope L fa cdv)) (execs tail (envOfC (PySem.Str.ofString "law") scope L fa cdv)) Q (fun e s' => wpAny (model PySem.Challenge.rw_nc0015_08.row.prog w) (callerA.deeper (envOfC (PySem.Str.ofString "law") scope L fa cdv)) (leaving (envOfC (PySem.Str.ofString "law") scope L fa cdv) e) (fun _ s'' => R e s'') (fun e' s'' => R e' s'') s') s
theorem tail_cut {w : World} {tail : List Stmt} {scope : Scope} {loose : List PySem.Str} {mean : ExcName → Option Value} {mg mb : PySem.Str → Option Value} {fa : Addr} {cdv : Value} {base h₀ : Heap} {L : Addr} {m : PySem.Str → Option Value} {s : Shared} {Q : Flow → Shared → Prop} {R : Value → Shared → Prop}
    {x dx dn : Addr} {es : List DictEntry} {n : Nat} {ws : List Value} {ns : List Int} {o1 o2 : Obj} {left right : PySem.Str} {tl tr : Tok} {c2 : Option Value} {news : List (Addr × Obj)}
    (hI : IntsAre ws ns) (F : Fr h₀ L s.heap m) (N : News h₀ L s.heap news) (hL : LeftIs left) (d1 : o1.data = .cell (some (.str left tl)))
    (m1 : (x, instObj 137 dx) ∈ news) (m2 : (dx, dictOf es n) ∈ news) (m3 : (dn, PySem.W.listOf ws.toArray 0) ∈ news) (m4 : (L + 1 + 1, o2) ∈ news) (m5 : (L + 1, o1) ∈ news) (d2 : o2.data = .cell c2)
    (B : Below callerA base [] h₀) (X : (Mine.hd.heap_39 w.params).In h₀) (T : Top Mine.hd.view_39 loose mean mg mb h₀)
    (e1 : m (PySem.Str.ofString "tool") = some (.ref x)) (e2 : m (PySem.Str.ofString "numbers") = some (.ref dn)) (e3 : m (PySem.Str.ofString "right") = some (.str right tr))
    (hlt : @LT.lt Nat _ (L + 1 + 1) dn ∧ @LT.lt Nat _ dn dx ∧ @LT.lt Nat _ dx x) (hn : ns.length ≤ 24) (hl : left.length ≤ 24) (hr : right.length ≤ 24) (hdn : getL (PySem.Str.ofString "diff_commonOverlap") es = some none)
    (hret : ∀ (v : Value) (m' : PySem.Str → Option Value) (h' : Heap) (tk' : Nat), v = .bool true → Fr h₀ L h' m' → Q (.ret v) { s with heap := h', toks := tk' })
    (H : TailClaim w tail scope) :
    wpAny (model PySem.Challenge.rw_nc0015_08.row.prog w) (callerA.deeper (envOfC (PySem.Str.ofString "law") scope L fa cdv)) (execs tail (envOfC (PySem.Str.ofString "law") scope L fa cdv)) Q (fun e s' => wpAny (model PySem.Challenge.rw_nc0015_08.row.prog w) (callerA.deeper (envOfC (PySem.Str.ofString "law") scope L fa cdv)) (leaving (envOfC (PySem.Str.ofString "law") scope L fa cdv) e) (fun _ s'' => R e s'') (fun e' s'' => R e' s'') s') s :=
  H loose mean mg mb fa cdv base h₀ L m s Q R x dx dn es n ws ns o1 o2 left right tl tr c2 hdn B (fr_pick F e1 e2 e3) X (law_clean N m1 m2 m3 m4 m5) T hlt hI hn hl hr hL d1 d2 hret
end Mine

namespace Mine
section
variable {left rest : PySem.Str} {found : List Int} {pre : List Int} {k : Int}
theorem l_start (hl : left.length ≤ 24) : LInv left ([] : List Int).length left [] ∧ left.length ≤ 24 ∧ ([] : List Int).length ≤ 24 := ⟨linv_start, hl, by simp⟩
theorem l_skip (h : LInv left pre.length rest found) (hr : rest.length ≤ 24) (hf : found.length ≤ 24) (hlt : pre.length < ((left.length : Int) - 0).toNat) (he : (rest != PySem.Str.ofString "") = false) :
    LInv left (pre ++ [k]).length rest found ∧ rest.length ≤ 24 ∧ found.length ≤ 24 := by
  refine ⟨?_, hr, hf⟩
  rw [List.length_append]
  exact linv_skip h (by omega) he
theorem last_v {v : Nat} : (found ++ [(v : Int)]).getD (-1 + ((found ++ [(v : Int)]).length : Int)).toNat 0 = (v : Int) := by
  have e : (-1 + ((found ++ [(v : Int)]).length : Int)).toNat = found.length := by
    rw [List.length_append]
    simp
    omega
  rw [e]
  simp [List.getD]
theorem l_go {v : Nat} (h : LInv left pre.length rest found) (hl : left.length ≤ 24) (hlt : pre.length < ((left.length : Int) - 0).toNat) (hne : (rest != PySem.Str.ofString "") = true) (ov : OvIs (Txt.slice rest (some 1) none) rest v)
    (hs : (Txt.slice left none (some ((found ++ [(v : Int)]).getD (-1 + ((found ++ [(v : Int)]).length : Int)).toNat 0))).length ≤ left.length) (hf : found.length ≤ 24) :
    LInv left (pre ++ [k]).length (Txt.slice left none (some ((found ++ [(v : Int)]).getD (-1 + ((found ++ [(v : Int)]).length : Int)).toNat 0))) (found ++ [(v : Int)]) ∧
      (Txt.slice left none (some ((found ++ [(v : Int)]).getD (-1 + ((found ++ [(v : Int)]).length : Int)).toNat 0))).length ≤ 24 ∧ (found ++ [(v : Int)]).length ≤ 24 := by
  have hx : LInv left (pre.length + 1) (Txt.slice left none (some (v : Int))) (found ++ [(v : Int)]) := linv_go h (by omega) hne ov
  refine ⟨?_, by omega, ?_⟩
  · rw [last_v, List.length_append]
    exact hx
  · obtain ⟨r, a, b, c, d, e⟩ := hx
    omega
end
section
local macro_rules | `(tactic| walk_at "call ref") => `(tactic| (k_here; (with_reducible show wpAny _ _ (call (Value.ref 85) _) _ _ _); k_dflt (refine' overlap_own ?k1 ?k2 ?k3 ?k4 ?k5 ?kK ?kL ?p1 ?p2 ?kd ?ku ?_; (case k1 => k_asm); (case k2 => k_asm); (case k3 => k_asm); (case k4 => k_asm); (case k5 => k_asm); (case kK => exact rfl); (case kL => rfl); (case p1 => first | omega | exact ne_len (by assumption)); (case p2 => omega); (case kd => ktr_room); (case ku => ktr_units)); intro v9 t9 h9 tk9 hv9 hv1 F9 N9; (try dsimp only); (try k_sweep)))
local macro_rules | `(tactic| walk_at "getMethod ref") => `(tactic| (k_here; (with_reducible show wpAny _ _ (getMethod _ (PySem.Str.ofString "diff_commonOverlap") _) _ _ _); k_dflt (refine' method_inst ?k1 ?k2 ?k3 ?k4 ?k5 ?k6 ?k7 ?_; (case k1 => k_asm); (case k2 => k_asm); (case k3 => k_inst); (case k4 => k_is); (case k5 => k_is); (case k6 => k_is); (case k7 => assumption); k_whole)))
local macro_rules | `(tactic| walk_at "eval ListComp") => `(tactic| (k_here; (rename LeftIs _ => lM'); (with_reducible show wpAny _ _ (eval (Expr.ListComp (Expr.Name _ _) _ _ _) _) _ _ _); k_dflt (refine' comp_range ?F ?c ?d ?e ?f ?g ?_; (case F => k_asm); (case c => with_unfolding_all rfl); (case d => decide); (case e => rfl); (case f => decide); (case g => rfl))))
local macro_rules | `(tactic| walk_at "FSrc") => `(tactic| (k_here; (rename LeftIs _ => lM'); k_dflt (refine' fsrc_of ?a ?b ?c ?d ?e ?f ?g ?_; (case a => rfl); (case b => k_asm); (case c => k_asm); (case d => assumption); (case e => exact small_down (by omega) (by omega) (by omega) (by omega)); (case f => exact rangeSize_downNat _ _); (case g => (rw [PySem.sizeLine_eq]; omega))); intro g'; k_dflt (refine' filt_rest (fun i v h => h) (pBord lM') (by rfl) (fun C => by rfl) (by decide) (fun i' k' t' I' oI' C' oC' D' m' ys' h' tk' E' hlo' hk' hC' hx' F' N' => ?_) ?_)))
local macro_rules | `(tactic| walk_at "exec Assign cons ListComp") => `(tactic| (k_here; (rename WordIs _ => wM'); k_dflt (refine LCt.Assign_ListComp_T (F₀ := by k_asm) (by rfl) (by with_unfolding_all rfl) (by with_unfolding_all rfl) (by decide) (by rfl) (by decide) (by rfl) (by rfl) (by rfl) ?_)))
local macro_rules | `(tactic| walk_at "CompSrcT") => `(tactic| (k_here; (rename WordIs _ => wM'); k_dflt (refine LCt.CompSrcT.range (by rfl) (by k_asm) (by k_asm) (by assumption) (by exact small_one (by omega) (by omega) (by omega) (by omega)) (by exact rangeSize_nat _ _) (by rw [PySem.sizeLine_eq]; omega) ?_); intro g'; k_dflt (refine' filt_rest (fun i v h => stepP1 h) (pRoot wM') (by rfl) (fun C => by rfl) (by decide) (fun i' k' t' I' oI' C' oC' D' m' ys' h' tk' E' hlo' hk' hC' hx' F' N' => ?_) ?_)))
local macro_rules | `(tactic| walk_at "FTurn") => `(tactic| (refine fturn_end ?e ?f ?n; (case f => k_asm); (case n => k_asm); (case e => first | (with_reducible exact root_no (by assumption)) | (with_reducible exact root_t (by assumption) (by assumption)) | (with_reducible exact root_f (by assumption) (by assumption)) | (with_reducible exact root_yes (by assumption)) | rfl)))
local macro_rules | `(tactic| walk_at "forall") => `(tactic| ((with_reducible show ∀ ys, IntsAre ys _ → _); intro ys' hys' hlen'))
local macro_rules | `(tactic| walk_at "binaryOp Mult str int") => `(tactic| (k_here; (fail_if_success (rename WordIs _ => wM')); k_dflt (refine' word_mul ?a ?b ?c ?d ?_; (case a => first | omega | decide); (case b => first | omega | decide); (case c => ((try k_fmods); omega)); (case d => ((try k_fmods); omega))); intro y' t' k' hy1' hy2' hW'))
local macro_rules | `(tactic| walk_at "binaryOp Mult str int") => `(tactic| (k_here; (rename WordIs _ => wM'); k_dflt (refine' root_mul ?a ?b ?c ?_; (case a => omega); (case b => exact (fdiv_le72 (by omega) (by omega) (by omega)).1); (case c => exact (fdiv_le72 (by omega) (by omega) (by omega)).2)); intro t' k'))
local macro_rules | `(tactic| walk_at "InvEndN") => `(tactic| (k_here; (rename OvIs _ _ _ => hOv'); (rename News _ _ _ _ => nE'); (rename Fr _ _ _ _ => fE'); (try simp only [List.push_toArray] at nE'); k_dflt ((refine' kst_end ⟨_, _, _, _, _⟩ fE' nE' ?c ?d ?e ?f ?g ?h ?i); (case c => kst_in); (case d => first | (intro p hp; kst_mem) | kst_anyIn); (case e => rfl); (case f => exact ints_snoc (by assumption)); (case g => kst_all); (case h => kst_same); (case i => ((try dsimp only); exact l_go (by assumption) (by assumption) (by assumption) (by assumption) (by assumption) (by assumption) (by assumption))))))
local macro_rules | `(tactic| walk_at "ite") => `(tactic| ((rename WordIs _ => wM'); (with_reducible show ite ((Txt.mul _ _ == _) = true) _ _); refine ite_two (fun hb' => ?_) (fun hb' => ?_)))
local macro_rules | `(tactic| walk_at "subscriptTail Name Constant ref int") => `(tactic| (k_here; (rename WordIs _ => wM'); (with_reducible show wpAny _ _ (subscriptTail (Expr.Name (PySem.Str.ofString "roots") _) _ _ _) _ _ _); k_dflt (refine' root_item ?a ?b ?c ?d ?e ?_ ?s; (case a => k_asm); (case b => k_mem); (case c => assumption); (case d => omega); (case e => omega); (case s => with_unfolding_all rfl)); intro r' t' hR'))
theorem tail_holds (w : World) : TailClaim w lawTail lawScope := by
  k_with_none
  w_on
  unfold TailClaim
  k_fill
  unfold lawTail lawScope lawBody lawDef PySem.Challenge.pw_nc0015_08
  dsimp only [sixth, behindSix]
  intro loose mean mg mb fa cdv base h₀ L m s Q R x dx dn es n ws ns o1 o2 left right tl tr c2 hdn B F X N T hlt hI hn hl hr hL d1 d2 hret
  (k_with "pyIter ref" => k_state (fun pre rest found => LInv (leftOf (by assumption)) pre.length rest found ∧ rest.length ≤ 24 ∧ found.length ≤ 24) "rest" "found")
  k_with "state" => (first | exact l_start (by assumption) | exact l_skip (by assumption) (by assumption) (by assumption) (by assumption) (by assumption))
  try k_fold
  k_steps
  all_goals ((try dsimp only); first
    | exact hret _ _ _ _ (root_end1 (by assumption) (by assumption) (by assumption) (by assumption)) (by k_asm)
    | exact hret _ _ _ _ (root_end2 (by assumption) (by assumption) (by assumption) (by assumption)) (by k_asm)
    | exact absurd (linv_end (by assumption)) (by assumption))
end
end Mine

namespace Mine
section
local macro_rules | `(tactic| walk_at "eval ListComp") => `(tactic| (k_here; (with_reducible show wpAny _ _ (eval (Expr.ListComp (Expr.Subscript (Expr.Tuple _ _ _) _ _) _ _ _) _) _ _ _); k_dflt (refine LCg.ListComp_U (F₀ := by k_asm) (by with_unfolding_all rfl) (by decide) (by rfl) (by decide) (by rfl) ?_)))
local macro_rules | `(tactic| walk_at "CompSrc") => `(tactic| (k_here; (with_reducible show LCg.CompSrc _ _ _ _ _ _ _ (Expr.Subscript (Expr.Tuple _ _ _) _ _) _ _ _ _ _ _); k_dflt (refine LCg.CompSrc.ledger (by rfl) (by k_asm) (by k_asm) (by k_mem) (by first | size_fits | exact Nat.le_of_ble_eq_true rfl) ?_); intro g'; k_dflt (refine' map_rest signOf ?ki (srcAt_of ?km) (fun k' t' I' oI' C' oC' D' m' ys' h' tk' E' hk' hC' hx' F' N' => ?_) ?_; (case ki => assumption); (case km => k_mem))))
local macro_rules | `(tactic| walk_at "MTurn") => `(tactic| ((k_dflt (refine' mturn_end ?e ?f ?n ?s)); (case f => k_asm); (case n => k_asm); (case s => kcj_all); (case e => first | exact sign0 (by assumption) | exact sign1 (by assumption) | exact sign2 (by assumption) | exact sign3 (by assumption))))
local macro_rules | `(tactic| walk_at "forall") => `(tactic| ((with_reducible show ∀ ys, CarriedAll ys _ → _); intro ys' hys'))
local macro_rules | `(tactic| walk_at "call builtin:str.join") => `(tactic| (k_here; (with_reducible rename CarriedAll _ (List.map _ _) => ktC); k_dflt (refine' join_any ?kl ktC (fun a _ => signOf_len a) ?kn ?_; (case kl => exact News.isList (by k_asm) (by k_mem)); (case kn => omega)); intro y' t' k' hy'; clear ktC))
local macro_rules | `(tactic| walk_at "subscriptTail Name Slice ref ref") => `(tactic| (k_here; (with_reducible show wpAny _ _ (subscriptTail _ (PySem.Expr.Slice (some _) none (some _) _) (Value.ref _) (Value.ref _)) _ _ _); k_dflt (refine' step_slice ?F ?N ?l ?p ?q ?k ?z0 ?i ?_ ?s ?t ?z; (case F => k_asm); (case N => k_asm); (case l => kmk_list); (case p => exact IsPart.int _ _); (case q => exact IsPart.none); (case k => exact IsPart.int _ _); (case z0 => decide); (case i => l_ints); (case s => with_unfolding_all rfl); (case t => kmk_pure); (case z => kmk_size)); intro D' ws' ms' h' F' N' l1 hI' hC'; (try k_lt l1); (try k_sweep)))
local macro_rules | `(tactic| walk_at "subscriptTail Name Slice str ref") => `(tactic| (k_here; (with_reducible show wpAny _ _ (subscriptTail (Expr.Name (PySem.Str.ofString "signs") _) (Expr.Slice none (some _) none _) _ _) _ _ _); (with_reducible rename Fr _ _ _ _ => F'); (with_reducible rename News _ _ _ _ => N'); refine slice_any_ns (s := ⟨_, _, _, _, _⟩) F' N' ?_; intro y' h' t' k' F' N' l' hLeft'))
local macro_rules | `(tactic| walk_at "subscriptTail Name Slice str ref") => `(tactic| (k_here; (with_reducible show wpAny _ _ (subscriptTail (Expr.Name (PySem.Str.ofString "signs") _) (Expr.Slice (some _) none none _) _ _) _ _ _); (with_reducible rename Fr _ _ _ _ => F'); (with_reducible rename News _ _ _ _ => N'); refine slice_any_sn (s := ⟨_, _, _, _, _⟩) F' N' ?_; intro y' h' t' k' F' N' l'))
local macro_rules | `(tactic| walk_at "call ref") => `(tactic| (k_here; (with_reducible show wpAny _ _ (call (Value.ref 71) _) _ _ _); k_dflt (refine' prefix_use ?k1 ?k2 ?k3 ?k4 ?k5 ?kK ?p1 ?p2 ?kd ?ku ?_; (case k1 => k_asm); (case k2 => k_asm); (case k3 => k_asm); (case k4 => k_asm); (case k5 => k_asm); (case kK => exact rfl); (case p1 => omega); (case p2 => omega); (case kd => ktr_room); (case ku => ktr_units)); intro t9 h9 tk9 F9 N9; (try dsimp only); (try k_sweep)))
local macro_rules | `(tactic| walk_at "call ref") => `(tactic| (k_here; (with_reducible show wpAny _ _ (call (Value.ref 78) _) _ _ _); k_dflt (refine' suffix_use ?k1 ?k2 ?k3 ?k4 ?k5 ?kK ?p1 ?p2 ?kd ?ku ?_; (case k1 => k_asm); (case k2 => k_asm); (case k3 => k_asm); (case k4 => k_asm); (case k5 => k_asm); (case kK => exact rfl); (case p1 => omega); (case p2 => omega); (case kd => ktr_room); (case ku => ktr_units)); intro t9 h9 tk9 F9 N9; (try dsimp only); (try k_sweep)))
local macro_rules | `(tactic| walk_at "call ref") => `(tactic| (k_here; (with_reducible show wpAny _ _ (call (Value.ref 85) _) _ _ _); k_dflt (refine' overlap_use ?k1 ?k2 ?k3 ?k4 ?k5 ?kK ?p1 ?p2 ?kd ?ku ?_; (case k1 => k_asm); (case k2 => k_asm); (case k3 => k_asm); (case k4 => k_asm); (case k5 => k_asm); (case kK => exact rfl); (case p1 => omega); (case p2 => omega); (case kd => ktr_room); (case ku => ktr_units)); intro t9 h9 tk9 F9 N9; (try dsimp only); (try k_sweep)))
local macro_rules | `(tactic| walk_at "call ref") => `(tactic| (k_here; (with_reducible show wpAny _ _ (call (Value.ref 146) _) _ _ _); k_dflt (refine' most_use ?k1 ?k2 ?k3 ?k4 ?k5 ?kK ?p1 ?p2 ?kd ?ku ?_; (case k1 => k_asm); (case k2 => k_asm); (case k3 => k_asm); (case k4 => k_asm); (case k5 => k_asm); (case kK => exact rfl); (case p1 => omega); (case p2 => omega); (case kd => ktr_room); (case ku => ktr_units)); intro D9 ta9 tb9 tc9 h9 tk9 F9 N9 l1; (try k_lt l1); (try dsimp only); (try k_sweep)))
local macro_rules | `(tactic| walk_at "execs cons") => `(tactic| (k_here; (with_reducible show wpAny _ _ (execs (Stmt.Assign [Expr.Name (PySem.Str.ofString "found") _] _ _ :: _) _) _ _ _); (rename LeftIs _ => hLeft'); (rename IntsAre _ (List.take 24 _) => hI24'); (rename Fr _ _ _ _ => fX'); (rename News _ _ _ _ => nX'); k_dflt (refine' tail_cut hI24' fX' nX' hLeft' ?d1 ?m1 ?m2 ?m3 ?m4 ?m5 ?d2 ?B ?X ?T ?e1 ?e2 ?e3 ?lt ?hn ?hl ?hr ?dn ?ret (tail_holds _); (case m1 => k_mem); (case m2 => k_mem); (case m3 => k_mem); (case m4 => k_mem); (case m5 => k_mem); (case d1 => assumption); (case d2 => assumption); (case B => k_asm); (case X => k_asm); (case T => k_asm); (case e1 => rfl); (case e2 => rfl); (case e3 => rfl); (case lt => exact ⟨by omega, by omega, by omega⟩); (case hn => omega); (case hl => omega); (case hr => omega); (case dn => k_get)); intro v9 m9 h9 tk9 hv9 F9; subst hv9))
local macro_rules | `(tactic| walk_at "no such key") => `(tactic| fail "none")
theorem law_all : PySem.Challenge.rw_nc0015_08.Holds := by
  refine Mine.hd ?_
  k_with_none
  w_on
  w_strict (k_go0; (all_goals try k_fold); k_steps; (all_goals (try k_data)); all_goals w_report)
end
end Mine

theorem PySem.Challenge.cw_nc0015_08_holds : PySem.Challenge.rw_nc0015_08.Holds := by
  exact Mine.law_all
