import PyProof.Rows.All
import Wide.All
import OpenK.AllK
import Wide.FinOn
import PyProof.ZipIter
import PyProof.CollectWalk
import PyProof.CollectIter
import PyProof.MeetsSeq
import PySem.Challenge.RW_il0123_01
local macro_rules | `(tactic| walk_at $s:str) => `(tactic| k_extra $s)
section
open PySem PySem.W PySem.Calls PyProof.Rows
set_option Elab.async false
set_option maxRecDepth 100000
namespace Mine
open PySem.Builtin PySem.Builtin.Str
abbrev L (x : PySem.Str) : List Nat := x.cps.toList
abbrev S (l : List Nat) : PySem.Str := ⟨l.toArray⟩
theorem L_S (l : List Nat) : L (S l) = l := rfl
theorem S_L (x : PySem.Str) : S (L x) = x := by cases x; simp [S, L]
theorem L_inj {x y : PySem.Str} (h : L x = L y) : x = y := by rw [← S_L x, ← S_L y, h]
theorem L_length (x : PySem.Str) : x.length = (L x).length := by simp [PySem.Str.length, L]
theorem L_append (x y : PySem.Str) : L (x ++ y) = L x ++ L y := by
  show (x ++ y).cps.toList = _
  rw [PySem.Str.cps_append]; simp [L]
def clip (n : Nat) (i : Int) : Nat := if i < 0 then (i + n).toNat else min i.toNat n
def lo (l : Option Int) (n : Nat) : Nat := match l with | none => 0 | some i => clip n i
def hi (u : Option Int) (n : Nat) : Nat := match u with | none => n | some i => clip n i
theorem clip_le (n : Nat) (i : Int) : clip n i ≤ n := by unfold clip; split <;> omega
theorem lo_le (l : Option Int) (n : Nat) : lo l n ≤ n := by unfold lo; split <;> first | exact clip_le _ _ | exact Nat.zero_le _
theorem hi_le (u : Option Int) (n : Nat) : hi u n ≤ n := by unfold hi; split <;> first | exact clip_le _ _ | exact Nat.le_refl _
theorem clip_eq (n : Nat) (i : Int) : max 0 (min (if i < 0 then i + (n : Int) else i) (n : Int)) = ((clip n i : Nat) : Int) := by
  unfold clip
  split <;> omega
theorem idx_range (l u : Option Int) (n : Nat) : strSliceIndices l u 1 n = sliceRange (lo l n : Nat) (hi u n : Nat) 1 := by
  unfold strSliceIndices
  simp only [show (1 : Int) > 0 by decide, if_true]
  cases l <;> cases u <;> simp only [clip_eq] <;> rfl
theorem clip_nat {n a : Nat} (h : a ≤ n) : clip n (a : Int) = a := by unfold clip; split <;> omega
theorem idx_clip (l u : Option Int) (n : Nat) : strSliceIndices l u 1 n = strSliceIndices (some (lo l n : Nat)) (some (hi u n : Nat)) 1 n := by
  rw [idx_range, idx_range]
  show _ = sliceRange ((clip n (lo l n : Nat) : Nat) : Int) ((clip n (hi u n : Nat) : Nat) : Int) 1
  rw [clip_nat (lo_le l n), clip_nat (hi_le u n)]
theorem L_slice (x : PySem.Str) (l u : Option Int) : L (Txt.slice x l u) = ((L x).drop (lo l (L x).length)).take (hi u (L x).length - lo l (L x).length) := by
  rw [← L_length]
  have e : Txt.slice x l u = StrLaws.sliceText x (some (lo l x.length : Nat)) (some (hi u x.length : Nat)) := by
    unfold Txt.slice StrLaws.sliceText
    rw [← idx_clip]
  have hh : hi u x.length ≤ x.length := by unfold hi; split <;> first | exact clip_le _ _ | exact Nat.le_refl _
  rw [e]
  by_cases hab : lo l x.length ≤ hi u x.length
  · rw [StrLaws.sliceText_nat x hab hh]
  · have hl : lo l x.length ≤ x.length := by unfold lo; split <;> first | exact clip_le _ _ | exact Nat.zero_le _
    have z : strSliceIndices (some (lo l x.length : Nat)) (some (hi u x.length : Nat)) 1 x.length = [] := by
      rw [← idx_clip, idx_range]
      unfold sliceRange
      simp only [show (1 : Int) > 0 by decide, if_true]
      rw [if_neg (by omega)]
      rfl
    unfold StrLaws.sliceText
    rw [z]
    have h4 : ¬ (((1 : Int) == 1 && ([] : List Nat).length == x.length) = true) := by
      simp
      omega
    rw [if_neg h4]
    have h5 : hi u x.length - lo l x.length = 0 := by omega
    rw [h5]
    rfl
end Mine
end
section
open PySem PySem.W PySem.Calls PyProof.Rows
set_option Elab.async false
set_option maxRecDepth 100000
namespace Mine
def isB (c : Nat) : Bool := c == 32 || c == 9
def ltr (l : List Nat) : List Nat := l.dropWhile isB
def rtr (l : List Nat) : List Nat := (l.reverse.dropWhile isB).reverse
theorem eq_of_L (x y : PySem.Str) : (x == y) = decide (L x = L y) := by
  by_cases h : x = y
  · subst h; simp
  · have h2 : L x ≠ L y := fun e => h (L_inj e)
    simp [h, h2]
theorem L_sp : L (Str.ofString " ") = [32] := by decide +kernel
theorem L_tab : L (Str.ofString "\t") = [9] := by decide +kernel
theorem L_first (text : PySem.Str) : L (Txt.slice text none (some 1)) = (L text).take 1 := by
  rw [L_slice]
  cases h : L text with
  | nil => simp
  | cons c r =>
    have : clip (c :: r).length 1 = 1 := by unfold clip; simp
    simp only [lo, hi, this]
    rfl
theorem L_last (text : PySem.Str) : L (Txt.slice text (some (-1)) none) = (L text).drop ((L text).length - 1) := by
  rw [L_slice]
  have : clip (L text).length (-1) = (L text).length - 1 := by unfold clip; simp; omega
  simp only [lo, hi, this]
  apply List.take_of_length_le
  simp
theorem L_rest (text : PySem.Str) : L (Txt.slice text (some 1) none) = (L text).drop 1 := by
  rw [L_slice]
  cases h : L text with
  | nil => simp
  | cons c r =>
    have : clip (c :: r).length 1 = 1 := by unfold clip; simp
    simp only [lo, hi, this]
    apply List.take_of_length_le
    simp
theorem L_init (text : PySem.Str) : L (Txt.slice text none (some (-1))) = (L text).take ((L text).length - 1) := by
  rw [L_slice]
  have : clip (L text).length (-1) = (L text).length - 1 := by unfold clip; simp; omega
  simp only [lo, hi, this]
  simp
theorem test_one (y : PySem.Str) (c : Nat) (h : L y = [c]) : ([Str.ofString " ", Str.ofString "\t"].any fun x => x == y) = isB c := by
  simp only [List.any_cons, List.any_nil, eq_of_L, L_sp, L_tab, h, Bool.or_false, isB]
  by_cases h1 : c = 32
  · simp [h1]
  · by_cases h2 : c = 9
    · simp [h2]
    · have a : ¬ (32 = c) := fun e => h1 e.symm
      have b : ¬ (9 = c) := fun e => h2 e.symm
      simp [h1, h2, a, b]
theorem test_none (y : PySem.Str) (h : L y = []) : ([Str.ofString " ", Str.ofString "\t"].any fun x => x == y) = false := by
  simp only [List.any_cons, List.any_nil, eq_of_L, L_sp, L_tab, h, Bool.or_false]
  simp
/-- turn of the first loop -/
theorem first_true (text : PySem.Str) (h : ([Str.ofString " ", Str.ofString "\t"].any fun x => x == Txt.slice text none (some 1)) = true) :
    (Txt.slice text (some 1) none).length < text.length ∧ ltr (L (Txt.slice text (some 1) none)) = ltr (L text) := by
  rw [L_length, L_length, L_rest]
  have hf := L_first text
  cases e : L text with
  | nil => rw [e] at hf; rw [test_none _ (by simpa using hf)] at h; cases h
  | cons c r =>
    rw [e] at hf
    rw [test_one _ c (by simpa using hf)] at h
    refine ⟨by simp, ?_⟩
    simp [ltr, h]
theorem first_false (text : PySem.Str) (h : ([Str.ofString " ", Str.ofString "\t"].any fun x => x == Txt.slice text none (some 1)) = false) :
    ltr (L text) = L text := by
  have hf := L_first text
  cases e : L text with
  | nil => rfl
  | cons c r =>
    rw [e] at hf
    rw [test_one _ c (by simpa using hf)] at h
    simp [ltr, h]
theorem snoc_of (l : List Nat) (h : l ≠ []) : ∃ r c, l = r ++ [c] := ⟨l.dropLast, l.getLast h, (List.dropLast_concat_getLast h).symm⟩
theorem last_true (text : PySem.Str) (h : ([Str.ofString " ", Str.ofString "\t"].any fun x => x == Txt.slice text (some (-1)) none) = true) :
    (Txt.slice text none (some (-1))).length < text.length ∧ rtr (L (Txt.slice text none (some (-1)))) = rtr (L text) := by
  rw [L_length, L_length, L_init]
  have hf := L_last text
  by_cases e : L text = []
  · rw [e] at hf; rw [test_none _ (by simpa using hf)] at h; cases h
  · obtain ⟨r, c, e⟩ := snoc_of _ e
    rw [e] at hf ⊢
    have h1 : (r ++ [c]).length - 1 = r.length := by simp
    rw [h1, List.drop_left] at hf
    rw [test_one _ c hf] at h
    rw [h1, List.take_left]
    refine ⟨by simp, ?_⟩
    simp [rtr, h]
theorem last_false (text : PySem.Str) (h : ([Str.ofString " ", Str.ofString "\t"].any fun x => x == Txt.slice text (some (-1)) none) = false) :
    rtr (L text) = L text := by
  have hf := L_last text
  by_cases e : L text = []
  · rw [e]; rfl
  · obtain ⟨r, c, e⟩ := snoc_of _ e
    rw [e] at hf ⊢
    have h1 : (r ++ [c]).length - 1 = r.length := by simp
    rw [h1, List.drop_left] at hf
    rw [test_one _ c hf] at h
    simp [rtr, h]
def bare (x : PySem.Str) : PySem.Str := S (rtr (ltr (L x)))
theorem ltr_len (l : List Nat) : (ltr l).length ≤ l.length := (List.dropWhile_sublist isB).length_le
theorem rtr_len (l : List Nat) : (rtr l).length ≤ l.length := by
  unfold rtr
  rw [List.length_reverse]
  exact Nat.le_trans (List.dropWhile_sublist isB).length_le (by simp)
end Mine
end
section
open PySem PySem.W PySem.Calls PyProof.Rows
set_option Elab.async false
set_option maxRecDepth 100000
set_option maxHeartbeats 4000000
namespace Mine
theorem fmt_run {prog : Program} {w : World} {A : Around} {E : Value → Shared → Prop} {s : Shared} {t ta tn tc : Tok} {Q : Value → Shared → Prop} {b L : Addr} {h₀ : Heap} {news : List (Addr × Obj)} {x y : PySem.Str} {n : Int}
    (N : News h₀ L s.heap news) (hb : (b, ({ cls := .type "tuple", data := .seq (List.toArray [.str x ta, .int n tn, .str y tc]) } : Obj)) ∈ news)
    (hx : x.length ≤ 1000000) (hy : y.length ≤ 1000000) (h0 : 0 ≤ n) (h1 : n < 10 ^ 10)
    (h : ∀ t' k, Q (.str (x ++ Str.ofString "[" ++ Str.ofString (toString n) ++ Str.ofString " chars]" ++ y) t') { s with toks := k }) :
    wpAny (model prog w) A (binaryOp .Mod (.str (Str.ofString "%s[%d chars]%s") t) (.ref b)) Q E s := by
  refine' KPt.mod_tuple (T := x ++ Str.ofString "[" ++ Str.ofString (toString n) ++ Str.ofString " chars]" ++ y) N hb ?kptF ?kptm h
  case kptF => kpt_eq
  case kptm => 
    clear h hb N
    kpt_run
end Mine
end
section
open PySem PySem.W PySem.Calls PyProof.Rows
set_option Elab.async false
set_option maxRecDepth 100000
set_option maxHeartbeats 4000000
namespace Mine
open Sem (wp)
/-- is this code the claim's caller? -/
def isC (c : Code) : Bool := match c with | .builtin "claim.caller" _ => true | _ => false
def HasB (l : List (Code × Pos)) : Prop := (l.any fun c => isC c.1) = true
def HasC (Γ : Ctx) : Prop := isC Γ.code = true ∨ HasB Γ.below
theorem hasB_enter {Γ : Ctx} (h : HasC Γ) (c : Code) (hd : Option Value) (p : Pos) : HasB (Γ.enter c hd p).below := by
  show (((Γ.code, p) :: Γ.below).any fun c => isC c.1) = true
  rw [List.any_cons]
  rcases h with h | h
  · rw [h]; rfl
  · rw [show (Γ.below.any fun c => isC c.1) = true from h, Bool.or_true]
def wpC {α : Type} (M : Model) (A : Around) (t : Sem α) (Q : α → Shared → Prop) (E : Value → Shared → Prop) (s : Shared) : Prop :=
  ∀ Γ p, Γ.In A → HasC Γ → wp M Γ t (fun a _ s' => Q a s') (fun e _ s' => E e s') p s
def codeC (M : Model) (A : Around) (c : Code) (R : Result → Shared → Prop) (s : Shared) : Prop :=
  ∀ Γ p, Γ.code = c → Γ.Below A → HasB Γ.below → wpCode M Γ R p s
section
variable {α β : Type} {M : Model} {A : Around} {E : Value → Shared → Prop} {s : Shared}
theorem wpC_of {t : Sem α} {Q : α → Shared → Prop} (h : wpAny M A t Q E s) : wpC M A t Q E s := fun Γ p hΓ _ => h Γ p hΓ
theorem codeC_of {c : Code} {R : Result → Shared → Prop} (h : codeAny M A c R s) : codeC M A c R s := fun Γ p hc hΓ _ => h Γ p hc hΓ
theorem wpC_pure {a : α} {Q : α → Shared → Prop} (h : Q a s) : wpC M A (pure a) Q E s := wpC_of (wpAny_pure h)
theorem wpC_mono {t : Sem α} {Q Q' : α → Shared → Prop} {E' : Value → Shared → Prop} (h : wpC M A t Q E s) (hQ : ∀ a s, Q a s → Q' a s) (hE : ∀ e s, E e s → E' e s) : wpC M A t Q' E' s :=
  fun Γ p hΓ hc => Sem.wp_mono M Γ t (fun a _ s => hQ a s) (fun e _ s => hE e s) p s (h Γ p hΓ hc)
theorem codeC_mono {c : Code} {R R' : Result → Shared → Prop} (h : codeC M A c R s) (hR : ∀ r s, R r s → R' r s) : codeC M A c R' s :=
  fun Γ p hc hΓ hb => wpCode_mono hR (h Γ p hc hΓ hb)
theorem wpC_bind {m : Sem α} {f : α → Sem β} {Q : β → Shared → Prop} (h : wpC M A m (fun a s' => wpC M A (f a) Q E s') E s) : wpC M A (m >>= f) Q E s := fun Γ p hΓ hc => by
  rw [Sem.wp_bind']
  exact Sem.wp_mono M Γ m (fun a p' s' h' => h' Γ p' hΓ hc) (fun _ _ _ h' => h') p s (h Γ p hΓ hc)
theorem wpC_map {m : Sem α} {f : α → β} {Q : β → Shared → Prop} (h : wpC M A m (fun a s' => Q (f a) s') E s) : wpC M A (f <$> m) Q E s := fun Γ p hΓ hc => by
  rw [Sem.wp_map]; exact h Γ p hΓ hc
theorem wpC_tryCatch {m : Sem α} {k : Value → Sem α} {Q : α → Shared → Prop} (h : wpC M A m Q (fun e s' => wpC M A (k e) Q E s') s) : wpC M A (tryCatch m k) Q E s := fun Γ p hΓ hc => by
  rw [Sem.wp_tryCatch']
  exact Sem.wp_mono M Γ m (fun _ _ _ h' => h') (fun e p' s' h' => h' Γ p' hΓ hc) p s (h Γ p hΓ hc)
theorem wpC_onRaise {m : Sem α} {k : Value → Sem Unit} {Q : α → Shared → Prop} (h : wpC M A m Q (fun e s' => wpC M A (k e) (fun _ s'' => E e s'') E s') s) : wpC M A (m.onRaise k) Q E s := fun Γ p hΓ hc => by
  rw [Sem.wp_onRaise]
  exact Sem.wp_mono M Γ m (fun _ _ _ h' => h') (fun e p' s' h' => h' Γ p' hΓ hc) p s (h Γ p hΓ hc)
theorem wpC_attempt {m : Sem α} {Q : Except Value α → Shared → Prop} (h : wpC M A m (fun a => Q (.ok a)) (fun e => Q (.error e)) s) : wpC M A m.attempt Q E s := fun Γ p hΓ hc => by
  rw [Sem.wp_attempt]; exact h Γ p hΓ hc
theorem wpC_holding {vs : List Value} {m : Sem α} {Q : α → Shared → Prop} (h : wpC M A m Q E s) : wpC M A (holding vs m) Q E s := fun Γ p hΓ hc => by
  rw [Sem.wp_holding]; exact h Γ p hΓ hc
theorem wpC_ite {c : Prop} [Decidable c] {a b : Sem α} {Q : α → Shared → Prop} (h : if c then wpC M A a Q E s else wpC M A b Q E s) : wpC M A (if c then a else b) Q E s := by split <;> simp_all
theorem wpC_standAt {pos : Pos} {Q : Unit → Shared → Prop} (h : Q () s) : wpC M A (standAt pos) Q E s := wpC_of (wpAny_standAt h)
theorem wpC_rule {tag : String} {Q : Unit → Shared → Prop} (h : Q () s) : wpC M A (rule tag) Q E s := wpC_of (wpAny_rule h)
theorem wpC_of_in1 {t : Sem α} {Q : α → Shared → Prop} (h : wpC M A.in1 t Q E s) : wpC M A t Q E s :=
  fun Γ p hΓ hc => h Γ p ⟨hΓ.1, hΓ.2.1, hΓ.2.2.1, hΓ.2.2.2.1, Nat.le_succ_of_le hΓ.2.2.2.2⟩ hc
theorem wpC_run {c : Code} {h : Option Value} {Q : Flow → Shared → Prop} (hc : codeC M (A.mark h) c (fun r s' => match r with | .ok f => Q f s' | .error e => E e s') s) (hnb : h ≠ some byPass := by intro x; cases x) :
    wpC M A (run c h) Q E s := fun Γ p hΓ hC => by rw [Sem.wp_run]; exact hc _ p rfl (hΓ.enter c h p hnb) (hasB_enter hC c h p)
theorem wpC_runValue {c : Code} {Q : Value → Shared → Prop} (hc : codeC M A c (fun r s' => match r with | .ok (.ret v) => Q v s' | .ok _ => False | .error e => E e s') s) : wpC M A (runValue c) Q E s := fun Γ p hΓ hC => by
  rw [Sem.wp_runValue]; exact hc _ p rfl (hΓ.enter c none p (by intro x; cases x)) (hasB_enter hC c none p)
theorem wpC_call {f : Value} {pos : List Value} {kw : List (PySem.Str × Value)} {Q : Value → Shared → Prop} (hc : codeC M A (.call f ⟨pos, kw⟩) (fun r s' => match r with | .ok (.ret v) => Q v s' | .ok _ => False | .error e => E e s') s) :
    wpC M A (call f pos kw) Q E s := wpC_runValue hc
theorem codeC_of_tree {c : Code} {R : Result → Shared → Prop}
    (h : wpC M (A.under c) (M.den c) (fun fin s' => match fin with | .done f => R (.ok f) s' | .again c' => c'.quiet = true ∧ codeC M A c' R s') (fun e s' => R (.error e) s') s) : codeC M A c R s := fun Γ p hc hΓ hb => by
  rw [wpCode_iff_wp, hc]
  refine Sem.wp_mono M Γ _ (fun fin p' s' h' => ?_) (fun _ _ _ h' => h') p s (h Γ p (hc ▸ hΓ.in) (.inr hb))
  cases fin with
  | done f => exact h'
  | again c' => exact ⟨h'.1, h'.2 (Γ.goto c') p' rfl (hΓ.goto c') hb⟩
theorem wpC_stack {Q : List (Code × Pos) → Shared → Prop} (h : ∀ st : List (Code × Pos), (st.any fun c => isC c.1) = true → Q st s) : wpC M A stack Q E s := fun Γ p _ hc => by
  unfold stack
  rw [Sem.wp_stack]
  refine h _ ?_
  rw [List.any_cons]
  rcases hc with hc | hc
  · rw [hc]; rfl
  · rw [show (Γ.below.any fun c => isC c.1) = true from hc, Bool.or_true]
/-- under the claim's caller the binder's refusal leaves no mark -/
theorem wpC_mark {own : List String} {e : Value} {Q : Unit → Shared → Prop} (h : Q () s) : wpC M A (markTheRefusal own e) Q E s := by
  unfold markTheRefusal
  refine wpC_bind (wpC_stack fun st hst => ?_)
  have hno : pythonCodeMadeTheCall own (st.map (·.1)) = false := by
    obtain ⟨⟨c, q⟩, hmem, hc⟩ := List.any_eq_true.mp hst
    obtain ⟨a, rfl⟩ : ∃ a, c = .builtin "claim.caller" a := by
      unfold isC at hc
      split at hc
      · rename_i a e; exact ⟨a, e⟩
      · cases hc
    unfold pythonCodeMadeTheCall
    refine Bool.and_eq_false_iff.mpr (.inl (Bool.and_eq_false_iff.mpr (.inl ?_)))
    rw [Bool.not_eq_false']
    exact List.any_eq_true.mpr ⟨_, List.mem_map_of_mem hmem, rfl⟩
  rw [hno, if_neg Bool.false_ne_true]
  exact wpC_pure h
/-- the binder refuses: a new TypeError -/
theorem wpC_refuses {msg : String} {Q : α → Shared → Prop} (hh : A.handled = none) (hm : (msg : PySem.Str).length ≤ sizeLine)
    (h : ∀ h' tk e, Heap.NewExc s.heap h' e "TypeError" → E (.ref e) { s with heap := h', toks := tk }) : wpC M A (theBinderRefuses msg : Sem α) Q E s := by
  unfold theBinderRefuses
  refine wpC_bind (wpC_of (wpAny_mkStr ?_ hm))
  unfold newExc newTuple
  refine wpC_bind (wpC_of (wpAny_bind (wpAny_newObj_type ?_)))
  refine wpAny_bind (m := firstArgMember _ _) (wpAny_of_eq (a := Value.none) (by simp only [firstArgMember, typeError_no_first]; rfl) ?_)
  rw [ownMembersOf_TypeError]
  refine wpAny_newObj_type ?_
  refine wpC_bind (wpC_mark ?_)
  refine wpC_of ?_
  unfold raiseNew
  refine wpAny_bind (wpAny_handled ?_)
  rw [hh]
  first
    | refine wpAny_throw ?_
    | refine wpAny_bind (wpAny_pure (wpAny_throw ?_))
  exact h _ _ _ ⟨fun b o hb => Heap.get?_push_of_some _ (Heap.get?_push_of_some _ hb), Heap.get?_none_of_le (by simp), _, .ref s.heap.objs.size, Heap.get?_push_size _ rfl, rfl, by simp⟩
end
end Mine
end
section
open PySem PySem.W PySem.Calls PyProof.Rows
set_option Elab.async false
set_option maxRecDepth 100000
set_option maxHeartbeats 4000000
namespace Mine
open Sem (wp)
/-- take `t` where the claim's caller stands on the stack, `d` elsewhere -/
def guardC {α : Type} (t d : Sem α) : Sem α := .stack fun st => if (st.any fun c => isC c.1) = true then t else d
theorem wpAny_guardC {α : Type} {M : Model} {A : Around} {t d : Sem α} {Q : α → Shared → Prop} {E : Value → Shared → Prop} {s : Shared} (h1 : wpC M A t Q E s) (h2 : wpAny M A d Q E s) : wpAny M A (guardC t d) Q E s := fun Γ p hΓ => by
  unfold guardC
  rw [Sem.wp_stack]
  split
  · rename_i h
    rw [List.any_cons] at h
    refine h1 Γ p hΓ ?_
    rcases Bool.or_eq_true_iff.mp h with h | h
    · exact .inl h
    · exact .inr h
  · exact h2 Γ p hΓ
theorem asleep_top {p : Program} {w : World} {s s₀ s₁ : Shared} (h : AfterImport p w s) (hl : s₁.heap.life = s.heap.life) : s₁.asleep :=
  Shared.asleep_of_life hl h.life
theorem sched_guard {p : Program} {w : World} {s : Shared} {t d : Sem Fin} {o : Outcome} {s' : Shared} {n : Nat} (hs : s.asleep)
    (h : schedN (denote table) p w n (.single s ⟨guardC t d, .builtin "claim.caller" {}, default, []⟩) = .halted o s') :
    ∃ n, schedN (denote table) p w n (.single s ⟨t, .builtin "claim.caller" {}, default, []⟩) = .halted o s' := by
  cases n with
  | zero => cases h
  | succ n =>
    have e : step (denote table) p w s ⟨guardC t d, .builtin "claim.caller" {}, default, []⟩ = .go s ⟨t, .builtin "claim.caller" {}, default, []⟩ := rfl
    rcases sstep_single (den := denote table) (prog := p) (w := w) s ⟨guardC t d, .builtin "claim.caller" {}, default, []⟩ rfl hs with q | q
    · rw [e] at q
      refine ⟨n, ?_⟩
      simp only [schedN, q] at h
      exact h
    · rw [e] at q; cases q
theorem holdsOpenBy_guard {c : ClaimW} {tree d : List Value → Sem Fin} {defs kps : List Str} {writes : Bool}
    (H : c.HoldsOpenBy (fun vs => ⟨guardC (tree vs) (d vs), .builtin "claim.caller" {}, default, []⟩) defs kps writes) : c.HoldsOpenBy (fun vs => ⟨tree vs, .builtin "claim.caller" {}, default, []⟩) defs kps writes := by
  obtain ⟨h1, h2, h3⟩ := H
  refine ⟨h1, h2, fun w => ⟨(h3 w).1, fun s hs => ?_⟩⟩
  obtain ⟨s₀, hf, hg, s₁, hT, k1, k2, k3, hC⟩ := (h3 w).2 s hs
  refine ⟨s₀, hf, hg, s₁, hT, k1, k2, k3, fun args hp hl ord ho => ?_⟩
  obtain ⟨vs, s₂, hlaid, n, o, s', hrun, rest⟩ := hC args hp hl ord ho
  have hA : AfterImport (opening c.prog) w s := hs
  have z : s₂.asleep := Shared.asleep_of_life ((layAllW_rest _ _ _ hlaid).2.2.2.trans (hT.2.1.trans (fence_lifeW hf))) hA.life
  obtain ⟨m, hm⟩ := sched_guard z hrun
  exact ⟨vs, s₂, hlaid, m, o, s', hm, rest⟩
abbrev WalkC (q : Program) (loose : List Str) (XP : (Str → Option Value) → Heap → Prop) (YP : World → Heap → Prop) (r : RowW) (d : DefRec) (kwd : List (Str × Expr)) : Prop :=
  (∀ args, r.claim.pre args = true → (∀ cls, r.claim.raises args cls = false) ∧ r.claim.post args (.bool true) args = true) ∧
  ∀ (w : World) (s₀ s₁ : Shared) (mg mb : Str → Option Value), Ground q loose r.records XP w s₀ mg mb s₁.heap → YP w s₁.heap → ∀ (a : Addr) (o : Obj) (pm cd doc dV kV : Value), s₁.heap.get? a = some o →
    o.data = .func { docDef d.name d.params d.body d.scope pm cd doc with defaults := dV, kwdefaults := kV } → s₁.heap.CodeRec cd d.name → Dflts mg s₁.heap d.params kwd dV kV → mg d.name = some (.ref a) → s₁.gens = #[] →
    ∀ (args : List WData) (vals : List Value) (as : List Addr), r.claim.pre args = true → WData.layableAll args = true → ReadsAllW r.records (classAt s₀.heap) s₁.heap vals args as → WellAll w.params s₁.heap vals args → (∀ a ∈ as, (a == sysModules) = false) →
      wpC (model r.prog w) callerA (PySem.call (.ref a) vals) (fun v s' => GoodWG r.claim (classAt s₀.heap) (ExcName.means s₀.heap) args s₁ (.ok (.ret v)) s')
        (fun e s' => GoodWG r.claim (classAt s₀.heap) (ExcName.means s₀.heap) args s₁ (.error e) s') s₁
end Mine
open PySem.Sem (wp) in
theorem Mine.PySem.W.holds_open {r : OpenRow} {q : Program} {loose : List Str} {Xt : Shared → Bool} {XP : (Str → Option Value) → Heap → Prop} {α : Type} {Yf : Shared → α} {Ya : World → α} {YP : World → Heap → Prop} {d : DefRec} {kwd : List (Str × Expr)} {N : Nat}
    (left : LeftO r.prog q loose Xt Yf Ya N) (hY : ∀ w s, Yf s = Ya w → YP w s.heap) (hYk : ∀ w h h', YP w h → (∀ b o, h.get? b = some o → h'.get? b = some o) → YP w h')
    (hX : ∀ s, Xt s = true → XP (s.heap.nsMap mainGlobals) s.heap) (hXk : ∀ mg h h', XP mg h → (∀ b o, h.get? b = some o → h'.get? b = some o) → XP mg h')
    (hdef : defOf q r.name = some (d, kwd)) (hp : r.prog.theDef r.name = some (d.params, d.body, d.scope)) (hk : kwWritten? d.params.kwonlyargs d.params.kw_defaults = some kwd) (hRf : ∀ s, Xt s = true → RecFacts r.records s.heap) (hwr : (!r.writes || r.records.isEmpty) = true)
    (k1 : r.wellSaid = true) (ok : (chainsOk q && opensWell r.prog && (frees r.toRowW && r.within.isEmpty)) = true) (hb : r.prog.bare) (hw : r.toRowW.promised)
    (call : WalkC q loose XP YP r.toRowW d kwd) : r.Holds := by
  refine ⟨k1, hw, holdsOpenBy_guard (d := fun _ => pure (.done (.ret (.bool true)))) (open_anyG (r := r.toRowW) (run := fun f vs => guardC (PySem.call f vs) (pure (.bool true)))
    (tree := fun vs => guardC (do match ← nsGet mainNs r.name with
      | some f => do ret (← PySem.call f vs)
      | none => unsupported "claim.caller:no-such-global") (pure (.done (.ret (.bool true))))) left hY hYk hX hXk hRf hwr ok hb hw
    (fun vs w s mg f Q E hg hf h => fun Γ p hΓ => ?_)
    (fun w s hg G n hn => ?_) fun w s₀ s₁ mg mb G Y args vs as hpre hlay L low => ?_)⟩
  · have h' : ∀ p', wp (model r.prog w) Γ (guardC (PySem.call f vs) (pure (.bool true))) (fun v _ s' => Q (.done (.ret v)) s') (fun e _ s' => E e s') p' s := fun p' => h Γ p' hΓ
    unfold guardC at h' ⊢
    simp only [Sem.wp_stack] at h' ⊢
    by_cases hc : ((((Γ.code, p) :: Γ.below).any fun c => isC c.1) = true)
    · have hc' : ∀ p', (((Γ.code, p') :: Γ.below).any fun c => isC c.1) = true := fun p' => by rw [List.any_cons] at hc ⊢; exact hc
      rw [if_pos hc, Sem.wp_bind']
      refine Sem.wp_mono _ Γ _ (fun o p' s' g => g p') (fun _ _ _ g => g) p s (wpAny_nsGet (M := model r.prog w) (A := callerA) (E := E) (Q := fun o s' => ∀ p', wp (model r.prog w) Γ (match o with
        | some f => do ret (← PySem.call f vs)
        | none => unsupported "claim.caller:no-such-global") (fun fin _ s'' => Q fin s'') (fun e _ s'' => E e s'') p' s') hg ?_ Γ p hΓ)
      rw [hf]
      intro p'
      show wp _ Γ (PySem.call f vs >>= fun v => ret v) _ _ p' s
      rw [Sem.wp_bind']
      have := h' p'
      rw [if_pos (hc' p')] at this
      exact this
    · have := h' p
      rw [if_neg hc] at this ⊢
      exact this
  · have : n = r.name := by split at hn <;> simp_all
    subst this
    exact pinned_of_view hg G hdef hp hk
  · obtain ⟨a, o, pm, cd, doc, dV, kV, h1, h2, h3, h4, h5⟩ := G.fn hdef
    refine ⟨.ref a, h1, wpAny_guardC (call.2 w s₀ s₁ mg mb G Y a o pm cd doc dV kV h2 h3 h4 h5 (defOf_name hdef ▸ h1) L.gens args vs as hpre hlay L.reads L.well (L.low low)) (wpAny_pure ?_)⟩
    have hh := call.1 args hpre
    exact ⟨.inl ⟨_, _, _, rfl, hh.1, .bool true, hh.2, fun _ => ⟨List.nodup_nil, fun _ ha => by cases ha⟩⟩, .of_keep (fun _ _ e => e), rfl, .of_eq L.gens⟩
end
section
open PySem PySem.W PyProof.Rows
set_option Elab.async false
set_option maxRecDepth 100000
set_option maxHeartbeats 8000000
namespace Mine
open_top hd for PySem.Challenge.rw_il0123_01
end Mine
end
section
open PySem PySem.W PyProof.Rows
set_option Elab.async false
set_option maxRecDepth 100000
set_option maxHeartbeats 4000000
namespace Mine
theorem fr_at {h₀ h : Heap} {L : Addr} {m : PySem.Str → Option Value} {k : PySem.Str} {v : Value} (F : Fr h₀ L h m) (hm : m k = some v) : Fr h₀ L h (fun y => if y = k then some v else m y) := by
  have e : (fun y => if y = k then some v else m y) = m := by
    funext y
    by_cases hy : y = k
    · rw [if_pos hy, hy, hm]
    · rw [if_neg hy]
  rw [e]; exact F
theorem news_sub {h₀ h : Heap} {L : Addr} {n n' : List (Addr × Obj)} (N : News h₀ L h n') (hs : ∀ p ∈ n, p ∈ n') : News h₀ L h n := fun p hp => N p (hs p hp)
section
open PySem.Calls
variable {prog : Program} {w : World} {A A₀ : Around} {s : Shared} {K : Frag} {L : Addr} {h₀ base : Heap} {m mg mb : PySem.Str → Option Value} {news : List (Addr × Obj)} {p : Program} {loose : List PySem.Str} {mean : ExcName → Option Value}
theorem news_app {h₀ h : Heap} {L : Addr} {n n' : List (Addr × Obj)} (N : News h₀ L h n) (N' : News h₀ L h n') : News h₀ L h (n ++ n') := fun p hp => (List.mem_append.mp hp).elim (N p) (N' p)
theorem code_own {env : Env} {outer : List Env} {R : Result → Shared → Prop} {name qual : PySem.Str} {params : Arguments} {body : List Stmt} {scope : Scope} {dV kV doc pm cdv ct oc : Value} {an od : Option Addr} {osl : Array (Option Value)} {f : Addr} {args : Args} {binds : List (PySem.Str × Value)}
    (B : Below A₀ base outer h₀) (F : Fr h₀ L s.heap m) (X₀ : K.In h₀) (N : News h₀ L s.heap news) (T : Top p loose mean mg mb h₀) (hA : A.frames = some (env :: outer)) (hf : env.frame = some L) (hke : env.scope.kind = .function)
    (ho : K.lookup f = some ⟨oc, od, .func (fnOf name qual params body scope dV kV doc pm an cdv ct), osl⟩) (hcd : codeIn K cdv qual = true) (hroom : A.depth < recursionLimit)
    (hbind : BindsTo s (fnOf name qual params body scope dV kV doc pm an cdv ct) args binds) (hloc : ∀ y ∈ binds, scope.names.lookup y.1 = some .local)
    (h : ∀ g L' h₁, Fr h₀ L g m → Fr g L' h₁ (fun y => binds.reverse.lookup y) → News g L' h₁ [] → Below A base (env :: outer) g → K.In g → Top p loose mean mg mb g →
      wpAny (model prog w) (A.deeper (envOf qual scope L' f cdv)) (execs body (envOf qual scope L' f cdv))
        (fun fl s' => LeaveK h₀ L m g (fun r s'' => News h₀ L s''.heap news → R r s'') (match fl with | .ret v => v | _ => .none) s')
        (fun e s' => wpAny (model prog w) (A.deeper (envOf qual scope L' f cdv)) (leaving (envOf qual scope L' f cdv) e) (fun _ s'' => R (.error e) s'') (fun e' s'' => R (.error e') s'') s')
        { s with heap := h₁, toks := s.toks + binds.length })
    (hco : scope.isCoroutine = false) (hgen : scope.isGenerator = false) (hk : scope.kind = .function)
    (hcell : ∀ x ∈ scope.names, x.2 ≠ .cell) : codeAny (model prog w) A (.call (.ref f) args) R s := by
  have B₁ := pushX B F hf hke
  refine codeAny_call_def (fd := fnOf name qual params body scope dV kV doc pm an cdv ct) (body := body) (binds := binds) hroom ((X₀.keeps F.keep) _ _ ho) rfl (T.nolimit.keeps F.keep) (codeRec_of (X₀.keeps F.keep) hcd) rfl hbind hcell hloc (fun h₁ hns hk₁ => ?_) hco hgen hk
  refine wpAny_mono (h s.heap s.heap.objs.size h₁ F ⟨hns, hk₁, Nat.le_refl _⟩ News.nil ⟨hA, B₁.stays, B₁.frames⟩ (X₀.keeps F.keep) (T.keeps F.keep)) (fun fl s' hl => ?_) fun _ _ y => y
  obtain ⟨L', m', news', F', N', k⟩ := hl
  obtain ⟨oL, es, ep, hL, hLd, hLk, hLf⟩ := F.ns
  have hLg := F'.keep L oL hL
  refine k ⟨⟨oL, es, ep, hLg, hLd, hLk, hLf⟩, fun b o e => F'.keep b o (F.keep b o e), F.above⟩ (fun p hp => ⟨(N' p hp).1, fun q => ?_, ?_⟩) (fun p hp => ⟨F'.keep _ _ (N p hp).1, (N p hp).2⟩)
  · have := (N' p hp).2.2; rw [q, hL] at this; cases this
  · cases q : h₀.get? p.1 with
    | none => rfl
    | some o => have := (N' p hp).2.2; rw [F.keep _ _ q] at this; cases this
end
structure Mark (n : Nat) : Prop where
def Stop (P : Prop) : Prop := P
theorem Stop.intro {P : Prop} (h : Stop P) : P := h
end Mine
end
section
open PySem PySem.W PyProof.Rows
set_option Elab.async false
set_option maxRecDepth 100000
set_option maxHeartbeats 4000000
namespace Mine
theorem bare_call (w : World) (mean : ExcName → Option Value) (mg mb : PySem.Str → Option Value) (dp un : Nat) (gd : Option (List Code)) (cn : PySem.Str) (cs : Scope) (a : Addr) (ccd : Value) (cl : List (PySem.Str × Addr)) (outer : List Env) (A₀ : Around) (base h₀ : Heap) (L₀ : Addr) (m₀ : PySem.Str → Option Value) (news : List (Addr × Obj)) (s : Shared) (Q E : Value → Shared → Prop)
    (B : Below A₀ base outer h₀) (F : Fr h₀ L₀ s.heap m₀) (X : (hd.heap_39 w.params).In h₀) (N : News h₀ L₀ s.heap news) (T : Top hd.view_39 (looseW hd.view_39 [Str.ofString "_tuplegetter", Str.ofString "Pair"]) mean mg mb h₀) (hcs : cs.kind = .function)
    (hdp : dp + 1 < recursionLimit) (hun : un + 8 < cLine) (x : PySem.Str) (tx : Tok) (hx : x.length ≤ 1000)
    (hret : ∀ t h' tk', Fr h₀ L₀ h' m₀ → News h₀ L₀ h' news → Q (.str (bare x) t) { s with heap := h', toks := tk' }) :
    wpAny (model PySem.Challenge.rw_il0123_01.row.prog w) (ktrTop dp un gd cn cs L₀ a ccd cl outer) (call (.ref 172) [.str x tx]) Q E s := by
  revert X
  k_with_none
  k_with "exec While Compare cons nil" => (refine Stop.intro ?_)
  w_top off
  k_fill
  intro X
  refine wpAny_call ?_
  (k_dflt (refine' code_own ?k1 ?k2 ?k3 ?k4 ?k5 ?kA ?kF ?kK ?k6 ?k7 ?k8 ?k9 ?kB ?_ ?c2 ?c3 ?c4 ?c5; (case kA => exact rfl); (case kF => exact rfl); (case kK => first | exact rfl | assumption); (case k1 => k_asm); (case k2 => k_asm); (case k3 => k_asm); (case k4 => k_asm); (case k5 => k_asm); (case k6 => k_is); (case k7 => k_is); (case k8 => ktr_room); (case k9 => first | exact BindsTo.of_eq rfl | exact binds_K (by k_in) rfl (by k_is) rfl rfl rfl); (case c5 => decide); (case kB => exact locs rfl); (case c2 => exact rfl); (case c3 => exact rfl); (case c4 => exact rfl); k_whole; intro g' L' h' FG' F' N' B' X' T'; (try dsimp only); (try k_lift B'); (try k_fold)))
  k_steps
  unfold Stop
  rename Fr _ _ _ _ => F1
  refine While_inv2 (fun n m nx => nx = [] ∧ ∃ text t, m (Str.ofString "text") = some (.str text t) ∧ n = text.length ∧ text.length ≤ 1000 ∧ ltr (L text) = ltr (L x)) F1 (News.nil) ⟨rfl, _, _, rfl, rfl, hx, rfl⟩ ?_
  clear F1
  rintro n m₁ nx h₁ tk₁ F₁ N₁ ⟨hnx, y, yt, hm, hn, yl, ye⟩
  rw [hnx] at N₁
  replace F₁ := fr_at F₁ hm
  k_steps
  · rename Fr _ _ _ _ => F2
    have hh := first_true _ (by assumption)
    exact ⟨_, _, _, _, _, rfl, F2, News.nil, by rw [hn]; exact hh.1, rfl, _, _, rfl, rfl, by omega, hh.2.trans ye⟩
  have yf := first_false _ (by assumption)
  unfold Stop
  rename Fr _ _ _ _ => F1
  refine While_inv2 (fun n m nx => nx = [] ∧ ∃ text t, m (Str.ofString "text") = some (.str text t) ∧ n = text.length ∧ text.length ≤ 1000 ∧ rtr (L text) = rtr (L y)) F1 (News.nil) ⟨rfl, _, _, rfl, rfl, yl, rfl⟩ ?_
  clear F1
  rintro n m₁ nx h₁ tk₁ F₁ N₁ ⟨hnx, z, zt, hm, hn, zl, ze⟩
  rw [hnx] at N₁
  replace F₁ := fr_at F₁ hm
  k_steps
  · rename Fr _ _ _ _ => F2
    have hh := last_true _ (by assumption)
    exact ⟨_, _, _, _, _, rfl, F2, News.nil, by rw [hn]; exact hh.1, rfl, _, _, rfl, rfl, by omega, hh.2.trans ze⟩
  have zf := last_false _ (by assumption)
  have hz : z = bare x := L_inj (by show L z = rtr (ltr (L x)); rw [← zf, ze, ← yf, ye])
  subst hz
  rename Fr h₀ _ _ _ => F3
  rename News h₀ _ _ _ => N9; exact hret _ _ _ F3 N9
end Mine
end
section
open PySem PySem.W PyProof.Rows
set_option Elab.async false
set_option maxRecDepth 100000
set_option maxHeartbeats 4000000
namespace Mine
def shorten (x : PySem.Str) (p q : Int) : PySem.Str :=
  if 12 < (x.length : Int) - p - q then Txt.slice x none (some p) ++ Str.ofString "[" ++ Str.ofString (toString ((x.length : Int) - p - q)) ++ Str.ofString " chars]" ++ Txt.slice x (some ((x.length : Int) - q)) none else x
theorem shorten_call (w : World) (mean : ExcName → Option Value) (mg mb : PySem.Str → Option Value) (dp un : Nat) (gd : Option (List Code)) (cn : PySem.Str) (cs : Scope) (a : Addr) (ccd : Value) (cl : List (PySem.Str × Addr)) (outer : List Env) (A₀ : Around) (base h₀ : Heap) (L₀ : Addr) (m₀ : PySem.Str → Option Value) (news : List (Addr × Obj)) (s : Shared) (Q E : Value → Shared → Prop)
    (B : Below A₀ base outer h₀) (F : Fr h₀ L₀ s.heap m₀) (X : (hd.heap_39 w.params).In h₀) (N : News h₀ L₀ s.heap news) (T : Top hd.view_39 (looseW hd.view_39 [Str.ofString "_tuplegetter", Str.ofString "Pair"]) mean mg mb h₀) (hcs : cs.kind = .function)
    (hdp : dp + 1 < recursionLimit) (hun : un + 8 < cLine) (x : PySem.Str) (tx : Tok) (p : Int) (tp : Tok) (q : Int) (tq : Tok) (hx : x.length ≤ 1000) (hp0 : -1000 ≤ p) (hp1 : p ≤ 1000) (hq0 : -1000 ≤ q) (hq1 : q ≤ 1000)
    (hret : ∀ t h' tk', Fr h₀ L₀ h' m₀ → News h₀ L₀ h' news → Q (.str (shorten x p q) t) { s with heap := h', toks := tk' }) :
    wpAny (model PySem.Challenge.rw_il0123_01.row.prog w) (ktrTop dp un gd cn cs L₀ a ccd cl outer) (call (.ref 165) [.str x tx, .int p tp, .int q tq]) Q E s := by
  revert X
  k_with_none
  k_with "binaryOp Mod str ref" => (k_here; k_dflt ((rename News _ _ _ _ => fN'); (refine' fmt_run fN' ?f1 ?f2 ?f3 ?f4 ?f5 ?_); (case f1 => k_mem); (case f2 => omega); (case f3 => omega); (case f4 => omega); (case f5 => omega); intro _ _))
  w_top off
  k_fill
  intro X
  refine wpAny_call ?_
  (k_dflt (refine' code_own ?k1 ?k2 ?k3 ?k4 ?k5 ?kA ?kF ?kK ?k6 ?k7 ?k8 ?k9 ?kB ?_ ?c2 ?c3 ?c4 ?c5; (case kA => exact rfl); (case kF => exact rfl); (case kK => first | exact rfl | assumption); (case k1 => k_asm); (case k2 => k_asm); (case k3 => k_asm); (case k4 => k_asm); (case k5 => k_asm); (case k6 => k_is); (case k7 => k_is); (case k8 => ktr_room); (case k9 => first | exact BindsTo.of_eq rfl | exact binds_K (by k_in) rfl (by k_is) rfl rfl rfl); (case c5 => decide); (case kB => exact locs rfl); (case c2 => exact rfl); (case c3 => exact rfl); (case c4 => exact rfl); k_whole; intro g' L' h' FG' F' N' B' X' T'; (try dsimp only); (try k_lift B'); (try k_fold)))
  k_steps
  all_goals
    rename Fr h₀ _ _ _ => F3
  · have e : shorten x p q = Txt.slice x none (some p) ++ Str.ofString "[" ++ Str.ofString (toString ((x.length : Int) - p - q)) ++ Str.ofString " chars]" ++ Txt.slice x (some ((x.length : Int) - q)) none := by
      unfold shorten
      rw [if_pos (by omega)]
    rw [e] at hret
    rename News h₀ _ _ _ => N9; exact hret _ _ _ F3 N9
  · have e : shorten x p q = x := by
      unfold shorten
      rw [if_neg (by omega)]
    rw [e] at hret
    rename News h₀ _ _ _ => N9; exact hret _ _ _ F3 N9
end Mine
end
section
open PySem PySem.W PyProof.Rows
set_option Elab.async false
set_option maxRecDepth 100000
set_option maxHeartbeats 4000000
namespace Mine
def put (y : PySem.Str) (p sz : Int) : PySem.Str := if p < sz then Txt.slice y none (some p) ++ Str.ofString "=" ++ Txt.slice y (some (p + 1)) none else y
theorem put_pos {y : PySem.Str} {p sz : Int} (h : p < sz) : put y p sz = Txt.slice y none (some p) ++ Str.ofString "=" ++ Txt.slice y (some (p + 1)) none := if_pos h
theorem put_neg {y : PySem.Str} {p sz : Int} (h : ¬ p < sz) : put y p sz = y := if_neg h
def rowTxt : PySem.Str := Str.ofString "a b\tc  da b\tc  da b\tc  da b\tc  da b\tc  d"
def cutTxt (x : Int) : PySem.Str := Txt.slice rowTxt (some ((x.fdiv 2949120).fmod 8)) (some ((x.fdiv 2949120).fmod 8 + (14 + (x.fdiv 147456).fmod 20)))
def lineOf (x : Int) : PySem.Str := put (put (cutTxt x) ((x.fdiv 144).fmod 32) (14 + (x.fdiv 147456).fmod 20)) ((x.fdiv 4608).fmod 32) (14 + (x.fdiv 147456).fmod 20)
theorem rowTxt_len : rowTxt.length = 40 := by decide +kernel
theorem cutTxt_len (x : Int) : (cutTxt x).length ≤ 40 := by
  have h := Txt.slice_le rowTxt (some ((x.fdiv 2949120).fmod 8)) (some ((x.fdiv 2949120).fmod 8 + (14 + (x.fdiv 147456).fmod 20)))
  rw [rowTxt_len] at h
  exact h
theorem line_call (w : World) (mean : ExcName → Option Value) (mg mb : PySem.Str → Option Value) (dp un : Nat) (gd : Option (List Code)) (cn : PySem.Str) (cs : Scope) (a : Addr) (ccd : Value) (cl : List (PySem.Str × Addr)) (outer : List Env) (A₀ : Around) (base h₀ : Heap) (L₀ : Addr) (m₀ : PySem.Str → Option Value) (news : List (Addr × Obj)) (s : Shared) (Q E : Value → Shared → Prop)
    (B : Below A₀ base outer h₀) (F : Fr h₀ L₀ s.heap m₀) (X : (hd.heap_39 w.params).In h₀) (N : News h₀ L₀ s.heap news) (T : Top hd.view_39 (looseW hd.view_39 [Str.ofString "_tuplegetter", Str.ofString "Pair"]) mean mg mb h₀) (hcs : cs.kind = .function)
    (hdp : dp + 1 < recursionLimit) (hun : un + 8 < cLine) (x : Int) (tx : Tok)
    (hret : ∀ t h' tk', Fr h₀ L₀ h' m₀ → News h₀ L₀ h' news → Q (.str (lineOf x) t) { s with heap := h', toks := tk' }) :
    wpAny (model PySem.Challenge.rw_il0123_01.row.prog w) (ktrTop dp un gd cn cs L₀ a ccd cl outer) (call (.ref 179) [.int x tx]) Q E s := by
  revert X
  k_with_none
  k_with "exec For Name List cons nil" => ((fail_if_success (rename Mark _ => mK9)); refine Stop.intro ?_)
  w_top off
  k_fill
  intro X
  refine wpAny_call ?_
  (k_dflt (refine' code_own ?k1 ?k2 ?k3 ?k4 ?k5 ?kA ?kF ?kK ?k6 ?k7 ?k8 ?k9 ?kB ?_ ?c2 ?c3 ?c4 ?c5; (case kA => exact rfl); (case kF => exact rfl); (case kK => first | exact rfl | assumption); (case k1 => k_asm); (case k2 => k_asm); (case k3 => k_asm); (case k4 => k_asm); (case k5 => k_asm); (case k6 => k_is); (case k7 => k_is); (case k8 => ktr_room); (case k9 => first | exact BindsTo.of_eq rfl | exact binds_K (by k_in) rfl (by k_is) rfl rfl rfl); (case c5 => decide); (case kB => exact locs rfl); (case c2 => exact rfl); (case c3 => exact rfl); (case c4 => exact rfl); k_whole; intro g' L' h' FG' F' N' B' X' T'; (try dsimp only); (try k_lift B'); (try k_fold)))
  k_steps
  unfold Stop
  have mk9 : Mark 1 := ⟨⟩
  have hcl := cutTxt_len x
  have hp1 : 0 ≤ (x.fdiv 144).fmod 32 ∧ (x.fdiv 144).fmod 32 < 32 := ⟨fmod_lo _ (by decide), fmod_hi _ (by decide)⟩
  have hp2 : 0 ≤ (x.fdiv 4608).fmod 32 ∧ (x.fdiv 4608).fmod 32 < 32 := ⟨fmod_lo _ (by decide), fmod_hi _ (by decide)⟩
  unfold lineOf at hret
  simp only [show Txt.slice (Str.ofString "a b\tc  da b\tc  da b\tc  da b\tc  da b\tc  d") (some ((x.fdiv 2949120).fmod 8)) (some ((x.fdiv 2949120).fmod 8 + (14 + (x.fdiv 147456).fmod 20))) = cutTxt x from rfl] at *
  generalize cutTxt x = y at *
  k_steps
  all_goals
    rename Fr h₀ _ _ _ => F3
    rename News h₀ _ _ _ => N9
    first
    | (rw [put_pos (p := (x.fdiv 4608).fmod 32) (by assumption), put_pos (p := (x.fdiv 144).fmod 32) (by assumption)] at hret; exact hret _ _ _ F3 N9)
    | (rw [put_pos (p := (x.fdiv 4608).fmod 32) (by assumption), put_neg (p := (x.fdiv 144).fmod 32) (by assumption)] at hret; exact hret _ _ _ F3 N9)
    | (rw [put_neg (p := (x.fdiv 4608).fmod 32) (by assumption), put_pos (p := (x.fdiv 144).fmod 32) (by assumption)] at hret; exact hret _ _ _ F3 N9)
    | (rw [put_neg (p := (x.fdiv 4608).fmod 32) (by assumption), put_neg (p := (x.fdiv 144).fmod 32) (by assumption)] at hret; exact hret _ _ _ F3 N9)
end Mine
end
section
open PySem PySem.W PyProof.Rows
set_option Elab.async false
set_option maxRecDepth 100000
set_option maxHeartbeats 4000000
namespace Mine
abbrev WV := Option Int × PySem.Str × PySem.Str
def addTo (v : WV) (y : PySem.Str) : WV := match v with
  | (none, p, q) => (none, p ++ y, q)
  | (some m, p, q) => (some m, p, q ++ y)
def wNote (note : PySem.Str) (ahead : Int) (v : WV) (k : Int) : WV := if k = ahead then addTo v note else v
def wTake (line : PySem.Str) (v : WV) (k : Int) : WV := if (Txt.item line k == Str.ofString "=") = true ∧ v.1 = none then (some k, v.2.1, Str.ofString "") else addTo v (Txt.item line k)
def wStep (line note : PySem.Str) (ahead stop : Int) (v : WV) (k : Int) : WV :=
  if ahead ≤ k ∧ k < stop then wNote note ahead v k else wTake line (wNote note ahead v k) k
inductive WS where
  | one (p : PySem.Str) (t : Tok)
  | two (m : Int) (tm : Tok) (p q : PySem.Str) (t u : Tok)
def WS.val : WS → WV
  | .one p _ => (none, p, Str.ofString "")
  | .two m _ p q _ _ => (some m, p, q)
def WS.led (lp lm : Addr) : WS → List (Addr × Obj)
  | .one p t => [(lp, PySem.W.listOf (List.toArray [.str p t]) 0), (lm, PySem.W.listOf (List.toArray []) 0)]
  | .two m tm p q t u => [(lp, PySem.W.listOf (List.toArray [.str p t, .str q u]) 1), (lm, PySem.W.listOf (List.toArray [.int m tm]) 1)]
def WP (line note : PySem.Str) (ahead stop : Int) (pre : List Int) (c : WS) : Prop := c.val = pre.foldl (wStep line note ahead stop) (none, Str.ofString "", Str.ofString "") ∧ c.val.2.1.length + c.val.2.2.length ≤ 31 * pre.length
theorem fr6 {h₀ h : Heap} {L : Addr} {m : PySem.Str → Option Value} {k1 k2 k3 k4 k5 k6 : PySem.Str} {v1 v2 v3 v4 v5 v6 : Value} (F : Fr h₀ L h m) (e1 : m k1 = some v1) (e2 : m k2 = some v2) (e3 : m k3 = some v3) (e4 : m k4 = some v4) (e5 : m k5 = some v5) (e6 : m k6 = some v6) :
    ∃ m9, Fr h₀ L h m9 ∧ m9 k1 = some v1 ∧ m9 k2 = some v2 ∧ m9 k3 = some v3 ∧ m9 k4 = some v4 ∧ m9 k5 = some v5 ∧ m9 k6 = some v6 := ⟨m, F, e1, e2, e3, e4, e5, e6⟩
theorem all6 {m : PySem.Str → Option Value} {k1 k2 k3 k4 k5 k6 : PySem.Str} {v1 v2 v3 v4 v5 v6 : Value} (e1 : m k1 = some v1) (e2 : m k2 = some v2) (e3 : m k3 = some v3) (e4 : m k4 = some v4) (e5 : m k5 = some v5) (e6 : m k6 = some v6) :
    ∀ p ∈ [(k1, v1), (k2, v2), (k3, v3), (k4, v4), (k5, v5), (k6, v6)], m p.1 = some p.2 := by
  simp [e1, e2, e3, e4, e5, e6]
section
open PySem.Calls
variable {prog : Program} {w : World} {A : Around} {E : Value → Shared → Prop} {s : Shared} {env : Env} {h₀ : Heap} {body : List Stmt} {Q : Flow → Shared → Prop}
theorem wloop {r lp lm : Addr} {n : Nat} {b₀ ahead stop : Int} {t₀ u₀ v₀ t1 t2 t3 t4 t5 : Tok} {m9 : PySem.Str → Option Value} {line note : PySem.Str}
    (hh : A.handled = none) (hr : IsRange s.heap r 0 b₀ 1 t₀ u₀ v₀) (hsmall : Builtin.Range.small 0 b₀ 1 = true) (hn : Builtin.Range.rangeSize 0 b₀ 1 = (n : Int))
    (F : Fr h₀ env.locals s.heap m9) (N : News h₀ env.locals s.heap ((WS.one (Str.ofString "") t5).led lp lm))
    (e1 : m9 (Str.ofString "line") = some (.str line t1)) (e2 : m9 (Str.ofString "ahead") = some (.int ahead t2)) (e3 : m9 (Str.ofString "stop") = some (.int stop t3)) (e4 : m9 (Str.ofString "note") = some (.str note t4)) (e5 : m9 (Str.ofString "marks") = some (.ref lm)) (e6 : m9 (Str.ofString "parts") = some (.ref lp))
    (turn : ∀ (c : WS) (pre : List Int) (k : Int) t h tk own, k = (pre.length : Int) → pre.length < n → OwnOff own [lp, lm] → WP line note ahead stop pre c →
      Fr h₀ env.locals h (fun y => if y = Str.ofString "place" then some (.int k t) else if y = Str.ofString "line" then some (.str line t1) else if y = Str.ofString "ahead" then some (.int ahead t2) else if y = Str.ofString "stop" then some (.int stop t3) else if y = Str.ofString "note" then some (.str note t4) else if y = Str.ofString "marks" then some (.ref lm) else if y = Str.ofString "parts" then some (.ref lp) else m9 y) → News h₀ env.locals h (c.led lp lm ++ own) →
      wpAny (model prog w) A (execs body env) (InvPostN h₀ env.locals (KstS (WS.led lp lm) (fun _ => [(Str.ofString "line", .str line t1), (Str.ofString "ahead", .int ahead t2), (Str.ofString "stop", .int stop t3), (Str.ofString "note", .str note t4), (Str.ofString "marks", .ref lm), (Str.ofString "parts", .ref lp)]) (fun _ => True) (Str.ofString "place") [] m9 (WP line note ahead stop) (pre ++ [k])) own [lp, lm] { s with heap := h, toks := tk } Q) E { s with heap := h, toks := tk })
    (done : ∀ (c : WS) (u : PySem.Str → Option Value) h tk, WP line note ahead stop (rangeKs 0 n) c → Fr h₀ env.locals h (fun y => if y = Str.ofString "place" then u y else if y = Str.ofString "line" then some (.str line t1) else if y = Str.ofString "ahead" then some (.int ahead t2) else if y = Str.ofString "stop" then some (.int stop t3) else if y = Str.ofString "note" then some (.str note t4) else if y = Str.ofString "marks" then some (.ref lm) else if y = Str.ofString "parts" then some (.ref lp) else m9 y) → News h₀ env.locals h (c.led lp lm) → Q .next { s with heap := h, toks := tk }) :
    wpAny (model prog w) A (pyIter (.ref r)) (fun it s₂ => LoopAtV prog w A h₀ env (Str.ofString "place") body Q E it s₂) E s := by
  refine kst_range (n := n) (WS.led lp lm) (fun _ => [(Str.ofString "line", .str line t1), (Str.ofString "ahead", .int ahead t2), (Str.ofString "stop", .int stop t3), (Str.ofString "note", .str note t4), (Str.ofString "marks", .ref lm), (Str.ofString "parts", .ref lp)]) (fun _ => True) [] (WP line note ahead stop) (WS.one (Str.ofString "") t5) hh hr hsmall hn F N trivial (all6 e1 e2 e3 e4 e5 e6) ⟨rfl, by show (Str.ofString "").length + (Str.ofString "").length ≤ 31 * 0; decide +kernel⟩ ?_ ?_
  · intro c pre k t u h tk own hk hlen hoff _ hp F₁ N₁
    exact turn c pre k t h tk own (by omega) hlen hoff hp F₁ N₁
  · intro c u h tk _ hp F₁ N₁
    exact done c u h tk hp F₁ N₁
end
def wStop (x : PySem.Str) (p q : Int) : Int := if (x.length : Int) - q - p < 13 then p else (x.length : Int) - q
def wText (x : PySem.Str) (p q : Int) : PySem.Str := if (x.length : Int) - q - p < 13 then Str.ofString "" else Str.ofString "[" ++ Str.ofString (toString ((x.length : Int) - q - p)) ++ Str.ofString " chars]"
def walkVal (x : PySem.Str) (p q : Int) : WV := (rangeKs 0 x.length).foldl (wStep x (wText x p q) p (wStop x p q)) (none, Str.ofString "", Str.ofString "")
theorem small_up {n : Nat} (h : n ≤ 1000) : Builtin.Range.small 0 (n : Int) 1 = true := small_one (by decide) (by decide) (by omega) (by omega)
theorem wText_len {x : PySem.Str} {p q : Int} (hx : x.length ≤ 100) (hp0 : 0 ≤ p) (hq0 : 0 ≤ q) : (wText x p q).length ≤ 30 := by
  unfold wText
  split
  · decide +kernel
  · have := toString_length_le (v := (x.length : Int) - q - p) (by omega) (k := 10) (by decide) (by omega)
    rw [PySem.Str.length_append, PySem.Str.length_append]
    have h1 : (Str.ofString "[").length = 1 := by decide +kernel
    have h2 : (Str.ofString " chars]").length = 7 := by decide +kernel
    omega
theorem size_up (n : Nat) : Builtin.Range.rangeSize 0 (n : Int) 1 = (n : Int) := by
  unfold Builtin.Range.rangeSize
  simp
  omega
section
open PySem.Calls
variable {prog : Program} {w : World} {A : Around} {E : Value → Shared → Prop} {s : Shared} {a b : Addr} {h₀ : Heap} {L₀ : Addr} {news : List (Addr × Obj)} {na nb : Nat} {m : Int} {t : Tok} {Q : Value → Shared → Prop}
theorem eq_nil (N : News h₀ L₀ s.heap news) (ha : (a, PySem.W.listOf (List.toArray []) na) ∈ news) (hb : (b, PySem.W.listOf (List.toArray []) nb) ∈ news) (hu : A.units + 64 < cLine) (h : Q (.bool true) s) :
    wpAny (model prog w) A (compareOp .Eq (.ref a) (.ref b)) Q E s :=
  ke_eq_ints (xs := []) (ys := []) (ns := []) (ms := []) ⟨_, N.get ha, rfl, _, rfl⟩ ⟨_, N.get hb, rfl, _, rfl⟩ .nil .nil hu h
theorem eq_one (N : News h₀ L₀ s.heap news) (ha : (a, PySem.W.listOf (List.toArray [.int m t]) na) ∈ news) (hb : (b, PySem.W.listOf (List.toArray []) nb) ∈ news) (hu : A.units + 64 < cLine) (h : Q (.bool false) s) :
    wpAny (model prog w) A (compareOp .Eq (.ref a) (.ref b)) Q E s :=
  ke_eq_ints (xs := [.int m t]) (ys := []) (ns := [m]) (ms := []) ⟨_, N.get ha, rfl, _, rfl⟩ ⟨_, N.get hb, rfl, _, rfl⟩ (.cons _ _ .nil) .nil hu (by simpa using h)
end
theorem item_len (x : PySem.Str) (k : Int) : (Txt.item x k).length ≤ 1 := by
  exact Nat.le_refl 1
theorem addTo_len (v : WV) (y : PySem.Str) : (addTo v y).2.1.length + (addTo v y).2.2.length = v.2.1.length + v.2.2.length + y.length := by
  obtain ⟨m, p, q⟩ := v
  cases m <;> simp only [addTo, PySem.Str.length_append] <;> omega
theorem wStep_len {line note : PySem.Str} {ahead stop : Int} (hn : note.length ≤ 30) (v : WV) (k : Int) : (wStep line note ahead stop v k).2.1.length + (wStep line note ahead stop v k).2.2.length ≤ v.2.1.length + v.2.2.length + 31 := by
  have hi := item_len line k
  have h1 : (wNote note ahead v k).2.1.length + (wNote note ahead v k).2.2.length ≤ v.2.1.length + v.2.2.length + 30 := by
    unfold wNote
    split
    · rw [addTo_len]; omega
    · omega
  unfold wStep
  split
  · omega
  · unfold wTake
    split
    · rename_i hh
      have h0 : (Str.ofString "").length = 0 := by decide +kernel
      show (wNote note ahead v k).2.1.length + (Str.ofString "").length ≤ _
      omega
    · rw [addTo_len]; omega
theorem wstep_skip {line note : PySem.Str} {p stop : Int} {v : WV} {k : Int} (h1 : p ≤ k) (h2 : k < stop) : wStep line note p stop v k = wNote note p v k := if_pos ⟨h1, h2⟩
theorem wstep_take {line note : PySem.Str} {p stop : Int} {v : WV} {k : Int} (h : ¬ (p ≤ k ∧ k < stop)) : wStep line note p stop v k = wTake line (wNote note p v k) k := if_neg h
theorem wnote_yes {note : PySem.Str} {p : Int} {v : WV} {k : Int} (h : k = p) : wNote note p v k = addTo v note := if_pos h
theorem wnote_no {note : PySem.Str} {p : Int} {v : WV} {k : Int} (h : k ≠ p) : wNote note p v k = v := if_neg h
theorem wtake_mark {line pp q : PySem.Str} {k : Int} (h : (Txt.item line k == Str.ofString "=") = true) : wTake line (none, pp, q) k = (some k, pp, Str.ofString "") := if_pos ⟨h, rfl⟩
theorem wtake_one {line pp q : PySem.Str} {k : Int} (h : (Txt.item line k == Str.ofString "=") = false) : wTake line (none, pp, q) k = (none, pp ++ Txt.item line k, q) := if_neg (fun e => by rw [h] at e; cases e.1)
theorem wtake_two {line pp q : PySem.Str} {m k : Int} : wTake line (some m, pp, q) k = (some m, pp, q ++ Txt.item line k) := if_neg (fun e => by cases e.2)
section
variable {h₀ h' : Heap} {Lx : Addr} {s₁ : Shared} {tk' : Nat} {own news' : List (Addr × Obj)} {lp lm : Addr} {ahead stop k : Int} {t t1 t2 t3 t4 : Tok} {m9 : PySem.Str → Option Value} {line note p q : PySem.Str} {pre : List Int} {v : WV}
theorem wend {v' : WV} (c : WS) (hv : wStep line note ahead stop v k = v') (hc : c.val = v') (hP : v = pre.foldl (wStep line note ahead stop) (none, Str.ofString "", Str.ofString "")) (hl : v.2.1.length + v.2.2.length ≤ 31 * pre.length) (hn : note.length ≤ 30)
    (F : Fr h₀ Lx h' (fun y => if y = Str.ofString "place" then some (.int k t) else if y = Str.ofString "line" then some (.str line t1) else if y = Str.ofString "ahead" then some (.int ahead t2) else if y = Str.ofString "stop" then some (.int stop t3) else if y = Str.ofString "note" then some (.str note t4) else if y = Str.ofString "marks" then some (.ref lm) else if y = Str.ofString "parts" then some (.ref lp) else m9 y)) (N : News h₀ Lx h' news') (h1 : ∀ e ∈ c.led lp lm, e ∈ news') (ha : (c.led lp lm).map (·.1) = [lp, lm]) (ho : ∀ e ∈ own, e ∈ news') :
    InvEndN h₀ Lx (KstS (WS.led lp lm) (fun _ => [(Str.ofString "line", .str line t1), (Str.ofString "ahead", .int ahead t2), (Str.ofString "stop", .int stop t3), (Str.ofString "note", .str note t4), (Str.ofString "marks", .ref lm), (Str.ofString "parts", .ref lp)]) (fun _ => True) (Str.ofString "place") [] m9 (WP line note ahead stop) (pre ++ [k])) own [lp, lm] s₁ { s₁ with heap := h', toks := tk' } := by
  refine kst_end c F N h1 ho ha trivial ?_ ?_ ⟨?_, ?_⟩
  · exact all6 (m := (fun y => if y = Str.ofString "place" then some (.int k t) else if y = Str.ofString "line" then some (.str line t1) else if y = Str.ofString "ahead" then some (.int ahead t2) else if y = Str.ofString "stop" then some (.int stop t3) else if y = Str.ofString "note" then some (.str note t4) else if y = Str.ofString "marks" then some (.ref lm) else if y = Str.ofString "parts" then some (.ref lp) else m9 y)) rfl rfl rfl rfl rfl rfl
  · intro z hz hp _
    simp only [List.forall_mem_cons, List.not_mem_nil, false_implies, implies_true, and_true, ne_eq] at hp
    obtain ⟨a1, a2, a3, a4, a5, a6⟩ := hp
    rw [if_neg hz, if_neg a1, if_neg a2, if_neg a3, if_neg a4, if_neg a5, if_neg a6]
  · rw [hc, ← hv, hP, List.foldl_append]
    rfl
  · rw [hc, ← hv, List.length_append]
    have := wStep_len (line := line) (ahead := ahead) (stop := stop) hn v k
    simp only [List.length_cons, List.length_nil]
    omega
theorem wend_one (hv : wStep line note ahead stop v k = (none, p, Str.ofString "")) (hP : v = pre.foldl (wStep line note ahead stop) (none, Str.ofString "", Str.ofString "")) (hl : v.2.1.length + v.2.2.length ≤ 31 * pre.length) (hn : note.length ≤ 30)
    {tp : Tok} (F : Fr h₀ Lx h' (fun y => if y = Str.ofString "place" then some (.int k t) else if y = Str.ofString "line" then some (.str line t1) else if y = Str.ofString "ahead" then some (.int ahead t2) else if y = Str.ofString "stop" then some (.int stop t3) else if y = Str.ofString "note" then some (.str note t4) else if y = Str.ofString "marks" then some (.ref lm) else if y = Str.ofString "parts" then some (.ref lp) else m9 y)) (N : News h₀ Lx h' news') (h1 : (lp, PySem.W.listOf (List.toArray [.str p tp]) 0) ∈ news') (h2 : (lm, PySem.W.listOf (List.toArray []) 0) ∈ news') (ho : ∀ e ∈ own, e ∈ news') :
    InvEndN h₀ Lx (KstS (WS.led lp lm) (fun _ => [(Str.ofString "line", .str line t1), (Str.ofString "ahead", .int ahead t2), (Str.ofString "stop", .int stop t3), (Str.ofString "note", .str note t4), (Str.ofString "marks", .ref lm), (Str.ofString "parts", .ref lp)]) (fun _ => True) (Str.ofString "place") [] m9 (WP line note ahead stop) (pre ++ [k])) own [lp, lm] s₁ { s₁ with heap := h', toks := tk' } :=
  wend (WS.one p tp) hv rfl hP hl hn F N (fun e he => by rcases List.mem_cons.mp he with rfl | he; exact h1; rcases List.mem_cons.mp he with rfl | he; exact h2; cases he) rfl ho
theorem wend_two {m : Int} (hv : wStep line note ahead stop v k = (some m, p, q)) (hP : v = pre.foldl (wStep line note ahead stop) (none, Str.ofString "", Str.ofString "")) (hl : v.2.1.length + v.2.2.length ≤ 31 * pre.length) (hn : note.length ≤ 30)
    {tm tp tq : Tok} (F : Fr h₀ Lx h' (fun y => if y = Str.ofString "place" then some (.int k t) else if y = Str.ofString "line" then some (.str line t1) else if y = Str.ofString "ahead" then some (.int ahead t2) else if y = Str.ofString "stop" then some (.int stop t3) else if y = Str.ofString "note" then some (.str note t4) else if y = Str.ofString "marks" then some (.ref lm) else if y = Str.ofString "parts" then some (.ref lp) else m9 y)) (N : News h₀ Lx h' news') (h1 : (lp, PySem.W.listOf (List.toArray [.str p tp, .str q tq]) 1) ∈ news') (h2 : (lm, PySem.W.listOf (List.toArray [.int m tm]) 1) ∈ news') (ho : ∀ e ∈ own, e ∈ news') :
    InvEndN h₀ Lx (KstS (WS.led lp lm) (fun _ => [(Str.ofString "line", .str line t1), (Str.ofString "ahead", .int ahead t2), (Str.ofString "stop", .int stop t3), (Str.ofString "note", .str note t4), (Str.ofString "marks", .ref lm), (Str.ofString "parts", .ref lp)]) (fun _ => True) (Str.ofString "place") [] m9 (WP line note ahead stop) (pre ++ [k])) own [lp, lm] s₁ { s₁ with heap := h', toks := tk' } :=
  wend (WS.two m tm p q tp tq) hv rfl hP hl hn F N (fun e he => by rcases List.mem_cons.mp he with rfl | he; exact h1; rcases List.mem_cons.mp he with rfl | he; exact h2; cases he) rfl ho
end
section
variable {h₀ : Heap} {L₀ : Addr} {lp lm : Addr} {own : List (Addr × Obj)} {note : PySem.Str} {ahead k : Int} {m₁ : PySem.Str → Option Value} {s : Shared} {p q : PySem.Str} {m : Int} {t tm : Tok} {B : Nat}
def NoteOne (h₀ : Heap) (L₀ lp lm : Addr) (own : List (Addr × Obj)) (m₁ : PySem.Str → Option Value) (s : Shared) (note : PySem.Str) (ahead k : Int) (p : PySem.Str) (B : Nat) (f : Flow) (s' : Shared) : Prop :=
  f = .next ∧ ∃ h' tk p' t', s' = { s with heap := h', toks := tk } ∧ Fr h₀ L₀ h' m₁ ∧ News h₀ L₀ h' ((lp, PySem.W.listOf (List.toArray [.str p' t']) 0) :: (lm, PySem.W.listOf (List.toArray []) 0) :: own) ∧ wNote note ahead (none, p, Str.ofString "") k = (none, p', Str.ofString "") ∧ p'.length ≤ B
def NoteTwo (h₀ : Heap) (L₀ lp lm : Addr) (own : List (Addr × Obj)) (m₁ : PySem.Str → Option Value) (s : Shared) (note : PySem.Str) (ahead k : Int) (m : Int) (tm : Tok) (p : PySem.Str) (t : Tok) (q : PySem.Str) (B : Nat) (f : Flow) (s' : Shared) : Prop :=
  f = .next ∧ ∃ h' tk q' u', s' = { s with heap := h', toks := tk } ∧ Fr h₀ L₀ h' m₁ ∧ News h₀ L₀ h' ((lp, PySem.W.listOf (List.toArray [.str p t, .str q' u']) 1) :: (lm, PySem.W.listOf (List.toArray [.int m tm]) 1) :: own) ∧ wNote note ahead (some m, p, q) k = (some m, p, q') ∧ q'.length ≤ B
theorem NoteOne.mk {h' : Heap} {tk : Nat} {p' : PySem.Str} {t' : Tok} {nx : List (Addr × Obj)} (hv : wNote note ahead (none, p, Str.ofString "") k = (none, p', Str.ofString "")) (hl : p'.length ≤ B) (F : Fr h₀ L₀ h' m₁) (N : News h₀ L₀ h' nx) (h1 : (lp, PySem.W.listOf (List.toArray [.str p' t']) 0) ∈ nx) (h2 : (lm, PySem.W.listOf (List.toArray []) 0) ∈ nx) (ho : ∀ e ∈ own, e ∈ nx) :
    NoteOne h₀ L₀ lp lm own m₁ s note ahead k p B .next { s with heap := h', toks := tk } :=
  ⟨rfl, h', tk, p', t', rfl, F, fun e he => N e (by rcases List.mem_cons.mp he with rfl | he; exact h1; rcases List.mem_cons.mp he with rfl | he; exact h2; exact ho e he), hv, hl⟩
theorem NoteTwo.mk {h' : Heap} {tk : Nat} {q' : PySem.Str} {u' : Tok} {nx : List (Addr × Obj)} (hv : wNote note ahead (some m, p, q) k = (some m, p, q')) (hl : q'.length ≤ B) (F : Fr h₀ L₀ h' m₁) (N : News h₀ L₀ h' nx) (h1 : (lp, PySem.W.listOf (List.toArray [.str p t, .str q' u']) 1) ∈ nx) (h2 : (lm, PySem.W.listOf (List.toArray [.int m tm]) 1) ∈ nx) (ho : ∀ e ∈ own, e ∈ nx) :
    NoteTwo h₀ L₀ lp lm own m₁ s note ahead k m tm p t q B .next { s with heap := h', toks := tk } :=
  ⟨rfl, h', tk, q', u', rfl, F, fun e he => N e (by rcases List.mem_cons.mp he with rfl | he; exact h1; rcases List.mem_cons.mp he with rfl | he; exact h2; exact ho e he), hv, hl⟩
open PySem.Calls
variable {prog : Program} {w : World} {A : Around} {E : Value → Shared → Prop} {st : Stmt} {env : Env} {Q : Flow → Shared → Prop}
theorem note_one {h₁ : Heap} (B : Nat) (_F : Fr h₀ L₀ h₁ m₁) (_N : News h₀ L₀ h₁ ((lp, PySem.W.listOf (List.toArray [.str p t]) 0) :: (lm, PySem.W.listOf (List.toArray []) 0) :: own)) (note : PySem.Str) (ahead k : Int) (hgo : wpAny (model prog w) A (exec st env) (NoteOne h₀ L₀ lp lm own m₁ s note ahead k p B) E s)
    (rest : ∀ h' tk p' t', Fr h₀ L₀ h' m₁ → News h₀ L₀ h' ((lp, PySem.W.listOf (List.toArray [.str p' t']) 0) :: (lm, PySem.W.listOf (List.toArray []) 0) :: own) → wNote note ahead (none, p, Str.ofString "") k = (none, p', Str.ofString "") → p'.length ≤ B → Q .next { s with heap := h', toks := tk }) : wpAny (model prog w) A (exec st env) Q E s := by
  refine wpAny_mono hgo (fun f s' h => ?_) fun _ _ x => x
  obtain ⟨rfl, h', tk, p', t', rfl, F', N', e1, e2⟩ := h
  exact rest h' tk p' t' F' N' e1 e2
theorem note_two {h₁ : Heap} {tx : Tok} (B : Nat) (_F : Fr h₀ L₀ h₁ m₁) (_N : News h₀ L₀ h₁ ((lp, PySem.W.listOf (List.toArray [.str p t, .str q tm]) 1) :: (lm, PySem.W.listOf (List.toArray [.int m tx]) 1) :: own)) (note : PySem.Str) (ahead k : Int) (hgo : wpAny (model prog w) A (exec st env) (NoteTwo h₀ L₀ lp lm own m₁ s note ahead k m tx p t q B) E s)
    (rest : ∀ h' tk q' u', Fr h₀ L₀ h' m₁ → News h₀ L₀ h' ((lp, PySem.W.listOf (List.toArray [.str p t, .str q' u']) 1) :: (lm, PySem.W.listOf (List.toArray [.int m tx]) 1) :: own) → wNote note ahead (some m, p, q) k = (some m, p, q') → q'.length ≤ B → Q .next { s with heap := h', toks := tk }) : wpAny (model prog w) A (exec st env) Q E s := by
  refine wpAny_mono hgo (fun f s' h => ?_) fun _ _ x => x
  obtain ⟨rfl, h', tk, q', u', rfl, F', N', e1, e2⟩ := h
  exact rest h' tk q' u' F' N' e1 e2
end
def JoinPost (h₀ : Heap) (L₀ : Addr) (s : Shared) (P : (PySem.Str → Option Value) → Prop) (f : Flow) (s' : Shared) : Prop := f = .next ∧ ∃ h' tk m', s' = { s with heap := h', toks := tk } ∧ Fr h₀ L₀ h' m' ∧ P m'
section
open PySem.Calls
variable {prog : Program} {w : World} {A : Around} {E : Value → Shared → Prop} {s : Shared} {h₀ : Heap} {L₀ : Addr} {st : Stmt} {env : Env} {Q : Flow → Shared → Prop}
theorem if_join {h₁ : Heap} {m₁ : PySem.Str → Option Value} (_F : Fr h₀ L₀ h₁ m₁) (P : (PySem.Str → Option Value) → Prop) (hgo : wpAny (model prog w) A (exec st env) (JoinPost h₀ L₀ s P) E s)
    (rest : ∀ h' tk m', Fr h₀ L₀ h' m' → P m' → Q .next { s with heap := h', toks := tk }) : wpAny (model prog w) A (exec st env) Q E s := by
  refine wpAny_mono hgo (fun f s' h => ?_) fun _ _ x => x
  obtain ⟨rfl, h', tk, m', rfl, F', hP⟩ := h
  exact rest h' tk m' F' hP
theorem news_nil {h : Heap} {m : PySem.Str → Option Value} (_F : Fr h₀ L₀ h m) : News h₀ L₀ h [] := News.nil
theorem JoinPost.mk {P : (PySem.Str → Option Value) → Prop} {h' : Heap} {tk : Nat} {m' : PySem.Str → Option Value} (F : Fr h₀ L₀ h' m') (h : P m') : JoinPost h₀ L₀ s P .next { s with heap := h', toks := tk } := ⟨rfl, h', tk, m', rfl, F, h⟩
end
end Mine
end
section
open PySem PySem.W PyProof.Rows
set_option Elab.async false
set_option maxRecDepth 100000
set_option maxHeartbeats 4000000
namespace Mine
theorem walk_call (w : World) (mean : ExcName → Option Value) (mg mb : PySem.Str → Option Value) (dp un : Nat) (gd : Option (List Code)) (cn : PySem.Str) (cs : Scope) (a : Addr) (ccd : Value) (cl : List (PySem.Str × Addr)) (outer : List Env) (A₀ : Around) (base h₀ : Heap) (L₀ : Addr) (m₀ : PySem.Str → Option Value) (news : List (Addr × Obj)) (s : Shared) (Q E : Value → Shared → Prop)
    (B : Below A₀ base outer h₀) (F : Fr h₀ L₀ s.heap m₀) (X : (hd.heap_39 w.params).In h₀) (N : News h₀ L₀ s.heap news) (T : Top hd.view_39 (looseW hd.view_39 [Str.ofString "_tuplegetter", Str.ofString "Pair"]) mean mg mb h₀) (hcs : cs.kind = .function)
    (hdp : dp + 1 < recursionLimit) (hun : un + 100 < cLine) (x : PySem.Str) (tx : Tok) (p : Int) (tp : Tok) (q : Int) (tq : Tok) (hx : x.length ≤ 100) (hp0 : 0 ≤ p) (hp1 : p ≤ 100) (hq0 : 0 ≤ q) (hq1 : q ≤ 100)
    (hret1 : ∀ (pp : PySem.Str), (none, pp, Str.ofString "") = walkVal x p q → pp.length ≤ 3100 → ∀ (D lp lm : Addr) t h' tk', Fr h₀ L₀ h' m₀ → News h₀ L₀ h' ([(D, { cls := .type "tuple", data := .seq (List.toArray [.ref lm, .ref lp]) }), (lp, PySem.W.listOf (List.toArray [.str pp t]) 0), (lm, PySem.W.listOf (List.toArray []) 0)] ++ news) → Q (.ref D) { s with heap := h', toks := tk' })
    (hret2 : ∀ (m : Int) (pp qq : PySem.Str), (some m, pp, qq) = walkVal x p q → pp.length ≤ 3100 → qq.length ≤ 3100 → ∀ (D lp lm : Addr) t u tm h' tk', Fr h₀ L₀ h' m₀ → News h₀ L₀ h' ([(D, { cls := .type "tuple", data := .seq (List.toArray [.ref lm, .ref lp]) }), (lp, PySem.W.listOf (List.toArray [.str pp t, .str qq u]) 1), (lm, PySem.W.listOf (List.toArray [.int m tm]) 1)] ++ news) → Q (.ref D) { s with heap := h', toks := tk' }) :
    wpAny (model PySem.Challenge.rw_il0123_01.row.prog w) (ktrTop dp un gd cn cs L₀ a ccd cl outer) (call (.ref 186) [.str x tx, .int p tp, .int q tq]) Q E s := by
  revert X
  k_with_none
  k_with "InvEndN" => (refine Stop.intro ?_)
  k_with "exec If" => ((fail_if_success (rename Mark 2 => mK9)); refine Stop.intro ?_)
  k_with "compareOp Eq ref ref" => (k_here; (with_reducible show wpAny _ _ (compareOp CmpOp.Eq (Value.ref _) (Value.ref _)) _ _ _); k_dflt ((rename News _ _ _ _ => eN'); first | refine eq_nil eN' (by k_mem) (by k_mem) (by ktr_units) ?_ | refine eq_one eN' (by k_mem) (by k_mem) (by ktr_units) ?_))
  k_with "pyIter ref" => ((fail_if_success (rename Mark 1 => mK9)); refine Stop.intro ?_)
  k_with "call type:str" => ((with_reducible show wpAny _ _ (call (Value.type "str") [Value.int _ _]) _ _ _); k_dflt (refine PySem.P.str_of_int (shown (N := 2 ^ 1920) (by omega) (by omega) (Int.le_refl _)) ?_))
  w_top off
  k_fill
  intro X
  refine wpAny_call ?_
  (k_dflt (refine' code_own ?k1 ?k2 ?k3 ?k4 ?k5 ?kA ?kF ?kK ?k6 ?k7 ?k8 ?k9 ?kB ?_ ?c2 ?c3 ?c4 ?c5; (case kA => exact rfl); (case kF => exact rfl); (case kK => first | exact rfl | assumption); (case k1 => k_asm); (case k2 => k_asm); (case k3 => k_asm); (case k4 => k_asm); (case k5 => k_asm); (case k6 => k_is); (case k7 => k_is); (case k8 => ktr_room); (case k9 => first | exact BindsTo.of_eq rfl | exact binds_K (by k_in) rfl (by k_is) rfl rfl rfl); (case c5 => decide); (case kB => exact locs rfl); (case c2 => exact rfl); (case c3 => exact rfl); (case c4 => exact rfl); k_whole; intro g' L' h' FG' F' N' B' X' T'; (try dsimp only); (try k_lift B'); (try k_fold)))
  k_steps
  unfold Stop
  have mk8 : Mark 2 := ⟨⟩
  rename Fr _ _ _ _ => F1
  have hnl : (wText x p q).length ≤ 30 := wText_len hx hp0 hq0
  have hstp : ((x.length : Int) - q - p < 13 ∧ wStop x p q = p ∧ wText x p q = Str.ofString "") ∨ (¬ ((x.length : Int) - q - p < 13) ∧ wStop x p q = (x.length : Int) - q ∧ wText x p q = Str.ofString "[" ++ Str.ofString (toString ((x.length : Int) - q - p)) ++ Str.ofString " chars]") := by
    unfold wStop wText
    by_cases h : (x.length : Int) - q - p < 13
    · rw [if_pos h, if_pos h]; exact .inl ⟨h, rfl, rfl⟩
    · rw [if_neg h, if_neg h]; exact .inr ⟨h, rfl, rfl⟩
  refine if_join F1 (fun m => m (Str.ofString "line") = some (.str x tx) ∧ m (Str.ofString "ahead") = some (.int p tp) ∧ (∃ t, m (Str.ofString "stop") = some (.int (wStop x p q) t)) ∧ ∃ t, m (Str.ofString "note") = some (.str (wText x p q) t)) ?_ ?_
  · k_steps
    all_goals
      rename Fr _ _ _ _ => F2
      refine JoinPost.mk F2 ⟨rfl, rfl, ?_, ?_⟩
    all_goals
      rcases hstp with ⟨h1, h2, h3⟩ | ⟨h1, h2, h3⟩
    all_goals first
      | (exfalso; omega)
      | (rw [h2]; exact ⟨_, rfl⟩)
      | (rw [h3]; exact ⟨_, rfl⟩)
  · clear F1 hstp
    rintro h7 tk7 m7 F7 ⟨e1, e2, ⟨t3, e3⟩, ⟨t4, e4⟩⟩
    replace F7 := fr_at (fr_at (fr_at (fr_at F7 e1) (k := Str.ofString "ahead") (v := .int p tp) (by show (if _ then _ else _) = _; rw [if_neg (by decide +kernel)]; exact e2)) (k := Str.ofString "stop") (v := .int (wStop x p q) t3) (by show (if _ then _ else if _ then _ else _) = _; rw [if_neg (by decide +kernel), if_neg (by decide +kernel)]; exact e3)) (k := Str.ofString "note") (v := .str (wText x p q) t4) (by show (if _ then _ else if _ then _ else if _ then _ else _) = _; rw [if_neg (by decide +kernel), if_neg (by decide +kernel), if_neg (by decide +kernel)]; exact e4)
    have hval : walkVal x p q = (rangeKs 0 x.length).foldl (wStep x (wText x p q) p (wStop x p q)) (none, Str.ofString "", Str.ofString "") := rfl
    generalize wText x p q = note at *
    generalize wStop x p q = stop at *
    clear e1 e2 e3 e4
    have N7 := news_nil F7
    k_steps
    unfold Stop
    have mk9 : Mark 1 := ⟨⟩
    rename Fr _ _ _ _ => F1
    rename News _ _ _ _ => N1
    rename IsRange _ _ _ _ _ _ _ _ => R1
    obtain ⟨m9, F9, e1, e2, e3, e4, e5, e6⟩ := fr6 (k1 := Str.ofString "line") (k2 := Str.ofString "ahead") (k3 := Str.ofString "stop") (k4 := Str.ofString "note") (k5 := Str.ofString "marks") (k6 := Str.ofString "parts") F1 rfl rfl rfl rfl rfl rfl
    clear F1
    refine wloop (n := x.length) rfl R1 (small_up (by omega)) (size_up _) F9 N1 e1 e2 e3 e4 e5 e6 ?_ ?_
    · clear R1 F9 N1
      intro c pre k t h tk own hk hlen hoff hP F2 N2
      obtain ⟨hP1, hP2⟩ := hP
      with_reducible refine wpAny_execs_cons ?_
      cases c with
      | one pp tpp =>
        dsimp only [WS.val, WS.led, List.cons_append, List.nil_append] at *
        refine note_one (31 * pre.length + 30) F2 N2 note p k ?_ ?_
        · have mk7 : Mark 7 := ⟨⟩
          k_steps
          all_goals
            rename Fr _ _ _ _ => F3
            rename News _ _ _ _ => N3
            (try simp only [List.push_toArray, List.nil_append, List.cons_append, Nat.zero_add] at N3)
            first
            | exact NoteOne.mk ((wnote_yes (by assumption)).trans rfl) (by rw [PySem.Str.length_append]; omega) F3 N3 (by k_mem) (by k_mem) (by intro e he; first | exact List.mem_cons_of_mem _ (List.mem_cons_of_mem _ he) | exact List.mem_cons_of_mem _ (List.mem_cons_of_mem _ (List.mem_cons_of_mem _ he)))
            | exact NoteOne.mk (wnote_no (by assumption)) (by omega) F3 N3 (by k_mem) (by k_mem) (by intro e he; first | exact List.mem_cons_of_mem _ (List.mem_cons_of_mem _ he) | exact List.mem_cons_of_mem _ (List.mem_cons_of_mem _ (List.mem_cons_of_mem _ he)))
        · clear F2 N2
          intro h8 tk8 p8 t8 F8 N8 hw8 hl8
          dsimp only
          k_steps
          all_goals
            unfold Stop
            rename Fr _ _ _ _ => F3
            rename News _ _ _ _ => N3
            (try simp only [List.push_toArray, List.nil_append, List.cons_append, Nat.zero_add] at N3)
            first
            | (refine wend_one ?_ hP1 hP2 hnl F3 N3 (by k_mem) (by k_mem) (by intro e he; first | exact List.mem_cons_of_mem _ (List.mem_cons_of_mem _ he) | exact List.mem_cons_of_mem _ (List.mem_cons_of_mem _ (List.mem_cons_of_mem _ he)))
               first
               | rw [wstep_skip (by assumption) (by assumption), hw8]
               | rw [wstep_take (by omega), hw8, wtake_one (by assumption)])
            | (refine wend_two ?_ hP1 hP2 hnl F3 N3 (by k_mem) (by k_mem) (by intro e he; first | exact List.mem_cons_of_mem _ (List.mem_cons_of_mem _ he) | exact List.mem_cons_of_mem _ (List.mem_cons_of_mem _ (List.mem_cons_of_mem _ he)))
               rw [wstep_take (by omega), hw8, wtake_mark (by assumption)])
      | two mm tmm pp qq tpp tqq =>
        dsimp only [WS.val, WS.led, List.cons_append, List.nil_append] at *
        refine note_two (31 * pre.length + 30) F2 N2 note p k ?_ ?_
        · have mk7 : Mark 7 := ⟨⟩
          k_steps
          all_goals
            rename Fr _ _ _ _ => F3
            rename News _ _ _ _ => N3
            (try simp only [List.push_toArray, List.nil_append, List.cons_append, Nat.zero_add] at N3)
            first
            | exact NoteTwo.mk ((wnote_yes (by assumption)).trans rfl) (by rw [PySem.Str.length_append]; omega) F3 N3 (by k_mem) (by k_mem) (by intro e he; first | exact List.mem_cons_of_mem _ (List.mem_cons_of_mem _ he) | exact List.mem_cons_of_mem _ (List.mem_cons_of_mem _ (List.mem_cons_of_mem _ he)))
            | exact NoteTwo.mk (wnote_no (by assumption)) (by omega) F3 N3 (by k_mem) (by k_mem) (by intro e he; first | exact List.mem_cons_of_mem _ (List.mem_cons_of_mem _ he) | exact List.mem_cons_of_mem _ (List.mem_cons_of_mem _ (List.mem_cons_of_mem _ he)))
        · clear F2 N2
          intro h8 tk8 p8 t8 F8 N8 hw8 hl8
          dsimp only
          k_steps
          all_goals
            unfold Stop
            rename Fr _ _ _ _ => F3
            rename News _ _ _ _ => N3
            (try simp only [List.push_toArray, List.nil_append, List.cons_append, Nat.zero_add] at N3)
            refine wend_two ?_ hP1 hP2 hnl F3 N3 (by k_mem) (by k_mem) (by intro e he; first | exact List.mem_cons_of_mem _ (List.mem_cons_of_mem _ he) | exact List.mem_cons_of_mem _ (List.mem_cons_of_mem _ (List.mem_cons_of_mem _ he)))
            first
            | rw [wstep_skip (by assumption) (by assumption), hw8]
            | rw [wstep_take (by omega), hw8, wtake_two]
    · clear R1 F9 N1
      intro c u h tk hP F2 N2
      obtain ⟨hP1, hP2⟩ := hP
      rw [← hval] at hP1
      rw [rangeKs_length] at hP2
      cases c
      all_goals
        dsimp only [WS.val, WS.led] at *
        k_steps
      · rename Fr h₀ _ _ _ => F3
        rename News _ _ _ _ => N9
        exact hret1 _ hP1 (by omega) _ _ _ _ _ _ F3 (news_app (by assumption) N9)
      · rename Fr h₀ _ _ _ => F3
        rename News _ _ _ _ => N9
        exact hret2 _ _ _ hP1 (by omega) (by omega) _ _ _ _ _ _ _ _ F3 (news_app (by assumption) N9)
end Mine
end
section
open PySem PySem.W PySem.Calls PyProof.Rows
set_option Elab.async false
set_option maxRecDepth 100000
set_option maxHeartbeats 4000000
namespace Mine
open PySem
theorem owner_map : Manifest.owners.lookup (String.ofList ['p', 'a', 'm'].reverse) = some Manifest.sig_map := by kernel_rfl
theorem slot_map_init : Slot "map" "__init__" "object.__init__" :=
  .of (owner := "object") (n := "__init__") (by rw [typeLookup_type, builtinLookup_eq_fast]; kernel_rfl) (by decide +kernel) (by decide +kernel) (by decide +kernel)
    (by first | exact .inl (by decide +kernel) | exact .inr (by decide +kernel)) (by rw [isSubtype_type]; kernel_rfl)
theorem slot_map_iter : Slot "map" "__iter__" "map.__iter__" :=
  .of (owner := "map") (n := "__iter__") (by rw [typeLookup_type, builtinLookup_eq_fast]; kernel_rfl) (by decide +kernel) (by decide +kernel) (by decide +kernel)
    (by first | exact .inl (by decide +kernel) | exact .inr (by decide +kernel)) (by rw [isSubtype_type]; kernel_rfl)
theorem slot_map_next : Slot "map" "__next__" "map.__next__" :=
  .of (owner := "map") (n := "__next__") (by rw [typeLookup_type, builtinLookup_eq_fast]; kernel_rfl) (by decide +kernel) (by decide +kernel) (by decide +kernel)
    (by first | exact .inl (by decide +kernel) | exact .inr (by decide +kernel)) (by rw [isSubtype_type]; kernel_rfl)
theorem entry_map_next : entryFor table "map.__next__" = some Builtin.«map.__next__» := entryFor_of_tree (by kernel_rfl)
theorem args_map_next (a : Value) : argsOk "map.__next__" ⟨[a], []⟩ := by
  unfold argsOk; rw [signature?_of (id := "map.__next__") (n := ['_', '_', 't', 'x', 'e', 'n', '_', '_']) (o := ['p', 'a', 'm']) (by kernel_rfl) owner_map]; kernel_rfl
theorem args_map_iter (a : Value) : argsOk "map.__iter__" ⟨[a], []⟩ := by
  unfold argsOk; rw [signature?_of (id := "map.__iter__") (n := ['_', '_', 'r', 'e', 't', 'i', '_', '_']) (o := ['p', 'a', 'm']) (by kernel_rfl) owner_map]; kernel_rfl
theorem entry_map_iter : entryFor table "map.__iter__" = some Builtin.«dict_keyiterator.__iter__» :=
  entryFor_alias (id' := "dict_keyiterator.__iter__") (by kernel_rfl) (by first | rfl | decide +kernel | (unfold String.splitOn; simp +decide [String.splitOnAux])) (by decide +kernel) (by kernel_rfl)
theorem mro_map : mroOf (.type "map") = pure [.type "map", .type "object"] := by rw [mroOf_type]; kernel_rfl
theorem lookup_map_new : typeLookup (.type "map") "__new__" = pure (some (.builtin "map.__new__")) := by rw [typeLookup_type, builtinLookup_eq_fast]; kernel_rfl
theorem called_map : TypeCalled "map" "map.__new__" "object.__init__" :=
  ⟨by decide +kernel, by decide +kernel, ⟨_, _, mro_map⟩, madeBy_type mro_map lookup_map_new (by decide +kernel), by decide +kernel, by rw [isSubtype_type]; kernel_rfl, slot_map_init⟩
theorem typeCall_map (a b : Value) : checkTypeCall "map" ⟨[a, b], []⟩ = pure () := by kernel_rfl
theorem newCall_map (a b : Value) : checkBuiltinCall "map.__new__" ⟨[.type "map", a, b], []⟩ = pure () := by kernel_rfl
theorem entry_map_new : entryFor table "map.__new__" = some Builtin.«map.__new__» := entryFor_of_tree (by kernel_rfl)
theorem sub_map : isSubtype (.type "map") (.type "map") = pure true := by rw [isSubtype_type]; kernel_rfl
theorem map_no_len : typeLookup (.type "map") "__len__" = pure none := by rw [typeLookup_type, builtinLookup_eq_fast]; kernel_rfl
theorem map_no_hint : typeLookup (.type "map") "__length_hint__" = pure none := by rw [typeLookup_type, builtinLookup_eq_fast]; kernel_rfl
abbrev IsMap (h : Heap) (z TI : Addr) (f : Value) : Prop := h.get? z = some { cls := .type "map", dict := none, data := .fields #[.ref TI, f], slots := #[] }
abbrev IsOne (h : Heap) (T : Addr) (a : Value) : Prop := h.get? T = some { cls := .type "tuple", data := .seq #[a] }
abbrev mapH1 (h : Heap) (l : Addr) : Heap := h.push { cls := .type "list_iterator", data := .fields #[.ref l, .int 0 0] }
abbrev mapH2 (h : Heap) (l : Addr) : Heap := (mapH1 h l).push { cls := .type "tuple", data := .seq #[.ref h.objs.size] }
abbrev mapH3 (h : Heap) (l : Addr) (f : Value) : Heap := (mapH2 h l).push { cls := .type "map", data := .fields #[.ref (mapH1 h l).objs.size, f] }
theorem meets_map_new (f : Value) (l : Addr) (xs : Array Value) :
    Meets (Builtin.«map.__new__» ⟨[.type "map", f, .ref l], []⟩) (fun _ R s => s.heap.IsList l xs ∧
      R (.ok (.ret (.ref (mapH2 s.heap l).objs.size))) { s with heap := mapH3 s.heap l f }) :=
  .of_wp fun prog w A R s h => by
    obtain ⟨hp, g, d, tk, os⟩ := s; obtain ⟨hl1, h⟩ := h
    have hsub := sub_map
    have hL1 : Heap.IsList (Shared.heap ⟨hp, g, d, tk, os⟩) l xs := hl1
    wp_walk using wpAny_pyIter_list hL1
    exact ⟨_, rfl, h⟩
section
variable {prog : Program} {w : World} {A : Around} {E : Value → Shared → Prop} {s : Shared}
theorem call_map {f : Value} {l : Addr} {xs : Array Value} {Q : Value → Shared → Prop} (hl : s.heap.IsList l xs)
    (h : ∀ h', IsMap h' (s.heap.objs.size + 2) (s.heap.objs.size + 1) f → IsOne h' (s.heap.objs.size + 1) (.ref s.heap.objs.size) → h'.IsListIter s.heap.objs.size l 0 →
      (∀ c o, s.heap.get? c = some o → h'.get? c = some o) → Q (.ref (s.heap.objs.size + 2)) { s with heap := h' }) :
    wpAny (model prog w) A (call (.type "map") [f, .ref l]) Q E s := by
  refine callType_new called_map (by decide) (typeCall_map _ _) (newCall_map _ _) (fun obj => F.args_object_init_3 obj _ _) entry_map_new
    (meets_map_new f l xs) ⟨hl, ?_⟩
  have z1 : (mapH1 s.heap l).objs.size = s.heap.objs.size + 1 := Heap.size_push ..
  have z2 : (mapH2 s.heap l).objs.size = s.heap.objs.size + 2 := by rw [Heap.size_push, z1]
  have g3 : (mapH3 s.heap l f).get? (mapH2 s.heap l).objs.size = some _ := Heap.get?_push_size _ rfl
  have g2 : (mapH3 s.heap l f).get? (mapH1 s.heap l).objs.size = some _ := Heap.get?_push_of_some _ (Heap.get?_push_size _ rfl)
  have g1 : (mapH3 s.heap l f).get? s.heap.objs.size = some _ := Heap.get?_push_of_some _ (Heap.get?_push_of_some _ (Heap.get?_push_size _ rfl))
  show _ ∧ _
  rw [z2, z1] at g3
  rw [z1] at g2
  rw [z2]
  exact ⟨⟨_, g3, rfl⟩, h _ g3 g2 ⟨_, g1, rfl, rfl⟩ fun c o x => Heap.get?_push_of_some _ (Heap.get?_push_of_some _ (Heap.get?_push_of_some _ x))⟩
theorem map_next_item {z TI it l : Addr} {i : Nat} {items : Array Value} {x : PySem.Str} {t : Tok} {Q : Value → Shared → Prop}
    (hz : IsMap s.heap z TI (.builtin "str.strip")) (hT : IsOne s.heap TI (.ref it)) (h1 : s.heap.IsListIter it l i) (hl : s.heap.IsList l items) (hx : items[i]? = some (.str x t)) (hzi : z ≠ it) (hsz : x.length ≤ sizeLine)
    (hQ : ∀ h' t' k, h'.IsListIter it l (i + 1) → Heap.SameBut it s.heap h' → Q (.str (Txt.strip x) t') { s with heap := h', toks := k }) :
    wpAny (model prog w) A (Builtin.«map.__next__» ⟨[.ref z], []⟩) (fun fin s' => ∃ v, fin = .done (.ret v) ∧ Q v s') E s := by
  show wpAny _ _ (field (.ref z) 0 >>= _) _ _ _
  refine wpAny_bind (wpAny_field hz rfl (x := .ref TI) rfl ?_)
  refine wpAny_bind (wpAny_seqItems hT rfl ?_)
  dsimp only
  refine wpAny_bind ?_
  simp only [List.forIn_toArray, List.forIn_cons, List.forIn_nil]
  refine wpAny_bind (wpAny_bind (wpAny_holding ?_))
  refine wpAny_nextOf_list_item h1 hl hx fun h₁ h1₁ hs₁ => ?_
  refine wpAny_pure (wpAny_pure ?_)
  have hz₁ : IsMap h₁ z TI (.builtin "str.strip") := (hs₁.2 z hzi).trans hz
  refine wpAny_bind (wpAny_field hz₁ rfl (x := .builtin "str.strip") rfl ?_)
  refine wpAny_bind (wpAny_holding ?_)
  refine SC.strip (fun t' k => ?_) hsz
  refine wpAny_bind (wpAny_letGo ?_)
  exact wpAny_pure ⟨_, rfl, hQ h₁ t' k h1₁ hs₁⟩
theorem map_next_end {z TI it l : Addr} {i : Nat} {items : Array Value} {f : Value} {Q : Fin → Shared → Prop} (hh : A.handled = none)
    (hz : IsMap s.heap z TI f) (hT : IsOne s.heap TI (.ref it)) (h1 : s.heap.IsListIter it l i) (hl : s.heap.IsList l items) (hx : items[i]? = none)
    (hE : ∀ h' e, Heap.ExtBut it s.heap h' → (∃ o, h'.get? e = some o ∧ o.cls = .type "StopIteration") → E (.ref e) { s with heap := h' }) :
    wpAny (model prog w) A (Builtin.«map.__next__» ⟨[.ref z], []⟩) Q E s := by
  show wpAny _ _ (field (.ref z) 0 >>= _) _ _ _
  refine wpAny_bind (wpAny_field hz rfl (x := .ref TI) rfl ?_)
  refine wpAny_bind (wpAny_seqItems hT rfl ?_)
  dsimp only
  refine wpAny_bind ?_
  simp only [List.forIn_toArray, List.forIn_cons, List.forIn_nil]
  refine wpAny_bind (wpAny_bind (wpAny_holding ?_))
  exact wpAny_nextOf_list_end hh h1 hl hx hE
theorem pyNext_map_item {z TI it l : Addr} {i : Nat} {items : Array Value} {x : PySem.Str} {t : Tok} {Q : Option Value → Shared → Prop}
    (hz : IsMap s.heap z TI (.builtin "str.strip")) (hT : IsOne s.heap TI (.ref it)) (h1 : s.heap.IsListIter it l i) (hl : s.heap.IsList l items) (hx : items[i]? = some (.str x t)) (hzi : z ≠ it) (hsz : x.length ≤ sizeLine)
    (hQ : ∀ h' t' k, h'.IsListIter it l (i + 1) → Heap.SameBut it s.heap h' → Q (some (.str (Txt.strip x) t')) { s with heap := h', toks := k }) : wpAny (model prog w) A (pyNext (.ref z)) Q E s := by
  have hTy : s.TypeIs (.ref z) "map" := ⟨_, hz, rfl⟩
  unfold pyNext
  exact wpAny_bind (wpAny_attempt (wpAny_callSpecial?_slot (name := Str.ofString "__next__") hTy slot_map_next
    (wpAny_call_entry slot_map_next hTy entry_map_next
      (map_next_item hz hT h1 hl hx hzi hsz fun h' t' k a b => wpAny_pure (hQ h' t' k a b)) (args_map_next _))))
theorem pyNext_map_end {z TI it l : Addr} {i : Nat} {items : Array Value} {f : Value} {Q : Option Value → Shared → Prop} (hh : A.handled = none)
    (hz : IsMap s.heap z TI f) (hT : IsOne s.heap TI (.ref it)) (h1 : s.heap.IsListIter it l i) (hl : s.heap.IsList l items) (hx : items[i]? = none)
    (hQ : ∀ h', Heap.ExtBut it s.heap h' → Q none { s with heap := h' }) : wpAny (model prog w) A (pyNext (.ref z)) Q E s := by
  have hTy : s.TypeIs (.ref z) "map" := ⟨_, hz, rfl⟩
  unfold pyNext
  refine wpAny_bind (wpAny_attempt (wpAny_callSpecial?_slot (name := Str.ofString "__next__") hTy slot_map_next
    (wpAny_call_entry slot_map_next hTy entry_map_next (map_next_end hh hz hT h1 hl hx fun h' e hk he => ?_) (args_map_next _))))
  obtain ⟨o, ho, hc⟩ := he
  refine wpAny_bind (wpAny_isInstance (T := "StopIteration") (b := true) ⟨o, ho, hc⟩ isSubtype_stop ?_)
  exact wpAny_pure (hQ _ hk)
theorem pyIter_map {z TI : Addr} {f : Value} {Q : Value → Shared → Prop} (hz : IsMap s.heap z TI f) (h : Q (.ref z) s) : wpAny (model prog w) A (pyIter (.ref z)) Q E s := by
  have hT : s.TypeIs (.ref z) "map" := ⟨_, hz, rfl⟩
  refine wpAny_pyIter_slot hT slot_map_iter (wpAny_call_entry slot_map_iter hT entry_map_iter ?_ (args_map_iter _))
  show wpAny _ _ (ret (.ref z)) _ _ s
  exact wpAny_pure ⟨_, rfl, "map", _, hT, slot_map_next.lookup, h⟩
end
theorem walks_map {prog : Program} {w : World} {A : Around} (hh : A.handled = none) (z TI it l : Addr) (items : Array Value) (ys : List PySem.Str) (hn : items.size = ys.length)
    (hit : ∀ (i : Nat) (y : PySem.Str), ys[i]? = some y → y.length ≤ sizeLine ∧ ∃ t, items[i]? = some (Value.str y t)) (hzi : z ≠ it) (hTi : TI ≠ it) (hli : l ≠ it) :
    Walks prog w A z [z, TI, it, l] [it] items.size (fun i v => ∃ (y : PySem.Str) (t : Tok), ys[i]? = some y ∧ v = Value.str (Txt.strip y) t) (fun i h => IsMap h z TI (.builtin "str.strip") ∧ IsOne h TI (.ref it) ∧ h.IsListIter it l i ∧ h.IsList l items) where
  sub := fun b hb => by simp at hb; simp [hb]
  frame := fun _ _ _ st hk => ⟨hk z (by simp) _ st.1, hk TI (by simp) _ st.2.1, st.2.2.1.at fun o e => hk it (by simp) o e, st.2.2.2.at fun o e => hk l (by simp) o e⟩
  item := fun i s Q E hi st hQ => by
    have hlt : i < ys.length := by omega
    obtain ⟨hs, t, hx⟩ := hit i ys[i] (by simp [hlt])
    refine pyNext_map_item st.1 st.2.1 st.2.2.1 st.2.2.2 hx hzi hs fun h' t' k h1 hsb => ?_
    exact hQ _ h' k ⟨ys[i], t', by simp [hlt], rfl⟩ ⟨hsb.extBut _ _ hzi st.1, hsb.extBut _ _ hTi st.2.1, h1, st.2.2.2.extBut hsb.extBut hli⟩ fun b o hb e => hsb.extBut b o (fun h => hb (by simp [h])) e
  done := fun s Q E st hQ => pyNext_map_end hh st.1 st.2.1 st.2.2.1 st.2.2.2 (by simp) fun h' he' => hQ h' s.toks fun b o hb e => he' b o (fun h => hb (by simp [h])) e
  self := fun _ _ _ _ st hQ => pyIter_map st.1 hQ
section
variable {prog : Program} {w : World} {A : Around} {E : Value → Shared → Prop} {s : Shared} {I : Addr} {fp wr : List Addr} {G : Array GenState → Array GenState → Prop} {n : Nat} {P : Nat → Value → Prop} {St : Nat → Shared → Prop}
theorem collect_map {Q : List Value → Shared → Prop} (W : WalksS prog w A.in1 I fp wr G n P St) (hT : ∀ i s, St i s → s.TypeIs (.ref I) "map") (hst : St 0 s) (hfp : ∀ b ∈ fp, b < s.heap.objs.size) (hI : I ∈ fp)
    (hQ : ∀ s' acc, Moved wr G s s' → ItemsOf P acc n → Q acc.toList s') (hn : n ≤ sizeLine) : wpAny (model prog w) A (collect (.ref I)) Q E s := by
  have hSf : s.heap.objs.size ∉ fp := fun hm => Nat.lt_irrefl _ (hfp _ hm)
  have hSI : s.heap.objs.size ≠ I := fun e => hSf (e ▸ hI)
  unfold collect
  refine wpAny_bind (wpAny_runValue (codeAny_builtin F.entry_proto_collect ?_))
  rw [Around.under_plainId F.plain_proto_collect _]
  show wpAny _ A.in1 (newList [] >>= fun l => again (.builtin "list.__iadd__" ⟨[l, .ref I], []⟩)) _ _ s
  refine wpAny_bind (wpAny_newObj_type ?_)
  refine wpAny_pure ⟨plainId_quiet F.plain_list_iadd _, codeAny_builtin F.entry_list_iadd ?_⟩
  rw [Around.under_plainId F.plain_list_iadd _]
  have hst₁ := W.frame 0 s (s.heap.push { cls := .type "list", data := .seq ([] : List Value).toArray }) s.toks hst (Nat.le_refl _) fun b _ o e => Heap.get?_push_of_some _ e
  show wpAny _ A.in1 (Builtin.List.listExtendWith (.ref s.heap.objs.size) (.ref I) (.ref s.heap.objs.size)) _ _ _
  unfold Builtin.List.listExtendWith
  refine wpAny_bind (wpAny_typeOf (hT 0 _ hst₁) ?_)
  have h1 : Builtin.List.listSameRef (.ref s.heap.objs.size) (.ref I) = false := by simp [Builtin.List.listSameRef, hSI]
  have h2 : (Value.type "map" == Value.type "list") = false := by decide
  have h3 : (Value.type "map" == Value.type "tuple") = false := by decide
  simp only [h1, h2, h3, Bool.or_false, Bool.false_eq_true, if_false]
  refine wpAny_bind (W.self 0 _ _ _ hst₁ ?_)
  refine wpAny_bind (wpAny_holding ?_)
  unfold Builtin.List.listLengthHint
  refine wpAny_bind (wpAny_specialOf (hT 0 _ hst₁) map_no_len ?_)
  show wpAny _ A.in1 (specialOf (Value.ref I) (Str.ofString "__length_hint__") >>= _) _ _ _
  refine wpAny_bind (wpAny_specialOf (hT 0 _ hst₁) map_no_hint ?_)
  refine wpAny_pure ?_
  show wpAny _ A.in1 (rule "list.extend.makes-room" >>= fun _ => Builtin.List.listTouch (.ref s.heap.objs.size) >>= fun _ =>
    again (.builtin "list.extend.loop" ⟨[.ref s.heap.objs.size, .ref I, .ref s.heap.objs.size], []⟩)) _ _ _
  refine wpAny_bind (wpAny_rule ?_)
  have hS₁ : (s.heap.push { cls := .type "list", data := .seq ([] : List Value).toArray }).get? s.heap.objs.size = some { cls := .type "list", data := .seq ([] : List Value).toArray } := Heap.get?_push_size _ rfl
  refine wpAny_bind ?_
  show wpAny _ A.in1 (updateSeq s.heap.objs.size (·.push .none) >>= fun _ => updateSeq s.heap.objs.size (·.pop)) _ _ _
  refine wpAny_bind (wpAny_updateSeq hS₁ rfl ?_)
  have hS₂ := Heap.get?_update_self (Obj.mapSeq (·.push Value.none)) hS₁ rfl
  refine wpAny_updateSeq hS₂ rfl ?_
  have hS₃ := Heap.get?_update_self (Obj.mapSeq (·.pop)) hS₂ rfl
  have oth : ∀ b o, b ≠ s.heap.objs.size → (s.heap.push { cls := .type "list", data := .seq ([] : List Value).toArray }).get? b = some o →
      (((s.heap.push { cls := .type "list", data := .seq ([] : List Value).toArray }).update s.heap.objs.size (Obj.mapSeq (·.push Value.none))).update s.heap.objs.size (Obj.mapSeq (·.pop))).get? b = some o :=
    fun b o hb e => (Heap.get?_update_other _ _ (Ne.symm hb)).trans ((Heap.get?_update_other _ _ (Ne.symm hb)).trans e)
  refine wpAny_pure ⟨plainId_quiet F.plain_extend_loop _, codeAny_extend_loopS W hn _ hSf _ n 0 _ _ _ rfl (Nat.zero_le _)
    (W.frame 0 ({ s with heap := s.heap.push { cls := .type "list", data := .seq ([] : List Value).toArray } } : Shared) _ s.toks hst₁ (Nat.le_refl _) fun b hb o e => oth b o (fun h => hSf (h ▸ hb)) e) hS₃ (ItemsOf.nil P) fun s' acc' c' hm hS' hacc => ?_⟩
  show wpAny _ A (load s.heap.objs.size >>= _) _ _ s'
  refine wpAny_bind (wpAny_load hS' ?_)
  refine wpAny_pure (hQ s' acc' (Moved.drop_new (o := { cls := .type "list", data := .seq ([] : List Value).toArray }) (tk := s.toks) (Moved.trans W.gtrans ((Moved.refl W.grefl).then_heap (by first | exact Nat.le_refl _ | exact Nat.le_succ _ | omega) fun b o hb e => ?_) hm) (Nat.le_refl _)) hacc)
  exact oth b o (fun h => hb (h ▸ List.mem_cons_self)) e
end
def Strips (ys : List PySem.Str) (vs : List Value) : Prop := vs.length = ys.length ∧ ∀ (j : Nat) (v : Value), vs[j]? = some v → ∃ (y : PySem.Str) (t : Tok), ys[j]? = some y ∧ v = Value.str (Txt.strip y) t
theorem look_map_iter : typeLookup (.type "map") "__iter__" = pure (some (.builtin "map.__iter__")) := slot_map_iter.lookup
section
variable {prog : Program} {w : World} {A : Around} {E : Value → Shared → Prop} {s : Shared} {h₀ : Heap} {L₀ : Addr} {m : PySem.Str → Option Value} {news : List (Addr × Obj)}
theorem map_star {l : Addr} {items : Array Value} {ys : List PySem.Str} {Q : List Value → Shared → Prop} (hh : A.handled = none) (F : Fr h₀ L₀ s.heap m) (N : News h₀ L₀ s.heap news) (hl : s.heap.IsList l items) (hn : items.size = ys.length) (hz : ys.length ≤ 1000)
    (hit : ∀ (i : Nat) (y : PySem.Str), ys[i]? = some y → y.length ≤ sizeLine ∧ ∃ t, items[i]? = some (Value.str y t))
    (h : ∀ vs h' tk, Fr h₀ L₀ h' m → News h₀ L₀ h' news → Strips ys vs → Q vs { s with heap := h', toks := tk }) :
    wpAny (model prog w) A (call (.type "map") [.builtin "str.strip", .ref l]) (fun v s₁ => StarOf (model prog w) A E v Q s₁) E s := by
  refine call_map hl fun h' hm ho hi hk => ?_
  obtain ⟨ol, hol, _⟩ := id hl
  have hlt : l < s.heap.objs.size := Heap.lt_size hol
  have hl' : h'.IsList l items := hl.at fun o e => hk l o e
  have hT : ({ s with heap := h' } : Shared).TypeIs (.ref (s.heap.objs.size + 2)) "map" := ⟨_, hm, rfl⟩
  have W := (walks_map (prog := prog) (w := w) (A := A.in1) hh (s.heap.objs.size + 2) (s.heap.objs.size + 1) s.heap.objs.size l items ys hn hit (Nat.ne_of_gt (by omega)) (Nat.ne_of_gt (by omega)) (Nat.ne_of_lt hlt)).toS
  unfold StarOf notIterableAtAll
  refine wpAny_bind (wpAny_specialOf hT look_map_iter (wpAny_pure ⟨rfl, ?_⟩))
  refine collect_map W (fun i s' st => ⟨_, st.1, rfl⟩) ⟨hm, ho, hi, hl'⟩ ?_ (by simp) ?_ (by rw [sizeLine_eq]; omega)
  · intro b hb
    simp only [List.mem_cons, List.not_mem_nil, or_false] at hb
    have h1 := Heap.lt_size hm
    have h2 := Heap.lt_size ho
    rcases hb with rfl | rfl | rfl | rfl
    · exact h1
    · exact h2
    · obtain ⟨_, e, _⟩ := hi; exact Heap.lt_size e
    · obtain ⟨_, e, _⟩ := hl'; exact Heap.lt_size e
  · rintro ⟨h₂, g₂, d₂, t₂, o₂⟩ acc hmv hacc
    obtain ⟨mh, mg, md, mo, _⟩ := hmv
    dsimp only at mh mg md mo
    subst mg md mo
    have keep : ∀ b o, s.heap.get? b = some o → h₂.get? b = some o := fun b o e => mh b o (by simp; exact Nat.ne_of_lt (Heap.lt_size e)) (hk b o e)
    obtain ⟨oL, es, ep, hL, r⟩ := F.ns
    refine h _ h₂ t₂ ⟨⟨oL, es, ep, keep _ _ hL, r⟩, fun b x q => keep _ _ (F.keep b x q), F.above⟩ (fun p hp => ⟨keep _ _ (N p hp).1, (N p hp).2⟩) ⟨?_, ?_⟩
    · rw [Array.length_toList, hacc.1, hn]
    · intro j v hv
      exact hacc.2 j v (by simpa using hv)
end
end Mine
end
section
open PySem PySem.W PySem.Calls PyProof.Rows
set_option Elab.async false
set_option maxRecDepth 100000
set_option maxHeartbeats 4000000
namespace Mine
section
variable (w : World) (M : Model)
theorem pk_made (S : Setting) : peek (hd.heap_39 w.params) S (Bind.madeBy (.ref 155)) = some none := by kernel_rfl
theorem pk_here (S : Setting) : peek (hd.heap_39 w.params) S (Bind.madeHere "tuple.__new__" (.ref 155)) = some () := by kernel_rfl
theorem pk_call (S : Setting) : peek (hd.heap_39 w.params) S (specialOf (.ref 155) "__call__") = some (some (.builtin "type.__call__")) := by kernel_rfl
theorem pk_inst (S : Setting) : peek (hd.heap_39 w.params) S (isInstance (.ref 155) (.type "type")) = some true := by kernel_rfl
theorem pk_type (S : Setting) : peek (hd.heap_39 w.params) S (isType (.ref 155)) = some true := by kernel_rfl
theorem pk_sub (S : Setting) : peek (hd.heap_39 w.params) S (isSubtype (.ref 155) (.type "tuple")) = some true := by kernel_rfl
theorem pk_self (S : Setting) : peek (hd.heap_39 w.params) S (isSubtype (.ref 155) (.ref 155)) = some true := by kernel_rfl
theorem pk_obj (S : Setting) : peek (hd.heap_39 w.params) S (isSubtype (.ref 155) (.type "object")) = some true := by kernel_rfl
theorem pk_init (S : Setting) : peek (hd.heap_39 w.params) S (typeLookup (.ref 155) "__init__") = some (some (.builtin "object.__init__")) := by kernel_rfl
theorem pk_mro (S : Setting) : peek (hd.heap_39 w.params) S (mroOf (.ref 155)) = some [.ref 155, .ref 132, .type "tuple", .type "object"] := by kernel_rfl
end
end Mine
end
section
open PySem PySem.W PySem.Calls PyProof.Rows
set_option Elab.async false
set_option maxRecDepth 100000
set_option maxHeartbeats 4000000
namespace Mine
theorem pk_check (w : World) (S : Setting) (T : Addr) : peek (hd.heap_39 w.params) S (checkBuiltinCall "tuple.__new__" ⟨[.ref 155, .ref T], []⟩) = some () := by kernel_rfl
theorem pk_hasdel (w : World) (S : Setting) : peek (hd.heap_39 w.params) S (classHasDel 155) = some false := by kernel_rfl
theorem tn_quiet : Code.quiet (.builtin "tuple.__new__" ⟨[], []⟩) = true := by decide +kernel
theorem tn_entry : entryFor table "tuple.__new__" = some Builtin.«tuple.__new__» := entryFor_of_tree (by kernel_rfl)
theorem tn_plain : plainId "tuple.__new__" = true := by decide +kernel
section
variable {prog : Program} {w : World} {A : Around} {E : Value → Shared → Prop} {s : Shared} {h₀ : Heap} {L₀ : Addr} {m : PySem.Str → Option Value} {news : List (Addr × Obj)}
abbrev pairObj (dx : Addr) (vs : Array Value) : Obj := { cls := .ref 155, dict := some dx, data := .seq vs }
theorem tuple_new {T : Addr} {vs : Array Value} {n : Nat} {Q : Value → Shared → Prop} (X : (hd.heap_39 w.params).In s.heap) (F : Fr h₀ L₀ s.heap m) (N : News h₀ L₀ s.heap news)
    (hT : s.heap.get? T = some { cls := .type "tuple", data := .seq vs n }) (hz : vs.size ≤ 1000)
    (h : ∀ x dx h', Fr h₀ L₀ h' m → News h₀ L₀ h' ((x, pairObj dx vs) :: (dx, dictOf [] 0) :: news) → Q (.ref x) { s with heap := h' }) :
    wpAny (model prog w) A (call (.builtin "tuple.__new__") [.ref 155, .ref T]) Q E s := by
  have LC : Looks (model prog w) s.heap (checkBuiltinCall "tuple.__new__" ⟨[.ref 155, .ref T], []⟩) () := Looks.of_peek X (pk_check w _ T)
  have L1 : Looks (model prog w) s.heap (isType (.ref 155)) true := Looks.of_peek X (pk_type w _)
  have L2 : Looks (model prog w) s.heap (isSubtype (.ref 155) (.type "tuple")) true := Looks.of_peek X (pk_sub w _)
  have L3 : Looks (model prog w) s.heap (Bind.madeHere "tuple.__new__" (.ref 155)) () := Looks.of_peek X (pk_here w _)
  have L4 : Looks (model prog w) s.heap (typeLookup (.ref 155) "__init__") (some (.builtin "object.__init__")) := Looks.of_peek X (pk_init w _)
  obtain ⟨hh, g, d, t, os⟩ := s
  refine wpAny_call (codeAny_call_builtin tn_plain tn_entry (LC.at ?_))
  unfold Builtin.«tuple.__new__»
  have hz' : vs.size ≤ sizeLine := by rw [sizeLine_eq]; omega
  repeat (first | (with_reducible refine wpAny_collect_seq T (.inr rfl) hT rfl rfl (fun h' hk => ?_) hz') | lk)
  dsimp only at hk X F N
  have X' : (hd.heap_39 w.params).In h' := X.keeps hk
  have F' : Fr h₀ L₀ h' m := by
    obtain ⟨oL, es, ep, hL, r⟩ := F.ns
    exact ⟨⟨oL, es, ep, hk _ _ hL, r⟩, fun b x q => hk _ _ (F.keep b x q), F.above⟩
  have N' : News h₀ L₀ h' news := fun p hp => ⟨hk _ _ (N p hp).1, (N p hp).2⟩
  have N1 := (N'.push F' (dictOf [] 0)).push (F'.push _) (pairObj h'.objs.size vs)
  have F1 : Fr h₀ L₀ ((h'.push (dictOf [] 0)).push (pairObj h'.objs.size vs)) m := (F'.push _).push _
  rw [Heap.size_push] at N1
  have Q1 := h _ _ _ F1 N1
  have X1 : (hd.heap_39 w.params).In ((h'.push (dictOf [] 0)).push (pairObj h'.objs.size vs)) := X'.keeps fun b o e => Heap.get?_push_of_some _ (Heap.get?_push_of_some _ e)
  have L5 : Looks (model prog w) ((h'.push (dictOf [] 0)).push (pairObj h'.objs.size vs)) (classHasDel 155) false := Looks.of_peek X1 (pk_hasdel w _)
  rw [show vs.toList.toArray = vs by simp, if_neg (Nat.not_lt.mpr hz')]
  unfold newObjAsIs
  refine wpAny_bind (wpAny_bind (wpAny_alloc (wpAny_pure (wpAny_bind (L5.at ?_)))))
  rw [if_neg Bool.false_ne_true]
  refine wpAny_pure (wpAny_pure ?_)
  rw [Heap.size_push]
  exact Q1
end
end Mine
end
section
open PySem PySem.W PySem.Calls PyProof.Rows
set_option Elab.async false
set_option maxRecDepth 100000
set_option maxHeartbeats 4000000
namespace Mine
theorem pk_attr (w : World) (S : Setting) : findCls (hd.heap_39 w.params) (.ref 155) (.type "type") "__new__" = some (.get (.builtin "staticmethod.__get__") (.ref 133) .none (.ref 155)) := by kernel_rfl
theorem pk_reads (w : World) : readsIn (hd.heap_39 w.params) 155 (.type "type") = true := by kernel_rfl
theorem pk_rec (w : World) : recIn (hd.heap_39 w.params) 133 "staticmethod" = some (.ref 82 :: []) := by kernel_rfl
section
variable {prog : Program} {w : World} {A : Around} {E : Value → Shared → Prop} {s : Shared} {h₀ : Heap} {L₀ : Addr} {m : PySem.Str → Option Value} {news : List (Addr × Obj)}
theorem pair_call {v₁ : Value} {rest : List Value} {Q : Value → Shared → Prop} (hargs : ∀ obj, argsOk "object.__init__" ⟨obj :: v₁ :: rest, []⟩) (X₀ : (hd.heap_39 w.params).In h₀) (F : Fr h₀ L₀ s.heap m)
    (h : wpAny (model prog w) (A.under (.builtin "type.__call__" ⟨.ref 155 :: v₁ :: rest, []⟩)) (call (.ref 82) (.ref 155 :: v₁ :: rest)) (fun v s' => ∃ x, v = .ref x ∧ (∃ o, s'.heap.get? x = some o ∧ o.cls = .ref 155) ∧ (hd.heap_39 w.params).In s'.heap ∧ Q (.ref x) s') E { s with toks := s.toks + 1 }) :
    wpAny (model prog w) A (call (.ref 155) (v₁ :: rest)) Q E s := by
  have X := X₀.keeps F.keep
  obtain ⟨oC, hK⟩ : ∃ o, (hd.heap_39 w.params).lookup 155 = some o ∧ (match o.data with | .cls _ => True | _ => False) := ⟨_, rfl, trivial⟩
  have hC := X _ _ hK.1
  have call : Looks (model prog w) s.heap (specialOf (.ref 155) "__call__") (some (.builtin "type.__call__")) := Looks.of_peek X (pk_call w _)
  have typ : Looks (model prog w) s.heap (isInstance (.ref 155) (.type "type")) true := Looks.of_peek X (pk_inst w _)
  have hm : Looks (model prog w) s.heap (mroOf (.ref 155)) [.ref 155, .ref 132, .type "tuple", .type "object"] := Looks.of_peek X (pk_mro w _)
  have made : Looks (model prog w) s.heap (Bind.madeBy (.ref 155)) none := Looks.of_peek X (pk_made w _)
  have hcls := hK.2
  obtain ⟨cc, cdict, cdat, csl⟩ := oC
  cases cdat <;> first | exact hcls.elim | skip
  rename_i cd
  have go : ∀ A', wpAny (model prog w) A' (getAttr (.ref 155) "__new__") (fun v s' => v = .ref 82 ∧ s' = { s with toks := s.toks + 1 }) (fun _ _ => False) s := fun A' =>
    cls_sm F X₀ (by rfl) (pk_reads w) (pk_attr w ⟨prog, w.params⟩) (pk_rec w) rfl ⟨rfl, rfl⟩
  obtain ⟨hh, g, d, t, os⟩ := s
  refine wpAny_call (codeAny_of_tree ?_)
  show wpAny _ _ (callAny (.ref 155) _) _ _ _
  refine nd_load hC ?_
  show wpAny _ _ (callAny.viaDunder (.ref 155) _) _ _ _
  unfold callAny.viaDunder
  refine wpAny_bind (call.at ?_)
  dsimp only
  rw [tc_bind]
  refine wpAny_bind (wpAny_pure (wpAny_bind (wpAny_pure ?_)))
  refine wpAny_pure (a := Fin.again (.call (.builtin "type.__call__") ⟨.ref 155 :: v₁ :: rest, []⟩)) (And.intro rfl ?_)
  refine codeAny_call_builtin_at (Code.quiet_builtin _ (by decide +kernel)) entry_typeCall (check_slot tc_kind tc_split typ (tc_args _ _ _) ?_)
  unfold Builtin.«type.__call__»
  dsimp only at h
  have LI : ∀ (hx : Heap) (x : Addr) (o : Obj), (hd.heap_39 w.params).In hx → hx.get? x = some o → o.cls = .ref 155 → Looks (model prog w) hx (isInstance (.ref x) (.ref 155)) true := fun hx x o Xx ho hc =>
    ((Looks.ld ho).andThen (hc ▸ Looks.now)).andThen (Looks.of_peek Xx (pk_self w _))
  repeat (first | (with_reducible refine wpAny_mono (go _) (fun v s' hv => ?_) (fun _ _ x => x.elim); obtain ⟨rfl, rfl⟩ := hv) | (with_reducible refine wpAny_mono h (fun v s' hv => ?_) (fun _ _ x => x)) | lk)
  obtain ⟨x, rfl, ⟨o, ho, hoc⟩, X', hQ⟩ := hv
  have L6 := LI _ x o X' ho hoc
  have L7 : Looks (model prog w) s'.heap (typeOf (.ref x)) (.ref 155) := (Looks.ld ho).andThen (hoc ▸ Looks.now)
  have L8 : Looks (model prog w) s'.heap (typeLookup (.ref 155) "__init__") (some (.builtin "object.__init__")) := Looks.of_peek X' (pk_init w _)
  have L9 : Looks (model prog w) s'.heap (Bind.madeBy (.ref 155)) none := Looks.of_peek X' (pk_made w _)
  have L10 : Looks (model prog w) s'.heap (isInstance (.ref x) (.type "object")) true := L7.andThen (Looks.of_peek X' (pk_obj w _))
  obtain ⟨hh', g', d', t', os'⟩ := s'
  have L11 : Looks (model prog w) hh' (isSubtype (.ref 155) (.ref 155)) true := Looks.of_peek X' (pk_self w _)
  obtain ⟨oc, odd, oda, oss⟩ := o
  dsimp only at hoc ho hQ L6 L7 L8 L9 L10
  subst hoc
  repeat (first | with_reducible refine wpAny_call ?_ | lk)
  refine codeAny_call_builtin oi_plain entry_oi (check_slot oi_kind oi_split L10 (hargs _) ?_)
  unfold Builtin.«object.__init__»
  repeat lk
  exact hQ
end
end Mine
end
section
open PySem PySem.W PySem.Calls PyProof.Rows
set_option Elab.async false
set_option maxRecDepth 100000
set_option maxHeartbeats 4000000
namespace Mine
section
variable {prog : Program} {w : World} {A A₀ : Around} {E : Value → Shared → Prop} {s : Shared} {R : Result → Shared → Prop}
theorem codeC_call_function {a : Addr} {args : Args} {o : Obj} {fd : FuncData} {body : List Stmt} (hroom : A.depth < recursionLimit) (ho : s.heap.get? a = some o)
    (hd' : o.data = .func fd) (hco : fd.scope.isCoroutine = false) (hgen : fd.scope.isGenerator = false) (hbody : fd.body = .stmts body) (hcd : s.heap.CodeRec fd.code fd.qualname)
    (h : wpC (model prog w) A.in1 (bindArgs fd args) (fun binds s₁ =>
      wpAny (model prog w) A.in1 (newFunctionEnv fd.scope fd.globals fd.closure binds (fd.qualname ++ ".<locals>.") (some a) fd.code none fd.builtins)
        (fun env s₂ => s₂.heap.NoLimit ∧ codeC (model prog w) A (.func body env) R s₂) (fun e s' => R (.error e) s') s₁) (fun e s' => R (.error e) s') s) :
    codeC (model prog w) A (.call (.ref a) args) R s := by
  refine codeC_of_tree ?_
  show wpC _ A.in1 (callAny (.ref a) args) _ _ s
  simp only [callAny]
  refine wpC_bind (wpC_of (wpAny_load ho ?_))
  obtain ⟨c, oc, vs, tq, hc, hoc, hdc, hq⟩ := hcd
  simp only [hd', callFunction, hco, hgen, hbody, hc]
  rw [hc] at h
  refine wpC_bind (m := field (.ref c) 1) (wpC_of (wpAny_field hoc hdc hq (wpC_bind (wpC_pure ?_))))
  refine wpC_bind (wpC_mono h (fun binds s₁ h₁ => ?_) fun _ _ h' => h')
  exact wpC_of (wpAny_bind (wpAny_mono h₁ (fun env s₂ h₂ => wpAny_bind (wpAny_enterFrame h₂.1 hroom
    (wpAny_pure (And.intro rfl h₂.2)))) fun _ _ h' => h'))
theorem codeC_func {body : List Stmt} {env : Env}
    (h : wpC (model prog w) (A.deeper env) (execs body env) (fun f s' => R (.ok (.ret (match f with | .ret v => v | _ => .none))) s')
      (fun e s' => wpAny (model prog w) (A.deeper env) (leaving env e) (fun _ s'' => R (.error e) s'') (fun e' s'' => R (.error e') s'') s') s) :
    codeC (model prog w) A (.func body env) R s := by
  refine codeC_of_tree ?_
  show wpC _ (A.deeper env) (do point; match ← (execs body env).onRaise (leaving env) with | .ret v => ret v | _ => ret .none) _ _ s
  refine wpC_bind (wpC_of (wpAny_point (wpC_bind (wpC_onRaise (wpC_mono h (fun f s' h' => ?_) fun _ _ h' => wpC_of h')))))
  cases f <;> exact wpC_pure h'
theorem handled_in1 {A : Around} : A.in1.handled = A.handled := rfl
theorem bind_refuses {fd : FuncData} {a1 a2 a3 : Arg} {v1 v2 : Value} {Q : List (PySem.Str × Value) → Shared → Prop} (hp : fd.params = { posonlyargs := [], args := [a1, a2, a3], vararg := none, kwonlyargs := [], kw_defaults := [], kwarg := none, defaults := [] })
    (hd : fd.defaults = .none) (h13 : (a3.arg == a1.arg) = false) (h23 : (a3.arg == a2.arg) = false) (h21 : (a2.arg == a1.arg) = false) (hh : A.handled = none)
    (hq : fd.qualname = Str.ofString "Pair.__new__") (h3 : a3.arg = Str.ofString "value")
    (h : ∀ h' tk e, Heap.NewExc s.heap h' e "TypeError" → E (.ref e) { s with heap := h', toks := tk }) :
    wpC (model prog w) A (bindArgs fd ⟨[v1, v2], []⟩) Q E s := by
  unfold bindArgs
  rw [hp, hd]
  simp only [List.map_nil, List.nil_append, List.map_cons, List.length_cons, List.length_nil, List.zip_cons_cons, List.zip_nil_right, List.forIn_nil, pure_bind]
  refine wpC_bind (wpC_of (wpAny_of_eq (a := none) rfl ?_))
  simp only [Option.getD_none, List.isEmpty_nil, List.drop_nil, List.length_nil, Nat.sub_zero, List.take]
  have hfil : List.filter (fun n => (List.lookup n [(a1.arg, v1), (a2.arg, v2)]).isNone) [a1.arg, a2.arg, a3.arg] = [a3.arg] := by
    simp [List.lookup_cons, h13, h23, h21]
  rw [hfil, hq, h3]
  refine wpC_ite ?_
  rw [if_neg (by decide)]
  refine wpC_ite ?_
  rw [if_pos (show (![Str.ofString "value"].isEmpty) = true from rfl)]
  refine wpC_bind (wpC_rule ?_)
  refine wpC_bind (wpC_refuses hh (by rw [sizeLine_eq]; decide +kernel) h)
theorem pk_fn82 (w : World) : (match (hd.heap_39 w.params).lookup 82 with
    | some ⟨_, _, .func fd, _⟩ => codeIn (hd.heap_39 w.params) fd.code fd.qualname && !fd.scope.isCoroutine && !fd.scope.isGenerator && (match fd.body with | .stmts _ => true | _ => false) && fd.defaults == .none && (fd.qualname == Str.ofString "Pair.__new__") &&
        (match fd.params with
          | ⟨[], [a1, a2, a3], none, [], [], none, []⟩ => (a3.arg == a1.arg) == false && (a3.arg == a2.arg) == false && (a2.arg == a1.arg) == false && (a3.arg == Str.ofString "value")
          | _ => false)
    | _ => false) = true := by kernel_rfl
theorem new_refuses {v : Value} (X : (hd.heap_39 w.params).In s.heap) (hh : A.handled = none) (hroom : A.depth < recursionLimit)
    (h : ∀ h' tk e, Heap.NewExc s.heap h' e "TypeError" → R (.error (.ref e)) { s with heap := h', toks := tk }) :
    codeC (model prog w) A (.call (.ref 82) ⟨[.ref 155, v], []⟩) R s := by
  have e := pk_fn82 w
  split at e
  · rename_i oc od fd sl ho
    simp only [Bool.and_eq_true, Bool.not_eq_true', beq_iff_eq] at e
    obtain ⟨⟨⟨⟨⟨⟨e1, e2⟩, e3⟩, e4⟩, e5⟩, e6⟩, e7⟩ := e
    split at e4
    · rename_i body hb
      split at e7
      · rename_i a1 a2 a3 hp
        simp only [Bool.and_eq_true, beq_iff_eq] at e7
        obtain ⟨⟨⟨f1, f2⟩, f3⟩, f4⟩ := e7
        refine codeC_call_function hroom (X _ _ ho) rfl e2 e3 hb (codeRec_of X e1) ?_
        exact bind_refuses hp e5 f1 f2 f3 hh e6 f4 h
      · cases e7
    · cases e4
  · cases e
end
end Mine
end
section
open PySem PySem.W PySem.Calls PyProof.Rows
set_option Elab.async false
set_option maxRecDepth 100000
set_option maxHeartbeats 4000000
namespace Mine
theorem pk_cls155 (w : World) : ∃ oc od cd sl, (hd.heap_39 w.params).lookup 155 = some ⟨oc, od, .cls cd, sl⟩ := ⟨_, _, _, _, rfl⟩
section
variable {prog : Program} {w : World} {A : Around} {E : Value → Shared → Prop} {s : Shared} {h₀ : Heap} {L₀ : Addr} {m : PySem.Str → Option Value} {R : Result → Shared → Prop}
theorem codeC_call_builtin {id : String} {args : Args} {b : Builtin} (hq : (Code.builtin id args).quiet = true) (hb : entryFor table id = some b)
    (h : wpAny (model prog w) A.in1 (checkBuiltinCall id args) (fun _ s₁ => wpC (model prog w) (A.under (.builtin id args)) (b args)
      (fun fin s' => match fin with | .done f => R (.ok f) s' | .again c' => c'.quiet = true ∧ codeC (model prog w) A c' R s') (fun e s' => R (.error e) s') s₁)
      (fun e s' => R (.error e) s') s) : codeC (model prog w) A (.call (.builtin id) args) R s := by
  refine codeC_of_tree ?_
  show wpC _ A.in1 (do checkBuiltinCall id args; again (.builtin id args)) _ _ s
  refine wpC_bind (wpC_of (wpAny_mono h (fun _ s₁ h₁ => wpC_pure (And.intro hq (codeC_of_tree ?_))) fun _ _ h' => h'))
  show wpC _ _ (match entryFor table id with | some b => b args | none => unsupported ((withoutEnding? id "#data").getD id)) _ _ s₁
  rw [hb]; exact h₁
/-- the class call of Pair with one text: the own __new__ is refused by the binder -/
theorem pair_refuses {v : Value} (X₀ : (hd.heap_39 w.params).In h₀) (F : Fr h₀ L₀ s.heap m) (hh : A.handled = none) (hroom : A.depth + 10 < recursionLimit)
    (h : ∀ h' tk e, Heap.NewExc s.heap h' e "TypeError" → R (.error (.ref e)) { s with heap := h', toks := tk }) :
    codeC (model prog w) A (.call (.ref 155) ⟨[v], []⟩) R s := by
  have X := X₀.keeps F.keep
  obtain ⟨oc, od, cd, sl, hK⟩ := pk_cls155 w
  have hC := X _ _ hK
  have call : Looks (model prog w) s.heap (specialOf (.ref 155) "__call__") (some (.builtin "type.__call__")) := Looks.of_peek X (pk_call w _)
  have typ : Looks (model prog w) s.heap (isInstance (.ref 155) (.type "type")) true := Looks.of_peek X (pk_inst w _)
  have hm : Looks (model prog w) s.heap (mroOf (.ref 155)) [.ref 155, .ref 132, .type "tuple", .type "object"] := Looks.of_peek X (pk_mro w _)
  have made : Looks (model prog w) s.heap (Bind.madeBy (.ref 155)) none := Looks.of_peek X (pk_made w _)
  have go : ∀ A', wpAny (model prog w) A' (getAttr (.ref 155) "__new__") (fun v s' => v = .ref 82 ∧ s' = { s with toks := s.toks + 1 }) (fun _ _ => False) s := fun A' =>
    cls_sm F X₀ (by rfl) (pk_reads w) (pk_attr w ⟨prog, w.params⟩) (pk_rec w) rfl ⟨rfl, rfl⟩
  refine codeC_of_tree ?_
  show wpC _ A.in1 (callAny (.ref 155) ⟨[v], []⟩) _ _ _
  simp only [callAny]
  refine wpC_bind (wpC_of (wpAny_load hC ?_))
  dsimp only
  unfold callAny.viaDunder
  refine wpC_bind (wpC_of (call.here ?_))
  dsimp only
  rw [tc_bind]
  refine wpC_bind (wpC_pure (wpC_bind (wpC_of (wpAny_of_eq (a := true) rfl ?_))))
  refine wpC_pure (a := Fin.again (.call (.builtin "type.__call__") ⟨.ref 155 :: [v], []⟩)) (And.intro rfl ?_)
  refine codeC_call_builtin (Code.quiet_builtin _ (by decide +kernel)) entry_typeCall (check_slot tc_kind tc_split typ (tc_args _ _ _) ?_)
  unfold Builtin.«type.__call__»
  dsimp only
  rw [if_neg (by decide)]
  refine wpC_bind (wpC_of (hm.here ?_))
  rw [if_neg (show ¬ ([Value.ref 155, Value.ref 132, Value.type "tuple", Value.type "object"].isEmpty = true) from by decide)]
  refine wpC_bind (wpC_of (made.here ?_))
  dsimp only
  refine wpC_bind (wpC_of (wpAny_mono (go _) (fun v' s' hv => ?_) (fun _ _ x => x.elim)))
  obtain ⟨rfl, rfl⟩ := hv
  refine wpC_bind (wpC_holding (wpC_call (codeC_mono (new_refuses (R := fun r s' => match r with | .error e => R (.error e) s' | .ok _ => False) X hh ?_ fun h' tk e he => h h' tk e he) fun r s' hr => ?_)))
  · rw [depth_under_make]; omega
  · cases r with
    | error e => exact hr
    | ok f => exact hr.elim
end
end Mine
end
section
open PySem PySem.W PySem.Calls PyProof.Rows
set_option Elab.async false
set_option maxRecDepth 100000
set_option maxHeartbeats 4000000
namespace Mine
section
variable {prog : Program} {w : World} {A : Around} {E : Value → Shared → Prop} {s : Shared} {R : Result → Shared → Prop}
theorem codeC_call_def {a : Addr} {o : Obj} {fd : FuncData} {body : List Stmt} {args : Args} {binds : List (PySem.Str × Value)}
    (hroom : A.depth < recursionLimit) (ho : s.heap.get? a = some o) (hdata : o.data = .func fd) (hlim : s.heap.NoLimit) (hcd : s.heap.CodeRec fd.code fd.qualname)
    (hbody : fd.body = .stmts body) (hbind : BindsTo s fd args binds)
    (hcell : ∀ x ∈ fd.scope.names, x.2 ≠ .cell) (hloc : ∀ x ∈ binds, fd.scope.names.lookup x.1 = some .local)
    (h : ∀ h₀, h₀.Ns s.heap.objs.size (fun x => binds.reverse.lookup x) → (∀ b o, s.heap.get? b = some o → h₀.get? b = some o) →
      wpC (model prog w) (A.deeper (callEnv fd s.heap.objs.size a)) (execs body (callEnv fd s.heap.objs.size a)) (fun f s' => R (.ok (.ret (match f with | .ret v => v | _ => .none))) s')
        (fun e s' => wpAny (model prog w) (A.deeper (callEnv fd s.heap.objs.size a)) (leaving (callEnv fd s.heap.objs.size a) e) (fun _ s'' => R (.error e) s'') (fun e' s'' => R (.error e') s'') s')
        { s with heap := h₀, toks := s.toks + binds.length })
    (hco : fd.scope.isCoroutine = false) (hgen : fd.scope.isGenerator = false) (hk : fd.scope.kind = .function) :
    codeC (model prog w) A (.call (.ref a) args) R s := by
  refine codeC_call_function hroom ho hdata hco hgen hbody hcd (wpC_of (hbind _ _ _ _ ?_))
  refine wpAny_newFunctionEnv hcell hloc (fun h₀ hns hsb => ⟨hlim.fresh _ hsb, codeC_func (h h₀ hns fun b o e => ?_)⟩) hk
  exact hsb.extBut b o (Nat.ne_of_lt (Heap.lt_size e)) (Heap.get?_push_of_some _ e)
end
section
variable {prog p : Program} {w : World} {A A₀ : Around} {base : Heap} {K : Frag} {loose : List PySem.Str} {mean : ExcName → Option Value} {mg mb m : PySem.Str → Option Value} {h₀ : Heap} {L : Addr} {news : List (Addr × Obj)} {s : Shared}
theorem code_ownC {env : Env} {outer : List Env} {R : Result → Shared → Prop} {name qual : PySem.Str} {params : Arguments} {body : List Stmt} {scope : Scope} {dV kV doc pm cdv ct oc : Value} {an od : Option Addr} {osl : Array (Option Value)} {f : Addr} {args : Args} {binds : List (PySem.Str × Value)}
    (B : Below A₀ base outer h₀) (F : Fr h₀ L s.heap m) (X₀ : K.In h₀) (N : News h₀ L s.heap news) (T : Top p loose mean mg mb h₀) (hA : A.frames = some (env :: outer)) (hf : env.frame = some L) (hke : env.scope.kind = .function)
    (ho : K.lookup f = some ⟨oc, od, .func (fnOf name qual params body scope dV kV doc pm an cdv ct), osl⟩) (hcd : codeIn K cdv qual = true) (hroom : A.depth < recursionLimit)
    (hbind : BindsTo s (fnOf name qual params body scope dV kV doc pm an cdv ct) args binds) (hloc : ∀ y ∈ binds, scope.names.lookup y.1 = some .local)
    (h : ∀ g L' h₁, Fr h₀ L g m → Fr g L' h₁ (fun y => binds.reverse.lookup y) → News g L' h₁ [] → Below A base (env :: outer) g → K.In g → Top p loose mean mg mb g → g = s.heap →
      wpC (model prog w) (A.deeper (envOf qual scope L' f cdv)) (execs body (envOf qual scope L' f cdv))
        (fun fl s' => LeaveK h₀ L m g (fun r s'' => News h₀ L s''.heap news → R r s'') (match fl with | .ret v => v | _ => .none) s')
        (fun e s' => wpAny (model prog w) (A.deeper (envOf qual scope L' f cdv)) (leaving (envOf qual scope L' f cdv) e) (fun _ s'' => R (.error e) s'') (fun e' s'' => R (.error e') s'') s')
        { s with heap := h₁, toks := s.toks + binds.length })
    (hco : scope.isCoroutine = false) (hgen : scope.isGenerator = false) (hk : scope.kind = .function)
    (hcell : ∀ x ∈ scope.names, x.2 ≠ .cell) : codeC (model prog w) A (.call (.ref f) args) R s := by
  have B₁ := pushX B F hf hke
  refine codeC_call_def (fd := fnOf name qual params body scope dV kV doc pm an cdv ct) (body := body) (binds := binds) hroom ((X₀.keeps F.keep) _ _ ho) rfl (T.nolimit.keeps F.keep) (codeRec_of (X₀.keeps F.keep) hcd) rfl hbind hcell hloc (fun h₁ hns hk₁ => ?_) hco hgen hk
  refine wpC_mono (h s.heap s.heap.objs.size h₁ F ⟨hns, hk₁, Nat.le_refl _⟩ News.nil ⟨hA, B₁.stays, B₁.frames⟩ (X₀.keeps F.keep) (T.keeps F.keep) rfl) (fun fl s' hl => ?_) fun _ _ y => y
  obtain ⟨L', m', news', F', N', k⟩ := hl
  obtain ⟨oL, es, ep, hL, hLd, hLk, hLf⟩ := F.ns
  have hLg := F'.keep L oL hL
  refine k ⟨⟨oL, es, ep, hLg, hLd, hLk, hLf⟩, fun b o e => F'.keep b o (F.keep b o e), F.above⟩ (fun p hp => ⟨(N' p hp).1, fun q => ?_, ?_⟩) (fun p hp => ⟨F'.keep _ _ (N p hp).1, (N p hp).2⟩)
  · have := (N' p hp).2.2; rw [q, hL] at this; cases this
  · cases q : h₀.get? p.1 with
    | none => rfl
    | some o => have := (N' p hp).2.2; rw [F.keep _ _ q] at this; cases this
end
end Mine
end
section
open PySem PySem.W PySem.Calls PyProof.Rows
set_option Elab.async false
set_option maxRecDepth 100000
set_option maxHeartbeats 4000000
namespace Mine
section
variable {prog p : Program} {w : World} {A A₀ : Around} {base : Heap} {K : Frag} {loose : List PySem.Str} {mean : ExcName → Option Value} {mg mb m : PySem.Str → Option Value} {h₀ : Heap} {L : Addr} {news : List (Addr × Obj)} {s : Shared}
/-- entry of an own function that catches within; called by a function that the claim's caller called -/
theorem code_ownSC {env : Env} {R : Result → Shared → Prop} {name qual : PySem.Str} {params : Arguments} {body : List Stmt} {scope : Scope} {dV kV doc pm cdv ct oc : Value} {an od : Option Addr} {osl : Array (Option Value)} {f : Addr} {args : Args} {binds : List (PySem.Str × Value)}
    (B : Below A₀ base [] h₀) (F : Fr h₀ L s.heap m) (X₀ : K.In h₀) (N : News h₀ L s.heap news) (T : Top p loose mean mg mb h₀) (hA : A.frames = some [env]) (hf : env.frame = some L) (hke : env.scope.kind = .function)
    (ho : K.lookup f = some ⟨oc, od, .func (fnOf name qual params body scope dV kV doc pm an cdv ct), osl⟩) (hcd : codeIn K cdv qual = true) (hroom : A.depth < recursionLimit)
    (hbind : BindsTo s (fnOf name qual params body scope dV kV doc pm an cdv ct) args binds) (hloc : ∀ y ∈ binds, scope.names.lookup y.1 = some .local)
    (h : ∀ g L' h₁, Fr h₀ L g m → Fr g L' h₁ (fun y => binds.reverse.lookup y) → News g L' h₁ [] → Below A base [env] g → K.In g → Top p loose mean mg mb g → KtsDicts ([env].filterMap (·.frame)) g →
      wpC (model prog w) (A.deeper (envOf qual scope L' f cdv)) (execs body (envOf qual scope L' f cdv))
        (fun fl s' => LeaveS0 ([env].filterMap (·.frame)) h₀ L m g (fun r s'' => News h₀ L s''.heap news → R r s'') (match fl with | .ret v => v | _ => .none) s')
        (fun e s' => wpAny (model prog w) (A.deeper (envOf qual scope L' f cdv)) (leaving (envOf qual scope L' f cdv) e) (fun _ s'' => R (.error e) s'') (fun e' s'' => R (.error e') s'') s')
        { s with heap := h₁, toks := s.toks + binds.length })
    (hco : scope.isCoroutine = false) (hgen : scope.isGenerator = false) (hk : scope.kind = .function)
    (hcell : ∀ x ∈ scope.names, x.2 ≠ .cell) : codeC (model prog w) A (.call (.ref f) args) R s := by
  have B₁ := pushX B F hf hke
  have hm : ∀ b, b ∈ [env].filterMap (·.frame) → b = L := fun b q => by
    obtain ⟨e, he, hfe⟩ := List.mem_filterMap.mp q
    rcases List.mem_cons.mp he with rfl | he
    · rw [hf] at hfe; exact (Option.some.inj hfe).symm
    · cases he
  refine codeC_call_def (fd := fnOf name qual params body scope dV kV doc pm an cdv ct) (body := body) (binds := binds) hroom ((X₀.keeps F.keep) _ _ ho) rfl (T.nolimit.keeps F.keep) (codeRec_of (X₀.keeps F.keep) hcd) rfl hbind hcell hloc (fun h₁ hns hk₁ => ?_) hco hgen hk
  obtain ⟨oL, es, ep, hL, hLd, hLk, hLf⟩ := F.ns
  refine wpC_mono (h s.heap s.heap.objs.size h₁ F ⟨hns, hk₁, Nat.le_refl _⟩ News.nil ⟨hA, B₁.stays, B₁.frames⟩ (X₀.keeps F.keep) (T.keeps F.keep) (fun b hb => by rw [hm b hb]; exact ⟨oL, es, ep, hL, hLd⟩)) (fun fl s' hl => ?_) fun _ _ y => y
  obtain ⟨g', L', m', news', T', F', N', k⟩ := hl
  obtain ⟨sl, hs⟩ := T'.up hL
  refine k ⟨⟨_, es, ep, F'.keep _ _ hs, hLd, hLk, hLf⟩, fun b o e => F'.keep b o (T'.other b o (F.keep b o e) fun q => ?_), F.above⟩ (fun p hp => ⟨(N' p hp).1, fun q => ?_, ?_⟩) (fun p hp => ⟨F'.keep _ _ (T'.other _ _ (N p hp).1 fun q => (N p hp).2.1 (hm _ q)), (N p hp).2⟩)
  · rw [hm b q, kts_self F] at e; cases e
  · have := (N' p hp).2.2; rw [q, hs] at this; cases this
  · cases q : h₀.get? p.1 with
    | none => rfl
    | some o =>
      obtain ⟨sl', hs'⟩ := T'.up (F.keep _ _ q)
      have := (N' p hp).2.2
      rw [hs'] at this
      cases this
end
end Mine
end
section
open PySem PySem.W PySem.Calls PyProof.Rows
set_option Elab.async false
set_option maxRecDepth 100000
set_option maxHeartbeats 4000000
namespace Mine
section
variable {M : Model} {A : Around} {E : Value → Shared → Prop} {s : Shared} {env : Env}
theorem wpC_keep {α : Type} {vs : List Value} {m : Sem α} {Q : α → Shared → Prop} (h : wpC M A m Q E s) : wpC M A (m.keep vs) Q E s := fun Γ p hΓ hC => by rw [Sem.wp_keep]; exact h Γ p hΓ hC
theorem wpC_operate {vs : List Value} {m : Sem Value} {Q : Value → Shared → Prop} (h : wpC M A m Q E s) : wpC M A (operate vs m) Q E s := fun Γ p hΓ hC => by rw [Sem.wp_operate]; exact h Γ p hΓ hC
theorem wpC_point {Q : Unit → Shared → Prop} (h : Q () s) : wpC M A point Q E s := fun Γ p _ _ => by simpa [point] using h
theorem wpC_callWith {f : Value} {first : List Value} {pos : Pos} {Q : Value → Shared → Prop} {P : Heap → Prop} {args : List (Bool × Sem Value)}
    (hk : ∀ h, P h → ∃ k, (k = Keeper.frame ∨ k = Keeper.machine ∨ k = Keeper.boundFrame) ∧ Looks M h (keeperOf f) k)
    (h : wpAny M A (evalArgs f true args []) (fun a s₁ => P s₁.heap ∧ wpC M A (call f (first ++ a.pos) a.kw) Q E s₁) E s) : wpC M A (callWith pos f first args []) Q E s := by
  unfold callWith
  refine wpC_bind (wpC_of (wpAny_holding (wpAny_mono h (fun a s₁ h₁ => ?_) fun _ _ x => x)))
  refine wpC_bind (wpC_standAt ?_)
  obtain ⟨k, hk', L⟩ := hk _ h₁.1
  dsimp only
  refine wpC_bind (wpC_of (L.here ?_))
  have tail : ∀ {t : Sem Value}, wpC M A t Q E s₁ → wpC M A (t >>= fun r => holding [r] point >>= fun _ => pure r) Q E s₁ :=
    fun ht => wpC_bind (wpC_mono ht (fun r s₂ hr => wpC_bind (wpC_holding (wpC_point (wpC_pure hr)))) fun _ _ x => x)
  have marked (mk : Value) : wpC M A (callMarked mk f (first ++ a.pos) a.kw) Q E s₁ := by unfold callMarked; exact wpC_keep h₁.2
  cases hs : (args.any (·.1) || ([] : List (Option PySem.Str × Sem Value)).any (·.1.isNone)) <;> rcases hk' with rfl | rfl | rfl <;> dsimp only
  · refine wpC_ite ?_; split
    · exact tail h₁.2
    · exact tail (marked _)
  · exact tail h₁.2
  · refine wpC_ite ?_; split
    · exact tail h₁.2
    · exact tail (marked _)
  · exact tail (marked _)
  · exact tail (wpC_operate h₁.2)
  · exact tail (wpC_operate h₁.2)
theorem wpC_execs_nil {Q : Flow → Shared → Prop} (h : Q .next s) : wpC M A (execs [] env) Q E s := wpC_of (wpAny_execs_nil h)
theorem wpC_execs_cons {st rest} {Q : Flow → Shared → Prop}
    (h : wpC M A (exec st env) (fun f s' => match f with | .next => wpC M A (execs rest env) Q E s' | f => Q f s') E s) : wpC M A (execs (st :: rest) env) Q E s := fun Γ p hΓ hC => by
  rw [execs_cons, Sem.wp_bind']
  refine Sem.wp_mono M Γ _ (fun f p' s' h' => ?_) (fun _ _ _ h' => h') _ _ (h Γ p hΓ hC)
  cases f <;> first | exact h' Γ p' hΓ hC | exact h'
theorem wpC_Assign_Name {x pos' value pos} {Q : Flow → Shared → Prop}
    (h : wpC M A (eval value env) (fun v s₁ => wpC M A (storeName env x v) (fun _ => Q .next) E s₁) E s)
    (hs : swapsWith value (some (.Name x pos')) pos.line env = pure false) : wpC M A (exec (.Assign [.Name x pos'] value pos) env) Q E s := fun Γ p hΓ hC => by
  simp only [exec_Assign_Name env x pos' value pos hs, Sem.wp_bind', Sem.wp_cmd_standAt, Sem.wp_bindName, Sem.wp_pure']
  exact Sem.wp_mono M Γ _ (fun v _ s₁ h₁ => h₁ Γ _ hΓ hC) (fun _ _ _ h' => h') _ _ (h Γ _ hΓ hC)
theorem wpC_Return_some {e pos} {Q : Flow → Shared → Prop} (h : wpC M A (eval e env) (fun v => Q (.ret v)) E s) : wpC M A (exec (.Return (some e) pos) env) Q E s := fun Γ p hΓ hC => by
  simp only [exec_Return_some, Sem.wp_bind', Sem.wp_cmd_standAt, Sem.wp_pure']; exact h Γ _ hΓ hC
theorem wpC_Call {func : Expr} {args : List Expr} {pos : Pos} {Q : Value → Shared → Prop}
    (h : wpAny M A (eval func env) (fun f s₁ => wpC M A (callWith pos f [] (backTo pos (starEach args env)) []) Q E s₁) E s)
    (he : eval (.Call func args [] pos) env = (do callWith pos (← eval func env) [] (backTo pos (starEach args env)) (backToKw pos (keywordEach [] env)))) :
    wpC M A (eval (.Call func args [] pos) env) Q E s := by
  rw [he]; exact wpC_bind (wpC_of h)
theorem wpC_MethodCall {o : Expr} {name : PySem.Str} {apos pos : Pos} {args : List Expr} {pl : Sem Bool} {Q : Value → Shared → Prop}
    (h : wpAny M A (eval o env) (fun ov s₁ => wpAny M A (getMethod ov name pl) (fun fx s₂ => wpC M A (callWith pos fx.1 fx.2 (backTo pos (starEach args env)) []) Q E s₂) E s₁) E s)
    (he : eval (.Call (.Attribute o name apos) args [] pos) env = (do
      let ov ← eval o env
      standAt apos.atName
      let (f, first) ← holding [ov] (getMethod ov name pl)
      callWith pos f first (backTo pos (starEach args env)) [])) : wpC M A (eval (.Call (.Attribute o name apos) args [] pos) env) Q E s := by
  rw [he]
  refine wpC_bind (wpC_of (wpAny_mono h (fun ov s₁ h₁ => ?_) fun _ _ x => x))
  exact wpC_bind (wpC_standAt (wpC_bind (wpC_of (wpAny_holding (wpAny_mono h₁ (fun fx s₂ h₂ => h₂) fun _ _ x => x)))))
end
section
variable {prog : Program} {w : World} {A : Around} {E : Value → Shared → Prop} {s : Shared} {env : Env}
theorem wpC_Try_except {body orelse : List Stmt} {h₀ : ExceptHandler} {hs : List ExceptHandler} {pos : Pos} {Q : Flow → Shared → Prop}
    (h : wpC (model prog w) A (execs body env) (fun f s₁ => match f with | .next => wpC (model prog w) A (execs orelse env) Q E s₁ | f => Q f s₁)
      (fun e s₁ => wpAny (model prog w) A (noteFrame e env) (fun _ s₂ => wpAny (model prog w) A (setFlight e none) (fun _ s₃ => wpAny (model prog w) A (handleBy e env (h₀ :: hs)) Q E s₃) E s₂) E s₁) s) :
    wpC (model prog w) A (exec (.Try body (h₀ :: hs) orelse [] pos) env) Q E s := by
  rw [arm_exec_Try]
  refine wpC_bind (wpC_standAt ?_)
  unfold tryStmt
  rw [if_pos (show (([] : List Stmt).isEmpty = true) from rfl)]
  refine wpC_bind (wpC_attempt (wpC_mono h (fun f s₁ h₁ => ?_) fun e s₁ h₁ => ?_))
  · cases f <;> first | exact h₁ | exact wpC_pure h₁
  · refine wpC_of (wpAny_bind (wpAny_mono h₁ (fun _ s₂ h₂ => ?_) fun _ _ x => x))
    dsimp only [List.isEmpty_cons]
    simp only [Bool.false_eq_true, if_false, Bool.false_and]
    exact wpAny_bind h₂
end
end Mine
end
section
open PySem PySem.W PySem.Calls PyProof.Rows
set_option Elab.async false
set_option maxRecDepth 100000
set_option maxHeartbeats 4000000
namespace Mine
section
variable {prog : Program} {w : World} {A : Around} {E : Value → Shared → Prop} {s : Shared} {env : Env} {h₀ : Heap} {R : Result → Shared → Prop}
theorem codeC_forLoop_turn {x : PySem.Str} {px : Pos} {I : Addr} {body : List Stmt}
    (h : wpAny (model prog w) A (pyNext (.ref I)) (fun r s₁ => match r with
      | none => R (.ok .next) s₁
      | some v => wpAny (model prog w) A (assign (.Name x px) env v) (fun _ s₂ => wpC (model prog w) A (execs body env) (fun f s₃ => match f with
          | .next | .cont => codeC (model prog w) A (.forLoop (.Name x px) (.ref I) body [] env) R s₃
          | .brk => R (.ok .next) s₃
          | .ret v => R (.ok (.ret v)) s₃) (notedBy (model prog w) A env fun e s' => R (.error e) s') s₂) (notedBy (model prog w) A env fun e s' => R (.error e) s') s₁) (notedBy (model prog w) A env fun e s' => R (.error e) s') s) :
    codeC (model prog w) A (.forLoop (.Name x px) (.ref I) body [] env) R s := by
  refine codeC_of_tree ?_
  show wpC _ A ((forTurn (.Name x px) (.ref I) body [] env).onRaise (fun x => do noteFrame x env; theTreesLotGoes x)) _ _ s
  have noted : ∀ e s', notedBy (model prog w) A env (fun e s' => R (.error e) s') e s' → wpC (model prog w) A (do noteFrame e env; theTreesLotGoes e) (fun _ s'' => R (.error e) s'') (fun e s' => R (.error e) s') s' := fun e s' h' =>
    wpC_of (wpAny_bind (wpAny_mono h' (fun _ s'' h'' => wpAny_theTreesLotGoes h'') fun _ _ y => y))
  refine wpC_onRaise (wpC_mono (E := notedBy (model prog w) A env fun e s' => R (.error e) s') ?_ (fun _ _ y => y) noted)
  simp only [forTurn]
  refine wpC_bind (wpC_standAt (wpC_bind (wpC_onRaise (wpC_of (wpAny_mono h (fun r s₁ h₁ => ?_) fun e s' h' => wpC_standAt h')))))
  cases r with
  | none => exact wpC_pure (And.intro rfl (codeC_of (codeAny_block (wpAny_execs_nil h₁))))
  | some v =>
    refine wpC_bind (wpC_pure (wpC_bind (wpC_of (wpAny_mono h₁ (fun _ s₂ h₂ => wpC_bind (wpC_mono h₂ (fun f s₃ h₃ => ?_) fun _ _ h' => h')) fun _ _ h' => h'))))
    cases f with
    | next => exact wpC_pure (And.intro rfl h₃)
    | cont => exact wpC_pure (And.intro rfl h₃)
    | brk => exact wpC_pure h₃
    | ret v => exact wpC_pure h₃
theorem wpC_runOwn {c : Code} {h : Option Value} {Q : Flow → Shared → Prop}
    (hc : codeC (model prog w) (A.mark h) c (fun r s' => match r with | .ok f => Q f s' | .error e => cameBackBy (model prog w) A env E e s') s) (hnb : h ≠ some byPass := by intro x; cases x) :
    wpC (model prog w) A (runOwn c env h) Q E s := by
  unfold runOwn
  exact wpC_onRaise (wpC_mono (wpC_run (Q := Q) (E := cameBackBy (model prog w) A env E) hc hnb) (fun _ _ y => y) fun _ _ y => wpC_of y)
theorem wpC_For {target iter body orelse pos} {Q : Flow → Shared → Prop}
    (h : wpAny (model prog w) A (eval iter env) (fun x s₁ => wpAny (model prog w) A (pyIter x) (fun it s₂ =>
      codeC (model prog w) A (.forLoop target it body orelse env) (fun r s' => match r with | .ok f => Q f s' | .error e => cameBackBy (model prog w) A env E e s') s₂) E s₁) E s)
    (hs : ∀ x, foldedSetIterable iter env x = pure x) : wpC (model prog w) A (exec (.For target iter body orelse pos) env) Q E s := by
  rw [exec_For]
  exact wpC_bind (wpC_standAt (wpC_bind (wpC_of (wpAny_mono h (fun x s₁ h₁ => wpC_bind (wpC_of (wpAny_of_eq (hs x) (wpC_bind (wpC_standAt (wpC_bind (wpC_of (wpAny_holding
    (wpAny_mono h₁ (fun it s₂ h₂ => wpC_runOwn h₂) fun _ _ h' => h')))))))) ) fun _ _ h' => h'))))
end
end Mine
end
section
open PySem PySem.W PySem.Calls PyProof.Rows
set_option Elab.async false
set_option maxRecDepth 100000
set_option maxHeartbeats 4000000
namespace Mine
section
variable {M : Model} {A : Around} {E : Value → Shared → Prop} {s : Shared} {K : Frag} {env : Env} {pos p : Pos} {f : Value} {first : List Value} {Q : Value → Shared → Prop} {h₀ : Heap} {e : Expr} {rest : List Expr}
theorem callWith_SC (_X : K.In h₀) (hk : keepIn K f = true) (h : wpAny M A (eval e env) (fun v s₁ => StarOf M A E v (fun vs s₂ => K.In s₂.heap ∧ wpC M A (call f (first ++ vs)) Q E s₂) s₁) E s)
    (he : starEach [.Starred e p] env = [(true, eval e env)]) : wpC M A (callWith pos f first (backTo pos (starEach [.Starred e p] env)) []) Q E s := by
  rw [he]
  exact wpC_callWith (keeps_K hk) (ks_lone h)
theorem callWith_KC (_X : K.In h₀) (hk : keepIn K f = true) (h : wpAny M A (spliced (backTo pos (starEach (e :: rest) env))) (fun vs s₁ => K.In s₁.heap ∧ wpC M A (call f (first ++ vs)) Q E s₁) E s)
    (he : starEach (e :: rest) env = (false, eval e env) :: starEach rest env) : wpC M A (callWith pos f first (backTo pos (starEach (e :: rest) env)) []) Q E s := by
  rw [he] at h ⊢
  exact wpC_callWith (keeps_K hk) (evalArgs_plain h)
theorem callWith_MC {q g : Addr} {self : Value} (_X : K.In h₀) (hf : fnIn K g = true) (h : wpAny M A (spliced (backTo pos (starEach (e :: rest) env))) (fun vs s₁ => MethP K q g self s₁.heap ∧ wpC M A (call (.ref q) (first ++ vs)) Q E s₁) E s)
    (he : starEach (e :: rest) env = (false, eval e env) :: starEach rest env) : wpC M A (callWith pos (.ref q) first (backTo pos (starEach (e :: rest) env)) []) Q E s := by
  rw [he] at h ⊢
  exact wpC_callWith (keeps_M hf) (evalArgs_plain h)
end
section
variable {prog : Program} {w : World} {A : Around} {E : Value → Shared → Prop} {s : Shared} {R : Result → Shared → Prop}
theorem method_callC {p : Addr} {f self : Value} {pos : List Value} {kw : List (PySem.Str × Value)} (ho : s.heap.get? p = some (methodObj f self))
    (h : codeC (model prog w) A (.call f ⟨self :: pos, kw⟩) R s) : codeC (model prog w) A (.call (.ref p) ⟨pos, kw⟩) R s := by
  refine codeC_of_tree ?_
  show wpC _ A.in1 (callAny (.ref p) _) _ _ _
  simp only [callAny]
  refine wpC_bind (wpC_of (wpAny_load ho ?_))
  cases f <;> exact wpC_pure (And.intro rfl h)
end
end Mine
end
section
open PySem PySem.W PySem.Calls PyProof.Rows
set_option Elab.async false
set_option maxRecDepth 100000
set_option maxHeartbeats 4000000
namespace Mine
theorem pk_ga (w : World) (S : Setting) : peek (hd.heap_39 w.params) S (typeLookup (.ref 155) "__getattribute__") = some (some (.builtin "tuple.__getattribute__")) := by kernel_rfl
theorem pk_gt (w : World) (S : Setting) : peek (hd.heap_39 w.params) S (typeLookup (.ref 155) "__getattr__") = some none := by kernel_rfl
theorem tg_kind : builtinKind "tuple.__getattribute__" = some .slot := by decide +kernel
theorem tg_split : splitId "tuple.__getattribute__" = some ("tuple", "__getattribute__") := by decide +kernel
theorem tg_plain : plainId "tuple.__getattribute__" = true := by decide +kernel
theorem tg_entry : entryFor table "tuple.__getattribute__" = some Builtin.«object.__getattribute__» := F.entry_tuple_ga
theorem tg_bind (self : Value) : bindSpecial (.builtin "tuple.__getattribute__") self = pure (.builtin "tuple.__getattribute__", [self]) := F.slot_tuple_getattribute.bind self
theorem find_name (w : World) : findObj (hd.heap_39 w.params) 155 (some (dictOf [] 0)) "name" = some (.bind (.ref 43) (.ref 124)) := rfl
theorem find_value (w : World) : findObj (hd.heap_39 w.params) 155 (some (dictOf [] 0)) "value" = some (.bind (.ref 43) (.ref 127)) := rfl
theorem tg_ck {M : Model} {A : Around} {E : Value → Shared → Prop} {s : Shared} {Q : Unit → Shared → Prop} {x : Addr} {name : PySem.Str} {t : Tok} (L3 : Looks M s.heap (isInstance (.ref x) (.type "tuple")) true) (q : Q () s) :
    wpAny M A (checkBuiltinCall "tuple.__getattribute__" ⟨.ref x :: [.str name t], []⟩) Q E s := by
  have AK : argsOk "tuple.__getattribute__" ⟨.ref x :: [.str name t], []⟩ := F.args_tuple_getattribute_2 _ _
  have h1 := tg_kind
  have h2 := tg_split
  generalize "tuple.__getattribute__" = i at *
  exact check_slot h1 h2 L3 AK q
section
variable {prog : Program} {w : World} {A : Around} {E : Value → Shared → Prop} {s : Shared} {x : Addr} {ox : Obj} {od : Option Obj} {name : PySem.Str} {expr : Bool} {Q : Value → Shared → Prop}
/-- an attribute of a Pair that an own descriptor of its class serves -/
theorem get_bind_tup {a : Value} {f : Addr} (X : (hd.heap_39 w.params).In s.heap) (I : InstAt s.heap x ox 155 od)
    (hf : findObj (hd.heap_39 w.params) 155 od name = some (.bind (.ref f) a))
    (h : wpAny (model prog w) A.in1 (call (.ref f) [a, .ref x, .ref 155]) (fun v s' => wpAny (model prog w) A (handedOut v) Q E s') (fun _ _ => False) { s with toks := s.toks + 1 }) :
    wpAny (model prog w) A (getAttr (.ref x) name expr) Q E s := by
  obtain ⟨hh, gg, d, t, os⟩ := s
  have L0 : Looks (model prog w) hh (typeOf (.ref x)) (.ref 155) := I.type
  have L1 : Looks (model prog w) hh (typeLookup (.ref 155) "__getattribute__") (some (.builtin "tuple.__getattribute__")) := Looks.of_peek X (pk_ga w _)
  have L2 : Looks (model prog w) hh (typeLookup (.ref 155) "__getattr__") none := Looks.of_peek X (pk_gt w _)
  have L3 : Looks (model prog w) hh (isInstance (.ref x) (.type "tuple")) true := L0.andThen (Looks.of_peek X (pk_sub w _))
  have L4 := looks_find (M := model prog w) X I hf
  unfold getAttr getAttrBy
  refine wpAny_bind (wpAny_mkText (wpAny_holding (wpAny_bind (L0.at (wpAny_bind (L1.at ?_))))))
  show wpAny _ _ (getAttrByItsOwn (.ref x) (.str name t) (.ref 155) (.builtin "tuple.__getattribute__") true expr) _ _ _
  unfold getAttrByItsOwn hookBefore callGetattribute boundAndCalled
  refine wpAny_bind ?_
  show wpAny _ _ (typeLookup (.ref 155) "__getattr__") _ _ _
  refine L2.here ?_
  have e1 : (expr && onTheHeap (.builtin "tuple.__getattribute__")) = false := by simp [onTheHeap]
  rw [e1, if_neg (by decide)]
  refine wpAny_bind (wpAny_attempt (wpAny_holding ?_))
  rw [tg_bind]
  refine wpAny_bind (wpAny_pure ?_)
  refine wpAny_call ?_
  refine codeAny_call_builtin tg_plain tg_entry ?_
  refine tg_ck L3 ?_
  unfold Builtin.«object.__getattribute__» slotArgs
  refine wpAny_bind (wpAny_bind (wpAny_pure (wpAny_bind (wpAny_pure (wpAny_pure ?_)))))
  dsimp only
  refine wpAny_bind (wpAny_pure ?_)
  refine wpAny_bind (L0.at ?_)
  refine wpAny_bind (L4.at ?_)
  show wpAny _ _ (Builtin.ObjectAttr.bindTo (.ref f) a (.ref x) (.ref 155)) _ _ _
  unfold Builtin.ObjectAttr.bindTo
  refine wpAny_bind (wpAny_holding (wpAny_mono h (fun v s' hv => ?_) (fun _ _ z => z.elim)))
  exact wpAny_pure hv
end
end Mine
end
section
open PySem PySem.W PySem.Calls PyProof.Rows
set_option Elab.async false
set_option maxRecDepth 100000
set_option maxHeartbeats 4000000
namespace Mine
theorem ti_kind : builtinKind "tuple.__getitem__" = some .slot := by decide +kernel
theorem ti_split : splitId "tuple.__getitem__" = some ("tuple", "__getitem__") := by decide +kernel
theorem ti_plain : plainId "tuple.__getitem__" = true := by decide +kernel
theorem ti_ck {M : Model} {A : Around} {E : Value → Shared → Prop} {s : Shared} {Q : Unit → Shared → Prop} {x : Addr} {v : Value} (L3 : Looks M s.heap (isInstance (.ref x) (.type "tuple")) true) (q : Q () s) :
    wpAny M A (checkBuiltinCall "tuple.__getitem__" ⟨.ref x :: [v], []⟩) Q E s := by
  have AK : argsOk "tuple.__getitem__" ⟨.ref x :: [v], []⟩ := args_tuple_getitem _ _
  have h1 := ti_kind
  have h2 := ti_split
  generalize "tuple.__getitem__" = i at *
  exact check_slot h1 h2 L3 AK q
section
variable {prog : Program} {w : World} {A : Around} {E : Value → Shared → Prop} {s : Shared} {h₀ h : Heap} {L : Addr} {news : List (Addr × Obj)}
theorem inst_P {P dx : Addr} {vs : Array Value} (N : News h₀ L h news) (m1 : (P, pairObj dx vs) ∈ news) (m2 : (dx, dictOf [] 0) ∈ news) : InstAt h P (pairObj dx vs) 155 (some (dictOf [] 0)) :=
  ⟨(N _ m1).1, rfl, rfl, (N _ m2).1⟩
theorem type_P {P dx : Addr} {vs : Array Value} {Q : Value → Shared → Prop} (N : News h₀ L s.heap news) (m1 : (P, pairObj dx vs) ∈ news) (m2 : (dx, dictOf [] 0) ∈ news) (hq : Q (.ref 155) s) : wpAny (model prog w) A (call (.type "type") [.ref P]) Q E s :=
  kto_own (inst_P N m1 m2) hq
theorem issub_nested {w' : World} {dep : Int} {tk : Tok} {Q : Fin → Shared → Prop} (X : (hd.heap_39 w'.params).In s.heap) (hq : Q (.done (.ret (.bool true))) s) :
    wpAny (model prog w) A (Builtin.«issubclass.nested» ⟨[.ref 155, .type "tuple", .int dep tk], []⟩) Q E s := by
  obtain ⟨hh, g, d, t, os⟩ := s
  have L1 : Looks (model prog w) hh (isType (.ref 155)) true := Looks.of_peek X (pk_type w' _)
  have L2 : Looks (model prog w) hh (isSubtype (.ref 155) (.type "tuple")) true := Looks.of_peek X (pk_sub w' _)
  repeat (any_goals (first | assumption | lk | wp_step))
theorem issub_P (w' : World) : Meets (Builtin.«issubclass» ⟨[.ref 155, .type "tuple"], []⟩) (fun _ R s => (hd.heap_39 w'.params).In s.heap ∧ R (.ok (.ret (.bool true))) s) :=
  fun _ _ _ _ _ hs => issubclass_outer (issub_nested hs.1 hs.2)
theorem issub_call {m : PySem.Str → Option Value} {Q : Value → Shared → Prop} (F : Fr h₀ L s.heap m) (X : (hd.heap_39 w.params).In h₀) (hq : Q (.bool true) s) : wpAny (model prog w) A (call (.builtin "issubclass") [.ref 155, .type "tuple"]) Q E s :=
  call_issubclass (issub_P w) ⟨X.keeps F.keep, hq⟩
theorem ti_body {P : Addr} {o : Obj} {vs : Array Value} {n : Nat} {i : Int} {u : Tok} {k : Nat} {y : Value} {Q : Fin → Shared → Prop} (hP : s.heap.get? P = some o) (ho : o.data = .seq vs n) (h0 : 0 ≤ i) (h1 : i < 100) (hk : seqIndex? i vs.size = some k) (hy : vs[k]? = some y) (hq : Q (.done (.ret y)) s) :
    wpAny (model prog w) A (Builtin.«tuple.__getitem__» ⟨[.ref P, .int i u], []⟩) Q E s := by
  obtain ⟨hp, g, d, tk, os⟩ := s
  obtain ⟨c, dd, da, sl⟩ := o
  dsimp only at ho hP
  subst ho
  have f1 := AutoSeq1.idx_int
  have hf : ¬ (decide (i < -2 ^ 63) || decide (i ≥ 2 ^ 63)) = true := by simp; omega
  wp_walk using wpAny_loadPart' hP
  simp only [hk, hy, Option.bind_some]
  refine wpAny_ite_false (by simp; omega) ?_
  wp_walk
  exact hq
theorem pair_item {m : PySem.Str → Option Value} {P dx : Addr} {vs : Array Value} {i : Int} {u : Tok} {k : Nat} {y : Value} {Q : Value → Shared → Prop} (F : Fr h₀ L s.heap m) (X₀ : (hd.heap_39 w.params).In h₀) (N : News h₀ L s.heap news) (m1 : (P, pairObj dx vs) ∈ news) (m2 : (dx, dictOf [] 0) ∈ news)
    (h0 : 0 ≤ i) (h1 : i < 100) (hk : seqIndex? i vs.size = some k) (hy : vs[k]? = some y) (hq : Q y s) : wpAny (model prog w) A (call (.builtin "tuple.__getitem__") [.ref P, .int i u]) Q E s := by
  have X := X₀.keeps F.keep
  have L0 : Looks (model prog w) s.heap (typeOf (.ref P)) (.ref 155) := (inst_P N m1 m2).type
  have L3 : Looks (model prog w) s.heap (isInstance (.ref P) (.type "tuple")) true := L0.andThen (Looks.of_peek X (pk_sub w _))
  refine wpAny_call ?_
  refine codeAny_call_builtin ti_plain entry_tuple_getitem ?_
  refine ti_ck L3 ?_
  exact ti_body (N _ m1).1 rfl h0 h1 hk hy hq
end
end Mine
end
section
open PySem PySem.W PyProof.Rows
set_option Elab.async false
set_option maxRecDepth 100000
set_option maxHeartbeats 4000000
namespace Mine
section
open PySem.Calls
variable {prog : Program} {w : World} {A A₀ : Around} {s : Shared} {K : Frag} {L : Addr} {h₀ base : Heap} {m mg mb : PySem.Str → Option Value} {news : List (Addr × Obj)} {p : Program} {loose : List PySem.Str} {mean : ExcName → Option Value}
/-- entry of an own function, the caller's ledger at hand -/
theorem code_led {env : Env} {outer : List Env} {R : Result → Shared → Prop} {name qual : PySem.Str} {params : Arguments} {body : List Stmt} {scope : Scope} {dV kV doc pm cdv ct oc : Value} {an od : Option Addr} {osl : Array (Option Value)} {f : Addr} {args : Args} {binds : List (PySem.Str × Value)}
    (B : Below A₀ base outer h₀) (F : Fr h₀ L s.heap m) (X₀ : K.In h₀) (N : News h₀ L s.heap news) (T : Top p loose mean mg mb h₀) (hA : A.frames = some (env :: outer)) (hf : env.frame = some L) (hke : env.scope.kind = .function)
    (ho : K.lookup f = some ⟨oc, od, .func (fnOf name qual params body scope dV kV doc pm an cdv ct), osl⟩) (hcd : codeIn K cdv qual = true) (hroom : A.depth < recursionLimit)
    (hbind : BindsTo s (fnOf name qual params body scope dV kV doc pm an cdv ct) args binds) (hloc : ∀ y ∈ binds, scope.names.lookup y.1 = some .local)
    (h : ∀ g L' h₁, Fr h₀ L g m → Fr g L' h₁ (fun y => binds.reverse.lookup y) → News g L' h₁ news → Below A base (env :: outer) g → K.In g → Top p loose mean mg mb g →
      wpAny (model prog w) (A.deeper (envOf qual scope L' f cdv)) (execs body (envOf qual scope L' f cdv))
        (fun fl s' => LeaveK h₀ L m g R (match fl with | .ret v => v | _ => .none) s')
        (fun e s' => wpAny (model prog w) (A.deeper (envOf qual scope L' f cdv)) (leaving (envOf qual scope L' f cdv) e) (fun _ s'' => R (.error e) s'') (fun e' s'' => R (.error e') s'') s')
        { s with heap := h₁, toks := s.toks + binds.length })
    (hco : scope.isCoroutine = false) (hgen : scope.isGenerator = false) (hk : scope.kind = .function)
    (hcell : ∀ x ∈ scope.names, x.2 ≠ .cell) : codeAny (model prog w) A (.call (.ref f) args) R s := by
  obtain ⟨FG, BG, st, lv⟩ := groundX (R := R) B F N hA hf hke
  refine codeAny_call_def (fd := fnOf name qual params body scope dV kV doc pm an cdv ct) (body := body) (binds := binds) hroom ((X₀.keeps F.keep) _ _ ho) rfl (T.nolimit.keeps F.keep) (codeRec_of (X₀.keeps F.keep) hcd) rfl hbind hcell hloc (fun h₁ hns hk₁ => ?_) hco hgen hk
  exact wpAny_mono (h _ s.heap.objs.size h₁ FG ⟨hns, fun b o e => hk₁ b o (of_hideAll _ e), Nat.le_of_eq (hideAll_size _ _)⟩
    (fun p hp => ⟨hk₁ _ _ (N p hp).1, Nat.ne_of_lt (Heap.lt_size (N p hp).1), hideAll_none _ (List.mem_map_of_mem hp)⟩) BG (X₀.keeps st) (T.keeps st)) (fun fl s' hl => lv _ _ hl) fun _ _ y => y
end
theorem name_call (w : World) (mean : ExcName → Option Value) (mg mb : PySem.Str → Option Value) (dp un : Nat) (gd : Option (List Code)) (cn : PySem.Str) (cs : Scope) (a : Addr) (ccd : Value) (cl : List (PySem.Str × Addr)) (outer : List Env) (A₀ : Around) (base h₀ : Heap) (L₀ : Addr) (m₀ : PySem.Str → Option Value) (news : List (Addr × Obj)) (P dx : Addr) (v0 v1 : Value) (s : Shared) (Q E : Value → Shared → Prop)
    (B : Below A₀ base outer h₀) (F : Fr h₀ L₀ s.heap m₀) (X : (hd.heap_39 w.params).In h₀) (N : News h₀ L₀ s.heap ((P, pairObj dx #[v0, v1]) :: (dx, dictOf [] 0) :: news)) (T : Top hd.view_39 (looseW hd.view_39 [Str.ofString "_tuplegetter", Str.ofString "Pair"]) mean mg mb h₀) (hcs : cs.kind = .function)
    (hdp : dp + 2 < recursionLimit) (hun : un + 20 < cLine) 
    (hret : ∀ h' tk', Fr h₀ L₀ h' m₀ → News h₀ L₀ h' ((P, pairObj dx #[v0, v1]) :: (dx, dictOf [] 0) :: news) → Q v0 { s with heap := h', toks := tk' }) :
    wpAny (model PySem.Challenge.rw_il0123_01.row.prog w) (ktrTop dp un gd cn cs L₀ a ccd cl outer) (call (.ref 43) [.ref 124, .ref P, .ref 155]) Q E s := by
  revert X
  k_with_none
  k_with "getMethod type:tuple" => (k_here; k_dflt (refine' method_type ?F ?X ?m ?s ?e ?h ?_; (case F => k_asm); (case X => k_asm); (case m => exact kitMeta_of (by decide +kernel)); (case s => decide +kernel); (case e => k_is); (case h => decide +kernel); k_whole))
  k_with "call type:type" => (k_here; (with_reducible show wpAny _ _ (call (Value.type "type") [Value.ref _]) _ _ _); k_dflt (refine' type_P ?N ?m1 ?m2 ?_; (case N => k_asm); (case m1 => k_mem); (case m2 => k_mem); k_whole))
  k_with "call builtin:issubclass" => (k_here; k_dflt (refine' issub_call ?F ?X ?_; (case F => k_asm); (case X => k_asm); k_whole))
  k_with "call builtin:tuple.__getitem__" => (k_here; k_dflt (refine' pair_item ?F ?X ?N ?m1 ?m2 ?h0 ?h1 ?hk ?hy ?_; (case F => k_asm); (case X => k_asm); (case N => k_asm); (case m1 => k_mem); (case m2 => k_mem); (case h0 => decide); (case h1 => decide); (case hk => rfl); (case hy => rfl); k_whole))
  w_top off
  k_fill
  intro X
  refine wpAny_call ?_
  (k_dflt (refine' code_led ?k1 ?k2 ?k3 ?k4 ?k5 ?kA ?kF ?kK ?k6 ?k7 ?k8 ?k9 ?kB ?_ ?c2 ?c3 ?c4 ?c5; (case kA => exact rfl); (case kF => exact rfl); (case kK => first | exact rfl | assumption); (case k1 => k_asm); (case k2 => k_asm); (case k3 => k_asm); (case k4 => k_asm); (case k5 => k_asm); (case k6 => k_is); (case k7 => k_is); (case k8 => ktr_room); (case k9 => first | exact BindsTo.of_eq rfl | exact binds_K (by k_in) rfl (by k_is) rfl rfl rfl); (case c5 => decide); (case kB => exact locs rfl); (case c2 => exact rfl); (case c3 => exact rfl); (case c4 => exact rfl); k_whole; intro g' L' h' FG' F' N' B' X' T'; (try dsimp only); (try k_lift B'); (try k_fold)))
  k_steps
  rename Fr h₀ _ _ _ => F3
  rename News h₀ _ _ _ => N9
  exact hret _ _ F3 N9
theorem value_call (w : World) (mean : ExcName → Option Value) (mg mb : PySem.Str → Option Value) (dp un : Nat) (gd : Option (List Code)) (cn : PySem.Str) (cs : Scope) (a : Addr) (ccd : Value) (cl : List (PySem.Str × Addr)) (outer : List Env) (A₀ : Around) (base h₀ : Heap) (L₀ : Addr) (m₀ : PySem.Str → Option Value) (news : List (Addr × Obj)) (P dx : Addr) (v0 v1 : Value) (s : Shared) (Q E : Value → Shared → Prop)
    (B : Below A₀ base outer h₀) (F : Fr h₀ L₀ s.heap m₀) (X : (hd.heap_39 w.params).In h₀) (N : News h₀ L₀ s.heap ((P, pairObj dx #[v0, v1]) :: (dx, dictOf [] 0) :: news)) (T : Top hd.view_39 (looseW hd.view_39 [Str.ofString "_tuplegetter", Str.ofString "Pair"]) mean mg mb h₀) (hcs : cs.kind = .function)
    (hdp : dp + 2 < recursionLimit) (hun : un + 20 < cLine) 
    (hret : ∀ h' tk', Fr h₀ L₀ h' m₀ → News h₀ L₀ h' ((P, pairObj dx #[v0, v1]) :: (dx, dictOf [] 0) :: news) → Q v1 { s with heap := h', toks := tk' }) :
    wpAny (model PySem.Challenge.rw_il0123_01.row.prog w) (ktrTop dp un gd cn cs L₀ a ccd cl outer) (call (.ref 43) [.ref 127, .ref P, .ref 155]) Q E s := by
  revert X
  k_with_none
  k_with "getMethod type:tuple" => (k_here; k_dflt (refine' method_type ?F ?X ?m ?s ?e ?h ?_; (case F => k_asm); (case X => k_asm); (case m => exact kitMeta_of (by decide +kernel)); (case s => decide +kernel); (case e => k_is); (case h => decide +kernel); k_whole))
  k_with "call type:type" => (k_here; (with_reducible show wpAny _ _ (call (Value.type "type") [Value.ref _]) _ _ _); k_dflt (refine' type_P ?N ?m1 ?m2 ?_; (case N => k_asm); (case m1 => k_mem); (case m2 => k_mem); k_whole))
  k_with "call builtin:issubclass" => (k_here; k_dflt (refine' issub_call ?F ?X ?_; (case F => k_asm); (case X => k_asm); k_whole))
  k_with "call builtin:tuple.__getitem__" => (k_here; k_dflt (refine' pair_item ?F ?X ?N ?m1 ?m2 ?h0 ?h1 ?hk ?hy ?_; (case F => k_asm); (case X => k_asm); (case N => k_asm); (case m1 => k_mem); (case m2 => k_mem); (case h0 => decide); (case h1 => decide); (case hk => rfl); (case hy => rfl); k_whole))
  w_top off
  k_fill
  intro X
  refine wpAny_call ?_
  (k_dflt (refine' code_led ?k1 ?k2 ?k3 ?k4 ?k5 ?kA ?kF ?kK ?k6 ?k7 ?k8 ?k9 ?kB ?_ ?c2 ?c3 ?c4 ?c5; (case kA => exact rfl); (case kF => exact rfl); (case kK => first | exact rfl | assumption); (case k1 => k_asm); (case k2 => k_asm); (case k3 => k_asm); (case k4 => k_asm); (case k5 => k_asm); (case k6 => k_is); (case k7 => k_is); (case k8 => ktr_room); (case k9 => first | exact BindsTo.of_eq rfl | exact binds_K (by k_in) rfl (by k_is) rfl rfl rfl); (case c5 => decide); (case kB => exact locs rfl); (case c2 => exact rfl); (case c3 => exact rfl); (case c4 => exact rfl); k_whole; intro g' L' h' FG' F' N' B' X' T'; (try dsimp only); (try k_lift B'); (try k_fold)))
  k_steps
  rename Fr h₀ _ _ _ => F3
  rename News h₀ _ _ _ => N9
  exact hret _ _ F3 N9
end Mine
end
section
open PySem PySem.W PyProof.Rows
set_option Elab.async false
set_option maxRecDepth 100000
set_option maxHeartbeats 4000000
namespace Mine
section
open PySem.Calls
variable {prog : Program} {w : World} {A : Around} {E : Value → Shared → Prop} {s : Shared} {K : Frag} {T : String} {h₀ : Heap} {L : Addr} {m : PySem.Str → Option Value} {name : PySem.Str} {v : Value}
theorem type_val {expr : Bool} {Q : Value → Shared → Prop} (F : Fr h₀ L s.heap m) (X₀ : K.In h₀) (ht : kitMeta T = true) (hs : Manifest.isStub T = false)
    (e : findCls K (.type T) (.type "type") name = some (.val v)) (hh : handedIn v = true)
    (h : ∀ u, Q v { s with toks := u }) : wpAny (model prog w) A (getAttr (.type T) name expr) Q E s := by
  have X := X₀.keeps F.keep
  have hstub : opaqueClassAbove (.type T) = pure none := by unfold opaqueClassAbove; dsimp only; rw [hs]; rfl
  have L0 : Looks (model prog w) s.heap (typeOf (.type T)) (.type "type") := Looks.of_pure (kitMeta_of ht)
  have LO : Looks (model prog w) s.heap (opaqueClassAbove (.type T)) none := Looks.of_pure hstub
  have hg : findIn K (.type "type") "__getattribute__" = some (some (.builtin "type.__getattribute__")) := type_tga
  refine cls_open X LO L0 hg (looks_hook X (r := none) (by rfl)) (by show subIn K _ _ = _; rfl) e ?_
  exact wpAny_pure (handed_on hh (h _))
end
theorem news_up {h₀ g h : Heap} {L₀ L' : Addr} {m₀ : PySem.Str → Option Value} {n : List (Addr × Obj)} (F : Fr h₀ L₀ g m₀) (N' : News g L' h n) : News h₀ L₀ h n := by
  obtain ⟨oL, es, ep, hL, hLd, hLk, hLf⟩ := F.ns
  refine fun p hp => ⟨(N' p hp).1, fun q => ?_, ?_⟩
  · have := (N' p hp).2.2; rw [q, hL] at this; cases this
  · cases q : h₀.get? p.1 with
    | none => rfl
    | some o => have := (N' p hp).2.2; rw [F.keep _ _ q] at this; cases this
theorem split_items (x : PySem.Str) (hx : x.length ≤ 1000) {l : List (PySem.Str × Tok)} (h : l.map (fun x => x.fst) = Txt.splitMax x (Str.ofString "=") 1) (hl : ∀ a ∈ l.map (fun x => x.fst), a.length ≤ x.length) (i : Nat) (y : PySem.Str) (e : (l.map (fun x => x.fst))[i]? = some y) : y.length ≤ sizeLine ∧ ∃ t, (strValues l).toArray[i]? = some (Value.str y t) := by
  have hm : y ∈ l.map (fun x => x.fst) := List.mem_of_getElem? e
  refine ⟨by have := hl y hm; rw [sizeLine_eq]; omega, ?_⟩
  rw [List.getElem?_map] at e
  obtain ⟨p, hp, rfl⟩ := Option.map_eq_some_iff.mp e
  exact ⟨p.2, by simp [strValues, hp]⟩
theorem parse_call (w : World) (mean : ExcName → Option Value) (mg mb : PySem.Str → Option Value) (dp un : Nat) (gd : Option (List Code)) (cn : PySem.Str) (cs : Scope) (a : Addr) (ccd : Value) (cl : List (PySem.Str × Addr)) (outer : List Env) (A₀ : Around) (base h₀ : Heap) (L₀ : Addr) (m₀ : PySem.Str → Option Value) (news : List (Addr × Obj)) (s : Shared) (R : Result → Shared → Prop)
    (B : Below A₀ base outer h₀) (F : Fr h₀ L₀ s.heap m₀) (X : (hd.heap_39 w.params).In h₀) (N : News h₀ L₀ s.heap news) (T : Top hd.view_39 (looseW hd.view_39 [Str.ofString "_tuplegetter", Str.ofString "Pair"]) mean mg mb h₀) (hcs : cs.kind = .function)
    (hdp : dp + 30 < recursionLimit) (hun : un + 200 < cLine) (x : PySem.Str) (tx : Tok) (hx : x.length ≤ 1000)
    (hsp0 : (∃ y, Txt.splitMax x (Str.ofString "=") 1 = [y]) ∨ ∃ y z, Txt.splitMax x (Str.ofString "=") 1 = [y, z])
    (h1 : ∀ y, Txt.splitMax x (Str.ofString "=") 1 = [y] → ∀ e h' tk', RaisedSN base s.heap (envX cn cs L₀ a ccd cl :: outer) e (.type "TypeError") [] h' → s.heap.UpToSlots h' → R (.error (.ref e)) { s with heap := h', toks := tk' })
    (h2 : ∀ y z, Txt.splitMax x (Str.ofString "=") 1 = [y, z] → ∀ P dx t1 t2 h' tk', Fr h₀ L₀ h' m₀ → News h₀ L₀ h' ((P, pairObj dx #[.str (Txt.strip y) t1, .str (Txt.strip z) t2]) :: (dx, dictOf [] 0) :: news) → R (.ok (.ret (.ref P))) { s with heap := h', toks := tk' }) :
    codeC (model PySem.Challenge.rw_il0123_01.row.prog w) (ktrTop dp un gd cn cs L₀ a ccd cl outer) (.call (.ref 149) ⟨[.ref 155, .str x tx], []⟩) R s := by
  revert X
  k_with_none
  k_with "getAttr type:str" => (k_here; (with_reducible show wpAny _ _ (getAttr (Value.type _) (PySem.Str.ofString "strip") _) _ _ _); k_dflt (refine' type_val ?F ?X ?t ?s ?e ?q ?_; (case F => k_asm); (case X => k_asm); (case t => decide +kernel); (case s => decide +kernel); (case e => k_is); (case q => decide +kernel); k_whole); intro _)
  k_with "getMethod type:tuple" => (k_here; k_dflt (refine' method_type ?F ?X ?m ?s ?e ?h ?_; (case F => k_asm); (case X => k_asm); (case m => exact kitMeta_of (by decide +kernel)); (case s => decide +kernel); (case e => k_is); (case h => decide +kernel); k_whole))
  w_top off
  k_fill
  intro X
  (k_dflt (refine' code_ownC ?k1 ?k2 ?k3 ?k4 ?k5 ?kA ?kF ?kK ?k6 ?k7 ?k8 ?k9 ?kB ?_ ?c2 ?c3 ?c4 ?c5; (case kA => exact rfl); (case kF => exact rfl); (case kK => first | exact rfl | assumption); (case k1 => k_asm); (case k2 => k_asm); (case k3 => k_asm); (case k4 => k_asm); (case k5 => k_asm); (case k6 => k_is); (case k7 => k_is); (case k8 => ktr_room); (case k9 => first | exact BindsTo.of_eq rfl | exact binds_K (by k_in) rfl (by k_is) rfl rfl rfl); (case c5 => decide); (case kB => exact locs rfl); (case c2 => exact rfl); (case c3 => exact rfl); (case c4 => exact rfl); k_whole; intro g' L' h' FG' F' N' B' X' T' gE'; (try dsimp only); (try k_lift B'); (try k_fold)))
  refine wpC_execs_cons (wpC_Return_some (wpC_Call ?_ (by rfl)))
  k_steps
  k_dflt (refine' callWith_SC ?k1 ?k2 ?_ ?k3; (case k1 => k_asm); (case k2 => k_is); (case k3 => rfl); k_whole)
  k_steps
  (rename Fr _ _ _ _ => F1); (rename News _ _ _ _ => N1); (rename Heap.IsList _ _ _ => hl1); (rename List.map _ _ = _ => hsp)
  (rename _ = s.heap => gE); (rename Frag.In _ _ => X1); (rename Below _ _ _ _ => B1); (rename Fr h₀ L₀ _ m₀ => FG)
  (rename List (PySem.Str × Tok) => l1)
  refine map_star (ys := l1.map (fun x => x.fst)) rfl F1 N1 hl1 ?hn ?hz ?hit ?_
  case hn => simp [strValues]
  case hz => rw [hsp]; rcases hsp0 with ⟨y, e⟩ | ⟨y, z, e⟩ <;> rw [e] <;> simp
  case hit => exact split_items x hx hsp (by assumption)
  intro vs hp2 tk2 F2 N2 S2
  refine ⟨X1.keeps F2.keep, ?_⟩
  rw [hsp] at S2
  rcases hsp0 with ⟨y, hy⟩ | ⟨y, z, hyz⟩
  · rw [hy] at S2
    obtain ⟨v1, rfl⟩ : ∃ v1, vs = [v1] := by
      have := S2.1
      match vs, this with
      | [v1], _ => exact ⟨v1, rfl⟩
    refine wpC_call (pair_refuses X1 F2 rfl ?room fun h3 tk3 e he => ?_)
    case room => show dp + 1 + 10 < recursionLimit; omega
    refine leave_newS B1 he F2 News.nil (fun h4 hR _ hU => ?_) rfl
    exact h1 y hy e h4 tk3 (gE ▸ hR) (gE ▸ hU)
  · rw [hyz] at S2
    obtain ⟨v1, v2, rfl⟩ : ∃ v1 v2, vs = [v1, v2] := by
      have := S2.1
      match vs, this with
      | [v1, v2], _ => exact ⟨v1, v2, rfl⟩
    obtain ⟨y', t1, e1, rfl⟩ := S2.2 0 v1 rfl
    obtain rfl : y = y' := by simpa using e1
    obtain ⟨z', t2, e2, rfl⟩ := S2.2 1 v2 rfl
    obtain rfl : z = z' := by simpa using e2
    refine wpC_of (pair_call (fun _ => by rfl) X1 F2 ?_)
    refine wpAny_call ?_
    (k_dflt (refine' code_own ?k1 ?k2 ?k3 ?k4 ?k5 ?kA ?kF ?kK ?k6 ?k7 ?k8 ?k9 ?kB ?_ ?c2 ?c3 ?c4 ?c5; (case kA => exact rfl); (case kF => exact rfl); (case kK => first | exact rfl | assumption); (case k1 => k_asm); (case k2 => k_asm); (case k3 => k_asm); (case k4 => k_asm); (case k5 => k_asm); (case k6 => k_is); (case k7 => k_is); (case k8 => ktr_room); (case k9 => first | exact BindsTo.of_eq rfl | exact binds_K (by k_in) rfl (by k_is) rfl rfl rfl); (case c5 => decide); (case kB => exact locs rfl); (case c2 => exact rfl); (case c3 => exact rfl); (case c4 => exact rfl); k_whole; intro g' L' h' FG' F' N' B' X' T'; (try dsimp only); (try k_lift B'); (try k_fold)))
    k_steps
    (rename Fr _ _ _ _ => F3); (rename News _ _ _ _ => N3); (rename Frag.In _ _ => X3)
    refine tuple_new (X3.keeps F3.keep) F3 N3 (N3 _ (List.mem_cons_self ..)).1 (by show 2 ≤ 1000; omega) ?_
    intro P dx hp3 F4 N4
    k_steps
    · exact (N4 _ (List.mem_cons_self ..)).1
    · rfl
    · (rename Fr h₀ L₀ _ m₀ => kF); (rename News _ _ _ ((P, _) :: _) => kN1); (rename News h₀ L₀ _ news => aN)
      have kN2 : News h₀ L₀ hp3 [(P, pairObj dx #[Value.str (Txt.strip y) t1, Value.str (Txt.strip z) t2]), (dx, dictOf [] 0)] := news_sub (news_up FG kN1) (fun p hp => by
        simp only [List.mem_cons, List.not_mem_nil, or_false] at hp ⊢
        rcases hp with h | h
        · exact .inl h
        · exact .inr (.inl h))
      exact h2 y z hyz P dx t1 t2 hp3 _ kF (news_app kN2 aN)
end Mine
end
section
open PySem PySem.W PyProof.Rows
set_option Elab.async false
set_option maxRecDepth 100000
set_option maxHeartbeats 4000000
namespace Mine
theorem news_two {h₀ h : Heap} {L : Addr} {a b : Addr × Obj} {n : List (Addr × Obj)} (N : News h₀ L h n) (ha : a ∈ n) (hb : b ∈ n) : News h₀ L h (a :: b :: n) := fun p hp => by
  rcases List.mem_cons.mp hp with rfl | hp
  · exact N _ ha
  rcases List.mem_cons.mp hp with rfl | hp
  · exact N _ hb
  · exact N _ hp
theorem news_hd {h₀ h : Heap} {L : Addr} {q : Addr × Obj} {n n' : List (Addr × Obj)} (N : News h₀ L h (q :: n)) (N' : News h₀ L h n') : News h₀ L h (q :: n') := fun p hp => by
  rcases List.mem_cons.mp hp with rfl | hp
  · exact N _ (List.mem_cons_self ..)
  · exact N' _ hp
theorem told_call (w : World) (mean : ExcName → Option Value) (mg mb : PySem.Str → Option Value) (dp un : Nat) (gd : Option (List Code)) (cn : PySem.Str) (cs : Scope) (a : Addr) (ccd : Value) (cl : List (PySem.Str × Addr)) (A₀ : Around) (base h₀ : Heap) (L₀ : Addr) (m₀ : PySem.Str → Option Value) (news : List (Addr × Obj)) (s : Shared) (R : Result → Shared → Prop)
    (B : Below A₀ base [] h₀) (F : Fr h₀ L₀ s.heap m₀) (X : (hd.heap_39 w.params).In h₀) (N : News h₀ L₀ s.heap news) (T : Top hd.view_39 (looseW hd.view_39 [Str.ofString "_tuplegetter", Str.ofString "Pair"]) mean mg mb h₀) (XB : (hd.heap_39 w.params).In base) (TB : Top hd.view_39 (looseW hd.view_39 [Str.ofString "_tuplegetter", Str.ofString "Pair"]) mean mg mb base) (hcs : cs.kind = .function)
    (hdp : dp + 60 < recursionLimit) (hun : un + 250 < cLine) (x : PySem.Str) (tx : Tok) (hx : x.length ≤ 1000)
    (hsp0 : (∃ y, Txt.splitMax x (Str.ofString "=") 1 = [y]) ∨ ∃ y z, Txt.splitMax x (Str.ofString "=") 1 = [y, z])
    (h1 : ∀ y, Txt.splitMax x (Str.ofString "=") 1 = [y] → ∀ r h' tk', Fr h₀ L₀ h' m₀ → News h₀ L₀ h' ((r, PySem.W.listOf (List.toArray []) 0) :: news) → R (.ok (.ret (.ref r))) { s with heap := h', toks := tk' })
    (h2 : ∀ y z, Txt.splitMax x (Str.ofString "=") 1 = [y, z] → ∀ r t1 t2 n h' tk', Fr h₀ L₀ h' m₀ → News h₀ L₀ h' ((r, PySem.W.listOf (List.toArray [.str (Txt.strip y) t1, .str (Txt.strip z) t2]) n) :: news) → R (.ok (.ret (.ref r))) { s with heap := h', toks := tk' }) :
    codeC (model PySem.Challenge.rw_il0123_01.row.prog w) (ktrTop dp un gd cn cs L₀ a ccd cl []) (.call (.ref 193) ⟨[.str x tx], []⟩) R s := by
  revert X XB
  k_with_none
  k_with "getAttr ref" => (k_here; (with_reducible show wpAny _ _ (getAttr (Value.ref _) (PySem.Str.ofString "name") _) _ _ _); refine Stop.intro ?_)
  k_with "getAttr ref" => (k_here; (with_reducible show wpAny _ _ (getAttr (Value.ref _) (PySem.Str.ofString "value") _) _ _ _); refine Stop.intro ?_)
  w_top off
  k_fill
  intro X XB
  (k_dflt (refine' code_ownSC ?k1 ?k2 ?k3 ?k4 ?k5 ?kA ?kF ?kK ?k6 ?k7 ?k8 ?k9 ?kB ?_ ?c2 ?c3 ?c4 ?c5; (case kA => exact rfl); (case kF => exact rfl); (case kK => first | exact rfl | assumption); (case k1 => k_asm); (case k2 => k_asm); (case k3 => k_asm); (case k4 => k_asm); (case k5 => k_asm); (case k6 => k_is); (case k7 => k_is); (case k8 => ktr_room); (case k9 => first | exact BindsTo.of_eq rfl | exact binds_K (by k_in) rfl (by k_is) rfl rfl rfl); (case c5 => decide); (case kB => exact locs rfl); (case c2 => exact rfl); (case c3 => exact rfl); (case c4 => exact rfl); k_whole; intro g' L' h' FG' F' N' B' X' T' D'; (try dsimp only); (try k_lift B'); (try k_fold)))
  (rename Frag.In _ _ => X1); (rename Below _ _ _ _ => B1); (rename Fr h₀ L₀ _ m₀ => FG)
  refine wpC_execs_cons (wpC_Try_except ?_)
  refine wpC_execs_cons (wpC_Assign_Name (wpC_MethodCall ?_ (by rfl)) (by rfl))
  k_steps
  k_dflt (refine' callWith_MC (g := 149) (self := .ref 155) ?k1 ?k2 ?_ ?k3; (case k1 => k_asm); (case k2 => k_is); (case k3 => rfl); k_whole)
  k_steps
  (rename News _ _ _ ((_, methodObj _ _) :: _) => N1)
  refine wpC_call (method_callC (N1 _ (List.mem_cons_self ..)).1 ?_)
  k_dflt (refine' parse_call ?w ?mean ?mg ?mb ?dp ?un ?gd ?cn ?cs ?a ?ccd ?cl ?outer ?A0 ?base ?h0 ?L0 ?m0 ?news ?s ?R ?B ?F ?X ?N ?T ?hcs ?hdp ?hun ?x ?tx ?hx ?hsp0 ?h1 ?h2)
  case B => k_asm
  case F => k_asm
  case X => k_asm
  case N => k_asm
  case T => k_asm
  case hcs => rfl
  case hdp => show dp + 1 + 30 < recursionLimit; omega
  case hun => show un + 3 + 200 < cLine; omega
  case hx => exact hx
  case hsp0 => exact hsp0
  case h1 =>
    intro y hy e h3 tk3 hR hU
    dsimp only at hR hU ⊢
    k_steps
    (rename Fr h₀ L₀ _ m₀ => kF); (rename News h₀ L₀ _ ((_, PySem.W.listOf _ _) :: _) => kN1); (rename News h₀ L₀ _ news => aN)
    exact h1 y hy _ _ _ kF (news_hd kN1 aN)
  case h2 =>
    intro y z hyz P dx t1 t2 h3 tk3 F3 N3
    dsimp only
    refine wpC_of ?_
    k_steps
    refine wpC_execs_nil ?_
    dsimp only
    refine wpC_execs_nil ?_
    dsimp only
    refine wpC_of ?_
    k_steps
    unfold Stop
    (rename Fr _ _ _ _ => F4); (rename News _ _ _ _ => N4)
    refine get_bind_tup (X1.keeps F4.keep) (inst_P N4 (by k_mem) (by k_mem)) (find_name w) ?_
    have NQ := news_two (a := (P, pairObj dx #[.str (Txt.strip y) t1, .str (Txt.strip z) t2])) (b := (dx, dictOf [] 0)) N4 (by k_mem) (by k_mem)
    k_dflt (refine' name_call ?ncw ?ncmean ?ncmg ?ncmb ?ncdp ?ncun ?ncgd ?nccn ?nccs ?nca ?ncccd ?nccl ?ncouter ?ncA0 ?ncbase ?nch0 ?ncL0 ?ncm0 ?ncnews P dx (.str (Txt.strip y) t1) (.str (Txt.strip z) t2) ?ncs ?ncQ ?ncE ?ncB ?ncF ?ncX ?ncN ?ncT ?nchcs ?nchdp ?nchun ?nchret)
    case ncB => k_asm
    case ncF => k_asm
    case ncX => k_asm
    case ncN => exact NQ
    case ncT => k_asm
    case nchcs => rfl
    case nchdp => show dp + 1 + 2 < recursionLimit; omega
    case nchun => show un + 3 + _ + 20 < cLine; omega
    case nchret =>
      intro h5 tk5 F5 N5
      refine wpAny_pure ?_
      clear NQ N4 F4
      k_steps
      unfold Stop
      (rename Fr _ _ _ _ => F4); (rename News _ _ _ _ => N4)
      refine get_bind_tup (X1.keeps F4.keep) (inst_P N4 (by k_mem) (by k_mem)) (find_value w) ?_
      have NQ := news_two (a := (P, pairObj dx #[.str (Txt.strip y) t1, .str (Txt.strip z) t2])) (b := (dx, dictOf [] 0)) N4 (by k_mem) (by k_mem)
      k_dflt (refine' value_call ?vcw ?vcmean ?vcmg ?vcmb ?vcdp ?vcun ?vcgd ?vccn ?vccs ?vca ?vcccd ?vccl ?vcouter ?vcA0 ?vcbase ?vch0 ?vcL0 ?vcm0 ?vcnews P dx (.str (Txt.strip y) t1) (.str (Txt.strip z) t2) ?vcs ?vcQ ?vcE ?vcB ?vcF ?vcX ?vcN ?vcT ?vchcs ?vchdp ?vchun ?vchret)
      case vcB => k_asm
      case vcF => k_asm
      case vcX => k_asm
      case vcN => exact NQ
      case vcT => k_asm
      case vchcs => rfl
      case vchdp => show dp + 1 + 2 < recursionLimit; omega
      case vchun => show un + 3 + _ + 20 < cLine; omega
      case vchret =>
        intro h6 tk6 F6 N6
        refine wpAny_pure ?_
        clear NQ N4 F4
        k_steps
        (rename Fr h₀ L₀ _ m₀ => kF); (rename News h₀ L₀ _ ((_, PySem.W.listOf _ _) :: _) => kN1); (rename News h₀ L₀ _ news => aN)
        exact h2 y z hyz _ _ _ _ _ _ kF (news_hd kN1 aN)
end Mine
end
section
open PySem PySem.W PySem.Calls PyProof.Rows
set_option Elab.async false
set_option maxRecDepth 100000
set_option maxHeartbeats 4000000
namespace Mine
section
variable {prog : Program} {w : World} {A : Around} {E : Value → Shared → Prop} {s : Shared} {env : Env} {h₀ : Heap} {R : Result → Shared → Prop}
abbrev itObj (k n : Int) : Obj := { cls := .type "range_iterator", dict := none, data := .fields #[rawInt k, rawInt n, rawInt 1], slots := #[] }
def TurnEnd (h₀ : Heap) (L : Addr) (s : Shared) (y : PySem.Str) (sv : Value) (I : Addr) (o : Obj) (f : Flow) (s' : Shared) : Prop :=
  (f = .next ∨ f = .cont) ∧ ∃ h' tk' m', s' = { s with heap := h', toks := tk' } ∧ Fr h₀ L h' m' ∧ m' y = some sv ∧ News h₀ L h' [(I, o)]
theorem fr_ext {h h' : Heap} {L I : Addr} {m : PySem.Str → Option Value} (F : Fr h₀ L h m) (hk : Heap.ExtBut I h h') (hL : I ≠ L) (hI : h₀.get? I = none) : Fr h₀ L h' m := by
  obtain ⟨oL, a1, a2, hoL, a3⟩ := F.ns
  exact ⟨⟨oL, a1, a2, hk L _ hL.symm hoL, a3⟩, fun b o e => hk b o (fun q => by rw [q, hI] at e; cases e) (F.keep b o e), F.above⟩
/-- the loop of the law: a range by ones, one name kept, the iterator alone in the ledger -/
theorem law_loop {x y : PySem.Str} {px : Pos} {I : Addr} {body : List Stmt} {sv : Value} {N : Nat} (hh : A.handled = none) (hxy : x ≠ y) (hx : env.kindOf x = some .local)
    (hp : (env.scope.kind == .class || (env.scope.kind == .module && env.locals != env.globals)) = false)
    (turn : ∀ (k : Nat) t h tk (m : PySem.Str → Option Value), k < N → Fr h₀ env.locals h (fun z => if z = x then some (.int k t) else m z) → m y = some sv → News h₀ env.locals h [(I, itObj ((k : Int) + 1) ((N : Int) - k - 1))] →
      wpC (model prog w) A (execs body env) (TurnEnd h₀ env.locals { s with heap := h, toks := tk } y sv I (itObj ((k : Int) + 1) ((N : Int) - k - 1))) (fun _ _ => False) { s with heap := h, toks := tk })
    (done : ∀ h tk (m : PySem.Str → Option Value), Fr h₀ env.locals h m → R (.ok .next) { s with heap := h, toks := tk }) :
    ∀ (n k : Nat) h tk (m : PySem.Str → Option Value), n + k = N → Fr h₀ env.locals h m → m y = some sv → News h₀ env.locals h [(I, itObj k ((N : Int) - k))] →
      codeC (model prog w) A (.forLoop (.Name x px) (.ref I) body [] env) R { s with heap := h, toks := tk }
  | 0, k, h, tk, m, hn, F, hm, hN => by
    have hI := hN _ (List.mem_cons_self ..)
    refine codeC_forLoop_turn (wpAny_pyNext_range_end hh hI.1 (by omega) fun h' he => ?_)
    exact done h' tk m (fr_ext F he hI.2.1 hI.2.2)
  | n + 1, k, h, tk, m, hn, F, hm, hN => by
    have hI := hN _ (List.mem_cons_self ..)
    refine codeC_forLoop_turn (wpAny_pyNext_range_item hI.1 (by omega) fun h' hi hs => ?_)
    have F1 : Fr h₀ env.locals h' m := F.change hs hI.2.1 hI.2.2
    dsimp only
    refine wpAny_assign_Name (wpAny_storeName_local hx F1.ns (fun h2 hn2 hs2 => ?_) hp)
    have F2 := F1.set hn2 hs2
    have N2 : News h₀ env.locals h2 [(I, itObj ((k : Int) + 1) ((N : Int) - k - 1))] := fun p hp => by
      rcases List.mem_cons.mp hp with rfl | hp
      · exact ⟨(hs2.2 I hI.2.1).trans hi, hI.2⟩
      · cases hp
    refine wpC_mono (turn k tk h2 (tk + 1 + 1) m (by omega) F2 hm N2) (fun f s3 hf => ?_) fun _ _ x => x.elim
    obtain ⟨hf, h3, tk3, m3, rfl, F3, hm3, N3⟩ := hf
    have e1 : ((k : Int) + 1) = ((k + 1 : Nat) : Int) := by omega
    have e2 : ((N : Int) - k - 1) = (N : Int) - ((k + 1 : Nat) : Int) := by omega
    rw [e1, e2] at N3
    rcases hf with rfl | rfl
    · exact law_loop hh hxy hx hp turn done n (k + 1) h3 tk3 m3 (by omega) F3 hm3 N3
    · exact law_loop hh hxy hx hp turn done n (k + 1) h3 tk3 m3 (by omega) F3 hm3 N3
end
end Mine
end
section
open PySem PySem.W PySem.Calls PyProof.Rows
set_option Elab.async false
set_option maxRecDepth 100000
set_option maxHeartbeats 4000000
namespace Mine
open PyProof.Rows.LCg
section
variable {prog : Program} {w : World} {A : Around} {s₁ : Shared} {h₀ : Heap} {L : Addr} {m : PySem.Str → Option Value} {env : Env}
def EltEnd (h₀ : Heap) (L : Addr) (m : PySem.Str → Option Value) (s : Shared) (z : PySem.Str) (news : List (Addr × Obj)) (v : Value) (s' : Shared) : Prop :=
  ∃ t h' tk', v = .str (bare z) t ∧ s' = { s with heap := h', toks := tk' } ∧ Fr h₀ L h' m ∧ News h₀ L h' news
/-- a comprehension over a made list of two texts, its element the text made bare -/
theorem EltEnd.mk {s : Shared} {z : PySem.Str} {t : Tok} {h' : Heap} {tk' : Nat} {news : List (Addr × Obj)} (F : Fr h₀ L h' m) (N : News h₀ L h' news) : EltEnd h₀ L m s z news (.str (bare z) t) { s with heap := h', toks := tk' } := ⟨t, h', tk', rfl, rfl, F, N⟩
theorem comp_two {elt : Expr} {x : PySem.Str} {scope : Scope} {cl : List (PySem.Str × Addr)} {Fin : Shared → List Value → List (Addr × Obj) → Prop} {ax : Addr} {k : Nat} {a b : PySem.Str} {ta tb : Tok} {news : List (Addr × Obj)}
    (hh : A.handled = none) (F : Fr h₀ L s₁.heap m) (N : News h₀ L s₁.heap news) (hm : (ax, ({ cls := .type "list", data := .seq (List.toArray [.str a ta, .str b tb]) k } : Obj)) ∈ news) (la : a.length ≤ 1000) (lb : b.length ≤ 1000)
    (el : ∀ z tz I oI C oC D ys m₂ h tk (E' : Value → Shared → Prop), z.length ≤ 1000 → NsObj oC m₂ → m₂ x = some (.str z tz) → Fr h₀ L h m → News h₀ L h ((I, oI) :: (C, oC) :: (D, lst ys) :: news) →
      wpAny (model prog w) A (eval elt (compEnvC scope cl C env)) (EltEnd h₀ L m { s₁ with heap := h, toks := tk } z ((I, oI) :: (C, oC) :: (D, lst ys) :: news)) E' { s₁ with heap := h, toks := tk })
    (fin : ∀ g t t', Fin { s₁ with heap := g } [.str (bare a) t, .str (bare b) t'] news) : CompSrc prog w A h₀ L m env elt x scope cl Fin (.ref ax) s₁ := by
  have src : SrcAt h₀ ax (List.toArray [Value.str a ta, Value.str b tb]) news := .inr ⟨_, hm, rfl, _, rfl⟩
  refine CompSrc.ledger hh F N hm (by rw [sizeLine_eq]; show 2 ≤ 16777216; decide) fun g => ?_
  have step : ∀ (z : PySem.Str) (tz : Tok) (Rest : Value → List (Addr × Obj) → Prop) (ys : List Value) (i : Nat), (List.toArray [Value.str a ta, Value.str b tb])[i]? = some (.str z tz) → z.length ≤ 1000 → (∀ t, Rest (.str (bare z) t) news) →
      ∀ v I oI C oC D m₂ h tk (E' : Value → Shared → Prop), (List.toArray [Value.str a ta, Value.str b tb])[i]? = some v → NsObj oC m₂ → m₂ x = some v → Fr h₀ L h m → News h₀ L h ((I, oI) :: (C, oC) :: (D, lst ys) :: news) → Off3 I C D news → ((@Ne Nat I C) ∧ (@Ne Nat I D) ∧ (@Ne Nat C D)) →
      wpAny (model prog w) A (eval elt (compEnvC scope cl C env)) (CompEnd h₀ L m { { s₁ with heap := g } with heap := h, toks := tk } I oI C oC D (lst ys) (SrcAt h₀ ax (List.toArray [Value.str a ta, Value.str b tb])) Rest) E' { { s₁ with heap := g } with heap := h, toks := tk } := by
    intro z tz Rest ys i hz hz2 hR v I oI C oC D m₂ h tk E' hv hC hx F' N' off ne
    rw [hz] at hv
    cases hv
    refine wpAny_mono (el z tz I oI C oC D ys m₂ h tk E' hz2 hC hx F' N') (fun v s' hs => ?_) fun _ _ y => y
    obtain ⟨t, h', tk', rfl, rfl, F2, N2⟩ := hs
    exact CompEnd.intro F2 N2 news (fun p hp => hp) off src (hR t)
  refine CompRest.succ (step a ta _ _ 0 rfl la fun t => ?_)
  refine CompRest.succ (step b tb _ _ 1 rfl lb fun t' => ?_)
  exact CompRest.zero (fin g t t')
end
end Mine
end
section
open PySem PySem.W PySem.Calls PyProof.Rows
set_option Elab.async false
set_option maxRecDepth 100000
set_option maxHeartbeats 4000000
namespace Mine
section
variable {prog : Program} {w : World} {A : Around} {E : Value → Shared → Prop} {s : Shared} {a b : Addr} {h₀ : Heap} {L₀ : Addr} {news : List (Addr × Obj)} {na nb : Nat} {x y : PySem.Str} {t u t' u' : Tok} {Q : Value → Shared → Prop}
open PySem.Spec
theorem two_same (x y : PySem.Str) : PySem.Spec.same (.list [.str x, .str y]) (.list [.str x, .str y]) = true := by
  simp [PySem.Spec.same, PySem.Spec.sameAll]
theorem two_shaped {x y : PySem.Str} (hx : PyData.strOk x = true) (hy : PyData.strOk y = true) : SeqAt.shaped (.list [.str x, .str y]) = true := by
  simp [SeqAt.shaped, PyData.canLay0, PyData.canLayAll0, PyData.depth, PyData.depthAll, hx, hy]
theorem ne_two (N : News h₀ L₀ s.heap news) (ha : (a, ({ cls := .type "list", data := .seq (List.toArray [.str x t, .str y u]) na } : Obj)) ∈ news) (hb : (b, ({ cls := .type "list", data := .seq (List.toArray [.str x t', .str y u']) nb } : Obj)) ∈ news) (hx : PyData.strOk x = true) (hy : PyData.strOk y = true) (hu : A.units + 64 < cLine) (h : Q (.bool false) s) :
    wpAny (model prog w) A (compareOp .NotEq (.ref a) (.ref b)) Q E s :=
  ne_dataH_same (reads_newData (ys := [.str x t, .str y u]) ⟨_, N.get ha, rfl, _, rfl⟩ (.cons (.str _ _) (.cons (.str _ _) .nil))) (reads_newData (ys := [.str x t', .str y u']) ⟨_, N.get hb, rfl, _, rfl⟩ (.cons (.str _ _) (.cons (.str _ _) .nil)))
    (two_shaped hx hy) (two_shaped hx hy) hu (SeqAt.noMix_of_shape (.list .str) rfl _ _ rfl rfl) (by rw [two_same]; exact h)
end
end Mine
end
section
open PySem PySem.W PySem.Calls PyProof.Rows
set_option Elab.async false
set_option maxRecDepth 100000
namespace Mine
open PySem.Builtin PySem.Builtin.Str
theorem dropW_congr {p q : Nat → Bool} : ∀ {l : List Nat}, (∀ c ∈ l, p c = q c) → l.dropWhile p = l.dropWhile q
  | [], _ => rfl
  | a :: r, h => by
    rw [List.dropWhile_cons, List.dropWhile_cons, h a (List.mem_cons_self ..), dropW_congr fun c hc => h c (List.mem_cons_of_mem _ hc)]
theorem drop_takeW (p : Nat → Bool) (l : List Nat) : l.drop (l.takeWhile p).length = l.dropWhile p := by
  conv => lhs; rw [← List.takeWhile_append_dropWhile (p := p) (l := l)]
  rw [List.takeWhile_append_dropWhile]
  have := List.takeWhile_append_dropWhile (p := p) (l := l)
  conv => lhs; arg 2; rw [← this]
  rw [List.drop_left]
theorem take_rtakeW (p : Nat → Bool) (d : List Nat) : d.take (d.length - (d.reverse.takeWhile p).length) = (d.reverse.dropWhile p).reverse := by
  have h := List.takeWhile_append_dropWhile (p := p) (l := d.reverse)
  have h2 : d = (d.reverse.dropWhile p).reverse ++ (d.reverse.takeWhile p).reverse := by
    rw [← List.reverse_append, h, List.reverse_reverse]
  have h3 : d.length = (d.reverse.dropWhile p).reverse.length + (d.reverse.takeWhile p).length := by
    conv => lhs; rw [h2]
    simp
  rw [h3, Nat.add_sub_cancel]
  conv => lhs; arg 2; rw [h2]
  rw [List.take_left]
theorem L_strip (x : PySem.Str) : L (Txt.strip x) = (((L x).dropWhile Unicode.isSpace).reverse.dropWhile Unicode.isSpace).reverse := by
  show (Txt.stripBy Unicode.isSpace true true x).cps.toList = _
  rw [PyProof.Rows.stripBy_eq, StrLaws.strSub_toList]
  simp only [stripLo, stripHi, if_true]
  rw [drop_takeW]
  have e : x.length - ((L x).dropWhile Unicode.isSpace |>.reverse.takeWhile Unicode.isSpace).length - ((L x).takeWhile Unicode.isSpace).length = ((L x).dropWhile Unicode.isSpace).length - (((L x).dropWhile Unicode.isSpace).reverse.takeWhile Unicode.isSpace).length := by
    have h1 := congrArg List.length (List.takeWhile_append_dropWhile (p := Unicode.isSpace) (l := L x))
    rw [List.length_append] at h1
    rw [L_length]
    omega
  rw [e, take_rtakeW]
def okS (x : PySem.Str) : Prop := ∀ c ∈ L x, Unicode.isSpace c = isB c
theorem strip_bare {x : PySem.Str} (h : okS x) : Txt.strip x = bare x := by
  refine L_inj ?_
  rw [L_strip]
  show _ = rtr (ltr (L x))
  unfold rtr ltr
  rw [dropW_congr (q := isB) (l := L x) h]
  rw [dropW_congr (q := isB) (l := ((L x).dropWhile isB).reverse) fun c hc => h c ((List.dropWhile_sublist isB).subset (List.mem_reverse.mp hc))]
theorem eq_txt : Str.ofString "=" = ⟨#[61]⟩ := by decide +kernel
theorem split_none {x : PySem.Str} (h : 61 ∉ L x) : Txt.splitMax x (Str.ofString "=") 1 = [x] := by
  rw [eq_txt]
  unfold Txt.splitMax
  split
  · rfl
  · have hf := StrLaws.found_one x 61
    have : limitOf x 1 = 1 := rfl
    rw [this, if_pos]
    have h2 : decide (61 ∈ x.cps.toList) = false := by simpa using h
    rw [h2] at hf
    simpa using hf
theorem split_some {x : PySem.Str} {a b : List Nat} (h : L x = a ++ 61 :: b) (ha : 61 ∉ a) : Txt.splitMax x (Str.ofString "=") 1 = [S a, S b] := by
  rw [eq_txt]
  unfold Txt.splitMax
  have hmem : 61 ∈ L x := by rw [h]; simp
  have hlen : x.length = a.length + 1 + b.length := by rw [L_length, h]; simp; omega
  rw [if_neg]
  · have hlim : limitOf x 1 = 1 := rfl
    have at_iff : ∀ i, StrLaws.At x ⟨#[61]⟩ x.length i ↔ (L x)[i]? = some 61 := fun i => StrLaws.subAt_one x 61 i
    rw [hlim]
    have hocc : occurrences x ⟨#[61]⟩ 0 x.length 1 = [a.length] := by
      rcases StrLaws.occ_head x ⟨#[61]⟩ 1 (Nat.le_refl _) with ⟨_, hn⟩ | ⟨i, r, he, hi, hmin⟩
      · exact absurd ((at_iff a.length).mpr (by rw [h]; simp)) (hn a.length)
      · have hl := StrLaws.occ_length_le x ⟨#[61]⟩ 0 x.length 1
        rw [he] at hl ⊢
        have hr : r = [] := by cases r with
          | nil => rfl
          | cons y t => simp at hl
        subst hr
        have h1 := (at_iff i).mp hi
        have h2 : ¬ i < a.length := fun q => by
          rw [h, List.getElem?_append_left q] at h1
          exact ha (List.mem_of_getElem? h1)
        have h3 : ¬ a.length < i := fun q => hmin a.length q ((at_iff a.length).mpr (by rw [h]; simp))
        rw [show i = a.length by omega]
    rw [hocc, if_neg (by simp), StrLaws.partsBetween_eq]
    show [strSub x 0 a.length, strSub x (a.length + 1) x.length] = _
    have e1 : strSub x 0 a.length = S a := L_inj (by
      show (strSub x 0 a.length).cps.toList = _
      rw [StrLaws.strSub_toList]
      show ((L x).drop 0).take (a.length - 0) = a
      rw [h]; simp)
    have e2 : strSub x (a.length + 1) x.length = S b := L_inj (by
      show (strSub x (a.length + 1) x.length).cps.toList = _
      rw [StrLaws.strSub_toList]
      show ((L x).drop (a.length + 1)).take (x.length - (a.length + 1)) = b
      have : (L x).drop (a.length + 1) = b := by
        rw [h, ← List.drop_drop, List.drop_left]; rfl
      rw [this, hlen]
      exact List.take_of_length_le (by omega))
    rw [e1, e2]
  · rw [Bool.not_eq_true, Bool.or_eq_false_iff]
    refine ⟨decide_eq_false_iff_not.mpr (by show ¬ x.length < 1; omega), ?_⟩
    rw [decide_eq_false_iff_not]
    exact fun q => StrLaws.kind_free x 61 q hmem
end Mine
end
section
open PySem PySem.W PySem.Calls PyProof.Rows
set_option Elab.async false
set_option maxRecDepth 100000
namespace Mine
open PySem.Builtin PySem.Builtin.Str
theorem S_nil : Str.ofString "" = S [] := by decide +kernel
theorem S_app (a b : List Nat) : S a ++ S b = S (a ++ b) := L_inj (by rw [L_append])
theorem S_appS (a : List Nat) (x : PySem.Str) : S a ++ x = S (a ++ L x) := by rw [← S_app, S_L]
theorem getD_at (l : List Nat) (k : Nat) (hk : k < l.length) : l.getD k 0 = l[k] := by simp [hk]
theorem item_nat (x : PySem.Str) (k : Nat) (hk : k < (L x).length) : Txt.item x (k : Int) = S [(L x)[k]] := by
  refine L_inj ?_
  have hk' : k < x.length := by rw [L_length]; exact hk
  show [(Txt.charAt x k).getD 0] = [(L x)[k]]
  have h1 : Txt.charAt x (k : Int) = some ((L x)[k]) := by
    refine StrLaws.at_nonneg (by omega) ?_
    have hs : k < x.cps.size := by simpa [L] using hk
    show x.cps[k]? = some ((L x)[k])
    rw [Array.getElem?_eq_getElem hs]; rfl
  rw [h1]; rfl
theorem item_eq (x : PySem.Str) (k : Nat) (hk : k < (L x).length) : (Txt.item x (k : Int) == Str.ofString "=") = ((L x)[k] == 61) := by
  rw [item_nat x k hk, eq_of_L]
  have : L (Str.ofString "=") = [61] := by decide +kernel
  rw [this, L_S]
  by_cases h : (L x)[k] = 61
  · rw [h]; rfl
  · have e1 : decide ([(L x)[k]] = [61]) = false := decide_eq_false fun q => h (List.cons.inj q).1
    have e2 : ((L x)[k] == 61) = false := beq_false_of_ne h
    rw [e1, e2]
/-- the signs kept by a walk up to place k -/
def wT (l n : List Nat) (p stop : Int) : Nat → List Nat
  | 0 => []
  | k + 1 => wT l n p stop k ++ (if (k : Int) = p then n else []) ++ (if p ≤ (k : Int) ∧ (k : Int) < stop then [] else [l.getD k 0])
def wU (l n : List Nat) (p stop : Int) (k : Nat) : List Nat := wT l n p stop k ++ (if (k : Int) = p then n else [])
def WI (l n : List Nat) (p stop : Int) (k : Nat) (v : WV) : Prop :=
  (61 ∉ wT l n p stop k ∧ v = (none, S (wT l n p stop k), Str.ofString "")) ∨
  ∃ (m : Nat) (b : List Nat), m < k ∧ l[m]? = some 61 ∧ ¬ (p ≤ (m : Int) ∧ (m : Int) < stop) ∧ 61 ∉ wU l n p stop m ∧ wT l n p stop k = wU l n p stop m ++ 61 :: b ∧ v = (some (m : Int), S (wU l n p stop m), S b)
theorem wi_step {x note : PySem.Str} {p stop : Int} {k : Nat} {v : WV} (hn : 61 ∉ L note) (hk : k < (L x).length) (h : WI (L x) (L note) p stop k v) : WI (L x) (L note) p stop (k + 1) (wStep x note p stop v (k : Int)) := by
  have hg : (L x).getD k 0 = (L x)[k] := getD_at _ _ hk
  have hT : wT (L x) (L note) p stop (k + 1) = wU (L x) (L note) p stop k ++ (if p ≤ (k : Int) ∧ (k : Int) < stop then [] else [(L x)[k]]) := by
    show _ ++ _ ++ _ = _
    rw [hg]; rfl
  rcases h with ⟨h1, rfl⟩ | ⟨m, b, hm, hl, hp, hu, hT', rfl⟩
  · have hv : wNote note p (none, S (wT (L x) (L note) p stop k), Str.ofString "") (k : Int) = (none, S (wU (L x) (L note) p stop k), Str.ofString "") := by
      unfold wNote wU
      split
      · show (none, S _ ++ note, _) = _
        rw [S_appS]
      · rw [List.append_nil]
    have hu : 61 ∉ wU (L x) (L note) p stop k := by
      unfold wU
      rw [List.mem_append]
      rintro (q | q)
      · exact h1 q
      · split at q
        · exact hn q
        · cases q
    unfold wStep
    rw [hv]
    split
    · rename_i hc
      refine .inl ⟨?_, ?_⟩
      · rw [hT, if_pos hc, List.append_nil]; exact hu
      · rw [hT, if_pos hc, List.append_nil]
    · rename_i hc
      rw [if_neg hc] at hT
      unfold wTake
      rw [item_eq x k hk, item_nat x k hk]
      by_cases hq : (L x)[k] = 61
      · rw [if_pos ⟨by simp [hq], rfl⟩]
        refine .inr ⟨k, [], Nat.lt_succ_self k, by rw [List.getElem?_eq_getElem hk, hq], hc, hu, by rw [hT, hq], by rw [S_nil]⟩
      · rw [if_neg (fun q => hq (by simpa using q.1))]
        refine .inl ⟨?_, ?_⟩
        · rw [hT, List.mem_append, List.mem_singleton]
          rintro (q | q)
          · exact hu q
          · exact hq q.symm
        · show (none, S _ ++ S [_], _) = _
          rw [S_app, hT]
  · have hv : wNote note p (some (m : Int), S (wU (L x) (L note) p stop m), S b) (k : Int) = (some (m : Int), S (wU (L x) (L note) p stop m), S (b ++ (if (k : Int) = p then L note else []))) := by
      unfold wNote
      split
      · show (some _, _, S b ++ note) = _
        rw [S_appS]
      · rw [List.append_nil]
    have hU : wU (L x) (L note) p stop k = wU (L x) (L note) p stop m ++ 61 :: (b ++ (if (k : Int) = p then L note else [])) := by
      conv => lhs; unfold wU
      rw [hT', List.append_assoc]; rfl
    unfold wStep
    rw [hv]
    split
    · rename_i hc
      rw [if_pos hc, List.append_nil, hU] at hT
      exact .inr ⟨m, _, by omega, hl, hp, hu, hT, rfl⟩
    · rename_i hc
      rw [if_neg hc, hU] at hT
      unfold wTake
      rw [if_neg (fun q => by cases q.2), item_nat x k hk]
      refine .inr ⟨m, (b ++ (if (k : Int) = p then L note else [])) ++ [(L x)[k]], by omega, hl, hp, hu, ?_, ?_⟩
      · rw [hT]; simp
      · show (some _, _, S _ ++ S [_]) = _
        rw [S_app]
theorem wi_fold {x note : PySem.Str} {p stop : Int} (hn : 61 ∉ L note) : ∀ n, n ≤ (L x).length → WI (L x) (L note) p stop n ((rangeKs 0 n).foldl (wStep x note p stop) (none, Str.ofString "", Str.ofString ""))
  | 0, _ => .inl ⟨by simp [wT], by rw [S_nil]; rfl⟩
  | n + 1, h => by
    have e : rangeKs 0 (n + 1) = rangeKs 0 n ++ [(n : Int)] := by simp [rangeKs, List.range_succ]
    rw [e, List.foldl_append]
    exact wi_step hn (by omega) (wi_fold hn n (by omega))
theorem take_succ_getD (l : List Nat) (k : Nat) (hk : k < l.length) : l.take (k + 1) = l.take k ++ [l.getD k 0] := by
  rw [List.take_add_one]; simp [hk]
/-- no note: the text as it is -/
theorem wT_plain (l : List Nat) (p : Int) : ∀ k, k ≤ l.length → wT l [] p p k = l.take k
  | 0, _ => by simp [wT]
  | k + 1, h => by
    show wT l [] p p k ++ _ ++ _ = _
    rw [wT_plain l p k (by omega), if_neg (by omega : ¬ (p ≤ (k : Int) ∧ (k : Int) < p)), take_succ_getD l k (by omega)]
    split <;> simp
theorem wT_lo (l n : List Nat) (P Z : Nat) : ∀ k, k ≤ l.length → k ≤ P → wT l n P Z k = l.take k
  | 0, _, _ => by simp [wT]
  | k + 1, h, hp => by
    show wT l n P Z k ++ _ ++ _ = _
    rw [wT_lo l n P Z k (by omega) (by omega), if_neg (by omega : ¬ ((k : Int) = P)), if_neg (by omega : ¬ ((P : Int) ≤ (k : Int) ∧ (k : Int) < Z)), take_succ_getD l k (by omega)]
    simp
theorem wT_hi (l n : List Nat) (P Z : Nat) (hPZ : P < Z) (hZ : Z ≤ l.length) : ∀ k, P < k → k ≤ l.length → wT l n P Z k = l.take P ++ n ++ (l.take k).drop Z
  | 0, h, _ => by omega
  | k + 1, h, hk => by
    show wT l n P Z k ++ _ ++ _ = _
    by_cases hP : k = P
    · subst hP
      rw [wT_lo l n k Z k (by omega) (by omega), if_pos rfl, if_pos (by omega : ((k : Int) ≤ (k : Int) ∧ (k : Int) < Z))]
      have : (l.take (k + 1)).drop Z = [] := List.drop_eq_nil_of_le (by rw [List.length_take]; omega)
      rw [this]
    · rw [wT_hi l n P Z hPZ hZ k (by omega) (by omega), if_neg (by omega : ¬ ((k : Int) = P)), List.append_nil]
      by_cases hz : k < Z
      · rw [if_pos (by omega : ((P : Int) ≤ (k : Int) ∧ (k : Int) < Z)), List.append_nil]
        have e1 : (l.take (k + 1)).drop Z = [] := List.drop_eq_nil_of_le (by rw [List.length_take]; omega)
        have e2 : (l.take k).drop Z = [] := List.drop_eq_nil_of_le (by rw [List.length_take]; omega)
        rw [e1, e2]
      · rw [if_neg (by omega : ¬ ((P : Int) ≤ (k : Int) ∧ (k : Int) < Z)), take_succ_getD l k (by omega), List.drop_append_of_le_length (by rw [List.length_take]; omega), List.append_assoc]
end Mine
end
section
open PySem PySem.W PySem.Calls PyProof.Rows
set_option Elab.async false
set_option maxRecDepth 100000
namespace Mine
open PySem.Builtin PySem.Builtin.Str
def okb (c : Nat) : Bool := (Unicode.isSpace c == isB c) && decide (c < 0x110000)
def noteOf (n : Int) : PySem.Str := Str.ofString "[" ++ Str.ofString (toString n) ++ Str.ofString " chars]"
theorem note_fin : ∀ i : Fin 51, ((L (noteOf (i.val : Int))).all fun c => okb c && c != 61) = true := by decide +kernel
theorem note_ok {n : Int} (h0 : 0 ≤ n) (h1 : n ≤ 50) : ∀ c ∈ L (noteOf n), okb c = true ∧ c ≠ 61 := by
  intro c hc
  have h := note_fin ⟨n.toNat, by omega⟩
  have e : ((n.toNat : Nat) : Int) = n := by omega
  dsimp only at h
  rw [e, List.all_eq_true] at h
  have := h c hc
  rw [Bool.and_eq_true] at this
  exact ⟨this.1, by simpa using this.2⟩
theorem row_ok : ((L rowTxt).all fun c => okb c) = true := by decide +kernel
theorem eq_ok : okb 61 = true := by decide +kernel
theorem clip_pos {n : Nat} {a : Int} (h : 0 ≤ a) : clip n a = min a.toNat n := by unfold clip; rw [if_neg (by omega)]
theorem L_to (x : PySem.Str) {a : Int} (h : 0 ≤ a) : L (Txt.slice x none (some a)) = (L x).take a.toNat := by
  rw [L_slice]
  simp only [lo, hi, clip_pos h, List.drop_zero, Nat.sub_zero]
  rw [List.take_eq_take_iff]; omega
theorem L_from (x : PySem.Str) {a : Int} (h : 0 ≤ a) : L (Txt.slice x (some a) none) = (L x).drop a.toNat := by
  rw [L_slice]
  simp only [lo, hi, clip_pos h]
  rw [List.take_of_length_le (by rw [List.length_drop]; omega)]
  by_cases hh : a.toNat ≤ (L x).length
  · rw [Nat.min_eq_left hh]
  · rw [Nat.min_eq_right (by omega), List.drop_length, List.drop_eq_nil_of_le (by omega)]
theorem put_ok {y : PySem.Str} {p z : Int} (hp : 0 ≤ p) (h : ∀ c ∈ L y, okb c = true) : (∀ c ∈ L (put y p z), okb c = true) ∧ (L (put y p z)).length ≤ (L y).length + 1 := by
  unfold put
  split
  · rw [L_append, L_append, L_to y hp, L_from y (by omega : 0 ≤ p + 1)]
    have e : L (Str.ofString "=") = [61] := by decide +kernel
    rw [e]
    refine ⟨fun c hc => ?_, ?_⟩
    · rw [List.mem_append, List.mem_append] at hc
      rcases hc with (hc | hc) | hc
      · exact h c (List.mem_of_mem_take hc)
      · rw [List.mem_singleton.mp hc]; exact eq_ok
      · exact h c (List.mem_of_mem_drop hc)
    · rw [List.length_append, List.length_append, List.length_take, List.length_drop, List.length_singleton]
      omega
  · exact ⟨h, by omega⟩
theorem line_ok (X : Int) : (∀ c ∈ L (lineOf X), okb c = true) ∧ (L (lineOf X)).length ≤ 42 := by
  unfold lineOf
  have p1 : 0 ≤ (X.fdiv 144).fmod 32 := fmod_lo _ (by decide)
  have p2 : 0 ≤ (X.fdiv 4608).fmod 32 := fmod_lo _ (by decide)
  have h0 : ∀ c ∈ L (cutTxt X), okb c = true := by
    intro c hc
    have : c ∈ L rowTxt := by
      unfold cutTxt at hc
      rw [L_slice] at hc
      exact List.mem_of_mem_drop (List.mem_of_mem_take hc)
    exact List.all_eq_true.mp row_ok c this
  have l0 : (L (cutTxt X)).length ≤ 40 := by rw [← L_length]; exact cutTxt_len X
  obtain ⟨h1, l1⟩ := put_ok (z := 14 + (X.fdiv 147456).fmod 20) p1 h0
  obtain ⟨h2, l2⟩ := put_ok (z := 14 + (X.fdiv 147456).fmod 20) p2 h1
  exact ⟨h2, by omega⟩
def TurnLaw (x : PySem.Str) (p q : Int) : Prop :=
  x.length ≤ 50 ∧ (shorten x p q).length ≤ 100 ∧ 0 ≤ p ∧ p < 12 ∧ 0 ≤ q ∧ q < 12 ∧ ((walkVal x p q = (none, shorten x p q, Str.ofString "") ∧ Txt.splitMax (shorten x p q) (Str.ofString "=") 1 = [shorten x p q]) ∨
    ∃ m a b, walkVal x p q = (some m, a, b) ∧ a.length ≤ 100 ∧ b.length ≤ 100 ∧ Txt.splitMax (shorten x p q) (Str.ofString "=") 1 = [a, b] ∧ Txt.strip a = bare a ∧ Txt.strip b = bare b ∧ PySem.PyData.strOk (bare a) = true ∧ PySem.PyData.strOk (bare b) = true ∧ 0 ≤ m ∧ m < x.length ∧
      (m < p → Txt.slice x none (some m) = a ∧ shorten (Txt.slice x (some (m + 1)) none) (p - m - 1) q = b) ∧
      (¬ m < p → shorten (Txt.slice x none (some m)) p (q - x.length + m) = a ∧ Txt.slice x (some (m + 1)) none = b))
theorem okS_of {x : PySem.Str} (h : ∀ c ∈ L x, okb c = true) : okS x := fun c hc => by
  have := h c hc
  unfold okb at this
  rw [Bool.and_eq_true] at this
  simpa using this.1
theorem strOk_bare {x : PySem.Str} (h : ∀ c ∈ L x, okb c = true) : PySem.PyData.strOk (bare x) = true := by
  unfold PySem.PyData.strOk
  rw [Array.all_eq_true']
  intro c hc
  have hc2 : c ∈ rtr (ltr (L x)) := by simpa [bare] using hc
  unfold rtr ltr at hc2
  have h1 := (List.dropWhile_sublist isB).subset (List.mem_reverse.mp hc2)
  have h2 := (List.dropWhile_sublist isB).subset (List.mem_reverse.mp h1)
  have := h c h2
  unfold okb at this
  rw [Bool.and_eq_true] at this
  simpa using this.2
theorem turn_mk {x : PySem.Str} {p q : Int} (hl : x.length ≤ 50) (hy : (shorten x p q).length ≤ 100) (p0 : 0 ≤ p) (p1 : p < 12) (q0 : 0 ≤ q) (q1 : q < 12) (hok : ∀ c ∈ L (shorten x p q), okb c = true)
    (W : (61 ∉ L (shorten x p q) ∧ walkVal x p q = (none, S (L (shorten x p q)), Str.ofString "")) ∨
      ∃ (m : Nat) (U b : List Nat), m < x.length ∧ 61 ∉ U ∧ L (shorten x p q) = U ++ 61 :: b ∧ walkVal x p q = (some (m : Int), S U, S b) ∧
        ((m : Int) < p → Txt.slice x none (some (m : Int)) = S U ∧ shorten (Txt.slice x (some ((m : Int) + 1)) none) (p - m - 1) q = S b) ∧
        (¬ (m : Int) < p → shorten (Txt.slice x none (some (m : Int))) p (q - x.length + m) = S U ∧ Txt.slice x (some ((m : Int) + 1)) none = S b)) : TurnLaw x p q := by
  refine ⟨hl, hy, p0, p1, q0, q1, ?_⟩
  rcases W with ⟨h1, h2⟩ | ⟨m, U, b, hm, hU, hy2, hw, c1, c2⟩
  · exact .inl ⟨by rw [h2, S_L], split_none h1⟩
  · have hlen := congrArg List.length hy2
    rw [← L_length, List.length_append, List.length_cons] at hlen
    have hA : ∀ c ∈ L (S U), okb c = true := fun c hc => hok c (by rw [hy2]; exact List.mem_append_left _ hc)
    have hB : ∀ c ∈ L (S b), okb c = true := fun c hc => hok c (by rw [hy2]; exact List.mem_append_right _ (List.mem_cons_of_mem _ hc))
    refine .inr ⟨m, S U, S b, hw, ?_, ?_, split_some hy2 hU, strip_bare (okS_of hA), strip_bare (okS_of hB), strOk_bare hA, strOk_bare hB, by omega, by omega, c1, c2⟩
    · rw [L_length, L_S]; omega
    · rw [L_length, L_S]; omega
theorem short_yes {x : PySem.Str} {p q : Int} (h : 12 < (x.length : Int) - p - q) : L (shorten x p q) = L (Txt.slice x none (some p)) ++ L (noteOf ((x.length : Int) - p - q)) ++ L (Txt.slice x (some ((x.length : Int) - q)) none) := by
  unfold shorten noteOf
  rw [if_pos h]
  simp only [L_append, List.append_assoc]
theorem short_no {x : PySem.Str} {p q : Int} (h : ¬ 12 < (x.length : Int) - p - q) : shorten x p q = x := by
  unfold shorten
  rw [if_neg h]
theorem cancel61 {a b c d : List Nat} (h : a ++ c = b ++ d) (hab : a = b) : c = d := by subst hab; exact List.append_cancel_left h
theorem split_at (l : List Nat) (m : Nat) (hl : l[m]? = some 61) : l = l.take m ++ 61 :: l.drop (m + 1) := by
  have hm : m < l.length := by
    rcases Nat.lt_or_ge m l.length with h | h
    · exact h
    · rw [List.getElem?_eq_none h] at hl; cases hl
  have e : l[m] = 61 := by rw [List.getElem?_eq_getElem hm] at hl; exact Option.some.inj hl
  conv => lhs; rw [← List.take_append_drop m l, List.drop_eq_getElem_cons hm, e]
/-- no note -/
theorem turn_plain (x : PySem.Str) (P Q : Nat) (hP : P < 12) (hQ : Q < 12) (hx : ∀ c ∈ L x, okb c = true) (hl : (L x).length ≤ 42) (hN : ¬ 12 < (x.length : Int) - P - Q) : TurnLaw x P Q := by
  have hn := L_length x
  have hy : shorten x P Q = x := short_no hN
  have ht : wText x P Q = S [] := by unfold wText; rw [if_pos (by omega), S_nil]
  have hz : wStop x P Q = P := by unfold wStop; rw [if_pos (by omega)]
  have W := wi_fold (x := x) (note := S []) (p := P) (stop := P) (by rw [L_S []]; exact List.not_mem_nil) (L x).length (Nat.le_refl _)
  have hwv : walkVal x P Q = (rangeKs 0 (L x).length).foldl (wStep x (S []) P P) (none, Str.ofString "", Str.ofString "") := by unfold walkVal; rw [ht, hz, hn]
  rw [← hwv, L_S []] at W
  have hT := wT_plain (L x) P
  refine turn_mk (by omega) (by rw [hy]; omega) (by omega) (by omega) (by omega) (by omega) (by rw [hy]; exact hx) ?_
  rw [hy]
  rcases W with ⟨h1, h2⟩ | ⟨m, b, hm, hlm, hp, hu, hW, hv⟩
  · rw [hT _ (Nat.le_refl _), List.take_length] at h1 h2
    exact .inl ⟨h1, h2⟩
  · have hU : wU (L x) [] P P m = (L x).take m := by
      unfold wU
      rw [hT m (by omega)]
      split <;> simp
    rw [hU] at hW hu hv
    rw [hT _ (Nat.le_refl _), List.take_length] at hW
    have hb : b = (L x).drop (m + 1) := by
      have h3 := (split_at (L x) m hlm).symm.trans hW
      exact (List.cons.inj (List.append_cancel_left h3)).2.symm
    have s1 : Txt.slice x none (some (m : Int)) = S ((L x).take m) := L_inj (L_to x (by omega))
    have s2 : Txt.slice x (some ((m : Int) + 1)) none = S b := L_inj (show L _ = b by rw [L_from x (by omega), hb, show ((m : Int) + 1).toNat = m + 1 by omega])
    refine .inr ⟨m, (L x).take m, b, by omega, hu, hW, hv, fun h => ⟨s1, ?_⟩, fun h => ⟨?_, s2⟩⟩
    · rw [s2]
      refine short_no ?_
      rw [L_length, L_S b, hb, List.length_drop]
      omega
    · rw [s1]
      refine short_no ?_
      rw [L_length, L_S ((L x).take m), List.length_take]
      omega
/-- with a note -/
theorem turn_note (x : PySem.Str) (P Q : Nat) (hP : P < 12) (hQ : Q < 12) (hx : ∀ c ∈ L x, okb c = true) (hl : (L x).length ≤ 42) (hN : 12 < (x.length : Int) - P - Q) : TurnLaw x P Q := by
  have hn := L_length x
  obtain ⟨Z, hZ⟩ : ∃ Z : Nat, Z = (L x).length - Q := ⟨_, rfl⟩
  have hZi : (x.length : Int) - Q = (Z : Int) := by omega
  obtain ⟨n, hnn⟩ : ∃ n, n = noteOf ((x.length : Int) - P - Q) := ⟨_, rfl⟩
  have nok : ∀ c ∈ L n, okb c = true ∧ c ≠ 61 := by rw [hnn]; exact note_ok (by omega) (by omega)
  have ht : wText x P Q = n := by
    unfold wText
    rw [if_neg (by omega), hnn, show (x.length : Int) - Q - P = (x.length : Int) - P - Q by omega]
    rfl
  have hz : wStop x P Q = Z := by unfold wStop; rw [if_neg (by omega), hZi]
  have hnl : (L n).length ≤ 30 := by
    rw [← L_length, ← ht]
    exact wText_len (by omega) (by omega) (by omega)
  have hy : L (shorten x P Q) = (L x).take P ++ L n ++ (L x).drop Z := by
    rw [short_yes hN, ← hnn, hZi, L_to x (by omega), L_from x (by omega)]; rfl
  have W := wi_fold (x := x) (note := n) (p := P) (stop := Z) (fun h => (nok 61 h).2 rfl) (L x).length (Nat.le_refl _)
  have hwv : walkVal x P Q = (rangeKs 0 (L x).length).foldl (wStep x n P Z) (none, Str.ofString "", Str.ofString "") := by unfold walkVal; rw [ht, hz, hn]
  rw [← hwv] at W
  have hT := wT_hi (L x) (L n) P Z (by omega) (by omega)
  have hTl : wT (L x) (L n) P Z (L x).length = L (shorten x P Q) := by rw [hT _ (by omega) (Nat.le_refl _), List.take_length, hy]
  have hyl : (L (shorten x P Q)).length ≤ 100 := by
    rw [hy, List.length_append, List.length_append, List.length_take, List.length_drop]; omega
  refine turn_mk (by omega) (by rw [L_length]; exact hyl) (by omega) (by omega) (by omega) (by omega) ?_ ?_
  · intro c hc
    rw [hy, List.mem_append, List.mem_append] at hc
    rcases hc with (hc | hc) | hc
    · exact hx c (List.mem_of_mem_take hc)
    · exact (nok c hc).1
    · exact hx c (List.mem_of_mem_drop hc)
  rcases W with ⟨h1, h2⟩ | ⟨m, b, hm, hlm, hp, hu, hW, hv⟩
  · rw [hTl] at h1 h2
    exact .inl ⟨h1, h2⟩
  · have hm' : m < (L x).length := hm
    rw [hTl] at hW
    have hsp := split_at (L x) m hlm
    have hto : L (Txt.slice x none (some (m : Int))) = (L x).take m := L_to x (by omega)
    have hfr : L (Txt.slice x (some ((m : Int) + 1)) none) = (L x).drop (m + 1) := by rw [L_from x (by omega), show ((m : Int) + 1).toNat = m + 1 by omega]
    by_cases hmp : m < P
    · have hU : wU (L x) (L n) P Z m = (L x).take m := by
        unfold wU
        rw [wT_lo (L x) (L n) P Z m (by omega) (by omega), if_neg (by omega), List.append_nil]
      rw [hU] at hW hu hv
      have hb : b = ((L x).drop (m + 1)).take (P - m - 1) ++ L n ++ (L x).drop Z := by
        have e1 : (L x).take P = (L x).take m ++ 61 :: ((L x).drop (m + 1)).take (P - m - 1) := by
          have e2 : P = m + (1 + (P - m - 1)) := by omega
          conv => lhs; rw [hsp]
          rw [List.take_append, List.take_of_length_le (by rw [List.length_take]; omega)]
          have e3 : P - ((L x).take m).length = (P - m - 1) + 1 := by rw [List.length_take]; omega
          rw [e3, List.take_succ_cons]
        rw [hy, e1, List.append_assoc, List.append_assoc] at hW
        have h3 := List.append_cancel_left hW
        rw [List.cons_append] at h3
        rw [← (List.cons.inj h3).2, List.append_assoc]
      refine .inr ⟨m, (L x).take m, b, by omega, hu, hW, hv, fun h => ⟨L_inj hto, ?_⟩, fun h => absurd (by omega) h⟩
      refine L_inj (show L (shorten _ _ _) = b from ?_)
      have hl2 : (Txt.slice x (some ((m : Int) + 1)) none).length = (L x).length - (m + 1) := by rw [L_length, hfr, List.length_drop]
      generalize Txt.slice x (some ((m : Int) + 1)) none = x' at hfr hl2 ⊢
      rw [short_yes (x := x') (by rw [hl2]; omega), hb, L_to x' (by omega), L_from x' (by rw [hl2]; omega), hfr, hnn]
      have e4 : ((x'.length : Int) - ((P : Int) - m - 1) - Q) = (x.length : Int) - P - Q := by rw [hl2]; omega
      have e5 : ((x'.length : Int) - Q).toNat = Z - (m + 1) := by rw [hl2]; omega
      rw [e4, e5, List.drop_drop, show ((P : Int) - m - 1).toNat = P - m - 1 by omega, show m + 1 + (Z - (m + 1)) = Z by omega]
    · have hmz : Z ≤ m := by
        rcases Nat.lt_or_ge m Z with h | h
        · exact absurd ⟨by omega, by omega⟩ hp
        · exact h
      have hU : wU (L x) (L n) P Z m = (L x).take P ++ L n ++ ((L x).take m).drop Z := by
        unfold wU
        rw [hT m (by omega) (by omega), if_neg (by omega), List.append_nil]
      rw [hU] at hW hu hv
      have hb : b = (L x).drop (m + 1) := by
        have e1 : (L x).drop Z = ((L x).take m).drop Z ++ 61 :: (L x).drop (m + 1) := by
          conv => lhs; rw [hsp]
          rw [List.drop_append_of_le_length (by rw [List.length_take]; omega)]
        rw [hy, e1, List.append_assoc, List.append_assoc, List.append_assoc] at hW
        have h3 := List.append_cancel_left (List.append_cancel_left (List.append_cancel_left hW))
        exact (List.cons.inj h3).2.symm
      refine .inr ⟨m, _, b, by omega, hu, hW, hv, fun h => absurd h (by omega), fun h => ⟨?_, L_inj (show L _ = b by rw [hfr, hb])⟩⟩
      refine L_inj (show L (shorten _ _ _) = (L x).take P ++ L n ++ ((L x).take m).drop Z from ?_)
      have hl2 : (Txt.slice x none (some (m : Int))).length = m := by rw [L_length, hto, List.length_take]; omega
      generalize Txt.slice x none (some (m : Int)) = x' at hto hl2 ⊢
      rw [short_yes (x := x') (by rw [hl2]; omega), L_to x' (by omega), L_from x' (by rw [hl2]; omega), hto, hnn]
      have e4 : ((x'.length : Int) - P - ((Q : Int) - x.length + m)) = (x.length : Int) - P - Q := by rw [hl2]; omega
      have e5 : ((x'.length : Int) - ((Q : Int) - x.length + m)).toNat = Z := by rw [hl2]; omega
      rw [e4, e5, List.take_take, show min (P : Int).toNat m = P by omega]
theorem turn_law (X : Int) : TurnLaw (lineOf X) (X.fmod 12) ((X.fdiv 12).fmod 12) := by
  have p0 : 0 ≤ X.fmod 12 := fmod_lo _ (by decide)
  have p1 : X.fmod 12 < 12 := fmod_hi _ (by decide)
  have q0 : 0 ≤ (X.fdiv 12).fmod 12 := fmod_lo _ (by decide)
  have q1 : (X.fdiv 12).fmod 12 < 12 := fmod_hi _ (by decide)
  obtain ⟨h1, h2⟩ := line_ok X
  obtain ⟨P, hP⟩ : ∃ P : Nat, X.fmod 12 = P := ⟨(X.fmod 12).toNat, by omega⟩
  obtain ⟨Q, hQ⟩ : ∃ Q : Nat, (X.fdiv 12).fmod 12 = Q := ⟨((X.fdiv 12).fmod 12).toNat, by omega⟩
  have hP' : P < 12 := by omega
  have hQ' : Q < 12 := by omega
  rw [hP, hQ]
  by_cases hN : 12 < ((lineOf X).length : Int) - P - Q
  · exact turn_note _ P Q hP' hQ' h1 h2 hN
  · exact turn_plain _ P Q hP' hQ' h1 h2 hN
end Mine
end
section
open PySem PySem.W PyProof.Rows
set_option Elab.async false
set_option maxRecDepth 100000
set_option maxHeartbeats 4000000
namespace Mine
open PySem.Calls
theorem line_callE {ln : PySem.Str} {x : Int} (e : ln = lineOf x) (w : World) (mean : ExcName → Option Value) (mg mb : PySem.Str → Option Value) (dp un : Nat) (gd : Option (List Code)) (cn : PySem.Str) (cs : Scope) (a : Addr) (ccd : Value) (cl : List (PySem.Str × Addr)) (outer : List Env) (A₀ : Around) (base h₀ : Heap) (L₀ : Addr) (m₀ : PySem.Str → Option Value) (news : List (Addr × Obj)) (s : Shared) (Q E : Value → Shared → Prop)
    (B : Below A₀ base outer h₀) (F : Fr h₀ L₀ s.heap m₀) (X : (hd.heap_39 w.params).In h₀) (N : News h₀ L₀ s.heap news) (T : Top hd.view_39 (looseW hd.view_39 [Str.ofString "_tuplegetter", Str.ofString "Pair"]) mean mg mb h₀) (hcs : cs.kind = .function)
    (hdp : dp + 1 < recursionLimit) (hun : un + 8 < cLine) (tx : Tok)
    (hret : ∀ t h' tk', Fr h₀ L₀ h' m₀ → News h₀ L₀ h' news → Q (.str ln t) { s with heap := h', toks := tk' }) :
    wpAny (model PySem.Challenge.rw_il0123_01.row.prog w) (ktrTop dp un gd cn cs L₀ a ccd cl outer) (call (.ref 179) [.int x tx]) Q E s :=
  line_call w mean mg mb dp un gd cn cs a ccd cl outer A₀ base h₀ L₀ m₀ news s Q E B F X N T hcs hdp hun x tx (e ▸ hret)
section
variable {prog : Program} {w : World} {A : Around} {R : Result → Shared → Prop} {s : Shared} {name : PySem.Str} {params : Arguments} {body : List Stmt} {scope : Scope} {dV kV pm cd doc : Value} {a : Addr} {o : Obj} {args : Args} {binds : List (PySem.Str × Value)}
theorem call_fullC (hroom : A.depth < recursionLimit) (ho : s.heap.get? a = some o) (hdata : o.data = .func { docDef name params body scope pm cd doc with defaults := dV, kwdefaults := kV }) (hlim : s.heap.NoLimit) (hcd : s.heap.CodeRec cd name)
    (hbind : BindsTo s { docDef name params body scope pm cd doc with defaults := dV, kwdefaults := kV } args binds) (hloc : ∀ x ∈ binds, scope.names.lookup x.1 = some .local)
    (h : ∀ h₁, Fr s.heap s.heap.objs.size h₁ (fun x => binds.reverse.lookup x) →
      wpC (model prog w) (A.deeper (envOf name scope s.heap.objs.size a cd)) (execs body (envOf name scope s.heap.objs.size a cd))
        (fun f s' => R (.ok (.ret (match f with | .ret v => v | _ => .none))) s')
        (fun e s' => wpAny (model prog w) (A.deeper (envOf name scope s.heap.objs.size a cd)) (leaving (envOf name scope s.heap.objs.size a cd) e) (fun _ s'' => R (.error e) s'') (fun e' s'' => R (.error e') s'') s')
        { s with heap := h₁, toks := s.toks + binds.length })
    (hco : scope.isCoroutine = false) (hgen : scope.isGenerator = false) (hk : scope.kind = .function) (hcell : ∀ x ∈ scope.names, x.2 ≠ .cell) : codeC (model prog w) A (.call (.ref a) args) R s :=
  codeC_call_def hroom ho hdata hlim hcd rfl hbind hcell hloc (fun h₁ hns hkeep => h h₁ ⟨hns, hkeep, Nat.le_refl _⟩) hco hgen hk
end
theorem wpC_enter {M : Model} {A : Around} {s : Shared} {f : Value} {pos : List Value} {kw : List (PySem.Str × Value)} {c : ClaimW} {cl : PySem.Str → Option Addr} {mean : ExcName → Option Value} {args : List WData} {s₁ : Shared}
    (h : codeC M A (.call f ⟨pos, kw⟩) (GoodWG c cl mean args s₁) s) : wpC M A (PySem.call f pos kw) (fun v s' => GoodWG c cl mean args s₁ (.ok (.ret v)) s') (fun e s' => GoodWG c cl mean args s₁ (.error e) s') s :=
  wpC_call (codeC_mono h fun res s' g => by rcases g.1 with ⟨v, _, _, rfl, _⟩ | ⟨e, _, _, rfl, _⟩ <;> exact g)
section
open PySem.Calls
variable {prog : Program} {w : World} {A : Around} {E : Value → Shared → Prop} {s : Shared} {h₀ : Heap} {L₀ : Addr} {st : Stmt} {env : Env} {Q : Flow → Shared → Prop}
def Joined (h₀ : Heap) (L₀ : Addr) (s : Shared) (x y : PySem.Str) (sv : Value) (p : Addr × Obj) (f : Flow) (s' : Shared) : Prop :=
  f = .next ∧ ∃ h' tk m' X tX, s' = { s with heap := h', toks := tk } ∧ Fr h₀ L₀ h' m' ∧ m' x = some (.int X tX) ∧ m' y = some sv ∧ News h₀ L₀ h' [p]
theorem turn_join {x y : PySem.Str} {sv : Value} {p : Addr × Obj} {h : Heap} {m : PySem.Str → Option Value} (_F : Fr h₀ L₀ h (fun z => if z = y then some sv else m z)) (_N : News h₀ L₀ h [p]) (hgo : wpAny (model prog w) A (exec st env) (Joined h₀ L₀ s x y sv p) E s)
    (rest : ∀ h' tk m' X tX, Fr h₀ L₀ h' m' → m' x = some (.int X tX) → m' y = some sv → News h₀ L₀ h' [p] → Q .next { s with heap := h', toks := tk }) : wpAny (model prog w) A (exec st env) Q E s := by
  refine wpAny_mono hgo (fun f s' h => ?_) fun _ _ x => x
  obtain ⟨rfl, h', tk, m', X, tX, rfl, F', e1, e2, N'⟩ := h
  exact rest h' tk m' X tX F' e1 e2 N'
theorem Joined.mk {x y : PySem.Str} {sv : Value} {p : Addr × Obj} {h' : Heap} {tk : Nat} {m' : PySem.Str → Option Value} {X : Int} {tX : Tok} (F : Fr h₀ L₀ h' m') (e1 : m' x = some (.int X tX)) (e2 : m' y = some sv) (N : News h₀ L₀ h' [p]) : Joined h₀ L₀ s x y sv p .next { s with heap := h', toks := tk } :=
  ⟨rfl, h', tk, m', X, tX, rfl, F, e1, e2, N⟩
end
section
open PySem.Calls
variable {prog : Program} {w : World} {A : Around} {E : Value → Shared → Prop} {s : Shared} {h₀ : Heap} {L₀ : Addr} {st : Stmt} {env : Env} {Q : Flow → Shared → Prop} {m₁ : PySem.Str → Option Value} {news : List (Addr × Obj)} {a b : PySem.Str}
def CutEnd (h₀ : Heap) (L₀ : Addr) (s : Shared) (m₁ : PySem.Str → Option Value) (news : List (Addr × Obj)) (a b : PySem.Str) (f : Flow) (s' : Shared) : Prop :=
  f = .next ∧ ∃ h' tk D t u n, s' = { s with heap := h', toks := tk } ∧ Fr h₀ L₀ h' (fun y => if y = Str.ofString "cut" then some (.ref D) else m₁ y) ∧ News h₀ L₀ h' ((D, PySem.W.listOf (List.toArray [.str a t, .str b u]) n) :: news)
theorem CutEnd.mk {h' : Heap} {tk : Nat} {D : Addr} {t u : Tok} {n : Nat} (F : Fr h₀ L₀ h' (fun y => if y = Str.ofString "cut" then some (.ref D) else m₁ y)) (N : News h₀ L₀ h' ((D, PySem.W.listOf (List.toArray [.str a t, .str b u]) n) :: news)) : CutEnd h₀ L₀ s m₁ news a b .next { s with heap := h', toks := tk } :=
  ⟨rfl, h', tk, D, t, u, n, rfl, F, N⟩
theorem cut_join {h₁ : Heap} (_F : Fr h₀ L₀ h₁ m₁) (_N : News h₀ L₀ h₁ news) (a b : PySem.Str) (hgo : wpAny (model prog w) A (exec st env) (CutEnd h₀ L₀ s m₁ news a b) E s)
    (rest : ∀ h' tk D t u n, Fr h₀ L₀ h' (fun y => if y = Str.ofString "cut" then some (.ref D) else m₁ y) → News h₀ L₀ h' ((D, PySem.W.listOf (List.toArray [.str a t, .str b u]) n) :: news) → Q .next { s with heap := h', toks := tk }) : wpAny (model prog w) A (exec st env) Q E s := by
  refine wpAny_mono hgo (fun f s' h => ?_) fun _ _ x => x
  obtain ⟨rfl, h', tk, D, t, u, n, rfl, F', N'⟩ := h
  exact rest h' tk D t u n F' N'
end
theorem turn_end {h₀ : Heap} {L : Addr} {s : Shared} {y : PySem.Str} {sv : Value} {I : Addr} {o : Obj} {f : Flow} {h' : Heap} {tk : Nat} {m' : PySem.Str → Option Value} {news : List (Addr × Obj)} (hf : f = .next ∨ f = .cont) (F : Fr h₀ L h' m') (e : m' y = some sv) (N : News h₀ L h' news) (hm : (I, o) ∈ news) : TurnEnd h₀ L s y sv I o f { s with heap := h', toks := tk } :=
  ⟨hf, h', tk, m', rfl, F, e, fun p hp => by
    rcases List.mem_cons.mp hp with rfl | hp
    · exact N _ hm
    · cases hp⟩
section
open PySem.Calls
variable {prog : Program} {w : World} {A : Around} {E : Value → Shared → Prop} {s : Shared} {h₀ : Heap} {L : Addr} {m : PySem.Str → Option Value} {news : List (Addr × Obj)}
theorem sum_pick {D : Addr} {lo hi st : Option Int} {vs : List Value} {ns : List Int} {Q : Value → Shared → Prop} (F : Fr h₀ L s.heap m) (N : News h₀ L s.heap news) (hh : A.handled = none)
    (hm : (D, ({ cls := .type "list", data := .seq (slicePick vs.toArray lo hi st) } : Obj)) ∈ news) (hi' : IntsAre vs ns)
    (h : ∀ X h' tk t', Fr h₀ L h' m → News h₀ L h' news → Q (.int X t') { s with heap := h', toks := tk }) : wpAny (model prog w) A (call (.builtin "sum") [.ref D]) Q E s := by
  refine PyProof.Rows.LSm.sum_ints (vs := (slicePick vs.toArray lo hi st).toList) F N hh ?_ (hi'.pick lo hi st) fun h' tk t' F' N' => h _ h' tk t' F' N'
  rw [Array.toArray_toList]
  exact ⟨_, (N _ hm).1, rfl, ⟨_, rfl⟩⟩
theorem item_first {value slice : Expr} {D : Addr} {v : Value} {n : Nat} {u : Tok} {Q : Value → Shared → Prop} (N : News h₀ L s.heap news) (hm : (D, PySem.W.listOf (List.toArray [v]) n) ∈ news) (h : Q v s)
    (hs : subscripted slice false (.ref D) (.int 0 u) = operate [.ref D, .int 0 u] (getItem (.ref D) (.int 0 u)) := by with_unfolding_all rfl) : wpAny (model prog w) A (subscriptTail value slice (.ref D) (.int 0 u)) Q E s := by
  have hl : s.heap.IsList D (List.toArray [v]) := ⟨_, (N _ hm).1, rfl, ⟨_, rfl⟩⟩
  exact tail_any hl.typeIs slot_list_getitem.lookup (wpAny_getItem_list hl (by decide) (by decide) rfl h) hs
theorem menu_item {value slice : Expr} {D : Addr} {vs : List Value} {n k : Nat} {u : Tok} {Q : Value → Shared → Prop} (N : News h₀ L s.heap news) (hm : (D, PySem.W.listOf vs.toArray n) ∈ news) (hk : k < vs.length) (hv : ∀ v ∈ vs, ∃ X t, v = .int X t) (hz : vs.length < 100)
    (h : ∀ X t, Q (.int X t) s) (hs : subscripted slice false (.ref D) (.int (k : Int) u) = operate [.ref D, .int (k : Int) u] (getItem (.ref D) (.int (k : Int) u)) := by with_unfolding_all rfl) :
    wpAny (model prog w) A (subscriptTail value slice (.ref D) (.int (k : Int) u)) Q E s := by
  have hl : s.heap.IsList D vs.toArray := ⟨_, (N _ hm).1, rfl, ⟨_, rfl⟩⟩
  obtain ⟨X, t, e⟩ := hv vs[k] (List.getElem_mem hk)
  refine tail_any hl.typeIs slot_list_getitem.lookup (wpAny_getItem_list hl (by omega) (by omega) (by simp [hk]; exact e) (h X t)) hs
end
theorem go1 : PySem.Challenge.rw_il0123_01.Holds := by
  refine hd ⟨?p1, ?p2⟩
  case p1 =>
    intro args h
    exact ⟨fun cls => rfl, postW_of rfl (w_eq_bool (w_res rfl) w_lit) rfl⟩
  case p2 =>
    k_with_none
    k_with "compareOp NotEq ref ref" => (k_here; (with_reducible show wpAny _ _ (compareOp CmpOp.NotEq (Value.ref _) (Value.ref _)) _ _ _); k_dflt (refine' ne_two ?n2N ?n2a ?n2b ?n2x ?n2y ?n2u ?_; (case n2N => k_asm); (case n2a => k_mem); (case n2b => k_mem); (case n2x => assumption); (case n2y => assumption); (case n2u => ktr_units)))
    k_with "CompSrc" => (k_here; k_dflt (refine' comp_two ?ctH ?ctF ?ctN ?ctM ?ctA ?ctB ?_ ?_; (case ctH => rfl); (case ctF => k_asm); (case ctN => k_asm); (case ctM => k_mem); (case ctA => omega); (case ctB => omega)))
    k_with "EltEnd" => (k_dflt (exact EltEnd.mk (by k_asm) (by assumption)))
    k_with "exec If" => (k_here; (with_reducible show wpAny _ _ (exec (Stmt.If (Expr.Compare _ [CmpOp.Lt] _ _) _ _ _) _) _ _ _); (fail_if_success (rename Mark 4 => mK9)); refine Stop.intro ?_)
    k_with "subscriptTail Name Constant ref int" => (k_here; k_dflt (with_unfolding_all refine' item_first ?N ?m ?_ ?s; (case N => k_asm); (case m => k_mem); (case s => with_unfolding_all rfl)))
    k_with "compareOp Eq ref ref" => (k_here; (with_reducible show wpAny _ _ (compareOp CmpOp.Eq (Value.ref _) (Value.ref _)) _ _ _); k_dflt ((rename News _ _ _ _ => eN'); first | refine eq_nil eN' (by k_mem) (by k_mem) (by ktr_units) ?_ | refine eq_one eN' (by k_mem) (by k_mem) (by ktr_units) ?_))
    k_with "call ref" => (k_here; (with_reducible show wpAny _ _ (call (Value.ref 186) _) _ _ _); refine Stop.intro ?_)
    k_with "call ref" => (k_here; (with_reducible show wpAny _ _ (call (Value.ref 165) _) _ _ _); k_dflt (refine' shorten_call _ _ _ _ _ _ _ _ _ _ _ _ _ _ _ _ _ _ _ _ _ _ ?scB ?scF ?scX ?scN ?scT ?schcs ?schdp ?schun _ _ _ _ _ _ ?schx ?schp0 ?schp1 ?schq0 ?schq1 ?_; (case scB => k_asm); (case scF => k_asm); (case scX => k_asm); (case scN => k_asm); (case scT => k_asm); (case schcs => rfl); (case schdp => decide); (case schun => decide); (case schx => omega); (case schp0 => omega); (case schp1 => omega); (case schq0 => omega); (case schq1 => omega); k_whole); intro t' h' tk' F' N'; k_sweep)
    k_with "call ref" => (k_here; (with_reducible show wpAny _ _ (call (Value.ref 172) _) _ _ _); k_dflt (refine' bare_call _ _ _ _ _ _ _ _ _ _ _ _ _ _ _ _ _ _ _ _ _ _ ?bcB ?bcF ?bcX ?bcN ?bcT ?bchcs ?bchdp ?bchun _ _ ?bchx ?_; (case bcB => k_asm); (case bcF => k_asm); (case bcX => k_asm); (case bcN => k_asm); (case bcT => k_asm); (case bchcs => rfl); (case bchdp => decide); (case bchun => decide); (case bchx => omega); k_whole); intro t' h' tk' F' N'; k_sweep)
    k_with "call ref" => (k_here; (with_reducible show wpAny _ _ (call (Value.ref 179) _) _ _ _); k_dflt (refine' line_callE ?lce _ _ _ _ _ _ _ _ _ _ _ _ _ _ _ _ _ _ _ _ _ _ ?lcB ?lcF ?lcX ?lcN ?lcT ?lchcs ?lchdp ?lchun _ ?_; (case lce => assumption); (case lcB => k_asm); (case lcF => k_asm); (case lcX => k_asm); (case lcN => k_asm); (case lcT => k_asm); (case lchcs => rfl); (case lchdp => decide); (case lchun => decide); k_whole); intro t' h' tk' F' N'; k_sweep)
    k_with "call builtin:sum" => (k_here; k_dflt (refine' sum_pick ?F ?N ?hh ?m ?i ?_; (case F => k_asm); (case N => k_asm); (case hh => rfl); (case m => k_mem); (case i => assumption); k_whole); intro X' h' tk' t' F' N'; k_sweep)
    k_with "subscriptTail" => (k_here; (with_reducible show wpAny _ _ (subscriptTail (Expr.List _ _) (Expr.Name _ _) (Value.ref _) (Value.int _ _)) _ _ _); k_dflt (with_unfolding_all refine' menu_item ?N ?m ?k ?v ?z ?_ ?s; (case N => k_asm); (case m => k_mem); (case k => (simp only [List.length_cons, List.length_nil]; omega)); (case v => simp); (case z => (simp only [List.length_cons, List.length_nil]; omega)); (case s => with_unfolding_all rfl)); intro _ _)
    k_with "pyIter ref" => (refine Stop.intro ?_)
    w_top off
    k_fill
    intro w s₀ s₁ mg mb G Y fa o pm cd doc dV kV ho hd1 hcd hD hmg hg args vals as hpre hlay hrd hwl hlo
    have KX := kIn_of Y
    have X := (Ground.X G).1
    have V := (Ground.X G).2
    refine Ground.open G ?_
    intro T B D TE TW
    clear D
    wrow_args hpre hlay hrd hwl hlo
    obtain ⟨_, _, M⟩ := bmod_of_top T
    rename (Heap.IsList _ _ _) => hL
    rename (IntsAre _ _) => hI
    refine wpC_enter ?_
    have K0 := below_caller (Top.heap T)
    have hDe := Dflts.none hD rfl
    subst hDe
    refine call_fullC (by decide) ho hd1 (Top.nolimit T) hcd (BindsTo.of_eq rfl) (locs rfl) (fun h₁ F => ?_) rfl rfl rfl (by decide)
    w_binds F
    have N0 := (News.nil : News _ _ _ []).at F
    clear ho hd1 hcd hD hmg V
    dsimp only
    refine wpC_execs_cons (wpC_For ?_ (fun x => rfl))
    k_steps
    unfold Stop
    (rename IsRange _ _ _ _ _ _ _ _ => R1); (rename Fr _ _ _ _ => F1)
    refine wpAny_pyIter_range R1 (by decide) ?_
    have F2 := F1.push (itObj 0 6)
    have N2 := (News.nil : News _ _ _ []).push F1 (itObj 0 6)
    refine' law_loop (x := Str.ofString "k") (y := Str.ofString "script") (N := 6) rfl (by decide +kernel) rfl rfl ?turn ?done 6 0 _ _ _ rfl F2 rfl N2
    case done =>
      intro h tk m F3
      dsimp only
      refine wpC_of ?_
      k_steps
      exact ⟨.inl ⟨_, _, _, rfl, fun cls => rfl, .bool true, postW_of rfl (w_eq_bool (w_res rfl) w_lit) rfl, fun _ => ⟨List.nodup_nil, fun _ ha => by cases ha⟩⟩, .of_keep F3.keep, rfl, .of_eq hg⟩
    case turn =>
      clear F1 F2 N2 R1
      intro k t h tk m hk F3 hm N3
      replace N3 : News s₁.heap s₁.heap.objs.size h _ := N3
      replace F3 : Fr s₁.heap s₁.heap.objs.size h _ := F3
      replace F3 := fr_at F3 (k := Str.ofString "script") (by show (if _ then _ else _) = _; rw [if_neg (by decide +kernel)]; exact hm)
      with_reducible refine wpC_execs_cons ?_
      with_reducible refine wpC_of ?_
      with_reducible refine turn_join (x := Str.ofString "x") (y := Str.ofString "script") F3 N3 ?_ ?_
      · k_steps
        (rename Fr _ _ _ _ => F4); (rename News _ _ _ _ => N4)
        exact Joined.mk F4 rfl rfl (news_sub N4 (by intro p hp; rcases List.mem_cons.mp hp with rfl | hp; k_mem; cases hp))
      · intro h4 tk4 m4 X4 tX F4 e1 e2 N4
        dsimp only
        clear F3 N3 hm
        replace F4 := fr_at (fr_at F4 e1) (k := Str.ofString "script") (by show (if _ then _ else _) = _; rw [if_neg (by decide +kernel)]; exact e2)
        clear e1 e2
        obtain ⟨ln, hln⟩ : ∃ ln, ln = lineOf X4 := ⟨_, rfl⟩
        with_reducible refine wpC_execs_cons ?_
        with_reducible refine wpC_of ?_
        k_steps
        with_reducible refine wpC_execs_cons ?_
        with_reducible refine wpC_of ?_
        k_steps
        with_reducible refine wpC_execs_cons ?_
        with_reducible refine wpC_of ?_
        k_steps
        have TLaw : TurnLaw ln (X4.fmod 12) ((X4.fdiv 12).fmod 12) := hln ▸ turn_law X4
        obtain ⟨hl, hy, p0, p1, q0, q1, TLaw⟩ := TLaw
        with_reducible refine wpC_execs_cons ?_
        with_reducible refine wpC_of ?_
        k_steps
        unfold Stop
        k_dflt (refine' walk_call ?wkw ?wkmean ?wkmg ?wkmb ?wkdp ?wkun ?wkgd ?wkcn ?wkcs ?wka ?wkccd ?wkcl ?wkouter ?wkA0 ?wkbase ?wkh0 ?wkL0 ?wkm0 ?wknews ?wks ?wkQ ?wkE ?wkB ?wkF ?wkX ?wkN ?wkT ?wkhcs ?wkhdp ?wkhun ?wkx ?wktx ?wkp ?wktp ?wkq ?wktq ?wkhx ?wkhp0 ?wkhp1 ?wkhq0 ?wkhq1 ?wkh1 ?wkh2)
        case wkB => k_asm
        case wkF => k_asm
        case wkX => k_asm
        case wkN => k_asm
        case wkT => k_asm
        case wkhcs => rfl
        case wkhdp => decide
        case wkhun => decide
        case wkhx => omega
        case wkhp0 => omega
        case wkhp1 => omega
        case wkhq0 => omega
        case wkhq1 => omega
        case wkh1 =>
          intro pp hpp hl1 D lp lm t1 h5 tk5 F5 N5
          simp only [List.cons_append, List.nil_append] at N5
          rcases TLaw with ⟨e, hs⟩ | ⟨m9, a9, b9, e, _⟩
          · rw [e] at hpp
            obtain rfl : pp = shorten ln (X4.fmod 12) ((X4.fdiv 12).fmod 12) := by injection hpp with _ h; injection h
            clear hpp
            k_steps
            with_reducible refine wpC_execs_cons ?_
            with_reducible refine wpC_Assign_Name ?_ ?hsw
            case hsw => rfl
            with_reducible refine wpC_Call ?_ ?hec
            case hec => rfl
            k_steps
            k_dflt (refine' callWith_KC ?k1 ?k2 ?_ ?k3; (case k1 => k_asm); (case k2 => k_is); (case k3 => rfl); k_whole)
            k_steps
            with_reducible refine wpC_call ?_
            (try dsimp only [List.nil_append])
            k_dflt (refine' told_call ?taw ?tamean ?tamg ?tamb ?tadp ?taun ?tagd ?tacn ?tacs ?taa ?taccd ?tacl ?taA0 ?tabase ?tah0 ?taL0 ?tam0 ?tanews ?tas ?taR ?taB ?taF ?taX ?taN ?taT ?taXB ?taTB ?tahcs ?tahdp ?tahun ?tax ?tatx ?tahx ?tahsp0 ?tah1 ?tah2)
            case taB => k_asm
            case taF => k_asm
            case taX => k_asm
            case taN => k_asm
            case taT => k_asm
            case taXB => k_asm
            case taTB => k_asm
            case tahcs => rfl
            case tahdp => decide
            case tahun => decide
            case tahx => omega
            case tahsp0 => exact .inl ⟨_, hs⟩
            case tah2 =>
              intro y1 z1 hyz
              rw [hs] at hyz
              cases hyz
            case tah1 =>
              intro y1 hy1 r h6 tk6 F6 N6
              dsimp only
              refine wpC_of ?_
              k_steps
              with_reducible refine wpC_of ?_
              k_steps
              (rename Fr _ _ _ _ => F8); (rename News _ _ _ _ => N8)
              exact turn_end (.inr rfl) F8 rfl N8 (by k_mem)
          · rw [e] at hpp
            injection hpp with h; cases h
        case wkh2 =>
          intro m9 pp qq hpp hl1 hl2 D lp lm t1 u1 tm1 h5 tk5 F5 N5
          simp only [List.cons_append, List.nil_append] at N5
          rcases TLaw with ⟨e, hs⟩ | ⟨m8, a9, b9, e, la, lb, hs, hba, hbb, sa, sb, hm0, hm1, hc1, hc2⟩
          · rw [e] at hpp
            injection hpp with h; cases h
          · rw [e] at hpp
            obtain ⟨rfl, rfl, rfl⟩ : m9 = m8 ∧ pp = a9 ∧ qq = b9 := by injection hpp with h h'; injection h with h; injection h' with h1 h2; exact ⟨h, h1, h2⟩
            clear hpp
            have sl1 := Txt.slice_le ln (some (m9 + 1)) none
            have sl2 := Txt.slice_le ln none (some m9)
            k_steps
            with_reducible refine wpC_execs_cons ?_
            with_reducible refine wpC_Assign_Name ?_ ?hsw
            case hsw => rfl
            with_reducible refine wpC_Call ?_ ?hec
            case hec => rfl
            k_steps
            k_dflt (refine' callWith_KC ?k1 ?k2 ?_ ?k3; (case k1 => k_asm); (case k2 => k_is); (case k3 => rfl); k_whole)
            k_steps
            with_reducible refine wpC_call ?_
            (try dsimp only [List.nil_append])
            k_dflt (refine' told_call ?tbw ?tbmean ?tbmg ?tbmb ?tbdp ?tbun ?tbgd ?tbcn ?tbcs ?tba ?tbccd ?tbcl ?tbA0 ?tbbase ?tbh0 ?tbL0 ?tbm0 ?tbnews ?tbs ?tbR ?tbB ?tbF ?tbX ?tbN ?tbT ?tbXB ?tbTB ?tbhcs ?tbhdp ?tbhun ?tbx ?tbtx ?tbhx ?tbhsp0 ?tbh1 ?tbh2)
            case tbB => k_asm
            case tbF => k_asm
            case tbX => k_asm
            case tbN => k_asm
            case tbT => k_asm
            case tbXB => k_asm
            case tbTB => k_asm
            case tbhcs => rfl
            case tbhdp => decide
            case tbhun => decide
            case tbhx => omega
            case tbhsp0 => exact .inr ⟨_, _, hs⟩
            case tbh1 =>
              intro y1 hyz
              rw [hs] at hyz
              cases hyz
            case tbh2 =>
              intro y1 z1 hyz r t2 t3 n6 h6 tk6 F6 N6
              rw [hs] at hyz
              obtain ⟨rfl, rfl⟩ : _ = y1 ∧ _ = z1 := by injection hyz with h h'; injection h' with h'; exact ⟨h, h'⟩
              clear hyz
              rw [hba, hbb] at N6
              clear hba hbb hs e
              dsimp only
              refine wpC_of ?_
              k_steps
              with_reducible refine wpC_of ?_
              k_steps
              unfold Stop
              (rename Fr _ _ _ _ => F7); (rename News _ _ _ _ => N7)
              refine cut_join F7 N7 pp qq ?_ ?_
              · have mk4 : Mark 4 := ⟨⟩
                k_steps
                · (rename Fr _ _ _ _ => F8); (rename News _ _ _ _ => N8)
                  obtain ⟨c1, c2⟩ := hc1 (by assumption)
                  rw [c1, c2] at N8
                  exact CutEnd.mk F8 N8
                · (rename Fr _ _ _ _ => F8); (rename News _ _ _ _ => N8)
                  obtain ⟨c1, c2⟩ := hc2 (by assumption)
                  rw [c1, c2] at N8
                  exact CutEnd.mk F8 N8
              · clear hc1 hc2 sl1 sl2 F7 N7
                intro h9 tk9 D9 t9 u9 n9 F9 N9
                dsimp only
                k_steps
                (rename Fr _ _ _ _ => F8); (rename News _ _ _ _ => N8)
                exact turn_end (.inl rfl) F8 rfl N8 (by k_mem)
end Mine
end
open PySem PySem.W PyProof.Rows
theorem PySem.Challenge.cw_il0123_01_holds : PySem.Challenge.rw_il0123_01.Holds :=
  Mine.go1
