import PyProof.Rows.All
import Wide.All
import OpenK.AllK
import Wide.FinOn
import PyProof.FactsAll.bool_2
import PyProof.FactsAll.bool_3
import PyProof.ListIndexOut
import PySem.Challenge.RW_dv0004_01
set_option Elab.async false
section
open PySem PySem.W PyProof.Rows
namespace Mine
set_option maxRecDepth 100000 in
set_option maxHeartbeats 8000000 in
open_top hd for PySem.Challenge.rw_dv0004_01
end Mine
end
local macro_rules | `(tactic| walk_at "my move") => `(tactic| (first | (k_unfold; (try dsimp only)) | walk1 | (dsimp only; walk1) | (leave1; walk_say "STEP leave1"; try dsimp only)))
theorem Mine.fresh_SL : True := by
  w_top off
  first | walk1 | trivial
section
open PySem PySem.W PySem.Calls PyProof.Rows
namespace Mine
/-- a text by its signs -/
abbrev sx (l : List Nat) : Str := ⟨l.toArray⟩
theorem sx_of (x : Str) : x = sx x.cps.toList := by cases x; simp
theorem sx_app (a b : List Nat) : sx a ++ sx b = sx (a ++ b) := Str.ext' (by rw [Str.cps_append]; simp)
theorem sx_inj {a b : List Nat} : sx a = sx b ↔ a = b := by simp
theorem sx_beq (a b : List Nat) : (sx a == sx b) = decide (a = b) := by
  by_cases h : a = b
  · subst h; simp
  · simp [h]
theorem sx_bne (a b : List Nat) : (sx a != sx b) = decide (a ≠ b) := by
  show (!(sx a == sx b)) = _
  rw [sx_beq]; by_cases h : a = b <;> simp [h]
theorem sx_len (a : List Nat) : (sx a).length = a.length := by simp [Str.length]
theorem item0 (c : Nat) (l : List Nat) : Txt.item (sx (c :: l)) 0 = sx [c] := by
  unfold Txt.item Txt.charAt
  rw [StrLaws.seqIndex_nonneg (Int.le_refl 0) (by rw [sx_len]; simp)]
  simp
theorem item_at {l : List Nat} {i : Int} {c : Nat} (h0 : 0 ≤ i) (h : l[i.toNat]? = some c) : Txt.item (sx l) i = sx [c] := by
  unfold Txt.item Txt.charAt
  have hl : i.toNat < l.length := by
    rcases Nat.lt_or_ge i.toNat l.length with q | q
    · exact q
    · rw [List.getElem?_eq_none q] at h; cases h
  rw [StrLaws.seqIndex_nonneg h0 (by rw [sx_len]; omega)]
  simp [h]
theorem slice_eq (x : Str) (l u : Option Int) : Txt.slice x l u = StrLaws.sliceText x l u := rfl
theorem slice_ss {l : List Nat} {i j : Int} (h0 : 0 ≤ i) (h1 : i ≤ j) (h2 : j ≤ l.length) : Txt.slice (sx l) (some i) (some j) = sx ((l.drop i.toNat).take (j - i).toNat) := by
  rw [slice_eq, StrLaws.sliceText_plain ⟨h0, h1, by simpa using h2⟩]
theorem slice_from {l : List Nat} {i : Int} (h0 : 0 ≤ i) (h1 : i ≤ l.length) : Txt.slice (sx l) (some i) none = sx (l.drop i.toNat) := by
  rw [slice_eq, StrLaws.sliceText_from ⟨h0, by simpa using h1⟩]
  rw [List.take_of_length_le (by rw [List.length_drop]; omega)]
theorem clip_hi {n j : Int} (h : n ≤ j) (h0 : 0 ≤ n) : max 0 (min j n) = max 0 (min n n) := by omega
theorem slice_to {l : List Nat} {j : Int} (h0 : 0 ≤ j) : Txt.slice (sx l) none (some j) = sx (l.take j.toNat) := by
  by_cases h : j ≤ l.length
  · rw [slice_eq, StrLaws.sliceText_to ⟨h0, by simpa using h⟩]
    simp
  · have e : Txt.slice (sx l) none (some j) = Txt.slice (sx l) none (some ((sx l).length : Int)) := by
      have h1 : ¬ (j < 0) := by omega
      have h2 : ¬ (((sx l).length : Int) < 0) := by omega
      unfold Txt.slice
      have q : Builtin.Str.strSliceIndices none (some j) 1 (sx l).length = Builtin.Str.strSliceIndices none (some ((sx l).length : Int)) 1 (sx l).length := by
        unfold Builtin.Str.strSliceIndices
        simp only [h1, h2, if_false, show (1 : Int) > 0 by decide, if_true]
        rw [clip_hi (n := ((sx l).length : Int)) (by rw [sx_len]; omega) (by omega)]
      rw [q]
    rw [e, slice_eq, StrLaws.sliceText_to ⟨by omega, by rw [sx_len]; simp⟩, sx_len]
    simp only [List.drop_zero]
    rw [show ((l.length : Int) - 0).toNat = l.length by omega]
    rw [List.take_length, List.take_of_length_le (by omega)]

/-- one sign for a text -/
def put1 (c : Nat) (z : List Nat) (k : Nat) : List Nat := if k = c then z else [k]
theorem flat_free {c : Nat} {z : List Nat} : ∀ {l : List Nat}, c ∉ l → l.flatMap (put1 c z) = l
  | [], _ => rfl
  | k :: r, h => by
    rw [List.flatMap_cons, flat_free (fun q => h (List.mem_cons_of_mem _ q))]
    have : k ≠ c := fun q => h (q ▸ List.mem_cons_self)
    simp [put1, this]
theorem join_flat (c : Nat) (z : List Nat) : ∀ parts : List Str, (∀ p ∈ parts, c ∉ p.cps.toList) →
    (Str.join (sx [c]) parts).cps.toList.flatMap (put1 c z) = (Str.join (sx z) parts).cps.toList
  | [], _ => rfl
  | [x], h => flat_free (h x List.mem_cons_self)
  | x :: y :: r, h => by
    have ih := join_flat c z (y :: r) (fun p hp => h p (List.mem_cons_of_mem _ hp))
    show (x ++ sx [c] ++ Str.join (sx [c]) (y :: r)).cps.toList.flatMap (put1 c z) = (x ++ sx z ++ Str.join (sx z) (y :: r)).cps.toList
    rw [Str.cps_append, Str.cps_append, Str.cps_append, Str.cps_append]
    simp only [Array.toList_append, List.flatMap_append, ih]
    rw [flat_free (h x List.mem_cons_self)]
    simp [put1]
theorem replace_flat (x : List Nat) (c : Nat) (z : List Nat) : Txt.replace (sx x) (sx [c]) (sx z) = sx (x.flatMap (put1 c z)) := by
  have h1 := StrLaws.replace_one (sx x) (sx z) c
  have h2 := join_flat c z (Txt.split (sx x) (sx [c])) (StrLaws.split_free (sx x) c)
  rw [StrLaws.join_split] at h2
  rw [show Txt.replace (sx x) (sx [c]) (sx z) = Str.join (sx z) (Txt.split (sx x) (sx [c])) from h1]
  rw [sx_of (Str.join (sx z) (Txt.split (sx x) (sx [c]))), ← h2]

/-- the text that the cell bears for a sign -/
def e1 (c : Nat) : List Nat := if c = 38 then [38, 97, 109, 112, 59] else if c = 60 then [38, 108, 116, 59] else if c = 62 then [38, 103, 116, 59] else if c = 32 then [38, 110, 98, 115, 112, 59] else [c]
def esc (x : List Nat) : List Nat := x.flatMap e1
theorem esc_nil : esc [] = [] := rfl
theorem esc_cons (c : Nat) (r : List Nat) : esc (c :: r) = e1 c ++ esc r := rfl
theorem esc_app (a b : List Nat) : esc (a ++ b) = esc a ++ esc b := by simp [esc]
theorem flat4 (x : List Nat) :
    (((x.flatMap (put1 38 [38, 97, 109, 112, 59])).flatMap (put1 62 [38, 103, 116, 59])).flatMap (put1 60 [38, 108, 116, 59])).flatMap (put1 32 [38, 110, 98, 115, 112, 59]) = esc x := by
  induction x with
  | nil => rfl
  | cons c r ih =>
    rw [esc_cons, List.flatMap_cons, List.flatMap_append, List.flatMap_append, List.flatMap_append, ih]
    congr 1
    by_cases h1 : c = 38
    · subst h1; decide
    · by_cases h2 : c = 62
      · subst h2; decide
      · by_cases h3 : c = 60
        · subst h3; decide
        · by_cases h4 : c = 32
          · subst h4; decide
          · simp [put1, e1, h1, h2, h3, h4]
theorem e1_len (c : Nat) : 1 ≤ (e1 c).length ∧ (e1 c).length ≤ 6 := by
  unfold e1
  repeat' split
  all_goals simp
theorem esc_len (x : List Nat) : x.length ≤ (esc x).length ∧ (esc x).length ≤ 6 * x.length := by
  induction x with
  | nil => simp [esc]
  | cons c r ih =>
    rw [esc_cons, List.length_append, List.length_cons]
    have := e1_len c
    omega
/-- strip at the right, as a list -/
def rst (p : Nat → Bool) (l : List Nat) : List Nat := (l.reverse.dropWhile p).reverse
theorem tw_dw (p : Nat → Bool) (l : List Nat) : (l.takeWhile p).length + (l.dropWhile p).length = l.length := by
  conv => rhs; rw [← List.takeWhile_append_dropWhile (p := p) (l := l)]
  rw [List.length_append]
theorem rst_take (p : Nat → Bool) (l : List Nat) : rst p l = l.take (l.length - (l.reverse.takeWhile p).length) := by
  have h : l.reverse.takeWhile p ++ l.reverse.dropWhile p = l.reverse := List.takeWhile_append_dropWhile
  have h2 : l = rst p l ++ (l.reverse.takeWhile p).reverse := by
    have := congrArg List.reverse h
    rw [List.reverse_append, List.reverse_reverse] at this
    exact this.symm
  have h3 := tw_dw p l.reverse
  rw [List.length_reverse] at h3
  have h4 : (rst p l).length = l.length - (l.reverse.takeWhile p).length := by
    unfold rst; rw [List.length_reverse]; omega
  rw [← h4]
  conv => rhs; rw [h2]
  rw [List.take_append_of_le_length (by rw [← h2]; exact Nat.le_refl _), ← h2, List.take_length]
theorem rstrip_eq (l : List Nat) : Txt.rstrip (sx l) = sx (rst Unicode.isSpace l) := by
  unfold Txt.rstrip Txt.stripBy
  have e1 : stripLo Unicode.isSpace false (sx l) = 0 := rfl
  have e2 : stripHi Unicode.isSpace true (sx l) 0 = l.length - (l.reverse.takeWhile Unicode.isSpace).length := by
    unfold stripHi
    simp [sx_len]
  split
  · rename_i h
    unfold stripSame at h
    rw [e1, e2, sx_len] at h
    have h' : l.length - (l.reverse.takeWhile Unicode.isSpace).length = l.length := by simpa using h
    rw [rst_take, h', List.take_length]
  · unfold PySem.stripped
    rw [e1, e2, sx_of (Builtin.Str.strSub _ _ _), StrLaws.strSub_toList, rst_take]
    simp
theorem fresh_TK : True := by
  w_top off
  first | walk1 | trivial
/-- the counter of tokens never falls -/
theorem runs_toks {M : Model} {Γ : Ctx} {p : Pos} {t : Sem Fin} {fs : List Frame} {s : Shared} {e : End} {s' : Shared} (h : Runs M Γ p t fs s e s') : s.toks ≤ s'.toks := by
  induction h <;> first | exact Nat.le_refl _ | assumption | (exact Nat.le_trans (by assumption) (by assumption)) | (simp only [Shared.setGen] at *; omega)
theorem wakes_toks {M : Model} {Γ : Ctx} {p : Pos} {g : Nat} {r : Resume} {s : Shared} {res : GenResult} {s' : Shared} (h : Wakes M Γ p g r s res s') : s.toks ≤ s'.toks := by
  unfold Wakes at h
  split at h
  · exact h.elim
  · split at h
    · obtain ⟨e₁, s₁, h1, _, _, rfl⟩ := h; have q := runs_toks h1; exact q
    · obtain ⟨_, rfl⟩ := h; exact Nat.le_refl _
    · obtain ⟨_, rfl⟩ := h; exact Nat.le_refl _
  · obtain ⟨e₁, s₁, h1, _, _, rfl⟩ := h; have q := runs_toks h1; exact q
  · obtain ⟨_, rfl⟩ := h; exact Nat.le_refl _
  · obtain ⟨_, rfl⟩ := h; exact Nat.le_refl _
theorem wp_toks {α : Type} {M : Model} {Γ : Ctx} (t : Sem α) {Q : α → Pos → Shared → Prop} {E : Value → Pos → Shared → Prop} {n : Nat} :
    ∀ {p : Pos} {s : Shared}, n ≤ s.toks → Sem.wp M Γ t Q E p s → Sem.wp M Γ t (fun a p' s' => n ≤ s'.toks ∧ Q a p' s') E p s := by
  induction t with
  | pure a => intro p s hn h; exact ⟨hn, h⟩
  | raise e => intro p s hn h; exact h
  | unsupported w => intro p s hn h; exact h
  | finish e => intro p s hn h; exact h
  | rule t k ih => intro p s hn h; exact ih () hn h
  | «at» p' k ih => intro p s hn h; exact ih () hn h
  | load a q k ih => intro p s hn h; obtain ⟨o, ho, h⟩ := h; exact ⟨o, ho, ih o hn h⟩
  | update a q f k ih => intro p s hn h; exact ⟨h.1, ih () hn h.2⟩
  | loadIfAlive a k ih => intro p s hn h; exact ih _ hn h
  | point l k ih => intro p s hn h; exact ih () hn h
  | register a k ih => intro p s hn h; exact h
  | alloc o k ih => intro p s hn h; exact ih _ hn h
  | fresh k ih => intro p s hn h; exact ih _ (Nat.le_succ_of_le hn) h
  | ask k ih => intro p s hn h; exact ih _ hn h
  | choose src m k ih => intro p s hn h; exact ⟨h.1, ih _ hn h.2⟩
  | os q l k ih => intro p s hn h; exact ih _ hn h
  | call c hd g l k ih =>
    intro p s hn h
    obtain ⟨r, s', hr, h⟩ := h
    exact ⟨r, s', hr, ih r (Nat.le_trans hn (runs_toks hr)) h⟩
  | handled own k ih => intro p s hn h; exact ih _ hn h
  | genState g k ih => intro p s hn h; obtain ⟨st, hs, h⟩ := h; exact ⟨st, hs, ih _ hn h⟩
  | newGen c k ih => intro p s hn h; exact ih _ hn h
  | resume g r l k ih => intro p s hn h; obtain ⟨res, s', hw, h⟩ := h; exact ⟨res, s', hw, ih _ (Nat.le_trans hn (wakes_toks hw)) h⟩
  | yield v g l k ih => intro p s hn h; exact h
  | stack k ih => intro p s hn h; exact ih _ hn h
  | fork c k ih => intro p s hn h; exact h
  | thread k ih => intro p s hn h; exact ih _ hn h
  | await a f d l k ih => intro p s hn h; exact h
theorem wpAny_toks {α : Type} {M : Model} {A : Around} {t : Sem α} {Q : α → Shared → Prop} {E : Value → Shared → Prop} {s : Shared} (h : wpAny M A t (fun a s' => s.toks ≤ s'.toks → Q a s') E s) : wpAny M A t Q E s :=
  fun Γ p hΓ => Sem.wp_mono M Γ t (fun _ _ _ q => q.2 q.1) (fun _ _ _ q => q) p s (wp_toks t (Nat.le_refl _) (h Γ p hΓ))
theorem fresh_RU : True := by
  w_top off
  first | walk1 | trivial
abbrev LL : List Str := [Str.ofString "IS_CHARACTER_JUNK", Str.ofString "HtmlDiff"]
theorem os_e : Str.ofString "" = sx [] := by decide +kernel
theorem os_amp : Str.ofString "&" = sx [38] := by decide +kernel
theorem os_lt : Str.ofString "<" = sx [60] := by decide +kernel
theorem os_gt : Str.ofString ">" = sx [62] := by decide +kernel
theorem os_bl : Str.ofString " " = sx [32] := by decide +kernel
theorem os_bad : Str.ofString "<> " = sx [60, 62, 32] := by decide +kernel
theorem os_1 : Str.ofString "&amp;" = sx [38, 97, 109, 112, 59] := by decide +kernel
theorem os_2 : Str.ofString "&lt;" = sx [38, 108, 116, 59] := by decide +kernel
theorem os_3 : Str.ofString "&gt;" = sx [38, 103, 116, 59] := by decide +kernel
theorem os_4 : Str.ofString "&nbsp;" = sx [38, 110, 98, 115, 112, 59] := by decide +kernel
theorem bad_of (c : Nat) : (!(Builtin.Str.occurrences (sx [60, 62, 32]) (sx [c]) 0 (sx [60, 62, 32]).length 1).isEmpty) = decide (c ∈ [60, 62, 32]) := by
  have := StrLaws.found_one (sx [60, 62, 32]) c
  simpa using this
theorem known2 {m : Str → Option Value} {a b : Str} {v w : Value} (h1 : m a = some v) (h2 : m b = some w) : m = fun y => if y = a then some v else if y = b then some w else m y := by
  funext y
  by_cases q : y = a
  · subst q; simp [h1]
  · by_cases q' : y = b
    · subst q'; simp [q, h2]
    · simp [q, q']
section
variable {prog : Program} {w : World} {A : Around} {E : Value → Shared → Prop} {s : Shared} {h₀ : Heap} {L : Addr} {news : List (Addr × Obj)} {value slice : PySem.Expr} {m : Str → Option Value}
theorem add_sx {x y : Str} {t u : Tok} {Q : Value → Shared → Prop} (a b : List Nat) (hx : x = sx a) (hy : y = sx b) (hsz : a.length + b.length ≤ 1000000) (h : ∀ t' tk, Q (.str (sx (a ++ b)) t') { s with toks := tk }) :
    wpAny (model prog w) A (binaryOp .Add (.str x t) (.str y u)) Q E s := by
  subst hx hy
  refine PyProof.Rows.add_str (fun t' tk => ?_) (by rw [sx_len, sx_len, sizeLine_eq]; omega)
  rw [sx_app]; exact h t' tk
theorem tup_at {a : Addr} {l : List Value} {n : Nat} {k : Int} {u : Tok} {j : Nat} {x : Value} {Q : Value → Shared → Prop} (N : News h₀ L s.heap news) (hm : (a, ({ cls := .type "tuple", data := .seq l.toArray n } : Obj)) ∈ news)
    (hlo : -(2 ^ 63) ≤ k) (hhi : k < 2 ^ 63) (hj : seqIndex? k l.length = some j) (hx : l[j]? = some x) (h : Q x s)
    (hs : subscripted slice false (.ref a) (.int k u) = operate [.ref a, .int k u] (getItem (.ref a) (.int k u)) := by with_unfolding_all rfl) :
    wpAny (model prog w) A (subscriptTail value slice (.ref a) (.int k u)) Q E s :=
  item_tupleT (N.isTup hm) hlo hhi hj hx h hs
theorem lst_at {a : Addr} {l : List Value} {n : Nat} {k : Int} {u : Tok} {x : Value} {Q : Value → Shared → Prop} (N : News h₀ L s.heap news) (hm : (a, ({ cls := .type "list", data := .seq l.toArray n } : Obj)) ∈ news)
    (hlo : 0 ≤ k) (hhi : k < 2 ^ 63) (hx : l[k.toNat]? = some x) (h : Q x s)
    (hs : subscripted slice false (.ref a) (.int k u) = operate [.ref a, .int k u] (getItem (.ref a) (.int k u)) := by with_unfolding_all rfl) :
    wpAny (model prog w) A (subscriptTail value slice (.ref a) (.int k u)) Q E s :=
  item_litK (N.isList hm) hlo hhi hx h hs
theorem from_sx {x : Str} {i : Int} {t ui : Tok} {Q : Value → Shared → Prop} (a : List Nat) (hx : x = sx a) (h0 : 0 ≤ i) (h1 : i ≤ a.length) (hsz : a.length ≤ 1000000) (hF : Fr h₀ L s.heap m) (hN : News h₀ L s.heap news)
    (h : ∀ h' t' k, Fr h₀ L h' m → News h₀ L h' news → Q (.str (sx (a.drop i.toNat)) t') { s with heap := h', toks := k })
    (hs : subscripted slice false (.str x t) (.ref s.heap.objs.size) = operate [.ref s.heap.objs.size, .str x t] (getItem (.str x t) (.ref s.heap.objs.size)) := by with_unfolding_all rfl)
    (ht : ∀ r, letTemporaryGo value (.str x t) r = pure () := by intro _; with_unfolding_all rfl) :
    wpAny (model prog w) A (subscriptTail value slice (.str x t) (.ref s.heap.objs.size)) Q E { s with heap := s.heap.push { cls := .type "slice", data := .fields #[.int i ui, .none, .none] } } := by
  subst hx
  refine slice_strN_sn hF hN (fun h' t' k a b => ?_) hs ht (by rw [sx_len, sizeLine_eq]; omega)
  rw [slice_from h0 h1]; exact h h' t' k a b
theorem put1_len {c : Nat} {z : List Nat} (hz : 1 ≤ z.length ∧ z.length ≤ 6) (x : List Nat) : (x.flatMap (put1 c z)).length ≤ 6 * x.length := by
  induction x with
  | nil => simp
  | cons k r ih =>
    rw [List.flatMap_cons, List.length_append, List.length_cons]
    have : (put1 c z k).length ≤ 6 := by
      unfold put1; split
      · exact hz.2
      · simp
    omega
theorem rep_sx {x y z : Str} {t u v : Tok} {Q : Value → Shared → Prop} (a : List Nat) (c : Nat) (b : List Nat) (hx : x = sx a) (hy : y = sx [c]) (hz : z = sx b) (hb : 1 < b.length ∧ b.length ≤ 6) (ha : a.length ≤ 1000000) (hu : u ≠ 0) (hv : v ≠ 0) (huv : u ≠ v)
    (h : ∀ t' k, s.toks ≤ k → Q (.str (sx (a.flatMap (put1 c b))) t') { s with toks := k }) : wpAny (model prog w) A (call (.builtin "str.replace") [.str x t, .str y u, .str z v]) Q E s := by
  subst hx hy hz
  have hne : (sx [c] == sx b) = false := by
    rw [sx_beq]; simp only [decide_eq_false_iff_not]
    intro q; rw [← q] at hb; simp at hb
  refine wpAny_toks (SC.replace hu hv huv hne ?_ (fun t' k hk => ?_))
  · rw [sx_len, sx_len]
    have : (a.length + 1) * b.length ≤ (a.length + 1) * 6 := Nat.mul_le_mul_left _ hb.2
    omega
  · rw [replace_flat]; exact h t' k hk
theorem rst_sx {x : Str} {t : Tok} {Q : Value → Shared → Prop} (a : List Nat) (hx : x = sx a) (ha : a.length ≤ 1000000) (h : ∀ t' k, Q (.str (sx (rst Unicode.isSpace a)) t') { s with toks := k }) :
    wpAny (model prog w) A (call (.builtin "str.rstrip") [.str x t]) Q E s := by
  subst hx
  refine PySem.SC.rstrip (fun t' k => ?_) (by rw [sx_len, sizeLine_eq]; omega)
  rw [rstrip_eq]; exact h t' k
end
theorem fresh_PC : True := by
  w_top off
  first | walk1 | trivial
set_option maxRecDepth 100000
open Builtin Builtin.Str in
theorem int_signs (c : Percent) (h1 : c.alt = false) (h2 : c.type = 100) (h3 : c.prec = none) (n : Int) :
    percentInt c (decide (n < 0)) (PySem.Str.ofString (toString ((n.natAbs : Nat) : Int))).cps.toList = (PySem.Str.ofString (toString n)).cps.toList := by
  have e : percentInt c (decide (n < 0)) (PySem.Str.ofString (toString ((n.natAbs : Nat) : Int))).cps.toList = (if n < 0 then [45] else []) ++ (PySem.Str.ofString (toString ((n.natAbs : Nat) : Int))).cps.toList := by
    unfold percentInt
    by_cases q : n < 0 <;> simp [h1, h2, h3, q]
  rw [e]
  cases n with
  | ofNat k => rfl
  | negSucc k =>
    have : Int.negSucc k < 0 := Int.negSucc_lt_zero k
    rw [if_pos this, PySem.Str.ofString_eq_toList, PySem.Str.ofString_eq_toList]
    show [45] ++ ((toString ((k + 1 : Nat) : Int)).toList.map Char.toNat) = ((toString (Int.negSucc k)).toList.map Char.toNat)
    have h4 : toString (Int.negSucc k) = "-" ++ toString (k + 1) := rfl
    have h5 : toString ((k + 1 : Nat) : Int) = toString (k + 1) := rfl
    rw [h4, h5, String.toList_append, List.map_append]
    rfl
section
variable {prog : Program} {w : World} {A : Around} {E : Value → Shared → Prop} {s : Shared} {n : Int} {t u : Tok} {Q : Value → Shared → Prop}
open Builtin Builtin.Str
theorem after_d {M : Model} {l : List Nat} {p : List Value} {r : List Nat} {f : Nat → List Value × Writer × List Nat → Sem (ForInStep (List Value × Writer × List Nat))} {Q : List Value × Writer × List Nat → Shared → Prop} {w : Writer} {N : Nat} {o : Option Value} {c : Percent} {d : List Nat}
    (g : KPc.Good w PySem.Str.empty N) (h1 : c.alt = false) (h2 : c.type = 100) (h3 : c.prec = none)
    (hd : d = (PySem.Str.ofString (toString ((n.natAbs : Nat) : Int))).cps.toList) (ho : o = none) (hl : (PySem.Str.ofString (toString n)).length ≤ 1000) (h : ∀ w', KPc.Good w' (PySem.Str.ofString (toString n)) (N + 1000) → wpAny M A (forIn l (p, w', r) f) Q E s) :
    wpAny M A (forIn l (p, w.add ⟨(percentInt c (decide (n < 0)) d).toArray⟩ o, r) f) Q E s := by
  subst hd
  rw [int_signs c h1 h2 h3]
  exact KPc.after_str0 g hl (KPc.obj_none ho) h
theorem mod_d (hn : n.natAbs.log2 < 1920) (hl : (PySem.Str.ofString (toString n)).length ≤ 1000)
    (h : ∀ t' k, Q (.str (PySem.Str.ofString (toString n)) t') { s with toks := k }) : wpAny (model prog w) A (binaryOp .Mod (.str (PySem.Str.ofString "%d") t) (.int n u)) Q E s := by
  refine KPc.mod_lit (X' := ⟨#[37, 100]⟩) (T := PySem.Str.ofString (toString n)) (by decide +kernel) hn ?_ h
  intro hq1 hq2
  apply KPc.meets_of
  intro _ _ _ _ _ _ _
  rw [KPc.entry_is]
  unfold Builtin.Str.percentFormat
  refine wpAny_bind (wpAny_isInstance (typeIs_int _ _ _) F.sub_int_tuple ?_)
  refine wpAny_bind (wpAny_of_eq (a := none) rfl ?_)
  refine wpAny_bind (wpAny_of_eq (KPc.fills _ _) ?_)
  kpc_if
  refine wpAny_bind (wpAny_pure ?_)
  refine wpAny_bind ?_
  rw [KPc.range_list]
  refine KPc.start ?_
  intro _ _
  refine KPc.turn ?_
  kpc_check
  (repeat kpc_if)
  refine wpAny_bind ?_
  refine wpAny_holding ?_
  (repeat kpc_if)
  kpc_conv
  refine wpAny_pure ?_
  refine wpAny_pure ?_
  refine after_d (by kpc_g) rfl rfl rfl rfl (by kpc_none) hl ?_
  intro _ _
  kpc_turns

theorem look_bool : typeLookup (.type "bool") "__getitem__" = pure none := by rw [typeLookup_type, builtinLookup_eq_fast]; kernel_rfl
theorem fills_bool (b : Bool) : fillsMappingSlot (.bool b) = pure false := by
  have e : specialOf (.bool b) "__getitem__" = typeLookup (.type "bool") "__getitem__" := rfl
  unfold fillsMappingSlot
  rw [e, look_bool]
  rfl
theorem entry_is_b (F : PySem.Str) (b : Bool) (t : Tok) : «str.__mod__» ⟨[.str F t, .bool b], []⟩ = percentFormat (.str F t) F (.bool b) := by kernel_rfl
theorem mod_d_bool (b : Bool) (h : ∀ t' k, Q (.str (sx [if b then 49 else 48]) t') { s with toks := k }) : wpAny (model prog w) A (binaryOp .Mod (.str (PySem.Str.ofString "%d") t) (.bool b)) Q E s := by
  refine AutoFloatOps.binaryOp_left_meets (T := "str") (U := "bool") (op := .Mod) (by decide) (typeIs_str s _ t) (fun s' => rfl) F.fills_str_mod F.fills_bool_mod F.sub_bool_str F.slot_str_mod F.slot_bool_rmod F.entry_str_mod (F.args_str_mod_2 _ _)
    (S := fun _ R s => ∀ t' k, R (.ok (.ret (.str (sx [if b then 49 else 48]) t'))) { s with toks := k }) ?_ (fun t' k => ⟨(fun e => nomatch e), h t' k⟩)
  apply KPc.meets_of
  intro _ _ _ _ _ _ _
  rw [entry_is_b]
  rw [show PySem.Str.ofString "%d" = ⟨#[37, 100]⟩ by decide +kernel]
  unfold Builtin.Str.percentFormat
  refine wpAny_bind (wpAny_isInstance (T := "bool") rfl F.sub_bool_tuple ?_)
  refine wpAny_bind (wpAny_of_eq (a := none) rfl ?_)
  refine wpAny_bind (wpAny_of_eq (fills_bool _) ?_)
  kpc_if
  refine wpAny_bind (wpAny_pure ?_)
  refine wpAny_bind ?_
  rw [KPc.range_list]
  refine KPc.start ?_
  intro _ _
  refine KPc.turn ?_
  kpc_check
  (repeat kpc_if)
  refine wpAny_bind ?_
  refine wpAny_holding ?_
  (repeat kpc_if)
  have hb1 : ((if b = true then (1 : Int) else 0)).natAbs.log2 < 1920 := by cases b <;> decide
  refine wpAny_bind (wpAny_of_eq (a := if b = true then (1 : Int) else 0) rfl ?_)
  (repeat kpc_if)
  refine wpAny_bind (wpAny_mkInt ?_)
  refine wpAny_bind (call_gives F.slot_int_repr (typeIs_int _ _ _) F.entry_int_repr (F.args_int_repr_1 _) (gives_int_repr _ _ hb1) ⟨int_text_fits hb1, ?_⟩)
  refine wpAny_bind (wpAny_of_eq (a := some _) rfl ?_)
  refine wpAny_pure ?_
  refine wpAny_pure ?_
  refine after_d (n := if b = true then (1 : Int) else 0) (by kpc_g) rfl rfl rfl rfl (by kpc_none) (by cases b <;> decide +kernel) ?_
  intro _ _
  have eT : PySem.Str.ofString (toString (if b = true then (1 : Int) else 0)) = sx [if b = true then 49 else 48] := by cases b <;> decide +kernel
  refine KPc.turn ?_
  kpc_check
  (repeat kpc_if)
  refine wpAny_pure ?_
  kpc_if
  refine KPc.finish_ok (by kpc_g) (by decide +kernel) eT ?_
  assumption
theorem str_has {x : PySem.Str} {u : Tok} {nm : PySem.Str} (e : typeLookup (.type "str") nm = pure none) {Q : Bool → Shared → Prop} {M : Model} (h : Q false s) :
    wpAny M A (do return (← specialOf (.str x u) nm).isSome) Q E s := by
  have e' : specialOf (.str x u) nm = pure none := (show specialOf (.str x u) nm = typeLookup (.type "str") nm from rfl).trans e
  rw [e']
  exact wpAny_pure h
theorem percentIntOf_str {M : Model} {x : PySem.Str} {Q : Int → Shared → Prop} (hh : A.handled = none)
    (h : ∀ h' tk e, Heap.NewExc s.heap h' e "TypeError" → E (.ref e) { s with heap := h', toks := tk }) :
    wpAny M A (percentIntOf 100 (.str x u)) Q E s := by
  have l1 : typeLookup (.type "str") "__int__" = pure none := by rw [typeLookup_type, builtinLookup_eq_fast]; kernel_rfl
  have l2 : typeLookup (.type "str") "__index__" = pure none := by rw [typeLookup_type, builtinLookup_eq_fast]; kernel_rfl
  have l3 : typeLookup (.type "str") "__float__" = pure none := by rw [typeLookup_type, builtinLookup_eq_fast]; kernel_rfl
  have l4 : typeLookup (.type "str") "__trunc__" = pure none := by rw [typeLookup_type, builtinLookup_eq_fast]; kernel_rfl
  unfold percentIntOf
  refine wpAny_bind (wpAny_of_eq (a := none) rfl ?_)
  refine wpAny_bind (str_has l1 ?_)
  refine wpAny_bind (str_has l2 ?_)
  refine wpAny_bind (str_has l3 ?_)
  refine wpAny_bind (str_has l4 ?_)
  show wpAny M A ((rule "str.__mod__.not-a-number" : Sem Unit) >>= fun _ => PySem.typeNameOf (Value.str x u) >>= fun nm => raiseErrorMade "TypeError" (toString "%" ++ toString (Char.ofNat 100) ++ toString " format: " ++ toString "a real number" ++ toString " is required, not " ++ toString nm)) Q E s
  refine wpAny_bind (wpAny_rule (wpAny_bind (wpAny_typeNameOf' (typeIs_str s x u) (by decide) ?_)))
  exact wpAny_raiseErrorMade plainExc_TypeError hh h (by rw [show shownName "str" = "str" by decide +kernel]; decide +kernel)
theorem meets_raise {t : Sem Fin}
    (h : ∀ (prog : Program) (w : World) (A : Around) (s : Shared) (Q : Fin → Shared → Prop) (E : Value → Shared → Prop), A.handled = none → (∀ h' tk e, Heap.NewExc s.heap h' e "TypeError" → E (.ref e) { s with heap := h', toks := tk }) → wpAny (model prog w) A t Q E s) :
    Meets t (fun A R s => A.handled = none ∧ ∀ h' tk e, Heap.NewExc s.heap h' e "TypeError" → R (.error (.ref e)) { s with heap := h', toks := tk }) :=
  Meets.of_wp fun prog w A _ s hS => h prog w A.in1 s _ _ hS.1 hS.2
theorem mod_d_str {x : PySem.Str} (hh : A.handled = none) (h : ∀ h' tk e, Heap.NewExc s.heap h' e "TypeError" → E (.ref e) { s with heap := h', toks := tk }) :
    wpAny (model prog w) A (binaryOp .Mod (.str (PySem.Str.ofString "%d") t) (.str x u)) Q E s := by
  refine binaryOp_meets (T := "str") (op := .Mod) (typeIs_str s _ t) (typeIs_str s x u) F.fills_str_mod F.slot_str_mod F.entry_str_mod (F.args_str_mod_2 _ _)
    (S := fun A R s => A.handled = none ∧ ∀ h' tk e, Heap.NewExc s.heap h' e "TypeError" → R (.error (.ref e)) { s with heap := h', toks := tk }) ?_ ⟨hh, h⟩
  apply meets_raise
  intro _ _ _ _ _ _ hh hE
  rw [KPc.entry_is_s]
  rw [show PySem.Str.ofString "%d" = ⟨#[37, 100]⟩ by decide +kernel]
  unfold Builtin.Str.percentFormat
  refine wpAny_bind (wpAny_isInstance (typeIs_str _ _ _) F.sub_str_tuple ?_)
  refine wpAny_bind (wpAny_of_eq (a := some _) rfl ?_)
  refine wpAny_bind (KPc.wp_fills_str ?_)
  intro _
  kpc_if
  refine wpAny_bind (wpAny_pure ?_)
  refine wpAny_bind ?_
  rw [KPc.range_list]
  refine KPc.start ?_
  intro _ _
  refine KPc.turn ?_
  kpc_check
  (repeat kpc_if)
  refine wpAny_bind ?_
  refine wpAny_holding ?_
  (repeat kpc_if)
  exact wpAny_bind (percentIntOf_str hh hE)
end
theorem fresh_MU : True := by
  w_top off
  first | walk1 | trivial
theorem wp_execs_app {M : Model} {Γ : Ctx} {env : Env} {b : List Stmt} {Q : Flow → Pos → Shared → Prop} {E : Value → Pos → Shared → Prop} : ∀ (a : List Stmt) {p : Pos} {s : Shared},
    Sem.wp M Γ (execs a env) (fun f p' s' => match f with | .next => Sem.wp M Γ (execs b env) Q E p' s' | f => Q f p' s') E p s → Sem.wp M Γ (execs (a ++ b) env) Q E p s
  | [], p, s, h => h
  | st :: a, p, s, h => by
    rw [execs_cons, Sem.wp_bind'] at h
    rw [List.cons_append, execs_cons, Sem.wp_bind']
    refine Sem.wp_mono M Γ _ (fun f p' s' h' => ?_) (fun _ _ _ h' => h') _ _ h
    cases f with
    | next => exact wp_execs_app a h'
    | cont => exact h'
    | brk => exact h'
    | ret v => exact h'
section
variable {M : Model} {A : Around} {E : Value → Shared → Prop} {s : Shared} {env : Env} {Q : Flow → Shared → Prop}
theorem execs_app (a : List Stmt) {b : List Stmt} (h : wpAny M A (execs a env) (fun f s' => match f with | .next => wpAny M A (execs b env) Q E s' | f => Q f s') E s) : wpAny M A (execs (a ++ b) env) Q E s := fun Γ p hΓ => by
  refine wp_execs_app a (Sem.wp_mono M Γ _ (fun f p' s' h' => ?_) (fun _ _ _ h' => h') _ _ (h Γ p hΓ))
  cases f with
  | next => exact h' Γ p' hΓ
  | cont => exact h'
  | brk => exact h'
  | ret v => exact h'
/-- the first k statements end at a state of which P tells all that is asked behind them -/
theorem cut_split (k : Nat) (P : Shared → Prop) {l : List Stmt} (h1 : wpAny M A (execs (l.take k) env) (fun f s' => f = .next ∧ P s') E s)
    (h2 : ∀ s', P s' → wpAny M A (execs (l.drop k) env) Q E s') : wpAny M A (execs l env) Q E s := by
  rw [← List.take_append_drop k l]
  refine execs_app _ (wpAny_mono h1 (fun f s' h => ?_) fun _ _ e => e)
  obtain ⟨rfl, hp⟩ := h
  exact h2 s' hp
end
theorem fresh_RX : True := by
  w_top off
  first | walk1 | trivial
set_option maxRecDepth 100000
section
variable {α : Type} {M : Model} {A : Around} {E : Value → Shared → Prop} {s : Shared}
theorem raise_words {cls msg : String} {Q : α → Shared → Prop} (hp : PlainExc cls) (hh : A.handled = none)
    (h : ∀ h' tk e tm, Heap.MadeExc s.heap h' e cls [.str (Str.ofString msg) tm] → E (.ref e) { s with heap := h', toks := tk }) :
    wpAny M A (raiseErrorWords cls msg : Sem α) Q E s := by
  unfold raiseErrorWords
  refine wpAny_bind (wpAny_mkText (wpAny_bind ?_))
  unfold newExc newTuple
  refine wpAny_bind (wpAny_newObj_type ?_)
  refine wpAny_bind (m := firstArgMember _ _) (wpAny_of_eq (a := Value.none) (by simp only [firstArgMember, hp.first]; rfl) ?_)
  rw [hp.own]
  refine wpAny_newObj_type ?_
  unfold raiseNew
  refine wpAny_bind (wpAny_handled ?_)
  rw [hh]
  first
    | refine wpAny_throw ?_
    | refine wpAny_bind (wpAny_pure (wpAny_throw ?_))
  refine h _ _ _ _ ⟨fun b o hb => Heap.get?_push_of_some _ (Heap.get?_push_of_some _ hb), Heap.get?_none_of_le (by simp), s.heap.objs.size, ?_, Heap.get?_none_of_le (Nat.le_refl _), Heap.get?_push_of_some _ (Heap.get?_push_size _ rfl)⟩
  refine (Heap.get?_push_size _ rfl).trans ?_
  simp
end
section
variable {prog : Program} {w : World} {A : Around} {E : Value → Shared → Prop} {s : Shared} {value slice : PySem.Expr}
theorem getItem_out {l : Addr} {items : Array Value} {k : Int} {t : Tok} {Q : Value → Shared → Prop} (hA : A.handled = none) (hl : s.heap.IsList l items) (h0 : 0 ≤ k) (hout : (items.size : Int) ≤ k) (hhi : k < 2 ^ 63)
    (hE : ∀ h' tk e tm, Heap.MadeExc s.heap h' e "IndexError" [.str (Str.ofString "list index out of range") tm] → E (.ref e) { s with heap := h', toks := tk }) :
    wpAny (model prog w) A (getItem (.ref l) (.int k t)) Q E s := by
  obtain ⟨o, ho, hc, ne, hd⟩ := id hl
  unfold getItem
  try with_reducible refine wpAny_holding ?_
  first | refine wpAny_bind (wpAny_pure ?_) | skip
  refine wpAny_bind (wpAny_sequenceKey hl.typeIs (by decide) ?_)
  refine wpAny_bind (wpAny_callSpecial?_slot (name := Str.ofString "__getitem__") hl.typeIs slot_list_getitem
    (wpAny_call_entry slot_list_getitem hl.typeIs entry_list_getitem ?_ (args_list_getitem _ _)))
  show wpAny _ _ (Builtin.List.listSubscript? (.int k t) >>= _) _ _ s
  refine wpAny_bind (wpAny_listSubscript_int (fitsIndex_both (by omega) hhi) ?_)
  clear hhi
  cases k with
  | ofNat j =>
    have hx : items[j]? = none := Array.getElem?_eq_none (by have : (items.size : Int) ≤ (j : Int) := hout; omega)
    show wpAny _ _ ((seqItemAt l j >>= fun r => pure (r.map (j, ·))) >>= _) _ _ s
    refine wpAny_bind (wpAny_bind (wpAny_seqItemAt ho hd (wpAny_pure ?_)))
    rw [hx]
    first
      | exact wpAny_bind (wpAny_rule (raise_words plainExc_IndexError hA hE))
      | exact wpAny_bind (wpAny_rule (wpAny_bind (raise_words plainExc_IndexError hA hE)))
      | exact wpAny_bind (wpAny_bind (wpAny_rule (raise_words plainExc_IndexError hA hE)))
      | exact wpAny_rule (raise_words plainExc_IndexError hA hE)
  | negSucc j => exact absurd h0 (by have := Int.negSucc_lt_zero j; omega)
theorem item_out {l : Addr} {items : Array Value} {k : Int} {t : Tok} {Q : Value → Shared → Prop} (hA : A.handled = none) (hl : s.heap.IsList l items) (h0 : 0 ≤ k) (hout : (items.size : Int) ≤ k) (hhi : k < 2 ^ 63)
    (hE : ∀ h' tk e tm, Heap.MadeExc s.heap h' e "IndexError" [.str (Str.ofString "list index out of range") tm] → E (.ref e) { s with heap := h', toks := tk })
    (hs : subscripted slice false (.ref l) (.int k t) = operate [.ref l, .int k t] (getItem (.ref l) (.int k t)) := by with_unfolding_all rfl) :
    wpAny (model prog w) A (subscriptTail value slice (.ref l) (.int k t)) Q E s :=
  tail_any hl.typeIs slot_list_getitem.lookup (getItem_out hA hl h0 hout hhi hE) hs
end
section
variable {prog : Program} {w : World} {A₀ : Around} {E : Value → Shared → Prop} {s' : Shared} {base g h : Heap} {outer : List Env} {L a e : Addr} {m : Str → Option Value} {name : Str} {scope : Scope} {cd cls : Value}
  {vs : List Value} {Q : Flow → Shared → Prop} {news : List (Addr × Obj)} {hs : List ExceptHandler}
theorem own_look (K : Below A₀ base outer g) (hx : Heap.MadeExcOf h s'.heap e cls vs) (F : Fr g L h m) (N : News g L h news)
    (k : ∀ h' t G, Fr g L G m → G.UpToSlots h' → RaisedS base G (envOf name scope L a cd :: outer) e cls t vs news h' →
      wpAny (model prog w) (A₀.deeper (envOf name scope L a cd)) (handleBy (.ref e) (envOf name scope L a cd) hs) Q E { s' with heap := h' }) (hk : scope.kind = .function := by rfl) :
    wpAny (model prog w) (A₀.deeper (envOf name scope L a cd)) (noteFrame (.ref e) (envOf name scope L a cd))
      (fun _ s₂ => wpAny (model prog w) (A₀.deeper (envOf name scope L a cd)) (setFlight (.ref e) none) (fun _ s₃ =>
        wpAny (model prog w) (A₀.deeper (envOf name scope L a cd)) (handleBy (.ref e) (envOf name scope L a cd) hs) Q E s₃) E s₂) E s' := by
  have K' := K.push (name := name) (a := a) (cd := cd) F hk
  have hin : ∀ env ∈ (envOf name scope L a cd :: outer), ∀ b, env.frame = some b → b ∈ (envOf name scope L a cd :: outer).filterMap (·.frame) := fun env he b hb => List.mem_filterMap.mpr ⟨env, he, hb⟩
  have st : base.StaysIn (hideAll h ((envOf name scope L a cd :: outer).filterMap (·.frame))) := fun b o q => hideAll_get _ (K'.stays b o q) fun hm => by
    rw [(K'.frames.mem hm).1] at q; cases q
  have hl : ∀ q ∈ news, (hideAll h ((envOf name scope L a cd :: outer).filterMap (·.frame))).get? q.1 = some q.2 ∧ base.get? q.1 = none := fun q hq => by
    refine ⟨hideAll_get _ (N q hq).1 fun hm => ?_, fresh_of_stays K.stays (N q hq).2.2⟩
    obtain ⟨env, he, hf⟩ := List.mem_filterMap.mp hm
    rcases List.mem_cons.mp he with rfl | he
    · exact (N q hq).2.1 (Option.some.inj hf).symm
    · obtain ⟨o, ho, _⟩ := (K.frames.mem (List.mem_filterMap.mpr ⟨env, he, hf⟩)).2
      rw [(N q hq).2.2] at ho; cases ho
  have hff : s'.heap.FunFrames (hideAll h ((envOf name scope L a cd :: outer).filterMap (·.frame))) (envOf name scope L a cd :: outer) := (funFrames_hide K'.frames hin).of_keeps fun b o hb _ => ⟨o, hx.keeps b o hb, rfl⟩
  have stH : (hideAll h ((envOf name scope L a cd :: outer).filterMap (·.frame))).StaysIn h := fun b o q => of_hideAll _ q
  obtain ⟨t, he, htn, ht⟩ := hx.there
  have fresh : ∀ b, h.get? b = none → (hideAll h ((envOf name scope L a cd :: outer).filterMap (·.frame))).get? b = none := fun b hb => fresh_of_stays stH hb
  unfold noteFrame
  simp only [show (envOf name scope L a cd).frame = some L from rfl]
  refine wpAny_bind (wpAny_field he rfl (x := .none) rfl ?_)
  rw [if_neg (by decide)]
  refine wpAny_entryW (a0 := .ref t) (Around.frames_deeper K.stack) hff rfl he (fun b o eb => hx.keeps b o (stH b o eb)) (fresh e hx.new) rfl (by show 1 < 6; decide) rfl fun h₁ hN => ?_
  obtain ⟨k1, k2, k3, k4⟩ := hN
  refine wpAny_landsW (L := L) (l := envOf name scope L a cd :: outer) (cls := cls) (a0 := .ref t) ⟨k1, fresh e hx.new, k2, k3⟩ fun h₂ hfl hsm => ?_
  have nm : ∀ b o, g.get? b = some o → b ∉ news.map (·.1) := fun b o e' q => by
    obtain ⟨p, hp, rfl⟩ := List.mem_map.mp q
    rw [(N p hp).2.2] at e'; cases e'
  have nL : L ∉ news.map (·.1) := fun q => by
    obtain ⟨p, hp, e'⟩ := List.mem_map.mp q
    exact (N p hp).2.1 e'
  have FG : Fr g L (hideAll h (news.map (·.1))) m := by
    obtain ⟨oL, es, ep, hL, hLd, hLk, hLf⟩ := F.ns
    exact ⟨⟨oL, es, ep, hideAll_get _ hL nL, hLd, hLk, hLf⟩, fun b o e' => hideAll_get _ (F.keep b o e') (nm b o e'), F.above⟩
  have up : (hideAll h (news.map (·.1))).UpToSlots h₂ := ((Heap.UpToSlots.of_keeps fun b o q => hx.keeps b o (of_hideAll _ q)).trans k4).trans hsm
  refine k h₂ t _ FG up ⟨⟨_, st, fun b o q nf => hideAll_get _ (of_hideAll _ q) nf, fun q hq => ⟨(hl q hq).1, hideAll_none _ (List.mem_map_of_mem hq), (hl q hq).2⟩, hfl, fresh t htn⟩, ?_⟩
  exact Heap.TupAt.of_slots (Heap.TupAt.of_slots ⟨_, _, ht, rfl, rfl⟩ k4) hsm
end
theorem fresh_FL : True := by
  w_top off
  first | walk1 | trivial
/-- the end of a turn of a loop over a list of the call's own -/
def TurnEnd (h₀ : Heap) (L I : Addr) (oI : Obj) (l : Addr) (lo : Obj) (adr : List Addr) (J : (Str → Option Value) → List (Addr × Obj) → Prop) (s₁ : Shared) (Q : Flow → Shared → Prop) (f : Flow) (s₂ : Shared) : Prop :=
  match f with
  | .ret v => Q (.ret v) s₂
  | .brk => Q .next s₂
  | _ => ∃ h' tk m' nx, s₂ = { s₁ with heap := h', toks := tk } ∧ Fr h₀ L h' m' ∧ News h₀ L h' ((I, oI) :: (l, lo) :: nx) ∧ nx.map (·.1) = adr ∧ J m' nx
section
variable {prog : Program} {w : World} {A : Around} {E : Value → Shared → Prop} {s : Shared} {env : Env} {h₀ : Heap} {x : Str} {body : List Stmt} {Q : Flow → Shared → Prop}
theorem for_led {l : Addr} {vs : List Value} {nn : Nat} {m₀ : Str → Option Value} {rest : List (Addr × Obj)} (J : Nat → (Str → Option Value) → List (Addr × Obj) → Prop)
    (hh : A.handled = none) (F : Fr h₀ env.locals s.heap m₀) (N : News h₀ env.locals s.heap ((l, listOf vs.toArray nn) :: rest)) (hj : J 0 m₀ rest)
    (turn : ∀ i v m₁ nx h tk I oI, vs[i]? = some v → J i m₁ nx → nx.map (·.1) = rest.map (·.1) → l < I → (∀ b ∈ rest.map (·.1), b < I) → Fr h₀ env.locals h (fun y => if y = x then some v else m₁ y) → News h₀ env.locals h ((I, oI) :: (l, listOf vs.toArray nn) :: nx) →
      wpAny (model prog w) A (execs body env) (TurnEnd h₀ env.locals I oI l (listOf vs.toArray nn) (rest.map (·.1)) (J (i + 1)) { s with heap := h, toks := tk } Q) E { s with heap := h, toks := tk })
    (done : ∀ m₁ nx h tk, J vs.length m₁ nx → nx.map (·.1) = rest.map (·.1) → Fr h₀ env.locals h m₁ → News h₀ env.locals h nx → Q .next { s with heap := h, toks := tk }) :
    wpAny (model prog w) A (pyIter (.ref l)) (fun it s₂ => LoopAtV prog w A h₀ env x body Q E it s₂) E s := by
  have hol : s.heap.get? l = some (listOf vs.toArray nn) := (N _ List.mem_cons_self).1
  have hls : s.heap.IsList l vs.toArray := ⟨_, hol, rfl, nn, rfl⟩
  have hlt : l < s.heap.objs.size := Heap.lt_size hol
  have hlL : l ≠ env.locals := (N _ List.mem_cons_self).2.1
  have hl0 : h₀.get? l = none := (N _ List.mem_cons_self).2.2
  refine wpAny_pyIter_list hls ?_
  have W := Walks.list (prog := prog) (w := w) hh s.heap.objs.size l (Nat.ne_of_lt hlt) vs.toArray
  have hadr : ∀ b ∈ rest.map (·.1), b < s.heap.objs.size := fun b hb => by
    obtain ⟨q, hq, rfl⟩ := List.mem_map.mp hb
    exact Heap.lt_size (N q (List.mem_cons_of_mem _ hq)).1
  have hall : ∀ p ∈ (l, listOf vs.toArray nn) :: rest, p.1 < s.heap.objs.size := fun p hp => Heap.lt_size (N p hp).1
  refine ⟨_, _, _, vs.toArray.size, _, _, m₀, (l, listOf vs.toArray nn) :: rest, (fun i m nx => ∃ nx', nx = (l, listOf vs.toArray nn) :: nx' ∧ nx'.map (·.1) = rest.map (·.1) ∧ J i m nx'), rfl, W, ?_, ?_, ?_, ⟨⟨_, Heap.get?_push_size _ rfl, rfl, rfl⟩, hls.at fun o e => Heap.get?_push_of_some _ e⟩, F.push _, (fun p hp => ⟨Heap.get?_push_of_some _ (N p hp).1, (N p hp).2⟩), ⟨rest, rfl, rfl, hj⟩, ?_, ?_⟩
  · intro hm
    rcases List.mem_cons.mp hm with e | hm
    · exact absurd F.ns.lt (e ▸ Nat.lt_irrefl _)
    · exact hlL (List.mem_singleton.mp hm).symm
  · intro b hb
    rw [List.mem_singleton.mp hb]
    exact next_is_new F
  · intro p hp hI
    exact absurd (hall p hp) ((List.mem_singleton.mp hI) ▸ Nat.lt_irrefl _)
  · rintro i v m₁ nx s₁ own ⟨hh', tk', rfl⟩ hin hP ⟨nx', rfl, ha, hJ⟩ hoff hown hget hmem hst F₁ N₁
    obtain ⟨oI, hoI, _⟩ := id hst.1
    have hI0 : h₀.get? s.heap.objs.size = none := next_is_new F
    have e1 : ((s.heap.objs.size, oI) : Addr × Obj) ∈ own := hmem _ (by simp) hI0 _ hoI
    have hP' : vs[i]? = some v := by simpa using hP
    have hlo : hh'.get? l = some (listOf vs.toArray nn) := (N₁ _ (List.mem_append_right _ List.mem_cons_self)).1
    have N₀ : ∀ q ∈ own, q = (s.heap.objs.size, oI) ∨ q = (l, listOf vs.toArray nn) := fun q hq => by
      have h1 : hh'.get? q.1 = some q.2 := hget q hq
      rcases List.mem_cons.mp (hown q hq) with h2 | h2
      · rw [h2, hoI] at h1
        exact .inl (Prod.ext h2 (Option.some.inj h1).symm)
      · have h3 := List.mem_singleton.mp h2
        rw [h3, hlo] at h1
        exact .inr (Prod.ext h3 (Option.some.inj h1).symm)
    have N₂ : News h₀ env.locals hh' ((s.heap.objs.size, oI) :: (l, listOf vs.toArray nn) :: nx') := fun p hp => by
      rcases List.mem_cons.mp hp with rfl | hp
      · exact N₁ _ (List.mem_append_left _ e1)
      · exact N₁ _ (List.mem_append_right _ hp)
    refine wpAny_mono (turn i v m₁ nx' hh' tk' s.heap.objs.size oI hP' hJ ha hlt hadr F₁ N₂) (fun f s₂ p => ?_) fun _ _ e => e
    have fin : (∃ h' tk m' nx, s₂ = { ({ s with heap := hh', toks := tk' } : Shared) with heap := h', toks := tk } ∧ Fr h₀ env.locals h' m' ∧ News h₀ env.locals h' ((s.heap.objs.size, oI) :: (l, listOf vs.toArray nn) :: nx) ∧ nx.map (·.1) = rest.map (·.1) ∧ J (i + 1) m' nx) →
        LoopStepU h₀ env.locals [s.heap.objs.size] own (fun m nx => ∃ nx', nx = (l, listOf vs.toArray nn) :: nx' ∧ nx'.map (·.1) = rest.map (·.1) ∧ J (i + 1) m nx') { s with heap := hh', toks := tk' } .next s₂ := by
      rintro ⟨h', tk, m', nx, e, F', N', hx, hJ'⟩
      refine ⟨rfl, h', tk, m', (l, listOf vs.toArray nn) :: nx, e, F', fun p hp => ?_, fun p hp hI => ?_, nx, rfl, hx, hJ'⟩
      · rcases List.mem_append.mp hp with hp | hp
        · rcases N₀ p hp with rfl | rfl
          · exact N' _ List.mem_cons_self
          · exact N' _ (List.mem_cons_of_mem _ List.mem_cons_self)
        · exact N' _ (List.mem_cons_of_mem _ hp)
      · have h4 := List.mem_singleton.mp hI
        rcases List.mem_cons.mp hp with rfl | hp
        · exact absurd hlt (by rw [show l = s.heap.objs.size from h4]; exact Nat.lt_irrefl _)
        · have h5 : p.1 ∈ rest.map (·.1) := hx ▸ List.mem_map.mpr ⟨p, hp, rfl⟩
          exact absurd (hadr _ h5) (by rw [h4]; exact Nat.lt_irrefl _)
    cases f with
    | ret v => exact .ret p
    | brk => exact .brk p
    | next => exact .next (fin p)
    | cont => exact .cont (fin p)
  · rintro h' tk m' nx F' N' _ ⟨nx', rfl, ha, hJ⟩
    exact done m' nx' h' tk (by simpa using hJ) ha F' fun p hp => N' p (List.mem_cons_of_mem _ hp)
end
section
variable {prog : Program} {w : World} {A : Around} {E : Value → Shared → Prop} {s : Shared} {h₀ : Heap} {L : Addr} {news : List (Addr × Obj)} {value slice : PySem.Expr}
theorem lst_last {a : Addr} {l : List Value} {n : Nat} {u : Tok} {x : Value} {Q : Value → Shared → Prop} (N : News h₀ L s.heap news) (hm : (a, ({ cls := .type "list", data := .seq l.toArray n } : Obj)) ∈ news)
    (hx : l.getLast? = some x) (h : Q x s)
    (hs : subscripted slice false (.ref a) (.int (-1) u) = operate [.ref a, .int (-1) u] (getItem (.ref a) (.int (-1) u)) := by with_unfolding_all rfl) :
    wpAny (model prog w) A (subscriptTail value slice (.ref a) (.int (-1) u)) Q E s := by
  have hl := N.isList hm
  have hpos : 0 < l.length := by
    cases l with
    | nil => cases hx
    | cons _ _ => simp
  have e : l[l.length - 1]? = some x := by rw [← hx, List.getLast?_eq_getElem?]
  refine tail_any hl.typeIs slot_list_getitem.lookup (wpAny_getItem_list_neg hl (by decide) ?_ (by decide) ?_ h) hs
  · rw [List.size_toArray]; omega
  · rw [List.size_toArray, show ((-1 : Int) + (l.length : Int)).toNat = l.length - 1 by omega]
    simpa using e
end
end Mine
end
theorem Mine.fresh_RD : True := by
  w_top off
  first | walk1 | trivial
section
open PySem PySem.W PySem.Calls PyProof.Rows
namespace Mine
local macro_rules | `(tactic| walk_at "my steps") => `(tactic| repeat' (first
  | (fail_if_success (first | (with_reducible show ite _ _ _) | (with_reducible show WhileStep2 _ _ _ _ _ _ _ _) | (with_reducible show wpAny _ _ (exec (Stmt.Assign _ (Expr.ListComp _ _ _ _) _) _) _ _ _) | (with_reducible show wpAny _ _ (binaryOp _ (Value.str _ _) (Value.str _ _)) _ _ _))); (walk_at "my move")))
local macro_rules | `(tactic| walk_at "my item") => `(tactic| k_dflt (first
  | (refine' tup_at ?N ?m ?a ?b ?c ?d ?_ ?s; (case N => k_asm); (case m => k_mem); (case a => decide); (case b => decide); (case c => rfl); (case d => rfl); (case s => with_unfolding_all rfl))
  | (refine' lst_at ?N ?m ?a ?b ?d ?_ ?s; (case N => k_asm); (case m => k_mem); (case a => decide); (case b => decide); (case d => rfl); (case s => with_unfolding_all rfl))))
local macro_rules | `(tactic| k_all) => `(tactic| with_reducible assumption)
local macro_rules | `(tactic| walk_at "subscriptTail Name Constant ref int") => `(tactic| walk_at "my item")
local macro_rules | `(tactic| walk_at "subscriptTail Subscript Name Constant Constant ref int") => `(tactic| walk_at "my item")
local macro_rules | `(tactic| walk_at "compareOp Eq ref ref") => `(tactic| (k_dflt (refine eq_dataH (by ke_read) (by ke_read) (by ke_shaped) (by ke_shaped) (by ke_room) ?_); ke_norm))
local macro_rules | `(tactic| walk_at "my turn") => `(tactic| (
  (with_unfolding_all refine LCt.CompRestT.succ ?_)
  intro v' I' oI' C' oC' D' m' h' tk' E' hv' hC' hx' F' N' off' ne'
  (first | lcg_open hv' | (obtain ⟨t9', hv9'⟩ := hv'; subst hv9'))
  walk_at "my steps"))
local macro_rules | `(tactic| walk_at "my end") => `(tactic| (
  (with_reducible rename LCg.Off3 _ _ _ _ => off')
  (refine LCg.CompEnd.intro (by k_asm) (by k_asm) _ (fun _ hp => hp) off' (Or.inr ⟨_, by k_mem, rfl, _, rfl⟩) ?_)))
local macro_rules | `(tactic| walk_at "my yes") => `(tactic| refine ite_pos (by simp [slice_to, item0, sx_beq, sx_bne, os_e, os_amp, os_1, os_2, os_3, os_4]) ?_)
local macro_rules | `(tactic| walk_at "my no") => `(tactic| refine ite_neg (by simp [slice_to, item0, sx_beq, sx_bne, os_e, os_amp, os_1, os_2, os_3, os_4]) ?_)
local macro_rules | `(tactic| walk_at "my sub") => `(tactic| first
  | (refine List.forall_mem_cons.mpr ⟨by k_mem, ?_⟩; walk_at "my sub")
  | exact fun _ hp => hp
  | (intro q hq; (repeat (first | exact hq | refine List.Mem.tail _ ?_))))
/-- what is wanted behind, as a letter: keeps the terms small -/
theorem q_var {α : Type} {M : Model} {A : Around} {t : Sem α} {Q : α → Shared → Prop} {E : Value → Shared → Prop} {s : Shared} (h : ∀ Q' : α → Shared → Prop, (∀ v s', Q v s' → Q' v s') → wpAny M A t Q' E s) : wpAny M A t Q E s := h Q fun _ _ h => h
/-- a sign that has a name, and how its name goes on behind the & -/
def Two (c : Nat) (y r : List Nat) : Prop := (c = 62 ∧ y = 103 :: 116 :: 59 :: esc r) ∨ (c = 32 ∧ y = 110 :: 98 :: 115 :: 112 :: 59 :: esc r)
def Three (c : Nat) (y r : List Nat) : Prop := (c = 60 ∧ y = 108 :: 116 :: 59 :: esc r) ∨ Two c y r
def Four (c : Nat) (y r : List Nat) : Prop := (c = 38 ∧ y = 97 :: 109 :: 112 :: 59 :: esc r) ∨ Three c y r
theorem four_of {c : Nat} (hs : c = 38 ∨ c = 60 ∨ c = 62 ∨ c = 32) (r : List Nat) : ∃ y, esc (c :: r) = 38 :: y ∧ y.length ≤ (esc r).length + 5 ∧ Four c y r := by
  rcases hs with rfl | rfl | rfl | rfl
  · exact ⟨97 :: 109 :: 112 :: 59 :: esc r, rfl, by simp only [List.length_cons]; omega, .inl ⟨rfl, rfl⟩⟩
  · exact ⟨108 :: 116 :: 59 :: esc r, rfl, by simp only [List.length_cons]; omega, .inr (.inl ⟨rfl, rfl⟩)⟩
  · exact ⟨103 :: 116 :: 59 :: esc r, rfl, by simp only [List.length_cons]; omega, .inr (.inr (.inl ⟨rfl, rfl⟩))⟩
  · exact ⟨110 :: 98 :: 115 :: 112 :: 59 :: esc r, rfl, by simp only [List.length_cons]; omega, .inr (.inr (.inr ⟨rfl, rfl⟩))⟩
set_option rowWalk.seconds 0
set_option maxRecDepth 100000 in
set_option maxHeartbeats 8000000 in
theorem read_c (w : World) (mg mb : Str → Option Value) (mean : ExcName → Option Value) :
    ∀ (dp un : Nat) (gd : Option (List Code)) (cn : Str) (cs : Scope) (a : Addr) (ccd : Value) (cl : List (Str × Addr)) (outer : List Env) (A₀ : Around) (base h₀ : Heap) (L : Addr) (m : Str → Option Value) (news : List (Addr × Obj)) (s : Shared)
      (x : List Nat) (t : Tok) (Q E : Value → Shared → Prop),
    Below A₀ base outer h₀ → Fr h₀ L s.heap m → (hd.heap_39 w.params).In h₀ → News h₀ L s.heap news → Top hd.view_39 (looseW hd.view_39 LL) mean mg mb h₀ → cs.kind = .function → x.length ≤ 1000 → dp + 5 < recursionLimit → un + 100 < cLine →
    (∀ t' h' tk', Fr h₀ L h' m → News h₀ L h' news → Q (.str (sx x) t') { s with heap := h', toks := tk' }) →
    wpAny (model PySem.Challenge.rw_dv0004_01.row.prog w) (ktrTop dp un gd cn cs L a ccd cl outer) (call (.ref 129) [.str (sx (esc x)) t]) Q E s := by
  k_fill
  intro dp un gd cn cs a ccd cl outer A₀ base h₀ L m news s x t Q E B F X N T hk hx hd hu hret
  refine wpAny_call ?_
  k_dflt (refine' code_defC ?k1 ?k2 ?k3 ?k4 ?k5 ?kA ?kF ?kK ?k6 ?k7 ?k8 ?k9 ?kB ?kD ?_ ?c2 ?c3 ?c4; (case kA => exact rfl); (case kF => exact rfl); (case kK => exact hk); (case k1 => k_asm); (case k2 => k_asm); (case k3 => k_asm); (case k4 => k_asm); (case k5 => k_asm); (case k6 => k_is); (case k7 => k_is); (case k8 => ktr_room); (case k9 => exact BindsTo.of_eq rfl); (case kB => exact rfl); (case kD => decide +kernel); (case c2 => exact rfl); (case c3 => exact rfl); (case c4 => exact rfl); k_whole; intro g' L' h' tk' cells' FG' F' N' Y' B' X' T' l1; (try k_lt l1); k_cells Y'; (try simp only [List.cons_append, List.nil_append] at N'); (try dsimp only); (try k_lift B'); (try k_fold))
  repeat' (first | (fail_if_success (with_reducible show wpAny _ _ (exec (Stmt.While _ _ _ _) _) _ _ _)); (first | (k_unfold; (try dsimp only)) | walk1 | (dsimp only; walk1) | (leave1; walk_say "STEP leave1"; try dsimp only)))
  (with_reducible rename Fr g' _ _ _ => F1)
  (with_reducible rename News g' _ _ _ => N1)
  (with_reducible rename (PySem.Obj.data _ = _) => d1)
  rename_i o1 Da _ _ Db _ _ Dc _ _ De _ _ l2 _ _ _ h2
  have d2 : o1.data = Data.cell (some (Value.str (sx (esc x)) t)) := d1
  clear d1
  refine While_inv2 (fun n m₁ news₁ => ∃ (pre rest : List Nat) (tb ts : Tok) (oC : Obj) (u : Str → Option Value), x = pre ++ rest ∧ n = rest.length ∧ oC.data = Data.cell (some (Value.str (sx (esc rest)) tb)) ∧
      m₁ = (fun y => if y = Str.ofString "seen" then some (Value.str (sx pre) ts) else if y = Str.ofString "names" then some (Value.ref l2) else u y) ∧
      news₁ = (l2, W.listOf #[Value.ref Da, Value.ref Db, Value.ref Dc, Value.ref De] 0) :: (De, { cls := Value.type "tuple", data := Data.seq #[Value.str (Str.ofString "&nbsp;") (tk' + 1 + 1 + 1 + 1 + 1 + 1), Value.str (Str.ofString " ") (tk' + 1 + 1 + 1 + 1 + 1 + 1 + 1)] }) ::
        (Dc, { cls := Value.type "tuple", data := Data.seq #[Value.str (Str.ofString "&gt;") (tk' + 1 + 1 + 1 + 1), Value.str (Str.ofString ">") (tk' + 1 + 1 + 1 + 1 + 1)] }) ::
        (Db, { cls := Value.type "tuple", data := Data.seq #[Value.str (Str.ofString "&lt;") (tk' + 1 + 1), Value.str (Str.ofString "<") (tk' + 1 + 1 + 1)] }) ::
        (Da, { cls := Value.type "tuple", data := Data.seq #[Value.str (Str.ofString "&amp;") tk', Value.str (Str.ofString "&") (tk' + 1)] }) :: (L' + 1, oC) :: news) F1 N1 ⟨[], x, t, _, o1, _, rfl, rfl, d2, rfl, rfl⟩ ?_
  clear F1 N1 d2
  have hnc : ∀ p ∈ news, p.1 ≠ L' + 1 := fun p hp => Nat.ne_of_lt (Nat.lt_succ_of_lt (l1 p hp))
  rintro n m₁ news₁ h₁ tk₁ F1 N1 ⟨pre, rest, tb, ts, oC, u, hxe, hn, dC, rfl, rfl⟩
  rcases rest with _ | ⟨c, r⟩
  · have dN : oC.data = Data.cell (some (Value.str (sx []) tb)) := dC
    clear dC
    walk_at "my steps"
    refine ite_neg (by rw [os_e, sx_bne]; simp) ?_
    walk_at "my steps"
    rw [List.append_nil] at hxe
    subst hxe
    exact hret _ _ _ (by k_asm) (fun p hp => (by k_asm : News h₀ L _ _) p ((show ∀ p ∈ _, p ∈ _ from (by walk_at "my sub")) p hp))
  · have hn' : n = r.length + 1 := hn
    by_cases hs : c = 38 ∨ c = 60 ∨ c = 62 ∨ c = 32
    · obtain ⟨y, hy, hyl, hq⟩ := four_of hs r
      clear hs
      have dN : oC.data = Data.cell (some (Value.str (sx (38 :: y)) tb)) := by rw [dC, hy]
      clear dC hy
      have h2 : x.length = pre.length + (r.length + 1) := by rw [hxe]; simp
      have hB : (sx (38 :: y)).length ≤ sizeLine := by
        rw [sx_len, sizeLine_eq]
        have h1 := (esc_len r).2
        simp only [List.length_cons]
        omega
      clear hyl
      walk_at "my steps"
      refine ite_pos (by rw [os_e, sx_bne]; simp) ?_
      walk_at "my steps"
      refine ite_neg (by rw [os_bad, item0, bad_of]; decide) ?_
      walk_at "my steps"
      refine ite_pos (by rw [os_amp, item0, sx_beq]; decide) ?_
      walk_at "my steps"
      refine q_var ?_
      intro Q₁ hQ₁
      k_dflt (refine LCt.Assign_ListComp_T (F₀ := by k_asm) (by rfl) (by with_unfolding_all rfl) (by with_unfolding_all rfl) (by decide) (by rfl) (by decide) (by rfl) (by rfl) (by rfl) ?_)
      walk1
      k_dflt (refine LCt.CompSrcT.ledger (by rfl) (by k_asm) (by k_asm) (by k_mem) (by first | size_fits | exact Nat.le_of_ble_eq_true rfl) ?_)
      intro g2
      walk_at "my turn"
      rcases hq with ⟨h38, hyc⟩ | hq
      · skip
        refine ite_pos (by simp [slice_to, item0, sx_beq, sx_bne, os_e, os_amp, os_1, os_2, os_3, os_4, hyc]) ?_
        walk_at "my steps"
        walk_at "my end"
        walk_at "my turn"
        refine ite_neg (by simp [slice_to, item0, sx_beq, sx_bne, os_e, os_amp, os_1, os_2, os_3, os_4, hyc]) ?_
        walk_at "my end"
        walk_at "my turn"
        refine ite_neg (by simp [slice_to, item0, sx_beq, sx_bne, os_e, os_amp, os_1, os_2, os_3, os_4, hyc]) ?_
        walk_at "my end"
        walk_at "my turn"
        refine ite_neg (by simp [slice_to, item0, sx_beq, sx_bne, os_e, os_amp, os_1, os_2, os_3, os_4, hyc]) ?_
        walk_at "my end"
        walk_at "my steps"
        refine hQ₁ _ _ ?_
        walk_at "my steps"
        refine ite_neg (by simp [slice_to, item0, sx_beq, sx_bne, os_e, os_amp, os_1, os_2, os_3, os_4]) ?_
        walk_at "my steps"
        refine add_sx pre [38] rfl os_amp (by simp only [List.length_cons, List.length_nil]; omega) ?_
        intro _ _
        walk_at "my steps"
        (with_reducible rename Fr g' _ _ _ => F9)
        (with_reducible rename News g' _ _ _ => N9)
        (with_reducible rename (PySem.Obj.data _ = _) => d9)
        rw [slice_from (by decide) (by rw [hyc]; simp only [List.length_cons]; omega), hyc] at d9
        exact ⟨_, _, _, _, r.length, rfl, F9, fun p hp => N9 p ((show ∀ p ∈ _, p ∈ _ from (by walk_at "my sub")) p hp), by omega, pre ++ [38], r, _, _, _, _, by rw [hxe, h38]; simp, rfl, d9, known2 rfl rfl, rfl⟩
      refine ite_neg (by
        rcases hq with ⟨-, q⟩ | ⟨-, q⟩ | ⟨-, q⟩ <;> simp [slice_to, item0, sx_beq, sx_bne, os_e, os_amp, os_1, os_2, os_3, os_4, q]) ?_
      walk_at "my end"
      walk_at "my turn"
      rcases hq with ⟨h60, hyc⟩ | hq
      · skip
        refine ite_pos (by simp [slice_to, item0, sx_beq, sx_bne, os_e, os_amp, os_1, os_2, os_3, os_4, hyc]) ?_
        walk_at "my steps"
        walk_at "my end"
        walk_at "my turn"
        refine ite_neg (by simp [slice_to, item0, sx_beq, sx_bne, os_e, os_amp, os_1, os_2, os_3, os_4, hyc]) ?_
        walk_at "my end"
        walk_at "my turn"
        refine ite_neg (by simp [slice_to, item0, sx_beq, sx_bne, os_e, os_amp, os_1, os_2, os_3, os_4, hyc]) ?_
        walk_at "my end"
        walk_at "my steps"
        refine hQ₁ _ _ ?_
        walk_at "my steps"
        refine ite_neg (by simp [slice_to, item0, sx_beq, sx_bne, os_e, os_amp, os_1, os_2, os_3, os_4]) ?_
        walk_at "my steps"
        refine add_sx pre [60] rfl os_lt (by simp only [List.length_cons, List.length_nil]; omega) ?_
        intro _ _
        walk_at "my steps"
        (with_reducible rename Fr g' _ _ _ => F9)
        (with_reducible rename News g' _ _ _ => N9)
        (with_reducible rename (PySem.Obj.data _ = _) => d9)
        rw [slice_from (by decide) (by rw [hyc]; simp only [List.length_cons]; omega), hyc] at d9
        exact ⟨_, _, _, _, r.length, rfl, F9, fun p hp => N9 p ((show ∀ p ∈ _, p ∈ _ from (by walk_at "my sub")) p hp), by omega, pre ++ [60], r, _, _, _, _, by rw [hxe, h60]; simp, rfl, d9, known2 rfl rfl, rfl⟩
      refine ite_neg (by
        rcases hq with ⟨-, q⟩ | ⟨-, q⟩ <;> simp [slice_to, item0, sx_beq, sx_bne, os_e, os_amp, os_1, os_2, os_3, os_4, q]) ?_
      walk_at "my end"
      walk_at "my turn"
      rcases hq with ⟨h62, hyc⟩ | hq
      · skip
        refine ite_pos (by simp [slice_to, item0, sx_beq, sx_bne, os_e, os_amp, os_1, os_2, os_3, os_4, hyc]) ?_
        walk_at "my steps"
        walk_at "my end"
        walk_at "my turn"
        refine ite_neg (by simp [slice_to, item0, sx_beq, sx_bne, os_e, os_amp, os_1, os_2, os_3, os_4, hyc]) ?_
        walk_at "my end"
        walk_at "my steps"
        refine hQ₁ _ _ ?_
        walk_at "my steps"
        refine ite_neg (by simp [slice_to, item0, sx_beq, sx_bne, os_e, os_amp, os_1, os_2, os_3, os_4]) ?_
        walk_at "my steps"
        refine add_sx pre [62] rfl os_gt (by simp only [List.length_cons, List.length_nil]; omega) ?_
        intro _ _
        walk_at "my steps"
        (with_reducible rename Fr g' _ _ _ => F9)
        (with_reducible rename News g' _ _ _ => N9)
        (with_reducible rename (PySem.Obj.data _ = _) => d9)
        rw [slice_from (by decide) (by rw [hyc]; simp only [List.length_cons]; omega), hyc] at d9
        exact ⟨_, _, _, _, r.length, rfl, F9, fun p hp => N9 p ((show ∀ p ∈ _, p ∈ _ from (by walk_at "my sub")) p hp), by omega, pre ++ [62], r, _, _, _, _, by rw [hxe, h62]; simp, rfl, d9, known2 rfl rfl, rfl⟩
      refine ite_neg (by simp [slice_to, item0, sx_beq, sx_bne, os_e, os_amp, os_1, os_2, os_3, os_4, hq.2]) ?_
      walk_at "my end"
      walk_at "my turn"
      · obtain ⟨h32, hyc⟩ := hq
        refine ite_pos (by simp [slice_to, item0, sx_beq, sx_bne, os_e, os_amp, os_1, os_2, os_3, os_4, hyc]) ?_
        walk_at "my steps"
        walk_at "my end"
        walk_at "my steps"
        refine hQ₁ _ _ ?_
        walk_at "my steps"
        refine ite_neg (by simp [slice_to, item0, sx_beq, sx_bne, os_e, os_amp, os_1, os_2, os_3, os_4]) ?_
        walk_at "my steps"
        refine add_sx pre [32] rfl os_bl (by simp only [List.length_cons, List.length_nil]; omega) ?_
        intro _ _
        walk_at "my steps"
        (with_reducible rename Fr g' _ _ _ => F9)
        (with_reducible rename News g' _ _ _ => N9)
        (with_reducible rename (PySem.Obj.data _ = _) => d9)
        rw [slice_from (by decide) (by rw [hyc]; simp only [List.length_cons]; omega), hyc] at d9
        exact ⟨_, _, _, _, r.length, rfl, F9, fun p hp => N9 p ((show ∀ p ∈ _, p ∈ _ from (by walk_at "my sub")) p hp), by omega, pre ++ [32], r, _, _, _, _, by rw [hxe, h32]; simp, rfl, d9, known2 rfl rfl, rfl⟩
    · have h38 : c ≠ 38 := fun q => hs (Or.inl q)
      have h60 : c ≠ 60 := fun q => hs (Or.inr (Or.inl q))
      have h62 : c ≠ 62 := fun q => hs (Or.inr (Or.inr (Or.inl q)))
      have h32 : c ≠ 32 := fun q => hs (Or.inr (Or.inr (Or.inr q)))
      have dN : oC.data = Data.cell (some (Value.str (sx (c :: esc r)) tb)) := by rw [dC, esc_cons]; simp [e1, h38, h60, h62, h32]
      clear dC
      have h2 : x.length = pre.length + (r.length + 1) := by rw [hxe]; simp
      have hB : (sx (c :: esc r)).length ≤ sizeLine := by
        rw [sx_len, sizeLine_eq]
        have h1 := (esc_len r).2
        simp only [List.length_cons]
        omega
      walk_at "my steps"
      refine ite_pos (by rw [os_e, sx_bne]; simp) ?_
      walk_at "my steps"
      refine ite_neg (by rw [os_bad, item0, bad_of]; simp [h60, h62, h32]) ?_
      walk_at "my steps"
      refine ite_neg (by rw [os_amp, item0, sx_beq]; simp [h38]) ?_
      walk_at "my steps"
      refine add_sx pre [c] rfl (item0 _ _) (by simp only [List.length_cons, List.length_nil]; omega) ?_
      intro _ _
      walk_at "my steps"
      (with_reducible rename Fr g' _ _ _ => F9)
      (with_reducible rename News g' _ _ _ => N9)
      (with_reducible rename (PySem.Obj.data _ = _) => d9)
      rw [slice_from (by decide) (by simp only [List.length_cons]; omega)] at d9
      exact ⟨_, _, _, _, r.length, rfl, F9, fun p hp => N9 p ((show ∀ p ∈ _, p ∈ _ from (by walk_at "my sub")) p hp), by omega, pre ++ [c], r, _, _, _, _, by rw [hxe]; simp, rfl, d9, known2 rfl rfl, rfl⟩
end Mine
end
theorem Mine.fresh_F1 : True := by
  w_top off
  first | walk1 | trivial
section
open PySem PySem.W PySem.Calls PyProof.Rows
namespace Mine
/-- the sheet's own table -/
abbrev sheetEs (w : World) (k1 k2 k3 k4 k5 : Tok) (v1 v2 v3 v4 v5 : Value) : List DictEntry :=
  [⟨PyData.keyHash w.params (Str.ofString "_tabsize"), .str (Str.ofString "_tabsize") k1, v1⟩, ⟨PyData.keyHash w.params (Str.ofString "_wrapcolumn"), .str (Str.ofString "_wrapcolumn") k2, v2⟩,
   ⟨PyData.keyHash w.params (Str.ofString "_linejunk"), .str (Str.ofString "_linejunk") k3, v3⟩, ⟨PyData.keyHash w.params (Str.ofString "_charjunk"), .str (Str.ofString "_charjunk") k4, v4⟩,
   ⟨PyData.keyHash w.params (Str.ofString "_prefix"), .str (Str.ofString "_prefix") k5, v5⟩]
local macro_rules | `(tactic| walk_at "my steps") => `(tactic| repeat' (first
  | (fail_if_success (first | (with_reducible show ite _ _ _) | (with_reducible show ((_ : Nat) ≤ _) → _) | (with_reducible show wpAny _ _ (exec (Stmt.Try _ _ _ _ _) _) _ _ _) | (with_reducible show TI.LeaveI _ _) | (with_reducible show wpAny _ _ (binaryOp _ (Value.str _ _) _) _ _ _) | (with_reducible show wpAny _ _ (call _ _ _) _ _ _))); (first | ((with_reducible show wpAny _ _ (storeName (envOf _ _ _ _ _) _ _) _ _ _); (with_reducible rename Fr _ _ _ _ => kF9); (with_reducible rename News _ _ _ _ => kN9); refine stN kF9 kN9 ?_; intro h' F' N'; (try k_sweep)) | (k_unfold; (try dsimp only)) | walk1 | (dsimp only; (fail_if_success (with_reducible show TI.LeaveI _ _)); walk1) | (leave1; walk_say "STEP leave1"; try dsimp only))))
theorem le_h1 : (Str.ofString "<td class=\"diff_header\"").length = 23 := by decide +kernel
theorem le_h2 : (Str.ofString ">").length = 1 := by decide +kernel
theorem le_h3 : (Str.ofString "</td><td nowrap=\"nowrap\">").length = 25 := by decide +kernel
theorem le_h4 : (Str.ofString "</td>").length = 5 := by decide +kernel
theorem le_h5 : (Str.ofString " id=\"").length = 5 := by decide +kernel
theorem le_h6 : (Str.ofString "\"").length = 1 := by decide +kernel
theorem le_e : (Str.ofString "").length = 0 := by decide +kernel
theorem le_0 : Str.empty.length = 0 := rfl
theorem rst_len (p : Nat → Bool) (l : List Nat) : (rst p l).length ≤ l.length := by
  rw [rst_take, List.length_take]; omega
local macro_rules | `(tactic| walk_at "execs cons") => `(tactic| refine wpAny_execs_cons ?_)
local macro_rules | `(tactic| walk_at "execs nil") => `(tactic| refine wpAny_execs_nil ?_)
local macro_rules | `(tactic| size_fits) => `(tactic| (simp only [PySem.Str.length_append, sx_len, le_h1, le_h2, le_h3, le_h4, le_h5, le_h6, le_e, le_0, PySem.sizeLine_eq]; omega))
local macro_rules | `(tactic| walk_at "And") => `(tactic| ((with_reducible show PySem.Str.length _ ≤ sizeLine ∧ _); refine ⟨by size_fits, ?_⟩))
local macro_rules | `(tactic| walk_at "my tok") => `(tactic| first | omega | (simp only [ne_eq]; omega) | (show (_ : Nat) ≠ 0; (try dsimp only); omega))
/-- the signs of a written text -/
def ol (s : String) : List Nat := (Str.ofString s).cps.toList
/-- the cell's signs -/
def cellOf (name num body : List Nat) : List Nat := ol "<td class=\"diff_header\"" ++ name ++ ol ">" ++ num ++ ol "</td><td nowrap=\"nowrap\">" ++ body ++ ol "</td>"
theorem rep_to {prog : Program} {w : World} {A : Around} {E : Value → Shared → Prop} {s : Shared} {x y z : Str} {t u v : Tok} {Q : Value → Shared → Prop} (a : List Nat) (c : Nat) (b r : List Nat) (hx : x = sx a) (hr : a.flatMap (put1 c b) = r) (hy : y = sx [c]) (hz : z = sx b) (hb : 1 < b.length ∧ b.length ≤ 6) (ha : a.length ≤ 1000000) (hu : u ≠ 0) (hv : v ≠ 0) (huv : u ≠ v)
    (h : ∀ t' k, s.toks ≤ k → Q (.str (sx r) t') { s with toks := k }) : wpAny (model prog w) A (call (.builtin "str.replace") [.str x t, .str y u, .str z v]) Q E s := by
  subst hr
  exact rep_sx a c b hx hy hz hb ha hu hv huv h
theorem cell_eq (idl numl bl : List Nat) {id num b : Str} (h1 : id = sx idl) (h2 : num = sx numl) (h3 : b = sx bl) :
    Str.empty ++ Str.ofString "<td class=\"diff_header\"" ++ id ++ Str.ofString ">" ++ num ++ Str.ofString "</td><td nowrap=\"nowrap\">" ++ b ++ Str.ofString "</td>" = sx (cellOf idl numl bl) := by
  subst h1 h2 h3
  apply Str.ext'
  simp only [Str.cps_append, cellOf, ol, sx]
  apply Array.ext'
  simp [Str.empty]
set_option rowWalk.seconds 0
set_option maxRecDepth 100000 in
set_option maxHeartbeats 8000000 in
theorem fmt_s (w : World) (mg mb : Str → Option Value) (mean : ExcName → Option Value) :
    ∀ (cn : Str) (cs : Scope) (a : Addr) (ccd : Value) (h₀ : Heap) (L : Addr) (m : Str → Option Value) (news : List (Addr × Obj)) (s : Shared)
      (X : Addr) (sd : Int) (ts : Tok) (fv : Value) (num txt : List Nat) (tn tt : Tok) (Q E : Value → Shared → Prop),
    Fr h₀ L s.heap m → (hd.heap_39 w.params).In h₀ → News h₀ L s.heap news → Top hd.view_39 (looseW hd.view_39 LL) mean mg mb h₀ → cs.kind = .function →
    num.length ≤ 100 → txt.length ≤ 1000 →
    (∀ t' h' tk', Fr h₀ L h' m → News h₀ L h' news → Q (.str (sx (cellOf [] num (rst Unicode.isSpace (esc txt)))) t') { s with heap := h', toks := tk' }) →
    wpAny (model PySem.Challenge.rw_dv0004_01.row.prog w) (callerA.deeper (envOf cn cs L a ccd)) (call (.ref 88) [.ref X, .int sd ts, fv, .str (sx num) tn, .str (sx txt) tt]) Q E s := by
  k_fill
  intro cn cs a ccd h₀ L m news s X sd ts fv num txt tn tt Q E F K N T hk hnum htxt hret
  refine wpAny_call ?_
  k_dflt (refine TLgL.code_def (by k_asm) (by k_asm) (by k_asm) (by k_asm) (by rfl) (by k_is) (by k_is) (by k_room) (by exact BindsTo.of_eq rfl) (locs rfl) (hck := hk) ?_)
  intro oL' h' tiC' tiF' tiE' F' N'
  replace tiE' := TLgL.allNe_of tiE'
  dsimp only
  walk_at "my steps"
  refine wpAny_toks ?_
  walk1
  walk_at "my steps"
  refine mod_d_str rfl ?_
  intro h9 tk9 e9 x9
  refine TLg.noted_new1 (new := news) (by rfl) (by assumption) x9 (by assumption) (by assumption) (by assumption) ?_
  clear x9
  intro h8 sl8 tiF8 tiH8
  have tiHH' := TT.HeldNA.held tiH8
  walk_at "my steps"
  intro htk
  replace htk := Nat.le_trans (Nat.le_add_left 5 s.toks) htk
  dsimp only at htk
  walk_at "my steps"
  refine rep_sx txt 38 [38, 97, 109, 112, 59] rfl os_amp os_1 (by decide) (by omega) (by walk_at "my tok") (Nat.succ_ne_zero _) (Nat.ne_of_lt (Nat.lt_succ_self _)) ?_
  intro _ k1 hk1
  dsimp only at hk1
  have q1 := put1_len (c := 38) (z := [38, 97, 109, 112, 59]) (by decide) txt
  walk_at "my steps"
  refine rep_sx _ 62 [38, 103, 116, 59] rfl os_gt os_3 (by decide) (by omega) (by walk_at "my tok") (Nat.succ_ne_zero _) (Nat.ne_of_lt (Nat.lt_succ_self _)) ?_
  intro _ k2 hk2
  dsimp only at hk2
  have q2 := put1_len (c := 62) (z := [38, 103, 116, 59]) (by decide) (txt.flatMap (put1 38 [38, 97, 109, 112, 59]))
  walk_at "my steps"
  refine rep_sx _ 60 [38, 108, 116, 59] rfl os_lt os_2 (by decide) (by omega) (by walk_at "my tok") (Nat.succ_ne_zero _) (Nat.ne_of_lt (Nat.lt_succ_self _)) ?_
  intro _ k3 hk3
  dsimp only at hk3
  have q3 := put1_len (c := 60) (z := [38, 108, 116, 59]) (by decide) ((txt.flatMap (put1 38 [38, 97, 109, 112, 59])).flatMap (put1 62 [38, 103, 116, 59]))
  walk_at "my steps"
  refine rep_to _ 32 [38, 110, 98, 115, 112, 59] (esc txt) rfl (flat4 txt) os_bl os_4 (by decide) (by omega) (by walk_at "my tok") (Nat.succ_ne_zero _) (Nat.ne_of_lt (Nat.lt_succ_self _)) ?_
  intro _ k4 hk4
  have q4 := (esc_len txt).2
  walk_at "my steps"
  refine rst_sx _ rfl (by omega) ?_
  intro _ _
  clear q1 q2 q3
  have q5 := rst_len Unicode.isSpace (esc txt)
  walk_at "my steps"
  show TI.LeaveI _ _
  (with_reducible rename Fr _ _ _ _ => F8)
  (with_reducible rename News _ _ _ _ => N8)
  dsimp only
  refine TLg.leave_back (new := news) tiC' F8 N8 tiE' ?_
  intro F9 N9
  exact (congrArg (fun z => Q (Value.str z _) _) (cell_eq [] num (rst Unicode.isSpace (esc txt)) os_e rfl rfl)).mpr (hret _ _ _ F9 N9)
theorem fresh_F2 : True := by
  w_top off
  first | walk1 | trivial
theorem id_eq (p num : List Nat) : Str.empty ++ Str.ofString " id=\"" ++ sx p ++ sx num ++ Str.ofString "\"" = sx (ol " id=\"" ++ p ++ num ++ ol "\"") := by
  apply Str.ext'
  simp only [Str.cps_append, ol, sx]
  apply Array.ext'
  simp [Str.empty]
set_option rowWalk.seconds 0
set_option maxRecDepth 100000 in
set_option maxHeartbeats 8000000 in
theorem fmt_n (w : World) (mg mb : Str → Option Value) (mean : ExcName → Option Value) :
    ∀ (cn : Str) (cs : Scope) (a : Addr) (ccd : Value) (h₀ : Heap) (L : Addr) (m : Str → Option Value) (news : List (Addr × Obj)) (s : Shared)
      (X DX PL : Addr) (k1 k2 k3 k4 k5 : Tok) (v1 v2 v3 v4 : Value) (nE nP : Nat) (ps : List Value) (p : List Nat) (tp : Tok) (sd : Int) (ts : Tok) (fv nv : Value) (num txt : List Nat) (tt : Tok) (Q E : Value → Shared → Prop),
    Fr h₀ L s.heap m → (hd.heap_39 w.params).In h₀ → News h₀ L s.heap news → Top hd.view_39 (looseW hd.view_39 LL) mean mg mb h₀ → cs.kind = .function →
    (X, instObj 113 DX) ∈ news → (DX, dictOf (sheetEs w k1 k2 k3 k4 k5 v1 v2 v3 v4 (.ref PL)) nE) ∈ news → (PL, W.listOf ps.toArray nP) ∈ news →
    0 ≤ sd → sd < 2 → ps[sd.toNat]? = some (.str (sx p) tp) → p.length ≤ 100 →
    (∀ (A : Around) (E : Value → Shared → Prop) (s : Shared) (Q : Value → Shared → Prop) (t : Tok), (∀ t' k, Q (.str (sx num) t') { s with toks := k }) → wpAny (model PySem.Challenge.rw_dv0004_01.row.prog w) A (binaryOp .Mod (.str (Str.ofString "%d") t) nv) Q E s) →
    num.length ≤ 100 → txt.length ≤ 1000 →
    (∀ t' h' tk', Fr h₀ L h' m → News h₀ L h' news → Q (.str (sx (cellOf (ol " id=\"" ++ p ++ num ++ ol "\"") num (rst Unicode.isSpace (esc txt)))) t') { s with heap := h', toks := tk' }) →
    wpAny (model PySem.Challenge.rw_dv0004_01.row.prog w) (callerA.deeper (envOf cn cs L a ccd)) (call (.ref 88) [.ref X, .int sd ts, fv, nv, .str (sx txt) tt]) Q E s := by
  k_fill
  intro cn cs a ccd h₀ L m news s X DX PL k1 k2 k3 k4 k5 v1 v2 v3 v4 nE nP ps p tp sd ts fv nv num txt tt Q E F K N T hk m1 m2 m3 hs0 hs2 hps hp hmod hnum htxt hret
  refine wpAny_call ?_
  k_dflt (refine TLgL.code_def (by k_asm) (by k_asm) (by k_asm) (by k_asm) (by rfl) (by k_is) (by k_is) (by k_room) (by exact BindsTo.of_eq rfl) (locs rfl) (hck := hk) ?_)
  intro oL' h' tiC' tiF' tiE' F' N'
  have m1' := List.mem_append_left [(L, oL')] m1
  have m2' := List.mem_append_left [(L, oL')] m2
  have m3' := List.mem_append_left [(L, oL')] m3
  replace tiE' := TLgL.allNe_of tiE'
  dsimp only
  walk_at "my steps"
  refine wpAny_toks ?_
  walk1
  walk_at "my steps"
  refine hmod _ _ _ _ _ ?_
  intro t9 k9
  walk_at "my steps"
  refine lst_at (by assumption) m3' hs0 (by omega) hps ?_
  walk_at "my steps"
  intro htk
  replace htk := Nat.le_trans (Nat.le_add_left 5 s.toks) htk
  dsimp only at htk
  walk_at "my steps"
  refine rep_sx txt 38 [38, 97, 109, 112, 59] rfl os_amp os_1 (by decide) (by omega) (by walk_at "my tok") (Nat.succ_ne_zero _) (Nat.ne_of_lt (Nat.lt_succ_self _)) ?_
  intro _ k1 hk1
  dsimp only at hk1
  have q1 := put1_len (c := 38) (z := [38, 97, 109, 112, 59]) (by decide) txt
  walk_at "my steps"
  refine rep_sx _ 62 [38, 103, 116, 59] rfl os_gt os_3 (by decide) (by omega) (by walk_at "my tok") (Nat.succ_ne_zero _) (Nat.ne_of_lt (Nat.lt_succ_self _)) ?_
  intro _ k2 hk2
  dsimp only at hk2
  have q2 := put1_len (c := 62) (z := [38, 103, 116, 59]) (by decide) (txt.flatMap (put1 38 [38, 97, 109, 112, 59]))
  walk_at "my steps"
  refine rep_sx _ 60 [38, 108, 116, 59] rfl os_lt os_2 (by decide) (by omega) (by walk_at "my tok") (Nat.succ_ne_zero _) (Nat.ne_of_lt (Nat.lt_succ_self _)) ?_
  intro _ k3 hk3
  dsimp only at hk3
  have q3 := put1_len (c := 60) (z := [38, 108, 116, 59]) (by decide) ((txt.flatMap (put1 38 [38, 97, 109, 112, 59])).flatMap (put1 62 [38, 103, 116, 59]))
  walk_at "my steps"
  refine rep_to _ 32 [38, 110, 98, 115, 112, 59] (esc txt) rfl (flat4 txt) os_bl os_4 (by decide) (by omega) (by walk_at "my tok") (Nat.succ_ne_zero _) (Nat.ne_of_lt (Nat.lt_succ_self _)) ?_
  intro _ k4 hk4
  have q4 := (esc_len txt).2
  walk_at "my steps"
  refine rst_sx _ rfl (by omega) ?_
  intro _ _
  clear q1 q2 q3
  have q5 := rst_len Unicode.isSpace (esc txt)
  walk_at "my steps"
  show TI.LeaveI _ _
  (with_reducible rename Fr _ _ _ _ => F8)
  (with_reducible rename News _ _ _ _ => N8)
  dsimp only
  refine TLg.leave_back (new := news) tiC' F8 N8 tiE' ?_
  intro F9 N9
  exact (congrArg (fun z => Q (Value.str z _) _) (cell_eq (ol " id=\"" ++ p ++ num ++ ol "\"") num (rst Unicode.isSpace (esc txt)) (id_eq p num) rfl rfl)).mpr (hret _ _ _ F9 N9)
theorem fresh_F3 : True := by
  w_top off
  first | walk1 | trivial
set_option rowWalk.seconds 0
set_option maxRecDepth 100000 in
set_option maxHeartbeats 8000000 in
theorem fmt_r (w : World) (mg mb : Str → Option Value) (mean : ExcName → Option Value) :
    ∀ (cn : Str) (cs : Scope) (a : Addr) (ccd : Value) (h₀ : Heap) (L : Addr) (m : Str → Option Value) (news : List (Addr × Obj)) (s : Shared)
      (X DX PL : Addr) (k1 k2 k3 k4 k5 : Tok) (v1 v2 v3 v4 : Value) (nE nP : Nat) (ps : List Value) (sd : Int) (ts : Tok) (fv nv : Value) (num txt : List Nat) (tt : Tok) (Q E : Value → Shared → Prop),
    Below callerA h₀ [] h₀ → Fr h₀ L s.heap m → (hd.heap_39 w.params).In h₀ → News h₀ L s.heap news → Top hd.view_39 (looseW hd.view_39 LL) mean mg mb h₀ → cs.kind = .function →
    (X, instObj 113 DX) ∈ news → (DX, dictOf (sheetEs w k1 k2 k3 k4 k5 v1 v2 v3 v4 (.ref PL)) nE) ∈ news → (PL, W.listOf ps.toArray nP) ∈ news →
    0 ≤ sd → (ps.length : Int) ≤ sd → sd < 1000 →
    (∀ (A : Around) (E : Value → Shared → Prop) (s : Shared) (Q : Value → Shared → Prop) (t : Tok), (∀ t' k, Q (.str (sx num) t') { s with toks := k }) → wpAny (model PySem.Challenge.rw_dv0004_01.row.prog w) A (binaryOp .Mod (.str (Str.ofString "%d") t) nv) Q E s) →
    (∀ e t tm h' tk' g, Fr h₀ L g m → g.UpToSlots h' → RaisedK h₀ [envOf cn cs L a ccd] e (.type "IndexError") t [.str (Str.ofString "list index out of range") tm] news h' → E (.ref e) { s with heap := h', toks := tk' }) →
    wpAny (model PySem.Challenge.rw_dv0004_01.row.prog w) (callerA.deeper (envOf cn cs L a ccd)) (call (.ref 88) [.ref X, .int sd ts, fv, nv, .str (sx txt) tt]) Q E s := by
  k_fill
  intro cn cs a ccd h₀ L m news s X DX PL k1 k2 k3 k4 k5 v1 v2 v3 v4 nE nP ps sd ts fv nv num txt tt Q E B F K N T hk m1 m2 m3 hs0 hs2 hs3 hmod hret
  refine wpAny_call ?_
  k_dflt (refine' code_def ?k1 ?k2 ?k3 ?k4 ?k5 ?kA ?kF ?kK ?k6 ?k7 ?k8 ?k9 ?kB ?_ ?c2 ?c3 ?c4 ?c5; (case kA => exact rfl); (case kF => exact rfl); (case kK => assumption); (case k1 => k_asm); (case k2 => k_asm); (case k3 => k_asm); (case k4 => k_asm); (case k5 => k_asm); (case k6 => k_is); (case k7 => k_is); (case k8 => k_room); (case k9 => exact BindsTo.of_eq rfl); (case c5 => decide); (case kB => exact locs rfl); (case c2 => exact rfl); (case c3 => exact rfl); (case c4 => exact rfl); k_whole; intro g' L' h' FG' F' N' B' X' T'; (try dsimp only))
  walk_at "my steps"
  walk1
  walk_at "my steps"
  refine hmod _ _ _ _ _ ?_
  intro t9 k9
  walk_at "my steps"
  refine item_out rfl (News.isList (by assumption) m3) hs0 (by simpa using hs2) (by omega) ?_
  intro h6 tk6 e6 tm6 hx6
  refine own_look (by assumption) hx6.of (by assumption) (by assumption) ?_
  intro h5 t5 G5 FG5 up5 R5
  have D5 : KtsDicts ([envOf cn cs L a ccd].filterMap (·.frame)) g' := fun b hb => by
    have e : b = L := List.mem_singleton.mp hb
    subst e
    obtain ⟨oL, es, ep, hL, hLd, _⟩ := FG'.ns
    exact ⟨oL, es, ep, hL, hLd⟩
  k_dflt (refine' pass_S R5 FG5 ?K up5 ?XB ?TB D5 ?T ?_; (case K => assumption); (case XB => exact K); (case TB => assumption); (case T => kts_test))
  intro h4 R4 up4
  k_dflt (refine' on_S R4 up4 ?_)
  intro h3 R3 up3
  k_dflt (refine' leave_heldS R3 FG5 up3 ?_)
  intro h2 S2 R2 up2
  exact hret _ _ _ _ _ g' FG' up2 R2
end Mine
end
theorem Mine.fresh_L0 : True := by
  w_top off
  first | walk1 | trivial
section
open PySem PySem.W PySem.Calls PyProof.Rows
namespace Mine
def bodyOf : Stmt → List Stmt
  | .FunctionDef _ _ b _ _ _ _ _ _ _ => b
  | _ => []
def scopeOf : Stmt → Scope
  | .FunctionDef _ _ _ _ _ _ sc _ _ _ => sc
  | _ => default
def nthBody : Nat → List Stmt → List Stmt
  | 0, s :: _ => bodyOf s
  | n + 1, _ :: r => nthBody n r
  | _, [] => []
def nthScope : Nat → List Stmt → Scope
  | 0, s :: _ => scopeOf s
  | n + 1, _ :: r => nthScope n r
  | _, [] => default
/-- the law's own statements, and its names -/
def lawB : List Stmt := nthBody 11 PySem.Challenge.pw_dv0004_01.main.body
def lawSc : Scope := nthScope 11 PySem.Challenge.pw_dv0004_01.main.body
/-- what holds throughout the call -/
structure Cx (w : World) (mg mb : Str → Option Value) (mean : ExcName → Option Value) (h₀ : Heap) (sc : Addr) (vs : List Value) (ns : List Int) : Prop where
  K : (hd.heap_39 w.params).In h₀
  T : Top hd.view_39 (looseW hd.view_39 LL) mean mg mb h₀
  B : Below callerA h₀ [] h₀
  hL : h₀.IsList sc vs.toArray
  hI : IntsAre vs ns
  h63 : ns.length ≤ 63
end Mine
end
theorem Mine.fresh_LA : True := by
  w_top off
  first | walk1 | trivial
section
open PySem PySem.W PySem.Calls PyProof.Rows
namespace Mine
set_option rowWalk.seconds 0
local macro_rules | `(tactic| walk_at "my steps") => `(tactic| repeat' (first
  | (fail_if_success (first | (with_reducible show ite _ _ _) | (with_reducible show _ = _ ∧ _))); (walk_at "my move")))
set_option maxRecDepth 100000 in
set_option maxHeartbeats 8000000 in
theorem segA {w : World} {mg mb : Str → Option Value} {mean : ExcName → Option Value} {h₀ : Heap} {sc : Addr} {vs : List Value} {ns : List Int} (C : Cx w mg mb mean h₀ sc vs ns) {L fa : Addr} {cd : Value} {E : Value → Shared → Prop} {s : Shared} {u : Str → Option Value}
    (F : Fr h₀ L s.heap (fun y => if y = Str.ofString "script" then some (.ref sc) else u y)) :
    wpAny (model PySem.Challenge.rw_dv0004_01.row.prog w) (callerA.deeper (envOf (Str.ofString "law") lawSc L fa cd)) (execs (lawB.take 2) (envOf (Str.ofString "law") lawSc L fa cd))
      (fun f s' => f = .next ∧ ∃ (a b : Int) (t r : Tok) (h' : Heap) (tk : Nat), s' = { s with heap := h', toks := tk } ∧
        Fr h₀ L h' (fun y => if y = Str.ofString "second" then some (.int b r) else if y = Str.ofString "first" then some (.int a t) else if y = Str.ofString "script" then some (.ref sc) else u y)) E s := by
  have K := C.K
  revert K
  k_fill
  intro K
  obtain ⟨_, T, B, hL, hI, h63⟩ := C
  have N : News h₀ L s.heap [] := News.nil
  simp only [lawB, lawSc, nthBody, nthScope, bodyOf, scopeOf, PySem.Challenge.pw_dv0004_01, List.take_succ_cons, List.take_zero]
  walk_at "my steps"
  by_cases h0 : ns = []
  · refine ite_neg (by simp [h0]) ?_
    walk_at "my steps"
    refine ite_neg (by simp [h0]) ?_
    walk_at "my steps"
    exact ⟨rfl, _, _, _, _, _, _, rfl, by assumption⟩
  · refine ite_pos (by simp [h0]) ?_
    have hpos : 0 < ns.length := List.length_pos_iff.mpr h0
    walk_at "my steps"
    by_cases h1 : 1 < ns.length
    · refine ite_pos (by simp; omega) ?_
      walk_at "my steps"
      exact ⟨rfl, _, _, _, _, _, _, rfl, by assumption⟩
    · refine ite_neg (by simp; omega) ?_
      walk_at "my steps"
      exact ⟨rfl, _, _, _, _, _, _, rfl, by assumption⟩
theorem fresh_LB : True := by
  w_top off
  first | walk1 | trivial
set_option rowWalk.seconds 0
theorem fr_dup {h₀ h : Heap} {L : Addr} {x : Str} {v v' : Value} {m : Str → Option Value} (F : Fr h₀ L h (fun y => if y = x then some v else if y = x then some v' else m y)) : Fr h₀ L h (fun y => if y = x then some v else m y) := by
  have e : (fun y => if y = x then some v else if y = x then some v' else m y) = fun y => if y = x then some v else m y := by
    funext y
    by_cases q : y = x <;> simp [q]
  rw [e] at F; exact F
theorem fmod40 (x : Int) : (Int.fmod x (10 ^ 40)).natAbs < 10 ^ 40 := by
  have h1 := fmod_lo x (n := 10 ^ 40) (by decide)
  have h2 := fmod_hi x (n := 10 ^ 40) (by decide)
  omega
set_option maxRecDepth 100000 in
set_option maxHeartbeats 8000000 in
theorem segB {w : World} {mg mb : Str → Option Value} {mean : ExcName → Option Value} {h₀ : Heap} {sc : Addr} {vs : List Value} {ns : List Int} (C : Cx w mg mb mean h₀ sc vs ns) {L fa : Addr} {cd : Value} {E : Value → Shared → Prop} {s : Shared} {u : Str → Option Value}
    {a b : Int} {t r : Tok} (F : Fr h₀ L s.heap (fun y => if y = Str.ofString "second" then some (.int b r) else if y = Str.ofString "first" then some (.int a t) else if y = Str.ofString "script" then some (.ref sc) else u y)) :
    wpAny (model PySem.Challenge.rw_dv0004_01.row.prog w) (callerA.deeper (envOf (Str.ofString "law") lawSc L fa cd)) (execs ((lawB.drop 2).take 2) (envOf (Str.ofString "law") lawSc L fa cd))
      (fun f s' => f = .next ∧ ∃ (n : Int) (q : Tok) (h' : Heap) (tk : Nat), s' = { s with heap := h', toks := tk } ∧ n.natAbs < 10 ^ 40 ∧
        Fr h₀ L h' (fun y => if y = Str.ofString "number" then some (.int n q) else if y = Str.ofString "second" then some (.int b r) else if y = Str.ofString "first" then some (.int a t) else if y = Str.ofString "script" then some (.ref sc) else u y)) E s := by
  have K := C.K
  revert K
  k_fill
  intro K
  obtain ⟨_, T, B, hL, hI, h63⟩ := C
  have N : News h₀ L s.heap [] := News.nil
  simp only [lawB, lawSc, nthBody, nthScope, bodyOf, scopeOf, PySem.Challenge.pw_dv0004_01, List.take_succ_cons, List.take_zero, List.drop_succ_cons, List.drop_zero]
  walk_at "my steps"
  by_cases hb : b < 0
  · refine ite_pos (by simp [hb]) ?_
    walk_at "my steps"
    refine ⟨rfl, _, _, _, _, rfl, ?_, fr_dup (by assumption)⟩
    rw [Int.natAbs_neg]; exact fmod40 _
  · refine ite_neg (by simp [hb]) ?_
    walk_at "my steps"
    exact ⟨rfl, _, _, _, _, rfl, fmod40 _, by assumption⟩
/-- a line's number: a whole one or a bool (counted), or a text -/
def Num (nv : Value) (c : Bool) (sh : List Nat) : Prop :=
  sh.length ≤ 100 ∧ ((c = true ∧ ((∃ n t, nv = .int n t ∧ Str.ofString (toString n) = sx sh ∧ n.natAbs < 10 ^ 40) ∨ ∃ b : Bool, nv = .bool b ∧ sh = [if b then 49 else 48])) ∨ (c = false ∧ ∃ t, nv = .str (sx sh) t))
theorem dig_len {n : Int} (h : n.natAbs < 10 ^ 40) : (Str.ofString (toString n)).cps.toList.length ≤ 100 := by
  have h1 := int_text_length_le10 (k := 40) (by decide) h
  have h2 := PySem.ofString_length (toString n)
  simp only [Str.length] at h2
  simp only [Array.length_toList]
  omega
theorem endC0 {h₀ h : Heap} {L : Addr} {x : Str} {ts : Tok} {cv nv : Value} {R : Str → Option Value} (sh : List Nat) (e : x = sx sh)
    (F : Fr h₀ L h (fun y => if y = Str.ofString "shown" then some (.str x ts) else if y = Str.ofString "counted" then some cv else if y = Str.ofString "number" then some nv else R y)) :
    Fr h₀ L h (fun y => if y = Str.ofString "shown" then some (.str (sx sh) ts) else if y = Str.ofString "counted" then some cv else if y = Str.ofString "number" then some nv else R y) := by subst e; exact F
theorem endC {h₀ h : Heap} {L : Addr} {x : Str} {ts : Tok} {cv nv nv' : Value} {R : Str → Option Value} (sh : List Nat) (e : x = sx sh)
    (F : Fr h₀ L h (fun y => if y = Str.ofString "shown" then some (.str x ts) else if y = Str.ofString "counted" then some cv else if y = Str.ofString "number" then some nv else if y = Str.ofString "number" then some nv' else R y)) :
    Fr h₀ L h (fun y => if y = Str.ofString "shown" then some (.str (sx sh) ts) else if y = Str.ofString "counted" then some cv else if y = Str.ofString "number" then some nv else R y) := by
  refine endC0 sh e ?_
  have q : (fun y => if y = Str.ofString "shown" then some (Value.str x ts) else if y = Str.ofString "counted" then some cv else if y = Str.ofString "number" then some nv else if y = Str.ofString "number" then some nv' else R y) =
      fun y => if y = Str.ofString "shown" then some (Value.str x ts) else if y = Str.ofString "counted" then some cv else if y = Str.ofString "number" then some nv else R y := by
    funext y
    by_cases h : y = Str.ofString "number" <;> simp only [h, if_true, if_false]
  rw [q] at F; exact F
theorem one_of (b : Bool) : Str.ofString (toString (if b = true then (1 : Int) else 0)) = sx [if b then 49 else 48] := by cases b <;> decide +kernel
set_option maxRecDepth 100000 in
set_option maxHeartbeats 8000000 in
theorem segC {w : World} {mg mb : Str → Option Value} {mean : ExcName → Option Value} {h₀ : Heap} {sc : Addr} {vs : List Value} {ns : List Int} (C : Cx w mg mb mean h₀ sc vs ns) {L fa : Addr} {cd : Value} {E : Value → Shared → Prop} {s : Shared} {u : Str → Option Value}
    {a b n : Int} {t r q : Tok} (hn : n.natAbs < 10 ^ 40) (F : Fr h₀ L s.heap (fun y => if y = Str.ofString "number" then some (.int n q) else if y = Str.ofString "second" then some (.int b r) else if y = Str.ofString "first" then some (.int a t) else if y = Str.ofString "script" then some (.ref sc) else u y)) :
    wpAny (model PySem.Challenge.rw_dv0004_01.row.prog w) (callerA.deeper (envOf (Str.ofString "law") lawSc L fa cd)) (execs ((lawB.drop 4).take 6) (envOf (Str.ofString "law") lawSc L fa cd))
      (fun f s' => f = .next ∧ ∃ (nv : Value) (c : Bool) (sh : List Nat) (tsh : Tok) (h' : Heap) (tk : Nat), s' = { s with heap := h', toks := tk } ∧ Num nv c sh ∧
        Fr h₀ L h' (fun y => if y = Str.ofString "shown" then some (.str (sx sh) tsh) else if y = Str.ofString "counted" then some (.bool c) else if y = Str.ofString "number" then some nv else if y = Str.ofString "second" then some (.int b r) else if y = Str.ofString "first" then some (.int a t) else if y = Str.ofString "script" then some (.ref sc) else u y)) E s := by
  have K := C.K
  revert K
  k_fill
  intro K
  obtain ⟨_, T, B, hL, hI, h63⟩ := C
  have N : News h₀ L s.heap [] := News.nil
  simp only [lawB, lawSc, nthBody, nthScope, bodyOf, scopeOf, PySem.Challenge.pw_dv0004_01, List.take_succ_cons, List.take_zero, List.drop_succ_cons, List.drop_zero]
  walk_at "my steps"
  by_cases h4 : a.fmod 8 = 4
  · refine ite_pos (by rw [h4]; decide) ?_
    walk_at "my steps"
    refine ite_neg (by rw [h4]; decide) ?_
    walk_at "my steps"
    refine ite_neg (by rw [h4]; decide) ?_
    walk_at "my steps"
    refine ite_neg (by rw [h4]; decide) ?_
    walk_at "my steps"
    refine ite_pos (by decide) ?_
    walk_at "my steps"
    (with_reducible rename Fr h₀ L _ _ => F9)
    exact ⟨rfl, _, true, [if (b.fmod 2 == 0) = true then 49 else 48], _, _, _, rfl, ⟨by simp, .inl ⟨rfl, .inr ⟨_, rfl, rfl⟩⟩⟩, endC _ (one_of _) F9⟩
  by_cases h5 : a.fmod 8 = 5
  · skip
    refine ite_neg (by rw [h5]; decide) ?_
    walk_at "my steps"
    refine ite_pos (by rw [h5]; decide) ?_
    walk_at "my steps"
    refine ite_neg (by rw [h5]; decide) ?_
    walk_at "my steps"
    refine ite_neg (by rw [h5]; decide) ?_
    walk_at "my steps"
    refine ite_neg (by decide) ?_
    walk_at "my steps"
    (with_reducible rename Fr h₀ L _ _ => F9)
    rw [os_e] at F9
    exact ⟨rfl, _, false, [], _, _, _, rfl, ⟨by simp, .inr ⟨rfl, _, rfl⟩⟩, endC _ rfl F9⟩
  by_cases h6 : a.fmod 8 = 6
  · skip
    refine ite_neg (by rw [h6]; decide) ?_
    walk_at "my steps"
    refine ite_neg (by rw [h6]; decide) ?_
    walk_at "my steps"
    refine ite_pos (by rw [h6]; decide) ?_
    walk_at "my steps"
    refine ite_neg (by rw [h6]; decide) ?_
    walk_at "my steps"
    refine ite_neg (by decide) ?_
    walk_at "my steps"
    (with_reducible rename Fr h₀ L _ _ => F9)
    rw [os_gt] at F9
    exact ⟨rfl, _, false, [62], _, _, _, rfl, ⟨by simp, .inr ⟨rfl, _, rfl⟩⟩, endC _ rfl F9⟩
  by_cases h7 : a.fmod 8 = 7
  · skip
    refine ite_neg (by rw [h7]; decide) ?_
    walk_at "my steps"
    refine ite_neg (by rw [h7]; decide) ?_
    walk_at "my steps"
    refine ite_neg (by rw [h7]; decide) ?_
    walk_at "my steps"
    refine ite_pos (by rw [h7]; decide) ?_
    walk_at "my steps"
    refine ite_neg (by decide) ?_
    walk_at "my steps"
    (with_reducible rename Fr h₀ L _ _ => F9)
    have hx := sx_of (Str.ofString (toString n))
    rw [hx] at F9
    exact ⟨rfl, _, false, (Str.ofString (toString n)).cps.toList, _, _, _, rfl, ⟨dig_len hn, .inr ⟨rfl, _, rfl⟩⟩, endC _ rfl F9⟩
  · skip
    refine ite_neg (by simp [h4]) ?_
    walk_at "my steps"
    refine ite_neg (by simp [h5]) ?_
    walk_at "my steps"
    refine ite_neg (by simp [h6]) ?_
    walk_at "my steps"
    refine ite_neg (by simp [h7]) ?_
    walk_at "my steps"
    refine ite_pos (by decide) ?_
    walk_at "my steps"
    (with_reducible rename Fr h₀ L _ _ => F9)
    exact ⟨rfl, _, true, (Str.ofString (toString n)).cps.toList, _, _, _, rfl, ⟨dig_len hn, .inl ⟨rfl, .inl ⟨_, _, rfl, sx_of _, hn⟩⟩⟩, endC0 _ (sx_of _) F9⟩
theorem fresh_LD : True := by
  w_top off
  first | walk1 | trivial
set_option rowWalk.seconds 0
/-- the nine white signs -/
def wht : List Nat := [9, 10, 13, 11, 12, 28, 31, 160, 8195]
theorem os_wht : Str.ofString "\t\n\x0d\x0b\x0c\x1c\x1f\u00a0\u2003" = sx wht := by decide +kernel
/-- the frame's names behind the first nine statements -/
abbrev mC (nv : Value) (c : Bool) (sh : List Nat) (tsh : Tok) (a b : Int) (t r : Tok) (sc : Addr) (u : Str → Option Value) : Str → Option Value :=
  fun y => if y = Str.ofString "shown" then some (.str (sx sh) tsh) else if y = Str.ofString "counted" then some (.bool c) else if y = Str.ofString "number" then some nv else if y = Str.ofString "second" then some (.int b r) else if y = Str.ofString "first" then some (.int a t) else if y = Str.ofString "script" then some (.ref sc) else u y
set_option maxRecDepth 100000 in
set_option maxHeartbeats 8000000 in
theorem segD {w : World} {mg mb : Str → Option Value} {mean : ExcName → Option Value} {h₀ : Heap} {sc : Addr} {vs : List Value} {ns : List Int} (C : Cx w mg mb mean h₀ sc vs ns) {L fa : Addr} {cd : Value} {E : Value → Shared → Prop} {s : Shared} {u : Str → Option Value}
    {a b : Int} {t r tsh : Tok} {nv : Value} {c : Bool} {sh : List Nat} (F : Fr h₀ L s.heap (mC nv c sh tsh a b t r sc u)) :
    wpAny (model PySem.Challenge.rw_dv0004_01.row.prog w) (callerA.deeper (envOf (Str.ofString "law") lawSc L fa cd)) (execs ((lawB.drop 10).take 3) (envOf (Str.ofString "law") lawSc L fa cd))
      (fun f s' => f = .next ∧ ∃ (fv : Value) (tw tt : Tok) (tl : Addr) (h' : Heap) (tk : Nat), s' = { s with heap := h', toks := tk } ∧
        Fr h₀ L h' (fun y => if y = Str.ofString "texts" then some (.ref tl) else if y = Str.ofString "white" then some (.str (sx wht) tw) else if y = Str.ofString "flag" then some fv else mC nv c sh tsh a b t r sc u y) ∧
        News h₀ L h' [(tl, W.listOf #[.str (sx []) tt] 0)]) E s := by
  have K := C.K
  revert K
  k_fill
  intro K
  obtain ⟨_, T, B, hL, hI, h63⟩ := C
  have N : News h₀ L s.heap [] := News.nil
  simp only [lawB, lawSc, nthBody, nthScope, bodyOf, scopeOf, PySem.Challenge.pw_dv0004_01, List.take_succ_cons, List.take_zero, List.drop_succ_cons, List.drop_zero]
  walk_at "my steps"
  all_goals (
    (with_reducible rename Fr h₀ L _ _ => F9)
    (with_reducible rename News h₀ L _ _ => N9)
    rw [os_wht] at F9
    rw [os_e] at N9
    exact ⟨rfl, _, _, _, _, _, _, rfl, F9, fun p hp => N9 p (List.mem_cons.mpr (.inl (List.mem_singleton.mp hp)))⟩)
theorem fresh_LE : True := by
  w_top off
  first | walk1 | trivial
set_option rowWalk.seconds 0
abbrev mD (tl : Addr) (tw : Tok) (fv : Value) (nv : Value) (c : Bool) (sh : List Nat) (tsh : Tok) (a b : Int) (t r : Tok) (sc : Addr) (u : Str → Option Value) : Str → Option Value :=
  fun y => if y = Str.ofString "texts" then some (.ref tl) else if y = Str.ofString "white" then some (.str (sx wht) tw) else if y = Str.ofString "flag" then some fv else mC nv c sh tsh a b t r sc u y
set_option maxRecDepth 100000 in
set_option maxHeartbeats 8000000 in
theorem segE {w : World} {mg mb : Str → Option Value} {mean : ExcName → Option Value} {h₀ : Heap} {sc : Addr} {vs : List Value} {ns : List Int} (C : Cx w mg mb mean h₀ sc vs ns) {L fa : Addr} {cd : Value} {E : Value → Shared → Prop} {s : Shared} {u : Str → Option Value}
    {a b : Int} {t r tsh tw tt : Tok} {nv fv : Value} {c : Bool} {sh : List Nat} {tl : Addr} (F : Fr h₀ L s.heap (mD tl tw fv nv c sh tsh a b t r sc u)) (N : News h₀ L s.heap [(tl, W.listOf #[.str (sx []) tt] 0)]) :
    wpAny (model PySem.Challenge.rw_dv0004_01.row.prog w) (callerA.deeper (envOf (Str.ofString "law") lawSc L fa cd)) (execs ((lawB.drop 13).take 1) (envOf (Str.ofString "law") lawSc L fa cd))
      (fun f s' => f = .next ∧ ∃ (dl : Addr) (ds : List Int) (dv : List Value) (nd : Nat) (h' : Heap) (tk : Nat), s' = { s with heap := h', toks := tk } ∧ IntsAre dv ds ∧ ds.length ≤ 61 ∧ tl < dl ∧
        Fr h₀ L h' (fun y => if y = Str.ofString "draws" then some (.ref dl) else mD tl tw fv nv c sh tsh a b t r sc u y) ∧
        News h₀ L h' [(dl, W.listOf dv.toArray nd), (tl, W.listOf #[.str (sx []) tt] 0)]) E s := by
  have K := C.K
  revert K
  k_fill
  intro K
  obtain ⟨_, T, B, hL, hI, h63⟩ := C
  simp only [lawB, lawSc, nthBody, nthScope, bodyOf, scopeOf, PySem.Challenge.pw_dv0004_01, List.take_succ_cons, List.take_zero, List.drop_succ_cons, List.drop_zero]
  walk_at "my steps"
  by_cases h2 : 2 < ns.length
  · refine ite_pos (by simp; omega) ?_
    walk_at "my steps"
    (with_reducible rename Fr h₀ L _ _ => F9)
    (with_reducible rename News h₀ L _ _ => N9)
    (with_reducible rename IntsAre _ (List.drop 2 ns) => hJ)
    exact ⟨rfl, _, List.drop 2 ns, _, 0, _, _, rfl, hJ, by rw [List.length_drop]; omega, by omega, F9, N9⟩
  · refine ite_neg (by simp; omega) ?_
    walk_at "my steps"
    (with_reducible rename Fr h₀ L _ _ => F9)
    (with_reducible rename News h₀ L _ _ => N9)
    exact ⟨rfl, _, [5, 2, 23, 27, a.fdiv 24, b], _, 0, _, _, rfl, .cons _ _ (.cons _ _ (.cons _ _ (.cons _ _ (.cons _ _ (.cons _ _ .nil))))), by simp, by omega, F9, N9⟩
end Mine
end
theorem Mine.fresh_LG : True := by
  w_top off
  first | walk1 | trivial
section
open PySem PySem.W PySem.Calls PyProof.Rows
namespace Mine
set_option rowWalk.seconds 0
local macro_rules | `(tactic| walk_at "my steps") => `(tactic| repeat' (first
  | (fail_if_success (first | (with_reducible show ite _ _ _) | (with_reducible show _ = _ ∧ _) | (with_reducible show wpAny _ _ (pyIter (Value.ref _)) _ _ _) | (with_reducible show wpAny _ _ (binaryOp _ (Value.str _ _) _) _ _ _))); (walk_at "my move")))
/-- the signs that the texts are made of -/
def alpha : List Nat := [0, 1, 9, 10, 11, 12, 13, 28, 31, 32, 34, 35, 37, 38, 39, 43, 45, 47, 59, 60, 62, 97, 98, 100, 108, 109, 110, 112, 115, 116, 160, 8195]
/-- the texts' list behind i draws -/
def Tx (tv : List Value) (i : Nat) : Prop := tv.length = i + 1 ∧ ∀ v ∈ tv, ∃ x t, v = .str (sx x) t ∧ x.length ≤ 6 * i ∧ ∀ c ∈ x, c ∈ alpha
abbrev mE (dl tl : Addr) (tw : Tok) (fv : Value) (nv : Value) (c : Bool) (sh : List Nat) (tsh : Tok) (a b : Int) (t r : Tok) (sc : Addr) (u : Str → Option Value) : Str → Option Value :=
  fun y => if y = Str.ofString "draws" then some (.ref dl) else mD tl tw fv nv c sh tsh a b t r sc u y
theorem fr_off {h₀ h : Heap} {L : Addr} {x : Str} {v : Value} {m m' : Str → Option Value} (e : ∀ y, y ≠ x → m y = m' y) (F : Fr h₀ L h (fun y => if y = x then some v else m y)) : Fr h₀ L h (fun y => if y = x then some v else m' y) := by
  have q : (fun y => if y = x then some v else m y) = fun y => if y = x then some v else m' y := by
    funext y
    by_cases h : y = x
    · simp [h]
    · simp only [h, if_false]; exact e y h
  rw [q] at F; exact F
theorem sign_ok {l : List Str} (h : (l.all fun s => decide (s.cps.toList.length ≤ 6) && s.cps.toList.all fun c => decide (c ∈ alpha)) = true) (i : Nat) : ∃ yl, l.getD i Str.empty = sx yl ∧ yl.length ≤ 6 ∧ ∀ c ∈ yl, c ∈ alpha := by
  rw [List.getD_eq_getElem?_getD]
  cases e : l[i]? with
  | none => exact ⟨[], rfl, by simp, fun c hc => absurd hc (by simp)⟩
  | some s =>
    have h1 := List.all_eq_true.mp h s (List.mem_of_getElem? e)
    rw [Bool.and_eq_true, decide_eq_true_eq, List.all_eq_true] at h1
    exact ⟨s.cps.toList, sx_of s, h1.1, fun c hc => of_decide_eq_true (h1.2 c hc)⟩
theorem add_sign {prog : Program} {w : World} {A : Around} {E : Value → Shared → Prop} {s : Shared} {Q : Value → Shared → Prop} {l : List Str} {i : Nat} {a : List Nat} {t u : Tok} (h : (l.all fun s => decide (s.cps.toList.length ≤ 6) && s.cps.toList.all fun c => decide (c ∈ alpha)) = true) (ha : a.length ≤ 1000)
    (hq : ∀ yl, yl.length ≤ 6 → (∀ c ∈ yl, c ∈ alpha) → ∀ t' tk, Q (.str (sx (a ++ yl)) t') { s with toks := tk }) : wpAny (model prog w) A (binaryOp .Add (.str (sx a) t) (.str (l.getD i Str.empty) u)) Q E s := by
  obtain ⟨yl, e, h1, h2⟩ := sign_ok h i
  exact add_sx a yl rfl e (by omega) (hq yl h1 h2)
set_option maxRecDepth 100000 in
set_option maxHeartbeats 8000000 in
theorem segG {w : World} {mg mb : Str → Option Value} {mean : ExcName → Option Value} {h₀ : Heap} {sc : Addr} {vs : List Value} {ns : List Int} (C : Cx w mg mb mean h₀ sc vs ns) {L fa : Addr} {cd : Value} {E : Value → Shared → Prop} {s : Shared} {u : Str → Option Value}
    {a b : Int} {t r tsh tw tt : Tok} {nv fv : Value} {c : Bool} {sh : List Nat} {tl dl : Addr} {ds : List Int} {dv : List Value} {nd : Nat} (hds : IntsAre dv ds) (h61 : ds.length ≤ 61) (hlt : tl < dl)
    (F : Fr h₀ L s.heap (mE dl tl tw fv nv c sh tsh a b t r sc u)) (N : News h₀ L s.heap [(dl, W.listOf dv.toArray nd), (tl, W.listOf #[.str (sx []) tt] 0)])
    (hE : PassesOwn (model PySem.Challenge.rw_dv0004_01.row.prog w) (callerA.deeper (envOf (Str.ofString "law") lawSc L fa cd)) (envOf (Str.ofString "law") lawSc L fa cd) E) :
    wpAny (model PySem.Challenge.rw_dv0004_01.row.prog w) (callerA.deeper (envOf (Str.ofString "law") lawSc L fa cd)) (execs ((lawB.drop 14).take 1) (envOf (Str.ofString "law") lawSc L fa cd))
      (fun f s' => f = .next ∧ ∃ (tv : List Value) (k : Nat) (u' : Str → Option Value) (h' : Heap) (tk : Nat), s' = { s with heap := h', toks := tk } ∧ Tx tv ds.length ∧
        Fr h₀ L h' (fun y => if y = Str.ofString "x" then u' y else mE dl tl tw fv nv c sh tsh a b t r sc u y) ∧
        News h₀ L h' [(tl, W.listOf tv.toArray k)]) E s := by
  have K := C.K
  revert K
  k_fill
  intro K
  obtain ⟨_, T, B, hL, hI, h63⟩ := C
  simp only [lawB, lawSc, nthBody, nthScope, bodyOf, scopeOf, PySem.Challenge.pw_dv0004_01, List.take_succ_cons, List.take_zero, List.drop_succ_cons, List.drop_zero] at hE ⊢
  walk_at "my steps"
  (with_reducible rename Fr h₀ L _ _ => F)
  refine for_led (fun i m nx => (∀ y, y ≠ Str.ofString "x" → m y = mE dl tl tw fv nv c sh tsh a b t r sc u y) ∧ ∃ tv k, nx = [(tl, W.listOf tv.toArray k)] ∧ Tx tv i) rfl F N ⟨fun _ _ => rfl, _, _, rfl, rfl, ?_⟩ ?_ ?_
  · intro v hv
    have hv' := List.mem_singleton.mp hv
    exact ⟨[], tt, hv', by simp, fun c hc => absurd hc (by simp)⟩
  · rintro i v m₁ nx h tk I oI hvi ⟨hm, tv, k, rfl, hT⟩ _ hI1 hI2 F1 N1
    obtain ⟨n, tn, rfl⟩ : ∃ n tn, v = .int n tn := by
      have hlt' : i < ds.length := by
        rw [← hds.length]
        rcases Nat.lt_or_ge i dv.length with q | q
        · exact q
        · rw [List.getElem?_eq_none q] at hvi; cases hvi
      obtain ⟨tn, e⟩ := hds.get i ds[i] (by simp [hlt'])
      rw [e] at hvi
      exact ⟨_, tn, (Option.some.inj hvi).symm⟩
    replace F1 := fr_off hm F1
    have hIt := ltN (hI2 tl (by simp))
    replace hI1 := ltN hI1
    replace hlt := ltN hlt
    clear hI2 hm F N
    obtain ⟨xl, tx, hxl, hxlen, hxal⟩ : ∃ x t', tv.getLast? = some (.str (sx x) t') ∧ x.length ≤ 6 * i ∧ ∀ c ∈ x, c ∈ alpha := by
      have hne : tv ≠ [] := by intro q; rw [q] at hT; exact absurd hT.1 (by simp)
      obtain ⟨x, t', e, h1, h2⟩ := hT.2 _ (List.getLast_mem hne)
      exact ⟨x, t', by rw [List.getLast?_eq_some_getLast hne, e], h1, h2⟩
    walk_at "my steps"
    k_dflt (refine lst_last (by k_asm) (by k_mem) hxl ?_)
    walk_at "my steps"
    have hi61 : i < ds.length := by
      rw [← hds.length]
      rcases Nat.lt_or_ge i dv.length with q | q
      · exact q
      · rw [List.getElem?_eq_none q] at hvi; cases hvi
    refine add_sign (by decide +kernel) (by omega) ?_
    intro yl hy1 hy2 t8 tk8
    have htl : tv.length ≤ 62 := by rw [hT.1]; omega
    walk_at "my steps"
    (with_reducible rename Fr h₀ L _ _ => F7)
    (with_reducible rename News h₀ L _ _ => N7)
    refine ⟨_, _, _, [(tl, W.listOf (tv ++ [Value.str (sx (xl ++ yl)) t8]).toArray (k + 1))], rfl, F7, ?_, rfl, fun y hy => if_neg hy, _, _, rfl, ?_, ?_⟩
    · rw [List.push_toArray] at N7
      exact fun p hp => N7 p (List.mem_cons_of_mem _ hp)
    · rw [List.length_append, hT.1]; rfl
    · intro v hv
      rcases List.mem_append.mp hv with hv | hv
      · obtain ⟨x, t', e, h1, h2⟩ := hT.2 v hv
        exact ⟨x, t', e, by omega, h2⟩
      · refine ⟨xl ++ yl, t8, List.mem_singleton.mp hv, by rw [List.length_append]; omega, fun c hc => ?_⟩
        rcases List.mem_append.mp hc with hc | hc
        · exact hxal c hc
        · exact hy2 c hc
  · rintro m₁ nx h tk ⟨hm, tv, k, rfl, hT⟩ _ F1 N1
    walk_at "my steps"
    refine ⟨rfl, tv, k, m₁, _, _, rfl, by rw [← hds.length]; exact hT, ?_, N1⟩
    have e : (fun y => if y = Str.ofString "x" then m₁ y else mE dl tl tw fv nv c sh tsh a b t r sc u y) = m₁ := by
      funext y
      by_cases q : y = Str.ofString "x"
      · simp [q]
      · simp only [q, if_false]; exact (hm y q).symm
    rw [e]; exact F1
end Mine
end
theorem Mine.fresh_PL : True := by
  w_top off
  first | walk1 | trivial
section
open PySem PySem.W PySem.Calls PyProof.Rows
namespace Mine
theorem alpha_last : ∀ c ∈ alpha, c ∉ wht → ∃ d ∈ (e1 c).getLast?, Unicode.isSpace d = false := by
  decide +kernel
theorem wht_e1 : ∀ c ∈ wht, e1 c = [c] ∧ Unicode.isSpace c = true := by decide +kernel
theorem esc_wht : ∀ {l : List Nat}, (∀ c ∈ l, c ∈ wht) → esc l = l
  | [], _ => rfl
  | c :: r, h => by
    rw [esc_cons, (wht_e1 c (h c List.mem_cons_self)).1, esc_wht (fun d hd => h d (List.mem_cons_of_mem _ hd))]; rfl
theorem rst_app {p : Nat → Bool} {a b : List Nat} (h : ∀ c ∈ b, p c = true) : rst p (a ++ b) = rst p a := by
  unfold rst
  rw [List.reverse_append, List.dropWhile_append_of_pos (by simpa using h)]
theorem rst_keep {p : Nat → Bool} {a : List Nat} (h : ∀ d ∈ a.getLast?, p d = false) : rst p a = a := by
  unfold rst
  rw [← List.head?_reverse] at h
  cases e : a.reverse with
  | nil => simpa using congrArg List.reverse e
  | cons d r =>
    rw [e] at h
    rw [List.dropWhile_cons_of_neg (by simpa using h d (by simp)), ← e, List.reverse_reverse]
theorem plain {x : List Nat} {k : Nat} (hx : ∀ c ∈ x, c ∈ alpha) (hk : k ≤ x.length) (hw : ∀ c ∈ x.drop k, c ∈ wht) (he : k = 0 ∨ ∃ c, x[k - 1]? = some c ∧ c ∉ wht) :
    rst Unicode.isSpace (esc x) = esc (x.take k) := by
  rw [← List.take_append_drop k x, esc_app, List.take_append_drop, esc_wht hw, rst_app (fun c hc => (wht_e1 c (hw c hc)).2)]
  apply rst_keep
  rcases he with rfl | ⟨c, hc, hn⟩
  · simp [esc]
  · have hk0 : 0 < k := by
      rcases Nat.eq_zero_or_pos k with rfl | h
      · exfalso
        have h0 : x[0]? = some c := hc
        have hm := hw c (by rw [List.drop_zero]; exact List.mem_of_getElem? h0)
        exact hn hm
      · exact h
    have e : x.take k = x.take (k - 1) ++ [c] := by
      have := List.take_succ (l := x) (i := k - 1)
      rw [show k - 1 + 1 = k by omega, hc] at this
      simpa using this
    obtain ⟨d, hd, hs⟩ := alpha_last c (hx c (List.mem_of_getElem? hc)) hn
    intro d' hd'
    rw [e, esc_app, show esc [c] = e1 c by simp [esc], List.getLast?_append, Option.mem_def.mp hd] at hd'
    have : d = d' := by simpa using hd'
    rw [← this]; exact hs
end Mine
end
theorem Mine.fresh_LH : True := by
  w_top off
  first | walk1 | trivial
section
open PySem PySem.W PySem.Calls PyProof.Rows
namespace Mine
set_option rowWalk.seconds 0
local macro_rules | `(tactic| walk_at "my steps") => `(tactic| repeat' (first
  | (fail_if_success (first | (with_reducible show ite _ _ _) | (with_reducible show _ = _ ∧ _) | (with_reducible show wpAny _ _ (binaryOp _ (Value.str _ _) _) _ _ _))); (walk_at "my move")))
local macro_rules | `(tactic| walk_at "my len") => `(tactic| ((try simp only [List.length_cons, List.length_nil, List.length_append]); (try omega)))
abbrev mG (u' : Str → Option Value) (dl tl : Addr) (tw : Tok) (fv : Value) (nv : Value) (c : Bool) (sh : List Nat) (tsh : Tok) (a b : Int) (t r : Tok) (sc : Addr) (u : Str → Option Value) : Str → Option Value :=
  fun y => if y = Str.ofString "x" then u' y else mE dl tl tw fv nv c sh tsh a b t r sc u y
theorem os_from : Str.ofString "from" = sx [102, 114, 111, 109] := by decide +kernel
theorem os_to : Str.ofString "to" = sx [116, 111] := by decide +kernel
theorem os_us : Str.ofString "_" = sx [95] := by decide +kernel
theorem dig7 (a : Int) : (Str.ofString (toString (Int.fmod a 7))).cps.toList.length ≤ 50 := by
  have h1 := fmod_lo a (n := 7) (by decide)
  have h2 := fmod_hi a (n := 7) (by decide)
  have h3 : (Int.fmod a 7).natAbs < 10 ^ 40 := by omega
  have h4 := int_text_length_le10 (k := 40) (by decide) h3
  have h5 := PySem.ofString_length (toString (Int.fmod a 7))
  simp only [Str.length] at h5
  simp only [Array.length_toList]
  omega
set_option maxRecDepth 100000 in
set_option maxHeartbeats 8000000 in
theorem segH {w : World} {mg mb : Str → Option Value} {mean : ExcName → Option Value} {h₀ : Heap} {sc : Addr} {vs : List Value} {ns : List Int} (C : Cx w mg mb mean h₀ sc vs ns) {L fa : Addr} {cd : Value} {E : Value → Shared → Prop} {s : Shared} {u u' : Str → Option Value}
    {a b : Int} {t r tsh tw : Tok} {nv fv : Value} {c : Bool} {sh : List Nat} {tl dl : Addr} {tv : List Value} {k : Nat}
    (F : Fr h₀ L s.heap (mG u' dl tl tw fv nv c sh tsh a b t r sc u)) (N : News h₀ L s.heap [(tl, W.listOf tv.toArray k)]) :
    wpAny (model PySem.Challenge.rw_dv0004_01.row.prog w) (callerA.deeper (envOf (Str.ofString "law") lawSc L fa cd)) (execs ((lawB.drop 15).take 4) (envOf (Str.ofString "law") lawSc L fa cd))
      (fun f s' => f = .next ∧ ∃ (tb : Value) (X DX PL pl : Addr) (k1 k2 k3 k4 k5 t0 t1 : Tok) (v1 v2 v3 v4 : Value) (nE nP nQ : Nat) (p0 p1 : List Nat) (h' : Heap) (tk : Nat), s' = { s with heap := h', toks := tk } ∧ p0.length ≤ 100 ∧ p1.length ≤ 100 ∧
        Fr h₀ L h' (fun y => if y = Str.ofString "sheet" then some (.ref X) else if y = Str.ofString "prefixes" then some (.ref pl) else if y = Str.ofString "table" then some tb else mG u' dl tl tw fv nv c sh tsh a b t r sc u y) ∧
        News h₀ L h' [(PL, W.listOf #[.str (sx p0) t0, .str (sx p1) t1] nQ), (X, instObj 113 DX), (DX, dictOf [⟨PyData.keyHash w.params (Str.ofString "_tabsize"), .str (Str.ofString "_tabsize") k1, v1⟩, ⟨PyData.keyHash w.params (Str.ofString "_wrapcolumn"), .str (Str.ofString "_wrapcolumn") k2, v2⟩,
   ⟨PyData.keyHash w.params (Str.ofString "_linejunk"), .str (Str.ofString "_linejunk") k3, v3⟩, ⟨PyData.keyHash w.params (Str.ofString "_charjunk"), .str (Str.ofString "_charjunk") k4, v4⟩,
   ⟨PyData.keyHash w.params (Str.ofString "_prefix"), .str (Str.ofString "_prefix") k5, .ref PL⟩] nE), (pl, W.listOf #[.str (sx p0) t0, .str (sx p1) t1] nP), (tl, W.listOf tv.toArray k)]) E s := by
  have K := C.K
  revert K
  k_fill
  intro K
  obtain ⟨_, T, B, hL, hI, h63⟩ := C
  simp only [lawB, lawSc, nthBody, nthScope, bodyOf, scopeOf, PySem.Challenge.pw_dv0004_01, List.take_succ_cons, List.take_zero, List.drop_succ_cons, List.drop_zero]
  walk_at "my steps"
  have hd7 := dig7 (if a < 0 then -a else a)
  generalize hg7 : (Str.ofString (toString (Int.fmod (if a < 0 then -a else a) 7))).cps.toList = dg at hd7
  have hs7 : Str.ofString (toString (Int.fmod (if a < 0 then -a else a) 7)) = sx dg := by rw [← hg7]
  refine add_sx _ _ os_from hs7 (by walk_at "my len") ?_
  intro _ _
  walk_at "my steps"
  refine add_sx _ _ rfl os_us (by walk_at "my len") ?_
  intro _ _
  walk_at "my steps"
  refine add_sx _ _ os_to hs7 (by walk_at "my len") ?_
  intro _ _
  walk_at "my steps"
  refine add_sx _ _ rfl os_us (by walk_at "my len") ?_
  intro _ _
  walk_at "my steps"
  (with_reducible rename Fr h₀ L _ _ => F9)
  (with_reducible rename News h₀ L _ _ => N9)
  exact ⟨rfl, _, _, _, _, _, _, _, _, _, _, _, _, _, _, _, _, _, _, _, _, _, _, _, rfl, by walk_at "my len", by walk_at "my len", F9, N9⟩
end Mine
end
theorem Mine.fresh_S3 : True := by
  w_top off
  first | walk1 | trivial
section
open PySem PySem.W PySem.Calls PyProof.Rows
namespace Mine
set_option rowWalk.seconds 0
def forBody : Stmt → List Stmt
  | .For _ _ b _ _ => b
  | _ => []
def nthFor : Nat → List Stmt → List Stmt
  | 0, s :: _ => forBody s
  | n + 1, _ :: r => nthFor n r
  | _, [] => []
/-- the body of the loop over the texts; of the loop over the sides -/
def textB : List Stmt := nthFor 19 lawB
def sideB : List Stmt := nthFor 2 textB
/-- the names that the loops leave alone -/
abbrev mI (X pl tl : Addr) (tw tsh : Tok) (fv nv : Value) (c : Bool) (sh : List Nat) (uu : Str → Option Value) : Str → Option Value :=
  fun y => if y = Str.ofString "sheet" then some (.ref X) else if y = Str.ofString "prefixes" then some (.ref pl) else if y = Str.ofString "texts" then some (.ref tl) else if y = Str.ofString "white" then some (.str (sx wht) tw) else if y = Str.ofString "flag" then some fv else if y = Str.ofString "shown" then some (.str (sx sh) tsh) else if y = Str.ofString "counted" then some (.bool c) else if y = Str.ofString "number" then some nv else uu y
abbrev mT (K : Nat) (kt : Tok) (x : List Nat) (tx : Tok) (X pl tl : Addr) (tw tsh : Tok) (fv nv : Value) (c : Bool) (sh : List Nat) (uu : Str → Option Value) : Str → Option Value :=
  fun y => if y = Str.ofString "kept" then some (.int (K : Int) kt) else if y = Str.ofString "text" then some (.str (sx x) tx) else mI X pl tl tw tsh fv nv c sh uu y
theorem mI_of {m : Str → Option Value} {X pl tl : Addr} {tw tsh : Tok} {fv nv : Value} {c : Bool} {sh : List Nat} (h0 : m (Str.ofString "sheet") = some (.ref X)) (h1 : m (Str.ofString "prefixes") = some (.ref pl)) (h2 : m (Str.ofString "texts") = some (.ref tl)) (h3 : m (Str.ofString "white") = some (.str (sx wht) tw)) (h4 : m (Str.ofString "flag") = some fv) (h5 : m (Str.ofString "shown") = some (.str (sx sh) tsh)) (h6 : m (Str.ofString "counted") = some (.bool c)) (h7 : m (Str.ofString "number") = some nv) : mI X pl tl tw tsh fv nv c sh m = m := by
  funext y
  show (if _ then _ else _) = _
  by_cases q0 : y = Str.ofString "sheet"
  · rw [q0, h0]; rfl
  rw [if_neg q0]
  by_cases q1 : y = Str.ofString "prefixes"
  · rw [q1, h1]; rfl
  rw [if_neg q1]
  by_cases q2 : y = Str.ofString "texts"
  · rw [q2, h2]; rfl
  rw [if_neg q2]
  by_cases q3 : y = Str.ofString "white"
  · rw [q3, h3]; rfl
  rw [if_neg q3]
  by_cases q4 : y = Str.ofString "flag"
  · rw [q4, h4]; rfl
  rw [if_neg q4]
  by_cases q5 : y = Str.ofString "shown"
  · rw [q5, h5]; rfl
  rw [if_neg q5]
  by_cases q6 : y = Str.ofString "counted"
  · rw [q6, h6]; rfl
  rw [if_neg q6]
  by_cases q7 : y = Str.ofString "number"
  · rw [q7, h7]; rfl
  rw [if_neg q7]
theorem mT_of {m : Str → Option Value} {K : Nat} {kt tx : Tok} {x : List Nat} {X pl tl : Addr} {tw tsh : Tok} {fv nv : Value} {c : Bool} {sh : List Nat} (hk : m (Str.ofString "kept") = some (.int (K : Int) kt)) (ht : m (Str.ofString "text") = some (.str (sx x) tx)) (h0 : m (Str.ofString "sheet") = some (.ref X)) (h1 : m (Str.ofString "prefixes") = some (.ref pl)) (h2 : m (Str.ofString "texts") = some (.ref tl)) (h3 : m (Str.ofString "white") = some (.str (sx wht) tw)) (h4 : m (Str.ofString "flag") = some fv) (h5 : m (Str.ofString "shown") = some (.str (sx sh) tsh)) (h6 : m (Str.ofString "counted") = some (.bool c)) (h7 : m (Str.ofString "number") = some nv) : mT K kt x tx X pl tl tw tsh fv nv c sh m = m := by
  funext y
  show (if _ then _ else _) = _
  by_cases q1 : y = Str.ofString "kept"
  · rw [q1, hk]; rfl
  rw [if_neg q1]
  by_cases q2 : y = Str.ofString "text"
  · rw [q2, ht]; rfl
  rw [if_neg q2]
  exact congrFun (mI_of h0 h1 h2 h3 h4 h5 h6 h7) y
theorem fr_mT {h₀ h : Heap} {L : Addr} {m : Str → Option Value} {K : Nat} {kt tx : Tok} {x : List Nat} {X pl tl : Addr} {tw tsh : Tok} {fv nv : Value} {c : Bool} {sh : List Nat} (F : Fr h₀ L h m) (hk : m (Str.ofString "kept") = some (.int (K : Int) kt)) (ht : m (Str.ofString "text") = some (.str (sx x) tx)) (h0 : m (Str.ofString "sheet") = some (.ref X)) (h1 : m (Str.ofString "prefixes") = some (.ref pl)) (h2 : m (Str.ofString "texts") = some (.ref tl)) (h3 : m (Str.ofString "white") = some (.str (sx wht) tw)) (h4 : m (Str.ofString "flag") = some fv) (h5 : m (Str.ofString "shown") = some (.str (sx sh) tsh)) (h6 : m (Str.ofString "counted") = some (.bool c)) (h7 : m (Str.ofString "number") = some nv) : Fr h₀ L h (mT K kt x tx X pl tl tw tsh fv nv c sh m) := by
  rw [mT_of hk ht h0 h1 h2 h3 h4 h5 h6 h7]; exact F
/-- the cell's head -/
def headOf (nm sh : List Nat) : List Nat := ol "<td class=\"diff_header\"" ++ nm ++ ol ">" ++ sh ++ ol "</td><td nowrap=\"nowrap\">"
theorem cell_head (nm sh b : List Nat) : cellOf nm sh b = headOf nm sh ++ b ++ ol "</td>" := rfl
theorem ol_h1 : (ol "<td class=\"diff_header\"").length = 23 := by decide +kernel
theorem ol_gt : (ol ">").length = 1 := by decide +kernel
theorem ol_h3 : (ol "</td><td nowrap=\"nowrap\">").length = 25 := by decide +kernel
theorem ol_h4 : (ol "</td>").length = 5 := by decide +kernel
theorem ol_id : (ol " id=\"").length = 5 := by decide +kernel
theorem ol_q : (ol "\"").length = 1 := by decide +kernel
theorem add_to {prog : Program} {w : World} {A : Around} {E : Value → Shared → Prop} {s : Shared} {x y : Str} {t u : Tok} {Q : Value → Shared → Prop} (a b r : List Nat) (hx : x = sx a) (hy : y = sx b) (hr : a ++ b = r) (hsz : a.length + b.length ≤ 1000000) (h : ∀ t' tk, Q (.str (sx r) t') { s with toks := tk }) :
    wpAny (model prog w) A (binaryOp .Add (.str x t) (.str y u)) Q E s := by
  subst hr
  exact add_sx a b hx hy hsz h
theorem read_to (w : World) (mg mb : Str → Option Value) (mean : ExcName → Option Value) {cn : Str} {cs : Scope} {a : Addr} {ccd : Value} {h₀ : Heap} {L : Addr} {m : Str → Option Value} {news : List (Addr × Obj)} {s : Shared} {y : Str} {t : Tok} {Q E : Value → Shared → Prop} (x : List Nat) (hy : y = sx (esc x))
    (B : Below callerA h₀ [] h₀) (F : Fr h₀ L s.heap m) (K : (hd.heap_39 w.params).In h₀) (N : News h₀ L s.heap news) (T : Top hd.view_39 (looseW hd.view_39 LL) mean mg mb h₀) (hk : cs.kind = .function) (hx : x.length ≤ 1000)
    (h : ∀ t' h' tk', Fr h₀ L h' m → News h₀ L h' news → Q (.str (sx x) t') { s with heap := h', toks := tk' }) :
    wpAny (model PySem.Challenge.rw_dv0004_01.row.prog w) (callerA.deeper (envOf cn cs L a ccd)) (call (.ref 129) [.str y t]) Q E s := by
  subst hy
  exact read_c w mg mb mean _ _ _ _ _ _ _ [] [] callerA h₀ h₀ L _ _ _ x _ _ _ B F K N T hk hx (by decide +kernel) (by decide +kernel) h
theorem head_len {nm sh : List Nat} (h1 : nm.length ≤ 300) (h2 : sh.length ≤ 100) : (headOf nm sh).length ≤ 500 := by
  unfold headOf
  simp only [List.length_append, ol_h1, ol_gt, ol_h3]
  omega
theorem len_sx {prog : Program} {w : World} {A : Around} {E : Value → Shared → Prop} {s : Shared} {a : List Nat} {t : Tok} {Q : Value → Shared → Prop} (h : a.length ≤ 1000000) (hq : Q (.int (a.length : Int) (s.toks + 1)) { s with toks := s.toks + 1 + 1 }) :
    wpAny (model prog w) A (call (.builtin "len") [.str (sx a) t]) Q E s := by
  refine PyProof.Rows.len_str (by rw [sx_len]; omega) ?_
  rw [sx_len]; exact hq
local macro_rules | `(tactic| walk_at "my len") => `(tactic| ((try simp only [List.length_append, ol_h1, ol_gt, ol_h3, ol_h4, ol_id, ol_q]); (try omega)))
local macro_rules | `(tactic| walk_at "call builtin:len cons nil") => `(tactic| ((with_reducible show wpAny _ _ (call (Value.builtin "len") [Value.str (sx _) _]) _ _ _); refine len_sx (by walk_at "my len") ?_))
local macro_rules | `(tactic| walk_at "my steps") => `(tactic| repeat' (first
  | (fail_if_success (first | (with_reducible show ite _ _ _) | (with_reducible show _ ∧ _) | (with_reducible show wpAny _ _ (call (Value.ref _) _ _) _ _ _) | (with_reducible show wpAny _ _ (binaryOp _ (Value.str _ _) _) _ _ _))); (walk_at "my move")))
set_option maxRecDepth 100000 in
set_option maxHeartbeats 8000000 in
theorem side3 {w : World} {mg mb : Str → Option Value} {mean : ExcName → Option Value} {h₀ : Heap} {sc : Addr} {vs : List Value} {ns : List Int} (C : Cx w mg mb mean h₀ sc vs ns) {L fa : Addr} {cd : Value} {E : Value → Shared → Prop} {s : Shared} {uu : Str → Option Value}
    {X pl tl : Addr} {tw tsh kt tx tn tc : Tok} {nv fv : Value} {c : Bool} {sh x nm : List Nat} {K : Nat} {news : List (Addr × Obj)} (hnm : nm.length ≤ 300) (hsh : sh.length ≤ 100) (hx : x.length ≤ 600) (hK : K ≤ x.length) (hp : rst Unicode.isSpace (esc x) = esc (x.take K))
    (F : Fr h₀ L s.heap (fun y => if y = Str.ofString "name" then some (.str (sx nm) tn) else if y = Str.ofString "cell" then some (.str (sx (cellOf nm sh (rst Unicode.isSpace (esc x)))) tc) else mT K kt x tx X pl tl tw tsh fv nv c sh uu y))
    (N : News h₀ L s.heap news) :
    wpAny (model PySem.Challenge.rw_dv0004_01.row.prog w) (callerA.deeper (envOf (Str.ofString "law") lawSc L fa cd)) (execs (sideB.drop 3) (envOf (Str.ofString "law") lawSc L fa cd))
      (fun f s' => f = .next ∧ ∃ (uu' : Str → Option Value) (h' : Heap) (tk : Nat), s' = { s with heap := h', toks := tk } ∧ Fr h₀ L h' (mT K kt x tx X pl tl tw tsh fv nv c sh uu') ∧ News h₀ L h' news) E s := by
  have KF := C.K
  revert KF
  k_fill
  intro KF
  obtain ⟨_, T, B, hL, hI, h63⟩ := C
  rw [hp] at F
  simp only [sideB, textB, nthFor, forBody, lawB, lawSc, nthBody, nthScope, bodyOf, scopeOf, PySem.Challenge.pw_dv0004_01, List.drop_succ_cons, List.drop_zero]
  have hHl := head_len hnm hsh
  have hel := (esc_len (x.take K)).2
  have htl : (x.take K).length ≤ 600 := by rw [List.length_take]; omega
  have hcl : (cellOf nm sh (esc (x.take K))).length ≤ 5000 := by
    rw [cell_head]; simp only [List.length_append, ol_h4]; omega
  have hB1 : (sx (cellOf nm sh (esc (x.take K)))).length ≤ sizeLine := by
    rw [sx_len, cell_head, sizeLine_eq]; simp only [List.length_append, ol_h4]; omega
  have hB0 : (sx (headOf nm sh)).length ≤ sizeLine := by rw [sx_len, sizeLine_eq]; omega
  have hB2 : (sx x).length ≤ sizeLine := by rw [sx_len, sizeLine_eq]; omega
  walk_at "my steps"
  refine add_sx (ol "<td class=\"diff_header\"") nm (sx_of _) rfl (by walk_at "my len") ?_
  intro _ _
  walk_at "my steps"
  refine add_sx _ (ol ">") rfl (sx_of _) (by walk_at "my len") ?_
  intro _ _
  walk_at "my steps"
  refine add_sx _ sh rfl rfl (by walk_at "my len") ?_
  intro _ _
  walk_at "my steps"
  refine add_to _ (ol "</td><td nowrap=\"nowrap\">") (headOf nm sh) rfl (sx_of _) rfl (by walk_at "my len") ?_
  intro _ _
  walk_at "my steps"
  refine ite_neg (by rw [slice_to (by omega), sx_bne, cell_head, List.append_assoc, Int.toNat_natCast, List.take_left']; simp; rfl) ?_
  walk_at "my steps"
  refine ite_neg (by rw [slice_from (by rw [cell_head]; simp only [List.length_append, ol_h4]; omega) (by omega), sx_of (Str.ofString "</td>"), sx_bne, cell_head, show (((headOf nm sh ++ esc (x.take K) ++ ol "</td>").length : Int) - 5).toNat = (headOf nm sh ++ esc (x.take K)).length by simp only [List.length_append, ol_h4]; omega, List.drop_left' rfl]; simp [ol]) ?_
  walk_at "my steps"
  refine ite_neg (by decide) ?_
  walk_at "my steps"
  refine ⟨by k_in, ?_⟩
  (with_reducible rename Fr h₀ L _ _ => F9)
  (with_reducible rename News h₀ L _ _ => N9)
  refine read_to w mg mb mean (x.take K) (by rw [slice_ss (by omega) (by rw [cell_head]; simp only [List.length_append, ol_h4]; omega) (by omega), cell_head, Int.toNat_natCast, List.append_assoc, List.drop_left' rfl, show (((headOf nm sh ++ (esc (x.take K) ++ ol "</td>")).length : Int) - 5 - ((headOf nm sh).length : Int)).toNat = (esc (x.take K)).length by simp only [List.length_append, ol_h4]; omega, List.take_left' rfl]) B F9 KF N9 T rfl (by omega) ?_
  clear F9 N9
  intro t9 h9 tk9 F9 N9
  walk_at "my steps"
  refine ite_neg (by rw [slice_to (by omega), Int.toNat_natCast, sx_bne]; simp) ?_
  walk_at "my steps"
  (with_reducible rename Fr h₀ L _ _ => F8)
  (with_reducible rename News h₀ L _ _ => N8)
  exact ⟨rfl, _, _, _, rfl, fr_mT F8 rfl rfl rfl rfl rfl rfl rfl rfl rfl rfl, N8⟩
end Mine
end
theorem Mine.fresh_S1 : True := by
  w_top off
  first | walk1 | trivial
section
open PySem PySem.W PySem.Calls PyProof.Rows
namespace Mine
set_option rowWalk.seconds 0
local macro_rules | `(tactic| walk_at "my len") => `(tactic| ((try simp only [List.length_append, ol_h1, ol_gt, ol_h3, ol_h4, ol_id, ol_q]); (try omega)))
local macro_rules | `(tactic| walk_at "my steps") => `(tactic| repeat' (first
  | (fail_if_success (first | (with_reducible show ite _ _ _) | (with_reducible show _ ∧ _) | (with_reducible show wpAny _ _ (call (Value.ref _) _ _) _ _ _) | (with_reducible show wpAny _ _ (binaryOp _ (Value.str _ _) _) _ _ _))); (walk_at "my move")))
theorem fr_nm {h₀ h : Heap} {L : Addr} {m : Str → Option Value} {K : Nat} {kt tx : Tok} {x : List Nat} {X pl tl : Addr} {tw tsh : Tok} {fv nv : Value} {c : Bool} {sh : List Nat} {v1 v2 : Value} (F : Fr h₀ L h m) (hn : m (Str.ofString "name") = some v1) (hc : m (Str.ofString "cell") = some v2) (hk : m (Str.ofString "kept") = some (.int (K : Int) kt)) (ht : m (Str.ofString "text") = some (.str (sx x) tx)) (h0 : m (Str.ofString "sheet") = some (.ref X)) (h1 : m (Str.ofString "prefixes") = some (.ref pl)) (h2 : m (Str.ofString "texts") = some (.ref tl)) (h3 : m (Str.ofString "white") = some (.str (sx wht) tw)) (h4 : m (Str.ofString "flag") = some fv) (h5 : m (Str.ofString "shown") = some (.str (sx sh) tsh)) (h6 : m (Str.ofString "counted") = some (.bool c)) (h7 : m (Str.ofString "number") = some nv) :
    Fr h₀ L h (fun y => if y = Str.ofString "name" then some v1 else if y = Str.ofString "cell" then some v2 else mT K kt x tx X pl tl tw tsh fv nv c sh m y) := by
  rw [mT_of hk ht h0 h1 h2 h3 h4 h5 h6 h7, ← known2 hn hc]; exact F
set_option maxRecDepth 100000 in
set_option maxHeartbeats 8000000 in
theorem sideA {w : World} {mg mb : Str → Option Value} {mean : ExcName → Option Value} {h₀ : Heap} {sc : Addr} {vs : List Value} {ns : List Int} (C : Cx w mg mb mean h₀ sc vs ns) {L fa : Addr} {cd : Value} {E : Value → Shared → Prop} {s : Shared} {uu : Str → Option Value}
    {X pl tl : Addr} {tw tsh kt tx tsd tnv : Tok} {fv : Value} {sd : Int} {sh x : List Nat} {K : Nat} {rest : List (Addr × Obj)} {DX PL : Addr} {k1 k2 k3 k4 k5 t0 t1 : Tok} {v1 v2 v3 v4 : Value} {nE nP nQ : Nat} {p0 p1 : List Nat} (hsh : sh.length ≤ 100) (hx : x.length ≤ 600)
    (F : Fr h₀ L s.heap (fun y => if y = Str.ofString "side" then some (.int sd tsd) else mT K kt x tx X pl tl tw tsh fv (.str (sx sh) tnv) false sh uu y))
    (N : News h₀ L s.heap ((X, instObj 113 DX) :: (DX, dictOf (sheetEs w k1 k2 k3 k4 k5 v1 v2 v3 v4 (.ref PL)) nE) :: (PL, W.listOf #[.str (sx p0) t0, .str (sx p1) t1] nQ) :: (pl, W.listOf #[.str (sx p0) t0, .str (sx p1) t1] nP) :: rest)) :
    wpAny (model PySem.Challenge.rw_dv0004_01.row.prog w) (callerA.deeper (envOf (Str.ofString "law") lawSc L fa cd)) (execs (sideB.take 3) (envOf (Str.ofString "law") lawSc L fa cd))
      (fun f s' => f = .next ∧ ∃ (tn tc : Tok) (uu' : Str → Option Value) (h' : Heap) (tk : Nat), s' = { s with heap := h', toks := tk } ∧ Fr h₀ L h' (fun y => if y = Str.ofString "name" then some (.str (sx []) tn) else if y = Str.ofString "cell" then some (.str (sx (cellOf [] sh (rst Unicode.isSpace (esc x)))) tc) else mT K kt x tx X pl tl tw tsh fv (.str (sx sh) tnv) false sh uu' y) ∧ News h₀ L h' ((X, instObj 113 DX) :: (DX, dictOf (sheetEs w k1 k2 k3 k4 k5 v1 v2 v3 v4 (.ref PL)) nE) :: (PL, W.listOf #[.str (sx p0) t0, .str (sx p1) t1] nQ) :: (pl, W.listOf #[.str (sx p0) t0, .str (sx p1) t1] nP) :: rest)) E s := by
  have KF := C.K
  revert KF
  k_fill
  intro KF
  obtain ⟨_, T, B, hL, hI, h63⟩ := C
  simp only [sideB, textB, nthFor, forBody, lawB, lawSc, nthBody, nthScope, bodyOf, scopeOf, PySem.Challenge.pw_dv0004_01, List.take_succ_cons, List.take_zero]
  walk_at "my steps"
  refine ⟨by k_in, ?_⟩
  refine fmt_s w mg mb mean _ _ _ _ h₀ L _ _ _ X sd tsd fv sh x tnv tx _ _ F KF N T rfl hsh (by omega) ?_
  clear F N
  intro t9 h9 tk9 F9 N9
  walk_at "my steps"
  refine ite_neg (by decide) ?_
  walk_at "my steps"
  refine ite_neg (by decide) ?_
  walk_at "my steps"
  refine ite_neg (by decide) ?_
  walk_at "my steps"
  (with_reducible rename Fr h₀ L _ _ => F8)
  (with_reducible rename News h₀ L _ _ => N8)
  rw [os_e] at F8
  exact ⟨rfl, _, _, _, _, _, rfl, fr_nm F8 rfl rfl rfl rfl rfl rfl rfl rfl rfl rfl rfl rfl, N8⟩
theorem num_mod {w : World} {nv : Value} {sh : List Nat} (h : Num nv true sh) (A : Around) (E : Value → Shared → Prop) (s : Shared) (Q : Value → Shared → Prop) (t : Tok) (hq : ∀ t' k, Q (.str (sx sh) t') { s with toks := k }) :
    wpAny (model PySem.Challenge.rw_dv0004_01.row.prog w) A (binaryOp .Mod (.str (Str.ofString "%d") t) nv) Q E s := by
  obtain ⟨hl, (⟨_, ⟨n, u, rfl, e, hb⟩ | ⟨b, rfl, rfl⟩⟩ | ⟨e, _⟩)⟩ := h
  · have h1 : n.natAbs.log2 < 1920 := by
      rcases Nat.eq_zero_or_pos n.natAbs with h0 | h0
      · rw [h0]; decide
      · exact (Nat.log2_lt (by omega)).mpr (Nat.lt_of_lt_of_le hb (by decide +kernel))
    refine mod_d h1 (by rw [e, sx_len]; omega) ?_
    rw [e]; exact hq
  · exact mod_d_bool b hq
  · cases e
set_option maxRecDepth 100000 in
set_option maxHeartbeats 8000000 in
theorem sideN {w : World} {mg mb : Str → Option Value} {mean : ExcName → Option Value} {h₀ : Heap} {sc : Addr} {vs : List Value} {ns : List Int} (C : Cx w mg mb mean h₀ sc vs ns) {L fa : Addr} {cd : Value} {E : Value → Shared → Prop} {s : Shared} {uu : Str → Option Value}
    {X pl tl : Addr} {tw tsh kt tx tsd : Tok} {fv nv : Value} {sd : Int} {sh x : List Nat} {K : Nat} {rest : List (Addr × Obj)} {DX PL : Addr} {k1 k2 k3 k4 k5 t0 t1 : Tok} {v1 v2 v3 v4 : Value} {nE nP nQ : Nat} {p0 p1 : List Nat} (hsh : sh.length ≤ 100) (hx : x.length ≤ 600) (hc : Num nv true sh) (hp0 : p0.length ≤ 100) (hp1 : p1.length ≤ 100) (h0 : 0 ≤ sd) (h2 : sd < 2) {p : List Nat} {tp : Tok} (hps : ([.str (sx p0) t0, .str (sx p1) t1] : List Value)[sd.toNat]? = some (.str (sx p) tp)) (hpl : p.length ≤ 100)
    (F : Fr h₀ L s.heap (fun y => if y = Str.ofString "side" then some (.int sd tsd) else mT K kt x tx X pl tl tw tsh fv nv true sh uu y))
    (N : News h₀ L s.heap ((X, instObj 113 DX) :: (DX, dictOf (sheetEs w k1 k2 k3 k4 k5 v1 v2 v3 v4 (.ref PL)) nE) :: (PL, W.listOf #[.str (sx p0) t0, .str (sx p1) t1] nQ) :: (pl, W.listOf #[.str (sx p0) t0, .str (sx p1) t1] nP) :: rest)) :
    wpAny (model PySem.Challenge.rw_dv0004_01.row.prog w) (callerA.deeper (envOf (Str.ofString "law") lawSc L fa cd)) (execs (sideB.take 3) (envOf (Str.ofString "law") lawSc L fa cd))
      (fun f s' => f = .next ∧ ∃ (tn tc : Tok) (uu' : Str → Option Value) (h' : Heap) (tk : Nat), s' = { s with heap := h', toks := tk } ∧ Fr h₀ L h' (fun y => if y = Str.ofString "name" then some (.str (sx (ol " id=\"" ++ p ++ sh ++ ol "\"")) tn) else if y = Str.ofString "cell" then some (.str (sx (cellOf (ol " id=\"" ++ p ++ sh ++ ol "\"") sh (rst Unicode.isSpace (esc x)))) tc) else mT K kt x tx X pl tl tw tsh fv nv true sh uu' y) ∧ News h₀ L h' ((X, instObj 113 DX) :: (DX, dictOf (sheetEs w k1 k2 k3 k4 k5 v1 v2 v3 v4 (.ref PL)) nE) :: (PL, W.listOf #[.str (sx p0) t0, .str (sx p1) t1] nQ) :: (pl, W.listOf #[.str (sx p0) t0, .str (sx p1) t1] nP) :: rest)) E s := by
  have KF := C.K
  revert KF
  k_fill
  intro KF
  obtain ⟨_, T, B, hL, hI, h63⟩ := C
  simp only [sideB, textB, nthFor, forBody, lawB, lawSc, nthBody, nthScope, bodyOf, scopeOf, PySem.Challenge.pw_dv0004_01, List.take_succ_cons, List.take_zero]
  walk_at "my steps"
  refine ⟨by k_in, ?_⟩
  refine fmt_n w mg mb mean _ _ _ _ h₀ L _ _ _ X DX PL k1 k2 k3 k4 k5 v1 v2 v3 v4 nE nQ [.str (sx p0) t0, .str (sx p1) t1] p _ sd tsd fv nv sh x tx _ _ F KF N T rfl (by simp) (by simp) (by simp) h0 h2 hps hpl (num_mod hc) hsh (by omega) ?_
  clear F N
  intro t9 h9 tk9 F9 N9
  walk_at "my steps"
  refine ite_pos (by decide) ?_
  walk_at "my steps"
  refine ite_neg (by simp; omega) ?_
  walk_at "my steps"
  refine ite_neg (by decide) ?_
  walk_at "my steps"
  refine ite_pos (by decide) ?_
  walk_at "my steps"
  (with_reducible rename Fr h₀ L _ _ => F7)
  (with_reducible rename News h₀ L _ _ => N7)
  refine lst_at (l := [.str (sx p0) t0, .str (sx p1) t1]) (n := nP) N7 (by show _ ∈ _ :: _ :: _ :: (pl, W.listOf _ _) :: _; simp [W.listOf]) h0 (by omega) hps ?_
  walk_at "my steps"
  refine add_sx (ol " id=\"") p (sx_of _) rfl (by walk_at "my len") ?_
  intro _ _
  walk_at "my steps"
  refine add_sx _ sh rfl rfl (by walk_at "my len") ?_
  intro _ _
  walk_at "my steps"
  refine add_sx _ (ol "\"") rfl (sx_of _) (by walk_at "my len") ?_
  intro _ _
  walk_at "my steps"
  (with_reducible rename Fr h₀ L _ _ => F8)
  (with_reducible rename News h₀ L _ _ => N8)
  exact ⟨rfl, _, _, _, _, _, rfl, fr_nm F8 rfl rfl rfl rfl rfl rfl rfl rfl rfl rfl rfl rfl, N8⟩
end Mine
end
theorem Mine.fresh_S2 : True := by
  w_top off
  first | walk1 | trivial
section
open PySem PySem.W PySem.Calls PyProof.Rows
namespace Mine
set_option rowWalk.seconds 0
local macro_rules | `(tactic| walk_at "my len") => `(tactic| ((try simp only [List.length_append, ol_h1, ol_gt, ol_h3, ol_h4, ol_id, ol_q]); (try omega)))
local macro_rules | `(tactic| walk_at "my steps") => `(tactic| repeat' (first
  | (fail_if_success (first | (with_reducible show ite _ _ _) | (with_reducible show _ ∧ _) | (with_reducible show wpAny _ _ (call (Value.ref _) _ _) _ _ _) | (with_reducible show wpAny _ _ (binaryOp _ (Value.str _ _) _) _ _ _) | (with_reducible show wpAny _ _ (newTuple _) _ _ _))); (walk_at "my move")))
theorem News.cons2 {h₀ h : Heap} {L : Addr} {n m : List (Addr × Obj)} {p : Addr × Obj} (N : News h₀ L h n) (hp : p ∈ n) (M : News h₀ L h m) : News h₀ L h (p :: m) := fun q hq => by
  rcases List.mem_cons.mp hq with rfl | hq
  · exact N _ hp
  · exact M _ hq
set_option maxRecDepth 100000 in
set_option maxHeartbeats 8000000 in
theorem sideR {w : World} {mg mb : Str → Option Value} {mean : ExcName → Option Value} {h₀ : Heap} {sc : Addr} {vs : List Value} {ns : List Int} (C : Cx w mg mb mean h₀ sc vs ns) {L fa : Addr} {cd : Value} {E : Value → Shared → Prop} {s : Shared} {uu : Str → Option Value}
    {X pl tl : Addr} {tw tsh kt tx tsd : Tok} {fv nv : Value} {sh x : List Nat} {K : Nat} {rest : List (Addr × Obj)} {DX PL : Addr} {k1 k2 k3 k4 k5 t0 t1 : Tok} {v1 v2 v3 v4 : Value} {nE nP nQ : Nat} {p0 p1 : List Nat} (hsh : sh.length ≤ 100) (hx : x.length ≤ 600) (hc : Num nv true sh) (hp0 : p0.length ≤ 100) (hp1 : p1.length ≤ 100) 
    (F : Fr h₀ L s.heap (fun y => if y = Str.ofString "side" then some (.int 2 tsd) else mT K kt x tx X pl tl tw tsh fv nv true sh uu y))
    (N : News h₀ L s.heap ((X, instObj 113 DX) :: (DX, dictOf (sheetEs w k1 k2 k3 k4 k5 v1 v2 v3 v4 (.ref PL)) nE) :: (PL, W.listOf #[.str (sx p0) t0, .str (sx p1) t1] nQ) :: (pl, W.listOf #[.str (sx p0) t0, .str (sx p1) t1] nP) :: rest)) :
    wpAny (model PySem.Challenge.rw_dv0004_01.row.prog w) (callerA.deeper (envOf (Str.ofString "law") lawSc L fa cd)) (execs sideB (envOf (Str.ofString "law") lawSc L fa cd))
      (fun f s' => f = .cont ∧ ∃ (uu' : Str → Option Value) (h' : Heap) (tk : Nat), s' = { s with heap := h', toks := tk } ∧ Fr h₀ L h' (mT K kt x tx X pl tl tw tsh fv nv true sh uu') ∧ News h₀ L h' ((X, instObj 113 DX) :: (DX, dictOf (sheetEs w k1 k2 k3 k4 k5 v1 v2 v3 v4 (.ref PL)) nE) :: (PL, W.listOf #[.str (sx p0) t0, .str (sx p1) t1] nQ) :: (pl, W.listOf #[.str (sx p0) t0, .str (sx p1) t1] nP) :: rest)) E s := by
  have KF := C.K
  revert KF
  k_fill
  intro KF
  obtain ⟨_, T, B, hL, hI, h63⟩ := C
  simp only [sideB, textB, nthFor, forBody, lawB, lawSc, nthBody, nthScope, bodyOf, scopeOf, PySem.Challenge.pw_dv0004_01]
  walk_at "my steps"
  refine ⟨by k_in, ?_⟩
  refine fmt_r w mg mb mean _ _ _ _ h₀ L _ _ _ X DX PL k1 k2 k3 k4 k5 v1 v2 v3 v4 nE nQ [.str (sx p0) t0, .str (sx p1) t1] 2 tsd fv nv sh x tx _ _ B F KF N T rfl (by simp) (by simp) (by simp) (by decide) (by simp) (by decide) (num_mod hc) ?_
  intro e9 t9 tm9 h9 tk9 g9 F9 U9 R9
  walk_at "my steps"
  refine ite_neg (by decide) ?_
  walk_at "my steps"
  refine ite_neg (by decide) ?_
  walk_at "my steps"
  (with_reducible rename Got _ _ _ _ _ => G8)
  (with_reducible rename News h₀ L _ _ => N8)
  revert N8
  (with_reducible rename News h₀ L _ _ => N7)
  intro N8
  obtain ⟨oe, ot, ws, nt, he, ht, hoe1, hoe2, hoe3, hcls, hdat⟩ := G8
  have N6 := News.cons2 N7 ht N8
  clear N7 N8
  walk1
  walk_at "my steps"
  (with_reducible rename News h₀ L _ (_ :: _) => N8)
  k_dflt (refine ne_dataH (reads_tuple_at (News.get N8 (List.mem_cons_of_mem _ List.mem_cons_self)) hcls hdat (ReadsAll.cons (Reads.str _ _) ReadsAll.nil)) (by ke_read) (by ke_shaped) (by ke_shaped) (by ke_room) ?_)
  ke_norm
  walk_at "my steps"
  refine ite_neg (by decide) ?_
  walk_at "my steps"
  refine ite_neg (by decide) ?_
  walk_at "my steps"
  (with_reducible rename Fr h₀ L _ _ => F8)
  (with_reducible rename News h₀ L _ _ => N9)
  exact ⟨rfl, _, _, _, rfl, fr_mT F8 rfl rfl rfl rfl rfl rfl rfl rfl rfl rfl, fun p hp => N9 p (List.mem_cons_of_mem _ (List.mem_cons_of_mem _ hp))⟩
/-- one turn over the sides -/
theorem sideT {w : World} {mg mb : Str → Option Value} {mean : ExcName → Option Value} {h₀ : Heap} {sc : Addr} {vs : List Value} {ns : List Int} (C : Cx w mg mb mean h₀ sc vs ns) {L fa : Addr} {cd : Value} {E : Value → Shared → Prop} {s : Shared} {uu : Str → Option Value}
    {X pl tl : Addr} {tw tsh kt tx tsd : Tok} {fv nv : Value} {c : Bool} {sd : Int} {sh x : List Nat} {K : Nat} {rest : List (Addr × Obj)} {DX PL : Addr} {k1 k2 k3 k4 k5 t0 t1 : Tok} {v1 v2 v3 v4 : Value} {nE nP nQ : Nat} {p0 p1 : List Nat} (hx : x.length ≤ 600) (hc : Num nv c sh) (hp0 : p0.length ≤ 100) (hp1 : p1.length ≤ 100) (hsd : sd = 2 ∨ sd = 0 ∨ sd = 1) (hK : K ≤ x.length) (hp : rst Unicode.isSpace (esc x) = esc (x.take K))
    (F : Fr h₀ L s.heap (fun y => if y = Str.ofString "side" then some (.int sd tsd) else mT K kt x tx X pl tl tw tsh fv nv c sh uu y))
    (N : News h₀ L s.heap ((X, instObj 113 DX) :: (DX, dictOf (sheetEs w k1 k2 k3 k4 k5 v1 v2 v3 v4 (.ref PL)) nE) :: (PL, W.listOf #[.str (sx p0) t0, .str (sx p1) t1] nQ) :: (pl, W.listOf #[.str (sx p0) t0, .str (sx p1) t1] nP) :: rest)) :
    wpAny (model PySem.Challenge.rw_dv0004_01.row.prog w) (callerA.deeper (envOf (Str.ofString "law") lawSc L fa cd)) (execs sideB (envOf (Str.ofString "law") lawSc L fa cd))
      (fun f s' => (f = .next ∨ f = .cont) ∧ ∃ (uu' : Str → Option Value) (h' : Heap) (tk : Nat), s' = { s with heap := h', toks := tk } ∧ Fr h₀ L h' (mT K kt x tx X pl tl tw tsh fv nv c sh uu') ∧ News h₀ L h' ((X, instObj 113 DX) :: (DX, dictOf (sheetEs w k1 k2 k3 k4 k5 v1 v2 v3 v4 (.ref PL)) nE) :: (PL, W.listOf #[.str (sx p0) t0, .str (sx p1) t1] nQ) :: (pl, W.listOf #[.str (sx p0) t0, .str (sx p1) t1] nP) :: rest)) E s := by
  have hsh : sh.length ≤ 100 := hc.1
  cases c with
  | false =>
    obtain ⟨_, (⟨e, _⟩ | ⟨_, tnv, rfl⟩)⟩ := hc
    · cases e
    refine cut_split 3 (fun s' => ∃ (tn tc : Tok) (uu' : Str → Option Value) (h' : Heap) (tk : Nat), s' = { s with heap := h', toks := tk } ∧ Fr h₀ L h' (fun y => if y = Str.ofString "name" then some (.str (sx []) tn) else if y = Str.ofString "cell" then some (.str (sx (cellOf [] sh (rst Unicode.isSpace (esc x)))) tc) else mT K kt x tx X pl tl tw tsh fv (.str (sx sh) tnv) false sh uu' y) ∧ News h₀ L h' ((X, instObj 113 DX) :: (DX, dictOf (sheetEs w k1 k2 k3 k4 k5 v1 v2 v3 v4 (.ref PL)) nE) :: (PL, W.listOf #[.str (sx p0) t0, .str (sx p1) t1] nQ) :: (pl, W.listOf #[.str (sx p0) t0, .str (sx p1) t1] nP) :: rest)) (sideA C hsh hx F N) ?_
    rintro s₁ ⟨tn, tc, uu', h', tk, rfl, F1, N1⟩
    refine wpAny_mono (side3 (s := { s with heap := h', toks := tk }) C (by simp) hsh hx hK hp F1 N1) ?_ (fun _ _ e => e)
    rintro f s₂ ⟨rfl, uu2, h2, tk2, rfl, F2, N2⟩
    exact ⟨.inl rfl, uu2, h2, tk2, rfl, F2, N2⟩
  | true =>
    by_cases h2 : sd = 2
    · subst h2
      refine wpAny_mono (sideR C hsh hx hc hp0 hp1 F N) ?_ (fun _ _ e => e)
      rintro f s₂ ⟨rfl, uu2, h2, tk2, rfl, F2, N2⟩
      exact ⟨.inr rfl, uu2, h2, tk2, rfl, F2, N2⟩
    · have hps : ([.str (sx p0) t0, .str (sx p1) t1] : List Value)[sd.toNat]? = some (.str (sx (if sd = 0 then p0 else p1)) (if sd = 0 then t0 else t1)) := by
        rcases (by omega : sd = 0 ∨ sd = 1) with rfl | rfl <;> rfl
      have hpl : (if sd = 0 then p0 else p1).length ≤ 100 := by split <;> assumption
      refine cut_split 3 _ (sideN C hsh hx hc hp0 hp1 (by omega) (by omega) hps hpl F N) ?_
      rintro s₁ ⟨tn, tc, uu', h', tk, rfl, F1, N1⟩
      refine wpAny_mono (side3 (s := { s with heap := h', toks := tk }) C ?_ hsh hx hK hp F1 N1) ?_ (fun _ _ e => e)
      · have : (if sd = 0 then p0 else p1).length ≤ 100 := by split <;> assumption
        simp only [List.length_append, ol_id, ol_q]; omega
      rintro f s₂ ⟨rfl, uu2, h2, tk2, rfl, F2, N2⟩
      exact ⟨.inl rfl, uu2, h2, tk2, rfl, F2, N2⟩
end Mine
end
theorem Mine.fresh_ST : True := by
  w_top off
  first | walk1 | trivial
section
open PySem PySem.W PySem.Calls PyProof.Rows
namespace Mine
set_option rowWalk.seconds 0
local macro_rules | `(tactic| walk_at "my len") => `(tactic| ((try simp only [List.length_append, ol_h1, ol_gt, ol_h3, ol_h4, ol_id, ol_q]); (try omega)))
local macro_rules | `(tactic| walk_at "call builtin:len cons nil") => `(tactic| ((with_reducible show wpAny _ _ (call (Value.builtin "len") [Value.str (sx _) _]) _ _ _); refine len_sx (by walk_at "my len") ?_))
local macro_rules | `(tactic| walk_at "my steps") => `(tactic| repeat' (first
  | (fail_if_success (first | (with_reducible show ite _ _ _) | (with_reducible show _ ∧ _) | (with_reducible show wpAny _ _ (exec (Stmt.While _ _ _ _) _) _ _ _) | (with_reducible show wpAny _ _ (pyIter _) _ _ _) | (with_reducible show wpAny _ _ (call (Value.ref _) _ _) _ _ _) | (with_reducible show wpAny _ _ (binaryOp _ (Value.str _ _) _) _ _ _))); (walk_at "my move")))
theorem wht_of (c : Nat) : (!(Builtin.Str.occurrences (sx wht) (sx [c]) 0 (sx wht).length 1).isEmpty) = decide (c ∈ wht) := by
  have := StrLaws.found_one (sx wht) c
  simpa using this
set_option maxRecDepth 100000 in
set_option maxHeartbeats 8000000 in
theorem textK {w : World} {mg mb : Str → Option Value} {mean : ExcName → Option Value} {h₀ : Heap} {sc : Addr} {vs : List Value} {ns : List Int} (C : Cx w mg mb mean h₀ sc vs ns) {L fa : Addr} {cd : Value} {E : Value → Shared → Prop} {s : Shared} {uu : Str → Option Value}
    {X pl tl : Addr} {tw tsh tx : Tok} {fv nv : Value} {c : Bool} {sh x : List Nat} {news : List (Addr × Obj)} (hx : x.length ≤ 600) (hxa : ∀ c ∈ x, c ∈ alpha)
    (F : Fr h₀ L s.heap (fun y => if y = Str.ofString "text" then some (.str (sx x) tx) else mI X pl tl tw tsh fv nv c sh uu y))
    (N : News h₀ L s.heap news)
    (hE : PassesOwn (model PySem.Challenge.rw_dv0004_01.row.prog w) (callerA.deeper (envOf (Str.ofString "law") lawSc L fa cd)) (envOf (Str.ofString "law") lawSc L fa cd) E) :
    wpAny (model PySem.Challenge.rw_dv0004_01.row.prog w) (callerA.deeper (envOf (Str.ofString "law") lawSc L fa cd)) (execs (textB.take 2) (envOf (Str.ofString "law") lawSc L fa cd))
      (fun f s' => f = .next ∧ ∃ (K : Nat) (kt : Tok) (uu' : Str → Option Value) (h' : Heap) (tk : Nat), s' = { s with heap := h', toks := tk } ∧ K ≤ x.length ∧ rst Unicode.isSpace (esc x) = esc (x.take K) ∧ Fr h₀ L h' (mT K kt x tx X pl tl tw tsh fv nv c sh uu') ∧ News h₀ L h' news) E s := by
  have KF := C.K
  revert KF
  k_fill
  intro KF
  obtain ⟨_, T, B, hL, hI, h63⟩ := C
  revert hE
  simp only [textB, nthFor, forBody, lawB, lawSc, nthBody, nthScope, bodyOf, scopeOf, PySem.Challenge.pw_dv0004_01, List.take_succ_cons, List.take_zero]
  intro hE
  walk_at "my steps"
  (with_reducible rename Fr h₀ L _ _ => F1)
  (with_reducible rename News h₀ L _ _ => N1)
  refine While_inv2 (fun n m₁ news₁ => ∃ (kt : Tok) (u : Str → Option Value), n ≤ x.length ∧ (∀ c ∈ x.drop n, c ∈ wht) ∧ m₁ = mT n kt x tx X pl tl tw tsh fv nv c sh u ∧ news₁ = news) (n₀ := x.length) F1 N1 ⟨_, _, Nat.le_refl _, by simp, rfl, rfl⟩ ?_ (hE := hE)
  clear F1 N1
  rintro n m₁ news₁ h₁ tk₁ F1 N1 ⟨kt, u, hn, hw, rfl, rfl⟩
  walk_at "my steps"
  rcases Nat.eq_zero_or_pos n with rfl | hpos
  · refine ite_neg (by simp) ?_
    walk_at "my steps"
    refine ite_neg (by simp) ?_
    walk_at "my steps"
    (with_reducible rename Fr h₀ L _ _ => F8)
    (with_reducible rename News h₀ L _ _ => N8)
    exact ⟨rfl, 0, kt, u, _, _, rfl, Nat.zero_le _, plain hxa hn hw (.inl rfl), F8, N8⟩
  obtain ⟨c0, hc0⟩ : ∃ c0, x[n - 1]? = some c0 := ⟨x[n - 1]'(by omega), List.getElem?_eq_getElem _⟩
  refine ite_pos (by simp; omega) ?_
  have hxl : (sx x).length = x.length := sx_len x
  walk_at "my steps"
  by_cases hcw : c0 ∈ wht
  · refine ite_pos (by rw [item_at (by omega) (by rw [show ((n : Int) - 1).toNat = n - 1 by omega]; exact hc0), wht_of]; simpa using hcw) ?_
    walk_at "my steps"
    (try refine ite_pos (by decide) ?_)
    walk_at "my steps"
    (with_reducible rename Fr h₀ L _ _ => F8)
    (with_reducible rename News h₀ L _ _ => N8)
    rw [show ((n : Int) - 1) = ((n - 1 : Nat) : Int) by omega] at F8
    refine ⟨_, _, _, _, n - 1, rfl, fr_mT F8 rfl rfl rfl rfl rfl rfl rfl rfl rfl rfl, N8, by omega, _, _, by omega, ?_, rfl, rfl⟩
    intro d hd
    have hlt : n - 1 < x.length := by omega
    rw [List.drop_eq_getElem_cons hlt, show n - 1 + 1 = n by omega] at hd
    rcases List.mem_cons.mp hd with rfl | hd
    · rw [List.getElem?_eq_getElem hlt] at hc0
      rw [Option.some.inj hc0]; exact hcw
    · exact hw d hd
  · refine ite_neg (by rw [item_at (by omega) (by rw [show ((n : Int) - 1).toNat = n - 1 by omega]; exact hc0), wht_of]; simpa using hcw) ?_
    walk_at "my steps"
    refine ite_neg (by simp) ?_
    walk_at "my steps"
    (with_reducible rename Fr h₀ L _ _ => F8)
    (with_reducible rename News h₀ L _ _ => N8)
    exact ⟨rfl, n, kt, u, _, _, rfl, hn, plain hxa hn hw (.inr ⟨c0, hc0, hcw⟩), F8, N8⟩
end Mine
end
theorem Mine.fresh_SU : True := by
  w_top off
  first | walk1 | trivial
section
open PySem PySem.W PySem.Calls PyProof.Rows
namespace Mine
set_option rowWalk.seconds 0
local macro_rules | `(tactic| walk_at "my steps") => `(tactic| repeat' (first
  | (fail_if_success (first | (with_reducible show ite _ _ _) | (with_reducible show _ ∧ _) | (with_reducible show wpAny _ _ (pyIter _) _ _ _) | (with_reducible show wpAny _ _ (exec (Stmt.For _ _ _ _ _) _) _ _ _) | (with_reducible show wpAny _ _ (call (Value.ref _) _ _) _ _ _) | (with_reducible show wpAny _ _ (binaryOp _ (Value.str _ _) _) _ _ _))); (walk_at "my move")))
theorem up2 {h₀ h : Heap} {L : Addr} {a b c d p q : Addr × Obj} {r : List (Addr × Obj)} (N : News h₀ L h (p :: q :: a :: b :: c :: d :: r)) : News h₀ L h (a :: b :: c :: d :: p :: q :: r) := fun z hz => N z (by
  simp only [List.mem_cons] at hz ⊢
  rcases hz with h | h | h | h | h | h | h <;> simp [h])
theorem down2 {h₀ h : Heap} {L : Addr} {a b c d p q : Addr × Obj} {r : List (Addr × Obj)} (N : News h₀ L h (a :: b :: c :: d :: p :: q :: r)) : News h₀ L h (p :: q :: a :: b :: c :: d :: r) := fun z hz => N z (by
  simp only [List.mem_cons] at hz ⊢
  rcases hz with h | h | h | h | h | h | h <;> simp [h])
set_option maxRecDepth 100000 in
set_option maxHeartbeats 8000000 in
theorem textS {w : World} {mg mb : Str → Option Value} {mean : ExcName → Option Value} {h₀ : Heap} {sc : Addr} {vs : List Value} {ns : List Int} (C : Cx w mg mb mean h₀ sc vs ns) {L fa : Addr} {cd : Value} {E : Value → Shared → Prop} {s : Shared} {uu : Str → Option Value}
    {X pl tl : Addr} {tw tsh kt tx : Tok} {fv nv : Value} {c : Bool} {sh x : List Nat} {K : Nat} {rest : List (Addr × Obj)} {DX PL : Addr} {k1 k2 k3 k4 k5 t0 t1 : Tok} {v1 v2 v3 v4 : Value} {nE nP nQ : Nat} {p0 p1 : List Nat} (hx : x.length ≤ 600) (hc : Num nv c sh) (hp0 : p0.length ≤ 100) (hp1 : p1.length ≤ 100) (hK : K ≤ x.length) (hp : rst Unicode.isSpace (esc x) = esc (x.take K))
    (F : Fr h₀ L s.heap (mT K kt x tx X pl tl tw tsh fv nv c sh uu))
    (N : News h₀ L s.heap ((X, instObj 113 DX) :: (DX, dictOf (sheetEs w k1 k2 k3 k4 k5 v1 v2 v3 v4 (.ref PL)) nE) :: (PL, W.listOf #[.str (sx p0) t0, .str (sx p1) t1] nQ) :: (pl, W.listOf #[.str (sx p0) t0, .str (sx p1) t1] nP) :: rest))
    (hE : PassesOwn (model PySem.Challenge.rw_dv0004_01.row.prog w) (callerA.deeper (envOf (Str.ofString "law") lawSc L fa cd)) (envOf (Str.ofString "law") lawSc L fa cd) E) :
    wpAny (model PySem.Challenge.rw_dv0004_01.row.prog w) (callerA.deeper (envOf (Str.ofString "law") lawSc L fa cd)) (execs (textB.drop 2) (envOf (Str.ofString "law") lawSc L fa cd))
      (fun f s' => f = .next ∧ ∃ (uu' : Str → Option Value) (h' : Heap) (tk : Nat), s' = { s with heap := h', toks := tk } ∧ Fr h₀ L h' (mT K kt x tx X pl tl tw tsh fv nv c sh uu') ∧ News h₀ L h' ((X, instObj 113 DX) :: (DX, dictOf (sheetEs w k1 k2 k3 k4 k5 v1 v2 v3 v4 (.ref PL)) nE) :: (PL, W.listOf #[.str (sx p0) t0, .str (sx p1) t1] nQ) :: (pl, W.listOf #[.str (sx p0) t0, .str (sx p1) t1] nP) :: rest)) E s := by
  have C0 := C
  have KF := C.K
  revert KF
  k_fill
  intro KF
  obtain ⟨_, T, B, hL, hI, h63⟩ := C
  have hside := @sideT w mg mb mean h₀ sc vs ns C0 L fa cd E
  simp only [sideB, textB, nthFor, forBody, lawB, lawSc, nthBody, nthScope, bodyOf, scopeOf, PySem.Challenge.pw_dv0004_01, List.drop_succ_cons, List.drop_zero] at hE hside ⊢
  walk_at "my steps"
  refine For_invV h₀ rfl rfl ?_ (hE := hE)
  walk_at "my steps"
  (with_reducible rename Fr h₀ L _ _ => F1)
  (with_reducible rename News h₀ L _ _ => N1)
  refine for_led (vs := [Value.int 2 s.toks, Value.int 0 (s.toks + 1), Value.int 1 (s.toks + 1 + 1)]) (nn := 0) (fun i m nx => (∃ u, m = mT K kt x tx X pl tl tw tsh fv nv c sh u) ∧ nx = ((X, instObj 113 DX) :: (DX, dictOf (sheetEs w k1 k2 k3 k4 k5 v1 v2 v3 v4 (.ref PL)) nE) :: (PL, W.listOf #[.str (sx p0) t0, .str (sx p1) t1] nQ) :: (pl, W.listOf #[.str (sx p0) t0, .str (sx p1) t1] nP) :: rest)) rfl F1 N1 ⟨⟨_, rfl⟩, rfl⟩ ?_ ?_
  · rintro i v m₁ nx h tk I oI hvi ⟨⟨u, rfl⟩, rfl⟩ _ hI1 hI2 F1 N1
    obtain ⟨sd, tsd, rfl, hsd⟩ : ∃ sd tsd, v = .int sd tsd ∧ (sd = 2 ∨ sd = 0 ∨ sd = 1) := by
      rcases i with _ | _ | _ | i
      · exact ⟨_, _, (Option.some.inj hvi).symm, .inl rfl⟩
      · exact ⟨_, _, (Option.some.inj hvi).symm, .inr (.inl rfl)⟩
      · exact ⟨_, _, (Option.some.inj hvi).symm, .inr (.inr rfl)⟩
      · cases hvi
    refine wpAny_mono (hside hx hc hp0 hp1 hsd hK hp F1 (up2 N1)) ?_ (fun _ _ e => e)
    rintro f s₂ ⟨(rfl | rfl), u', h', tk', rfl, F2, N2⟩
    · exact ⟨h', tk', _, _, rfl, F2, down2 N2, rfl, ⟨u', rfl⟩, rfl⟩
    · exact ⟨h', tk', _, _, rfl, F2, down2 N2, rfl, ⟨u', rfl⟩, rfl⟩
  · rintro m₁ nx h tk ⟨⟨u, rfl⟩, rfl⟩ _ F1 N1
    walk_at "my steps"
    exact ⟨rfl, u, _, _, rfl, F1, N1⟩
theorem fresh_SI : True := by
  w_top off
  first | walk1 | trivial
set_option rowWalk.seconds 0
/-- one turn over the texts -/
theorem textT {w : World} {mg mb : Str → Option Value} {mean : ExcName → Option Value} {h₀ : Heap} {sc : Addr} {vs : List Value} {ns : List Int} (C : Cx w mg mb mean h₀ sc vs ns) {L fa : Addr} {cd : Value} {E : Value → Shared → Prop} {s : Shared} {uu : Str → Option Value}
    {X pl tl : Addr} {tw tsh tx : Tok} {fv nv : Value} {c : Bool} {sh x : List Nat} {rest : List (Addr × Obj)} {DX PL : Addr} {k1 k2 k3 k4 k5 t0 t1 : Tok} {v1 v2 v3 v4 : Value} {nE nP nQ : Nat} {p0 p1 : List Nat} (hx : x.length ≤ 600) (hxa : ∀ c ∈ x, c ∈ alpha) (hc : Num nv c sh) (hp0 : p0.length ≤ 100) (hp1 : p1.length ≤ 100)
    (F : Fr h₀ L s.heap (fun y => if y = Str.ofString "text" then some (.str (sx x) tx) else mI X pl tl tw tsh fv nv c sh uu y))
    (N : News h₀ L s.heap ([(X, instObj 113 DX), (DX, dictOf (sheetEs w k1 k2 k3 k4 k5 v1 v2 v3 v4 (.ref PL)) nE), (PL, W.listOf #[.str (sx p0) t0, .str (sx p1) t1] nQ), (pl, W.listOf #[.str (sx p0) t0, .str (sx p1) t1] nP)] ++ rest))
    (hE : PassesOwn (model PySem.Challenge.rw_dv0004_01.row.prog w) (callerA.deeper (envOf (Str.ofString "law") lawSc L fa cd)) (envOf (Str.ofString "law") lawSc L fa cd) E) :
    wpAny (model PySem.Challenge.rw_dv0004_01.row.prog w) (callerA.deeper (envOf (Str.ofString "law") lawSc L fa cd)) (execs textB (envOf (Str.ofString "law") lawSc L fa cd))
      (fun f s' => f = .next ∧ ∃ (uu' : Str → Option Value) (h' : Heap) (tk : Nat), s' = { s with heap := h', toks := tk } ∧ Fr h₀ L h' (mI X pl tl tw tsh fv nv c sh uu') ∧ News h₀ L h' ([(X, instObj 113 DX), (DX, dictOf (sheetEs w k1 k2 k3 k4 k5 v1 v2 v3 v4 (.ref PL)) nE), (PL, W.listOf #[.str (sx p0) t0, .str (sx p1) t1] nQ), (pl, W.listOf #[.str (sx p0) t0, .str (sx p1) t1] nP)] ++ rest)) E s := by
  refine cut_split 2 _ (textK C hx hxa F N hE) ?_
  rintro s₁ ⟨K, kt, u1, h1, tk1, rfl, hK, hp, F1, N1⟩
  refine wpAny_mono (textS (s := { s with heap := h1, toks := tk1 }) C hx hc hp0 hp1 hK hp F1 N1 hE) ?_ (fun _ _ e => e)
  rintro f s₂ ⟨rfl, u2, h2, tk2, rfl, F2, N2⟩
  refine ⟨rfl, mT K kt x tx X pl tl tw tsh fv nv c sh u2, h2, tk2, rfl, ?_, N2⟩
  rw [mI_of rfl rfl rfl rfl rfl rfl rfl rfl]; exact F2
set_option maxRecDepth 100000 in
set_option maxHeartbeats 8000000 in
theorem segI {w : World} {mg mb : Str → Option Value} {mean : ExcName → Option Value} {h₀ : Heap} {sc : Addr} {vs : List Value} {ns : List Int} (C : Cx w mg mb mean h₀ sc vs ns) {L fa : Addr} {cd : Value} {E : Value → Shared → Prop} {s : Shared} {uu : Str → Option Value}
    {X pl tl : Addr} {tw tsh : Tok} {fv nv : Value} {c : Bool} {sh : List Nat} {tv : List Value} {n k : Nat} {DX PL : Addr} {k1 k2 k3 k4 k5 t0 t1 : Tok} {v1 v2 v3 v4 : Value} {nE nP nQ : Nat} {p0 p1 : List Nat} (hT : Tx tv n) (h61 : n ≤ 61) (hc : Num nv c sh) (hp0 : p0.length ≤ 100) (hp1 : p1.length ≤ 100)
    (F : Fr h₀ L s.heap (mI X pl tl tw tsh fv nv c sh uu))
    (N : News h₀ L s.heap ((tl, W.listOf tv.toArray k) :: [(X, instObj 113 DX), (DX, dictOf (sheetEs w k1 k2 k3 k4 k5 v1 v2 v3 v4 (.ref PL)) nE), (PL, W.listOf #[.str (sx p0) t0, .str (sx p1) t1] nQ), (pl, W.listOf #[.str (sx p0) t0, .str (sx p1) t1] nP)]))
    (hE : PassesOwn (model PySem.Challenge.rw_dv0004_01.row.prog w) (callerA.deeper (envOf (Str.ofString "law") lawSc L fa cd)) (envOf (Str.ofString "law") lawSc L fa cd) E)
    {Q : Flow → Shared → Prop} (hQ : ∀ h' tk m nx, Fr h₀ L h' m → News h₀ L h' nx → Q (.ret (.bool true)) { s with heap := h', toks := tk }) :
    wpAny (model PySem.Challenge.rw_dv0004_01.row.prog w) (callerA.deeper (envOf (Str.ofString "law") lawSc L fa cd)) (execs (lawB.drop 19) (envOf (Str.ofString "law") lawSc L fa cd)) Q E s := by
  have C0 := C
  have KF := C.K
  revert KF
  k_fill
  intro KF
  obtain ⟨_, T, B, hL, hI, h63⟩ := C
  have hside := @textT w mg mb mean h₀ sc vs ns C0 L fa cd E
  simp only [textB, nthFor, forBody, lawB, lawSc, nthBody, nthScope, bodyOf, scopeOf, PySem.Challenge.pw_dv0004_01, List.drop_succ_cons, List.drop_zero] at hE hside ⊢
  walk_at "my steps"
  refine For_invV h₀ rfl rfl ?_ (hE := hE)
  walk_at "my steps"
  (with_reducible rename Fr h₀ L _ _ => F1)
  (with_reducible rename News h₀ L _ _ => N1)
  refine for_led (vs := tv) (nn := k) (fun i m nx => (∃ u, m = mI X pl tl tw tsh fv nv c sh u) ∧ nx = [(X, instObj 113 DX), (DX, dictOf (sheetEs w k1 k2 k3 k4 k5 v1 v2 v3 v4 (.ref PL)) nE), (PL, W.listOf #[.str (sx p0) t0, .str (sx p1) t1] nQ), (pl, W.listOf #[.str (sx p0) t0, .str (sx p1) t1] nP)]) rfl F1 N1 ⟨⟨_, rfl⟩, rfl⟩ ?_ ?_
  · rintro i v m₁ nx h tk I oI hvi ⟨⟨u, rfl⟩, rfl⟩ _ hI1 hI2 F1 N1
    obtain ⟨x, tx, rfl, hxl, hxa⟩ := hT.2 v (List.mem_of_getElem? hvi)
    refine wpAny_mono (hside (by omega) hxa hc hp0 hp1 F1 (up2 N1) hE) ?_ (fun _ _ e => e)
    rintro f s₂ ⟨rfl, u', h', tk', rfl, F2, N2⟩
    exact ⟨h', tk', _, _, rfl, F2, down2 N2, rfl, ⟨u', rfl⟩, rfl⟩
  · rintro m₁ nx h tk ⟨⟨u, rfl⟩, rfl⟩ _ F1 N1
    walk_at "my steps"
    exact hQ _ _ _ _ F1 N1
end Mine
end
theorem Mine.fresh_WH : True := by
  w_top off
  first | walk1 | trivial
section
open PySem PySem.W PySem.Calls PyProof.Rows
namespace Mine
theorem re5 {h₀ h : Heap} {L : Addr} {p x d q t : Addr × Obj} (N : News h₀ L h [p, x, d, q, t]) : News h₀ L h [t, x, d, p, q] := fun z hz => N z (by
  simp only [List.mem_cons] at hz ⊢
  rcases hz with h | h | h | h | h | h <;> simp [h])
theorem lawAll {w : World} {mg mb : Str → Option Value} {mean : ExcName → Option Value} {h₀ : Heap} {sc : Addr} {vs : List Value} {ns : List Int} (C : Cx w mg mb mean h₀ sc vs ns) {L fa : Addr} {cd : Value} {E : Value → Shared → Prop} {s : Shared} {u : Str → Option Value}
    (F : Fr h₀ L s.heap (fun y => if y = Str.ofString "script" then some (.ref sc) else u y))
    (hE : PassesOwn (model PySem.Challenge.rw_dv0004_01.row.prog w) (callerA.deeper (envOf (Str.ofString "law") lawSc L fa cd)) (envOf (Str.ofString "law") lawSc L fa cd) E)
    {Q : Flow → Shared → Prop} (hQ : ∀ h' tk m nx, Fr h₀ L h' m → News h₀ L h' nx → Q (.ret (.bool true)) { s with heap := h', toks := tk }) :
    wpAny (model PySem.Challenge.rw_dv0004_01.row.prog w) (callerA.deeper (envOf (Str.ofString "law") lawSc L fa cd)) (execs lawB (envOf (Str.ofString "law") lawSc L fa cd)) Q E s := by
  refine cut_split 2 _ (segA C F) ?_
  rintro s1 ⟨a, b, t, r, h1, k1, rfl, F1⟩
  refine cut_split 2 _ (segB (s := { s with heap := h1, toks := k1 }) C F1) ?_
  rintro s2 ⟨n, q, h2, k2, rfl, hn, F2⟩
  rw [List.drop_drop]
  refine cut_split 6 _ (segC (s := { s with heap := h2, toks := k2 }) C hn F2) ?_
  rintro s3 ⟨nv, c, sh, tsh, h3, k3, rfl, hc, F3⟩
  rw [List.drop_drop]
  refine cut_split 3 _ (segD (s := { s with heap := h3, toks := k3 }) C F3) ?_
  rintro s4 ⟨fv, tw, tt, tl, h4, k4, rfl, F4, N4⟩
  rw [List.drop_drop]
  refine cut_split 1 _ (segE (s := { s with heap := h4, toks := k4 }) C F4 N4) ?_
  rintro s5 ⟨dl, ds, dv, nd, h5, k5, rfl, hds, h61, hlt, F5, N5⟩
  rw [List.drop_drop]
  refine cut_split 1 _ (segG (s := { s with heap := h5, toks := k5 }) C hds h61 hlt F5 N5 hE) ?_
  rintro s6 ⟨tv, k, u', h6, k6, rfl, hT, F6, N6⟩
  rw [List.drop_drop]
  refine cut_split 4 _ (segH (s := { s with heap := h6, toks := k6 }) C F6 N6) ?_
  rintro s7 ⟨tb, X, DX, PL, pl, e1, e2, e3, e4, e5, t0, t1, v1, v2, v3, v4, nE, nP, nQ, p0, p1, h7, k7, rfl, hp0, hp1, F7, N7⟩
  rw [List.drop_drop]
  generalize hm : (fun y => if y = Str.ofString "sheet" then some (Value.ref X) else if y = Str.ofString "prefixes" then some (.ref pl) else if y = Str.ofString "table" then some tb else mG u' dl tl tw fv nv c sh tsh a b t r sc u y) = m at F7
  have F8 : Fr h₀ L h7 (mI X pl tl tw tsh fv nv c sh m) := by
    rw [mI_of (by rw [← hm]; rfl) (by rw [← hm]; rfl) (by rw [← hm]; rfl) (by rw [← hm]; rfl) (by rw [← hm]; rfl) (by rw [← hm]; rfl) (by rw [← hm]; rfl) (by rw [← hm]; rfl)]
    exact F7
  exact segI (s := { s with heap := h7, toks := k7 }) C hT h61 hc hp0 hp1 F8 (re5 N7) hE hQ
end Mine
end
open PySem PySem.W PyProof.Rows
theorem Mine.fresh_FI : True := by
  w_top off
  first | walk1 | trivial
set_option maxRecDepth 100000 in
set_option maxHeartbeats 8000000 in
theorem PySem.Challenge.cw_dv0004_01_holds : PySem.Challenge.rw_dv0004_01.Holds := by
  refine Mine.hd ?_
  k_go0
  all_goals try k_fold
  dsimp only
  rename_i w s0 s1 mg mb G Y fa o pm doc kV ho hg KX XM V GL T B TE TW w9 w8 MM w7 w6 hcd ns hs hlay0 hLay hr1 hl2 w4 w3 sc vs w0 hL ra w1 r0 hI hr hc63 hcT K0 hD h1 F N0
  have F1 : Fr s1.heap s1.heap.objs.size h1 (fun y => if y = Str.ofString "script" then some (.ref sc) else none) := by
    have e : (fun y : Str => if y = Str.ofString "script" then some (Value.ref sc) else none) = fun x => List.lookup x [(Str.ofString "script", Value.ref sc)] := by
      funext y
      by_cases q : y = Str.ofString "script"
      · simp [q, List.lookup]
      · have q' : (y == Str.ofString "script") = false := by simpa using q
        simp only [List.lookup, q', if_neg q]
    rw [e]; exact F
  have C : Mine.Cx w mg mb (ExcName.means s0.heap) s1.heap sc vs ns := ⟨KX, T, K0, hL, hI, by omega⟩
  refine Mine.lawAll C F1 (by passes_own) ?_
  intro h2 tk2 m2 nx2 F2 N2
  dsimp only
  refine goodW_bool F2 hg (raisesW_false ?_) ?_
  · wrow_none_raised
  · wrow_post
