import PyProof.Rows.All
import Wide.All
import OpenK.AllK
import Wide.FinOn
import PySem.Challenge.RW_wn0062_01
open PySem PySem.W PyProof.Rows
set_option Elab.async false
set_option maxRecDepth 100000
set_option maxHeartbeats 8000000
set_option linter.unusedVariables false
set_option linter.unusedSimpArgs false
set_option linter.unusedSectionVars false
local macro_rules | `(tactic| walk_at $s:str) => `(tactic| k_extra $s)
local macro_rules | `(tactic| omega) => `(tactic| lia)
namespace Mine
open_top hd for PySem.Challenge.rw_wn0062_01
end Mine

namespace Mine
/-- a call's contract: at f, of these arguments, over this ledger, what comes back (the ledger grown by tl); k: the frames it may want; n: what the count of tokens is at least -/
abbrev Con (w : World) (k n : Nat) (f : Addr) (vs : List Value) (news : List (Addr × Obj)) (R : Value → List (Addr × Obj) → Prop) : Prop :=
  ∀ (mean : ExcName → Option Value) (mg mb : Str → Option Value) (dp un : Nat) (gd : Option (List Code)) (cn : Str) (cs : Scope) (a : Addr) (ccd : Value) (cl : List (Str × Addr)) (outer : List Env) (A₀ : Around) (base h₀ : Heap) (L : Addr) (m : Str → Option Value) (s : Shared) (Q E : Value → Shared → Prop),
    Below A₀ base outer h₀ → Fr h₀ L s.heap m → (hd.heap_39 w.params).In h₀ → News h₀ L s.heap news → Top hd.view_39 (looseW hd.view_39 []) mean mg mb h₀ → cs.kind = .function →
    dp + k < recursionLimit → un + 8 * k < cLine → n ≤ s.toks →
    (∀ (r : Value) (tl : List (Addr × Obj)) (h' : Heap) (tk' : Nat), Fr h₀ L h' m → News h₀ L h' (tl ++ news) → n ≤ tk' → R r tl → Q r { s with heap := h', toks := tk' }) →
      wpAny (model PySem.Challenge.rw_wn0062_01.row.prog w) (ktrTop dp un gd cn cs L a ccd cl outer) (call (.ref f) vs) Q E s
theorem con_use {w : World} {k n : Nat} {f : Addr} {vs : List Value} {news : List (Addr × Obj)} {R : Value → List (Addr × Obj) → Prop} (C : Con w k n f vs news R)
    {mean : ExcName → Option Value} {mg mb : Str → Option Value} {dp un : Nat} {gd : Option (List Code)} {cn : Str} {cs : Scope} {a : Addr} {ccd : Value} {cl : List (Str × Addr)} {outer : List Env} {A₀ : Around} {base h₀ : Heap} {L : Addr} {m : Str → Option Value} {s : Shared} {Q E : Value → Shared → Prop}
    (B : Below A₀ base outer h₀) (F : Fr h₀ L s.heap m) (X : (hd.heap_39 w.params).In h₀) (N : News h₀ L s.heap news) (T : Top hd.view_39 (looseW hd.view_39 []) mean mg mb h₀) (hk : cs.kind = .function)
    (hd : dp + k < recursionLimit) (hu : un + 8 * k < cLine) (hn : n ≤ s.toks)
    (ret : ∀ (r : Value) (tl : List (Addr × Obj)) (h' : Heap) (tk' : Nat), Fr h₀ L h' m → News h₀ L h' (tl ++ news) → n ≤ tk' → R r tl → Q r { s with heap := h', toks := tk' }) :
    wpAny (model PySem.Challenge.rw_wn0062_01.row.prog w) (ktrTop dp un gd cn cs L a ccd cl outer) (call (.ref f) vs) Q E s :=
  C mean mg mb dp un gd cn cs a ccd cl outer A₀ base h₀ L m s Q E B F X N T hk hd hu hn ret
/-- the count of tokens never falls: a contract shown without it -/
theorem con_of {w : World} {k n : Nat} {f : Addr} {vs : List Value} {news : List (Addr × Obj)} {R : Value → List (Addr × Obj) → Prop}
    (C : ∀ (mean : ExcName → Option Value) (mg mb : Str → Option Value) (dp un : Nat) (gd : Option (List Code)) (cn : Str) (cs : Scope) (a : Addr) (ccd : Value) (cl : List (Str × Addr)) (outer : List Env) (A₀ : Around) (base h₀ : Heap) (L : Addr) (m : Str → Option Value) (s : Shared) (Q E : Value → Shared → Prop),
      Below A₀ base outer h₀ → Fr h₀ L s.heap m → (hd.heap_39 w.params).In h₀ → News h₀ L s.heap news → Top hd.view_39 (looseW hd.view_39 []) mean mg mb h₀ → cs.kind = .function →
      dp + k < recursionLimit → un + 8 * k < cLine → n ≤ s.toks →
      (∀ (r : Value) (tl : List (Addr × Obj)) (h' : Heap) (tk' : Nat), Fr h₀ L h' m → News h₀ L h' (tl ++ news) → R r tl → Q r { s with heap := h', toks := tk' }) →
        wpAny (model PySem.Challenge.rw_wn0062_01.row.prog w) (ktrTop dp un gd cn cs L a ccd cl outer) (call (.ref f) vs) Q E s) : Con w k n f vs news R := by
  intro mean mg mb dp un gd cn cs a ccd cl outer A₀ base h₀ L m s Q E B F X N T hk hd hu hn ret
  refine wpAny_with_toks hn (C mean mg mb dp un gd cn cs a ccd cl outer A₀ base h₀ L m s _ _ B F X N T hk hd hu hn ?_)
  intro r tl h' tk' F' N' hR hle
  exact ret r tl h' tk' F' N' hle hR
end Mine
namespace Mine
/-- the same of a contract that wants one thing of the ledger -/
theorem con_use1 {w : World} {k n : Nat} {f : Addr} {vs : List Value} {p : Addr × Obj} {news : List (Addr × Obj)} {R : Value → List (Addr × Obj) → Prop} (C : Con w k n f vs (p :: news) R)
    {mean : ExcName → Option Value} {mg mb : Str → Option Value} {dp un : Nat} {gd : Option (List Code)} {cn : Str} {cs : Scope} {a : Addr} {ccd : Value} {cl : List (Str × Addr)} {outer : List Env} {A₀ : Around} {base h₀ : Heap} {L : Addr} {m : Str → Option Value} {s : Shared} {Q E : Value → Shared → Prop}
    (hm : p ∈ news) (B : Below A₀ base outer h₀) (F : Fr h₀ L s.heap m) (X : (hd.heap_39 w.params).In h₀) (N : News h₀ L s.heap news) (T : Top hd.view_39 (looseW hd.view_39 []) mean mg mb h₀) (hk : cs.kind = .function)
    (hd : dp + k < recursionLimit) (hu : un + 8 * k < cLine) (hn : n ≤ s.toks)
    (ret : ∀ (r : Value) (tl : List (Addr × Obj)) (h' : Heap) (tk' : Nat), Fr h₀ L h' m → News h₀ L h' (tl ++ news) → n ≤ tk' → R r tl → Q r { s with heap := h', toks := tk' }) :
    wpAny (model PySem.Challenge.rw_wn0062_01.row.prog w) (ktrTop dp un gd cn cs L a ccd cl outer) (call (.ref f) vs) Q E s :=
  C mean mg mb dp un gd cn cs a ccd cl outer A₀ base h₀ L m s Q E B F X (fun q hq => by
    rcases List.mem_cons.mp hq with e | e
    · rw [e]; exact N p hm
    · exact N q e) T hk hd hu hn fun r tl h' tk' F' N' hle hR => ret r tl h' tk' F' (fun q hq => N' q (by
      rcases List.mem_append.mp hq with e | e
      · exact List.mem_append.mpr (.inl e)
      · exact List.mem_append.mpr (.inr (List.mem_cons_of_mem _ e)))) hle hR
end Mine

namespace Mine
/-- a text by its signs' numbers -/
abbrev T (l : List Nat) : Str := ⟨l.toArray⟩
theorem T_inj {a b : List Nat} (h : T a = T b) : a = b := by
  have := congrArg (fun s => s.cps.toList) h
  simpa [T] using this
theorem T_len (l : List Nat) : (T l).length = l.length := by simp [T, Str.length]
theorem T_app (a b : List Nat) : T a ++ T b = T (a ++ b) := Str.ext' (by simp [Str.cps_append])
theorem beqT {a b : List Nat} : (T a == T b) = decide (a = b) := by
  rw [Bool.eq_iff_iff]
  simp only [beq_iff_eq, decide_eq_true_eq]
  exact ⟨T_inj, fun h => by rw [h]⟩
theorem s_quote : PySem.Str.ofString "\"" = T [34] := by decide +kernel
theorem s_empty : PySem.Str.ofString "" = T [] := by decide +kernel
theorem s_257 : PySem.Str.ofString "257" = T [50, 53, 55] := by decide +kernel
theorem s_open : PySem.Str.ofString " \"" = T [32, 34] := by decide +kernel
theorem s_257o : PySem.Str.ofString "257 \"" = T [50, 53, 55, 32, 34] := by decide +kernel

theorem item_T {l : List Nat} {i : Int} {v : Nat} (h0 : 0 ≤ i) (hv : l[i.toNat]? = some v) : Txt.item (T l) i = T [v] := by
  have h := StrLaws.at_nonneg (x := T l) h0 (n := v) (by simpa [T] using hv)
  unfold Txt.item Txt.charAt
  rw [h]; rfl
theorem item_Tn {l : List Nat} {i : Int} {v : Nat} (h0 : i < 0) (h1 : -(l.length : Int) ≤ i) (hv : l[(i + l.length).toNat]? = some v) : Txt.item (T l) i = T [v] := by
  have hl : (T l).length = l.length := T_len l
  unfold Txt.item Txt.charAt
  rw [StrLaws.seqIndex_neg h0 (by rw [hl]; exact h1), hl]
  simp [T, hv]
/-- a cut by bounds that lie in it -/
theorem slice_T {l : List Nat} {i j : Int} (h0 : 0 ≤ i) (h1 : i ≤ j) (h2 : j ≤ l.length) : Txt.slice (T l) (some i) (some j) = T ((l.drop i.toNat).take (j - i).toNat) :=
  StrLaws.sliceText_plain (x := T l) ⟨h0, h1, by simpa [T] using h2⟩
theorem slice_to {l : List Nat} {j : Int} (h0 : 0 ≤ j) (h2 : j ≤ l.length) : Txt.slice (T l) none (some j) = T (l.take j.toNat) := by
  have := StrLaws.sliceText_to (x := T l) (j := j) ⟨h0, by simpa [T] using h2⟩
  refine Eq.trans this ?_
  simp [T]
theorem slice_from {l : List Nat} {i : Int} (h0 : 0 ≤ i) (h2 : i ≤ l.length) : Txt.slice (T l) (some i) none = T (l.drop i.toNat) := by
  have := StrLaws.sliceText_from (x := T l) (i := i) ⟨h0, by simpa [T] using h2⟩
  refine Eq.trans this ?_
  refine congrArg T ?_
  rw [List.take_of_length_le]
  simp [T]; omega
theorem slice_all {l : List Nat} : Txt.slice (T l) none none = T l := by
  have e : Txt.slice (T l) none none = StrLaws.sliceText (T l) (some 0) (some ((T l).length : Int)) := by
    show StrLaws.sliceText (T l) none none = _
    unfold StrLaws.sliceText
    rw [StrLaws.sliceIdx_none_lo, StrLaws.sliceIdx_none_hi]
  rw [e]
  refine Eq.trans (StrLaws.sliceText_plain (x := T l) ⟨by omega, by omega, by simp [T, Str.length]⟩) ?_
  refine congrArg T ?_
  simp [T, Str.length]
theorem slice_neg {l : List Nat} {j : Int} (h0 : j < 0) (h1 : -(l.length : Int) ≤ j) : Txt.slice (T l) none (some j) = T (l.take (j + l.length).toNat) := by
  have hl : (T l).length = l.length := T_len l
  have e : Txt.slice (T l) none (some j) = Txt.slice (T l) none (some (j + l.length)) := by
    have e2 : Builtin.Str.strSliceIndices none (some j) 1 (T l).length = Builtin.Str.strSliceIndices none (some (j + l.length)) 1 (T l).length := by
      rw [hl]
      have a : ¬ (j + (l.length : Int) < 0) := by omega
      simp [Builtin.Str.strSliceIndices, h0, a]
    unfold Txt.slice
    rw [e2]
  rw [e]
  exact slice_to (by omega) (by omega)
end Mine
namespace Mine
theorem slice_whole (x : Str) : Txt.slice x none none = x := by
  have e : x = T x.cps.toList := Str.ext' (by simp)
  rw [e]; exact slice_all
section
variable {prog : Program} {w : World} {A : Around} {E : Value → Shared → Prop} {s : Shared} {value slice : Expr} {x : Str} {t : Tok} {h₀ : Heap} {L : Addr} {m : Str → Option Value} {news : List (Addr × Obj)} {Q : Value → Shared → Prop}
/-- x[:None] -/
theorem slice_none (hF : Fr h₀ L s.heap m) (hN : News h₀ L s.heap news) (h : ∀ h' t' k, Fr h₀ L h' m → News h₀ L h' news → Q (.str x t') { s with heap := h', toks := k })
    (hs : subscripted slice false (.str x t) (.ref s.heap.objs.size) = operate [.ref s.heap.objs.size, .str x t] (getItem (.str x t) (.ref s.heap.objs.size)) := by with_unfolding_all rfl)
    (ht : ∀ r, letTemporaryGo value (.str x t) r = pure () := by intro _; with_unfolding_all rfl) (hsz : x.length ≤ sizeLine := by size_fits) :
    wpAny (model prog w) A (subscriptTail value slice (.str x t) (.ref s.heap.objs.size)) Q E { s with heap := s.heap.push { cls := .type "slice", data := .fields #[.none, .none, .none] } } :=
  slice_strN_nn hF hN (fun h' t' k a b => by rw [slice_whole]; exact h h' t' k a b) hs ht hsz
end
end Mine

namespace Mine
def reply (n c : Nat) : List Nat := [50, 53, 55, 32, 34] ++ (List.replicate n 34 ++ [c])
def half (n c : Nat) : List Nat := if n % 2 = 0 then List.replicate (n / 2) 34 ++ [c] else List.replicate (n / 2) 34
def PInv (n c : Nat) (i : Int) (d : Str) : Prop :=
  ((∃ k : Nat, 2 * k ≤ n ∧ i = 5 + 2 * k ∧ d = T (List.replicate k 34)) ∨ (n % 2 = 0 ∧ i = n + 6 ∧ d = T (List.replicate (n / 2) 34 ++ [c]))) ∧ 5 ≤ i ∧ i ≤ n + 6 ∧ (d.length : Int) ≤ n + 1
theorem reply_len (n c : Nat) : (reply n c).length = n + 6 := by simp [reply]
theorem reply_q {n c j : Nat} (h : j < n) : (reply n c)[5 + j]? = some 34 := by
  unfold reply
  rw [List.getElem?_append_right (by simp), List.getElem?_append_left (by simp; omega)]
  simp [List.getElem?_replicate]; omega
theorem reply_c {n c : Nat} : (reply n c)[5 + n]? = some c := by
  unfold reply
  rw [List.getElem?_append_right (by simp), List.getElem?_append_right (by simp)]
  simp
theorem reply_257 {n c : Nat} {x : Str} (hx : x = T (reply n c)) (h : (Txt.slice x none (some 3) != PySem.Str.ofString "257") = true) : False := by
  subst hx
  rw [slice_to (by omega) (by rw [reply_len]; omega), s_257] at h
  simp [reply] at h
theorem reply_open {n c : Nat} {x : Str} (hx : x = T (reply n c)) (h : (Txt.slice x (some 3) (some 5) != PySem.Str.ofString " \"") = true) : False := by
  subst hx
  rw [slice_T (by omega) (by omega) (by rw [reply_len]; omega), s_open] at h
  simp [reply] at h
theorem pinv0 {n c : Nat} : PInv n c 5 (PySem.Str.ofString "") := by
  refine ⟨.inl ⟨0, by omega, by omega, by rw [s_empty]; rfl⟩, by omega, by omega, ?_⟩
  rw [s_empty, T_len]; simp; omega
theorem item_q {n c : Nat} {i : Int} {j : Nat} (hi : i = 5 + j) (h : j < n) : Txt.item (T (reply n c)) i = T [34] :=
  item_T (by omega) (by rw [show i.toNat = 5 + j by omega]; exact reply_q h)
theorem item_c {n c : Nat} {i : Int} (hi : i = 5 + n) : Txt.item (T (reply n c)) i = T [c] :=
  item_T (by omega) (by rw [show i.toNat = 5 + n by omega]; exact reply_c)
theorem not_q {c : Nat} (hc : c ≠ 34) (h : (T [c] == PySem.Str.ofString "\"") = true) : False := by
  rw [s_quote, beqT] at h
  simp at h; exact hc h
theorem is_q (h : (T [34] == PySem.Str.ofString "\"") = false) : False := by
  rw [s_quote, beqT] at h
  simp at h
theorem repl_snoc {k v : Nat} : List.replicate k v ++ [v] = List.replicate (k + 1) v := by
  rw [List.replicate_succ']
/-- a turn that goes on behind a sign that is no mark -/
theorem pinvA {n c : Nat} {x : Str} (hx : x = T (reply n c)) (hl : x.length = n + 6) {i : Int} {d : Str} (P : PInv n c i d) (hi : i < x.length) (h : (Txt.item x i == PySem.Str.ofString "\"") = false) :
    PInv n c (i + 1) (d ++ Txt.item x i) := by
  subst hx
  rw [hl] at hi
  rcases P with ⟨⟨k, hk, rfl, rfl⟩ | ⟨_, h2, _⟩, _, _, _⟩
  · rcases Nat.lt_or_ge (2 * k) n with hlt | hge
    · rw [item_q (j := 2 * k) (by omega) hlt] at h; exact (is_q h).elim
    · have e : 2 * k = n := by omega
      rw [item_c (show (5 + 2 * (k : Int)) = 5 + n by omega), T_app]
      refine ⟨.inr ⟨by omega, by omega, by rw [show n / 2 = k by omega]⟩, by omega, by omega, ?_⟩
      rw [T_len]; simp; omega
  · omega
/-- a turn behind two marks -/
theorem pinvB {n c : Nat} (hc : c ≠ 34) {x : Str} (hx : x = T (reply n c)) (hl : x.length = n + 6) {i : Int} {d : Str} (P : PInv n c i d) (hi : i < x.length) (h : (Txt.item x i == PySem.Str.ofString "\"") = true) (hi2 : ¬ (x.length : Int) ≤ i + 1)
    (h2 : (Txt.item x (i + 1) != PySem.Str.ofString "\"") = false) : PInv n c (i + 1 + 1) (d ++ Txt.item x i) := by
  subst hx
  rw [hl] at hi hi2
  rcases P with ⟨⟨k, hk, rfl, rfl⟩ | ⟨_, h3, _⟩, _, _, _⟩
  · rcases Nat.lt_or_ge (2 * k) n with hlt | hge
    · rcases Nat.lt_or_ge (2 * k + 1) n with hlt2 | hge2
      · rw [item_q (j := 2 * k) (by omega) hlt, T_app, repl_snoc]
        refine ⟨.inl ⟨k + 1, by omega, by omega, rfl⟩, by omega, by omega, ?_⟩
        rw [T_len]; simp; omega
      · rw [item_c (show (5 + 2 * (k : Int) + 1) = 5 + n by omega)] at h2
        exact (not_q hc (by simpa [bne] using h2)).elim
    · rw [item_c (show (5 + 2 * (k : Int)) = 5 + n by omega)] at h
      exact (not_q hc h).elim
  · omega
/-- broken off behind a lone mark -/
theorem pend {n c : Nat} (hc : c ≠ 34) {x : Str} (hx : x = T (reply n c)) (hl : x.length = n + 6) {i : Int} {d : Str} (P : PInv n c i d) (hi : i < x.length) (h : (Txt.item x i == PySem.Str.ofString "\"") = true)
    (h2 : (x.length : Int) ≤ i + 1 ∨ (Txt.item x (i + 1) != PySem.Str.ofString "\"") = true) : d = T (half n c) := by
  subst hx
  rw [hl] at hi h2
  rcases P with ⟨⟨k, hk, rfl, rfl⟩ | ⟨_, h3, _⟩, _, _, _⟩
  · rcases Nat.lt_or_ge (2 * k) n with hlt | hge
    · rcases Nat.lt_or_ge (2 * k + 1) n with hlt2 | hge2
      · rcases h2 with h2 | h2
        · omega
        · rw [item_q (j := 2 * k + 1) (by omega) hlt2] at h2
          exact (is_q (by simpa [bne] using h2)).elim
      · unfold half
        rw [if_neg (by omega), show n / 2 = k by omega]
    · rw [item_c (show (5 + 2 * (k : Int)) = 5 + n by omega)] at h
      exact (not_q hc h).elim
  · omega
theorem pend2 {n c : Nat} {x : Str} (hl : x.length = n + 6) {i : Int} {d : Str} (P : PInv n c i d) (hi : ¬ i < x.length) : d = T (half n c) := by
  rw [hl] at hi
  rcases P with ⟨⟨k, hk, rfl, rfl⟩ | ⟨h2, h3, rfl⟩, _, _, _⟩
  · omega
  · unfold half; rw [if_pos h2]
theorem pw {n c : Nat} {i : Int} {d : Str} (P : PInv n c i d) : PInv n c i d ∧ 5 ≤ i ∧ i ≤ n + 6 ∧ (d.length : Int) ≤ n + 1 := ⟨P, P.2⟩
end Mine

namespace Mine
theorem parse_con (w : World) (k0 : Nat) (news : List (Addr × Obj)) (n c : Nat) (x : Str) (t : Tok) (hn : n ≤ 100) (hc : c ≠ 34) (hx : x = T (reply n c)) : Con w 2 k0 109 [.str x t] news (fun r tl => tl = [] ∧ ∃ k, r = .str (T (half n c)) k) := by
  have hl : x.length = n + 6 := by subst hx; rw [T_len, reply_len]
  refine con_of ?_; k_fill
  intro mean mg mb dp un gd cn cs a ccd cl outer A₀ base h₀ L m s Q E B F X N T hk hdp hun hn0 hret
  refine wpAny_call ?_
  k_dflt cell_enter
  k_with "state" => first | exact pw pinv0 | exact pw (pinvB hc hx hl (by assumption) (by assumption) (by assumption) (by assumption) (by assumption)) | exact pw (pinvA hx hl (by assumption) (by assumption) (by assumption))
  k_with "exec While Compare cons nil" => k_while (fun _ i d => PInv n c i d ∧ 5 ≤ i ∧ i ≤ n + 6 ∧ (d.length : Int) ≤ n + 1) (fun _ i d => (n + 6 - i).toNat) "i" "dirname"
  k_steps
  all_goals first
    | exact (reply_257 hx (by assumption)).elim
    | exact (reply_open hx (by assumption)).elim
    | (refine hret _ [] _ _ (by assumption) (by assumption) ⟨rfl, _, congrArg (Value.str · _) ?_⟩; first
      | exact pend2 hl (by assumption) (by assumption)
      | exact pend hc hx hl (by assumption) (by assumption) (by assumption) (.inl (by assumption))
      | exact pend hc hx hl (by assumption) (by assumption) (by assumption) (.inr (by assumption)))
end Mine

namespace Mine
open Sem (wp)
namespace HA
theorem type_gi : typeOf (.builtin "str.__getitem__") = pure (.type "wrapper_descriptor") := by show builtinType _ = _; rw [builtinType_eq_fast]; kernel_rfl
theorem slot_get : Slot "wrapper_descriptor" "__get__" "wrapper_descriptor.__get__" :=
  .of (owner := "wrapper_descriptor") (n := "__get__") (by rw [typeLookup_type, builtinLookup_eq_fast]; kernel_rfl) (by decide +kernel) (by decide +kernel) (by decide +kernel)
    (by first | exact .inl (by decide +kernel) | exact .inr (by decide +kernel)) (by rw [isSubtype_type]; kernel_rfl)
theorem no_set : typeLookup (.type "wrapper_descriptor") "__set__" = pure none := by rw [typeLookup_type, builtinLookup_eq_fast]; kernel_rfl
theorem no_del : typeLookup (.type "wrapper_descriptor") "__delete__" = pure none := by rw [typeLookup_type, builtinLookup_eq_fast]; kernel_rfl
theorem entry_get : entryFor table "wrapper_descriptor.__get__" = some Builtin.«wrapper_descriptor.__get__» := entryFor_of_tree (by kernel_rfl)
theorem args_get (a b c : Value) : argsOk "wrapper_descriptor.__get__" ⟨[a, b, c], []⟩ := by unfold argsOk; kernel_rfl
theorem kind_has : builtinKind "hasattr" = none := by decide +kernel
theorem plain_has : plainId "hasattr" = true := by decide +kernel
theorem entry_has : entryFor table "hasattr" = some Builtin.«hasattr» := entryFor_of_tree (by kernel_rfl)
theorem args_has_2 (a b : Value) : argsOk "hasattr" ⟨[a, b], []⟩ := by unfold argsOk; kernel_rfl
theorem lk_gi : typeLookup (.type "str") (PySem.Str.ofString "__getitem__") = pure (some (.builtin "str.__getitem__")) := by rw [typeLookup_type, builtinLookup_eq_fast]; kernel_rfl
theorem lk_ga : typeLookup (.type "str") (PySem.Str.ofString "__getattribute__") = pure (some (.builtin "object.__getattribute__")) := by rw [typeLookup_type, builtinLookup_eq_fast]; kernel_rfl
theorem owner_gi : (".".intercalate ("str.__getitem__".cutAt '.').dropLast) = "str" := by
  have e0 : "str.__getitem__".cutAt '.' = ["str", "__getitem__"] := by first | rfl | decide +kernel
  rw [e0]; decide +kernel
theorem sub_gi : isSubtype (.type "str") (.type (".".intercalate ("str.__getitem__".cutAt '.').dropLast)) = pure true := by
  rw [owner_gi, isSubtype_type]; kernel_rfl
end HA
section
variable {prog : Program} {w : World} {A : Around} {E : Value → Shared → Prop} {h : Heap} {g : Array GenState} {d : Drawn} {t : Nat} {os : OsState} {x : Str} {u : Tok}
def boundGi (x : Str) (u : Tok) : Obj := { cls := .type "method-wrapper", data := .fields #[.builtin "str.__getitem__", .str x u] }

theorem gi_get {R : Result → Shared → Prop} (hq : R (.ok (.ret (.ref h.objs.size))) ⟨h.push (boundGi x u), g, d, t, os⟩) :
    codeAny (model prog w) A (.call (.builtin "wrapper_descriptor.__get__") ⟨[.builtin "str.__getitem__", .str x u, .type "str"], []⟩) R ⟨h, g, d, t, os⟩ := by
  have hT : (⟨h, g, d, t, os⟩ : Shared).TypeIs (.str x u) "str" := rfl
  have hT5 : (⟨h, g, d, t, os⟩ : Shared).TypeIs (.builtin "str.__getitem__") "wrapper_descriptor" := HA.type_gi
  have f8 := HA.sub_gi
  refine codeAny_call_builtin HA.slot_get.plain HA.entry_get (HA.slot_get.check _ _ _ _ _ _ _ _ hT5 (HA.args_get _ _ _) ?_)
  repeat (any_goals (first | assumption | wp_step))

theorem gi_entry {tk : Tok} {Q : Fin → Shared → Prop} (hq : Q (.done (.ret (.ref h.objs.size))) ⟨h.push (boundGi x u), g, d, t, os⟩) :
    wpAny (model prog w) A (Builtin.«object.__getattribute__» ⟨[.str x u, .str "__getitem__" tk], []⟩) Q E ⟨h, g, d, t, os⟩ := by
  have hT : (⟨h, g, d, t, os⟩ : Shared).TypeIs (.str x u) "str" := rfl
  have hT5 : (⟨h, g, d, t, os⟩ : Shared).TypeIs (.builtin "str.__getitem__") "wrapper_descriptor" := HA.type_gi
  have f4 := HA.lk_gi
  have f5 := HA.type_gi
  have f6 := HA.slot_get.lookup
  have f7 := HA.no_set
  have f9 := HA.no_del
  repeat (any_goals (first | assumption | wp_step))
  refine gi_get ?_
  repeat (any_goals (first | assumption | wp_step))
theorem gi_call {tk : Tok} {R : Result → Shared → Prop} (hq : R (.ok (.ret (.ref h.objs.size))) ⟨h.push (boundGi x u), g, d, t, os⟩) :
    codeAny (model prog w) A (.call (.builtin "object.__getattribute__") ⟨[.str x u, .str "__getitem__" tk], []⟩) R ⟨h, g, d, t, os⟩ :=
  codeAny_call_builtin F.slot_str_getattribute.plain F.entry_object_getattribute (F.slot_str_getattribute.check _ _ _ _ _ _ _ _ (show (⟨h, g, d, t, os⟩ : Shared).TypeIs (.str x u) "str" from rfl) (F.args_object_getattribute_2 _ _) (gi_entry hq))
theorem gi_by {tk : Tok} {Q : Value → Shared → Prop} (hq : Q (.ref h.objs.size) ⟨h.push (boundGi x u), g, d, t, os⟩) : wpAny (model prog w) A (getAttrBy (.str x u) (.str "__getitem__" tk) false) Q E ⟨h, g, d, t, os⟩ := by
  have hT : (⟨h, g, d, t, os⟩ : Shared).TypeIs (.str x u) "str" := rfl
  have f2 := F.slot_str_getattribute.lookup
  have f3 := F.slot_str_getattribute.bind (.str x u)
  repeat (any_goals (first | assumption | wp_step))
  refine gi_call ?_
  repeat (any_goals (first | assumption | wp_step))
theorem gi_by? {tk : Tok} {Q : Option Value → Shared → Prop} (hq : Q (some (.ref h.objs.size)) ⟨h.push (boundGi x u), g, d, t, os⟩) : wpAny (model prog w) A (getAttrBy? (.str x u) (.str "__getitem__" tk)) Q E ⟨h, g, d, t, os⟩ := by
  unfold getAttrBy?
  exact wpAny_bind (wpAny_attempt (gi_by (wpAny_pure hq)))
theorem hasattr_str {tk : Tok} {Q : Value → Shared → Prop} (hq : Q (.bool true) ⟨h.push (boundGi x u), g, d, t, os⟩) :
    wpAny (model prog w) A (call (.builtin "hasattr") [.str x u, .str "__getitem__" tk]) Q E ⟨h, g, d, t, os⟩ := by
  refine Calls.call_function_entry HA.kind_has HA.plain_has HA.entry_has (HA.args_has_2 _ _) ?_
  unfold Builtin.«hasattr»
  refine wpAny_bind (wpAny_of_eq (a := [.str x u, .str "__getitem__" tk]) (by first | rfl | kernel_rfl) ?_)
  dsimp only
  refine wpAny_bind (wpAny_of_eq (a := ()) (by first | rfl | kernel_rfl) ?_)
  refine wpAny_bind (wpAny_of_eq (a := .type "str") rfl ?_)
  dsimp only
  refine wpAny_bind (wpAny_of_eq (a := some (PySem.Str.ofString "__getitem__")) (by first | rfl | kernel_rfl) ?_)
  dsimp only
  refine wpAny_bind (wpAny_of_eq (a := some (.builtin "str.__getitem__")) HA.lk_gi ?_)
  dsimp only
  refine wpAny_bind (wpAny_of_eq (a := some (.builtin "object.__getattribute__")) HA.lk_ga ?_)
  rw [show ((withoutEnding? "str.__getitem__" "#data").isSome && (some (Value.builtin "object.__getattribute__") == some (Value.builtin "object.__getattribute__"))) = false by decide +kernel]
  rw [if_neg (by decide)]
  refine wpAny_bind (wpAny_of_eq (a := 0) (by first | rfl | kernel_rfl) ?_)
  rw [if_neg (by decide)]
  refine wpAny_bind (gi_by? ?_)
  rw [if_neg (by simp)]
  exact wpAny_pure ⟨_, rfl, hq⟩
end
theorem hasattr_K {prog : Program} {w : World} {A : Around} {E : Value → Shared → Prop} {s : Shared} {h₀ : Heap} {L : Addr} {m : Str → Option Value} {news : List (Addr × Obj)} {x : Str} {u tk : Tok} {Q : Value → Shared → Prop} (F : Fr h₀ L s.heap m) (N : News h₀ L s.heap news)
    (h : ∀ h', Fr h₀ L h' m → News h₀ L h' news → Q (.bool true) { s with heap := h' }) : wpAny (model prog w) A (call (.builtin "hasattr") [.str x u, .str (PySem.Str.ofString "__getitem__") tk]) Q E s := by
  obtain ⟨hp, g, d, t, os⟩ := s
  exact hasattr_str (h _ (F.push _) fun p hp => (News.push F N (boundGi x u) rfl) p (List.Mem.tail _ hp))
end Mine

namespace Mine
theorem lines_S3_1 : True := by
  k_with_none
  k_with "call builtin:hasattr" => (k_here; k_dflt (refine' hasattr_K ?zkk1 ?zkk2 ?_; (case zkk1 => k_asm); (case zkk2 => k_asm); k_whole; intro zkh' zkF' zkN'; (try k_sweep)))
  exact True.intro

theorem concat_con (w : World) (n : Nat) (news : List (Addr × Obj)) (x y : Str) (t u : Tok) (hx : x.length ≤ 1000) (hy : y.length ≤ 1000) : Con w 2 n 70 [.str x t, .str y u] news (fun r tl => tl = [] ∧ ∃ k, r = .str (x ++ y) k) := by
  refine con_of ?_; k_fill
  intro mean mg mb dp un gd cn cs a ccd cl outer A₀ base h₀ L m s Q E B F X N T hk hdp hun hn0 hret
  refine wpAny_call ?_
  k_dflt cell_enter
  k_steps
  all_goals exact hret _ [] _ _ (by assumption) (by assumption) ⟨rfl, _, rfl⟩
end Mine

namespace Mine
def subc (x y : Str) : Int := if (x == y) = true then 0 else if (Txt.lower x == Txt.lower y) = true then 1 else 2
theorem sub_con (w : World) (n : Nat) (news : List (Addr × Obj)) (x y : Str) (t u : Tok) (hx : x.length = 1) (hy : y.length = 1) : Con w 2 n 116 [.str x t, .str y u] news (fun r tl => tl = [] ∧ ∃ k, r = .int (subc x y) k) := by
  refine con_of ?_; k_fill
  intro mean mg mb dp un gd cn cs a ccd cl outer A₀ base h₀ L m s Q E B F X N T hk hdp hun hn0 hret
  refine wpAny_call ?_
  k_dflt cell_enter
  k_steps
  all_goals (refine hret _ [] _ _ (by assumption) (by assumption) ⟨rfl, _, congrArg (Value.int · _) ?_⟩; unfold subc; simp only [*, if_true, Bool.false_eq_true, if_false])
end Mine

namespace Mine
section
variable {prog : Program} {w : World} {A : Around} {E : Value → Shared → Prop} {s : Shared} {h₀ : Heap} {L : Addr} {m : Str → Option Value} {news : List (Addr × Obj)}
/-- a statement that stores one int, whatever its ways -/
def JoinI (h₀ : Heap) (L : Addr) (m : Str → Option Value) (news : List (Addr × Obj)) (x : Str) (P : Int → Prop) (s : Shared) (f : Flow) (s' : Shared) : Prop :=
  f = .next ∧ ∃ i t h' tk, s' = { s with heap := h', toks := tk } ∧ Fr h₀ L h' (fun y => if y = x then some (.int i t) else m y) ∧ News h₀ L h' news ∧ P i
theorem joinI {t : Sem Flow} {Q : Flow → Shared → Prop} {X Y : Str} {tX tY : Tok} (na nb x : Str) (P : Str → Str → Int → Prop) (F : Fr h₀ L s.heap m) (N : News h₀ L s.heap news) (ha : m na = some (.str X tX)) (hb : m nb = some (.str Y tY))
    (loop : wpAny (model prog w) A t (JoinI h₀ L m news x (P X Y) s) E s)
    (rest : ∀ i t h' tk, Fr h₀ L h' (fun y => if y = x then some (.int i t) else m y) → News h₀ L h' news → P X Y i → Q .next { s with heap := h', toks := tk }) : wpAny (model prog w) A t Q E s := by
  refine wpAny_mono loop ?_ fun _ _ e => e
  rintro f s' ⟨rfl, i, t, h', tk, rfl, F', N', p⟩
  exact rest i t h' tk F' N' p
theorem joinI_end {x : Str} {P : Int → Prop} {i : Int} {t : Tok} {h' : Heap} {tk : Nat} (F : Fr h₀ L h' (fun y => if y = x then some (.int i t) else m y)) (N : News h₀ L h' news) (p : P i) : JoinI h₀ L m news x P s .next { s with heap := h', toks := tk } :=
  ⟨rfl, i, t, h', tk, rfl, F, N, p⟩
/-- list(range(2, 2 * (n + 1), 2)) -/
def evens (n : Nat) : List Int := (List.range n).map fun (j : Nat) => 2 + (j : Int) * 2
theorem size2 (n : Nat) : Builtin.Range.rangeSize 2 (2 * ((n : Int) + 1)) 2 = (n : Int) := by
  unfold Builtin.Range.rangeSize
  rw [if_pos (by decide)]
  split <;> omega
theorem fitsLong {i : Int} (h1 : -1000000 ≤ i) (h2 : i ≤ 1000000) : Builtin.Range.rangeFitsLong i = true := by
  unfold Builtin.Range.rangeFitsLong
  rw [Bool.and_eq_true, decide_eq_true_eq, decide_eq_true_eq]
  omega
theorem small2 {n : Nat} (h : n ≤ 1000) : Builtin.Range.small 2 (2 * ((n : Int) + 1)) 2 = true := by
  unfold Builtin.Range.small
  rw [size2 n, fitsLong (i := 2) (by omega) (by omega), fitsLong (i := 2 * ((n : Int) + 1)) (by omega) (by omega), fitsLong (i := (n : Int)) (by omega) (by omega), if_pos (by decide), fitsLong (i := 2 * ((n : Int) + 1) + (2 - 1)) (by omega) (by omega)]
  simp
theorem list_evens {r : Addr} {t u v : Tok} {n : Nat} {Q : Value → Shared → Prop} (hh : A.handled = none) (F : Fr h₀ L s.heap m) (N : News h₀ L s.heap news) (hr : IsRange s.heap r 2 (2 * ((n : Int) + 1)) 2 t u v) (hn : n ≤ 1000)
    (hQ : ∀ h' tk (vs : List Value) c, Fr h₀ L h' m → News h₀ L h' ((s.heap.objs.size, listOf vs.toArray c) :: news) → (∀ p ∈ news, p.1 < s.heap.objs.size) → IntsAre vs (evens n) → Q (.ref s.heap.objs.size) { s with heap := h', toks := tk }) :
    wpAny (model prog w) A (call (.type "list") [.ref r]) Q E s := by
  refine list_rangeD hh F N hr (small2 hn) (size2 n) (by omega) ?_
  intro h' tk ys F' N' hk hf _ P C
  obtain ⟨⟨c, hc⟩, hne⟩ := P
  refine hQ h' tk ys c F' ?_ (fun p hp => Heap.lt_size (N p hp).1) (IntsAre.ofCarried C)
  intro p hp
  rcases List.mem_cons.mp hp with rfl | hp
  · refine ⟨hc, ?_, hf⟩
    have := F.ns
    obtain ⟨o, _, _, ho, _⟩ := this
    exact Nat.ne_of_gt (Heap.lt_size ho)
  · exact N' p hp

/-- e or None, e an int -/
theorem or_none {env : Env} {e₁ : Expr} {k : Nat} {pos pos2 : Pos} {i : Int} {t : Tok} {Q : Value → Shared → Prop} (hv : ∀ Q' : Value → Shared → Prop, Q' (.int i t) s → wpAny (model prog w) A (eval e₁ env) Q' E s)
    (h : Q (if i = 0 then .none else .int i t) s) : wpAny (model prog w) A (eval (.BoolOp .Or [e₁, .Constant .none k pos2] pos) env) Q E s := by
  refine BoolOp_or (hv _ (truthy_int ?_))
  by_cases hi : i = 0
  · subst hi
    rw [if_neg (by simp)]
    rw [if_pos rfl] at h
    exact BoolOp_one (Constant_none h)
  · rw [if_pos (by simpa using hi)]
    rw [if_neg hi] at h
    exact h
theorem or_noneX {cn : Str} {cs : Scope} {a : Addr} {ccd : Value} {cl : List (Str × Addr)} {x : Str} {k : Nat} {px pos pos2 : Pos} {i : Int} {t : Tok} {Q : Value → Shared → Prop} (F : Fr h₀ L s.heap m) (hv : m x = some (.int i t))
    (h : Q (if i = 0 then .none else .int i t) s) (hk : cs.kind = .function := by rfl) (hx : (envX cn cs L a ccd cl).kindOf x = some .local := by rfl) (hd : (x == ("__debug__" : Str)) = false := by decide) :
    wpAny (model prog w) A (eval (.BoolOp .Or [.Name x px, .Constant .none k pos2] pos) (envX cn cs L a ccd cl)) Q E s :=
  or_none (fun _ hQ' => nameX_L F hv hQ' hk hx hd) h
def cutOr (x : Str) (i : Int) : Str := if i = 0 then x else Txt.slice x none (some i)
theorem cutOr_le (x : Str) (i : Int) : (cutOr x i).length ≤ x.length := by
  unfold cutOr
  split
  · exact Nat.le_refl _
  · exact Txt.slice_le _ _ _
theorem slice_or {value slice : Expr} {x : Str} {t u : Tok} {i : Int} {Q : Value → Shared → Prop} (hF : Fr h₀ L s.heap m) (hN : News h₀ L s.heap news) (h : ∀ h' t' k, Fr h₀ L h' m → News h₀ L h' news → (cutOr x i).length ≤ x.length → Q (.str (cutOr x i) t') { s with heap := h', toks := k })
    (hs : subscripted slice false (.str x t) (.ref s.heap.objs.size) = operate [.ref s.heap.objs.size, .str x t] (getItem (.str x t) (.ref s.heap.objs.size)) := by with_unfolding_all rfl)
    (ht : ∀ r, letTemporaryGo value (.str x t) r = pure () := by intro _; with_unfolding_all rfl) (hsz : x.length ≤ sizeLine := by size_fits) :
    wpAny (model prog w) A (subscriptTail value slice (.str x t) (.ref s.heap.objs.size)) Q E { s with heap := s.heap.push { cls := .type "slice", data := .fields #[.none, if i = 0 then .none else .int i u, .none] } } := by
  have hle := cutOr_le x i
  by_cases hi : i = 0
  · rw [if_pos hi]
    refine slice_strN_nn hF hN (fun h' t' k a b => ?_) hs ht hsz
    have e : cutOr x i = x := by unfold cutOr; rw [if_pos hi]
    rw [slice_whole]
    have := h h' t' k a b hle
    rw [e] at this
    exact this
  · rw [if_neg hi]
    refine slice_strN_ns hF hN (fun h' t' k a b => ?_) hs ht hsz
    have e : cutOr x i = Txt.slice x none (some i) := by unfold cutOr; rw [if_neg hi]
    have := h h' t' k a b hle
    rw [e] at this
    exact this
end
end Mine
namespace Mine
theorem allLt_mono {d d' : Addr} (h : @LE.le Nat _ d d') : ∀ {l : List (Addr × Obj)}, AllLt d l → AllLt d' l
  | [], _ => trivial
  | _ :: _, x => ⟨Nat.lt_of_lt_of_le x.1 h, allLt_mono h x.2⟩
theorem allLt_tail {d : Addr} {p : Addr × Obj} {l : List (Addr × Obj)} (h : @LT.lt Nat _ p.1 d ∧ AllLt d l) : AllLt d l := h.2
section
open LCg
variable {prog : Program} {w : World} {A : Around} {h₀ : Heap} {L : Addr} {m : Str → Option Value} {env : Env} {elt : Expr} {x : Str} {scope : Scope} {cl : List (Str × Addr)} {s : Shared} {S : List (Addr × Obj) → Prop} {P : Nat → Value → Prop} {Fin : List Value → List (Addr × Obj) → Prop} {news : List (Addr × Obj)}
/-- a comprehension of texts: turn i gives G i -/
theorem rest_str {n : Nat} (G : Nat → Str)
    (turn : ∀ i v I oI C oC D m₂ ys h tk (E' : Value → Shared → Prop), i < n → P i v → NsObj oC m₂ → m₂ x = some v → Fr h₀ L h m → News h₀ L h ((I, oI) :: (C, oC) :: (D, lst ys) :: news) → Off3 I C D news → ((@Ne Nat I C) ∧ (@Ne Nat I D) ∧ (@Ne Nat C D)) →
      wpAny (model prog w) A (eval elt (compEnvC scope cl C env)) (CompEnd h₀ L m { s with heap := h, toks := tk } I oI C oC D (lst ys) S (fun y news' => KCtEl news (G i) y news')) E' { s with heap := h, toks := tk })
    (fin : ∀ ys, StrsAre ys ((List.range n).map G) → Fin ys news) : CompRest prog w A h₀ L m env elt x scope cl s S P Fin n 0 [] news := by
  have key : ∀ (j i : Nat) (ys : List Value), i + j = n → StrsAre ys ((List.range i).map G) → CompRest prog w A h₀ L m env elt x scope cl s S P Fin j i ys news := by
    intro j
    induction j with
    | zero =>
      intro i ys hi hy
      have e : i = n := by omega
      subst e
      exact CompRest.zero (fin ys hy)
    | succ j ih =>
      intro i ys hi hy
      refine CompRest.succ ?_
      intro v I oI C oC D m₂ h tk E' hv hC hx F N off ne
      refine wpAny_mono (turn i v I oI C oC D m₂ ys h tk E' (by omega) hv hC hx F N off ne) (fun y s₂ hq => ?_) fun _ _ e => e
      obtain ⟨h', tk', nw, e, F', N', off', hS, hn, t', hy'⟩ := hq
      rw [hn] at N' off' hS
      refine ⟨h', tk', news, e, F', N', off', hS, ?_⟩
      rw [hy']
      refine ih (i + 1) _ (by omega) ?_
      rw [List.range_succ, List.map_append]
      exact kct_snoc hy
  exact key n 0 [] (by omega) (by simp only [List.range_zero, List.map_nil]; exact .nil)
theorem StrsAre_get : ∀ {vs : List Value} {xs : List Str}, StrsAre vs xs → ∀ {i : Nat} {v : Value}, vs[i]? = some v → ∃ t, v = .str (xs.getD i Str.empty) t
  | _, _, .nil, i, v, h => by simp at h
  | _, _, .cons y t r, 0, v, h => by
    simp at h
    exact ⟨t, by rw [← h]; rfl⟩
  | _, _, .cons y t r, i + 1, v, h => by
    simp at h
    obtain ⟨t', e⟩ := StrsAre_get r h
    exact ⟨t', by rw [e]; rfl⟩
/-- the same over a list of texts -/
theorem rest_strs {vs : List Value} {xs : List Str} (g : Str → Str) (hS : StrsAre vs xs)
    (turn : ∀ k t I oI C oC D m₂ ys h tk (E' : Value → Shared → Prop), k ∈ xs → NsObj oC m₂ → m₂ x = some (.str k t) → Fr h₀ L h m → News h₀ L h ((I, oI) :: (C, oC) :: (D, lst ys) :: news) → Off3 I C D news → ((@Ne Nat I C) ∧ (@Ne Nat I D) ∧ (@Ne Nat C D)) →
      wpAny (model prog w) A (eval elt (compEnvC scope cl C env)) (CompEnd h₀ L m { s with heap := h, toks := tk } I oI C oC D (lst ys) S (fun y news' => KCtEl news (g k) y news')) E' { s with heap := h, toks := tk })
    (fin : ∀ ys, StrsAre ys (xs.map g) → Fin ys news) : CompRest prog w A h₀ L m env elt x scope cl s S (fun i v => vs.toArray[i]? = some v) Fin vs.toArray.size 0 [] news := by
  have hl : vs.length = xs.length := hS.length
  refine rest_str (fun i => g (xs.getD i Str.empty)) ?_ ?_
  · intro i v I oI C oC D m₂ ys h tk E' hi hv hC hx F N off ne
    rw [List.size_toArray, hl] at hi
    obtain ⟨t, e⟩ := StrsAre_get hS (i := i) (v := v) (by simpa using hv)
    rw [e] at hx
    have hm : xs.getD i Str.empty ∈ xs := by
      have : xs[i]? = some xs[i] := by simp [hi]
      rw [List.getD_eq_getElem?_getD, this]
      exact List.mem_of_getElem? this
    exact turn _ t I oI C oC D m₂ ys h tk E' hm hC hx F N off ne
  · intro ys hy
    refine fin ys ?_
    have e : (List.range vs.toArray.size).map (fun i => g (xs.getD i Str.empty)) = xs.map g := by
      rw [List.size_toArray, hl]
      apply List.ext_getElem?
      intro i
      rcases Nat.lt_or_ge i xs.length with h | h
      · simp [h]
      · simp [h]
    rw [e] at hy
    exact hy
end
/-- an item of a made list of texts -/
theorem item_strs {prog : Program} {w : World} {A : Around} {E : Value → Shared → Prop} {s : Shared} {h₀ : Heap} {L l : Addr} {vs : List Value} {xs : List Str} {c : Nat} {i : Int} {u : Tok} {value slice : Expr} {news : List (Addr × Obj)} {Q : Value → Shared → Prop}
    (N : News h₀ L s.heap news) (hm : (l, listOf vs.toArray c) ∈ news) (hS : StrsAre vs xs) (h0 : 0 ≤ i) (hlt : i < xs.length) (hfit : i < 2 ^ 63) (h : ∀ t, Q (.str (xs.getD i.toNat Str.empty) t) s)
    (hs : subscripted slice false (.ref l) (.int i u) = operate [.ref l, .int i u] (getItem (.ref l) (.int i u)) := by with_unfolding_all rfl) :
    wpAny (model prog w) A (subscriptTail value slice (.ref l) (.int i u)) Q E s := by
  have hl : s.heap.IsList l vs.toArray := ⟨_, N.get hm, rfl, c, rfl⟩
  have hlen : vs.length = xs.length := hS.length
  have hx : vs[i.toNat]? = some (vs[i.toNat]'(by omega)) := by simp
  obtain ⟨t, e⟩ := StrsAre_get hS hx
  rw [e] at hx
  exact tail_any hl.typeIs slot_list_getitem.lookup (wpAny_getItem_list hl h0 hfit (by simpa using hx) (h t)) hs
end Mine
namespace Mine
theorem len_strs {prog : Program} {w : World} {A : Around} {E : Value → Shared → Prop} {s : Shared} {h₀ : Heap} {L l : Addr} {vs : List Value} {xs : List Str} {c : Nat} {news : List (Addr × Obj)} {Q : Value → Shared → Prop}
    (N : News h₀ L s.heap news) (hm : (l, listOf vs.toArray c) ∈ news) (hS : StrsAre vs xs) (hlt : xs.length < 1000000) (h : Q (.int (xs.length : Int) (s.toks + 1)) { s with toks := s.toks + 1 + 1 }) : wpAny (model prog w) A (call (.builtin "len") [.ref l]) Q E s := by
  have hl : s.heap.IsList l vs.toArray := ⟨_, N.get hm, rfl, c, rfl⟩
  have hlen : vs.length = xs.length := hS.length
  refine len_list hl ?_ ?_
  · rw [List.size_toArray, hlen]; omega
  · rw [List.size_toArray, hlen]; exact h
theorem strs_append : ∀ {vs : List Value} {xs : List Str} {us : List Value} {ys : List Str}, StrsAre vs xs → StrsAre us ys → StrsAre (vs ++ us) (xs ++ ys)
  | _, _, _, _, .nil, h => h
  | _, _, _, _, .cons x t r, h => .cons x t (strs_append r h)
end Mine
namespace Mine
theorem cat_strs {prog : Program} {w : World} {A : Around} {E : Value → Shared → Prop} {s : Shared} {h₀ : Heap} {L l b : Addr} {m : Str → Option Value} {vs us : List Value} {xs ys : List Str} {c d : Nat} {news : List (Addr × Obj)} {Q : Value → Shared → Prop}
    (F : Fr h₀ L s.heap m) (N : News h₀ L s.heap news) (hl : (l, listOf vs.toArray c) ∈ news) (hb : (b, listOf us.toArray d) ∈ news) (hS : StrsAre vs xs) (hT : StrsAre us ys) (hsz : xs.length + ys.length < 1000000)
    (h : ∀ r h' ws, Fr h₀ L h' m → News h₀ L h' ((r, listOf ws.toArray 0) :: news) → (∀ p ∈ news, p.1 < r) → StrsAre ws (xs ++ ys) → Q (.ref r) { s with heap := h' }) : wpAny (model prog w) A (binaryOp .Add (.ref l) (.ref b)) Q E s := by
  have e1 : vs.length = xs.length := hS.length
  have e2 : us.length = ys.length := hT.length
  refine add_arrays F N (its := vs.toArray) (its2 := us.toArray) ⟨_, N.get hl, rfl, c, rfl⟩ ⟨_, N.get hb, rfl, d, rfl⟩ ?_ ?_
  · intro h' F' N'
    exact h _ h' (vs ++ us) F' N' (fun p hp => Heap.lt_size (N p hp).1) (strs_append hS hT)
  · rw [List.size_toArray, List.size_toArray, e1, e2, PySem.sizeLine_eq]; omega
end Mine

namespace Mine
/-- two words whose letters answer one another place by place -/
structure Apt (la lb : List Nat) : Prop where
  len : la.length = lb.length
  le : la.length ≤ 6
  one : ∀ (i j p q : Nat), lb[i]? = some p → la[j]? = some q → subc (T [p]) (T [q]) = if i = j then (if p = q then (0 : Int) else 1) else 2
def ham : List Nat → List Nat → Nat
  | p :: a, q :: b => (if p = q then 0 else 1) + ham a b
  | _, _ => 0
theorem ham_nil_r : ∀ l, ham l [] = 0
  | [] => rfl
  | _ :: _ => rfl
theorem ham_self : ∀ l, ham l l = 0
  | [] => rfl
  | p :: l => by rw [ham, if_pos rfl, ham_self l]
theorem ham_split : ∀ (n : Nat) (la lb : List Nat), la.length = lb.length → ham la lb = ham (la.take n) (lb.take n) + ham (la.drop n) (lb.drop n)
  | 0, la, lb, _ => by simp [ham]
  | n + 1, [], [], _ => by simp [ham]
  | n + 1, p :: la, q :: lb, h => by
    have := ham_split n la lb (by simpa using h)
    simp only [List.take_succ_cons, List.drop_succ_cons, ham]
    omega
theorem Apt.drop {la lb : List Nat} (h : Apt la lb) (n : Nat) : Apt (la.drop n) (lb.drop n) where
  len := by simp [h.len]
  le := by have := h.le; simp; omega
  one := fun i j p q hp hq => by
    rw [List.getElem?_drop] at hp hq
    rw [h.one _ _ p q hp hq]
    by_cases e : i = j
    · subst e; simp
    · rw [if_neg e, if_neg (by omega)]
theorem get_take {l : List Nat} {n i p : Nat} (h : (l.take n)[i]? = some p) : l[i]? = some p := by
  rw [List.getElem?_take] at h
  split at h
  · exact h
  · cases h
theorem Apt.take {la lb : List Nat} (h : Apt la lb) (n : Nat) : Apt (la.take n) (lb.take n) where
  len := by simp [h.len]
  le := by have := h.le; simp; omega
  one := fun i j p q hp hq => h.one i j p q (get_take hp) (get_take hq)
def W1 (H : Nat) (x y : Str) (i : Int) : Prop := ∃ la lb, x = T la ∧ y = T lb ∧ Apt la lb ∧ ham la lb = H ∧ 0 ≤ i ∧ i ≤ la.length ∧ la.take i.toNat = lb.take i.toNat
def W2 (H : Nat) (x y : Str) (i : Int) : Prop := ∃ la lb, x = T la ∧ y = T lb ∧ Apt la lb ∧ ham la lb = H ∧ i ≤ 0 ∧ -(la.length : Int) ≤ i ∧ la.drop (i + la.length).toNat = lb.drop (i + la.length).toNat
theorem w1_0 {x y : Str} {la lb : List Nat} (hx : x = T la) (hy : y = T lb) (hA : Apt la lb) : W1 (ham la lb) x y 0 :=
  ⟨la, lb, hx, hy, hA, rfl, by omega, by omega, by simp⟩
theorem some_of_lt {l : List Nat} {i : Nat} (h : i < l.length) : ∃ v, l[i]? = some v := ⟨l[i], by simp [h]⟩
theorem take_one_more {l : List Nat} {i v : Nat} (h : l[i]? = some v) : l.take (i + 1) = l.take i ++ [v] := by
  rw [List.take_add_one, h]; rfl
theorem w1_step {H : Nat} {x y : Str} {i : Int} (h : W1 H x y i) (hl : ((Txt.slice x (some i) none).length : Int) ≠ 0) (he : (Txt.item x i == Txt.item y i) = true) : W1 H x y (i + 1) ∧ 0 ≤ i + 1 ∧ i + 1 ≤ 6 := by
  obtain ⟨la, lb, rfl, rfl, hA, hH, h0, h1, h2⟩ := h
  have e1 := hA.len
  have e2 := hA.le
  rw [slice_from h0 h1, T_len, List.length_drop] at hl
  obtain ⟨p, hp⟩ := some_of_lt (l := la) (i := i.toNat) (by omega)
  obtain ⟨q, hq⟩ := some_of_lt (l := lb) (i := i.toNat) (by omega)
  rw [item_T h0 hp, item_T h0 hq, beqT, decide_eq_true_eq] at he
  have e : p = q := by simpa using he
  subst e
  refine ⟨⟨la, lb, rfl, rfl, hA, hH, by omega, by omega, ?_⟩, by omega, by omega⟩
  rw [show (i + 1).toNat = i.toNat + 1 by omega, take_one_more hp, take_one_more hq, h2]
theorem w2_0 {H : Nat} {x y : Str} {i : Int} (h : W1 H x y i) : W2 H (Txt.slice x (some i) none) (Txt.slice y (some i) none) 0 ∧ (0 : Int) ≤ 0 ∧ (-6 : Int) ≤ 0 := by
  obtain ⟨la, lb, rfl, rfl, hA, hH, h0, h1, h2⟩ := h
  have e1 := hA.len
  refine ⟨⟨la.drop i.toNat, lb.drop i.toNat, slice_from h0 h1, slice_from h0 (by omega), hA.drop _, ?_, by omega, by omega, ?_⟩, by omega, by omega⟩
  · have := ham_split i.toNat la lb e1
    rw [h2, ham_self] at this
    omega
  · rw [List.drop_eq_nil_of_le (by simp), List.drop_eq_nil_of_le (by simp [e1])]
theorem cut_0 {x : Str} : cutOr x 0 = x := by unfold cutOr; rw [if_pos rfl]
theorem cut_T {l : List Nat} {i : Int} (h0 : i ≤ 0) (h1 : -(l.length : Int) ≤ i) : cutOr (T l) i = T (l.take (i + l.length).toNat) := by
  unfold cutOr
  split
  · rename_i e
    subst e
    rw [List.take_of_length_le (by omega)]
  · exact slice_neg (by omega) h1
theorem neg_ok {H : Nat} {x y : Str} {i : Int} (h : W2 H x y i) (hl : ((cutOr x i).length : Int) ≠ 0) : -(x.length : Int) ≤ i - 1 ∧ -(y.length : Int) ≤ i - 1 ∧ (x.length : Int) ≤ 6 ∧ (y.length : Int) ≤ 6 := by
  obtain ⟨la, lb, rfl, rfl, hA, hH, h0, h1, h2⟩ := h
  have e1 := hA.len
  have e2 := hA.le
  have e3 : (T la).length = la.length := T_len la
  have e4 : (T lb).length = lb.length := T_len lb
  rw [cut_T h0 h1, T_len, List.length_take] at hl
  omega
theorem drop_one_more {l : List Nat} {i v : Nat} (h : l[i]? = some v) : l.drop i = v :: l.drop (i + 1) := by
  obtain ⟨hlt, rfl⟩ := List.getElem?_eq_some_iff.mp h
  rw [List.drop_eq_getElem_cons hlt]
theorem w2_step {H : Nat} {x y : Str} {i : Int} (h : W2 H x y i) (hb : -(x.length : Int) ≤ i - 1 ∧ -(y.length : Int) ≤ i - 1 ∧ (x.length : Int) ≤ 6 ∧ (y.length : Int) ≤ 6) (he : (Txt.item x (i - 1) == Txt.item y (i - 1)) = true) : W2 H x y (i - 1) ∧ i - 1 ≤ 0 ∧ -6 ≤ i - 1 := by
  obtain ⟨la, lb, rfl, rfl, hA, hH, h0, h1, h2⟩ := h
  have e1 := hA.len
  have e2 := hA.le
  have hl := hb.1
  rw [T_len] at hl
  obtain ⟨p, hp⟩ := some_of_lt (l := la) (i := (i - 1 + la.length).toNat) (by omega)
  obtain ⟨q, hq⟩ := some_of_lt (l := lb) (i := (i - 1 + la.length).toNat) (by omega)
  rw [item_Tn (by omega) (by omega) hp, item_Tn (by omega) (by omega) (by rw [← e1]; exact hq), beqT, decide_eq_true_eq] at he
  have e : p = q := by simpa using he
  subst e
  refine ⟨⟨la, lb, rfl, rfl, hA, hH, by omega, by omega, ?_⟩, by omega, by omega⟩
  rw [drop_one_more hp, drop_one_more hq, show (i - 1 + la.length).toNat + 1 = (i + la.length).toNat by omega, h2]
theorem strip {H : Nat} {x y : Str} {i : Int} (h : W2 H x y i) : ∃ la lb, cutOr x i = T la ∧ cutOr y i = T lb ∧ Apt la lb ∧ ham la lb = H ∧ (T la).length = la.length ∧ (T lb).length = la.length ∧ la.length ≤ 6 := by
  obtain ⟨la, lb, rfl, rfl, hA, hH, h0, h1, h2⟩ := h
  have e1 := hA.len
  have hB := hA.take (i + la.length).toNat
  refine ⟨la.take (i + la.length).toNat, lb.take (i + la.length).toNat, cut_T h0 h1, ?_, hB, ?_, T_len _, by rw [T_len, hB.len], hB.le⟩
  · rw [cut_T h0 (by omega), ← e1]
  · have := ham_split (i + la.length).toNat la lb e1
    rw [h2, ham_self] at this
    omega
structure Seen : Prop where
  one : True
structure SeenN : Prop where
  one : True

def hh (la lb : List Nat) (i : Nat) : Int := (ham (la.take i) (lb.take i) : Nat)
theorem hh_0 (la lb : List Nat) : hh la lb 0 = 0 := by simp [hh, ham]
theorem hh_succ {la lb : List Nat} {i p q : Nat} (h1 : la[i]? = some p) (h2 : lb[i]? = some q) : hh la lb (i + 1) = hh la lb i + (if q = p then 0 else 1) := by
  have l1 := (List.getElem?_eq_some_iff.mp h1).1
  have l2 := (List.getElem?_eq_some_iff.mp h2).1
  unfold hh
  rw [ham_split i (la.take (i + 1)) (lb.take (i + 1)) (by simp; omega)]
  rw [take_one_more h1, take_one_more h2]
  rw [List.take_append_of_le_length (by simp; omega), List.take_append_of_le_length (by simp; omega)]
  rw [List.take_take, List.take_take, Nat.min_self]
  rw [List.drop_append_of_le_length (by simp; omega), List.drop_append_of_le_length (by simp; omega)]
  rw [List.drop_eq_nil_of_le (by simp; omega), List.drop_eq_nil_of_le (by simp; omega)]
  simp only [List.nil_append, ham]
  by_cases e : p = q
  · subst e; simp
  · rw [if_neg e, if_neg (fun h => e h.symm)]; omega
theorem hh_mono {la lb : List Nat} (hl : la.length = lb.length) {i : Nat} (hi : i < la.length) : hh la lb i ≤ hh la lb (i + 1) ∧ hh la lb (i + 1) ≤ hh la lb i + 1 := by
  obtain ⟨p, hp⟩ := some_of_lt hi
  obtain ⟨q, hq⟩ := some_of_lt (l := lb) (i := i) (by omega)
  rw [hh_succ hp hq]
  split <;> omega
theorem hh_nonneg (la lb : List Nat) (i : Nat) : 0 ≤ hh la lb i := by unfold hh; omega
theorem hh_all {la lb : List Nat} (hl : la.length = lb.length) : hh la lb la.length = ham la lb := by
  unfold hh
  rw [List.take_of_length_le (Nat.le_refl _), List.take_of_length_le (by omega)]
theorem hh_le {la lb : List Nat} (hl : la.length = lb.length) (i : Nat) : hh la lb i ≤ ham la lb := by
  unfold hh
  have := ham_split i la lb hl
  omega
/-- what a cell of the table says: at row i, column j -/
def RV (la lb : List Nat) (i j : Nat) (v : Int) : Prop := hh la lb (min i j) ≤ v ∧ (i = j → v = hh la lb i)
theorem RV.next {la lb : List Nat} (hA : Apt la lb) {k i p q : Nat} {left up diag : Int} (hk : lb[k]? = some p) (hi : la[i]? = some q) (hl : RV la lb (k + 1) i left) (hu : RV la lb k (i + 1) up) (hd : RV la lb k i diag) :
    RV la lb (k + 1) (i + 1) (min (min left up + 2) (diag + subc (T [p]) (T [q]))) := by
  have e1 := hA.len
  have lk := (List.getElem?_eq_some_iff.mp hk).1
  have li := (List.getElem?_eq_some_iff.mp hi).1
  have hs := hA.one k i p q hk hi
  obtain ⟨hl, -⟩ := hl
  obtain ⟨hu, -⟩ := hu
  obtain ⟨hd, hd2⟩ := hd
  rw [hs]
  rcases Nat.lt_trichotomy k i with h | h | h
  · rw [if_neg (by omega)]
    have m1 := hh_mono (la := la) (lb := lb) e1 (i := k) (by omega)
    rw [show min (k + 1) i = k + 1 by omega] at hl
    rw [show min k (i + 1) = k by omega] at hu
    rw [show min k i = k by omega] at hd
    refine ⟨?_, fun e => by omega⟩
    rw [show min (k + 1) (i + 1) = k + 1 by omega]
    omega
  · subst h
    rw [if_pos rfl]
    have m1 := hh_succ (la := la) (lb := lb) hi hk
    have m2 := hh_mono (la := la) (lb := lb) e1 (i := k) (by omega)
    have d := hd2 rfl
    rw [show min (k + 1) k = k by omega] at hl
    rw [show min k (k + 1) = k by omega] at hu
    refine ⟨?_, fun _ => ?_⟩
    · rw [Nat.min_self]; omega
    · omega
  · rw [if_neg (by omega)]
    have m1 := hh_mono (la := la) (lb := lb) e1 (i := i) (by omega)
    rw [show min (k + 1) i = i by omega] at hl
    rw [show min k (i + 1) = i + 1 by omega] at hu
    rw [show min k i = i by omega] at hd
    refine ⟨?_, fun e => by omega⟩
    rw [show min (k + 1) (i + 1) = i + 1 by omega]
    omega
def OutP (la lb : List Nat) (pre row : List Int) (result : Int) : Prop :=
  row.length = la.length ∧ (∀ j v, row[j]? = some v → RV la lb pre.length (j + 1) v) ∧ (pre ≠ [] → RV la lb pre.length la.length result)
def InP (la lb : List Nat) (bi : Int) (pre row : List Int) (result distance minimum : Int) : Prop :=
  0 ≤ bi ∧ row.length = la.length ∧ pre.length ≤ la.length ∧ (∀ j v, row[j]? = some v → RV la lb (if j < pre.length then bi.toNat + 1 else bi.toNat) (j + 1) v) ∧ RV la lb bi.toNat pre.length distance ∧ RV la lb (bi.toNat + 1) pre.length result ∧
    ∀ j v, j < pre.length → row[j]? = some v → minimum ≤ v
theorem evens_get {n j : Nat} {v : Int} (h : ((List.range n).map fun (j : Nat) => 2 + (j : Int) * 2)[j]? = some v) : v = 2 + (j : Int) * 2 := by
  rw [List.getElem?_map] at h
  rcases hr : (List.range n)[j]? with _ | a
  · rw [hr] at h; cases h
  · rw [hr] at h
    have hlt := (List.getElem?_eq_some_iff.mp hr).1
    rw [List.getElem?_range (by simpa using hlt)] at hr
    cases hr
    simpa using h.symm
theorem out_0 {la lb : List Nat} {n : Nat} {r : Int} (hn : n = la.length) : OutP la lb [] ((List.range n).map fun (j : Nat) => 2 + (j : Int) * 2) r := by
  subst hn
  refine ⟨by simp, fun j v h => ?_, fun h => absurd rfl h⟩
  rw [evens_get h]
  refine ⟨?_, fun e => by simp at e⟩
  rw [List.length_nil, Nat.zero_min, hh_0]
  omega
theorem in_0 {la lb : List Nat} {pre row : List Int} {r bi d m : Int} (h : OutP la lb pre row r) (hb : bi = 0 + (pre.length : Int)) (hd : d = bi * 2) : InP la lb bi [] row d d m := by
  obtain ⟨h1, h2, _⟩ := h
  have e : bi.toNat = pre.length := by omega
  refine ⟨by omega, h1, by simp, fun j v hv => ?_, ⟨?_, fun e2 => ?_⟩, ⟨?_, fun e2 => ?_⟩, fun j v hj => absurd hj (Nat.not_lt_zero _)⟩
  · rw [if_neg (by simp), e]; exact h2 j v hv
  · rw [List.length_nil, Nat.min_zero, hh_0]; omega
  · rw [List.length_nil] at e2; rw [e2, hh_0]; omega
  · rw [List.length_nil, Nat.min_zero, hh_0]; omega
  · rw [List.length_nil] at e2; omega
theorem in_step {la lb : List Nat} (hA : Apt la lb) {bi i : Int} {pre row : List Int} {r d m up : Int} {p q : Nat} (h : InP la lb bi pre row r d m) (hi : i = 0 + (pre.length : Int)) (hlt : pre.length < la.length) (hb : lb[bi.toNat]? = some p) (ha : la[i.toNat]? = some q) (hu : row[i.toNat]? = some up)
    {v m' : Int} (hv : v = min (min r up + 2) (d + subc (T [p]) (T [q]))) (hm1 : m' ≤ m) (hm2 : m' ≤ v) : InP la lb bi (pre ++ [i]) (row.set i.toNat v) v up m' := by
  obtain ⟨h0, h1, h2, h3, h4, h5, h6⟩ := h
  have e : i.toNat = pre.length := by omega
  rw [e] at ha hu ⊢
  have hup := h3 _ _ hu
  rw [if_neg (by omega)] at hup
  have hn := RV.next hA hb ha h5 hup h4
  rw [← hv] at hn
  refine ⟨h0, by simpa using h1, by simp; omega, fun j w hw => ?_, ?_, ?_, fun j w hj hw => ?_⟩
  · rw [List.getElem?_set] at hw
    by_cases ej : pre.length = j
    · subst ej
      rw [if_pos rfl, if_pos (by omega)] at hw
      cases hw
      rw [if_pos (by simp)]
      exact hn
    · rw [if_neg ej] at hw
      have := h3 j w hw
      by_cases ej2 : j < pre.length
      · rw [if_pos ej2] at this
        rw [if_pos (by simp; omega)]; exact this
      · rw [if_neg ej2] at this
        rw [if_neg (by simp; omega)]; exact this
  · rw [List.length_append, List.length_singleton]; exact hup
  · rw [List.length_append, List.length_singleton]; exact hn
  · rw [List.length_append, List.length_singleton] at hj
    rw [List.getElem?_set] at hw
    by_cases ej : pre.length = j
    · subst ej
      rw [if_pos rfl, if_pos (by omega)] at hw
      cases hw
      exact hm2
    · rw [if_neg ej] at hw
      exact Int.le_trans hm1 (h6 j w (by omega) hw)
theorem out_step {la lb : List Nat} {bi : Int} {pre pin row : List Int} {r d m : Int} (h : InP la lb bi pin row r d m) (hb : bi = 0 + (pre.length : Int)) (hn : pin.length = la.length) : OutP la lb (pre ++ [bi]) row r := by
  obtain ⟨h0, h1, h2, h3, h4, h5, h6⟩ := h
  have e : bi.toNat + 1 = (pre ++ [bi]).length := by simp; omega
  refine ⟨h1, fun j v hv => ?_, fun _ => ?_⟩
  · have := h3 j v hv
    have lj := (List.getElem?_eq_some_iff.mp hv).1
    rw [if_pos (by omega), e] at this
    exact this
  · rw [← e, ← hn]; exact h5
theorem in_early {la lb : List Nat} {bi : Int} {pin row : List Int} {r d m mc : Int} (hA : Apt la lb) (h : InP la lb bi pin row r d m) (hlt : bi.toNat < la.length) (hn : pin.length = la.length) (hm : mc < m) : mc < ham la lb := by
  obtain ⟨h0, h1, h2, h3, h4, h5, h6⟩ := h
  have hl : bi.toNat < row.length := by omega
  have hv : row[bi.toNat]? = some row[bi.toNat] := by simp [hl]
  have a := h3 _ _ hv
  rw [if_pos (by omega)] at a
  have b := h6 _ _ (by omega) hv
  have c := a.2 rfl
  have d := hh_le hA.len (bi.toNat + 1)
  omega
theorem out_end {la lb : List Nat} (hA : Apt la lb) {pre row : List Int} {r : Int} (h : OutP la lb pre row r) (hn : pre.length = la.length) (h0 : la.length ≠ 0) : r = ham la lb := by
  obtain ⟨h1, h2, h3⟩ := h
  have := (h3 (by intro e; rw [e] at hn; exact h0 hn.symm)).2 hn
  rw [this, hn, hh_all hA.len]

/-- the smaller one, as the walk says it -/
theorem lessI (a b : Int) : (if a < b then a else b) = min a b := by
  split <;> omega
section
variable {la lb : List Nat} {bi i : Int} {pre pin row : List Int} {r d m mc : Int}
theorem st_in0 (h : OutP la lb pre row r) (hb : bi = 0 + (pre.length : Int)) (hl : row.length = la.length) : InP la lb bi [] row (bi * 2) (bi * 2) m ∧ row.length = la.length := ⟨in_0 h hb rfl, hl⟩
theorem step_facts (hl2 : (T lb).length = la.length) (hA : Apt la lb) (h : InP la lb bi pin row r d m) (hi : i = 0 + (pin.length : Int)) (hlt : pin.length < (((T la).length : Int) - 0).toNat) (hb : bi = 0 + (pre.length : Int)) (hblt : pre.length < (((T lb).length : Int) - 0).toNat) :
    ∃ p q, lb[bi.toNat]? = some p ∧ la[i.toNat]? = some q ∧ Txt.item (T lb) bi = T [p] ∧ Txt.item (T la) i = T [q] ∧ row[i.toNat]? = some (row.getD i.toNat 0) ∧ pin.length < la.length := by
  have e1 := hA.len
  have e2 : (T la).length = la.length := T_len la
  have e3 := h.2.1
  obtain ⟨p, hp⟩ := some_of_lt (l := lb) (i := bi.toNat) (by omega)
  obtain ⟨q, hq⟩ := some_of_lt (l := la) (i := i.toNat) (by omega)
  refine ⟨p, q, hp, hq, item_T (by omega) hp, item_T (by omega) hq, ?_, by omega⟩
  have : i.toNat < row.length := by omega
  simp [List.getD, this]
theorem st_in1 (hl2 : (T lb).length = la.length) (hA : Apt la lb) (h : InP la lb bi pin row r d m) (hi : i = 0 + (pin.length : Int)) (hlt : pin.length < (((T la).length : Int) - 0).toNat) (hb : bi = 0 + (pre.length : Int)) (hblt : pre.length < (((T lb).length : Int) - 0).toNat)
    {V : Int} (hV : V = if d + subc (Txt.item (T lb) bi) (Txt.item (T la) i) < (if row.getD i.toNat 0 < r then row.getD i.toNat 0 else r) + 2 then d + subc (Txt.item (T lb) bi) (Txt.item (T la) i) else (if row.getD i.toNat 0 < r then row.getD i.toNat 0 else r) + 2) {m' : Int} (hm : V < m ∧ m' = V ∨ ¬ V < m ∧ m' = m) :
    InP la lb bi (pin ++ [i]) (row.set i.toNat V) V (row.getD i.toNat 0) m' ∧ (row.set i.toNat V).length = la.length := by
  obtain ⟨p, q, hp, hq, e1, e2, hu, hlt'⟩ := step_facts hl2 hA h hi hlt hb hblt
  rw [e1, e2, lessI, lessI] at hV
  have hv : V = min (min r (row.getD i.toNat 0) + 2) (d + subc (T [p]) (T [q])) := by omega
  have := in_step hA h hi hlt' hp hq hu hv (m' := m') (by omega) (by omega)
  exact ⟨this, this.2.1⟩
theorem st_inA (hl2 : (T lb).length = la.length) (hA : Apt la lb) (h : InP la lb bi pin row r d m) (hi : i = 0 + (pin.length : Int)) (hlt : pin.length < (((T la).length : Int) - 0).toNat) (hb : bi = 0 + (pre.length : Int)) (hblt : pre.length < (((T lb).length : Int) - 0).toNat)
    (hm : (if d + subc (Txt.item (T lb) bi) (Txt.item (T la) i) < (if row.getD i.toNat 0 < r then row.getD i.toNat 0 else r) + 2 then d + subc (Txt.item (T lb) bi) (Txt.item (T la) i) else (if row.getD i.toNat 0 < r then row.getD i.toNat 0 else r) + 2) < m) :
    InP la lb bi (pin ++ [i]) (row.set i.toNat (if d + subc (Txt.item (T lb) bi) (Txt.item (T la) i) < (if row.getD i.toNat 0 < r then row.getD i.toNat 0 else r) + 2 then d + subc (Txt.item (T lb) bi) (Txt.item (T la) i) else (if row.getD i.toNat 0 < r then row.getD i.toNat 0 else r) + 2))
      (if d + subc (Txt.item (T lb) bi) (Txt.item (T la) i) < (if row.getD i.toNat 0 < r then row.getD i.toNat 0 else r) + 2 then d + subc (Txt.item (T lb) bi) (Txt.item (T la) i) else (if row.getD i.toNat 0 < r then row.getD i.toNat 0 else r) + 2) (row.getD i.toNat 0)
      (if d + subc (Txt.item (T lb) bi) (Txt.item (T la) i) < (if row.getD i.toNat 0 < r then row.getD i.toNat 0 else r) + 2 then d + subc (Txt.item (T lb) bi) (Txt.item (T la) i) else (if row.getD i.toNat 0 < r then row.getD i.toNat 0 else r) + 2) ∧
    (row.set i.toNat (if d + subc (Txt.item (T lb) bi) (Txt.item (T la) i) < (if row.getD i.toNat 0 < r then row.getD i.toNat 0 else r) + 2 then d + subc (Txt.item (T lb) bi) (Txt.item (T la) i) else (if row.getD i.toNat 0 < r then row.getD i.toNat 0 else r) + 2)).length = la.length :=
  st_in1 hl2 hA h hi hlt hb hblt rfl (.inl ⟨hm, rfl⟩)
theorem st_inB (hl2 : (T lb).length = la.length) (hA : Apt la lb) (h : InP la lb bi pin row r d m) (hi : i = 0 + (pin.length : Int)) (hlt : pin.length < (((T la).length : Int) - 0).toNat) (hb : bi = 0 + (pre.length : Int)) (hblt : pre.length < (((T lb).length : Int) - 0).toNat)
    (hm : ¬ (if d + subc (Txt.item (T lb) bi) (Txt.item (T la) i) < (if row.getD i.toNat 0 < r then row.getD i.toNat 0 else r) + 2 then d + subc (Txt.item (T lb) bi) (Txt.item (T la) i) else (if row.getD i.toNat 0 < r then row.getD i.toNat 0 else r) + 2) < m) :
    InP la lb bi (pin ++ [i]) (row.set i.toNat (if d + subc (Txt.item (T lb) bi) (Txt.item (T la) i) < (if row.getD i.toNat 0 < r then row.getD i.toNat 0 else r) + 2 then d + subc (Txt.item (T lb) bi) (Txt.item (T la) i) else (if row.getD i.toNat 0 < r then row.getD i.toNat 0 else r) + 2))
      (if d + subc (Txt.item (T lb) bi) (Txt.item (T la) i) < (if row.getD i.toNat 0 < r then row.getD i.toNat 0 else r) + 2 then d + subc (Txt.item (T lb) bi) (Txt.item (T la) i) else (if row.getD i.toNat 0 < r then row.getD i.toNat 0 else r) + 2) (row.getD i.toNat 0) m ∧
    (row.set i.toNat (if d + subc (Txt.item (T lb) bi) (Txt.item (T la) i) < (if row.getD i.toNat 0 < r then row.getD i.toNat 0 else r) + 2 then d + subc (Txt.item (T lb) bi) (Txt.item (T la) i) else (if row.getD i.toNat 0 < r then row.getD i.toNat 0 else r) + 2)).length = la.length :=
  st_in1 hl2 hA h hi hlt hb hblt rfl (.inr ⟨hm, rfl⟩)
theorem st_out0 (hl1 : (T la).length = la.length) : OutP la lb [] (evens (T la).length) r ∧ (evens (T la).length).length = la.length := ⟨out_0 hl1, by simp [evens, hl1]⟩
theorem st_out1 (hl1 : (T la).length = la.length) (h : InP la lb bi (rangeKs 0 (((T la).length : Int) - 0).toNat) row r d m) (hb : bi = 0 + (pre.length : Int)) (hl : row.length = la.length) : OutP la lb (pre ++ [bi]) row r ∧ row.length = la.length :=
  ⟨out_step h hb (by rw [rangeKs_length]; omega), hl⟩
theorem st_early {H : Nat} (hl1 : (T la).length = la.length) (hl2 : (T lb).length = la.length) (hA : Apt la lb) (hH : ham la lb = H) (h : InP la lb bi (rangeKs 0 (((T la).length : Int) - 0).toNat) row r d m) (hb : bi = 0 + (pre.length : Int)) (hblt : pre.length < (((T lb).length : Int) - 0).toNat) (hm : mc < m) : mc < (H : Int) := by
  subst hH
  exact in_early hA h (by omega) (by rw [rangeKs_length]; omega) hm
theorem st_end {H : Nat} (hl1 : (T la).length = la.length) (hl2 : (T lb).length = la.length) (hA : Apt la lb) (hH : ham la lb = H) (h : OutP la lb (rangeKs 0 (((T lb).length : Int) - 0).toNat) row r) (h0 : ((T la).length : Int) ≠ 0) : r = (H : Int) := by
  subst hH
  exact out_end hA h (by rw [rangeKs_length]; omega) (by omega)
theorem st_nil {H : Nat} (hl1 : (T la).length = la.length) (hl2 : (T lb).length = la.length) (hA : Apt la lb) (hH : ham la lb = H) (h0 : ((T la).length : Int) = 0) : 2 * (((T la).length : Int) + ((T lb).length : Int)) = (H : Int) := by
  have e : la = [] := List.eq_nil_of_length_eq_zero (by omega)
  subst e
  have : H = 0 := by rw [← hH]; simp [ham]
  omega
theorem st_nilB {H : Nat} (hl1 : (T la).length = la.length) (hl2 : (T lb).length = la.length) (hA : Apt la lb) (hH : ham la lb = H) (h0 : ((T lb).length : Int) = 0) : 2 * (((T la).length : Int) + ((T lb).length : Int)) = (H : Int) :=
  st_nil hl1 hl2 hA hH (by omega)
theorem st_same {x y : Str} {H : Nat} (hx : x = T la) (hy : y = T lb) (hH : ham la lb = H) (h : (x == y) = true) : (0 : Int) = (H : Int) := by
  subst hx; subst hy
  rw [beqT, decide_eq_true_eq] at h
  subst h
  rw [← hH, ham_self]; rfl
end
theorem news_of {h₀ : Heap} {L : Addr} {h : Heap} {big news : List (Addr × Obj)} (N : News h₀ L h big) (hs : ∀ p ∈ news, p ∈ big) : News h₀ L h ([] ++ news) := fun p hp => N p (hs p hp)
end Mine



namespace Mine
theorem lines_S5_1 : True := by
  k_with_none
  k_with "subscriptTail Name Slice str ref" => ((with_reducible show wpAny _ _ (subscriptTail _ (Expr.Slice none (some (Expr.BoolOp _ _ _)) none _) _ _) _ _ _); (with_reducible rename Fr _ _ _ _ => zkF'); (with_reducible rename News _ _ _ _ => zkN'); (refine slice_or (hsz := ?zkhsz) (s := ⟨_, _, _, _, _⟩) zkF' zkN' ?_); (case zkhsz => size_fits); intro _ _ _ _ _ _)
  k_with "eval BoolOp" => (k_here; (with_reducible show wpAny _ _ (eval (Expr.BoolOp BoolOp.Or [Expr.Name _ _, Expr.Constant Const.none _ _] _) _) _ _ _); (with_reducible rename Fr _ _ _ _ => zkF'); k_dflt (refine' or_noneX zkF' ?zkv ?_ ?zka ?zkb; (case zka => rfl); (case zkb => rfl); (case zkv => rfl); k_whole))
  k_with "JoinI" => (refine joinI_end (by assumption) (by assumption) (by assumption))
  k_with "eval BinOp" => (
  (with_reducible show wpAny _ _ (eval (Expr.BinOp (Expr.Name (PySem.Str.ofString "post") _) Operator.Sub _ _) _) _ _ _);
  (fail_if_success (have : SeenN := by assumption));
  (have zkhSeen : SeenN := ⟨trivial⟩);
  (rename W2 _ _ _ _ => zkhW);
  (have zkhb := neg_ok zkhW (by assumption)))
  k_with "execs cons" => (
  (with_reducible show wpAny _ _ (execs (Stmt.If (Expr.BoolOp BoolOp.Or [Expr.UnaryOp UnaryOp.Not _ _, _] _) _ _ _ :: _) _) _ _ _);
  (fail_if_success (have : Seen := by assumption));
  (have zkhSeen : Seen := ⟨trivial⟩);
  k_extra "strip")
  k_with "call ref" => (k_here; (with_reducible show wpAny _ _ (call (Value.ref 116) [_, _]) _ _ _); k_dflt (refine' con_use (sub_con _ 0 _ _ _ _ _ ?zkhx ?zkhy) ?zkk1 ?zkk2 ?zkk3 ?zkk4 ?zkk5 ?zkkK ?zkkd ?zkku (Nat.zero_le _) ?_; (case zkk1 => k_asm); (case zkk2 => k_asm); (case zkk3 => k_asm); (case zkk4 => k_asm); (case zkk5 => k_asm); (case zkkK => first | exact rfl | assumption); (case zkhx => omega); (case zkhy => omega); (case zkkd => ktr_room); (case zkku => ktr_units)); (intro zkr9 zktl9 zkh9 zktk9 zkF9 zkN9 zkhle9 zkhR9); (obtain ⟨zkhT9, zkt9, zkhr9⟩ := zkhR9); (subst zkhT9); (subst zkhr9); (simp only [List.nil_append] at zkN9); (try dsimp only); (try k_fold))
  k_with "call type:list" => (k_here; (with_reducible show wpAny _ _ (call (Value.type _) [Value.ref _]) _ _ _); (rename IsRange _ _ _ _ _ _ _ _ => zkR'); (rename Fr _ _ _ _ => zkF'); (rename News _ _ _ _ => zkN'); (with_unfolding_all refine list_evens rfl zkF' zkN' zkR' (by omega) ?_); (intro zkh' zktk' zkvs' zkc' zkF' zkN' zkl1 zkhE); (try k_lt zkl1); (try k_sweep))
  exact True.intro

theorem lev_con (w : World) (n : Nat) (news : List (Addr × Obj)) (x y : Str) (t u v : Tok) (mc : Int) (la lb : List Nat) (hx : x = T la) (hy : y = T lb) (hA : Apt la lb) (h0 : 0 ≤ mc) (h6 : mc ≤ 6) :
    Con w 4 n 123 [.str x t, .str y u, .int mc v] news (fun r tl => tl = [] ∧ ∃ d k, r = .int d k ∧ (d = ham la lb ∨ mc < ham la lb ∧ d = mc + 1)) := by
  have hl : x.length = la.length := by subst hx; rw [T_len]
  have hl2 : y.length = la.length := by subst hy; rw [T_len, hA.len]
  have hl6 := hA.le
  have hW0 : W1 (ham la lb) x y 0 := w1_0 hx hy hA
  generalize hH0 : ham la lb = H at *
  refine con_of ?_; k_fill
  intro mean mg mb dp un gd cn cs a ccd cl outer A₀ base h₀ L m s Q E B F X N T hk hdp hun hn0 hret
  refine wpAny_call ?_
  k_dflt cell_enter
  k_with "state" => first
    | exact ⟨hW0, by decide, by decide⟩
    | exact w2_0 (by assumption)
    | exact w1_step (by assumption) (by assumption) (by assumption)
    | exact w2_step (by assumption) (by assumption) (by assumption)
    | exact st_out0 l1
    | exact st_in0 (by assumption) (by assumption) (by assumption)
    | exact st_out1 l1 (by assumption) (by assumption) (by assumption)
    | exact st_inA l2 hA' (by assumption) (by assumption) (by assumption) (by assumption) (by assumption) (by assumption)
    | exact st_inB l2 hA' (by assumption) (by assumption) (by assumption) (by assumption) (by assumption) (by assumption)
  k_with "strip" =>
    rename W2 _ _ _ _ => hW
    obtain ⟨la', lb', ea, eb, hA', hH, l1, l2, l3⟩ := strip hW
    simp only [ea, eb] at *
  k_with "pyIter ref" => k_of "bindex" => k_state (fun pre row result => OutP la' lb' pre row result ∧ row.length = la'.length) "row" "result"
  k_with "pyIter ref" => k_of "index" => k_state_given ["bindex"] (fun bi pre row result distance minimum => InP la' lb' bi pre row result distance minimum ∧ row.length = la'.length) "row" "result" "distance" "minimum"
  k_with "exec While BoolOp cons nil" =>
    rename Fr _ _ _ _ => F'
    rename News _ _ _ _ => N'
    with_unfolding_all refine' joinI (PySem.Str.ofString "a") (PySem.Str.ofString "b") (PySem.Str.ofString "pre") (W1 H) F' N' ?ja ?jb ?jl ?jr
    (case ja => with_unfolding_all rfl)
    (case jb => with_unfolding_all rfl)
    (case' jl => k_while_given ["a", "b"] (fun x y _ i => W1 H x y i ∧ 0 ≤ i ∧ i ≤ 6) (fun _ _ _ i => (6 - i).toNat) "pre")
    (case' jr => ((intro i9 t9 h9 tk9 F9 N9 P9); (try dsimp only); (try k_fold)))
  k_with "exec While BoolOp cons nil" =>
    rename Fr _ _ _ _ => F'
    rename News _ _ _ _ => N'
    with_unfolding_all refine' joinI (PySem.Str.ofString "a") (PySem.Str.ofString "b") (PySem.Str.ofString "post") (W2 H) F' N' ?ja2 ?jb2 ?jl2 ?jr2
    (case ja2 => with_unfolding_all rfl)
    (case jb2 => with_unfolding_all rfl)
    (case' jl2 => k_while_given ["a", "b"] (fun x y _ i => W2 H x y i ∧ i ≤ 0 ∧ -6 ≤ i) (fun _ _ _ i => (6 + i).toNat) "post")
    (case' jr2 => ((intro i9 t9 h9 tk9 F9 N9 P9); (try dsimp only); (try k_fold)))
  k_steps
  all_goals first
    | exact hret _ [] _ _ (by assumption) (by assumption) ⟨rfl, _, _, rfl, .inl (st_same hx hy hH0 (by assumption))⟩
    | exact hret _ [] _ _ (by assumption) (by assumption) ⟨rfl, _, _, rfl, .inl (st_nil l1 l2 hA' hH (by assumption))⟩
    | exact hret _ [] _ _ (by assumption) (by assumption) ⟨rfl, _, _, rfl, .inl (st_nilB l1 l2 hA' hH (by assumption))⟩
    | exact hret _ [] _ _ (by assumption) (news_of (by assumption) fun p hp => List.mem_cons_of_mem _ hp) ⟨rfl, _, _, rfl, .inl (st_end l1 l2 hA' hH (by assumption) (by assumption))⟩
    | exact hret _ [] _ _ (by assumption) (news_of (by assumption) fun p hp => List.mem_cons_of_mem _ (List.mem_append_left _ hp)) ⟨rfl, _, _, rfl, .inr ⟨st_early l1 l2 hA' hH (by assumption) (by assumption) (by assumption) (by assumption), rfl⟩⟩

end Mine

namespace Mine
/-- a turn's end: the iterator stands, the frame and the ledger are as Jn says -/
def TurnEnd (h₀ : Heap) (L : Addr) (s₁ : Shared) (I : Addr) (oI : Obj) (S : List (Addr × Obj) → Prop) (Jn : (Str → Option Value) → List (Addr × Obj) → Prop) (Q : Flow → Shared → Prop) (f : Flow) (s₂ : Shared) : Prop :=
  match f with
  | .ret v => Q (.ret v) s₂
  | .brk => Q .next s₂
  | _ => ∃ h' tk m' nx, s₂ = { s₁ with heap := h', toks := tk } ∧ Fr h₀ L h' m' ∧ News h₀ L h' ((I, oI) :: nx) ∧ (∀ p ∈ nx, p.1 ≠ I) ∧ S nx ∧ Jn m' nx
section
variable {prog : Program} {w : World} {A : Around} {s : Shared} {env : Env} {h₀ : Heap}
theorem codeAny_forT {R : Result → Shared → Prop} {target : Expr} {body : List Stmt} {I : Addr} {n : Nat} {P : Nat → Value → Nat → Prop} {St : Nat → Heap → Prop} {S : List (Addr × Obj) → Prop} {m : Str → Option Value}
    {news : List (Addr × Obj)}
    (item : ∀ i (s' : Shared) (Q : Option Value → Shared → Prop) (E : Value → Shared → Prop), i < n → St i s'.heap → s.toks ≤ s'.toks →
      (∀ v h' tk, P i v tk → St (i + 1) h' → (∀ b o, b ∉ [I] → s'.heap.get? b = some o → h'.get? b = some o) → Q (some v) { s' with heap := h', toks := tk }) → wpAny (model prog w) A (pyNext (.ref I)) Q E s')
    (done : ∀ (s' : Shared) (Q : Option Value → Shared → Prop) (E : Value → Shared → Prop), St n s'.heap → (∀ h' tk, (∀ b o, b ∉ [I] → s'.heap.get? b = some o → h'.get? b = some o) → Q none { s' with heap := h', toks := tk }) → wpAny (model prog w) A (pyNext (.ref I)) Q E s')
    (hIo : ∀ i h, St i h → ∃ o, h.get? I = some o)
    (hSt : ∀ i h h' o nw, St i h → h.get? I = some o → h'.get? I = some o → (∀ b o, h₀.get? b = some o → h'.get? b = some o) → News h₀ env.locals h' nw → S nw → St i h')
    (hLI : env.locals ≠ I) (hI₀ : h₀.get? I = none) (hoff : ∀ p ∈ news, p.1 ≠ I) (hS : S news)
    (hst : St 0 s.heap) (F : Fr h₀ env.locals s.heap m) (N : News h₀ env.locals s.heap news)
    (J : Nat → (Str → Option Value) → List (Addr × Obj) → Prop) (h0 : J 0 m news)
    (turn : ∀ i v m₁ nx h tk oI, i < n → P i v tk → s.toks ≤ tk → J i m₁ nx → S nx → Fr h₀ env.locals h m₁ → News h₀ env.locals h ((I, oI) :: nx) → (∀ p ∈ nx, p.1 ≠ I) →
      wpAny (model prog w) A (assign target env v) (fun _ s₂ => wpAny (model prog w) A (execs body env)
        (TurnEnd h₀ env.locals { s with heap := h, toks := tk } I oI S (J (i + 1)) (fun f s' => R (.ok f) s')) (notedBy (model prog w) A env fun e s' => R (.error e) s') s₂) (notedBy (model prog w) A env fun e s' => R (.error e) s') { s with heap := h, toks := tk })
    (fin : ∀ h tk m' nx, s.toks ≤ tk → J n m' nx → Fr h₀ env.locals h m' → News h₀ env.locals h nx → R (.ok .next) { s with heap := h, toks := tk })
    (ht : ∀ v, letOwnedTupleGo target (.ref I) v = pure () := by intro _; rfl) :
    codeAny (model prog w) A (.forLoop target (.ref I) body [] env) R s := by
  refine codeAny_forLoop
    (fun k s' => ∃ h' tk m' nx i, s' = { s with heap := h', toks := tk } ∧ s.toks ≤ tk ∧ St i h' ∧ Fr h₀ env.locals h' m' ∧ News h₀ env.locals h' nx ∧ (∀ p ∈ nx, p.1 ≠ I) ∧ S nx ∧ J i m' nx ∧ i ≤ n ∧ k = n + 1 - i) ?_ (n + 1)
    ⟨s.heap, s.toks, m, news, 0, rfl, Nat.le_refl _, hst, F, N, hoff, hS, h0, Nat.zero_le _, rfl⟩ ht
  rintro k s' ⟨h', tk, m', nx, i, rfl, htk, hst', F', N', ho', hS', hJ, hi, rfl⟩
  by_cases hlt : i < n
  · refine wpAny_with_toks (n := s.toks) htk (item i _ _ _ hlt hst' htk fun v h₁ tk₁ hP hst₁ hk₁ htk₁ => ?_)
    have F₁ := LCg.fr_but F' hk₁ hLI hI₀
    have N₁ := LCg.news_but N' hk₁ ho'
    obtain ⟨oI, hoI⟩ := hIo _ _ hst₁
    have N₂ : News h₀ env.locals h₁ ((I, oI) :: nx) := fun p hp => by
      rcases List.mem_cons.mp hp with rfl | hp
      · exact ⟨hoI, fun e => hLI e.symm, hI₀⟩
      · exact N₁ p hp
    refine wpAny_mono (wpAny_toks_of (n := s.toks) htk₁ (turn i v m' nx h₁ tk₁ oI hlt hP htk₁ hJ hS' F₁ N₂ ho')) (fun _ s₂ h₂ => ?_) fun _ _ e => e.2
    refine wpAny_mono (wpAny_toks_of (n := s.toks) h₂.1 h₂.2) (fun f s₃ h₃ => ?_) fun _ _ e => e.2
    obtain ⟨htk₃, h₃⟩ := h₃
    cases f with
    | ret v => exact h₃
    | brk => exact h₃
    | cont =>
      obtain ⟨h₄, tk₄, m₄, nx₄, rfl, F₄, N₄, o₄, S₄, J₄⟩ := h₃
      exact ⟨n + 1 - (i + 1), by omega, h₄, tk₄, m₄, nx₄, i + 1, rfl, htk₃, hSt _ _ _ oI _ hst₁ hoI (N₄ _ (List.mem_cons_self ..)).1 F₄.keep (fun p hp => N₄ p (List.mem_cons_of_mem _ hp)) S₄, F₄, fun p hp => N₄ p (List.mem_cons_of_mem _ hp), o₄, S₄, J₄, hlt, rfl⟩
    | next =>
      obtain ⟨h₄, tk₄, m₄, nx₄, rfl, F₄, N₄, o₄, S₄, J₄⟩ := h₃
      exact ⟨n + 1 - (i + 1), by omega, h₄, tk₄, m₄, nx₄, i + 1, rfl, htk₃, hSt _ _ _ oI _ hst₁ hoI (N₄ _ (List.mem_cons_self ..)).1 F₄.keep (fun p hp => N₄ p (List.mem_cons_of_mem _ hp)) S₄, F₄, fun p hp => N₄ p (List.mem_cons_of_mem _ hp), o₄, S₄, J₄, hlt, rfl⟩
  · have hin : i = n := by omega
    subst hin
    refine wpAny_with_toks (n := s.toks) htk (done _ _ _ hst' fun h₁ tk₁ hk₁ htk₁ => wpAny_execs_nil ?_)
    exact fin h₁ tk₁ m' nx htk₁ hJ (LCg.fr_but F' hk₁ hLI hI₀) (LCg.news_but N' hk₁ ho')

/-- for target in (a list of the ledger) -/
theorem for_list {E : Value → Shared → Prop} {Q : Flow → Shared → Prop} {target iter : Expr} {pos : Pos} {body : List Stmt} {ax : Addr} {vs : List Value} {c : Nat} {m : Str → Option Value} {news : List (Addr × Obj)}
    (J : Nat → (Str → Option Value) → List (Addr × Obj) → Prop)
    (he : ∀ Q' : Value → Shared → Prop, Q' (.ref ax) s → wpAny (model prog w) A (eval iter env) Q' E s) (hh : A.handled = none)
    (F : Fr h₀ env.locals s.heap m) (N : News h₀ env.locals s.heap news) (hm : (ax, listOf vs.toArray c) ∈ news) (h0 : J 0 m news) (hJ : ∀ i m' nx, J i m' nx → (ax, listOf vs.toArray c) ∈ nx)
    (turn : ∀ i v m₁ nx h tk I oI, vs[i]? = some v → s.toks ≤ tk → J i m₁ nx → Fr h₀ env.locals h m₁ → News h₀ env.locals h ((I, oI) :: nx) → (∀ p ∈ nx, p.1 ≠ I) →
      wpAny (model prog w) A (assign target env v) (fun _ s₂ => wpAny (model prog w) A (execs body env)
        (TurnEnd h₀ env.locals { s with heap := h, toks := tk } I oI (fun _ => True) (J (i + 1)) Q) E s₂) E { s with heap := h, toks := tk })
    (fin : ∀ h tk m' nx, s.toks ≤ tk → J vs.length m' nx → Fr h₀ env.locals h m' → News h₀ env.locals h nx → Q .next { s with heap := h, toks := tk })
    (ht : ∀ I v, letOwnedTupleGo target (.ref I) v = pure () := by intro _ _; rfl)
    (hs : ∀ x, foldedSetIterable iter env x = pure x := by intro _; rfl)
    (hE : PassesOwn (model prog w) A env E := by passes_own) :
    wpAny (model prog w) A (exec (.For target iter body [] pos) env) Q E s := by
  refine wpAny_For (he _ ?_) hs
  have hl : s.heap.IsList ax vs.toArray := ⟨_, N.get hm, rfl, c, rfl⟩
  have hlt : ax < s.heap.objs.size := Heap.lt_size (N.get hm)
  refine wpAny_pyIter_list hl ?_
  have up : ∀ b o, s.heap.get? b = some o → (s.heap.push { cls := .type "list_iterator", data := .fields #[.ref ax, .int 0 0] }).get? b = some o := fun b o e => Heap.get?_push_of_some _ e
  refine codeAny_forT (R := fun r s' => match r with | .ok f => Q f s' | .error e => cameBackBy (model prog w) A env E e s') (S := fun nx => (ax, listOf vs.toArray c) ∈ nx)
    (P := fun i v _ => vs.toArray[i]? = some v) (fun i s' Q E hi st _ hQ => (Walks.list (prog := prog) (w := w) hh s.heap.objs.size ax (Nat.ne_of_lt hlt) vs.toArray).item i s' Q E hi st hQ) (fun s' Q E st hQ => (Walks.list (prog := prog) (w := w) hh s.heap.objs.size ax (Nat.ne_of_lt hlt) vs.toArray).done s' Q E st hQ)
    (fun i h st => by obtain ⟨o, e, _⟩ := st.1; exact ⟨o, e⟩)
    (fun i h h' o nw st e e' k N' S' => LCg.list_st i h h' o nw st e e' k N' (.inr ⟨_, S', rfl, c, rfl⟩)) (Nat.ne_of_lt F.ns.lt) (next_is_new F) (fun p hp => Nat.ne_of_lt (Heap.lt_size (N p hp).1)) hm
    ⟨⟨_, Heap.get?_push_size _ rfl, rfl, rfl⟩, hl.push _⟩ (F.keeps up) (N.grown up) J h0 ?_ ?_ (fun v => ht _ v)
  · intro i v m₁ nx h tk oI hi hP htk hj hS' F' N' ho'
    refine wpAny_mono (turn i v m₁ nx h tk _ oI (by simpa using hP) htk hj F' N' ho') (fun _ s₂ h₂ => wpAny_mono h₂ (fun f s₃ h₃ => ?_) fun e s' x => hE e s' x) fun e s' x => hE e s' x
    have fx : (∃ h' tk' m' nx', s₃ = { s with heap := h', toks := tk' } ∧ Fr h₀ env.locals h' m' ∧ News h₀ env.locals h' ((s.heap.objs.size, oI) :: nx') ∧ (∀ p ∈ nx', p.1 ≠ s.heap.objs.size) ∧ True ∧ J (i + 1) m' nx') →
        (∃ h' tk' m' nx', s₃ = { s with heap := h', toks := tk' } ∧ Fr h₀ env.locals h' m' ∧ News h₀ env.locals h' ((s.heap.objs.size, oI) :: nx') ∧ (∀ p ∈ nx', p.1 ≠ s.heap.objs.size) ∧ (ax, listOf vs.toArray c) ∈ nx' ∧ J (i + 1) m' nx') := by
      rintro ⟨h', tk', m', nx', e, F2, N2, o2, _, j2⟩
      exact ⟨h', tk', m', nx', e, F2, N2, o2, hJ _ _ _ j2, j2⟩
    cases f with
    | ret v => exact h₃
    | brk => exact h₃
    | next => exact fx h₃
    | cont => exact fx h₃
  · intro h tk m' nx htk hj F' N'
    exact fin h tk m' nx htk (by simpa using hj) F' N'
/-- for target in range(..): what iter's value is stands as a made range -/
theorem for_range {E : Value → Shared → Prop} {Q : Flow → Shared → Prop} {target iter : Expr} {pos : Pos} {body : List Stmt} {a : Int} {n : Nat} 
    (J : Nat → (Str → Option Value) → List (Addr × Obj) → Prop)
    (he : wpAny (model prog w) A (eval iter env) (fun v s₁ => ∃ r b t u v9 m news, v = .ref r ∧ s.toks ≤ s₁.toks ∧ (∃ h tk, s₁ = { s with heap := h, toks := tk }) ∧ IsRange s₁.heap r a b 1 t u v9 ∧ Builtin.Range.small a b 1 = true ∧ Builtin.Range.rangeSize a b 1 = (n : Int) ∧ Fr h₀ env.locals s₁.heap m ∧ News h₀ env.locals s₁.heap news ∧ J 0 m news) E s) (hh : A.handled = none)
    (turn : ∀ i t m₁ nx h tk I oI, i < n → s.toks ≤ tk → J i m₁ nx → Fr h₀ env.locals h m₁ → News h₀ env.locals h ((I, oI) :: nx) → (∀ p ∈ nx, p.1 ≠ I) →
      wpAny (model prog w) A (assign target env (.int (a + (i : Int)) t)) (fun _ s₂ => wpAny (model prog w) A (execs body env)
        (TurnEnd h₀ env.locals { s with heap := h, toks := tk } I oI (fun _ => True) (J (i + 1)) Q) E s₂) E { s with heap := h, toks := tk })
    (fin : ∀ h tk m' nx, s.toks ≤ tk → J n m' nx → Fr h₀ env.locals h m' → News h₀ env.locals h nx → Q .next { s with heap := h, toks := tk })
    (ht : ∀ I v, letOwnedTupleGo target (.ref I) v = pure () := by intro _ _; rfl)
    (hs : ∀ x, foldedSetIterable iter env x = pure x := by intro _; rfl)
    (hE : PassesOwn (model prog w) A env E := by passes_own) :
    wpAny (model prog w) A (exec (.For target iter body [] pos) env) Q E s := by
  refine wpAny_For (wpAny_mono he (fun xv s₁ h₁ => ?_) fun _ _ e => e) hs
  obtain ⟨r, b, t, u, v9, m, news, rfl, hle, ⟨h, tk, rfl⟩, hr, hsm, hn, F, N, h0⟩ := h₁
  refine wpAny_pyIter_range hr hsm ?_
  have up : ∀ b' o, h.get? b' = some o → (h.push { cls := .type "range_iterator", data := .fields #[rawInt a, rawInt (Builtin.Range.rangeSize a b 1), rawInt 1] }).get? b' = some o := fun b o e => Heap.get?_push_of_some _ e
  refine codeAny_forT (R := fun r s' => match r with | .ok f => Q f s' | .error e => cameBackBy (model prog w) A env E e s') (S := fun _ => True)
    (P := fun i v _ => ∃ t, v = .int (a + (i : Int)) t) (fun i s' Q E hi st _ hQ => (LCg.range_walks (prog := prog) (w := w) (I := h.objs.size) hh a n).item i s' Q E hi st hQ) (fun s' Q E st hQ => (LCg.range_walks (prog := prog) (w := w) (I := h.objs.size) hh a n).done s' Q E st hQ) (fun i h st => ⟨_, st⟩)
    (fun i h h' o nw st e e' k N' S' => LCg.range_st i h h' o nw st e e' k N' S') (Nat.ne_of_lt F.ns.lt) (next_is_new F) (fun p hp => Nat.ne_of_lt (Heap.lt_size (N p hp).1)) trivial
    (by show IsRangeIter _ _ _ _ _; rw [hn]; simpa using Heap.get?_push_size _ rfl) (F.keeps up) (N.grown up) J h0 ?_ ?_ (fun v => ht _ v)
  · rintro i v m₁ nx h' tk' oI hi ⟨t', rfl⟩ htk hj _ F' N' ho'
    refine wpAny_mono (turn i t' m₁ nx h' tk' _ oI hi (Nat.le_trans hle htk) hj F' N' ho') (fun _ s₂ h₂ => wpAny_mono h₂ (fun f s₃ h₃ => ?_) fun e s' x => hE e s' x) fun e s' x => hE e s' x
    cases f with
    | ret v => exact h₃
    | brk => exact h₃
    | next => exact h₃
    | cont => exact h₃
  · intro h' tk' m' nx htk hj F' N'
    exact fin h' tk' m' nx (Nat.le_trans hle htk) hj F' N'
/-- for target in a text of ascii signs: each sign's token is the count of tokens there -/
theorem for_ascii {E : Value → Shared → Prop} {Q : Flow → Shared → Prop} {target iter : Expr} {pos : Pos} {body : List Stmt} {x : Str} {tx : Tok} {m : Str → Option Value} {news : List (Addr × Obj)}
    (J : Nat → (Str → Option Value) → List (Addr × Obj) → Prop) (ha : x.cps.all (· < 128) = true)
    (he : ∀ Q' : Value → Shared → Prop, Q' (.str x tx) s → wpAny (model prog w) A (eval iter env) Q' E s) (hh : A.handled = none)
    (F : Fr h₀ env.locals s.heap m) (N : News h₀ env.locals s.heap news) (h0 : J 0 m news)
    (turn : ∀ i c t m₁ nx h I oI, x.cps[i]? = some c → s.toks ≤ t → J i m₁ nx → Fr h₀ env.locals h m₁ → News h₀ env.locals h ((I, oI) :: nx) → (∀ p ∈ nx, p.1 ≠ I) →
      wpAny (model prog w) A (assign target env (.str ⟨#[c]⟩ t)) (fun _ s₂ => wpAny (model prog w) A (execs body env)
        (TurnEnd h₀ env.locals { s with heap := h, toks := t + 1 } I oI (fun _ => True) (J (i + 1)) Q) E s₂) E { s with heap := h, toks := t + 1 })
    (fin : ∀ h tk m' nx, s.toks ≤ tk → J x.cps.size m' nx → Fr h₀ env.locals h m' → News h₀ env.locals h nx → Q .next { s with heap := h, toks := tk })
    (ht : ∀ I v, letOwnedTupleGo target (.ref I) v = pure () := by intro _ _; rfl)
    (hs : ∀ x, foldedSetIterable iter env x = pure x := by intro _; rfl)
    (hE : PassesOwn (model prog w) A env E := by passes_own) :
    wpAny (model prog w) A (exec (.For target iter body [] pos) env) Q E s := by
  refine wpAny_For (he _ ?_) hs
  refine wpAny_pyIter_ascii ha ?_
  have up : ∀ b o, s.heap.get? b = some o → (s.heap.push { cls := .type "str_ascii_iterator", data := .fields #[.str x tx, .int 0 0] }).get? b = some o := fun b o e => Heap.get?_push_of_some _ e
  refine codeAny_forT (R := fun r s' => match r with | .ok f => Q f s' | .error e => cameBackBy (model prog w) A env E e s') (S := fun _ => True) (n := x.cps.size)
    (P := fun i v tk => ∃ c t, x.cps[i]? = some c ∧ v = .str ⟨#[c]⟩ t ∧ s.toks ≤ t ∧ tk = t + 1) (St := fun i h => h.IsStrIter s.heap.objs.size "str_ascii_iterator" x tx i)
    ?_ (fun s' Q' E' st hQ => wpAny_pyNext_ascii_end hh st (by simp) fun h' he' => hQ h' s'.toks fun b o hb e => he' b o (fun h => hb (by simp [h])) e)
    (fun i h st => by obtain ⟨o, e, _⟩ := st; exact ⟨o, e⟩)
    (fun i h h' o nw st e e' k N' S' => by obtain ⟨o', q, r⟩ := st; rw [e] at q; cases q; exact ⟨o, e', r⟩) (Nat.ne_of_lt F.ns.lt) (next_is_new F) (fun p hp => Nat.ne_of_lt (Heap.lt_size (N p hp).1)) trivial
    ⟨_, Heap.get?_push_size _ rfl, rfl, rfl⟩ (F.keeps up) (N.grown up) J h0 ?_ ?_ (fun v => ht _ v)
  · intro i s' Q' E' hi st hle hQ
    refine wpAny_pyNext_ascii_item st (c := x.cps[i]) (by simp [hi]) fun h' hit' hs' => ?_
    exact hQ _ h' (s'.toks + 1) ⟨_, _, by simp [hi], rfl, hle, rfl⟩ hit' fun b o hb e => hs'.extBut b o (fun h => hb (by simp [h])) e
  · rintro i v m₁ nx h tk oI hi ⟨c, t, hx, rfl, hle, rfl⟩ htk hj _ F' N' ho'
    refine wpAny_mono (turn i c t m₁ nx h _ oI hx hle hj F' N' ho') (fun _ s₂ h₂ => wpAny_mono h₂ (fun f s₃ h₃ => ?_) fun e s' x => hE e s' x) fun e s' x => hE e s' x
    cases f with
    | ret v => exact h₃
    | brk => exact h₃
    | next => exact h₃
    | cont => exact h₃
  · intro h tk m' nx htk hj F' N'
    exact fin h tk m' nx htk hj F' N'
end
end Mine
namespace Mine
theorem turn_end {h₀ : Heap} {L : Addr} {s₁ : Shared} {I : Addr} {oI : Obj} {S : List (Addr × Obj) → Prop} {Jn : (Str → Option Value) → List (Addr × Obj) → Prop} {Q : Flow → Shared → Prop} {h' : Heap} {tk : Nat} {m' : Str → Option Value} {all : List (Addr × Obj)}
    (nx : List (Addr × Obj)) (F : Fr h₀ L h' m') (N : News h₀ L h' all) (sub : ∀ p ∈ (I, oI) :: nx, p ∈ all) (off : ∀ p ∈ nx, p.1 ≠ I) (hS : S nx) (j : Jn m' nx) : TurnEnd h₀ L s₁ I oI S Jn Q .next { s₁ with heap := h', toks := tk } :=
  ⟨h', tk, m', nx, rfl, F, fun p hp => N p (sub p hp), off, hS, j⟩
theorem StrsAre_at : ∀ {vs : List Value} {xs : List Str}, StrsAre vs xs → ∀ {i : Nat} {v : Value}, vs[i]? = some v → ∃ x t, xs[i]? = some x ∧ v = .str x t
  | _, _, .nil, i, v, h => by simp at h
  | _, _, .cons y t r, 0, v, h => ⟨y, t, rfl, by simpa using h.symm⟩
  | _, _, .cons y t r, i + 1, v, h => by
    obtain ⟨x, t', a, b⟩ := StrsAre_at r (i := i) (by simpa using h)
    exact ⟨x, t', by simpa using a, b⟩
theorem mem_of_at {α : Type} {l : List α} {i : Nat} {x : α} (h : l[i]? = some x) : x ∈ l := List.mem_of_getElem? h
theorem lt_of_at {α : Type} {l : List α} {i : Nat} {x : α} (h : l[i]? = some x) : i < l.length := (List.getElem?_eq_some_iff.mp h).1
end Mine
namespace Mine
/-- a made range from a on, n items -/
def MadeR (s : Shared) (h₀ : Heap) (L : Addr) (a : Int) (n : Nat) (J : Nat → (Str → Option Value) → List (Addr × Obj) → Prop) (v : Value) (s₁ : Shared) : Prop :=
  ∃ r b t u v9 m news, v = .ref r ∧ s.toks ≤ s₁.toks ∧ (∃ h tk, s₁ = { s with heap := h, toks := tk }) ∧ IsRange s₁.heap r a b 1 t u v9 ∧ Builtin.Range.small a b 1 = true ∧ Builtin.Range.rangeSize a b 1 = (n : Int) ∧ Fr h₀ L s₁.heap m ∧ News h₀ L s₁.heap news ∧ J 0 m news
theorem MadeR.intro {s s₁ : Shared} {h₀ : Heap} {L : Addr} {a b : Int} {n : Nat} {J : Nat → (Str → Option Value) → List (Addr × Obj) → Prop} {r : Addr} {t u v9 : Tok} {m : Str → Option Value} {news : List (Addr × Obj)}
    (F : Fr h₀ L s₁.heap m) (N : News h₀ L s₁.heap news) (hr : IsRange s₁.heap r a b 1 t u v9) (hle : s.toks ≤ s₁.toks) (hs : ∃ h tk, s₁ = { s with heap := h, toks := tk }) (hsm : Builtin.Range.small a b 1 = true) (hn : Builtin.Range.rangeSize a b 1 = (n : Int)) (j : J 0 m news) : MadeR s h₀ L a n J (.ref r) s₁ :=
  ⟨r, b, t, u, v9, m, news, rfl, hle, hs, hr, hsm, hn, F, N, j⟩
theorem for_rangeF {prog : Program} {w : World} {A : Around} {s : Shared} {env : Env} {h₀ : Heap} {E : Value → Shared → Prop} {Q : Flow → Shared → Prop} {target iter : Expr} {pos : Pos} {body : List Stmt} {m0 : Str → Option Value} (F0 : Fr h₀ env.locals s.heap m0) (a : Int) (n : Nat)
    (J : Nat → (Str → Option Value) → List (Addr × Obj) → Prop)
    (he : wpAny (model prog w) A (eval iter env) (fun v s₁ => s.toks ≤ s₁.toks → MadeR s h₀ env.locals a n J v s₁) (fun e s' => s.toks ≤ s'.toks → E e s') s) (hh : A.handled = none)
    (turn : ∀ i t m₁ nx h tk I oI, i < n → s.toks ≤ tk → J i m₁ nx → Fr h₀ env.locals h m₁ → News h₀ env.locals h ((I, oI) :: nx) → (∀ p ∈ nx, p.1 ≠ I) →
      wpAny (model prog w) A (assign target env (.int (a + (i : Int)) t)) (fun _ s₂ => wpAny (model prog w) A (execs body env)
        (TurnEnd h₀ env.locals { s with heap := h, toks := tk } I oI (fun _ => True) (J (i + 1)) Q) E s₂) E { s with heap := h, toks := tk })
    (fin : ∀ h tk m' nx, s.toks ≤ tk → J n m' nx → Fr h₀ env.locals h m' → News h₀ env.locals h nx → Q .next { s with heap := h, toks := tk })
    (ht : ∀ I v, letOwnedTupleGo target (.ref I) v = pure () := by intro _ _; rfl)
    (hs : ∀ x, foldedSetIterable iter env x = pure x := by intro _; rfl)
    (hE : PassesOwn (model prog w) A env E := by passes_own) :
    wpAny (model prog w) A (exec (.For target iter body [] pos) env) Q E s := for_range J (wpAny_with_toks (Nat.le_refl _) he) hh turn fin ht hs hE
end Mine

namespace Mine
/-- one turn of _law_list -/
def grow (xs : List Str) (s : Str) : List Str := xs.map (· ++ s) ++ (List.range xs.length).map fun k => xs.getD (xs.length - 1 - k) Str.empty ++ Txt.upper s
def rowsOf (ss : List Str) : List Str := ss.foldl grow [PySem.Str.ofString ""]
theorem grow_length (xs : List Str) (s : Str) : (grow xs s).length = 2 * xs.length := by simp [grow]; omega
theorem rowsOf_snoc {ss : List Str} {i : Nat} {s : Str} (h : ss[i]? = some s) : rowsOf (ss.take (i + 1)) = grow (rowsOf (ss.take i)) s := by
  unfold rowsOf
  rw [List.take_add_one, h]
  simp
theorem fold_length : ∀ (ss xs : List Str), (ss.foldl grow xs).length = 2 ^ ss.length * xs.length
  | [], xs => by simp
  | s :: r, xs => by
    rw [List.foldl_cons, fold_length r, grow_length, List.length_cons, Nat.pow_succ, Nat.mul_assoc]
theorem rowsOf_length (ss : List Str) : (rowsOf ss).length = 2 ^ ss.length := by
  unfold rowsOf; rw [fold_length]; simp
/-- every word is that long at most -/
def Short (k : Nat) (xs : List Str) : Prop := ∀ x ∈ xs, x.length ≤ k
theorem Short.getD {k : Nat} {xs : List Str} (h : Short k xs) (i : Nat) : (xs.getD i Str.empty).length ≤ k := by
  rcases Nat.lt_or_ge i xs.length with hi | hi
  · have : xs[i]? = some xs[i] := by simp [hi]
    rw [List.getD_eq_getElem?_getD, this]
    exact h _ (List.mem_of_getElem? this)
  · rw [List.getD_eq_getElem?_getD, List.getElem?_eq_none hi]
    exact Nat.zero_le _
theorem Short.grow {k : Nat} {xs : List Str} {s : Str} (h : Short k xs) (h1 : s.length = 1) (h2 : (Txt.upper s).length ≤ 3) : Short (k + 3) (grow xs s) := by
  intro x hx
  rcases List.mem_append.mp hx with hx | hx
  · obtain ⟨y, hy, rfl⟩ := List.mem_map.mp hx
    have := h y hy
    show (y ++ s).length ≤ k + 3
    rw [Str.length_append]; omega
  · obtain ⟨j, _, rfl⟩ := List.mem_map.mp hx
    have := h.getD (xs.length - 1 - j)
    rw [Str.length_append]; omega
end Mine
namespace Mine
theorem rows_len32 {ss : List Str} {i : Nat} (hi : i < ss.length) (h6 : ss.length ≤ 6) : (rowsOf (ss.take i)).length ≤ 32 := by
  rw [rowsOf_length]
  have : (ss.take i).length ≤ 5 := by simp; omega
  exact Nat.pow_le_pow_right (by decide) this
theorem rows_short {ss : List Str} {i : Nat} {s : Str} (h : ss[i]? = some s) (h1 : s.length = 1) (hS : Short (3 * i) (rowsOf (ss.take i))) : Short (3 * (i + 1)) (rowsOf (ss.take (i + 1))) := by
  rw [rowsOf_snoc h]
  have := len_upper s
  exact hS.grow h1 (by omega)
end Mine
namespace Mine
theorem Short.at {k : Nat} {xs : List Str} (h : Short k xs) {x : Str} (hx : x ∈ xs) : x.length ≤ k := h x hx
end Mine
namespace Mine
theorem item_short {prog : Program} {w : World} {A : Around} {E : Value → Shared → Prop} {s : Shared} {h₀ : Heap} {L l : Addr} {vs : List Value} {xs : List Str} {c k : Nat} {i : Int} {u : Tok} {value slice : Expr} {news : List (Addr × Obj)} {Q : Value → Shared → Prop}
    (N : News h₀ L s.heap news) (hm : (l, listOf vs.toArray c) ∈ news) (hS : StrsAre vs xs) (hB : Short k xs) (h0 : 0 ≤ i) (hlt : i < xs.length) (hfit : i < 2 ^ 63) (h : ∀ t, (xs.getD i.toNat Str.empty).length ≤ k → Q (.str (xs.getD i.toNat Str.empty) t) s)
    (hs : subscripted slice false (.ref l) (.int i u) = operate [.ref l, .int i u] (getItem (.ref l) (.int i u)) := by with_unfolding_all rfl) :
    wpAny (model prog w) A (subscriptTail value slice (.ref l) (.int i u)) Q E s :=
  item_strs N hm hS h0 hlt hfit (fun t => h t (hB.getD _)) hs
end Mine
namespace Mine
theorem idx_ok {n i : Nat} (hi : i < ((n : Int) - 0).toNat) : 0 ≤ (n : Int) - 1 - (0 + (i : Int)) ∧ (n : Int) - 1 - (0 + (i : Int)) < (n : Int) := by omega
theorem idx_fit {n i : Nat} (hn : n ≤ 32) : (n : Int) - 1 - (0 + (i : Int)) < 2 ^ 63 := by omega
theorem cat_ok {xs : List Str} {f : Str → Str} {g : Nat → Str} (hn : xs.length ≤ 32) : (xs.map f).length + ((List.range ((xs.length : Int) - 0).toNat).map g).length < 1000000 := by
  simp only [List.length_map, List.length_range]; omega
end Mine
namespace Mine
theorem grow_eq {xs : List Str} {x : Str} : (xs.map (fun k' => k' ++ x) ++ (List.range ((xs.length : Int) - 0).toNat).map fun (i' : Nat) => xs.getD ((xs.length : Int) - 1 - (0 + (i' : Int))).toNat Str.empty ++ Txt.upper x) = grow xs x := by
  unfold grow
  have e : ((xs.length : Int) - 0).toNat = xs.length := by omega
  rw [e]
  congr 1
  apply List.map_congr_left
  intro i _
  rw [show ((xs.length : Int) - 1 - (0 + (i : Int))).toNat = xs.length - 1 - i by omega]
theorem short_0 : Short (3 * 0) (rowsOf ([] : List Str)) := by
  intro x hx
  have : x = PySem.Str.ofString "" := by simpa [rowsOf] using hx
  subst this
  rw [s_empty, T_len]
  exact Nat.le_refl _
end Mine

namespace Mine
theorem lines_S6_1 : True := by
  k_with_none
  k_with "CompSrc" => (k_here; k_dflt (refine LCg.CompSrc.ledger (by rfl) (by k_asm) (by k_asm) (by k_mem) (by first | size_fits | ((rw [PySem.sizeLine_eq]); (simp only [List.size_toArray]); omega)) ?_; intro zkg'; (refine' rest_strs _ (by assumption) (fun zkk' zkt' zkI' zkoI' zkC' zkoC' zkD' zkm' zkys' zkh' zktk' zkE' zkhk' zkhC' zkhx' zkF' zkN' zkoff' zkne' => ?_) ?_); (all_goals (try (simp only [LCg.Off3, and_true] at zkoff'))); (all_goals (try (have zkhk9' := Short.at (by assumption) zkhk')))); kcf_last)
  k_with "CompSrc" => (k_here; k_dflt (refine LCg.CompSrc.range (by rfl) (by k_asm) (by k_asm) (by assumption) (by exact small_one (by omega) (by omega) (by omega) (by omega)) (by exact rangeSize_nat _ _) (by (rw [PySem.sizeLine_eq]; omega)) ?_; intro zkg'; (refine' rest_str _ (fun zki' zkv' zkI' zkoI' zkC' zkoC' zkD' zkm' zkys' zkh' zktk' zkE' zkhi' zkhP' zkhC' zkhx' zkF' zkN' zkoff' zkne' => ?_) ?_); (all_goals (try (simp only [LCg.Off3, and_true] at zkoff'))); (all_goals (try ((obtain ⟨zkt9', zkhP9'⟩ := zkhP'); (subst zkhP9')))); kcf_last))
  k_with "call builtin:len cons nil" => (k_here; (with_reducible show wpAny _ _ (call (Value.builtin _) [Value.ref _]) _ _ _); k_dflt (refine' len_strs ?zkk1 ?zkk2 ?zkk3 ?zkk4 ?_; (case zkk1 => k_asm); (case zkk2 => k_mem); (case zkk3 => assumption); (case zkk4 => omega); k_whole))
  k_with "subscriptTail Name BinOp ref int" => (k_here; k_dflt (refine' item_short ?zkk1 ?zkk2 ?zkk3 ?zkk4 ?zkk5 ?zkk6 ?zkk7 ?_ ?zkkh; (case zkk1 => k_asm); (case zkk2 => k_mem); (case zkk3 => assumption); (case zkk4 => assumption); (case zkk5 => exact (idx_ok (by assumption)).1); (case zkk6 => exact (idx_ok (by assumption)).2); (case zkk7 => exact idx_fit (by assumption)); (case zkkh => with_unfolding_all rfl); k_whole; intro zkt9' zkhk9'))
  k_with "binaryOp Add ref ref" => (k_here; k_dflt (refine' cat_strs ?zkk1 ?zkk2 ?zkk3 ?zkk4 ?zkk5 ?zkk6 ?zkk7 ?_; (case zkk1 => k_asm); (case zkk2 => k_asm); (case zkk3 => k_mem); (case zkk4 => k_mem); (case zkk5 => assumption); (case zkk6 => assumption); (case zkk7 => exact cat_ok (by assumption)); k_whole; intro zkr' zkh' zkws' zkF' zkN' zkl1 zkhW'; (try k_lt zkl1); (try k_sweep)))
  k_with "CompEnd" => (refine' LCg.CompEnd.intro (by assumption) (by assumption) _ ?zksub ?zkoff ?zkhS (kct_el rfl rfl rfl); (case zksub => kcf_all); (case zkoff => first | assumption | (simp only [LCg.Off3, and_true]; assumption)); (case zkhS => first | lcg_src | assumption))
  exact True.intro

theorem list_con (w : World) (n : Nat) (news : List (Addr × Obj)) (sa : Addr) (sc : Nat) (vs : List Value) (ss : List Str) (hS : StrsAre vs ss) (h6 : ss.length ≤ 6) (h1 : ∀ s ∈ ss, s.length = 1) :
    Con w 4 n 128 [.ref sa] ((sa, listOf vs.toArray sc) :: news) (fun r tl => ∃ a vs' c, r = .ref a ∧ tl = [(a, listOf vs'.toArray c)] ∧ StrsAre vs' (rowsOf ss)) := by
  refine con_of ?_; k_fill
  intro mean mg mb dp un gd cn cs a ccd cl outer A₀ base h₀ L m s Q E B F X N T hk hdp hun hn0 hret
  refine wpAny_call ?_
  k_dflt (refine' code_defC ?k1 ?k2 ?k3 ?k4 ?k5 ?kA ?kF ?kK ?k6 ?k7 ?k8 ?k9 ?kB ?kD ?_ ?c2 ?c3 ?c4; (case kA => exact rfl); (case kF => exact rfl); (case kK => assumption); (case k1 => k_asm); (case k2 => k_asm); (case k3 => k_asm); (case k4 => k_asm); (case k5 => k_asm); (case k6 => k_is); (case k7 => k_is); (case k8 => ktr_room); (case k9 => exact BindsTo.of_eq rfl); (case kB => exact rfl); (case kD => decide +kernel); (case c2 => exact rfl); (case c3 => exact rfl); (case c4 => exact rfl); k_whole; intro g' L' h' tk' cells' FG' F' N' Y' B' X' T' l1; (try k_lt l1); k_cells Y'; (try simp only [List.cons_append, List.nil_append] at N'); (try dsimp only); (try k_lift B'); (try k_fold))
  have hlt1 : AllLt (L' + 1) news := allLt_mono (Nat.le_add_right _ _) l1.2
  have hlt2 : AllLt (L' + 1 + 1) news := allLt_mono (Nat.le_add_right _ _) hlt1
  repeat' (first | ((fail_if_success (with_reducible show wpAny _ _ (exec (Stmt.For _ _ _ _ _) _) _ _ _)); first | (k_unfold; (try dsimp only)) | (k_end; wrow_close) | walk1 | (dsimp only; walk1)))
  rename Fr _ _ _ _ => F'
  rename News _ _ _ _ => N'
  refine' for_list (fun i m' nx => ∃ r vs' c o1 o2 z, nx = (r, listOf vs'.toArray c) :: (L' + 1 + 1, o1) :: (L' + 1, o2) :: (sa, listOf vs.toArray sc) :: news ∧ o1.data = .cell z ∧ o2.data = .cell (some (.ref r)) ∧ (@LT.lt Nat _ (L' + 1 + 1) r ∧ @LT.lt Nat _ sa r ∧ AllLt r news) ∧ StrsAre vs' (rowsOf (ss.take i)) ∧ Short (3 * i) (rowsOf (ss.take i)))
    (fun Q' hQ' => nameX_L F' ?jv hQ') rfl F' N' ?jm ?j0 ?jJ ?jt ?jf
  case jv => rfl
  case jm => k_mem
  case j0 =>
    rename _ ∧ _ ∧ _ ∧ AllLt _ news => l
    exact ⟨_, _, _, _, _, _, rfl, by assumption, by assumption, ⟨l.1, l.2.2.1, l.2.2.2⟩, StrsAre.cons _ _ .nil, short_0⟩
  case jJ =>
    rintro i m' nx ⟨r, vs', c, o1, o2, z, rfl, _⟩
    k_mem
  case jt =>
    rintro i v m₁ nx h tk I oI hv hle ⟨r, vs', c, o1, o2, z, rfl, d1, d2, ⟨lr1, lr2, lr3⟩, hR, hSh⟩ F1 N1 ho
    obtain ⟨x, t, hx, rfl⟩ := StrsAre_at hS hv
    have hx1 := h1 x (mem_of_at hx)
    have hi6 := lt_of_at hx
    have q1 := neN (ho (r, listOf vs'.toArray c) (by k_mem))
    have q2 := neN (ho (L' + 1 + 1, o1) (by k_mem))
    have q3 := neN (ho (L' + 1, o2) (by k_mem))
    have q4 := neN (ho (sa, listOf vs.toArray sc) (by k_mem))
    dsimp only at q1 q2 q3 q4
    have hxl := rows_len32 hi6 h6
    have hvl := hR.length
    k_steps
    rename StrsAre _ (_ ++ _) => hW
    rename Obj.data _ = Data.cell (some (Value.str x t)) => e1
    rename Obj.data _ = Data.cell (some (Value.ref _)) => e2
    rename _ ∧ _ ∧ _ ∧ _ ∧ _ ∧ _ ∧ _ ∧ AllLt _ news => l
    rw [grow_eq, ← rowsOf_snoc hx] at hW
    refine turn_end ((_, listOf _ 0) :: (L' + 1 + 1, _) :: (L' + 1, _) :: (sa, listOf vs.toArray sc) :: news) (by assumption) (by assumption) ?_ ?_ trivial ⟨_, _, _, _, _, _, rfl, e1, e2, ⟨l.2.2.2.2.1, l.2.2.2.2.2.2.1, l.2.2.2.2.2.2.2⟩, hW, rows_short hx hx1 hSh⟩
    · kcf_all
    · exact List.forall_mem_cons.mpr ⟨Nat.ne_of_gt l.2.2.1, List.forall_mem_cons.mpr ⟨q2, List.forall_mem_cons.mpr ⟨q3, List.forall_mem_cons.mpr ⟨q4, fun p hp => ho p (by kcf_m)⟩⟩⟩⟩
  case jf =>
    rintro h tk m' nx hle ⟨r, vs', c, o1, o2, z, rfl, d1, d2, ⟨lr1, lr2, lr3⟩, hR, hSh⟩ F1 N1
    rw [hS.length, List.take_length] at hR
    k_steps
    exact hret _ [(r, listOf vs'.toArray c)] _ _ (by assumption) (fun p hp => (by assumption : News _ _ _ ((r, listOf vs'.toArray c) :: _)) p (by revert p; simp only [List.cons_append, List.nil_append]; kcf_all)) ⟨r, vs', c, rfl, rfl, hR⟩
end Mine

namespace Mine
section
variable {prog : Program} {w : World} {M : Model} {A : Around} {E : Value → Shared → Prop} {s : Shared} {h₀ : Heap} {L : Addr} {m : Str → Option Value} {K : Frag}
theorem not_booked {t : Tok} {Q : Bool → Shared → Prop} (X : K.In s.heap) (e : nsIn K cStatics sharingNotToldKey = some none) (h : Q false s) : wpAny M A (sharingNotTold t) Q E s := by
  unfold sharingNotTold
  refine wpAny_bind ((looks_nsIn X e).here ?_)
  exact wpAny_pure h
theorem is_created {c : Bool} {t u : Tok} {Q : Bool → Shared → Prop} (X : K.In s.heap) (e : nsIn K cStatics sharingNotToldKey = some none) (ht : @LE.le Nat _ 1 t) (hu : @LE.le Nat _ 1 u) (h : ∀ b, (b = true → t = u ∨ c = true) → Q b s) : wpAny M A (isSame.created c t u) Q E s := by
  unfold isSame.created
  refine wpAny_ite ?_
  rw [if_neg (by simp only [Bool.or_eq_true, beq_iff_eq, not_or]; exact ⟨Nat.ne_of_gt ht, Nat.ne_of_gt hu⟩)]
  refine wpAny_ite ?_
  split
  · rename_i q
    exact wpAny_pure (h _ fun _ => .inl (by simpa using q))
  refine wpAny_ite ?_
  split
  · exact wpAny_pure (h _ fun x => by cases x)
  · rename_i q
    have hc : c = true := by simpa using q
    refine wpAny_bind (not_booked X e ?_)
    rw [if_neg (by decide)]
    refine wpAny_bind (not_booked X e ?_)
    rw [if_neg (by decide)]
    exact wpAny_bind (wpAny_rule (wpAny_bind (wpAny_askSetting (wpAny_pure (h _ fun _ => .inr hc)))))
theorem cmp_is {a b : Value} {Q : Value → Shared → Prop} (h : wpAny M A (isSame a b) (fun r s' => Q (.bool r) s') E s) : wpAny M A (compareOp .Is a b) Q E s :=
  wpAny_bind (wpAny_mono h (fun _ _ x => wpAny_pure x) fun _ _ x => x)
theorem is_str {x y : Str} {t u : Tok} {Q : Value → Shared → Prop} (F : Fr h₀ L s.heap m) (X : K.In h₀) (e : nsIn K cStatics sharingNotToldKey = some none) (ht : @LE.le Nat _ 1 t) (hu : @LE.le Nat _ 1 u) (h : ∀ b, Q (.bool b) s) : wpAny M A (compareOp .Is (.str x t) (.str y u)) Q E s :=
  cmp_is (is_created (X.keeps F.keep) e ht hu fun b _ => h b)
theorem is_int {x y : Int} {t u : Tok} {Q : Value → Shared → Prop} (F : Fr h₀ L s.heap m) (X : K.In h₀) (e : nsIn K cStatics sharingNotToldKey = some none) (ht : @LE.le Nat _ 1 t) (hu : @LE.le Nat _ 1 u) (htu : @Ne Nat t u) (hy : 0 ≤ y ∧ y ≤ 1) (h : Q (.bool (decide (x = y))) s) : wpAny M A (compareOp .Is (.int x t) (.int y u)) Q E s := by
  refine cmp_is ?_
  show wpAny M A (if (x == y && smallInt x) = true then isSame.cachedInt t u else isSame.created (x == y) t u) _ E s
  refine wpAny_ite ?_
  split
  · rename_i q
    have hxy : x = y := by
      have := (Bool.and_eq_true_iff.mp q).1
      simpa using this
    unfold isSame.cachedInt
    refine wpAny_ite ?_
    rw [if_neg (by simp only [Bool.or_eq_true, beq_iff_eq, not_or]; exact ⟨Nat.ne_of_gt ht, Nat.ne_of_gt hu⟩)]
    refine wpAny_bind (wpAny_rule (wpAny_pure ?_))
    rw [show decide (x = y) = true by simpa using hxy] at h
    exact h
  · rename_i q
    refine is_created (X.keeps F.keep) e ht hu fun b hb => ?_
    have hne : x ≠ y := by
      intro hxy
      subst hxy
      apply q
      simp [smallInt]; omega
    have : b = false := by
      cases b with
      | false => rfl
      | true =>
        rcases hb rfl with h1 | h1
        · exact absurd h1 htu
        · exact absurd (by simpa using h1) hne
    subst this
    rw [show decide (x = y) = false by simpa using hne] at h
    exact h
end
theorem fr_at2 {h₀ h : Heap} {L : Addr} {m : Str → Option Value} {x y : Str} {a b : Value} (F : Fr h₀ L h m) (h1 : m x = some a) (h2 : m y = some b) : Fr h₀ L h (fun z => if z = x then some a else if z = y then some b else m z) := by
  have e : (fun z => if z = x then some a else if z = y then some b else m z) = m := by
    funext z
    by_cases q : z = x
    · subst q; rw [if_pos rfl, h1]
    · rw [if_neg q]
      by_cases q2 : z = y
      · subst q2; rw [if_pos rfl, h2]
      · rw [if_neg q2]
  rw [e]; exact F
end Mine
namespace Mine
theorem gen_toks {α : Type} {M : Model} {A : Around} {t : Sem α} {Q : α → Shared → Prop} {E : Value → Shared → Prop} {h : Heap} {g : Array GenState} {d : Drawn} {X : Nat} {os : OsState} (n : Nat) (hX : n ≤ X)
    (k : ∀ tk, n ≤ tk → wpAny M A t Q E ⟨h, g, d, tk, os⟩) : wpAny M A t Q E ⟨h, g, d, X, os⟩ := k X hX
/-- what comes behind, the count of tokens known to be n at least -/
def AndThen (n : Nat) (s' : Shared) (P : Prop) : Prop := n ≤ s'.toks → P
theorem AndThen.intro {n : Nat} {s' : Shared} {P : Prop} (h : n ≤ s'.toks → P) : AndThen n s' P := h
theorem execs_toks {M : Model} {A : Around} {env : Env} {st : Stmt} {rest : List Stmt} {Q : Flow → Shared → Prop} {E : Value → Shared → Prop} {h : Heap} {g : Array GenState} {d : Drawn} {X : Nat} {os : OsState} (n : Nat) (hX : n ≤ X)
    (k : ∀ tk, n ≤ tk → wpAny M A (exec st env) (fun f s' => AndThen n s' (match f with | .next => wpAny M A (execs rest env) Q E s' | f => Q f s')) E ⟨h, g, d, tk, os⟩) : wpAny M A (execs (st :: rest) env) Q E ⟨h, g, d, X, os⟩ :=
  wpAny_execs_cons (wpAny_mono (wpAny_toks_of (n := n) hX (k X hX)) (fun _ _ x => x.2 x.1) fun _ _ x => x.2)
end Mine

namespace Mine
theorem ge_con (w : World) (n : Nat) (news : List (Addr × Obj)) (a b : Int) (t u : Tok) (ha : 0 ≤ a) (ha2 : a ≤ 300) (hb : 0 ≤ b) (hb2 : b ≤ 300) : Con w 2 n 21 [.int a t, .int b u] news (fun r tl => tl = [] ∧ r = .bool (decide (b ≤ a))) := by
  refine con_of ?_; k_fill
  intro mean mg mb dp un gd cn cs a ccd cl outer A₀ base h₀ L m s Q E B F X N T hk hdp hun hn0 hret
  refine wpAny_call ?_
  k_dflt cell_enter
  k_steps
  exact hret _ [] _ _ (by assumption) (by assumption) ⟨rfl, rfl⟩
theorem and__con (w : World) (n : Nat) (news : List (Addr × Obj)) (a b : Int) (t u : Tok) (ha : 0 ≤ a) (ha2 : a ≤ 300) (hb : 0 ≤ b) (hb2 : b ≤ 300) : Con w 2 n 28 [.int a t, .int b u] news (fun r tl => tl = [] ∧ ∃ k, r = .int (Builtin.bitAnd a b) k ∧ n ≤ k) := by
  refine con_of ?_; k_fill
  intro mean mg mb dp un gd cn cs a ccd cl outer A₀ base h₀ L m s Q E B F X N T hk hdp hun hn0 hret
  refine wpAny_call ?_
  k_dflt cell_enter
  refine gen_toks n (by show n ≤ s.toks + _; omega) ?_
  intro tk0 htk0
  k_steps
  exact hret _ [] _ _ (by assumption) (by assumption) ⟨rfl, ⟨_, rfl, htk0⟩⟩
theorem lshift_con (w : World) (n : Nat) (news : List (Addr × Obj)) (a b : Int) (t u : Tok) (ha : 0 ≤ a) (ha2 : a ≤ 300) (hb : 0 ≤ b) (hb2 : b ≤ 300) : Con w 2 n 35 [.int a t, .int b u] news (fun r tl => tl = [] ∧ ∃ k, r = .int (a * 2 ^ b.toNat) k) := by
  refine con_of ?_; k_fill
  intro mean mg mb dp un gd cn cs a ccd cl outer A₀ base h₀ L m s Q E B F X N T hk hdp hun hn0 hret
  refine wpAny_call ?_
  k_dflt cell_enter
  k_steps
  exact hret _ [] _ _ (by assumption) (by assumption) ⟨rfl, ⟨_, rfl⟩⟩
theorem mul_con (w : World) (n : Nat) (news : List (Addr × Obj)) (a b : Int) (t u : Tok) (ha : 0 ≤ a) (ha2 : a ≤ 300) (hb : 0 ≤ b) (hb2 : b ≤ 300) : Con w 2 n 42 [.int a t, .int b u] news (fun r tl => tl = [] ∧ ∃ k, r = .int (a * b) k) := by
  refine con_of ?_; k_fill
  intro mean mg mb dp un gd cn cs a ccd cl outer A₀ base h₀ L m s Q E B F X N T hk hdp hun hn0 hret
  refine wpAny_call ?_
  k_dflt cell_enter
  k_steps
  exact hret _ [] _ _ (by assumption) (by assumption) ⟨rfl, ⟨_, rfl⟩⟩
theorem rshift_con (w : World) (n : Nat) (news : List (Addr × Obj)) (a b : Int) (t u : Tok) (ha : 0 ≤ a) (ha2 : a ≤ 300) (hb : 0 ≤ b) (hb2 : b ≤ 300) : Con w 2 n 49 [.int a t, .int b u] news (fun r tl => tl = [] ∧ ∃ k, r = .int (a.fdiv (2 ^ b.toNat)) k) := by
  refine con_of ?_; k_fill
  intro mean mg mb dp un gd cn cs a ccd cl outer A₀ base h₀ L m s Q E B F X N T hk hdp hun hn0 hret
  refine wpAny_call ?_
  k_dflt cell_enter
  k_steps
  exact hret _ [] _ _ (by assumption) (by assumption) ⟨rfl, ⟨_, rfl⟩⟩
theorem minus_con (w : World) (n : Nat) (news : List (Addr × Obj)) (a b : Int) (t u : Tok) (ha : 0 ≤ a) (ha2 : a ≤ 300) (hb : 0 ≤ b) (hb2 : b ≤ 300) : Con w 2 n 56 [.int a t, .int b u] news (fun r tl => tl = [] ∧ ∃ k, r = .int (a - b) k) := by
  refine con_of ?_; k_fill
  intro mean mg mb dp un gd cn cs a ccd cl outer A₀ base h₀ L m s Q E B F X N T hk hdp hun hn0 hret
  refine wpAny_call ?_
  k_dflt cell_enter
  k_steps
  exact hret _ [] _ _ (by assumption) (by assumption) ⟨rfl, ⟨_, rfl⟩⟩
theorem xor_con (w : World) (n : Nat) (news : List (Addr × Obj)) (a b : Int) (t u : Tok) (ha : 0 ≤ a) (ha2 : a ≤ 300) (hb : 0 ≤ b) (hb2 : b ≤ 300) : Con w 2 n 63 [.int a t, .int b u] news (fun r tl => tl = [] ∧ ∃ k, r = .int (Builtin.bitXor a b) k) := by
  refine con_of ?_; k_fill
  intro mean mg mb dp un gd cn cs a ccd cl outer A₀ base h₀ L m s Q E B F X N T hk hdp hun hn0 hret
  refine wpAny_call ?_
  k_dflt cell_enter
  k_steps
  exact hret _ [] _ _ (by assumption) (by assumption) ⟨rfl, ⟨_, rfl⟩⟩
end Mine

namespace Mine
/-- a contract that tells of the counts of tokens ahead of the call and behind it -/
abbrev ConT (w : World) (k : Nat) (f : Addr) (vs : List Value) (news : List (Addr × Obj)) (R : Value → Nat → Nat → Prop) : Prop :=
  ∀ (mean : ExcName → Option Value) (mg mb : Str → Option Value) (dp un : Nat) (gd : Option (List Code)) (cn : Str) (cs : Scope) (a : Addr) (ccd : Value) (cl : List (Str × Addr)) (outer : List Env) (A₀ : Around) (base h₀ : Heap) (L : Addr) (m : Str → Option Value) (s : Shared) (Q E : Value → Shared → Prop),
    Below A₀ base outer h₀ → Fr h₀ L s.heap m → (hd.heap_39 w.params).In h₀ → News h₀ L s.heap news → Top hd.view_39 (looseW hd.view_39 []) mean mg mb h₀ → cs.kind = .function →
    dp + k < recursionLimit → un + 8 * k < cLine →
    (∀ (r : Value) (h' : Heap) (tk' : Nat), Fr h₀ L h' m → News h₀ L h' news → R r s.toks tk' → Q r { s with heap := h', toks := tk' }) →
      wpAny (model PySem.Challenge.rw_wn0062_01.row.prog w) (ktrTop dp un gd cn cs L a ccd cl outer) (call (.ref f) vs) Q E s
theorem conT_use {w : World} {k : Nat} {f : Addr} {vs : List Value} {news : List (Addr × Obj)} {R : Value → Nat → Nat → Prop} (C : ConT w k f vs news R)
    {mean : ExcName → Option Value} {mg mb : Str → Option Value} {dp un : Nat} {gd : Option (List Code)} {cn : Str} {cs : Scope} {a : Addr} {ccd : Value} {cl : List (Str × Addr)} {outer : List Env} {A₀ : Around} {base h₀ : Heap} {L : Addr} {m : Str → Option Value} {s : Shared} {Q E : Value → Shared → Prop}
    (B : Below A₀ base outer h₀) (F : Fr h₀ L s.heap m) (X : (hd.heap_39 w.params).In h₀) (N : News h₀ L s.heap news) (T : Top hd.view_39 (looseW hd.view_39 []) mean mg mb h₀) (hk : cs.kind = .function)
    (hd : dp + k < recursionLimit) (hu : un + 8 * k < cLine)
    (ret : ∀ (r : Value) (h' : Heap) (tk' : Nat), Fr h₀ L h' m → News h₀ L h' news → R r s.toks tk' → Q r { s with heap := h', toks := tk' }) :
    wpAny (model PySem.Challenge.rw_wn0062_01.row.prog w) (ktrTop dp un gd cn cs L a ccd cl outer) (call (.ref f) vs) Q E s :=
  C mean mg mb dp un gd cn cs a ccd cl outer A₀ base h₀ L m s Q E B F X N T hk hd hu ret
theorem and__conT (w : World) (news : List (Addr × Obj)) (a b : Int) (t u : Tok) (ha : 0 ≤ a) (ha2 : a ≤ 300) (hb : 0 ≤ b) (hb2 : b ≤ 300) : ConT w 2 28 [.int a t, .int b u] news (fun r lo hi => ∃ k : Nat, r = .int (Builtin.bitAnd a b) k ∧ lo ≤ k ∧ k < hi) := by
  show ∀ (mean : ExcName → Option Value), _
  k_fill
  intro mean mg mb dp un gd cn cs a ccd cl outer A₀ base h₀ L m s Q E B F X N T hk hdp hun hret
  refine wpAny_call ?_
  k_dflt cell_enter
  refine gen_toks s.toks (by show s.toks ≤ s.toks + _; omega) ?_
  intro tk0 htk0
  k_steps
  exact hret _ _ _ (by assumption) (by assumption) ⟨_, rfl, htk0, by omega⟩
end Mine

namespace Mine
theorem xor_fin : ∀ a, a < 64 → ∀ b, b < 64 → 2 * (a &&& b) ≤ a + b ∧ a + b - 2 * (a &&& b) < 64 := by decide +kernel
theorem xor64 {x y : Int} (hx : 0 ≤ x) (hx2 : x ≤ 63) (hy : 0 ≤ y) (hy2 : y ≤ 63) : 0 ≤ Builtin.bitXor x y ∧ Builtin.bitXor x y ≤ 63 := by
  rw [bitXor_and, bitAnd_pp hx hy]
  have := xor_fin x.toNat (by omega) y.toNat (by omega)
  omega
theorem fd_lo {x : Int} {k : Nat} (hx : 0 ≤ x) : 0 ≤ x.fdiv (2 ^ k) := by
  have h : (0 : Int) ≤ 2 ^ k := Int.le_of_lt (Int.pow_pos (by decide))
  rw [Int.fdiv_eq_ediv_of_nonneg _ h]
  exact Int.ediv_nonneg hx h
theorem fd_hi {x : Int} {k : Nat} (hx : 0 ≤ x) : x.fdiv (2 ^ k) ≤ x := by
  have h : (0 : Int) ≤ 2 ^ k := Int.le_of_lt (Int.pow_pos (by decide))
  rw [Int.fdiv_eq_ediv_of_nonneg _ h]
  exact Int.ediv_le_self _ hx
theorem fd_hi2 {x B : Int} {k : Nat} (hx : 0 ≤ x) (hB : x ≤ B) : x.fdiv (2 ^ k) ≤ B := Int.le_trans (fd_hi hx) hB
theorem gray_lo {x : Int} {k : Nat} (hx : 0 ≤ x) (hx2 : x ≤ 63) : 0 ≤ Builtin.bitXor x (x.fdiv (2 ^ k)) := (xor64 hx hx2 (fd_lo hx) (fd_hi2 hx hx2)).1
theorem gray_hi {x B : Int} {k : Nat} (hx : 0 ≤ x) (hx2 : x ≤ 63) (hB : 63 ≤ B) : Builtin.bitXor x (x.fdiv (2 ^ k)) ≤ B := Int.le_trans (xor64 hx hx2 (fd_lo hx) (fd_hi2 hx hx2)).2 hB
end Mine

namespace Mine
/-- what _law_spelling puts together -/
def spellW (ss : List Str) (bits : Int) : Nat → Str
  | 0 => PySem.Str.ofString ""
  | k + 1 => spellW ss bits k ++ (if Builtin.bitAnd (bits.fdiv (2 ^ k)) 1 = 1 then Txt.upper (ss.getD k Str.empty) else ss.getD k Str.empty)
theorem lines_S8_1 : True := by
  k_with_none
  k_with "call ref" => (k_here; (with_reducible show wpAny _ _ (call (Value.ref 28) [_, _]) _ _ _); k_dflt (refine' con_use (and__con _ 0 _ _ _ _ _ ?zkha ?zkhb ?zkhc ?zkhd) ?zkk1 ?zkk2 ?zkk3 ?zkk4 ?zkk5 ?zkkK ?zkkd ?zkku ?zkkn ?_; (case zkk1 => k_asm); (case zkk2 => k_asm); (case zkk3 => k_asm); (case zkk4 => first | k_asm | (refine cb_drop (by assumption) ?_; kcf_all)); (case zkk5 => k_asm); (case zkkK => first | exact rfl | assumption); (case zkha => first | omega | k_extra "fact"); (case zkhb => first | omega | k_extra "fact"); (case zkhc => first | omega | k_extra "fact"); (case zkhd => first | omega | k_extra "fact"); (case zkkn => exact Nat.zero_le _); (case zkkd => ktr_room); (case zkku => ktr_units)); (intro zkr9 zktl9 zkh9 zktk9 zkF9 zkN9 zkhle9 zkhR9); (obtain ⟨zkhT9, zkt9, zkhr9, zkht9⟩ := zkhR9); (subst zkhT9); (subst zkhr9); (simp only [List.nil_append] at zkN9); (try dsimp only); (try k_fold))
  k_with "call ref" => (k_here; (with_reducible show wpAny _ _ (call (Value.ref 49) [_, _]) _ _ _); k_dflt (refine' con_use (rshift_con _ 0 _ _ _ _ _ ?zkha ?zkhb ?zkhc ?zkhd) ?zkk1 ?zkk2 ?zkk3 ?zkk4 ?zkk5 ?zkkK ?zkkd ?zkku ?zkkn ?_; (case zkk1 => k_asm); (case zkk2 => k_asm); (case zkk3 => k_asm); (case zkk4 => first | k_asm | (refine cb_drop (by assumption) ?_; kcf_all)); (case zkk5 => k_asm); (case zkkK => first | exact rfl | assumption); (case zkha => first | omega | k_extra "fact"); (case zkhb => first | omega | k_extra "fact"); (case zkhc => first | omega | k_extra "fact"); (case zkhd => first | omega | k_extra "fact"); (case zkkn => exact Nat.zero_le _); (case zkkd => ktr_room); (case zkku => ktr_units)); (intro zkr9 zktl9 zkh9 zktk9 zkF9 zkN9 zkhle9 zkhR9); (obtain ⟨zkhT9, zkt9, zkhr9⟩ := zkhR9); (subst zkhT9); (subst zkhr9); (simp only [List.nil_append] at zkN9); (try dsimp only); (try k_fold))
  k_with "call ref" => (k_here; (with_reducible show wpAny _ _ (call (Value.ref 63) [_, _]) _ _ _); k_dflt (refine' con_use (xor_con _ 0 _ _ _ _ _ ?zkha ?zkhb ?zkhc ?zkhd) ?zkk1 ?zkk2 ?zkk3 ?zkk4 ?zkk5 ?zkkK ?zkkd ?zkku ?zkkn ?_; (case zkk1 => k_asm); (case zkk2 => k_asm); (case zkk3 => k_asm); (case zkk4 => first | k_asm | (refine cb_drop (by assumption) ?_; kcf_all)); (case zkk5 => k_asm); (case zkkK => first | exact rfl | assumption); (case zkha => first | omega | k_extra "fact"); (case zkhb => first | omega | k_extra "fact"); (case zkhc => first | omega | k_extra "fact"); (case zkhd => first | omega | k_extra "fact"); (case zkkn => exact Nat.zero_le _); (case zkkd => ktr_room); (case zkku => ktr_units)); (intro zkr9 zktl9 zkh9 zktk9 zkF9 zkN9 zkhle9 zkhR9); (obtain ⟨zkhT9, zkt9, zkhr9⟩ := zkhR9); (subst zkhT9); (subst zkhr9); (simp only [List.nil_append] at zkN9); (try dsimp only); (try k_fold))
  k_with "call ref" => (k_here; (with_reducible show wpAny _ _ (call (Value.ref 70) [_, _]) _ _ _); k_dflt (refine' con_use (concat_con _ 0 _ _ _ _ _ ?zkha ?zkhb) ?zkk1 ?zkk2 ?zkk3 ?zkk4 ?zkk5 ?zkkK ?zkkd ?zkku ?zkkn ?_; (case zkk1 => k_asm); (case zkk2 => k_asm); (case zkk3 => k_asm); (case zkk4 => first | k_asm | (refine cb_drop (by assumption) ?_; kcf_all)); (case zkk5 => k_asm); (case zkkK => first | exact rfl | assumption); (case zkha => first | omega | k_extra "fact"); (case zkhb => first | omega | k_extra "fact"); (case zkkn => exact Nat.zero_le _); (case zkkd => ktr_room); (case zkku => ktr_units)); (intro zkr9 zktl9 zkh9 zktk9 zkF9 zkN9 zkhle9 zkhR9); (obtain ⟨zkhT9, zkt9, zkhr9⟩ := zkhR9); (subst zkhT9); (subst zkhr9); (simp only [List.nil_append] at zkN9); (try dsimp only); (try k_fold))
  k_with "subscriptTail Name Name ref int" => (k_here; k_dflt (refine' item_short ?zkk1 ?zkk2 ?zkk3 ?zkk4 ?zkk5 ?zkk6 ?zkk7 ?_ ?zkkh; (case zkk1 => k_asm); (case zkk2 => k_mem); (case zkk3 => assumption); (case zkk4 => assumption); (case zkk5 => omega); (case zkk6 => omega); (case zkk7 => omega); (case zkkh => with_unfolding_all rfl); k_whole; intro zkt9' zkhk9'))
  exact True.intro

theorem spellA {ss : List Str} {b k : Int} {pre : List Int} {word : Str} (h : word = spellW ss b pre.length) (hl : word.length ≤ 3 * pre.length) (h3 : Short 1 ss) (hk : k = 0 + (pre.length : Int)) (hb : (Builtin.bitAnd (b.fdiv (2 ^ k.toNat)) 1) = 1) :
    word ++ Txt.upper (ss.getD k.toNat Str.empty) = spellW ss b (pre ++ [k]).length ∧ (word ++ Txt.upper (ss.getD k.toNat Str.empty)).length ≤ 3 * (pre ++ [k]).length := by
  have e : k.toNat = pre.length := by omega
  have h1 := h3.getD k.toNat
  have h2 := len_upper (ss.getD k.toNat Str.empty)
  refine ⟨?_, by rw [Str.length_append, List.length_append, List.length_singleton]; omega⟩
  rw [List.length_append, List.length_singleton, spellW, ← h, e]
  rw [e] at hb
  rw [if_pos hb]
theorem spellB {ss : List Str} {b k : Int} {pre : List Int} {word : Str} (h : word = spellW ss b pre.length) (hl : word.length ≤ 3 * pre.length) (h3 : Short 1 ss) (hk : k = 0 + (pre.length : Int)) (hb : ¬ (Builtin.bitAnd (b.fdiv (2 ^ k.toNat)) 1) = 1) :
    word ++ ss.getD k.toNat Str.empty = spellW ss b (pre ++ [k]).length ∧ (word ++ ss.getD k.toNat Str.empty).length ≤ 3 * (pre ++ [k]).length := by
  have e : k.toNat = pre.length := by omega
  have h1 := h3.getD k.toNat
  refine ⟨?_, by rw [Str.length_append, List.length_append, List.length_singleton]; omega⟩
  rw [List.length_append, List.length_singleton, spellW, ← h, e]
  rw [e] at hb
  rw [if_neg hb]
theorem spell_con (w : World) (n : Nat) (news : List (Addr × Obj)) (sa : Addr) (sc : Nat) (vs : List Value) (ss : List Str) (number : Int) (t : Tok) (hS : StrsAre vs ss) (h6 : ss.length = 6) (h1 : ∀ s ∈ ss, s.length = 1) (h0 : 0 ≤ number) (h63 : number ≤ 63) :
    Con w 4 n 135 [.int number t, .ref sa] ((sa, listOf vs.toArray sc) :: news) (fun r tl => tl = [] ∧ ∃ k, r = .str (spellW ss (Builtin.bitXor number (number.fdiv (2 ^ (1 : Int).toNat))) 6) k) := by
  refine con_of ?_; k_fill
  intro mean mg mb dp un gd cn cs a ccd cl outer A₀ base h₀ L m s Q E B F X N T hk hdp hun hn0 hret
  refine wpAny_call ?_
  k_dflt cell_enter
  have hB : Short 1 ss := fun x hx => Nat.le_of_eq (h1 x hx)
  have hg0 := gray_lo (k := (1 : Int).toNat) h0 h63
  have hg1 := gray_hi (k := (1 : Int).toNat) (B := 63) h0 h63 (by decide)
  k_with "fact" => first | exact fd_lo h0 | exact fd_hi2 h0 (by omega) | exact fd_lo hg0 | exact fd_hi2 hg0 (by omega)
  k_with "state" => first | exact ⟨rfl, by decide +kernel⟩ | exact spellA (by assumption) (by assumption) hB (by assumption) (by assumption) | exact spellB (by assumption) (by assumption) hB (by assumption) (by assumption)
  k_with "exec For Name Call cons nil" => kpr_for
  k_with "pyIter ref" => k_state_short (fun pre word => word = spellW ss (Builtin.bitXor number (number.fdiv (2 ^ (1 : Int).toNat))) pre.length ∧ word.length ≤ 3 * pre.length) "word"
  k_steps
  rename _ = spellW ss _ _ => hw
  refine hret _ [] _ _ (by assumption) (news_of (by assumption) (by kcf_all)) ⟨rfl, _, congrArg (Value.str · _) (hw.trans ?_)⟩
  rw [rangeKs_length]
  rfl
end Mine

namespace Mine
theorem slice_last {l : List Nat} : Txt.slice (T l) (some (-1)) none = T (l.drop (l.length - 1)) := by
  have hl : (T l).length = l.length := T_len l
  have e : Txt.slice (T l) (some (-1)) none = Txt.slice (T l) (some ((l.length - 1 : Nat) : Int)) none := by
    have e2 : Builtin.Str.strSliceIndices (some (-1)) none 1 (T l).length = Builtin.Str.strSliceIndices (some ((l.length - 1 : Nat) : Int)) none 1 (T l).length := by
      rw [hl]
      unfold Builtin.Str.strSliceIndices
      have a : ¬ (((l.length - 1 : Nat) : Int) < 0) := by omega
      have b : max (0 : Int) (min (-1 + (l.length : Int)) (l.length : Int)) = max (0 : Int) (min ((l.length - 1 : Nat) : Int) (l.length : Int)) := by omega
      simp only [show ((-1 : Int) < 0) = True by simp, if_true, if_neg a, show ((1 : Int) > 0) = True by simp, b]
    unfold Txt.slice
    rw [e2]
  rw [e, slice_from (by omega) (by omega)]
  simp
def quotes (n : Nat) : List Nat := List.replicate n 34
/-- what is told behind k whole readings -/
def RP (c : Nat) (number : Int) (k : Nat) (told : Str) : Prop :=
  told = T (List.replicate (told.length - 1) 34 ++ [c]) ∧ ((told.length : Int) - 1) * 2 ^ k = number ∧ 1 < told.length ∧ told.length ≤ 100
theorem mul_q {number : Int} (h1 : 1 ≤ number) (h2 : number ≤ 63) : Txt.mul (PySem.Str.ofString "\"") number = T (List.replicate number.toNat 34) := by
  rw [s_quote]
  unfold Txt.mul
  rw [if_neg (by omega)]
  have key : ∀ n (acc : Array Nat), (List.replicate n #[34]).foldl (· ++ ·) acc = acc ++ (List.replicate n 34).toArray := by
    intro n
    induction n with
    | zero => intro acc; simp
    | succ n ih =>
      intro acc
      rw [List.replicate_succ, List.foldl_cons, ih, List.replicate_succ]
      apply Array.toList_inj.mp
      simp
  split
  · rename_i h
    have : number = 1 := by simpa [T, Str.length] using h
    subst this; rfl
  · show (⟨_⟩ : Str) = _
    have := key number.toNat #[]
    simp only [T] at *
    rw [this]; simp
theorem mul_fit {number : Int} (h1 : 1 ≤ number) (h2 : number ≤ 63) : (Txt.mul (PySem.Str.ofString "\"") number).length ≤ 1000 := by
  rw [mul_q h1 h2, T_len, List.length_replicate]; omega
theorem one_fit {c : Nat} : (T [c]).length ≤ 1000 := by rw [T_len, List.length_singleton]; decide
theorem open_fit : (PySem.Str.ofString "257 \"").length ≤ 1000 := by rw [s_257o, T_len]; decide
theorem rp_fit {c : Nat} {number : Int} {k : Nat} {told : Str} (h : RP c number k told) : told.length ≤ 1000 := Nat.le_trans h.2.2.2 (by decide)
theorem rp_n {c : Nat} {number : Int} {k : Nat} {told : Str} (h : RP c number k told) : told.length - 1 ≤ 100 := Nat.le_trans (Nat.sub_le _ _) h.2.2.2
theorem rp_00 {c : Nat} {number : Int} (h1 : 1 ≤ number) (h2 : number ≤ 63) : (Txt.mul (PySem.Str.ofString "\"") number ++ T [c]).length ≤ 100 := by
  rw [mul_q h1 h2, T_app, T_len, List.length_append, List.length_replicate]
  simp only [List.length_singleton]; omega
theorem rp_0 {c : Nat} {number : Int} (h1 : 1 ≤ number) (h2 : number ≤ 63) : RP c number ([] : List Int).length (Txt.mul (PySem.Str.ofString "\"") number ++ T [c]) := by
  rw [mul_q h1 h2, T_app]
  refine ⟨?_, ?_, ?_, ?_⟩
  · rw [T_len]; simp
  · rw [T_len]; simp; omega
  · rw [T_len]; simp; omega
  · rw [T_len]; simp; omega
theorem rp_reply {c : Nat} {number : Int} {k : Nat} {told : Str} (h : RP c number k told) : PySem.Str.ofString "257 \"" ++ told = T (reply (told.length - 1) c) := by
  obtain ⟨h1, h2, h3⟩ := h
  rw [s_257o]
  conv => lhs; rw [h1]
  rw [T_app]; rfl
theorem half_len (n c : Nat) : (half n c).length ≤ n + 1 := by unfold half; split <;> simp <;> omega
theorem rp_even {c : Nat} {number : Int} {pre : List Int} {i : Int} {told : Str} (hc : c ≠ 34) (h : RP c number pre.length told) (he : (Txt.slice (T (half (told.length - 1) c)) (some (-1)) none != T [c]) = false) :
    RP c number (pre ++ [i]).length (T (half (told.length - 1) c)) ∧ (T (half (told.length - 1) c)).length ≤ 100 := by
  obtain ⟨h1, h2, h3, h4⟩ := h
  rw [slice_last] at he
  have he' : (T (List.drop ((half (told.length - 1) c).length - 1) (half (told.length - 1) c)) == T [c]) = true := by simpa [bne] using he
  rw [beqT, decide_eq_true_eq] at he'
  have ev : (told.length - 1) % 2 = 0 := by
    rcases Nat.mod_two_eq_zero_or_one (told.length - 1) with e | e
    · exact e
    · exfalso
      unfold half at he'
      rw [if_neg (by omega)] at he'
      have hm : c ∈ List.replicate ((told.length - 1) / 2) 34 := List.mem_of_mem_drop (i := (List.replicate ((told.length - 1) / 2) 34).length - 1) (by rw [he']; simp)
      exact hc (List.eq_of_mem_replicate hm)
  have hh : half (told.length - 1) c = List.replicate ((told.length - 1) / 2) 34 ++ [c] := by unfold half; rw [if_pos ev]
  have hl : (T (half (told.length - 1) c)).length = (told.length - 1) / 2 + 1 := by rw [hh, T_len]; simp
  refine ⟨⟨?_, ?_, ?_, ?_⟩, ?_⟩
  · rw [hl, hh]; simp
  · rw [hl, List.length_append, List.length_singleton, ← h2]
    rw [Int.pow_succ]
    have : ((((told.length - 1) / 2 + 1 : Nat) : Int) - 1) * 2 = (told.length : Int) - 1 := by omega
    rw [← this]
    rw [Int.mul_assoc, Int.mul_comm 2 (2 ^ pre.length)]
  · rw [hl]; omega
  · rw [hl]; omega
  · rw [hl]; omega
theorem half_fit {c : Nat} {number : Int} {k : Nat} {told : Str} (h : RP c number k told) : (T (half (told.length - 1) c)).length ≤ 101 := by
  have a := half_len (told.length - 1) c
  have b := rp_n h
  rw [T_len]; omega
/-- what a reading tells: so many whole readings, so many marks -/
def Told (number v : Int) (m : Nat) : Prop := 0 ≤ v ∧ v ≤ 5 ∧ m ≤ 31 ∧ number = 2 ^ v.toNat * (2 * m + 1)
theorem rp_odd {c : Nat} {number : Int} {pre : List Int} {v : Int} {told : Str} (h63 : number ≤ 63) (h : RP c number pre.length told) (hv : v = 0 + (pre.length : Int)) (he : (Txt.slice (T (half (told.length - 1) c)) (some (-1)) none != T [c]) = true) :
    half (told.length - 1) c = quotes ((told.length - 1) / 2) ∧ Told number v ((told.length - 1) / 2) := by
  obtain ⟨h1, h2, h3, h4⟩ := h
  have od : (told.length - 1) % 2 = 1 := by
    rcases Nat.mod_two_eq_zero_or_one (told.length - 1) with e | e
    · exfalso
      rw [slice_last] at he
      have hh : half (told.length - 1) c = List.replicate ((told.length - 1) / 2) 34 ++ [c] := by unfold half; rw [if_pos e]
      rw [hh] at he
      simp at he
    · exact e
  have hh : half (told.length - 1) c = quotes ((told.length - 1) / 2) := by unfold half quotes; rw [if_neg (by omega)]
  have e : v.toNat = pre.length := by omega
  have hp : (1 : Int) ≤ 2 ^ pre.length := Int.pow_pos (by decide)
  refine ⟨hh, by omega, ?_, ?_, ?_⟩
  · rcases Nat.lt_or_ge pre.length 6 with h6 | h6
    · omega
    · exfalso
      have : (2 : Int) ^ 6 ≤ 2 ^ pre.length := by
        have := Nat.pow_le_pow_right (n := 2) (by decide) h6
        exact_mod_cast this
      have h7 : 1 * 2 ^ pre.length ≤ ((told.length : Int) - 1) * 2 ^ pre.length := Int.mul_le_mul_of_nonneg_right (by omega) (by omega)
      omega
  · have : ((told.length : Int) - 1) * 1 ≤ ((told.length : Int) - 1) * 2 ^ pre.length := Int.mul_le_mul_of_nonneg_left hp (by omega)
    omega
  · rw [e, ← h2, Int.mul_comm]
    congr 1
    omega
theorem rp_end {c : Nat} {number : Int} {told : Str} {k : Nat} (hk : k = 8) (h63 : number ≤ 63) (h : RP c number k told) : False := by
  obtain ⟨h1, h2, h3, h4⟩ := h
  subst hk
  omega
end Mine

namespace Mine
theorem lines_S9_1 : True := by
  k_with_none
  k_with "call ref" => (k_here; (with_reducible show wpAny _ _ (call (Value.ref 70) [_, _]) _ _ _); k_dflt (refine' con_use (concat_con _ 0 _ _ _ _ _ ?zkha ?zkhb) ?zkk1 ?zkk2 ?zkk3 ?zkk4 ?zkk5 ?zkkK ?zkkd ?zkku ?zkkn ?_; (case zkk1 => k_asm); (case zkk2 => k_asm); (case zkk3 => k_asm); (case zkk4 => first | k_asm | (refine cb_drop (by assumption) ?_; kcf_all)); (case zkk5 => k_asm); (case zkkK => first | exact rfl | assumption); (case zkha => first | omega | k_extra "fact"); (case zkhb => first | omega | k_extra "fact"); (case zkkn => exact Nat.zero_le _); (case zkkd => ktr_room); (case zkku => ktr_units)); (intro zkr9 zktl9 zkh9 zktk9 zkF9 zkN9 zkhle9 zkhR9); (obtain ⟨zkhT9, zkt9, zkhr9⟩ := zkhR9); (subst zkhT9); (subst zkhr9); (simp only [List.nil_append] at zkN9); (try dsimp only); (try k_fold))
  k_with "call ref" => (k_here; (with_reducible show wpAny _ _ (call (Value.ref 109) [_]) _ _ _); k_dflt (refine' con_use (parse_con _ 0 _ _ _ _ _ ?zkhn ?zkhc ?zkhx) ?zkk1 ?zkk2 ?zkk3 ?zkk4 ?zkk5 ?zkkK ?zkkd ?zkku ?zkkn ?_; (case zkk1 => k_asm); (case zkk2 => k_asm); (case zkk3 => k_asm); (case zkk4 => first | k_asm | (refine cb_drop (by assumption) ?_; kcf_all)); (case zkk5 => k_asm); (case zkkK => first | exact rfl | assumption); (case zkhx => k_extra "reply"); (case zkhn => k_extra "replyn"); (case zkhc => assumption); (case zkkn => exact Nat.zero_le _); (case zkkd => ktr_room); (case zkku => ktr_units)); (intro zkr9 zktl9 zkh9 zktk9 zkF9 zkN9 zkhle9 zkhR9); (obtain ⟨zkhT9, zkt9, zkhr9⟩ := zkhR9); (subst zkhT9); (subst zkhr9); (have zkhf9 := half_fit (by assumption)); (simp only [List.nil_append] at zkN9); (try dsimp only); (try k_fold))
  exact True.intro


theorem read_con (w : World) (n : Nat) (news : List (Addr × Obj)) (number : Int) (c : Nat) (t u : Tok) (h1 : 1 ≤ number) (h63 : number ≤ 63) (hc : c ≠ 34) :
    Con w 4 n 142 [.int number t, .str (T [c]) u] news (fun r tl => ∃ a v m t1 t2 k, r = .ref a ∧ tl = [(a, { cls := .type "tuple", data := .seq #[.int v t1, .str (T (quotes m)) t2] k })] ∧ Told number v m) := by
  refine con_of ?_; k_fill
  intro mean mg mb dp un gd cn cs a ccd cl outer A₀ base h₀ L m s Q E B F X N T hk hdp hun hn0 hret
  refine wpAny_call ?_
  k_dflt cell_enter
  k_with "fact" => first | exact mul_fit h1 h63 | exact one_fit | exact open_fit | exact rp_fit (by assumption)
  k_with "reply" => exact rp_reply (by assumption)
  k_with "replyn" => exact rp_n (by assumption)
  k_with "state" => first | exact ⟨rp_0 h1 h63, rp_00 h1 h63⟩ | exact rp_even hc (by assumption) (by assumption)
  k_with "exec For Name Call cons nil" => kpr_for
  k_with "pyIter ref" => k_state_short (fun pre told => RP c number pre.length told ∧ told.length ≤ 100) "told"
  k_steps
  · obtain ⟨hq, hT⟩ := rp_odd h63 (by assumption) (by assumption) (by assumption)
    have kN9 := (by assumption : News h₀ L _ ((_, _) :: (_ ++ _)))
    rw [hq] at kN9
    refine' hret _ [(_, { cls := .type "tuple", data := .seq #[.int _ _, .str (Mine.T (quotes _)) _] })] _ _ (by assumption) (cb_drop kN9 ?sub) ⟨_, _, _, _, _, _, rfl, rfl, hT⟩
    case sub => kcf_all
  · have hr := (by assumption : RP c number (rangeKs _ _).length _)
    exact (rp_end (by rw [rangeKs_length]; rfl) h63 hr).elim
end Mine

namespace Mine
open LCg
/-- a turn of a comprehension is over: the ledger stands, P of what it gave and of the count of tokens -/
def TurnC (h₀ : Heap) (L : Addr) (m : Str → Option Value) (s₁ : Shared) (all : List (Addr × Obj)) (P : Value → Nat → Prop) (y : Value) (s₂ : Shared) : Prop :=
  ∃ h' tk, s₂ = { s₁ with heap := h', toks := tk } ∧ Fr h₀ L h' m ∧ News h₀ L h' all ∧ P y tk
theorem TurnC.intro {h₀ : Heap} {L : Addr} {m : Str → Option Value} {s₁ : Shared} {all big : List (Addr × Obj)} {P : Value → Nat → Prop} {y : Value} {h' : Heap} {tk : Nat} (F : Fr h₀ L h' m) (N : News h₀ L h' big) (sub : ∀ p ∈ all, p ∈ big) (p : P y tk) :
    TurnC h₀ L m s₁ all P y { s₁ with heap := h', toks := tk } := ⟨h', tk, rfl, F, fun q hq => N q (sub q hq), p⟩
def ITok (lo hi : Nat) (vs : List Value) (xs : List Int) : Prop := vs.length = xs.length ∧ ∀ (i : Nat) (v : Value), vs[i]? = some v → ∃ t : Nat, v = .int (xs.getD i 0) t ∧ lo ≤ t ∧ t < hi
def IntP (g : Nat → Int) (i : Nat) (y : Value) (tk : Nat) : Prop := ∃ t : Nat, y = .int (g i) t ∧ 1 ≤ t ∧ t < tk
theorem IntP.mono {g : Nat → Int} : ∀ i y t t', IntP g i y t → t ≤ t' → IntP g i y t' := fun i y t t' ⟨u, e, a, b⟩ h => ⟨u, e, a, Nat.lt_of_lt_of_le b h⟩
theorem itok_of {g : Nat → Int} {n tk : Nat} {ys : List Value} (hl : ys.length = n) (h : ∀ i y, ys[i]? = some y → IntP g i y tk) : ITok 1 tk ys ((List.range n).map g) := by
  refine ⟨by simp [hl], fun i v hv => ?_⟩
  obtain ⟨t, e, a, b⟩ := h i v hv
  have hi : i < n := hl ▸ lt_of_at hv
  refine ⟨t, ?_, a, b⟩
  rw [e, List.getD_eq_getElem?_getD]
  simp [hi]
section
variable {prog : Program} {w : World} {A : Around} {E : Value → Shared → Prop} {s : Shared} {h₀ : Heap} {L : Addr} {m : Str → Option Value} {env : Env}
theorem none_above {h : Heap} {a : Addr} (ha : h.objs.size ≤ a) : h.get? a = none := by
  cases e : h.get? a with
  | none => rfl
  | some o' => exact absurd (Heap.lt_size e) (Nat.not_lt.mpr ha)
theorem block_K {elt iter : Expr} {x : Str} {px : Pos} {scope : Scope} {cl : List (Str × Addr)} {pos : Pos} {s₂ : Shared} {I : Addr} {news : List (Addr × Obj)} (a : Int) (n lo : Nat) (P : Nat → Value → Nat → Prop) {RR : Value → Addr → Result → Shared → Prop}
    (hP : ∀ i y t t', P i y t → t ≤ t' → P i y t') (hh : A.handled = none) (hsz : n ≤ sizeLine)
    (hcell : ∀ y ∈ scope.names, y.2 ≠ .cell) (hkind : scope.kind = .function) (hx : scope.names.lookup x = some .local)
    (st0 : IsRangeIter s₂.heap I (a + (0 : Nat) * 1) ((n : Int) - (0 : Nat)) 1) (hIlt : I < s₂.heap.objs.size) (hlo : lo ≤ s₂.toks)
    (F : Fr h₀ L s₂.heap m) (N : News h₀ L s₂.heap news) (hIL : L ≠ I) (hI₀ : h₀.get? I = none) (offI : ∀ p ∈ news, p.1 ≠ I)
    (turn : ∀ i t I oI C oC D m₂ ys h tk (E' : Value → Shared → Prop), i < n → lo ≤ tk → NsObj oC m₂ → m₂ x = some (.int (a + (i : Int)) t) → Fr h₀ L h m → News h₀ L h ((I, oI) :: (C, oC) :: (D, lst ys) :: news) → Off3 I C D news → ((@Ne Nat I C) ∧ (@Ne Nat I D) ∧ (@Ne Nat C D)) →
      wpAny (model prog w) A (eval elt (compEnvC scope cl C env)) (TurnC h₀ L m { s₂ with heap := h, toks := tk } ((I, oI) :: (C, oC) :: (D, lst ys) :: news) (P i)) E' { s₂ with heap := h, toks := tk })
    (hRR : ∀ D C h tk m' ys, lo ≤ tk → ys.length = n → (∀ i y, ys[i]? = some y → P i y tk) → Fr h₀ L h m → News h₀ L h ((D, lst ys) :: news) → Off1 D news → h.Ns C m' → h₀.get? C = none → C ≠ L → C ≠ D → (∀ p ∈ news, p.1 ≠ C) → RR (.ref D) C (.ok .next) { s₂ with heap := h, toks := tk }) :
    wpAny (model prog w) A (newList []) (fun acc s₃ => wpAny (model prog w) A (newFunctionEnv scope env.globals cl [] env.qual none .none (some env)) (fun cenv s₄ =>
      codeAny (model prog w) A (.compStart (.ListComp elt [⟨.Name x px, iter, [], 0⟩] scope pos) 0 (.ref I) acc { cenv with scope := relabel scope env }) (RR acc cenv.locals) s₄) E s₃) E s₂ := by
  have W := range_walks (prog := prog) (w := w) (A := A) (I := I) hh a n
  refine wpAny_newObj_type (wpAny_newFunctionEnv hcell (by intro y hy; simp at hy) (fun h₁ hns₁ hsb₁ => ?_) hkind)
  dsimp only at hns₁ hsb₁ ⊢
  generalize hH2 : s₂.heap.push { cls := .type "list", dict := none, data := .seq ([] : List Value).toArray } = H2 at hns₁ hsb₁ ⊢
  have hC : H2.objs.size = s₂.heap.objs.size + 1 := by rw [← hH2, Heap.size_push]
  have hacc : H2.get? s₂.heap.objs.size = some (lst []) := hH2 ▸ Heap.get?_push_size _ rfl
  have up : ∀ b o, s₂.heap.get? b = some o → H2.get? b = some o := fun b o e => hH2 ▸ Heap.get?_push_of_some _ e
  clear hH2
  have hDe : ∀ {b o}, s₂.heap.get? b = some o → b < s₂.heap.objs.size := fun e => Heap.lt_size e
  have hLlt : L < s₂.heap.objs.size := F.ns.lt
  have fresh₀ : ∀ c, s₂.heap.objs.size ≤ c → h₀.get? c = none := fun c hc => by
    cases e : h₀.get? c with
    | none => rfl
    | some o' => have := F.keep c o' e; rw [none_above hc] at this; cases this
  generalize s₂.heap.objs.size = D at *
  generalize H2.objs.size = C at *
  subst hC
  have hDC : D ≠ D + 1 := Nat.ne_of_lt (Nat.lt_succ_self _)
  have old : ∀ b o, s₂.heap.get? b = some o → h₁.get? b = some o := fun b o e => hsb₁.extBut b o (Nat.ne_of_lt (Nat.lt_succ_of_lt (hDe e))) (Heap.get?_push_of_some _ (up _ _ e))
  have hacc1 : h₁.get? D = some (lst []) := hsb₁.extBut _ _ hDC (Heap.get?_push_of_some _ hacc)
  have hD₀ : h₀.get? D = none := fresh₀ _ (Nat.le_refl _)
  have hC₀ : h₀.get? (D + 1) = none := fresh₀ _ (Nat.le_succ _)
  have hDL : D ≠ L := Ne.symm (Nat.ne_of_lt hLlt)
  have hCL : D + 1 ≠ L := Ne.symm (Nat.ne_of_lt (Nat.lt_succ_of_lt hLlt))
  have hCI : I ≠ D + 1 := Nat.ne_of_lt (Nat.lt_succ_of_lt hIlt)
  have hDI : I ≠ D := Nat.ne_of_lt hIlt
  have offC : ∀ p ∈ news, p.1 ≠ D + 1 := fun p hp => Nat.ne_of_lt (Nat.lt_succ_of_lt (hDe (N p hp).1))
  have offD : ∀ p ∈ news, p.1 ≠ D := fun p hp => Nat.ne_of_lt (hDe (N p hp).1)
  have off₀ : Off3 I (D + 1) D news := Off3.of fun p hp => ⟨offI p hp, offC p hp, offD p hp⟩
  have loop : ∀ s₃ : Shared, s₃ = { s₂ with heap := h₁, toks := s₂.toks + ([] : List (Str × Value)).length } →
      codeAny (model prog w) A (.compLoop (.ListComp elt [⟨.Name x px, iter, [], 0⟩] scope pos) 0 (.ref I) (.ref D) (compEnvC scope cl (D + 1) env))
        (RR (.ref D) (D + 1)) s₃ := by
    rintro s₃ rfl
    refine codeAny_compLoop_tests
      (fun k s' => ∃ h' tk i ys m', s' = { s₂ with heap := h', toks := tk } ∧ lo ≤ tk ∧ i ≤ n ∧ k = n + 1 - i ∧ ys.length = i ∧ (∀ j y, ys[j]? = some y → P j y tk) ∧ IsRangeIter h' I (a + (i : Nat) * 1) ((n : Int) - (i : Nat)) 1 ∧ Fr h₀ L h' m ∧ h'.Ns (D + 1) m' ∧ News h₀ L h' ((D, lst ys) :: news)) ?_ (n + 1)
      ⟨h₁, _, 0, [], _, rfl, Nat.le_trans hlo (Nat.le_add_right _ _), Nat.zero_le _, rfl, rfl, fun j y e => by simp at e, W.frame _ _ _ st0 fun b _ o e => old b o e, F.keeps old, hns₁, fun p hp => ?_⟩
    · rintro k s' ⟨h', tk, i, ys, m', rfl, htk, hi, rfl, hyl, hys, hst', F', hn', N'⟩
      by_cases hlt : i < n
      · refine wpAny_with_toks (n := tk) (Nat.le_refl _) (W.item i _ _ _ hlt hst' fun v h₂ tk₂ hPv hst₂ hk₂ htk₂ => ?_)
        obtain ⟨t, rfl⟩ := hPv
        have htk₂' : tk ≤ tk₂ := htk₂
        refine wpAny_assign_Name (wpAny_storeName_local (lookup_relabel_local hx) (hn'.at' fun o e => hk₂ _ o (by simpa using Ne.symm hCI) e) (fun h₃ hn₃ hs₃ => ?_) (by simp [compEnvC, relabel, hkind]))
        refine wpAny_tests_nil ?_
        simp only [if_true]
        have hst₃ := W.frame _ _ _ hst₂ fun b hb o e => hs₃.extBut b o (fun q => hCI (by have q' : b = D + 1 := q; rw [← q']; exact (List.mem_singleton.mp hb).symm)) e
        obtain ⟨oI, heI⟩ : ∃ o, h₃.get? I = some o := ⟨_, hst₃⟩
        obtain ⟨oC, heC, hoC⟩ := ns_obj hn₃
        have N₂ : News h₀ L h₂ ((D, lst ys) :: news) := news_but N' hk₂ fun p hp => by
          rcases List.mem_cons.mp hp with rfl | hp
          · exact Ne.symm hDI
          · exact offI p hp
        have N₃ : News h₀ L h₃ ((I, oI) :: (D + 1, oC) :: (D, lst ys) :: news) := fun p hp => by
          rcases List.mem_cons.mp hp with rfl | hp
          · exact ⟨heI, Ne.symm hIL, hI₀⟩
          · rcases List.mem_cons.mp hp with rfl | hp
            · exact ⟨heC, hCL, hC₀⟩
            · refine ⟨hs₃.extBut _ _ ?_ (N₂ p hp).1, (N₂ p hp).2⟩
              rcases List.mem_cons.mp hp with rfl | hp
              · exact hDC
              · exact offC p hp
        refine wpAny_mono (wpAny_toks_of (n := tk) (Nat.le_trans htk₂' (Nat.le_succ _)) (turn i t I oI (D + 1) oC D _ ys h₃ _ _ hlt (Nat.le_trans htk (Nat.le_trans htk₂' (Nat.le_succ _))) hoC (by simp) ((fr_but F' hk₂ hIL hI₀).change hs₃ hCL hC₀) N₃ off₀ ⟨hCI, hDI, Ne.symm hDC⟩)) (fun y s₄ h₄ => ?_) fun _ _ e => e.2
        obtain ⟨htk₄, h₄, tk₄, rfl, F₄, N₄, hy⟩ := h₄
        have htk₄' : tk ≤ tk₄ := htk₄
        have zI := (N₄ (I, oI) List.mem_cons_self).1
        have zC := (N₄ (D + 1, oC) (List.mem_cons_of_mem _ List.mem_cons_self)).1
        have zD := (N₄ (D, lst ys) (List.mem_cons_of_mem _ (List.mem_cons_of_mem _ List.mem_cons_self))).1
        have N₄' : News h₀ L h₄ news := fun p hp => N₄ p (List.mem_cons_of_mem _ (List.mem_cons_of_mem _ (List.mem_cons_of_mem _ hp)))
        have hst₄ := range_st (L := L) (a := a) (n := n) (i + 1) _ _ _ _ hst₃ heI zI F₄.keep N₄' trivial
        refine append_at (hsz := by show ys.toArray.size ≤ sizeLine; rw [List.size_toArray, hyl]; exact Nat.le_trans hi hsz) zD fun h₅ hs₅ hD₅ => ?_
        refine ⟨n + 1 - (i + 1), by omega, h₅, tk₄, i + 1, ys ++ [y], _, rfl, Nat.le_trans htk htk₄', hlt, rfl, by rw [List.length_append, List.length_singleton, hyl], ?_, W.frame _ _ _ hst₄ fun b hb o e => hs₅.extBut b o (fun q => hDI (by have q' : b = D := q; rw [← q']; exact (List.mem_singleton.mp hb).symm)) e, F₄.change hs₅ hDL hD₀,
          (hoC.ns zC).sameBut hs₅ (Ne.symm hDC), fun p hp => ?_⟩
        · intro j y' hj
          rcases Nat.lt_or_ge j ys.length with hjl | hjl
          · rw [List.getElem?_append_left hjl] at hj
            exact hP _ _ _ _ (hys j y' hj) htk₄'
          · rw [List.getElem?_append_right hjl] at hj
            obtain ⟨hj0, rfl⟩ : j - ys.length = 0 ∧ y = y' := by
              cases hq : j - ys.length with
              | zero => rw [hq] at hj; exact ⟨rfl, by simpa using hj⟩
              | succ q => rw [hq] at hj; simp at hj
            have : j = i := by omega
            rw [this]; exact hy
        · rcases List.mem_cons.mp hp with rfl | hp
          · exact ⟨hD₅.trans (congrArg some (lst_snoc ys y)), hDL, hD₀⟩
          · exact ⟨hs₅.extBut _ _ (offD p hp) (N₄' p hp).1, (N₄' p hp).2⟩
      · obtain rfl : i = n := Nat.le_antisymm hi (Nat.not_lt.mp hlt)
        refine wpAny_with_toks (n := tk) (Nat.le_refl _) (W.done _ _ _ hst' fun h₂ tk₂ hk₂ htk₂ => ?_)
        have htk₂' : tk ≤ tk₂ := htk₂
        exact hRR _ _ h₂ tk₂ _ ys (Nat.le_trans htk htk₂') hyl (fun j y e => hP _ _ _ _ (hys j y e) htk₂') (fr_but F' hk₂ hIL hI₀) (news_but N' hk₂ fun p hp => by
          rcases List.mem_cons.mp hp with rfl | hp
          · exact Ne.symm hDI
          · exact offI p hp) off₀.one (hn'.at' fun o e => hk₂ _ o (by simpa using Ne.symm hCI) e) hC₀ hCL (Ne.symm hDC) offC
    · rcases List.mem_cons.mp hp with rfl | hp
      · exact ⟨hacc1, hDL, hD₀⟩
      · exact ⟨old _ _ (N p hp).1, (N p hp).2⟩
  exact codeAny_compStart_list (loop _ rfl) (W.self 0 _ _ _ (W.frame _ _ _ st0 fun b _ o e => old b o e) (loop _ rfl))
theorem comp_range {elt iter : Expr} {x : Str} {px : Pos} {scope : Scope} {cl : List (Str × Addr)} {pos : Pos} {Q : Value → Shared → Prop} {news : List (Addr × Obj)} (F₀ : Fr h₀ L s.heap m) (N₀ : News h₀ L s.heap news) (a : Int) (n : Nat) (P : Nat → Value → Nat → Prop)
    (hP : ∀ i y t t', P i y t → t ≤ t' → P i y t')
    (hclos : closureFor scope env = pure cl) (hcell : ∀ y ∈ scope.names, y.2 ≠ .cell) (hkind : scope.kind = .function)
    (hnames : ∀ y ∈ scope.names, y.2 = .local → scope.names.lookup y.1 = some .local) (hx : scope.names.lookup x = some .local)
    (he : wpAny (model prog w) A (eval iter env) (fun v s₁ => s.toks ≤ s₁.toks → MadeR s h₀ L a n (fun _ m' nx => m' = m ∧ nx = news) v s₁) (fun e s' => s.toks ≤ s'.toks → E e s') s)
    (hh : A.handled = none) (hsz : n ≤ sizeLine)
    (turn : ∀ i t I oI C oC D m₂ ys h tk (E' : Value → Shared → Prop), i < n → s.toks ≤ tk → NsObj oC m₂ → m₂ x = some (.int (a + (i : Int)) t) → Fr h₀ L h m → News h₀ L h ((I, oI) :: (C, oC) :: (D, lst ys) :: news) → Off3 I C D news → ((@Ne Nat I C) ∧ (@Ne Nat I D) ∧ (@Ne Nat C D)) →
      wpAny (model prog w) A (eval elt (compEnvC scope cl C env)) (TurnC h₀ L m { s with heap := h, toks := tk } ((I, oI) :: (C, oC) :: (D, lst ys) :: news) (P i)) E' { s with heap := h, toks := tk })
    (fin : ∀ ys D h tk, s.toks ≤ tk → ys.length = n → (∀ i y, ys[i]? = some y → P i y tk) → Fr h₀ L h m → News h₀ L h ((D, lst ys) :: news) → Off1 D news → Q (.ref D) { s with heap := h, toks := tk })
    (hs : ∀ x, foldedSetIterable iter env x = pure x := by intro _; rfl) :
    wpAny (model prog w) A (eval (.ListComp elt [⟨.Name x px, iter, [], 0⟩] scope pos) env) Q E s := by
  clear N₀
  rw [eval_ListComp]
  refine wpAny_comprehension_free (use := none) rfl hs hclos hkind hnames (wpAny_mono (wpAny_with_toks (Nat.le_refl _) he) (fun xv s₁ h₁ => ?_) fun _ _ e => e)
  obtain ⟨r, b, t, u, v, m', news', rfl, hle, ⟨h, tk, rfl⟩, hr, hsm, hn, F, N, rfl, rfl⟩ := h₁
  refine wpAny_pyIter_range hr hsm ?_
  dsimp only at hle F N hr ⊢
  refine block_K (s₂ := { s with heap := _, toks := tk }) a n s.toks P hP hh hsz hcell hkind hx (by show IsRangeIter _ _ _ _ _; rw [hn]; simpa using Heap.get?_push_size _ rfl) (by show _ < (h.push _).objs.size; rw [Heap.size_push]; exact Nat.lt_succ_self _) hle
    (F.keeps fun _ _ e => Heap.get?_push_of_some _ e) (N.grown fun _ _ e => Heap.get?_push_of_some _ e) (Nat.ne_of_lt F.ns.lt) (next_is_new F) (fun p hp => Nat.ne_of_lt (Heap.lt_size (N p hp).1)) ?_ ?_
  · intro i t I oI C oC D m₂ ys h tk' E' hi htk hC hx F N off ne
    exact turn i t I oI C oC D m₂ ys h tk' E' hi htk hC hx F N off ne
  · intro D C h tk' m₂ ys htk hyl hys F' N' o1 hn hC₀ hCL hCD offC
    refine ⟨m₂, hn, fun h'' hs'' => fin ys D h'' tk' htk hyl hys (F'.change hs'' hCL hC₀) (fun p hp => ?_) o1⟩
    refine ⟨hs''.extBut _ _ ?_ (N' p hp).1, (N' p hp).2⟩
    rcases List.mem_cons.mp hp with rfl | hp
    · exact Ne.symm hCD
    · exact offC p hp
theorem comp_ints {elt iter : Expr} {x : Str} {px : Pos} {scope : Scope} {cl : List (Str × Addr)} {pos : Pos} {Q : Value → Shared → Prop} {news : List (Addr × Obj)} (F₀ : Fr h₀ L s.heap m) (N₀ : News h₀ L s.heap news) (a : Int) (n : Nat) (g : Nat → Int)
    (hclos : closureFor scope env = pure cl) (hcell : ∀ y ∈ scope.names, y.2 ≠ .cell) (hkind : scope.kind = .function)
    (hnames : ∀ y ∈ scope.names, y.2 = .local → scope.names.lookup y.1 = some .local) (hx : scope.names.lookup x = some .local)
    (he : wpAny (model prog w) A (eval iter env) (fun v s₁ => s.toks ≤ s₁.toks → MadeR s h₀ L a n (fun _ m' nx => m' = m ∧ nx = news) v s₁) (fun e s' => s.toks ≤ s'.toks → E e s') s)
    (hh : A.handled = none) (hsz : n ≤ sizeLine)
    (turn : ∀ i t I oI C oC D m₂ ys h tk (E' : Value → Shared → Prop), i < n → s.toks ≤ tk → NsObj oC m₂ → m₂ x = some (.int (a + (i : Int)) t) → Fr h₀ L h m → News h₀ L h ((I, oI) :: (C, oC) :: (D, lst ys) :: news) → Off3 I C D news → ((@Ne Nat I C) ∧ (@Ne Nat I D) ∧ (@Ne Nat C D)) →
      wpAny (model prog w) A (eval elt (compEnvC scope cl C env)) (TurnC h₀ L m { s with heap := h, toks := tk } ((I, oI) :: (C, oC) :: (D, lst ys) :: news) (IntP g i)) E' { s with heap := h, toks := tk })
    (fin : ∀ ys D h tk, s.toks ≤ tk → ys.length = n → (∀ i y, ys[i]? = some y → IntP g i y tk) → Fr h₀ L h m → News h₀ L h ((D, lst ys) :: news) → Off1 D news → Q (.ref D) { s with heap := h, toks := tk })
    (hs : ∀ x, foldedSetIterable iter env x = pure x := by intro _; rfl) :
    wpAny (model prog w) A (eval (.ListComp elt [⟨.Name x px, iter, [], 0⟩] scope pos) env) Q E s :=
  comp_range F₀ N₀ a n (IntP g) IntP.mono hclos hcell hkind hnames hx he hh hsz turn fin hs
end
end Mine

namespace Mine
open LCg
/-- a test is over: it answered b, the ledger stands -/
def TurnB (h₀ : Heap) (L : Addr) (m : Str → Option Value) (s₁ : Shared) (all : List (Addr × Obj)) (b : Bool) (ok : Bool) (s₂ : Shared) : Prop :=
  ok = b ∧ ∃ h' tk, s₂ = { s₁ with heap := h', toks := tk } ∧ Fr h₀ L h' m ∧ News h₀ L h' all
theorem TurnB.intro {h₀ : Heap} {L : Addr} {m : Str → Option Value} {s₁ : Shared} {all big : List (Addr × Obj)} {b ok : Bool} {h' : Heap} {tk : Nat} (F : Fr h₀ L h' m) (N : News h₀ L h' big) (sub : ∀ p ∈ all, p ∈ big) (e : ok = b) :
    TurnB h₀ L m s₁ all b ok { s₁ with heap := h', toks := tk } := ⟨e, h', tk, rfl, F, fun q hq => N q (sub q hq)⟩
section
variable {prog : Program} {w : World} {A : Around} {E : Value → Shared → Prop} {s : Shared} {h₀ : Heap} {L : Addr} {m : Str → Option Value} {env : Env}
theorem rest_filter {ct elt : Expr} {x : Str} {scope : Scope} {cl : List (Str × Addr)} {a : Int} {n : Nat} {Fin : List Value → List (Addr × Obj) → Prop} {news : List (Addr × Obj)} (p : Nat → Bool)
    (test : ∀ i t I oI C oC D m₂ ys h tk (E' : Value → Shared → Prop), i < n → NsObj oC m₂ → m₂ x = some (.int (a + (i : Int)) t) → Fr h₀ L h m → News h₀ L h ((I, oI) :: (C, oC) :: (D, lst ys) :: news) → Off3 I C D news → ((@Ne Nat I C) ∧ (@Ne Nat I D) ∧ (@Ne Nat C D)) →
      wpAny (model prog w) A (isTrue ct (compEnvC scope cl C env) (eval ct (compEnvC scope cl C env))) (TurnB h₀ L m { s with heap := h, toks := tk } ((I, oI) :: (C, oC) :: (D, lst ys) :: news) (p i)) E' { s with heap := h, toks := tk })
    (give : ∀ i t I oI C oC D m₂ ys h tk (E' : Value → Shared → Prop), i < n → NsObj oC m₂ → m₂ x = some (.int (a + (i : Int)) t) → Fr h₀ L h m → News h₀ L h ((I, oI) :: (C, oC) :: (D, lst ys) :: news) → Off3 I C D news → ((@Ne Nat I C) ∧ (@Ne Nat I D) ∧ (@Ne Nat C D)) →
      wpAny (model prog w) A (eval elt (compEnvC scope cl C env)) (TurnC h₀ L m { s with heap := h, toks := tk } ((I, oI) :: (C, oC) :: (D, lst ys) :: news) (fun _ _ => True)) E' { s with heap := h, toks := tk })
    (fin : ∀ ys, ys.length = ((List.range n).filter p).length → Fin ys news) : LCt.CompRestT prog w A h₀ L m env ct elt x scope cl s (fun _ => True) (fun i v => ∃ t, v = .int (a + (i : Int)) t) Fin n 0 [] news := by
  have key : ∀ (j i : Nat) (ys : List Value), i + j = n → ys.length = ((List.range i).filter p).length → LCt.CompRestT prog w A h₀ L m env ct elt x scope cl s (fun _ => True) (fun i v => ∃ t, v = .int (a + (i : Int)) t) Fin j i ys news := by
    intro j
    induction j with
    | zero =>
      intro i ys hi hy
      have e : i = n := by omega
      subst e
      exact LCt.CompRestT.zero (fin ys hy)
    | succ j ih =>
      intro i ys hi hy
      refine LCt.CompRestT.succ ?_
      rintro v I oI C oC D m₂ h tk E' ⟨t, rfl⟩ hC hx F N off ne
      refine wpAny_mono (test i t I oI C oC D m₂ ys h tk E' (by omega) hC hx F N off ne) (fun ok s₂ hq => ?_) fun _ _ e => e
      obtain ⟨rfl, h', tk', rfl, F', N'⟩ := hq
      have hlen : ((List.range (i + 1)).filter p).length = ((List.range i).filter p).length + (if p i then 1 else 0) := by
        rw [List.range_succ, List.filter_append, List.length_append]
        congr 1
        cases hp : p i <;> simp [hp]
      cases hp : p i with
      | true =>
        rw [if_pos rfl]
        refine wpAny_mono (give i t I oI C oC D m₂ ys h' tk' E' (by omega) hC hx F' N' off ne) (fun y s₃ hq => ?_) fun _ _ e => e
        obtain ⟨h2, tk2, rfl, F2, N2, _⟩ := hq
        refine ⟨h2, tk2, news, rfl, F2, N2, off, trivial, ih (i + 1) _ (by omega) ?_⟩
        rw [hlen, hp, List.length_append, hy]
        rfl
      | false =>
        rw [if_neg (by decide)]
        refine ⟨h', tk', news, rfl, F', N', off, trivial, ih (i + 1) _ (by omega) ?_⟩
        rw [hlen, hp, hy]
        rfl
  exact key n 0 [] (by omega) rfl
end
end Mine

namespace Mine
theorem lines_S10_1 : True := by
  k_with_none
  k_with "execs cons" => (k_here; (refine execs_toks 1 (by first | assumption | omega | (dsimp only; omega)) ?_); (intro zktk' zkhtk'); (try dsimp only))
  k_with "AndThen" => ((refine AndThen.intro ?_); (intro zkht'); (try dsimp only at zkht'); (try dsimp only))
  k_with "compareOp Is" => (k_here; k_dflt (refine' is_str ?zkk1 ?zkk2 ?zkk3 ?zkk4 ?zkk5 ?_; (case zkk1 => k_asm); (case zkk2 => k_asm); (case zkk3 => k_is); (case zkk4 => omega); (case zkk5 => omega); k_whole; intro zkb'))
  k_with "compareOp Is" => (k_here; k_dflt (refine' is_int ?zkk1 ?zkk2 ?zkk3 ?zkk4 ?zkk5 ?zkk6 ?zkk7 ?_; (case zkk1 => k_asm); (case zkk2 => k_asm); (case zkk3 => k_is); (case zkk4 => omega); (case zkk5 => omega); (case zkk6 => omega); (case zkk7 => omega); k_whole))
  exact True.intro

theorem q_ascii (m : Nat) : (T (List.replicate m 34)).cps.all (· < 128) = true := by
  rw [Array.all_eq_true]
  intro i hi
  simp
theorem q_at {m i c : Nat} (h : (T (List.replicate m 34)).cps[i]? = some c) : c = 34 := by
  have h' : (List.replicate m 34)[i]? = some c := by rw [← List.getElem?_toArray]; exact h
  rw [List.getElem?_replicate] at h'
  split at h'
  · exact (Option.some.inj h').symm
  · cases h'
theorem counts_con (w : World) (n : Nat) (news : List (Addr × Obj)) (k : Nat) (y : Str) (t u : Tok) (hk0 : k ≤ 100) (hy : y = T [34]) (hn : 1 ≤ n) (hu : @LE.le Nat _ 1 u) : Con w 2 n 77 [.str (T (List.replicate k 34)) t, .str y u] news (fun r tl => tl = [] ∧ ∃ t', r = .int (k : Int) t') := by
  subst hy
  refine con_of ?_; k_fill
  intro mean mg mb dp un gd cn cs a ccd cl outer A₀ base h₀ L m s Q E B F X N T hk hdp hun hn0 hret
  refine wpAny_call ?_
  k_dflt cell_enter
  refine gen_toks 1 (by show 1 ≤ s.toks + _; omega) ?_
  intro tk0 htk0
  repeat' (first | ((fail_if_success (with_reducible show wpAny _ _ (exec (Stmt.For _ _ _ _ _) _) _ _ _)); first | (k_unfold; (try dsimp only)) | (k_end; wrow_close) | walk1 | (dsimp only; walk1)))
  rename Fr _ _ _ _ => F'
  rename News _ _ _ _ => N'
  refine' for_ascii (fun i m' nx => nx = news ∧ (∃ t', m' (PySem.Str.ofString "count") = some (.int (i : Int) t')) ∧ m' (PySem.Str.ofString "b") = some (.str (Mine.T [34]) u)) (q_ascii k) (fun Q' hQ' => nameX_L F' ?jv hQ') rfl F' N' ?j0 ?jt ?jf
  case jv => rfl
  case j0 => exact ⟨rfl, ⟨_, rfl⟩, rfl⟩
  case jt =>
    rintro i c t1 m₁ nx h I oI hc hle ⟨rfl, ⟨t', e1⟩, e2⟩ F1 N1 ho
    have hc34 := q_at hc
    subst hc34
    have F2 := fr_at2 F1 e1 e2
    clear F1
    dsimp only at hle
    k_steps
    all_goals exact turn_end _ (by assumption) (by assumption) (by kcf_all) ho trivial ⟨rfl, ⟨_, rfl⟩, rfl⟩
  case jf =>
    rintro h tk m' nx hle ⟨rfl, ⟨t', e1⟩, e2⟩ F1 N1
    have F2 := fr_at2 F1 e1 e2
    clear F1
    k_steps
    exact hret _ [] _ _ (by assumption) (by assumption) ⟨rfl, _, congrArg (Value.int · _) (by rw [List.size_toArray, List.length_replicate])⟩
theorem count_next {xs : List Int} {i : Nat} (hi : i < xs.length) : (xs.take (i + 1)).count 1 = (xs.take i).count 1 + (if xs.getD i 0 = 1 then 1 else 0) := by
  have e : xs[i]? = some (xs.getD i 0) := by simp [hi]
  rw [List.take_add_one, e, List.count_append]
  congr 1
  by_cases h : xs.getD i 0 = 1
  · rw [if_pos h, h]; rfl
  · rw [if_neg h]
    show List.count 1 [xs.getD i 0] = 0
    rw [List.count_singleton]
    simpa [List.getD] using h
theorem counti_con (w : World) (n : Nat) (news : List (Addr × Obj)) (l : Addr) (c : Nat) (vs : List Value) (xs : List Int) (hi : Nat) (u : Tok) (hI : ITok 1 hi vs xs) (hn : 1 ≤ n) (hu : @LE.le Nat _ hi u) (hu1 : @LE.le Nat _ 1 u) :
    Con w 2 n 77 [.ref l, .int 1 u] ((l, listOf vs.toArray c) :: news) (fun r tl => tl = [] ∧ ∃ t', r = .int (xs.count 1 : Nat) t') := by
  refine con_of ?_; k_fill
  intro mean mg mb dp un gd cn cs a ccd cl outer A₀ base h₀ L m s Q E B F X N T hk hdp hun hn0 hret
  refine wpAny_call ?_
  k_dflt cell_enter
  refine gen_toks 1 (by show 1 ≤ s.toks + _; omega) ?_
  intro tk0 htk0
  repeat' (first | ((fail_if_success (with_reducible show wpAny _ _ (exec (Stmt.For _ _ _ _ _) _) _ _ _)); first | (k_unfold; (try dsimp only)) | (k_end; wrow_close) | walk1 | (dsimp only; walk1)))
  rename Fr _ _ _ _ => F'
  rename News _ _ _ _ => N'
  refine' for_list (fun i m' nx => nx = (l, listOf vs.toArray c) :: news ∧ (∃ t', m' (PySem.Str.ofString "count") = some (.int ((xs.take i).count 1 : Nat) t')) ∧ m' (PySem.Str.ofString "b") = some (.int 1 u)) (fun Q' hQ' => nameX_L F' ?jv hQ') rfl F' N' ?jm ?j0 ?jJ ?jt ?jf
  case jv => rfl
  case jm => k_mem
  case j0 => exact ⟨rfl, ⟨_, rfl⟩, rfl⟩
  case jJ =>
    rintro i m' nx ⟨rfl, _⟩
    k_mem
  case jt =>
    rintro i v m₁ nx h tk I oI hv hle ⟨rfl, ⟨t', e1⟩, e2⟩ F1 N1 ho
    obtain ⟨t1, rfl, ht1, ht2⟩ := hI.2 i v hv
    have hil : i < xs.length := by rw [← hI.1]; exact lt_of_at hv
    have hcn := count_next hil
    have F2 := fr_at2 F1 e1 e2
    clear F1
    dsimp only at hle
    have htk : 1 ≤ tk := by omega
    k_steps
    all_goals first | contradiction | (exact turn_end _ (by assumption) (by assumption) (by kcf_all) ho trivial ⟨rfl, ⟨_, congrArg (fun z : Nat => some (Value.int (z : Int) _)) (hcn.trans (congrArg _ (if_pos (by assumption)))).symm⟩, rfl⟩) | (exact turn_end _ (by assumption) (by assumption) (by kcf_all) ho trivial ⟨rfl, ⟨_, congrArg (fun z : Nat => some (Value.int (z : Int) _)) (hcn.trans (congrArg _ (if_neg (by assumption)))).symm⟩, rfl⟩)
  case jf =>
    rintro h tk m' nx hle ⟨rfl, ⟨t', e1⟩, e2⟩ F1 N1
    have F2 := fr_at2 F1 e1 e2
    clear F1
    k_steps
    exact hret _ [] _ _ (by assumption) (by assumption) ⟨rfl, _, congrArg (Value.int · _) (by rw [hI.1, List.take_length])⟩
end Mine

namespace Mine
/-- the sign at place k of Gray's word for i -/
def gb (i k : Nat) : Bool := (((i ^^^ (i >>> 1)) >>> k) &&& 1) == 1
def row (c i : Nat) : List Nat := (List.range 6).map fun k => if gb i k then c + k - 32 else c + k
def letters (c : Nat) : List Str := (List.range 6).map fun k => T [c + k]
def growL (xs : List (List Nat)) (p : Nat) : List (List Nat) := xs.map (· ++ [p]) ++ (List.range xs.length).map fun k => xs.getD (xs.length - 1 - k) [] ++ [p - 32]
theorem upper_fin : ∀ p, p < 26 → Txt.upper (T [97 + p]) = T [97 + p - 32] := by decide +kernel
theorem lower_fin1 : ∀ p, p < 26 → Txt.lower (T [97 + p]) = T [97 + p] := by decide +kernel
theorem lower_fin2 : ∀ p, p < 26 → Txt.lower (T [65 + p]) = T [97 + p] := by decide +kernel
theorem upper_T {p : Nat} (h1 : 97 ≤ p) (h2 : p ≤ 122) : Txt.upper (T [p]) = T [p - 32] := by
  have := upper_fin (p - 97) (by omega)
  rw [show 97 + (p - 97) = p by omega] at this
  exact this
theorem lower_small {p : Nat} (h1 : 97 ≤ p) (h2 : p ≤ 122) : Txt.lower (T [p]) = T [p] := by
  have := lower_fin1 (p - 97) (by omega)
  rw [show 97 + (p - 97) = p by omega] at this
  exact this
theorem lower_great {p : Nat} (h1 : 65 ≤ p) (h2 : p ≤ 90) : Txt.lower (T [p]) = T [p + 32] := by
  have := lower_fin2 (p - 65) (by omega)
  rw [show 65 + (p - 65) = p by omega, show 97 + (p - 65) = p + 32 by omega] at this
  exact this
theorem grow_T {xs : List (List Nat)} {p : Nat} (h1 : 97 ≤ p) (h2 : p ≤ 122) : grow (xs.map T) (T [p]) = (growL xs p).map T := by
  unfold grow growL
  rw [List.map_append, List.map_map, List.map_map, List.length_map, upper_T h1 h2, List.map_map]
  congr 1
  · apply List.map_congr_left
    intro a _
    show T a ++ T [p] = T (a ++ [p])
    rw [T_app]
  · apply List.map_congr_left
    intro k hk
    have hk' := List.mem_range.mp hk
    have e : xs[xs.length - 1 - k]? = some (xs[xs.length - 1 - k]'(by omega)) := by simp
    show ((xs.map T).getD (xs.length - 1 - k) Str.empty) ++ T [p - 32] = T (xs.getD (xs.length - 1 - k) [] ++ [p - 32])
    rw [List.getD_eq_getElem?_getD, List.getD_eq_getElem?_getD, List.getElem?_map, e]
    exact T_app _ _
theorem fold_T : ∀ (ps : List Nat) (xs : List (List Nat)), (∀ p ∈ ps, 97 ≤ p ∧ p ≤ 122) → (ps.map fun p => T [p]).foldl grow (xs.map T) = (ps.foldl growL xs).map T
  | [], xs, _ => rfl
  | p :: ps, xs, h => by
    rw [List.map_cons, List.foldl_cons, List.foldl_cons, grow_T (h p List.mem_cons_self).1 (h p List.mem_cons_self).2]
    exact fold_T ps _ fun q hq => h q (List.mem_cons_of_mem _ hq)
theorem rowsL_fin : ∀ c, c < 21 → ((List.range 6).map fun k => 97 + c + k).foldl growL [[]] = (List.range 64).map fun i => row (97 + c) i := by decide +kernel
theorem rowsOf_letters {c : Nat} (h1 : 97 ≤ c) (h2 : c ≤ 117) : rowsOf (letters c) = (List.range 64).map fun i => T (row c i) := by
  have h := fold_T ((List.range 6).map fun k => c + k) [[]] (by
    intro p hp
    obtain ⟨k, hk, rfl⟩ := List.mem_map.mp hp
    have := List.mem_range.mp hk
    omega)
  have f := rowsL_fin (c - 97) (by omega)
  rw [show 97 + (c - 97) = c by omega] at f
  rw [f, List.map_map, List.map_map] at h
  unfold rowsOf letters
  rw [s_empty]
  exact h
theorem row_at {c i : Nat} (h1 : 97 ≤ c) (h2 : c ≤ 117) (hi : i < 64) : (rowsOf (letters c)).getD i Str.empty = T (row c i) := by
  rw [rowsOf_letters h1 h2, List.getD_eq_getElem?_getD]
  simp [hi]
theorem row_len (c i : Nat) : (row c i).length = 6 := by simp [row]
theorem letters_len (c : Nat) : (letters c).length = 6 := by simp [letters]
theorem rows_len {c : Nat} : (rowsOf (letters c)).length = 64 := by rw [rowsOf_length, letters_len]
theorem letters_one {c : Nat} : ∀ s ∈ letters c, s.length = 1 := by
  intro s hs
  obtain ⟨k, _, rfl⟩ := List.mem_map.mp hs
  exact T_len _
theorem letter_at {c k : Nat} (hk : k < 6) : (letters c).getD k Str.empty = T [c + k] := by
  unfold letters
  rw [List.getD_eq_getElem?_getD]
  simp [hk]
theorem row_get {c i j p : Nat} (h : (row c i)[j]? = some p) : j < 6 ∧ p = if gb i j then c + j - 32 else c + j := by
  have hj := lt_of_at h
  rw [row_len] at hj
  refine ⟨hj, ?_⟩
  unfold row at h
  rw [List.getElem?_map, List.getElem?_range hj] at h
  exact (Option.some.inj h).symm
theorem row_apt {c : Nat} (h1 : 97 ≤ c) (h2 : c ≤ 117) (x y : Nat) : Apt (row c x) (row c y) where
  len := by rw [row_len, row_len]
  le := by rw [row_len]; exact Nat.le_refl _
  one := by
    intro i j p q hp hq
    obtain ⟨hi, ep⟩ := row_get hp
    obtain ⟨hj, eq⟩ := row_get hq
    have low : ∀ (b : Bool) (r k : Nat), k < 6 → r = (if b then c + k - 32 else c + k) → Txt.lower (T [r]) = T [c + k] := by
      intro b r k hk er
      cases b with
      | true =>
        rw [if_pos rfl] at er
        rw [er, lower_great (by omega) (by omega), show c + k - 32 + 32 = c + k by omega]
      | false =>
        rw [if_neg (by decide)] at er
        rw [er, lower_small (by omega) (by omega)]
    have lp := low _ p i hi ep
    have lq := low _ q j hj eq
    unfold subc
    rw [beqT, lp, lq, beqT]
    by_cases e : i = j
    · subst e
      rw [if_pos rfl]
      by_cases e2 : p = q
      · simp [e2]
      · simp [e2]
    · rw [if_neg e]
      have hpq : p ≠ q := by
        intro h
        subst h
        apply e
        rw [lp] at lq
        have := T_inj lq
        simp at this
        exact this
      have hij : ¬ (c + i = c + j) := by omega
      simp [hpq, e]
end Mine

namespace Mine
theorem flip_fin : ∀ c, c < 21 → ∀ v, v < 6 → ∀ m, m < 32 → 2 ^ v * (2 * m + 1) ≤ 63 →
    (row (97 + c) (2 ^ v * (2 * m + 1) - 1)).take v ++ ((if m % 2 = 0 then 97 + c + v - 32 else 97 + c + v) :: (row (97 + c) (2 ^ v * (2 * m + 1) - 1)).drop (v + 1)) = row (97 + c) (2 ^ v * (2 * m + 1)) := by decide +kernel
theorem flip_T {c v m i : Nat} (h1 : 97 ≤ c) (h2 : c ≤ 117) (hv : v < 6) (hm : m < 32) (hi : i ≤ 63) (e : i = 2 ^ v * (2 * m + 1)) :
    (row c (i - 1)).take v ++ ((if m % 2 = 0 then c + v - 32 else c + v) :: (row c (i - 1)).drop (v + 1)) = row c i := by
  have := flip_fin (c - 97) (by omega) v hv m hm (by omega)
  rw [show 97 + (c - 97) = c by omega, ← e] at this
  exact this
theorem gb_fin : ∀ i : Nat, i < 64 → ∀ k, k < 6 → decide (Builtin.bitAnd ((Builtin.bitXor (i : Int) ((i : Int).fdiv (2 ^ (1 : Int).toNat))).fdiv (2 ^ k)) 1 = 1) = gb i k := by decide +kernel
theorem spell_at {c : Nat} (h1 : 97 ≤ c) (h2 : c ≤ 117) {i : Nat} (hi : i < 64) : ∀ k, k ≤ 6 → spellW (letters c) (Builtin.bitXor (i : Int) ((i : Int).fdiv (2 ^ (1 : Int).toNat))) k = T ((row c i).take k)
  | 0, _ => by rw [spellW, s_empty]; rfl
  | k + 1, hk => by
    have ih := spell_at h1 h2 hi k (by omega)
    have hg := gb_fin i hi k (by omega)
    have hr : (row c i)[k]? = some (if gb i k then c + k - 32 else c + k) := by
      unfold row
      rw [List.getElem?_map, List.getElem?_range (by omega)]
      rfl
    rw [spellW, ih, letter_at (by omega), upper_T (by omega) (by omega), List.take_add_one, hr]
    cases hb : gb i k with
    | true =>
      rw [hb] at hg
      rw [if_pos (by simpa using hg), T_app]
      rfl
    | false =>
      rw [hb] at hg
      rw [if_neg (by simpa using hg), T_app]
      rfl
theorem spell_row {c : Nat} (h1 : 97 ≤ c) (h2 : c ≤ 117) {i : Int} (h0 : 0 ≤ i) (hi : i < 64) : spellW (letters c) (Builtin.bitXor i (i.fdiv (2 ^ (1 : Int).toNat))) 6 = T (row c i.toNat) := by
  have := spell_at h1 h2 (i := i.toNat) (by omega) 6 (Nat.le_refl _)
  rw [Int.toNat_of_nonneg h0, List.take_of_length_le (by rw [row_len]; exact Nat.le_refl _)] at this
  exact this
/-- at how many places the words for x and y differ -/
def dif (x y : Nat) : Nat := ((List.range 6).filter fun k => gb x k != gb y k).length
theorem ham_row {c : Nat} (h1 : 97 ≤ c) (x y : Nat) : ham (row c x) (row c y) = dif x y := by
  have key : ∀ (l : List Nat), ham (l.map fun k => if gb x k then c + k - 32 else c + k) (l.map fun k => if gb y k then c + k - 32 else c + k) = (l.filter fun k => gb x k != gb y k).length := by
    intro l
    induction l with
    | nil => rfl
    | cons k l ih =>
      rw [List.map_cons, List.map_cons, ham, ih, List.filter_cons]
      have n1 : c + k - 32 ≠ c + k := by omega
      cases hx : gb x k <;> cases hy : gb y k <;> simp [n1, n1.symm] <;> omega
  exact key _
theorem dif_fin : ∀ i, i < 63 → dif i (i + 1) = 1 := by decide +kernel
theorem near_row {c : Nat} (h1 : 97 ≤ c) {i : Nat} (hi : i < 63) : ham (row c i) (row c (i + 1)) = 1 := by rw [ham_row h1, dif_fin i hi]
end Mine

namespace Mine
/-- what the block of _law_apart gives for place i -/
def turnsL (one other : Int) (i : Nat) : Int := Builtin.bitAnd ((Builtin.bitXor (Builtin.bitXor one other) ((Builtin.bitXor one other).fdiv (2 ^ (1 : Int).toNat))).fdiv (2 ^ (0 + (i : Int)).toNat)) 1
theorem xor_nat : ∀ x : Nat, x < 64 → ∀ y : Nat, y < 64 → Builtin.bitXor (x : Int) (y : Int) = ((x ^^^ y : Nat) : Int) ∧ x ^^^ y < 64 := by decide +kernel
theorem gb_xor : ∀ x, x < 64 → ∀ y, y < 64 → ∀ k, k < 6 → gb (x ^^^ y) k = (gb x k != gb y k) := by decide +kernel
theorem turnsL_at {x y i : Nat} (hx : x < 64) (hy : y < 64) (hi : i < 6) : (turnsL (x : Int) (y : Int) i == 1) = (gb x i != gb y i) := by
  obtain ⟨e, hl⟩ := xor_nat x hx y hy
  unfold turnsL
  rw [e, show (0 + (i : Int)).toNat = i by omega, ← gb_xor x hx y hy i hi, ← gb_fin _ hl i hi]
  rfl
theorem turns_nat {x y : Nat} (hx : x < 64) (hy : y < 64) : ((List.range 6).map (turnsL (x : Int) (y : Int))).count 1 = dif x y := by
  unfold dif
  rw [List.count, List.countP_map, List.countP_eq_length_filter]
  congr 1
  apply List.filter_congr
  intro i hi
  exact turnsL_at hx hy (List.mem_range.mp hi)
theorem turns_count {one other : Int} (h1 : 0 ≤ one) (h2 : one ≤ 63) (h3 : 0 ≤ other) (h4 : other ≤ 63) : ((((List.range 6).map (turnsL one other)).count 1 : Nat) : Int) = ((dif one.toNat other.toNat : Nat) : Int) := by
  have := turns_nat (x := one.toNat) (y := other.toNat) (by omega) (by omega)
  rw [Int.toNat_of_nonneg h1, Int.toNat_of_nonneg h3] at this
  rw [this]
theorem dif_self (x : Nat) : dif x x = 0 := by
  unfold dif
  simp
theorem cavior : ∀ x, x < 64 → ∀ y, y < 64 → x < y → 2 ^ dif x y ≤ 3 * (y - x) ∧ 2 ^ dif x y ≤ 3 * (64 - (y - x)) ∧ dif x y = dif y x := by decide +kernel
/-- the way from the one number to the other, as the law says it -/
theorem far_eq {x y : Int} : ((if y > x then y else x) - if y < x then y else x) = if x ≤ y then y - x else x - y := by
  split <;> split <;> split <;> omega
theorem far_lo {x y : Int} (h1 : 0 ≤ x) (h2 : x ≤ 63) (h3 : 0 ≤ y) (h4 : y ≤ 63) : 0 ≤ ((if y > x then y else x) - if y < x then y else x) := by
  rw [far_eq]; split <;> omega
theorem far_hi {x y : Int} (h1 : 0 ≤ x) (h2 : x ≤ 63) (h3 : 0 ≤ y) (h4 : y ≤ 63) : ((if y > x then y else x) - if y < x then y else x) ≤ 63 := by
  rw [far_eq]; split <;> omega
theorem far_same {x y : Int} (h : ((if y > x then y else x) - if y < x then y else x) = 0) : x = y := by
  rw [far_eq] at h; split at h <;> omega
theorem yuen {x y : Int} (h1 : 0 ≤ x) (h2 : x ≤ 63) (h3 : 0 ≤ y) (h4 : y ≤ 63) (h : ((if y > x then y else x) - if y < x then y else x) ≠ 0) :
    1 * 2 ^ ((dif x.toNat y.toNat : Nat) : Int).toNat ≤ 3 * ((if y > x then y else x) - if y < x then y else x) ∧ 1 * 2 ^ ((dif x.toNat y.toNat : Nat) : Int).toNat ≤ 3 * (64 - ((if y > x then y else x) - if y < x then y else x)) := by
  rw [far_eq] at h ⊢
  rw [Int.toNat_natCast, Int.one_mul]
  have key : ∀ a b : Nat, a < 64 → b < 64 → a < b → (2 : Int) ^ dif a b ≤ 3 * ((b : Int) - a) ∧ (2 : Int) ^ dif a b ≤ 3 * (64 - ((b : Int) - a)) ∧ dif a b = dif b a := by
    intro a b ha hb hab
    obtain ⟨c1, c2, c3⟩ := cavior a ha b hb hab
    have e : (2 : Int) ^ dif a b = ((2 ^ dif a b : Nat) : Int) := by push_cast; rfl
    rw [e]
    exact ⟨by omega, by omega, c3⟩
  rcases Int.lt_trichotomy x y with c | c | c
  · rw [if_pos (by omega)]
    have := key x.toNat y.toNat (by omega) (by omega) (by omega)
    rw [Int.toNat_of_nonneg h1, Int.toNat_of_nonneg h3] at this
    exact ⟨this.1, this.2.1⟩
  · subst c; simp at h
  · rw [if_neg (by omega)]
    have := key y.toNat x.toNat (by omega) (by omega) (by omega)
    rw [Int.toNat_of_nonneg h1, Int.toNat_of_nonneg h3, this.2.2] at this
    exact ⟨this.1, this.2.1⟩
end Mine

namespace Mine
theorem size_7 {f : Int} : Builtin.Range.rangeSize (f + 1) (f + 7) 1 = ((6 : Nat) : Int) := by
  unfold Builtin.Range.rangeSize
  rw [if_pos (by decide), if_pos (by omega)]
  omega
theorem add_rw {prog : Program} {w : World} {A : Around} {E : Value → Shared → Prop} {s : Shared} {x y : Str} {t u : Tok} {Q : Value → Shared → Prop} {l : List Nat} (hz : x ++ y = T l) (hl : l.length ≤ 100) (h : ∀ t' k, Q (.str (T l) t') { s with toks := k }) : wpAny (model prog w) A (binaryOp .Add (.str x t) (.str y u)) Q E s := by
  have e : x.length + y.length = l.length := by rw [← Str.length_append, hz, T_len]
  refine KOpn.add (by rw [e]; omega) fun t' k _ => ?_
  rw [hz]
  exact h t' k
section
variable {c k m : Nat} {v n d : Int} (h1 : 97 ≤ c) (h2 : c ≤ 117)
include h1 h2
theorem cut_up (h0 : 0 ≤ v) (h5 : v ≤ 5) : Txt.slice (T (row c k)) none (some v) ++ Txt.upper ((letters c).getD v.toNat Str.empty) = T ((row c k).take v.toNat ++ [c + v.toNat - 32]) := by
  rw [slice_to h0 (by rw [row_len]; omega), letter_at (by omega), upper_T (by omega) (by omega), T_app]
theorem cut_lo (h0 : 0 ≤ v) (h5 : v ≤ 5) : Txt.slice (T (row c k)) none (some v) ++ (letters c).getD v.toNat Str.empty = T ((row c k).take v.toNat ++ [c + v.toNat]) := by
  rw [slice_to h0 (by rw [row_len]; omega), letter_at (by omega), T_app]
theorem seam {x : Nat} (hx : x = if m % 2 = 0 then c + v.toNat - 32 else c + v.toNat) (hT : Told n v m) (hn : n = (k : Int) + 1) (h63 : n ≤ 63) : T ((row c k).take v.toNat ++ [x]) ++ Txt.slice (T (row c k)) (some (v + 1)) none = T (row c (k + 1)) := by
  obtain ⟨h0, h5, hm, e⟩ := hT
  have e' : k + 1 = 2 ^ v.toNat * (2 * m + 1) := by
    have : ((k + 1 : Nat) : Int) = ((2 ^ v.toNat * (2 * m + 1) : Nat) : Int) := by push_cast; omega
    exact Int.ofNat.inj this
  rw [slice_from (by omega) (by rw [row_len]; omega), T_app, show (v + 1).toNat = v.toNat + 1 by omega, List.append_assoc, List.singleton_append, hx]
  have := flip_T h1 h2 (v := v.toNat) (m := m) (i := k + 1) (by omega) (by omega) (by omega) e'
  rw [Nat.add_sub_cancel] at this
  rw [this]
theorem fm0 {m : Nat} : (m : Int).fmod 2 = ((m % 2 : Nat) : Int) := by
  rw [Int.fmod_eq_emod_of_nonneg _ (by decide)]
  rfl
theorem seam_up (hT : Told n v m) (hn : n = (k : Int) + 1) (h63 : n ≤ 63) (hm : (m : Int).fmod 2 = 0) : T ((row c k).take v.toNat ++ [c + v.toNat - 32]) ++ Txt.slice (T (row c k)) (some (v + 1)) none = T (row c (k + 1)) :=
  seam h1 h2 (by rw [fm0 h1 h2] at hm; rw [if_pos (by omega)]) hT hn h63
theorem seam_lo (hT : Told n v m) (hn : n = (k : Int) + 1) (h63 : n ≤ 63) (hm : (m : Int).fmod 2 ≠ 0) : T ((row c k).take v.toNat ++ [c + v.toNat]) ++ Txt.slice (T (row c k)) (some (v + 1)) none = T (row c (k + 1)) :=
  seam h1 h2 (by rw [fm0 h1 h2] at hm; rw [if_neg (by omega)]) hT hn h63
theorem bad3 (hn : n = (k : Int) + 1) (h63 : n ≤ 63) : ¬ (T (row c (k + 1)) != (rowsOf (letters c)).getD n.toNat Str.empty) = true := by
  rw [row_at h1 h2 (by omega), show n.toNat = k + 1 by omega]
  simp
theorem bad4 (hn : n = (k : Int) + 1) (h63 : n ≤ 63) : ¬ (spellW (letters c) (Builtin.bitXor n (n.fdiv (2 ^ (1 : Int).toNat))) 6 != T (row c (k + 1))) = true := by
  rw [spell_row h1 h2 (by omega) (by omega), show n.toNat = k + 1 by omega]
  simp
theorem good5 (hn : n = (k : Int) + 1) (h63 : n ≤ 63) (h : d = ham (row c k) (row c (k + 1)) ∨ n.fmod 2 < ham (row c k) (row c (k + 1)) ∧ d = n.fmod 2 + 1) : d = 1 := by
  rw [near_row h1 (by omega)] at h
  have := Int.fmod_nonneg_of_pos n (b := 2) (by decide)
  omega
end
theorem catn1 {c k x : Nat} {v : Int} : ((row c k).take v.toNat ++ [x]).length ≤ 100 := by simp [row_len]; omega
theorem catn2 {c k : Nat} : (row c k).length ≤ 100 := by rw [row_len]; decide
theorem bad1 {m : Nat} (h : m ≤ 31) : ¬ (T (quotes m) != Txt.mul (PySem.Str.ofString "\"") (m : Int)) = true := by
  rcases Nat.eq_zero_or_pos m with e | e
  · subst e
    decide +kernel
  · rw [mul_q (by omega) (by omega)]
    simp [quotes]
theorem bad2 {n v : Int} {m : Nat} (h : Told n v m) : ¬ (2 * (m : Int) + 1) * 2 ^ v.toNat ≠ n := by
  have := h.2.2.2
  rw [Int.mul_comm]
  omega
theorem fm_lo {n : Int} : 0 ≤ n.fmod 2 := Int.fmod_nonneg_of_pos n (by decide)
theorem fm_hi {n : Int} : n.fmod 2 ≤ 6 := by
  have := Int.fmod_lt_of_pos n (b := 2) (by decide)
  omega
theorem rows_short18 {c : Nat} (h1 : 97 ≤ c) (h2 : c ≤ 117) : Short 18 (rowsOf (letters c)) := by
  rw [rowsOf_letters h1 h2]
  intro x hx
  obtain ⟨i, _, rfl⟩ := List.mem_map.mp hx
  rw [T_len, row_len]
  decide
theorem told_v {n v : Int} {m : Nat} (h : Told n v m) : 0 ≤ v := h.1
theorem told_v5 {n v : Int} {m : Nat} (h : Told n v m) : v ≤ 5 := h.2.1
theorem told_m {n v : Int} {m : Nat} (h : Told n v m) : m ≤ 31 := h.2.2.1
theorem lines_S11_1 : True := by
  k_with_none
  k_with "binaryOp Add str str" => (k_here; (with_reducible show wpAny _ _ (binaryOp Operator.Add (Value.str _ _) (Value.str _ _)) _ _ _); k_dflt (refine' add_rw ?zkk1 ?zkk2 ?_; (case zkk1 => k_extra "cat"); (case zkk2 => k_extra "catn"); k_whole; intro zkt9' zkk9'))
  k_with "execs cons" => (k_here; (refine execs_toks 1 (by first | assumption | omega | (dsimp only; omega)) ?_); (intro zktk' zkhtk'); (try dsimp only))
  k_with "AndThen" => ((refine AndThen.intro ?_); (intro zkht'); (try dsimp only at zkht'); (try dsimp only))
  k_with "call ref" => (k_here; (with_reducible show wpAny _ _ (call (Value.ref 35) [_, _]) _ _ _); k_dflt (refine' con_use (lshift_con _ 0 _ _ _ _ _ ?zkha ?zkhb ?zkhc ?zkhd) ?zkk1 ?zkk2 ?zkk3 ?zkk4 ?zkk5 ?zkkK ?zkkd ?zkku ?zkkn ?_; (case zkk1 => k_asm); (case zkk2 => k_asm); (case zkk3 => k_asm); (case zkk4 => first | k_asm | (refine cb_drop (by assumption) ?_; kcf_all)); (case zkk5 => k_asm); (case zkkK => first | exact rfl | assumption); (case zkha => first | omega | k_extra "fact"); (case zkhb => first | omega | k_extra "fact"); (case zkhc => first | omega | k_extra "fact"); (case zkhd => first | omega | k_extra "fact"); (case zkkn => exact Nat.zero_le _); (case zkkd => ktr_room); (case zkku => ktr_units)); (intro zkr9 zktl9 zkh9 zktk9 zkF9 zkN9 zkhle9 zkhR9); (obtain ⟨zkhT9, zkt9, zkhr9⟩ := zkhR9); (subst zkhT9); (subst zkhr9); (simp only [List.cons_append, List.nil_append] at zkN9); (try dsimp only); (try k_fold))
  k_with "call ref" => (k_here; (with_reducible show wpAny _ _ (call (Value.ref 142) [_, _]) _ _ _); k_dflt (refine' con_use (read_con _ 0 _ _ _ _ _ ?zkh1 ?zkh2 ?zkhc) ?zkk1 ?zkk2 ?zkk3 ?zkk4 ?zkk5 ?zkkK ?zkkd ?zkku ?zkkn ?_; (case zkk1 => k_asm); (case zkk2 => k_asm); (case zkk3 => k_asm); (case zkk4 => first | k_asm | (refine cb_drop (by assumption) ?_; kcf_all)); (case zkk5 => k_asm); (case zkkK => first | exact rfl | assumption); (case zkh1 => omega); (case zkh2 => omega); (case zkhc => assumption); (case zkkn => exact Nat.zero_le _); (case zkkd => ktr_room); (case zkku => ktr_units)); (intro zkr9 zktl9 zkh9 zktk9 zkF9 zkN9 zkhle9 zkhR9); (obtain ⟨zka9, zkv9, zkm9, zkt9, zku9, zkk9, zkhr9, zkhT9, zkhV9⟩ := zkhR9); (subst zkhT9); (subst zkhr9); (have zkhv9 := told_v zkhV9); (have zkhv8 := told_v5 zkhV9); (have zkhv7 := told_m zkhV9); (simp only [List.cons_append, List.nil_append] at zkN9); (try dsimp only); (try k_fold))
  k_with "call ref" => (k_here; (with_reducible show wpAny _ _ (call (Value.ref 77) [_, _]) _ _ _); k_dflt (refine' con_use (counts_con _ 1 _ _ _ _ _ ?zkh0 ?zkh1 ?zkh2 ?zkh3) ?zkk1 ?zkk2 ?zkk3 ?zkk4 ?zkk5 ?zkkK ?zkkd ?zkku ?zkkn ?_; (case zkk1 => k_asm); (case zkk2 => k_asm); (case zkk3 => k_asm); (case zkk4 => first | k_asm | (refine cb_drop (by assumption) ?_; kcf_all)); (case zkk5 => k_asm); (case zkkK => first | exact rfl | assumption); (case zkh0 => omega); (case zkh1 => exact s_quote); (case zkh2 => exact Nat.le_refl _); (case zkh3 => omega); (case zkkn => first | assumption | omega | (dsimp only; omega)); (case zkkd => ktr_room); (case zkku => ktr_units)); (intro zkr9 zktl9 zkh9 zktk9 zkF9 zkN9 zkhle9 zkhR9); (obtain ⟨zkhT9, zkt9, zkhr9⟩ := zkhR9); (subst zkhT9); (subst zkhr9); (simp only [List.cons_append, List.nil_append] at zkN9); (try dsimp only); (try k_fold))
  k_with "call ref" => (k_here; (with_reducible show wpAny _ _ (call (Value.ref 135) [_, _]) _ _ _); k_dflt (refine' con_use1 (spell_con _ 0 _ _ _ _ _ _ _ ?zkh0 ?zkh1 ?zkh2 ?zkh3 ?zkh4) ?zkk1 ?zkk2 ?zkk3 ?zkk4 ?zkk5 ?zkk6 ?zkkK ?zkkd ?zkku ?zkkn ?_; (case zkk2 => k_asm); (case zkk3 => k_asm); (case zkk4 => k_asm); (case zkk5 => k_asm); (case zkk6 => k_asm); (case zkk1 => k_mem); (case zkkK => first | exact rfl | assumption); (case zkh0 => assumption); (case zkh1 => exact letters_len _); (case zkh2 => exact letters_one); (case zkh3 => omega); (case zkh4 => omega); (case zkkn => exact Nat.zero_le _); (case zkkd => ktr_room); (case zkku => ktr_units)); (intro zkr9 zktl9 zkh9 zktk9 zkF9 zkN9 zkhle9 zkhR9); (obtain ⟨zkhT9, zkt9, zkhr9⟩ := zkhR9); (subst zkhT9); (subst zkhr9); (simp only [List.cons_append, List.nil_append] at zkN9); (try dsimp only); (try k_fold))
  k_with "call ref" => (k_here; (with_reducible show wpAny _ _ (call (Value.ref 123) [_, _, _]) _ _ _); k_dflt (refine' con_use (lev_con _ 0 _ _ _ _ _ _ _ _ _ ?zkhx ?zkhy ?zkhA ?zkh0 ?zkh1) ?zkk1 ?zkk2 ?zkk3 ?zkk4 ?zkk5 ?zkkK ?zkkd ?zkku ?zkkn ?_; (case zkk1 => k_asm); (case zkk2 => k_asm); (case zkk3 => k_asm); (case zkk4 => first | k_asm | (refine cb_drop (by assumption) ?_; kcf_all)); (case zkk5 => k_asm); (case zkkK => first | exact rfl | assumption); (case zkhx => rfl); (case zkhy => rfl); (case zkhA => k_extra "apt"); (case zkh0 => k_extra "mod"); (case zkh1 => k_extra "mod"); (case zkkn => exact Nat.zero_le _); (case zkkd => ktr_room); (case zkku => ktr_units)); (intro zkr9 zktl9 zkh9 zktk9 zkF9 zkN9 zkhle9 zkhR9); (obtain ⟨zkhT9, zkd9, zkt9, zkhr9, zkhd9⟩ := zkhR9); (subst zkhT9); (subst zkhr9); (simp only [List.cons_append, List.nil_append] at zkN9); (try dsimp only); (try k_fold))
  k_with "subscriptTail Name Name ref int" => (k_here; k_dflt (refine' item_short ?zkk1 ?zkk2 ?zkk3 ?zkk4 ?zkk5 ?zkk6 ?zkk7 ?_ ?zkkh; (case zkk1 => k_asm); (case zkk2 => k_mem); (case zkk3 => assumption); (case zkk4 => assumption); (case zkk5 => omega); (case zkk6 => omega); (case zkk7 => omega); (case zkkh => with_unfolding_all rfl); k_whole; intro zkt9' zkhk9'))
  exact True.intro

theorem steps_con (w : World) (n : Nat) (news : List (Addr × Obj)) (sa ra : Addr) (sc rc : Nat) (vs vr : List Value) (c sg : Nat) (first : Int) (t u : Tok) (hS : StrsAre vs (letters c)) (hR : StrsAre vr (rowsOf (letters c))) (hc1 : 97 ≤ c) (hc2 : c ≤ 117) (hsg : sg ≠ 34) (hf0 : 0 ≤ first) (hf1 : first ≤ 57) (hn : 1 ≤ n) :
    Con w 6 n 149 [.int first t, .ref sa, .str (T [sg]) u, .ref ra] ((ra, listOf vr.toArray rc) :: (sa, listOf vs.toArray sc) :: news) (fun r tl => tl = [] ∧ r = .bool true) := by
  refine con_of ?_; k_fill
  intro mean mg mb dp un gd cn cs a ccd cl outer A₀ base h₀ L m s Q E B F X N T hk hdp hun hn0 hret
  refine wpAny_call ?_
  k_dflt cell_enter
  refine gen_toks 1 (by show 1 ≤ s.toks + _; omega) ?_
  intro tk0 htk0
  have hSs : Short 1 (letters c) := fun x hx => Nat.le_of_eq (letters_one x hx)
  have hSr := rows_short18 hc1 hc2
  have hll := letters_len c
  have hrl := rows_len (c := c)
  repeat' (first | ((fail_if_success (with_reducible show wpAny _ _ (exec (Stmt.For _ _ _ _ _) _) _ _ _)); first | (k_unfold; (try dsimp only)) | (k_end; wrow_close) | walk1 | (dsimp only; walk1)))
  rename Fr _ _ _ _ => F'
  rename News _ _ _ _ => N'
  rw [row_at hc1 hc2 (show first.toNat < 64 by omega)] at F'
  refine' for_rangeF F' (first + 1) 6 (fun i m' nx => nx = (ra, listOf vr.toArray rc) :: (sa, listOf vs.toArray sc) :: news ∧ (∃ t', m' (PySem.Str.ofString "word") = some (.str (Mine.T (row c (first.toNat + i))) t')) ∧ m' (PySem.Str.ofString "rows") = some (.ref ra) ∧ m' (PySem.Str.ofString "small") = some (.ref sa) ∧ m' (PySem.Str.ofString "sign") = some (.str (Mine.T [sg]) u)) ?jv rfl ?jt ?jf
  case jv =>
    k_steps
    exact MadeR.intro (by assumption) (by assumption) (by assumption) (by assumption) ⟨_, _, rfl⟩ (small_one (by omega) (by omega) (by omega) (by omega)) size_7 ⟨rfl, ⟨_, rfl⟩, rfl, rfl, rfl⟩
  case jf =>
    rintro h tk m' nx hle ⟨rfl, ⟨t', e1⟩, e2, e3, e4⟩ F1 N1
    k_steps
    exact hret _ [] _ _ (by assumption) (by assumption) ⟨rfl, rfl⟩
  case jt =>
    rintro i t1 m₁ nx h tk I oI hi hle ⟨rfl, ⟨t', e1⟩, e2, e3, e4⟩ F1 N1 ho
    have F2 := fr_at2 (fr_at2 F1 e3 e4) (y := PySem.Str.ofString "rows") ((if_neg (by decide)).trans ((if_neg (by decide)).trans e1)) ((if_neg (by decide)).trans ((if_neg (by decide)).trans e2))
    clear F1
    dsimp only at hle
    have htk : 1 ≤ tk := by omega
    have hn1 : (1 : Int) ≤ first + 1 + (i : Int) := by omega
    have hn2 : first + 1 + (i : Int) ≤ 63 := by omega
    have hnk : first + 1 + (i : Int) = ((first.toNat + i : Nat) : Int) + 1 := by omega
    k_with "cat" => first | with_reducible exact cut_up hc1 hc2 (by assumption) (by assumption) | with_reducible exact cut_lo hc1 hc2 (by assumption) (by assumption) | with_reducible exact seam_up hc1 hc2 (by assumption) hnk hn2 (by assumption) | with_reducible exact seam_lo hc1 hc2 (by assumption) hnk hn2 (by assumption)
    k_with "catn" => first | exact catn1 | exact catn2
    k_with "apt" => exact row_apt hc1 hc2 _ _
    k_with "mod" => first | exact fm_lo | exact fm_hi
    k_steps
    all_goals first
      | (with_reducible exact absurd (by assumption) (bad1 (by assumption)))
      | (with_reducible exact absurd (by assumption) (bad2 (by assumption)))
      | (with_reducible exact absurd (by assumption) (bad3 hc1 hc2 hnk hn2))
      | (with_reducible exact absurd (by assumption) (bad4 hc1 hc2 hnk hn2))
      | (with_reducible exact absurd (good5 hc1 hc2 hnk hn2 (by assumption)) (by assumption))
      | (exact turn_end _ (by assumption) (by assumption) (by kcf_all) ho trivial ⟨rfl, ⟨_, rfl⟩, rfl, rfl, rfl⟩)
end Mine

namespace Mine
theorem pw_lo {d : Nat} : (0 : Int) ≤ 1 * 2 ^ ((d : Nat) : Int).toNat := by
  rw [Int.one_mul]; exact Int.le_of_lt (Int.pow_pos (by decide))
theorem pw_fin : ∀ d : Nat, d ≤ 6 → (1 : Int) * 2 ^ ((d : Nat) : Int).toNat ≤ 300 := by decide +kernel
theorem d_lo {d : Nat} : (0 : Int) ≤ (d : Int) := Int.natCast_nonneg _
theorem d_hi {d : Nat} (h : d ≤ 6) : (d : Int) ≤ 300 := by omega
theorem same_due {one other : Int} (h : one = other) : (((dif one.toNat other.toNat : Nat) : Int) == 0) = true := by
  subst h; rw [dif_self]; rfl
theorem told_due {c x y : Nat} {d b : Int} (h1 : 97 ≤ c) (h : d = ham (row c x) (row c y) ∨ b < ham (row c x) (row c y) ∧ d = b + 1) : d = (dif x y : Int) ∨ b < (dif x y : Int) ∧ d = b + 1 := by
  rw [ham_row h1] at h; exact h
theorem item_row {prog : Program} {w : World} {A : Around} {E : Value → Shared → Prop} {s : Shared} {h₀ : Heap} {L l : Addr} {vs : List Value} {c k : Nat} {i : Int} {u : Tok} {value slice : Expr} {news : List (Addr × Obj)} {Q : Value → Shared → Prop}
    (h1 : 97 ≤ c) (h2 : c ≤ 117) (N : News h₀ L s.heap news) (hm : (l, listOf vs.toArray k) ∈ news) (hS : StrsAre vs (rowsOf (letters c))) (h0 : 0 ≤ i) (hlt : i ≤ 63) (h : ∀ t, Q (.str (T (row c i.toNat)) t) s)
    (hs : subscripted slice false (.ref l) (.int i u) = operate [.ref l, .int i u] (getItem (.ref l) (.int i u)) := by with_unfolding_all rfl) :
    wpAny (model prog w) A (subscriptTail value slice (.ref l) (.int i u)) Q E s :=
  item_strs N hm hS h0 (by rw [rows_len]; omega) (by omega) (fun t => by rw [row_at h1 h2 (by omega)]; exact h t) hs
theorem due_of (x y : Nat) {ys : List Value} (h : ys.length = ((List.range 6).filter fun i => gb x i != gb y i).length) : ys.length = dif x y := h
theorem dif_le (x y : Nat) : dif x y ≤ 6 := Nat.le_trans (List.length_filter_le _ _) (by rw [List.length_range]; exact Nat.le_refl _)
theorem len_lst {prog : Program} {w : World} {A : Around} {E : Value → Shared → Prop} {s : Shared} {h₀ : Heap} {L l : Addr} {ys : List Value} {d : Nat} {news : List (Addr × Obj)} {Q : Value → Shared → Prop}
    (N : News h₀ L s.heap news) (hm : (l, LCg.lst ys) ∈ news) (hd : ys.length = d) (h6 : d ≤ 6) (h : Q (.int (d : Int) (s.toks + 1)) { s with toks := s.toks + 1 + 1 }) : wpAny (model prog w) A (call (.builtin "len") [.ref l]) Q E s := by
  have hl : s.heap.IsList l ys.toArray := ⟨_, N.get hm, rfl, _, rfl⟩
  refine len_list hl ?_ ?_
  · rw [List.size_toArray, hd]; omega
  · rw [List.size_toArray, hd]; exact h
theorem item_dif {x y i : Nat} {c : Nat} (h1 : 97 ≤ c) (hi : i < 6) : (Txt.item (T (row c x)) (0 + (i : Int)) != Txt.item (T (row c y)) (0 + (i : Int))) = (gb x i != gb y i) := by
  have get : ∀ z, (row c z)[(0 + (i : Int)).toNat]? = some (if gb z i then c + i - 32 else c + i) := by
    intro z
    rw [show (0 + (i : Int)).toNat = i by omega]
    unfold row
    rw [List.getElem?_map, List.getElem?_range hi]
    rfl
  rw [item_T (by omega) (get x), item_T (by omega) (get y), bne, beqT]
  have n1 : c + i - 32 ≠ c + i := by omega
  cases hx : gb x i <;> cases hy : gb y i <;> simp [n1, n1.symm]
theorem lines_S12_1 : True := by
  k_with_none
  k_with "execs cons" => (k_here; (refine execs_toks 1 (by first | assumption | omega | (dsimp only; omega)) ?_); (intro zktk' zkhtk'); (try dsimp only))
  k_with "AndThen" => ((refine AndThen.intro ?_); (intro zkht'); (try dsimp only at zkht'); (try dsimp only))
  k_with "call ref" => (k_here; (with_reducible show wpAny _ _ (call (Value.ref 35) [_, _]) _ _ _); k_dflt (refine' con_use (lshift_con _ _ _ _ _ _ _ ?zkha ?zkhb ?zkhc ?zkhd) ?zkk1 ?zkk2 ?zkk3 ?zkk4 ?zkk5 ?zkkK ?zkkd ?zkku ?zkkn ?_; (case zkk1 => k_asm); (case zkk2 => k_asm); (case zkk3 => k_asm); (case zkk4 => first | k_asm | (refine cb_drop (by assumption) ?_; kcf_all)); (case zkk5 => k_asm); (case zkkK => first | exact rfl | assumption); (case zkha => first | omega | k_extra "fact"); (case zkhb => first | omega | k_extra "fact"); (case zkhc => first | omega | k_extra "fact"); (case zkhd => first | omega | k_extra "fact"); (case zkkn => exact Nat.le_refl _); (case zkkd => ktr_room); (case zkku => ktr_units)); (intro zkr9 zktl9 zkh9 zktk9 zkF9 zkN9 zkhle9 zkhR9); (obtain ⟨zkhT9, zkt9, zkhr9⟩ := zkhR9); (subst zkhT9); (subst zkhr9); (simp only [List.cons_append, List.nil_append] at zkN9); (try dsimp only at zkhle9); (try dsimp only); (try k_fold))
  k_with "call ref" => (k_here; (with_reducible show wpAny _ _ (call (Value.ref 63) [_, _]) _ _ _); k_dflt (refine' con_use (xor_con _ _ _ _ _ _ _ ?zkha ?zkhb ?zkhc ?zkhd) ?zkk1 ?zkk2 ?zkk3 ?zkk4 ?zkk5 ?zkkK ?zkkd ?zkku ?zkkn ?_; (case zkk1 => k_asm); (case zkk2 => k_asm); (case zkk3 => k_asm); (case zkk4 => first | k_asm | (refine cb_drop (by assumption) ?_; kcf_all)); (case zkk5 => k_asm); (case zkkK => first | exact rfl | assumption); (case zkha => first | omega | k_extra "fact"); (case zkhb => first | omega | k_extra "fact"); (case zkhc => first | omega | k_extra "fact"); (case zkhd => first | omega | k_extra "fact"); (case zkkn => exact Nat.le_refl _); (case zkkd => ktr_room); (case zkku => ktr_units)); (intro zkr9 zktl9 zkh9 zktk9 zkF9 zkN9 zkhle9 zkhR9); (obtain ⟨zkhT9, zkt9, zkhr9⟩ := zkhR9); (subst zkhT9); (subst zkhr9); (simp only [List.cons_append, List.nil_append] at zkN9); (try dsimp only at zkhle9); (try dsimp only); (try k_fold))
  k_with "call ref" => (k_here; (with_reducible show wpAny _ _ (call (Value.ref 49) [_, _]) _ _ _); k_dflt (refine' con_use (rshift_con _ _ _ _ _ _ _ ?zkha ?zkhb ?zkhc ?zkhd) ?zkk1 ?zkk2 ?zkk3 ?zkk4 ?zkk5 ?zkkK ?zkkd ?zkku ?zkkn ?_; (case zkk1 => k_asm); (case zkk2 => k_asm); (case zkk3 => k_asm); (case zkk4 => first | k_asm | (refine cb_drop (by assumption) ?_; kcf_all)); (case zkk5 => k_asm); (case zkkK => first | exact rfl | assumption); (case zkha => first | omega | k_extra "fact"); (case zkhb => first | omega | k_extra "fact"); (case zkhc => first | omega | k_extra "fact"); (case zkhd => first | omega | k_extra "fact"); (case zkkn => exact Nat.le_refl _); (case zkkd => ktr_room); (case zkku => ktr_units)); (intro zkr9 zktl9 zkh9 zktk9 zkF9 zkN9 zkhle9 zkhR9); (obtain ⟨zkhT9, zkt9, zkhr9⟩ := zkhR9); (subst zkhT9); (subst zkhr9); (simp only [List.cons_append, List.nil_append] at zkN9); (try dsimp only at zkhle9); (try dsimp only); (try k_fold))
  k_with "call ref" => (k_here; (with_reducible show wpAny _ _ (call (Value.ref 56) [_, _]) _ _ _); k_dflt (refine' con_use (minus_con _ _ _ _ _ _ _ ?zkha ?zkhb ?zkhc ?zkhd) ?zkk1 ?zkk2 ?zkk3 ?zkk4 ?zkk5 ?zkkK ?zkkd ?zkku ?zkkn ?_; (case zkk1 => k_asm); (case zkk2 => k_asm); (case zkk3 => k_asm); (case zkk4 => first | k_asm | (refine cb_drop (by assumption) ?_; kcf_all)); (case zkk5 => k_asm); (case zkkK => first | exact rfl | assumption); (case zkha => first | omega | k_extra "fact"); (case zkhb => first | omega | k_extra "fact"); (case zkhc => first | omega | k_extra "fact"); (case zkhd => first | omega | k_extra "fact"); (case zkkn => exact Nat.le_refl _); (case zkkd => ktr_room); (case zkku => ktr_units)); (intro zkr9 zktl9 zkh9 zktk9 zkF9 zkN9 zkhle9 zkhR9); (obtain ⟨zkhT9, zkt9, zkhr9⟩ := zkhR9); (subst zkhT9); (subst zkhr9); (simp only [List.cons_append, List.nil_append] at zkN9); (try dsimp only at zkhle9); (try dsimp only); (try k_fold))
  k_with "call ref" => (k_here; (with_reducible show wpAny _ _ (call (Value.ref 42) [_, _]) _ _ _); k_dflt (refine' con_use (mul_con _ _ _ _ _ _ _ ?zkha ?zkhb ?zkhc ?zkhd) ?zkk1 ?zkk2 ?zkk3 ?zkk4 ?zkk5 ?zkkK ?zkkd ?zkku ?zkkn ?_; (case zkk1 => k_asm); (case zkk2 => k_asm); (case zkk3 => k_asm); (case zkk4 => first | k_asm | (refine cb_drop (by assumption) ?_; kcf_all)); (case zkk5 => k_asm); (case zkkK => first | exact rfl | assumption); (case zkha => first | omega | k_extra "fact"); (case zkhb => first | omega | k_extra "fact"); (case zkhc => first | omega | k_extra "fact"); (case zkhd => first | omega | k_extra "fact"); (case zkkn => exact Nat.le_refl _); (case zkkd => ktr_room); (case zkku => ktr_units)); (intro zkr9 zktl9 zkh9 zktk9 zkF9 zkN9 zkhle9 zkhR9); (obtain ⟨zkhT9, zkt9, zkhr9⟩ := zkhR9); (subst zkhT9); (subst zkhr9); (simp only [List.cons_append, List.nil_append] at zkN9); (try dsimp only at zkhle9); (try dsimp only); (try k_fold))
  k_with "call ref" => (k_here; (with_reducible show wpAny _ _ (call (Value.ref 21) [_, _]) _ _ _); k_dflt (refine' con_use (ge_con _ _ _ _ _ _ _ ?zkha ?zkhb ?zkhc ?zkhd) ?zkk1 ?zkk2 ?zkk3 ?zkk4 ?zkk5 ?zkkK ?zkkd ?zkku ?zkkn ?_; (case zkk1 => k_asm); (case zkk2 => k_asm); (case zkk3 => k_asm); (case zkk4 => first | k_asm | (refine cb_drop (by assumption) ?_; kcf_all)); (case zkk5 => k_asm); (case zkkK => first | exact rfl | assumption); (case zkha => first | omega | k_extra "fact"); (case zkhb => first | omega | k_extra "fact"); (case zkhc => first | omega | k_extra "fact"); (case zkhd => first | omega | k_extra "fact"); (case zkkn => exact Nat.le_refl _); (case zkkd => ktr_room); (case zkku => ktr_units)); (intro zkr9 zktl9 zkh9 zktk9 zkF9 zkN9 zkhle9 zkhR9); (obtain ⟨zkhT9, zkhr9⟩ := zkhR9); (subst zkhT9); (subst zkhr9); (simp only [List.cons_append, List.nil_append] at zkN9); (try dsimp only at zkhle9); (try dsimp only); (try k_fold))
  k_with "call ref" => (k_here; (with_reducible show wpAny _ _ (call (Value.ref 28) [_, _]) _ _ _); k_dflt (refine' conT_use (and__conT _ _ _ _ _ _ ?zkha ?zkhb ?zkhc ?zkhd) ?zkk1 ?zkk2 ?zkk3 ?zkk4 ?zkk5 ?zkkK ?zkkd ?zkku ?_; (case zkk1 => k_asm); (case zkk2 => k_asm); (case zkk3 => k_asm); (case zkk4 => k_asm); (case zkk5 => k_asm); (case zkkK => first | exact rfl | assumption); (case zkha => first | omega | k_extra "fact"); (case zkhb => first | omega | k_extra "fact"); (case zkhc => first | omega | k_extra "fact"); (case zkhd => first | omega | k_extra "fact"); (case zkkd => ktr_room); (case zkku => ktr_units)); (intro zkr9 zkh9 zktk9 zkF9 zkN9 zkhR9); (obtain ⟨zkt9, zkhr9, zkha9, zkhb9⟩ := zkhR9); (subst zkhr9); (try dsimp only at zkha9 zkhb9); (try dsimp only); (try k_fold))
  k_with "call ref" => (k_here; (with_reducible show wpAny _ _ (call (Value.ref 77) [_, _]) _ _ _); k_dflt (refine' con_use1 (counti_con _ 1 _ _ _ _ _ _ _ ?zkh0 ?zkh1 ?zkh2 ?zkh3) ?zkk1 ?zkk2 ?zkk3 ?zkk4 ?zkk5 ?zkk6 ?zkkK ?zkkd ?zkku ?zkkn ?_; (case zkk2 => k_asm); (case zkk3 => k_asm); (case zkk4 => k_asm); (case zkk5 => k_asm); (case zkk6 => k_asm); (case zkk1 => k_mem); (case zkkK => first | exact rfl | assumption); (case zkh0 => assumption); (case zkh1 => exact Nat.le_refl _); (case zkh2 => first | exact Nat.le_refl _ | omega); (case zkh3 => omega); (case zkkn => first | assumption | omega | (dsimp only; omega)); (case zkkd => ktr_room); (case zkku => ktr_units)); (intro zkr9 zktl9 zkh9 zktk9 zkF9 zkN9 zkhle9 zkhR9); (obtain ⟨zkhT9, zkt9, zkhr9⟩ := zkhR9); (subst zkhT9); (subst zkhr9); (simp only [List.cons_append, List.nil_append] at zkN9); (try dsimp only); (try k_fold))
  k_with "call ref" => (k_here; (with_reducible show wpAny _ _ (call (Value.ref 123) [_, _, _]) _ _ _); k_dflt (refine' con_use (lev_con _ 0 _ _ _ _ _ _ _ _ _ ?zkhx ?zkhy ?zkhA ?zkh0 ?zkh1) ?zkk1 ?zkk2 ?zkk3 ?zkk4 ?zkk5 ?zkkK ?zkkd ?zkku ?zkkn ?_; (case zkk1 => k_asm); (case zkk2 => k_asm); (case zkk3 => k_asm); (case zkk4 => first | k_asm | (refine cb_drop (by assumption) ?_; kcf_all)); (case zkk5 => k_asm); (case zkkK => first | exact rfl | assumption); (case zkhx => rfl); (case zkhy => rfl); (case zkhA => k_extra "apt"); (case zkh0 => assumption); (case zkh1 => assumption); (case zkkn => exact Nat.zero_le _); (case zkkd => ktr_room); (case zkku => ktr_units)); (intro zkr9 zktl9 zkh9 zktk9 zkF9 zkN9 zkhle9 zkhR9); (obtain ⟨zkhT9, zkd9, zkt9, zkhr9, zkhd9⟩ := zkhR9); (subst zkhT9); (subst zkhr9); (simp only [List.cons_append, List.nil_append] at zkN9); (try dsimp only); (try k_fold))
  k_with "subscriptTail Name Name ref int" => (k_here; k_dflt (refine' item_row ?zkk0 ?zkk00 ?zkk1 ?zkk2 ?zkk3 ?zkk4 ?zkk5 ?_ ?zkkh; (case zkk1 => k_asm); (case zkk2 => k_mem); (case zkk3 => assumption); (case zkk0 => assumption); (case zkk00 => assumption); (case zkk4 => omega); (case zkk5 => omega); (case zkkh => with_unfolding_all rfl); k_whole; intro zkt9'))
  k_with "call builtin:len cons nil" => (k_here; (with_reducible show wpAny _ _ (call (Value.builtin _) [Value.ref _]) _ _ _); k_dflt (refine' len_lst ?zkk1 ?zkk2 ?zkk3 ?zkk4 ?_; (case zkk1 => k_asm); (case zkk2 => k_mem); (case zkk3 => k_extra "due"); (case zkk4 => exact dif_le _ _); k_whole))
  k_with "eval ListComp" => (k_here; lct_look; lcg_calm; k_dflt (refine LCt.ListComp_T (F₀ := by k_asm) (by with_unfolding_all rfl) (by decide) (by rfl) (by decide) (by rfl) ?_))
  k_with "eval ListComp" => (k_here; lcf_look; lcg_calm; k_dflt (refine' comp_ints ?zkcF ?zkcN 0 6 ?zkcg ?zkh1 ?zkh2 ?zkh3 ?zkh4 ?zkh5 ?zkhe ?zkhh ?zkhsz (fun zki9 zkt9 zkI9 zkoI9 zkC9 zkoC9 zkD9 zkm9 zkys9 zkh9 zktk9 zkE9 zkhi9 zkhle9 zkhC9 zkhx9 zkF9 zkN9 zkoff9 zkne9 => ?_) (fun zkys9 zkD9 zkh9 zktk9 zkhle9 zkhlen9 zkhall9 zkF9 zkN9 zko19 => ?_); (case zkcF => k_asm); (case zkcN => k_asm); (case zkcg => k_extra "comp"); (case zkhh => rfl); (case zkh1 => with_unfolding_all rfl); (case zkh2 => decide); (case zkh3 => rfl); (case zkh4 => decide); (case zkh5 => rfl); (case zkhsz => (rw [PySem.sizeLine_eq]; omega)); (all_goals (try (simp only [LCg.Off3, and_true] at zkoff9))); (all_goals (try (simp only [LCg.Off1, and_true] at zko19))); (all_goals (try dsimp only at zkhle9)); (all_goals (try (have zkhI9 := itok_of zkhlen9 zkhall9)))))
  k_with "CompSrcT" => (k_here; k_dflt (refine LCt.CompSrcT.range (n := 6) (by rfl) (by k_asm) (by k_asm) (by assumption) (by first | decide | rfl) (by first | rfl | decide) (by (rw [PySem.sizeLine_eq]; omega)) ?_; intro zkg'; (refine' rest_filter ?zkcp (fun zki9 zkt9 zkI9 zkoI9 zkC9 zkoC9 zkD9 zkm9 zkys9 zkh9 zktk9 zkE9 zkhi9 zkhC9 zkhx9 zkF9 zkN9 zkoff9 zkne9 => ?_) (fun zki9 zkt9 zkI9 zkoI9 zkC9 zkoC9 zkD9 zkm9 zkys9 zkh9 zktk9 zkE9 zkhi9 zkhC9 zkhx9 zkF9 zkN9 zkoff9 zkne9 => ?_) (fun zkys9 zkhl9 => ?_); (case zkcp => k_extra "test"); (all_goals (try (simp only [LCg.Off3, and_true] at zkoff9))))))
  exact True.intro


theorem apart_con (w : World) (n : Nat) (news : List (Addr × Obj)) (ra : Addr) (rc : Nat) (vr : List Value) (c : Nat) (one other bound : Int) (t t2 t3 : Tok) (hR : StrsAre vr (rowsOf (letters c))) (hc1 : 97 ≤ c) (hc2 : c ≤ 117) (ho0 : 0 ≤ one) (ho1 : one ≤ 63) (hp0 : 0 ≤ other) (hp1 : other ≤ 63) (hb0 : 0 ≤ bound) (hb1 : bound ≤ 6) (hn : 1 ≤ n) :
    Con w 6 n 154 [.int one t, .int other t2, .ref ra, .int bound t3] ((ra, listOf vr.toArray rc) :: news) (fun r tl => tl = [] ∧ r = .bool true) := by
  refine con_of ?_; k_fill
  intro mean mg mb dp un gd cn cs a ccd cl outer A₀ base h₀ L m s Q E B F X N T hk hdp hun hn0 hret
  refine wpAny_call ?_
  k_dflt (refine' code_defC ?k1 ?k2 ?k3 ?k4 ?k5 ?kA ?kF ?kK ?k6 ?k7 ?k8 ?k9 ?kB ?kD ?_ ?c2 ?c3 ?c4; (case kA => exact rfl); (case kF => exact rfl); (case kK => assumption); (case k1 => k_asm); (case k2 => k_asm); (case k3 => k_asm); (case k4 => k_asm); (case k5 => k_asm); (case k6 => k_is); (case k7 => k_is); (case k8 => ktr_room); (case k9 => exact BindsTo.of_eq rfl); (case kB => exact rfl); (case kD => decide +kernel); (case c2 => exact rfl); (case c3 => exact rfl); (case c4 => exact rfl); k_whole; intro g' L' h' tk' cells' FG' F' N' Y' B' X' T' l1; (try k_lt l1); k_cells Y'; (try simp only [List.cons_append, List.nil_append] at N'); (try dsimp only); (try k_lift B'); (try k_fold))
  have hlt1 : AllLt (L' + 1) news := allLt_mono (Nat.le_add_right _ _) l1.2
  have hlt2 : AllLt (L' + 1 + 1) news := allLt_mono (Nat.le_add_right _ _) hlt1
  have hlt3 : AllLt (L' + 1 + 1 + 1) news := allLt_mono (Nat.le_add_right _ _) hlt2
  have hlt4 : AllLt (L' + 1 + 1 + 1 + 1) news := allLt_mono (Nat.le_add_right _ _) hlt3
  have hl1 : (Mine.T (row c one.toNat)).length = 6 := by rw [T_len, row_len]
  have hl2 : (Mine.T (row c other.toNat)).length = 6 := by rw [T_len, row_len]
  have hm0 := xor64 ho0 ho1 hp0 hp1
  have hg0 := gray_lo (k := (1 : Int).toNat) hm0.1 hm0.2
  have hg1 := gray_hi (k := (1 : Int).toNat) (B := 63) hm0.1 hm0.2 (by decide)
  k_with "fact" => first | exact pw_lo | exact pw_fin _ (dif_le _ _) | exact d_lo | exact d_hi (dif_le _ _) | exact hm0.1 | exact Int.le_trans hm0.2 (by decide) | exact fd_lo hm0.1 | exact fd_hi2 hm0.1 (Int.le_trans hm0.2 (by decide)) | exact hg0 | exact Int.le_trans hg1 (by decide) | exact fd_lo hg0 | exact fd_hi2 hg0 (Int.le_trans hg1 (by decide))
  k_with "apt" => exact row_apt hc1 hc2 _ _
  k_with "test" => exact fun i => gb one.toNat i != gb other.toNat i
  k_with "comp" => exact turnsL one other
  k_with "due" => exact due_of one.toNat other.toNat (by assumption)
  k_steps
  all_goals first
    | (exact TurnB.intro (by assumption) (by assumption) (by kcf_all) (item_dif hc1 (by assumption)))
    | (exact TurnC.intro (by assumption) (by assumption) (by kcf_all) trivial)
    | (exact TurnC.intro (by assumption) (by assumption) (by kcf_all) ⟨_, rfl, by omega, by omega⟩)
    | (exact MadeR.intro (by assumption) (by assumption) (by assumption) (by assumption) ⟨_, _, rfl⟩ (by first | decide | rfl) (by first | rfl | decide) ⟨rfl, rfl⟩)
    | (with_reducible exact absurd (turns_count ho0 ho1 hp0 hp1) (by assumption))
    | (exfalso; have hd8 := told_due hc1 (by assumption); omega)
    | (refine hret _ [] _ _ (by assumption) (by first | assumption | exact news_of (by assumption) (by kcf_all)) ⟨rfl, congrArg Value.bool ?_⟩; first | (with_reducible exact same_due (far_same (by assumption))) | (exact decide_eq_true (yuen ho0 ho1 hp0 hp1 (by assumption)).2) | (exact decide_eq_true (yuen ho0 ho1 hp0 hp1 (by assumption)).1))
    | (exfalso; have hy8 := yuen ho0 ho1 hp0 hp1 (by assumption); first | (exact absurd hy8.1 (of_decide_eq_false (by assumption))) | (exact absurd hy8.1 (by assumption)))
end Mine

namespace Mine
theorem cut_ints {prog : Program} {w : World} {A : Around} {E : Value → Shared → Prop} {s : Shared} {h₀ : Heap} {L l : Addr} {m : Str → Option Value} {news : List (Addr × Obj)} {slice value : Expr} {vs : List Value} {ns : List Int} {x : Int} {t : Tok} {c : Nat} {Q : Value → Shared → Prop}
    (F : Fr h₀ L s.heap m) (N : News h₀ L s.heap news) (hm : (l, listOf vs.toArray c) ∈ news) (hI : IntsAre vs ns) (h0 : 0 ≤ x) (hz : ns.length ≤ 1000)
    (h : ∀ D ws h', Fr h₀ L h' m → News h₀ L h' ((D, listOf (List.toArray ws) 0) :: news) → (∀ p ∈ news, p.1 < D) → IntsAre ws (ns.drop x.toNat) → Q (.ref D) { s with heap := h' })
    (hs : subscripted slice false (.ref l) (.ref s.heap.objs.size) = operate [.ref s.heap.objs.size, .ref l] (getItem (.ref l) (.ref s.heap.objs.size))) :
    wpAny (model prog w) A (subscriptTail value slice (.ref l) (.ref s.heap.objs.size)) Q E { s with heap := s.heap.push { cls := .type "slice", data := .fields #[.int x t, .none, .none] } } := by
  refine kba_turn (value' := .Name (PySem.Str.ofString "_") ⟨0, 0, 0, 0⟩) (fun _ => rfl) ?_
  refine kmk_slice_ints (c := (ns.drop x.toNat).length) F N ⟨_, N.get hm, rfl, c, rfl⟩ (IsPart.int _ _) IsPart.none hI (slice_ints_fromW hI h0) rfl (fun D ws h' F' N' l1 hI' _ _ => h D ws h' F' N' l1 hI') hs (fun _ => rfl) ?_
  rw [List.size_toArray, hI.length, sizeLine_eq]
  omega
theorem letters_of {c : Nat} {ys : List Value} (h : StrsAre ys ((List.range 6).map fun k => T [c + k])) : StrsAre ys (letters c) := h
theorem fmod_lo {x n : Int} (h : 0 < n) : 0 ≤ x.fmod n := Int.fmod_nonneg_of_pos x h
theorem fmod_hi {x n : Int} (h : 0 < n) : x.fmod n < n := Int.fmod_lt_of_pos x h
theorem three_in {zs : List Int} {n i : Nat} : 0 ≤ ((zs.map fun (k' : Int) => k'.fmod 64) ++ [32, 10, 53].drop n).getD i 0 ∧ ((zs.map fun (k' : Int) => k'.fmod 64) ++ [32, 10, 53].drop n).getD i 0 ≤ 63 := by
  have key : ∀ v ∈ ((zs.map fun (k' : Int) => k'.fmod 64) ++ [32, 10, 53].drop n), 0 ≤ v ∧ v ≤ 63 := by
    intro v hv
    rcases List.mem_append.mp hv with h | h
    · obtain ⟨k, _, rfl⟩ := List.mem_map.mp h
      have a := fmod_lo (x := k) (n := 64) (by decide)
      have b := fmod_hi (x := k) (n := 64) (by decide)
      exact ⟨a, by omega⟩
    · have h3 := List.mem_of_mem_drop h
      simp at h3
      omega
  rw [List.getD_eq_getElem?_getD]
  cases e : ((zs.map fun (k' : Int) => k'.fmod 64) ++ [32, 10, 53].drop n)[i]? with
  | none => decide
  | some v => exact key v (List.mem_of_getElem? e)
theorem three_len {zs : List Int} {f : Int → Int} : (((zs.take 3).map f) ++ [32, 10, 53].drop ((((zs.take 3).map f).length : Nat) : Int).toNat : List Int).length = 3 := by
  rw [Int.toNat_natCast, List.length_append, List.length_drop, List.length_map, List.length_take]
  simp only [List.length_cons, List.length_nil]
  omega
theorem chr_small {x : Int} {i : Nat} (h : 0 ≤ x) : T [(97 + x).toNat + i] = ⟨#[(97 + x + (0 + (i : Int))).toNat]⟩ := by
  have e : (97 + x + (0 + (i : Int))).toNat = (97 + x).toNat + i := by omega
  rw [e]
theorem lines_S13_1 : True := by
  k_with_none
  k_with "CompSrc" => (k_here; k_dflt (refine LCg.CompSrc.range (n := 6) (by rfl) (by k_asm) (by k_asm) (by with_reducible assumption) (by first | decide | rfl) (by first | rfl | decide) (by (rw [PySem.sizeLine_eq]; omega)) ?_; intro zkg'; (refine' rest_str ?zkcG (fun zki' zkv' zkI' zkoI' zkC' zkoC' zkD' zkm' zkys' zkh' zktk' zkE' zkhi' zkhP' zkhC' zkhx' zkF' zkN' zkoff' zkne' => ?_) (fun zkys9 zkhS9 => ?_); (case zkcG => k_extra "letter")); (all_goals (try (simp only [LCg.Off3, and_true] at zkoff'))); (all_goals (try ((obtain ⟨zkt9', zkhP9'⟩ := zkhP'); (subst zkhP9')))); (all_goals (try (have zkhS8 := letters_of zkhS9; clear zkhS9)))))
  k_with "CompEnd" => (refine' LCg.CompEnd.intro (by assumption) (by assumption) _ ?zksub ?zkoff ?zkhS (kct_el ?zkel rfl rfl); (case zksub => kcf_all); (case zkoff => first | assumption | (simp only [LCg.Off3, and_true]; assumption)); (case zkhS => first | lcg_src | assumption); (case zkel => k_extra "chr"))
  k_with "subscriptTail List cons Slice ref ref" => (k_here; k_dflt (refine' cut_ints ?zkF ?zkN ?zkm ?zki ?zkz0 ?zkz ?_ ?zks; (case zkF => k_asm); (case zkN => k_asm); (case zkm => k_mem); (case zki => l_ints); (case zkz0 => omega); (case zkz => decide); (case zks => with_unfolding_all rfl); k_whole; intro zkD' zkws' zkh' zkF' zkN' zkl1 zkhI'; (try k_lt zkl1)))
  k_with "subscriptTail Name Name ref int" => (k_here; k_dflt (refine' ksa_sub ?zkk1 ?zkk2 ?zkk3 ?zkk4 ?zkk5 ?zkk6 ?_ ?zkkh; (case zkk1 => k_asm); (case zkk2 => k_mem); (case zkk3 => with_reducible assumption); (case zkk4 => decide); (case zkk5 => (rw [three_len]; decide)); (case zkk6 => decide); (case zkkh => with_unfolding_all rfl); k_whole; intro zkt9'))
  k_with "execs cons" => (k_here; (refine execs_toks 1 (by first | assumption | omega | (dsimp only; omega)) ?_); (intro zktk' zkhtk'); (try dsimp only))
  k_with "AndThen" => ((refine AndThen.intro ?_); (intro zkht'); (try dsimp only at zkht'); (try dsimp only))
  k_with "call ref" => (k_here; (with_reducible show wpAny _ _ (call (Value.ref 128) [_]) _ _ _); k_dflt (refine' con_use1 (list_con _ 0 _ _ _ _ _ ?zkh0 ?zkh1 ?zkh2) ?zkk1 ?zkk2 ?zkk3 ?zkk4 ?zkk5 ?zkk6 ?zkkK ?zkkd ?zkku ?zkkn ?_; (case zkk2 => k_asm); (case zkk3 => k_asm); (case zkk4 => k_asm); (case zkk5 => k_asm); (case zkk6 => k_asm); (case zkk1 => k_mem); (case zkkK => first | exact rfl | assumption); (case zkh0 => assumption); (case zkh1 => exact Nat.le_of_eq (letters_len _)); (case zkh2 => exact letters_one); (case zkkn => exact Nat.zero_le _); (case zkkd => ktr_room); (case zkku => ktr_units)); (intro zkr9 zktl9 zkh9 zktk9 zkF9 zkN9 zkhle9 zkhR9); (obtain ⟨zka9, zkvs9, zkc9, zkhr9, zkhT9, zkhS9⟩ := zkhR9); (subst zkhT9); (subst zkhr9); (simp only [List.cons_append, List.nil_append] at zkN9); (try dsimp only); (try k_fold))
  k_with "call ref" => (k_here; (with_reducible show wpAny _ _ (call (Value.ref 149) [_, _, _, _]) _ _ _); k_dflt (refine' con_use (steps_con _ _ _ _ _ _ _ _ _ _ _ _ _ _ ?zkh0 ?zkh1 ?zkh2 ?zkh3 ?zkh4 ?zkh5 ?zkh6 ?zkh7) ?zkk1 ?zkk2 ?zkk3 ?zkk4 ?zkk5 ?zkkK ?zkkd ?zkku ?zkkn ?_; (case zkk1 => k_asm); (case zkk2 => k_asm); (case zkk3 => k_asm); (case zkk4 => first | k_asm | (refine cb_drop (by assumption) ?_; kcf_all)); (case zkk5 => k_asm); (case zkkK => first | exact rfl | assumption); (case zkh0 => assumption); (case zkh1 => assumption); (case zkh2 => k_extra "c"); (case zkh3 => k_extra "c"); (case zkh4 => k_extra "c"); (case zkh5 => k_extra "c"); (case zkh6 => k_extra "c"); (case zkh7 => first | exact Nat.le_refl _); (case zkkn => (dsimp only; omega)); (case zkkd => ktr_room); (case zkku => ktr_units)); (intro zkr9 zktl9 zkh9 zktk9 zkF9 zkN9 zkhle9 zkhR9); (obtain ⟨zkhT9, zkhr9⟩ := zkhR9); (subst zkhT9); (subst zkhr9); (simp only [List.cons_append, List.nil_append] at zkN9); (try dsimp only); (try k_fold))
  k_with "call ref" => (k_here; (with_reducible show wpAny _ _ (call (Value.ref 154) [_, _, _, _]) _ _ _); k_dflt (refine' con_use1 (apart_con _ _ _ _ _ _ _ _ _ _ _ _ _ ?zkh0 ?zkh2 ?zkh3 ?zkg1 ?zkg2 ?zkg3 ?zkg4 ?zkg5 ?zkg6 ?zkh7) ?zkk1 ?zkk2 ?zkk3 ?zkk4 ?zkk5 ?zkk6 ?zkkK ?zkkd ?zkku ?zkkn ?_; (case zkk2 => k_asm); (case zkk3 => k_asm); (case zkk4 => k_asm); (case zkk5 => k_asm); (case zkk6 => k_asm); (case zkk1 => k_mem); (case zkkK => first | exact rfl | assumption); (case zkh0 => assumption); (case zkh2 => k_extra "c"); (case zkh3 => k_extra "c"); (case zkg1 => k_extra "d"); (case zkg2 => k_extra "d"); (case zkg3 => k_extra "d"); (case zkg4 => k_extra "d"); (case zkg5 => k_extra "d"); (case zkg6 => k_extra "d"); (case zkh7 => first | exact Nat.le_refl _); (case zkkn => (dsimp only; omega)); (case zkkd => ktr_room); (case zkku => ktr_units)); (intro zkr9 zktl9 zkh9 zktk9 zkF9 zkN9 zkhle9 zkhR9); (obtain ⟨zkhT9, zkhr9⟩ := zkhR9); (subst zkhT9); (subst zkhr9); (simp only [List.cons_append, List.nil_append] at zkN9); (try dsimp only); (try k_fold))
  exact True.intro


theorem whole : PySem.Challenge.rw_wn0062_01.Holds := by
  refine hd ?_
  w_strict (k_go0)
  rename List Int => zs
  have hf1 := fmod_lo (x := zs.sum) (n := 21) (by decide)
  have hf2 := fmod_hi (x := zs.sum) (n := 21) (by decide)
  have hf3 := fmod_lo (x := zs.sum) (n := 55000) (by decide)
  have hf4 := fmod_hi (x := zs.sum) (n := 55000) (by decide)
  k_with "letter" => exact fun i => Mine.T [(97 + zs.sum.fmod 21).toNat + i]
  k_with "chr" => exact chr_small hf1
  k_with "c" => first | omega | exact fmod_lo (by decide) | exact Int.le_of_lt_add_one (fmod_hi (by decide))
  k_with "d" => first | exact three_in.1 | exact three_in.2 | exact fmod_lo (by decide) | exact Int.le_of_lt_add_one (fmod_hi (by decide))
  k_steps
end Mine
theorem PySem.Challenge.cw_wn0062_01_holds : PySem.Challenge.rw_wn0062_01.Holds := by
  exact Mine.whole

