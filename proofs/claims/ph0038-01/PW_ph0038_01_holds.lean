import PyProof.Rows.All
import Wide.All
import OpenK.AllK
import Wide.FinOn
import Lean
import PySem.Challenge.RW_ph0038_01
set_option Elab.async false
set_option rowWalk.seconds 0
namespace Mine
section
theorem fresh_HdA : True := by w_top off; exact trivial
open PySem PySem.W PyProof.Rows
set_option maxRecDepth 100000
set_option maxHeartbeats 8000000
open_top hd for PySem.Challenge.rw_ph0038_01
set_option pp.deepTerms false
set_option pp.maxSteps 3000
end
section
local macro_rules | `(tactic| walk_at "pad pad") => `(tactic| fail "pad")
theorem fresh_Base0 : True := by w_top off; exact trivial
open PySem PySem.W PyProof.Rows
set_option maxRecDepth 100000
noncomputable abbrev LS : List Str := looseW hd.view_39 [Str.ofString "_twin_re_1", Str.ofString "_ver_stages", Str.ofString "_norm_version"]
/-- every object that stood stands as it was -/
abbrev Kept (h h' : Heap) : Prop := ∀ b o, h.get? b = some o → h'.get? b = some o
theorem enterF {prog : Program} {w : World} {A : Around} {s : Shared} {K : Frag} {R : Result → Shared → Prop} {name qual : Str} {params : Arguments} {body : List Stmt} {scope : Scope} {dV kV doc pm cdv ct oc : Value} {an od : Option Addr} {osl : Array (Option Value)} {f : Addr} {args : Args} {binds : List (Str × Value)}
    (X : K.In s.heap) (hlim : s.heap.NoLimit) (hroom : A.depth < recursionLimit)
    (ho : K.lookup f = some ⟨oc, od, .func (fnOf name qual params body scope dV kV doc pm an cdv ct), osl⟩) (hcd : codeIn K cdv qual = true)
    (hbind : BindsTo s (fnOf name qual params body scope dV kV doc pm an cdv ct) args binds) (hloc : ∀ y ∈ binds, scope.names.lookup y.1 = some .local)
    (h : ∀ L h₁, Fr s.heap L h₁ (fun y => binds.reverse.lookup y) → News s.heap L h₁ [] →
      wpAny (model prog w) (A.deeper (envOf qual scope L f cdv)) (execs body (envOf qual scope L f cdv))
        (fun fl s' => R (.ok (.ret (match fl with | .ret v => v | _ => .none))) s') (fun _ _ => False)
        { s with heap := h₁, toks := s.toks + binds.length })
    (hco : scope.isCoroutine = false) (hgen : scope.isGenerator = false) (hk : scope.kind = .function)
    (hcell : ∀ x ∈ scope.names, x.2 ≠ .cell) : codeAny (model prog w) A (.call (.ref f) args) R s := by
  refine codeAny_call_def (fd := fnOf name qual params body scope dV kV doc pm an cdv ct) (body := body) (binds := binds) hroom (X _ _ ho) rfl hlim (codeRec_of X hcd) rfl hbind hcell hloc (fun h₁ hns hk₁ => ?_) hco hgen hk
  exact wpAny_mono (h s.heap.objs.size h₁ ⟨hns, hk₁, Nat.le_refl _⟩ News.nil) (fun _ _ x => x) (fun _ _ x => x.elim)
end
section
local macro_rules | `(tactic| walk_at "pad pad") => `(tactic| fail "pad")
local macro_rules | `(tactic| walk_at "pad pad") => `(tactic| fail "pad")
theorem fresh_Cut : True := by w_top off; exact trivial
structure Cut (P : Prop) : Prop where
  get : P
end
section
local macro_rules | `(tactic| walk_at "pad pad") => `(tactic| fail "pad")
local macro_rules | `(tactic| walk_at "pad pad") => `(tactic| fail "pad")
local macro_rules | `(tactic| walk_at "pad pad") => `(tactic| fail "pad")
theorem fresh_R_str : True := by w_top off; exact trivial
open PySem PySem.W PyProof.Rows PySem.MeetsSeq PySem.F PySem.Builtin PySem.Builtin.Str
set_option maxRecDepth 100000
set_option maxHeartbeats 1000000
theorem gives_index_from (x y : Str) (i : Int) (t u v : Tok) (h : 0 ≤ Txt.find3 x y i) : Gives («str.index» ⟨[.str x t, .str y u, .int i v], []⟩) (.int (Txt.find3 x y i)) := by
  show Gives (match occurrences x y (fromIndex x.length i) (min x.length x.length) 1 with | k :: _ => retInt k | [] => (do rule "str.index.not-found"; raiseError "ValueError" "substring not found")) _
  rw [Nat.min_self]
  unfold Txt.find3 at h ⊢
  cases ho : occurrences x y (fromIndex x.length i) x.length 1 with
  | nil => rw [ho] at h; simp at h
  | cons k r => exact .of_eq rfl
section
variable {prog : Program} {w : World} {A : Around} {E : Value → Shared → Prop} {s : Shared} {x y : Str} {t u v : Tok} {i : Int} {Q : Value → Shared → Prop}
theorem index3 (h : 0 ≤ Txt.find3 x y i) (hq : Q (.int (Txt.find3 x y i) s.toks) { s with toks := s.toks + 1 }) : wpAny (model prog w) A (call (.builtin "str.index") [.str x t, .str y u, .int i v]) Q E s :=
  call_gives F.slot_str_index (typeIs_str _ _ _) F.entry_str_index (F.args_str_index_3 _ _ _) (gives_index_from x y i t u v h) hq
theorem index2 (h : 0 ≤ Txt.find x y) (hq : Q (.int (Txt.find x y) s.toks) { s with toks := s.toks + 1 }) : wpAny (model prog w) A (call (.builtin "str.index") [.str x t, .str y u]) Q E s := by
  cases ho : occurrences x y 0 x.length 1 with
  | nil => simp [Txt.find, ho] at h
  | cons i rest =>
    have e : Txt.find x y = (i : Int) := by simp [Txt.find, ho]
    rw [e] at hq
    exact SC.index ho hq
end
/-- the length of the part (between dots) that place k stands in -/
def runLen (l : List Nat) (k : Nat) : Nat := ((l.drop k).takeWhile (· != 46)).length + ((l.take k).reverse.takeWhile (· != 46)).length
theorem tw_lt {p : Nat → Bool} : ∀ {l : List Nat} {j : Nat}, j < (l.takeWhile p).length → ∃ c, l[j]? = some c ∧ p c = true
  | [], j, h => by simp at h
  | a :: r, j, h => by
    by_cases ha : p a
    · simp only [List.takeWhile_cons, ha, if_true] at h
      cases j with
      | zero => exact ⟨a, rfl, ha⟩
      | succ j => exact tw_lt (l := r) (by simpa using h)
    · simp [List.takeWhile_cons, ha] at h
theorem tw_at {p : Nat → Bool} : ∀ (l : List Nat), l[(l.takeWhile p).length]? = none ∨ ∃ c, l[(l.takeWhile p).length]? = some c ∧ p c = false
  | [] => .inl rfl
  | a :: r => by
    by_cases ha : p a
    · simp only [List.takeWhile_cons, ha, if_true, List.length_cons, List.getElem?_cons_succ]
      exact tw_at r
    · exact .inr ⟨a, by simp [List.takeWhile_cons, ha], by simpa using ha⟩
theorem dot_is : Str.ofString "." = ⟨#[46]⟩ := by decide +kernel
theorem tw_len_le (p : Nat → Bool) (l : List Nat) : (l.takeWhile p).length ≤ l.length := (List.takeWhile_sublist p).length_le
theorem getD_iff {x : Str} {v c : Nat} (hv : v < x.length) : x.cps.getD v 0 = c ↔ x.cps.toList[v]? = some c :=
  ⟨StrLaws.getElem?_of_getD hv, StrLaws.getD_of_getElem?⟩
theorem find_dot (x : Str) (k : Nat) (hk : k ≤ x.length) : Txt.find3 (x ++ Str.ofString ".") (Str.ofString ".") (k : Int) = ((k + ((x.cps.toList.drop k).takeWhile (· != 46)).length : Nat) : Int) := by
  rw [dot_is]
  have hlen : (x ++ (⟨#[46]⟩ : Str)).length = x.length + 1 := by rw [Str.length_append]; rfl
  have hcps : (x ++ (⟨#[46]⟩ : Str)).cps.toList = x.cps.toList ++ [46] := by rw [Str.cps_append]; simp
  have hl : x.cps.toList.length = x.length := by simp [Str.length]
  have hfi : fromIndex (x ++ (⟨#[46]⟩ : Str)).length (k : Int) = k := by unfold fromIndex; rw [if_neg (by omega)]; omega
  generalize hn : ((x.cps.toList.drop k).takeWhile (· != 46)).length = n
  have hnle : k + n ≤ x.length := by
    have := tw_len_le (· != 46) (x.cps.toList.drop k)
    rw [hn, List.length_drop] at this; omega
  have hat : (x ++ (⟨#[46]⟩ : Str)).cps.toList[k + n]? = some 46 := by
    rw [hcps]
    rcases Nat.lt_or_ge (k + n) x.length with q | q
    · rw [List.getElem?_append_left (by omega), ← List.getElem?_drop, ← hn]
      rcases tw_at (p := (· != 46)) (x.cps.toList.drop k) with h | ⟨c, h, hc⟩
      · rw [hn, List.getElem?_drop, List.getElem?_eq_none_iff] at h; omega
      · rw [h]; simp at hc; rw [hc]
    · have : k + n = x.cps.toList.length := by omega
      rw [this]; simp
  have hbelow : ∀ v, k ≤ v → v < k + n → (x ++ (⟨#[46]⟩ : Str)).cps.toList[v]? ≠ some 46 := by
    intro v h1 h2 h3
    obtain ⟨c, hc, hp⟩ := tw_lt (p := (· != 46)) (l := x.cps.toList.drop k) (j := v - k) (by omega)
    rw [hcps, List.getElem?_append_left (by omega)] at h3
    rw [List.getElem?_drop, show k + (v - k) = v by omega, h3] at hc
    cases hc; simp at hp
  rcases StrLaws.find3_spec (x ++ (⟨#[46]⟩ : Str)) 46 (k : Int) with ⟨h, hno⟩ | ⟨j, h, hj1, hj2, hj3, hj4⟩
  · rw [hfi] at hno
    exact absurd ((getD_iff (by omega)).mpr hat) (hno (k + n) (by omega) (by omega))
  · rw [hfi] at hj1 hj4
    rw [h]
    have : j = k + n := by
      rcases Nat.lt_trichotomy j (k + n) with q | q | q
      · exact absurd ((getD_iff hj2).mp hj3) (hbelow j hj1 q)
      · exact q
      · exact absurd ((getD_iff (by omega)).mpr hat) (hj4 (k + n) (by omega) q)
    rw [this]
theorem rfind_dot (x : Str) : Txt.rfind x (Str.ofString ".") = (x.length : Int) - ((x.cps.toList.reverse.takeWhile (· != 46)).length : Int) - 1 := by
  rw [dot_is]
  have hl : x.cps.toList.length = x.length := by simp [Str.length]
  generalize hn : (x.cps.toList.reverse.takeWhile (· != 46)).length = n
  have hnle : n ≤ x.length := by
    have := tw_len_le (· != 46) x.cps.toList.reverse
    rw [hn, List.length_reverse] at this; omega
  have habove : ∀ v, x.length < v + 1 + n → v < x.length → x.cps.toList[v]? ≠ some 46 := by
    intro v h1 h2 h3
    obtain ⟨c, hc, hp⟩ := tw_lt (p := (· != 46)) (l := x.cps.toList.reverse) (j := x.length - 1 - v) (by omega)
    rw [List.getElem?_reverse (by omega), hl, show x.length - 1 - (x.length - 1 - v) = v by omega, h3] at hc
    cases hc; simp at hp
  have hat : n < x.length → x.cps.toList[x.length - 1 - n]? = some 46 := by
    intro q
    rcases tw_at (p := (· != 46)) x.cps.toList.reverse with h | ⟨c, h, hc⟩
    · rw [hn, List.getElem?_eq_none_iff, List.length_reverse] at h; omega
    · rw [hn, List.getElem?_reverse (by omega), hl] at h
      rw [h]; simp at hc; rw [hc]
  rcases rfind_whole x ⟨#[46]⟩ with ⟨h, hno⟩ | ⟨i, h, hi, hi2⟩
  · rw [h]
    rcases Nat.lt_or_ge n x.length with q | q
    · exact absurd ((StrLaws.subAt_one x 46 _).mpr (hat q)) (hno _)
    · omega
  · rw [h]
    have hm := (StrLaws.subAt_one x 46 i).mp hi
    have hil : i < x.length := by
      rcases Nat.lt_or_ge i x.length with q | q
      · exact q
      · rw [List.getElem?_eq_none (by omega)] at hm; cases hm
    rcases Nat.lt_or_ge n x.length with q | q
    · have : i = x.length - 1 - n := by
        rcases Nat.lt_trichotomy i (x.length - 1 - n) with r | r | r
        · exact absurd ((StrLaws.subAt_one x 46 _).mpr (hat q)) (hi2 _ r)
        · exact r
        · exact absurd hm (habove i (by omega) hil)
      omega
    · exact absurd hm (habove i (by omega) hil)
theorem slice_to (x : Str) (k : Nat) (hk : k ≤ x.length) : Txt.slice x none (some (k : Int)) = ⟨(x.cps.toList.take k).toArray⟩ := by
  have := StrLaws.sliceText_to (x := x) (j := (k : Int)) (by simp [Str.length] at hk ⊢; omega)
  have e : Txt.slice x none (some (k : Int)) = StrLaws.sliceText x none (some (k : Int)) := rfl
  rw [e]
  simpa using this
theorem run_val {x : Str} {k : Nat} (hk : k ≤ x.length) : Txt.find3 (x ++ Str.ofString ".") (Str.ofString ".") (k : Int) - Txt.rfind (Txt.slice x none (some (k : Int))) (Str.ofString ".") - 1 = (runLen x.cps.toList k : Int) := by
  rw [find_dot x k hk, slice_to x k hk, rfind_dot]
  have hl : x.cps.toList.length = x.length := by simp [Str.length]
  have e : (⟨(x.cps.toList.take k).toArray⟩ : Str).length = k := by simp [Str.length] at hk ⊢; omega
  rw [e]
  unfold runLen
  dsimp only
  omega
end
section
local macro_rules | `(tactic| walk_at "pad pad") => `(tactic| fail "pad")
local macro_rules | `(tactic| walk_at "pad pad") => `(tactic| fail "pad")
local macro_rules | `(tactic| walk_at "pad pad") => `(tactic| fail "pad")
local macro_rules | `(tactic| walk_at "pad pad") => `(tactic| fail "pad")
theorem fresh_R_loop : True := by w_top off; exact trivial
open PySem PySem.W PyProof.Rows PySem.Builtin PySem.Builtin.Str
set_option maxRecDepth 100000
set_option maxHeartbeats 1000000
/-- a halt of the walk -/
def Stop (P : Prop) : Prop := P
theorem stop_intro {P : Prop} (h : Stop P) : P := h
theorem wp_mid {α : Type} {M : Model} {A : Around} {s : Shared} {E : Value → Shared → Prop} {t : Sem α} {Q : α → Shared → Prop} (Mid : α → Shared → Prop)
    (h1 : wpAny M A t Mid (fun _ _ => False) s) (h2 : ∀ a s', Mid a s' → Q a s') : wpAny M A t Q E s := wpAny_mono h1 h2 fun _ _ h => h.elim
/-- the loop is through, in this frame, of these locals and with this ledger -/
def Mid (h₀ : Heap) (L : Addr) (s : Shared) (P : (Str → Option Value) → List (Addr × Obj) → Prop) (f : Flow) (s' : Shared) : Prop :=
  f = .next ∧ ∃ h' tk m news, s' = { s with heap := h', toks := tk } ∧ Fr h₀ L h' m ∧ News h₀ L h' news ∧ P m news
theorem Mid.intro {h₀ h' : Heap} {L : Addr} {s : Shared} {P : (Str → Option Value) → List (Addr × Obj) → Prop} {tk : Nat} {m : Str → Option Value} {news : List (Addr × Obj)}
    (F : Fr h₀ L h' m) (N : News h₀ L h' news) (hP : P m news) : Mid h₀ L s P .next { s with heap := h', toks := tk } := ⟨rfl, h', tk, m, news, rfl, F, N, hP⟩
theorem Fr.kept {h₀ h h' : Heap} {L : Addr} {m : Str → Option Value} (F : Fr h₀ L h m) (k : ∀ b o, h.get? b = some o → h'.get? b = some o) : Fr h₀ L h' m :=
  ⟨F.ns.keeps k, fun b o e => k b o (F.keep b o e), F.above⟩
theorem News.kept {h₀ h h' : Heap} {L : Addr} {news : List (Addr × Obj)} (N : News h₀ L h news) (k : ∀ b o, h.get? b = some o → h'.get? b = some o) : News h₀ L h' news :=
  fun p hp => ⟨k _ _ (N p hp).1, (N p hp).2⟩
section
variable {prog : Program} {w : World} {A : Around} {E : Value → Shared → Prop} {s : Shared} {Q : Value → Shared → Prop}
theorem item_at {value slice : Expr} {x : Str} {t u : Tok} {k c : Nat} (hx : x.cps.toList[k]? = some c) (hl : x.length ≤ 2 ^ 60)
    (h : Q (.str ⟨#[c]⟩ s.toks) { s with toks := s.toks + 1 })
    (hs : subscripted slice false (.str x t) (.int (k : Int) u) = operate [.str x t, .int (k : Int) u] (getItem (.str x t) (.int (k : Int) u)))
    (ht : ∀ r, letTemporaryGo value (.str x t) r = pure ()) :
    wpAny (model prog w) A (subscriptTail value slice (.str x t) (.int (k : Int) u)) Q E s := by
  have hk : k < x.length := by
    rcases Nat.lt_or_ge k x.length with q | q
    · exact q
    · rw [List.getElem?_eq_none (by simpa [Str.length] using q)] at hx; cases hx
  refine item_str (by unfold fitsSsize; simp; omega) (by omega) (by omega) (fun _ => ?_) hs ht
  rw [item_meets (n := c) (by omega) (by simpa using hx)]
  exact h
end
end
section
local macro_rules | `(tactic| walk_at "pad pad") => `(tactic| fail "pad")
local macro_rules | `(tactic| walk_at "pad pad") => `(tactic| fail "pad")
local macro_rules | `(tactic| walk_at "pad pad") => `(tactic| fail "pad")
local macro_rules | `(tactic| walk_at "pad pad") => `(tactic| fail "pad")
local macro_rules | `(tactic| walk_at "pad pad") => `(tactic| fail "pad")
theorem fresh_P_ord : True := by w_top off; exact trivial
open PySem PySem.W PyProof.Rows PySem.Builtin PySem.Builtin.Str
set_option maxRecDepth 100000
set_option maxHeartbeats 1000000
/-- how many signs two texts have alike at the head -/
def lcp : List Nat → List Nat → Nat
  | a :: r, b :: t => if a = b then lcp r t + 1 else 0
  | _, _ => 0
theorem lcp_of : ∀ {la lb : List Nat} {k : Nat}, k ≤ la.length → k ≤ lb.length → la.take k = lb.take k → (k = la.length ∨ k = lb.length ∨ la[k]? ≠ lb[k]?) → lcp la lb = k
  | [], lb, k, h1, _, _, _ => by have : k = 0 := by simpa using h1
                                 subst this; cases lb <;> rfl
  | a :: r, [], k, _, h2, _, _ => by have : k = 0 := by simpa using h2
                                     subst this; rfl
  | a :: r, b :: t, 0, _, _, _, h => by
    have : a ≠ b := by
      intro e
      rcases h with h | h | h
      · simp at h
      · simp at h
      · exact h (by simp [e])
    simp [lcp, this]
  | a :: r, b :: t, k + 1, h1, h2, h3, h => by
    simp only [List.take_succ_cons, List.cons.injEq] at h3
    simp only [lcp, h3.1, if_true]
    rw [lcp_of (la := r) (lb := t) (k := k) (by simpa using h1) (by simpa using h2) h3.2 (by simpa using h)]
/-- the sign at a place, a blank at the end -/
abbrev sgnAt (l : List Nat) (k : Nat) : Nat := l.getD k 32
def SignOk (c : Nat) : Prop := c = 32 ∨ c = 46 ∨ (48 ≤ c ∧ c ≤ 57)
/-- a text of figures and dots -/
def VerText (l : List Nat) : Prop := ∀ c ∈ l, c = 46 ∨ (48 ≤ c ∧ c ≤ 57)
theorem VerText.at {l : List Nat} (h : VerText l) (k : Nat) : SignOk (sgnAt l k) := by
  unfold sgnAt
  rcases Nat.lt_or_ge k l.length with q | q
  · have e : l.getD k 32 = l[k] := by simp [List.getD, q]
    rw [e]; exact .inr (h _ (List.getElem_mem q))
  · have e : l.getD k 32 = 32 := by simp [List.getD, q]
    rw [e]; exact .inl rfl
def signIx (c : Nat) : Int := if c = 32 then 0 else if c = 46 then 1 else (c : Int) - 46
theorem sign_find {c : Nat} (h : SignOk c) : Txt.find (Str.ofString " .0123456789") ⟨#[c]⟩ = signIx c := by
  rcases h with rfl | rfl | ⟨h1, h2⟩
  · decide +kernel
  · decide +kernel
  · have : c = 48 ∨ c = 49 ∨ c = 50 ∨ c = 51 ∨ c = 52 ∨ c = 53 ∨ c = 54 ∨ c = 55 ∨ c = 56 ∨ c = 57 := by omega
    rcases this with rfl | rfl | rfl | rfl | rfl | rfl | rfl | rfl | rfl | rfl <;> decide +kernel
theorem sign_nonneg {c : Nat} (h : SignOk c) : 0 ≤ Txt.find (Str.ofString " .0123456789") ⟨#[c]⟩ := by
  rw [sign_find h]; unfold signIx; rcases h with rfl | rfl | ⟨h1, h2⟩
  · simp
  · simp
  · rw [if_neg (by omega), if_neg (by omega)]; omega
theorem sign_lt {c d : Nat} (hc : SignOk c) (hd : SignOk d) : Txt.find (Str.ofString " .0123456789") ⟨#[c]⟩ < Txt.find (Str.ofString " .0123456789") ⟨#[d]⟩ ↔ c < d := by
  rw [sign_find hc, sign_find hd]
  unfold signIx
  rcases hc with rfl | rfl | ⟨h1, h2⟩ <;> rcases hd with rfl | rfl | ⟨h3, h4⟩ <;> (try simp) <;> (repeat' split) <;> omega
theorem glue_at {x : Str} {k : Nat} (hk : k ≤ x.length) : (x ++ Str.ofString " ").cps.toList[k]? = some (sgnAt x.cps.toList k) := by
  have e : (x ++ Str.ofString " ").cps.toList = x.cps.toList ++ [32] := by
    rw [Str.cps_append, show (Str.ofString " ").cps = #[32] by decide +kernel]; simp
  have hl : x.cps.toList.length = x.length := by simp [Str.length]
  rw [e]
  unfold sgnAt
  rcases Nat.lt_or_ge k x.length with q | q
  · rw [List.getElem?_append_left (by omega)]
    simp [List.getD, show k < x.cps.size by simpa [Str.length] using q]
  · have : k = x.cps.toList.length := by omega
    subst this
    simp [List.getD]
/-- what the law tells of two plain writings -/
def ordP (la lb : List Nat) : Int := if sgnAt lb (lcp la lb) < sgnAt la (lcp la lb) then 1 else if sgnAt la (lcp la lb) < sgnAt lb (lcp la lb) then -1 else 0
/-- what it tells of the readings -/
def ordW (la lb : List Nat) : Int := if runLen lb (lcp la lb) < runLen la (lcp la lb) then 1 else if runLen la (lcp la lb) < runLen lb (lcp la lb) then -1 else ordP la lb
structure OrdInv (a b : Str) (k : Nat) : Prop where
  la : k ≤ a.length
  lb : k ≤ b.length
  eq : a.cps.toList.take k = b.cps.toList.take k
structure OrdEnd (a b : Str) (k : Nat) : Prop extends OrdInv a b k where
  stop : k = a.length ∨ k = b.length ∨ a.cps.toList[k]? ≠ b.cps.toList[k]?
theorem OrdEnd.lcp {a b : Str} {k : Nat} (h : OrdEnd a b k) : lcp a.cps.toList b.cps.toList = k :=
  lcp_of (by simpa [Str.length] using h.la) (by simpa [Str.length] using h.lb) h.eq (by simpa [Str.length] using h.stop)
theorem item_nat {x : Str} {k : Nat} (hk : k < x.length) : Txt.item x (k : Int) = ⟨#[x.cps.toList[k]'(by simpa [Str.length] using hk)]⟩ :=
  item_meets (by omega) (by simp [show k < x.cps.size by simpa [Str.length] using hk])
theorem OrdInv.next {a b : Str} {k : Nat} (h : OrdInv a b k) (h1 : (k : Int) < (a.length : Int)) (h2 : (k : Int) < (b.length : Int)) (he : (Txt.item a (k : Int) == Txt.item b (k : Int)) = true) : OrdInv a b (k + 1) := by
  have q1 : k < a.length := by omega
  have q2 : k < b.length := by omega
  rw [item_nat q1, item_nat q2] at he
  refine ⟨by omega, by omega, ?_⟩
  have : a.cps.toList[k]'(by simpa [Str.length] using q1) = b.cps.toList[k]'(by simpa [Str.length] using q2) := by
    have := eq_of_beq he
    simpa using this
  rw [List.take_add_one, List.take_add_one, h.eq, List.getElem?_eq_getElem (by simpa [Str.length] using q1), List.getElem?_eq_getElem (by simpa [Str.length] using q2), this]
theorem OrdInv.stop1 {a b : Str} {k : Nat} (h : OrdInv a b k) (h1 : (k : Int) < (a.length : Int)) (h2 : (k : Int) < (b.length : Int)) (he : (Txt.item a (k : Int) == Txt.item b (k : Int)) = false) : OrdEnd a b k := by
  have q1 : k < a.length := by omega
  have q2 : k < b.length := by omega
  rw [item_nat q1, item_nat q2] at he
  refine ⟨h, .inr (.inr fun e => ?_)⟩
  rw [List.getElem?_eq_getElem (by simpa [Str.length] using q1), List.getElem?_eq_getElem (by simpa [Str.length] using q2)] at e
  have e' := Option.some.inj e
  rw [e'] at he
  simp at he
theorem put_put {x : Str} {u v : Option Value} {m : Str → Option Value} : (fun y => if y = x then u else if y = x then v else m y) = fun y => if y = x then u else m y := by
  funext y; split <;> rfl
end
section
local macro_rules | `(tactic| walk_at "pad pad") => `(tactic| fail "pad")
local macro_rules | `(tactic| walk_at "pad pad") => `(tactic| fail "pad")
local macro_rules | `(tactic| walk_at "pad pad") => `(tactic| fail "pad")
local macro_rules | `(tactic| walk_at "pad pad") => `(tactic| fail "pad")
local macro_rules | `(tactic| walk_at "pad pad") => `(tactic| fail "pad")
local macro_rules | `(tactic| walk_at "pad pad") => `(tactic| fail "pad")
theorem fresh_P_strip : True := by w_top off; exact trivial
open PySem PySem.W PyProof.Rows PySem.Builtin PySem.Builtin.Str
set_option maxRecDepth 100000
set_option maxHeartbeats 1000000
theorem look1 {y k : Str} {v : Value} {r : List (Str × Value)} : List.lookup y ((k, v) :: r) = if y = k then some v else List.lookup y r := by
  rw [List.lookup_cons]; by_cases h : y = k
  · simp [h]
  · have : (y == k) = false := by simpa using h
    simp [h, this]
theorem put_swap {x z : Str} {u v : Option Value} {m : Str → Option Value} (h : x ≠ z) : (fun y => if y = x then u else if y = z then v else m y) = fun y => if y = z then v else if y = x then u else m y := by
  funext y; by_cases h1 : y = x
  · subst h1; simp [h]
  · simp [h1]
theorem put2_put2 {x z : Str} {u v u' v' : Option Value} {m : Str → Option Value} : (fun y => if y = x then u else if y = z then v else if y = x then u' else if y = z then v' else m y) = fun y => if y = x then u else if y = z then v else m y := by
  funext y; by_cases h1 : y = x <;> by_cases h2 : y = z <;> simp only [h1, h2, if_true, if_false]
/-- blanks, then the part, then two blanks -/
def fieldOf (b : Nat) (p : List Nat) : List Nat := List.replicate b 32 ++ p ++ [32, 32]
def stM (x : Str) (t1 : Tok) (am k : Nat) (t3 t4 : Tok) : Str → Option Value := fun y => if y = Str.ofString "amount" then some (.int (am : Int) t3) else if y = Str.ofString "lpos" then some (.int (k : Int) t4) else List.lookup y [(Str.ofString "s", .str x t1)]
theorem stM_init {x : Str} {t1 t2 t : Tok} {n : Nat} : (fun y => if y = Str.ofString "lpos" then some (.int 0 t) else List.lookup y [(Str.ofString "s", .str x t1), (Str.ofString "amount", .int (n : Int) t2)].reverse) = stM x t1 n 0 t2 t := by
  unfold stM
  rw [put_swap (by decide)]
  funext y
  show (if y = Str.ofString "lpos" then some (Value.int 0 t) else List.lookup y [(Str.ofString "amount", .int (n : Int) t2), (Str.ofString "s", .str x t1)]) = _
  rw [look1]; rfl
theorem stM_next {x : Str} {t1 t3 t4 t5 t6 : Tok} {am k : Nat} {a b : Int} (h1 : a = ((am - 1 : Nat) : Int)) (h2 : b = ((k + 1 : Nat) : Int)) : (fun y => if y = Str.ofString "amount" then some (.int a t5) else if y = Str.ofString "lpos" then some (.int b t6) else if y = Str.ofString "amount" then some (.int (am : Int) t3) else if y = Str.ofString "lpos" then some (.int (k : Int) t4) else List.lookup y [(Str.ofString "s", .str x t1)]) = stM x t1 (am - 1) (k + 1) t5 t6 := by
  unfold stM; rw [put2_put2, h1, h2]
def stR (x : Str) (t1 : Tok) (am j k : Nat) (t3 t4 t5 : Tok) : Str → Option Value := fun y => if y = Str.ofString "amount" then some (.int (am : Int) t3) else if y = Str.ofString "rpos" then some (.int ((x.length : Int) - 1 - (j : Int)) t4) else if y = Str.ofString "lpos" then some (.int (k : Int) t5) else List.lookup y [(Str.ofString "s", .str x t1)]
theorem stR_init {x : Str} {t1 t3 t4 t5 : Tok} {am k : Nat} {b : Int} (h : b = (x.length : Int) - 1) : (fun y => if y = Str.ofString "rpos" then some (.int b t4) else if y = Str.ofString "amount" then some (.int (am : Int) t3) else if y = Str.ofString "lpos" then some (.int (k : Int) t5) else List.lookup y [(Str.ofString "s", .str x t1)]) = stR x t1 am 0 k t3 t4 t5 := by
  unfold stR; rw [put_swap (by decide), h]; simp
theorem stR_next {x : Str} {t1 t3 t4 t5 t6 t7 : Tok} {am j k : Nat} {a b : Int} (h1 : a = ((am - 1 : Nat) : Int)) (h2 : b = (x.length : Int) - 1 - ((j + 1 : Nat) : Int)) : (fun y => if y = Str.ofString "amount" then some (.int a t6) else if y = Str.ofString "rpos" then some (.int b t7) else if y = Str.ofString "amount" then some (.int (am : Int) t3) else if y = Str.ofString "rpos" then some (.int ((x.length : Int) - 1 - (j : Int)) t4) else if y = Str.ofString "lpos" then some (.int (k : Int) t5) else List.lookup y [(Str.ofString "s", .str x t1)]) = stR x t1 (am - 1) (j + 1) k t6 t7 t5 := by
  unfold stR; rw [put2_put2, h1, h2]
section
variable {x : Str} {b : Nat} {p : List Nat}
structure FieldIs (x : Str) (b : Nat) (p : List Nat) : Prop where
  is : x.cps.toList = fieldOf b p
  ne : p ≠ []
  no : ∀ c ∈ p, c ≠ 32
theorem FieldIs.len (h : FieldIs x b p) : x.length = b + p.length + 2 := by
  have : x.cps.toList.length = x.length := by simp [Str.length]
  rw [← this, h.is]; simp [fieldOf]; omega
theorem FieldIs.blank (h : FieldIs x b p) {k : Nat} (hk : k < b) : x.cps.toList[k]? = some 32 := by
  rw [h.is]; unfold fieldOf
  rw [List.append_assoc, List.getElem?_append_left (by simpa using hk)]
  simp [hk]
theorem FieldIs.mid (h : FieldIs x b p) {k : Nat} (h1 : b ≤ k) (h2 : k < b + p.length) : ∃ c, x.cps.toList[k]? = some c ∧ c ≠ 32 := by
  have hq : k - b < p.length := by omega
  refine ⟨p[k - b], ?_, h.no _ (List.getElem_mem hq)⟩
  rw [h.is]; unfold fieldOf
  rw [List.append_assoc, List.getElem?_append_right (by simpa using h1), List.getElem?_append_left (by simpa using hq)]
  simp [hq]
theorem FieldIs.tail (h : FieldIs x b p) {k : Nat} (h1 : b + p.length ≤ k) (h2 : k < b + p.length + 2) : x.cps.toList[k]? = some 32 := by
  rw [h.is]; unfold fieldOf
  rw [List.getElem?_append_right (by simp; omega)]
  have : k - (List.replicate b 32 ++ p).length = 0 ∨ k - (List.replicate b 32 ++ p).length = 1 := by simp; omega
  rcases this with e | e <;> rw [e] <;> rfl
/-- what is left of the field -/
def stripped (b : Nat) (p : List Nat) (n : Nat) : List Nat := List.replicate (b - n) 32 ++ p ++ List.replicate (min 2 (b + 2 - n)) 32
theorem sp_is : Str.ofString " " = ⟨#[32]⟩ := by decide +kernel
theorem item_eq {c : Nat} {k : Nat} (h : x.cps.toList[k]? = some c) : (Txt.item x (k : Int) == Str.ofString " ") = decide (c = 32) := by
  have hk : x.cps[((k : Nat) : Int).toNat]? = some c := by simpa using h
  rw [item_meets (n := c) (by omega) hk, sp_is]
  by_cases e : c = 32
  · simp [e]
  · have : ((⟨#[c]⟩ : Str) == ⟨#[32]⟩) = false := by
      apply beq_false_of_ne; intro h; apply e; simpa using h
    simp [e, this]
theorem slice_mid {i j : Nat} (h1 : i ≤ j) (h2 : j ≤ x.length) : Txt.slice x (some (i : Int)) (some (j : Int)) = ⟨((x.cps.toList.drop i).take (j - i)).toArray⟩ := by
  have := StrLaws.sliceText_plain (x := x) (i := (i : Int)) (j := (j : Int)) (by simp [Str.length] at h2 ⊢; omega)
  have e : Txt.slice x (some (i : Int)) (some (j : Int)) = StrLaws.sliceText x (some (i : Int)) (some (j : Int)) := rfl
  rw [e, this]
  simp
theorem FieldIs.cut (h : FieldIs x b p) {n i j : Nat} (hi : i = min n b) (hj : j = min 2 (n - i)) : Txt.slice x (some (i : Int)) (some (((x.length - j : Nat)) : Int)) = ⟨(stripped b p n).toArray⟩ := by
  have hl := h.len
  have hp : 0 < p.length := List.length_pos_iff.mpr h.ne
  rw [slice_mid (by omega) (by omega), h.is]
  congr 2
  unfold fieldOf stripped
  rw [hl]
  have e1 : (List.replicate b 32 ++ p ++ [32, 32]).drop i = List.replicate (b - i) 32 ++ p ++ [32, 32] := by
    rw [List.append_assoc, List.drop_append_of_le_length (by simp; omega)]; simp
  rw [e1, List.take_append, List.take_of_length_le (by simp; omega)]
  have e2 : b - i = b - n := by omega
  rw [e2]
  congr 1
  have e3 : b + p.length + 2 - j - i - (List.replicate (b - n) 32 ++ p).length = min 2 (b + 2 - n) := by simp; omega
  rw [e3]
  have : min 2 (b + 2 - n) = 0 ∨ min 2 (b + 2 - n) = 1 ∨ min 2 (b + 2 - n) = 2 := by omega
  rcases this with e | e | e <;> rw [e] <;> rfl
end
end
section
local macro_rules | `(tactic| walk_at "pad pad") => `(tactic| fail "pad")
local macro_rules | `(tactic| walk_at "pad pad") => `(tactic| fail "pad")
local macro_rules | `(tactic| walk_at "pad pad") => `(tactic| fail "pad")
local macro_rules | `(tactic| walk_at "pad pad") => `(tactic| fail "pad")
local macro_rules | `(tactic| walk_at "pad pad") => `(tactic| fail "pad")
local macro_rules | `(tactic| walk_at "pad pad") => `(tactic| fail "pad")
local macro_rules | `(tactic| walk_at "pad pad") => `(tactic| fail "pad")
theorem fresh_R_for : True := by w_top off; exact trivial
open PySem PySem.W PyProof.Rows
set_option maxRecDepth 100000
set_option maxHeartbeats 1000000
/-- made by the call: it was not there before -/
def NewObj (h h' : Heap) (a : Addr) (o : Obj) : Prop := h'.get? a = some o ∧ h.get? a = none
theorem NewObj.of {h₀ h : Heap} {L a : Addr} {o : Obj} {news : List (Addr × Obj)} (N : News h₀ L h news) (hm : (a, o) ∈ news) : NewObj h₀ h a o := ⟨(N _ hm).1, (N _ hm).2.2⟩
theorem NewObj.ne {h h' : Heap} {a b : Addr} {o o' : Obj} (n : NewObj h h' a o) (e : h.get? b = some o') : a ≠ b := by
  rintro rfl; rw [n.2] at e; cases e
theorem News.add {h₀ h h' : Heap} {L a : Addr} {o : Obj} {m : Str → Option Value} {news : List (Addr × Obj)} (F : Fr h₀ L h m) (n : NewObj h h' a o) (N : News h₀ L h' news) : News h₀ L h' ((a, o) :: news) := by
  intro p hp
  rcases List.mem_cons.mp hp with rfl | hp
  · obtain ⟨oL, _, _, hoL, _⟩ := F.ns
    refine ⟨n.1, n.ne hoL, ?_⟩
    cases e : h₀.get? a with
    | none => rfl
    | some o' => have := F.keep _ _ e; rw [n.2] at this; cases this
  · exact N p hp
theorem Fr.keptBut {h₀ h h' : Heap} {L it : Addr} {m : Str → Option Value} (F : Fr h₀ L h m) (k : ∀ b o, b ≠ it → h.get? b = some o → h'.get? b = some o) (hL : it ≠ L) (h0 : h₀.get? it = none) : Fr h₀ L h' m :=
  ⟨F.ns.extBut (fun b o hb e => k b o hb e) hL.symm, fun b o e => k b o (fun q => by subst q; rw [h0] at e; cases e) (F.keep b o e), F.above⟩
theorem NewObj.notL {h₀ h h' : Heap} {L a : Addr} {o : Obj} {m : Str → Option Value} (F : Fr h₀ L h m) (n : NewObj h h' a o) : a ≠ L ∧ h₀.get? a = none :=
  have z := News.add F n (News.nil (L := L)) _ (.head _)
  ⟨z.2.1, z.2.2⟩
theorem ext3 {m : Str → Option Value} {a b c : Str} {v1 v2 v3 : Option Value} (h1 : m a = v1) (h2 : m b = v2) (h3 : m c = v3) : m = fun y => if y = a then v1 else if y = b then v2 else if y = c then v3 else m y := by
  funext y
  by_cases e1 : y = a
  · simp [e1, h1]
  by_cases e2 : y = b
  · simp only [e1, if_false]; simp [e2, h2]
  by_cases e3 : y = c
  · simp only [e1, e2, if_false]; simp [e3, h3]
  · simp only [e1, e2, e3, if_false]
/-- a turn is through: the ledger `news'` beside what is `own` to the loop -/
def TurnEnd (h₀ : Heap) (L : Addr) (s : Shared) (own : List (Addr × Obj)) (J : (Str → Option Value) → List (Addr × Obj) → Prop) (f : Flow) (s' : Shared) : Prop :=
  f = .next ∧ ∃ h' tk m news, s' = { s with heap := h', toks := tk } ∧ Fr h₀ L h' m ∧ News h₀ L h' (own ++ news) ∧ J m news
theorem TurnEnd.intro {h₀ h' : Heap} {L : Addr} {s : Shared} {own : List (Addr × Obj)} {J : (Str → Option Value) → List (Addr × Obj) → Prop} {tk : Nat} {m : Str → Option Value} {news all : List (Addr × Obj)}
    (F : Fr h₀ L h' m) (N : News h₀ L h' all) (hs : ∀ p ∈ own ++ news, p ∈ all) (hJ : J m news) : TurnEnd h₀ L s own J .next { s with heap := h', toks := tk } := ⟨rfl, h', tk, m, news, rfl, F, fun p hp => N p (hs p hp), hJ⟩
section
variable {prog : Program} {w : World} {A : Around} {s : Shared} {env : Env} {h₀ : Heap} {x : Str} {pos : Pos} {body : List Stmt} {R : Result → Shared → Prop} {m : Str → Option Value} {news : List (Addr × Obj)}
theorem loop_core {it : Addr} {n : Nat} {o₀ : Obj} (Io : Nat → Obj → Prop) (V : Nat → Value → Prop) (J : Nat → (Str → Option Value) → List (Addr × Obj) → Prop)
    (hx : env.kindOf x = some .local) (hp : (env.scope.kind == .class || (env.scope.kind == .module && env.locals != env.globals)) = false)
    (F : Fr h₀ env.locals s.heap m) (h0 : Io 0 o₀) (N : News h₀ env.locals s.heap ((it, o₀) :: news)) (hj : J 0 m news)
    (hne : ∀ i m news, J i m news → ∀ p ∈ news, p.1 ≠ it)
    (next : ∀ i (s' : Shared) m₁ news₁ o, i < n → Io i o → Fr h₀ env.locals s'.heap m₁ → News h₀ env.locals s'.heap ((it, o) :: news₁) → J i m₁ news₁ → ∀ Q : Option Value → Shared → Prop,
      (∀ h' tk v o', V i v → Io (i + 1) o' → h'.get? it = some o' → Heap.SameBut it s'.heap h' → Q (some v) { s' with heap := h', toks := tk }) → wpAny (model prog w) A (pyNext (.ref it)) Q (fun _ _ => False) s')
    (fin : ∀ (s' : Shared) m₁ news₁ o, Io n o → Fr h₀ env.locals s'.heap m₁ → News h₀ env.locals s'.heap ((it, o) :: news₁) → J n m₁ news₁ → ∀ Q : Option Value → Shared → Prop,
      (∀ h' tk, Heap.ExtBut it s'.heap h' → Q none { s' with heap := h', toks := tk }) → wpAny (model prog w) A (pyNext (.ref it)) Q (fun _ _ => False) s')
    (turn : ∀ i v m₁ news₁ h tk o, i < n → V i v → J i m₁ news₁ → Fr h₀ env.locals h (fun y => if y = x then some v else m₁ y) → News h₀ env.locals h ((it, o) :: news₁) →
      wpAny (model prog w) A (execs body env) (TurnEnd h₀ env.locals s [(it, o)] (J (i + 1))) (fun _ _ => False) { s with heap := h, toks := tk })
    (done : ∀ m₁ news₁ h tk, J n m₁ news₁ → Fr h₀ env.locals h m₁ → News h₀ env.locals h news₁ → R (.ok .next) { s with heap := h, toks := tk }) :
    codeAny (model prog w) A (.forLoop (.Name x pos) (.ref it) body [] env) R s := by
  refine codeAny_forLoop (fun k s' => ∃ i h tk m₁ news₁ o, s' = { s with heap := h, toks := tk } ∧ Io i o ∧ Fr h₀ env.locals h m₁ ∧ News h₀ env.locals h ((it, o) :: news₁) ∧ J i m₁ news₁ ∧ i ≤ n ∧ k = n - i) ?_ n
    ⟨0, s.heap, s.toks, m, news, o₀, rfl, h0, F, N, hj, Nat.zero_le _, rfl⟩
  rintro k s' ⟨i, h, tk, m₁, news₁, o, rfl, I₁, F₁, N₁, J₁, hi, rfl⟩
  have zit := N₁ _ (.head _)
  have off := hne i m₁ news₁ J₁
  rcases Nat.lt_or_ge i n with q | q
  · refine wpAny_mono (next i _ m₁ news₁ o q I₁ F₁ N₁ J₁ _ ?_) (fun _ _ y => y) (fun _ _ y => y.elim)
    intro h' tk' v o' hv hio hit hsb
    have F₂ : Fr h₀ env.locals h' m₁ := F₁.change hsb zit.2.1 zit.2.2
    have N₂ : News h₀ env.locals h' ((it, o') :: news₁) := by
      intro p hp
      rcases List.mem_cons.mp hp with rfl | hp
      · exact ⟨hit, zit.2⟩
      · have z := N₁ p (.tail _ hp)
        exact ⟨(hsb.2 p.1 (off p hp)).trans z.1, z.2⟩
    refine wpAny_assign_Name (wpAny_storeName_local hx F₂.ns (fun h₃ hn hs => ?_) hp)
    refine wpAny_mono (turn i v m₁ news₁ h₃ _ o' q hv J₁ (F₂.set hn hs) (N₂.set hs)) ?_ (fun _ _ y => y.elim)
    rintro f s₃ ⟨rfl, h₄, tk₄, m₄, news₄, rfl, F₄, N₄, J₄⟩
    exact ⟨n - (i + 1), by omega, i + 1, h₄, tk₄, m₄, news₄, o', rfl, hio, F₄, N₄, J₄, q, rfl⟩
  · obtain rfl : i = n := by omega
    refine wpAny_mono (fin _ m₁ news₁ o I₁ F₁ N₁ J₁ _ ?_) (fun _ _ y => y) (fun _ _ y => y.elim)
    intro h' tk' hext
    refine wpAny_execs_nil (done m₁ news₁ h' tk' J₁ ?_ ?_)
    · exact ⟨F₁.ns.extBut hext zit.2.1.symm, fun b o e => hext b o (fun e' => by subst e'; rw [zit.2.2] at e; cases e) (F₁.keep b o e), F₁.above⟩
    · intro p hp
      have z := N₁ p (.tail _ hp)
      exact ⟨hext _ _ (off p hp) z.1, z.2⟩
theorem range_small {n : Nat} (h : n ≤ 1000000) : Builtin.Range.small 0 (n : Int) 1 = true := by
  unfold Builtin.Range.small Builtin.Range.rangeFitsLong Builtin.Range.rangeSize
  rcases Nat.eq_zero_or_pos n with q | q
  · subst q; decide
  · have h1 : (0 : Int) < (n : Int) := by omega
    simp [h1]; omega
theorem range_size (n : Nat) : Builtin.Range.rangeSize 0 (n : Int) 1 = (n : Int) := by
  unfold Builtin.Range.rangeSize
  rcases Nat.eq_zero_or_pos n with q | q
  · subst q; decide
  · have h1 : (0 : Int) < (n : Int) := by omega
    simp [h1]; try omega
variable {E : Value → Shared → Prop}
theorem for_range {r : Addr} {n : Nat} {t u v : Tok} (J : Nat → (Str → Option Value) → List (Addr × Obj) → Prop)
    (hh : A.handled = none) (hn : n ≤ 1000000)
    (hx : env.kindOf x = some .local) (hp : (env.scope.kind == .class || (env.scope.kind == .module && env.locals != env.globals)) = false)
    (hr : IsRange s.heap r 0 (n : Int) 1 t u v) (F : Fr h₀ env.locals s.heap m) (N : News h₀ env.locals s.heap news) (hj : J 0 m news)
    (hne : ∀ it, (∀ a o, s.heap.get? a = some o → a < it) → ∀ i m news, J i m news → ∀ p ∈ news, p.1 ≠ it)
    (turn : ∀ it, (∀ a o, s.heap.get? a = some o → a < it) → ∀ i t m₁ news₁ h tk o, i < n → J i m₁ news₁ → Fr h₀ env.locals h (fun y => if y = x then some (.int (i : Int) t) else m₁ y) → News h₀ env.locals h ((it, o) :: news₁) →
      wpAny (model prog w) A (execs body env) (TurnEnd h₀ env.locals s [(it, o)] (J (i + 1))) (fun _ _ => False) { s with heap := h, toks := tk })
    (done : ∀ m₁ news₁ h tk, J n m₁ news₁ → Fr h₀ env.locals h m₁ → News h₀ env.locals h news₁ → R (.ok .next) { s with heap := h, toks := tk }) :
    wpAny (model prog w) A (pyIter (.ref r)) (fun it s₂ => codeAny (model prog w) A (.forLoop (.Name x pos) it body [] env) R s₂) E s := by
  refine wpAny_pyIter_range hr (range_small hn) ?_
  rw [range_size]
  have hlt : ∀ a o, s.heap.get? a = some o → a < s.heap.objs.size := fun a o e => Heap.lt_size e
  refine loop_core (s := { s with heap := _ }) (n := n) (fun i o => o = { cls := .type "range_iterator", data := .fields #[rawInt (i : Int), rawInt ((n : Int) - (i : Int)), rawInt 1] }) (fun i v => ∃ t, v = .int (i : Int) t) J hx hp
    (F.push _) (o₀ := { cls := .type "range_iterator", data := .fields #[rawInt 0, rawInt (n : Int), rawInt 1] }) (by simp) (N.push F _) hj (hne _ hlt) ?_ ?_ ?_ done
  · rintro i s' m₁ news₁ o hi rfl F₁ N₁ J₁ Q hQ
    refine wpAny_pyNext_range_item (x := (i : Int)) (left := (n : Int) - (i : Int)) (step := 1) (N₁ _ (.head _)).1 (by omega) ?_
    intro h' hit hsb
    refine hQ h' _ _ _ ⟨_, rfl⟩ ?_ hit hsb
    have e1 : (i : Int) + 1 = ((i + 1 : Nat) : Int) := by omega
    have e2 : (n : Int) - (i : Int) - 1 = (n : Int) - ((i + 1 : Nat) : Int) := by omega
    rw [e1, e2]
  · rintro s' m₁ news₁ o rfl F₁ N₁ J₁ Q hQ
    refine wpAny_pyNext_range_end (x := (n : Int)) (left := (n : Int) - (n : Int)) (step := 1) hh (N₁ _ (.head _)).1 (by omega) ?_
    intro h' hext
    exact hQ h' _ hext
  · rintro i v m₁ news₁ h tk o hi ⟨t, rfl⟩ J₁ F₁ N₁
    exact turn _ hlt i t m₁ news₁ h tk o hi J₁ F₁ N₁
theorem for_list {l : Addr} {vs : List Value} (J : Nat → (Str → Option Value) → List (Addr × Obj) → Prop)
    (hh : A.handled = none)
    (hx : env.kindOf x = some .local) (hp : (env.scope.kind == .class || (env.scope.kind == .module && env.locals != env.globals)) = false)
    (F : Fr h₀ env.locals s.heap m) (N : News h₀ env.locals s.heap news) (hj : J 0 m news)
    (hl : ∀ i m₁ news₁ h, J i m₁ news₁ → Fr h₀ env.locals h m₁ → News h₀ env.locals h news₁ → h.IsList l vs.toArray)
    (hne : ∀ it, (∀ a o, s.heap.get? a = some o → a < it) → ∀ i m news, J i m news → ∀ p ∈ news, p.1 ≠ it)
    (turn : ∀ it, (∀ a o, s.heap.get? a = some o → a < it) → ∀ i v m₁ news₁ h tk o, i < vs.length → vs[i]? = some v → J i m₁ news₁ → Fr h₀ env.locals h (fun y => if y = x then some v else m₁ y) → News h₀ env.locals h ((it, o) :: news₁) →
      wpAny (model prog w) A (execs body env) (TurnEnd h₀ env.locals s [(it, o)] (J (i + 1))) (fun _ _ => False) { s with heap := h, toks := tk })
    (done : ∀ m₁ news₁ h tk, J vs.length m₁ news₁ → Fr h₀ env.locals h m₁ → News h₀ env.locals h news₁ → R (.ok .next) { s with heap := h, toks := tk }) :
    wpAny (model prog w) A (pyIter (.ref l)) (fun it s₂ => codeAny (model prog w) A (.forLoop (.Name x pos) it body [] env) R s₂) E s := by
  refine wpAny_pyIter_list (hl 0 m news s.heap hj F N) ?_
  have hlt : ∀ a o, s.heap.get? a = some o → a < s.heap.objs.size := fun a o e => Heap.lt_size e
  have sub : ∀ {h : Heap} {o : Obj} {it : Addr} {ns : List (Addr × Obj)}, News h₀ env.locals h ((it, o) :: ns) → News h₀ env.locals h ns := fun N p hp => N p (.tail _ hp)
  refine loop_core (s := { s with heap := _ }) (n := vs.length) (fun i o => o.cls = .type "list_iterator" ∧ o.data = .fields #[.ref l, .int (i : Int) 0]) (fun i v => vs[i]? = some v) J hx hp
    (F.push _) (o₀ := { cls := .type "list_iterator", data := .fields #[.ref l, .int 0 0] }) ⟨rfl, rfl⟩ (N.push F _) hj (hne _ hlt) ?_ ?_ ?_ done
  · rintro i s' m₁ news₁ o hi ⟨c1, c2⟩ F₁ N₁ J₁ Q hQ
    obtain ⟨v, hv⟩ : ∃ v, vs[i]? = some v := ⟨vs[i], by simp [hi]⟩
    refine wpAny_pyNext_list_item (i := i) (l := l) ⟨o, (N₁ _ (.head _)).1, c1, c2⟩ (hl i m₁ news₁ _ J₁ F₁ (sub N₁)) (by simpa using hv) ?_
    rintro h' ⟨o', e1, e2, e3⟩ hsb
    exact hQ h' _ v o' hv ⟨e2, e3⟩ e1 hsb
  · rintro s' m₁ news₁ o ⟨c1, c2⟩ F₁ N₁ J₁ Q hQ
    refine wpAny_pyNext_list_end (i := vs.length) (l := l) hh ⟨o, (N₁ _ (.head _)).1, c1, c2⟩ (hl _ m₁ news₁ _ J₁ F₁ (sub N₁)) (by simp) ?_
    intro h' hext
    exact hQ h' _ hext
  · rintro i v m₁ news₁ h tk o hi hv J₁ F₁ N₁
    exact turn _ hlt i v m₁ news₁ h tk o hi hv J₁ F₁ N₁
end
end
section
local macro_rules | `(tactic| walk_at "pad pad") => `(tactic| fail "pad")
local macro_rules | `(tactic| walk_at "pad pad") => `(tactic| fail "pad")
local macro_rules | `(tactic| walk_at "pad pad") => `(tactic| fail "pad")
local macro_rules | `(tactic| walk_at "pad pad") => `(tactic| fail "pad")
local macro_rules | `(tactic| walk_at "pad pad") => `(tactic| fail "pad")
local macro_rules | `(tactic| walk_at "pad pad") => `(tactic| fail "pad")
local macro_rules | `(tactic| walk_at "pad pad") => `(tactic| fail "pad")
local macro_rules | `(tactic| walk_at "pad pad") => `(tactic| fail "pad")
theorem fresh_BaseC : True := by w_top off; exact trivial
open PySem PySem.W PyProof.Rows
set_option maxRecDepth 100000
set_option maxHeartbeats 1000000
theorem enterC {prog : Program} {w : World} {A : Around} {s : Shared} {K : Frag} {R : Result → Shared → Prop} {name qual : Str} {params : Arguments} {body : List Stmt} {scope : Scope} {dV kV doc pm cdv ct oc : Value} {an od : Option Addr} {osl : Array (Option Value)} {f : Addr} {vals : List Value} {binds : List (Str × Value)}
    (X : K.In s.heap) (hlim : s.heap.NoLimit) (hroom : A.depth < recursionLimit)
    (ho : K.lookup f = some ⟨oc, od, .func (fnOf name qual params body scope dV kV doc pm an cdv ct), osl⟩) (hcd : codeIn K cdv qual = true)
    (hbind : bindArgs (fnOf name qual params body scope dV kV doc pm an cdv ct) ⟨vals, []⟩ = pure binds)
    (hkind : ∀ x ∈ binds, scope.names.lookup x.1 = some .local ∨ (scope.names.lookup x.1 = some .cell ∧ ((cellsFrom (s.heap.objs.size + 1) scope.names []).lookup x.1).isSome = true))
    (hnd : ((cellsFrom 0 scope.names []).map (·.1)).Nodup)
    (h : ∀ L h₁ tk cells, Fr s.heap L h₁ (bindL (envOfC qual scope L f cdv).kindOf binds fun _ => none) → News s.heap L h₁ cells →
      CellsAre (bindC (envOfC qual scope L f cdv).kindOf binds fun _ => none) (cellsFrom (L + 1) scope.names []) cells →
      wpAny (model prog w) (A.deeper (envOfC qual scope L f cdv)) (execs body (envOfC qual scope L f cdv))
        (fun fl s' => R (.ok (.ret (match fl with | .ret v => v | _ => .none))) s') (fun _ _ => False)
        { s with heap := h₁, toks := tk })
    (hco : scope.isCoroutine = false) (hgen : scope.isGenerator = false) (hk : scope.kind = .function) : codeAny (model prog w) A (.call (.ref f) ⟨vals, []⟩) R s := by
  refine codeAny_call_cells (fd := fnOf name qual params body scope dV kV doc pm an cdv ct) (body := body) (binds := binds) hroom (X _ _ ho) rfl hlim (codeRec_of X hcd) rfl hbind rfl hkind (fun s₁ hin => ?_) hco hgen hk
  obtain ⟨hh, tk, rfl, _⟩ := hin.done
  have F : Fr s.heap s.heap.objs.size hh (bindL (envOfC qual scope s.heap.objs.size f cdv).kindOf binds fun _ => none) := ⟨hin.toInCall.ns, hin.toInCall.keep, Nat.le_refl _⟩
  have Xc : Cl s.heap.objs.size (cellsFrom (s.heap.objs.size + 1) scope.names []) hh (bindC (envOfC qual scope s.heap.objs.size f cdv).kindOf binds fun _ => none) := ⟨hin.cell, hin.apart, hin.above⟩
  obtain ⟨cells, N, Y⟩ := Cl.news (h₀ := s.heap) (Nat.le_refl _) fun n c hm => ⟨Xc.cell n c (lookup_of_mem_nodup (cellsFrom_names scope.names 0 (s.heap.objs.size + 1) [] [] rfl ▸ hnd) hm), Xc.above n c hm⟩
  exact wpAny_mono (h s.heap.objs.size hh tk cells F N Y) (fun _ _ x => x) (fun _ _ x => x.elim)
section
variable {prog : Program} {w : World} {A : Around} {s : Shared} {env : Env} {h₀ : Heap} {x : Str} {pos : Pos} {body : List Stmt} {R : Result → Shared → Prop} {m : Str → Option Value} {news : List (Addr × Obj)} {E : Value → Shared → Prop}
theorem for_list2 {l : Addr} {vs : List Value} (J : Nat → (Str → Option Value) → List (Addr × Obj) → Prop)
    (hh : A.handled = none)
    (hx : env.kindOf x = some .local) (hp : (env.scope.kind == .class || (env.scope.kind == .module && env.locals != env.globals)) = false)
    (F : Fr h₀ env.locals s.heap m) (N : News h₀ env.locals s.heap news) (hj : J 0 m news)
    (hl : ∀ i m₁ news₁ h, J i m₁ news₁ → Fr h₀ env.locals h m₁ → News h₀ env.locals h news₁ → h.IsList l vs.toArray)
    (hne : ∀ i m news, J i m news → ∀ p ∈ news, p.1 ≠ s.heap.objs.size)
    (turn : ∀ i v m₁ news₁ h tk o, i < vs.length → vs[i]? = some v → J i m₁ news₁ → Fr h₀ env.locals h (fun y => if y = x then some v else m₁ y) → News h₀ env.locals h ((s.heap.objs.size, o) :: news₁) →
      wpAny (model prog w) A (execs body env) (TurnEnd h₀ env.locals s [(s.heap.objs.size, o)] (J (i + 1))) (fun _ _ => False) { s with heap := h, toks := tk })
    (done : ∀ m₁ news₁ h tk, J vs.length m₁ news₁ → Fr h₀ env.locals h m₁ → News h₀ env.locals h news₁ → R (.ok .next) { s with heap := h, toks := tk }) :
    wpAny (model prog w) A (pyIter (.ref l)) (fun it s₂ => codeAny (model prog w) A (.forLoop (.Name x pos) it body [] env) R s₂) E s := by
  refine wpAny_pyIter_list (hl 0 m news s.heap hj F N) ?_
  have sub : ∀ {h : Heap} {o : Obj} {it : Addr} {ns : List (Addr × Obj)}, News h₀ env.locals h ((it, o) :: ns) → News h₀ env.locals h ns := fun N p hp => N p (.tail _ hp)
  refine loop_core (s := { s with heap := _ }) (n := vs.length) (fun i o => o.cls = .type "list_iterator" ∧ o.data = .fields #[.ref l, .int (i : Int) 0]) (fun i v => vs[i]? = some v) J hx hp
    (F.push _) (o₀ := { cls := .type "list_iterator", data := .fields #[.ref l, .int 0 0] }) ⟨rfl, rfl⟩ (N.push F _) hj hne ?_ ?_ ?_ done
  · rintro i s' m₁ news₁ o hi ⟨c1, c2⟩ F₁ N₁ J₁ Q hQ
    obtain ⟨v, hv⟩ : ∃ v, vs[i]? = some v := ⟨vs[i], by simp [hi]⟩
    refine wpAny_pyNext_list_item (i := i) (l := l) ⟨o, (N₁ _ (.head _)).1, c1, c2⟩ (hl i m₁ news₁ _ J₁ F₁ (sub N₁)) (by simpa using hv) ?_
    rintro h' ⟨o', e1, e2, e3⟩ hsb
    exact hQ h' _ v o' hv ⟨e2, e3⟩ e1 hsb
  · rintro s' m₁ news₁ o ⟨c1, c2⟩ F₁ N₁ J₁ Q hQ
    refine wpAny_pyNext_list_end (i := vs.length) (l := l) hh ⟨o, (N₁ _ (.head _)).1, c1, c2⟩ (hl _ m₁ news₁ _ J₁ F₁ (sub N₁)) (by simp) ?_
    intro h' hext
    exact hQ h' _ hext
  · rintro i v m₁ news₁ h tk o hi hv J₁ F₁ N₁
    exact turn i v m₁ news₁ h tk o hi hv J₁ F₁ N₁
end
/-- a statement is through; the locals and the ledger stand -/
def Stay (h₀ : Heap) (L : Addr) (s : Shared) (m : Str → Option Value) (news : List (Addr × Obj)) (fl : Flow) (s' : Shared) : Prop :=
  fl = .next ∧ ∃ h tk, s' = { s with heap := h, toks := tk } ∧ Fr h₀ L h m ∧ News h₀ L h news
theorem wp_stay {M : Model} {A : Around} {s : Shared} {E : Value → Shared → Prop} {t : Sem Flow} {Q : Flow → Shared → Prop} {h₀ : Heap} {L : Addr} {m : Str → Option Value} (news : List (Addr × Obj)) (_F : Fr h₀ L s.heap m)
    (h1 : wpAny M A t (fun fl s' => Stop (Stay h₀ L s m news fl s')) (fun _ _ => False) s)
    (h2 : ∀ h tk, Fr h₀ L h m → News h₀ L h news → Q .next { s with heap := h, toks := tk }) : wpAny M A t Q E s := by
  refine wpAny_mono h1 ?_ (fun _ _ e => e.elim)
  rintro fl s' ⟨rfl, h, tk, rfl, F, N⟩
  exact h2 h tk F N
end
section
local macro_rules | `(tactic| walk_at "pad pad") => `(tactic| fail "pad")
local macro_rules | `(tactic| walk_at "pad pad") => `(tactic| fail "pad")
local macro_rules | `(tactic| walk_at "pad pad") => `(tactic| fail "pad")
local macro_rules | `(tactic| walk_at "pad pad") => `(tactic| fail "pad")
local macro_rules | `(tactic| walk_at "pad pad") => `(tactic| fail "pad")
local macro_rules | `(tactic| walk_at "pad pad") => `(tactic| fail "pad")
local macro_rules | `(tactic| walk_at "pad pad") => `(tactic| fail "pad")
local macro_rules | `(tactic| walk_at "pad pad") => `(tactic| fail "pad")
local macro_rules | `(tactic| walk_at "pad pad") => `(tactic| fail "pad")
theorem fresh_R_gen : True := by w_top off; exact trivial
open PySem PySem.W PyProof.Rows
set_option maxRecDepth 100000
set_option maxHeartbeats 1000000
section
variable {M : Model} {A : Around} {R : GenEnd} {Y : Protocol} {n : Nat} {s₀ : Shared} {c : Code} {fs : List Frame} {s : Shared} {env : Env} {K : Flow → Sem Fin} {H : Value → Sem Fin} {gd : Bool → Bool} {lv : List Value → List Value}
/-- a statement within a generator that is through without a yield -/
theorem seg_exec {st : Stmt} (h : wpAny M (A.over c fs) (exec st env) (fun f s' => Seg M A R Y n s₀ c (K f) fs s') (fun _ _ => False) s) : Seg M A R Y n s₀ c ((exec st env).wrap K H gd lv) fs s :=
  seg_wrap (wpAny_mono h (fun _ _ x => x) fun _ _ x => x.elim)
theorem seg_If {test : Expr} {body orelse : List Stmt} {pos : Pos}
    (h : wpAny M (A.over c fs) (isTrue test env (eval test env)) (fun b s' => Seg M A R Y n s₀ c ((if b then execs body env else execs orelse env).wrap K H gd lv) fs s') (fun _ _ => False) s) :
    Seg M A R Y n s₀ c ((exec (.If test body orelse pos) env).wrap K H gd lv) fs s := by
  rw [exec_If]
  refine seg_bind_wrap (wpAny_standAt ?_)
  exact seg_bind_wrap (wpAny_mono h (fun b s' x => x) fun _ _ x => x.elim)
theorem seg_For {target iter : Expr} {body orelse : List Stmt} {pos : Pos}
    (h : wpAny M (A.over c fs) (eval iter env) (fun x s₁ => wpAny M (A.over c fs) (pyIter x) (fun it s₂ => ∀ (k : Result → Sem Fin) (l : List Value) (p : Pos),
      Seg M A R Y n s₀ (.forLoop target it body orelse env) (M.den (.forLoop target it body orelse env)) (.ret k none (gd false) l c p [] :: fs) s₂) (fun _ _ => False) s₁) (fun _ _ => False) s)
    (hs : ∀ x, foldedSetIterable iter env x = pure x := by intro _; rfl) :
    Seg M A R Y n s₀ c ((exec (.For target iter body orelse pos) env).wrap K H gd lv) fs s := by
  rw [exec_For]
  refine seg_bind_wrap (wpAny_standAt ?_)
  refine seg_bind_wrap (wpAny_mono h (fun x s₁ h₁ => ?_) fun _ _ x => x.elim)
  refine seg_bind_wrap (wpAny_of_eq (hs x) ?_)
  refine seg_bind_wrap (wpAny_standAt ?_)
  refine seg_bind_wrap (wpAny_holding (wpAny_mono h₁ (fun it s₂ h₂ => ?_) fun _ _ x => x.elim))
  exact seg_call fun p => h₂ _ _ p
theorem seg_While' {test : Expr} {body orelse : List Stmt} {pos : Pos}
    (h : ∀ (k : Result → Sem Fin) (l : List Value) (p : Pos), Seg M A R Y n s₀ (.whileLoop test body orelse env) (M.den (.whileLoop test body orelse env)) (.ret k none (gd false) l c p [] :: fs) s) :
    Seg M A R Y n s₀ c ((exec (.While test body orelse pos) env).wrap K H gd lv) fs s := seg_While fun p => h _ _ p
end
section
variable {prog : Program} {w : World} {A : Around} {R : GenEnd} {Y : Protocol} {n : Nat} {s₀ : Shared} {fs : List Frame} {s : Shared} {env : Env} {E : Value → Shared → Prop}
/-- a turn of a for within a generator: the next item is there -/
theorem seg_forTurn {x : Str} {px : Pos} {it : Value} {body : List Stmt}
    (h : wpAny (model prog w) (A.over (.forLoop (.Name x px) it body [] env) fs) (pyNext it) (fun r s₁ => ∃ v, r = some v ∧
      wpAny (model prog w) (A.over (.forLoop (.Name x px) it body [] env) fs) (storeName env x v) (fun _ s₂ => Stop (∀ H : Value → Sem Fin,
        Seg (model prog w) A R Y n s₀ (.forLoop (.Name x px) it body [] env) ((execs body env).wrap (fun f => match f with
            | .next | .cont => .pure (.again (.forLoop (.Name x px) it body [] env))
            | .brk => .pure (.done .next)
            | .ret v => .pure (.done (.ret v))) H id id) fs s₂)) (fun _ _ => False) s₁) (fun _ _ => False) s) :
    Seg (model prog w) A R Y n s₀ (.forLoop (.Name x px) it body [] env) ((model prog w).den (.forLoop (.Name x px) it body [] env)) fs s := by
  show Seg _ A R Y n s₀ _ ((forTurn (.Name x px) it body [] env).onRaise (fun x => do noteFrame x env; theTreesLotGoes x)) fs s
  unfold forTurn
  rw [Sem.onRaise_eq_wrap]
  refine seg_bind_wrap (wpAny_standAt ?_)
  refine seg_bind_wrap (wpAny_onRaise (wpAny_mono h (fun r s₁ h₁ => ?_) fun _ _ x => x.elim))
  obtain ⟨v, rfl, h₁⟩ := h₁
  refine seg_bind_wrap (wpAny_of_eq (rfl : letOwnedTupleGo (.Name x px) it v = pure ()) ?_)
  refine seg_bind_wrap (wpAny_assign_Name (wpAny_mono h₁ (fun _ s₂ h₂ => ?_) fun _ _ x => x.elim))
  rw [Sem.bind_eq_wrap', Sem.wrap_wrap]
  rw [Sem.wrap_congr (execs body env) _ _ (K' := fun f => match f with
            | .next | .cont => .pure (.again (.forLoop (.Name x px) it body [] env))
            | .brk => .pure (.done .next)
            | .ret v => .pure (.done (.ret v))) (fun f => by cases f <;> rfl) (fun _ => rfl)]
  exact h₂ _
/-- a generator that goes on to its next yield -/
theorem pyNext_gen {a : Addr} {g n : Nat} {gs : GenState} {Y : Protocol} {Q : Option Value → Shared → Prop}
    (hl : s.heap.NoLimit) (hroom : A.depth < recursionLimit) (hg : s.heap.IsGen a g) (hgs : s.gens[g]? = some gs)
    (hgo : gs.Goes (model prog w) A.in1 (fun _ _ _ _ => False) Y n (.send .none) (s.setGen g .running))
    (hY : ∀ v s₁ gs', gs'.bare = true → Y (n - 1) (s.setGen g .running) v s₁ (fun r' s'' => match n with
        | 0 => False
        | m + 1 => gs'.Goes (model prog w) A.in1 (fun _ _ _ _ => False) Y m r' s'') → Q (some v) (s₁.setGen g gs')) :
    wpAny (model prog w) A (pyNext (.ref a)) Q E s := by
  unfold pyNext
  refine wpAny_bind (wpAny_attempt (wpAny_callSpecial?_slot (name := Str.ofString "__next__") hg.typeIs slot_gen_next
    (wpAny_call_entry slot_gen_next hg.typeIs entry_gen_next ?_ (args_gen_next _))))
  show wpAny _ A.in1 (Builtin.Generator.genWake (.ref a) (.send .none)) _ _ s
  unfold Builtin.Generator.genWake
  refine wpAny_bind (wpAny_holding (wpAny_genNumber hg (wpAny_bind (wpAny_genState hgs ?_))))
  cases gs with
  | running => exact hgo.elim
  | finished => exact hgo.elim
  | _ =>
    refine wpAny_bind (wpAny_roomToWake hl hroom ?_)
    show wpAny _ A.in1 (.resume g (.send .none) [] _) _ _ s
    refine wpAny_resumeQ hgs hgo (fun x s₁ hx => hx.elim) (fun v s₁ gs' hb hv => ?_)
    exact wpAny_pure ⟨v, rfl, wpAny_pure (hY v s₁ gs' hb hv)⟩
end
theorem enterG {prog : Program} {w : World} {A : Around} {s : Shared} {K : Frag} {R : Result → Shared → Prop} {name qual : Str} {params : Arguments} {body : List Stmt} {scope : Scope} {dV kV doc pm cdv ct oc : Value} {an od : Option Addr} {osl : Array (Option Value)} {f : Addr} {args : Args} {binds : List (Str × Value)}
    (X : K.In s.heap) (hlim : s.heap.NoLimit) (hroom : A.depth < recursionLimit)
    (ho : K.lookup f = some ⟨oc, od, .func (fnOf name qual params body scope dV kV doc pm an cdv ct), osl⟩) (hcd : codeIn K cdv qual = true)
    (hbind : BindsTo s (fnOf name qual params body scope dV kV doc pm an cdv ct) args binds) (hloc : ∀ y ∈ binds, scope.names.lookup y.1 = some .local)
    (h : ∀ L a o h', Fr s.heap L h' (fun y => binds.reverse.lookup y) → a = L + 1 → a < h'.objs.size → h'.get? a = some o → h'.IsGen a s.gens.size →
      R (.ok (.ret (.ref a))) { s with heap := h', gens := s.gens.push (.fresh (.func body (envOf qual scope L f cdv))), toks := s.toks + binds.length + 1 + 1 })
    (hco : scope.isCoroutine = false) (hgen : scope.isGenerator = true) (hk : scope.kind = .function)
    (hcell : ∀ x ∈ scope.names, x.2 ≠ .cell) : codeAny (model prog w) A (.call (.ref f) args) R s := by
  refine codeAny_call_generator (fd := fnOf name qual params body scope dV kV doc pm an cdv ct) (body := body) hroom (X _ _ ho) rfl hco hgen rfl (codeRec_of X hcd) (hbind _ _ _ _ ?_)
  refine wpAny_newFunctionEnv hcell hloc (fun h₀ hns₀ hsb₀ => ⟨hlim.fresh _ hsb₀, ?_⟩) hk
  have hsz : h₀.objs.size = s.heap.objs.size + 1 := by rw [hsb₀.1, Heap.size_push]
  have keep : ∀ b o, s.heap.get? b = some o → h₀.get? b = some o := fun b o e => hsb₀.extBut b o (Nat.ne_of_lt (Heap.lt_size e)) (Heap.get?_push_of_some _ e)
  have F : Fr s.heap s.heap.objs.size h₀ (fun y => binds.reverse.lookup y) := ⟨hns₀, keep, Nat.le_refl _⟩
  refine h s.heap.objs.size h₀.objs.size _ _ (F.push _) hsz (by rw [Heap.size_push]; exact Nat.lt_succ_self _) (Heap.get?_push_size _ rfl) ⟨_, _, _, Heap.get?_push_size _ rfl, rfl, rfl, rfl⟩
theorem list_next {prog : Program} {w : World} {A : Around} {E : Value → Shared → Prop} {s : Shared} {b1 : Heap} {L it l : Addr} {oi : Obj} {i : Nat} {items : Array Value} {v : Value} {ns : List (Addr × Obj)} {m : Str → Option Value} {Q : Option Value → Shared → Prop}
    (F : Fr b1 L s.heap m) (N : News b1 L s.heap ((it, oi) :: ns)) (c1 : oi.cls = .type "list_iterator") (c2 : oi.data = .fields #[.ref l, .int (i : Int) 0]) (hl : b1.IsList l items) (hv : items[i]? = some v) (hn : ∀ p ∈ ns, p.1 ≠ it)
    (h : ∀ h' o', Fr b1 L h' m → News b1 L h' ((it, o') :: ns) → o'.cls = .type "list_iterator" → o'.data = .fields #[.ref l, .int ((i + 1 : Nat) : Int) 0] → Q (some v) { s with heap := h' }) :
    wpAny (model prog w) A (pyNext (.ref it)) Q E s := by
  have z := N _ (.head _)
  refine wpAny_pyNext_list_item (i := i) (l := l) ⟨_, z.1, c1, c2⟩ (Heap.IsList.at hl (F.keep l)) hv ?_
  rintro h5 ⟨o', e1, e2, e3⟩ hsb
  refine h h5 o' (F.change hsb z.2.1 z.2.2) ?_ e2 e3
  intro p hp
  rcases List.mem_cons.mp hp with rfl | hp
  · exact ⟨e1, z.2⟩
  · have z := N p (.tail _ hp); exact ⟨(hsb.2 p.1 (hn p hp)).trans z.1, z.2⟩
/-- the heap below a place -/
def cut (L : Addr) (h : Heap) : Heap := ⟨h.objs.take L, h.life⟩
theorem cut_get {L b : Addr} {h : Heap} (hb : b < L) : (cut L h).get? b = h.get? b := by
  unfold cut Heap.get?
  have : (h.objs.take L)[b]? = h.objs[b]? := by
    simp only [Array.take_eq_extract, Array.getElem?_extract]
    have hb' : b < L := hb
    by_cases q : b < h.objs.size
    · rw [if_pos (by simp only [Nat.sub_zero, Nat.lt_min]; exact ⟨hb', q⟩)]; simp
    · rw [if_neg (by simp only [Nat.sub_zero, Nat.lt_min]; exact fun z => q z.2), Array.getElem?_eq_none (Nat.le_of_not_lt q)]
  simp only [this]
theorem cut_size {L : Addr} {h : Heap} : (cut L h).objs.size ≤ L := by
  unfold cut; simp only [Array.take_eq_extract, Array.size_extract, Nat.sub_zero]; exact Nat.min_le_left _ _
theorem cut_some {L b : Addr} {h : Heap} {o : Obj} (e : (cut L h).get? b = some o) : b < L ∧ h.get? b = some o := by
  have h1 : b < L := Nat.lt_of_lt_of_le (Heap.lt_size e) cut_size
  exact ⟨h1, by rw [← cut_get h1]; exact e⟩
theorem cut_none {L b : Addr} {h : Heap} (hb : L ≤ b) : (cut L h).get? b = none := by
  cases e : (cut L h).get? b with
  | none => rfl
  | some o => exact absurd (cut_some e).1 (Nat.not_lt.mpr hb)
theorem cut_fr {L : Addr} {h : Heap} {m : Str → Option Value} (hn : h.Ns L m) : Fr (cut L h) L h m := ⟨hn, fun _ _ e => (cut_some e).2, cut_size⟩
theorem cut_keeps {L : Addr} {h0 h : Heap} (k : ∀ b o, h0.get? b = some o → h.get? b = some o) (hs : h0.objs.size ≤ L) : ∀ b o, h0.get? b = some o → (cut L h).get? b = some o :=
  fun b o e => by rw [cut_get (Nat.lt_of_lt_of_le (Heap.lt_size e) hs)]; exact k b o e
theorem cut_back {L : Addr} {h h' : Heap} {m : Str → Option Value} (F : Fr (cut L h) L h' m) {a : Addr} {o : Obj} (ha : a = L + 1) (h1 : h.get? a = some o) (h2 : h'.get? a = some o) :
    ∀ b o, b ≠ L → b ≤ a → h.get? b = some o → h'.get? b = some o := by
  intro b o' hb hle e
  rcases Nat.lt_or_ge b L with q | q
  · exact F.keep b o' (by rw [cut_get q]; exact e)
  · have : b = a := by
      have h3 : ¬ (b = L) := hb
      have h4 : b ≤ a := hle
      have h5 : L ≤ b := q
      subst ha
      exact Nat.le_antisymm h4 (Nat.lt_of_le_of_ne h5 (fun z => h3 z.symm))
    subst this
    rw [h1] at e; cases e; exact h2
end
section
local macro_rules | `(tactic| walk_at "pad pad") => `(tactic| fail "pad")
local macro_rules | `(tactic| walk_at "pad pad") => `(tactic| fail "pad")
local macro_rules | `(tactic| walk_at "pad pad") => `(tactic| fail "pad")
local macro_rules | `(tactic| walk_at "pad pad") => `(tactic| fail "pad")
local macro_rules | `(tactic| walk_at "pad pad") => `(tactic| fail "pad")
local macro_rules | `(tactic| walk_at "pad pad") => `(tactic| fail "pad")
local macro_rules | `(tactic| walk_at "pad pad") => `(tactic| fail "pad")
local macro_rules | `(tactic| walk_at "pad pad") => `(tactic| fail "pad")
local macro_rules | `(tactic| walk_at "pad pad") => `(tactic| fail "pad")
local macro_rules | `(tactic| walk_at "pad pad") => `(tactic| fail "pad")
theorem fresh_S_gen : True := by w_top off; exact trivial
open PySem PySem.W PyProof.Rows
set_option maxRecDepth 100000
set_option maxHeartbeats 4000000
/-- what the generator hands out -/
def genProto3 (h0 : Heap) (Lg a : Addr) (oa : Obj) (ok : Nat → Value → Prop) : Protocol := fun m s₀ v s kap =>
  ok m v ∧ ∃ h' tk oL itg oi, s = { s₀ with heap := h', toks := tk } ∧ (∀ b o, b ≠ Lg → b ≤ a → s₀.heap.get? b = some o → h'.get? b = some o) ∧
    h'.get? Lg = some oL ∧ h'.get? itg = some oi ∧ a < itg ∧
    (0 < m → ∀ s'' : Shared, (∀ b o, h0.get? b = some o → s''.heap.get? b = some o) → s''.heap.get? a = some oa → s''.heap.get? Lg = some oL → s''.heap.get? itg = some oi → kap (.send .none) s'')
theorem ns_obj {h : Heap} {L : Addr} {m : Str → Option Value} (n : h.Ns L m) : ∃ o, h.get? L = some o := let ⟨o, _, _, ho, _⟩ := n; ⟨o, ho⟩
theorem ns_move {h h' : Heap} {L : Addr} {m : Str → Option Value} {o : Obj} (n : h.Ns L m) (e : h.get? L = some o) (e' : h'.get? L = some o) : h'.Ns L m := n.at' fun o₁ h₁ => by rw [e] at h₁; cases h₁; exact e'
section
variable {w : World} {A : Around} {s : Shared} {mean : ExcName → Option Value} {mg mb : Str → Option Value} {Q : Value → Shared → Prop} {E : Value → Shared → Prop}
set_option pp.deepTerms false
set_option pp.maxSteps 2000
set_option pp.deepTerms.threshold 6
local macro_rules | `(tactic| walk_at "pyIter ref") => `(tactic| refine stop_intro ?_)
theorem gen_back {K : Frag} {h0 h6 b1 h2 : Heap} {L a it l : Addr} {m : Str → Option Value} {o oi o6 : Obj} {items : Array Value}
    (F6 : Fr b1 L h6 m) (hL6 : h6.get? L = some o6) (hLa : a = L + 1) (hai : a < it) (hab : h0.objs.size ≤ L) (X : K.In h0) (T : Top hd.view_39 LS mean mg mb h0) (hl : h0.IsList l items)
    (k2 : ∀ b o, h0.get? b = some o → h2.get? b = some o) (ha : h2.get? a = some o) (hL2 : h2.get? L = some o6) (hi : h2.get? it = some oi) :
    ∃ b2, cut L h2 = b2 ∧ Fr b2 L h2 m ∧ K.In b2 ∧ Top hd.view_39 LS mean mg mb b2 ∧ b2.IsList l items ∧ News b2 L h2 [(it, oi), (a, o)] := by
  refine ⟨_, rfl, cut_fr (ns_move F6.ns hL6 hL2), X.keeps (cut_keeps k2 hab), T.keeps (cut_keeps k2 hab), Heap.IsList.at hl (cut_keeps k2 hab l), ?_⟩
  have h1 : L < a := by rw [hLa]; exact Nat.lt_succ_self _
  have h2 : L < it := Nat.lt_trans h1 hai
  intro p hp
  simp only [List.mem_cons, List.not_mem_nil, or_false] at hp
  rcases hp with rfl | rfl
  · exact ⟨hi, Nat.ne_of_gt h2, cut_none (Nat.le_of_lt h2)⟩
  · exact ⟨ha, Nat.ne_of_gt h1, cut_none (Nat.le_of_lt h1)⟩
theorem gen_spec {h0 : Heap} {l : Addr} {first : Int} {t1 t2 t3 t4 : Tok} (k0 : ∀ b o, h0.get? b = some o → s.heap.get? b = some o) (hsz : h0.objs.size ≤ s.heap.objs.size)
    (X0 : (hd.heap_39 w.params).In h0) (T : Top hd.view_39 LS mean mg mb h0) (hroom : A.depth < recursionLimit)
    (hl : h0.IsList l (List.toArray [.int first t1, .int 3 t2, .int 0 t3, .int 9 t4])) (h1 : 4 ≤ first) (h2 : first ≤ 5)
    (h : ∀ a Lg h' tk o oL gs, Kept s.heap h' → s.heap.objs.size ≤ Lg → Lg < a → a < h'.objs.size → h'.get? a = some o → h'.get? Lg = some oL → h'.IsGen a s.gens.size → gs.bare = true →
      (∀ (A' : Around) (s'' : Shared), A'.handled = none → (∀ b o, h0.get? b = some o → s''.heap.get? b = some o) → s''.heap.get? a = some o → s''.heap.get? Lg = some oL → 
        gs.Goes (model PySem.Challenge.rw_ph0038_01.row.prog w) A' (fun _ _ _ _ => False) (genProto3 h0 Lg a o (fun m v => (m = 2 ∧ ∃ t, v = .int first t) ∨ (m < 2 ∧ ∃ t, v = .int 3 t))) 3 (.send .none) s'') →
      Q (.ref a) { s with heap := h', gens := s.gens.push gs, toks := tk }) :
    wpAny (model PySem.Challenge.rw_ph0038_01.row.prog w) A (call (.ref 66) [.ref l]) Q E s := by
  have X := X0.keeps k0
  have T' := T.keeps k0
  revert X; k_fill; intro X
  refine wpAny_call ?_
  k_dflt (refine' enterG (binds := [(Str.ofString "grouping", .ref l)]) ?k1 ?k2 ?k3 ?k4 ?k5 ?k6 ?k7 ?_ ?c1 ?c2 ?c3 ?c4; (case k1 => assumption); (case k2 => exact T'.nolimit); (case k3 => assumption); (case k4 => k_is); (case k5 => k_is); (case k6 => exact BindsTo.of_eq rfl); (case k7 => exact locs rfl); (case c1 => exact rfl); (case c2 => exact rfl); (case c3 => exact rfl); (case c4 => decide))
  intro L a o h' F hLa has hoa hgen
  obtain ⟨oL, hoL⟩ := ns_obj F.ns
  refine h a L h' _ o oL _ F.keep F.above (by rw [hLa]; exact Nat.lt_succ_self _) has hoa hoL hgen rfl ?_
  clear h
  intro A' s1 hh' keep1 ha1 hL1
  refine ⟨rfl, ?_⟩
  have hab : h0.objs.size ≤ L := Nat.le_trans hsz F.above
  have hne : a ≠ L := by rw [hLa]; exact Nat.succ_ne_self _
  have F1 := cut_fr (ns_move F.ns hoL hL1)
  have X1 : Frag.In _ _ := X0.keeps (cut_keeps keep1 hab)
  have T1 := T.keeps (cut_keeps keep1 hab)
  have l1 := Heap.IsList.at hl (cut_keeps keep1 hab l)
  have N1 : News (cut L s1.heap) L s1.heap [(a, o)] := by
    intro p hp
    simp only [List.mem_cons, List.not_mem_nil, or_false] at hp
    subst hp
    exact ⟨ha1, hne, cut_none (by rw [hLa]; exact Nat.le_succ _)⟩
  clear X hoa hgen T'
  generalize hb1 : cut L s1.heap = b1 at F1 X1 T1 l1 N1
  refine seg_func ?_
  refine seg_execs_cons (seg_exec ?_)
  k_steps
  refine seg_execs_cons (seg_For ?_)
  k_steps
  unfold Stop
  rename_i F2 N2
  refine wpAny_pyIter_list (Heap.IsList.at l1 (F2.keep l)) ?_
  intro k lv p
  have F3 := F2.push { cls := .type "list_iterator", data := .fields #[.ref l, .int 0 0] }
  have N3 := N2.push F2 { cls := .type "list_iterator", data := .fields #[.ref l, .int 0 0] }
  have hai := Heap.lt_size (N2 _ (.head _)).1
  clear F2 N2 
  dsimp only at hai F3 N3
  dsimp only
  generalize hit : Array.size _ = it at hai N3 ⊢
  generalize hob : Obj.mk _ _ _ _ = ob at F3 N3 ⊢
  have hpn : ∀ p ∈ [(a, o)], p.1 ≠ it := by
    intro p hp; simp only [List.mem_cons, List.not_mem_nil, or_false] at hp; subst hp; exact Nat.ne_of_lt hai
  clear hit
  have hpl : ∀ p ∈ [(it, ob), (a, o)], p.1 ≠ L := fun p hp => (N3 p hp).2.1
  have hpb : b1.get? it = none := (N3 (it, ob) (.head _)).2.2
  have c1 : ob.cls = .type "list_iterator" := by subst hob; rfl
  have c2 : ob.data = .fields #[.ref l, .int ((0 : Nat) : Int) 0] := by subst hob; rfl
  clear hob
  -- the first turn
  refine seg_forTurn ?_
  refine list_next F3 N3 c1 c2 l1 (i := 0) (v := .int first t1) rfl hpn ?_
  intro h5 o5 F5 N5 e1 e2
  refine ⟨_, rfl, ?_⟩
  clear F3 N3 c1 c2
  dsimp only
  k_steps
  unfold Stop
  intro H
  refine seg_execs_cons (seg_exec ?_)
  k_steps
  all_goals try (exfalso; omega)
  refine seg_execs_cons (seg_exec ?_)
  k_steps
  all_goals try (exfalso; omega)
  refine seg_execs_cons (seg_Expr_Yield rfl rfl rfl ?_)
  k_steps
  rename_i F6 N6 n1 tk1 n2 kap hk
  obtain ⟨o6, hL6⟩ := ns_obj F6.ns
  refine ⟨.inl ⟨rfl, _, rfl⟩, _, _, o6, it, o5, rfl, ?_, hL6, (N6 _ (.head _)).1, hai, ?_⟩
  · subst hb1; exact cut_back F6 hLa ha1 (N6 (a, o) (.tail _ (.head _))).1
  intro _ s2 keep2 ha2 hL2 hit2
  refine hk .none s2 ?_
  obtain ⟨b2, hb2, F7, X7, T7, l7, N7⟩ := gen_back F6 hL6 hLa hai hab X0 T hl keep2 ha2 hL2 hit2
  clear hk F6 N6 X1 T1 l1 hb1 hpl hpb hL6
  dsimp only
  refine seg_execs_cons (seg_exec ?_)
  k_steps
  -- turn 1
  refine seg_execs_nil ?_
  dsimp only
  refine seg_again rfl ?_
  refine seg_forTurn ?_
  rename_i Fa Na
  refine list_next Fa Na e1 e2 l7 (i := 1) (v := .int 3 t2) rfl hpn ?_
  intro hh1 o8 Fx1 Nx1 g1 g2
  refine ⟨_, rfl, ?_⟩
  clear Fa Na e1 e2
  dsimp only
  k_steps
  unfold Stop
  intro H1
  refine seg_execs_cons (seg_exec ?_)
  k_steps
  all_goals try (exfalso; omega)
  refine seg_execs_cons (seg_exec ?_)
  k_steps
  all_goals try (exfalso; omega)
  refine seg_execs_cons (seg_Expr_Yield rfl rfl rfl ?_)
  k_steps
  rename_i F9 N9 tk9 kap2 hk2
  obtain ⟨o9, hL9⟩ := ns_obj F9.ns
  refine ⟨.inr ⟨by decide, _, rfl⟩, _, _, o9, it, o8, rfl, ?_, hL9, (N9 _ (.head _)).1, hai, ?_⟩
  · subst hb2; exact cut_back F9 hLa ha2 (N9 (a, o) (.tail _ (.head _))).1
  intro _ s3 keep3 ha3 hL3 hit3
  refine hk2 .none s3 ?_
  obtain ⟨b3, hb3, Fb, Xb, Tb, lb, Nb⟩ := gen_back F9 hL9 hLa hai hab X0 T hl keep3 ha3 hL3 hit3
  clear hk2 F9 N9 X7 T7 l7 hb2 hL9
  dsimp only
  refine seg_execs_cons (seg_exec ?_)
  k_steps
  -- turn 2
  refine seg_execs_nil ?_
  dsimp only
  refine seg_again rfl ?_
  refine seg_forTurn ?_
  rename_i Fc Nc
  refine list_next Fc Nc g1 g2 lb (i := 2) (v := .int 0 t3) rfl hpn ?_
  intro hh2 oc Fx2 Nx2 q1 q2
  refine ⟨_, rfl, ?_⟩
  clear Fc Nc g1 g2
  dsimp only
  k_steps
  unfold Stop
  intro H2
  refine seg_execs_cons (seg_exec ?_)
  k_steps
  all_goals try (exfalso; omega)
  refine seg_execs_cons (seg_If ?_)
  k_steps
  rw [if_pos (by decide)]
  refine seg_execs_cons (seg_exec ?_)
  k_steps
  refine seg_execs_cons (seg_While' ?_)
  intro k3 lv3 p3
  refine seg_whileLoop ?_
  k_steps
  refine seg_execs_cons (seg_Expr_Yield rfl rfl rfl ?_)
  k_steps
  rename_i Fz Nz tkz kapz hkz
  obtain ⟨oz, hLz⟩ := ns_obj Fz.ns
  refine ⟨.inr ⟨by decide, _, rfl⟩, _, _, oz, it, oc, rfl, ?_, hLz, (Nz _ (.head _)).1, hai, fun h => absurd h (by decide)⟩
  subst hb3; exact cut_back Fz hLa ha3 (Nz (a, o) (.tail _ (.head _))).1
end
end
section
theorem fresh_S_widths : True := by w_top off; exact trivial
open PySem PySem.W PyProof.Rows
set_option maxRecDepth 100000
set_option maxHeartbeats 4000000
section
variable {w : World} {A : Around} {s : Shared} {mean : ExcName → Option Value} {mg mb : Str → Option Value} {Q : Value → Shared → Prop} {E : Value → Shared → Prop}
set_option pp.deepTerms false
set_option pp.maxSteps 2000
set_option pp.deepTerms.threshold 6
local macro_rules | `(tactic| walk_at "exec For Name Call cons nil") => `(tactic| refine stop_intro ?_)
local macro_rules | `(tactic| walk_at "call ref") => `(tactic| refine stop_intro ?_)
/-- the generator stands, and goes on -/
def Alive (w : World) (A' : Around) (h0 : Heap) (Lg a : Nat) (oa : Obj) (ok : Nat → Value → Prop) (j : Nat) (gs : GenState) (ents : List (Addr × Obj)) : Prop :=
  ∀ (s'' : Shared), (∀ b o, h0.get? b = some o → s''.heap.get? b = some o) → (∀ p ∈ ents, s''.heap.get? p.1 = some p.2) →
    gs.Goes (model PySem.Challenge.rw_ph0038_01.row.prog w) A' (fun _ _ _ _ => False) (genProto3 h0 Lg a oa ok) j (.send .none) s''
theorem ext2 {h₀ h : Heap} {L : Addr} {m : Str → Option Value} {a : Str} {v : Option Value} (h1 : m a = v) (F : Fr h₀ L h m) : Fr h₀ L h (fun y => if y = a then v else m y) := by
  have e : m = fun y => if y = a then v else m y := by
    funext y
    by_cases q : y = a
    · simp [q, h1]
    · simp [q]
  rw [← e]; exact F
theorem gens_set {s : Shared} {G : Array GenState} {g : Nat} {x : GenState} (hG : ∀ y ∈ G, y ∈ s.gens ∨ y.bare = true) (hx : x.bare = true) : ∀ y ∈ G.setIfInBounds g x, y ∈ s.gens ∨ y.bare = true := by
  intro y hy
  rcases Array.mem_or_eq_of_mem_setIfInBounds hy with q | q
  · exact hG y q
  · subst q; exact .inr hx
local macro_rules | `(tactic| walk_at "call builtin:len") => `(tactic| (k_dflt (refine' kun_lenL ?k1 ?k2 ?k3 ?_; (case k1 => exact News.isList (by assumption) (.head _)); (case k2 => assumption); (case k3 => omega))))
theorem widths_spec {l : Addr} {first : Int} {t1 t2 t3 t4 : Tok}
    (X : (hd.heap_39 w.params).In s.heap) (T : Top hd.view_39 LS mean mg mb s.heap) (hroom : A.depth + 3 < recursionLimit) (hh : A.handled = none)
    (hl : s.heap.IsList l (List.toArray [.int first t1, .int 3 t2, .int 0 t3, .int 9 t4])) (hf1 : 4 ≤ first) (hf2 : first ≤ 5)
    (hQ : ∀ l vs n h' tk G, Kept s.heap h' → NewObj s.heap h' l (W.listOf (List.toArray vs) n) → IntsAre vs [first, 3, 3] → (∀ x ∈ G, x ∈ s.gens ∨ x.bare = true) → Q (.ref l) { s with heap := h', toks := tk, gens := G }) :
    wpAny (model PySem.Challenge.rw_ph0038_01.row.prog w) A (call (.ref 87) [.ref l]) Q E s := by
  have X0 := X
  revert X; k_fill; intro X
  refine wpAny_call ?_
  have hroom1 : A.depth < recursionLimit := by omega
  k_dflt (refine' enterF (binds := [(Str.ofString "sizes", .ref l)]) ?k1 ?k2 ?k3 ?k4 ?k5 ?k6 ?k7 ?_ ?c1 ?c2 ?c3 ?c4; (case k1 => assumption); (case k2 => exact Top.nolimit (by assumption)); (case k3 => assumption); (case k4 => k_is); (case k5 => k_is); (case k6 => exact BindsTo.of_eq rfl); (case k7 => exact locs rfl); (case c1 => exact rfl); (case c2 => exact rfl); (case c3 => exact rfl); (case c4 => decide))
  intro L h₁ F N
  k_steps
  unfold Stop
  refine wpAny_For ?_ (by intro _; rfl)
  k_steps
  unfold Stop
  rename_i tk0 res h2 l1 h3 F3 N3
  refine gen_spec (h0 := s.heap) F3.keep (Nat.le_trans F3.above (Nat.le_of_lt F3.ns.lt)) X0 T (by simp only [depth_deeper]; omega) hl hf1 hf2 ?_
  intro a Lg h4 tk4 oa oL gs K4 hsz hLg has hoa hoL hgen hbare hgo
  have F4 := Fr.kept F3 K4
  have N4 := News.kept N3 K4
  refine wpAny_pyIter_gen hgen ?_
  have hresL : res < Lg := Nat.lt_of_lt_of_le (Heap.lt_size (N3 _ (.head _)).1) hsz
  have hLL : L < Lg := Nat.lt_of_lt_of_le F3.ns.lt hsz
  have nn : ∀ b, Lg ≤ b → s.heap.get? b = none := by
    intro b hb
    cases e : s.heap.get? b with
    | none => rfl
    | some o' => exact absurd (Heap.lt_size (F3.keep _ _ e)) (Nat.not_lt.mpr (Nat.le_trans hsz hb))
  obtain ⟨nm, qn, hisg⟩ : ∃ nm qn, oa.cls = .type "generator" ∧ oa.data = .fields #[.int (s.gens.size : Int) 0, nm, qn] ∧ oa.slots = #[] := by
    obtain ⟨o', nm, qn, e1, e2, e3, e4⟩ := hgen
    rw [hoa] at e1; cases e1
    exact ⟨nm, qn, e2, e3, e4⟩
  generalize hA1 : A.deeper _ = A1
  have hh1 : A1.handled = none := by rw [← hA1]; exact hh
  have hr1 : A1.depth < recursionLimit := by rw [← hA1]; simp only [depth_deeper]; omega
  clear hA1
  let ok : Nat → Value → Prop := fun m v => (m = 2 ∧ ∃ t, v = .int first t) ∨ (m < 2 ∧ ∃ t, v = .int 3 t)
  refine codeAny_forLoop (fun j s' => ∃ (h : Heap) (tk : Nat) (G : Array GenState) (gs : GenState) (ents : List (Addr × Obj)) (vs : List Value) (n : Nat) (u : Str → Option Value), s' = { s with heap := h, gens := G, toks := tk } ∧ Fr s.heap L h (fun y => if y = Str.ofString "widths" then some (.ref res) else u y) ∧
    News s.heap L h [(res, W.listOf (List.toArray vs) n)] ∧ IntsAre vs ([first, 3, 3].take (3 - j)) ∧ h.get? a = some oa ∧ G[s.gens.size]? = some gs ∧ (∀ y ∈ G, y ∈ s.gens ∨ y.bare = true) ∧
    (∀ p ∈ ents, h.get? p.1 = some p.2) ∧ Alive w (Around.in1 A1) s.heap Lg a oa ok j gs ents ∧ 1 ≤ j ∧ j ≤ 3) ?_ 3 ?_
  · rintro j s' ⟨h, tk, G, gs, ents, vs, n, u, rfl, F5, N5, hvs, ha, hG, hGb, hents, hal, hj1, hj2⟩
    refine pyNext_gen (n := j) (gs := gs) (g := s.gens.size) (Y := genProto3 s.heap Lg a oa ok) ((Top.keeps T F5.keep).nolimit) hr1 ⟨oa, nm, qn, ha, hisg⟩ hG (hal _ F5.keep hents) ?_
    rintro v s₁ gs' hb' ⟨hv, h6, tk6, oL6, it, oi, rfl, kept, hL6, hit6, hait, hres⟩
    have r1 := ltN hresL
    have r2 := ltN hLL
    have r3 := ltN hLg
    have r4 := ltN hait
    have lo : ∀ b o, s.heap.get? b = some o → b ≠ Lg ∧ b ≤ a := by
      intro b o e
      have q : b < Lg := by
        rcases Nat.lt_or_ge b Lg with q | q
        · exact q
        · rw [nn b q] at e; cases e
      exact ⟨Nat.ne_of_lt q, Nat.le_of_lt (Nat.lt_trans q hLg)⟩
    have F6 : Fr s.heap L h6 _ := ⟨F5.ns.at' fun o e => kept L o (Nat.ne_of_lt hLL) (Nat.le_of_lt (Nat.lt_trans hLL hLg)) e, fun b o e => kept b o (lo b o e).1 (lo b o e).2 (F5.keep b o e), F5.above⟩
    have N6 : News s.heap L h6 [(res, W.listOf (List.toArray vs) n), (it, oi), (Lg, oL6), (a, oa)] := by
      intro p hp
      simp only [List.mem_cons, List.not_mem_nil, or_false] at hp
      rcases hp with rfl | rfl | rfl | rfl
      · have z := N5 _ (.head _); exact ⟨kept res _ (Nat.ne_of_lt hresL) (Nat.le_of_lt (Nat.lt_trans hresL hLg)) z.1, z.2⟩
      · exact ⟨hit6, Nat.ne_of_gt (Nat.lt_trans hLL (Nat.lt_trans hLg hait)), nn _ (Nat.le_of_lt (Nat.lt_trans hLg hait))⟩
      · exact ⟨hL6, Nat.ne_of_gt hLL, nn _ (Nat.le_refl _)⟩
      · exact ⟨kept a _ (Nat.ne_of_gt hLg) (Nat.le_refl _) ha, Nat.ne_of_gt (Nat.lt_trans hLL hLg), nn _ (Nat.le_of_lt hLg)⟩
    obtain ⟨x, t, rfl, hx⟩ : ∃ x t, v = .int x t ∧ [first, 3, 3][3 - j]? = some x := by
      have : j = 3 ∨ j = 2 ∨ j = 1 := by omega
      rcases hv with ⟨q, t, rfl⟩ | ⟨q, t, rfl⟩
      · exact ⟨_, t, rfl, by rcases this with rfl | rfl | rfl <;> first | rfl | omega⟩
      · exact ⟨_, t, rfl, by rcases this with rfl | rfl | rfl <;> first | rfl | omega⟩
    have hvs2 : IntsAre (vs ++ [.int x t]) ([first, 3, 3].take (3 - (j - 1))) := by
      have e : [first, 3, 3].take (3 - (j - 1)) = [first, 3, 3].take (3 - j) ++ [x] := by
        rw [show 3 - (j - 1) = 3 - j + 1 by omega, List.take_add_one, hx]; rfl
      rw [e]; exact hvs.append (.cons _ _ .nil)
    have hvl : vs.length = 3 - j := by rw [hvs.length, List.length_take]; simp
    have hk2 : ((List.toArray (vs ++ [.int x t])).size : Int) = ((4 - j : Nat) : Int) := by simp only [List.size_toArray, List.length_append, List.length_cons, List.length_nil, hvl]; omega
    have hx1 := hG
    clear N5 F5 kept hx hv hal
    dsimp only
    refine wpAny_assign_Name (wpAny_storeName_local (by rfl) F6.ns (fun h7 hn hs => ?_) (by rfl))
    have F7 := F6.set hn hs
    have N7 := N6.set hs
    clear F6 N6 hn hs
    refine wp_mid (fun f s₃ => Stop (∃ (h8 : Heap) (tk8 : Nat) (u8 : Str → Option Value), s₃.heap = h8 ∧ s₃.toks = tk8 ∧ s₃.gens = (G.setIfInBounds s.gens.size .running).setIfInBounds s.gens.size gs' ∧ s₃.drawn = s.drawn ∧ s₃.os = s.os ∧
      Fr s.heap L h8 (fun y => if y = Str.ofString "widths" then some (.ref res) else u8 y) ∧ News s.heap L h8 [(res, W.listOf (List.toArray (vs ++ [.int x t])) (n + 1)), (it, oi), (Lg, oL6), (a, oa)] ∧
      ((f = .ret (.ref res) ∧ j = 1) ∨ (f = .next ∧ 1 < j)))) ?_ ?_
    · k_steps
      · rename_i F8 _ N8 hj
        exact ⟨_, _, _, rfl, rfl, rfl, rfl, rfl, ext2 (by rfl) F8, N8, .inl ⟨rfl, by omega⟩⟩
      · rename_i F8 _ N8 hj
        exact ⟨_, _, _, rfl, rfl, rfl, rfl, rfl, ext2 (by rfl) F8, N8, .inr ⟨rfl, by omega⟩⟩
    · rintro f ⟨_, _, _, _, _⟩ ⟨h8, tk8, u8, q1, q2, q3, q4, q5, F8, N8, hf⟩
      dsimp only at q1 q2 q3 q4 q5
      subst q1 q2 q3 q4 q5
      rcases hf with ⟨rfl, rfl⟩ | ⟨rfl, hj⟩
      · dsimp only
        refine hQ res _ _ _ _ _ F8.keep (NewObj.of N8 (.head _)) hvs2 (gens_set (gens_set hGb rfl) hb')
      · dsimp only
        have N9 : News s.heap L _ [(res, W.listOf (List.toArray (vs ++ [.int x t])) (n + 1))] := fun p hp => N8 p (by simp at hp; subst hp; exact .head _)
        refine ⟨j - 1, by omega, _, _, _, gs', [(it, oi), (Lg, oL6), (a, oa)], vs ++ [.int x t], n + 1, u8, rfl, F8, N9, hvs2, (N8 (a, oa) (by simp)).1, ?_, gens_set (gens_set hGb rfl) hb', ?_, ?_, by omega, by omega⟩
        · exact setGen_self (s := { s with gens := G.setIfInBounds s.gens.size .running }) (gs := .running) (setGen_self (s := { s with gens := G }) hG)
        · exact fun p hp => (N8 p (.tail _ hp)).1
        · intro s'' k e
          have z := hres (by omega) s'' k (e (a, oa) (by simp)) (e (Lg, oL6) (by simp)) (e (it, oi) (by simp))
          obtain ⟨i, rfl⟩ : ∃ i, j = i + 1 := ⟨j - 1, by omega⟩
          exact z
  · refine ⟨h4, _, _, gs, [(a, oa), (Lg, oL)], [], 0, _, rfl, F4, N4, .nil, hoa, Array.getElem?_push_size .., ?_, ?_, ?_, by decide, by decide⟩
    · intro y hy
      rcases Array.mem_push.mp hy with q | q
      · exact .inl q
      · subst q; exact .inr hbare
    · intro p hp
      simp only [List.mem_cons, List.not_mem_nil, or_false] at hp
      rcases hp with rfl | rfl
      · exact hoa
      · exact hoL
    · intro s'' k e
      exact hgo _ s'' hh1 k (e (a, oa) (.head _)) (e (Lg, oL) (.tail _ (.head _)))
end
end
section
local macro_rules | `(tactic| walk_at "pad pad") => `(tactic| fail "pad")
local macro_rules | `(tactic| walk_at "pad pad") => `(tactic| fail "pad")
local macro_rules | `(tactic| walk_at "pad pad") => `(tactic| fail "pad")
local macro_rules | `(tactic| walk_at "pad pad") => `(tactic| fail "pad")
theorem fresh_S_strip : True := by w_top off; exact trivial
open PySem PySem.W PyProof.Rows
set_option maxRecDepth 100000
set_option maxHeartbeats 4000000
section
variable {w : World} {A : Around} {s : Shared} {mean : ExcName → Option Value} {mg mb : Str → Option Value} {Q : Value → Shared → Prop} {E : Value → Shared → Prop}
set_option pp.deepTerms false
set_option pp.maxSteps 1500
local macro_rules | `(tactic| walk_at "exec While") => `(tactic| refine stop_intro ?_)
theorem strip_spec {x : Str} {b n : Nat} {p : List Nat} {t1 t2 : Tok}
    (X : (hd.heap_39 w.params).In s.heap) (T : Top hd.view_39 LS mean mg mb s.heap) (hroom : A.depth < recursionLimit)
    (hla : x.length ≤ 1000) (hf : FieldIs x b p)
    (h : ∀ t h' tk, Kept s.heap h' → Q (.str ⟨(stripped b p n).toArray⟩ t) { s with heap := h', toks := tk }) :
    wpAny (model PySem.Challenge.rw_ph0038_01.row.prog w) A (call (.ref 73) [.str x t1, .int (n : Int) t2]) Q E s := by
  revert X; k_fill; intro X
  refine wpAny_call ?_
  have hlen := hf.len
  have hpos : 0 < p.length := List.length_pos_iff.mpr hf.ne
  k_dflt (refine' enterF (binds := [(Str.ofString "s", .str x t1), (Str.ofString "amount", .int (n : Int) t2)]) ?k1 ?k2 ?k3 ?k4 ?k5 ?k6 ?k7 ?_ ?c1 ?c2 ?c3 ?c4; (case k1 => assumption); (case k2 => exact Top.nolimit (by assumption)); (case k3 => assumption); (case k4 => k_is); (case k5 => k_is); (case k6 => exact BindsTo.of_eq rfl); (case k7 => exact locs rfl); (case c1 => exact rfl); (case c2 => exact rfl); (case c3 => exact rfl); (case c4 => decide))
  intro L h₁ F N
  k_steps
  rename_i h2 F2 N2
  unfold Stop
  rw [stM_init] at F2
  refine wp_mid (Mid s.heap L s (fun m news => ∃ (k : Nat) (t3 t4 : Tok), m = stM x t1 (n - k) k t3 t4 ∧ news = [] ∧ k = min n b)) ?_ ?_
  · refine While_inv (fun q m news => ∃ (k : Nat) (t3 t4 : Tok), m = stM x t1 (n - k) k t3 t4 ∧ news = [] ∧ k ≤ n ∧ q = n - k ∧ k ≤ b) (n₀ := n) F2 N2 ⟨0, _, _, by rfl, by rfl, by omega, by omega, by omega⟩ ?_ PassesOwn.never
    rintro q m₁ news₁ h₃ tk₃ F₃ N₃ ⟨k, t3, t4, rfl, rfl, hk, rfl, hkb⟩
    unfold stM at F₃
    have hk0 : (k : Int) < (x.length : Int) := by omega
    k_steps
    · rename_i c1 _ c2 _ _ F4 N4
      rw [stM_next (by omega) (by omega)] at F4
      have hb : k < b := by
        rcases Nat.lt_or_ge k b with q | q
        · exact q
        · obtain ⟨c, e1, e2⟩ := hf.mid q (by omega)
          rw [item_eq e1] at c2; simp [e2] at c2
      exact WhileStep.intro F4 N4 (n' := n - (k + 1)) (by omega) ⟨k + 1, _, _, by rw [Nat.sub_sub], rfl, by omega, rfl, hb⟩
    · rename_i c1 _ c2
      refine Mid.intro F₃ N₃ ⟨k, _, _, rfl, rfl, ?_⟩
      rcases Nat.lt_or_ge k b with q | q
      · rw [item_eq (hf.blank q)] at c2; simp at c2
      · omega
    · rename_i c1
      exact Mid.intro F₃ N₃ ⟨k, _, _, rfl, rfl, by omega⟩
  · rintro _ _ ⟨rfl, h₃, tk₃, m₃, news₃, rfl, F₃, N₃, ⟨k, t3, t4, rfl, rfl, hk⟩⟩
    unfold stM at F₃
    dsimp only
    k_steps
    rename_i h4 F4 N4
    unfold Stop
    rw [stR_init (by rfl)] at F4
    refine wp_mid (Mid s.heap L s (fun m news => ∃ (j : Nat) (t5 t6 : Tok), m = stR x t1 (n - k - j) j k t5 t6 t4 ∧ news = [] ∧ j = min 2 (n - k))) ?_ ?_
    · refine While_inv (fun q m news => ∃ (j : Nat) (t5 t6 : Tok), m = stR x t1 (n - k - j) j k t5 t6 t4 ∧ news = [] ∧ j ≤ n - k ∧ q = n - k - j ∧ j ≤ 2) (n₀ := n - k) F4 N4 ⟨0, _, _, by rfl, by rfl, by omega, by omega, by omega⟩ ?_ PassesOwn.never
      rintro q m₁ news₁ h₅ tk₅ F₅ N₅ ⟨j, t5, t6, rfl, rfl, hj, rfl, hj2⟩
      unfold stR at F₅
      have hk0 : (k : Int) < (x.length : Int) := by omega
      have hk1 : (x.length : Int) - 1 - (j : Int) = ((x.length - 1 - j : Nat) : Int) := by omega
      k_steps
      · rename_i c1 _ c2 _ _ F6 N6
        rw [stR_next (by omega) (by omega)] at F6
        rw [hk1] at c2
        have hb : j < 2 := by
          rcases Nat.lt_or_ge j 2 with q | q
          · exact q
          · obtain ⟨c, e1, e2⟩ := hf.mid (k := x.length - 1 - j) (by omega) (by omega)
            rw [item_eq e1] at c2; simp [e2] at c2
        exact WhileStep.intro F6 N6 (n' := n - k - (j + 1)) (by omega) ⟨j + 1, _, _, by rw [Nat.sub_sub (n - k)], rfl, by omega, rfl, hb⟩
      · rename_i c1 _ c2
        rw [hk1] at c2
        refine Mid.intro F₅ N₅ ⟨j, _, _, rfl, rfl, ?_⟩
        rcases Nat.lt_or_ge j 2 with q | q
        · rw [item_eq (hf.tail (k := x.length - 1 - j) (by omega) (by omega))] at c2; simp at c2
        · omega
      · rename_i c1
        exact Mid.intro F₅ N₅ ⟨j, _, _, rfl, rfl, by omega⟩
    · rintro _ _ ⟨rfl, h₅, tk₅, m₅, news₅, rfl, F₅, N₅, ⟨j, t5, t6, rfl, rfl, hj⟩⟩
      unfold stR at F₅
      dsimp only
      have e : (x.length : Int) - 1 - (j : Int) + 1 = ((x.length - j : Nat) : Int) := by omega
      k_steps
      rw [e, hf.cut hk hj]
      exact h _ _ _ (Fr.keep (by assumption))
end
end
section
theorem fresh_R_zip : True := by w_top off; exact trivial
open PySem PySem.W PyProof.Rows
set_option maxRecDepth 100000
set_option maxHeartbeats 1000000
section
variable {prog : Program} {w : World} {A : Around} {s : Shared} {env : Env} {h₀ : Heap} {na nb : Str} {pa pb pt : Pos} {kt : Nat} {body : List Stmt} {R : Result → Shared → Prop} {m : Str → Option Value} {E : Value → Shared → Prop}
theorem for_zip {l1 l2 : Addr} {xs ys : List Value} (J : Nat → (Str → Option Value) → Prop)
    (hh : A.handled = none) (hxa : env.kindOf na = some .local) (hxb : env.kindOf nb = some .local)
    (hp : (env.scope.kind == .class || (env.scope.kind == .module && env.locals != env.globals)) = false)
    (F : Fr h₀ env.locals s.heap m) (hj : J 0 m) (hl1 : h₀.IsList l1 xs.toArray) (hl2 : h₀.IsList l2 ys.toArray)
    (turn : ∀ (b : Nat) i x y m₁ h tk oz oTI oTO o1 o2, xs[i]? = some x → ys[i]? = some y → J i m₁ → env.locals < b →
      Fr h₀ env.locals h (fun q => if q = nb then some y else if q = na then some x else m₁ q) → News h₀ env.locals h [(b + 4, oz), (b + 2, oTI), (b + 3, oTO), (b, o1), (b + 1, o2)] →
      wpAny (model prog w) A (execs body env) (TurnEnd h₀ env.locals s [(b + 4, oz), (b + 2, oTI), (b + 3, oTO), (b, o1), (b + 1, o2)] (fun m _ => J (i + 1) m)) (fun _ _ => False) { s with heap := h, toks := tk })
    (done : ∀ m₁ h tk, J (min xs.length ys.length) m₁ → Fr h₀ env.locals h m₁ → R (.ok .next) { s with heap := h, toks := tk }) :
    wpAny (model prog w) A (call (.type "zip") [.ref l1, .ref l2]) (fun xv s₁ => wpAny (model prog w) A (pyIter xv) (fun it s₂ => codeAny (model prog w) A (.forLoop (.Tuple [.Name na pa, .Name nb pb] kt pt) it body [] env) R s₂) E s₁) E s := by
  have hls1 : s.heap.IsList l1 xs.toArray := hl1.at fun o e => F.keep l1 o e
  have hls2 : s.heap.IsList l2 ys.toArray := hl2.at fun o e => F.keep l2 o e
  have hlt1 : l1 < h₀.objs.size := by obtain ⟨o, e, _⟩ := hl1; exact Heap.lt_size e
  have hlt2 : l2 < h₀.objs.size := by obtain ⟨o, e, _⟩ := hl2; exact Heap.lt_size e
  have hLs : env.locals < s.heap.objs.size := F.ns.lt
  have hab : h₀.objs.size ≤ env.locals := F.above
  have a1 : l1 < s.heap.objs.size := Nat.lt_trans (Nat.lt_of_lt_of_le hlt1 hab) hLs
  have a2 : l2 < s.heap.objs.size := Nat.lt_trans (Nat.lt_of_lt_of_le hlt2 hab) hLs
  have D : ZipApart (s.heap.objs.size + 4) (s.heap.objs.size + 2) (s.heap.objs.size + 3) s.heap.objs.size (s.heap.objs.size + 1) l1 l2 := zipApart_new a1 a2
  refine call_zip_2 hls1 hls2 fun h' hz hTI hTO hi1 hi2 hsz hk => ?_
  refine wpAny_pyIter_zip hz ?_
  have F' : Fr h₀ env.locals h' m := ⟨F.ns.keeps hk, fun b o e => hk b o (F.keep b o e), F.above⟩
  generalize hB : s.heap.objs.size = B at *
  have W := WalksT.zip2 (prog := prog) (w := w) hh _ _ _ _ _ _ _ D xs.toArray ys.toArray
  have nn : ∀ c, B ≤ c → h₀.get? c = none := fun c hc => Heap.get?_none_of_le (Nat.le_trans hab (Nat.le_trans (Nat.le_of_lt hLs) hc))
  have nl : ∀ c, c < B → c ∉ [B + 4, B + 3, B, B + 1] := by
    intro c hc hm
    have hc' := ltN hc
    simp only [List.mem_cons, List.not_mem_nil, or_false] at hm
    rcases hm with e | e | e | e
    · exact absurd (e ▸ hc) (Nat.not_lt.mpr (Nat.le_add_right _ _))
    · exact absurd (e ▸ hc) (Nat.not_lt.mpr (Nat.le_add_right _ _))
    · exact absurd (e ▸ hc) (Nat.lt_irrefl _)
    · exact absurd (e ▸ hc) (Nat.not_lt.mpr (Nat.le_add_right _ _))
  have mv : ∀ {h h₁ : Heap} {m₁}, Fr h₀ env.locals h m₁ → (∀ c o, c ∉ [B + 4, B + 3, B, B + 1] → h.get? c = some o → h₁.get? c = some o) → Fr h₀ env.locals h₁ m₁ := by
    intro h h₁ m₁ F k
    exact ⟨F.ns.at' fun o e => k _ o (nl _ hLs) e, fun c o e => k c o (nl c (Nat.lt_of_lt_of_le (Heap.lt_size e) (Nat.le_trans hab (Nat.le_of_lt hLs)))) (F.keep c o e), F.above⟩
  have hmin : min xs.toArray.size ys.toArray.size = min xs.length ys.length := by simp
  refine codeAny_forLoop_any (fun k s' => ∃ i h tk m₁, s' = { s with heap := h, toks := tk } ∧ (IsZip h (B + 4) (B + 2) (B + 3) .none ∧ IsPair h (B + 2) (.ref B) (.ref (B + 1)) ∧ (∃ a b, IsPair h (B + 3) a b) ∧ h.IsListIter B l1 i ∧ h.IsListIter (B + 1) l2 i ∧ h.IsList l1 xs.toArray ∧ h.IsList l2 ys.toArray) ∧
    Fr h₀ env.locals h m₁ ∧ J i m₁ ∧ i ≤ min xs.length ys.length ∧ k = min xs.length ys.length - i) ?_ (min xs.length ys.length)
    ⟨0, h', s.toks, m, rfl, ⟨hz, hTI, ⟨_, _, hTO⟩, hi1, hi2, hls1.at fun o e => hk l1 o e, hls2.at fun o e => hk l2 o e⟩, F', hj, Nat.zero_le _, rfl⟩
  rintro k s' ⟨i, h, tk, m₁, rfl, st, F₁, J₁, hi, rfl⟩
  rcases Nat.lt_or_ge i (min xs.length ys.length) with q | q
  · refine W.item i _ _ _ (by rw [hmin]; exact q) st ?_
    rintro T vals h1 tk1 ⟨x, y, hx, hy, rfl⟩ hT hTup mid k1
    have F2 := mv F₁ k1
    refine W.go _ _ _ i T _ _ _ mid ?_
    intro h2 st2 k2
    have F3 := mv F2 k2
    have hT2 : h2.IsTuple T #[x, y] := hTup.at fun o e => k2 T o (W.apart i T h1 mid) e
    refine wpAny_assign_Tuple hh hT2 rfl rfl fun h3 hx3 => ?_
    have k3 : ∀ c o, h2.get? c = some o → h3.get? c = some o := fun c o e => hx3 c o (Nat.ne_of_lt (Heap.lt_size e)) e
    have F4 : Fr h₀ env.locals h3 m₁ := ⟨F3.ns.keeps k3, fun c o e => k3 c o (F3.keep c o e), F3.above⟩
    show wpAny _ A (do holding [y] (assign (.Name na pa) env x); do holding [] (assign (.Name nb pb) env y); pure ()) _ _ _
    refine wpAny_bind (wpAny_holding (wpAny_assign_Name (wpAny_storeName_local hxa F4.ns (fun h4 hn4 hs4 => ?_) hp)))
    refine wpAny_bind (wpAny_holding (wpAny_assign_Name (wpAny_storeName_local hxb hn4 (fun h5 hn5 hs5 => wpAny_pure ?_) hp)))
    have F5 := (F4.set hn4 hs4).set hn5 hs5
    have k5 : ∀ c o, c ≠ env.locals → h2.get? c = some o → h5.get? c = some o := fun c o hc e => hs5.extBut c o hc (hs4.extBut c o hc (k3 c o e))
    have up : ∀ c, B ≤ c → c ≠ env.locals := fun c hc e => absurd (e ▸ hLs) (Nat.not_lt.mpr hc)
    obtain ⟨z1, z2, ⟨a, b, z3⟩, ⟨o1, z4, z4'⟩, ⟨o2, z5, z5'⟩, z6, z7⟩ := st2
    obtain ⟨oz, y1, y1'⟩ : ∃ o, h2.get? (B + 4) = some o ∧ ∀ h : Heap, h.get? (B + 4) = some o → IsZip h (B + 4) (B + 2) (B + 3) .none := ⟨_, z1, fun _ e => e⟩
    obtain ⟨oI, y2, y2'⟩ : ∃ o, h2.get? (B + 2) = some o ∧ ∀ h : Heap, h.get? (B + 2) = some o → IsPair h (B + 2) (.ref B) (.ref (B + 1)) := ⟨_, z2, fun _ e => e⟩
    obtain ⟨oO, y3, y3'⟩ : ∃ o, h2.get? (B + 3) = some o ∧ ∀ h : Heap, h.get? (B + 3) = some o → IsPair h (B + 3) a b := ⟨_, z3, fun _ e => e⟩
    have N5 : News h₀ env.locals h5 [(B + 4, oz), (B + 2, oI), (B + 3, oO), (B, o1), (B + 1, o2)] := by
      intro p hp
      simp only [List.mem_cons, List.not_mem_nil, or_false] at hp
      have r : ∀ c o, B ≤ c → h2.get? c = some o → h5.get? c = some o ∧ c ≠ env.locals ∧ h₀.get? c = none := fun c o hc e => ⟨k5 c o (up c hc) e, up c hc, nn c hc⟩
      rcases hp with rfl | rfl | rfl | rfl | rfl
      · exact r _ _ (Nat.le_add_right _ _) y1
      · exact r _ _ (Nat.le_add_right _ _) y2
      · exact r _ _ (Nat.le_add_right _ _) y3
      · exact r _ _ (Nat.le_refl _) z4
      · exact r _ _ (Nat.le_add_right _ _) z5
    refine wpAny_mono (turn B i x y m₁ h5 _ _ _ _ _ _ (by simpa using hx) (by simpa using hy) J₁ hLs F5 N5) ?_ (fun _ _ e => e.elim)
    rintro f s3 ⟨rfl, h6, tk6, m6, news6, rfl, F6, N6, J6⟩
    refine ⟨min xs.length ys.length - (i + 1), by omega, i + 1, h6, tk6, m6, rfl, ?_, F6, J6, q, rfl⟩
    refine ⟨y1' _ (N6 (B + 4, oz) (by simp)).1, y2' _ (N6 (B + 2, oI) (by simp)).1, ⟨a, b, y3' _ (N6 (B + 3, oO) (by simp)).1⟩, ⟨o1, (N6 (B, o1) (by simp)).1, z4'⟩, ⟨o2, (N6 (B + 1, o2) (by simp)).1, z5'⟩, hl1.at fun o e => F6.keep l1 o e, hl2.at fun o e => F6.keep l2 o e⟩
  · obtain rfl : i = min xs.length ys.length := by omega
    rw [← hmin] at st
    refine W.done _ _ _ st ?_
    intro h1 tk1 k1
    exact wpAny_execs_nil (done m₁ h1 tk1 J₁ (mv F₁ k1))
end
end
section
local macro_rules | `(tactic| walk_at "pad pad") => `(tactic| fail "pad")
theorem fresh_P_rel : True := by w_top off; exact trivial
open PySem PySem.W PyProof.Rows PySem.Builtin PySem.Builtin.Str
set_option maxRecDepth 100000
set_option maxHeartbeats 1000000
/-- the figures of a number below 1000 -/
def digs (d : Nat) : List Nat := if d < 10 then [48 + d] else if d < 100 then [48 + d / 10, 48 + d % 10] else [48 + d / 100, 48 + d / 10 % 10, 48 + d % 10]
theorem digit_sign : ∀ d : Nat, d < 10 → (Nat.digitChar d).toNat = 48 + d := by decide
theorem toDigits1 {d : Nat} (h : d < 10) : (Nat.toDigits 10 d).map Char.toNat = [48 + d] := by
  rw [Nat.toDigits_of_lt_base h]; simp [digit_sign d h]
theorem toDigits_step {d : Nat} (h : 10 ≤ d) : (Nat.toDigits 10 d).map Char.toNat = (Nat.toDigits 10 (d / 10)).map Char.toNat ++ [48 + d % 10] := by
  have hm : d % 10 < 10 := Nat.mod_lt d (by decide)
  have t : Nat.toDigits 10 (d / 10) ++ Nat.toDigits 10 (d % 10) = Nat.toDigits 10 (10 * (d / 10) + d % 10) := Nat.toDigits_append_toDigits (by decide) (by omega) hm
  rw [Nat.div_add_mod] at t
  rw [← t, List.map_append, toDigits1 hm]
theorem text_is {d : Nat} (h : d < 1000) : (Str.ofString (toString (d : Int))).cps.toList = digs d := by
  rw [PySem.W.KIN.signs_num]
  unfold digs
  split
  · exact toDigits1 (by assumption)
  · rw [toDigits_step (by omega)]
    split
    · rw [toDigits1 (by omega)]; rfl
    · rw [toDigits_step (by omega), toDigits1 (by omega), Nat.div_div_eq_div_mul]; rfl
def fig (x : Int) (k : Nat) : Int := ((x.fdiv 3).fdiv (2000 ^ k)).fmod 2000
def figN (x : Int) (k : Nat) : Nat := (fig x k).toNat
/-- the plain number of a part -/
def dig (x : Int) (k : Nat) : Nat := figN x k % 1000
/-- noughts ahead of it -/
def zer (x : Int) (k : Nat) : Nat := figN x k / 1000
def ptext (x : Int) (k : Nat) : Str := ⟨(digs (dig x k)).toArray⟩
def wtext (x : Int) (k : Nat) : Str := ⟨(List.replicate (zer x k) 48 ++ digs (dig x k)).toArray⟩
theorem fig_bounds (x : Int) (k : Nat) : 0 ≤ fig x k ∧ fig x k < 2000 := ⟨Int.fmod_nonneg_of_pos _ (by omega), Int.fmod_lt_of_pos _ (by omega)⟩
theorem fig_is (x : Int) (k : Nat) : fig x k = (figN x k : Int) := by have := fig_bounds x k; unfold figN; omega
theorem figN_lt (x : Int) (k : Nat) : figN x k < 2000 := by have := fig_bounds x k; unfold figN; omega
theorem dig_lt (x : Int) (k : Nat) : dig x k < 1000 := Nat.mod_lt _ (by omega)
theorem zer_le (x : Int) (k : Nat) : zer x k ≤ 1 := by have := figN_lt x k; unfold zer; omega
theorem fig_div (x : Int) (k : Nat) : (fig x k).fdiv 1000 = (zer x k : Int) := by
  rw [fig_is]; unfold zer; rw [Int.fdiv_eq_ediv_of_nonneg _ (by omega)]; omega
theorem fig_mod (x : Int) (k : Nat) : (fig x k).fmod 1000 = (dig x k : Int) := by
  rw [fig_is]; unfold dig; rw [Int.fmod_eq_emod_of_nonneg _ (by omega)]; omega
theorem str_ext {a b : Str} (h : a.cps.toList = b.cps.toList) : a = b := by
  cases a; cases b; congr; exact Array.toList_inj.mp h
theorem ptext_is (x : Int) (k : Nat) : Str.ofString (toString ((fig x k).fmod 1000)) = ptext x k := by
  apply str_ext; rw [fig_mod, text_is (dig_lt x k)]; rfl
theorem digs_len (d : Nat) : 1 ≤ (digs d).length ∧ (digs d).length ≤ 3 := by unfold digs; split <;> (try split) <;> simp
theorem ptext_len (x : Int) (k : Nat) : 1 ≤ (ptext x k).length ∧ (ptext x k).length ≤ 3 := by
  have := digs_len (dig x k); simpa [ptext, Str.length] using this
theorem mul0 (x : Int) (k : Nat) : Txt.mul (Str.ofString "0") ((fig x k).fdiv 1000) = ⟨(List.replicate (zer x k) 48).toArray⟩ := by
  rw [fig_div]
  have := zer_le x k
  have : zer x k = 0 ∨ zer x k = 1 := by omega
  rcases this with e | e <;> rw [e] <;> decide +kernel
theorem wtext_is (x : Int) (k : Nat) : Txt.mul (Str.ofString "0") ((fig x k).fdiv 1000) ++ Str.ofString (toString ((fig x k).fmod 1000)) = wtext x k := by
  rw [mul0, ptext_is]; apply str_ext; rw [Str.cps_append]; simp [ptext, wtext]
theorem wtext_len (x : Int) (k : Nat) : 1 ≤ (wtext x k).length ∧ (wtext x k).length ≤ 4 := by
  have := digs_len (dig x k); have := zer_le x k; simp [wtext, Str.length]; omega
section
variable {prog : Program} {w : World} {A : Around} {E : Value → Shared → Prop} {s : Shared} {Q : Value → Shared → Prop}
theorem add_rel {x : Int} {i : Nat} {t u : Tok} (h : ∀ t' tk, Q (.str (wtext x i) t') { s with toks := tk }) :
    wpAny (model prog w) A (binaryOp .Add (.str (Txt.mul (Str.ofString "0") ((((x.fdiv 3).fdiv (2000 ^ ((i : Nat) : Int).toNat)).fmod 2000).fdiv 1000)) t)
      (.str (Str.ofString (toString ((((x.fdiv 3).fdiv (2000 ^ ((i : Nat) : Int).toNat)).fmod 2000).fmod 1000))) u)) Q E s := by
  rw [Int.toNat_natCast]
  show wpAny (model prog w) A (binaryOp .Add (.str (Txt.mul (Str.ofString "0") ((fig x i).fdiv 1000)) t) (.str (Str.ofString (toString ((fig x i).fmod 1000))) u)) Q E s
  refine PyProof.Rows.add_str (fun t' tk => ?_) ?_
  · rw [wtext_is]; exact h t' tk
  · rw [← Str.length_append, wtext_is]; have := wtext_len x i; rw [sizeLine_eq]; omega
end
theorem strsAre_snoc {vs : List Value} {ss : List Str} (h : StrsAre vs ss) (y : Str) (t : Tok) : StrsAre (vs ++ [.str y t]) (ss ++ [y]) := h.append' (.cons y t .nil)
end
section
local macro_rules | `(tactic| walk_at "pad pad") => `(tactic| fail "pad")
local macro_rules | `(tactic| walk_at "pad pad") => `(tactic| fail "pad")
local macro_rules | `(tactic| walk_at "pad pad") => `(tactic| fail "pad")
local macro_rules | `(tactic| walk_at "pad pad") => `(tactic| fail "pad")
local macro_rules | `(tactic| walk_at "pad pad") => `(tactic| fail "pad")
local macro_rules | `(tactic| walk_at "pad pad") => `(tactic| fail "pad")
theorem fresh_S_back : True := by w_top off; exact trivial
open PySem PySem.W PyProof.Rows
set_option maxRecDepth 100000
set_option maxHeartbeats 4000000
theorem intAt {vs : List Value} {ss : List Int} (h : IntsAre vs ss) {i : Nat} {v : Value} (e : vs[i]? = some v) : ∃ y t, v = .int y t ∧ ss[i]? = some y := by
  have hi : i < vs.length := by
    rcases Nat.lt_or_ge i vs.length with q | q
    · exact q
    · rw [List.getElem?_eq_none q] at e; cases e
  have hl := h.length
  obtain ⟨t, ht⟩ := h.get i ss[i] (by simp [show i < ss.length by omega])
  rw [e] at ht
  cases ht
  exact ⟨_, t, rfl, by simp [show i < ss.length by omega]⟩
theorem strAt' {vs : List Value} {ss : List Str} (h : StrsAre vs ss) {i : Nat} {v : Value} (e : vs[i]? = some v) : ∃ y t, v = .str y t ∧ ss[i]? = some y := by
  have hi : i < vs.length := by
    rcases Nat.lt_or_ge i vs.length with q | q
    · exact q
    · rw [List.getElem?_eq_none q] at e; cases e
  have hl := h.length
  obtain ⟨t, ht⟩ := h.get i ss[i] (by simp [show i < ss.length by omega])
  rw [e] at ht
  cases ht
  exact ⟨_, t, rfl, by simp [show i < ss.length by omega]⟩
theorem ext2' {m : Str → Option Value} {a b : Str} {v1 v2 : Option Value} (h1 : m a = v1) (h2 : m b = v2) : m = fun y => if y = a then v1 else if y = b then v2 else m y := by
  funext y
  by_cases e1 : y = a
  · simp [e1, h1]
  by_cases e2 : y = b
  · simp only [e1, if_false]; simp [e2, h2]
  · simp only [e1, e2, if_false]
theorem ext6 {m : Str → Option Value} {a b c d e f : Str} {v1 v2 v3 v4 v5 v6 : Option Value} (h1 : m a = v1) (h2 : m b = v2) (h3 : m c = v3) (h4 : m d = v4) (h5 : m e = v5) (h6 : m f = v6) :
    m = fun y => if y = a then v1 else if y = b then v2 else if y = c then v3 else if y = d then v4 else if y = e then v5 else if y = f then v6 else m y := by
  funext y
  by_cases e1 : y = a
  · simp [e1, h1]
  by_cases e2 : y = b
  · simp only [e1, if_false]; simp [e2, h2]
  by_cases e3 : y = c
  · simp only [e1, e2, if_false]; simp [e3, h3]
  by_cases e4 : y = d
  · simp only [e1, e2, e3, if_false]; simp [e4, h4]
  by_cases e5 : y = e
  · simp only [e1, e2, e3, e4, if_false]; simp [e5, h5]
  by_cases e6 : y = f
  · simp only [e1, e2, e3, e4, e5, if_false]; simp [e6, h6]
  · simp only [e1, e2, e3, e4, e5, e6, if_false]
section
variable {prog : Program} {w : World} {A : Around} {E : Value → Shared → Prop} {s : Shared} {h₀ : Heap} {L : Addr} {m : Str → Option Value} {news : List (Addr × Obj)}
theorem max_N {a b : Int} {t u : Tok} {Q : Value → Shared → Prop} (hh : A.handled = none) (F : Fr h₀ L s.heap m) (N : News h₀ L s.heap news)
    (h : ∀ t' h' tk, Fr h₀ L h' m → News h₀ L h' news → Q (.int (max a b) t') { s with heap := h', toks := tk }) : wpAny (model prog w) A (call (.builtin "max") [.int a t, .int b u]) Q E s :=
  max_two_N hh F N fun h' tk F' N' => by
    have e : (if b > a then b else a) = max a b := by split <;> omega
    rw [e]; exact h _ h' tk F' N'
theorem min_N {a b : Int} {t u : Tok} {Q : Value → Shared → Prop} (hh : A.handled = none) (F : Fr h₀ L s.heap m) (N : News h₀ L s.heap news)
    (h : ∀ t' h' tk, Fr h₀ L h' m → News h₀ L h' news → Q (.int (min a b) t') { s with heap := h', toks := tk }) : wpAny (model prog w) A (call (.builtin "min") [.int a t, .int b u]) Q E s :=
  min_two_N hh F N fun h' tk F' N' => by
    have e : (if b < a then b else a) = min a b := by split <;> omega
    rw [e]; exact h _ h' tk F' N'
end
theorem left_is {p : Str} {wn k : Nat} (h : p.length ≤ wn) :
    Txt.mul (Str.ofString " ") (max 0 ((wn : Int) - (p.length : Int) - (k : Int))) ++ p ++ Txt.mul (Str.ofString " ") (min 2 (max 0 ((wn : Int) - (p.length : Int) + 2 - (k : Int)))) = ⟨(stripped (wn - p.length) p.cps.toList k).toArray⟩ := by
  apply str_ext
  rw [Str.cps_append, Str.cps_append, sp_is]
  simp only [Array.toList_append, mul_one_list]
  unfold stripped
  have e1 : (max 0 ((wn : Int) - (p.length : Int) - (k : Int))).toNat = wn - p.length - k := by omega
  have e2 : (min 2 (max 0 ((wn : Int) - (p.length : Int) + 2 - (k : Int)))).toNat = min 2 (wn - p.length + 2 - k) := by omega
  rw [e1, e2]
section
variable {w : World} {A : Around} {s : Shared} {mean : ExcName → Option Value} {mg mb : Str → Option Value} {Q : Value → Shared → Prop} {E : Value → Shared → Prop}
set_option pp.deepTerms false
set_option pp.maxSteps 2000
set_option pp.deepTerms.threshold 6
local macro_rules | `(tactic| walk_at "exec For Name Call cons nil") => `(tactic| refine stop_intro ?_)
local macro_rules | `(tactic| walk_at "exec For Tuple Call cons cons cons cons cons nil") => `(tactic| refine stop_intro ?_)
local macro_rules | `(tactic| walk_at "exec For") => `(tactic| refine stop_intro ?_)
local macro_rules | `(tactic| walk_at "call ref") => `(tactic| refine stop_intro ?_)
local macro_rules | `(tactic| walk_at "call type:zip") => `(tactic| refine stop_intro ?_)
local macro_rules | `(tactic| walk_at "call type:range") => `(tactic| refine stop_intro ?_)
local macro_rules | `(tactic| walk_at "pyIter ref") => `(tactic| refine stop_intro ?_)
local macro_rules | `(tactic| walk_at "call builtin:max") => `(tactic| (k_here; k_dflt (refine' max_N ?k1 ?k2 ?k3 ?_; (case k1 => assumption); (case k2 => k_asm); (case k3 => k_asm)); intro t8 h' tk8 F' N'))
local macro_rules | `(tactic| walk_at "call builtin:min") => `(tactic| (k_here; k_dflt (refine' min_N ?k1 ?k2 ?k3 ?_; (case k1 => assumption); (case k2 => k_asm); (case k3 => k_asm)); intro t8 h' tk8 F' N'))
theorem back_spec {line : Str} {lp lw : Addr} {vp vw : List Value} {ps : List Str} {ws : List Nat} {t1 : Tok}
    (X : (hd.heap_39 w.params).In s.heap) (T : Top hd.view_39 LS mean mg mb s.heap) (hroom : A.depth + 3 < recursionLimit) (hh : A.handled = none)
    (hlp : s.heap.IsList lp vp.toArray) (hvp : StrsAre vp ps) (hlw : s.heap.IsList lw vw.toArray) (hvw : IntsAre vw (ws.map fun n : Nat => (n : Int)))
    (hla : line.length ≤ 1000) 
    (hf : ∀ (i w : Nat) (p : Str), ws[i]? = some w → ps[i]? = some p → 1 ≤ p.length ∧ p.length ≤ 3 ∧ p.length ≤ w ∧ w ≤ 5 ∧ (ws.take i).sum ≤ 100 ∧ 
      FieldIs (Txt.slice line (some ((ws.take i).sum : Int)) (some ((ws.take i).sum + w : Int)) ++ Str.ofString "  ") (w - p.length) p.cps.toList)
    (h : ∀ h' tk, Kept s.heap h' → Q (.bool true) { s with heap := h', toks := tk }) :
    wpAny (model PySem.Challenge.rw_ph0038_01.row.prog w) A (call (.ref 94) [.str line t1, .ref lp, .ref lw]) Q E s := by
  have X0 := X
  revert X; k_fill; intro X
  refine wpAny_call ?_
  have hroom1 : A.depth < recursionLimit := by omega
  k_dflt (refine' enterF (binds := [(Str.ofString "line", .str line t1), (Str.ofString "parts", .ref lp), (Str.ofString "widths", .ref lw)]) ?k1 ?k2 ?k3 ?k4 ?k5 ?k6 ?k7 ?_ ?c1 ?c2 ?c3 ?c4; (case k1 => assumption); (case k2 => exact Top.nolimit (by assumption)); (case k3 => assumption); (case k4 => k_is); (case k5 => k_is); (case k6 => exact BindsTo.of_eq rfl); (case k7 => exact locs rfl); (case c1 => exact rfl); (case c2 => exact rfl); (case c3 => exact rfl); (case c4 => decide))
  intro L h₁ F N
  k_steps
  unfold Stop
  refine wpAny_For ?_ (by intro _; rfl)
  k_steps
  unfold Stop
  rename_i F2 N2
  have hsum0 : ((ws.take 0).sum : Int) = 0 := rfl
  refine for_zip (fun i m => ∃ (u : Str → Option Value) (t2 : Tok), m = (fun y => if y = Str.ofString "place" then some (.int ((ws.take i).sum : Int) t2) else if y = Str.ofString "line" then some (.str line t1) else u y)) hh (by rfl) (by rfl) (by rfl) F2 ?_ hlp hlw ?_ ?_
  · refine ⟨fun y => List.lookup y [(Str.ofString "widths", .ref lw), (Str.ofString "parts", .ref lp)], tk, ?_⟩
    funext y
    by_cases e1 : y = Str.ofString "place"
    · simp only [e1, if_true]; rfl
    · simp only [e1, if_false]
      show List.lookup y [(Str.ofString "widths", Value.ref lw), (Str.ofString "parts", Value.ref lp), (Str.ofString "line", Value.str line t1)] = _
      rw [look1, look1, look1]
      by_cases e2 : y = Str.ofString "line"
      · subst e2; simp only [if_true]; rw [if_neg (by decide), if_neg (by decide)]
      · simp only [e2, if_false]; rw [look1, look1]
  · rintro b i x y m₁ h5 tk5 oz oI oO o1 o2 hx hy ⟨u, t2, rfl⟩ hb F5 N5
    obtain ⟨p, tp, rfl, hp⟩ := strAt' hvp hx
    obtain ⟨wi, tw, rfl, hw⟩ := intAt hvw hy
    rw [List.getElem?_map] at hw
    obtain ⟨wn, hwn, rfl⟩ := Option.map_eq_some_iff.mp hw
    obtain ⟨f1, f2, f3, f4, f5, f6⟩ := hf i wn p hwn hp
    have hb' : L < b := ltN hb
    replace F5 : Fr s.heap L h5 _ := F5
    replace N5 : News s.heap L h5 _ := N5
    clear hb
    dsimp only at F5 N5 ⊢
    k_steps
    unfold Stop
    rename_i tf _ _ _ _ F6 N6
    refine wpAny_For ?_ (by intro _; rfl)
    k_steps
    unfold Stop
    refine range1_rows F6 N6 ?_
    intro h7 tk7 ta tb tc R7 F7 N7 K7
    k_steps
    unfold Stop
    rw [show (wn : Int) + 4 = ((wn + 4 : Nat) : Int) by omega] at R7
    refine for_range (n := wn + 4) (fun k m news => ∃ (u : Str → Option Value) (t3 t4 : Tok), m = (fun y => if y = Str.ofString "field" then some (.str (Txt.slice line (some ((ws.take i).sum : Int)) (some ((ws.take i).sum + wn : Int)) ++ Str.ofString "  ") t3) else if y = Str.ofString "blanks" then some (.int ((wn : Int) - (p.length : Int)) t4) else
      if y = Str.ofString "part" then some (.str p tp) else if y = Str.ofString "place" then some (.int ((ws.take i).sum : Int) t2) else if y = Str.ofString "line" then some (.str line t1) else if y = Str.ofString "width" then some (.int (wn : Int) tw) else u y) ∧ news = [(b + 4, oz), (b + 2, oI), (b + 3, oO), (b, o1), (b + 1, o2)]) hh (by omega) (by rfl) (by rfl) R7 F7 N7 ?_ ?_ ?_ ?_
    · exact ⟨_, tf, _, ext6 (by rfl) (by rfl) (by rfl) (by rfl) (by rfl) (by rfl), rfl⟩
    · rintro it hit k m news ⟨u, t3, t4, rfl, rfl⟩ p hp
      simp only [List.mem_cons, List.not_mem_nil, or_false] at hp
      have q := fun (p : Addr × Obj) (h : p ∈ _) => hit p.1 p.2 (N7 p h).1
      rcases hp with rfl | rfl | rfl | rfl | rfl
      · exact Nat.ne_of_lt (q _ (.head _))
      · exact Nat.ne_of_lt (q _ (.tail _ (.head _)))
      · exact Nat.ne_of_lt (q _ (.tail _ (.tail _ (.head _))))
      · exact Nat.ne_of_lt (q _ (.tail _ (.tail _ (.tail _ (.head _)))))
      · exact Nat.ne_of_lt (q _ (.tail _ (.tail _ (.tail _ (.tail _ (.head _))))))
    · rintro it hit k tk8 m₂ news₂ h8 tk9 o3 hk ⟨u2, t3, t4, rfl, rfl⟩ F8 N8
      have q4 := ltN (hit _ _ (N7 _ (.head _)).1)
      clear F7 N7 F6 N6 K7 R7 hit
      dsimp only at q4
      k_steps
      unfold Stop
      rename_i h9 F9 N9
      refine strip_spec (X0.keeps F9.keep) (T.keeps F9.keep) (by simp only [depth_deeper]; omega) (by rw [f6.len]; simp only [Array.length_toList]; have := f2; unfold Str.length at *; omega) f6 ?_
      intro t10 h10 tk10 K10
      have F10 := Fr.kept F9 K10
      have N10 := News.kept N9 K10
      clear F9 N9 K10
      rw [← left_is f3] at *
      k_steps
      · rename_i hc
        rw [bne_self_eq_false] at hc; cases hc
      · exact TurnEnd.intro F10 N10 (fun p hp => hp) ⟨_, t3, t4, ext6 (by rfl) (by rfl) (by rfl) (by rfl) (by rfl) (by rfl), rfl⟩
    · rintro m₂ news₂ h8 tk9 ⟨u2, t3, t4, rfl, rfl⟩ F8 N8
      clear F7 N7 F6 N6 K7 R7
      dsimp only
      k_steps
      rename_i F9 N9
      have hs : ((ws.take (i + 1)).sum : Int) = ((ws.take i).sum : Int) + (wn : Int) := by
        rw [List.take_add_one, hwn]; simp
      refine TurnEnd.intro F9 N9 (news := []) (fun p hp => by simpa using hp) ?_
      rw [hs]
      exact ⟨_, _, ext2' (by rfl) (by rfl)⟩
  · rintro m₁ h5 tk5 ⟨u, t2, rfl⟩ F5
    have N5 := News.nil (h₀ := s.heap) (L := L) (h := h5)
    dsimp only
    k_steps
    exact h _ _ F5.keep
end
end
section
theorem fresh_P_norm : True := by w_top off; exact trivial
open PySem PySem.W PyProof.Rows PySem.Builtin PySem.Builtin.Str
set_option maxRecDepth 100000
set_option maxHeartbeats 1000000
/-- parts with dots between -/
def joinL (c : Nat) : List (List Nat) → List Nat
  | [] => []
  | [a] => a
  | a :: b :: r => a ++ c :: joinL c (b :: r)
theorem join_is (c : Nat) : ∀ ws : List Str, (Str.join ⟨#[c]⟩ ws).cps.toList = joinL c (ws.map (·.cps.toList))
  | [] => by simp [Str.join, joinL]; rfl
  | [a] => by simp [Str.join, joinL]
  | a :: b :: r => by
    have ih := join_is c (b :: r)
    simp only [Str.join, List.map_cons, joinL] at ih ⊢
    rw [Str.cps_append, Str.cps_append]
    simp only [Array.toList_append, ih]
    simp
theorem cut_unique {c : Nat} : ∀ {a b u v : List Nat}, c ∉ a → c ∉ b → a ++ c :: u = b ++ c :: v → a = b ∧ u = v
  | [], [], u, v, _, _, h => by simpa using h
  | [], y :: b, u, v, _, hb, h => by simp at h; exact absurd (by simp [h.1]) hb
  | x :: a, [], u, v, ha, _, h => by simp at h; exact absurd (by simp [h.1]) ha
  | x :: a, y :: b, u, v, ha, hb, h => by
    simp only [List.cons_append, List.cons.injEq] at h
    have := cut_unique (a := a) (b := b) (fun q => ha (.tail _ q)) (fun q => hb (.tail _ q)) h.2
    exact ⟨by rw [h.1, this.1], this.2⟩
theorem joinL_inj {c : Nat} : ∀ {p q : List (List Nat)}, p ≠ [] → q ≠ [] → (∀ a ∈ p, c ∉ a) → (∀ a ∈ q, c ∉ a) → joinL c p = joinL c q → p = q
  | [], _, h, _, _, _, _ => absurd rfl h
  | _ :: _, [], _, h, _, _, _ => absurd rfl h
  | [a], [b], _, _, _, _, h => by simpa [joinL] using h
  | [a], b :: b' :: r, _, _, ha, _, h => by
    simp only [joinL] at h
    exact absurd (by rw [h]; simp) (ha a (by simp))
  | a :: a' :: r, [b], _, _, _, hb, h => by
    simp only [joinL] at h
    exact absurd (by rw [← h]; simp) (hb b (by simp))
  | a :: a' :: r, b :: b' :: t, _, _, ha, hb, h => by
    simp only [joinL] at h
    have := cut_unique (ha a (by simp)) (hb b (by simp)) h
    rw [this.1, joinL_inj (p := a' :: r) (q := b' :: t) (by simp) (by simp) (fun x hx => ha x (.tail _ hx)) (fun x hx => hb x (.tail _ hx)) this.2]
theorem split_ne (x y : Str) : Txt.split x y ≠ [] := by
  unfold Txt.split
  rw [StrLaws.partsBetween_eq]
  obtain ⟨p, r, e⟩ := StrLaws.partsFrom_ne x y.length 0 (occurrences x y 0 x.length (x.length + 1))
  rw [e]; split
  · simp
  · split <;> simp
theorem split_join {ws : List Str} (hn : ws ≠ []) (hf : ∀ y ∈ ws, 46 ∉ y.cps.toList) : Txt.split (Str.join (Str.ofString ".") ws) (Str.ofString ".") = ws := by
  rw [dot_is]
  have h1 := StrLaws.join_split (Str.join ⟨#[46]⟩ ws) ⟨#[46]⟩
  have h2 := StrLaws.split_free (Str.join ⟨#[46]⟩ ws) 46
  have hp := split_ne (Str.join ⟨#[46]⟩ ws) ⟨#[46]⟩
  generalize Txt.split (Str.join ⟨#[46]⟩ ws) ⟨#[46]⟩ = ps at h1 h2 hp
  have e := congrArg (fun y : Str => y.cps.toList) h1
  simp only [join_is] at e
  have := joinL_inj (c := 46) (by simpa using hp) (by simpa using hn) (by simpa using h2) (by simpa using hf) e
  exact (List.map_inj_right (fun a b h => str_ext h)).mp this
/-- a number below 1000, a nought ahead of it or none -/
def NumText (y : Str) (d : Nat) : Prop := d < 1000 ∧ ∃ z, z ≤ 1 ∧ y.cps.toList = List.replicate z 48 ++ digs d
def plainS (d : Nat) : Str := ⟨(digs d).toArray⟩
theorem val_digs {d : Nat} (h : d < 1000) : PySem.NumText.digitsVal (digs d) = d := by
  unfold digs
  split
  · show 0 * 10 + (48 + d - 48) = d; omega
  · split
    · show (0 * 10 + (48 + d / 10 - 48)) * 10 + (48 + d % 10 - 48) = d; omega
    · show ((0 * 10 + (48 + d / 100 - 48)) * 10 + (48 + d / 10 % 10 - 48)) * 10 + (48 + d % 10 - 48) = d; omega
theorem digs_ok {d : Nat} (h : d < 1000) : ∀ c ∈ digs d, 48 ≤ c ∧ c ≤ 57 := by
  intro c hc; unfold digs at hc
  split at hc
  · simp at hc; omega
  · split at hc
    · simp at hc; omega
    · simp at hc; omega
theorem NumText.ok {y : Str} {d : Nat} (h : NumText y d) : ∀ c ∈ y.cps.toList, 48 ≤ c ∧ c ≤ 57 := by
  obtain ⟨hd, z, hz, e⟩ := h
  intro c hc; rw [e] at hc
  rcases List.mem_append.mp hc with q | q
  · have := List.eq_of_mem_replicate q; omega
  · exact digs_ok hd c q
theorem NumText.int {y : Str} {d : Nat} (h : NumText y d) : PySem.intText? y = some (d : Int) := by
  have hok := h.ok
  obtain ⟨hd, z, hz, e⟩ := h
  have hl := digs_len d
  have e2 : y.cps.toList.length = y.length := by simp [Str.length]
  have e3 : y.length ≤ 4 := by rw [← e2, e]; simp; omega
  have := PySem.intText_digits (x := y) hok (by rw [e]; intro q; have q2 := congrArg List.length q; rw [List.length_append, List.length_nil] at q2; omega) (by omega)
  rw [this, e]
  have : z = 0 ∨ z = 1 := by omega
  rcases this with rfl | rfl
  · simp [val_digs hd]
  · simp only [List.replicate_one, List.cons_append, List.nil_append]
    rw [show PySem.NumText.digitsVal (48 :: digs d) = PySem.NumText.digitsVal (digs d) from rfl, val_digs hd]
theorem NumText.nodot {y : Str} {d : Nat} (h : NumText y d) : 46 ∉ y.cps.toList := fun q => by have := h.ok _ q; omega
theorem NumText.len {y : Str} {d : Nat} (h : NumText y d) : 1 ≤ y.length ∧ y.length ≤ 4 := by
  obtain ⟨hd, z, hz, e⟩ := h
  have : y.cps.toList.length = y.length := by simp [Str.length]
  rw [← this, e]; have := digs_len d; simp; omega
theorem NumText.w (x : Int) (k : Nat) : NumText (wtext x k) (dig x k) := ⟨dig_lt x k, zer x k, zer_le x k, rfl⟩
theorem NumText.p (x : Int) (k : Nat) : NumText (ptext x k) (dig x k) := ⟨dig_lt x k, 0, by omega, rfl⟩
theorem plain_is {d : Nat} (h : d < 1000) : Str.ofString (toString (d : Int)) = plainS d := str_ext (text_is h)
/-- texts of numbers, one by one -/
inductive NumTexts : List Str → List Nat → Prop
  | nil : NumTexts [] []
  | cons {y : Str} {d : Nat} {ys : List Str} {ds : List Nat} : NumText y d → NumTexts ys ds → NumTexts (y :: ys) (d :: ds)
theorem NumTexts.length : ∀ {ys ds}, NumTexts ys ds → ys.length = ds.length
  | _, _, .nil => rfl
  | _, _, .cons _ r => by simp [r.length]
theorem NumTexts.get : ∀ {ys ds}, NumTexts ys ds → ∀ (i : Nat) (y : Str), ys[i]? = some y → ∃ d, ds[i]? = some d ∧ NumText y d
  | _, _, .cons h _, 0, y, e => by simp at e; subst e; exact ⟨_, rfl, h⟩
  | _, _, .cons _ r, i + 1, y, e => by simpa using r.get i y (by simpa using e)
theorem NumTexts.mem {ys ds} (h : NumTexts ys ds) {y : Str} (hy : y ∈ ys) : ∃ d, NumText y d := by
  obtain ⟨i, hi⟩ := List.getElem?_of_mem hy
  obtain ⟨d, _, q⟩ := h.get i y hi
  exact ⟨d, q⟩
theorem NumTexts.append : ∀ {ys ds zs es}, NumTexts ys ds → NumTexts zs es → NumTexts (ys ++ zs) (ds ++ es)
  | _, _, _, _, .nil, h => h
  | _, _, _, _, .cons a r, h => .cons a (r.append h)
theorem NumTexts.map {f : Nat → Str} {g : Nat → Nat} (h : ∀ k, NumText (f k) (g k)) : ∀ l : List Nat, NumTexts (l.map f) (l.map g)
  | [] => .nil
  | a :: r => .cons (h a) (NumTexts.map h r)
end
section
local macro_rules | `(tactic| walk_at "pad pad") => `(tactic| fail "pad")
theorem fresh_P_sre : True := by w_top off; exact trivial
open PySem PySem.Sre
set_option maxRecDepth 100000
set_option maxHeartbeats 2000000
/-- the pattern's code -/
def CD : Array Nat := #[14, 4, 0, 1, 4294967295, 17, 0, 7, 14, 24, 10, 1, 4294967295, 13, 5, 22, 48, 57, 0, 1, 15, 17, 15, 13, 11, 9, 0, 26624, 2147483648, 0, 0, 0, 0, 0, 0, 15, 2, 0, 17, 1, 1]
theorem runFor_done {m : M} (h : m.outcome.isSome = true) : ∀ n, M.runFor n m = m
  | 0 => rfl
  | n + 1 => by unfold M.runFor; rw [if_pos h]
theorem runFor_add (a : Nat) : ∀ (n : Nat) (m : M), M.runFor (n + a) m = M.runFor a (M.runFor n m)
  | 0, m => by simp [M.runFor]
  | n + 1, m => by
    rw [show n + 1 + a = (n + a) + 1 by omega]
    by_cases h : m.outcome.isSome = true
    · rw [runFor_done h, runFor_done h, runFor_done h]
    · have e1 : M.runFor (n + a + 1) m = M.runFor (n + a) m.step := by rw [M.runFor, if_neg h]
      have e2 : M.runFor (n + 1) m = M.runFor n m.step := by rw [M.runFor, if_neg h]
      rw [e1, e2]; exact runFor_add a n _
theorem runFor_step {n : Nat} {m m' : M} (h : m.outcome = none) (e : m.step = m') : M.runFor (n + 1) m = M.runFor n m' := by
  rw [M.runFor, h, ← e]; rfl
/-- how the digits' run goes -/
theorem accepts_digit (c : Nat) (seen : Seen) : ∃ sn, accepts CD 13 c seen = .ok (decide (48 ≤ c ∧ c ≤ 57), sn) := by
  by_cases h : 48 ≤ c ∧ c ≤ 57
  · refine ⟨seen.add 22, ?_⟩
    show inSet CD c CD.size 15 true seen = _
    show (if ((decide (48 ≤ c) && decide (c ≤ 57)) = true) then _ else _) = _
    rw [if_pos (by simpa using h)]
    have : decide (48 ≤ c ∧ c ≤ 57) = true := by simpa using h
    rw [this]; rfl
  · refine ⟨(seen.add 22).add 0, ?_⟩
    show inSet CD c CD.size 15 true seen = _
    show (if ((decide (48 ≤ c) && decide (c ≤ 57)) = true) then _ else _) = _
    rw [if_neg (by simpa using h)]
    have : decide (48 ≤ c ∧ c ≤ 57) = false := by simpa using h
    rw [this]; rfl
theorem accepts_sep {c : Nat} (h : c = 46 ∨ c = 95 ∨ c = 43 ∨ c = 45) (seen : Seen) : ∃ sn, accepts CD 23 c seen = .ok (true, sn) := by
  rcases h with rfl | rfl | rfl | rfl <;> exact ⟨_, rfl⟩
def isD (c : Nat) : Bool := decide (48 ≤ c ∧ c ≤ 57)
theorem run_digits (text : Array Nat) : ∀ (n p found : Nat) (seen : Seen), p + n ≤ text.size → ∃ sn, Sre.run CD text 13 n p found seen = .ok (found + (((text.toList.drop p).take n).takeWhile isD).length, sn)
  | 0, p, found, seen, _ => ⟨seen, by simp [Sre.run]⟩
  | n + 1, p, found, seen, hp => by
    obtain ⟨sn, e⟩ := accepts_digit (text.getD p 0) seen
    have hd : text.toList.drop p = text.getD p 0 :: text.toList.drop (p + 1) := by
      rw [List.drop_eq_getElem_cons (by simp; omega)]
      simp [Array.getD, show p < text.size by omega]
    rw [hd, List.take_succ_cons, List.takeWhile_cons]
    unfold Sre.run
    rw [e]
    by_cases h : isD (text.getD p 0) = true
    · obtain ⟨sn2, e2⟩ := run_digits text n (p + 1) (found + 1) sn (by omega)
      refine ⟨sn2, ?_⟩
      have h' : decide (48 ≤ text.getD p 0 ∧ text.getD p 0 ≤ 57) = true := h
      rw [h', if_pos h]
      simp only [List.length_cons]
      show Sre.run CD text 13 n (p + 1) (found + 1) sn = _
      rw [e2]; congr 2; omega
    · refine ⟨sn, ?_⟩
      have h' : decide (48 ≤ text.getD p 0 ∧ text.getD p 0 ≤ 57) = false := by simpa [isD] using h
      rw [h', if_neg h]; rfl
abbrev MM (T : Array Nat) (p pc pos handed : Nat) (marks : Array (Option Nat)) (lm li : Int) (frames : List Sre.Frame) (wt : Nat) (ans : Option Bool) (sn : Seen) : M :=
  { code := CD, text := T, lim := T.size, start := p, lastStart := T.size, pc, pos, handed, outermost := true, marks, lastmark := lm, lastindex := li, frames, weight := wt, answer := ans, seen := sn }
abbrev F0 (p : Nat) : Sre.Frame := { wait := .nextStart, pc := 5, pos := p, outermost := true }
abbrev F1 (p a : Nat) : Sre.Frame := { wait := .nextBranch, pc := a, pos := p, outermost := true, kept := { lastmark := 0, lastindex := -1, whole := false, marks := #[] } }
abbrev F2 (e n : Nat) : Sre.Frame := { wait := .giveBack, pc := 9, pos := e, outermost := true, count := (n : Int), kept := { lastmark := 0, lastindex := -1, whole := false, marks := #[] } }
variable {T : Array Nat} {p e n : Nat} {sn : Seen}
theorem srch (hp : p < T.size) : ∃ sn, forSearch CD T 1 p T.size false = MM T p 5 p p #[none, none] (-1) (-1) [F0 p] 1 none sn := by
  refine ⟨({} : Seen).add 14, ?_⟩
  unfold forSearch
  have h : ¬ (p > T.size || decide (T.size - p < (header CD).1)) = true := by
    rw [show (header CD).1 = 1 from rfl]; simp; omega
  simp only []
  rw [if_neg (by simpa using h)]
  rfl
theorem s_mark0 : M.step (MM T p 5 p p #[none, none] (-1) (-1) [F0 p] 1 none sn) = MM T p 7 p p #[some p, none] 0 (-1) [F0 p] 1 none (sn.add 17) := rfl
theorem s_branch : M.step (MM T p 7 p p #[some p, none] 0 (-1) [F0 p] 1 none sn) = MM T p 9 p p #[some p, none] 0 (-1) [F1 p 8, F0 p] 2 none (sn.add 7) := rfl
theorem s_jump1 : M.step (MM T p 20 e e #[some p, none] 0 (-1) [F2 e n, F1 p 8, F0 p] 3 none sn) = MM T p 38 e e #[some p, none] 0 (-1) [F2 e n, F1 p 8, F0 p] 3 none (sn.add 15) := rfl
theorem s_mark1 : ∃ li, M.step (MM T p 38 e e #[some p, none] 0 (-1) [F2 e n, F1 p 8, F0 p] 3 none sn) = MM T p 40 e e #[some p, some e] 1 li [F2 e n, F1 p 8, F0 p] 3 none (sn.add 17) := ⟨_, rfl⟩
variable {li : Int}
theorem s_succ1 : M.step (MM T p 40 e e #[some p, some e] 1 li [F2 e n, F1 p 8, F0 p] 3 none sn) = MM T p 40 e e #[some p, some e] 1 li [F2 e n, F1 p 8, F0 p] 3 (some true) (sn.add 1) := rfl
theorem s_back1 : M.step (MM T p 40 e e #[some p, some e] 1 li [F2 e n, F1 p 8, F0 p] 3 (some true) sn) = MM T p 9 e e #[some p, some e] 1 li [F1 p 8, F0 p] 2 (some true) sn := rfl
theorem s_back2 {a : Nat} {x : Nat} : M.step (MM T p x e e #[some p, some e] 1 li [F1 p a, F0 p] 2 (some true) sn) = MM T p a p e #[some p, some e] 1 li [F0 p] 1 (some true) sn := rfl
theorem s_back3 {a : Nat} {x : Nat} : M.step (MM T p a x e #[some p, some e] 1 li [F0 p] 1 (some true) sn) = MM T p 5 p e #[some p, some e] 1 li [] 0 (some true) sn := rfl
theorem s_out {a : Nat} {x : Nat} : M.step (MM T p a x e #[some p, some e] 1 li [] 0 (some true) sn) = { MM T p a x e #[some p, some e] 1 li [] 0 (some true) sn with outcome := some .matched } := rfl
/-- the run of figures -/
theorem s_run (hp : p < T.size) (hn : ((T.toList.drop p).takeWhile isD).length = n) (h1 : 1 ≤ n) (hs : T.size ≤ 1000) :
    ∃ sn', M.step (MM T p 9 p p #[some p, none] 0 (-1) [F1 p 8, F0 p] 2 none sn) = MM T p 20 (p + n) (p + n) #[some p, none] 0 (-1) [F2 (p + n) n, F1 p 8, F0 p] 3 none sn' := by
  have hroom : ((T.size : Int) - (p : Int)).toNat = T.size - p := by omega
  have hmin : min 4294967295 (((T.size : Int) - (p : Int)).toNat) = T.size - p := by omega
  obtain ⟨sn', e⟩ := run_digits T (T.size - p) p 0 ((sn.add 24).add 13) (by omega)
  refine ⟨sn', ?_⟩
  have htk : (T.toList.drop p).take (T.size - p) = T.toList.drop p := List.take_of_length_le (by simp)
  rw [htk, hn, Nat.zero_add] at e
  show (if ((1 : Nat) : Int) > (T.size : Int) - (p : Int) then _ else _) = _
  rw [if_neg (by omega)]
  show (match Sre.run CD T 13 (min 4294967295 (((T.size : Int) - (p : Int)).toNat)) p 0 ((sn.add 24).add 13) with | .error why => _ | .ok (n, seen) => _) = _
  rw [hmin, e]
  show (if n < 1 then _ else _) = _
  rw [if_neg (by omega)]
  rfl
theorem s_norun (hp : p < T.size) (hn : ((T.toList.drop p).takeWhile isD).length = 0) :
    ∃ sn', M.step (MM T p 9 p p #[some p, none] 0 (-1) [F1 p 8, F0 p] 2 none sn) = MM T p 9 p p #[some p, none] 0 (-1) [F1 p 8, F0 p] 2 (some false) sn' := by
  have hmin : min 4294967295 (((T.size : Int) - (p : Int)).toNat) ≤ T.size - p := by omega
  generalize hk : min 4294967295 (((T.size : Int) - (p : Int)).toNat) = k at hmin
  obtain ⟨sn', e⟩ := run_digits T k p 0 ((sn.add 24).add 13) (by omega)
  have h0 : (((T.toList.drop p).take k).takeWhile isD).length = 0 := by
    cases hl : T.toList.drop p with
    | nil => simp
    | cons a r =>
      rw [hl] at hn
      cases k with
      | zero => simp
      | succ k =>
        by_cases ha : isD a = true
        · simp [List.takeWhile_cons, ha] at hn
        · simp [List.takeWhile_cons, ha]
  rw [h0] at e
  refine ⟨sn', ?_⟩
  show (if ((1 : Nat) : Int) > (T.size : Int) - (p : Int) then _ else _) = _
  rw [if_neg (by omega)]
  show (match Sre.run CD T 13 (min 4294967295 (((T.size : Int) - (p : Int)).toNat)) p 0 ((sn.add 24).add 13) with | .error why => _ | .ok (n, seen) => _) = _
  rw [hk, e]
  rfl
theorem s_alt : M.step (MM T p 9 p p #[some p, none] 0 (-1) [F1 p 8, F0 p] 2 (some false) sn) = MM T p 23 p p #[some p, none] 0 (-1) [F1 p 22, F0 p] 2 none sn := rfl
theorem s_in (hp : p < T.size) (hc : T.getD p 0 = 46 ∨ T.getD p 0 = 95 ∨ T.getD p 0 = 43 ∨ T.getD p 0 = 45) :
    ∃ sn', M.step (MM T p 23 p p #[some p, none] 0 (-1) [F1 p 22, F0 p] 2 none sn) = MM T p 35 (p + 1) p #[some p, none] 0 (-1) [F1 p 22, F0 p] 2 none sn' := by
  obtain ⟨sn', e⟩ := accepts_sep hc (sn.add 13)
  refine ⟨sn', ?_⟩
  show (if p ≥ T.size then _ else _) = _
  rw [if_neg (by omega)]
  show (match accepts CD 23 (T.getD p 0) (sn.add 13) with | .error why => _ | .ok (false, seen) => _ | .ok (true, seen) => _) = _
  rw [e]
  rfl
theorem s_jump2 {x : Nat} : M.step (MM T p 35 e x #[some p, none] 0 (-1) [F1 p 22, F0 p] 2 none sn) = MM T p 38 e x #[some p, none] 0 (-1) [F1 p 22, F0 p] 2 none (sn.add 15) := rfl
theorem s_mark2 {x : Nat} : ∃ li, M.step (MM T p 38 e x #[some p, none] 0 (-1) [F1 p 22, F0 p] 2 none sn) = MM T p 40 e x #[some p, some e] 1 li [F1 p 22, F0 p] 2 none (sn.add 17) := ⟨_, rfl⟩
theorem s_succ2 {x : Nat} : M.step (MM T p 40 e x #[some p, some e] 1 li [F1 p 22, F0 p] 2 none sn) = MM T p 40 e e #[some p, some e] 1 li [F1 p 22, F0 p] 2 (some true) (sn.add 1) := rfl
/-- what a search finds -/
structure Found (m : M) (p e : Nat) : Prop where
  out : m.outcome = some .matched
  start : m.start = p
  handed : m.handed = e
  marks : m.marks = #[some p, some e]
  lastmark : m.lastmark = 1
theorem found_num (hp : p < T.size) (hn : ((T.toList.drop p).takeWhile isD).length = n) (h1 : 1 ≤ n) (hs : T.size ≤ 1000) : Found (M.runFor 12 (forSearch CD T 1 p T.size false)) p (p + n) := by
  obtain ⟨sn0, e0⟩ := srch hp
  rw [e0, runFor_step rfl s_mark0, runFor_step rfl s_branch]
  obtain ⟨sn1, e1⟩ := s_run (sn := (sn0.add 17).add 7) hp hn h1 hs
  rw [runFor_step rfl e1, runFor_step rfl s_jump1]
  obtain ⟨li, e2⟩ := s_mark1 (T := T) (p := p) (e := p + n) (n := n) (sn := sn1.add 15)
  rw [runFor_step rfl e2, runFor_step rfl s_succ1, runFor_step rfl s_back1, runFor_step rfl s_back2, runFor_step rfl s_back3, runFor_step rfl s_out]
  rw [runFor_done rfl]
  exact ⟨rfl, rfl, rfl, rfl, rfl⟩
theorem found_sep (hp : p < T.size) (hc : T.getD p 0 = 46 ∨ T.getD p 0 = 95 ∨ T.getD p 0 = 43 ∨ T.getD p 0 = 45) : Found (M.runFor 12 (forSearch CD T 1 p T.size false)) p (p + 1) := by
  obtain ⟨sn0, e0⟩ := srch hp
  rw [e0, runFor_step rfl s_mark0, runFor_step rfl s_branch]
  have hn : ((T.toList.drop p).takeWhile isD).length = 0 := by
    rw [List.drop_eq_getElem_cons (by simpa using hp)]
    have : isD T[p] = false := by
      have : T.getD p 0 = T[p] := by simp [Array.getD, hp]
      rw [this] at hc
      unfold isD; simp; omega
    simp [List.takeWhile_cons, this]
  obtain ⟨sn1, e1⟩ := s_norun (sn := (sn0.add 17).add 7) hp hn
  rw [runFor_step rfl e1, runFor_step rfl s_alt]
  obtain ⟨sn2, e2⟩ := s_in (sn := sn1) hp hc
  rw [runFor_step rfl e2, runFor_step rfl s_jump2]
  obtain ⟨li, e3⟩ := s_mark2 (T := T) (p := p) (e := p + 1) (x := p) (sn := sn2.add 15)
  rw [runFor_step rfl e3, runFor_step rfl s_succ2, runFor_step rfl s_back2, runFor_step rfl s_back3, runFor_step rfl s_out]
  exact ⟨rfl, rfl, rfl, rfl, rfl⟩
theorem found_none : (M.runFor 12 (forSearch CD T 1 T.size T.size false)).outcome = some .failed := by
  have : ∃ m, forSearch CD T 1 T.size T.size false = m ∧ m.answer = some false ∧ m.frames = [] ∧ m.outcome = none := by
    refine ⟨_, rfl, ?_⟩
    unfold forSearch
    simp only []
    rw [if_pos (by rw [show (header CD).1 = 1 from rfl]; simp)]
    exact ⟨rfl, rfl, rfl⟩
  obtain ⟨m, e, h1, h2, h3⟩ := this
  rw [e]
  have hs : m.step = { m with outcome := some .failed } := by
    unfold M.step
    rw [h3, h1, h2]; rfl
  rw [runFor_step h3 hs, runFor_done rfl]
end
section
local macro_rules | `(tactic| walk_at "pad pad") => `(tactic| fail "pad")
local macro_rules | `(tactic| walk_at "pad pad") => `(tactic| fail "pad")
theorem fresh_R_sre : True := by w_top off; exact trivial
open PySem PySem.W PyProof.Rows PySem.Builtin PySem.Builtin.Re
set_option maxRecDepth 100000
set_option maxHeartbeats 2000000
section
variable {prog : Program} {w : World} {A : Around} {E : Value → Shared → Prop} {s : Shared}
theorem wp_reDrive {Q : Sre.M → Shared → Prop} : ∀ (k t : Nat) (m : Sre.M), k < t → (Sre.M.runFor (4 * (k + 1)) m).outcome.isSome = true → Q (Sre.M.runFor (4 * (k + 1)) m) s → wpAny (model prog w) A (reDrive t m) Q E s
  | _, 0, _, h, _, _ => absurd h (by omega)
  | k, t + 1, m, h, ho, hQ => by
    unfold reDrive
    simp only []
    by_cases hd : (Sre.M.runFor reTurnSteps m).outcome.isSome = true
    · rw [if_pos hd]
      have e : Sre.M.runFor (4 * (k + 1)) m = Sre.M.runFor reTurnSteps m := by
        rw [show 4 * (k + 1) = reTurnSteps + 4 * k by unfold reTurnSteps; omega, runFor_add, runFor_done hd]
      rw [e] at hQ
      exact wpAny_pure hQ
    · rw [if_neg hd]
      refine wpAny_bind (wpAny_rule ?_)
      cases k with
      | zero => exact absurd ho hd
      | succ k =>
        have e : Sre.M.runFor (4 * (k + 1 + 1)) m = Sre.M.runFor (4 * (k + 1)) (Sre.M.runFor reTurnSteps m) := by
          rw [show 4 * (k + 1 + 1) = reTurnSteps + 4 * (k + 1) by unfold reTurnSteps; omega, runFor_add]
        rw [e] at ho hQ
        exact wp_reDrive k t _ (by omega) ho hQ
theorem wp_runToEnd {Q : Option Sre.M → Shared → Prop} {m m' : Sre.M} (e : Sre.M.runFor 12 m = m') (ho : m'.outcome = some .matched) (hQ : Q (some m') s) : wpAny (model prog w) A (reRunToEnd m) Q E s := by
  unfold reRunToEnd
  refine wpAny_bind (wp_reDrive 2 _ m (by decide) (by rw [show 4 * (2 + 1) = 12 from rfl, e, ho]; rfl) ?_)
  rw [show 4 * (2 + 1) = 12 from rfl, e]
  refine wpAny_bind (wpAny_forIn_list _ (fun _ _ s' => s' = s) _ ?_ ?_ _ _ rfl)
  · rintro i rest b s' rfl
    split
    · exact wpAny_bind (wpAny_rule (wpAny_pure rfl))
    · exact wpAny_pure rfl
  · rintro b s' rfl
    rw [ho]; exact wpAny_pure hQ
theorem wp_runToNone {Q : Option Sre.M → Shared → Prop} {m m' : Sre.M} (e : Sre.M.runFor 12 m = m') (ho : m'.outcome = some .failed) (hQ : Q none s) : wpAny (model prog w) A (reRunToEnd m) Q E s := by
  unfold reRunToEnd
  refine wpAny_bind (wp_reDrive 2 _ m (by decide) (by rw [show 4 * (2 + 1) = 12 from rfl, e, ho]; rfl) ?_)
  rw [show 4 * (2 + 1) = 12 from rfl, e]
  refine wpAny_bind (wpAny_forIn_list _ (fun _ _ s' => s' = s) _ ?_ ?_ _ _ rfl)
  · rintro i rest b s' rfl
    split
    · exact wpAny_bind (wpAny_rule (wpAny_pure rfl))
    · exact wpAny_pure rfl
  · rintro b s' rfl
    rw [ho]; exact wpAny_pure hQ
end
end
section
local macro_rules | `(tactic| walk_at "pad pad") => `(tactic| fail "pad")
local macro_rules | `(tactic| walk_at "pad pad") => `(tactic| fail "pad")
local macro_rules | `(tactic| walk_at "pad pad") => `(tactic| fail "pad")
theorem fresh_R_split : True := by w_top off; exact trivial
open PySem PySem.W PyProof.Rows PySem.Builtin PySem.Builtin.Re
set_option maxRecDepth 100000
set_option maxHeartbeats 2000000
theorem slot_split : Slot "re.Pattern" "split" "re.Pattern.split" :=
  .of (owner := "re.Pattern") (n := "split") (by rw [typeLookup_type, builtinLookup_eq_fast]; kernel_rfl) (by decide +kernel) (by decide +kernel) (by decide +kernel)
    (by first | exact .inl (by decide +kernel) | exact .inr (by decide +kernel)) (by rw [isSubtype_type]; kernel_rfl)
theorem entry_split : entryFor table "re.Pattern.split" = some Builtin.«re.Pattern.split» := entryFor_of_tree (by kernel_rfl)
theorem args_split (a b : Value) : argsOk "re.Pattern.split" ⟨[a, b], []⟩ := by
  unfold argsOk; rfl
abbrev pat36 : Obj := { cls := .type "re.Pattern", data := .fields #[.str (Str.ofString "([0-9]+|[._+-])") 285, .int 32 329, .int 1 0, .none, .none, .ref 35, .int 0 0] }
def codeVals : Array Value := #[.int 14 0, .int 4 0, .int 0 0, .int 1 0, .int 4294967295 0, .int 17 0, .int 0 0, .int 7 0, .int 14 0, .int 24 0, .int 10 0, .int 1 0, .int 4294967295 0, .int 13 0, .int 5 0, .int 22 0, .int 48 0, .int 57 0, .int 0 0, .int 1 0, .int 15 0, .int 17 0, .int 15 0, .int 13 0, .int 11 0, .int 9 0, .int 0 0, .int 26624 0, .int 2147483648 0, .int 0 0, .int 0 0, .int 0 0, .int 0 0, .int 0 0, .int 0 0, .int 15 0, .int 2 0, .int 0 0, .int 17 0, .int 1 0, .int 1 0]
abbrev code35 : Obj := { cls := .type "tuple", data := .seq codeVals }
theorem look36 (P : Params) : (hd.heap_39 P).lookup 36 = some pat36 := by rfl
theorem look35 (P : Params) : (hd.heap_39 P).lookup 35 = some code35 := by rfl
/-- the tokens of a text: runs of figures and single signs -/
inductive IsToks : List Nat → List (List Nat) → Prop
  | nil : IsToks [] []
  | num {ds r : List Nat} {ts : List (List Nat)} : ds ≠ [] → (∀ c ∈ ds, isD c = true) → (∀ c, r.head? = some c → isD c = false) → IsToks r ts → IsToks (ds ++ r) (ds :: ts)
  | sep {c : Nat} {r : List Nat} {ts : List (List Nat)} : (c = 46 ∨ c = 95 ∨ c = 43 ∨ c = 45) → IsToks r ts → IsToks (c :: r) ([c] :: ts)
def splitOf : List (List Nat) → List Str
  | [] => [⟨#[]⟩]
  | t :: ts => ⟨#[]⟩ :: ⟨t.toArray⟩ :: splitOf ts
theorem tok_found {T : Array Nat} {p : Nat} {tok : List Nat} {ts : List (List Nat)} (h : IsToks (T.toList.drop p) (tok :: ts)) (hs : T.size ≤ 1000) :
    Found (Sre.M.runFor 12 (Sre.forSearch CD T 1 p T.size false)) p (p + tok.length) ∧ 1 ≤ tok.length ∧ p + tok.length ≤ T.size ∧ IsToks (T.toList.drop (p + tok.length)) ts ∧ T.extract p (p + tok.length) = tok.toArray := by
  generalize hl : T.toList.drop p = l at h
  have hlen : l.length = T.size - p := by rw [← hl]; simp
  have hex : ∀ r, l = tok ++ r → T.extract p (p + tok.length) = tok.toArray := by
    intro r e
    apply Array.toList_inj.mp
    rw [Array.toList_extract, List.extract_eq_take_drop, hl, e]; simp
  have hdr : ∀ r, l = tok ++ r → T.toList.drop (p + tok.length) = r := by
    intro r e
    rw [← List.drop_drop, hl, e]; simp
  cases h with
  | num h1 h2 h3 h4 =>
    rename_i r
    have hpos : 1 ≤ tok.length := List.length_pos_iff.mpr h1
    have hl2 : (tok ++ r).length = T.size - p := hlen
    rw [List.length_append] at hl2
    have hp : p < T.size := by omega
    refine ⟨found_num hp ?_ hpos hs, hpos, by omega, by rw [hdr r rfl]; exact h4, hex r rfl⟩
    rw [hl, List.takeWhile_append_of_pos h2]
    cases r with
    | nil => simp
    | cons c r => simp [List.takeWhile_cons, h3 c rfl]
  | sep h1 h2 =>
    rename_i c r
    have hl2 : (c :: r).length = T.size - p := hlen
    rw [List.length_cons] at hl2
    have hp : p < T.size := by omega
    have hc : T.getD p 0 = c := by
      have : T.toList[p]? = some c := by
        have := congrArg (·[0]?) hl
        simpa [List.getElem?_drop] using this
      simp only [Array.getElem?_toList] at this
      rw [Array.getElem?_eq_getElem hp] at this
      simp [Array.getD, hp]; exact Option.some.inj this
    exact ⟨found_sep hp (by rw [hc]; exact h1), Nat.le_refl _, by simp; omega, by rw [hdr r rfl]; exact h2, hex r rfl⟩
theorem IsToks.nil_of {l : List Nat} (h : IsToks l []) : l = [] := by cases h; rfl
theorem IsToks.len {l : List Nat} {ts} (h : IsToks l ts) : ts.length ≤ l.length := by
  induction h with
  | nil => simp
  | num h1 _ _ _ ih => have := List.length_pos_iff.mpr h1; simp; omega
  | sep _ _ ih => simp; omega
theorem splitOf_snoc : ∀ ts : List (List Nat), splitOf ts = (ts.flatMap fun t => [⟨#[]⟩, ⟨t.toArray⟩]) ++ [⟨#[]⟩]
  | [] => rfl
  | t :: ts => by simp [splitOf, splitOf_snoc ts]
section
variable {prog : Program} {w : World} {A : Around} {E : Value → Shared → Prop} {s : Shared}
def tgt (x : Str) (t : Tok) : ReTarget := { pattern := .ref 36, string := .str x t, code := CD, text := x.cps, kind := 0, groups := 1, pos := 0, lim := x.cps.size }
theorem code_is : (codeVals.map reRawOf).map (·.toNat) = CD := by decide +kernel
theorem wp_target {x : Str} {t : Tok} {Q : ReTarget → Shared → Prop} (h36 : s.heap.get? 36 = some pat36) (h35 : s.heap.get? 35 = some code35) (h : Q (tgt x t) s) :
    wpAny (model prog w) A (reWholeTarget (.ref 36) (.str x t)) Q E s := by
  unfold reWholeTarget
  refine wpAny_bind (wpAny_fieldsOf h36 rfl ?_)
  show wpAny _ _ (pure (x.cps, 0) >>= _) _ _ _
  refine wpAny_bind (wpAny_pure ?_)
  show wpAny _ _ (reRawItems (.ref 35) >>= _) _ _ _
  unfold reRawItems
  refine wpAny_bind (wpAny_bind (wpAny_seqItems h35 rfl (wpAny_pure ?_)))
  refine wpAny_pure ?_
  have e := code_is
  simp only [Option.getD_some]
  rw [e]
  exact h
theorem wp_slice {T : Array Nat} {b e : Nat} {Q : Value → Shared → Prop} (hs : T.size ≤ 1000) (h : Q (.str ⟨T.extract b e⟩ s.toks) { s with toks := s.toks + 1 }) : wpAny (model prog w) A (reSlice T 0 b e) Q E s := by
  show wpAny _ _ (mkStr ⟨T.extract b e⟩) _ _ _
  refine wpAny_mkStr h ?_
  show (T.extract b e).size ≤ _
  rw [sizeLine_eq, Array.size_extract]; omega
theorem wp_group {x : Str} {t : Tok} {m : Sre.M} {p e : Nat} {Q : Value → Shared → Prop} (hm : Found m p e) (hpe : p ≤ e) (hs : x.cps.size ≤ 1000) (h : Q (.str ⟨x.cps.extract p e⟩ s.toks) { s with toks := s.toks + 1 }) :
    wpAny (model prog w) A (reMachineGroup (tgt x t) m (0 + 1) (pure .none)) Q E s := by
  unfold reMachineGroup
  rw [hm.lastmark, hm.marks]
  show wpAny _ _ (if e < p then reWrongSpan else reSlice x.cps 0 p e) _ _ _
  rw [if_neg (by omega)]
  exact wp_slice hs h
theorem call_split {x : Str} {t : Tok} {ts : List (List Nat)} {Q : Value → Shared → Prop} (h36 : s.heap.get? 36 = some pat36) (h35 : s.heap.get? 35 = some code35)
    (hx : x.length ≤ 1000) (ht : IsToks x.cps.toList ts)
    (h : ∀ vs tk, StrsAre vs (splitOf ts) → Q (.ref s.heap.objs.size) { s with heap := s.heap.push (W.listOf vs.toArray 0), toks := tk }) :
    wpAny (model prog w) A (call (.builtin "re.Pattern.split") [.ref 36, .str x t]) Q E s := by
  have hT : s.TypeIs (.ref 36) "re.Pattern" := ⟨_, h36, rfl⟩
  have hs : x.cps.size ≤ 1000 := hx
  refine wpAny_call_entry slot_split hT entry_split ?_ (args_split _ _)
  unfold «re.Pattern.split»
  dsimp only
  refine wpAny_bind (wpAny_pure ?_)
  show wpAny _ _ (pure 0 >>= _) _ _ s
  refine wpAny_bind (wpAny_pure ?_)
  refine wpAny_bind (wp_target h36 h35 ?_)
  have hlt := ht.len
  refine wpAny_bind (wpAny_mono (wpAny_forIn_list _ (fun (rest : List Nat) (st : Array Value × Nat × Nat × Bool × Int × Bool) (s' : Shared) => ∃ p done left tk, s' = { s with toks := tk } ∧ ts = done ++ left ∧ st.2.1 = p ∧ st.2.2.1 = p ∧ st.2.2.2.1 = false ∧ StrsAre st.1.toList (done.flatMap fun t => [⟨#[]⟩, ⟨t.toArray⟩]) ∧
    IsToks (x.cps.toList.drop p) left ∧ p ≤ x.cps.size ∧ ((st.2.2.2.2.2 = false ∧ left.length + 1 ≤ rest.length) ∨ (st.2.2.2.2.2 = true ∧ left = []))) (fun (st : Array Value × Nat × Nat × Bool × Int × Bool) (s' : Shared) => st.2.2.2.2.2 = true ∧ st.2.2.1 = x.cps.size ∧ ∃ tk, s' = { s with toks := tk } ∧ StrsAre st.1.toList (ts.flatMap fun t => [⟨#[]⟩, ⟨t.toArray⟩])) ?_ ?_ _ _ ?_) ?_ (fun _ _ e => e))
  · rintro i rest ⟨out, start, last, must, n, over⟩ s' ⟨p, done, left, tk, rfl, hts, q1, q2, q3, hout, hleft, hpl, hov⟩
    dsimp only at q1 q2 q3 hout hov ⊢
    subst q1 q2 q3
    rcases hov with ⟨rfl, hrest⟩ | ⟨rfl, rfl⟩
    · simp only [Bool.not_false, if_true]
      show wpAny _ _ (reRunToEnd (Sre.forSearch CD x.cps 1 _ x.cps.size false) >>= _) _ _ _
      cases left with
      | nil =>
        have hp : last = x.cps.size := by
          have := hleft.nil_of
          have := congrArg List.length this
          simp at this; omega
        subst hp
        refine wpAny_bind (wp_runToNone rfl found_none ?_)
        exact wpAny_pure ⟨_, done, [], tk, rfl, hts, rfl, rfl, rfl, hout, hleft, hpl, .inr ⟨rfl, rfl⟩⟩
      | cons tok left =>
        obtain ⟨f1, f2, f3, f4, f5⟩ := tok_found hleft hs
        refine wpAny_bind (wp_runToEnd rfl f1.out ?_)
        dsimp only
        rw [f1.start, f1.handed]
        refine wpAny_bind (wp_slice hs ?_)
        rw [Array.extract_empty_of_stop_le_start (Nat.le_refl _)]
        show wpAny _ _ (forIn (List.range 1) _ _ >>= _) _ _ _
        rw [show List.range 1 = [0] from rfl, List.forIn_cons]
        refine wpAny_bind (wpAny_bind (wpAny_bind (wp_group f1 (by omega) hs ?_)))
        refine wpAny_pure (wpAny_pure ?_)
        rw [f5]
        refine wpAny_pure ⟨_, done ++ [tok], left, _, rfl, by simp [hts], rfl, rfl, ?_, ?_, f4, f3, .inl ⟨rfl, by simpa using hrest⟩⟩
        · show (last + tok.length == last) = false
          exact beq_false_of_ne (by omega)
        · rw [List.flatMap_append]
          simp only [Array.toList_push, List.append_assoc]
          exact hout.append' (.cons _ _ (.cons _ _ .nil))
    · simp only [Bool.not_true, Bool.false_eq_true, if_false]
      exact wpAny_pure ⟨_, done, [], tk, rfl, hts, rfl, rfl, rfl, hout, hleft, hpl, .inr ⟨rfl, rfl⟩⟩
  · rintro ⟨out, start, last, must, n, over⟩ s' ⟨p, done, left, tk, rfl, hts, q1, q2, q3, hout, hleft, hpl, hov⟩
    dsimp only at q1 q2 q3 hout hov ⊢
    subst q1 q2 q3
    rcases hov with ⟨rfl, hrest⟩ | ⟨rfl, rfl⟩
    · simp at hrest
    · refine ⟨rfl, ?_, tk, rfl, by rw [hts, List.append_nil]; exact hout⟩
      have := hleft.nil_of
      have := congrArg List.length this
      simp at this; omega
  · refine ⟨0, [], ts, s.toks, rfl, rfl, rfl, rfl, rfl, .nil, by simpa using ht, by omega, .inl ⟨rfl, ?_⟩⟩
    simp [reMostMatches, tgt]; simp at hlt; omega
  · rintro ⟨out, start, last, must, n, over⟩ s' ⟨h1, h2, tk, rfl, hout⟩
    dsimp only at *
    subst h1 h2
    simp only [Bool.not_true, Bool.false_eq_true, if_false]
    refine wpAny_bind (wp_slice hs ?_)
    refine wpAny_bind (wpAny_newList ?_ ?_)
    · refine wpAny_pure ⟨_, rfl, ?_⟩
      have := h (out.push (.str ⟨#[]⟩ tk)).toList (tk + 1) (by rw [splitOf_snoc]; simp only [Array.toList_push]; exact strsAre_snoc hout _ _)
      have e : (tgt x t).text.extract x.cps.size (tgt x t).lim = #[] := Array.extract_empty_of_stop_le_start (Nat.le_refl _)
      rw [e]
      exact this
    · have := hout.length
      have h2 : ∀ l : List (List Nat), (l.flatMap fun t => [(⟨#[]⟩ : Str), ⟨t.toArray⟩]).length = 2 * l.length := by
        intro l; induction l with
        | nil => rfl
        | cons a r ih => simp [ih]; omega
      rw [h2] at this
      rw [sizeLine_eq]; simp at this hlt ⊢; omega
end
end
section
local macro_rules | `(tactic| walk_at "pad pad") => `(tactic| fail "pad")
local macro_rules | `(tactic| walk_at "pad pad") => `(tactic| fail "pad")
local macro_rules | `(tactic| walk_at "pad pad") => `(tactic| fail "pad")
local macro_rules | `(tactic| walk_at "pad pad") => `(tactic| fail "pad")
theorem fresh_R_int : True := by w_top off; exact trivial
open PySem PySem.W PyProof.Rows PySem.Calls PySem.NumText PySem.W.KIN
set_option maxRecDepth 100000
set_option maxHeartbeats 4000000
theorem typeCall_int2 (a b : Value) : checkTypeCall "int" ⟨[a, b], []⟩ = pure () := by kernel_rfl
theorem newCall_int2 (a b : Value) : checkBuiltinCall "int.__new__" ⟨[.type "int", a, b], []⟩ = pure () := by kernel_rfl
theorem gives_base10 {x : PySem.Str} {u v : Tok} {n : Int} (hl : x.length ≤ 640) (hn : PySem.intText? x = some n) : Gives (Builtin.«int.__new__» ⟨[.type "int", .str x u, .int 10 v], []⟩) (.int n) :=
  .of_wp fun M A E s Q h => by
    obtain ⟨hp, g, d, tk, os⟩ := s
    have k1 := F.conv_sub_int
    have k2 := F.madeHere_int
    have k3 : typeOf (.str x u) = pure (.type "str") := rfl
    have hs : (numSeenOf x).length ≤ 640 := Nat.le_trans (seen_length x) hl
    have hr : (int_private% "readNumeral") 0 10 (numSeenOf x) = (int_private% "Numeral.value") n ∧ ((numSeenOf x).length == (numTextOf x).length) = true := by
      rcases read0 x hs with ⟨m, e1, e2, e3⟩ | ⟨e1, _⟩
      · cases hn.symm.trans e1; exact ⟨e3, e2⟩
      · cases hn.symm.trans e1
    have hk := Hid.mk (And.intro hs hr)
    clear hs hr hl hn
    repeat (any_goals (first
      | assumption
      | ((with_reducible show wpAny _ _ ((int_private% "intFromText") _ _ _) _ _ _); refine wp_text hk.out.1 hk.out.2.1 hk.out.2.2 ?_)
      | wp_step))
    all_goals first | exact ⟨_, rfl, h⟩ | skip
section
variable {prog : Program} {w : World} {A : Around} {E : Value → Shared → Prop} {s : Shared} {Q : Value → Shared → Prop}
theorem call_int10 {x : Str} {t v : Tok} {n : Int} (hn : PySem.intText? x = some n) (hl : x.length ≤ 640) (h : Q (.int n s.toks) { s with toks := s.toks + 1 }) : wpAny (model prog w) A (call (.type "int") [.str x t, .int 10 v]) Q E s :=
  callType_new F.called_int F.newNe_int (typeCall_int2 _ _) (newCall_int2 _ _) (fun obj => F.args_object_init_3 obj _ _) F.entry_int_new (gives_base10 hl hn).meets (show (Made.int n).post _ s from ⟨rfl, h⟩)
end
theorem not_in_signs {y : Str} {d : Nat} (h : NumText y d) : (Builtin.Str.occurrences (Str.ofString "._+-") y 0 (Str.ofString "._+-").length 1).isEmpty = true := by
  cases e : (Builtin.Str.occurrences (Str.ofString "._+-") y 0 (Str.ofString "._+-").length 1).isEmpty with
  | true => rfl
  | false =>
    obtain ⟨i, h1, h2⟩ := (StrLaws.found_iff (Str.ofString "._+-") y).mp (by rw [e]; rfl)
    have hl := h.len.1
    unfold Builtin.Str.subAt at h2
    have h3 := eq_of_beq h2
    have h4 := congrArg Array.toList h3
    rw [Array.toList_extract, List.extract_eq_take_drop, show (Str.ofString "._+-").cps.toList = [46, 95, 43, 45] by decide +kernel] at h4
    have hne : y.cps.toList ≠ [] := by
      intro q
      have q1 : y.cps.toList.length = 0 := by rw [q]; rfl
      have q2 : y.cps.toList.length = y.length := by simp [Str.length]
      omega
    obtain ⟨c, r, hc⟩ : ∃ c r, y.cps.toList = c :: r := by
      cases q : y.cps.toList with
      | nil => exact absurd q hne
      | cons c r => exact ⟨c, r, rfl⟩
    have hok := h.ok c (by rw [hc]; simp)
    have hm : c ∈ ([46, 95, 43, 45] : List Nat) := List.mem_of_mem_drop (List.mem_of_mem_take (by rw [h4, hc]; simp))
    simp at hm
    omega
theorem in_signs {y : Str} (h : y = ⟨#[]⟩ ∨ y = ⟨#[46]⟩ ∨ y = ⟨#[95]⟩ ∨ y = ⟨#[43]⟩ ∨ y = ⟨#[45]⟩) : (Builtin.Str.occurrences (Str.ofString "._+-") y 0 (Str.ofString "._+-").length 1).isEmpty = false ∧ PySem.intText? y = none := by
  rcases h with rfl | rfl | rfl | rfl | rfl <;> decide +kernel
end
section
local macro_rules | `(tactic| walk_at "pad pad") => `(tactic| fail "pad")
local macro_rules | `(tactic| walk_at "pad pad") => `(tactic| fail "pad")
local macro_rules | `(tactic| walk_at "pad pad") => `(tactic| fail "pad")
local macro_rules | `(tactic| walk_at "pad pad") => `(tactic| fail "pad")
local macro_rules | `(tactic| walk_at "pad pad") => `(tactic| fail "pad")
theorem fresh_R_map : True := by w_top off; exact trivial
open PySem PySem.W PyProof.Rows PySem.Builtin
set_option maxRecDepth 100000
set_option maxHeartbeats 1000000
theorem slot_map_next : Slot "map" "__next__" "map.__next__" :=
  .of (owner := "map") (n := "__next__") (by rw [typeLookup_type, builtinLookup_eq_fast]; kernel_rfl) (by decide +kernel) (by decide +kernel) (by decide +kernel)
    (by first | exact .inl (by decide +kernel) | exact .inr (by decide +kernel)) (by rw [isSubtype_type]; kernel_rfl)
theorem entry_map_next : entryFor table "map.__next__" = some Builtin.«map.__next__» := entryFor_of_tree (by kernel_rfl)
theorem owner_map : Manifest.owners.lookup (String.ofList ['p', 'a', 'm'].reverse) = some Manifest.sig_map := by kernel_rfl
theorem args_map_next (a : Value) : argsOk "map.__next__" ⟨[a], []⟩ := by
  unfold argsOk; rw [signature?_of (id := "map.__next__") (n := ['_', '_', 't', 'x', 'e', 'n', '_', '_']) (o := ['p', 'a', 'm']) (by kernel_rfl) owner_map]; kernel_rfl
theorem slot_map_iter : Slot "map" "__iter__" "map.__iter__" :=
  .of (owner := "map") (n := "__iter__") (by rw [typeLookup_type, builtinLookup_eq_fast]; kernel_rfl) (by decide +kernel) (by decide +kernel) (by decide +kernel)
    (by first | exact .inl (by decide +kernel) | exact .inr (by decide +kernel)) (by rw [isSubtype_type]; kernel_rfl)
theorem entry_map_iter : entryFor table "map.__iter__" = some Builtin.«dict_keyiterator.__iter__» :=
  entryFor_alias (id' := "dict_keyiterator.__iter__") (by kernel_rfl) (by first | rfl | decide +kernel | (unfold String.splitOn; simp +decide [String.splitOnAux])) (by decide +kernel) (by kernel_rfl)
theorem args_map_iter (a : Value) : argsOk "map.__iter__" ⟨[a], []⟩ := by
  unfold argsOk; rw [signature?_of (id := "map.__iter__") (n := ['_', '_', 'r', 'e', 't', 'i', '_', '_']) (o := ['p', 'a', 'm']) (by kernel_rfl) owner_map]; kernel_rfl
theorem nolen_map : typeLookup (.type "map") "__len__" = pure none := by rw [typeLookup_type, builtinLookup_eq_fast]; kernel_rfl
theorem nohint_map : typeLookup (.type "map") "__length_hint__" = pure none := by rw [typeLookup_type, builtinLookup_eq_fast]; kernel_rfl
theorem slot_map_init : Slot "map" "__init__" "object.__init__" :=
  .of (owner := "object") (n := "__init__") (by rw [typeLookup_type, builtinLookup_eq_fast]; kernel_rfl) (by decide +kernel) (by decide +kernel) (by decide +kernel)
    (by first | exact .inl (by decide +kernel) | exact .inr (by decide +kernel)) (by rw [isSubtype_type]; kernel_rfl)
theorem mro_map : mroOf (.type "map") = pure [.type "map", .type "object"] := by rw [mroOf_type]; kernel_rfl
theorem lookup_map_new : typeLookup (.type "map") "__new__" = pure (some (.builtin "map.__new__")) := by rw [typeLookup_type, builtinLookup_eq_fast]; kernel_rfl
theorem called_map : TypeCalled "map" "map.__new__" "object.__init__" :=
  ⟨by decide +kernel, by decide +kernel, ⟨_, _, mro_map⟩, madeBy_type mro_map lookup_map_new (by decide +kernel), by decide +kernel, by rw [isSubtype_type]; kernel_rfl, slot_map_init⟩
theorem typeCall_map (a b : Value) : checkTypeCall "map" ⟨[a, b], []⟩ = pure () := by kernel_rfl
theorem newCall_map (a b : Value) : checkBuiltinCall "map.__new__" ⟨[.type "map", a, b], []⟩ = pure () := by kernel_rfl
theorem entry_map_new : entryFor table "map.__new__" = some Builtin.«map.__new__» := entryFor_of_tree (by kernel_rfl)
theorem sub_map : isSubtype (.type "map") (.type "map") = pure true := by rw [isSubtype_type]; kernel_rfl
abbrev mapObj (tp : Addr) (f : Value) : Obj := { cls := .type "map", data := .fields #[.ref tp, f] }
abbrev tup1 (it : Addr) : Obj := { cls := .type "tuple", data := .seq #[.ref it] }
abbrev lit0 (l : Addr) : Obj := { cls := .type "list_iterator", data := .fields #[.ref l, .int 0 0] }
section
variable {prog : Program} {w : World} {A : Around} {E : Value → Shared → Prop} {s : Shared}
theorem pyIter_map {mp tp : Addr} {f : Value} {Q : Value → Shared → Prop} (hm : s.heap.get? mp = some (mapObj tp f)) (h : Q (.ref mp) s) : wpAny (model prog w) A (pyIter (.ref mp)) Q E s := by
  have hT : s.TypeIs (.ref mp) "map" := ⟨_, hm, rfl⟩
  refine wpAny_pyIter_slot hT slot_map_iter (wpAny_call_entry slot_map_iter hT entry_map_iter ?_ (args_map_iter _))
  show wpAny _ _ (ret (.ref mp)) _ _ s
  exact wpAny_pure ⟨_, rfl, "map", _, hT, slot_map_next.lookup, h⟩
theorem meets_map_list (f : Value) (l : Addr) (xs : Array Value) :
    Meets (Builtin.«map.__new__» ⟨[.type "map", f, .ref l], []⟩) (fun _ R s => s.heap.IsList l xs ∧
      R (.ok (.ret (.ref (((s.heap.push (lit0 l)).push (tup1 s.heap.objs.size))).objs.size))) { s with heap := ((s.heap.push (lit0 l)).push (tup1 s.heap.objs.size)).push (mapObj (s.heap.push (lit0 l)).objs.size f) }) :=
  .of_wp fun prog w A R s h => by
    obtain ⟨hp, g, d, tk, os⟩ := s; obtain ⟨hl1, h⟩ := h
    have hsub := sub_map
    have hL1 : Heap.IsList (Shared.heap ⟨hp, g, d, tk, os⟩) l xs := hl1
    wp_walk using wpAny_pyIter_list hL1
    exact ⟨_, rfl, h⟩
theorem meets_map_map (f g : Value) (mp tp : Addr) :
    Meets (Builtin.«map.__new__» ⟨[.type "map", f, .ref mp], []⟩) (fun _ R s => s.heap.get? mp = some (mapObj tp g) ∧
      R (.ok (.ret (.ref (s.heap.push (tup1 mp)).objs.size))) { s with heap := (s.heap.push (tup1 mp)).push (mapObj s.heap.objs.size f) }) :=
  .of_wp fun prog w A R s h => by
    obtain ⟨hp, g, d, tk, os⟩ := s; obtain ⟨hl1, h⟩ := h
    have hsub := sub_map
    have hL1 : (Shared.heap ⟨hp, g, d, tk, os⟩).get? mp = some (mapObj tp _) := hl1
    wp_walk using pyIter_map hL1
    exact ⟨_, rfl, h⟩
theorem call_map_list {f : Value} {l : Addr} {xs : Array Value} {Q : Value → Shared → Prop} (hl : s.heap.IsList l xs)
    (h : ∀ h' it tp mp, NewObj s.heap h' it (lit0 l) → NewObj s.heap h' tp (tup1 it) → NewObj s.heap h' mp (mapObj tp f) → it < tp → tp < mp → (∀ a o, s.heap.get? a = some o → a < it) → (∀ b o, s.heap.get? b = some o → h'.get? b = some o) → Q (.ref mp) { s with heap := h' }) :
    wpAny (model prog w) A (call (.type "map") [f, .ref l]) Q E s := by
  have no : ∀ a, s.heap.objs.size ≤ a → s.heap.get? a = none := fun a ha => by
    cases e : s.heap.get? a with
    | none => rfl
    | some o => exact absurd (Heap.lt_size e) (Nat.not_lt.mpr ha)
  have z1 : (s.heap.push (lit0 l)).objs.size = s.heap.objs.size + 1 := Heap.size_push ..
  have z2 : ((s.heap.push (lit0 l)).push (tup1 s.heap.objs.size)).objs.size = s.heap.objs.size + 2 := by rw [Heap.size_push, z1]
  refine callType_new called_map (by decide) (typeCall_map _ _) (newCall_map _ _) (fun obj => F.args_object_init_3 obj _ _) entry_map_new (meets_map_list f l xs) ⟨hl, ?_⟩
  refine ⟨⟨_, Heap.get?_push_size _ rfl, rfl⟩, h _ s.heap.objs.size (s.heap.push (lit0 l)).objs.size _ ⟨Heap.get?_push_of_some _ (Heap.get?_push_of_some _ (Heap.get?_push_size _ rfl)), no _ (by omega)⟩
    ⟨Heap.get?_push_of_some _ (Heap.get?_push_size _ rfl), no _ (by omega)⟩ ⟨Heap.get?_push_size _ rfl, no _ (by omega)⟩ (by show (_ : Nat) < _; omega) (by show (_ : Nat) < _; omega) (fun a o e => Heap.lt_size e)
    fun b o e => Heap.get?_push_of_some _ (Heap.get?_push_of_some _ (Heap.get?_push_of_some _ e))⟩
theorem call_map_map {f g : Value} {mp tp : Addr} {Q : Value → Shared → Prop} (hm : s.heap.get? mp = some (mapObj tp g))
    (h : ∀ h' tp' mp', NewObj s.heap h' tp' (tup1 mp) → NewObj s.heap h' mp' (mapObj tp' f) → tp' < mp' → (∀ a o, s.heap.get? a = some o → a < tp') → (∀ b o, s.heap.get? b = some o → h'.get? b = some o) → Q (.ref mp') { s with heap := h' }) :
    wpAny (model prog w) A (call (.type "map") [f, .ref mp]) Q E s := by
  have no : ∀ a, s.heap.objs.size ≤ a → s.heap.get? a = none := fun a ha => by
    cases e : s.heap.get? a with
    | none => rfl
    | some o => exact absurd (Heap.lt_size e) (Nat.not_lt.mpr ha)
  have z1 : (s.heap.push (tup1 mp)).objs.size = s.heap.objs.size + 1 := Heap.size_push ..
  refine callType_new called_map (by decide) (typeCall_map _ _) (newCall_map _ _) (fun obj => F.args_object_init_3 obj _ _) entry_map_new (meets_map_map f g mp tp) ⟨hm, ?_⟩
  refine ⟨⟨_, Heap.get?_push_size _ rfl, rfl⟩, h _ s.heap.objs.size _ ⟨Heap.get?_push_of_some _ (Heap.get?_push_size _ rfl), no _ (by omega)⟩ ⟨Heap.get?_push_size _ rfl, no _ (by omega)⟩ (by show (_ : Nat) < _; omega) (fun a o e => Heap.lt_size e)
    fun b o e => Heap.get?_push_of_some _ (Heap.get?_push_of_some _ e)⟩
/-- one draw of a map -/
theorem map_next {mp tp it : Addr} {f : Value} {Q : Value → Shared → Prop} (hm : s.heap.get? mp = some (mapObj tp f)) (ht : s.heap.get? tp = some (tup1 it))
    (hn : wpAny (model prog w) A.in1 (SmallTypes.nextOf (.ref it)) (fun x s₁ => s₁.heap.get? mp = some (mapObj tp f) ∧ wpAny (model prog w) A.in1 (call f [x]) Q E s₁) E s) :
    wpAny (model prog w) A (callSpecial? (.ref mp) (Str.ofString "__next__")) (fun v s' => ∃ y, v = some y ∧ Q y s') E s := by
  have hT : s.TypeIs (.ref mp) "map" := ⟨_, hm, rfl⟩
  refine wpAny_callSpecial?_slot hT slot_map_next (wpAny_call_entry slot_map_next hT entry_map_next ?_ (args_map_next _))
  show wpAny _ _ (field (.ref mp) 0 >>= _) _ _ s
  refine wpAny_bind (wpAny_field hm rfl (x := .ref tp) rfl ?_)
  show wpAny _ _ (seqItems? (.ref tp) >>= _) _ _ s
  refine wpAny_bind (wpAny_seqItems ht rfl ?_)
  dsimp only
  rw [← Array.forIn_toList]
  simp only [List.forIn_cons, List.forIn_nil, bind_assoc]
  refine wpAny_bind (wpAny_holding (wpAny_mono hn ?_ (fun _ _ e => e)))
  rintro x s₁ ⟨hm1, h1⟩
  simp only [pure_bind]
  refine wpAny_bind (wpAny_field hm1 rfl (x := f) rfl ?_)
  refine wpAny_bind (wpAny_holding (wpAny_mono h1 ?_ (fun _ _ e => e)))
  intro v s₂ hv
  exact wpAny_bind (wpAny_letGo (wpAny_pure ⟨v, rfl, v, rfl, hv⟩))
/-- a call that gives, of what is so, what is so, and leaves all as it was -/
def Maps (prog : Program) (w : World) (A : Around) (f : Value) (P P' : Nat → Value → Prop) : Prop :=
  ∀ i x (s : Shared) (Q E : Value → Shared → Prop), P i x → (∀ y h' tk, P' i y → (∀ b o, s.heap.get? b = some o → h'.get? b = some o) → Q y { s with heap := h', toks := tk }) → wpAny (model prog w) A (call f [x]) Q E s
/-- draws, as nextOf sees them -/
structure Dr (prog : Program) (w : World) (A : Around) (it : Addr) (fp wr : List Addr) (n : Nat) (P : Nat → Value → Prop) (St : Nat → Heap → Prop) : Prop where
  sub : ∀ b ∈ wr, b ∈ fp
  frame : ∀ i h h', St i h → (∀ b ∈ fp, ∀ o, h.get? b = some o → h'.get? b = some o) → St i h'
  item : ∀ i (s : Shared) (Q E : Value → Shared → Prop), i < n → St i s.heap →
    (∀ x h' tk, P i x → St (i + 1) h' → (∀ b o, b ∉ wr → s.heap.get? b = some o → h'.get? b = some o) → Q x { s with heap := h', toks := tk }) → wpAny (model prog w) A (SmallTypes.nextOf (.ref it)) Q E s
  done : ∀ (s : Shared) (Q E : Value → Shared → Prop), St n s.heap →
    (∀ h' e, (∀ b o, b ∉ wr → s.heap.get? b = some o → h'.get? b = some o) → (∃ o, h'.get? e = some o ∧ o.cls = .type "StopIteration") → E (.ref e) { s with heap := h' }) → wpAny (model prog w) A (SmallTypes.nextOf (.ref it)) Q E s
theorem Dr.list (hh : A.handled = none) (it l : Addr) (hne : l ≠ it) (items : Array Value) :
    Dr prog w A it [it, l] [it] items.size (fun i v => items[i]? = some v) (fun i h => h.IsListIter it l i ∧ h.IsList l items) where
  sub := fun b hb => by simp at hb; simp [hb]
  frame := fun _ _ _ st hk => ⟨st.1.at fun o e => hk it (by simp) o e, st.2.at fun o e => hk l (by simp) o e⟩
  item := fun i s Q E hi st hQ => by
    refine wpAny_nextOf_list_item st.1 st.2 (x := items[i]) (by simp [hi]) fun h' hit' hs' => ?_
    exact hQ _ h' s.toks (by simp [hi]) ⟨hit', st.2.extBut hs'.extBut hne⟩ (fun b o hb e => (hs'.2 b (by simpa using hb)).trans e)
  done := fun s Q E st hE => wpAny_nextOf_list_end hh st.1 st.2 (by simp) fun h' e x y => hE h' e (fun b o hb z => x b o (by simpa using hb) z) y
theorem Dr.map {it mp tp : Addr} {f : Value} {fp wr : List Addr} {n : Nat} {P P' : Nat → Value → Prop} {St : Nat → Heap → Prop} (D : Dr prog w A.in1 it fp wr n P St) (hf : Maps prog w A.in1 f P P') (hm : mp ∉ wr) (ht : tp ∉ wr) :
    Dr prog w A mp (mp :: tp :: fp) wr n P' (fun i h => h.get? mp = some (mapObj tp f) ∧ h.get? tp = some (tup1 it) ∧ St i h) where
  sub := fun b hb => List.mem_cons_of_mem _ (List.mem_cons_of_mem _ (D.sub b hb))
  frame := fun i h h' st hk => ⟨hk mp (by simp) _ st.1, hk tp (by simp) _ st.2.1, D.frame i h h' st.2.2 fun b hb o e => hk b (by simp [hb]) o e⟩
  item := fun i s Q E hi st hQ => by
    unfold SmallTypes.nextOf
    refine wpAny_bind (wpAny_mono (map_next (Q := Q) st.1 st.2.1 (D.item i s _ _ hi st.2.2 ?_)) ?_ (fun _ _ e => e))
    · intro x h' tk hP hst hk
      refine ⟨hk _ _ hm st.1, hf i x _ _ _ hP ?_⟩
      intro y h'' tk' hy hk'
      exact hQ y h'' tk' hy ⟨hk' _ _ (hk _ _ hm st.1), hk' _ _ (hk _ _ ht st.2.1), D.frame _ _ _ hst fun b _ o e => hk' b o e⟩ fun b o hb e => hk' b o (hk b o hb e)
    · rintro v s' ⟨y, rfl, hy⟩
      exact wpAny_pure hy
  done := fun s Q E st hE => by
    unfold SmallTypes.nextOf
    refine wpAny_bind (wpAny_mono (map_next (Q := Q) st.1 st.2.1 (D.done s _ _ st.2.2 hE)) ?_ (fun _ _ e => e))
    rintro v s' ⟨y, rfl, hy⟩
    exact wpAny_pure hy
theorem Dr.walks {it mp tp : Addr} {f : Value} {fp wr : List Addr} {n : Nat} {P P' : Nat → Value → Prop} {St : Nat → Heap → Prop} (D : Dr prog w A.in1 it fp wr n P St) (hf : Maps prog w A.in1 f P P') (hm : mp ∉ wr) (ht : tp ∉ wr) :
    Walks prog w A mp (mp :: tp :: fp) wr n P' (fun i h => h.get? mp = some (mapObj tp f) ∧ h.get? tp = some (tup1 it) ∧ St i h) where
  sub := fun b hb => List.mem_cons_of_mem _ (List.mem_cons_of_mem _ (D.sub b hb))
  frame := fun i h h' st hk => ⟨hk mp (by simp) _ st.1, hk tp (by simp) _ st.2.1, D.frame i h h' st.2.2 fun b hb o e => hk b (by simp [hb]) o e⟩
  item := fun i s Q E hi st hQ => by
    unfold pyNext
    refine wpAny_bind (wpAny_attempt (wpAny_mono (map_next (Q := fun y s' => Q (some y) s') st.1 st.2.1 (D.item i s _ (fun _ _ => False) hi st.2.2 ?_)) ?_ (fun _ _ e => e.elim)))
    · intro x h' tk hP hst hk
      refine ⟨hk _ _ hm st.1, hf i x _ _ _ hP ?_⟩
      intro y h'' tk' hy hk'
      exact hQ y h'' tk' hy ⟨hk' _ _ (hk _ _ hm st.1), hk' _ _ (hk _ _ ht st.2.1), D.frame _ _ _ hst fun b _ o e => hk' b o e⟩ fun b o hb e => hk' b o (hk b o hb e)
    · rintro v s' ⟨y, rfl, hy⟩
      exact wpAny_pure hy
  done := fun s Q E st hQ => by
    unfold pyNext
    refine wpAny_bind (wpAny_attempt (wpAny_mono (map_next (Q := fun _ _ => False) st.1 st.2.1 (D.done s _ (fun e s' => ∃ e' h', e = .ref e' ∧ s' = { s with heap := h' } ∧ (∀ b o, b ∉ wr → s.heap.get? b = some o → h'.get? b = some o) ∧ ∃ o, h'.get? e' = some o ∧ o.cls = .type "StopIteration") st.2.2 ?_)) ?_ ?_))
    · intro h' e hk he
      exact ⟨e, h', rfl, rfl, hk, he⟩
    · rintro v s' ⟨y, rfl, hy⟩; exact hy.elim
    · rintro e s' ⟨e', h', rfl, rfl, hk, o, ho, hc⟩
      refine wpAny_bind (wpAny_isInstance (T := "StopIteration") (b := true) ⟨o, ho, hc⟩ isSubtype_stop ?_)
      exact wpAny_pure (hQ _ s.toks hk)
  self := fun i s Q E st hQ => pyIter_map st.1 hQ
end
section
variable {prog : Program} {w : World} {A : Around} {E : Value → Shared → Prop} {s : Shared} {R : Result → Shared → Prop}
variable {I : Addr} {fp wr : List Addr} {G : Array GenState → Array GenState → Prop} {n : Nat} {P : Nat → Value → Prop} {St : Nat → Shared → Prop}
theorem extend_map (W : WalksS prog w A.in1 I fp wr G n P St) (hT : ∀ i s, St i s → s.TypeIs (.ref I) "map") (S : Addr) (res : Value) (c₀ : Nat) (hst : St 0 s) (hSf : S ∉ fp) (hI : I ∈ fp)
    (hS : s.heap.get? S = some { cls := .type "list", data := .seq #[] c₀ })
    (hR : ∀ s' acc' c', Moved (S :: wr) G s s' → s'.heap.get? S = some { cls := .type "list", dict := none, data := .seq acc' c', slots := #[] } → ItemsOf P acc' n → R (.ok (.ret res)) s') (hn : n ≤ sizeLine) :
    wpAny (model prog w) A.in1 (Builtin.List.listExtendWith (.ref S) (.ref I) res)
      (fun fin s' => match fin with | .done f => R (.ok f) s' | .again c' => c'.quiet = true ∧ codeAny (model prog w) A c' R s') (fun e s' => R (.error e) s') s := by
  have hSI : S ≠ I := fun e => hSf (e ▸ hI)
  unfold Builtin.List.listExtendWith
  refine wpAny_bind (wpAny_typeOf (hT 0 _ hst) ?_)
  have h1 : Builtin.List.listSameRef (.ref S) (.ref I) = false := by simp [Builtin.List.listSameRef, hSI]
  have h2 : (Value.type "map" == Value.type "list") = false := by decide
  have h3 : (Value.type "map" == Value.type "tuple") = false := by decide
  simp only [h1, h2, h3, Bool.or_false, Bool.false_eq_true, if_false]
  refine wpAny_bind (W.self 0 _ _ _ hst ?_)
  refine wpAny_bind (wpAny_holding ?_)
  unfold Builtin.List.listLengthHint
  refine wpAny_bind (wpAny_specialOf (hT 0 _ hst) nolen_map ?_)
  show wpAny _ A.in1 (specialOf (Value.ref I) (Str.ofString "__length_hint__") >>= _) _ _ _
  refine wpAny_bind (wpAny_specialOf (hT 0 _ hst) nohint_map ?_)
  refine wpAny_pure ?_
  refine wpAny_bind (m := rule "list.extend.makes-room") (wpAny_rule ?_)
  refine wpAny_bind (m := Builtin.List.listTouch (.ref S)) ?_
  show wpAny _ A.in1 (updateSeq S (·.push .none) >>= fun _ => updateSeq S (·.pop)) _ _ _
  refine wpAny_bind (wpAny_updateSeq hS rfl ?_)
  have hS₂ := Heap.get?_update_self (Obj.mapSeq (·.push Value.none)) hS rfl
  refine wpAny_updateSeq (hz := by seq_fits) hS₂ rfl ?_
  have hS₃ := Heap.get?_update_self (Obj.mapSeq (·.pop)) hS₂ rfl
  have oth : ∀ b o, b ≠ S → s.heap.get? b = some o → ((s.heap.update S (Obj.mapSeq (·.push Value.none))).update S (Obj.mapSeq (·.pop))).get? b = some o :=
    fun b o hb e => (Heap.get?_update_other _ _ (Ne.symm hb)).trans ((Heap.get?_update_other _ _ (Ne.symm hb)).trans e)
  refine wpAny_pure ⟨plainId_quiet F.plain_extend_loop _, codeAny_extend_loopS W hn _ hSf _ n 0 _ _ _ rfl (Nat.zero_le _)
    (W.frame 0 s _ s.toks hst (Nat.le_refl _) fun b hb o e => oth b o (fun h => hSf (h ▸ hb)) e) hS₃ (ItemsOf.nil P) fun s' acc' c' hm hS' hacc => ?_⟩
  exact hR s' acc' c' (Moved.trans W.gtrans ((Moved.refl W.grefl).then_heap (Nat.le_refl _) fun b o hb e => oth b o (fun h => hb (h ▸ List.mem_cons_self)) e) hm) hS' hacc
/-- list(m), m a map -/
theorem list_of_map {Q : Value → Shared → Prop} (W : WalksS prog w A.in1.in1 I fp wr G n P St) (hT : ∀ i s, St i s → s.TypeIs (.ref I) "map") (hst : St 0 s) (hfp : ∀ b ∈ fp, b < s.heap.objs.size) (hI : I ∈ fp)
    (hQ : ∀ s' acc' c', Moved (s.heap.objs.size :: wr) G { s with heap := s.heap.push { cls := .type "list", data := .seq #[] } } s' →
      s'.heap.get? s.heap.objs.size = some { cls := .type "list", dict := none, data := .seq acc' c', slots := #[] } → ItemsOf P acc' n → Q (.ref s.heap.objs.size) s') (hn : n ≤ sizeLine) :
    wpAny (model prog w) A (call (.type "list") [.ref I]) Q E s := by
  have hSf : s.heap.objs.size ∉ fp := fun hm => Nat.lt_irrefl _ (hfp _ hm)
  refine callType_codes (Q₁ := fun obj s₁ => obj = .ref s.heap.objs.size ∧ s₁ = { s with heap := s.heap.push { cls := .type "list", data := .seq #[] } }) F.called_list (F.typeCall_list_1 _) F.entry_list_init
    (code_list_new _ ⟨rfl, rfl⟩) fun obj s₁ h₁ => ?_
  obtain ⟨rfl, rfl⟩ := h₁
  have hS : (s.heap.push { cls := .type "list", data := .seq #[] }).get? s.heap.objs.size = some { cls := .type "list", data := .seq #[] } := Heap.get?_push_size _ rfl
  refine ⟨⟨_, hS, rfl⟩, F.args_list_init_2 _ _, ?_⟩
  have hst₁ := W.frame 0 s (s.heap.push { cls := .type "list", data := .seq #[] }) s.toks hst (Nat.le_refl _) fun b _ o e => Heap.get?_push_of_some _ e
  show wpAny _ A.in1.in1 (do let old ← Builtin.List.listItems (.ref s.heap.objs.size); Builtin.List.listUpdate (.ref s.heap.objs.size) (fun _ => #[]); letGo old.toList.reverse; Builtin.List.listExtendWith (.ref s.heap.objs.size) (.ref I) .none) _ _ _
  refine wpAny_bind ?_
  unfold Builtin.List.listItems
  refine wpAny_bind (wpAny_seqItems hS rfl (wpAny_pure ?_))
  refine wpAny_bind (m := Builtin.List.listUpdate (.ref s.heap.objs.size) (fun _ => #[])) (wpAny_updateSeq hS rfl ?_)
  have hS₂ := Heap.get?_update_self (Obj.mapSeq (fun _ => (#[] : Array Value))) hS rfl
  have oth : ∀ b o, b ≠ s.heap.objs.size → (s.heap.push { cls := .type "list", data := .seq #[] }).get? b = some o → ((s.heap.push { cls := .type "list", data := .seq #[] }).update s.heap.objs.size (Obj.mapSeq (fun _ => (#[] : Array Value)))).get? b = some o :=
    fun b o hb e => (Heap.get?_update_other _ _ (Ne.symm hb)).trans e
  refine wpAny_bind (wpAny_letGo ?_)
  refine extend_map W hT _ .none _ (W.frame 0 { s with heap := s.heap.push { cls := .type "list", data := .seq #[] } } _ s.toks hst₁ (Nat.le_refl _) fun b hb o e => oth b o (fun h => hSf (h ▸ hb)) e) hSf hI hS₂ (fun s' acc' c' hm hS' hacc => ?_) hn
  exact ⟨rfl, hQ s' acc' c' (Moved.trans W.gtrans ((Moved.refl W.grefl).then_heap (Nat.le_refl _) fun b o hb e => oth b o (fun h => hb (h ▸ List.mem_cons_self)) e) hm) hS' hacc⟩
end
end
section
local macro_rules | `(tactic| walk_at "pad pad") => `(tactic| fail "pad")
local macro_rules | `(tactic| walk_at "pad pad") => `(tactic| fail "pad")
local macro_rules | `(tactic| walk_at "pad pad") => `(tactic| fail "pad")
local macro_rules | `(tactic| walk_at "pad pad") => `(tactic| fail "pad")
local macro_rules | `(tactic| walk_at "pad pad") => `(tactic| fail "pad")
local macro_rules | `(tactic| walk_at "pad pad") => `(tactic| fail "pad")
local macro_rules | `(tactic| walk_at "pad pad") => `(tactic| fail "pad")
local macro_rules | `(tactic| walk_at "pad pad") => `(tactic| fail "pad")
local macro_rules | `(tactic| walk_at "pad pad") => `(tactic| fail "pad")
local macro_rules | `(tactic| walk_at "pad pad") => `(tactic| fail "pad")
local macro_rules | `(tactic| walk_at "pad pad") => `(tactic| fail "pad")
local macro_rules | `(tactic| walk_at "pad pad") => `(tactic| fail "pad")
local macro_rules | `(tactic| walk_at "pad pad") => `(tactic| fail "pad")
local macro_rules | `(tactic| walk_at "pad pad") => `(tactic| fail "pad")
local macro_rules | `(tactic| walk_at "pad pad") => `(tactic| fail "pad")
local macro_rules | `(tactic| walk_at "pad pad") => `(tactic| fail "pad")
theorem fresh_R_seq : True := by w_top off; exact trivial
open PySem PySem.W PyProof.Rows PySem.Builtin PySem.Builtin.Str
set_option maxRecDepth 100000
set_option maxHeartbeats 1000000
section
variable {prog : Program} {w : World} {A : Around} {E : Value → Shared → Prop} {s : Shared} {Q : Value → Shared → Prop}
theorem join_lit {x : Str} {t : Tok} {D : Addr} {vs : List Value} {ys : List Str} (hl : s.heap.IsList D vs.toArray) (hi : StrsAre vs ys) (hsep : x.length ≤ 16) (hw : (ys.map (·.length)).sum + ys.length ≤ 1048576)
    (h : ∀ t' k, Q (.str (Str.join x ys) t') { s with toks := k }) : wpAny (model prog w) A (call (.builtin "str.join") [.str x t, .ref D]) Q E s :=
  join_listW hl (by simpa using hi) hsep hw fun t' k => by
    have e : Txt.join x ys = Str.join x ys := StrLaws.glued_eq_join x ys
    rw [e]; exact h t' k
end
theorem pick_to (l : List Value) (k : Nat) : kms_pick l none (some (k : Int)) = l.take k := by
  unfold kms_pick kms_lo kms_hi
  simp only [List.drop_zero, Nat.sub_zero]
  rw [if_neg (by omega), Int.toNat_natCast, kmk_take_min]
theorem pick_last (l : List Value) : kms_pick l none (some (-1)) = l.dropLast := by
  unfold kms_pick kms_lo kms_hi
  simp [List.dropLast_eq_take]
theorem sum_le {n : Nat} : ∀ {ys : List Str}, (∀ y ∈ ys, y.length ≤ n) → (ys.map (·.length)).sum ≤ n * ys.length
  | [], _ => by simp
  | y :: ys, h => by
    have h1 := h y (by simp)
    have h2 := sum_le (ys := ys) fun z hz => h z (by simp [hz])
    simp only [List.map_cons, List.sum_cons, List.length_cons, Nat.mul_add, Nat.mul_one]
    omega
theorem plain_len (d : Nat) : 1 ≤ (plainS d).length ∧ (plainS d).length ≤ 3 := by
  have := digs_len d; simpa [plainS, Str.length] using this
theorem plain_weight {ds : List Nat} (h : ds.length ≤ 1000) : ((ds.map plainS).map (·.length)).sum + (ds.map plainS).length ≤ 1048576 := by
  have := sum_le (n := 3) (ys := ds.map plainS) (fun y hy => by obtain ⟨d, _, rfl⟩ := List.mem_map.mp hy; exact (plain_len d).2)
  simp only [List.length_map] at this ⊢
  omega
end
section
local macro_rules | `(tactic| walk_at "pad pad") => `(tactic| fail "pad")
local macro_rules | `(tactic| walk_at "pad pad") => `(tactic| fail "pad")
local macro_rules | `(tactic| walk_at "pad pad") => `(tactic| fail "pad")
local macro_rules | `(tactic| walk_at "pad pad") => `(tactic| fail "pad")
local macro_rules | `(tactic| walk_at "pad pad") => `(tactic| fail "pad")
local macro_rules | `(tactic| walk_at "pad pad") => `(tactic| fail "pad")
local macro_rules | `(tactic| walk_at "pad pad") => `(tactic| fail "pad")
local macro_rules | `(tactic| walk_at "pad pad") => `(tactic| fail "pad")
local macro_rules | `(tactic| walk_at "pad pad") => `(tactic| fail "pad")
local macro_rules | `(tactic| walk_at "pad pad") => `(tactic| fail "pad")
local macro_rules | `(tactic| walk_at "pad pad") => `(tactic| fail "pad")
local macro_rules | `(tactic| walk_at "pad pad") => `(tactic| fail "pad")
local macro_rules | `(tactic| walk_at "pad pad") => `(tactic| fail "pad")
local macro_rules | `(tactic| walk_at "pad pad") => `(tactic| fail "pad")
local macro_rules | `(tactic| walk_at "pad pad") => `(tactic| fail "pad")
local macro_rules | `(tactic| walk_at "pad pad") => `(tactic| fail "pad")
local macro_rules | `(tactic| walk_at "pad pad") => `(tactic| fail "pad")
theorem fresh_S_norm : True := by w_top off; exact trivial
open PySem PySem.W PyProof.Rows
set_option maxRecDepth 100000
set_option maxHeartbeats 4000000
section
variable {w : World} {A : Around} {s : Shared} {mean : ExcName → Option Value} {mg mb : Str → Option Value} {Q : Value → Shared → Prop} {E : Value → Shared → Prop}
theorem maps_int {prog : Program} {vs : List Value} {ss : List Str} {ds : List Nat} (hv : StrsAre vs ss) (hd : NumTexts ss ds) :
    Maps prog w A (.type "int") (fun i v => vs[i]? = some v) (fun i v => ∃ d t, ds[i]? = some d ∧ d < 1000 ∧ v = .int (d : Int) t) := by
  intro i x s Q E hx hQ
  have hi : i < vs.length := by
    rcases Nat.lt_or_ge i vs.length with q | q
    · exact q
    · rw [List.getElem?_eq_none q] at hx; cases hx
  have hl := hv.length
  obtain ⟨t, ht⟩ := hv.get i ss[i] (by simp [show i < ss.length by omega])
  rw [hx] at ht
  cases ht
  obtain ⟨d, e, hn⟩ := hd.get i ss[i] (by simp [show i < ss.length by omega])
  exact KIN.call_text hn.int (by have := hn.len; omega) (hQ _ _ _ ⟨d, _, e, hn.1, rfl⟩ fun _ _ e => e)
theorem log2_small {d : Nat} (h : d < 1000) : ((d : Int)).natAbs.log2 < 1920 := by
  have e : (d : Int).natAbs = d := by omega
  rw [e]
  have h10 : d.log2 < 10 := by
    rcases Nat.eq_zero_or_pos d with q | q
    · subst q; decide
    · exact (Nat.log2_lt (by omega)).mpr (by omega)
  omega
theorem maps_str {prog : Program} {ds : List Nat} :
    Maps prog w A (.type "str") (fun i v => ∃ d t, ds[i]? = some d ∧ d < 1000 ∧ v = .int (d : Int) t) (fun i v => ∃ d t, ds[i]? = some d ∧ v = .str (plainS d) t) := by
  rintro i x s Q E ⟨d, t, e, hd, rfl⟩ hQ
  refine P.str_of_int (log2_small hd) (hQ _ _ _ ⟨d, s.toks, e, ?_⟩ fun _ _ e => e)
  rw [← plain_is hd]
theorem itemsOf_strs : ∀ {ds : List Nat} {ws : List Value}, ws.length = ds.length → (∀ (j : Nat) (v : Value), ws[j]? = some v → ∃ d t, ds[j]? = some d ∧ v = Value.str (plainS d) t) → StrsAre ws (ds.map plainS)
  | [], [], _, _ => .nil
  | [], _ :: _, h, _ => by simp at h
  | _ :: _, [], h, _ => by simp at h
  | d :: ds, v :: ws, hl, h => by
    obtain ⟨d', t, e, rfl⟩ := h 0 v rfl
    cases e
    exact .cons _ _ (itemsOf_strs (by simpa using hl) fun j v e => by simpa using h (j + 1) v (by simpa using e))
theorem list_str_int {prog : Program} {l it tp1 mp1 tp2 mp2 : Addr} {vs : List Value} {ss : List Str} {ds : List Nat} (hv : StrsAre vs ss) (hd : NumTexts ss ds) (hh : A.handled = none)
    (hl : s.heap.IsList l vs.toArray) (hit : s.heap.get? it = some (lit0 l)) (ht1 : s.heap.get? tp1 = some (tup1 it)) (hm1 : s.heap.get? mp1 = some (mapObj tp1 (.type "int")))
    (ht2 : s.heap.get? tp2 = some (tup1 mp1)) (hm2 : s.heap.get? mp2 = some (mapObj tp2 (.type "str"))) (d0 : l ≠ it) (d1 : tp1 ≠ it) (d2 : mp1 ≠ it) (d3 : tp2 ≠ it) (d4 : mp2 ≠ it) (hn : vs.length ≤ 1000)
    (hQ : ∀ S ws c h' tk, s.heap.get? S = none → (∀ b o, b ≠ it → s.heap.get? b = some o → h'.get? b = some o) → h'.get? S = some (W.listOf ws.toArray c) → StrsAre ws (ds.map plainS) → Q (.ref S) { s with heap := h', toks := tk }) :
    wpAny (model prog w) A (call (.type "list") [.ref mp2]) Q E s := by
  have D0 := Dr.list (prog := prog) (w := w) (A := A.in1.in1.in1.in1) hh it l d0 vs.toArray
  have D1 := Dr.map (A := A.in1.in1.in1) (mp := mp1) (tp := tp1) (f := .type "int") D0 (fun i x s Q E h => maps_int hv hd i x s Q E (by simpa using h)) (by simpa using d2) (by simpa using d1)
  have W := (Dr.walks (A := A.in1.in1) (mp := mp2) (tp := tp2) (f := .type "str") D1 maps_str (by simpa using d4) (by simpa using d3)).toS
  have hnone : s.heap.get? s.heap.objs.size = none := by
    cases e : s.heap.get? s.heap.objs.size with
    | none => rfl
    | some o => exact absurd (Heap.lt_size e) (Nat.lt_irrefl _)
  refine list_of_map W (fun i s st => ⟨_, st.1, rfl⟩) ⟨hm2, ht2, hm1, ht1, ⟨_, hit, rfl, rfl⟩, hl⟩ ?_ (by simp) ?_ (by rw [sizeLine_eq]; simp; omega)
  · intro b hb
    simp only [List.mem_cons, List.not_mem_nil, or_false] at hb
    obtain ⟨ol, hol, _⟩ := hl
    rcases hb with rfl | rfl | rfl | rfl | rfl | rfl
    · exact Heap.lt_size hm2
    · exact Heap.lt_size ht2
    · exact Heap.lt_size hm1
    · exact Heap.lt_size ht1
    · exact Heap.lt_size hit
    · exact Heap.lt_size hol
  · rintro ⟨hp', g', dr', tk', os'⟩ acc c hm hS hacc
    obtain ⟨m1, m2, m3, m4, m5⟩ := hm
    dsimp only at m1 m2 m3 m4 m5 hS
    subst m2 m3 m4
    refine hQ _ acc.toList c hp' tk' hnone (fun b o hb e => m1 b o ?_ (Heap.get?_push_of_some _ e)) (by simpa using hS) (itemsOf_strs ?_ ?_)
    · simp only [List.mem_cons, List.not_mem_nil, or_false, not_or]
      exact ⟨(fun q => by subst q; rw [hnone] at e; cases e), hb⟩
    · have h1 := hacc.1
      have h2 := hv.length
      have h3 := hd.length
      simp at h1 ⊢; omega
    · intro j v e
      exact hacc.2 j v (by simpa using e)
set_option pp.deepTerms false
set_option pp.maxSteps 1500
local macro_rules | `(tactic| walk_at "call type:map") => `(tactic| refine stop_intro ?_)
local macro_rules | `(tactic| walk_at "call type:list") => `(tactic| refine stop_intro ?_)
local macro_rules | `(tactic| walk_at "subscriptTail Name Slice ref ref") => `(tactic| (k_here; (with_reducible show wpAny _ _ (subscriptTail _ (PySem.Expr.Slice _ _ none _) (Value.ref _) (Value.ref _)) _ _ _); k_dflt (refine' kms_slice_lit ?F ?N ?l ?p ?q ?e ?_ ?s ?t ?z; (case F => k_asm); (case N => k_asm); (case l => exact News.isList (by assumption) (.head _)); (case p => kmk_part); (case q => kmk_part); (case e => exact pick_to _ 3); (case s => with_unfolding_all rfl); (case t => kmk_pure); (case z => rw [sizeLine_eq, List.size_toArray]; omega)); intro D' h' F' N' l1; (try k_lt l1); (try k_sweep)))
local macro_rules | `(tactic| walk_at "call builtin:str.join") => `(tactic| (k_dflt (refine' join_lit ?k1 ?k2 ?k3 ?k4 ?_; (case k1 => exact News.isList (by assumption) (.head _)); (case k2 => assumption); (case k3 => decide +kernel); (case k4 => assumption)); intro t8 tk8))
theorem norm1_spec {ws : List Str} {ds : List Nat} {t1 : Tok}
    (X : (hd.heap_39 w.params).In s.heap) (T : Top hd.view_39 LS mean mg mb s.heap) (hroom : A.depth < recursionLimit) (hh : A.handled = none)
    (hx : (Str.join (Str.ofString ".") ws).length ≤ 1000) (hn : ws ≠ []) (hws : NumTexts ws ds) (h3 : ws.length ≤ 3)
    (h : ∀ t h' tk, Kept s.heap h' → Q (.str (Str.join (Str.ofString ".") (ds.map plainS)) t) { s with heap := h', toks := tk }) :
    wpAny (model PySem.Challenge.rw_ph0038_01.row.prog w) A (call (.ref 52) [.str (Str.join (Str.ofString ".") ws) t1]) Q E s := by
  revert X; k_fill; intro X
  refine wpAny_call ?_
  generalize hxx : Str.join (Str.ofString ".") ws = x at hx
  k_dflt (refine' enterF (binds := [(Str.ofString "version", .str x t1), (Str.ofString "build", .str (Str.ofString "") 373)]) ?k1 ?k2 ?k3 ?k4 ?k5 ?k6 ?k7 ?_ ?c1 ?c2 ?c3 ?c4; (case k1 => assumption); (case k2 => exact Top.nolimit (by assumption)); (case k3 => assumption); (case k4 => k_is); (case k5 => k_is); (case k6 => exact binds_K (by k_in) rfl (by k_is) rfl rfl rfl); (case k7 => exact locs rfl); (case c1 => exact rfl); (case c2 => exact rfl); (case c3 => exact rfl); (case c4 => decide))
  intro L h₁ F N
  k_steps
  rename_i l1 h1 k1 e1 e2 e3 e4 h2 F2 N2 k2
  unfold Stop
  have hsp : l1.map (·.1) = ws := by rw [e1, ← hxx]; exact split_join hn fun y hy => (hws.mem hy).elim fun d q => q.nodot
  have hva : StrsAre (strValues l1) ws := by rw [← hsp]; exact e2
  refine call_map_list (News.isList N2 (.head _)) ?_
  intro hp3 it tp1 mp1 n1 n2 n3 o1 o2 o3 kk1
  have F3 := Fr.kept F2 kk1
  have N3 := News.kept N2 kk1
  k_steps
  unfold Stop
  refine call_map_map n3.1 ?_
  intro hp4 tp2 mp2 m1 m2 o4 o5 kk2
  have F4 := Fr.kept F3 kk2
  have N4 := News.kept N3 kk2
  clear F3 N3
  k_steps
  unfold Stop
  have il : hp4.IsList _ _ := News.isList N4 (.head _)
  have g1 := kk2 _ _ n1.1
  have g2 := kk2 _ _ n2.1
  have g3 := kk2 _ _ n3.1
  have q0 := o3 _ _ (N2 _ (.head _)).1
  have q1 := o5 _ _ n1.1
  refine list_str_int hva hws hh il g1 g2 g3 m1.1 m2.1 (Nat.ne_of_lt q0) (Nat.ne_of_gt o1) (Nat.ne_of_gt (Nat.lt_trans o1 o2)) (Nat.ne_of_gt q1) (Nat.ne_of_gt (Nat.lt_trans q1 o4)) (by have := hva.length; omega) ?_
  intro S wv c hp5 tk5 hS k5 gS hwv
  have zit := NewObj.notL F2 n1
  have F5 := Fr.keptBut F4 k5 zit.1 zit.2
  have N5 := News.add F4 ⟨gS, hS⟩ (News.nil (h₀ := s.heap) (L := L))
  clear F4 N4 F2 N2 g1 g2 g3 il kk1 kk2
  have hlw : wv.length ≤ 3 := by have := hwv.length; have := hws.length; simp at *; omega
  have hw1 : StrsAre (wv.toArray.toList.take 3) (ds.map plainS) := by simpa [List.take_of_length_le hlw] using hwv
  have hw2 := plain_weight (ds := ds) (by have := hws.length; omega)
  k_steps
  exact h _ _ _ (Fr.keep (by assumption))
local macro_rules | `(tactic| walk_at "truthy str") => `(tactic| ((refine' KXt.truthy_pos (K := 1000) ?k1 ?k2 ?k3 ?_; (case k1 => assumption); (case k2 => assumption); (case k3 => decide)); intro tk8))
local macro_rules | `(tactic| walk_at "call builtin:list.append") => `(tactic| (k_dflt (refine' append_K ?k1 ?k2 ?k3 ?_ ?z; (case k1 => k_asm); (case k2 => k_asm); (case k3 => k_upd); (case z => rw [sizeLine_eq]; simp only [List.size_toArray]; assumption)); intro h' F' N'; (try k_sweep)))
theorem norm2_spec {ws : List Str} {ds : List Nat} {b : Str} {d : Nat} {t1 t2 : Tok}
    (X : (hd.heap_39 w.params).In s.heap) (T : Top hd.view_39 LS mean mg mb s.heap) (hroom : A.depth < recursionLimit) (hh : A.handled = none)
    (hx : (Str.join (Str.ofString ".") ws).length ≤ 1000) (hn : ws ≠ []) (hws : NumTexts ws ds) (hb : NumText b d) (h3 : ws.length ≤ 2)
    (h : ∀ t h' tk, Kept s.heap h' → Q (.str (Str.join (Str.ofString ".") ((ds ++ [d]).map plainS)) t) { s with heap := h', toks := tk }) :
    wpAny (model PySem.Challenge.rw_ph0038_01.row.prog w) A (call (.ref 52) [.str (Str.join (Str.ofString ".") ws) t1, .str b t2]) Q E s := by
  revert X; k_fill; intro X
  refine wpAny_call ?_
  generalize hxx : Str.join (Str.ofString ".") ws = x at hx
  k_dflt (refine' enterF (binds := [(Str.ofString "version", .str x t1), (Str.ofString "build", .str b t2)]) ?k1 ?k2 ?k3 ?k4 ?k5 ?k6 ?k7 ?_ ?c1 ?c2 ?c3 ?c4; (case k1 => assumption); (case k2 => exact Top.nolimit (by assumption)); (case k3 => assumption); (case k4 => k_is); (case k5 => k_is); (case k6 => exact binds_K (by k_in) rfl (by k_is) rfl rfl rfl); (case k7 => exact locs rfl); (case c1 => exact rfl); (case c2 => exact rfl); (case c3 => exact rfl); (case c4 => decide))
  have hb1 := hb.len.1
  have hb2 : b.length ≤ 1000 := by have := hb.len.2; omega
  intro L h₁ F N
  k_steps
  rename_i l1 h1 k1 e1 e2 e3 e4 h2 tkx tky h2b F2 N2
  simp only [List.push_toArray] at N2
  unfold Stop
  have hsp : l1.map (·.1) = ws := by rw [e1, ← hxx]; exact split_join hn fun y hy => (hws.mem hy).elim fun d q => q.nodot
  have hva : StrsAre (strValues l1 ++ [.str b t2]) (ws ++ [b]) := strsAre_snoc (by rw [← hsp]; exact e2) _ _
  have hws2 : NumTexts (ws ++ [b]) (ds ++ [d]) := hws.append (.cons hb .nil)
  have hlen2 : (ds ++ [d]).length ≤ 3 := by have := hws2.length; simp at *; omega
  refine call_map_list (News.isList N2 (.head _)) ?_
  intro hp3 it tp1 mp1 n1 n2 n3 o1 o2 o3 kk1
  have F3 := Fr.kept F2 kk1
  have N3 := News.kept N2 kk1
  k_steps
  unfold Stop
  refine call_map_map n3.1 ?_
  intro hp4 tp2 mp2 m1 m2 o4 o5 kk2
  have F4 := Fr.kept F3 kk2
  have N4 := News.kept N3 kk2
  clear F3 N3
  k_steps
  unfold Stop
  have il : hp4.IsList _ _ := News.isList N4 (.head _)
  have g1 := kk2 _ _ n1.1
  have g2 := kk2 _ _ n2.1
  have g3 := kk2 _ _ n3.1
  have q0 := o3 _ _ (N2 _ (.head _)).1
  have q1 := o5 _ _ n1.1
  refine list_str_int hva hws2 hh il g1 g2 g3 m1.1 m2.1 (Nat.ne_of_lt q0) (Nat.ne_of_gt o1) (Nat.ne_of_gt (Nat.lt_trans o1 o2)) (Nat.ne_of_gt q1) (Nat.ne_of_gt (Nat.lt_trans q1 o4)) (by have := hva.length; simp at *; omega) ?_
  intro S wv c hp5 tk5 hS k5 gS hwv
  have zit := NewObj.notL F2 n1
  have F5 := Fr.keptBut F4 k5 zit.1 zit.2
  have N5 := News.add F4 ⟨gS, hS⟩ (News.nil (h₀ := s.heap) (L := L))
  clear F4 N4 F2 N2 g1 g2 g3 il kk1 kk2
  have hlw : wv.length ≤ 3 := by have := hwv.length; simp at *; omega
  have hw1 : StrsAre (wv.toArray.toList.take 3) ((ds ++ [d]).map plainS) := by simpa [List.take_of_length_le hlw] using hwv
  have hw2 := plain_weight (ds := ds ++ [d]) (by omega)
  k_steps
  exact h _ _ _ (Fr.keep (by assumption))
end
end
section
theorem fresh_S_comp : True := by w_top off; exact trivial
open PySem PySem.W PyProof.Rows
set_option maxRecDepth 100000
set_option maxHeartbeats 4000000
theorem plainAttrs_pat : PlainAttrs "re.Pattern" :=
  ⟨⟨"object.__getattribute__", by rw [typeLookup_type, builtinLookup_eq_fast]; kernel_rfl, by decide +kernel⟩, by rw [typeLookup_type, builtinLookup_eq_fast]; kernel_rfl⟩
theorem type_split : typeOf (.builtin "re.Pattern.split") = pure (.type "method_descriptor") := by show builtinType _ = _; rw [builtinType_eq_fast]; kernel_rfl
/-- what an item of the split adds to the reading -/
def itemVal (y : Str) : List Int := match PySem.intText? y with | some d => [100, d] | none => []
/-- an item of the split -/
def OkItem (y : Str) : Prop := (y = ⟨#[]⟩ ∨ y = ⟨#[46]⟩ ∨ y = ⟨#[95]⟩ ∨ y = ⟨#[43]⟩ ∨ y = ⟨#[45]⟩) ∨ ∃ d, NumText y d
def OkTok (l : List Nat) : Prop := (l = [46] ∨ l = [95] ∨ l = [43] ∨ l = [45]) ∨ ∃ d, NumText ⟨l.toArray⟩ d
theorem okItems {ts : List (List Nat)} (h : ∀ t ∈ ts, OkTok t) : ∀ y ∈ splitOf ts, OkItem y := by
  induction ts with
  | nil => intro y hy; simp [splitOf] at hy; exact .inl (.inl hy)
  | cons t ts ih =>
    intro y hy
    simp only [splitOf, List.mem_cons] at hy
    rcases hy with rfl | rfl | hy
    · exact .inl (.inl rfl)
    · rcases h t (by simp) with (q | q | q | q) | q
      · subst q; exact .inl (.inr (.inl rfl))
      · subst q; exact .inl (.inr (.inr (.inl rfl)))
      · subst q; exact .inl (.inr (.inr (.inr (.inl rfl))))
      · subst q; exact .inl (.inr (.inr (.inr (.inr rfl))))
      · exact .inr q
    · exact ih (fun t ht => h t (by simp [ht])) y hy
theorem strAt {vs : List Value} {ss : List Str} (h : StrsAre vs ss) {i : Nat} {v : Value} (e : vs[i]? = some v) : ∃ y t, v = .str y t ∧ ss[i]? = some y := by
  have hi : i < vs.length := by
    rcases Nat.lt_or_ge i vs.length with q | q
    · exact q
    · rw [List.getElem?_eq_none q] at e; cases e
  have hl := h.length
  obtain ⟨t, ht⟩ := h.get i ss[i] (by simp [show i < ss.length by omega])
  rw [e] at ht
  cases ht
  exact ⟨_, t, rfl, by simp [show i < ss.length by omega]⟩
theorem splitOf_len : ∀ ts : List (List Nat), (splitOf ts).length = 2 * ts.length + 1
  | [] => rfl
  | t :: ts => by simp [splitOf, splitOf_len ts]; omega
theorem itemVals_len (l : List Str) : (l.flatMap itemVal).length ≤ 2 * l.length := by
  induction l with
  | nil => simp
  | cons a r ih =>
    have : (itemVal a).length ≤ 2 := by unfold itemVal; split <;> simp
    simp only [List.flatMap_cons, List.length_append, List.length_cons]; omega
theorem rv_len {x : Str} {ts : List (List Nat)} {rv : List Value} {i : Nat} (hts : IsToks x.cps.toList ts) (hx : x.length ≤ 1000) (l1 : IntsAre rv (((splitOf ts).take i).flatMap itemVal)) : rv.length ≤ 4002 := by
  rw [l1.length]
  have h1 := itemVals_len ((splitOf ts).take i)
  have h2 := hts.len
  have h3 := splitOf_len ts
  have h4 : x.cps.toList.length = x.length := by simp [Str.length]
  rw [List.length_take] at h1
  omega
section
variable {w : World} {A : Around} {s : Shared} {mean : ExcName → Option Value} {mg mb : Str → Option Value} {Q : Value → Shared → Prop} {E : Value → Shared → Prop}
set_option pp.deepTerms false
set_option pp.maxSteps 1500
theorem get_split {prog : Program} {pl : Sem Bool} {Q : Value × List Value → Shared → Prop} (h36 : s.heap.get? 36 = some pat36) (h : Q (.builtin "re.Pattern.split", [.ref 36]) s) :
    wpAny (model prog w) A (getMethod (.ref 36) (Str.ofString "split") pl) Q E s :=
  getMethod_builtin ⟨_, h36, rfl⟩ plainAttrs_pat slot_split type_split (fun a e => by cases e; exact ⟨_, h36, rfl⟩) h
local macro_rules | `(tactic| walk_at "getMethod ref") => `(tactic| ((with_reducible show wpAny _ _ (getMethod (Value.ref 36) _ _) _ _ _); refine get_split (Fr.keep (by assumption) _ _ (by assumption)) ?_))
local macro_rules | `(tactic| walk_at "call builtin:re.Pattern.split") => `(tactic| refine stop_intro ?_)
local macro_rules | `(tactic| walk_at "exec For Name Call cons nil") => `(tactic| refine stop_intro ?_)
local macro_rules | `(tactic| walk_at "call type:int") => `(tactic| refine stop_intro ?_)
local macro_rules | `(tactic| walk_at "call builtin:list.extend") => `(tactic| (k_here; (with_reducible show wpAny _ _ (call (Value.builtin _) [Value.ref _, Value.ref _]) _ _ _); k_dflt (refine' kup_extend ?F ?N ?b rfl ?ne ?U ?d ?z ?y ?_; (case F => k_asm); (case N => k_asm); (case b => k_mem); (case U => k_upd); (case ne => kl_some); (case d => exact extend_door (by rw [sizeLine_eq]; simp only [List.size_toArray, List.length_cons, List.length_nil]; omega)); (case z => rw [sizeLine_eq]; simp only []; omega); (case y => rw [sizeLine_eq]; simp only [List.size_toArray, List.length_cons, List.length_nil]; omega)); intro h' F' N'; (try k_sweep)))
local macro_rules | `(tactic| walk_at "pyIter ref") => `(tactic| refine stop_intro ?_)
theorem comp_spec {x : Str} {ts : List (List Nat)} {t1 : Tok}
    (X : (hd.heap_39 w.params).In s.heap) (T : Top hd.view_39 LS mean mg mb s.heap) (hroom : A.depth < recursionLimit) (hh : A.handled = none)
    (hx : x.length ≤ 1000) (hts : IsToks x.cps.toList ts) (hok0 : ∀ t ∈ ts, OkTok t)
    (h : ∀ l vs n h' tk, Kept s.heap h' → NewObj s.heap h' l (W.listOf (List.toArray vs) n) → IntsAre vs ((splitOf ts).flatMap itemVal) → Q (.ref l) { s with heap := h', toks := tk }) :
    wpAny (model PySem.Challenge.rw_ph0038_01.row.prog w) A (call (.ref 44) [.str x t1]) Q E s := by
  have x36 : s.heap.get? 36 = some pat36 := X _ _ (look36 _)
  have x35 : s.heap.get? 35 = some code35 := X _ _ (look35 _)
  revert X; k_fill; intro X
  refine wpAny_call ?_
  k_dflt (refine' enterF (binds := [(Str.ofString "version", .str x t1)]) ?k1 ?k2 ?k3 ?k4 ?k5 ?k6 ?k7 ?_ ?c1 ?c2 ?c3 ?c4; (case k1 => assumption); (case k2 => exact Top.nolimit (by assumption)); (case k3 => assumption); (case k4 => k_is); (case k5 => k_is); (case k6 => exact BindsTo.of_eq rfl); (case k7 => exact locs rfl); (case c1 => exact rfl); (case c2 => exact rfl); (case c3 => exact rfl); (case c4 => decide))
  intro L h₁ F N
  k_steps
  rename_i tk0 h2 res h3 l1 h4 F4 N4
  unfold Stop
  refine wpAny_For ?_ (by intro _; rfl)
  k_steps
  unfold Stop
  refine call_split (F4.keep _ _ x36) (F4.keep _ _ x35) hx hts ?_
  intro vs tk5 hvs
  have F5 := F4.push (W.listOf vs.toArray 0)
  have N5 := N4.push F4 (W.listOf vs.toArray 0)
  have hlt := ltN (Heap.lt_size (N4 _ (.head _)).1)
  clear F4 N4
  generalize hlst : h4.objs.size = lst at F5 N5 hlt
  k_steps
  unfold Stop
  have hok : ∀ y ∈ splitOf ts, OkItem y := okItems hok0
  refine for_list (l := lst) (vs := vs) (fun i m news => ∃ u rv rn, m = (fun y => if y = Str.ofString "result" then some (.ref res) else if y = Str.ofString "component_re" then some (.ref 36) else if y = Str.ofString "version" then some (.str x t1) else u y) ∧ news = [(lst, W.listOf vs.toArray 0), (res, W.listOf (List.toArray rv) rn)] ∧ IntsAre rv (((splitOf ts).take i).flatMap itemVal)) hh (by rfl) (by rfl) F5 N5 ⟨fun y => List.lookup y [], [], 0, ?_, by rfl, .nil⟩ ?_ ?_ ?_ ?_
  · funext y; rw [show [(Str.ofString "version", Value.str x t1)].reverse = [(Str.ofString "version", Value.str x t1)] from rfl, look1]
  · rintro i m news h ⟨u, rv, rn, rfl, rfl, _⟩ F N
    exact News.isList N (.head _)
  · rintro it hit i m news ⟨u, rv, rn, rfl, rfl, _⟩ p hp
    have q1 := hit lst _ (N5 _ (.head _)).1
    have q2 := hit res _ (N5 _ (.tail _ (.head _))).1
    simp only [List.mem_cons, List.not_mem_nil, or_false] at hp
    rcases hp with rfl | rfl
    · exact Nat.ne_of_lt q1
    · exact Nat.ne_of_lt q2
  · rintro it hit i v m₁ news₁ h tk o hi hv ⟨u, rv, rn, rfl, rfl, l1⟩ F7 N7
    have q1 := ltN (hit lst _ (N5 _ (.head _)).1)
    have q2 := ltN (hit res _ (N5 _ (.tail _ (.head _))).1)
    clear F5 N5
    obtain ⟨y, t, rfl, hy⟩ := strAt hvs hv
    have lrv := rv_len hts hx l1
    have hyo := hok y (List.mem_of_getElem? hy)
    k_steps
    · rename_i hc
      unfold Stop
      obtain ⟨d, hn⟩ : ∃ d, NumText y d := by
        rcases hyo with q | q
        · rw [(in_signs q).1] at hc; cases hc
        · exact q
      refine call_int10 hn.int (by have := hn.len; omega) ?_
      k_steps
      rename_i F8 N8
      refine TurnEnd.intro F8 N8 (news := [(lst, _), (res, _)]) (fun p hp => .tail _ hp) ⟨_, _, _, ext3 (by rfl) (by rfl) (by rfl), rfl, ?_⟩
      rw [List.take_add_one, hy, List.flatMap_append]
      exact l1.append (by simp only [Option.toList_some, List.flatMap_cons, List.flatMap_nil, List.append_nil, itemVal, hn.int]; exact .cons _ _ (.cons _ _ .nil))
    · rename_i hc
      have hq : itemVal y = [] := by
        rcases hyo with q | ⟨d, q⟩
        · unfold itemVal; rw [(in_signs q).2]
        · rw [not_in_signs q] at hc; cases hc
      refine TurnEnd.intro F7 N7 (news := [(lst, _), (res, _)]) (fun p hp => hp) ⟨_, _, _, ext3 (by rfl) (by rfl) (by rfl), rfl, ?_⟩
      rw [List.take_add_one, hy, List.flatMap_append]
      simpa [hq] using l1
  · rintro m₁ news₁ h7 tk7 ⟨u, rv, rn, rfl, rfl, l1⟩ F7 N7
    dsimp only
    k_steps
    exact h _ _ _ _ _ (Fr.keep (by assumption)) (NewObj.of (by assumption) (.tail _ (.head _))) (by rw [hvs.length, List.take_length] at l1; exact l1)
end
end
section
local macro_rules | `(tactic| walk_at "pad pad") => `(tactic| fail "pad")
local macro_rules | `(tactic| walk_at "pad pad") => `(tactic| fail "pad")
local macro_rules | `(tactic| walk_at "pad pad") => `(tactic| fail "pad")
local macro_rules | `(tactic| walk_at "pad pad") => `(tactic| fail "pad")
local macro_rules | `(tactic| walk_at "pad pad") => `(tactic| fail "pad")
local macro_rules | `(tactic| walk_at "pad pad") => `(tactic| fail "pad")
local macro_rules | `(tactic| walk_at "pad pad") => `(tactic| fail "pad")
theorem fresh_S_release : True := by w_top off; exact trivial
open PySem PySem.W PyProof.Rows
set_option maxRecDepth 100000
set_option maxHeartbeats 4000000
section
variable {w : World} {A : Around} {s : Shared} {mean : ExcName → Option Value} {mg mb : Str → Option Value} {Q : Value → Shared → Prop} {E : Value → Shared → Prop}
set_option pp.deepTerms false
set_option pp.maxSteps 1500
local macro_rules | `(tactic| walk_at "exec For Name Call cons nil") => `(tactic| refine stop_intro ?_)
local macro_rules | `(tactic| walk_at "pyIter ref") => `(tactic| refine stop_intro ?_)
local macro_rules | `(tactic| walk_at "call type:range") => `(tactic| refine stop_intro ?_)
theorem pow2000_ne (k : Nat) : (2000 : Int) ^ k ≠ 0 := by
  have : (0 : Int) < 2000 ^ k := Int.pow_pos (by decide)
  omega
theorem pow2000_lt {k : Nat} (h : k ≤ 2) : (2000 : Int) ^ k ≤ 4000000 ∧ 0 < (2000 : Int) ^ k := by
  have : k = 0 ∨ k = 1 ∨ k = 2 := by omega
  rcases this with rfl | rfl | rfl <;> decide
local macro_rules | `(tactic| walk_at "binaryOp FloorDiv int int") => `(tactic| ((with_reducible show wpAny _ _ (binaryOp _ _ (Value.int (2000 ^ _) _)) _ _ _); refine floordiv_int (pow2000_ne _) ?_ (Or.inl (PyProof.noPylong_small (by have := pow2000_lt (by assumption); omega)))))
local macro_rules | `(tactic| walk_at "binaryOp Add str str") => `(tactic| (refine add_rel ?_; intro t8 tk8))
local macro_rules | `(tactic| walk_at "call builtin:list.append") => `(tactic| (k_dflt (refine' append_K ?k1 ?k2 ?k3 ?_ ?z; (case k1 => k_asm); (case k2 => k_asm); (case k3 => k_upd); (case z => rw [sizeLine_eq]; simp only [List.size_toArray]; omega)); intro h' F' N'; (try k_sweep)))
theorem release_spec {x : Int} {t1 : Tok}
    (X : (hd.heap_39 w.params).In s.heap) (T : Top hd.view_39 LS mean mg mb s.heap) (hroom : A.depth < recursionLimit) (hh : A.handled = none)
    (h : ∀ n tp lw lp vw vp nw np h' tk, 1 + x.fmod 3 = ((n : Nat) : Int) → Kept s.heap h' → NewObj s.heap h' tp { cls := .type "tuple", data := .seq #[.ref lw, .ref lp] } → NewObj s.heap h' lw (W.listOf vw.toArray nw) → NewObj s.heap h' lp (W.listOf vp.toArray np) →
      StrsAre vw ((List.range n).map (wtext x)) → StrsAre vp ((List.range n).map (ptext x)) → lw ≠ lp → Q (.ref tp) { s with heap := h', toks := tk }) :
    wpAny (model PySem.Challenge.rw_ph0038_01.row.prog w) A (call (.ref 80) [.int x t1]) Q E s := by
  revert X; k_fill; intro X
  refine wpAny_call ?_
  k_dflt (refine' enterF (binds := [(Str.ofString "x", .int x t1)]) ?k1 ?k2 ?k3 ?k4 ?k5 ?k6 ?k7 ?_ ?c1 ?c2 ?c3 ?c4; (case k1 => assumption); (case k2 => exact Top.nolimit (by assumption)); (case k3 => assumption); (case k4 => k_is); (case k5 => k_is); (case k6 => exact BindsTo.of_eq rfl); (case k7 => exact locs rfl); (case c1 => exact rfl); (case c2 => exact rfl); (case c3 => exact rfl); (case c4 => decide))
  intro L h₁ F N
  k_steps
  rename_i lw h2 d1 d2 d3 lp h4 e2 h5 F5 N5
  unfold Stop
  refine wpAny_For ?_ (by intro _; rfl)
  k_steps
  unfold Stop
  refine range1_rows F5 N5 ?_
  intro h6 tk6 ta tb tc R6 F6 N6 K6
  k_steps
  unfold Stop
  have hx0 := Int.fmod_nonneg_of_pos x (b := 3) (by omega)
  have hx1 := Int.fmod_lt_of_pos x (b := 3) (by omega)
  obtain ⟨n, hn⟩ : ∃ n : Nat, 1 + x.fmod 3 = (n : Int) := ⟨(1 + x.fmod 3).toNat, by omega⟩
  rw [hn] at R6
  have hn3 : n ≤ 3 := by omega
  refine for_range (n := n) (fun i m news => ∃ u vp vw np nw, m = (fun y => if y = Str.ofString "parts" then some (.ref lp) else if y = Str.ofString "written" then some (.ref lw) else if y = Str.ofString "x" then some (.int x t1) else u y) ∧ news = [(lp, W.listOf vp.toArray np), (lw, W.listOf vw.toArray nw)] ∧ StrsAre vp ((List.range i).map (ptext x)) ∧ StrsAre vw ((List.range i).map (wtext x))) hh (by omega) (by rfl) (by rfl) R6 F6 N6 ⟨fun y => List.lookup y [], [], [], 0, 0, ?_, by rfl, .nil, .nil⟩ ?_ ?_ ?_
  · funext y; rw [show [(Str.ofString "x", Value.int x t1)].reverse = [(Str.ofString "x", Value.int x t1)] from rfl, look1]
  · rintro it hit i m news ⟨u, vp, vw, np, nw, rfl, rfl, _, _⟩ p hp
    have q1 := hit lp _ (N6 _ (.head _)).1
    have q2 := hit lw _ (N6 _ (.tail _ (.head _))).1
    simp only [List.mem_cons, List.not_mem_nil, or_false] at hp
    rcases hp with rfl | rfl
    · exact Nat.ne_of_lt q1
    · exact Nat.ne_of_lt q2
  · rintro it hit i t m₁ news₁ h tk o hi ⟨u, vp, vw, np, nw, rfl, rfl, l1, l2⟩ F7 N7
    have q1 := ltN (hit lp _ (N6 _ (.head _)).1)
    have q2 := ltN (hit lw _ (N6 _ (.tail _ (.head _))).1)
    clear F6 N6 K6 F5 N5
    have hi2 : ((i : Nat) : Int).toNat ≤ 2 := by omega
    have l3 : vp.length ≤ 3 := by have := l1.length; simp at this; omega
    have l4 : vw.length ≤ 3 := by have := l2.length; simp at this; omega
    k_steps
    rename_i F8 N8
    rw [Int.toNat_natCast] at N8
    have e8 := ptext_is x i
    unfold fig at e8
    rw [e8] at N8
    simp only [List.push_toArray] at N8
    refine TurnEnd.intro F8 N8 (news := [(lp, _), (lw, _)]) (fun p hp => hp) ⟨_, _, _, _, _, ext3 (by rfl) (by rfl) (by rfl), rfl, ?_, ?_⟩
    · rw [List.range_succ, List.map_append]; exact strsAre_snoc l1 _ _
    · rw [List.range_succ, List.map_append]; exact strsAre_snoc l2 _ _
  · rintro m₁ news₁ h7 tk7 ⟨u, vp, vw, np, nw, rfl, rfl, l1, l2⟩ F7 N7
    dsimp only
    clear F6 N6 K6 F5 N5
    k_steps
    rename_i F8 N8 l8
    exact h n _ lw lp vw vp nw np _ _ hn F8.keep (NewObj.of N8 (.head _)) (NewObj.of N8 (.tail _ (.tail _ (.head _)))) (NewObj.of N8 (.tail _ (.head _))) l2 l1 (Nat.ne_of_lt e2)
end
end
section
theorem fresh_S_run : True := by w_top off; exact trivial
open PySem PySem.W PyProof.Rows
set_option maxRecDepth 100000
set_option maxHeartbeats 4000000
section
variable {w : World} {A : Around} {s : Shared} {mean : ExcName → Option Value} {mg mb : Str → Option Value} {Q : Value → Shared → Prop} {E : Value → Shared → Prop}
set_option pp.deepTerms false
set_option pp.maxSteps 1500
local macro_rules | `(tactic| walk_at "call builtin:str.index") => `(tactic| (k_dflt (refine' index3 ?k1 ?_; (case k1 => rw [find_dot _ _ (by assumption)]; omega))))
theorem run_spec {x : Str} {k : Nat} {t1 t2 : Tok}
    (X : (hd.heap_39 w.params).In s.heap) (T : Top hd.view_39 LS mean mg mb s.heap) (hroom : A.depth < recursionLimit)
    (hk : k ≤ x.length) (hl : x.length ≤ 1000)
    (h : ∀ t h' tk, Kept s.heap h' → Q (.int (runLen x.cps.toList k) t) { s with heap := h', toks := tk }) :
    wpAny (model PySem.Challenge.rw_ph0038_01.row.prog w) A (call (.ref 101) [.str x t1, .int (k : Int) t2]) Q E s := by
  revert X; k_fill; intro X
  refine wpAny_call ?_
  k_dflt (refine' enterF (binds := [(Str.ofString "text", .str x t1), (Str.ofString "k", .int (k : Int) t2)]) ?k1 ?k2 ?k3 ?k4 ?k5 ?k6 ?k7 ?_ ?c1 ?c2 ?c3 ?c4; (case k1 => assumption); (case k2 => exact Top.nolimit (by assumption)); (case k3 => assumption); (case k4 => k_is); (case k5 => k_is); (case k6 => exact BindsTo.of_eq rfl); (case k7 => exact locs rfl); (case c1 => exact rfl); (case c2 => exact rfl); (case c3 => exact rfl); (case c4 => decide))
  intro L h₁ F N
  k_steps
  rw [run_val hk]
  exact h _ _ _ (Fr.keep (by assumption))
end
end
section
local macro_rules | `(tactic| walk_at "pad pad") => `(tactic| fail "pad")
local macro_rules | `(tactic| walk_at "pad pad") => `(tactic| fail "pad")
theorem fresh_S_orders : True := by w_top off; exact trivial
open PySem PySem.W PyProof.Rows
set_option maxRecDepth 100000
set_option maxHeartbeats 4000000
section
variable {w : World} {A : Around} {s : Shared} {mean : ExcName → Option Value} {mg mb : Str → Option Value} {Q : Value → Shared → Prop} {E : Value → Shared → Prop}
set_option pp.deepTerms false
set_option pp.maxSteps 1500
local macro_rules | `(tactic| walk_at "exec While") => `(tactic| refine stop_intro ?_)
local macro_rules | `(tactic| walk_at "call builtin:str.index") => `(tactic| (k_dflt (refine' index2 ?k1 ?_; (case k1 => exact sign_nonneg (by assumption)))))
local macro_rules | `(tactic| walk_at "subscriptTail Name Name str int") => `(tactic| ((with_reducible show wpAny _ _ (subscriptTail _ _ (Value.str (_ ++ _) _) (Value.int _ _)) _ _ _); k_dflt (refine' item_at ?k1 ?k2 ?_ ?k3 ?k4; (case k1 => exact glue_at (by assumption)); (case k2 => rw [Str.length_append, show (Str.ofString " ").length = 1 by decide +kernel]; omega); (case k3 => with_unfolding_all rfl); (case k4 => intro _; with_unfolding_all rfl))))
local macro_rules | `(tactic| walk_at "call ref") => `(tactic| (k_dflt (refine' run_spec ?k1 ?k2 ?k3 ?k4 ?k5 ?_; (case k1 => exact Frag.In.keeps (by assumption) (Fr.keep (by assumption))); (case k2 => exact Top.keeps (by assumption) (Fr.keep (by assumption))); (case k3 => simp only [depth_deeper]; omega); (case k4 => assumption); (case k5 => assumption)); intro t9 h9 tk9 K9; (have F9 := Fr.kept (by assumption) K9); (have N9 := News.kept (by assumption) K9)))
theorem ints3 {x y z a b c : Int} {t u v : Tok} (h1 : x = a) (h2 : y = b) (h3 : z = c) : IntsAre [.int x t, .int y u, .int z v] [a, b, c] := by
  subst h1 h2 h3; exact .cons _ _ (.cons _ _ (.cons _ _ .nil))
def ordM (a b : Str) (t1 t2 : Tok) (k : Nat) (t : Tok) : Str → Option Value := fun y => if y = Str.ofString "k" then some (.int (k : Int) t) else List.lookup y [(Str.ofString "one", .str a t1), (Str.ofString "two", .str b t2)].reverse
theorem orders_spec {a b : Str} {t1 t2 : Tok}
    (X : (hd.heap_39 w.params).In s.heap) (T : Top hd.view_39 LS mean mg mb s.heap) (hroom : A.depth + 3 < recursionLimit)
    (hla : a.length ≤ 1000) (hlb : b.length ≤ 1000) (va : VerText a.cps.toList) (vb : VerText b.cps.toList)
    (h : ∀ l vs n h' tk, Kept s.heap h' → NewObj s.heap h' l (W.listOf (List.toArray vs) n) → IntsAre vs [ordP a.cps.toList b.cps.toList, ordW a.cps.toList b.cps.toList, ordW a.cps.toList b.cps.toList] → Q (.ref l) { s with heap := h', toks := tk }) :
    wpAny (model PySem.Challenge.rw_ph0038_01.row.prog w) A (call (.ref 108) [.str a t1, .str b t2]) Q E s := by
  revert X; k_fill; intro X
  refine wpAny_call ?_
  have hroom1 : A.depth < recursionLimit := by omega
  k_dflt (refine' enterF (binds := [(Str.ofString "one", .str a t1), (Str.ofString "two", .str b t2)]) ?k1 ?k2 ?k3 ?k4 ?k5 ?k6 ?k7 ?_ ?c1 ?c2 ?c3 ?c4; (case k1 => assumption); (case k2 => exact Top.nolimit (by assumption)); (case k3 => assumption); (case k4 => k_is); (case k5 => k_is); (case k6 => exact BindsTo.of_eq rfl); (case k7 => exact locs rfl); (case c1 => exact rfl); (case c2 => exact rfl); (case c3 => exact rfl); (case c4 => decide))
  intro L h₁ F N
  k_steps
  rename_i h2 F2 N2
  unfold Stop
  refine wp_mid (Mid s.heap L s (fun m news => ∃ k t, m = ordM a b t1 t2 k t ∧ news = [] ∧ OrdEnd a b k)) ?_ ?_
  · refine While_inv (fun n m news => ∃ k t, m = ordM a b t1 t2 k t ∧ news = [] ∧ OrdInv a b k ∧ n = a.length - k) (n₀ := a.length) F2 N2 ⟨0, _, by rfl, by rfl, ⟨by omega, by omega, by rfl⟩, by omega⟩ ?_ PassesOwn.never
    rintro n m₁ news₁ h₃ tk₃ F₃ N₃ ⟨k, t, rfl, rfl, hI, rfl⟩
    unfold ordM at F₃
    k_steps
    · rename_i c1 c2 _ _ c3 _ F4 N4
      rw [put_put] at F4
      exact WhileStep.intro F4 N4 (n' := a.length - (k + 1)) (by omega) ⟨k + 1, _, rfl, rfl, hI.next c1 c2 c3, rfl⟩
    · rename_i c1 c2 _ _ c3
      exact Mid.intro F₃ N₃ ⟨k, _, rfl, rfl, hI.stop1 c1 c2 c3⟩
    · rename_i c1 c2
      exact Mid.intro F₃ N₃ ⟨k, _, rfl, rfl, hI, .inr (.inl (by have := hI.lb; omega))⟩
    · rename_i c1
      exact Mid.intro F₃ N₃ ⟨k, _, rfl, rfl, hI, .inl (by have := hI.la; omega)⟩
  · rintro _ _ ⟨rfl, h₃, tk₃, m₃, news₃, rfl, F₃, N₃, ⟨k, t, rfl, rfl, hend⟩⟩
    unfold ordM at F₃
    dsimp only
    have ka := hend.la
    have kb := hend.lb
    have sa := va.at k
    have sb := vb.at k
    k_steps
    all_goals (
      have g0 := hend.lcp
      have g1 := sign_lt sa sb
      have g2 := sign_lt sb sa
      refine h _ _ _ _ _ (Fr.keep (by assumption)) (NewObj.of (by assumption) (.head _)) (ints3 ?_ ?_ ?_) <;> (simp only [ordP, ordW, g0]; (repeat' split) <;> omega))
end
end
section
theorem fresh_R_cmp : True := by w_top off; exact trivial
open PySem PySem.W PyProof.Rows PySem.MeetsSeq PySem.F PySem.MeetsSeq3
set_option maxRecDepth 100000
set_option maxHeartbeats 1000000
theorem intsAre_get {vs : List Value} {ns : List Int} (h : IntsAre vs ns) (i : Nat) (hi : i < ns.length) : ∃ t, vs[i]? = some (.int ns[i] t) := h.get i ns[i] (by simp [hi])
theorem drop_lt_left {na nb : List Int} {i : Nat} (h1 : i = na.length) (h2 : i ≤ nb.length) : (na.drop i < nb.drop i) ↔ na.length < nb.length := by
  subst h1
  rw [List.drop_eq_nil_of_le (Nat.le_refl _)]
  rcases Nat.lt_or_ge na.length nb.length with q | q
  · rw [List.drop_eq_getElem_cons q]; exact ⟨fun _ => q, fun _ => List.nil_lt_cons _ _⟩
  · rw [List.drop_eq_nil_of_le q]; simp; omega
theorem drop_lt_right {na nb : List Int} {i : Nat} (h1 : i ≤ na.length) (h2 : i = nb.length) : (na.drop i < nb.drop i) ↔ na.length < nb.length := by
  subst h2
  rw [List.drop_eq_nil_of_le (Nat.le_refl nb.length)]
  simp; omega
theorem lt_loop (l b : Addr) (va vb : List Value) (na nb : List Int) (ia : IntsAre va na) (ib : IntsAre vb nb) (n n2 : Nat) (dd dd2 : Option Addr) (sl sl2 : Array (Option Value)) (k : Nat) :
    ∀ i : Nat, na.length - i = k → i ≤ na.length → i ≤ nb.length → Meets (Builtin.«list.__eq__.loop» ⟨[.ref l, .ref b, rawInt i, rawInt 0], []⟩)
      (fun _ R s => s.heap.get? l = some { cls := .type "list", dict := dd, data := .seq va.toArray n, slots := sl } ∧ s.heap.get? b = some { cls := .type "list", dict := dd2, data := .seq vb.toArray n2, slots := sl2 } ∧
        R (.ok (.ret (.bool (decide (na.drop i < nb.drop i))))) s) := by
  have la := ia.length
  have lb := ib.length
  induction k with
  | zero =>
    intro i hk h1 h2 prog w A R s h
    obtain ⟨hp, g, d, tk, os⟩ := s; obtain ⟨hl, hb, h⟩ := h
    wp_walk using wpAny_loadPart' hl, wpAny_loadPart' hb
    have hi1 : va.toArray[((i : Nat) : Int).toNat]? = none := by simp; omega
    rw [hi1]
    wp_walk using wpAny_loadPart' hl, wpAny_loadPart' hb
    show R (.ok (.ret (.bool (decide (va.toArray.size < vb.toArray.size))))) _
    have e : decide (na.drop i < nb.drop i) = decide (va.toArray.size < vb.toArray.size) := by
      rw [decide_eq_decide, drop_lt_left (by omega) h2]; simp only [List.size_toArray, la, lb]
    rw [← e]; exact h
  | succ k ih =>
    intro i hk h1 h2 prog w A R s h
    obtain ⟨hp, g, d, tk, os⟩ := s; obtain ⟨hl, hb, h⟩ := h
    wp_walk using wpAny_loadPart' hl, wpAny_loadPart' hb
    have hlt : i < na.length := by omega
    obtain ⟨ta, ha⟩ := intsAre_get ia i hlt
    have hi1 : va.toArray[((i : Nat) : Int).toNat]? = some (.int na[i] ta) := by simpa using ha
    rcases Nat.lt_or_ge i nb.length with q | q
    · obtain ⟨tb, hb'⟩ := intsAre_get ib i q
      have hi2 : vb.toArray[((i : Nat) : Int).toNat]? = some (.int nb[i] tb) := by simpa using hb'
      rw [hi1, hi2]
      have hc : ((i : Int) + 1) = ((i + 1 : Nat) : Int) := by push_cast; rfl
      refine wpAny_bind (EqGives.int _ _ _ _ prog w _ _ _ _ ?_)
      rw [List.drop_eq_getElem_cons hlt, List.drop_eq_getElem_cons q] at h
      by_cases e : na[i] = nb[i]
      · rw [if_pos (by simpa using e)]
        wp_walk
        rw [hc]
        exact ⟨plainId_quiet plain_eq_loop _, codeAny_builtin entry_eq_loop (by
          rw [Around.under_plainId plain_eq_loop _]
          refine ih (i + 1) (by omega) (by omega) (by omega) prog w A R _ ⟨hl, hb, ?_⟩
          have e2 : decide (na[i] :: na.drop (i+1) < nb[i] :: nb.drop (i+1)) = decide (na.drop (i+1) < nb.drop (i+1)) := by
            rw [decide_eq_decide, List.cons_lt_cons_iff, e]; simp
          rw [← e2]; exact h)⟩
      · rw [if_neg (by simpa using e)]
        wp_walk using wpAny_loadPart' hl, wpAny_loadPart' hb
        rw [hi1, hi2]
        refine wpAny_bind (PyProof.Rows.lt_int ?_)
        wp_walk
        have e' : decide (na[i] :: na.drop (i+1) < nb[i] :: nb.drop (i+1)) = decide (na[i] < nb[i]) := by
          rw [decide_eq_decide, List.cons_lt_cons_iff]; simp [e]
        rw [← e']; exact h
    · have hi2 : vb.toArray[((i : Nat) : Int).toNat]? = none := by simp; omega
      rw [hi1, hi2]
      wp_walk using wpAny_loadPart' hl, wpAny_loadPart' hb
      show R (.ok (.ret (.bool (decide (va.toArray.size < vb.toArray.size))))) _
      have e : decide (na.drop i < nb.drop i) = decide (va.toArray.size < vb.toArray.size) := by
        rw [decide_eq_decide, drop_lt_right h1 (by omega)]; simp only [List.size_toArray, la, lb]
      rw [← e]; exact h
theorem gt_loop (l b : Addr) (va vb : List Value) (na nb : List Int) (ia : IntsAre va na) (ib : IntsAre vb nb) (n n2 : Nat) (dd dd2 : Option Addr) (sl sl2 : Array (Option Value)) (k : Nat) :
    ∀ i : Nat, na.length - i = k → i ≤ na.length → i ≤ nb.length → Meets (Builtin.«list.__eq__.loop» ⟨[.ref l, .ref b, rawInt i, rawInt 4], []⟩)
      (fun _ R s => s.heap.get? l = some { cls := .type "list", dict := dd, data := .seq va.toArray n, slots := sl } ∧ s.heap.get? b = some { cls := .type "list", dict := dd2, data := .seq vb.toArray n2, slots := sl2 } ∧
        R (.ok (.ret (.bool (decide (nb.drop i < na.drop i))))) s) := by
  have la := ia.length
  have lb := ib.length
  induction k with
  | zero =>
    intro i hk h1 h2 prog w A R s h
    obtain ⟨hp, g, d, tk, os⟩ := s; obtain ⟨hl, hb, h⟩ := h
    wp_walk using wpAny_loadPart' hl, wpAny_loadPart' hb
    have hi1 : va.toArray[((i : Nat) : Int).toNat]? = none := by simp; omega
    rw [hi1]
    wp_walk using wpAny_loadPart' hl, wpAny_loadPart' hb
    show R (.ok (.ret (.bool (decide (vb.toArray.size < va.toArray.size))))) _
    have e : decide (nb.drop i < na.drop i) = decide (vb.toArray.size < va.toArray.size) := by
      rw [decide_eq_decide, drop_lt_right h2 (by omega)]; simp only [List.size_toArray, la, lb]
    rw [← e]; exact h
  | succ k ih =>
    intro i hk h1 h2 prog w A R s h
    obtain ⟨hp, g, d, tk, os⟩ := s; obtain ⟨hl, hb, h⟩ := h
    wp_walk using wpAny_loadPart' hl, wpAny_loadPart' hb
    have hlt : i < na.length := by omega
    obtain ⟨ta, ha⟩ := intsAre_get ia i hlt
    have hi1 : va.toArray[((i : Nat) : Int).toNat]? = some (.int na[i] ta) := by simpa using ha
    rcases Nat.lt_or_ge i nb.length with q | q
    · obtain ⟨tb, hb'⟩ := intsAre_get ib i q
      have hi2 : vb.toArray[((i : Nat) : Int).toNat]? = some (.int nb[i] tb) := by simpa using hb'
      rw [hi1, hi2]
      have hc : ((i : Int) + 1) = ((i + 1 : Nat) : Int) := by push_cast; rfl
      refine wpAny_bind (EqGives.int _ _ _ _ prog w _ _ _ _ ?_)
      rw [List.drop_eq_getElem_cons hlt, List.drop_eq_getElem_cons q] at h
      by_cases e : na[i] = nb[i]
      · rw [if_pos (by simpa using e)]
        wp_walk
        rw [hc]
        exact ⟨plainId_quiet plain_eq_loop _, codeAny_builtin entry_eq_loop (by
          rw [Around.under_plainId plain_eq_loop _]
          refine ih (i + 1) (by omega) (by omega) (by omega) prog w A R _ ⟨hl, hb, ?_⟩
          have e2 : decide (nb[i] :: nb.drop (i+1) < na[i] :: na.drop (i+1)) = decide (nb.drop (i+1) < na.drop (i+1)) := by
            rw [decide_eq_decide, List.cons_lt_cons_iff, e]; simp
          rw [← e2]; exact h)⟩
      · rw [if_neg (by simpa using e)]
        wp_walk using wpAny_loadPart' hl, wpAny_loadPart' hb
        rw [hi1, hi2]
        refine wpAny_bind (PyProof.Rows.gt_int ?_)
        wp_walk
        have e' : decide (nb[i] :: nb.drop (i+1) < na[i] :: na.drop (i+1)) = decide (nb[i] < na[i]) := by
          rw [decide_eq_decide, List.cons_lt_cons_iff]; simp [Ne.symm e]
        rw [← e']; exact h
    · have hi2 : vb.toArray[((i : Nat) : Int).toNat]? = none := by simp; omega
      rw [hi1, hi2]
      wp_walk using wpAny_loadPart' hl, wpAny_loadPart' hb
      show R (.ok (.ret (.bool (decide (vb.toArray.size < va.toArray.size))))) _
      have e : decide (nb.drop i < na.drop i) = decide (vb.toArray.size < va.toArray.size) := by
        rw [decide_eq_decide, drop_lt_left (by omega) h1]; simp only [List.size_toArray, la, lb]
      rw [← e]; exact h
section
variable {prog : Program} {w : World} {A : Around} {E : Value → Shared → Prop} {s : Shared} {a b : Addr} {xs ys : List Value} {ns ms : List Int} {Q : Value → Shared → Prop}
theorem lt_ints (ha : s.heap.IsList a xs.toArray) (hb : s.heap.IsList b ys.toArray) (hi : IntsAre xs ns) (hj : IntsAre ys ms) (hu : A.units < cLine) (h : Q (.bool (decide (ns < ms))) s) :
    wpAny (model prog w) A (compareOp .Lt (.ref a) (.ref b)) Q E s := by
  refine cmp_ofLt ?_
  have ta := ha.typeIs
  have tb := hb.typeIs
  obtain ⟨⟨c1, d1, dt1, sl1⟩, h1, rfl, n1, rfl⟩ := ha
  obtain ⟨⟨c2, d2, dt2, sl2⟩, h2, rfl, n2, rfl⟩ := hb
  refine richCompare_meets_room ta tb slot_list_lt entry_list_lt (args_list_lt_2 _ _) (S := fun _ R s => s.heap.get? a = some { cls := .type "list", dict := d1, data := .seq xs.toArray n1, slots := sl1 } ∧ s.heap.get? b = some { cls := .type "list", dict := d2, data := .seq ys.toArray n2, slots := sl2 } ∧ R (.ok (.ret (.bool (decide (ns < ms))))) s) ?_ ⟨h1, h2, ⟨by simp, h⟩⟩ hu
  intro prog w A R s h
  obtain ⟨hp, g, d, tk, os⟩ := s; obtain ⟨hl, hb, h⟩ := h
  have f3 := AutoSeq1.sub_list_list
  wp_walk using wpAny_loadPart' hl, wpAny_loadPart' hb
  exact ⟨plainId_quiet plain_eq_loop _, codeAny_builtin entry_eq_loop (by
    rw [Around.under_plainId plain_eq_loop _]
    exact lt_loop a b xs ys ns ms hi hj n1 n2 d1 d2 sl1 sl2 _ 0 rfl (Nat.zero_le _) (Nat.zero_le _) prog w A R _ ⟨hl, hb, h⟩)⟩
theorem gt_ints (ha : s.heap.IsList a xs.toArray) (hb : s.heap.IsList b ys.toArray) (hi : IntsAre xs ns) (hj : IntsAre ys ms) (hu : A.units < cLine) (h : Q (.bool (decide (ms < ns))) s) :
    wpAny (model prog w) A (compareOp .Gt (.ref a) (.ref b)) Q E s := by
  refine cmp_ofGt ?_
  have ta := ha.typeIs
  have tb := hb.typeIs
  obtain ⟨⟨c1, d1, dt1, sl1⟩, h1, rfl, n1, rfl⟩ := ha
  obtain ⟨⟨c2, d2, dt2, sl2⟩, h2, rfl, n2, rfl⟩ := hb
  refine richCompare_meets_room ta tb slot_list_gt entry_list_gt (args_list_gt_2 _ _) (S := fun _ R s => s.heap.get? a = some { cls := .type "list", dict := d1, data := .seq xs.toArray n1, slots := sl1 } ∧ s.heap.get? b = some { cls := .type "list", dict := d2, data := .seq ys.toArray n2, slots := sl2 } ∧ R (.ok (.ret (.bool (decide (ms < ns))))) s) ?_ ⟨h1, h2, ⟨by simp, h⟩⟩ hu
  intro prog w A R s h
  obtain ⟨hp, g, d, tk, os⟩ := s; obtain ⟨hl, hb, h⟩ := h
  have f3 := AutoSeq1.sub_list_list
  wp_walk using wpAny_loadPart' hl, wpAny_loadPart' hb
  exact ⟨plainId_quiet plain_eq_loop _, codeAny_builtin entry_eq_loop (by
    rw [Around.under_plainId plain_eq_loop _]
    exact gt_loop a b xs ys ns ms hi hj n1 n2 d1 d2 sl1 sl2 _ 0 rfl (Nat.zero_le _) (Nat.zero_le _) prog w A R _ ⟨hl, hb, h⟩)⟩
end
end
section
local macro_rules | `(tactic| walk_at "pad pad") => `(tactic| fail "pad")
local macro_rules | `(tactic| walk_at "pad pad") => `(tactic| fail "pad")
local macro_rules | `(tactic| walk_at "pad pad") => `(tactic| fail "pad")
local macro_rules | `(tactic| walk_at "pad pad") => `(tactic| fail "pad")
local macro_rules | `(tactic| walk_at "pad pad") => `(tactic| fail "pad")
local macro_rules | `(tactic| walk_at "pad pad") => `(tactic| fail "pad")
local macro_rules | `(tactic| walk_at "pad pad") => `(tactic| fail "pad")
theorem fresh_S_coll : True := by w_top off; exact trivial
open PySem PySem.W PyProof.Rows
set_option maxRecDepth 100000
set_option maxHeartbeats 4000000
section
variable {w : World} {A : Around} {s : Shared} {mean : ExcName → Option Value} {mg mb : Str → Option Value} {Q : Value → Shared → Prop} {E : Value → Shared → Prop}
set_option pp.deepTerms false
set_option pp.maxSteps 1500
def sgn3 (a b : List Nat) : Int := b2i (decide (b < a)) - b2i (decide (a < b))
def sgn3I (a b : List Int) : Int := b2i (decide (b < a)) - b2i (decide (a < b))
local macro_rules | `(tactic| walk_at "compareOp Gt ref") => `(tactic| (k_here; k_dflt (refine' gt_ints ?k1 ?k2 ?k3 ?k4 ?k5 ?_; (case k1 => exact Heap.IsList.at (by assumption) (fun o e => Fr.keep (by assumption) _ o e)); (case k2 => exact Heap.IsList.at (by assumption) (fun o e => Fr.keep (by assumption) _ o e)); (case k3 => assumption); (case k4 => assumption); (case k5 => simp only [Around.deeper_units]; omega))))
local macro_rules | `(tactic| walk_at "compareOp Lt ref") => `(tactic| (k_here; k_dflt (refine' lt_ints ?k1 ?k2 ?k3 ?k4 ?k5 ?_; (case k1 => exact Heap.IsList.at (by assumption) (fun o e => Fr.keep (by assumption) _ o e)); (case k2 => exact Heap.IsList.at (by assumption) (fun o e => Fr.keep (by assumption) _ o e)); (case k3 => assumption); (case k4 => assumption); (case k5 => simp only [Around.deeper_units]; omega))))
theorem strcoll_str {a b : Str} {ta tb : Tok}
    (X : (hd.heap_39 w.params).In s.heap) (T : Top hd.view_39 LS mean mg mb s.heap) (hroom : A.depth < recursionLimit)
    (h : ∀ t h' tk, Kept s.heap h' → Q (.int (sgn3 a.cps.toList b.cps.toList) t) { s with heap := h', toks := tk }) :
    wpAny (model PySem.Challenge.rw_ph0038_01.row.prog w) A (call (.ref 59) [.str a ta, .str b tb]) Q E s := by
  revert X; k_fill; intro X
  refine wpAny_call ?_
  k_dflt (refine' enterF (binds := [(Str.ofString "a", .str a ta), (Str.ofString "b", .str b tb)]) ?k1 ?k2 ?k3 ?k4 ?k5 ?k6 ?k7 ?_ ?c1 ?c2 ?c3 ?c4; (case k1 => assumption); (case k2 => exact Top.nolimit (by assumption)); (case k3 => assumption); (case k4 => k_is); (case k5 => k_is); (case k6 => exact BindsTo.of_eq rfl); (case k7 => exact locs rfl); (case c1 => exact rfl); (case c2 => exact rfl); (case c3 => exact rfl); (case c4 => decide))
  intro L h₁ F N
  k_steps
  exact h _ _ _ F.keep
theorem strcoll_ints {la lb : Addr} {va vb : List Value} {na nb : List Int}
    (X : (hd.heap_39 w.params).In s.heap) (T : Top hd.view_39 LS mean mg mb s.heap) (hroom : A.depth < recursionLimit) (hun : A.units + 100 < cLine)
    (hla : s.heap.IsList la va.toArray) (hlb : s.heap.IsList lb vb.toArray) (ia : IntsAre va na) (ib : IntsAre vb nb)
    (h : ∀ t h' tk, Kept s.heap h' → Q (.int (sgn3I na nb) t) { s with heap := h', toks := tk }) :
    wpAny (model PySem.Challenge.rw_ph0038_01.row.prog w) A (call (.ref 59) [.ref la, .ref lb]) Q E s := by
  revert X; k_fill; intro X
  refine wpAny_call ?_
  k_dflt (refine' enterF (binds := [(Str.ofString "a", .ref la), (Str.ofString "b", .ref lb)]) ?k1 ?k2 ?k3 ?k4 ?k5 ?k6 ?k7 ?_ ?c1 ?c2 ?c3 ?c4; (case k1 => assumption); (case k2 => exact Top.nolimit (by assumption)); (case k3 => assumption); (case k4 => k_is); (case k5 => k_is); (case k6 => exact BindsTo.of_eq rfl); (case k7 => exact locs rfl); (case c1 => exact rfl); (case c2 => exact rfl); (case c3 => exact rfl); (case c4 => decide))
  intro L h₁ F N
  k_steps
  exact h _ _ _ F.keep
end
end
section
theorem fresh_P_face : True := by w_top off; exact trivial
open PySem PySem.W PyProof.Rows
set_option maxRecDepth 100000
set_option maxHeartbeats 1000000
/-- how many parts the release of x has -/
def nOf (x : Int) : Nat := (1 + x.fmod 3).toNat
def dsOf (x : Int) : List Nat := (List.range (nOf x)).map (dig x)
def wsOf (x : Int) : List Str := (List.range (nOf x)).map (wtext x)
def psOf (x : Int) : List Str := (dsOf x).map plainS
def textOf (x : Int) : Str := Str.join (Str.ofString ".") (psOf x)
def readOf (x : Int) : List Int := (dsOf x).flatMap fun (d : Nat) => [(100 : Int), (d : Int)]
def padL (w : Nat) (p : List Nat) : List Nat := List.replicate (w - p.length) 32 ++ p
def lineL (ws : List Nat) (ps : List (List Nat)) : List Nat := (List.zipWith padL ws ps).flatten
def lineOf (f : Nat) (x : Int) : Str := ⟨(lineL [f, 3, 3] ((dsOf x).map digs)).toArray⟩
theorem nOf_is (x : Int) : 1 + x.fmod 3 = (nOf x : Int) ∧ 1 ≤ nOf x ∧ nOf x ≤ 3 := by
  have h0 := Int.fmod_nonneg_of_pos x (b := 3) (by omega)
  have h1 := Int.fmod_lt_of_pos x (b := 3) (by omega)
  unfold nOf
  omega
theorem psOf_is (x : Int) : (List.range (nOf x)).map (ptext x) = psOf x := by
  unfold psOf dsOf
  rw [List.map_map]; rfl
theorem dsOf_len (x : Int) : (dsOf x).length = nOf x := by simp [dsOf]
theorem dsOf_lt (x : Int) : ∀ d ∈ dsOf x, d < 1000 := by
  intro d hd
  unfold dsOf at hd
  obtain ⟨k, _, rfl⟩ := List.mem_map.mp hd
  exact dig_lt x k
theorem num_w (x : Int) (k : Nat) : NumText (wtext x k) (dig x k) := ⟨dig_lt x k, zer x k, zer_le x k, by simp [wtext]⟩
theorem num_p {d : Nat} (h : d < 1000) : NumText (plainS d) d := ⟨h, 0, by omega, by simp [plainS]⟩
theorem numTexts_map {α : Type} (f : α → Str) (g : α → Nat) (l : List α) (h : ∀ a ∈ l, NumText (f a) (g a)) : NumTexts (l.map f) (l.map g) := by
  induction l with
  | nil => exact .nil
  | cons a r ih => exact .cons (h a (by simp)) (ih fun b hb => h b (by simp [hb]))
theorem wsOf_num (x : Int) : NumTexts (wsOf x) (dsOf x) := numTexts_map _ _ _ fun k _ => num_w x k
theorem psOf_num (x : Int) : NumTexts (psOf x) (dsOf x) := by
  have := numTexts_map plainS id (dsOf x) fun d hd => num_p (dsOf_lt x d hd)
  simpa [psOf] using this
/-- the tokens of numbers with a sign between -/
def toksOf (c : Nat) : List Str → List (List Nat)
  | [] => []
  | [y] => [y.cps.toList]
  | y :: z :: r => y.cps.toList :: [c] :: toksOf c (z :: r)
theorem NumText.ne {y : Str} {d : Nat} (h : NumText y d) : y.cps.toList ≠ [] := by
  have := h.len.1
  intro q
  have q1 : y.cps.toList.length = 0 := by rw [q]; rfl
  have q2 : y.cps.toList.length = y.length := by simp [Str.length]
  omega
theorem NumText.isDs {y : Str} {d : Nat} (h : NumText y d) : ∀ c ∈ y.cps.toList, isD c = true := fun c hc => by
  have := h.ok c hc; simp [isD, this]
theorem sep_notD {c : Nat} (hc : c = 46 ∨ c = 95 ∨ c = 43 ∨ c = 45) : isD c = false := by
  rcases hc with rfl | rfl | rfl | rfl <;> rfl
theorem join_toks {c : Nat} (hc : c = 46 ∨ c = 95 ∨ c = 43 ∨ c = 45) : ∀ {ys : List Str} {ds : List Nat}, NumTexts ys ds → IsToks (joinL c (ys.map (·.cps.toList))) (toksOf c ys)
  | [], _, .nil => .nil
  | [y], _, .cons h .nil => by
    have := IsToks.num (r := []) h.ne h.isDs (by simp) .nil
    simpa [joinL, toksOf] using this
  | y :: z :: r, _, .cons h hr => by
    simp only [List.map_cons, joinL, toksOf]
    refine IsToks.num h.ne h.isDs ?_ (.sep hc ?_)
    · intro c' e; simp at e; subst e; exact sep_notD hc
    · exact join_toks hc hr
theorem toks_ok {c : Nat} (hc : c = 46 ∨ c = 95 ∨ c = 43 ∨ c = 45) : ∀ {ys : List Str} {ds : List Nat}, NumTexts ys ds → ∀ t ∈ toksOf c ys, OkTok t
  | [], _, .nil, t, ht => by simp [toksOf] at ht
  | [y], _, .cons h .nil, t, ht => by
    simp [toksOf] at ht; subst ht
    exact .inr ⟨_, by simpa using h⟩
  | y :: z :: r, _, .cons h hr, t, ht => by
    simp only [toksOf, List.mem_cons] at ht
    rcases ht with rfl | rfl | ht
    · exact .inr ⟨_, by simpa using h⟩
    · refine .inl ?_
      rcases hc with rfl | rfl | rfl | rfl <;> simp
    · exact toks_ok hc hr t (by simpa [toksOf] using ht)
theorem itemVal_num {y : Str} {d : Nat} (h : NumText y d) : itemVal ⟨y.cps.toList.toArray⟩ = [100, (d : Int)] := by
  have : (⟨y.cps.toList.toArray⟩ : Str) = y := by cases y; simp
  rw [this]; unfold itemVal; rw [h.int]
theorem itemVal_sep {c : Nat} (hc : c = 46 ∨ c = 95 ∨ c = 43 ∨ c = 45) : itemVal ⟨#[c]⟩ = [] := by
  unfold itemVal; rw [(in_signs (y := ⟨#[c]⟩) (by rcases hc with rfl | rfl | rfl | rfl <;> simp)).2]
theorem itemVal_nil : itemVal ⟨#[]⟩ = [] := by
  unfold itemVal; rw [(in_signs (y := ⟨#[]⟩) (.inl rfl)).2]
theorem toks_read {c : Nat} (hc : c = 46 ∨ c = 95 ∨ c = 43 ∨ c = 45) : ∀ {ys : List Str} {ds : List Nat}, NumTexts ys ds → (splitOf (toksOf c ys)).flatMap itemVal = ds.flatMap fun (d : Nat) => [(100 : Int), (d : Int)]
  | [], _, .nil => by simp [toksOf, splitOf, itemVal_nil]
  | [y], _, .cons h .nil => by
    simp only [toksOf, splitOf, List.flatMap_cons, List.flatMap_nil, itemVal_nil, itemVal_num h]; simp
  | y :: z :: r, _, .cons h hr => by
    have ih := toks_read hc hr
    simp only [toksOf, splitOf, List.flatMap_cons, itemVal_nil, itemVal_num h, itemVal_sep hc]
    rw [ih]; simp
theorem join_len {ys : List Str} {ds : List Nat} {c : Nat} (h : NumTexts ys ds) (hl : ys.length ≤ 3) : (Str.join ⟨#[c]⟩ ys).length ≤ 1000 := by
  have e : (Str.join ⟨#[c]⟩ ys).length = (joinL c (ys.map (·.cps.toList))).length := by rw [← join_is]; simp [Str.length]
  rw [e]
  have key : ∀ {ys : List Str} {ds : List Nat}, NumTexts ys ds → (joinL c (ys.map (·.cps.toList))).length ≤ 10 * ys.length := by
    intro ys ds h
    induction h with
    | nil => simp [joinL]
    | @cons y d ys ds hy hr ih =>
      have h1 := hy.len.2
      have h2 : y.cps.toList.length = y.length := by simp [Str.length]
      cases ys with
      | nil => simp only [List.map_cons, List.map_nil, joinL, List.length_cons, List.length_nil]; omega
      | cons z r =>
        simp only [List.map_cons, joinL, List.length_append, List.length_cons] at ih ⊢
        omega
  have := key h
  omega
theorem Fr.as {h₀ h : Heap} {L : Addr} {m m' : Str → Option Value} (F : Fr h₀ L h m) (e : m = m') : Fr h₀ L h m' := e ▸ F
/-- a face stands: its text, its reading, its line -/
def FaceAt (f : Nat) (x : Int) (v : Value) (fz : List (Addr × Obj)) : Prop :=
  ∃ fa ra ta tb vr nr nf, v = .ref fa ∧ (fa, W.listOf (List.toArray [.str (textOf x) ta, .ref ra, .str (lineOf f x) tb]) nf) ∈ fz ∧ (ra, W.listOf (List.toArray vr) nr) ∈ fz ∧ IntsAre vr (readOf x)
/-- the faces so far -/
structure Faces (f : Nat) (xs : List Int) (fl L : Addr) (i : Nat) (fv : List Value) (fz : List (Addr × Obj)) : Prop where
  len : fv.length = i
  face : ∀ (j : Nat) x v, xs[j]? = some x → fv[j]? = some v → FaceAt f x v fz
  off : ∀ p ∈ fz, p.1 ≠ fl ∧ p.1 ≠ L + 1 ∧ p.1 ≠ L + 1 + 1
theorem News.sub {h₀ h : Heap} {L : Addr} {a b : List (Addr × Obj)} (N : News h₀ L h b) (hs : a ⊆ b) : News h₀ L h a := fun p hp => N p (hs hp)
theorem ints_three {vs : List Value} {a b c : Int} (h : IntsAre vs [a, b, c]) : ∃ t u v, vs = [.int a t, .int b u, .int c v] := by
  have h0 := h.length
  obtain ⟨t, e1⟩ := h.get 0 a rfl
  obtain ⟨u, e2⟩ := h.get 1 b rfl
  obtain ⟨v, e3⟩ := h.get 2 c rfl
  match vs, h0, e1, e2, e3 with
  | [x, y, z], _, e1, e2, e3 =>
    cases e1; cases e2; cases e3
    exact ⟨t, u, v, rfl⟩
theorem sep_item (x : Int) : ∃ c, (c = 46 ∨ c = 95 ∨ c = 43 ∨ c = 45) ∧ Txt.item (Str.ofString "-_+") ((x.fdiv 3).fmod 3) = ⟨#[c]⟩ := by
  have h0 := Int.fmod_nonneg_of_pos (x.fdiv 3) (b := 3) (by omega)
  have h1 := Int.fmod_lt_of_pos (x.fdiv 3) (b := 3) (by omega)
  have : (x.fdiv 3).fmod 3 = 0 ∨ (x.fdiv 3).fmod 3 = 1 ∨ (x.fdiv 3).fmod 3 = 2 := by omega
  rcases this with e | e | e <;> rw [e]
  · exact ⟨45, by simp, by decide +kernel⟩
  · exact ⟨95, by simp, by decide +kernel⟩
  · exact ⟨43, by simp, by decide +kernel⟩
theorem pick_last2 (l : List Value) (v : Value) : kms_pick (l ++ [v]) none (some (-1)) = l := by rw [pick_last]; simp
theorem NumTexts.snoc : ∀ {ys : List Str} {y : Str} {ds : List Nat}, NumTexts (ys ++ [y]) ds → ∃ di d, ds = di ++ [d] ∧ NumTexts ys di ∧ NumText y d
  | [], y, _, .cons h .nil => ⟨[], _, rfl, .nil, h⟩
  | z :: ys, y, _, .cons h hr => by
    obtain ⟨di, d, rfl, h1, h2⟩ := NumTexts.snoc hr
    exact ⟨_ :: di, d, rfl, .cons h h1, h2⟩
theorem FaceAt.mono {f : Nat} {x : Int} {v : Value} {fz gz : List (Addr × Obj)} (h : FaceAt f x v fz) (hs : fz ⊆ gz) : FaceAt f x v gz := by
  obtain ⟨fa, ra, ta, tb, vr, nr, nf, h1, h2, h3, h4⟩ := h
  exact ⟨fa, ra, ta, tb, vr, nr, nf, h1, hs h2, hs h3, h4⟩
theorem Faces.snoc {f : Nat} {xs : List Int} {fl L : Addr} {i : Nat} {fv : List Value} {fz : List (Addr × Obj)} {x : Int} {fa ra : Addr} {ta tb : Tok} {vr : List Value} {nr nf : Nat}
    (h : Faces f xs fl L i fv fz) (hx : xs[i]? = some x) (hI : IntsAre vr (readOf x)) (h1 : fa ≠ fl ∧ fa ≠ L + 1 ∧ fa ≠ L + 1 + 1) (h2 : ra ≠ fl ∧ ra ≠ L + 1 ∧ ra ≠ L + 1 + 1) :
    Faces f xs fl L (i + 1) (fv ++ [.ref fa]) ((fa, W.listOf (List.toArray [.str (textOf x) ta, .ref ra, .str (lineOf f x) tb]) nf) :: (ra, W.listOf (List.toArray vr) nr) :: fz) := by
  refine ⟨by simp [h.len], ?_, ?_⟩
  · intro j y v hy hv
    rcases Nat.lt_or_ge j fv.length with q | q
    · rw [List.getElem?_append_left q] at hv
      exact (h.face j y v hy hv).mono fun p hp => .tail _ (.tail _ hp)
    · rw [List.getElem?_append_right q] at hv
      have hj : j = fv.length := by
        rcases Nat.lt_or_ge (j - fv.length) 1 with r | r
        · omega
        · rw [List.getElem?_eq_none (by simpa using r)] at hv; cases hv
      subst hj
      rw [h.len, hx] at hy
      cases hy
      simp at hv; subst hv
      exact ⟨fa, ra, ta, tb, vr, nr, nf, rfl, .head _, .tail _ (.head _), hI⟩
  · intro p hp
    rcases List.mem_cons.mp hp with rfl | hp
    · exact h1
    rcases List.mem_cons.mp hp with rfl | hp
    · exact h2
    · exact h.off p hp
end
section
local macro_rules | `(tactic| walk_at "pad pad") => `(tactic| fail "pad")
theorem fresh_C_law : True := by w_top off; exact trivial
open PySem PySem.W PyProof.Rows
set_option maxRecDepth 100000
set_option maxHeartbeats 8000000
section
set_option pp.deepTerms false
set_option pp.maxSteps 2000
set_option pp.deepTerms.threshold 6
local macro_rules | `(tactic| walk_at "exec If") => `(tactic| refine stop_intro ?_)
local macro_rules | `(tactic| walk_at "exec For") => `(tactic| refine stop_intro ?_)
local macro_rules | `(tactic| walk_at "call ref") => `(tactic| refine stop_intro ?_)
local macro_rules | `(tactic| walk_at "call builtin:str.join") => `(tactic| (k_dflt (refine' join_lit ?k1 ?k2 ?k3 ?k4 ?_; (case k1 => exact News.isList (by k_asm) (by k_mem)); (case k2 => assumption); (case k3 => first | decide +kernel | omega); (case k4 => assumption)); intro t8 tk8))
def LawSpec : Prop := ∀ (w : World) (s : Shared) (mean : ExcName → Option Value) (mg mb : Str → Option Value) (Q E : Value → Shared → Prop) (l : Addr) (vs : List Value) (ns : List Int)
    (_ : (hd.heap_39 w.params).In s.heap) (_ : Top hd.view_39 LS mean mg mb s.heap)
    (_ : s.heap.IsList l vs.toArray) (_ : IntsAre vs ns) (_ : ns.length ≤ 63) (_ : ∀ x ∈ s.gens, x.bare = true)
    (_ : ∀ h' tk G, Kept s.heap h' → (∀ x ∈ G, x.bare = true) → Q (.bool true) { s with heap := h', toks := tk, gens := G }),
    wpAny (model PySem.Challenge.rw_ph0038_01.row.prog w) callerA (call (.ref 113) [.ref l]) Q E s
noncomputable def cutLaw : (A : Prop) ×' (D : Prop) ×' (Cut A → Cut D → LawSpec) := by
  apply PSigma.mk
  apply PSigma.mk
  intro cutA cutD
  unfold LawSpec
  intro w s mean mg mb Q E l vs ns X T hl hi hlen hg hQ
  have X0 := X
  revert X; k_fill; intro X
  refine wpAny_call ?_
  k_dflt (refine' enterC (binds := [(Str.ofString "script", .ref l)]) ?k1 ?k2 ?k3 ?k4 ?k5 ?k6 ?k7 ?k8 ?_ ?c1 ?c2 ?c3; (case k1 => assumption); (case k2 => exact Top.nolimit (by assumption)); (case k3 => decide); (case k4 => k_is); (case k5 => k_is); (case k6 => exact rfl); (case k7 => exact kinds_of (by kinds_ok)); (case k8 => decide); (case c1 => exact rfl); (case c2 => exact rfl); (case c3 => exact rfl))
  intro L h₁ tk cells F N CX
  obtain ⟨o1, o2, hc, d1, d2⟩ := CellsAre.two CX
  subst hc
  clear CX
  replace d1 : o1.data = .cell none := d1
  replace d2 : o2.data = .cell none := d2
  replace F := ext2 (a := Str.ofString "script") (v := some (.ref l)) (by rfl) F
  generalize bindL _ _ _ = u0 at F
  k_steps
  rename_i _ _ _ _ l4 h4 F4 N4 hl4
  unfold Stop
  have hm0 := Int.fmod_nonneg_of_pos ns.sum (b := 2) (by omega)
  have hm1 := Int.fmod_lt_of_pos ns.sum (b := 2) (by omega)
  generalize hfi : 4 + ns.sum.fmod 2 = first at F4 N4
  refine widths_spec (X0.keeps F4.keep) (T.keeps F4.keep) (by simp only [depth_deeper]; decide) rfl (News.isList N4 (.head _)) (by omega) (by omega) ?_
  intro wl wv wn h5 tk5 G5 K5 O5 I5 B5
  have F5 := Fr.kept F4 K5
  have N5 := News.add F4 O5 (News.kept N4 K5)
  have hwl1 : wl ≠ L + 1 := NewObj.ne O5 (N4 (L + 1, o2) (by simp)).1
  have hwl2 : wl ≠ L + 1 + 1 := NewObj.ne O5 (N4 (L + 1 + 1, o1) (by simp)).1
  have B6 : ∀ x ∈ G5, x.bare = true := fun x hx => (B5 x hx).elim (hg x) id
  replace N5 : News s.heap L h5 [(wl, W.listOf (List.toArray wv) wn), (L + 1 + 1, o1), (L + 1, o2)] := News.sub N5 (by simp)
  clear F4 N4 K5 O5 B5 hl4
  obtain ⟨u1, u2, u3, rfl⟩ := ints_three I5
  dsimp only
  k_steps
  unfold Stop
  rename Fr _ _ _ _ => F6
  rename News _ _ _ _ => N6
  refine wp_stay [(wl, W.listOf #[.int first u1, .int 3 u2, .int 3 u3] wn), (L + 1 + 1, o1), (L + 1, o2)] F6 ?_ ?_
  · refine wpAny_If ?_
    k_steps
    rename Fr _ _ _ _ => F7
    rename News _ _ _ _ => N7
    exact ⟨rfl, _, _, rfl, F7, News.sub N7 (by simp)⟩
  intro h7 tk7 F7 N7
  clear F6 N6
  dsimp only
  k_steps
  rename_i fl _ l8 h8 F8 N8
  unfold Stop
  obtain ⟨g1, g2, g3⟩ := l8
  refine wpAny_For ?_ (by intro _; rfl)
  refine wp_mid (fun v s' => Stop (∃ (xl : Addr) (xv : List Value) (xn : Nat) (h : Heap) (tk : Nat) (u : Str → Option Value), v = .ref xl ∧ s' = { s with heap := h, toks := tk, gens := G5 } ∧ Fr s.heap L h (fun y => if y = Str.ofString "faces" then some (.ref fl) else if y = Str.ofString "widths" then some (.ref wl) else u y) ∧
    News s.heap L h [(xl, W.listOf (List.toArray xv) xn), (fl, W.listOf #[] 0), (wl, W.listOf #[.int first u1, .int 3 u2, .int 3 u3] wn), (L + 1 + 1, o1), (L + 1, o2)] ∧ IntsAre xv ([6, 6012031, 60031, 30] ++ ns.take 3) ∧ fl < xl)) ?_ ?_
  · k_steps
    rename_i Fz Nz Iz lz
    exact ⟨_, _, 0, _, _, _, rfl, rfl, Fr.as Fz (ext2' (by rfl) (by rfl)), News.sub Nz (by simp), Iz, lz.2.2.1⟩
  rintro v s' ⟨xl, xv, xn, h, tk, u, rfl, rfl, F, N, I, g4⟩
  clear F8 N8
  obtain ⟨f, rfl⟩ : ∃ f : Nat, first = (f : Int) := ⟨first.toNat, by omega⟩
  generalize hxs : ([6, 6012031, 60031, 30] ++ ns.take 3 : List Int) = xs at I
  replace N : News s.heap L h [(fl, W.listOf (List.toArray []) 0), (wl, W.listOf #[.int (f : Int) u1, .int 3 u2, .int 3 u3] wn), (L + 1 + 1, o1), (L + 1, o2), (xl, W.listOf (List.toArray xv) xn)] := News.sub N (by simp)
  have hlt := fun (p : Addr × Obj) (hp : p ∈ _) => Heap.lt_size (N p hp).1
  generalize hit : h.objs.size = it at hlt
  have hlf : fl < it := hlt (fl, W.listOf (List.toArray []) 0) (by simp)
  refine for_list2 (l := xl) (vs := xv) (fun i m news => ∃ (u : Str → Option Value) (fv : List Value) (fn : Nat) (fz : List (Addr × Obj)), m = (fun y => if y = Str.ofString "faces" then some (.ref fl) else if y = Str.ofString "widths" then some (.ref wl) else u y) ∧
    news = (fl, W.listOf (List.toArray fv) fn) :: (wl, W.listOf #[.int (f : Int) u1, .int 3 u2, .int 3 u3] wn) :: (L + 1 + 1, o1) :: (L + 1, o2) :: (xl, W.listOf (List.toArray xv) xn) :: fz ∧ Faces f xs fl L i fv fz ∧ ∀ p ∈ fz, p.1 ≠ it) rfl (by rfl) (by rfl) F N ?_ ?_ ?_ ?_ ?_
  · exact ⟨u, [], 0, [], rfl, rfl, ⟨rfl, by simp, by simp⟩, by simp⟩
  · rintro i m news h ⟨u, fv, fn, fz, rfl, rfl, _⟩ F N
    exact News.isList N (.tail _ (.tail _ (.tail _ (.tail _ (.head _)))))
  · rintro i m news ⟨u, fv, fn, fz, rfl, rfl, _, hz⟩ p hp
    dsimp only
    rw [hit]
    simp only [List.mem_cons] at hp
    rcases hp with rfl | rfl | rfl | rfl | rfl | hp
    · exact Nat.ne_of_lt hlf
    · exact Nat.ne_of_lt (hlt (wl, _) (by simp))
    · exact Nat.ne_of_lt (hlt (L + 1 + 1, _) (by simp))
    · exact Nat.ne_of_lt (hlt (L + 1, _) (by simp))
    · exact Nat.ne_of_lt (hlt (xl, _) (by simp))
    · exact hz p hp
  · rintro i v m₁ news₁ h7 tk7 oi hi hv ⟨u, fv, fn, fz, rfl, rfl, hF, hz⟩ F7 N7
    dsimp only at N7 ⊢
    rw [hit] at N7 ⊢
    obtain ⟨x, t, rfl, hx⟩ := intAt I hv
    replace N7 : News s.heap L h7 _ := N7
    replace F7 : Fr s.heap L h7 _ := F7
    clear F N
    k_steps
    unfold Stop
    refine release_spec (X0.keeps F7.keep) (T.keeps F7.keep) (by simp only [depth_deeper]; decide) rfl ?_
    intro n tp lw lp vw vp nw np h9 tk9 hn K9 Otp Olw Olp Sw Sp hlwp
    obtain ⟨hn1, hn2, hn3⟩ := nOf_is x
    obtain rfl : n = nOf x := by omega
    replace Sp : StrsAre vp (psOf x) := by rw [← psOf_is]; exact Sp
    replace Sw : StrsAre vw (wsOf x) := Sw
    have F9 := Fr.kept F7 K9
    have N9 := News.add F7 Otp (News.add F7 Olw (News.add F7 Olp (News.kept N7 K9)))
    have hdl : (dsOf x).length = nOf x := dsOf_len x
    have hW := wsOf_num x
    have hP := psOf_num x
    have hwl : (wsOf x).length ≤ 3 := by have := hW.length; omega
    have hpl : (psOf x).length ≤ 3 := by have := hP.length; omega
    have jw : ((wsOf x).map (·.length)).sum + (wsOf x).length ≤ 1048576 := by
      have := sum_le (n := 4) (ys := wsOf x) (fun y hy => by obtain ⟨d, hd⟩ := hW.mem hy; exact hd.len.2)
      omega
    have jp : ((psOf x).map (·.length)).sum + (psOf x).length ≤ 1048576 := by
      have := sum_le (n := 4) (ys := psOf x) (fun y hy => by obtain ⟨d, hd⟩ := hP.mem hy; exact hd.len.2)
      omega
    have hwne : wsOf x ≠ [] := by intro q; have h1 := hW.length; rw [q, List.length_nil] at h1; omega
    have hpne : psOf x ≠ [] := by intro q; have h1 := hP.length; rw [q, List.length_nil] at h1; omega
    have jlen : (Str.join (Str.ofString ".") (wsOf x)).length ≤ 1000 := by rw [dot_is]; exact join_len hW hwl
    clear F7 N7 K9
    dsimp only
    k_steps
    unfold Stop
    rename Fr _ _ _ _ => F10
    rename News _ _ _ _ => N10
    refine norm1_spec (X0.keeps F10.keep) (T.keeps F10.keep) (by simp only [depth_deeper]; decide) rfl jlen hwne hW hwl ?_
    intro t11 h11 tk11 K11
    rw [show Str.join (Str.ofString ".") ((dsOf x).map plainS) = textOf x from rfl]
    have F11 := Fr.kept F10 K11
    have N11 := News.kept N10 K11
    clear F10 N10 K11
    dsimp only
    k_steps
    unfold Stop
    rename Fr _ _ _ _ => F12
    rename News _ _ _ _ => N12
    have htw : IsToks (Str.join (Str.ofString ".") (wsOf x)).cps.toList (toksOf 46 (wsOf x)) := by rw [dot_is, join_is]; exact join_toks (.inl rfl) hW
    refine comp_spec (X0.keeps F12.keep) (T.keeps F12.keep) (by simp only [depth_deeper]; decide) rfl jlen htw (toks_ok (.inl rfl) hW) ?_
    intro rl rv rn h13 tk13 K13 O13 I13
    rw [toks_read (.inl rfl) hW] at I13
    have hr1 : rl ≠ fl := NewObj.ne O13 (N12 (fl, W.listOf (List.toArray fv) fn) (by simp)).1
    have hr2 : rl ≠ L + 1 := NewObj.ne O13 (N12 (L + 1, o2) (by simp)).1
    have hr3 : rl ≠ L + 1 + 1 := NewObj.ne O13 (N12 (L + 1 + 1, o1) (by simp)).1
    have hr4 : rl ≠ it := NewObj.ne O13 (N12 (it, oi) (by simp)).1
    have F13 := Fr.kept F12 K13
    have N13 := News.add F12 O13 (News.kept N12 K13)
    clear F12 N12 K13
    obtain ⟨c, hc, hitem⟩ := sep_item x
    have htp : IsToks (Str.join ⟨#[c]⟩ (psOf x)).cps.toList (toksOf c (psOf x)) := by rw [join_is]; exact join_toks hc hP
    dsimp only
    k_steps
    unfold Stop
    (repeat (revert ‹_›))
    intro cutA cutD
    exact Cut.get cutA
  · rintro m₁ news₁ h7 tk7 ⟨u, fv, fn, fz, rfl, rfl, hF, hz⟩ F7 N7
    clear F N
    dsimp only
    k_steps
    unfold Stop
    (repeat (revert ‹_›))
    intro cutA cutD
    exact Cut.get cutD
end
end
section
local macro_rules | `(tactic| walk_at "pad pad") => `(tactic| fail "pad")
local macro_rules | `(tactic| walk_at "pad pad") => `(tactic| fail "pad")
local macro_rules | `(tactic| walk_at "pad pad") => `(tactic| fail "pad")
local macro_rules | `(tactic| walk_at "pad pad") => `(tactic| fail "pad")
local macro_rules | `(tactic| walk_at "pad pad") => `(tactic| fail "pad")
local macro_rules | `(tactic| walk_at "pad pad") => `(tactic| fail "pad")
theorem fresh_C_A : True := by w_top off; exact trivial
open PySem PySem.W PyProof.Rows
set_option maxRecDepth 100000
set_option maxHeartbeats 8000000
set_option pp.deepTerms false
set_option pp.maxSteps 2000
set_option pp.deepTerms.threshold 6
local macro_rules | `(tactic| walk_at "exec If") => `(tactic| refine stop_intro ?_)
local macro_rules | `(tactic| walk_at "exec For") => `(tactic| refine stop_intro ?_)
local macro_rules | `(tactic| walk_at "call ref") => `(tactic| refine stop_intro ?_)
local macro_rules | `(tactic| walk_at "call builtin:str.join") => `(tactic| (k_dflt (refine' join_lit ?k1 ?k2 ?k3 ?k4 ?_; (case k1 => exact News.isList (by k_asm) (by k_mem)); (case k2 => assumption); (case k3 => first | decide +kernel | omega); (case k4 => assumption)); intro t8 tk8))
local macro_rules | `(tactic| walk_at "call builtin:len") => `(tactic| (k_here; (with_reducible show wpAny _ _ (call (Value.builtin "len") [Value.ref _]) _ _ _); k_dflt (refine' kun_lenL ?k1 ?k2 ?k3 ?_; (case k1 => exact News.isList (by k_asm) (by k_mem)); (case k2 => assumption); (case k3 => omega))))
local macro_rules | `(tactic| walk_at "subscriptTail Name Slice ref ref") => `(tactic| (k_here; (with_reducible show wpAny _ _ (subscriptTail _ (PySem.Expr.Slice _ _ none _) (Value.ref _) (Value.ref _)) _ _ _); k_dflt (refine' kms_slice_lit ?F ?N ?l ?p ?q ?e ?_ ?s ?t ?z; (case F => k_asm); (case N => k_asm); (case l => exact News.isList (by assumption) (by k_mem)); (case p => kmk_part); (case q => kmk_part); (case e => exact pick_last2 _ _); (case s => with_unfolding_all rfl); (case t => kmk_pure); (case z => rw [sizeLine_eq, List.size_toArray]; omega)); intro D' h' F' N' l1; (try k_lt l1); (try k_sweep)))
local macro_rules | `(tactic| walk_at "subscriptTail Name UnaryOp ref int") => `(tactic| (k_here; (with_reducible show wpAny _ _ (subscriptTail _ _ (Value.ref _) (Value.int (-1) _)) _ _ _); k_dflt (refine' item_last ?k1 ?_; (case k1 => exact News.isList (by k_asm) (by k_mem)))))
noncomputable def cutA : (B : Prop) ×' (Cut B → cutLaw.1) := by
  apply PSigma.mk
  intro cutB w
  set_option tactic.hygienic false in intros
  revert X; k_fill; intro X
  rename Fr _ _ _ _ => F14
  rename News _ _ _ _ => N14
  have hlv : ((List.toArray vp).size : Int) = (nOf x : Int) := by
    have h1 := Sp.length
    have h2 := hP.length
    rw [List.size_toArray]; omega
  have hlw : vw.length ≤ 3 := by have := Sw.length; omega
  let led : List (Addr × Obj) := (rl, W.listOf (List.toArray rv) rn) :: (lw, W.listOf (List.toArray vw) nw) :: (lp, W.listOf (List.toArray vp) np) :: (it, oi) :: (fl, W.listOf (List.toArray fv) fn) :: (wl, W.listOf #[.int (f : Int) u1, .int 3 u2, .int 3 u3] wn) :: (L + 1 + 1, o1) :: (L + 1, o2) :: (xl, W.listOf (List.toArray xv) xn) :: fz
  refine wp_stay led F14 ?_ ?_
  · refine wpAny_If ?_
    k_steps
    · rename_i q
      exact absurd q (by rw [show Str.join (Str.ofString ".") (psOf x) = textOf x from rfl]; simp)
    unfold Stop
    rename Fr _ _ _ _ => F15
    rename News _ _ _ _ => N15
    rw [hitem]
    refine comp_spec (X0.keeps F15.keep) (T.keeps F15.keep) (by simp only [depth_deeper]; decide) rfl (join_len hP hpl) htp (toks_ok hc hP) ?_
    intro rl2 rv2 rn2 h16 tk16 K16 O16 I16
    rw [toks_read hc hP] at I16
    have F16 := Fr.kept F15 K16
    have N16 := News.add F15 O16 (News.kept N15 K16)
    clear F15 N15 K16
    dsimp only
    k_steps
    exact ⟨rfl, _, _, rfl, F16, News.sub N16 (by intro p hp; simp only [led, List.mem_cons] at hp ⊢; grind)⟩
  intro h17 tk17 F17 N17
  clear F14 N14
  dsimp only [led] at N17 ⊢
  k_steps
  unfold Stop
  rename Fr _ _ _ _ => F18
  rename News _ _ _ _ => N18
  refine wp_stay led F18 ?_ ?_
  · rcases PyProof.Rows.strs_nil_or_snoc Sw with ⟨_, q⟩ | ⟨vi, yi, y, ty, e1, e2, Si⟩
    · exact absurd q hwne
    have hWs := hW
    rw [e2] at hWs
    obtain ⟨di, d, e3, hWi, hWd⟩ := NumTexts.snoc hWs
    have hyl : yi.length = nOf x - 1 := by have h1 := congrArg List.length e2; have h2 := hW.length; simp at h1; omega
    have ji : (yi.map (·.length)).sum + yi.length ≤ 1048576 := by
      have := sum_le (n := 4) (ys := yi) (fun y hy => by obtain ⟨d, hd⟩ := hWi.mem hy; exact hd.len.2)
      omega
    have htx : Str.join (Str.ofString ".") ((di ++ [d]).map plainS) = textOf x := by unfold textOf psOf; rw [e3]
    subst e1
    refine wpAny_If ?_
    k_steps
    · unfold Stop
      rename Fr _ _ _ _ => F19
      rename News _ _ _ _ => N19
      refine norm2_spec (X0.keeps F19.keep) (T.keeps F19.keep) (by simp only [depth_deeper]; decide) rfl (by rw [dot_is]; exact join_len hWi (by omega)) (by intro q; rw [q] at hyl; simp at hyl; omega) hWi hWd (by omega) ?_
      intro t20 h20 tk20 K20
      rw [htx]
      have F20 := Fr.kept F19 K20
      have N20 := News.kept N19 K20
      clear F19 N19 K20
      dsimp only
      k_steps
      · rename_i q; simp at q
      exact ⟨rfl, _, _, rfl, F20, News.sub N20 (by intro p hp; simp only [led, List.mem_cons] at hp ⊢; grind)⟩
    · rename Fr _ _ _ _ => F19
      rename News _ _ _ _ => N19
      exact ⟨rfl, _, _, rfl, F19, News.sub N19 (by intro p hp; simp only [led, List.mem_cons] at hp ⊢; grind)⟩
  intro h19 tk19 F19 N19
  clear F18 N18
  dsimp only [led] at N19 ⊢
  k_steps
  unfold Stop
  (repeat (revert ‹_›))
  intro cutB
  exact Cut.get cutB
end
section
theorem fresh_R_comp : True := by w_top off; exact trivial
open PySem PySem.W PyProof.Rows
set_option maxRecDepth 100000
set_option maxHeartbeats 1000000
section
variable {prog : Program} {w : World} {A : Around} {s : Shared} {env : Env} {E : Value → Shared → Prop} {scope : Scope} {cl : List (Str × Addr)} {pos : Pos} {Q : Value → Shared → Prop}
/-- what a comprehension's code is through with -/
def CompDone (s : Shared) (C D : Addr) (Post : List Value → Prop) (r : Result) (s' : Shared) : Prop :=
  ∃ f, r = .ok f ∧ ∃ h' tk' m vs n, s' = { s with heap := h', toks := tk' } ∧ Kept s.heap h' ∧ h'.Ns C m ∧ h'.get? D = some (W.listOf (List.toArray vs) n) ∧ Post vs
theorem comp_enter {elt target iter : Expr} {ifs : List Expr} {rest : List Comprehension} (Post : List Value → Prop)
    (hclos : closureFor scope env = pure cl) (hcell : ∀ y ∈ scope.names, y.2 ≠ .cell) (hkind : scope.kind = .function)
    (hnames : ∀ y ∈ scope.names, y.2 = .local → scope.names.lookup y.1 = some .local) (hs : ∀ x, foldedSetIterable iter env x = pure x)
    (h : wpAny (model prog w) A (eval iter env) (fun xv s₁ => wpAny (model prog w) A (pyIter xv) (fun it s₂ => ∃ h2 tk2, s₂ = { s with heap := h2, toks := tk2 } ∧ Kept s.heap h2 ∧
      ∀ D C h tk, h2.objs.size ≤ D → D < C → Kept h2 h → h.get? D = some (W.listOf #[] 0) → h.Ns C (fun _ => none) →
        codeAny (model prog w) A (.compStart (.ListComp elt (⟨target, iter, ifs, 0⟩ :: rest) scope pos) 0 it (.ref D) (compEnvC scope cl C env)) (CompDone s C D Post) { s with heap := h, toks := tk }) E s₁) E s)
    (hQ : ∀ D vs n h' tk, s.heap.get? D = none → Kept s.heap h' → h'.get? D = some (W.listOf (List.toArray vs) n) → Post vs → Q (.ref D) { s with heap := h', toks := tk }) :
    wpAny (model prog w) A (eval (.ListComp elt (⟨target, iter, ifs, 0⟩ :: rest) scope pos) env) Q E s := by
  rw [eval_ListComp]
  refine wpAny_comprehension_free (use := none) rfl hs hclos hkind hnames (wpAny_mono h (fun xv s₁ h₁ => wpAny_mono h₁ (fun it s₂ h₂ => ?_) fun _ _ e => e) fun _ _ e => e)
  obtain ⟨h2, tk2, rfl, k2, hc⟩ := h₂
  refine wpAny_newObj_type (wpAny_newFunctionEnv hcell (by intro y hy; simp at hy) (fun h₁ hns₁ hsb₁ => ?_) hkind)
  dsimp only at hns₁ hsb₁ ⊢
  generalize hH2 : h2.push { cls := .type "list", dict := none, data := .seq ([] : List Value).toArray } = H2 at hns₁ hsb₁ ⊢
  have hC : H2.objs.size = h2.objs.size + 1 := by rw [← hH2, Heap.size_push]
  have hDC : h2.objs.size < H2.objs.size := by rw [hC]; exact Nat.lt_succ_self _
  have old : Kept h2 h₁ := fun b o e => hsb₁.extBut b o (Nat.ne_of_lt (Nat.lt_trans (Heap.lt_size e) hDC)) (Heap.get?_push_of_some _ (hH2 ▸ Heap.get?_push_of_some _ e))
  have hacc : h₁.get? h2.objs.size = some (W.listOf #[] 0) := hsb₁.extBut _ _ (Nat.ne_of_lt hDC) (Heap.get?_push_of_some _ (hH2 ▸ Heap.get?_push_size _ rfl))
  refine codeAny_mono (hc h2.objs.size H2.objs.size h₁ _ (Nat.le_refl _) hDC old hacc hns₁) ?_
  rintro r s' ⟨f, rfl, h', tk', m, vs, n, rfl, k', hn', hD', hP⟩
  have hDn : s.heap.get? h2.objs.size = none := by
    cases e : s.heap.get? h2.objs.size with
    | none => rfl
    | some o => exact absurd (Heap.lt_size (k2 _ _ e)) (Nat.lt_irrefl _)
  have hCn : s.heap.get? H2.objs.size = none := by
    cases e : s.heap.get? H2.objs.size with
    | none => rfl
    | some o => exact absurd (Heap.lt_size (k2 _ _ e)) (Nat.not_lt.mpr (Nat.le_of_lt hDC))
  refine ⟨m, hn', fun h'' hs'' => hQ _ vs n h'' tk' hDn (fun b o e => hs''.extBut b o (fun q => by subst q; exact nomatch (hCn.symm.trans e)) (k' b o e)) (hs''.extBut _ _ (Nat.ne_of_lt hDC) hD') hP⟩
/-- a comprehension over a zip of two lists -/
theorem comp_zip {elt iter : Expr} {na nb : Str} {pa pb pt : Pos} {kt : Nat} {l1 l2 : Addr} {xs ys : List Value} (P : Nat → Value → Prop) (hh : A.handled = none)
    (hclos : closureFor scope env = pure cl) (hcell : ∀ y ∈ scope.names, y.2 ≠ .cell) (hkind : scope.kind = .function)
    (hnames : ∀ y ∈ scope.names, y.2 = .local → scope.names.lookup y.1 = some .local) (hs : ∀ x, foldedSetIterable iter env x = pure x)
    (hna : scope.names.lookup na = some .local) (hnb : scope.names.lookup nb = some .local) (hmin : min xs.length ys.length ≤ 1000)
    (hl1 : s.heap.IsList l1 xs.toArray) (hl2 : s.heap.IsList l2 ys.toArray)
    (hiter : ∀ (Q' : Value → Shared → Prop), (∀ tk, wpAny (model prog w) A (call (.type "zip") [.ref l1, .ref l2]) Q' E { s with toks := tk }) → wpAny (model prog w) A (eval iter env) Q' E s)
    (helt : ∀ (i : Nat) (x y : Value) (C : Addr) (own : List (Addr × Obj)) (h : Heap) (tk : Nat) (m₁ : Str → Option Value), xs[i]? = some x → ys[i]? = some y → Fr s.heap C h (fun q => if q = nb then some y else if q = na then some x else m₁ q) → News s.heap C h own →
      wpAny (model prog w) A (eval elt (compEnvC scope cl C env)) (fun v s' => Stop (P i v ∧ ∃ h' tk' m', s' = { s with heap := h', toks := tk' } ∧ Fr s.heap C h' m' ∧ News s.heap C h' own)) (fun _ _ => False) { s with heap := h, toks := tk })
    (hQ : ∀ D vs n h' tk, s.heap.get? D = none → Kept s.heap h' → h'.get? D = some (W.listOf (List.toArray vs) n) → vs.length = min xs.length ys.length → (∀ (i : Nat) v, vs[i]? = some v → P i v) → Q (.ref D) { s with heap := h', toks := tk }) :
    wpAny (model prog w) A (eval (.ListComp elt [⟨.Tuple [.Name na pa, .Name nb pb] kt pt, iter, [], 0⟩] scope pos) env) Q E s := by
  refine comp_enter (fun vs => vs.length = min xs.length ys.length ∧ ∀ (i : Nat) v, vs[i]? = some v → P i v) hclos hcell hkind hnames hs (hiter _ fun tk0 => ?_) (fun D vs n h' tk a b c d => hQ D vs n h' tk a b c d.1 d.2)
  have a1 : l1 < s.heap.objs.size := by obtain ⟨o, e, _⟩ := hl1; exact Heap.lt_size e
  have a2 : l2 < s.heap.objs.size := by obtain ⟨o, e, _⟩ := hl2; exact Heap.lt_size e
  have Dz : ZipApart (s.heap.objs.size + 4) (s.heap.objs.size + 2) (s.heap.objs.size + 3) s.heap.objs.size (s.heap.objs.size + 1) l1 l2 := zipApart_new a1 a2
  refine call_zip_2 hl1 hl2 fun h2 hz hTI hTO hi1 hi2 hsz hk => ?_
  refine wpAny_pyIter_zip hz ?_
  refine ⟨h2, tk0, rfl, hk, ?_⟩
  intro D C h3 tk3 hD hDC k3 hD3 hC3
  dsimp only at hsz hz hTI hTO hi1 hi2 hk
  generalize hB : s.heap.objs.size = B at *
  have Wz := WalksT.zip2 (prog := prog) (w := w) hh _ _ _ _ _ _ _ Dz xs.toArray ys.toArray
  have hD' : B + 5 ≤ D := by rw [← hsz]; exact hD
  have nn : ∀ c, B ≤ c → s.heap.get? c = none := fun c hc => Heap.get?_none_of_le (by rw [hB]; exact hc)
  have lt5 : ∀ c ∈ [B + 4, B + 3, B, B + 1], B ≤ c ∧ c < D := by
    intro c hc
    simp only [List.mem_cons, List.not_mem_nil, or_false] at hc
    have q := ltN hD'
    rcases hc with e | e | e | e <;> rw [e]
    · exact ⟨Nat.le_add_right _ _, Nat.lt_of_lt_of_le (Nat.lt_succ_self _) hD'⟩
    · exact ⟨Nat.le_add_right _ _, Nat.lt_of_lt_of_le (Nat.lt_succ_of_lt (Nat.lt_succ_self _)) hD'⟩
    · exact ⟨Nat.le_refl _, Nat.lt_of_lt_of_le (Nat.lt_of_lt_of_le (Nat.lt_succ_self _) (Nat.le_add_right (B + 1) 4)) hD'⟩
    · exact ⟨Nat.le_add_right _ _, Nat.lt_of_lt_of_le (Nat.lt_of_lt_of_le (Nat.lt_succ_self _) (Nat.le_add_right (B + 2) 3)) hD'⟩
  have offD : D ∉ [B + 4, B + 3, B, B + 1] := fun hm => Nat.lt_irrefl _ (lt5 D hm).2
  have offC : C ∉ [B + 4, B + 3, B, B + 1] := fun hm => Nat.lt_irrefl _ (Nat.lt_trans (lt5 C hm).2 hDC)
  have hab : s.heap.objs.size ≤ C := by rw [hB]; exact Nat.le_of_lt (Nat.lt_of_le_of_lt (Nat.le_trans (Nat.le_add_right _ _) hD') hDC)
  have F3 : Fr s.heap C h3 (fun _ => none) := ⟨hC3, fun b o e => k3 b o (hk b o e), hab⟩
  have mv : ∀ {h h₁ : Heap} {m₁}, Fr s.heap C h m₁ → (∀ c o, c ∉ [B + 4, B + 3, B, B + 1] → h.get? c = some o → h₁.get? c = some o) → Fr s.heap C h₁ m₁ := by
    intro h h₁ m₁ F k
    exact ⟨F.ns.at' fun o e => k _ o offC e, fun c o e => k c o (fun hm => by rw [nn c (lt5 c hm).1] at e; cases e) (F.keep c o e), F.above⟩
  have hmin' : min xs.toArray.size ys.toArray.size = min xs.length ys.length := by simp
  have kA : (compEnvC scope cl C env).kindOf na = some .local := lookup_relabel_local hna
  have kB : (compEnvC scope cl C env).kindOf nb = some .local := lookup_relabel_local hnb
  have hp : ((compEnvC scope cl C env).scope.kind == .class || ((compEnvC scope cl C env).scope.kind == .module && (compEnvC scope cl C env).locals != (compEnvC scope cl C env).globals)) = false := by simp [compEnvC, relabel, hkind]
  have loop : codeAny (model prog w) A (.compLoop (.ListComp elt [⟨.Tuple [.Name na pa, .Name nb pb] kt pt, iter, [], 0⟩] scope pos) 0 (.ref (B + 4)) (.ref D) (compEnvC scope cl C env))
      (CompDone s C D (fun vs => vs.length = min xs.length ys.length ∧ ∀ (i : Nat) v, vs[i]? = some v → P i v)) { s with heap := h3, toks := tk3 } := by
    refine kcp_loop (fun k s' => ∃ i h tk m₁ acc n, s' = { s with heap := h, toks := tk } ∧ (IsZip h (B + 4) (B + 2) (B + 3) .none ∧ IsPair h (B + 2) (.ref B) (.ref (B + 1)) ∧ (∃ a b, IsPair h (B + 3) a b) ∧ h.IsListIter B l1 i ∧ h.IsListIter (B + 1) l2 i ∧ h.IsList l1 xs.toArray ∧ h.IsList l2 ys.toArray) ∧
      Fr s.heap C h m₁ ∧ h.get? D = some (W.listOf (List.toArray acc) n) ∧ acc.length = i ∧ (∀ (j : Nat) v, acc[j]? = some v → P j v) ∧ i ≤ min xs.length ys.length ∧ k = min xs.length ys.length - i) ?_ (min xs.length ys.length)
      ⟨0, h3, tk3, _, [], 0, rfl, ⟨k3 _ _ hz, k3 _ _ hTI, ⟨_, _, k3 _ _ hTO⟩, hi1.at fun o e => k3 _ o e, hi2.at fun o e => k3 _ o e, hl1.at fun o e => k3 _ o (hk _ o e), hl2.at fun o e => k3 _ o (hk _ o e)⟩, F3, hD3, rfl, by simp, Nat.zero_le _, rfl⟩
    rintro k s' ⟨i, h, tk, m₁, acc, n, rfl, st, F₁, A₁, hai, hP, hi, rfl⟩
    rcases Nat.lt_or_ge i (min xs.length ys.length) with q | q
    · refine Wz.item i _ _ _ (by rw [hmin']; exact q) st ?_
      rintro T vals h4 tk4 ⟨x, y, hx, hy, rfl⟩ hT hTup mid k4
      have F2 := mv F₁ k4
      refine Wz.go _ _ _ i T _ _ _ mid ?_
      intro h5 st5 k5
      have F5 := mv F2 k5
      have hT5 : h5.IsTuple T #[x, y] := hTup.at fun o e => k5 T o (Wz.apart i T h4 mid) e
      have A5 : h5.get? D = some (W.listOf (List.toArray acc) n) := k5 D _ offD (k4 D _ offD A₁)
      have hDl : D < h5.objs.size := Heap.lt_size A5
      refine kcp_assign hh hT5 kA kB hp F5.ns ?_
      intro h6 tk6 n6 k6
      have F6 : Fr s.heap C h6 _ := ⟨n6, fun b o e => k6 b o (fun z => by subst z; rw [nn _ (by rw [← hB]; exact hab)] at e; cases e) (F5.keep b o e), hab⟩
      obtain ⟨z1, z2, ⟨a, b, z3⟩, ⟨o1, z4, z4'⟩, ⟨o2, z5, z5'⟩, z6, z7⟩ := st5
      obtain ⟨oz, y1, y1'⟩ : ∃ o, h5.get? (B + 4) = some o ∧ ∀ h : Heap, h.get? (B + 4) = some o → IsZip h (B + 4) (B + 2) (B + 3) .none := ⟨_, z1, fun _ e => e⟩
      obtain ⟨oI, y2, y2'⟩ : ∃ o, h5.get? (B + 2) = some o ∧ ∀ h : Heap, h.get? (B + 2) = some o → IsPair h (B + 2) (.ref B) (.ref (B + 1)) := ⟨_, z2, fun _ e => e⟩
      obtain ⟨oO, y3, y3'⟩ : ∃ o, h5.get? (B + 3) = some o ∧ ∀ h : Heap, h.get? (B + 3) = some o → IsPair h (B + 3) a b := ⟨_, z3, fun _ e => e⟩
      have up : ∀ c, c < D → c ≠ C := fun c hc => Nat.ne_of_lt (Nat.lt_trans hc hDC)
      have lt2 : B + 2 < D := Nat.lt_of_lt_of_le (Nat.lt_of_lt_of_le (Nat.lt_succ_self _) (Nat.le_add_right (B + 3) 2)) hD'
      have N6 : News s.heap C h6 [(D, W.listOf (List.toArray acc) n), (B + 4, oz), (B + 2, oI), (B + 3, oO), (B, o1), (B + 1, o2)] := by
        intro p hp
        simp only [List.mem_cons, List.not_mem_nil, or_false] at hp
        have r : ∀ c o, B ≤ c → c < D → h5.get? c = some o → h6.get? c = some o ∧ c ≠ C ∧ s.heap.get? c = none := fun c o hc hc' e => ⟨k6 c o (up c hc') e, up c hc', nn c hc⟩
        rcases hp with rfl | rfl | rfl | rfl | rfl | rfl
        · exact ⟨k6 D _ (Nat.ne_of_lt hDC) A5, Nat.ne_of_lt hDC, nn _ (Nat.le_trans (Nat.le_add_right _ _) hD')⟩
        · exact r _ _ (Nat.le_add_right _ _) (lt5 (B + 4) (by simp)).2 y1
        · exact r _ _ (Nat.le_add_right _ _) lt2 y2
        · exact r _ _ (Nat.le_add_right _ _) (lt5 (B + 3) (by simp)).2 y3
        · exact r _ _ (Nat.le_refl _) (lt5 B (by simp)).2 z4
        · exact r _ _ (Nat.le_add_right _ _) (lt5 (B + 1) (by simp)).2 z5
      refine wpAny_mono (helt i x y C _ h6 tk6 m₁ (by simpa using hx) (by simpa using hy) F6 N6) ?_ (fun _ _ e => e.elim)
      rintro v s7 ⟨hPv, h7, tk7, m7, rfl, F7, N7⟩
      refine append_K F7 N7 (.head ?_) ?_ ?_
      · intro p hp
        simp only [List.mem_cons, List.not_mem_nil, or_false] at hp
        rcases hp with rfl | rfl | rfl | rfl | rfl
        · exact Nat.ne_of_lt (lt5 (B + 4) (by simp)).2
        · exact Nat.ne_of_lt lt2
        · exact Nat.ne_of_lt (lt5 (B + 3) (by simp)).2
        · exact Nat.ne_of_lt (lt5 B (by simp)).2
        · exact Nat.ne_of_lt (lt5 (B + 1) (by simp)).2
      · intro h8 F8 N8
        refine ⟨min xs.length ys.length - (i + 1), by omega, i + 1, h8, tk7, m7, acc ++ [v], n + 1, rfl, ?_, F8, ?_, by simp [hai], ?_, q, rfl⟩
        · exact ⟨y1' _ (N8 (B + 4, oz) (by simp)).1, y2' _ (N8 (B + 2, oI) (by simp)).1, ⟨a, b, y3' _ (N8 (B + 3, oO) (by simp)).1⟩, ⟨o1, (N8 (B, o1) (by simp)).1, z4'⟩, ⟨o2, (N8 (B + 1, o2) (by simp)).1, z5'⟩, hl1.at fun o e => F8.keep l1 o e, hl2.at fun o e => F8.keep l2 o e⟩
        · have := (N8 (D, _) (.head _)).1
          simpa using this
        · intro j v' hv'
          rcases Nat.lt_or_ge j acc.length with q | q
          · rw [List.getElem?_append_left q] at hv'; exact hP j v' hv'
          · rw [List.getElem?_append_right q] at hv'
            have hj : j = acc.length := by
              rcases Nat.lt_or_ge (j - acc.length) 1 with r | r
              · omega
              · rw [List.getElem?_eq_none (by simpa using r)] at hv'; cases hv'
            subst hj
            simp at hv'; subst hv'; rw [hai]; exact hPv
      · rw [sizeLine_eq, List.size_toArray]; omega
    · obtain rfl : i = min xs.length ys.length := by omega
      rw [← hmin'] at st
      refine Wz.done _ _ _ st ?_
      intro h4 tk4 k4
      have F4 := mv F₁ k4
      exact ⟨.next, rfl, h4, tk4, m₁, acc, n, rfl, F4.keep, F4.ns, k4 D _ offD A₁, hai, hP⟩
  exact codeAny_compStart_list loop (wpAny_pyIter_zip (k3 _ _ hz) loop)
end
end
section
local macro_rules | `(tactic| walk_at "pad pad") => `(tactic| fail "pad")
theorem fresh_R_nest : True := by w_top off; exact trivial
open PySem PySem.W PyProof.Rows
set_option maxRecDepth 100000
set_option maxHeartbeats 1000000
theorem nest0 (elt t1 i1 t2 i2 : Expr) (scope : Scope) (pos : Pos) (it acc : Value) (env : Env) :
    compTurn (.ListComp elt [⟨t1, i1, [], 0⟩, ⟨t2, i2, [], 0⟩] scope pos) 0 it acc env = (standAt i1.pos >>= fun _ => pyNext it >>= fun r => match r with
      | none => pure (.done .next)
      | some v => letOwnedTupleGo t1 it v >>= fun _ => assign t1 env v >>= fun _ =>
        (eval i2 env >>= fun x => standAt i2.pos >>= fun _ => foldedSetIterable i2 env x >>= fun x => holding [x] (pyIter x) >>= fun it' => runOwn (.compStart (.ListComp elt [⟨t1, i1, [], 0⟩, ⟨t2, i2, [], 0⟩] scope pos) 1 it' acc env) env >>= fun _ => again (.compLoop (.ListComp elt [⟨t1, i1, [], 0⟩, ⟨t2, i2, [], 0⟩] scope pos) 0 it acc env))) := by rfl
theorem nest1 (elt t1 i1 t2 i2 : Expr) (scope : Scope) (pos : Pos) (it acc : Value) (env : Env) :
    compTurn (.ListComp elt [⟨t1, i1, [], 0⟩, ⟨t2, i2, [], 0⟩] scope pos) 1 it acc env = (standAt i2.pos >>= fun _ => pyNext it >>= fun r => match r with
      | none => pure (.done .next)
      | some v => letOwnedTupleGo t2 it v >>= fun _ => assign t2 env v >>= fun _ =>
        (eval elt env >>= fun x => call (.builtin "list.append") [acc, x] >>= fun _ => pure ()) >>= fun _ =>
          again (.compLoop (.ListComp elt [⟨t1, i1, [], 0⟩, ⟨t2, i2, [], 0⟩] scope pos) 1 it acc env)) := by rfl
section
variable {prog : Program} {w : World} {A : Around} {s : Shared} {env : Env} {E : Value → Shared → Prop} {scope : Scope} {pos : Pos} {R : Result → Shared → Prop} {elt t1 i1 t2 i2 : Expr} {it acc : Value}
theorem loop_nest0 (I : Nat → Shared → Prop)
    (turn : ∀ n s, I n s → wpAny (model prog w) A (pyNext it) (fun r s₁ => match r with
      | none => R (.ok .next) s₁
      | some v => wpAny (model prog w) A (assign t1 env v) (fun _ s₂ => wpAny (model prog w) A (eval i2 env) (fun x s₃ => wpAny (model prog w) A (pyIter x) (fun it' s₄ =>
          codeAny (model prog w) A (.compStart (.ListComp elt [⟨t1, i1, [], 0⟩, ⟨t2, i2, [], 0⟩] scope pos) 1 it' acc env) (fun r s₅ => ∃ f, r = .ok f ∧ ∃ m, m < n ∧ I m s₅) s₄) (fun _ _ => False) s₃) (fun _ _ => False) s₂) (fun _ _ => False) s₁) (fun _ _ => False) s)
    (n : Nat) (h : I n s) (ht : ∀ v, letOwnedTupleGo t1 it v = pure ()) (hs : ∀ x, foldedSetIterable i2 env x = pure x) :
    codeAny (model prog w) A (.compLoop (.ListComp elt [⟨t1, i1, [], 0⟩, ⟨t2, i2, [], 0⟩] scope pos) 0 it acc env) R s := by
  refine codeAny_loop rfl I (fun n s hI => ?_) n h
  show wpAny _ A ((compTurn (.ListComp elt [⟨t1, i1, [], 0⟩, ⟨t2, i2, [], 0⟩] scope pos) 0 it acc env).onRaise (fun x => do noteFrame x env; theTreesLotGoes x)) _ _ s
  refine wpAny_noted ?_
  rw [nest0]
  refine wpAny_bind (wpAny_standAt (wpAny_bind (wpAny_mono (turn n s hI) (fun r s₁ h₁ => ?_) fun _ _ h' => h'.elim)))
  cases r with
  | none => exact wpAny_pure h₁
  | some v =>
    refine wpAny_bind (wpAny_of_eq (ht v) ?_)
    refine wpAny_bind (wpAny_mono h₁ (fun _ s₂ h₂ => ?_) fun _ _ h' => h'.elim)
    refine wpAny_bind (wpAny_mono h₂ (fun x s₃ h₃ => ?_) fun _ _ h' => h'.elim)
    refine wpAny_bind (wpAny_standAt ?_)
    refine wpAny_bind (wpAny_of_eq (hs x) ?_)
    refine wpAny_bind (wpAny_holding (wpAny_mono h₃ (fun it' s₄ h₄ => ?_) fun _ _ h' => h'.elim))
    refine wpAny_bind (wpAny_runOwn (codeAny_mono h₄ ?_))
    rintro r s₅ ⟨f, rfl, m, hm, hI'⟩
    exact wpAny_pure ⟨rfl, m, hm, hI'⟩
theorem loop_nest1 (I : Nat → Shared → Prop)
    (turn : ∀ n s, I n s → wpAny (model prog w) A (pyNext it) (fun r s₁ => match r with
      | none => R (.ok .next) s₁
      | some v => wpAny (model prog w) A (assign t2 env v) (fun _ s₂ => wpAny (model prog w) A (eval elt env) (fun x s₃ =>
          wpAny (model prog w) A (call (.builtin "list.append") [acc, x]) (fun _ s₄ => ∃ m, m < n ∧ I m s₄) (fun _ _ => False) s₃) (fun _ _ => False) s₂) (fun _ _ => False) s₁) (fun _ _ => False) s)
    (n : Nat) (h : I n s) (ht : ∀ v, letOwnedTupleGo t2 it v = pure ()) :
    codeAny (model prog w) A (.compLoop (.ListComp elt [⟨t1, i1, [], 0⟩, ⟨t2, i2, [], 0⟩] scope pos) 1 it acc env) R s := by
  refine codeAny_loop rfl I (fun n s hI => ?_) n h
  show wpAny _ A ((compTurn (.ListComp elt [⟨t1, i1, [], 0⟩, ⟨t2, i2, [], 0⟩] scope pos) 1 it acc env).onRaise (fun x => do noteFrame x env; theTreesLotGoes x)) _ _ s
  refine wpAny_noted ?_
  rw [nest1]
  refine wpAny_bind (wpAny_standAt (wpAny_bind (wpAny_mono (turn n s hI) (fun r s₁ h₁ => ?_) fun _ _ h' => h'.elim)))
  cases r with
  | none => exact wpAny_pure h₁
  | some v =>
    refine wpAny_bind (wpAny_of_eq (ht v) ?_)
    refine wpAny_bind (wpAny_mono h₁ (fun _ s₂ h₂ => ?_) fun _ _ h' => h'.elim)
    exact wpAny_bind (wpAny_bind (wpAny_mono h₂ (fun x s₃ h₃ => wpAny_bind (wpAny_mono h₃ (fun _ s₄ h₄ => wpAny_pure (wpAny_pure ⟨rfl, h₄⟩)) fun _ _ h' => h'.elim)) fun _ _ h' => h'.elim))
theorem start_nest1
    (h0 : codeAny (model prog w) A (.compLoop (.ListComp elt [⟨t1, i1, [], 0⟩, ⟨t2, i2, [], 0⟩] scope pos) 1 it acc env) R s)
    (h : wpAny (model prog w) A (pyIter it) (fun it' s' => codeAny (model prog w) A (.compLoop (.ListComp elt [⟨t1, i1, [], 0⟩, ⟨t2, i2, [], 0⟩] scope pos) 1 it' acc env) R s') (fun _ _ => False) s) :
    codeAny (model prog w) A (.compStart (.ListComp elt [⟨t1, i1, [], 0⟩, ⟨t2, i2, [], 0⟩] scope pos) 1 it acc env) R s := by
  refine codeAny_of_tree ?_
  show wpAny _ _ ((compStart (.ListComp elt [⟨t1, i1, [], 0⟩, ⟨t2, i2, [], 0⟩] scope pos) 1 it acc env).onRaise (fun x => do noteFrame x env; standAt theWindowsPlace)) _ _ s
  refine wpAny_notedAt ?_
  unfold compStart
  show wpAny _ _ (ask >>= _) _ _ s
  refine wpAny_bind (wpAny_askSetting (wpAny_ite ?_))
  split
  · first
      | exact wpAny_bind (wpAny_pure (wpAny_pure (And.intro rfl h0)))
      | exact wpAny_pure (And.intro rfl h0)
  · first
      | exact wpAny_bind (wpAny_rule (wpAny_bind (wpAny_standAt (wpAny_bind (wpAny_mono h (fun it' s' h' => wpAny_pure (And.intro rfl h')) fun _ _ x => x.elim)))))
      | (refine wpAny_bind (wpAny_rule ?_); show wpAny _ _ (standAt i2.pos >>= _) _ _ s; exact wpAny_bind (wpAny_standAt (wpAny_bind (wpAny_mono h (fun it' s' h' => wpAny_pure (And.intro rfl h')) fun _ _ x => x.elim))))
end
section
variable {prog : Program} {w : World} {A : Around} {s : Shared} {env : Env} {E : Value → Shared → Prop} {scope : Scope} {cl : List (Str × Addr)} {pos : Pos} {Q : Value → Shared → Prop}
theorem iter_end {b1 : Heap} {C it l : Addr} {oi : Obj} {i : Nat} {items : Array Value} {ns : List (Addr × Obj)} {m : Str → Option Value} {Q : Option Value → Shared → Prop} (hh : A.handled = none)
    (F : Fr b1 C s.heap m) (N : News b1 C s.heap ((it, oi) :: ns)) (c1 : oi.cls = .type "list_iterator") (c2 : oi.data = .fields #[.ref l, .int (i : Int) 0]) (hl : s.heap.IsList l items) (hv : items[i]? = none) (hn : ∀ p ∈ ns, p.1 ≠ it)
    (h : ∀ h', Fr b1 C h' m → News b1 C h' ns → Q none { s with heap := h' }) : wpAny (model prog w) A (pyNext (.ref it)) Q E s := by
  have z := N _ (.head _)
  refine wpAny_pyNext_list_end (i := i) (l := l) hh ⟨_, z.1, c1, c2⟩ hl hv ?_
  intro h' hx
  refine h h' ⟨F.ns.extBut hx z.2.1.symm, fun b o e => hx b o (fun q => by subst q; rw [z.2.2] at e; cases e) (F.keep b o e), F.above⟩ ?_
  intro p hp
  have zp := N p (.tail _ hp)
  exact ⟨hx _ _ (hn p hp) zp.1, zp.2⟩
theorem iter_next {b1 : Heap} {C it l : Addr} {oi : Obj} {i : Nat} {items : Array Value} {v : Value} {ns : List (Addr × Obj)} {m : Str → Option Value} {Q : Option Value → Shared → Prop}
    (F : Fr b1 C s.heap m) (N : News b1 C s.heap ((it, oi) :: ns)) (c1 : oi.cls = .type "list_iterator") (c2 : oi.data = .fields #[.ref l, .int (i : Int) 0]) (hl : s.heap.IsList l items) (hv : items[i]? = some v) (hn : ∀ p ∈ ns, p.1 ≠ it)
    (h : ∀ h' o', Fr b1 C h' m → News b1 C h' ((it, o') :: ns) → o'.cls = .type "list_iterator" → o'.data = .fields #[.ref l, .int ((i + 1 : Nat) : Int) 0] → Q (some v) { s with heap := h' }) :
    wpAny (model prog w) A (pyNext (.ref it)) Q E s := by
  have z := N _ (.head _)
  refine wpAny_pyNext_list_item (i := i) (l := l) ⟨_, z.1, c1, c2⟩ hl hv ?_
  rintro h5 ⟨o', e1, e2, e3⟩ hsb
  refine h h5 o' (F.change hsb z.2.1 z.2.2) ?_ e2 e3
  intro p hp
  rcases List.mem_cons.mp hp with rfl | hp
  · exact ⟨e1, z.2⟩
  · have z := N p (.tail _ hp); exact ⟨(hsb.2 p.1 (hn p hp)).trans z.1, z.2⟩
theorem News.perm {h₀ h : Heap} {L : Addr} {a b : List (Addr × Obj)} (N : News h₀ L h b) (hs : ∀ p ∈ a, p ∈ b) : News h₀ L h a := fun p hp => N p (hs p hp)
theorem flat_len {yss : List (List Value)} {P : Nat → List Value → Prop} (h : ∀ (i : Nat) ys, yss[i]? = some ys → P i ys) (hb : ∀ i ys, P i ys → ys.length ≤ 4) : yss.flatten.length ≤ 4 * yss.length := by
  induction yss generalizing P with
  | nil => simp
  | cons a r ih =>
    have h0 := hb 0 a (h 0 a rfl)
    have h1 := ih (P := fun i => P (i + 1)) (fun i ys e => h (i + 1) ys (by simpa using e)) (fun i ys q => hb (i + 1) ys q)
    simp only [List.flatten_cons, List.length_append, List.length_cons]; omega
/-- a comprehension of two clauses: a list's items, and for each a short new list's -/
theorem comp_nest {iter iter2 : Expr} {na nb : Str} {pa pb pe : Pos} {l : Addr} {vs : List Value} (P : Nat → List Value → Prop) (hb4 : ∀ i ys, P i ys → ys.length ≤ 4) (hh : A.handled = none)
    (hclos : closureFor scope env = pure cl) (hcell : ∀ y ∈ scope.names, y.2 ≠ .cell) (hkind : scope.kind = .function)
    (hnames : ∀ y ∈ scope.names, y.2 = .local → scope.names.lookup y.1 = some .local) (hs : ∀ x, foldedSetIterable iter env x = pure x) (hs2 : ∀ (e : Env) x, foldedSetIterable iter2 e x = pure x)
    (hna : scope.names.lookup na = some .local) (hnb : scope.names.lookup nb = some .local) (hdb : (nb == ("__debug__" : Str)) = false) (hmin : vs.length ≤ 1000)
    (hl : s.heap.IsList l vs.toArray)
    (hiter : ∀ (Q' : Value → Shared → Prop), (∀ tk, Q' (.ref l) { s with toks := tk }) → wpAny (model prog w) A (eval iter env) Q' E s)
    (hinner : ∀ (i : Nat) (x : Value) (C B D : Addr) (oB oD : Obj) (h : Heap) (tk : Nat) (m₁ : Str → Option Value), vs[i]? = some x → Fr s.heap C h (fun q => if q = na then some x else m₁ q) → News s.heap C h [(B, oB), (D, oD)] →
      wpAny (model prog w) A (eval iter2 (compEnvC scope cl C env)) (fun v s' => Stop (∃ a ys n h' tk' m', v = .ref a ∧ s' = { s with heap := h', toks := tk' } ∧ Fr s.heap C h' m' ∧ News s.heap C h' [(a, W.listOf (List.toArray ys) n), (B, oB), (D, oD)] ∧ B < a ∧ D < a ∧ P i ys)) (fun _ _ => False) { s with heap := h, toks := tk })
    (hQ : ∀ (D : Addr) (yss : List (List Value)) (n : Nat) (h' : Heap) (tk : Nat), s.heap.get? D = none → Kept s.heap h' → h'.get? D = some (W.listOf (List.toArray yss.flatten) n) → yss.length = vs.length → (∀ (i : Nat) ys, yss[i]? = some ys → P i ys) → Q (.ref D) { s with heap := h', toks := tk }) :
    wpAny (model prog w) A (eval (.ListComp (.Name nb pe) [⟨.Name na pa, iter, [], 0⟩, ⟨.Name nb pb, iter2, [], 0⟩] scope pos) env) Q E s := by
  refine comp_enter (fun fs => ∃ yss : List (List Value), fs = yss.flatten ∧ yss.length = vs.length ∧ ∀ (i : Nat) ys, yss[i]? = some ys → P i ys) hclos hcell hkind hnames hs (hiter _ fun tk0 => ?_) ?_
  rotate_left
  · rintro D fs n h' tk a b c ⟨yss, rfl, d1, d2⟩
    exact hQ D yss n h' tk a b c d1 d2
  refine wpAny_pyIter_list hl ?_
  refine ⟨_, tk0, rfl, fun b o e => Heap.get?_push_of_some _ e, ?_⟩
  intro D C h3 tk3 hD hDC k3 hD3 hC3
  dsimp only at hD k3
  rw [Heap.size_push] at hD
  have hit3 : h3.get? s.heap.objs.size = some { cls := .type "list_iterator", data := .fields #[.ref l, .int 0 0] } := k3 _ _ (Heap.get?_push_size _ rfl)
  generalize hB : s.heap.objs.size = B at hD hit3
  have hBD : B < D := hD
  have hBC : B < C := Nat.lt_trans hBD hDC
  have nn : ∀ c, B ≤ c → s.heap.get? c = none := fun c hc => Heap.get?_none_of_le (by rw [hB]; exact hc)
  have F3 : Fr s.heap C h3 (fun _ => none) := ⟨hC3, fun b o e => k3 b o (Heap.get?_push_of_some _ e), by rw [hB]; exact Nat.le_of_lt hBC⟩
  have N3 : News s.heap C h3 [(B, { cls := .type "list_iterator", data := .fields #[.ref l, .int 0 0] }), (D, W.listOf (List.toArray []) 0)] := by
    intro p hp
    simp only [List.mem_cons, List.not_mem_nil, or_false] at hp
    rcases hp with rfl | rfl
    · exact ⟨hit3, Nat.ne_of_lt hBC, nn _ (Nat.le_refl _)⟩
    · exact ⟨hD3, Nat.ne_of_lt hDC, nn _ (Nat.le_of_lt hBD)⟩
  generalize hob : Obj.mk (.type "list_iterator") _ _ _ = ob at N3
  have c1 : ob.cls = .type "list_iterator" := by subst hob; rfl
  have c2 : ob.data = .fields #[.ref l, .int ((0 : Nat) : Int) 0] := by subst hob; rfl
  have kA : (compEnvC scope cl C env).kindOf na = some .local := lookup_relabel_local hna
  have kB : (compEnvC scope cl C env).kindOf nb = some .local := lookup_relabel_local hnb
  have hkf : (compEnvC scope cl C env).scope.kind = .function := hkind
  have hp : ((compEnvC scope cl C env).scope.kind == .class || ((compEnvC scope cl C env).scope.kind == .module && (compEnvC scope cl C env).locals != (compEnvC scope cl C env).globals)) = false := by rw [hkf]; rfl
  have loop : codeAny (model prog w) A (.compLoop (.ListComp (.Name nb pe) [⟨.Name na pa, iter, [], 0⟩, ⟨.Name nb pb, iter2, [], 0⟩] scope pos) 0 (.ref B) (.ref D) (compEnvC scope cl C env))
      (CompDone s C D (fun fs => ∃ yss : List (List Value), fs = yss.flatten ∧ yss.length = vs.length ∧ ∀ (i : Nat) ys, yss[i]? = some ys → P i ys)) { s with heap := h3, toks := tk3 } := by
    refine loop_nest0 (fun k s' => ∃ (i : Nat) (h : Heap) (tk : Nat) (m₁ : Str → Option Value) (yss : List (List Value)) (n : Nat) (oi : Obj), s' = { s with heap := h, toks := tk } ∧ Fr s.heap C h m₁ ∧ News s.heap C h [(B, oi), (D, W.listOf (List.toArray yss.flatten) n)] ∧ oi.cls = .type "list_iterator" ∧ oi.data = .fields #[.ref l, .int ((i : Nat) : Int) 0] ∧
      yss.length = i ∧ (∀ (j : Nat) ys, yss[j]? = some ys → P j ys) ∧ i ≤ vs.length ∧ k = vs.length - i) ?_ vs.length
      ⟨0, h3, tk3, _, [], 0, ob, rfl, F3, N3, c1, c2, rfl, by simp, Nat.zero_le _, rfl⟩ (by intro _; rfl) (hs2 _)
    rintro k s' ⟨i, h, tk, m₁, yss, n, oi, rfl, F₁, N₁, e1, e2, hy, hP, hi, rfl⟩
    have hDB : ∀ p ∈ [(D, W.listOf (List.toArray yss.flatten) n)], p.1 ≠ B := by
      intro p hp; simp only [List.mem_cons, List.not_mem_nil, or_false] at hp; subst hp; exact Nat.ne_of_gt hBD
    have hfl := flat_len hP hb4
    rcases Nat.lt_or_ge i vs.length with q | q
    · refine iter_next F₁ N₁ e1 e2 (hl.at fun o e => F₁.keep l o e) (v := vs[i]) (by simp [q]) hDB ?_
      intro h4 o4 F4 N4 e3 e4
      refine wpAny_assign_Name (wpAny_storeName_local kA F4.ns (fun h5 hn5 hs5 => ?_) hp)
      have F5 := F4.set hn5 hs5
      have N5 := N4.set hs5
      refine wpAny_mono (hinner i vs[i] C B D _ _ h5 _ m₁ (by simp [q]) F5 N5) ?_ (fun _ _ e => e.elim)
      rintro v s6 ⟨a, ys, ny, h6, tk6, m6, rfl, rfl, F6, N6, _, hne, hPy⟩
      have hly := hb4 i ys hPy
      refine wpAny_pyIter_list (News.isList N6 (.head _)) ?_
      have F7 := F6.push { cls := .type "list_iterator", data := .fields #[.ref a, .int 0 0] }
      have N7 := N6.push F6 { cls := .type "list_iterator", data := .fields #[.ref a, .int 0 0] }
      have hlt : ∀ p ∈ (a, W.listOf (List.toArray ys) ny) :: (B, o4) :: [(D, W.listOf (List.toArray yss.flatten) n)], p.1 ≠ h6.objs.size := fun p hp => Nat.ne_of_lt (Heap.lt_size (N6 p hp).1)
      have hDa : D ≠ a := Nat.ne_of_lt hne
      dsimp only
      generalize hI : h6.objs.size = I2 at N7 hlt
      generalize hob2 : Obj.mk (.type "list_iterator") _ _ _ = ob2 at N7 F7
      have d1 : ob2.cls = .type "list_iterator" := by subst hob2; rfl
      have d2 : ob2.data = .fields #[.ref a, .int ((0 : Nat) : Int) 0] := by subst hob2; rfl
      have hDI : D ≠ I2 := hlt _ (.tail _ (.tail _ (.head _)))
      have inner : codeAny (model prog w) A (.compLoop (.ListComp (.Name nb pe) [⟨.Name na pa, iter, [], 0⟩, ⟨.Name nb pb, iter2, [], 0⟩] scope pos) 1 (.ref I2) (.ref D) (compEnvC scope cl C env))
          (fun r s₅ => ∃ f, r = .ok f ∧ ∃ k', k' < vs.length - i ∧ ∃ (i : Nat) (h : Heap) (tk : Nat) (m₁ : Str → Option Value) (yss : List (List Value)) (n : Nat) (oi : Obj), s₅ = { s with heap := h, toks := tk } ∧ Fr s.heap C h m₁ ∧ News s.heap C h [(B, oi), (D, W.listOf (List.toArray yss.flatten) n)] ∧ oi.cls = .type "list_iterator" ∧ oi.data = .fields #[.ref l, .int ((i : Nat) : Int) 0] ∧
            yss.length = i ∧ (∀ (j : Nat) ys, yss[j]? = some ys → P j ys) ∧ i ≤ vs.length ∧ k' = vs.length - i) { s with heap := h6.push ob2, toks := tk6 } := by
        refine loop_nest1 (fun k s' => ∃ j h tk m₁ n oj, s' = { s with heap := h, toks := tk } ∧ Fr s.heap C h m₁ ∧ News s.heap C h [(I2, oj), (a, W.listOf (List.toArray ys) ny), (B, o4), (D, W.listOf (List.toArray (yss.flatten ++ ys.take j)) n)] ∧ oj.cls = .type "list_iterator" ∧ oj.data = .fields #[.ref a, .int ((j : Nat) : Int) 0] ∧
          j ≤ ys.length ∧ k = ys.length - j) ?_ ys.length ⟨0, _, tk6, m6, n, ob2, rfl, F7, by simpa using N7, d1, d2, Nat.zero_le _, rfl⟩ (by intro _; rfl)
        rintro k2 s' ⟨j, h8, tk8, m8, n8, oj, rfl, F8, N8, g1, g2, hj, rfl⟩
        have hoff : ∀ p ∈ [(a, W.listOf (List.toArray ys) ny), (B, o4), (D, W.listOf (List.toArray (yss.flatten ++ ys.take j)) n8)], p.1 ≠ I2 := by
          intro p hp
          simp only [List.mem_cons, List.not_mem_nil, or_false] at hp
          rcases hp with rfl | rfl | rfl
          · exact hlt _ (.head _)
          · exact hlt _ (.tail _ (.head _))
          · exact hDI
        rcases Nat.lt_or_ge j ys.length with q2 | q2
        · refine iter_next F8 N8 g1 g2 (News.isList N8 (.tail _ (.head _))) (v := ys[j]) (by simp [q2]) hoff ?_
          intro h9 o9 F9 N9 g3 g4
          refine wpAny_assign_Name (wpAny_storeName_local kB F9.ns (fun h10 hn10 hs10 => ?_) hp)
          have F10 := F9.set hn10 hs10
          have N10 := N9.set hs10
          refine ldVarK F10.ns (v := ys[j]) (by simp) ?_ hkf kB hdb
          have N11 : News s.heap C h10 [(D, W.listOf (List.toArray (yss.flatten ++ ys.take j)) n8), (I2, o9), (a, W.listOf (List.toArray ys) ny), (B, o4)] := News.perm N10 (by intro p hp; simp only [List.mem_cons, List.not_mem_nil, or_false] at hp ⊢; grind)
          refine append_K F10 N11 (.head ?_) ?_ (by rw [sizeLine_eq, List.size_toArray, List.length_append, List.length_take]; omega)
          · intro p hp
            simp only [List.mem_cons, List.not_mem_nil, or_false] at hp
            rcases hp with rfl | rfl | rfl
            · exact hDI.symm
            · exact hDa.symm
            · exact Nat.ne_of_lt hBD
          · intro h12 F12 N12
            refine ⟨ys.length - (j + 1), by omega, j + 1, h12, _, _, n8 + 1, o9, rfl, F12, ?_, g3, g4, q2, rfl⟩
            refine News.perm N12 ?_
            have e : yss.flatten ++ ys.take (j + 1) = (yss.flatten ++ ys.take j) ++ [ys[j]] := by
              have e0 : ys.take (j + 1) = ys.take j ++ [ys[j]] := by rw [List.take_add_one]; simp [q2]
              rw [e0, List.append_assoc]
            intro p hp
            rw [e] at hp
            simp only [List.mem_cons, List.not_mem_nil, or_false, List.push_toArray] at hp ⊢
            grind
        · obtain rfl : j = ys.length := by omega
          refine iter_end hh F8 N8 g1 g2 (News.isList N8 (.tail _ (.head _))) (by simp) hoff ?_
          intro h9 F9 N9
          refine ⟨.next, rfl, vs.length - (i + 1), by omega, i + 1, h9, tk8, m8, yss ++ [ys], n8, o4, rfl, F9, ?_, e3, e4, by simp [hy], ?_, q, rfl⟩
          · refine News.perm N9 ?_
            intro p hp
            rw [List.flatten_append] at hp
            simp only [List.mem_cons, List.not_mem_nil, or_false, List.flatten_cons, List.flatten_nil, List.append_nil, List.take_length] at hp ⊢
            grind
          · intro j' ys' hv'
            rcases Nat.lt_or_ge j' yss.length with q3 | q3
            · rw [List.getElem?_append_left q3] at hv'; exact hP j' ys' hv'
            · rw [List.getElem?_append_right q3] at hv'
              have hj' : j' = yss.length := by
                rcases Nat.lt_or_ge (j' - yss.length) 1 with r | r
                · omega
                · rw [List.getElem?_eq_none (by simpa using r)] at hv'; cases hv'
              subst hj'
              simp at hv'; subst hv'; rw [hy]; exact hPy
      exact start_nest1 inner (wpAny_pyIter_listiter ⟨ob2, (N7 _ (.head _)).1, d1, d2⟩ inner)
    · obtain rfl : i = vs.length := by omega
      refine iter_end hh F₁ N₁ e1 e2 (hl.at fun o e => F₁.keep l o e) (by simp) hDB ?_
      intro h4 F4 N4
      exact ⟨.next, rfl, h4, tk, m₁, yss.flatten, n, rfl, F4.keep, F4.ns, (N4 _ (.head _)).1, yss, rfl, hy, hP⟩
  exact codeAny_compStart_list loop (wpAny_pyIter_listiter ⟨ob, (N3 _ (.head _)).1, c1, c2⟩ loop)
end
end
section
local macro_rules | `(tactic| walk_at "pad pad") => `(tactic| fail "pad")
local macro_rules | `(tactic| walk_at "pad pad") => `(tactic| fail "pad")
theorem fresh_P_line : True := by w_top off; exact trivial
open PySem PySem.W PyProof.Rows
set_option maxRecDepth 100000
set_option maxHeartbeats 1000000
theorem join0 : ∀ ws : List Str, (Str.join (Str.ofString "") ws).cps.toList = (ws.map (·.cps.toList)).flatten
  | [] => by simp [Str.join]; rfl
  | [a] => by simp [Str.join]
  | a :: b :: r => by
    have ih := join0 (b :: r)
    simp only [Str.join, List.map_cons, List.flatten_cons] at ih ⊢
    rw [Str.cps_append, Str.cps_append]
    simp only [Array.toList_append, ih]
    rw [show (Str.ofString "").cps.toList = [] from rfl]
    simp
theorem pad_is {w : Nat} {p : Str} : Txt.mul (Str.ofString " ") ((w : Int) - (p.length : Int)) ++ p = ⟨(padL w p.cps.toList).toArray⟩ := by
  apply str_ext
  rw [Str.cps_append, sp_is]
  simp only [Array.toList_append, mul_one_list]
  unfold padL
  have e1 : ((w : Int) - (p.length : Int)).toNat = w - p.cps.toList.length := by
    have : p.cps.toList.length = p.length := by simp [Str.length]
    omega
  rw [e1]
theorem strsAre_of : ∀ {ss : List Str} {ws : List Value}, ws.length = ss.length → (∀ (j : Nat) (v : Value), ws[j]? = some v → ∃ t y, v = Value.str y t ∧ ss[j]? = some y) → StrsAre ws ss
  | [], [], _, _ => .nil
  | [], _ :: _, h, _ => by simp at h
  | _ :: _, [], h, _ => by simp at h
  | d :: ds, v :: ws, hl, h => by
    obtain ⟨t, y, rfl, e⟩ := h 0 v rfl
    cases e
    exact .cons _ _ (strsAre_of (by simpa using hl) fun j v e => by simpa using h (j + 1) v (by simpa using e))
/-- the padded parts -/
def padsOf (f : Nat) (x : Int) : List Str := List.zipWith (fun w (p : Str) => (⟨(padL w p.cps.toList).toArray⟩ : Str)) [f, 3, 3] (psOf x)
theorem psOf_len (x : Int) : (psOf x).length = nOf x := by simp [psOf, dsOf_len]
theorem padsOf_len (f : Nat) (x : Int) : (padsOf f x).length = nOf x := by
  have := (nOf_is x).2.2
  simp [padsOf, psOf_len]; omega
theorem padsOf_at {f : Nat} {x : Int} {i w : Nat} {p : Str} (h1 : [f, 3, 3][i]? = some w) (h2 : (psOf x)[i]? = some p) : (padsOf f x)[i]? = some ⟨(padL w p.cps.toList).toArray⟩ := by
  unfold padsOf; rw [List.getElem?_zipWith, h1, h2]
theorem line_join (f : Nat) (x : Int) : Str.join (Str.ofString "") (padsOf f x) = lineOf f x := by
  apply str_ext
  rw [join0]
  unfold lineOf lineL padsOf psOf
  rw [List.map_zipWith, List.zipWith_map_right, List.zipWith_map_right]
  rfl
theorem psOf_at {x : Int} {i : Nat} {p : Str} (h : (psOf x)[i]? = some p) : ∃ d, (dsOf x)[i]? = some d ∧ d < 1000 ∧ p = plainS d := by
  unfold psOf at h
  rw [List.getElem?_map] at h
  obtain ⟨d, hd, rfl⟩ := Option.map_eq_some_iff.mp h
  exact ⟨d, hd, dsOf_lt x d (List.mem_of_getElem? hd), rfl⟩
theorem padL_len {w : Nat} {p : List Nat} (h : p.length ≤ w) : (padL w p).length = w := by unfold padL; simp; omega
theorem lineL_at : ∀ {ws : List Nat} {ps : List (List Nat)} {i w : Nat} {p : List Nat}, (∀ (j : Nat) w p, ws[j]? = some w → ps[j]? = some p → p.length ≤ w) → ws[i]? = some w → ps[i]? = some p →
    ((lineL ws ps).drop (ws.take i).sum).take w = padL w p ∧ (ws.take i).sum + w ≤ (lineL ws ps).length
  | [], _, _, _, _, _, h, _ => by simp at h
  | _ :: _, [], _, _, _, _, _, h => by simp at h
  | w0 :: ws, p0 :: ps, 0, w, p, hle, h1, h2 => by
    simp at h1 h2; subst h1 h2
    have h0 := padL_len (hle 0 w0 p0 rfl rfl)
    have e : lineL (w0 :: ws) (p0 :: ps) = padL w0 p0 ++ lineL ws ps := rfl
    rw [e]
    constructor
    · simp only [List.take_zero, List.sum_nil, List.drop_zero]
      rw [List.take_append_of_le_length (by omega), List.take_of_length_le (by omega)]
    · simp; omega
  | w0 :: ws, p0 :: ps, i + 1, w, p, hle, h1, h2 => by
    have h0 := padL_len (hle 0 w0 p0 rfl rfl)
    have e : lineL (w0 :: ws) (p0 :: ps) = padL w0 p0 ++ lineL ws ps := rfl
    obtain ⟨q1, q2⟩ := lineL_at (ws := ws) (ps := ps) (i := i) (w := w) (p := p) (fun j w p a b => hle (j + 1) w p (by simpa using a) (by simpa using b)) (by simpa using h1) (by simpa using h2)
    rw [e]
    simp only [List.take_succ_cons, List.sum_cons]
    constructor
    · rw [List.drop_append, List.drop_eq_nil_of_le (by omega), List.nil_append, h0, Nat.add_sub_cancel_left]; exact q1
    · rw [List.length_append]; omega
theorem digs_no (d : Nat) (h : d < 1000) : ∀ c ∈ digs d, c ≠ 32 := fun c hc => by have := digs_ok h c hc; omega
theorem widths_at {f i w : Nat} (hf1 : 4 ≤ f) (hf2 : f ≤ 5) (h : [f, 3, 3][i]? = some w) : 3 ≤ w ∧ w ≤ 5 ∧ ([f, 3, 3].take i).sum ≤ 100 := by
  match i, h with
  | 0, h => simp at h; subst h; simp; omega
  | 1, h => simp at h; subst h; simp; omega
  | 2, h => simp at h; subst h; simp; omega
theorem lineOf_len {f : Nat} {x : Int} (hf2 : f ≤ 5) (hf1 : 4 ≤ f) : (lineOf f x).length ≤ 1000 := by
  have key : ∀ (ws : List Nat) (ps : List (List Nat)), (∀ w ∈ ws, w ≤ 5) → (∀ p ∈ ps, p.length ≤ 3) → (lineL ws ps).length ≤ 8 * ps.length := by
    intro ws ps
    induction ws generalizing ps with
    | nil => intro _ _; simp [lineL]
    | cons w ws ih =>
      intro h1 h2
      cases ps with
      | nil => simp [lineL]
      | cons p ps =>
        have a := ih ps (fun w hw => h1 w (by simp [hw])) (fun p hp => h2 p (by simp [hp]))
        have b := h1 w (by simp)
        have c := h2 p (by simp)
        have e : lineL (w :: ws) (p :: ps) = padL w p ++ lineL ws ps := rfl
        rw [e, List.length_append]
        have d : (padL w p).length ≤ 8 := by unfold padL; simp; omega
        simp only [List.length_cons]; omega
  have := key [f, 3, 3] ((dsOf x).map digs) (by simp; omega) (by intro p hp; obtain ⟨d, _, rfl⟩ := List.mem_map.mp hp; exact (digs_len d).2)
  have n := (nOf_is x).2.2
  simp only [List.length_map, dsOf_len] at this
  have e : (lineOf f x).length = (lineL [f, 3, 3] ((dsOf x).map digs)).length := by simp [lineOf, Str.length]
  omega
theorem fields_ok {f : Nat} {x : Int} (hf1 : 4 ≤ f) (hf2 : f ≤ 5) (i w : Nat) (p : Str) (h1 : [f, 3, 3][i]? = some w) (h2 : (psOf x)[i]? = some p) :
    1 ≤ p.length ∧ p.length ≤ 3 ∧ p.length ≤ w ∧ w ≤ 5 ∧ ([f, 3, 3].take i).sum ≤ 100 ∧
      FieldIs (Txt.slice (lineOf f x) (some (([f, 3, 3].take i).sum : Int)) (some (([f, 3, 3].take i).sum + w : Int)) ++ Str.ofString "  ") (w - p.length) p.cps.toList := by
  obtain ⟨w1, w2, w3⟩ := widths_at hf1 hf2 h1
  obtain ⟨d, hd, hlt, rfl⟩ := psOf_at h2
  have pl := plain_len d
  have e1 : (plainS d).cps.toList = digs d := rfl
  have e2 : (plainS d).length = (digs d).length := by simp [plainS, Str.length]
  refine ⟨pl.1, pl.2, by omega, w2, w3, ?_, ?_, ?_⟩
  · obtain ⟨q1, q2⟩ := lineL_at (ws := [f, 3, 3]) (ps := (dsOf x).map digs) (i := i) (w := w) (p := digs d) (fun j w p a b => by
      obtain ⟨w1, _, _⟩ := widths_at hf1 hf2 a
      rw [List.getElem?_map] at b
      obtain ⟨d, _, rfl⟩ := Option.map_eq_some_iff.mp b
      have := (digs_len d).2; omega) h1 (by rw [List.getElem?_map, hd]; rfl)
    have hl : (lineOf f x).length = (lineL [f, 3, 3] ((dsOf x).map digs)).length := by simp [lineOf, Str.length]
    rw [show (([f, 3, 3].take i).sum : Int) + (w : Int) = ((([f, 3, 3].take i).sum + w : Nat) : Int) by push_cast; rfl]
    rw [slice_mid (by omega) (by omega), Str.cps_append]
    rw [Nat.add_sub_cancel_left]
    simp only [Array.toList_append]
    have e3 : (lineOf f x).cps.toList = lineL [f, 3, 3] ((dsOf x).map digs) := by simp [lineOf]
    rw [e3, q1, e1, e2, show (Str.ofString "  ").cps.toList = [32, 32] by decide +kernel]
    rfl
  · rw [e1]; intro q; have := (digs_len d).1; rw [q] at this; simp at this
  · rw [e1]; exact digs_no d hlt
end
section
local macro_rules | `(tactic| walk_at "pad pad") => `(tactic| fail "pad")
local macro_rules | `(tactic| walk_at "pad pad") => `(tactic| fail "pad")
local macro_rules | `(tactic| walk_at "pad pad") => `(tactic| fail "pad")
local macro_rules | `(tactic| walk_at "pad pad") => `(tactic| fail "pad")
local macro_rules | `(tactic| walk_at "pad pad") => `(tactic| fail "pad")
local macro_rules | `(tactic| walk_at "pad pad") => `(tactic| fail "pad")
local macro_rules | `(tactic| walk_at "pad pad") => `(tactic| fail "pad")
local macro_rules | `(tactic| walk_at "pad pad") => `(tactic| fail "pad")
local macro_rules | `(tactic| walk_at "pad pad") => `(tactic| fail "pad")
local macro_rules | `(tactic| walk_at "pad pad") => `(tactic| fail "pad")
local macro_rules | `(tactic| walk_at "pad pad") => `(tactic| fail "pad")
local macro_rules | `(tactic| walk_at "pad pad") => `(tactic| fail "pad")
local macro_rules | `(tactic| walk_at "pad pad") => `(tactic| fail "pad")
local macro_rules | `(tactic| walk_at "pad pad") => `(tactic| fail "pad")
theorem fresh_C_B : True := by w_top off; exact trivial
open PySem PySem.W PyProof.Rows
set_option maxRecDepth 100000
set_option maxHeartbeats 8000000
section
variable {M : Model} {A : Around} {E : Value → Shared → Prop} {s : Shared} {K : Frag} {h₀ : Heap} {C : Addr} {m mg mb : Str → Option Value} {scope : Scope} {cl : List (Str × Addr)} {env : Env} {x : Str} {pos : Pos} {v : Value} {Q : Value → Shared → Prop}
theorem cn_own (F : Fr h₀ C s.heap m) (hx : m x = some v) (h : Q v s)
    (hk : (compEnvC scope cl C env).scope.kind = .function := by rfl) (hl : (compEnvC scope cl C env).kindOf x = some .local := by rfl) (hd : (x == ("__debug__" : Str)) = false := by decide) :
    wpAny M A (eval (.Name x pos) (compEnvC scope cl C env)) Q E s := ldVarK F.ns hx h hk hl hd
end
theorem read_ints : ∀ {yss : List (List Value)} {ds : List Nat}, yss.length = ds.length → (∀ (i : Nat) ys, yss[i]? = some ys → ∃ t u d, ys = [.int 100 t, .int ((d : Nat) : Int) u] ∧ ds[i]? = some d) → IntsAre yss.flatten (ds.flatMap fun (d : Nat) => [(100 : Int), (d : Int)])
  | [], [], _, _ => .nil
  | [], _ :: _, h, _ => by simp at h
  | _ :: _, [], h, _ => by simp at h
  | y :: yss, d :: ds, hl, h => by
    obtain ⟨t, u, d', rfl, e⟩ := h 0 y rfl
    cases e
    simp only [List.flatten_cons, List.flatMap_cons]
    exact .cons _ _ (.cons _ _ (read_ints (by simpa using hl) fun i ys e => by simpa using h (i + 1) ys (by simpa using e)))
set_option pp.deepTerms false
set_option pp.maxSteps 2000
set_option pp.deepTerms.threshold 6
local macro_rules | `(tactic| walk_at "exec If") => `(tactic| refine stop_intro ?_)
local macro_rules | `(tactic| walk_at "exec For") => `(tactic| refine stop_intro ?_)
local macro_rules | `(tactic| walk_at "call ref") => `(tactic| refine stop_intro ?_)
local macro_rules | `(tactic| walk_at "eval ListComp") => `(tactic| refine stop_intro ?_)
local macro_rules | `(tactic| walk_at "call builtin:str.join") => `(tactic| (k_dflt (refine' join_lit ?k1 ?k2 ?k3 ?k4 ?_; (case k1 => exact News.isList (by k_asm) (by k_mem)); (case k2 => assumption); (case k3 => first | decide +kernel | omega); (case k4 => assumption)); intro t8 tk8))
local macro_rules | `(tactic| walk_at "call type:int") => `(tactic| refine stop_intro ?_)
local macro_rules | `(tactic| walk_at "eval Name") => `(tactic| (k_here; (with_reducible show wpAny _ _ (eval (Expr.Name _ _) (compEnvC _ _ _ _)) _ _ _); k_dflt (first
  | refine cn_own (by k_asm) (by rfl) ?_
  | refine LCgL.ld_global (by k_asm) (by k_asm) (by k_asm) (by k_is) ?_
  | refine LCgL.ld_built (by k_asm) (by k_asm) (by k_asm) (by k_is) (by boot_by_name) (by decide) ?_)))
noncomputable def cutB : (B : Prop) ×' (Cut B → cutA.1) := by
  apply PSigma.mk
  intro cutB w
  set_option tactic.hygienic false in intros
  revert X; k_fill; intro X
  rename Fr _ _ _ _ => F14
  rename News _ _ _ _ => N14
  replace I13 : IntsAre rv (readOf x) := I13
  refine wp_stay led F14 ?_ ?_
  · refine wpAny_If ?_
    k_steps
    unfold Stop
    rename Fr _ _ _ _ => F15
    rename News _ _ _ _ => N15
    have X15 := X0.keeps F15.keep
    have T15 := T.keeps F15.keep
    refine comp_nest (l := lp) (vs := vp) (P := fun i ys => ∃ t u d, ys = [.int 100 t, .int ((d : Nat) : Int) u] ∧ (dsOf x)[i]? = some d) (by rintro i ys ⟨t, u, d, rfl, _⟩; simp) rfl (by rfl) (by decide) (by rfl) (by decide) (by intro _; rfl) (by intro _ _; rfl) (by rfl) (by rfl) (by decide) (by have := Sp.length; omega) (News.isList N15 (by k_mem)) ?_ ?_ ?_
    · intro Q' hz
      k_steps
      exact hz _
    · intro i xx C B D oB oD h tk m₁ hx F N
      obtain ⟨p, tp', rfl, hp⟩ := strAt' Sp hx
      obtain ⟨d, hdd, hdl, rfl⟩ := psOf_at hp
      have hnp := num_p hdl
      k_steps
      change wpAny _ _ _ _ _ _
      refine KIN.call_text hnp.int (by have := hnp.len; omega) ?_
      k_steps
      rename_i hBD
      rename Fr _ _ _ _ => F16
      rename News _ _ _ _ => N16
      exact ⟨_, [.int 100 _, .int (d : Int) _], 0, _, _, _, rfl, rfl, F16, N16, hBD.1, hBD.2, _, _, d, rfl, hdd⟩
    · intro D yss n' h16 tk16 hD K16 gD hyl hyP
      have IY : IntsAre yss.flatten (readOf x) := read_ints (by rw [hyl, Sp.length, psOf_len, dsOf_len]) hyP
      have F16 := Fr.kept F15 K16
      have N16 := News.add F15 ⟨gD, hD⟩ (News.kept N15 K16)
      clear F15 N15
      dsimp only
      k_steps
      exact ⟨rfl, _, _, rfl, F16, News.sub N16 (by intro p hp; simp only [led, List.mem_cons] at hp ⊢; grind)⟩
  intro h17 tk17 F17 N17
  clear F14 N14
  dsimp only [led] at N17 ⊢
  k_steps
  unfold Stop
  (repeat (revert ‹_›))
  intro cutB
  exact Cut.get cutB
end
section
theorem fresh_C_C : True := by w_top off; exact trivial
open PySem PySem.W PyProof.Rows
set_option maxRecDepth 100000
set_option maxHeartbeats 8000000
set_option pp.deepTerms false
set_option pp.maxSteps 2000
set_option pp.deepTerms.threshold 6
local macro_rules | `(tactic| walk_at "exec If") => `(tactic| refine stop_intro ?_)
local macro_rules | `(tactic| walk_at "exec For") => `(tactic| refine stop_intro ?_)
local macro_rules | `(tactic| walk_at "call ref") => `(tactic| refine stop_intro ?_)
local macro_rules | `(tactic| walk_at "call builtin:list.append") => `(tactic| refine stop_intro ?_)
local macro_rules | `(tactic| walk_at "call type:zip") => `(tactic| refine stop_intro ?_)
local macro_rules | `(tactic| walk_at "eval Name") => `(tactic| (k_here; (with_reducible show wpAny _ _ (eval (Expr.Name _ _) (compEnvC _ _ _ _)) _ _ _); k_dflt (first
  | refine cn_own (by k_asm) (by rfl) ?_
  | refine LCgL.ld_global (by k_asm) (by k_asm) (by k_asm) (by k_is) ?_
  | refine LCgL.ld_built (by k_asm) (by k_asm) (by k_asm) (by k_is) (by boot_by_name) (by decide) ?_)))
local macro_rules | `(tactic| walk_at "call builtin:str.join") => `(tactic| (k_dflt (refine' join_lit ?k1 ?k2 ?k3 ?k4 ?_; (case k1 => exact News.isList (by k_asm) (by k_mem)); (case k2 => assumption); (case k3 => first | decide +kernel | omega); (case k4 => assumption)); intro t8 tk8))
theorem tC : cutB.1 := by
  intro w
  set_option tactic.hygienic false in intros
  revert X; k_fill; intro X
  rename Fr _ _ _ _ => F14
  rename News _ _ _ _ => N14
  have X14 := X0.keeps F14.keep
  have T14 := T.keeps F14.keep
  have hplen : ∀ p ∈ psOf x, p.length ≤ 3 := fun p hp => by
    obtain ⟨d, _, rfl⟩ := List.mem_map.mp hp
    exact (plain_len d).2
  refine comp_zip (P := fun i v => ∃ t y, v = .str y t ∧ (padsOf f x)[i]? = some y) (xs := vp) (ys := [.int (f : Int) u1, .int 3 u2, .int 3 u3]) rfl (by rfl) (by decide) (by rfl) (by decide) (by intro _; rfl) (by rfl) (by rfl) (by have := Sp.length; omega) (News.isList N14 (by k_mem)) (News.isList N14 (by k_mem)) ?_ ?_ ?_
  · intro Q' hz
    k_steps
    unfold Stop
    exact hz _
  · intro i xx yy C own h tk m₁ hx hy F N
    obtain ⟨p, tp', rfl, hp⟩ := strAt' Sp hx
    obtain ⟨wn', tw', rfl, hw⟩ : ∃ (w : Nat) (t : Tok), yy = .int (w : Int) t ∧ [f, 3, 3][i]? = some w := by
      match i, hy with
      | 0, hy => simp at hy; subst hy; exact ⟨f, u1, rfl, rfl⟩
      | 1, hy => simp at hy; subst hy; exact ⟨3, u2, rfl, rfl⟩
      | 2, hy => simp at hy; subst hy; exact ⟨3, u3, rfl, rfl⟩
    have hp3 := hplen p (List.mem_of_getElem? hp)
    obtain ⟨w1', w2', _⟩ := widths_at (by omega) (by omega) hw
    k_steps
    rename Fr _ _ _ _ => F21
    rename News _ _ _ _ => N21
    rw [pad_is]
    exact ⟨⟨_, _, rfl, padsOf_at hw hp⟩, _, _, _, rfl, F21, N21⟩
  intro D dv dn h18 tk18 hD K18 gD hdl hdP
  have Sd : StrsAre dv (padsOf f x) := strsAre_of (by rw [hdl, padsOf_len, Sp.length, psOf_len]; simp; omega) hdP
  have jd : ((padsOf f x).map (·.length)).sum + (padsOf f x).length ≤ 1048576 := by
    have := sum_le (n := 8) (ys := padsOf f x) (fun y hy => by
      unfold padsOf at hy
      obtain ⟨i, hi⟩ := List.getElem?_of_mem hy
      rw [List.getElem?_zipWith] at hi
      cases h1 : [f, 3, 3][i]? with
      | none => rw [h1] at hi; simp at hi
      | some w =>
        cases h2 : (psOf x)[i]? with
        | none => rw [h1, h2] at hi; simp at hi
        | some p =>
          rw [h1, h2] at hi; simp at hi; subst hi
          have a := hplen p (List.mem_of_getElem? h2)
          have b := (widths_at (by omega) (by omega) h1).2.1
          simp [Str.length, padL] at a ⊢; omega)
    rw [padsOf_len] at this ⊢; omega
  have F18 := Fr.kept F14 K18
  have N18 := News.add F14 ⟨gD, hD⟩ (News.kept N14 K18)
  clear F14 N14
  dsimp only
  k_steps
  unfold Stop
  rename Fr _ _ _ _ => F19
  rename News _ _ _ _ => N19
  rw [line_join] at F19
  refine wp_stay led F19 ?_ ?_
  · refine wpAny_If ?_
    k_steps
    unfold Stop
    rename Fr _ _ _ _ => F20
    rename News _ _ _ _ => N20
    refine back_spec (ps := psOf x) (ws := [f, 3, 3]) (X0.keeps F20.keep) (T.keeps F20.keep) (by simp only [depth_deeper]; decide) rfl (News.isList N20 (by k_mem)) Sp (News.isList N20 (by k_mem)) (.cons _ _ (.cons _ _ (.cons _ _ .nil))) (lineOf_len (by omega) (by omega)) (fields_ok (by omega) (by omega)) ?_
    intro h21 tk21 K21
    have F21 := Fr.kept F20 K21
    have N21 := News.kept N20 K21
    clear F20 N20 K21
    dsimp only
    k_steps
    exact ⟨rfl, _, _, rfl, F21, News.sub N21 (by intro p hp; simp only [led, List.mem_cons] at hp ⊢; grind)⟩
  intro h22 tk22 F22 N22
  clear F19 N19
  dsimp only [led] at N22 ⊢
  k_steps
  unfold Stop
  rename_i fa h23 F23 N23 l23
  obtain ⟨a1, a2, a3, a4, a5, a6, a7, a8, a9⟩ := l23
  obtain ⟨tt, e1, e2, e3⟩ : ∃ tt, h23.get? fa = some (W.listOf (List.toArray [.str (textOf x) t11, .ref rl, .str (lineOf f x) tt]) 0) ∧ fa ≠ L ∧ s.heap.get? fa = none := ⟨_, N23 _ (.head _)⟩
  have N23a : News s.heap L h23 ((fl, W.listOf (List.toArray fv) fn) :: (rl, W.listOf (List.toArray rv) rn) :: (it, oi) :: (wl, W.listOf #[.int (f : Int) u1, .int 3 u2, .int 3 u3] wn) :: (L + 1 + 1, o1) :: (L + 1, o2) :: (xl, W.listOf (List.toArray xv) xn) :: fz) := News.sub N23 (by intro p hp; simp only [List.mem_cons] at hp ⊢; grind)
  replace N23 : News s.heap L h23 ((fl, W.listOf (List.toArray fv) fn) :: (fa, W.listOf (List.toArray [.str (textOf x) t11, .ref rl, .str (lineOf f x) tt]) 0) :: (rl, W.listOf (List.toArray rv) rn) :: (it, oi) :: (wl, W.listOf #[.int (f : Int) u1, .int 3 u2, .int 3 u3] wn) :: (L + 1 + 1, o1) :: (L + 1, o2) :: (xl, W.listOf (List.toArray xv) xn) :: fz) := by
    intro p hp
    rcases List.mem_cons.mp hp with rfl | hp
    · exact N23a _ (.head _)
    rcases List.mem_cons.mp hp with rfl | hp
    · exact ⟨e1, e2, e3⟩
    · exact N23a _ (.tail _ hp)
  have hxl : xs.length ≤ 7 := by rw [← hxs]; simp; omega
  have hfl := hF.len
  have hIl := I.length
  refine append_K F23 N23 (.head ?_) ?_ (by rw [sizeLine_eq, List.size_toArray]; omega)
  · intro p hp
    simp only [List.mem_cons] at hp
    rcases hp with rfl | rfl | rfl | rfl | rfl | rfl | rfl | hp
    · exact Nat.ne_of_gt a5
    · exact hr1
    · exact Nat.ne_of_gt hlf
    · exact Nat.ne_of_lt g1
    · exact Nat.ne_of_lt g2
    · exact Nat.ne_of_lt g3
    · exact Nat.ne_of_gt g4
    · exact (hF.off p hp).1
  intro h24 F24 N24
  refine wpAny_execs_nil ?_
  refine TurnEnd.intro F24 N24 (news := (fl, W.listOf (List.toArray (fv ++ [.ref fa])) (fn + 1)) :: (wl, W.listOf #[.int (f : Int) u1, .int 3 u2, .int 3 u3] wn) :: (L + 1 + 1, o1) :: (L + 1, o2) :: (xl, W.listOf (List.toArray xv) xn) :: (fa, W.listOf (List.toArray [.str (textOf x) t11, .ref rl, .str (lineOf f x) tt]) 0) :: (rl, W.listOf (List.toArray rv) rn) :: fz) ?_
    ⟨_, fv ++ [.ref fa], fn + 1, _, ext2' (by rfl) (by rfl), rfl, hF.snoc hx I13 ⟨Nat.ne_of_gt a5, Nat.ne_of_gt a8, Nat.ne_of_gt a7⟩ ⟨hr1, hr2, hr3⟩, ?_⟩
  · intro p hp
    simp only [List.mem_cons, List.cons_append, List.nil_append, List.push_toArray] at hp ⊢
    grind
  · intro p hp
    rcases List.mem_cons.mp hp with rfl | hp
    · exact Nat.ne_of_gt a4
    rcases List.mem_cons.mp hp with rfl | hp
    · exact hr4
    · exact hz p hp
end
section
local macro_rules | `(tactic| walk_at "pad pad") => `(tactic| fail "pad")
local macro_rules | `(tactic| walk_at "pad pad") => `(tactic| fail "pad")
local macro_rules | `(tactic| walk_at "pad pad") => `(tactic| fail "pad")
local macro_rules | `(tactic| walk_at "pad pad") => `(tactic| fail "pad")
local macro_rules | `(tactic| walk_at "pad pad") => `(tactic| fail "pad")
local macro_rules | `(tactic| walk_at "pad pad") => `(tactic| fail "pad")
local macro_rules | `(tactic| walk_at "pad pad") => `(tactic| fail "pad")
local macro_rules | `(tactic| walk_at "pad pad") => `(tactic| fail "pad")
theorem fresh_R_cell : True := by w_top off; exact trivial
open PySem PySem.W PyProof.Rows
set_option maxRecDepth 100000
set_option maxHeartbeats 1000000
section
variable {prog : Program} {w : World} {A : Around} {s : Shared} {env : Env} {h₀ : Heap} {x : Str} {pos : Pos} {body : List Stmt} {R : Result → Shared → Prop} {m : Str → Option Value} {news : List (Addr × Obj)} {E : Value → Shared → Prop}
theorem for_cell {l c : Addr} {vs : List Value} {oc₀ : Obj} (J : (Str → Option Value) → List (Addr × Obj) → Prop)
    (hh : A.handled = none) (hk : env.scope.kind = .function) (hx : env.kindOf x = some .cell) (hc : env.cells.lookup x = some c)
    (F : Fr h₀ env.locals s.heap m) (N : News h₀ env.locals s.heap ((c, oc₀) :: news)) (hd : ∃ d, oc₀.data = .cell d) (hj : J m news)
    (hl : ∀ m₁ news₁ h, J m₁ news₁ → Fr h₀ env.locals h m₁ → News h₀ env.locals h news₁ → h.IsList l vs.toArray)
    (hne : ∀ m₁ news₁, J m₁ news₁ → ∀ p ∈ news₁, p.1 ≠ s.heap.objs.size ∧ p.1 ≠ c)
    (turn : ∀ (i : Nat) v m₁ news₁ h tk o oc, vs[i]? = some v → J m₁ news₁ → oc.data = .cell (some v) → Fr h₀ env.locals h m₁ → News h₀ env.locals h ((s.heap.objs.size, o) :: (c, oc) :: news₁) →
      wpAny (model prog w) A (execs body env) (TurnEnd h₀ env.locals s [(s.heap.objs.size, o), (c, oc)] J) (fun _ _ => False) { s with heap := h, toks := tk })
    (done : ∀ m₁ news₁ h tk oc, J m₁ news₁ → (∃ d, oc.data = .cell d) → Fr h₀ env.locals h m₁ → News h₀ env.locals h ((c, oc) :: news₁) → R (.ok .next) { s with heap := h, toks := tk }) :
    wpAny (model prog w) A (pyIter (.ref l)) (fun it s₂ => codeAny (model prog w) A (.forLoop (.Name x pos) it body [] env) R s₂) E s := by
  refine wpAny_pyIter_list (hl m news s.heap hj F fun p hp => N p (.tail _ hp)) ?_
  have hcI : c ≠ s.heap.objs.size := Nat.ne_of_lt (Heap.lt_size (N _ (.head _)).1)
  have F0 := F.push { cls := .type "list_iterator", data := .fields #[.ref l, .int 0 0] }
  have N0 := N.push F { cls := .type "list_iterator", data := .fields #[.ref l, .int 0 0] }
  generalize hB : s.heap.objs.size = it at *
  refine codeAny_forLoop (fun k s' => ∃ (i : Nat) (h : Heap) (tk : Nat) (m₁ : Str → Option Value) (news₁ : List (Addr × Obj)) (o oc : Obj), s' = { s with heap := h, toks := tk } ∧ Fr h₀ env.locals h m₁ ∧ News h₀ env.locals h ((it, o) :: (c, oc) :: news₁) ∧
    o.cls = .type "list_iterator" ∧ o.data = .fields #[.ref l, .int (i : Int) 0] ∧ (∃ d, oc.data = .cell d) ∧ J m₁ news₁ ∧ i ≤ vs.length ∧ k = vs.length - i) ?_ vs.length
    ⟨0, _, s.toks, m, news, _, oc₀, rfl, F0, N0, rfl, rfl, hd, hj, Nat.zero_le _, rfl⟩
  rintro k s' ⟨i, h, tk, m₁, news₁, o, oc, rfl, F₁, N₁, e1, e2, ⟨dv, hdv⟩, J₁, hi, rfl⟩
  have off := hne m₁ news₁ J₁
  have hoff : ∀ p ∈ (c, oc) :: news₁, p.1 ≠ it := by
    intro p hp
    rcases List.mem_cons.mp hp with rfl | hp
    · exact hcI
    · exact (off p hp).1
  have hil : h.IsList l vs.toArray := hl m₁ news₁ h J₁ F₁ fun p hp => N₁ p (.tail _ (.tail _ hp))
  rcases Nat.lt_or_ge i vs.length with q | q
  · refine iter_next F₁ N₁ e1 e2 hil (v := vs[i]) (by simp [q]) hoff ?_
    intro h4 o4 F4 N4 e3 e4
    have zc := N4 (c, oc) (.tail _ (.head _))
    refine wpAny_assign_Name (wpAny_storeName_cell hk hx hc ⟨oc, zc.1, hdv⟩ (fun h5 hv5 hs5 => ?_))
    obtain ⟨oc5, g5, d5⟩ := hv5
    have F5 : Fr h₀ env.locals h5 m₁ := F4.change hs5 zc.2.1 zc.2.2
    have N5 : News h₀ env.locals h5 ((it, o4) :: (c, oc5) :: news₁) := by
      intro p hp
      rcases List.mem_cons.mp hp with rfl | hp
      · have z := N4 _ (.head _); exact ⟨(hs5.2 _ hcI.symm).trans z.1, z.2⟩
      rcases List.mem_cons.mp hp with rfl | hp
      · exact ⟨g5, zc.2⟩
      · have z := N4 p (.tail _ (.tail _ hp)); exact ⟨(hs5.2 _ (off p hp).2).trans z.1, z.2⟩
    refine wpAny_mono (turn i vs[i] m₁ news₁ h5 _ o4 oc5 (by simp [q]) J₁ d5 F5 N5) ?_ (fun _ _ e => e.elim)
    rintro f s3 ⟨rfl, h6, tk6, m6, news6, rfl, F6, N6, J6⟩
    exact ⟨vs.length - (i + 1), by omega, i + 1, h6, tk6, m6, news6, o4, oc5, rfl, F6, N6, e3, e4, ⟨_, d5⟩, J6, q, rfl⟩
  · obtain rfl : i = vs.length := by omega
    refine iter_end hh F₁ N₁ e1 e2 hil (by simp) hoff ?_
    intro h4 F4 N4
    exact wpAny_execs_nil (done m₁ news₁ h4 tk oc J₁ ⟨dv, hdv⟩ F4 N4)
end
end
section
local macro_rules | `(tactic| walk_at "pad pad") => `(tactic| fail "pad")
local macro_rules | `(tactic| walk_at "pad pad") => `(tactic| fail "pad")
local macro_rules | `(tactic| walk_at "pad pad") => `(tactic| fail "pad")
local macro_rules | `(tactic| walk_at "pad pad") => `(tactic| fail "pad")
local macro_rules | `(tactic| walk_at "pad pad") => `(tactic| fail "pad")
local macro_rules | `(tactic| walk_at "pad pad") => `(tactic| fail "pad")
local macro_rules | `(tactic| walk_at "pad pad") => `(tactic| fail "pad")
local macro_rules | `(tactic| walk_at "pad pad") => `(tactic| fail "pad")
local macro_rules | `(tactic| walk_at "pad pad") => `(tactic| fail "pad")
theorem fresh_R_crange : True := by w_top off; exact trivial
open PySem PySem.W PyProof.Rows
set_option maxRecDepth 100000
set_option maxHeartbeats 1000000
section
variable {prog : Program} {w : World} {A : Around} {s : Shared} {env : Env} {E : Value → Shared → Prop} {scope : Scope} {cl : List (Str × Addr)} {pos : Pos} {Q : Value → Shared → Prop}
/-- a comprehension whose list is bound at once to a local name -/
theorem comp_assign {h₀ : Heap} {m : Str → Option Value} {news : List (Addr × Obj)} {elt target iter : Expr} {ifs : List Expr} {rest : List Comprehension} {y : Str} {py spos : Pos} {Q : Flow → Shared → Prop} (Post : List Value → Prop)
    (hsw : swapsWith (.ListComp elt (⟨target, iter, ifs, 0⟩ :: rest) scope pos) (some (.Name y py)) spos.line env = pure true)
    (hclos : closureFor scope env = pure cl) (hcell : ∀ y ∈ scope.names, y.2 ≠ .cell) (hkind : scope.kind = .function)
    (hnames : ∀ y ∈ scope.names, y.2 = .local → scope.names.lookup y.1 = some .local) (hs : ∀ x, foldedSetIterable iter env x = pure x)
    (hy : env.kindOf y = some .local) (hp : (env.scope.kind == .class || (env.scope.kind == .module && env.locals != env.globals)) = false)
    (F : Fr h₀ env.locals s.heap m) (N : News h₀ env.locals s.heap news)
    (h : wpAny (model prog w) A (eval iter env) (fun xv s₁ => wpAny (model prog w) A (pyIter xv) (fun it s₂ => ∃ h2 tk2, s₂ = { s with heap := h2, toks := tk2 } ∧ Kept s.heap h2 ∧
      ∀ D C h tk, h2.objs.size ≤ D → D < C → Kept h2 h → h.get? D = some (W.listOf #[] 0) → h.Ns C (fun _ => none) →
        codeAny (model prog w) A (.compStart (.ListComp elt (⟨target, iter, ifs, 0⟩ :: rest) scope pos) 0 it (.ref D) (compEnvC scope cl C env)) (CompDone s C D Post) { s with heap := h, toks := tk }) E s₁) E s)
    (hQ : ∀ D vs n h' tk, Fr h₀ env.locals h' (fun z => if z = y then some (.ref D) else m z) → News h₀ env.locals h' ((D, W.listOf (List.toArray vs) n) :: news) → Post vs → Q .next { s with heap := h', toks := tk }) :
    wpAny (model prog w) A (exec (.Assign [.Name y py] (.ListComp elt (⟨target, iter, ifs, 0⟩ :: rest) scope pos) spos) env) Q E s := by
  rw [exec_Assign_Name_used _ _ _ _ hsw]
  refine wpAny_bind (wpAny_standAt (wpAny_bind ?_))
  show wpAny _ A (do let _ ← comprehension (.ListComp elt (⟨target, iter, ifs, 0⟩ :: rest) scope pos) scope env _ (newList []) false (eval iter env) (some (assign (.Name y py) env))) _ _ s
  refine wpAny_bind (wpAny_mono (wpAny_comprehension_free (use := some (assign (.Name y py) env)) (Q := fun _ s' => Q .next s') rfl hs hclos hkind hnames
    (wpAny_mono h (fun xv s₁ h₁ => wpAny_mono h₁ (fun it s₂ h₂ => ?_) fun _ _ e => e) fun _ _ e => e)) (fun _ s' hq => wpAny_pure (wpAny_pure hq)) fun _ _ e => e)
  obtain ⟨h2, tk2, rfl, k2, hc⟩ := h₂
  refine wpAny_newObj_type (wpAny_newFunctionEnv hcell (by intro y hy; simp at hy) (fun h₁ hns₁ hsb₁ => ?_) hkind)
  dsimp only at hns₁ hsb₁ ⊢
  generalize hH2 : h2.push { cls := .type "list", dict := none, data := .seq ([] : List Value).toArray } = H2 at hns₁ hsb₁ ⊢
  have hC : H2.objs.size = h2.objs.size + 1 := by rw [← hH2, Heap.size_push]
  have hDC : h2.objs.size < H2.objs.size := by rw [hC]; exact Nat.lt_succ_self _
  have old : Kept h2 h₁ := fun b o e => hsb₁.extBut b o (Nat.ne_of_lt (Nat.lt_trans (Heap.lt_size e) hDC)) (Heap.get?_push_of_some _ (hH2 ▸ Heap.get?_push_of_some _ e))
  have hacc : h₁.get? h2.objs.size = some (W.listOf #[] 0) := hsb₁.extBut _ _ (Nat.ne_of_lt hDC) (Heap.get?_push_of_some _ (hH2 ▸ Heap.get?_push_size _ rfl))
  have hLh : env.locals < h2.objs.size := by obtain ⟨o, _, _, ho, _⟩ := F.ns; exact Heap.lt_size (k2 _ _ ho)
  have hDn : s.heap.get? h2.objs.size = none := by
    cases e : s.heap.get? h2.objs.size with
    | none => rfl
    | some o => exact absurd (Heap.lt_size (k2 _ _ e)) (Nat.lt_irrefl _)
  have hCn : s.heap.get? H2.objs.size = none := by
    cases e : s.heap.get? H2.objs.size with
    | none => rfl
    | some o => exact absurd (Heap.lt_size (k2 _ _ e)) (Nat.not_lt.mpr (Nat.le_of_lt hDC))
  refine codeAny_mono (hc h2.objs.size H2.objs.size h₁ _ (Nat.le_refl _) hDC old hacc hns₁) ?_
  rintro r s' ⟨f, rfl, h', tk', m', vs, n, rfl, k', hn', hD', hP⟩
  show wpAny _ A (assign (.Name y py) env (.ref _)) _ _ _
  have hLD : env.locals ≠ h2.objs.size := Nat.ne_of_lt hLh
  have hLC : env.locals ≠ H2.objs.size := Nat.ne_of_lt (Nat.lt_trans hLh hDC)
  have F' : Fr h₀ env.locals h' m := ⟨F.ns.at' fun o e => k' _ o e, fun b o e => k' b o (F.keep b o e), F.above⟩
  refine wpAny_assign_Name (wpAny_storeName_local hy F'.ns (fun h₂ hn₂ hs₂ => ?_) hp)
  have F2 := F'.set hn₂ hs₂
  refine ⟨m', hn'.sameBut hs₂ hLC.symm, fun h₃ hs₃ => ?_⟩
  have F3 : Fr h₀ env.locals h₃ _ := ⟨F2.ns.at' fun o e => hs₃.extBut _ o hLC e, fun b o e => hs₃.extBut b o (fun q => by subst q; exact nomatch (hCn.symm.trans (F.keep _ _ e))) (F2.keep b o e), F.above⟩
  refine hQ _ vs n h₃ _ F3 ?_ hP
  intro p hp
  rcases List.mem_cons.mp hp with rfl | hp
  · refine ⟨hs₃.extBut _ _ (Nat.ne_of_lt hDC) (hs₂.extBut _ _ hLD.symm hD'), hLD.symm, ?_⟩
    cases e : h₀.get? h2.objs.size with
    | none => rfl
    | some o => exact nomatch (hDn.symm.trans (F.keep _ _ e))
  · have z := N p hp
    exact ⟨hs₃.extBut _ _ (fun q => by have z1 := z.1; rw [q] at z1; exact nomatch (hCn.symm.trans z1)) (hs₂.extBut _ _ z.2.1 (k' _ _ z.1)), z.2⟩
/-- a comprehension over range(n) -/
theorem comp_range_h {elt iter : Expr} {x : Str} {px : Pos} {n : Nat} (P : Nat → Value → Prop) (hh : A.handled = none) (hn : n ≤ 1000)
    (hkind : scope.kind = .function)
    (hx : scope.names.lookup x = some .local)
    (hiter : ∀ (Q' : Value → Shared → Prop), (∀ h tk ta tb tc, IsRange h s.heap.objs.size 0 (n : Int) 1 ta tb tc → Kept s.heap h → Q' (.ref s.heap.objs.size) { s with heap := h, toks := tk }) → wpAny (model prog w) A (eval iter env) Q' E s)
    (helt : ∀ (i : Nat) (t : Tok) (C : Addr) (own : List (Addr × Obj)) (h : Heap) (tk : Nat) (m₁ : Str → Option Value), i < n → Fr s.heap C h (fun q => if q = x then some (.int (i : Int) t) else m₁ q) → News s.heap C h own →
      wpAny (model prog w) A (eval elt (compEnvC scope cl C env)) (fun v s' => Stop (P i v ∧ ∃ h' tk' m', s' = { s with heap := h', toks := tk' } ∧ Fr s.heap C h' m' ∧ News s.heap C h' own)) (fun _ _ => False) { s with heap := h, toks := tk })
    : wpAny (model prog w) A (eval iter env) (fun xv s₁ => wpAny (model prog w) A (pyIter xv) (fun it s₂ => ∃ h2 tk2, s₂ = { s with heap := h2, toks := tk2 } ∧ Kept s.heap h2 ∧
      ∀ D C h tk, h2.objs.size ≤ D → D < C → Kept h2 h → h.get? D = some (W.listOf #[] 0) → h.Ns C (fun _ => none) →
        codeAny (model prog w) A (.compStart (.ListComp elt [⟨.Name x px, iter, [], 0⟩] scope pos) 0 it (.ref D) (compEnvC scope cl C env)) (CompDone s C D (fun vs => vs.length = n ∧ ∀ (i : Nat) v, vs[i]? = some v → P i v)) { s with heap := h, toks := tk }) E s₁) E s := by
  refine hiter _ fun hr tk0 ta tb tc hR kr => ?_
  refine wpAny_pyIter_range hR (range_small (by omega)) ?_
  rw [range_size]
  refine ⟨_, tk0, rfl, fun b o e => Heap.get?_push_of_some _ (kr b o e), ?_⟩
  intro D C h3 tk3 hD hDC k3 hD3 hC3
  dsimp only at hD k3
  rw [Heap.size_push] at hD
  have hit3 : IsRangeIter h3 hr.objs.size 0 (n : Int) 1 := k3 _ _ (Heap.get?_push_size _ rfl)
  have hlt : s.heap.objs.size < hr.objs.size := Heap.lt_size hR
  generalize hB : hr.objs.size = B at hD hit3 hlt
  have hBD : B < D := hD
  have hBC : B < C := Nat.lt_trans hBD hDC
  have hab : s.heap.objs.size ≤ C := Nat.le_of_lt (Nat.lt_trans hlt hBC)
  have nn : ∀ c, B ≤ c → s.heap.get? c = none := fun c hc => Heap.get?_none_of_le (Nat.le_trans (Nat.le_of_lt hlt) hc)
  have k4 : Kept s.heap h3 := fun b o e => k3 b o (Heap.get?_push_of_some _ (kr b o e))
  have F3 : Fr s.heap C h3 (fun _ => none) := ⟨hC3, k4, hab⟩
  have kA : (compEnvC scope cl C env).kindOf x = some .local := lookup_relabel_local hx
  have hkf : (compEnvC scope cl C env).scope.kind = .function := hkind
  have hp : ((compEnvC scope cl C env).scope.kind == .class || ((compEnvC scope cl C env).scope.kind == .module && (compEnvC scope cl C env).locals != (compEnvC scope cl C env).globals)) = false := by rw [hkf]; rfl
  have loop : codeAny (model prog w) A (.compLoop (.ListComp elt [⟨.Name x px, iter, [], 0⟩] scope pos) 0 (.ref B) (.ref D) (compEnvC scope cl C env))
      (CompDone s C D (fun vs => vs.length = n ∧ ∀ (i : Nat) v, vs[i]? = some v → P i v)) { s with heap := h3, toks := tk3 } := by
    refine codeAny_compLoop_list (fun k s' => ∃ (i : Nat) (h : Heap) (tk : Nat) (m₁ : Str → Option Value) (acc : List Value) (n' : Nat), s' = { s with heap := h, toks := tk } ∧ IsRangeIter h B (i : Int) ((n : Int) - (i : Int)) 1 ∧
      Fr s.heap C h m₁ ∧ h.get? D = some (W.listOf (List.toArray acc) n') ∧ acc.length = i ∧ (∀ (j : Nat) v, acc[j]? = some v → P j v) ∧ i ≤ n ∧ k = n - i) ?_ n
      ⟨0, h3, tk3, _, [], 0, rfl, by simpa using hit3, F3, hD3, rfl, by simp, Nat.zero_le _, rfl⟩ (by intro _; rfl)
    rintro k s' ⟨i, h, tk, m₁, acc, n', rfl, st, F₁, A₁, hai, hP, hi, rfl⟩
    have mv : ∀ {h₁ : Heap} {m₁}, Fr s.heap C h m₁ → (∀ c o, c ≠ B → h.get? c = some o → h₁.get? c = some o) → Fr s.heap C h₁ m₁ := by
      intro h₁ m₁ F k
      exact ⟨F.ns.at' fun o e => k _ o (Nat.ne_of_gt hBC) e, fun c o e => k c o (fun hm => by rw [hm, nn B (Nat.le_refl _)] at e; cases e) (F.keep c o e), F.above⟩
    rcases Nat.lt_or_ge i n with q | q
    · refine wpAny_pyNext_range_item st (by omega) ?_
      intro h4 st4 hs4
      have F4 := mv F₁ (fun c o hc e => hs4.extBut c o hc e)
      have A4 : h4.get? D = some (W.listOf (List.toArray acc) n') := hs4.extBut D _ (Nat.ne_of_gt hBD) A₁
      refine wpAny_assign_Name (wpAny_storeName_local kA F4.ns (fun h5 hn5 hs5 => ?_) hp)
      have F5 := F4.set hn5 hs5
      have N5 : News s.heap C h5 [(D, W.listOf (List.toArray acc) n'), (B, { cls := .type "range_iterator", dict := none, data := .fields #[rawInt ((i : Int) + 1), rawInt ((n : Int) - (i : Int) - 1), rawInt 1], slots := #[] })] := by
        intro p hp
        simp only [List.mem_cons, List.not_mem_nil, or_false] at hp
        rcases hp with rfl | rfl
        · exact ⟨hs5.extBut _ _ (Nat.ne_of_lt hDC) A4, Nat.ne_of_lt hDC, nn _ (Nat.le_of_lt hBD)⟩
        · exact ⟨hs5.extBut _ _ (Nat.ne_of_lt hBC) st4, Nat.ne_of_lt hBC, nn _ (Nat.le_refl _)⟩
      refine wpAny_mono (helt i _ C _ h5 _ m₁ q F5 N5) ?_ (fun _ _ e => e.elim)
      rintro v s7 ⟨hPv, h7, tk7, m7, rfl, F7, N7⟩
      refine append_K F7 N7 (.head ?_) ?_ (by rw [sizeLine_eq, List.size_toArray]; omega)
      · intro p hp
        simp only [List.mem_cons, List.not_mem_nil, or_false] at hp
        subst hp
        exact Nat.ne_of_lt hBD
      · intro h8 F8 N8
        refine ⟨n - (i + 1), by omega, i + 1, h8, tk7, m7, acc ++ [v], n' + 1, rfl, ?_, F8, ?_, by simp [hai], ?_, q, rfl⟩
        · have z := (N8 _ (.tail _ (.head _))).1
          have e1 : (i : Int) + 1 = ((i + 1 : Nat) : Int) := by omega
          have e2 : (n : Int) - (i : Int) - 1 = (n : Int) - ((i + 1 : Nat) : Int) := by omega
          rw [e1, e2] at z
          exact z
        · have := (N8 (D, _) (.head _)).1
          simpa using this
        · intro j v' hv'
          rcases Nat.lt_or_ge j acc.length with q | q
          · rw [List.getElem?_append_left q] at hv'; exact hP j v' hv'
          · rw [List.getElem?_append_right q] at hv'
            have hj : j = acc.length := by
              rcases Nat.lt_or_ge (j - acc.length) 1 with r | r
              · omega
              · rw [List.getElem?_eq_none (by simpa using r)] at hv'; cases hv'
            subst hj
            simp at hv'; subst hv'; rw [hai]; exact hPv
    · obtain rfl : i = n := by omega
      refine wpAny_pyNext_range_end hh st (by omega) ?_
      intro h4 hx4
      have F4 := mv F₁ (fun c o hc e => hx4 c o hc e)
      exact ⟨.next, rfl, h4, tk, m₁, acc, n', rfl, F4.keep, F4.ns, hx4 D _ (Nat.ne_of_gt hBD) A₁, hai, hP⟩
  exact codeAny_compStart_list loop (wpAny_pyIter_rangeiter hit3 loop)
end
end
section
local macro_rules | `(tactic| walk_at "pad pad") => `(tactic| fail "pad")
local macro_rules | `(tactic| walk_at "pad pad") => `(tactic| fail "pad")
local macro_rules | `(tactic| walk_at "pad pad") => `(tactic| fail "pad")
local macro_rules | `(tactic| walk_at "pad pad") => `(tactic| fail "pad")
local macro_rules | `(tactic| walk_at "pad pad") => `(tactic| fail "pad")
local macro_rules | `(tactic| walk_at "pad pad") => `(tactic| fail "pad")
local macro_rules | `(tactic| walk_at "pad pad") => `(tactic| fail "pad")
local macro_rules | `(tactic| walk_at "pad pad") => `(tactic| fail "pad")
local macro_rules | `(tactic| walk_at "pad pad") => `(tactic| fail "pad")
local macro_rules | `(tactic| walk_at "pad pad") => `(tactic| fail "pad")
theorem fresh_P_law : True := by w_top off; exact trivial
open PySem PySem.W PyProof.Rows
set_option maxRecDepth 100000
set_option maxHeartbeats 1000000
/-! the plain law: three orders of two releases -/
theorem sgn3_swap (a b : List Nat) : sgn3 a b = - sgn3 b a := by unfold sgn3; omega
theorem sgn3_nil : sgn3 [] [] = 0 := by simp [sgn3, b2i]
theorem sgn3_short (y : Nat) (b : List Nat) : sgn3 [] (y :: b) = -1 := by
  have : ¬ (y :: b < ([] : List Nat)) := by simp
  simp [sgn3, b2i, this]
theorem sgn3_lt {x y : Nat} (a b : List Nat) (h : x < y) : sgn3 (x :: a) (y :: b) = -1 := by
  have h1 : x :: a < y :: b := by rw [List.cons_lt_cons_iff]; exact .inl h
  have h2 : ¬ (y :: b < x :: a) := by rw [List.cons_lt_cons_iff]; omega
  simp [sgn3, b2i, h1, h2]
theorem sgn3_eq (x : Nat) (a b : List Nat) : sgn3 (x :: a) (x :: b) = sgn3 a b := by
  have h1 : (x :: a < x :: b) ↔ a < b := by rw [List.cons_lt_cons_iff]; simp
  have h2 : (x :: b < x :: a) ↔ b < a := by rw [List.cons_lt_cons_iff]; simp
  simp only [sgn3, h1, h2]
theorem sgn3_app (c a b : List Nat) : sgn3 (c ++ a) (c ++ b) = sgn3 a b := by
  induction c with
  | nil => rfl
  | cons x c ih => rw [List.cons_append, List.cons_append, sgn3_eq, ih]
theorem lcp_swap : ∀ a b : List Nat, lcp a b = lcp b a
  | [], [] => rfl
  | [], _ :: _ => rfl
  | _ :: _, [] => rfl
  | a :: r, b :: t => by
    simp only [lcp]
    by_cases h : a = b
    · subst h; simp [lcp_swap r t]
    · simp [h, Ne.symm h]
theorem lcp_app (c a b : List Nat) : lcp (c ++ a) (c ++ b) = c.length + lcp a b := by
  induction c with
  | nil => simp
  | cons x c ih => simp only [List.cons_append, lcp, if_true, ih, List.length_cons]; omega
theorem sgnAt_app (c a : List Nat) (k : Nat) : sgnAt (c ++ a) (c.length + k) = sgnAt a k := by
  unfold sgnAt
  simp [List.getD, List.getElem?_append_right]
theorem ordP_swap (a b : List Nat) : ordP a b = - ordP b a := by
  unfold ordP
  rw [lcp_swap b a]
  repeat' split
  all_goals omega
theorem ordW_swap (a b : List Nat) : ordW a b = - ordW b a := by
  unfold ordW
  rw [lcp_swap b a, ordP_swap a b]
  repeat' split
  all_goals omega
/-- texts whose signs all stand above the blank -/
theorem plain_law : ∀ {a b : List Nat}, (∀ c ∈ a, 32 < c) → (∀ c ∈ b, 32 < c) → sgn3 a b = ordP a b
  | [], [], _, _ => by rw [sgn3_nil]; rfl
  | [], y :: b, _, hb => by
    rw [sgn3_short]
    have := hb y (by simp)
    unfold ordP; simp [lcp, sgnAt]; omega
  | x :: a, [], ha, _ => by
    rw [sgn3_swap, sgn3_short]
    have := ha x (by simp)
    unfold ordP; simp [lcp, sgnAt]; omega
  | x :: a, y :: b, ha, hb => by
    rcases Nat.lt_trichotomy x y with h | h | h
    · rw [sgn3_lt _ _ h]; unfold ordP; simp [lcp, Nat.ne_of_lt h, sgnAt]; omega
    · subst h
      rw [sgn3_eq, plain_law (a := a) (b := b) (fun c hc => ha c (by simp [hc])) (fun c hc => hb c (by simp [hc]))]
      unfold ordP
      have e := lcp_app [x] a b
      have e1 := sgnAt_app [x] a (lcp a b)
      have e2 := sgnAt_app [x] b (lcp a b)
      simp only [List.cons_append, List.nil_append] at e e1 e2
      rw [e, e1, e2]
    · rw [sgn3_swap, sgn3_lt _ _ h]; unfold ordP; simp [lcp, Nat.ne_of_gt h, sgnAt]; omega
/-- how two lists of numbers stand -/
def cmpN : List Nat → List Nat → Int
  | [], [] => 0
  | [], _ :: _ => -1
  | _ :: _, [] => 1
  | a :: A, b :: B => if a < b then -1 else if b < a then 1 else cmpN A B
theorem cmpN_swap : ∀ A B : List Nat, cmpN A B = - cmpN B A
  | [], [] => rfl
  | [], _ :: _ => rfl
  | _ :: _, [] => rfl
  | a :: A, b :: B => by
    simp only [cmpN]
    have := cmpN_swap A B
    repeat' split
    all_goals omega
theorem read_law : ∀ A B : List Nat, sgn3I (A.flatMap fun (d : Nat) => [(100 : Int), (d : Int)]) (B.flatMap fun (d : Nat) => [(100 : Int), (d : Int)]) = cmpN A B
  | [], [] => by simp [sgn3I, b2i, cmpN]
  | [], b :: B => by simp [sgn3I, b2i, cmpN]
  | a :: A, [] => by simp [sgn3I, b2i, cmpN]
  | a :: A, b :: B => by
    have ih := read_law A B
    simp only [List.flatMap_cons, List.cons_append, List.nil_append, cmpN]
    unfold sgn3I at ih ⊢
    rcases Nat.lt_trichotomy a b with h | h | h
    · have h1 : (100 : Int) :: (a : Int) :: A.flatMap (fun (d : Nat) => [(100 : Int), (d : Int)]) < 100 :: (b : Int) :: B.flatMap (fun (d : Nat) => [(100 : Int), (d : Int)]) := by
        rw [List.cons_lt_cons_iff, List.cons_lt_cons_iff]; exact .inr ⟨rfl, .inl (by omega)⟩
      have h2 : ¬ ((100 : Int) :: (b : Int) :: B.flatMap (fun (d : Nat) => [(100 : Int), (d : Int)]) < 100 :: (a : Int) :: A.flatMap (fun (d : Nat) => [(100 : Int), (d : Int)])) := by
        rw [List.cons_lt_cons_iff, List.cons_lt_cons_iff]; omega
      rw [decide_eq_true h1, decide_eq_false h2, if_pos h]; rfl
    · subst h
      have h1 : ((100 : Int) :: (a : Int) :: A.flatMap (fun (d : Nat) => [(100 : Int), (d : Int)]) < 100 :: (a : Int) :: B.flatMap (fun (d : Nat) => [(100 : Int), (d : Int)])) ↔ (A.flatMap (fun (d : Nat) => [(100 : Int), (d : Int)]) < B.flatMap (fun (d : Nat) => [(100 : Int), (d : Int)])) := by
        rw [List.cons_lt_cons_iff, List.cons_lt_cons_iff]; simp
      have h2 : ((100 : Int) :: (a : Int) :: B.flatMap (fun (d : Nat) => [(100 : Int), (d : Int)]) < 100 :: (a : Int) :: A.flatMap (fun (d : Nat) => [(100 : Int), (d : Int)])) ↔ (B.flatMap (fun (d : Nat) => [(100 : Int), (d : Int)]) < A.flatMap (fun (d : Nat) => [(100 : Int), (d : Int)])) := by
        rw [List.cons_lt_cons_iff, List.cons_lt_cons_iff]; simp
      simp only [h1, h2, Nat.lt_irrefl, if_false]; exact ih
    · have h1 : (100 : Int) :: (b : Int) :: B.flatMap (fun (d : Nat) => [(100 : Int), (d : Int)]) < 100 :: (a : Int) :: A.flatMap (fun (d : Nat) => [(100 : Int), (d : Int)]) := by
        rw [List.cons_lt_cons_iff, List.cons_lt_cons_iff]; exact .inr ⟨rfl, .inl (by omega)⟩
      have h2 : ¬ ((100 : Int) :: (a : Int) :: A.flatMap (fun (d : Nat) => [(100 : Int), (d : Int)]) < 100 :: (b : Int) :: B.flatMap (fun (d : Nat) => [(100 : Int), (d : Int)])) := by
        rw [List.cons_lt_cons_iff, List.cons_lt_cons_iff]; omega
      rw [decide_eq_true h1, decide_eq_false h2, if_neg (by omega), if_pos h]; rfl
/-- a lesser number's figures: fewer, or as many and below at the first that is unlike -/
theorem digs_lt {a b : Nat} (hb : b < 1000) (h : a < b) : (digs a).length < (digs b).length ∨ ((digs a).length = (digs b).length ∧ ∃ c u v r t, digs a = c ++ u :: r ∧ digs b = c ++ v :: t ∧ u < v) := by
  unfold digs
  by_cases a1 : a < 10
  · by_cases b1 : b < 10
    · rw [if_pos a1, if_pos b1]; exact .inr ⟨rfl, [], _, _, [], [], rfl, rfl, by omega⟩
    · rw [if_pos a1, if_neg b1]; left; split <;> simp
  · by_cases a2 : a < 100
    · by_cases b2 : b < 100
      · rw [if_neg a1, if_pos a2, if_neg (by omega), if_pos b2]
        right; refine ⟨rfl, ?_⟩
        by_cases q : a / 10 = b / 10
        · exact ⟨[48 + a / 10], _, _, [], [], rfl, by rw [q]; rfl, by omega⟩
        · exact ⟨[], _, _, [48 + a % 10], [48 + b % 10], rfl, rfl, by omega⟩
      · rw [if_neg a1, if_pos a2, if_neg (by omega), if_neg b2]; left; simp
    · rw [if_neg a1, if_neg a2, if_neg (by omega), if_neg (by omega)]
      right; refine ⟨rfl, ?_⟩
      by_cases q : a / 100 = b / 100
      · by_cases q2 : a / 10 % 10 = b / 10 % 10
        · exact ⟨[48 + a / 100, 48 + a / 10 % 10], _, _, [], [], rfl, by rw [q, q2]; rfl, by omega⟩
        · exact ⟨[48 + a / 100], _, _, [48 + a % 10], [48 + b % 10], rfl, by rw [q]; rfl, by omega⟩
      · exact ⟨[], _, _, [48 + a / 10 % 10, 48 + a % 10], [48 + b / 10 % 10, 48 + b % 10], rfl, rfl, by omega⟩
theorem digs_head {d : Nat} (h : d < 1000) : ∃ u r, digs d = u :: r ∧ 48 ≤ u := by
  have := (digs_len d).1
  cases q : digs d with
  | nil => rw [q] at this; simp at this
  | cons u r => exact ⟨u, r, rfl, (digs_ok h u (by rw [q]; simp)).1⟩
theorem pad_lt {a b w : Nat} (hb : b < 1000) (h : a < b) (hw : 3 ≤ w) (r t : List Nat) : sgn3 (padL w (digs a) ++ r) (padL w (digs b) ++ t) = -1 := by
  have la := (digs_len a).2
  have lb := (digs_len b).2
  unfold padL
  rcases digs_lt hb h with q | ⟨q, c, u, v, p, p', e1, e2, huv⟩
  · obtain ⟨x, y, e, hx⟩ := digs_head hb
    have e3 : List.replicate (w - (digs a).length) 32 = List.replicate (w - (digs b).length) 32 ++ 32 :: List.replicate ((digs b).length - (digs a).length - 1) 32 := by
      rw [← List.replicate_succ, List.replicate_append_replicate]; congr 1; omega
    rw [e3, List.append_assoc, List.append_assoc, List.append_assoc, sgn3_app, e]
    exact sgn3_lt _ _ (by omega)
  · rw [← q, List.append_assoc, List.append_assoc, sgn3_app, e1, e2, List.append_assoc, List.append_assoc, sgn3_app]
    exact sgn3_lt _ _ huv
theorem line_law : ∀ {ws A B : List Nat}, (∀ w ∈ ws, 3 ≤ w) → A.length ≤ ws.length → B.length ≤ ws.length → (∀ d ∈ A, d < 1000) → (∀ d ∈ B, d < 1000) → sgn3 (lineL ws (A.map digs)) (lineL ws (B.map digs)) = cmpN A B
  | ws, [], [], _, _, _, _, _ => by cases ws <;> simp [lineL, sgn3_nil, cmpN]
  | [], a :: A, _, _, h, _, _, _ => by simp at h
  | [], _, b :: B, _, _, h, _, _ => by simp at h
  | w :: ws, [], b :: B, hw, _, _, _, hB => by
    have e : lineL (w :: ws) ((b :: B).map digs) = padL w (digs b) ++ lineL ws (B.map digs) := rfl
    have e0 : lineL (w :: ws) (([] : List Nat).map digs) = [] := rfl
    rw [e, e0]
    obtain ⟨x, y, q, hx⟩ := digs_head (hB b (by simp))
    have : ∃ u r, padL w (digs b) ++ lineL ws (B.map digs) = u :: r := by
      unfold padL; rw [q]
      cases w - (x :: y).length with
      | zero => exact ⟨_, _, rfl⟩
      | succ n => exact ⟨_, _, rfl⟩
    obtain ⟨u, r, q2⟩ := this
    rw [q2, sgn3_short]; rfl
  | w :: ws, a :: A, [], hw, _, _, hA, _ => by
    have e : lineL (w :: ws) ((a :: A).map digs) = padL w (digs a) ++ lineL ws (A.map digs) := rfl
    have e0 : lineL (w :: ws) (([] : List Nat).map digs) = [] := rfl
    rw [e, e0]
    obtain ⟨x, y, q, hx⟩ := digs_head (hA a (by simp))
    have : ∃ u r, padL w (digs a) ++ lineL ws (A.map digs) = u :: r := by
      unfold padL; rw [q]
      cases w - (x :: y).length with
      | zero => exact ⟨_, _, rfl⟩
      | succ n => exact ⟨_, _, rfl⟩
    obtain ⟨u, r, q2⟩ := this
    rw [q2, sgn3_swap, sgn3_short]; rfl
  | w :: ws, a :: A, b :: B, hw, h1, h2, hA, hB => by
    have ea : lineL (w :: ws) ((a :: A).map digs) = padL w (digs a) ++ lineL ws (A.map digs) := rfl
    have eb : lineL (w :: ws) ((b :: B).map digs) = padL w (digs b) ++ lineL ws (B.map digs) := rfl
    rw [ea, eb]
    have w3 := hw w (by simp)
    simp only [cmpN]
    rcases Nat.lt_trichotomy a b with h | h | h
    · rw [pad_lt (hB b (by simp)) h w3, if_pos h]
    · subst h
      rw [sgn3_app, if_neg (Nat.lt_irrefl _), if_neg (Nat.lt_irrefl _)]
      exact line_law (fun w hw' => hw w (by simp [hw'])) (by simpa using h1) (by simpa using h2) (fun d hd => hA d (by simp [hd])) (fun d hd => hB d (by simp [hd]))
    · rw [sgn3_swap, pad_lt (hA a (by simp)) h w3, if_neg (by omega), if_pos h]; rfl
end
section
local macro_rules | `(tactic| walk_at "pad pad") => `(tactic| fail "pad")
local macro_rules | `(tactic| walk_at "pad pad") => `(tactic| fail "pad")
local macro_rules | `(tactic| walk_at "pad pad") => `(tactic| fail "pad")
local macro_rules | `(tactic| walk_at "pad pad") => `(tactic| fail "pad")
local macro_rules | `(tactic| walk_at "pad pad") => `(tactic| fail "pad")
local macro_rules | `(tactic| walk_at "pad pad") => `(tactic| fail "pad")
local macro_rules | `(tactic| walk_at "pad pad") => `(tactic| fail "pad")
local macro_rules | `(tactic| walk_at "pad pad") => `(tactic| fail "pad")
local macro_rules | `(tactic| walk_at "pad pad") => `(tactic| fail "pad")
local macro_rules | `(tactic| walk_at "pad pad") => `(tactic| fail "pad")
local macro_rules | `(tactic| walk_at "pad pad") => `(tactic| fail "pad")
theorem fresh_P_law2 : True := by w_top off; exact trivial
open PySem PySem.W PyProof.Rows
set_option maxRecDepth 100000
set_option maxHeartbeats 1000000
theorem tw_all {p : Nat → Bool} : ∀ {l r : List Nat}, (∀ c ∈ l, p c = true) → (∀ c, r.head? = some c → p c = false) → (l ++ r).takeWhile p = l
  | [], [], _, _ => rfl
  | [], c :: r, _, h => by simp [List.takeWhile_cons, h c rfl]
  | a :: l, r, h, hr => by
    rw [List.cons_append, List.takeWhile_cons, if_pos (h a (by simp)), tw_all (fun c hc => h c (by simp [hc])) hr]
/-- a part with what stands behind it: an end, or a dot -/
structure PartOk (p r : List Nat) : Prop where
  no : ∀ c ∈ p, (c != 46) = true
  next : ∀ c, r.head? = some c → (c != 46) = false
theorem runLen_part {p r : List Nat} {k : Nat} (h : PartOk p r) (hk : k ≤ p.length) : runLen (p ++ r) k = p.length := by
  unfold runLen
  have e1 : (p ++ r).drop k = p.drop k ++ r := List.drop_append_of_le_length hk
  have e2 : (p ++ r).take k = p.take k := List.take_append_of_le_length hk
  rw [e1, e2, tw_all (fun c hc => h.no c (List.mem_of_mem_drop hc)) h.next]
  have e3 : (p.take k).reverse.takeWhile (· != 46) = (p.take k).reverse := by
    have := tw_all (p := (· != 46)) (l := (p.take k).reverse) (r := []) (fun c hc => h.no c (List.mem_of_mem_take (List.mem_reverse.mp hc))) (by simp)
    simpa using this
  rw [e3]
  simp only [List.length_drop, List.length_reverse, List.length_take]; omega
theorem runLen_strip {c a : List Nat} {k : Nat} : runLen (c ++ 46 :: a) ((c ++ [46]).length + k) = runLen a k := by
  unfold runLen
  have e1 : (c ++ 46 :: a).drop ((c ++ [46]).length + k) = a.drop k := by
    rw [show c ++ 46 :: a = (c ++ [46]) ++ a by simp, List.drop_append, List.drop_eq_nil_of_le (by omega), Nat.add_sub_cancel_left]; rfl
  have e2 : (c ++ 46 :: a).take ((c ++ [46]).length + k) = (c ++ [46]) ++ a.take k := by
    rw [show c ++ 46 :: a = (c ++ [46]) ++ a by simp, List.take_append, List.take_of_length_le (by omega), Nat.add_sub_cancel_left]
  rw [e1, e2]
  have e3 : ((c ++ [46]) ++ a.take k).reverse = (a.take k).reverse ++ 46 :: c.reverse := by simp
  rw [e3]
  have : ∀ l : List Nat, (l ++ 46 :: c.reverse).takeWhile (· != 46) = l.takeWhile (· != 46) := by
    intro l
    induction l with
    | nil => simp
    | cons x l ih => simp only [List.cons_append, List.takeWhile_cons, ih]
  rw [this]
theorem ordW_strip (c a b : List Nat) : ordW (c ++ 46 :: a) (c ++ 46 :: b) = ordW a b := by
  have e := lcp_app (c ++ [46]) a b
  have s1 := sgnAt_app (c ++ [46]) a (lcp a b)
  have s2 := sgnAt_app (c ++ [46]) b (lcp a b)
  have r1 := runLen_strip (c := c) (a := a) (k := lcp a b)
  have r2 := runLen_strip (c := c) (a := b) (k := lcp a b)
  simp only [List.append_assoc, List.cons_append, List.nil_append] at e s1 s2 r1 r2
  unfold ordW ordP
  rw [e, r1, r2, s1, s2]
/-- two parts that are unlike: where they part -/
theorem part_at : ∀ {p q : List Nat}, p ≠ q → ∃ c p' q', p = c ++ p' ∧ q = c ++ q' ∧ ((p' = [] ∧ q' ≠ []) ∨ (p' ≠ [] ∧ q' = []) ∨ ∃ u v r t, p' = u :: r ∧ q' = v :: t ∧ u ≠ v)
  | [], [], h => absurd rfl h
  | [], y :: q, _ => ⟨[], [], y :: q, rfl, rfl, .inl ⟨rfl, by simp⟩⟩
  | x :: p, [], _ => ⟨[], x :: p, [], rfl, rfl, .inr (.inl ⟨by simp, rfl⟩)⟩
  | x :: p, y :: q, h => by
    by_cases e : x = y
    · subst e
      obtain ⟨c, p', q', h1, h2, h3⟩ := part_at (p := p) (q := q) (fun z => h (by rw [z]))
      exact ⟨x :: c, p', q', by rw [h1]; rfl, by rw [h2]; rfl, h3⟩
    · exact ⟨[], x :: p, y :: q, rfl, rfl, .inr (.inr ⟨x, y, p, q, rfl, rfl, e⟩)⟩
theorem lcp_part {p q r t : List Nat} (hp : PartOk p r) (hq : PartOk q t) (h : p ≠ q) : ∃ c p' q', p = c ++ p' ∧ q = c ++ q' ∧ lcp (p ++ r) (q ++ t) = c.length := by
  obtain ⟨c, p', q', e1, e2, e3⟩ := part_at h
  refine ⟨c, p', q', e1, e2, ?_⟩
  rw [e1, e2, List.append_assoc, List.append_assoc, lcp_app]
  have z : lcp (p' ++ r) (q' ++ t) = 0 := by
    rcases e3 with ⟨rfl, hq'⟩ | ⟨hp', rfl⟩ | ⟨u, v, r', t', rfl, rfl, huv⟩
    · cases q' with
      | nil => exact absurd rfl hq'
      | cons y q' =>
        have hy := hq.no y (by rw [e2]; simp)
        cases r with
        | nil => rfl
        | cons x r =>
          have hx := hp.next x rfl
          have : x ≠ y := by intro z; subst z; rw [hx] at hy; cases hy
          simp [lcp, this]
    · cases p' with
      | nil => exact absurd rfl hp'
      | cons x p' =>
        have hx := hp.no x (by rw [e1]; simp)
        cases t with
        | nil => rfl
        | cons y t =>
          have hy := hq.next y rfl
          have : x ≠ y := by intro z; subst z; rw [hx] at hy; cases hy
          simp [lcp, this]
    · simp [lcp, huv]
  omega
theorem digs_part {d : Nat} (h : d < 1000) : ∀ c ∈ digs d, (c != 46) = true := fun c hc => by have := digs_ok h c hc; simp; omega
theorem joinL_cons (c : Nat) (a : List Nat) (A : List (List Nat)) : ∃ r, joinL c (a :: A) = a ++ r ∧ (∀ x, r.head? = some x → x = c) := by
  cases A with
  | nil => exact ⟨[], by simp [joinL], by simp⟩
  | cons b A => exact ⟨c :: joinL c (b :: A), rfl, by simp⟩
theorem ordW_lt {a b : Nat} (hb : b < 1000) (h : a < b) {r t : List Nat} (hr : ∀ c, r.head? = some c → c = 46) (ht : ∀ c, t.head? = some c → c = 46) : ordW (digs a ++ r) (digs b ++ t) = -1 := by
  have hp : PartOk (digs a) r := ⟨digs_part (by omega), fun c hc => by rw [hr c hc]; rfl⟩
  have hq : PartOk (digs b) t := ⟨digs_part hb, fun c hc => by rw [ht c hc]; rfl⟩
  have hne : digs a ≠ digs b := by
    intro q
    have := val_digs (d := a) (by omega)
    rw [q, val_digs hb] at this; omega
  obtain ⟨c, p', q', e1, e2, e3⟩ := lcp_part hp hq hne
  have k1 : c.length ≤ (digs a).length := by rw [e1]; simp
  have k2 : c.length ≤ (digs b).length := by rw [e2]; simp
  unfold ordW
  rw [e3, runLen_part hp k1, runLen_part hq k2]
  rcases digs_lt hb h with q | ⟨q, c2, u, v, p, p2, f1, f2, huv⟩
  · rw [if_neg (by omega), if_pos q]
  · rw [if_neg (by omega), if_neg (by omega)]
    have e4 : lcp (digs a ++ r) (digs b ++ t) = c2.length := by
      rw [f1, f2, List.append_assoc, List.append_assoc, lcp_app]
      simp [lcp, Nat.ne_of_lt huv]
    unfold ordP
    rw [e4]
    have s1 : sgnAt (digs a ++ r) c2.length = u := by
      rw [f1, List.append_assoc]
      have := sgnAt_app c2 (u :: p ++ r) 0
      simpa [sgnAt] using this
    have s2 : sgnAt (digs b ++ t) c2.length = v := by
      rw [f2, List.append_assoc]
      have := sgnAt_app c2 (v :: p2 ++ t) 0
      simpa [sgnAt] using this
    rw [s1, s2, if_neg (by omega), if_pos huv]
/-- the text of a list of numbers -/
abbrev txt (A : List Nat) : List Nat := joinL 46 (A.map digs)
theorem lcp_self (a : List Nat) : lcp a a = a.length := by
  induction a with
  | nil => rfl
  | cons x a ih => simp [lcp, ih]
theorem ordW_self (a : List Nat) : ordW a a = 0 := by unfold ordW ordP; simp
theorem ordW_end {p t : List Nat} (hp : PartOk p []) (hq : PartOk p (46 :: t)) : ordW p (p ++ 46 :: t) = -1 := by
  have e : lcp p (p ++ 46 :: t) = p.length := by
    have := lcp_app p [] (46 :: t)
    simpa [lcp] using this
  have r1 := runLen_part (k := p.length) hp (Nat.le_refl _)
  have r2 := runLen_part (k := p.length) hq (Nat.le_refl _)
  have s1 := sgnAt_app p [] 0
  have s2 := sgnAt_app p (46 :: t) 0
  simp only [List.append_nil, Nat.add_zero] at r1 s1 s2
  unfold ordW ordP
  rw [e, r1, r2, s1, s2]
  simp [sgnAt]
theorem text_law : ∀ {A B : List Nat}, A ≠ [] → B ≠ [] → (∀ d ∈ A, d < 1000) → (∀ d ∈ B, d < 1000) → ordW (txt A) (txt B) = cmpN A B
  | [], _, h, _, _, _ => absurd rfl h
  | _ :: _, [], _, h, _, _ => absurd rfl h
  | a :: A, b :: B, _, _, hA, hB => by
    obtain ⟨r, er, hr⟩ := joinL_cons 46 (digs a) (A.map digs)
    obtain ⟨t, et, ht⟩ := joinL_cons 46 (digs b) (B.map digs)
    simp only [cmpN]
    rcases Nat.lt_trichotomy a b with h | h | h
    · rw [if_pos h]; show ordW (joinL 46 (digs a :: A.map digs)) (joinL 46 (digs b :: B.map digs)) = _
      rw [er, et]; exact ordW_lt (hB b (by simp)) h hr ht
    · subst h
      rw [if_neg (Nat.lt_irrefl _), if_neg (Nat.lt_irrefl _)]
      have ha := hA a (by simp)
      cases A with
      | nil =>
        cases B with
        | nil => exact ordW_self _
        | cons b B => exact ordW_end ⟨digs_part ha, by simp⟩ ⟨digs_part ha, by simp⟩
      | cons a2 A =>
        cases B with
        | nil =>
          rw [ordW_swap]
          have := ordW_end (p := digs a) (t := joinL 46 ((a2 :: A).map digs)) ⟨digs_part ha, by simp⟩ ⟨digs_part ha, by simp⟩
          show - ordW (digs a) (digs a ++ 46 :: joinL 46 ((a2 :: A).map digs)) = _
          rw [this]; rfl
        | cons b2 B =>
          show ordW (digs a ++ 46 :: joinL 46 ((a2 :: A).map digs)) (digs a ++ 46 :: joinL 46 ((b2 :: B).map digs)) = _
          rw [ordW_strip]
          exact text_law (A := a2 :: A) (B := b2 :: B) (by simp) (by simp) (fun d hd => hA d (by simp [hd])) (fun d hd => hB d (by simp [hd]))
    · rw [if_neg (by omega), if_pos h]; show ordW (joinL 46 (digs a :: A.map digs)) (joinL 46 (digs b :: B.map digs)) = _
      rw [er, et, ordW_swap, ordW_lt (hA a (by simp)) h ht hr]; rfl
theorem textOf_txt (x : Int) : (textOf x).cps.toList = txt (dsOf x) := by
  unfold textOf psOf
  rw [dot_is, join_is, List.map_map]; rfl
theorem dsOf_ne (x : Int) : dsOf x ≠ [] := by
  intro q
  have h := dsOf_len x
  have := (nOf_is x).2.1
  rw [q] at h; simp at h; omega
theorem joinL_ver : ∀ {A : List Nat}, (∀ d ∈ A, d < 1000) → VerText (txt A)
  | [], _, c, hc => by simp [txt, joinL] at hc
  | [a], h, c, hc => .inr (digs_ok (h a (by simp)) c (by simpa [txt, joinL] using hc))
  | a :: b :: A, h, c, hc => by
    have e : txt (a :: b :: A) = digs a ++ 46 :: txt (b :: A) := rfl
    rw [e] at hc
    rcases List.mem_append.mp hc with q | q
    · exact .inr (digs_ok (h a (by simp)) c q)
    rcases List.mem_cons.mp q with q | q
    · exact .inl q
    · exact joinL_ver (A := b :: A) (fun d hd => h d (by simp [hd])) c q
theorem text_ver (x : Int) : VerText (textOf x).cps.toList := by rw [textOf_txt]; exact joinL_ver (dsOf_lt x)
theorem text_len (x : Int) : (textOf x).length ≤ 1000 := by
  unfold textOf
  rw [dot_is]
  exact join_len (psOf_num x) (by rw [psOf_len]; exact (nOf_is x).2.2)
theorem told_text (x y : Int) : sgn3 (textOf x).cps.toList (textOf y).cps.toList = ordP (textOf x).cps.toList (textOf y).cps.toList :=
  plain_law (fun c hc => by rcases text_ver x c hc with h | h <;> omega) (fun c hc => by rcases text_ver y c hc with h | h <;> omega)
theorem told_read (x y : Int) : sgn3I (readOf x) (readOf y) = ordW (textOf x).cps.toList (textOf y).cps.toList := by
  rw [textOf_txt, textOf_txt, text_law (dsOf_ne x) (dsOf_ne y) (dsOf_lt x) (dsOf_lt y)]
  exact read_law _ _
theorem told_line {f : Nat} (hf : 4 ≤ f) (x y : Int) : sgn3 (lineOf f x).cps.toList (lineOf f y).cps.toList = ordW (textOf x).cps.toList (textOf y).cps.toList := by
  rw [textOf_txt, textOf_txt, text_law (dsOf_ne x) (dsOf_ne y) (dsOf_lt x) (dsOf_lt y)]
  have n1 := (nOf_is x).2.2
  have n2 := (nOf_is y).2.2
  have := line_law (ws := [f, 3, 3]) (A := dsOf x) (B := dsOf y) (by simp; omega) (by simp [dsOf_len]; omega) (by simp [dsOf_len]; omega) (dsOf_lt x) (dsOf_lt y)
  simpa [lineOf] using this
end
section
local macro_rules | `(tactic| walk_at "pad pad") => `(tactic| fail "pad")
local macro_rules | `(tactic| walk_at "pad pad") => `(tactic| fail "pad")
local macro_rules | `(tactic| walk_at "pad pad") => `(tactic| fail "pad")
local macro_rules | `(tactic| walk_at "pad pad") => `(tactic| fail "pad")
local macro_rules | `(tactic| walk_at "pad pad") => `(tactic| fail "pad")
local macro_rules | `(tactic| walk_at "pad pad") => `(tactic| fail "pad")
local macro_rules | `(tactic| walk_at "pad pad") => `(tactic| fail "pad")
local macro_rules | `(tactic| walk_at "pad pad") => `(tactic| fail "pad")
local macro_rules | `(tactic| walk_at "pad pad") => `(tactic| fail "pad")
local macro_rules | `(tactic| walk_at "pad pad") => `(tactic| fail "pad")
local macro_rules | `(tactic| walk_at "pad pad") => `(tactic| fail "pad")
local macro_rules | `(tactic| walk_at "pad pad") => `(tactic| fail "pad")
theorem fresh_C_D : True := by w_top off; exact trivial
open PySem PySem.W PyProof.Rows
set_option maxRecDepth 100000
set_option maxHeartbeats 8000000
section
variable {M : Model} {A : Around} {E : Value → Shared → Prop} {s : Shared} {h₀ : Heap} {C c : Addr} {o : Obj} {m : Str → Option Value} {scope : Scope} {cl : List (Str × Addr)} {env : Env} {x : Str} {pos : Pos} {v : Value} {Q : Value → Shared → Prop}
theorem cn_own2 (F : Fr h₀ C s.heap m) (hx : m x = some v) (h : Q v s)
    (hk : (compEnvC scope cl C env).scope.kind = .function := by rfl) (hl : (compEnvC scope cl C env).kindOf x = some .local := by rfl) (hd : (x == ("__debug__" : Str)) = false := by decide) :
    wpAny M A (eval (.Name x pos) (compEnvC scope cl C env)) Q E s := ldVarK F.ns hx h hk hl hd
theorem cn_cell (F : Fr h₀ C s.heap m) (hc : cl.lookup x = some c) (ho : h₀.get? c = some o) (hd : o.data = .cell (some v)) (h : Q v s)
    (hk : (compEnvC scope cl C env).scope.kind = .function := by rfl) (hl : (compEnvC scope cl C env).kindOf x = some .cell := by rfl) (hb : (x == ("__debug__" : Str)) = false := by decide) :
    wpAny M A (eval (.Name x pos) (compEnvC scope cl C env)) Q E s := wpAny_Name (wpAny_loadName_cell hk hl hc ⟨o, F.keep _ _ ho, hd⟩ h) hb
end
set_option pp.deepTerms false
set_option pp.maxSteps 2000
set_option pp.deepTerms.threshold 6
local macro_rules | `(tactic| walk_at "exec If") => `(tactic| refine stop_intro ?_)
local macro_rules | `(tactic| walk_at "exec For") => `(tactic| refine stop_intro ?_)
local macro_rules | `(tactic| walk_at "call ref") => `(tactic| refine stop_intro ?_)
local macro_rules | `(tactic| walk_at "pyIter ref") => `(tactic| refine stop_intro ?_)
local macro_rules | `(tactic| walk_at "exec Assign cons ListComp") => `(tactic| refine stop_intro ?_)
local macro_rules | `(tactic| walk_at "call type:range") => `(tactic| refine stop_intro ?_)
local macro_rules | `(tactic| walk_at "eval Name") => `(tactic| (k_here; (with_reducible show wpAny _ _ (eval (Expr.Name _ _) (compEnvC _ _ _ _)) _ _ _); k_dflt (first
  | refine cn_own2 (by k_asm) (by rfl) ?_
  | refine cn_cell (by k_asm) (by rfl) (by assumption) (by assumption) ?_
  | refine LCgL.ld_global (by k_asm) (by k_asm) (by k_asm) (by k_is) ?_
  | refine LCgL.ld_built (by k_asm) (by k_asm) (by k_asm) (by k_is) (by boot_by_name) (by decide) ?_)))
local macro_rules | `(tactic| walk_at "subscriptTail Name Name ref int") => `(tactic| (k_here; k_dflt (refine' item_listL ?k1 ?k2 ?k3 ?k4 ?_; (case k1 => exact Heap.IsList.at (by assumption) (fun o e => Fr.keep (by assumption) _ o e)); (case k2 => decide); (case k3 => decide); (case k4 => exact rfl))))
noncomputable def cutD : (B : Prop) ×' (Cut B → cutLaw.2.1) := by
  apply PSigma.mk
  intro cutB w
  set_option tactic.hygienic false in intros
  revert X; k_fill; intro X
  rename Fr _ _ _ _ => F14
  rename News _ _ _ _ => N14
  replace F14 : Fr s.heap L h7_1 _ := F14
  have N15 : News s.heap L h7_1 ((L + 1, o2) :: (L + 1 + 1, o1) :: (fl, W.listOf (List.toArray fv) fn) :: fz) := News.sub N14 (by intro p hp; simp only [List.mem_cons] at hp ⊢; grind)
  have hlt := fun (p : Addr × Obj) (hp : p ∈ _) => Heap.lt_size (N15 p hp).1
  clear N14
  refine wpAny_For ?_ (by intro _; rfl)
  k_steps
  unfold Stop
  generalize hI1 : h7_1.objs.size = i1 at hlt
  refine for_cell (l := fl) (c := L + 1) (vs := fv) (oc₀ := o2) (news := (L + 1 + 1, o1) :: (fl, W.listOf (List.toArray fv) fn) :: fz) (fun m news => ∃ (u : Str → Option Value) (ob : Obj), m = (fun y => if y = Str.ofString "faces" then some (.ref fl) else u y) ∧
    news = (L + 1 + 1, ob) :: (fl, W.listOf (List.toArray fv) fn) :: fz ∧ ∃ d, ob.data = .cell d) rfl (by rfl) (by rfl) (by rfl) F14 N15 ⟨_, d2⟩ ⟨_, o1, by rfl, rfl, _, d1⟩ ?_ ?_ ?_ ?_
  · rintro m news h ⟨u, ob, rfl, rfl, _⟩ F N
    exact News.isList N (.tail _ (.head _))
  · rintro m news ⟨u, ob, rfl, rfl, _⟩ p hp
    dsimp only
    rw [hI1]
    rcases List.mem_cons.mp hp with rfl | hp
    · exact ⟨Nat.ne_of_lt (hlt (L + 1 + 1, o1) (by simp)), Nat.succ_ne_self _⟩
    rcases List.mem_cons.mp hp with rfl | hp
    · exact ⟨Nat.ne_of_lt (hlt (fl, W.listOf (List.toArray fv) fn) (by simp)), Nat.ne_of_gt g3⟩
    · exact ⟨Nat.ne_of_lt (hlt p (by simp [hp])), (hF.off p hp).2.1⟩
  · rintro i v1 m news h8 tk8 oi1 oc1 hv1 ⟨u2, ob, rfl, rfl, d, hob⟩ hoc1 F16 N16
    dsimp only at N16 ⊢
    rw [hI1] at N16 ⊢
    replace F16 : Fr s.heap L h8 _ := F16
    replace N16 : News s.heap L h8 ((i1, oi1) :: (L + 1, oc1) :: (L + 1 + 1, ob) :: (fl, W.listOf (List.toArray fv) fn) :: fz) := N16
    k_steps
    change wpAny _ _ _ _ _ _
    refine wpAny_For ?_ (by intro _; rfl)
    k_steps
    change wpAny _ _ _ _ _ _
    have N17 : News s.heap L h8 ((L + 1 + 1, ob) :: (i1, oi1) :: (L + 1, oc1) :: (fl, W.listOf (List.toArray fv) fn) :: fz) := News.sub N16 (by intro p hp; simp only [List.mem_cons] at hp ⊢; grind)
    have hlt2 := fun (p : Addr × Obj) (hp : p ∈ _) => Heap.lt_size (N17 p hp).1
    generalize hI2 : h8.objs.size = i2 at hlt2
    clear N16
    have z1 : L + 1 < i1 := hlt (L + 1, o2) (by simp)
    have z2 : L + 1 + 1 < i1 := hlt (L + 1 + 1, o1) (by simp)
    refine for_cell (l := fl) (c := L + 1 + 1) (vs := fv) (oc₀ := ob) (news := (i1, oi1) :: (L + 1, oc1) :: (fl, W.listOf (List.toArray fv) fn) :: fz) (fun m news => ∃ (u : Str → Option Value), m = (fun y => if y = Str.ofString "faces" then some (.ref fl) else u y) ∧
      news = (i1, oi1) :: (L + 1, oc1) :: (fl, W.listOf (List.toArray fv) fn) :: fz) rfl (by rfl) (by rfl) (by rfl) F16 N17 ⟨_, hob⟩ ⟨u2, rfl, rfl⟩ ?_ ?_ ?_ ?_
    · rintro m news h ⟨u, rfl, rfl⟩ F N
      exact News.isList N (.tail _ (.tail _ (.head _)))
    · rintro m news ⟨u, rfl, rfl⟩ p hp
      dsimp only
      rw [hI2]
      rcases List.mem_cons.mp hp with rfl | hp
      · exact ⟨Nat.ne_of_lt (hlt2 (i1, oi1) (by simp)), Nat.ne_of_gt z2⟩
      rcases List.mem_cons.mp hp with rfl | hp
      · exact ⟨Nat.ne_of_lt (hlt2 (L + 1, oc1) (by simp)), (Nat.succ_ne_self _).symm⟩
      rcases List.mem_cons.mp hp with rfl | hp
      · exact ⟨Nat.ne_of_lt (hlt2 (fl, W.listOf (List.toArray fv) fn) (by simp)), Nat.ne_of_gt g2⟩
      · exact ⟨Nat.ne_of_lt (hlt2 p (by simp [hp])), (hF.off p hp).2.2⟩
    · rintro j v2 m news h9 tk9 oi2 oc2 hv2 ⟨u3, rfl, rfl⟩ hoc2 F18 N18
      dsimp only at N18 ⊢
      rw [hI2] at N18 ⊢
      replace F18 : Fr s.heap L h9 _ := F18
      replace N18 : News s.heap L h9 ((i2, oi2) :: (L + 1 + 1, oc2) :: (i1, oi1) :: (L + 1, oc1) :: (fl, W.listOf (List.toArray fv) fn) :: fz) := N18
      (repeat (revert ‹_›))
      intro cutB
      exact Cut.get cutB
    · rintro m news h9 tk9 oc2 ⟨u3, rfl, rfl⟩ hoc2 F18 N18
      refine wpAny_execs_nil ?_
      exact TurnEnd.intro F18 N18 (news := (L + 1 + 1, oc2) :: (fl, W.listOf (List.toArray fv) fn) :: fz) (by intro p hp; simp only [List.mem_cons, List.cons_append, List.nil_append] at hp ⊢; grind) ⟨u3, oc2, rfl, rfl, hoc2⟩
  · rintro m news h8 tk8 oc ⟨u2, ob, rfl, rfl, d, hob⟩ hoc F16 N16
    dsimp only
    k_steps
    exact hQ _ _ _ F16.keep B6
end
section
theorem fresh_C_E : True := by w_top off; exact trivial
open PySem PySem.W PyProof.Rows
set_option maxRecDepth 100000
set_option maxHeartbeats 8000000
set_option pp.deepTerms false
set_option pp.maxSteps 2000
set_option pp.deepTerms.threshold 6
local macro_rules | `(tactic| walk_at "exec If") => `(tactic| refine stop_intro ?_)
local macro_rules | `(tactic| walk_at "exec For") => `(tactic| refine stop_intro ?_)
local macro_rules | `(tactic| walk_at "call ref") => `(tactic| refine stop_intro ?_)
local macro_rules | `(tactic| walk_at "exec Assign cons ListComp") => `(tactic| refine stop_intro ?_)
local macro_rules | `(tactic| walk_at "call type:range") => `(tactic| refine stop_intro ?_)
local macro_rules | `(tactic| walk_at "eval Name") => `(tactic| (k_here; (with_reducible show wpAny _ _ (eval (Expr.Name _ _) (compEnvC _ _ _ _)) _ _ _); k_dflt (first
  | refine cn_own2 (by k_asm) (by rfl) ?_
  | refine cn_cell (by k_asm) (by rfl) (by assumption) (by assumption) ?_
  | refine LCgL.ld_global (by k_asm) (by k_asm) (by k_asm) (by k_is) ?_
  | refine LCgL.ld_built (by k_asm) (by k_asm) (by k_asm) (by k_is) (by boot_by_name) (by decide) ?_)))
local macro_rules | `(tactic| walk_at "subscriptTail Name Name ref int") => `(tactic| (k_here; k_dflt (refine' item_listL ?k1 ?k2 ?k3 ?k4 ?_; (case k1 => exact Heap.IsList.at (by assumption) (fun o e => Fr.keep (by assumption) _ o e)); (case k2 => decide); (case k3 => decide); (case k4 => exact rfl))))
noncomputable def cutE : (B : Prop) ×' (Cut B → cutD.1) := by
  apply PSigma.mk
  intro cutB w
  set_option tactic.hygienic false in intros
  revert X; k_fill; intro X
  rename Fr _ _ _ _ => F18
  rename News _ _ _ _ => N18
  -- the two faces
  obtain ⟨x, hx⟩ : ∃ x, xs[i]? = some x := by
    have h1 := (List.getElem?_eq_some_iff.mp hv1).1
    have h2 := hF.len
    have h3 := I.length
    exact ⟨xs[i]'(by omega), by simp [show i < xs.length by omega]⟩
  obtain ⟨y, hy⟩ : ∃ y, xs[j]? = some y := by
    have h1 := (List.getElem?_eq_some_iff.mp hv2).1
    have h2 := hF.len
    have h3 := I.length
    exact ⟨xs[j]'(by omega), by simp [show j < xs.length by omega]⟩
  obtain ⟨fa, ra, ta, tb, vr, nr, nf, rfl, ma, mr, Ir⟩ := hF.face i x v1 hx hv1
  obtain ⟨fb, rb, tc, td, vq, nq, ng, rfl, mb', mq, Iq⟩ := hF.face j y v2 hy hv2
  have N19 : News s.heap L h9 ((fa, W.listOf (List.toArray [.str (textOf x) ta, .ref ra, .str (lineOf f x) tb]) nf) :: (ra, W.listOf (List.toArray vr) nr) :: (fb, W.listOf (List.toArray [.str (textOf y) tc, .ref rb, .str (lineOf f y) td]) ng) :: (rb, W.listOf (List.toArray vq) nq) :: (i2, oi2) :: (L + 1 + 1, oc2) :: (i1, oi1) :: (L + 1, oc1) :: (fl, W.listOf (List.toArray fv) fn) :: fz) :=
    News.sub N18 (by intro p hp; simp only [List.mem_cons] at hp ⊢; grind)
  clear N18
  k_steps
  change wpAny _ _ _ _ _ _
  have X9 := X0.keeps F18.keep
  have T9 := T.keeps F18.keep
  have gc1 := (N19 (L + 1, oc1) (by simp)).1
  have gc2 := (N19 (L + 1 + 1, oc2) (by simp)).1
  have la : h9.IsList fa _ := News.isList N19 (.head _)
  have lb : h9.IsList fb _ := News.isList N19 (.tail _ (.tail _ (.head _)))
  have lra : h9.IsList ra _ := News.isList N19 (.tail _ (.head _))
  have lrb : h9.IsList rb _ := News.isList N19 (.tail _ (.tail _ (.tail _ (.head _))))
  have tl0 := told_text x y
  have tl1 := told_read x y
  have tl2 := told_line (f := f) (by omega) x y
  (repeat (revert ‹_›))
  intro cutB
  exact Cut.get cutB
end
section
local macro_rules | `(tactic| walk_at "pad pad") => `(tactic| fail "pad")
local macro_rules | `(tactic| walk_at "pad pad") => `(tactic| fail "pad")
local macro_rules | `(tactic| walk_at "pad pad") => `(tactic| fail "pad")
local macro_rules | `(tactic| walk_at "pad pad") => `(tactic| fail "pad")
local macro_rules | `(tactic| walk_at "pad pad") => `(tactic| fail "pad")
local macro_rules | `(tactic| walk_at "pad pad") => `(tactic| fail "pad")
local macro_rules | `(tactic| walk_at "pad pad") => `(tactic| fail "pad")
local macro_rules | `(tactic| walk_at "pad pad") => `(tactic| fail "pad")
theorem fresh_C_F : True := by w_top off; exact trivial
open PySem PySem.W PyProof.Rows
set_option maxRecDepth 100000
set_option maxHeartbeats 8000000
set_option pp.deepTerms false
set_option pp.maxSteps 2000
set_option pp.deepTerms.threshold 6
local macro_rules | `(tactic| walk_at "exec If") => `(tactic| refine stop_intro ?_)
local macro_rules | `(tactic| walk_at "exec For") => `(tactic| refine stop_intro ?_)
local macro_rules | `(tactic| walk_at "call ref") => `(tactic| refine stop_intro ?_)
local macro_rules | `(tactic| walk_at "exec Assign cons ListComp") => `(tactic| refine stop_intro ?_)
local macro_rules | `(tactic| walk_at "call type:range") => `(tactic| refine stop_intro ?_)
local macro_rules | `(tactic| walk_at "eval Name") => `(tactic| (k_here; (with_reducible show wpAny _ _ (eval (Expr.Name _ _) (compEnvC _ _ _ _)) _ _ _); k_dflt (first
  | refine cn_own2 (by k_asm) (by rfl) ?_
  | refine cn_cell (by k_asm) (by rfl) (by assumption) (by assumption) ?_
  | refine LCgL.ld_global (by k_asm) (by k_asm) (by k_asm) (by k_is) ?_
  | refine LCgL.ld_built (by k_asm) (by k_asm) (by k_asm) (by k_is) (by boot_by_name) (by decide) ?_)))
local macro_rules | `(tactic| walk_at "subscriptTail Name Name ref int") => `(tactic| (k_here; k_dflt (refine' item_listL ?k1 ?k2 ?k3 ?k4 ?_; (case k1 => exact Heap.IsList.at (by assumption) (fun o e => Fr.keep (by assumption) _ o e)); (case k2 => decide); (case k3 => decide); (case k4 => exact rfl))))
theorem told_ints {dv : List Value} {a b c : Int} (h1 : dv.length = 3) (h2 : ∀ (k : Nat) v, dv[k]? = some v → ∃ z t, v = .int z t ∧ [a, b, c][k]? = some z) : IntsAre dv [a, b, c] ∧ dv.length = 3 := by
  refine ⟨?_, h1⟩
  match dv, h1 with
  | [x, y, z], _ =>
    obtain ⟨_, _, rfl, e⟩ := h2 0 x rfl
    cases e
    obtain ⟨_, _, rfl, e⟩ := h2 1 y rfl
    cases e
    obtain ⟨_, _, rfl, e⟩ := h2 2 z rfl
    cases e
    exact .cons _ _ (.cons _ _ (.cons _ _ .nil))
noncomputable def cutF : (B : Prop) ×' (Cut B → cutE.1) := by
  apply PSigma.mk
  intro cutB w
  set_option tactic.hygienic false in intros
  revert X; k_fill; intro X
  rename Fr _ _ _ _ => F18
  rename News _ _ _ _ => N19
  have hh1 : callerA.handled = none := rfl
  refine comp_assign (cl := [(Str.ofString "two", L + 1 + 1), (Str.ofString "one", L + 1)]) (Post := fun vs => vs.length = 3 ∧ ∀ (k : Nat) v, vs[k]? = some v → ∃ z t, v = .int z t ∧ [ordP (textOf x).cps.toList (textOf y).cps.toList, ordW (textOf x).cps.toList (textOf y).cps.toList, ordW (textOf x).cps.toList (textOf y).cps.toList][k]? = some z) ?h1 ?h2 ?h3 ?h4 ?h5 ?h6 ?h7 ?h8 F18 N19 ?h9 ?h10
  case h1 => rfl
  case h2 => rfl
  case h3 => decide
  case h4 => rfl
  case h5 => decide
  case h6 => intro _; rfl
  case h7 => rfl
  case h8 => rfl
  case h9 =>
    refine comp_range_h (n := 3) (P := fun k v => ∃ z t, v = .int z t ∧ [ordP (textOf x).cps.toList (textOf y).cps.toList, ordW (textOf x).cps.toList (textOf y).cps.toList, ordW (textOf x).cps.toList (textOf y).cps.toList][k]? = some z) rfl (by decide) (by rfl) (by rfl) ?_ ?_
    · intro Q' hz
      k_steps
      change wpAny _ _ _ _ _ _
      refine range1_rows F18 N19 ?_
      intro h6 tk6 ta' tb' tc' R6 F6 N6 K6
      exact hz _ _ _ _ _ R6 K6
    · intro k t C own h tk m₁ hk F N
      have hk3 : k = 0 ∨ k = 1 ∨ k = 2 := by omega
      rcases hk3 with rfl | rfl | rfl
      · k_steps
        change wpAny _ _ _ _ _ _
        refine strcoll_str (X9.keeps F.keep) (T9.keeps F.keep) (by simp only [depth_deeper]; decide) ?_
        intro t' h' tk' K'
        exact ⟨⟨_, t', rfl, by rw [tl0]; rfl⟩, _, _, _, rfl, Fr.kept F K', News.kept N K'⟩
      · k_steps
        change wpAny _ _ _ _ _ _
        refine strcoll_ints (X9.keeps F.keep) (T9.keeps F.keep) (by simp only [depth_deeper]; decide) (by simp only [Around.deeper_units]; decide) (Heap.IsList.at lra (F.keep _)) (Heap.IsList.at lrb (F.keep _)) Ir Iq ?_
        intro t' h' tk' K'
        exact ⟨⟨_, t', rfl, by rw [tl1]; rfl⟩, _, _, _, rfl, Fr.kept F K', News.kept N K'⟩
      · k_steps
        change wpAny _ _ _ _ _ _
        refine strcoll_str (X9.keeps F.keep) (T9.keeps F.keep) (by simp only [depth_deeper]; decide) ?_
        intro t' h' tk' K'
        exact ⟨⟨_, t', rfl, by rw [tl2]; rfl⟩, _, _, _, rfl, Fr.kept F K', News.kept N K'⟩
  case h10 =>
    intro D dv dn h10 tk10 F10 N10 hD
    obtain ⟨ID, hDl⟩ := told_ints hD.1 hD.2
    replace F10 : Fr s.heap L h10 _ := F10
    replace N10 : News s.heap L h10 _ := N10
    clear F18 N19
    k_steps
    change wpAny _ _ _ _ _ _
    (repeat (revert ‹_›))
    intro cutB
    exact Cut.get cutB
end
section
theorem fresh_R_none : True := by w_top off; exact trivial
open PySem PySem.W PyProof.Rows
set_option maxRecDepth 100000
set_option maxHeartbeats 1000000
section
variable {prog : Program} {w : World} {A : Around} {s : Shared} {env : Env} {E : Value → Shared → Prop} {scope : Scope} {cl : List (Str × Addr)} {pos : Pos} {Q : Value → Shared → Prop}
/-- a comprehension over a list whose test no item passes -/
theorem comp_none {elt iter c : Expr} {x : Str} {px : Pos} {l : Addr} {vs : List Value} (hh : A.handled = none)
    (hclos : closureFor scope env = pure cl) (hcell : ∀ y ∈ scope.names, y.2 ≠ .cell) (hkind : scope.kind = .function)
    (hnames : ∀ y ∈ scope.names, y.2 = .local → scope.names.lookup y.1 = some .local) (hs : ∀ x, foldedSetIterable iter env x = pure x)
    (hx : scope.names.lookup x = some .local) (hl : s.heap.IsList l vs.toArray)
    (hiter : ∀ (Q' : Value → Shared → Prop), (∀ tk, Q' (.ref l) { s with toks := tk }) → wpAny (model prog w) A (eval iter env) Q' E s)
    (htest : ∀ (i : Nat) (v : Value) (C : Addr) (own : List (Addr × Obj)) (h : Heap) (tk : Nat) (m₁ : Str → Option Value), vs[i]? = some v → Fr s.heap C h (fun q => if q = x then some v else m₁ q) → News s.heap C h own →
      wpAny (model prog w) A (isTrue c (compEnvC scope cl C env) (eval c (compEnvC scope cl C env))) (fun ok s' => Stop (ok = false ∧ ∃ h' tk' m', s' = { s with heap := h', toks := tk' } ∧ Fr s.heap C h' m' ∧ News s.heap C h' own)) (fun _ _ => False) { s with heap := h, toks := tk })
    (hQ : ∀ D n h' tk, s.heap.get? D = none → Kept s.heap h' → h'.get? D = some (W.listOf (List.toArray []) n) → Q (.ref D) { s with heap := h', toks := tk }) :
    wpAny (model prog w) A (eval (.ListComp elt [⟨.Name x px, iter, [c], 0⟩] scope pos) env) Q E s := by
  refine comp_enter (fun fs => fs = []) hclos hcell hkind hnames hs (hiter _ fun tk0 => ?_) (fun D vs n h' tk a b c d => by subst d; exact hQ D n h' tk a b c)
  refine wpAny_pyIter_list hl ?_
  refine ⟨_, tk0, rfl, fun b o e => Heap.get?_push_of_some _ e, ?_⟩
  intro D C h3 tk3 hD hDC k3 hD3 hC3
  dsimp only at hD k3
  rw [Heap.size_push] at hD
  have hit3 : h3.get? s.heap.objs.size = some { cls := .type "list_iterator", data := .fields #[.ref l, .int 0 0] } := k3 _ _ (Heap.get?_push_size _ rfl)
  generalize hB : s.heap.objs.size = B at hD hit3
  have hBD : B < D := hD
  have hBC : B < C := Nat.lt_trans hBD hDC
  have nn : ∀ c, B ≤ c → s.heap.get? c = none := fun c hc => Heap.get?_none_of_le (by rw [hB]; exact hc)
  have F3 : Fr s.heap C h3 (fun _ => none) := ⟨hC3, fun b o e => k3 b o (Heap.get?_push_of_some _ e), by rw [hB]; exact Nat.le_of_lt hBC⟩
  have N3 : News s.heap C h3 [(B, { cls := .type "list_iterator", data := .fields #[.ref l, .int 0 0] }), (D, W.listOf (List.toArray []) 0)] := by
    intro p hp
    simp only [List.mem_cons, List.not_mem_nil, or_false] at hp
    rcases hp with rfl | rfl
    · exact ⟨hit3, Nat.ne_of_lt hBC, nn _ (Nat.le_refl _)⟩
    · exact ⟨hD3, Nat.ne_of_lt hDC, nn _ (Nat.le_of_lt hBD)⟩
  generalize hob : Obj.mk (.type "list_iterator") _ _ _ = ob at N3
  have c1 : ob.cls = .type "list_iterator" := by subst hob; rfl
  have c2 : ob.data = .fields #[.ref l, .int ((0 : Nat) : Int) 0] := by subst hob; rfl
  have kA : (compEnvC scope cl C env).kindOf x = some .local := lookup_relabel_local hx
  have hkf : (compEnvC scope cl C env).scope.kind = .function := hkind
  have hp : ((compEnvC scope cl C env).scope.kind == .class || ((compEnvC scope cl C env).scope.kind == .module && (compEnvC scope cl C env).locals != (compEnvC scope cl C env).globals)) = false := by rw [hkf]; rfl
  have loop : codeAny (model prog w) A (.compLoop (.ListComp elt [⟨.Name x px, iter, [c], 0⟩] scope pos) 0 (.ref B) (.ref D) (compEnvC scope cl C env))
      (CompDone s C D (fun fs => fs = [])) { s with heap := h3, toks := tk3 } := by
    refine kct_loop (fun k s' => ∃ (i : Nat) (h : Heap) (tk : Nat) (m₁ : Str → Option Value) (oi : Obj), s' = { s with heap := h, toks := tk } ∧ Fr s.heap C h m₁ ∧ News s.heap C h [(B, oi), (D, W.listOf (List.toArray []) 0)] ∧ oi.cls = .type "list_iterator" ∧ oi.data = .fields #[.ref l, .int ((i : Nat) : Int) 0] ∧
      i ≤ vs.length ∧ k = vs.length - i) ?_ vs.length ⟨0, h3, tk3, _, ob, rfl, F3, N3, c1, c2, Nat.zero_le _, rfl⟩
    rintro k s' ⟨i, h, tk, m₁, oi, rfl, F₁, N₁, e1, e2, hi, rfl⟩
    have hDB : ∀ p ∈ [(D, W.listOf (List.toArray []) 0)], p.1 ≠ B := by
      intro p hp; simp only [List.mem_cons, List.not_mem_nil, or_false] at hp; subst hp; exact Nat.ne_of_gt hBD
    rcases Nat.lt_or_ge i vs.length with q | q
    · refine iter_next F₁ N₁ e1 e2 (hl.at fun o e => F₁.keep l o e) (v := vs[i]) (by simp [q]) hDB ?_
      intro h4 o4 F4 N4 e3 e4
      refine wpAny_of_eq (rfl : letOwnedTupleGo (.Name x px) (.ref B) vs[i] = pure ()) ?_
      refine wpAny_assign_Name (wpAny_storeName_local kA F4.ns (fun h5 hn5 hs5 => ?_) hp)
      have F5 := F4.set hn5 hs5
      have N5 := N4.set hs5
      refine wpAny_mono (htest i vs[i] C _ h5 _ m₁ (by simp [q]) F5 N5) ?_ (fun _ _ e => e.elim)
      rintro okb s6 ⟨rfl, h6, tk6, m6, rfl, F6, N6⟩
      rw [if_neg (by decide)]
      exact ⟨vs.length - (i + 1), by omega, i + 1, h6, tk6, m6, o4, rfl, F6, N6, e3, e4, q, rfl⟩
    · obtain rfl : i = vs.length := by omega
      refine iter_end hh F₁ N₁ e1 e2 (hl.at fun o e => F₁.keep l o e) (by simp) hDB ?_
      intro h4 F4 N4
      exact ⟨.next, rfl, h4, tk, m₁, [], 0, rfl, F4.keep, F4.ns, (N4 _ (.head _)).1, rfl⟩
  exact codeAny_compStart_list loop (wpAny_pyIter_listiter ⟨ob, (N3 _ (.head _)).1, c1, c2⟩ loop)
end
end
section
local macro_rules | `(tactic| walk_at "pad pad") => `(tactic| fail "pad")
local macro_rules | `(tactic| walk_at "pad pad") => `(tactic| fail "pad")
local macro_rules | `(tactic| walk_at "pad pad") => `(tactic| fail "pad")
local macro_rules | `(tactic| walk_at "pad pad") => `(tactic| fail "pad")
local macro_rules | `(tactic| walk_at "pad pad") => `(tactic| fail "pad")
local macro_rules | `(tactic| walk_at "pad pad") => `(tactic| fail "pad")
local macro_rules | `(tactic| walk_at "pad pad") => `(tactic| fail "pad")
local macro_rules | `(tactic| walk_at "pad pad") => `(tactic| fail "pad")
local macro_rules | `(tactic| walk_at "pad pad") => `(tactic| fail "pad")
local macro_rules | `(tactic| walk_at "pad pad") => `(tactic| fail "pad")
local macro_rules | `(tactic| walk_at "pad pad") => `(tactic| fail "pad")
local macro_rules | `(tactic| walk_at "pad pad") => `(tactic| fail "pad")
local macro_rules | `(tactic| walk_at "pad pad") => `(tactic| fail "pad")
local macro_rules | `(tactic| walk_at "pad pad") => `(tactic| fail "pad")
local macro_rules | `(tactic| walk_at "pad pad") => `(tactic| fail "pad")
local macro_rules | `(tactic| walk_at "pad pad") => `(tactic| fail "pad")
theorem fresh_C_G : True := by w_top off; exact trivial
open PySem PySem.W PyProof.Rows
set_option maxRecDepth 100000
set_option maxHeartbeats 8000000
set_option pp.deepTerms false
set_option pp.maxSteps 2000
set_option pp.deepTerms.threshold 6
local macro_rules | `(tactic| walk_at "exec If") => `(tactic| refine stop_intro ?_)
local macro_rules | `(tactic| walk_at "exec For") => `(tactic| refine stop_intro ?_)
local macro_rules | `(tactic| walk_at "call ref") => `(tactic| refine stop_intro ?_)
local macro_rules | `(tactic| walk_at "exec Assign cons ListComp") => `(tactic| refine stop_intro ?_)
local macro_rules | `(tactic| walk_at "call type:range") => `(tactic| refine stop_intro ?_)
local macro_rules | `(tactic| walk_at "eval Name") => `(tactic| (k_here; (with_reducible show wpAny _ _ (eval (Expr.Name _ _) (compEnvC _ _ _ _)) _ _ _); k_dflt (first
  | refine cn_own2 (by k_asm) (by rfl) ?_
  | refine cn_cell (by k_asm) (by rfl) (by assumption) (by assumption) ?_
  | refine LCgL.ld_global (by k_asm) (by k_asm) (by k_asm) (by k_is) ?_
  | refine LCgL.ld_built (by k_asm) (by k_asm) (by k_asm) (by k_is) (by boot_by_name) (by decide) ?_)))
local macro_rules | `(tactic| walk_at "subscriptTail Name Name ref int") => `(tactic| (k_here; k_dflt (refine' item_listL ?k1 ?k2 ?k3 ?k4 ?_; (case k1 => exact Heap.IsList.at (by assumption) (fun o e => Fr.keep (by assumption) _ o e)); (case k2 => decide); (case k3 => decide); (case k4 => exact rfl))))
local macro_rules | `(tactic| walk_at "eval ListComp") => `(tactic| refine stop_intro ?_)
theorem mswap {a b : Str} {v v' : Option Value} {u : Str → Option Value} (h : a ≠ b) :
    (fun z => if z = a then v else if z = b then v' else u z) = (fun z => if z = b then v' else (fun z => if z = a then v else u z) z) := by
  funext z
  by_cases h1 : z = a
  · by_cases h2 : z = b
    · exact absurd (h1.symm.trans h2) h
    · simp [h1, h]
  · simp [h1]
theorem tG : cutF.1 := by
  intro w
  set_option tactic.hygienic false in intros
  revert X; k_fill; intro X
  rename Fr _ _ _ _ => F18
  rename News _ _ _ _ => N19
  refine wpAny_If ?_
  k_steps
  change wpAny _ _ _ _ _ _
  rename Fr _ _ _ _ => F19
  rename News _ _ _ _ => N20
  refine orders_spec (X0.keeps F19.keep) (T.keeps F19.keep) (by simp only [depth_deeper]; decide) (text_len x) (text_len y) (text_ver x) (text_ver y) ?_
  intro ol ov on h20 tk20 K20 O20 I20
  have F20 := Fr.kept F19 K20
  have N21 := News.add F19 O20 (News.kept N20 K20)
  clear F19 N20
  dsimp only
  k_steps
  change wpAny _ _ _ _ _ _
  rename Fr _ _ _ _ => F22
  rename News _ _ _ _ => N22
  have X22 := X0.keeps F22.keep
  have T22 := T.keeps F22.keep
  refine comp_none (l := D) (vs := dv) rfl (cl := []) (by rfl) (by decide) (by rfl) (by decide) (by intro _; rfl) (by rfl) (News.isList N22 (by k_mem)) ?_ ?_ ?_
  · intro Q' hz
    k_steps
    exact hz _
  · intro k v C own h tk m₁ hv F N
    obtain ⟨z, tz, rfl, _⟩ := intAt ID hv
    k_steps
    rename Fr _ _ _ _ => Fq
    rename News _ _ _ _ => Nq
    exact ⟨rfl, _, _, _, rfl, Fq, Nq⟩
  · intro D2 n2 h23 tk23 hD2 K23 g23
    have F23 := Fr.kept F22 K23
    have N23 := News.add F22 ⟨g23, hD2⟩ (News.kept N22 K23)
    clear F22 N22
    dsimp only
    k_steps
    rename Fr _ _ _ _ => F24
    rename News _ _ _ _ => N24
    refine TurnEnd.intro F24 N24 (news := (i1, oi1) :: (L + 1, oc1) :: (fl, W.listOf (List.toArray fv) fn) :: fz) ?_ ⟨_, mswap (by decide), rfl⟩
    intro p hp
    simp only [List.mem_cons, List.cons_append, List.nil_append] at hp ⊢
    grind
end
section
theorem fresh_C_end : True := by w_top off; exact trivial
open PySem PySem.W PyProof.Rows
theorem law_spec : LawSpec := cutLaw.2.2 ⟨cutA.2 ⟨cutB.2 ⟨tC⟩⟩⟩ ⟨cutD.2 ⟨cutE.2 ⟨cutF.2 ⟨tG⟩⟩⟩⟩
end
section
local macro_rules | `(tactic| walk_at "pad pad") => `(tactic| fail "pad")
theorem fresh_F_head : True := by w_top off; exact trivial
open PySem PySem.W PyProof.Rows
set_option maxRecDepth 100000
set_option maxHeartbeats 8000000
set_option pp.deepTerms false
set_option pp.maxSteps 4000
set_option pp.deepTerms.threshold 8
theorem all_holds : PySem.Challenge.rw_ph0038_01.Holds := hd (by
  k_fill
  intro w s₀ s₁ mg mb G Y fa o pm cd doc dV kV ho hd hcd hD hmg hg args vals as hpre hlay hrd hwl hlo
  have KX := kIn_of Y
  have X := (Ground.X G).1
  have V := (Ground.X G).2
  refine Ground.open G ?_
  intro T B D TE TW
  clear D
  have hm : mg (Str.ofString "law") = some (.ref 113) := mg_of KX T.g (by k_is)
  have hfa : fa = 113 := by
    have h1 := hmg.symm.trans hm
    cases h1
    rfl
  clear hmg
  subst hfa
  wrow_args hpre hlay hrd hwl hlo
  rename_i ns hs a1 a2 a3 a4 b1 b2 l vs b3 hl ra w1 r0 hi hr hc hc2
  clear ho hd hcd hD X V B TE TW
  refine law_spec w s₁ _ mg mb _ _ l vs ns KX T hl hi (by omega) (by rw [hg]; intro x hx; exact absurd hx (by simp)) ?_
  intro h' tk G' K hG
  refine ⟨.inl ⟨_, _, [], rfl, fun _ => rfl, ReadsW.bool true, ?_, fun _ => ⟨List.nodup_nil, fun _ hm => (nomatch hm)⟩⟩, .of_keep K, rfl, hG⟩
  first | rfl | wrow_post)
end
end Mine
set_option maxRecDepth 100000 in
set_option maxHeartbeats 8000000 in
theorem PySem.Challenge.cw_ph0038_01_holds : PySem.Challenge.rw_ph0038_01.Holds := by
  exact Mine.all_holds
