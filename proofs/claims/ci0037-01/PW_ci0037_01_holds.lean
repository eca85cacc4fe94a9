import PyProof.Rows.All
import Wide.All
import OpenK.AllK
import Open.Tops
import Wide.FinOn
import PySem.Challenge.RW_ci0037_01
set_option Elab.async false
set_option linter.unusedVariables false
set_option linter.unusedSimpArgs false
set_option linter.all false
set_option rowWalk.seconds 0
section
open PySem PySem.W PyProof.Rows
set_option Elab.async false
namespace Mine
set_option maxRecDepth 100000 in
set_option maxHeartbeats 8000000 in
open_shared tops for PySem.Challenge.pw_ci0037_01 leaving 1
set_option maxRecDepth 100000 in
set_option maxHeartbeats 8000000 in
open_top hd for PySem.Challenge.rw_ci0037_01
end Mine
end
section
theorem Mine.reset_B0 : True := by w_top off; trivial
open PySem PySem.W PyProof.Rows PySem.Calls PySem.Spec
set_option Elab.async false
namespace Mine
theorem fill_dummy : (PySem.Challenge.rw_ci0037_01, Mine.hd.heap_39) = (PySem.Challenge.rw_ci0037_01, Mine.hd.heap_39) := by k_fill; rfl

abbrev PR : Program := PySem.Challenge.pw_ci0037_01
/-- a call that changes nothing that stands, and hands back R -/
abbrev PClaim (w : World) (mg mb : Str → Option Value) (loose : List Str) (mean : ExcName → Option Value) (d u : Nat) (f : Value) (vs : List Value) (pre : Heap → Prop) (R : Tok → Value) : Prop :=
  ∀ (dp un : Nat) (gd : Option (List Code)) (cn : Str) (cs : Scope) (a : Addr) (ccd : Value) (cl : List (Str × Addr)) (outer : List Env) (A₀ : Around) (base h₀ : Heap) (L : Addr) (m : Str → Option Value) (s : Shared) (Q E : Value → Shared → Prop) (news : List (Addr × Obj)),
    Below A₀ base outer h₀ → Fr h₀ L s.heap m → (Mine.hd.heap_39 w.params).In h₀ → News h₀ L s.heap news → Top topProg loose mean mg mb h₀ → cs.kind = .function → pre s.heap →
    dp + d < recursionLimit → un + u < cLine →
    (∀ (t : Tok) (h' : Heap) (tk' : Nat), Fr h₀ L h' m → News h₀ L h' news → Q (R t) { s with heap := h', toks := tk' }) →
      wpAny (model PR w) (ktrTop dp un gd cn cs L a ccd cl outer) (call f vs) Q E s

/-- the first place from i on whose sign is none of y's -/
def behind (x y : Str) (i : Nat) : Nat := i + ((x.cps.toList.drop i).takeWhile (fun c => Txt.contains y ⟨#[c]⟩)).length

theorem behind_stop {x y : Str} {i : Nat} (h : x.length ≤ i) : behind x y i = i := by
  unfold behind
  rw [List.drop_eq_nil_of_le (by simpa [Str.length] using h)]
  rfl
theorem behind_go {x y : Str} {i : Nat} (h : i < x.length) : behind x y i = if Txt.contains y ⟨#[x.cps.toList[i]'(by simpa [Str.length] using h)]⟩ = true then behind x y (i + 1) else i := by
  unfold behind
  rw [List.drop_eq_getElem_cons (by simpa [Str.length] using h), List.takeWhile_cons]
  split
  · rw [List.length_cons]; omega
  · rfl
end Mine
namespace Mine
abbrev put (m : Str → Option Value) (x : Str) (v : Value) : Str → Option Value := fun y => if y = x then some v else m y
theorem put_id {m : Str → Option Value} {x : Str} {v : Value} (h : m x = some v) : m = put m x v := by
  funext y
  unfold put
  split
  · rename_i e; rw [e, h]
  · rfl
theorem put_put (m : Str → Option Value) (x : Str) (v v' : Value) : put (put m x v) x v' = put m x v' := by
  funext y
  unfold put
  split <;> rfl
end Mine
namespace Mine
theorem charAt_nat {x : Str} {p : Nat} (h : p < x.length) : Txt.item x (p : Int) = ⟨#[x.cps.toList[p]'(by simpa [Str.length] using h)]⟩ := by
  unfold Txt.item Txt.charAt
  have e : seqIndex? (p : Int) x.length = some p := by
    unfold seqIndex?
    simp; omega
  rw [e]
  simp [Str.length] at h ⊢
  rw [Array.getElem?_eq_getElem h]; rfl
theorem behind_out {x y : Str} {p : Nat} (h : (p : Int) < x.length) (e : (Builtin.Str.occurrences y (Txt.item x p) 0 y.length 1).isEmpty = true) : behind x y p = p := by
  have h' : p < x.length := by omega
  rw [charAt_nat h'] at e
  rw [behind_go h', if_neg]
  unfold Txt.contains
  rw [e]; simp
theorem behind_in {x y : Str} {p : Nat} (h : (p : Int) < x.length) (e : (Builtin.Str.occurrences y (Txt.item x p) 0 y.length 1).isEmpty = false) : behind x y p = behind x y (p + 1) := by
  have h' : p < x.length := by omega
  rw [charAt_nat h'] at e
  rw [behind_go h', if_pos]
  unfold Txt.contains
  rw [e]; rfl
theorem ret_of {h₀ h' : Heap} {L : Addr} {m : Str → Option Value} {news : List (Addr × Obj)} {s : Shared} {Q : Value → Shared → Prop} {R : Tok → Value} {v : Value} {t : Tok} {tk' : Nat}
    (hret : ∀ (t : Tok) (h' : Heap) (tk' : Nat), Fr h₀ L h' m → News h₀ L h' news → Q (R t) { s with heap := h', toks := tk' }) (F : Fr h₀ L h' m) (N : News h₀ L h' news) (e : v = R t) : Q v { s with heap := h', toks := tk' } := by
  subst e; exact hret _ _ _ F N
end Mine
namespace Mine
abbrev DG : Str := Str.ofString "0123456789"
def numStep (x : Str) (e : Int) : Int :=
  if e > 0 ∧ (Txt.slice x (some e) (some (e + 1)) == Str.ofString ".") = true then
    (if (behind x DG (e + 1).toNat : Int) > e + 1 then (behind x DG (e + 1).toNat : Int) else e) else e
def numEnd (x : Str) : Int := numStep x (numStep x (behind x DG (Int.toNat 0)))
end Mine
namespace Mine
section
variable {h₀ h' : Heap} {L : Addr} {m : Str → Option Value} {news : List (Addr × Obj)} {s : Shared} {Q : Value → Shared → Prop} {t : Tok} {tk' : Nat}
theorem ret_int {R r : Int} (hret : ∀ (t : Tok) (h' : Heap) (tk' : Nat), Fr h₀ L h' m → News h₀ L h' news → Q (.int R t) { s with heap := h', toks := tk' }) (F : Fr h₀ L h' m) (N : News h₀ L h' news) (e : R = r) : Q (.int r t) { s with heap := h', toks := tk' } := by
  subst e; exact hret _ _ _ F N
theorem ret_str {R r : Str} (hret : ∀ (t : Tok) (h' : Heap) (tk' : Nat), Fr h₀ L h' m → News h₀ L h' news → Q (.str R t) { s with heap := h', toks := tk' }) (F : Fr h₀ L h' m) (N : News h₀ L h' news) (e : R = r) : Q (.str r t) { s with heap := h', toks := tk' } := by
  subst e; exact hret _ _ _ F N
theorem ret_bool {R r : Bool} (hret : ∀ (t : Tok) (h' : Heap) (tk' : Nat), Fr h₀ L h' m → News h₀ L h' news → Q (.bool R) { s with heap := h', toks := tk' }) (F : Fr h₀ L h' m) (N : News h₀ L h' news) (e : R = r) : Q (.bool r) { s with heap := h', toks := tk' } := by
  subst e; exact hret 0 _ _ F N
end
end Mine
namespace Mine
abbrev SG : Str := Str.ofString "0123456789abcdefghijklmnopqrstuvwxyzABCDEFGHIJKLMNOPQRSTUVWXYZ.-"
def optV : Option Str → Value → Prop
  | none, v => v = .none
  | some s, v => ∃ t, v = .str s t
def vgSign (x sign : Str) (e : Int) : Option Str × Int :=
  if (Txt.slice x (some e) (some (e + 1)) == sign) = true ∧ (behind x SG (e + 1).toNat : Int) > e + 1 then (some (Txt.slice x (some (e + 1)) (some (behind x SG (e + 1).toNat : Int))), (behind x SG (e + 1).toNat : Int)) else (none, e)
def vg2 (x : Str) (e0 e1 e2 : Int) : Option (Str × Str × Str × Option Str × Option Str) :=
  if (vgSign x (Str.ofString "+") (vgSign x (Str.ofString "-") e2).2).2 ≠ x.length then none else
    some (Txt.slice x none (some e0), Txt.slice x (some (e0 + 1)) (some e1), Txt.slice x (some (e1 + 1)) (some e2), (vgSign x (Str.ofString "-") e2).1, (vgSign x (Str.ofString "+") (vgSign x (Str.ofString "-") e2).2).1)
def vg1 (x : Str) (e0 e1 : Int) : Option (Str × Str × Str × Option Str × Option Str) :=
  if (Txt.slice x (some e1) (some (e1 + 1)) == Str.ofString ".") = true then
    if (behind x DG (e1 + 1).toNat : Int) = e1 + 1 then none else vg2 x e0 e1 (behind x DG (e1 + 1).toNat)
  else none
def vg0 (x : Str) (e0 : Int) : Option (Str × Str × Str × Option Str × Option Str) :=
  if e0 = 0 then none else
  if (Txt.slice x (some e0) (some (e0 + 1)) == Str.ofString ".") = true then
    if (behind x DG (e0 + 1).toNat : Int) = e0 + 1 then none else vg1 x e0 (behind x DG (e0 + 1).toNat)
  else none
/-- the groups of a version's text -/
def VG (x : Str) : Option (Str × Str × Str × Option Str × Option Str) := vg0 x (behind x DG (Int.toNat 0))
end Mine
namespace Mine
section
variable {x : Str} {e0 e1 e2 e3 e4 : Int} {p q : Option Str}
theorem vg_n1 (h0 : (behind x DG (Int.toNat 0) : Int) = 0) : VG x = none := by unfold VG vg0; rw [if_pos h0]
theorem vg_n2 (h0 : ¬ (behind x DG (Int.toNat 0) : Int) = 0) (h1 : (Txt.slice x (some (behind x DG (Int.toNat 0) : Int)) (some ((behind x DG (Int.toNat 0) : Int) + 1)) == Str.ofString ".") = false) : VG x = none := by
  unfold VG vg0; rw [if_neg h0, if_neg (by rw [h1]; simp)]
theorem vg_n3 (h0 : ¬ (behind x DG (Int.toNat 0) : Int) = 0) (h1 : (Txt.slice x (some (behind x DG (Int.toNat 0) : Int)) (some ((behind x DG (Int.toNat 0) : Int) + 1)) == Str.ofString ".") = true)
    (h2 : (behind x DG ((behind x DG (Int.toNat 0) : Int) + 1).toNat : Int) = (behind x DG (Int.toNat 0) : Int) + 1) : VG x = none := by
  unfold VG vg0; rw [if_neg h0, if_pos h1, if_pos h2]
theorem vg_go (h0 : ¬ (behind x DG (Int.toNat 0) : Int) = 0) (h1 : (Txt.slice x (some (behind x DG (Int.toNat 0) : Int)) (some ((behind x DG (Int.toNat 0) : Int) + 1)) == Str.ofString ".") = true)
    (h2 : ¬ (behind x DG ((behind x DG (Int.toNat 0) : Int) + 1).toNat : Int) = (behind x DG (Int.toNat 0) : Int) + 1) : VG x = vg1 x (behind x DG (Int.toNat 0)) (behind x DG ((behind x DG (Int.toNat 0) : Int) + 1).toNat) := by
  unfold VG vg0; rw [if_neg h0, if_pos h1, if_neg h2]
theorem vg1_n1 (h1 : (Txt.slice x (some e1) (some (e1 + 1)) == Str.ofString ".") = false) : vg1 x e0 e1 = none := by
  unfold vg1; rw [if_neg (by rw [h1]; simp)]
theorem vg1_n2 (h1 : (Txt.slice x (some e1) (some (e1 + 1)) == Str.ofString ".") = true) (h2 : (behind x DG (e1 + 1).toNat : Int) = e1 + 1) : vg1 x e0 e1 = none := by
  unfold vg1; rw [if_pos h1, if_pos h2]
theorem vg1_n3 (h1 : (Txt.slice x (some e1) (some (e1 + 1)) == Str.ofString ".") = true) (h2 : ¬ (behind x DG (e1 + 1).toNat : Int) = e1 + 1)
    (h3 : vgSign x (Str.ofString "-") (behind x DG (e1 + 1).toNat : Int) = (p, e3)) (h4 : vgSign x (Str.ofString "+") e3 = (q, e4)) (h5 : ¬ e4 = (x.length : Int)) : vg1 x e0 e1 = none := by
  unfold vg1 vg2; rw [if_pos h1, if_neg h2, h3]; simp only [h4]; rw [if_pos h5]
theorem vg1_s (h1 : (Txt.slice x (some e1) (some (e1 + 1)) == Str.ofString ".") = true) (h2 : ¬ (behind x DG (e1 + 1).toNat : Int) = e1 + 1)
    (h3 : vgSign x (Str.ofString "-") (behind x DG (e1 + 1).toNat : Int) = (p, e3)) (h4 : vgSign x (Str.ofString "+") e3 = (q, e4)) (h5 : e4 = (x.length : Int)) :
    vg1 x e0 e1 = some (Txt.slice x none (some e0), Txt.slice x (some (e0 + 1)) (some e1), Txt.slice x (some (e1 + 1)) (some (behind x DG (e1 + 1).toNat : Int)), p, q) := by
  unfold vg1 vg2; rw [if_pos h1, if_neg h2, h3]; simp only [h4]; rw [if_neg (fun h => h h5)]
end
end Mine
namespace Mine
theorem news_join {h₀ h : Heap} {L : Addr} {a b c : List (Addr × Obj)} (A : News h₀ L h a) (B : News h₀ L h b) (hc : ∀ p ∈ c, p ∈ a ∨ p ∈ b) : News h₀ L h c :=
  fun p hp => (hc p hp).elim (A p) (B p)
theorem apart_new {h h' : Heap} {L l : Addr} {o : Obj} {a news : List (Addr × Obj)} (A : News h L h' a) (hl : (l, o) ∈ a) (NO : ∀ q ∈ news, h.get? q.1 = some q.2) : ∀ q ∈ news, q.1 ≠ l := fun q hq e => by
  have h1 := (A _ hl).2.2
  have h2 := NO q hq
  rw [e] at h2
  exact nomatch (h2.symm.trans h1)
end Mine
namespace Mine
theorem news_cons {h₀ h : Heap} {L l : Addr} {o : Obj} {a b : List (Addr × Obj)} (A : News h₀ L h a) (hm : (l, o) ∈ a) (B : News h₀ L h b) : News h₀ L h ((l, o) :: b) :=
  fun p hp => (List.mem_cons.mp hp).elim (fun e => e ▸ A _ hm) (B p)
end Mine
namespace Mine
def lz (v : Str) : Bool := (Txt.item v 0 == Str.ofString "0") && Txt.isdigit v && !(v == Str.ofString "0")
end Mine
end
section
open PySem PySem.W PyProof.Rows PySem.Calls PySem.Spec PySem.Builtin PySem.Builtin.Str
set_option Elab.async false
set_option maxRecDepth 100000
namespace Mine
/-- a text's codes -/
abbrev co (x : Str) : List Nat := x.cps.toList
theorem co_ext {x y : Str} (h : co x = co y) : x = y := Str.ext' (Array.toList_inj.mp h)
theorem co_app (x y : Str) : co (x ++ y) = co x ++ co y := by
  show (x.cps ++ y.cps).toList = _
  exact Array.toList_append
theorem co_len (x : Str) : x.length = (co x).length := by simp [Str.length]
theorem co_mk (l : List Nat) : co ⟨l.toArray⟩ = l := by simp
theorem co_slice {x : Str} {i j : Nat} (h : i ≤ j) (h2 : j ≤ (co x).length) : co (Txt.slice x (some (i : Int)) (some (j : Int))) = ((co x).drop i).take (j - i) := by
  have h3 : j ≤ x.cps.toList.length := h2
  rw [beq_iff_eq.mp (slice_closes (x := x) (i := (i : Int)) (j := (j : Int)) ⟨by omega, by omega, by omega⟩), co_mk]
  congr 1 <;> omega
theorem co_slice_to {x : Str} {j : Nat} (h2 : j ≤ (co x).length) : co (Txt.slice x none (some (j : Int))) = (co x).take j := by
  have h3 : j ≤ x.cps.toList.length := h2
  rw [beq_iff_eq.mp (slice_closes_to (x := x) (j := (j : Int)) ⟨by omega, by omega⟩), co_mk]
  simp
theorem co_slice_from {x : Str} {i : Nat} (h2 : i ≤ (co x).length) : co (Txt.slice x (some (i : Int)) none) = (co x).drop i := by
  have h3 : i ≤ x.cps.toList.length := h2
  rw [beq_iff_eq.mp (slice_closes_from (x := x) (i := (i : Int)) ⟨by omega, by omega⟩), co_mk]
  rw [List.take_of_length_le]
  · congr 1
  · simp only [List.length_drop]; omega
theorem sl_to {x : Str} {a b : List Nat} (e : co x = a ++ b) {j : Int} (hj : j = (a.length : Int)) : co (Txt.slice x none (some j)) = a := by
  subst hj
  rw [co_slice_to (by rw [e]; simp), e]; simp
theorem sl_from {x : Str} {a b : List Nat} (e : co x = a ++ b) {j : Int} (hj : j = (a.length : Int)) : co (Txt.slice x (some j) none) = b := by
  subst hj
  rw [co_slice_from (by rw [e]; simp), e]; simp
theorem sl_mid {x : Str} {a b c : List Nat} (e : co x = a ++ (b ++ c)) {i j : Int} (hi : i = (a.length : Int)) (hj : j = (a.length : Int) + b.length) : co (Txt.slice x (some i) (some j)) = b := by
  subst hi
  have : j = ((a.length + b.length : Nat) : Int) := by rw [hj]; omega
  subst this
  rw [co_slice (by omega) (by rw [e]; simp), e]
  simp
theorem indices_end {n : Nat} {i j : Int} (h : (n : Int) ≤ j) : strSliceIndices (some i) (some j) 1 n = strSliceIndices (some i) (some (n : Int)) 1 n := by
  have h0 : ¬ j < 0 := by omega
  have h1 : ¬ ((n : Int) < 0) := by omega
  have h2 : (1 : Int) > 0 := by decide
  simp only [strSliceIndices, h0, h1, h2, if_false, if_true, Int.min_eq_right h, Int.min_self]
theorem sl_end {x : Str} {i j : Int} (hi : i = x.length) (h : (x.length : Int) ≤ j) : co (Txt.slice x (some i) (some j)) = [] := by
  have e2 : Txt.slice x (some i) (some j) = Txt.slice x (some i) (some (x.length : Int)) := by
    unfold Txt.slice
    rw [indices_end h]
  subst hi
  rw [e2, co_slice (Nat.le_refl _) (by rw [← co_len]; exact Nat.le_refl _), co_len]
  simp
theorem str_beq {x y : Str} : (x == y) = decide (co x = co y) := by
  cases h : x == y
  · have : x ≠ y := fun e => by rw [beq_iff_eq.mpr e] at h; cases h
    rw [eq_comm, decide_eq_false_iff_not]; exact fun e => this (co_ext e)
  · have e : x = y := beq_iff_eq.mp h
    subst e; simp
theorem txt_in (y : Str) (c : Nat) : Txt.contains y ⟨#[c]⟩ = decide (c ∈ co y) := StrLaws.found_one y c
theorem behind_at {x y : Str} {a d b : List Nat} (e : co x = a ++ (d ++ b)) (hd : ∀ c ∈ d, c ∈ co y) (hb : ∀ c r, b = c :: r → c ∉ co y) : behind x y a.length = a.length + d.length := by
  unfold behind
  have e' : (x.cps.toList.drop a.length) = d ++ b := by
    show (co x).drop _ = _
    rw [e]; simp
  rw [e']
  congr 2
  rw [List.takeWhile_append_of_pos (fun c hc => by rw [txt_in]; exact decide_eq_true (hd c hc))]
  cases b with
  | nil => simp
  | cons c r =>
    rw [List.takeWhile_cons_of_neg (by rw [txt_in]; simpa using hb c r rfl)]
    simp
/-- a row of texts, glued by c -/
def glue (c : Nat) : List (List Nat) → List Nat
  | [] => []
  | [a] => a
  | a :: b :: r => a ++ c :: glue c (b :: r)
theorem glue_cons {c : Nat} {a : List Nat} {r : List (List Nat)} (h : r ≠ []) : glue c (a :: r) = a ++ c :: glue c r := by
  cases r with
  | nil => exact absurd rfl h
  | cons b r => rfl
theorem co_join (c : Nat) : ∀ l : List Str, co (Txt.join ⟨#[c]⟩ l) = glue c (l.map co) := by
  intro l
  have e : Txt.join ⟨#[c]⟩ l = Str.join ⟨#[c]⟩ l := StrLaws.glued_eq_join _ _
  rw [e]; clear e
  induction l with
  | nil => rfl
  | cons a r ih =>
    cases r with
    | nil => rfl
    | cons b r =>
      show co (a ++ ⟨#[c]⟩ ++ Str.join ⟨#[c]⟩ (b :: r)) = _
      rw [co_app, co_app, ih, List.append_assoc]
      rfl
theorem cut_inj {c : Nat} : ∀ {a a' b b' : List Nat}, c ∉ a → c ∉ a' → a ++ c :: b = a' ++ c :: b' → a = a' ∧ b = b' := by
  intro a
  induction a with
  | nil =>
    intro a' b b' _ h' e
    cases a' with
    | nil => simpa using e
    | cons x r => simp at e; exact absurd (by simp [e.1]) h'
  | cons x r ih =>
    intro a' b b' h h' e
    cases a' with
    | nil => simp at e; exact absurd (by simp [e.1]) h
    | cons y r' =>
      simp at e
      obtain ⟨e1, e2⟩ := ih (fun m => h (.tail _ m)) (fun m => h' (.tail _ m)) e.2
      exact ⟨by rw [e.1, e1], e2⟩
theorem glue_inj {c : Nat} : ∀ {l l' : List (List Nat)}, l ≠ [] → l' ≠ [] → (∀ p ∈ l, c ∉ p) → (∀ p ∈ l', c ∉ p) → glue c l = glue c l' → l = l' := by
  intro l
  induction l with
  | nil => intro l' h; exact absurd rfl h
  | cons a r ih =>
    intro l' _ h' hf hf' e
    cases l' with
    | nil => exact absurd rfl h'
    | cons a' r' =>
      cases r with
      | nil =>
        cases r' with
        | nil => simpa [glue] using e
        | cons b' r' =>
          exfalso
          have : c ∉ a := hf a (.head _)
          apply this
          show c ∈ glue c [a]
          rw [e, glue_cons (by simp)]; simp
      | cons b r =>
        cases r' with
        | nil =>
          exfalso
          have : c ∉ a' := hf' a' (.head _)
          apply this
          show c ∈ glue c [a']
          rw [← e, glue_cons (by simp)]; simp
        | cons b' r' =>
          rw [glue_cons (c := c) (a := a) (r := b :: r) (by simp), glue_cons (c := c) (a := a') (r := b' :: r') (by simp)] at e
          obtain ⟨e1, e2⟩ := cut_inj (hf a (.head _)) (hf' a' (.head _)) e
          rw [e1, ih (by simp) (by simp) (fun p hp => hf p (.tail _ hp)) (fun p hp => hf' p (.tail _ hp)) e2]
theorem map_inj : ∀ {l l' : List Str}, l.map co = l'.map co → l = l' := by
  intro l
  induction l with
  | nil => intro l' e; cases l' with
    | nil => rfl
    | cons a r => cases e
  | cons a r ih =>
    intro l' e
    cases l' with
    | nil => cases e
    | cons b r' =>
      injection e with e1 e2
      rw [co_ext e1, ih e2]
theorem split_at {x : Str} {c : Nat} {l : List Str} (hl : l ≠ []) (hf : ∀ p ∈ l, c ∉ co p) (e : co x = glue c (l.map co)) : Txt.split x ⟨#[c]⟩ = l := by
  have h1 := StrLaws.join_split x ⟨#[c]⟩
  have h2 := StrLaws.split_free x c
  have h3 : Txt.split x ⟨#[c]⟩ ≠ [] := fun e0 => by have := split_pos x ⟨#[c]⟩; rw [e0] at this; simp at this
  have e2 : glue c ((Txt.split x ⟨#[c]⟩).map co) = glue c (l.map co) := by
    rw [← e, ← co_join]
    have : Txt.join ⟨#[c]⟩ (Txt.split x ⟨#[c]⟩) = Str.join ⟨#[c]⟩ (Txt.split x ⟨#[c]⟩) := StrLaws.glued_eq_join _ _
    rw [this, h1]
  have e3 := glue_inj (by simpa using h3) (by simpa using hl) (fun p hp => by
    obtain ⟨q, hq, rfl⟩ := List.mem_map.mp hp; exact h2 q hq) (fun p hp => by
    obtain ⟨q, hq, rfl⟩ := List.mem_map.mp hp; exact hf q hq) e2
  exact map_inj e3
theorem replace_none {x z : Str} {c : Nat} (h : c ∉ co x) : Txt.replace x ⟨#[c]⟩ z = x := by
  rw [StrLaws.replace_one, split_at (l := [x]) (by simp) (by simpa using h) rfl]
  rfl
theorem count_co (x : Str) (c : Nat) : Txt.count x ⟨#[c]⟩ = cnt c (co x) := count_cnt x c
theorem dot_eq : Str.ofString "." = ⟨#[46]⟩ := by decide +kernel
theorem plus_eq : Str.ofString "+" = ⟨#[43]⟩ := by decide +kernel
theorem dash_eq : Str.ofString "-" = ⟨#[45]⟩ := by decide +kernel
theorem zero_eq : Str.ofString "0" = ⟨#[48]⟩ := by decide +kernel
theorem dg_eq : co DG = [48, 49, 50, 51, 52, 53, 54, 55, 56, 57] := by decide +kernel
theorem cnt_glue {c : Nat} : ∀ {l : List (List Nat)}, l ≠ [] → (∀ p ∈ l, c ∉ p) → cnt c (glue c l) = (l.length : Int) - 1 := by
  intro l
  induction l with
  | nil => intro h; exact absurd rfl h
  | cons a r ih =>
    intro _ hf
    cases r with
    | nil => rw [show glue c [a] = a from rfl, cnt_none c a (hf a (.head _))]; simp
    | cons b r =>
      rw [glue_cons (by simp), cnt_append, cnt_none c a (hf a (.head _)), cnt_cons, if_pos rfl, ih (by simp) (fun p hp => hf p (.tail _ hp))]
      simp; omega
end Mine
end
section
open PySem PySem.W PyProof.Rows PySem.Calls PySem.Spec PySem.Builtin PySem.Builtin.Str
set_option Elab.async false
set_option maxRecDepth 100000
namespace Mine
theorem pos_of {α : Type} {l : List α} (h : l ≠ []) : 0 < l.length := by
  cases l with
  | nil => exact absurd rfl h
  | cons a r => exact Nat.succ_pos _
abbrev dig (c : Nat) : Prop := c ∈ ([48, 49, 50, 51, 52, 53, 54, 55, 56, 57] : List Nat)
abbrev Digs (l : List Nat) : Prop := ∀ c ∈ l, dig c
/-- the list begins with none of these -/
def NoHead (P : Nat → Prop) (l : List Nat) : Prop := ∀ c r, l = c :: r → ¬ P c
theorem NoHead.nil {P : Nat → Prop} : NoHead P [] := fun _ _ e => by cases e
theorem NoHead.cons {P : Nat → Prop} {c : Nat} {r : List Nat} (h : ¬ P c) : NoHead P (c :: r) := fun c' r' e => by cases e; exact h
theorem beh_dg {x : Str} {a d b : List Nat} (e : co x = a ++ (d ++ b)) (hd : Digs d) (hb : NoHead dig b) : behind x DG a.length = a.length + d.length :=
  behind_at e (fun c hc => by rw [dg_eq]; exact hd c hc) (fun c r e => by rw [dg_eq]; exact hb c r e)
theorem sl_one {x : Str} {a b : List Nat} (e : co x = a ++ b) {i j : Int} (hi : i = (a.length : Int)) (hj : j = (a.length : Int) + 1) : co (Txt.slice x (some i) (some j)) = b.take 1 := by
  cases b with
  | nil =>
    refine sl_end ?_ ?_
    · rw [hi, co_len, e, List.append_nil]
    · rw [hj, co_len, e, List.append_nil]; omega
  | cons c r => exact (sl_mid (a := a) (b := [c]) (c := r) (by rw [e]; rfl) hi (by rw [hj]; rfl)).trans rfl
theorem one_is {x : Str} {a b : List Nat} (e : co x = a ++ b) {i j : Int} (hi : i = (a.length : Int)) (hj : j = (a.length : Int) + 1) {c : Nat} {r : List Nat} (hb : b = c :: r) : (Txt.slice x (some i) (some j) == (⟨#[c]⟩ : Str)) = true := by
  rw [str_beq, sl_one e hi hj, hb]; simp
theorem one_not {x : Str} {a b : List Nat} (e : co x = a ++ b) {i j : Int} (hi : i = (a.length : Int)) (hj : j = (a.length : Int) + 1) {c : Nat} (hb : NoHead (· = c) b) : (Txt.slice x (some i) (some j) == (⟨#[c]⟩ : Str)) = false := by
  rw [str_beq, sl_one e hi hj, decide_eq_false_iff_not]
  cases b with
  | nil => simp
  | cons d r =>
    intro h
    have h' : [d] = [c] := h
    have : d = c := by injection h'
    exact hb d r rfl this
theorem step_stay {x : Str} {a b : List Nat} (e : co x = a ++ b) (hb : NoHead (· = 46) b) {i : Int} (hi : i = (a.length : Int)) : numStep x i = i := by
  unfold numStep
  rw [if_neg]
  rintro ⟨_, h⟩
  rw [dot_eq, one_not e hi (by omega) hb] at h
  cases h
theorem step_go {x : Str} {a d b : List Nat} (e : co x = a ++ 46 :: (d ++ b)) (ha : a ≠ []) (hd0 : d ≠ []) (hd : Digs d) (hb : NoHead dig b) {i : Int} (hi : i = (a.length : Int)) : numStep x i = ((a ++ 46 :: d).length : Int) := by
  have hl : 0 < a.length := pos_of ha
  have hl2 : 0 < d.length := pos_of hd0
  have hbh : behind x DG (i + 1).toNat = (a ++ [46]).length + d.length := by
    have : (i + 1).toNat = (a ++ [46]).length := by rw [hi]; (first | omega | (simp only [List.length_append, List.length_cons, List.length_nil]; omega))
    rw [this]
    exact beh_dg (by rw [e]; simp) hd hb
  unfold numStep
  rw [if_pos ⟨by omega, by rw [dot_eq]; exact one_is e hi (by omega) rfl⟩, hbh, if_pos (by (first | omega | (simp only [List.length_append, List.length_cons, List.length_nil]; omega)))]
  (first | omega | (simp only [List.length_append, List.length_cons, List.length_nil]; omega))
theorem beh_zero {x : Str} {a b : List Nat} (e : co x = a ++ b) (hd : Digs a) (hb : NoHead dig b) : behind x DG (Int.toNat 0) = a.length := by
  have := beh_dg (x := x) (a := []) (by rw [e]; rfl) hd hb
  simpa using this
theorem num1 {x : Str} {a b : List Nat} (e : co x = a ++ b) (ha : Digs a) (hb : NoHead dig b) (hb2 : NoHead (· = 46) b) : numEnd x = (a.length : Int) := by
  unfold numEnd
  rw [beh_zero e ha hb, step_stay e hb2 rfl, step_stay e hb2 rfl]
theorem num2 {x : Str} {a b c : List Nat} (e : co x = a ++ 46 :: (b ++ c)) (ha0 : a ≠ []) (ha : Digs a) (hb0 : b ≠ []) (hb : Digs b) (hc : NoHead dig c) (hc2 : NoHead (· = 46) c) : numEnd x = ((a ++ 46 :: b).length : Int) := by
  unfold numEnd
  rw [beh_zero e ha (.cons (by decide)), step_go e ha0 hb0 hb hc rfl, step_stay (a := a ++ 46 :: b) (by rw [e]; simp) hc2 rfl]
theorem num3 {x : Str} {a b c d : List Nat} (e : co x = a ++ 46 :: (b ++ 46 :: (c ++ d))) (ha0 : a ≠ []) (ha : Digs a) (hb0 : b ≠ []) (hb : Digs b) (hc0 : c ≠ []) (hc : Digs c) (hd : NoHead dig d) : numEnd x = ((a ++ 46 :: (b ++ 46 :: c)).length : Int) := by
  unfold numEnd
  rw [beh_zero e ha (.cons (by decide)), step_go e ha0 hb0 hb (.cons (by decide)) rfl, step_go (a := a ++ 46 :: b) (d := c) (b := d) (by rw [e]; simp) (by simp) hc0 hc hd rfl]
  simp
/-- the signs of an identifier -/
theorem sg_eq : co SG = [48, 49, 50, 51, 52, 53, 54, 55, 56, 57, 97, 98, 99, 100, 101, 102, 103, 104, 105, 106, 107, 108, 109, 110, 111, 112, 113, 114, 115, 116, 117, 118, 119, 120, 121, 122, 65, 66, 67, 68, 69, 70, 71, 72, 73, 74, 75, 76, 77, 78, 79, 80, 81, 82, 83, 84, 85, 86, 87, 88, 89, 90, 46, 45] := by decide +kernel
theorem sign_none {x : Str} {a b : List Nat} {c : Nat} (e : co x = a ++ b) (hb : NoHead (· = c) b) {i : Int} (hi : i = (a.length : Int)) : vgSign x ⟨#[c]⟩ i = (none, i) := by
  unfold vgSign
  rw [if_neg]
  rintro ⟨h, _⟩
  rw [one_not e hi (by omega) hb] at h
  cases h
theorem sign_some {x : Str} {a b : List Nat} {p : Str} {c : Nat} (e : co x = a ++ c :: (co p ++ b)) (hp : ∀ k ∈ co p, k ∈ co SG) (hp0 : co p ≠ []) (hb : NoHead (· ∈ co SG) b) {i : Int} (hi : i = (a.length : Int)) : vgSign x ⟨#[c]⟩ i = (some p, ((a ++ c :: co p).length : Int)) := by
  have hl2 : 0 < (co p).length := pos_of hp0
  have hbh : behind x SG (i + 1).toNat = (a ++ [c]).length + (co p).length := by
    have : (i + 1).toNat = (a ++ [c]).length := by rw [hi]; (first | omega | (simp only [List.length_append, List.length_cons, List.length_nil]; omega))
    rw [this]
    exact behind_at (by rw [e]; simp) hp hb
  unfold vgSign
  rw [hbh, if_pos ⟨one_is e hi (by omega) rfl, by (first | omega | (simp only [List.length_append, List.length_cons, List.length_nil]; omega))⟩]
  have e2 : Txt.slice x (some (i + 1)) (some (((a ++ [c]).length + (co p).length : Nat) : Int)) = p :=
    co_ext (sl_mid (a := a ++ [c]) (b := co p) (c := b) (by rw [e]; simp) (by rw [hi]; simp) (by omega))
  rw [e2]
  refine Prod.ext rfl ?_
  show (((a ++ [c]).length + (co p).length : Nat) : Int) = _
  simp only [List.length_append, List.length_cons, List.length_nil]
  omega
/-- what stands behind the three numbers -/
def tailOf (gp gq : Option Str) : List Nat := (match gp with | none => [] | some p => 45 :: co p) ++ (match gq with | none => [] | some q => 43 :: co q)
def SignsOk (g : Option Str) : Prop := ∀ p, g = some p → (∀ k ∈ co p, k ∈ co SG) ∧ co p ≠ []
theorem tail_sign {gp gq : Option Str} : NoHead dig (tailOf gp gq) ∧ NoHead (· = 46) (tailOf gp gq) := by
  cases gp with
  | none =>
    cases gq with
    | none => exact ⟨.nil, .nil⟩
    | some q => exact ⟨.cons (by decide), .cons (by decide)⟩
  | some p => exact ⟨.cons (by decide), .cons (by decide)⟩
theorem plus_tail {gq : Option Str} : NoHead (· ∈ co SG) (match gq with | none => [] | some q => 43 :: co q) := by
  cases gq with
  | none => exact .nil
  | some q => exact .cons (by rw [sg_eq]; decide)
theorem minus_tail {gq : Option Str} : NoHead (· = 45) (match gq with | none => [] | some q => 43 :: co q) := by
  cases gq with
  | none => exact .nil
  | some q => exact .cons (by decide)
theorem vg_val {y a b c : Str} {gp gq : Option Str} (e : co y = co a ++ 46 :: (co b ++ 46 :: (co c ++ tailOf gp gq))) (ha0 : co a ≠ []) (ha : Digs (co a)) (hb0 : co b ≠ []) (hb : Digs (co b)) (hc0 : co c ≠ []) (hc : Digs (co c)) (hp : SignsOk gp) (hq : SignsOk gq) : VG y = some (a, b, c, gp, gq) := by
  have la : 0 < (co a).length := pos_of ha0
  have lb : 0 < (co b).length := pos_of hb0
  have lc : 0 < (co c).length := pos_of hc0
  have h0 : behind y DG (Int.toNat 0) = (co a).length := beh_zero e ha (.cons (by decide))
  have h1 : behind y DG (((co a).length : Int) + 1).toNat = (co a ++ [46]).length + (co b).length := by
    have : (((co a).length : Int) + 1).toNat = (co a ++ [46]).length := by (first | omega | (simp only [List.length_append, List.length_cons, List.length_nil]; omega))
    rw [this]
    exact beh_dg (b := 46 :: (co c ++ tailOf gp gq)) (by rw [e]; simp) hb (.cons (by decide))
  have h2 : behind y DG ((((co a ++ [46]).length + (co b).length : Nat) : Int) + 1).toNat = (co a ++ 46 :: (co b ++ [46])).length + (co c).length := by
    have : ((((co a ++ [46]).length + (co b).length : Nat) : Int) + 1).toNat = (co a ++ 46 :: (co b ++ [46])).length := by (first | omega | (simp only [List.length_append, List.length_cons, List.length_nil]; omega))
    rw [this]
    exact beh_dg (b := tailOf gp gq) (by rw [e]; simp) hc tail_sign.1
  have d1 : (Txt.slice y (some ((co a).length : Int)) (some (((co a).length : Int) + 1)) == Str.ofString ".") = true := by rw [dot_eq]; exact one_is e rfl rfl rfl
  have d2 : (Txt.slice y (some (((co a ++ [46]).length + (co b).length : Nat) : Int)) (some ((((co a ++ [46]).length + (co b).length : Nat) : Int) + 1)) == Str.ofString ".") = true := by
    rw [dot_eq]; exact one_is (a := co a ++ 46 :: co b) (b := 46 :: (co c ++ tailOf gp gq)) (by rw [e]; simp) (by (first | omega | (simp only [List.length_append, List.length_cons, List.length_nil]; omega))) (by (first | omega | (simp only [List.length_append, List.length_cons, List.length_nil]; omega))) rfl
  have E : ∃ z : Int, vgSign y (Str.ofString "-") (((co a ++ 46 :: (co b ++ [46])).length + (co c).length : Nat) : Int) = (gp, z) ∧ vgSign y (Str.ofString "+") z = (gq, (y.length : Int)) := by
    rw [dash_eq, plus_eq]
    have hi : ((((co a ++ 46 :: (co b ++ [46])).length + (co c).length : Nat) : Int)) = ((co a ++ 46 :: (co b ++ 46 :: co c)).length : Int) := by (first | omega | (simp only [List.length_append, List.length_cons, List.length_nil]; omega))
    rw [hi]
    cases gp with
    | none =>
      refine ⟨_, sign_none (a := co a ++ 46 :: (co b ++ 46 :: co c)) (b := tailOf none gq) (by rw [e]; simp) minus_tail rfl, ?_⟩
      cases gq with
      | none => rw [sign_none (a := co a ++ 46 :: (co b ++ 46 :: co c)) (b := []) (by rw [e]; simp [tailOf]) .nil rfl, co_len, e]; simp [tailOf]
      | some q => rw [sign_some (a := co a ++ 46 :: (co b ++ 46 :: co c)) (b := []) (p := q) (by rw [e]; simp [tailOf]) (hq q rfl).1 (hq q rfl).2 .nil rfl, co_len, e]; simp [tailOf]
    | some p =>
      refine ⟨_, sign_some (a := co a ++ 46 :: (co b ++ 46 :: co c)) (p := p) (by rw [e]; simp [tailOf]; rfl) (hp p rfl).1 (hp p rfl).2 plus_tail rfl, ?_⟩
      cases gq with
      | none => rw [sign_none (a := co a ++ 46 :: (co b ++ 46 :: co c) ++ 45 :: co p) (b := []) (by rw [e]; simp [tailOf]) .nil rfl, co_len, e]; simp [tailOf]
      | some q => rw [sign_some (a := co a ++ 46 :: (co b ++ 46 :: co c) ++ 45 :: co p) (b := []) (p := q) (by rw [e]; simp [tailOf]) (hq q rfl).1 (hq q rfl).2 .nil rfl, co_len, e]; simp [tailOf]
  obtain ⟨z, s1, s2⟩ := E
  unfold VG
  rw [h0]
  unfold vg0
  rw [if_neg (by omega), if_pos d1, h1, if_neg (by (first | omega | (simp only [List.length_append, List.length_cons, List.length_nil]; omega))), vg1_s d2 (by rw [h2]; (first | omega | (simp only [List.length_append, List.length_cons, List.length_nil]; omega))) (by rw [h2]; exact s1) s2 rfl, h2]
  refine congrArg some ?_
  have t1 : Txt.slice y none (some ((co a).length : Int)) = a := co_ext (sl_to e rfl)
  have t2 : Txt.slice y (some (((co a).length : Int) + 1)) (some (((co a ++ [46]).length + (co b).length : Nat) : Int)) = b := co_ext (sl_mid (a := co a ++ [46]) (b := co b) (by rw [e]; simp; rfl) (by simp) (by omega))
  have t3 : Txt.slice y (some ((((co a ++ [46]).length + (co b).length : Nat) : Int) + 1)) (some (((co a ++ 46 :: (co b ++ [46])).length + (co c).length : Nat) : Int)) = c := co_ext (sl_mid (a := co a ++ 46 :: (co b ++ [46])) (b := co c) (by rw [e]; simp; rfl) (by (first | omega | (simp only [List.length_append, List.length_cons, List.length_nil]; omega))) (by omega))
  rw [t1, t2, t3]
/-- no version's text: what fails it -/
theorem vg_bad1 {x : Str} {a b : List Nat} (e : co x = a ++ b) (ha0 : a ≠ []) (ha : Digs a) (hb : NoHead dig b) (hb2 : NoHead (· = 46) b) : VG x = none := by
  have la : 0 < a.length := pos_of ha0
  have h0 := beh_zero e ha hb
  exact vg_n2 (by rw [h0]; omega) (by rw [h0, dot_eq]; exact one_not e rfl rfl hb2)
theorem vg_bad2 {x : Str} {a b c : List Nat} (e : co x = a ++ 46 :: (b ++ c)) (ha0 : a ≠ []) (ha : Digs a) (hb0 : b ≠ []) (hb : Digs b) (hc : NoHead dig c) (hc2 : NoHead (· = 46) c) : VG x = none := by
  have la : 0 < a.length := pos_of ha0
  have lb : 0 < b.length := pos_of hb0
  have h0 : behind x DG (Int.toNat 0) = a.length := beh_zero e ha (.cons (by decide))
  have h1 : behind x DG ((a.length : Int) + 1).toNat = (a ++ [46]).length + b.length := by
    have : ((a.length : Int) + 1).toNat = (a ++ [46]).length := by (first | omega | (simp only [List.length_append, List.length_cons, List.length_nil]; omega))
    rw [this]
    exact beh_dg (b := c) (by rw [e]; simp) hb hc
  rw [vg_go (by rw [h0]; omega) (by rw [h0, dot_eq]; exact one_is e rfl rfl rfl) (by rw [h0, h1]; (first | omega | (simp only [List.length_append, List.length_cons, List.length_nil]; omega)))]
  rw [h0, h1]
  refine vg1_n1 ?_
  rw [dot_eq]
  exact one_not (a := a ++ 46 :: b) (b := c) (by rw [e]; simp) (by (first | omega | (simp only [List.length_append, List.length_cons, List.length_nil]; omega))) (by (first | omega | (simp only [List.length_append, List.length_cons, List.length_nil]; omega))) hc2
theorem vg_bad3 {x : Str} {a b c d : List Nat} (e : co x = a ++ 46 :: (b ++ 46 :: (c ++ d))) (ha0 : a ≠ []) (ha : Digs a) (hb0 : b ≠ []) (hb : Digs b) (hc0 : c ≠ []) (hc : Digs c) (hd0 : d ≠ []) (hd : NoHead dig d) (hd2 : NoHead (· = 45) d) (hd3 : NoHead (· = 43) d) : VG x = none := by
  have la : 0 < a.length := pos_of ha0
  have lb : 0 < b.length := pos_of hb0
  have lc : 0 < c.length := pos_of hc0
  have ld : 0 < d.length := pos_of hd0
  have h0 : behind x DG (Int.toNat 0) = a.length := beh_zero e ha (.cons (by decide))
  have h1 : behind x DG ((a.length : Int) + 1).toNat = (a ++ [46]).length + b.length := by
    have : ((a.length : Int) + 1).toNat = (a ++ [46]).length := by (first | omega | (simp only [List.length_append, List.length_cons, List.length_nil]; omega))
    rw [this]
    exact beh_dg (b := 46 :: (c ++ d)) (by rw [e]; simp) hb (.cons (by decide))
  have h2 : behind x DG ((((a ++ [46]).length + b.length : Nat) : Int) + 1).toNat = (a ++ 46 :: (b ++ [46])).length + c.length := by
    have : ((((a ++ [46]).length + b.length : Nat) : Int) + 1).toNat = (a ++ 46 :: (b ++ [46])).length := by (first | omega | (simp only [List.length_append, List.length_cons, List.length_nil]; omega))
    rw [this]
    exact beh_dg (b := d) (by rw [e]; simp) hc hd
  rw [vg_go (by rw [h0]; omega) (by rw [h0, dot_eq]; exact one_is e rfl rfl rfl) (by rw [h0, h1]; (first | omega | (simp only [List.length_append, List.length_cons, List.length_nil]; omega)))]
  rw [h0, h1]
  have hi : ((((a ++ 46 :: (b ++ [46])).length + c.length : Nat) : Int)) = ((a ++ 46 :: (b ++ 46 :: c)).length : Int) := by (first | omega | (simp only [List.length_append, List.length_cons, List.length_nil]; omega))
  refine vg1_n3 (e3 := (((a ++ 46 :: (b ++ [46])).length + c.length : Nat) : Int)) (e4 := (((a ++ 46 :: (b ++ [46])).length + c.length : Nat) : Int)) (p := none) (q := none) ?_ ?_ ?_ ?_ ?_
  · rw [dot_eq]
    exact one_is (a := a ++ 46 :: b) (b := 46 :: (c ++ d)) (by rw [e]; simp) (by (first | omega | (simp only [List.length_append, List.length_cons, List.length_nil]; omega))) (by (first | omega | (simp only [List.length_append, List.length_cons, List.length_nil]; omega))) rfl
  · rw [h2]; (first | omega | (simp only [List.length_append, List.length_cons, List.length_nil]; omega))
  · rw [h2, dash_eq]; exact sign_none (a := a ++ 46 :: (b ++ 46 :: c)) (b := d) (by rw [e]; simp) hd2 hi
  · rw [plus_eq]; exact sign_none (a := a ++ 46 :: (b ++ 46 :: c)) (b := d) (by rw [e]; simp) hd3 hi
  · rw [co_len, e]; (first | omega | (simp only [List.length_append, List.length_cons, List.length_nil]; omega))
end Mine
end
section
open PySem PySem.W PyProof.Rows PySem.Calls PySem.Spec
set_option Elab.async false
namespace Mine
section
variable {prog : Program} {w : World} {A₀ A : Around} {s : Shared} {K : Frag} {L : Addr} {h₀ base : Heap} {m mg mb : Str → Option Value} {news : List (Addr × Obj)} {p : Program} {loose : List Str} {mean : ExcName → Option Value}
theorem below_here {env : Env} {outer : List Env} (B : Below A₀ base outer h₀) (F : Fr h₀ L s.heap m) (hA : A.frames = some (env :: outer)) (hf : env.frame = some L) (hke : env.scope.kind = .function) : Below A base (env :: outer) s.heap := by
  have B₁ := pushX B F hf hke
  exact ⟨hA, fun b o e => F.keep b o (B.stays b o e), B₁.frames⟩
theorem fr_back {h' : Heap} {L' : Addr} {m' : Str → Option Value} (F : Fr h₀ L s.heap m) (F' : Fr s.heap L' h' m') : Fr h₀ L h' m := by
  obtain ⟨oL, es, ep, hL, r⟩ := F.ns
  exact ⟨⟨oL, es, ep, F'.keep _ _ hL, r⟩, fun b o e => F'.keep b o (F.keep b o e), F.above⟩
theorem news_back {h' : Heap} {L' : Addr} {m' : Str → Option Value} (F' : Fr s.heap L' h' m') (N : News h₀ L s.heap news) : News h₀ L h' news :=
  fun q hq => ⟨F'.keep _ _ (N q hq).1, (N q hq).2⟩
theorem news_new {h' : Heap} {L' : Addr} {news' : List (Addr × Obj)} (F : Fr h₀ L s.heap m) (N' : News s.heap L' h' news') : News h₀ L h' news' := fun q hq => by
  refine ⟨(N' q hq).1, fun e => ?_, ?_⟩
  · obtain ⟨oL, es, ep, hL, r⟩ := F.ns
    have := (N' q hq).2.2
    rw [e, hL] at this; cases this
  · cases e : h₀.get? q.1 with
    | none => rfl
    | some o =>
      have := (N' q hq).2.2
      rw [F.keep _ _ e] at this; cases this
def LeaveP (h₀ : Heap) (L : Addr) (m : Str → Option Value) (news : List (Addr × Obj)) (g : Heap) (R : Result → Shared → Prop) (v : Value) (s' : Shared) : Prop :=
  ∃ L' m' news', Fr g L' s'.heap m' ∧ News g L' s'.heap news' ∧ (Fr h₀ L s'.heap m → News h₀ L s'.heap news → News h₀ L s'.heap (news' ++ news) → (∀ p ∈ news', ∀ q ∈ news, p.1 ≠ q.1) → R (.ok (.ret v)) s')
theorem LeaveP.intro {g : Heap} {L' : Addr} {m' : Str → Option Value} {news' : List (Addr × Obj)} {R : Result → Shared → Prop} {v : Value} {s' : Shared} (F' : Fr g L' s'.heap m') (N' : News g L' s'.heap news')
    (k : Fr h₀ L s'.heap m → News h₀ L s'.heap news → News h₀ L s'.heap (news' ++ news) → (∀ p ∈ news', ∀ q ∈ news, p.1 ≠ q.1) → R (.ok (.ret v)) s') : LeaveP h₀ L m news g R v s' := ⟨L', m', news', F', N', k⟩
theorem news_app {h : Heap} {a b : List (Addr × Obj)} (x : News h₀ L h a) (y : News h₀ L h b) : News h₀ L h (a ++ b) := fun p hp => (List.mem_append.mp hp).elim (x p) (y p)
theorem apart_of {h' : Heap} {L' : Addr} {news' : List (Addr × Obj)} (N : News h₀ L s.heap news) (N' : News s.heap L' h' news') : ∀ p ∈ news', ∀ q ∈ news, p.1 ≠ q.1 := fun p hp q hq e => by
  have h1 := (N' p hp).2.2
  have h2 := (N q hq).1
  rw [e, h2] at h1; cases h1
/-- a def is entered; all that stands is kept by the callee's frame -/
theorem enterP {env : Env} {outer : List Env} {R : Result → Shared → Prop} {name qual : Str} {params : Arguments} {body : List Stmt} {scope : Scope} {dV kV doc pm cdv ct oc : Value} {an od : Option Addr} {osl : Array (Option Value)} {f : Addr} {args : Args} {binds : List (Str × Value)}
    (B : Below A₀ base outer h₀) (F : Fr h₀ L s.heap m) (X₀ : K.In h₀) (N : News h₀ L s.heap news) (T : Top p loose mean mg mb h₀) (hA : A.frames = some (env :: outer)) (hf : env.frame = some L) (hke : env.scope.kind = .function)
    (ho : K.lookup f = some ⟨oc, od, .func (fnOf name qual params body scope dV kV doc pm an cdv ct), osl⟩) (hcd : codeIn K cdv qual = true) (hroom : A.depth < recursionLimit)
    (hbind : BindsTo s (fnOf name qual params body scope dV kV doc pm an cdv ct) args binds) (hloc : ∀ y ∈ binds, scope.names.lookup y.1 = some .local)
    (h : ∀ L' h₁, Fr s.heap L' h₁ (fun y => binds.reverse.lookup y) → News s.heap L' h₁ [] → Below A base (env :: outer) s.heap → K.In s.heap → Top p loose mean mg mb s.heap →
      wpAny (model prog w) (A.deeper (envOf qual scope L' f cdv)) (execs body (envOf qual scope L' f cdv))
        (fun fl s' => LeaveP h₀ L m news s.heap R (match fl with | .ret v => v | _ => .none) s')
        (fun e s' => wpAny (model prog w) (A.deeper (envOf qual scope L' f cdv)) («leaving» (envOf qual scope L' f cdv) e) (fun _ s'' => R (.error e) s'') (fun e' s'' => R (.error e') s'') s')
        { s with heap := h₁, toks := s.toks + binds.length })
    (hco : scope.isCoroutine = false) (hgen : scope.isGenerator = false) (hk : scope.kind = .function)
    (hcell : ∀ x ∈ scope.names, x.2 ≠ .cell) : codeAny (model prog w) A (.call (.ref f) args) R s := by
  have X := X₀.keeps F.keep
  refine codeAny_call_def (fd := fnOf name qual params body scope dV kV doc pm an cdv ct) (body := body) (binds := binds) hroom (X _ _ ho) rfl (T.nolimit.keeps F.keep) (codeRec_of X hcd) rfl hbind hcell hloc (fun h₁ hns hk₁ => ?_) hco hgen hk
  refine wpAny_mono (h s.heap.objs.size h₁ ⟨hns, hk₁, Nat.le_refl _⟩ News.nil (below_here B F hA hf hke) X (T.keeps F.keep)) (fun fl s' hl => ?_) fun _ _ y => y
  obtain ⟨L', m', news', F', N', k⟩ := hl
  exact k (fr_back F F') (news_back F' N) (news_app (news_new F N') (news_back F' N)) (apart_of N N')
end
end Mine
end
section
theorem Mine.reset_B1 : True := by w_top off; trivial
open PySem PySem.W PyProof.Rows PySem.Calls PySem.Spec
set_option Elab.async false
namespace Mine
local macro_rules | `(tactic| walk_at "ENTER") => `(tactic| k_dflt (refine' enterP ?k1 ?k2 ?k3 ?k4 ?k5 ?kA ?kF ?kK ?k6 ?k7 ?k8 ?k9 ?kB ?_ ?c2 ?c3 ?c4 ?c5; (case kA => exact rfl); (case kF => exact rfl); (case kK => first | exact rfl | assumption); (case k1 => k_asm); (case k2 => k_asm); (case k3 => k_asm); (case k4 => k_asm); (case k5 => k_asm); (case k6 => k_is); (case k7 => k_is); (case k8 => ktr_room); (case k9 => first | exact BindsTo.of_eq rfl | exact binds_K (by k_in) rfl (by k_is) rfl rfl rfl); (case c5 => decide); (case kB => exact locs rfl); (case c2 => exact rfl); (case c3 => exact rfl); (case c4 => exact rfl); k_whole; intro L' h' F' N' B' X' T'; (try dsimp only); (try k_fold)))
local macro_rules | `(tactic| walk_at "LeaveP") => `(tactic| (k_dflt (refine' LeaveP.intro ?k1 ?k2 ?_; (case k1 => k_asm); (case k2 => k_asm); k_whole); intro kF kN0 kN kA; (try simp only [List.cons_append, List.nil_append] at kN); (try simp only [List.forall_mem_cons, List.not_mem_nil, false_implies, implies_true, and_true] at kA); (try dsimp only)))
local macro_rules | `(tactic| walk_at "call ref") => `(tactic| (k_here; k_dflt (first
  | (refine' call_meth ?k1 ?k2 ?_; (case k1 => k_asm); (case k2 => k_mem); k_whole; walk_at "ENTER")
  | (refine wpAny_call ?_; walk_at "ENTER"))))
theorem fill1 : (PySem.Challenge.rw_ci0037_01, Mine.hd.heap_39) = (PySem.Challenge.rw_ci0037_01, Mine.hd.heap_39) := by k_fill; rfl
set_option pp.deepTerms false in
set_option pp.deepTerms.threshold 5 in
set_option maxRecDepth 100000 in
set_option maxHeartbeats 1000000 in
theorem behind_spec {w mg mb loose mean} (x y : Str) (k : Int) (t1 t2 t3 : Tok) (hx : x.length < 10000) (hk0 : 0 ≤ k) :
    PClaim w mg mb loose mean 1 8 (.ref 28) [.str x t1, .int k t2, .str y t3] (fun _ => True) (fun t => .int (behind x y k.toNat) t) := by
  obtain ⟨i, rfl⟩ := Int.eq_ofNat_of_zero_le hk0
  rw [Int.toNat_natCast]
  clear hk0
  intro dp un gd cn cs a ccd cl outer A₀ base h₀ L m s Q E news B F X N T hk _ hd hu hret
  refine wpAny_call ?_
  walk_at "ENTER"
  clear B F N
  rename_i L1 h1 F1 N1 B1 X1 T1
  refine wpAny_execs_cons ?_
  refine While_inv (fun n m₁ news₁ => news₁ = [] ∧ ∃ (p : Nat) (t : Tok), n = x.length - p ∧ behind x y p = behind x y i ∧ m₁ = put _ (Str.ofString "place") (.int p t)) (n₀ := x.length - i) F1 N1 ⟨rfl, i, t2, rfl, rfl, put_id rfl⟩ ?_ ?_
  · rintro n m₁ news₁ h₁ tk₁ F2 N2 ⟨rfl, p, t, hn, hb, rfl⟩
    clear F1 N1
    k_steps
    · (try intro _); refine ret_int hret (by assumption) (by assumption) ?_
      rw [← hb, behind_out (by assumption) (by assumption)]
    · refine WhileStep.intro (n' := x.length - (p + 1)) (by assumption) (by assumption) (by omega) ⟨rfl, p + 1, _, rfl, ?_, put_put _ _ _ _⟩
      rw [← hb, behind_in (p := p) (by assumption) (by assumption)]
    · (try intro _); refine ret_int hret (by assumption) (by assumption) ?_
      rw [← hb, behind_stop (by omega)]
  · passes_own

local macro_rules | `(tactic| walk_at "call ref") => `(tactic| (k_here; (with_reducible show wpAny _ _ (call (Value.ref 28) _ _) _ _ _); k_dflt (refine' behind_spec _ _ _ _ _ _ ?hx ?hk _ _ _ _ _ _ _ _ _ _ _ _ _ _ _ _ _ _ ?B ?F ?X ?N ?T ?kk ?pre ?hd ?hu ?_; (case B => k_asm); (case F => k_asm); (case X => k_asm); (case N => k_asm); (case T => k_asm); (case kk => first | exact rfl | assumption); (case pre => trivial); (case hx => assumption); (case hk => omega); (case hd => ktr_room); (case hu => ktr_units); intro t9 h9 tk9 F9 N9; (try dsimp only); (try k_fold))))
local macro_rules | `(tactic| walk_at "UnrEnd") => `(tactic| (k_dflt (refine UnrEnd.intro (by k_asm) (by k_asm) _ (fun p hp => hp) (fun p hp => Nat.ne_of_lt ((by assumption : ∀ p ∈ _, p.1 < _) p hp)) ?_)))
set_option pp.deepTerms false in
set_option pp.deepTerms.threshold 5 in
set_option maxRecDepth 100000 in
set_option maxHeartbeats 1000000 in
theorem numEnd_spec {w mg mb loose mean} (x : Str) (t1 : Tok) (hx : x.length < 10000) :
    PClaim w mg mb loose mean 2 16 (.ref 35) [.str x t1] (fun _ => True) (fun t => .int (numEnd x) t) := by
  intro dp un gd cn cs a ccd cl outer A₀ base h₀ L m s Q E news B F X N T hk _ hd hu hret
  refine wpAny_call ?_
  walk_at "ENTER"
  clear B F N
  k_steps
  all_goals (
    (try intro _)
    refine ret_int hret (by assumption) (by assumption) ?_
    clear hk hd hu hret
    unfold numEnd numStep
    grind)
end Mine
end
section
local macro_rules | `(tactic| walk_at "pad") => `(tactic| fail)
theorem Mine.reset_B2 : True := by w_top off; trivial
open PySem PySem.W PyProof.Rows PySem.Calls PySem.Spec
set_option Elab.async false
namespace Mine
local macro_rules | `(tactic| walk_at "ENTER") => `(tactic| k_dflt (refine' enterP ?k1 ?k2 ?k3 ?k4 ?k5 ?kA ?kF ?kK ?k6 ?k7 ?k8 ?k9 ?kB ?_ ?c2 ?c3 ?c4 ?c5; (case kA => exact rfl); (case kF => exact rfl); (case kK => first | exact rfl | assumption); (case k1 => k_asm); (case k2 => k_asm); (case k3 => k_asm); (case k4 => k_asm); (case k5 => k_asm); (case k6 => k_is); (case k7 => k_is); (case k8 => ktr_room); (case k9 => first | exact BindsTo.of_eq rfl | exact binds_K (by k_in) rfl (by k_is) rfl rfl rfl); (case c5 => decide); (case kB => exact locs rfl); (case c2 => exact rfl); (case c3 => exact rfl); (case c4 => exact rfl); k_whole; intro L' h' F' N' B' X' T'; (try dsimp only); (try k_fold)))
local macro_rules | `(tactic| walk_at "LeaveP") => `(tactic| (k_dflt (refine' LeaveP.intro ?k1 ?k2 ?_; (case k1 => k_asm); (case k2 => k_asm); k_whole); intro kF kN0 kN kA; (try simp only [List.cons_append, List.nil_append] at kN); (try simp only [List.forall_mem_cons, List.not_mem_nil, false_implies, implies_true, and_true] at kA); (try dsimp only)))
local macro_rules | `(tactic| walk_at "call ref") => `(tactic| (k_here; k_dflt (first
  | (refine' call_meth ?k1 ?k2 ?_; (case k1 => k_asm); (case k2 => k_mem); k_whole; walk_at "ENTER")
  | (refine wpAny_call ?_; walk_at "ENTER"))))
def SignPost (g : Heap) (L : Addr) (m : Str → Option Value) (i D l : Addr) (oi oD : Obj) (gs : Array Value) (n : Nat) (x sgn : Str) (e : Int) (s : Shared) (f : Flow) (s' : Shared) : Prop :=
  f = .next ∧ ∃ o v e' te' h' tk', vgSign x sgn e = (o, e') ∧ optV o v ∧ s' = { s with heap := h', toks := tk' } ∧ Fr g L h' (put m (Str.ofString "end") (.int e' te')) ∧ News g L h' [(i, oi), (D, oD), (l, W.listOf (gs.push v) (n + 1))]
theorem sign_no1 {x sgn : Str} {e : Int} (h : (Txt.slice x (some e) (some (e + 1)) == sgn) = false) : vgSign x sgn e = (none, e) := by
  unfold vgSign; rw [if_neg]; rw [h]; simp
theorem sign_no2 {x sgn : Str} {e : Int} (h : ¬ (e + 1 < (behind x SG (e + 1).toNat : Int))) : vgSign x sgn e = (none, e) := by
  unfold vgSign; rw [if_neg]; intro c; exact h c.2
theorem sign_yes {x sgn : Str} {e : Int} (h : (Txt.slice x (some e) (some (e + 1)) == sgn) = true) (h2 : e + 1 < (behind x SG (e + 1).toNat : Int)) :
    vgSign x sgn e = (some (Txt.slice x (some (e + 1)) (some (behind x SG (e + 1).toNat : Int))), (behind x SG (e + 1).toNat : Int)) := by
  unfold vgSign; rw [if_pos ⟨h, h2⟩]
theorem SignPost.no1 {g : Heap} {L : Addr} {m : Str → Option Value} {i D l : Addr} {oi oD : Obj} {gs : Array Value} {n : Nat} {x sgn : Str} {e : Int} {s : Shared} {te : Tok} {h' : Heap} {tk' : Nat}
    (h : (Txt.slice x (some e) (some (e + 1)) == sgn) = false) (F : Fr g L h' m) (N : News g L h' [(i, oi), (D, oD), (l, W.listOf (gs.push .none) (n + 1))]) (hm : m (Str.ofString "end") = some (.int e te)) :
    SignPost g L m i D l oi oD gs n x sgn e s .next { s with heap := h', toks := tk' } := ⟨rfl, none, .none, e, te, h', tk', sign_no1 h, rfl, rfl, (put_id hm) ▸ F, N⟩
theorem SignPost.no2 {g : Heap} {L : Addr} {m : Str → Option Value} {i D l : Addr} {oi oD : Obj} {gs : Array Value} {n : Nat} {x sgn : Str} {e : Int} {s : Shared} {te : Tok} {h' : Heap} {tk' : Nat}
    (h : ¬ (e + 1 < (behind x SG (e + 1).toNat : Int))) (F : Fr g L h' m) (N : News g L h' [(i, oi), (D, oD), (l, W.listOf (gs.push .none) (n + 1))]) (hm : m (Str.ofString "end") = some (.int e te)) :
    SignPost g L m i D l oi oD gs n x sgn e s .next { s with heap := h', toks := tk' } := ⟨rfl, none, .none, e, te, h', tk', sign_no2 h, rfl, rfl, (put_id hm) ▸ F, N⟩
theorem SignPost.yes {g : Heap} {L : Addr} {m : Str → Option Value} {i D l : Addr} {oi oD : Obj} {gs : Array Value} {n : Nat} {x sgn : Str} {e : Int} {s : Shared} {te t : Tok} {h' : Heap} {tk' : Nat}
    (h : (Txt.slice x (some e) (some (e + 1)) == sgn) = true) (h2 : e + 1 < (behind x SG (e + 1).toNat : Int)) (F : Fr g L h' (put m (Str.ofString "end") (.int (behind x SG (e + 1).toNat : Int) te)))
    (N : News g L h' [(i, oi), (D, oD), (l, W.listOf (gs.push (.str (Txt.slice x (some (e + 1)) (some (behind x SG (e + 1).toNat : Int))) t)) (n + 1))]) :
    SignPost g L m i D l oi oD gs n x sgn e s .next { s with heap := h', toks := tk' } := ⟨rfl, _, _, _, te, h', tk', sign_yes h h2, ⟨t, rfl⟩, rfl, F, N⟩
theorem sign_cut {M : Model} {A : Around} {E : Value → Shared → Prop} {Q : Flow → Shared → Prop} {s : Shared} {st : Stmt} {env : Env} {g : Heap} {L : Addr} {m : Str → Option Value} {i D l : Addr} {oi oD : Obj} {gs : Array Value} {n : Nat} {x sgn : Str} {e : Int} {tx ts te : Tok}
    (F : Fr g L s.heap m) (N : News g L s.heap [(i, oi), (D, oD), (l, W.listOf gs n)]) (h0 : m (Str.ofString "text") = some (.str x tx)) (hs : m (Str.ofString "sign") = some (.str sgn ts)) (he : m (Str.ofString "end") = some (.int e te)) (hp : 0 ≤ e)
    (h1 : wpAny M A (exec st env) (fun f s' => SignPost g L m i D l oi oD gs n x sgn e s f s') E s)
    (h2 : ∀ o v e' te' h' tk', vgSign x sgn e = (o, e') → 0 ≤ e' → optV o v → Fr g L h' (put m (Str.ofString "end") (.int e' te')) → News g L h' [(i, oi), (D, oD), (l, W.listOf (gs.push v) (n + 1))] → Q .next { s with heap := h', toks := tk' }) :
    wpAny M A (exec st env) Q E s := by
  refine wpAny_mono h1 (fun f s' hp => ?_) fun _ _ y => y
  obtain ⟨rfl, o, v, e', te', h', tk', a1, a2, rfl, a3, a4⟩ := hp
  refine h2 o v e' te' h' tk' a1 ?_ a2 a3 a4
  unfold vgSign at a1
  split at a1 <;> cases a1 <;> omega
local macro_rules | `(tactic| walk_at "exec If BoolOp") => `(tactic| (goal_lacks SignPost; (with_reducible show wpAny _ _ (exec (Stmt.If (Expr.BoolOp BoolOp.And [_, Expr.BoolOp _ _ _] _) _ _ _) _) _ _ _); k_dflt (refine' sign_cut ?F ?N ?a ?b ?c ?p ?_ ?_; (case F => k_asm); (case N => k_asm); (case a => exact rfl); (case b => exact rfl); (case c => exact rfl); (case p => omega); rotate_left; intro o9 v9 e9 te9 h9 tk9 hv9 hp9 ho9 F9 N9)))
local macro_rules | `(tactic| walk_at "SignPost") => `(tactic| k_dflt (first
  | (with_reducible refine' SignPost.yes ?a ?b ?F ?N; (case a => with_reducible assumption); (case b => with_reducible assumption); (case F => with_reducible assumption); (case N => with_reducible assumption))
  | (with_reducible refine' SignPost.no1 ?a ?F ?N ?m; (case a => with_reducible assumption); (case F => with_reducible assumption); (case N => with_reducible assumption); (case m => k_dflt (exact rfl)))
  | (with_reducible refine' SignPost.no2 ?a ?F ?N ?m; (case a => with_reducible assumption); (case F => with_reducible assumption); (case N => with_reducible assumption); (case m => k_dflt (exact rfl)))))
local macro_rules | `(tactic| walk_at "exec While BoolOp") => `(tactic| (k_here; k_dflt (refine whl_start 100 ?_)))
local macro_rules | `(tactic| walk_at "call builtin:list.append") => `(tactic| (k_here; (with_reducible show wpAny _ _ (call (Value.builtin _) [Value.ref _, _]) _ _ _); k_dflt (refine' append_K ?k1 ?k2 ?k3 ?_ ?z; (case k1 => k_asm); (case k2 => k_asm); (case k3 => k_upd); (case z => exact Nat.le_of_ble_eq_true rfl); k_whole); intro h' F' N'; (try k_sweep)))
local macro_rules | `(tactic| walk_at "STEP") => `(tactic| first | (k_unfold; (try dsimp only)) | (k_end; kc_close) | walk1 | (dsimp only; walk1) | (leave1; walk_say "STEP leave1"; (try dsimp only)) | fail "no step")
theorem fill2 : (PySem.Challenge.rw_ci0037_01, Mine.hd.heap_39) = (PySem.Challenge.rw_ci0037_01, Mine.hd.heap_39) := by k_fill; rfl
local macro_rules | `(tactic| walk_at "call ref") => `(tactic| (k_here; (with_reducible show wpAny _ _ (call (Value.ref 28) _ _) _ _ _); k_dflt (refine' behind_spec _ _ _ _ _ _ ?hx ?hk _ _ _ _ _ _ _ _ _ _ _ _ _ _ _ _ _ _ ?B ?F ?X ?N ?T ?kk ?pre ?hd ?hu ?_; (case B => k_asm); (case F => k_asm); (case X => k_asm); (case N => k_asm); (case T => k_asm); (case kk => first | exact rfl | assumption); (case pre => trivial); (case hx => assumption); (case hk => omega); (case hd => ktr_room); (case hu => ktr_units); intro t9 h9 tk9 F9 N9; (try dsimp only); (try k_fold))))
local macro_rules | `(tactic| walk_at "UnrEnd") => `(tactic| (k_dflt (refine UnrEnd.intro (by k_asm) (by k_asm) _ (fun p hp => hp) (fun p hp => Nat.ne_of_lt ((by assumption : ∀ p ∈ _, p.1 < _) p hp)) ?_)))
set_option pp.deepTerms false in
set_option pp.deepTerms.threshold 5 in
set_option maxRecDepth 100000 in
set_option maxHeartbeats 16000000 in
theorem vg_spec {w mg mb loose mean} (x : Str) (t1 : Tok) (hx : x.length < 10000) (hn : (Txt.slice x (some (-1)) none == Str.ofString "\n") = false)
    (dp un : Nat) (gd : Option (List Code)) (cn : Str) (cs : Scope) (a : Addr) (ccd : Value) (cl : List (Str × Addr)) (outer : List Env) (A₀ : Around) (base h₀ : Heap) (L : Addr) (m : Str → Option Value) (s : Shared) (Q E : Value → Shared → Prop) (news : List (Addr × Obj))
    (B : Below A₀ base outer h₀) (F : Fr h₀ L s.heap m) (X : (Mine.hd.heap_39 w.params).In h₀) (N : News h₀ L s.heap news) (T : Top topProg loose mean mg mb h₀) (hk : cs.kind = .function) (hd : dp + 2 < recursionLimit) (hu : un + 16 < cLine)
    (hret0 : VG x = none → ∀ (h' : Heap) (tk' : Nat), Fr h₀ L h' m → News h₀ L h' news → Q .none { s with heap := h', toks := tk' })
    (hret1 : ∀ a b c p q, VG x = some (a, b, c, p, q) → ∀ (l : Addr) (ta tb tc : Tok) (vp vq : Value) (n : Nat) (h' : Heap) (tk' : Nat), optV p vp → optV q vq → Fr h₀ L h' m →
      News h₀ L h' ((l, listOf #[.str a ta, .str b tb, .str c tc, vp, vq] n) :: news) → (∀ p ∈ news, p.1 ≠ l) → Q (.ref l) { s with heap := h', toks := tk' }) :
    wpAny (model PR w) (ktrTop dp un gd cn cs L a ccd cl outer) (call (.ref 42) [.str x t1, .bool false]) Q E s := by
  have NO : ∀ q ∈ news, s.heap.get? q.1 = some q.2 := fun q hq => (N q hq).1
  refine wpAny_call ?_
  walk_at "ENTER"
  clear B F N
  k_steps
  all_goals clear X T hk hd hu
  all_goals first
    | (refine hret0 ?_ _ _ (by assumption) (by assumption)
       clear hret1 hret0
       with_reducible first
       | exact vg_n1 (by assumption)
       | exact vg_n2 (by assumption) (by assumption)
       | exact vg_n3 (by assumption) (by assumption) (by assumption)
       | (refine (vg_go (by assumption) (by assumption) (by assumption)).trans ?_; first
          | exact vg1_n1 (by assumption)
          | exact vg1_n2 (by assumption) (by assumption)
          | exact vg1_n3 (by assumption) (by assumption) (by assumption) (by assumption) (by assumption)))
    | (clear hret0
       refine' hret1 _ _ _ _ _ ((vg_go (by with_reducible assumption) (by with_reducible assumption) (by with_reducible assumption)).trans (vg1_s (by with_reducible assumption) (by with_reducible assumption) (by with_reducible assumption) (by with_reducible assumption) (by with_reducible assumption))) _ _ _ _ _ _ _ _ _ (by with_reducible assumption) (by with_reducible assumption) (by assumption) ?N ?ap
       (case N => exact fun p hp => (by assumption : News h₀ L _ (_ :: _ :: news)) p (.tail _ hp))
       (case ap => exact fun p hp => Ne.symm ((by assumption : (∀ q ∈ news, _ ≠ q.1) ∧ ∀ q ∈ news, _ ≠ q.1).2 p hp)))
end Mine
end
section
local macro_rules | `(tactic| walk_at "pad") => `(tactic| fail)
local macro_rules | `(tactic| walk_at "pad") => `(tactic| fail)
local macro_rules | `(tactic| walk_at "pad") => `(tactic| fail)
theorem Mine.reset_B3 : True := by w_top off; trivial
open PySem PySem.W PyProof.Rows PySem.Calls PySem.Spec
set_option Elab.async false
namespace Mine
local macro_rules | `(tactic| walk_at "ENTER") => `(tactic| k_dflt (refine' enterP ?k1 ?k2 ?k3 ?k4 ?k5 ?kA ?kF ?kK ?k6 ?k7 ?k8 ?k9 ?kB ?_ ?c2 ?c3 ?c4 ?c5; (case kA => exact rfl); (case kF => exact rfl); (case kK => first | exact rfl | assumption); (case k1 => k_asm); (case k2 => k_asm); (case k3 => k_asm); (case k4 => k_asm); (case k5 => k_asm); (case k6 => k_is); (case k7 => k_is); (case k8 => ktr_room); (case k9 => first | exact BindsTo.of_eq rfl | exact binds_K (by k_in) rfl (by k_is) rfl rfl rfl); (case c5 => decide); (case kB => exact locs rfl); (case c2 => exact rfl); (case c3 => exact rfl); (case c4 => exact rfl); k_whole; intro L' h' F' N' B' X' T'; (try dsimp only); (try k_fold)))
local macro_rules | `(tactic| walk_at "LeaveP") => `(tactic| (k_dflt (refine' LeaveP.intro ?k1 ?k2 ?_; (case k1 => k_asm); (case k2 => k_asm); k_whole); intro kF kN0 kN kA; (try simp only [List.cons_append, List.nil_append] at kN); (try simp only [List.forall_mem_cons, List.not_mem_nil, false_implies, implies_true, and_true] at kA); (try dsimp only)))
local macro_rules | `(tactic| walk_at "call ref") => `(tactic| (k_here; k_dflt (first
  | (refine' call_meth ?k1 ?k2 ?_; (case k1 => k_asm); (case k2 => k_mem); k_whole; walk_at "ENTER")
  | (refine wpAny_call ?_; walk_at "ENTER"))))
theorem fill3 : (PySem.Challenge.rw_ci0037_01, Mine.hd.heap_39) = (PySem.Challenge.rw_ci0037_01, Mine.hd.heap_39) := by k_fill; rfl
set_option pp.deepTerms false in
set_option pp.deepTerms.threshold 5 in
set_option maxRecDepth 100000 in
set_option maxHeartbeats 2000000 in
theorem lz_spec {w mg mb loose mean} (x : Str) (t1 : Tok) (hx : 0 < x.length) (hx2 : x.length < 10000) :
    PClaim w mg mb loose mean 2 16 (.ref 49) [.str x t1] (fun _ => True) (fun _ => .bool (lz x)) := by
  intro dp un gd cn cs a ccd cl outer A₀ base h₀ L m s Q E news B F X N T hk _ hd hu hret
  refine wpAny_call ?_
  walk_at "ENTER"
  clear B F N
  k_steps
  · refine ret_bool hret (by assumption) (by assumption) ?_
    unfold lz; simp only [*, bne, Bool.not_not, Bool.false_and, Bool.true_and, Bool.and_false, Bool.and_true]
  · refine ret_bool hret (by assumption) (by assumption) ?_
    unfold lz; simp only [*, bne, Bool.not_not, Bool.false_and, Bool.true_and, Bool.and_false, Bool.and_true]
  · refine ret_bool hret (by assumption) (by assumption) ?_
    unfold lz; simp only [*, bne, Bool.not_not, Bool.false_and, Bool.true_and, Bool.and_false, Bool.and_true]
  · exfalso; omega
end Mine
end
section
open PySem PySem.W PyProof.Rows PySem.Calls PySem.Spec
set_option Elab.async false
set_option maxRecDepth 100000
namespace Mine
section
variable {prog : Program} {w : World} {A₀ A : Around} {s : Shared} {K : Frag} {L : Addr} {h₀ base : Heap} {m mg mb : Str → Option Value} {news sel : List (Addr × Obj)} {p : Program} {loose : List Str} {mean : ExcName → Option Value}

/-- the heap without the chosen objects: the callee's base -/
abbrev without (h : Heap) (sel : List (Addr × Obj)) : Heap := hideAll h (sel.map (·.1))
theorem without_get {h : Heap} {b : Addr} {o : Obj} (e : h.get? b = some o) (hb : ∀ p ∈ sel, p.1 ≠ b) : (without h sel).get? b = some o :=
  hideAll_get _ e fun q => by
    obtain ⟨r, hr, e2⟩ := List.mem_map.mp q
    exact hb r hr e2
theorem without_none {h : Heap} {q : Addr × Obj} (hq : q ∈ sel) : (without h sel).get? q.1 = none := hideAll_none _ (List.mem_map_of_mem hq)
theorem without_old {h : Heap} (NS : News h₀ L h sel) {b : Addr} {o : Obj} (k : ∀ b o, h₀.get? b = some o → h.get? b = some o) (e : h₀.get? b = some o) : (without h sel).get? b = some o :=
  without_get (k _ _ e) fun q hq e2 => by
    have := (NS q hq).2.2
    rw [e2, e] at this; exact nomatch this
theorem without_fr (F : Fr h₀ L s.heap m) (NS : News h₀ L s.heap sel) : Fr h₀ L (without s.heap sel) m := by
  obtain ⟨oL, es, ep, hL, r⟩ := F.ns
  exact ⟨⟨oL, es, ep, without_get hL fun q hq => (NS q hq).2.1, r⟩, fun b o e => without_old NS F.keep e, F.above⟩
theorem below_g {env : Env} {outer : List Env} {g : Heap} (B : Below A₀ base outer h₀) (F : Fr h₀ L s.heap m) (FG : Fr h₀ L g m) (hA : A.frames = some (env :: outer)) (hf : env.frame = some L) (hke : env.scope.kind = .function) : Below A base (env :: outer) g := by
  have B₁ := pushX B FG hf hke
  exact ⟨hA, fun b o e => FG.keep b o (B.stays b o e), B₁.frames⟩

/-- a def is entered with some objects in the callee's ledger -/
theorem enterS {R : Result → Shared → Prop} {name qual : Str} {params : Arguments} {body : List Stmt} {scope : Scope} {dV kV doc pm cdv ct oc : Value} {an od : Option Addr} {osl : Array (Option Value)} {f : Addr} {args : Args} {binds : List (Str × Value)}
    (F : Fr h₀ L s.heap m) (X₀ : K.In h₀) (NS : News h₀ L s.heap sel) (N : News h₀ L s.heap news) (hap : ∀ q ∈ sel, ∀ r ∈ news, q.1 ≠ r.1) (T : Top p loose mean mg mb h₀)
    (ho : K.lookup f = some ⟨oc, od, .func (fnOf name qual params body scope dV kV doc pm an cdv ct), osl⟩) (hcd : codeIn K cdv qual = true) (hroom : A.depth < recursionLimit)
    (hbind : BindsTo s (fnOf name qual params body scope dV kV doc pm an cdv ct) args binds) (hloc : ∀ y ∈ binds, scope.names.lookup y.1 = some .local)
    (h : ∀ g L' h₁, Fr h₀ L g m → Fr g L' h₁ (fun y => binds.reverse.lookup y) → News g L' h₁ sel → K.In g → Top p loose mean mg mb g →
      wpAny (model prog w) (A.deeper (envOf qual scope L' f cdv)) (execs body (envOf qual scope L' f cdv))
        (fun fl s' => LeaveP h₀ L m news g R (match fl with | .ret v => v | _ => .none) s')
        (fun e s' => wpAny (model prog w) (A.deeper (envOf qual scope L' f cdv)) («leaving» (envOf qual scope L' f cdv) e) (fun _ s'' => R (.error e) s'') (fun e' s'' => R (.error e') s'') s')
        { s with heap := h₁, toks := s.toks + binds.length })
    (hco : scope.isCoroutine = false) (hgen : scope.isGenerator = false) (hk : scope.kind = .function)
    (hcell : ∀ x ∈ scope.names, x.2 ≠ .cell) : codeAny (model prog w) A (.call (.ref f) args) R s := by
  have X := X₀.keeps F.keep
  have old : ∀ b o, h₀.get? b = some o → (without s.heap sel).get? b = some o := fun b o e => without_old NS F.keep e
  have FG := without_fr F NS
  refine codeAny_call_def (fd := fnOf name qual params body scope dV kV doc pm an cdv ct) (body := body) (binds := binds) hroom (X _ _ ho) rfl (T.nolimit.keeps F.keep) (codeRec_of X hcd) rfl hbind hcell hloc (fun h₁ hns hk₁ => ?_) hco hgen hk
  have FL : Fr (without s.heap sel) s.heap.objs.size h₁ (fun y => binds.reverse.lookup y) := ⟨hns, fun b o e => hk₁ b o (of_hideAll _ e), Nat.le_of_eq (hideAll_size _ _)⟩
  have NL : News (without s.heap sel) s.heap.objs.size h₁ sel := fun q hq => ⟨hk₁ _ _ (NS q hq).1, Nat.ne_of_lt (Heap.lt_size (NS q hq).1), without_none hq⟩
  refine wpAny_mono (h _ s.heap.objs.size h₁ FG FL NL (X₀.keeps old) (T.keeps old)) (fun fl s' hl => ?_) fun _ _ y => y
  obtain ⟨L', m', news', F', N', k⟩ := hl
  have kept : ∀ q ∈ news, s'.heap.get? q.1 = some q.2 := fun q hq => F'.keep _ _ (without_get (N q hq).1 fun r hr => hap r hr q hq)
  have F2 : Fr h₀ L s'.heap m := by
    obtain ⟨oL, es, ep, hL, r⟩ := FG.ns
    exact ⟨⟨oL, es, ep, F'.keep _ _ hL, r⟩, fun b o e => F'.keep b o (old b o e), F.above⟩
  have N2 : News h₀ L s'.heap news := fun q hq => ⟨kept q hq, (N q hq).2⟩
  have N3 : News h₀ L s'.heap news' := fun q hq => by
    refine ⟨(N' q hq).1, fun e => ?_, ?_⟩
    · obtain ⟨oL, es, ep, hL, r⟩ := FG.ns
      have := (N' q hq).2.2
      rw [e, hL] at this; cases this
    · cases e : h₀.get? q.1 with
      | none => rfl
      | some o =>
        have := (N' q hq).2.2
        rw [old _ _ e] at this; cases this
  refine k F2 N2 (news_app N3 N2) fun q hq r hr e => ?_
  have h1 := (N' q hq).2.2
  have h2 := without_get (sel := sel) (N r hr).1 fun r' hr' => hap r' hr' r hr
  rw [e, h2] at h1; cases h1

/-- the callee reads some objects that stand, and hands them back as they were -/
def LeaveR (h₀ : Heap) (L : Addr) (m : Str → Option Value) (news sel : List (Addr × Obj)) (g : Heap) (R : Result → Shared → Prop) (v : Value) (s' : Shared) : Prop :=
  ∃ L' m' news', Fr g L' s'.heap m' ∧ News g L' s'.heap news' ∧ (∀ q ∈ sel, q ∈ news') ∧ (Fr h₀ L s'.heap m → News h₀ L s'.heap news → News h₀ L s'.heap (news' ++ news) → R (.ok (.ret v)) s')
theorem LeaveR.intro {g : Heap} {L' : Addr} {m' : Str → Option Value} {news' : List (Addr × Obj)} {R : Result → Shared → Prop} {v : Value} {s' : Shared} (F' : Fr g L' s'.heap m') (N' : News g L' s'.heap news') (hs : ∀ q ∈ sel, q ∈ news')
    (k : Fr h₀ L s'.heap m → News h₀ L s'.heap news → News h₀ L s'.heap (news' ++ news) → R (.ok (.ret v)) s') : LeaveR h₀ L m news sel g R v s' := ⟨L', m', news', F', N', hs, k⟩
theorem enterR {R : Result → Shared → Prop} {name qual : Str} {params : Arguments} {body : List Stmt} {scope : Scope} {dV kV doc pm cdv ct oc : Value} {an od : Option Addr} {osl : Array (Option Value)} {f : Addr} {args : Args} {binds : List (Str × Value)}
    (F : Fr h₀ L s.heap m) (X₀ : K.In h₀) (N : News h₀ L s.heap news) (hsel : ∀ q ∈ sel, q ∈ news) (T : Top p loose mean mg mb h₀)
    (ho : K.lookup f = some ⟨oc, od, .func (fnOf name qual params body scope dV kV doc pm an cdv ct), osl⟩) (hcd : codeIn K cdv qual = true) (hroom : A.depth < recursionLimit)
    (hbind : BindsTo s (fnOf name qual params body scope dV kV doc pm an cdv ct) args binds) (hloc : ∀ y ∈ binds, scope.names.lookup y.1 = some .local)
    (h : ∀ g L' h₁, Fr h₀ L g m → Fr g L' h₁ (fun y => binds.reverse.lookup y) → News g L' h₁ sel → K.In g → Top p loose mean mg mb g →
      wpAny (model prog w) (A.deeper (envOf qual scope L' f cdv)) (execs body (envOf qual scope L' f cdv))
        (fun fl s' => LeaveR h₀ L m news sel g R (match fl with | .ret v => v | _ => .none) s')
        (fun e s' => wpAny (model prog w) (A.deeper (envOf qual scope L' f cdv)) («leaving» (envOf qual scope L' f cdv) e) (fun _ s'' => R (.error e) s'') (fun e' s'' => R (.error e') s'') s')
        { s with heap := h₁, toks := s.toks + binds.length })
    (hco : scope.isCoroutine = false) (hgen : scope.isGenerator = false) (hk : scope.kind = .function)
    (hcell : ∀ x ∈ scope.names, x.2 ≠ .cell) : codeAny (model prog w) A (.call (.ref f) args) R s := by
  have NS : News h₀ L s.heap sel := fun q hq => N q (hsel q hq)
  refine enterS (news := news.filter fun q => decide (q.1 ∉ sel.map (·.1))) F X₀ NS (fun q hq => N q (List.mem_filter.mp hq).1) (fun q hq r hr e => ?_) T ho hcd hroom hbind hloc (fun g L' h₁ FG F' N' X' T' => ?_) hco hgen hk hcell
  · have := (List.mem_filter.mp hr).2
    exact (of_decide_eq_true this) (e ▸ List.mem_map_of_mem hq)
  · refine wpAny_mono (h g L' h₁ FG F' N' X' T') (fun fl s' hl => ?_) fun _ _ y => y
    obtain ⟨L2, m2, news2, F2, N2, hs2, k⟩ := hl
    refine LeaveP.intro F2 N2 fun kF kN0 kN _ => ?_
    have full : News h₀ L s'.heap news := fun q hq => by
      by_cases hm : q.1 ∈ sel.map (·.1)
      · obtain ⟨r, hr, e⟩ := List.mem_map.mp hm
        have h1 := (N r (hsel r hr)).1
        have h2 := (N q hq).1
        rw [e, h2] at h1
        have : r = q := Prod.ext e (Option.some.inj h1).symm
        exact ⟨(N2 q (this ▸ hs2 r hr)).1, (N q hq).2⟩
      · exact kN0 q (List.mem_filter.mpr ⟨hq, by simpa using hm⟩)
    exact k kF full (fun q hq => (List.mem_append.mp hq).elim (fun z => kN q (List.mem_append_left _ z)) (full q))
end
end Mine
end
section
open PySem PySem.W PyProof.Rows PySem.Calls PySem.Spec
open PySem.Sem (wp)
set_option Elab.async false
set_option maxRecDepth 100000
namespace Mine

/-- what a yielded value brings along: its objects -/
inductive EOs (EO : Nat → Value → List (Addr × Obj) → Prop) : Nat → List Value → List (Addr × Obj) → Prop
  | nil : EOs EO 0 [] []
  | snoc {n vs objs y o} : EOs EO n vs objs → EO n y o → EOs EO (n + 1) (vs ++ [y]) (o ++ objs)

def Fresh (wr : List Addr) (h₀ h : Heap) (objs : List (Addr × Obj)) : Prop := ∀ p ∈ objs, h.get? p.1 = some p.2 ∧ p.1 ∉ wr ∧ h₀.get? p.1 = none

theorem Fresh.nil {wr : List Addr} {h₀ h : Heap} : Fresh wr h₀ h [] := fun _ hp => nomatch hp
theorem Fresh.app {wr : List Addr} {h₀ h : Heap} {a b : List (Addr × Obj)} (x : Fresh wr h₀ h a) (y : Fresh wr h₀ h b) : Fresh wr h₀ h (a ++ b) := fun p hp => (List.mem_append.mp hp).elim (x p) (y p)

structure WalksV (prog : Program) (w : World) (A : Around) (I : Addr) (fp wr : List Addr) (G : Array GenState → Array GenState → Prop) (n : Nat) (EO : Nat → Value → List (Addr × Obj) → Prop) (St : Nat → Shared → Prop) : Prop where
  sub : ∀ b ∈ wr, b ∈ fp
  grefl : ∀ a, G a a
  gtrans : ∀ a b c, G a b → G b c → G a c
  frame : ∀ i (s : Shared) h' tk, St i s → s.toks ≤ tk → (∀ b ∈ fp, ∀ o, s.heap.get? b = some o → h'.get? b = some o) → St i { s with heap := h', toks := tk }
  item : ∀ i (s : Shared) (Q : Option Value → Shared → Prop) (E : Value → Shared → Prop), i < n → St i s →
    (∀ v s' objs, EO i v objs → Fresh wr s.heap s'.heap objs → St (i + 1) s' → Moved wr G s s' → Q (some v) s') → wpAny (model prog w) A (pyNext (.ref I)) Q E s
  done : ∀ (s : Shared) (Q : Option Value → Shared → Prop) (E : Value → Shared → Prop), St n s → (∀ s', Moved wr G s s' → Q none s') → wpAny (model prog w) A (pyNext (.ref I)) Q E s
  self : ∀ i (s : Shared) (Q : Value → Shared → Prop) (E : Value → Shared → Prop), St i s → Q (.ref I) s → wpAny (model prog w) A (pyIter (.ref I)) Q E s

section
variable {prog : Program} {w : World} {A : Around} {I : Addr} {fp wr : List Addr} {G : Array GenState → Array GenState → Prop} {n : Nat} {EO : Nat → Value → List (Addr × Obj) → Prop} {St : Nat → Shared → Prop}

theorem WalksV.out (W : WalksV prog w A.in1 I fp wr G n EO St) : WalksV prog w A I fp wr G n EO St where
  sub := W.sub
  grefl := W.grefl
  gtrans := W.gtrans
  frame := W.frame
  item := fun i s Q E hi st hQ => wpAny_of_in1 (W.item i s Q E hi st hQ)
  done := fun s Q E st hQ => wpAny_of_in1 (W.done s Q E st hQ)
  self := fun i s Q E st hQ => wpAny_of_in1 (W.self i s Q E st hQ)

theorem Fresh.moved {s s' : Shared} {h₀ : Heap} {objs : List (Addr × Obj)} (x : Fresh wr h₀ s.heap objs) (hm : Moved wr G s s') : Fresh wr h₀ s'.heap objs :=
  fun p hp => ⟨hm.heap _ _ (x p hp).2.1 (x p hp).1, (x p hp).2⟩

theorem extend_loopV {R : Result → Shared → Prop} (W : WalksV prog w A.in1 I fp wr G n EO St) (hn : n ≤ sizeLine) (S : Addr) (hSf : S ∉ fp) (res : Value) (s₀ : Shared) :
    ∀ (k i : Nat) (s : Shared) (acc : Array Value) (objs : List (Addr × Obj)) (c : Nat), n - i = k → i ≤ n → St i s → s.heap.get? S = some { cls := .type "list", dict := none, data := .seq acc c, slots := #[] } →
    EOs EO i acc.toList objs → Fresh (S :: wr) s₀.heap s.heap objs → Moved (S :: wr) G s₀ s →
    (∀ s' acc' c' objs', Moved (S :: wr) G s₀ s' → s'.heap.get? S = some { cls := .type "list", dict := none, data := .seq acc' c', slots := #[] } → EOs EO n acc'.toList objs' → Fresh (S :: wr) s₀.heap s'.heap objs' → R (.ok (.ret res)) s') →
    codeAny (model prog w) A (.builtin "list.extend.loop" ⟨[.ref S, .ref I, res], []⟩) R s := by
  have hSw : S ∉ wr := fun h => hSf (W.sub _ h)
  have hsub : ∀ b ∈ wr, b ∈ S :: wr := fun b hb => List.mem_cons_of_mem _ hb
  intro k
  induction k with
  | zero =>
    intro i s acc objs c hk hi hst hS hacc hfr hmv hR
    have hin : i = n := by omega
    subst hin
    refine codeAny_builtin F.entry_extend_loop ?_
    rw [Around.under_plainId F.plain_extend_loop _]
    show wpAny _ A.in1 (pyNext (.ref I) >>= _) _ _ s
    refine wpAny_bind (W.done s _ _ hst fun s' hm => ?_)
    exact wpAny_pure (hR s' acc c objs (hmv.trans W.gtrans (hm.mono hsub)) (hm.heap S _ hSw hS) hacc (hfr.moved (hm.mono hsub)))
  | succ k ih =>
    intro i s acc objs c hk hi hst hS hacc hfr hmv hR
    have hlt : i < n := by omega
    have hsz : acc.size = i := by
      have : ∀ {n vs objs}, EOs EO n vs objs → vs.length = n := fun x => by
        induction x with
        | nil => rfl
        | snoc _ _ ih => simp [ih]
      simpa using this hacc
    refine codeAny_builtin F.entry_extend_loop ?_
    rw [Around.under_plainId F.plain_extend_loop _]
    show wpAny _ A.in1 (pyNext (.ref I) >>= _) _ _ s
    refine wpAny_bind (W.item i s _ _ hlt hst fun v s' o hE hfo hst' hm => ?_)
    have hS' := hm.heap S _ hSw hS
    have hfo' : Fresh (S :: wr) s₀.heap s'.heap o := fun p hp => by
      have h1 := hfo p hp
      have hne : p.1 ∉ S :: wr := fun q => by
        rcases List.mem_cons.mp q with q | q
        · rw [q, hS] at h1; exact nomatch h1.2.2
        · exact h1.2.1 q
      refine ⟨h1.1, hne, ?_⟩
      cases e : s₀.heap.get? p.1 with
      | none => rfl
      | some o' => have := hmv.heap _ _ hne e; rw [h1.2.2] at this; exact nomatch this
    show wpAny _ A.in1 (updateSeq S (·.push v) >>= _) _ _ _
    refine wpAny_bind ?_
    have upd : ∀ b o', b ∉ S :: wr → s'.heap.get? b = some o' → (s'.heap.update S (Obj.mapSeq (·.push v))).get? b = some o' :=
      fun b o' hb e => (Heap.get?_update_other _ _ (fun h : S = b => hb (by rw [h]; exact List.mem_cons_self))).trans e
    refine wpAny_updateSeq hS' rfl (wpAny_pure ⟨plainId_quiet F.plain_extend_loop _, ih (i + 1) _ (acc.push v) (o ++ objs) _ (by omega) hlt (W.frame _ s' _ s'.toks hst' (Nat.le_refl _) fun b hb o e => ?_) (Heap.get?_update_self _ hS' rfl)
      (by rw [Array.toList_push]; exact .snoc hacc hE) ?_ ?_ hR⟩)
      (by rw [hsz]; omega) (by show (acc.push v).size ≤ sizeLine + 1; rw [Array.size_push, hsz]; omega)
    · exact (Heap.get?_update_other _ _ (fun h : S = b => hSf (by rw [h]; exact hb))).trans e
    · intro p hp
      have := (hfo'.app (hfr.moved (hm.mono hsub))) p hp
      exact ⟨upd _ _ this.2.1 this.1, this.2⟩
    · exact (hmv.trans W.gtrans (hm.mono hsub)).then_heap (tk := s'.toks) (Nat.le_refl _) upd

theorem collectV {E : Value → Shared → Prop} {s : Shared} {Q : List Value → Shared → Prop} (W : WalksV prog w A.in1 I fp wr G n EO St) (hT : ∀ i s, St i s → s.TypeIs (.ref I) "generator") (hst : St 0 s) (hfp : ∀ b ∈ fp, b < s.heap.objs.size) (hI : I ∈ fp)
    (hQ : ∀ s' vs objs, Moved wr G s s' → EOs EO n vs objs → Fresh wr s.heap s'.heap objs → Q vs s') (hn : n ≤ sizeLine := by size_fits) : wpAny (model prog w) A (collect (.ref I)) Q E s := by
  have hSf : s.heap.objs.size ∉ fp := fun hm => Nat.lt_irrefl _ (hfp _ hm)
  have hSI : s.heap.objs.size ≠ I := fun e => hSf (e ▸ hI)
  unfold collect
  refine wpAny_bind (wpAny_runValue (codeAny_builtin F.entry_proto_collect ?_))
  rw [Around.under_plainId F.plain_proto_collect _]
  show wpAny _ A.in1 (newList [] >>= fun l => again (.builtin "list.__iadd__" ⟨[l, .ref I], []⟩)) _ _ s
  refine wpAny_bind (wpAny_newObj_type ?_)
  refine wpAny_pure ⟨plainId_quiet F.plain_list_iadd _, codeAny_builtin F.entry_list_iadd ?_⟩
  rw [Around.under_plainId F.plain_list_iadd _]
  have hst₁ := W.frame 0 s (s.heap.push { cls := .type "list", data := .seq ([] : List Value).toArray }) s.toks hst (Nat.le_refl _) fun b _ o e => Heap.get?_push_of_some _ e
  show wpAny _ A.in1 (Builtin.List.listExtendWith (.ref s.heap.objs.size) (.ref I) (.ref s.heap.objs.size)) _ _ _
  unfold Builtin.List.listExtendWith
  refine wpAny_bind (wpAny_typeOf (hT 0 _ hst₁) ?_)
  have h1 : Builtin.List.listSameRef (.ref s.heap.objs.size) (.ref I) = false := by simp [Builtin.List.listSameRef, hSI]
  have h2 : (Value.type "generator" == Value.type "list") = false := by decide
  have h3 : (Value.type "generator" == Value.type "tuple") = false := by decide
  simp only [h1, h2, h3, Bool.or_false, Bool.false_eq_true, if_false]
  refine wpAny_bind (W.self 0 _ _ _ hst₁ ?_)
  refine wpAny_bind (wpAny_holding ?_)
  unfold Builtin.List.listLengthHint
  refine wpAny_bind (wpAny_specialOf (hT 0 _ hst₁) F.gen_no_len ?_)
  show wpAny _ A.in1 (specialOf (Value.ref I) (Str.ofString "__length_hint__") >>= _) _ _ _
  refine wpAny_bind (wpAny_specialOf (hT 0 _ hst₁) F.gen_no_hint ?_)
  refine wpAny_pure ?_
  show wpAny _ A.in1 (rule "list.extend.makes-room" >>= fun _ => Builtin.List.listTouch (.ref s.heap.objs.size) >>= fun _ =>
    again (.builtin "list.extend.loop" ⟨[.ref s.heap.objs.size, .ref I, .ref s.heap.objs.size], []⟩)) _ _ _
  refine wpAny_bind (wpAny_rule ?_)
  have hS₁ : (s.heap.push { cls := .type "list", data := .seq ([] : List Value).toArray }).get? s.heap.objs.size = some { cls := .type "list", data := .seq ([] : List Value).toArray } := Heap.get?_push_size _ rfl
  refine wpAny_bind ?_
  show wpAny _ A.in1 (updateSeq s.heap.objs.size (·.push .none) >>= fun _ => updateSeq s.heap.objs.size (·.pop)) _ _ _
  refine wpAny_bind (wpAny_updateSeq hS₁ rfl ?_)
  have hS₂ := Heap.get?_update_self (Obj.mapSeq (·.push Value.none)) hS₁ rfl
  refine wpAny_updateSeq hS₂ rfl ?_
  have hS₃ := Heap.get?_update_self (Obj.mapSeq (·.pop)) hS₂ rfl
  have oth : ∀ b o, b ≠ s.heap.objs.size → (s.heap.push { cls := .type "list", data := .seq ([] : List Value).toArray }).get? b = some o →
      (((s.heap.push { cls := .type "list", data := .seq ([] : List Value).toArray }).update s.heap.objs.size (Obj.mapSeq (·.push Value.none))).update s.heap.objs.size (Obj.mapSeq (·.pop))).get? b = some o :=
    fun b o hb e => (Heap.get?_update_other _ _ (Ne.symm hb)).trans ((Heap.get?_update_other _ _ (Ne.symm hb)).trans e)
  have from0 : ∀ b o, s.heap.get? b = some o → (((s.heap.push { cls := .type "list", data := .seq ([] : List Value).toArray }).update s.heap.objs.size (Obj.mapSeq (·.push Value.none))).update s.heap.objs.size (Obj.mapSeq (·.pop))).get? b = some o :=
    fun b o e => oth b o (Nat.ne_of_lt (Heap.lt_size e)) (Heap.get?_push_of_some _ e)
  refine wpAny_pure ⟨plainId_quiet F.plain_extend_loop _, extend_loopV W hn _ hSf _ s n 0 _ #[] [] _ rfl (Nat.zero_le _)
    (W.frame 0 ({ s with heap := s.heap.push { cls := .type "list", data := .seq ([] : List Value).toArray } } : Shared) _ s.toks hst₁ (Nat.le_refl _) fun b hb o e => oth b o (fun h => hSf (h ▸ hb)) e) hS₃ .nil Fresh.nil
    (Moved.then_heap (Moved.refl W.grefl) (Nat.le_refl _) fun b o _ e => from0 b o e) fun s' acc' c' objs hm hS' hacc hfr => ?_⟩
  show wpAny _ A (load s.heap.objs.size >>= _) _ _ s'
  refine wpAny_bind (wpAny_load hS' ?_)
  refine wpAny_pure (hQ s' acc'.toList objs ⟨fun b o hb e => hm.heap b o (fun q => ?_) e, hm.gens, hm.drawn, hm.os, hm.toks⟩ hacc fun p hp => ⟨(hfr p hp).1, fun q => (hfr p hp).2.1 (List.mem_cons_of_mem _ q), (hfr p hp).2.2⟩)
  rcases List.mem_cons.mp q with q | q
  · exact absurd (Heap.lt_size e) (by rw [q]; exact Nat.lt_irrefl _)
  · exact hb q

theorem tuple_newV {E : Value → Shared → Prop} {s : Shared} {Q₁ : Value → Shared → Prop} (W : WalksV prog w A.in1.in1 I fp wr G n EO St) (hT : ∀ i s, St i s → s.TypeIs (.ref I) "generator") (hst : St 0 s) (hfp : ∀ b ∈ fp, b < s.heap.objs.size) (hI : I ∈ fp)
    (h : ∀ s' vs objs, Moved wr G s s' → EOs EO n vs objs → Fresh wr s.heap s'.heap objs → Q₁ (.ref s'.heap.objs.size) { s' with heap := s'.heap.push { cls := .type "tuple", data := .seq vs.toArray } }) (hsz : n ≤ sizeLine) :
    codeAny (model prog w) A (.call (.builtin "tuple.__new__") ⟨[.type "tuple", .ref I], []⟩) (wants Q₁ E) s := by
  refine codeAny_of_tree ?_
  show wpAny _ A.in1 (do checkBuiltinCall "tuple.__new__" ⟨[.type "tuple", .ref I], []⟩; again (.builtin "tuple.__new__" ⟨[.type "tuple", .ref I], []⟩)) _ _ s
  refine wpAny_bind (wpAny_of_eq (F.newCall_tuple_1 _) (wpAny_pure ⟨plainId_quiet F.plain_tuple_new _, codeAny_builtin F.entry_tuple_new ?_⟩))
  rw [Around.under_plainId F.plain_tuple_new _]
  have hsub := sub_tuple_self
  have hinit := init_tuple_lookup
  have hmh := madeHere_tuple
  have hTI := hT 0 s hst
  wp_walk using wpAny_typeOf hTI, collectV (hn := hsz) W hT hst hfp hI
  intro s' vs objs hm hacc hfr
  have hlen : ∀ {n vs objs}, EOs EO n vs objs → vs.length = n := fun x => by
    induction x with
    | nil => rfl
    | snoc _ _ ih => simp [ih]
  show wpAny _ _ (Builtin.Tuple.tupleExact vs.toArray >>= fun v => ret v) _ _ _
  unfold Builtin.Tuple.tupleExact
  refine wpAny_bind (wpAny_newObj_type ?_ (by show vs.toArray.size ≤ sizeLine; rw [List.size_toArray, hlen hacc]; exact hsz))
  exact wpAny_pure (h s' vs objs hm hacc hfr)

theorem call_tupleV {E : Value → Shared → Prop} {s : Shared} {Q : Value → Shared → Prop} (W : WalksV prog w A.in1.in1.in1 I fp wr G n EO St) (hT : ∀ i s, St i s → s.TypeIs (.ref I) "generator") (hst : St 0 s) (hfp : ∀ b ∈ fp, b < s.heap.objs.size) (hI : I ∈ fp)
    (hQ : ∀ s' vs objs, Moved wr G s s' → EOs EO n vs objs → Fresh wr s.heap s'.heap objs → Q (.ref s'.heap.objs.size) { s' with heap := s'.heap.push { cls := .type "tuple", data := .seq vs.toArray } }) (hsz : n ≤ sizeLine) :
    wpAny (model prog w) A (call (.type "tuple") [.ref I]) Q E s := by
  refine callType_codes (Q₁ := fun obj s₁ => s₁.TypeIs obj "tuple" ∧ Q obj s₁) F.called_tuple (F.typeCall_tuple_1 _) F.entry_object_init
    (tuple_newV (hsz := hsz) W hT hst hfp hI fun s' vs objs hm hacc hfr => ⟨⟨_, Heap.get?_push_size _ rfl, rfl⟩, hQ s' vs objs hm hacc hfr⟩) fun obj s₁ h₁ => ?_
  exact ⟨h₁.1, F.args_object_init_2 obj _, object_init_meets F.called_tuple.init.lookup F.called_tuple.made (by decide) prog w A.in1 _ s₁ ⟨h₁.1, rfl, h₁.2⟩⟩
end
end Mine
end
section
open PySem PySem.W PyProof.Rows PySem.Calls PySem.Spec
open PySem.Sem (wp)
set_option Elab.async false
set_option maxRecDepth 100000
namespace Mine
section
variable {prog : Program} {w : World} {A : Around}

def protoV (C : Addr) (fp wr : List Addr) (n₀ : Nat) (EO : Nat → Value → List (Addr × Obj) → Prop) : Protocol := fun m s₀ v s kap =>
  (∃ objs, EO (n₀ - 1 - m) v objs ∧ Fresh (C :: wr) s₀.heap s.heap objs) ∧ GenSince C wr s₀ s ∧
    ∀ s'' : Shared, (∀ b ∈ C :: fp, ∀ o, s.heap.get? b = some o → s''.heap.get? b = some o) → kap (.send .none) s''

/-- one turn's value, with its new objects -/
def QuietV (prog : Program) (w : World) (cenv : Env) (x : Str) (elt : Expr) (fp wr : List Addr) (P : Nat → Value → Prop) (EO : Nat → Value → List (Addr × Obj) → Prop) (href : Heap) (D U : Nat) : Prop :=
  ∀ (A' : Around) E' i v (s₂ : Shared) m₂, A'.handled = none → A'.depth ≤ D → A'.units ≤ U → P i v → s₂.heap.Ns cenv.locals m₂ → m₂ x = some v → (∀ b ∈ fp, b ∉ wr → ∀ o, href.get? b = some o → s₂.heap.get? b = some o) →
    wpAny (model prog w) A' (eval elt cenv) (fun y s₃ => (∃ objs, EO i y objs ∧ ∀ p ∈ objs, s₃.heap.get? p.1 = some p.2 ∧ s₂.heap.get? p.1 = none) ∧ Keeps s₂ s₃) E' s₂

theorem seg_loopV {elt iter : Expr} {x : Str} {px : Pos} {scope : Scope} {pos : Pos} {I : Addr} {fp wr : List Addr} {n₀ : Nat} {P : Nat → Value → Prop} {St₀ : Nat → Heap → Prop} {EO : Nat → Value → List (Addr × Obj) → Prop} {cenv : Env}
    (hh : A.handled = none) (W₀ : ∀ A' : Around, A'.handled = none → Walks prog w A' I fp wr n₀ P St₀) (hlive : ∀ i h, St₀ i h → ∀ b ∈ wr, ∃ o, h.get? b = some o) (href : Heap)
    (hx : cenv.kindOf x = some .local) (hp : (cenv.scope.kind == .class || (cenv.scope.kind == .module && cenv.locals != cenv.globals)) = false)
    (hco : cenv.scope.isCoroutine = false) (hCf : cenv.locals ∉ fp) (hq : QuietV prog w cenv x elt fp wr P EO href (A.depth + 1) (A.units + 3)) :
    ∀ (k i : Nat) (s₀ s : Shared) (m : Str → Option Value), n₀ - i = k → i ≤ n₀ → St₀ i s.heap → s.heap.Ns cenv.locals m → GenSince cenv.locals wr s₀ s →
      (∀ b ∈ fp, b ∉ wr → ∀ o, href.get? b = some o → s.heap.get? b = some o) →
      Seg (model prog w) A (fun n s₀ r s₁ => r = .ok .next ∧ (n = 0 ∧ GenSince cenv.locals wr s₀ s₁)) (protoV cenv.locals fp wr n₀ EO) (n₀ - i) s₀
        (.compLoop (.GeneratorExp elt [⟨.Name x px, iter, [], 0⟩] scope pos) 0 (.ref I) .none cenv)
        ((model prog w).den (.compLoop (.GeneratorExp elt [⟨.Name x px, iter, [], 0⟩] scope pos) 0 (.ref I) .none cenv)) [] s := by
  have hh' : (A.over (.compLoop (.GeneratorExp elt [⟨.Name x px, iter, [], 0⟩] scope pos) 0 (.ref I) .none cenv) []).handled = none := hh
  have hdep' : (A.over (.compLoop (.GeneratorExp elt [⟨.Name x px, iter, [], 0⟩] scope pos) 0 (.ref I) .none cenv) []).depth ≤ A.depth + 1 := Nat.le_of_eq rfl
  have huni' : (A.over (.compLoop (.GeneratorExp elt [⟨.Name x px, iter, [], 0⟩] scope pos) 0 (.ref I) .none cenv) []).units ≤ A.units + 3 := Nat.le_of_eq rfl
  have hCw : cenv.locals ∉ wr := fun h => hCf ((W₀ A hh).sub _ h)
  intro k
  induction k with
  | zero =>
    intro i s₀ s m hk hi hst hn hsince hkp
    have hin : i = n₀ := by omega
    subst hin
    show Seg _ A _ _ _ s₀ _ ((compTurn (.GeneratorExp elt [⟨.Name x px, iter, [], 0⟩] scope pos) 0 (.ref I) .none cenv).onRaise («leaving» cenv)) [] s
    rw [compTurn_gen, Sem.onRaise_eq_wrap]
    refine seg_bind_wrap (wpAny_standAt ?_)
    refine seg_bind_wrap ((W₀ _ hh').done s _ _ hst fun h' tk hk' => ?_)
    exact seg_end (.ok .next) ⟨rfl, Nat.sub_self _, hsince.step fun b o _ hw e => hk' b o hw e⟩
  | succ k ih =>
    intro i s₀ s m hk hi hst hn hsince hkp
    have hlt : i < n₀ := by omega
    have hcount : n₀ - i = (n₀ - (i + 1)) + 1 := by omega
    show Seg _ A _ _ _ s₀ _ ((compTurn (.GeneratorExp elt [⟨.Name x px, iter, [], 0⟩] scope pos) 0 (.ref I) .none cenv).onRaise («leaving» cenv)) [] s
    rw [compTurn_gen, Sem.onRaise_eq_wrap]
    refine seg_bind_wrap (wpAny_standAt ?_)
    refine seg_bind_wrap ((W₀ _ hh').item i s _ _ hlt hst fun v h₁ tk₁ hPv hst₁ hk₁ => ?_)
    refine seg_bind_wrap (wpAny_of_eq (rfl : letOwnedTupleGo (.Name x px) (.ref I) v = pure ()) ?_)
    refine seg_bind_wrap (wpAny_assign_Name (wpAny_storeName_local hx (hn.at' fun o e => hk₁ _ o hCw e) (fun h₂ hn₂ hs₂ => ?_) hp))
    have up₂ : ∀ b o, b ≠ cenv.locals → b ∉ wr → s.heap.get? b = some o → h₂.get? b = some o := fun b o hbC hbw e => hs₂.extBut b o hbC (hk₁ b o hbw e)
    have hst₂ : St₀ (i + 1) h₂ := (W₀ A hh).frame _ _ _ hst₁ fun b hb o e => hs₂.extBut b o (fun h => hCf (h ▸ hb)) e
    have hkp₂ : ∀ b ∈ fp, b ∉ wr → ∀ o, href.get? b = some o → h₂.get? b = some o := fun b hb hbw o e => up₂ b o (fun h => hCf (h ▸ hb)) hbw (hkp b hb hbw o e)
    refine seg_bind_wrap (wpAny_pure ?_)
    simp only [if_true]
    have hy : ∀ v, yieldOut cenv v = yieldValue v := fun v => by simp only [yieldOut, hco, Bool.false_eq_true, if_false]
    simp only [hy]
    rw [hcount]
    rw [Sem.bind_eq_wrap', Sem.bind_eq_wrap', Sem.wrap_wrap, Sem.wrap_wrap]
    refine seg_wrap (wpAny_mono (hq _ _ i v _ _ hh' hdep' huni' hPv hn₂ (by simp) hkp₂) (fun y s₄ h₄ => ?_) fun _ _ e => e)
    obtain ⟨⟨objs, hE, hob⟩, h₄, tk₄, rfl, hk₄⟩ := h₄
    have hsince₃ : GenSince cenv.locals wr s₀ { s with heap := h₄, toks := tk₄ } := hsince.step fun b o hbC hbw e => hk₄ b o (up₂ b o hbC hbw e)
    have hfr : Fresh (cenv.locals :: wr) s₀.heap h₄ objs := fun p hp => by
      have h1 := hob p hp
      have hne : p.1 ∉ cenv.locals :: wr := fun q => by
        rcases List.mem_cons.mp q with q | q
        · obtain ⟨o, _, _, e, _⟩ := hn₂
          exact nomatch ((q ▸ h1.2).symm.trans e)
        · obtain ⟨o, e⟩ := hlive _ _ hst₂ _ q
          exact nomatch (h1.2.symm.trans e)
      refine ⟨h1.1, hne, ?_⟩
      cases e : s₀.heap.get? p.1 with
      | none => rfl
      | some o =>
        obtain ⟨hs', tk', es, hks⟩ := hsince
        have e2 : s.heap.get? p.1 = some o := by rw [es]; exact hks _ _ (fun q => hne (q ▸ List.mem_cons_self)) (fun q => hne (List.mem_cons_of_mem _ q)) e
        have e3 := up₂ _ _ (fun q => hne (q ▸ List.mem_cons_self)) (fun q => hne (List.mem_cons_of_mem _ q)) e2
        exact nomatch (h1.2.symm.trans e3)
    refine seg_at (seg_yield rfl rfl rfl ⟨⟨objs, ?_, hfr⟩, hsince₃, fun s'' hal => ?_⟩)
    · have : n₀ - 1 - (n₀ - (i + 1)) = i := by omega
      show EO (n₀ - 1 - (n₀ - (i + 1))) y objs
      rw [this]; exact hE
    refine seg_again rfl (ih (i + 1) s'' s'' _ (by omega) hlt ((W₀ A hh).frame _ _ _ hst₂ fun b hb o e => hal b (List.mem_cons_of_mem _ hb) o (hk₄ b o e))
        ((hn₂.keeps hk₄).at' fun o e => hal _ (List.mem_cons_self ..) o e) (GenSince.refl _ _ _) fun b hb hbw o e => hal b (List.mem_cons_of_mem _ hb) o (hk₄ b o (hkp₂ b hb hbw o e)))

theorem seg_startV {elt iter : Expr} {x : Str} {px : Pos} {scope : Scope} {pos : Pos} {I : Addr} {fp wr : List Addr} {n₀ : Nat} {P : Nat → Value → Prop} {St₀ : Nat → Heap → Prop} {EO : Nat → Value → List (Addr × Obj) → Prop} {cenv : Env}
    (hh : A.handled = none) (W₀ : ∀ A' : Around, A'.handled = none → Walks prog w A' I fp wr n₀ P St₀) (hlive : ∀ i h, St₀ i h → ∀ b ∈ wr, ∃ o, h.get? b = some o) (href : Heap)
    (hx : cenv.kindOf x = some .local) (hp : (cenv.scope.kind == .class || (cenv.scope.kind == .module && cenv.locals != cenv.globals)) = false)
    (hco : cenv.scope.isCoroutine = false) (hCf : cenv.locals ∉ fp) (hq : QuietV prog w cenv x elt fp wr P EO href (A.depth + 1) (A.units + 3))
    (s₀ s : Shared) (m : Str → Option Value) (hst : St₀ 0 s.heap) (hn : s.heap.Ns cenv.locals m) (hsince : GenSince cenv.locals wr s₀ s)
    (hkp : ∀ b ∈ fp, b ∉ wr → ∀ o, href.get? b = some o → s.heap.get? b = some o) :
    Seg (model prog w) A (fun n s₀ r s₁ => r = .ok .next ∧ (n = 0 ∧ GenSince cenv.locals wr s₀ s₁)) (protoV cenv.locals fp wr n₀ EO) n₀ s₀
      (.compStart (.GeneratorExp elt [⟨.Name x px, iter, [], 0⟩] scope pos) 0 (.ref I) .none cenv)
      ((model prog w).den (.compStart (.GeneratorExp elt [⟨.Name x px, iter, [], 0⟩] scope pos) 0 (.ref I) .none cenv)) [] s := by
  have hh' : (A.over (.compStart (.GeneratorExp elt [⟨.Name x px, iter, [], 0⟩] scope pos) 0 (.ref I) .none cenv) []).handled = none := hh
  have loop := seg_loopV (iter := iter) (px := px) (scope := scope) (pos := pos) hh W₀ hlive href hx hp hco hCf hq n₀ 0 s₀ s m (Nat.sub_zero _) (Nat.zero_le _) hst hn hsince hkp
  rw [Nat.sub_zero] at loop
  show Seg _ A _ _ _ s₀ _ ((compStart (.GeneratorExp elt [⟨.Name x px, iter, [], 0⟩] scope pos) 0 (.ref I) .none cenv).onRaise («leaving» cenv)) [] s
  unfold compStart
  rw [Sem.onRaise_eq_wrap]
  show Seg _ A _ _ _ s₀ _ ((ask >>= _).wrap _ _ _ _) [] s
  refine seg_bind_wrap (wpAny_askSetting ?_)
  split
  · exact seg_again rfl loop
  · first
      | exact seg_bind_wrap (wpAny_rule (seg_bind_wrap (wpAny_standAt (seg_bind_wrap ((W₀ _ hh').self 0 s _ _ hst (seg_again rfl loop))))))
      | (refine seg_bind_wrap (wpAny_rule ?_); show Seg _ A _ _ _ s₀ _ ((standAt iter.pos >>= _).wrap _ _ _ _) [] s; exact seg_bind_wrap (wpAny_standAt (seg_bind_wrap ((W₀ _ hh').self 0 s _ _ hst (seg_again rfl loop)))))

def GenAtV (prog : Program) (w : World) (A : Around) (a : Addr) (g : Nat) (C : Addr) (fp wr : List Addr) (n₀ : Nat) (EO : Nat → Value → List (Addr × Obj) → Prop) (j : Nat) (s : Shared) : Prop :=
  s.heap.IsGen a g ∧ s.heap.NoLimit ∧ ∃ gs, s.gens[g]? = some gs ∧ ∀ s'' : Shared, (∀ b ∈ C :: fp, ∀ o, s.heap.get? b = some o → s''.heap.get? b = some o) →
    gs.Goes (model prog w) A.in1 (fun n s₀ r s₁ => r = .ok .next ∧ (n = 0 ∧ GenSince C wr s₀ s₁)) (protoV C fp wr n₀ EO) (n₀ - j) (.send .none) s''

theorem WalksV.gen (hh : A.handled = none) (a : Addr) (g : Nat) (C : Addr) (fp wr : List Addr) (n₀ : Nat) (EO : Nat → Value → List (Addr × Obj) → Prop) (haC : a ≠ C) (haf : a ∉ fp) (hsub : ∀ b ∈ wr, b ∈ fp)
    (hroom : A.depth < recursionLimit) (hcs : cStatics ∈ fp) (hcC : cStatics ≠ C) (hcw : cStatics ∉ wr) :
    WalksV prog w A a (a :: C :: fp) (C :: wr) (GenOnlyQ g) n₀ EO (GenAtV prog w A a g C fp wr n₀ EO) where
  sub := fun b hb => by
    rcases List.mem_cons.mp hb with rfl | hb
    · simp
    · exact List.mem_cons_of_mem _ (List.mem_cons_of_mem _ (hsub b hb))
  grefl := fun _ => .inl rfl
  gtrans := fun _ _ _ x y => x.trans y
  frame := fun j s h' tk st _ hk =>
    ⟨let ⟨o, nm, qn, ho, r⟩ := st.1; ⟨o, nm, qn, hk a (List.mem_cons_self ..) o ho, r⟩,
     (let ⟨mc, hns, hnn⟩ := st.2.1; ⟨mc, hns.at' fun o e => hk cStatics (List.mem_cons_of_mem _ (List.mem_cons_of_mem _ hcs)) o e, hnn⟩),
     let ⟨gs, hgs, hgo⟩ := st.2.2; ⟨gs, hgs, fun s'' hal => hgo s'' fun b hb o e => hal b hb o (hk b (List.mem_cons_of_mem _ hb) o e)⟩⟩
  item := fun j s Q E hj st hQ => by
    obtain ⟨hg, hl, gs, hgs, hgo⟩ := st
    obtain ⟨m, hm⟩ : ∃ m, n₀ - j = m + 1 := ⟨n₀ - j - 1, by omega⟩
    rw [hm] at hgo
    refine wpAny_with_toks (Nat.le_refl s.toks) ?_
    refine wpAny_pyNext_genexpQ (P := fun n s₀ s₁ => n = 0 ∧ GenSince C wr s₀ s₁) hh hl hroom hg hgs (hgo _ fun _ _ _ e => e) (fun v s₁ gs' hb hv => ?_) (fun s₁ hp h' hk => ?_)
    · obtain ⟨⟨objs, hE, hfr⟩, ⟨h₁, tk₁, rfl, hk₁⟩, hkap⟩ := hv
      have hidx : n₀ - 1 - (m + 1 - 1) = j := by omega
      rw [hidx] at hE
      have haw : a ∉ wr := fun h => haf (hsub a h)
      intro htk
      refine hQ v _ objs hE hfr ⟨let ⟨o, nm, qn, ho, r⟩ := hg; ⟨o, nm, qn, hk₁ a o haC haw ho, r⟩, (let ⟨mc, hns, hnn⟩ := hl; ⟨mc, hns.at' fun o e => hk₁ cStatics o hcC hcw e, hnn⟩), gs', setGen_self (gs := .running) (setGen_self hgs), fun s'' hal => ?_⟩
        ⟨fun b o hb e => hk₁ b o (fun h => hb (h ▸ List.mem_cons_self ..)) (fun h => hb (List.mem_cons_of_mem _ h)) e, GenOnlyQ.of ((GenOnly.setGen s g .running).trans (GenOnly.setGen _ g gs')) (setGen_self (gs := .running) (setGen_self hgs)) hb, rfl, rfl, htk⟩
      have e : n₀ - (j + 1) = m := by omega
      rw [e]
      exact hkap s'' hal
    · exact absurd hp.1 (Nat.succ_ne_zero m)
  done := fun s Q E st hQ => by
    obtain ⟨hg, hl, gs, hgs, hgo⟩ := st
    rw [Nat.sub_self] at hgo
    refine wpAny_with_toks (Nat.le_refl s.toks) ?_
    refine wpAny_pyNext_genexpQ (P := fun n s₀ s₁ => n = 0 ∧ GenSince C wr s₀ s₁) hh hl hroom hg hgs (hgo _ fun _ _ _ e => e) (fun v s₁ gs' hb hv => ?_) (fun s₁ hp h' hk => ?_)
    · obtain ⟨_, _, hkap⟩ := hv
      exact False.elim (hkap s₁ fun _ _ _ e => e)
    · obtain ⟨_, h₁, tk₁, rfl, hk₁⟩ := hp
      intro htk
      exact hQ _ ⟨fun b o hb e => hk b o (hk₁ b o (fun h => hb (h ▸ List.mem_cons_self ..)) (fun h => hb (List.mem_cons_of_mem _ h)) e), GenOnlyQ.of ((GenOnly.setGen s g .running).trans (GenOnly.setGen _ g .finished)) (setGen_self (gs := .running) (setGen_self hgs)) rfl, rfl, rfl, htk⟩
  self := fun _ _ _ _ st hQ => wpAny_pyIter_gen st.1 hQ
end

section
variable {prog : Program} {w : World} {A : Around} {E : Value → Shared → Prop} {s : Shared}

/-- what stands when a generator has just been made -/
def MadeV (prog : Program) (w : World) (A : Around) (s₄ : Shared) (wr : List Addr) (n₀ : Nat) (EO : Nat → Value → List (Addr × Obj) → Prop) (Q : Value → Shared → Prop) : Prop :=
  ∀ a h₅ tk gs, gs.bare = true → s₄.heap.objs.size < a → h₅.objs.size = a + 1 → (∀ b o, s₄.heap.get? b = some o → h₅.get? b = some o) →
    WalksV prog w A.in4 a (a :: s₄.heap.objs.size :: List.range s₄.heap.objs.size) (s₄.heap.objs.size :: wr) (GenOnlyQ s₄.gens.size) n₀ EO (GenAtV prog w A.in4 a s₄.gens.size s₄.heap.objs.size (List.range s₄.heap.objs.size) wr n₀ EO) →
    GenAtV prog w A.in4 a s₄.gens.size s₄.heap.objs.size (List.range s₄.heap.objs.size) wr n₀ EO 0 { s₄ with gens := s₄.gens.push gs, toks := tk, heap := h₅ } →
    Q (.ref a) { s₄ with gens := s₄.gens.push gs, toks := tk, heap := h₅ }

theorem genexpV {env : Env} {elt iter : Expr} {x : Str} {px : Pos} {scope : Scope} {cl : List (Str × Addr)} {pos : Pos} {Q : Value → Shared → Prop}
    (hh : A.handled = none) (hco : scope.isCoroutine = false) (hclos : closureFor scope env = pure cl) (hcell : ∀ y ∈ scope.names, y.2 ≠ .cell) (h0 : scope.names.lookup (".0" : Str) = some NameKind.local)
    (hx : scope.names.lookup x = some .local) (hkind : scope.kind = .function) (hroom : A.depth < recursionLimit)
    (h : wpAny (model prog w) A (eval iter env) (fun xv s₁ => wpAny (model prog w) A (pyIter xv) (fun it s₂ => s₂.heap.NoLimit ∧
      wpAny (model prog w) A (genexprCode env pos (env.qual ++ "<genexpr>") scope) (fun code s₃ => wpAny (model prog w) A (builtinsFor env.globals env.builtins) (fun bi s₄ =>
        ∃ I fp wr n₀ P St₀ EO, it = .ref I ∧ (∀ A' : Around, A'.handled = none → Walks prog w A' I fp wr n₀ P St₀) ∧ (∀ i h, St₀ i h → ∀ b ∈ wr, ∃ o, h.get? b = some o) ∧ St₀ 0 s₄.heap ∧ (∀ b ∈ fp, b < s₄.heap.objs.size) ∧ s₄.heap.NoLimit ∧ cStatics ∉ wr ∧
          (∀ href : Heap, (∀ b o, s₄.heap.get? b = some o → href.get? b = some o) →
            QuietV prog w (genEnv scope cl s₄.heap.objs.size code bi env) x elt (List.range s₄.heap.objs.size) wr P EO href (A.depth + 1) (A.units + 8)) ∧
          MadeV prog w A s₄ wr n₀ EO Q) E s₃) E s₂) E s₁) E s)
    (hs : ∀ x, genFold iter env x = pure x) :
    wpAny (model prog w) A (eval (.GeneratorExp elt [⟨.Name x px, iter, [], 0⟩] scope pos) env) Q E s := by
  refine wpAny_GeneratorExp_make hco hclos hcell h0 hkind hroom (wpAny_mono h (fun xv s₁ h₁ => wpAny_mono h₁ (fun it s₂ h₂ => ⟨h₂.1, wpAny_mono h₂.2 (fun code s₃ h₃ => wpAny_mono h₃ (fun bi s₄ h₄ => ?_)
    fun _ _ e => e) fun _ _ e => e⟩) fun _ _ e => e) fun _ _ e => e) hs
  obtain ⟨I, fp, wr, n₀, P, St₀, EO, rfl, W₀, hlive, hst, hfp, hl₄, hcw, hq, hQ⟩ := h₄
  have hclt : cStatics < s₄.heap.objs.size := let ⟨_, hn, _⟩ := hl₄; hn.lt
  intro h' hn' hs'
  have hsz : h'.objs.size = s₄.heap.objs.size + 1 := by rw [hs'.1, Heap.size_push]
  have keep' : ∀ b o, s₄.heap.get? b = some o → h'.get? b = some o := fun b o e => hs'.extBut b o (Nat.ne_of_lt (Heap.lt_size e)) (Heap.get?_push_of_some _ e)
  have hsub : ∀ b ∈ wr, b ∈ List.range s₄.heap.objs.size := fun b hb => List.mem_range.mpr (hfp b ((W₀ A hh).sub b hb))
  have haC : h'.objs.size ≠ s₄.heap.objs.size := by rw [hsz]; exact Nat.succ_ne_self _
  have haf : h'.objs.size ∉ List.range s₄.heap.objs.size := fun hm => by have := List.mem_range.mp hm; omega
  have keep₅ : ∀ b o, s₄.heap.get? b = some o → (h'.push { cls := .type "generator", data := .fields #[.int s₄.gens.size 0, .str "<genexpr>" (s₄.toks + 1), .str (env.qual ++ "<genexpr>") (s₄.toks + 1 + 1)] }).get? b = some o :=
    fun b o e => Heap.get?_push_of_some _ (keep' b o e)
  refine hQ _ _ _ _ rfl (by omega) (by rw [Heap.size_push]) keep₅ (WalksV.gen (A := A.in4) hh _ _ _ _ wr n₀ EO haC haf hsub hroom (List.mem_range.mpr hclt) (Nat.ne_of_lt hclt) hcw) ?_
  refine ⟨⟨_, _, _, Heap.get?_push_size _ rfl, rfl, rfl, rfl⟩, hl₄.keeps keep₅, _, Array.getElem?_push_size .., fun s'' hal => ⟨rfl, ?_⟩⟩
  have hkp : ∀ b ∈ List.range s₄.heap.objs.size, b ∉ wr → ∀ o, s₄.heap.get? b = some o → s''.heap.get? b = some o := fun b hb _ o e => hal b (List.mem_cons_of_mem _ hb) o (keep₅ b o e)
  exact seg_startV (A := A.in4.in1) (cenv := genEnv scope cl s₄.heap.objs.size code bi env) hh
    (fun A' hA => (W₀ A' hA).mono_fp fun b hb => List.mem_range.mpr (hfp b hb)) hlive s₄.heap hx (by simp [genEnv, hkind]) hco
    (fun hm => Nat.lt_irrefl _ (List.mem_range.mp hm)) (hq _ fun _ _ e => e) s'' s'' (fun y => if y = ".0" then some (.ref I) else none)
    ((W₀ A hh).frame _ _ _ hst fun b hb o e => hal b (List.mem_cons_of_mem _ (List.mem_range.mpr (hfp b hb))) o (keep₅ b o e)) ((hn'.push _).at' fun o e => hal _ (List.mem_cons_self ..) o e) (GenSince.refl _ _ _) hkp
end
end Mine
end
section
open PySem PySem.W PyProof.Rows PySem.Calls PySem.Spec
set_option Elab.async false
set_option maxRecDepth 100000
namespace Mine
open Builtin Builtin._codecs
/-- the bytes of a text of plain signs -/
def asBytes (x : PySem.Str) : Array UInt8 := x.cps.foldl (fun acc y => acc ++ (asciiCodec.bytesOf y).toArray) #[]

theorem asBytes_eq (x : PySem.Str) : (asBytes x).toList = x.cps.toList.map Nat.toUInt8 := by
  have : ∀ (l : List Nat) (acc : Array UInt8), (l.foldl (fun acc y => acc ++ (asciiCodec.bytesOf y).toArray) acc).toList = acc.toList ++ l.map Nat.toUInt8 := by
    intro l
    induction l with
    | nil => intro acc; simp
    | cons c l ih => intro acc; rw [List.foldl_cons, ih]; simp [asciiCodec]
  unfold asBytes
  rw [← Array.foldl_toList, this]
  simp

theorem asBytes_size {x : PySem.Str} (hl2 : x.length ≤ 10000) : (asBytes x).size ≤ sizeLine := by
  have : (asBytes x).size = x.cps.size := by
    have := congrArg List.length (asBytes_eq x)
    simpa using this
  rw [this]
  have h2 : x.cps.size ≤ 10000 := hl2
  have h3 : (10000 : Nat) ≤ sizeLine := by size_fits
  omega
theorem narrow_ascii {x : PySem.Str} {v : Value} (h0 : 0 < x.length) (hl2 : x.length ≤ 10000) (hx : ∀ c ∈ x.cps.toList, c < 128) : encodeNarrow "str.encode" asciiCodec none v x = pure (asBytes x) := by
  have hb : x.cps.findIdx? asciiCodec.bad = none := by
    rw [Array.findIdx?_eq_none_iff]
    intro c hc
    have := hx c (by simpa using hc)
    show decide (c ≥ 128) = false
    simp; omega
  have hs : 0 < x.cps.size := h0
  have e0 : x.cps[0]? = some x.cps[0] := by simp [hs]
  have g0 : asciiCodec.bad x.cps[0] = false := by
    have := hx x.cps[0] (by simp)
    show decide (x.cps[0] ≥ 128) = false
    simp; omega
  have eS : x.cps[x.cps.size]? = none := by simp
  have hl : x.length = x.cps.size := rfl
  unfold encodeNarrow
  simp only [Std.Legacy.Range.forIn_eq_forIn_range', Std.Legacy.Range.size, hl]
  obtain ⟨n, hn⟩ : ∃ n, x.cps.size = n + 1 := ⟨x.cps.size - 1, by omega⟩
  rw [show (x.cps.size - 0 + 1 - 1) / 1 = n + 1 by omega, List.range'_succ, List.forIn_cons]
  have hx1 : x.cps.extract 0 x.cps.size = x.cps := by simp
  have hsz : ¬ ((asBytes x).size > sizeLine) := by
    have : (asBytes x).size = x.cps.size := by
      have := congrArg List.length (asBytes_eq x)
      simpa using this
    rw [this]
    have h2 : x.cps.size ≤ 10000 := hl2
    have h3 : (10000 : Nat) ≤ sizeLine := by size_fits
    omega
  have h00 : ¬ ((#[] : Array UInt8).size > sizeLine) := by simp
  simp only [e0, g0, hb, hx1, Option.getD_none, Bool.not_false, if_true, if_neg h00]
  simp only [pure_bind, Nat.zero_add]
  rw [show Array.foldl (fun acc y => acc ++ (asciiCodec.bytesOf y).toArray) #[] x.cps = asBytes x from rfl]
  cases n with
  | zero => simp only [List.range'_zero, List.forIn_nil, pure_bind]
  | succ k =>
    rw [List.range'_succ, List.forIn_cons]
    simp only [eS, if_neg hsz, pure_bind]

theorem road_ascii (id : String) (v : Value) (x : PySem.Str) : encodeRoad id v x (PySem.Str.ofString "ascii") none = (do mkBytes (← encodeNarrow id asciiCodec none v x)) := by
  first | rfl | (unfold encodeRoad; rfl) | kernel_rfl
theorem encode_tree' (x : PySem.Str) (t u : Tok) : «str.encode» ⟨[.str x t, .str (PySem.Str.ofString "ascii") u], []⟩ = (do ret (← encodeRoad "str.encode" (.str x t) x (PySem.Str.ofString "ascii") none)) := by
  first | rfl | kernel_rfl

section
variable {prog : Program} {w : World} {A : Around} {E : Value → Shared → Prop} {s : Shared} {x : PySem.Str} {t u : Tok} {Q : Value → Shared → Prop}
theorem gives_encode (h0 : 0 < x.length) (hl2 : x.length ≤ 10000) (hx : ∀ c ∈ x.cps.toList, c < 128) : Gives («str.encode» ⟨[.str x t, .str (PySem.Str.ofString "ascii") u], []⟩) (.bytes (asBytes x)) := by
  rw [encode_tree', road_ascii, narrow_ascii h0 hl2 hx]
  exact .of_eq rfl
theorem call_encode (h0 : 0 < x.length) (hl2 : x.length ≤ 10000) (hx : ∀ c ∈ x.cps.toList, c < 128) (h : Q (.bytes (asBytes x) s.toks) { s with toks := s.toks + 1 }) :
    wpAny (model prog w) A (call (.builtin "str.encode") [.str x t, .str (PySem.Str.ofString "ascii") u]) Q E s :=
  call_meets PySem.F.slot_str_encode (typeIs_str _ _ _) PySem.F.entry_str_encode (PySem.F.args_str_encode_2 _ _) (gives_encode h0 hl2 hx).meets (show (Made.bytes (asBytes x)).post _ s from ⟨asBytes_size hl2, h⟩)
theorem method_encode {pl : Sem Bool} {Q : Value × List Value → Shared → Prop} {M : Model} (h : Q (.builtin "str.encode", [.str x t]) s) : wpAny M A (getMethod (.str x t) "encode" pl) Q E s := by
  with_reducible exact getMethod_builtin (typeIs_str _ _ _) PySem.F.plainAttrs_str PySem.F.slot_str_encode PySem.F.type_str_encode (fun _ e => nomatch e) h
end
end Mine
end
section
local macro_rules | `(tactic| walk_at "pad") => `(tactic| fail)
local macro_rules | `(tactic| walk_at "pad") => `(tactic| fail)
theorem Mine.reset_G2 : True := by w_top off; trivial
open PySem PySem.W PyProof.Rows PySem.Calls PySem.Spec
set_option Elab.async false
set_option maxRecDepth 100000
namespace Mine
/-- the barest way into a def: no caller's frame asked, everything but the chosen objects kept -/
def LeaveC (g : Heap) (R : Result → Shared → Prop) (v : Value) (s' : Shared) : Prop :=
  ∃ L' m' news', Fr g L' s'.heap m' ∧ News g L' s'.heap news' ∧ ((∀ b o, g.get? b = some o → s'.heap.get? b = some o) → (∀ q ∈ news', s'.heap.get? q.1 = some q.2 ∧ g.get? q.1 = none) → R (.ok (.ret v)) s')
theorem LeaveC.intro {g : Heap} {L' : Addr} {m' : Str → Option Value} {news' : List (Addr × Obj)} {R : Result → Shared → Prop} {v : Value} {s' : Shared} (F' : Fr g L' s'.heap m') (N' : News g L' s'.heap news')
    (k : (∀ b o, g.get? b = some o → s'.heap.get? b = some o) → (∀ q ∈ news', s'.heap.get? q.1 = some q.2 ∧ g.get? q.1 = none) → R (.ok (.ret v)) s') : LeaveC g R v s' := ⟨L', m', news', F', N', k⟩
section
variable {prog : Program} {w : World} {A : Around} {s : Shared} {K : Frag} {mg mb : Str → Option Value} {sel : List (Addr × Obj)} {p : Program} {loose : List Str} {mean : ExcName → Option Value}
theorem enterC {R : Result → Shared → Prop} {name qual : Str} {params : Arguments} {body : List Stmt} {scope : Scope} {dV kV doc pm cdv ct oc : Value} {an od : Option Addr} {osl : Array (Option Value)} {f : Addr} {args : Args} {binds : List (Str × Value)}
    (X : K.In (without s.heap sel)) (NS : ∀ q ∈ sel, s.heap.get? q.1 = some q.2) (T : Top p loose mean mg mb (without s.heap sel))
    (ho : K.lookup f = some ⟨oc, od, .func (fnOf name qual params body scope dV kV doc pm an cdv ct), osl⟩) (hcd : codeIn K cdv qual = true) (hroom : A.depth < recursionLimit)
    (hbind : BindsTo s (fnOf name qual params body scope dV kV doc pm an cdv ct) args binds) (hloc : ∀ y ∈ binds, scope.names.lookup y.1 = some .local)
    (h : ∀ L' h₁, Fr (without s.heap sel) L' h₁ (fun y => binds.reverse.lookup y) → News (without s.heap sel) L' h₁ sel →
      wpAny (model prog w) (A.deeper (envOf qual scope L' f cdv)) (execs body (envOf qual scope L' f cdv))
        (fun fl s' => LeaveC (without s.heap sel) R (match fl with | .ret v => v | _ => .none) s')
        (fun e s' => wpAny (model prog w) (A.deeper (envOf qual scope L' f cdv)) («leaving» (envOf qual scope L' f cdv) e) (fun _ s'' => R (.error e) s'') (fun e' s'' => R (.error e') s'') s')
        { s with heap := h₁, toks := s.toks + binds.length })
    (hco : scope.isCoroutine = false) (hgen : scope.isGenerator = false) (hk : scope.kind = .function)
    (hcell : ∀ x ∈ scope.names, x.2 ≠ .cell) : codeAny (model prog w) A (.call (.ref f) args) R s := by
  have k0 : ∀ b o, (without s.heap sel).get? b = some o → s.heap.get? b = some o := fun b o e => of_hideAll _ e
  refine codeAny_call_def (fd := fnOf name qual params body scope dV kV doc pm an cdv ct) (body := body) (binds := binds) hroom (k0 _ _ (X _ _ ho)) rfl (T.nolimit.keeps k0) (codeRec_of (X.keeps k0) hcd) rfl hbind hcell hloc (fun h₁ hns hk₁ => ?_) hco hgen hk
  have FL : Fr (without s.heap sel) s.heap.objs.size h₁ (fun y => binds.reverse.lookup y) := ⟨hns, fun b o e => hk₁ b o (k0 _ _ e), Nat.le_of_eq (hideAll_size _ _)⟩
  have NL : News (without s.heap sel) s.heap.objs.size h₁ sel := fun q hq => ⟨hk₁ _ _ (NS q hq), Nat.ne_of_lt (Heap.lt_size (NS q hq)), without_none hq⟩
  refine wpAny_mono (h s.heap.objs.size h₁ FL NL) (fun fl s' hl => ?_) fun _ _ y => y
  obtain ⟨L', m', news', F', N', k⟩ := hl
  exact k F'.keep fun q hq => ⟨(N' q hq).1, (N' q hq).2.2⟩
end
/-- an object of a class is made: its two parts stand at the end of the heap -/
theorem make_all {prog : Program} {w : World} {A : Around} {E : Value → Shared → Prop} {s : Shared} {K : Frag} {C : Addr} {Q : Value → Shared → Prop} {pos : List Value} {kw : List (Str × Value)} {fI : Addr} (X : K.In s.heap) (hm : makesIn K C = true)
    (hi : findIn K (.ref C) "__init__" = some (some (.ref fI))) (hf : isFn K (.ref fI) = true)
    (h : codeAny (model prog w) (A.under (.builtin "type.__call__" ⟨.ref C :: pos, kw⟩)) (.call (.ref fI) ⟨.ref (s.heap.objs.size + 1) :: pos, kw⟩)
      (InitBack (s.heap.objs.size + 1) fun r s' => match r with | .ok (.ret v) => Q v s' | .ok _ => False | .error e => E e s') { s with heap := (s.heap.push emptyDict).push (instObj C s.heap.objs.size) }) :
    wpAny (model prog w) A (call (.ref C) pos kw) Q E s :=
  wpAny_call (make_core (makes_of X hm) (looks_findIn X hi) (fun self => bind_fn X self (beq_iff_eq.mp hf)) (.inl rfl) h)

local macro_rules | `(tactic| walk_at "LeaveC") => `(tactic| (k_dflt (refine' LeaveC.intro ?k1 ?k2 ?_; (case k1 => k_asm); (case k2 => k_asm); k_whole); intro kK kN; (try dsimp only)))
local macro_rules | `(tactic| walk_at "InitBack") => `(tactic| (refine And.intro rfl ?_; try dsimp only))
local macro_rules | `(tactic| walk_at "call type:int") => `(tactic| (k_here; (with_reducible show wpAny _ _ (call (Value.type "int") [Value.str _ _]) _ _ _); refine KIN.call_text (by with_reducible assumption) (by first | with_reducible assumption | omega) ?_; try dsimp only))
local macro_rules | `(tactic| walk_at "getMethod str") => `(tactic| with_reducible refine method_encode ?_)
local macro_rules | `(tactic| walk_at "call builtin:str.encode") => `(tactic| (k_here; (with_reducible show wpAny _ _ (call (Value.builtin "str.encode") [Value.str _ _, Value.str _ _]) _ _ _); with_unfolding_all refine call_encode (by with_reducible assumption) (by with_reducible assumption) (by with_reducible assumption) ?_; try dsimp only))
theorem fillG2 : (PySem.Challenge.rw_ci0037_01, Mine.hd.heap_39) = (PySem.Challenge.rw_ci0037_01, Mine.hd.heap_39) := by k_fill; rfl
/-- the two new objects of an identifier -/
def NewTwo (h h' : Heap) (i dx : Addr) (o o' : Obj) : Prop := h'.get? i = some o ∧ h'.get? dx = some o' ∧ h.get? i = none ∧ h.get? dx = none ∧ dx < i
theorem get_none_top {h : Heap} {a : Addr} (ha : h.objs.size ≤ a) : h.get? a = none := Heap.get?_none_of_le ha
set_option maxHeartbeats 4000000 in
theorem num_make {w : World} {A : Around} {mg mb : Str → Option Value} {loose : List Str} {mean : ExcName → Option Value} (x : Str) (t : Tok) (n : Int) (hn : PySem.intText? x = some n) (hx : x.length ≤ 640) (hroom : A.depth + 6 < recursionLimit)
    {s : Shared} {Q E : Value → Shared → Prop} (X : (Mine.hd.heap_39 w.params).In s.heap) (T : Top topProg loose mean mg mb s.heap)
    (hret : ∀ (i dx : Addr) (hs : Int) (kt nt : Tok) (h' : Heap) (tk' : Nat), (∀ b o, s.heap.get? b = some o → h'.get? b = some o) → NewTwo s.heap h' i dx (instObj 150 dx) (dictOf [⟨hs, .str "value" kt, .int n nt⟩] 1) → Q (.ref i) { s with heap := h', toks := tk' }) :
    wpAny (model PR w) A (call (.ref 150) [.str x t]) Q E s := by
  refine' make_all X ?k4 ?k5 ?k6 ?_
  case k4 => k_is
  case k5 => k_is
  case k6 => k_is
  have hd : ((s.heap.push emptyDict).push (instObj 150 s.heap.objs.size)).get? s.heap.objs.size = some (dictOf [] 0) := Heap.get?_push_of_some _ (Heap.get?_push_size _ rfl)
  have hi : ((s.heap.push emptyDict).push (instObj 150 s.heap.objs.size)).get? (s.heap.objs.size + 1) = some (instObj 150 s.heap.objs.size) := by
    have := Heap.get?_push_size (s.heap.push emptyDict) (o := instObj 150 s.heap.objs.size) rfl
    rwa [Heap.size_push] at this
  have hkk : ∀ b o, s.heap.get? b = some o → ((s.heap.push emptyDict).push (instObj 150 s.heap.objs.size)).get? b = some o := fun b o e => Heap.get?_push_of_some _ (Heap.get?_push_of_some _ e)
  have n1 : s.heap.get? s.heap.objs.size = none := get_none_top (Nat.le_refl _)
  have n2 : s.heap.get? (s.heap.objs.size + 1) = none := get_none_top (Nat.le_succ _)
  have l2 : s.heap.objs.size < s.heap.objs.size + 1 := Nat.lt_succ_self _
  generalize hD : (s.heap.push emptyDict).push (instObj 150 s.heap.objs.size) = h1 at hd hi hkk ⊢
  clear hD
  generalize hI : s.heap.objs.size + 1 = i at hd hi n2 l2 ⊢
  clear hI
  generalize hJ : s.heap.objs.size = dx at hd hi n1 l2 ⊢
  clear hJ
  have kg : ∀ b o, s.heap.get? b = some o → (without h1 [(i, instObj 150 dx), (dx, dictOf [] 0)]).get? b = some o := fun b o e => without_get (hkk b o e) fun q hq e2 => by
    rcases List.mem_cons.mp hq with rfl | hq
    · have e3 : i = b := e2
      subst e3
      rw [n2] at e; cases e
    · rcases List.mem_cons.mp hq with rfl | hq
      · have e3 : dx = b := e2
        subst e3
        rw [n1] at e; cases e
      · cases hq
  have NS : ∀ q ∈ ([(i, instObj 150 dx), (dx, dictOf [] 0)] : List (Addr × Obj)), h1.get? q.1 = some q.2 := fun q hq => by
    rcases List.mem_cons.mp hq with rfl | hq
    · exact hi
    · rcases List.mem_cons.mp hq with rfl | hq
      · exact hd
      · cases hq
  have X' := X.keeps kg
  have T' := T.keeps kg
  k_dflt (refine' enterC (s := { s with heap := h1 }) X' NS T' ?k6 ?k7 ?k8 ?k9 ?kB ?_ ?c2 ?c3 ?c4 ?c5; (case k6 => k_is); (case k7 => k_is); (case k8 => ktr_room); (case k9 => exact BindsTo.of_eq rfl); (case c5 => decide); (case kB => exact locs rfl); (case c2 => exact rfl); (case c3 => exact rfl); (case c4 => exact rfl); k_whole; intro L' h' F' N')
  try dsimp only at F'
  try dsimp only at N'
  try dsimp only at X'
  try dsimp only at T'
  try dsimp only
  generalize hG : without h1 [(i, instObj 150 dx), (dx, dictOf [] 0)] = g at F' N' kg X' T' ⊢
  clear hG NS X T
  k_lt2 l2
  with_reducible show wpAny _ _ _ _ _ _
  k_fold
  k_steps
  rename_i kK kN
  exact hret _ _ _ _ _ _ _ (fun b o e => kK b o (kg b o e)) ⟨(kN _ (List.Mem.head _)).1, (kN _ (List.Mem.tail _ (List.Mem.head _))).1, n2, n1, l2⟩
set_option maxHeartbeats 4000000 in
theorem alpha_make {w : World} {A : Around} {mg mb : Str → Option Value} {loose : List Str} {mean : ExcName → Option Value} (x : Str) (t : Tok) (hn0 : 0 < x.length) (hx : x.length ≤ 10000) (hc : ∀ c ∈ x.cps.toList, c < 128) (hroom : A.depth + 6 < recursionLimit)
    {s : Shared} {Q E : Value → Shared → Prop} (X : (Mine.hd.heap_39 w.params).In s.heap) (T : Top topProg loose mean mg mb s.heap)
    (hret : ∀ (i dx : Addr) (hs : Int) (kt nt : Tok) (h' : Heap) (tk' : Nat), (∀ b o, s.heap.get? b = some o → h'.get? b = some o) → NewTwo s.heap h' i dx (instObj 206 dx) (dictOf [⟨hs, .str "value" kt, .bytes (asBytes x) nt⟩] 1) → Q (.ref i) { s with heap := h', toks := tk' }) :
    wpAny (model PR w) A (call (.ref 206) [.str x t]) Q E s := by
  refine' make_all X ?k4 ?k5 ?k6 ?_
  case k4 => k_is
  case k5 => k_is
  case k6 => k_is
  have hd : ((s.heap.push emptyDict).push (instObj 206 s.heap.objs.size)).get? s.heap.objs.size = some (dictOf [] 0) := Heap.get?_push_of_some _ (Heap.get?_push_size _ rfl)
  have hi : ((s.heap.push emptyDict).push (instObj 206 s.heap.objs.size)).get? (s.heap.objs.size + 1) = some (instObj 206 s.heap.objs.size) := by
    have := Heap.get?_push_size (s.heap.push emptyDict) (o := instObj 206 s.heap.objs.size) rfl
    rwa [Heap.size_push] at this
  have hkk : ∀ b o, s.heap.get? b = some o → ((s.heap.push emptyDict).push (instObj 206 s.heap.objs.size)).get? b = some o := fun b o e => Heap.get?_push_of_some _ (Heap.get?_push_of_some _ e)
  have n1 : s.heap.get? s.heap.objs.size = none := get_none_top (Nat.le_refl _)
  have n2 : s.heap.get? (s.heap.objs.size + 1) = none := get_none_top (Nat.le_succ _)
  have l2 : s.heap.objs.size < s.heap.objs.size + 1 := Nat.lt_succ_self _
  generalize hD : (s.heap.push emptyDict).push (instObj 206 s.heap.objs.size) = h1 at hd hi hkk ⊢
  clear hD
  generalize hI : s.heap.objs.size + 1 = i at hd hi n2 l2 ⊢
  clear hI
  generalize hJ : s.heap.objs.size = dx at hd hi n1 l2 ⊢
  clear hJ
  have kg : ∀ b o, s.heap.get? b = some o → (without h1 [(i, instObj 206 dx), (dx, dictOf [] 0)]).get? b = some o := fun b o e => without_get (hkk b o e) fun q hq e2 => by
    rcases List.mem_cons.mp hq with rfl | hq
    · have e3 : i = b := e2
      subst e3
      rw [n2] at e; cases e
    · rcases List.mem_cons.mp hq with rfl | hq
      · have e3 : dx = b := e2
        subst e3
        rw [n1] at e; cases e
      · cases hq
  have NS : ∀ q ∈ ([(i, instObj 206 dx), (dx, dictOf [] 0)] : List (Addr × Obj)), h1.get? q.1 = some q.2 := fun q hq => by
    rcases List.mem_cons.mp hq with rfl | hq
    · exact hi
    · rcases List.mem_cons.mp hq with rfl | hq
      · exact hd
      · cases hq
  have X' := X.keeps kg
  have T' := T.keeps kg
  k_dflt (refine' enterC (s := { s with heap := h1 }) X' NS T' ?k6 ?k7 ?k8 ?k9 ?kB ?_ ?c2 ?c3 ?c4 ?c5; (case k6 => k_is); (case k7 => k_is); (case k8 => ktr_room); (case k9 => exact BindsTo.of_eq rfl); (case c5 => decide); (case kB => exact locs rfl); (case c2 => exact rfl); (case c3 => exact rfl); (case c4 => exact rfl); k_whole; intro L' h' F' N')
  try dsimp only at F'
  try dsimp only at N'
  try dsimp only at X'
  try dsimp only at T'
  try dsimp only
  generalize hG : without h1 [(i, instObj 206 dx), (dx, dictOf [] 0)] = g at F' N' kg X' T' ⊢
  clear hG NS X T
  k_lt2 l2
  with_reducible show wpAny _ _ _ _ _ _
  k_fold
  k_steps
  rename_i kK kN
  exact hret _ _ _ _ _ _ _ (fun b o e => kK b o (kg b o e)) ⟨(kN _ (List.Mem.head _)).1, (kN _ (List.Mem.tail _ (List.Mem.head _))).1, n2, n1, l2⟩
end Mine
end
section
open PySem PySem.W PyProof.Rows PySem.Calls PySem.Spec
set_option Elab.async false
set_option maxRecDepth 100000
namespace Mine
def IdOne (x : Str) (y : Value) (objs : List (Addr × Obj)) : Prop := ∃ (i dx : Addr) (hs : Int) (kt nt : Tok), y = .ref i ∧
  ((Txt.isdigit x = true ∧ ∃ n, PySem.intText? x = some n ∧ objs = [(i, instObj 150 dx), (dx, dictOf [⟨hs, .str "value" kt, .int n nt⟩] 1)]) ∨
   (Txt.isdigit x = false ∧ objs = [(i, instObj 206 dx), (dx, dictOf [⟨hs, .str "value" kt, .bytes (asBytes x) nt⟩] 1)]))
def PartOk (x : Str) : Prop := 0 < x.length ∧ x.length ≤ 640 ∧ (∀ c ∈ x.cps.toList, c < 128) ∧ (Txt.isdigit x = true → ∃ n, PySem.intText? x = some n)
def ElPost (EOne : Str → Value → List (Addr × Obj) → Prop) (x : Str) (s₂ : Shared) (y : Value) (s₃ : Shared) : Prop := (∃ objs, EOne x y objs ∧ ∀ p ∈ objs, s₃.heap.get? p.1 = some p.2 ∧ s₂.heap.get? p.1 = none) ∧ Keeps s₂ s₃
theorem two_mem {h h' : Heap} {i dx : Addr} {o o' : Obj} (z : NewTwo h h' i dx o o') : ∀ p ∈ ([(i, o), (dx, o')] : List (Addr × Obj)), h'.get? p.1 = some p.2 ∧ h.get? p.1 = none := fun p hp => by
  obtain ⟨a, b, c, d, _⟩ := z
  rcases List.mem_cons.mp hp with rfl | hp
  · exact ⟨a, c⟩
  · rcases List.mem_cons.mp hp with rfl | hp
    · exact ⟨b, d⟩
    · cases hp
abbrev strVals (parts : List (Str × Tok)) : List Value := parts.map fun p => .str p.1 p.2
def AtOf (EOne : Str → Value → List (Addr × Obj) → Prop) (parts : List (Str × Tok)) (i : Nat) (y : Value) (objs : List (Addr × Obj)) : Prop := ∃ p, parts[i]? = some p ∧ EOne p.1 y objs

def GenIt (w : World) (A : Around) (env : Env) (elt : Expr) (x : Str) (scope : Scope) (cl : List (Str × Addr)) (pos : Pos) (Q E : Value → Shared → Prop) (xv : Value) (s₁ : Shared) : Prop :=
  wpAny (model PR w) A (pyIter xv) (fun it s₂ => s₂.heap.NoLimit ∧
      wpAny (model PR w) A (genexprCode env pos (env.qual ++ "<genexpr>") scope) (fun code s₃ => wpAny (model PR w) A (builtinsFor env.globals env.builtins) (fun bi s₄ =>
        ∃ I fp wr n₀ P St₀ EO, it = .ref I ∧ (∀ A' : Around, A'.handled = none → Walks PR w A' I fp wr n₀ P St₀) ∧ (∀ i h, St₀ i h → ∀ b ∈ wr, ∃ o, h.get? b = some o) ∧ St₀ 0 s₄.heap ∧ (∀ b ∈ fp, b < s₄.heap.objs.size) ∧ s₄.heap.NoLimit ∧ cStatics ∉ wr ∧
          (∀ href : Heap, (∀ b o, s₄.heap.get? b = some o → href.get? b = some o) →
            QuietV PR w (genEnv scope cl s₄.heap.objs.size code bi env) x elt (List.range s₄.heap.objs.size) wr P EO href (A.depth + 1) (A.units + 8)) ∧
          MadeV PR w A s₄ wr n₀ EO Q) E s₃) E s₂) E s₁

theorem genexpK {w : World} {A : Around} {E : Value → Shared → Prop} {s : Shared} {env : Env} {elt iter : Expr} {x : Str} {px : Pos} {scope : Scope} {cl : List (Str × Addr)} {pos : Pos} {Q : Value → Shared → Prop}
    (hh : A.handled = none) (hco : scope.isCoroutine = false) (hclos : closureFor scope env = pure cl) (hcell : ∀ y ∈ scope.names, y.2 ≠ .cell) (h0 : scope.names.lookup (".0" : Str) = some NameKind.local)
    (hx : scope.names.lookup x = some .local) (hkind : scope.kind = .function) (hroom : A.depth < recursionLimit) (hs : ∀ x, genFold iter env x = pure x)
    (h : wpAny (model PR w) A (eval iter env) (GenIt w A env elt x scope cl pos Q E) E s) :
    wpAny (model PR w) A (eval (.GeneratorExp elt [⟨.Name x px, iter, [], 0⟩] scope pos) env) Q E s := genexpV hh hco hclos hcell h0 hx hkind hroom h hs

def GenOn (w : World) (A : Around) (a : Addr) (n : Nat) (EO : Nat → Value → List (Addr × Obj) → Prop) (h₀ : Heap) (L : Addr) (led : List (Addr × Obj)) (s : Shared) : Prop :=
  ∃ fp wr g St, WalksV PR w A.in4 a fp wr (GenOnlyQ g) n EO St ∧ St 0 s ∧ (∀ i s, St i s → s.TypeIs (.ref a) "generator") ∧ a ∈ fp ∧ (∀ b ∈ fp, b < s.heap.objs.size) ∧ ∀ b ∈ wr, b ≠ L ∧ h₀.get? b = none ∧ ∀ q ∈ led, q.1 ≠ b

theorem GenIt.tup {w : World} {A : Around} {env : Env} {elt : Expr} {x : Str} {scope : Scope} {cl : List (Str × Addr)} {pos : Pos} {Q E : Value → Shared → Prop} {s : Shared} {h₀ : Heap} {L c P t : Addr} {m mg mb : Str → Option Value} {loose : List Str} {mean : ExcName → Option Value} {news : List (Addr × Obj)} {g : Obj → List (Addr × Obj)} {ps : Array Value} {EOne : Str → Value → List (Addr × Obj) → Prop} (parts : List (Str × Tok))
    (F : Fr h₀ L s.heap m) (X : (Mine.hd.heap_39 w.params).In h₀) (T : Top topProg loose mean mg mb h₀) (N : News h₀ L s.heap news) (hT : s.heap.IsTuple t (strVals parts).toArray) (U : UpdF P (tabObj ps) news g)
    (C : CodeHd h₀ c P) (hcd : env.code = .ref c) (hge : env.globals = mainGlobals) (ht : TriplesOk ps.toList) (G : AllBare s.gens)
    (helt : ∀ (A' : Around) E' (p : Str × Tok) (s₂ : Shared) m₂ (C : Addr) (code : Value), p ∈ parts → A'.handled = none → A'.depth ≤ A.depth + 1 → s₂.heap.Ns C m₂ → m₂ x = some (.str p.1 p.2) → (Mine.hd.heap_39 w.params).In s₂.heap → Top topProg loose mean mg mb s₂.heap →
      wpAny (model PR w) A' (eval elt (genEnv scope cl C code builtinsNs env)) (ElPost EOne p.1 s₂) E' s₂)
    (hQ : ∀ (a : Addr) (ps' : Array Value) (s₅ : Shared), Fr h₀ L s₅.heap m → News h₀ L s₅.heap (g (tabObj ps')) → TriplesOk ps'.toList → AllBare s₅.gens → s₅.os = s.os → GenOn w A a parts.length (AtOf EOne parts) h₀ L (g (tabObj ps')) s₅ → Q (.ref a) s₅) :
    GenIt w A env elt x scope cl pos Q E (.ref t) s := by
  obtain ⟨own, rest, rfl, hgr, hp1, hp2⟩ := U.split
  have hm := N (P, tabObj ps) (List.mem_append_right _ (.head _))
  have hgs := T.g.keeps F.keep
  obtain ⟨bm, ob, b1, b2, b3, b4, b5, b6⟩ := T.bmain
  have hgP : mainGlobals ≠ P := fun q => by
    obtain ⟨o, es, ep, e, hd, _⟩ := hgs
    rw [q, hm.1] at e; cases e; cases hd
  have hbP : bm ≠ P := fun q => by
    have e := F.keep _ _ b3
    rw [q, hm.1] at e; cases e; cases b4
  have hlim : s.heap.NoLimit := T.nolimit.keeps F.keep
  have hcP : cStatics ≠ P := fun e => by
    obtain ⟨_, hns, _⟩ := hlim
    obtain ⟨o, es, ep, ho, hd, _⟩ := hns
    rw [e, hm.1] at ho; cases ho; cases hd
  have hLs : L < s.heap.objs.size := F.ns.lt
  have htP : t ≠ P := fun e => by
    obtain ⟨o, e1, e2, _⟩ := hT
    rw [e, hm.1] at e1; cases e1; cases e2
  have hlt : t < s.heap.objs.size := by obtain ⟨_, e, _⟩ := hT; exact Heap.lt_size e
  unfold GenIt
  refine wpAny_pyIter_tuple hT ⟨hlim.push _, ?_⟩
  generalize hS : ({ s with heap := s.heap.push { cls := .type "tuple_iterator", data := .fields #[.ref t, .int 0 0] } } : Shared) = s₂
  have s2h : s₂.heap = s.heap.push { cls := .type "tuple_iterator", data := .fields #[.ref t, .int 0 0] } := by rw [← hS]
  have s2g : s₂.gens = s.gens := by rw [← hS]
  have s2o : s₂.os = s.os := by rw [← hS]
  have k2 : ∀ b o, s.heap.get? b = some o → s₂.heap.get? b = some o := fun b o e => s2h ▸ Heap.get?_push_of_some _ e
  have hit : s₂.heap.IsTupleIter s.heap.objs.size t 0 := by rw [s2h]; exact ⟨_, Heap.get?_push_size _ rfl, rfl, rfl⟩
  have sz2 : s₂.heap.objs.size = s.heap.objs.size + 1 := by rw [s2h, Heap.size_push]
  have hP2 : s₂.heap.get? P = some (tabObj ps) := k2 _ _ hm.1
  have C2 : CodeHd s₂.heap c P := (C.keeps F.keep).keeps k2
  clear hS
  -- the code of the generator: found, or made
  have hcode : ∀ {QQ : Value → Shared → Prop}, (∀ code h₃ tk ps', Heap.ExtBut P s₂.heap h₃ → s₂.heap.objs.size ≤ h₃.objs.size → h₃.get? P = some (tabObj ps') → TriplesOk ps'.toList → QQ code { s₂ with heap := h₃, toks := tk }) →
      wpAny (model PR w) A (genexprCode env pos (env.qual ++ "<genexpr>") scope) QQ E s₂ := by
    intro QQ hQQ
    cases hf : codeAmong pos ps.toList with
    | some cv => exact wpAny_genexprCode_hit hcd (C2.code hP2 ht) hf (hQQ cv s₂.heap s₂.toks ps (Heap.ExtBut.refl _ _) (Nat.le_refl _) hP2 ht)
    | none =>
      refine wpAny_genexprCodeX hcd (C2.code hP2 ht) (C2.tab hP2) hf fun c' h₃ tk₃ hx₃ hge' hlt' hcode₃ _ htab₃ _ => ?_
      refine hQQ _ h₃ tk₃ _ hx₃ (Nat.le_trans hge' (Nat.le_of_lt hlt')) htab₃.2 ?_
      rw [show (ps ++ #[rawInt pos.line, rawInt pos.col, Value.ref c']).toList = ps.toList ++ [rawInt pos.line, rawInt pos.col, .ref c'] by simp]
      exact TriplesOk_snoc _ _ _ _ ht
  refine hcode fun code h₃ tk₃ ps' hx₃ hsz₃ hP₃ ht' => ?_
  have k3 : ∀ b o, b ≠ P → s.heap.get? b = some o → h₃.get? b = some o := fun b o hb e => hx₃ b o hb (k2 b o e)
  have hg₃ : h₃.Ns mainGlobals mg := (hgs.keeps k2).extBut hx₃ hgP
  rw [hge]
  refine wpAny_builtinsFor (s := { s₂ with heap := h₃, toks := tk₃ }) hg₃ b1 b2 (k3 _ _ hbP (F.keep _ _ b3)) b4 b5 b6 ?_
  have hl₃ : h₃.NoLimit := (hlim.keeps k2).extBut hx₃ hcP
  have hI : s.heap.objs.size ≠ P := fun e => by
    have := Heap.lt_size hm.1
    rw [e] at this; exact Nat.lt_irrefl _ this
  have hit₃ : h₃.IsTupleIter s.heap.objs.size t 0 := by obtain ⟨o, e, r⟩ := hit; exact ⟨o, hx₃ _ _ hI e, r⟩
  have hT₃ : h₃.IsTuple t (strVals parts).toArray := by obtain ⟨o, e, r⟩ := hT; exact ⟨o, k3 _ _ htP e, r⟩
  have hlt3 : s.heap.objs.size < h₃.objs.size := by omega
  have old₀ : ∀ b o, h₀.get? b = some o → b ≠ P := fun b o e q => by rw [q, hm.2.2] at e; cases e
  have lt₀ : ∀ b o, h₀.get? b = some o → b < s.heap.objs.size := fun b o e => Heap.lt_size (F.keep b o e)
  refine ⟨s.heap.objs.size, [s.heap.objs.size, t], [s.heap.objs.size], (strVals parts).toArray.size, _, _, AtOf EOne parts, rfl, (fun A' hA => Walks.tuple hA _ _ (Nat.ne_of_lt hlt) _), ?_, ⟨hit₃, hT₃⟩, ?_, hl₃, ?_, ?_, ?_⟩
  · rintro i h ⟨⟨o, e, _⟩, _⟩ b hb
    rcases List.mem_cons.mp hb with rfl | hb
    · exact ⟨o, e⟩
    · cases hb
  · intro b hb
    rcases List.mem_cons.mp hb with rfl | hb
    · exact hlt3
    · rcases List.mem_cons.mp hb with rfl | hb
      · exact Nat.lt_trans hlt hlt3
      · cases hb
  · intro hmem
    rcases List.mem_cons.mp hmem with e | hmem
    · obtain ⟨_, hns, _⟩ := hlim
      have := hns.lt
      rw [e] at this; exact Nat.lt_irrefl _ this
    · cases hmem
  · intro href hhref A' E' i v s₃ m₂ hA hD hU hP hn hmx hkp
    obtain ⟨p, hp, rfl⟩ : ∃ p, parts[i]? = some p ∧ v = .str p.1 p.2 := by
      have : (strVals parts)[i]? = some v := by simpa using hP
      rw [List.getElem?_map] at this
      cases e : parts[i]? with
      | none => rw [e] at this; cases this
      | some p => rw [e] at this; exact ⟨p, rfl, (Option.some.inj this).symm⟩
    have kk : ∀ b o, h₀.get? b = some o → s₃.heap.get? b = some o := fun b o e => by
      have e3 := k3 b o (old₀ b o e) (F.keep b o e)
      refine hkp b (List.mem_range.mpr (Heap.lt_size e3)) (fun q => ?_) o (hhref b o e3)
      rcases List.mem_cons.mp q with q | q
      · exact Nat.lt_irrefl _ (q ▸ lt₀ b o e)
      · cases q
    refine wpAny_mono (helt A' E' p s₃ m₂ _ code (List.mem_of_getElem? hp) hA hD hn hmx (X.keeps kk) (T.keeps kk)) (fun y s₄ hq => ?_) fun _ _ z => z
    obtain ⟨⟨objs, h1, h2⟩, h3⟩ := hq
    exact ⟨⟨objs, ⟨p, hp, h1⟩, h2⟩, h3⟩
  · intro a h₅ tk gs hbare haC hsz₅ hk₅ W hst
    dsimp only at haC hsz₅ hk₅ W hst ⊢
    have k5 : ∀ b o, b ≠ P → s.heap.get? b = some o → h₅.get? b = some o := fun b o hb e => hk₅ b o (k3 b o hb e)
    have len : (strVals parts).toArray.size = parts.length := by simp
    rw [len] at W hst
    refine hQ a ps' _ ⟨F.ns.at' fun o e => k5 _ _ hm.2.1.symm e, fun b o e => k5 b o (old₀ b o e) (F.keep b o e), F.above⟩ (fun q hq => ?_) ht' (fun y hy => ?_) s2o ⟨_, _, _, _, W, hst, fun i s st => ?_, List.mem_cons_self, ?_, ?_⟩
    · rw [hgr] at hq
      rcases List.mem_append.mp hq with hq | hq
      · have n := N q (List.mem_append_left _ hq)
        exact ⟨k5 _ _ (hp1 q hq) n.1, n.2⟩
      · rcases List.mem_cons.mp hq with rfl | hq
        · exact ⟨hk₅ _ _ hP₃, hm.2⟩
        · have n := N q (List.mem_append_right _ (.tail _ hq))
          exact ⟨k5 _ _ (hp2 q hq) n.1, n.2⟩
    · rcases Array.mem_push.mp hy with hy | rfl
      · exact G y (by rw [← s2g]; exact hy)
      · exact hbare
    · obtain ⟨o, nm, qn, e1, e2, _⟩ := st.1
      exact ⟨o, e1, e2⟩
    · intro b hb
      show b < h₅.objs.size
      have haC' : h₃.objs.size < a := haC
      have hsz' : h₅.objs.size = a + 1 := hsz₅
      rw [hsz']
      rcases List.mem_cons.mp hb with rfl | hb
      · exact Nat.lt_succ_self _
      · rcases List.mem_cons.mp hb with rfl | hb
        · exact Nat.lt_succ_of_lt haC'
        · exact Nat.lt_succ_of_lt (Nat.lt_trans (List.mem_range.mp hb) haC')
    · intro b hb
      have hb' : s.heap.objs.size ≤ b := by
        rcases List.mem_cons.mp hb with rfl | hb
        · exact Nat.le_of_lt hlt3
        · rcases List.mem_cons.mp hb with rfl | hb
          · exact Nat.le_refl _
          · cases hb
      refine ⟨Nat.ne_of_gt (Nat.lt_of_lt_of_le hLs hb'), ?_, fun q hq => ?_⟩
      · cases e : h₀.get? b with
        | none => rfl
        | some o => exact absurd (lt₀ b o e) (Nat.not_lt.mpr hb')
      · refine Nat.ne_of_lt (Nat.lt_of_lt_of_le ?_ hb')
        rw [hgr] at hq
        rcases List.mem_append.mp hq with hq | hq
        · exact Heap.lt_size (N q (List.mem_append_left _ hq)).1
        · rcases List.mem_cons.mp hq with rfl | hq
          · exact Heap.lt_size hm.1
          · exact Heap.lt_size (N q (List.mem_append_right _ (.tail _ hq))).1

theorem GenIt.list {w : World} {A : Around} {env : Env} {elt : Expr} {x : Str} {scope : Scope} {cl : List (Str × Addr)} {pos : Pos} {Q E : Value → Shared → Prop} {s : Shared} {h₀ : Heap} {L c P t : Addr} {m mg mb : Str → Option Value} {loose : List Str} {mean : ExcName → Option Value} {news : List (Addr × Obj)} {g : Obj → List (Addr × Obj)} {ps : Array Value} {EOne : Str → Value → List (Addr × Obj) → Prop} (parts : List (Str × Tok))
    (F : Fr h₀ L s.heap m) (X : (Mine.hd.heap_39 w.params).In h₀) (T : Top topProg loose mean mg mb h₀) (N : News h₀ L s.heap news) (hT : s.heap.IsList t (strVals parts).toArray) (U : UpdF P (tabObj ps) news g)
    (C : CodeHd h₀ c P) (hcd : env.code = .ref c) (hge : env.globals = mainGlobals) (ht : TriplesOk ps.toList) (G : AllBare s.gens)
    (helt : ∀ (A' : Around) E' (p : Str × Tok) (s₂ : Shared) m₂ (C : Addr) (code : Value), p ∈ parts → A'.handled = none → A'.depth ≤ A.depth + 1 → s₂.heap.Ns C m₂ → m₂ x = some (.str p.1 p.2) → (Mine.hd.heap_39 w.params).In s₂.heap → Top topProg loose mean mg mb s₂.heap →
      wpAny (model PR w) A' (eval elt (genEnv scope cl C code builtinsNs env)) (ElPost EOne p.1 s₂) E' s₂)
    (hQ : ∀ (a : Addr) (ps' : Array Value) (s₅ : Shared), Fr h₀ L s₅.heap m → News h₀ L s₅.heap (g (tabObj ps')) → TriplesOk ps'.toList → AllBare s₅.gens → s₅.os = s.os → GenOn w A a parts.length (AtOf EOne parts) h₀ L (g (tabObj ps')) s₅ → Q (.ref a) s₅) :
    GenIt w A env elt x scope cl pos Q E (.ref t) s := by
  obtain ⟨own, rest, rfl, hgr, hp1, hp2⟩ := U.split
  have hm := N (P, tabObj ps) (List.mem_append_right _ (.head _))
  have hgs := T.g.keeps F.keep
  obtain ⟨bm, ob, b1, b2, b3, b4, b5, b6⟩ := T.bmain
  have hgP : mainGlobals ≠ P := fun q => by
    obtain ⟨o, es, ep, e, hd, _⟩ := hgs
    rw [q, hm.1] at e; cases e; cases hd
  have hbP : bm ≠ P := fun q => by
    have e := F.keep _ _ b3
    rw [q, hm.1] at e; cases e; cases b4
  have hlim : s.heap.NoLimit := T.nolimit.keeps F.keep
  have hcP : cStatics ≠ P := fun e => by
    obtain ⟨_, hns, _⟩ := hlim
    obtain ⟨o, es, ep, ho, hd, _⟩ := hns
    rw [e, hm.1] at ho; cases ho; cases hd
  have hLs : L < s.heap.objs.size := F.ns.lt
  have htP : t ≠ P := fun e => by
    obtain ⟨o, e1, e2, _⟩ := hT
    rw [e, hm.1] at e1; cases e1; cases e2
  have hlt : t < s.heap.objs.size := by obtain ⟨_, e, _⟩ := hT; exact Heap.lt_size e
  unfold GenIt
  refine wpAny_pyIter_list hT ⟨hlim.push _, ?_⟩
  generalize hS : ({ s with heap := s.heap.push { cls := .type "list_iterator", data := .fields #[.ref t, .int 0 0] } } : Shared) = s₂
  have s2h : s₂.heap = s.heap.push { cls := .type "list_iterator", data := .fields #[.ref t, .int 0 0] } := by rw [← hS]
  have s2g : s₂.gens = s.gens := by rw [← hS]
  have s2o : s₂.os = s.os := by rw [← hS]
  have k2 : ∀ b o, s.heap.get? b = some o → s₂.heap.get? b = some o := fun b o e => s2h ▸ Heap.get?_push_of_some _ e
  have hit : s₂.heap.IsListIter s.heap.objs.size t 0 := by rw [s2h]; exact ⟨_, Heap.get?_push_size _ rfl, rfl, rfl⟩
  have sz2 : s₂.heap.objs.size = s.heap.objs.size + 1 := by rw [s2h, Heap.size_push]
  have hP2 : s₂.heap.get? P = some (tabObj ps) := k2 _ _ hm.1
  have C2 : CodeHd s₂.heap c P := (C.keeps F.keep).keeps k2
  clear hS
  -- the code of the generator: found, or made
  have hcode : ∀ {QQ : Value → Shared → Prop}, (∀ code h₃ tk ps', Heap.ExtBut P s₂.heap h₃ → s₂.heap.objs.size ≤ h₃.objs.size → h₃.get? P = some (tabObj ps') → TriplesOk ps'.toList → QQ code { s₂ with heap := h₃, toks := tk }) →
      wpAny (model PR w) A (genexprCode env pos (env.qual ++ "<genexpr>") scope) QQ E s₂ := by
    intro QQ hQQ
    cases hf : codeAmong pos ps.toList with
    | some cv => exact wpAny_genexprCode_hit hcd (C2.code hP2 ht) hf (hQQ cv s₂.heap s₂.toks ps (Heap.ExtBut.refl _ _) (Nat.le_refl _) hP2 ht)
    | none =>
      refine wpAny_genexprCodeX hcd (C2.code hP2 ht) (C2.tab hP2) hf fun c' h₃ tk₃ hx₃ hge' hlt' hcode₃ _ htab₃ _ => ?_
      refine hQQ _ h₃ tk₃ _ hx₃ (Nat.le_trans hge' (Nat.le_of_lt hlt')) htab₃.2 ?_
      rw [show (ps ++ #[rawInt pos.line, rawInt pos.col, Value.ref c']).toList = ps.toList ++ [rawInt pos.line, rawInt pos.col, .ref c'] by simp]
      exact TriplesOk_snoc _ _ _ _ ht
  refine hcode fun code h₃ tk₃ ps' hx₃ hsz₃ hP₃ ht' => ?_
  have k3 : ∀ b o, b ≠ P → s.heap.get? b = some o → h₃.get? b = some o := fun b o hb e => hx₃ b o hb (k2 b o e)
  have hg₃ : h₃.Ns mainGlobals mg := (hgs.keeps k2).extBut hx₃ hgP
  rw [hge]
  refine wpAny_builtinsFor (s := { s₂ with heap := h₃, toks := tk₃ }) hg₃ b1 b2 (k3 _ _ hbP (F.keep _ _ b3)) b4 b5 b6 ?_
  have hl₃ : h₃.NoLimit := (hlim.keeps k2).extBut hx₃ hcP
  have hI : s.heap.objs.size ≠ P := fun e => by
    have := Heap.lt_size hm.1
    rw [e] at this; exact Nat.lt_irrefl _ this
  have hit₃ : h₃.IsListIter s.heap.objs.size t 0 := by obtain ⟨o, e, r⟩ := hit; exact ⟨o, hx₃ _ _ hI e, r⟩
  have hT₃ : h₃.IsList t (strVals parts).toArray := by obtain ⟨o, e, r⟩ := hT; exact ⟨o, k3 _ _ htP e, r⟩
  have hlt3 : s.heap.objs.size < h₃.objs.size := by omega
  have old₀ : ∀ b o, h₀.get? b = some o → b ≠ P := fun b o e q => by rw [q, hm.2.2] at e; cases e
  have lt₀ : ∀ b o, h₀.get? b = some o → b < s.heap.objs.size := fun b o e => Heap.lt_size (F.keep b o e)
  refine ⟨s.heap.objs.size, [s.heap.objs.size, t], [s.heap.objs.size], (strVals parts).toArray.size, _, _, AtOf EOne parts, rfl, (fun A' hA => Walks.list hA _ _ (Nat.ne_of_lt hlt) _), ?_, ⟨hit₃, hT₃⟩, ?_, hl₃, ?_, ?_, ?_⟩
  · rintro i h ⟨⟨o, e, _⟩, _⟩ b hb
    rcases List.mem_cons.mp hb with rfl | hb
    · exact ⟨o, e⟩
    · cases hb
  · intro b hb
    rcases List.mem_cons.mp hb with rfl | hb
    · exact hlt3
    · rcases List.mem_cons.mp hb with rfl | hb
      · exact Nat.lt_trans hlt hlt3
      · cases hb
  · intro hmem
    rcases List.mem_cons.mp hmem with e | hmem
    · obtain ⟨_, hns, _⟩ := hlim
      have := hns.lt
      rw [e] at this; exact Nat.lt_irrefl _ this
    · cases hmem
  · intro href hhref A' E' i v s₃ m₂ hA hD hU hP hn hmx hkp
    obtain ⟨p, hp, rfl⟩ : ∃ p, parts[i]? = some p ∧ v = .str p.1 p.2 := by
      have : (strVals parts)[i]? = some v := by simpa using hP
      rw [List.getElem?_map] at this
      cases e : parts[i]? with
      | none => rw [e] at this; cases this
      | some p => rw [e] at this; exact ⟨p, rfl, (Option.some.inj this).symm⟩
    have kk : ∀ b o, h₀.get? b = some o → s₃.heap.get? b = some o := fun b o e => by
      have e3 := k3 b o (old₀ b o e) (F.keep b o e)
      refine hkp b (List.mem_range.mpr (Heap.lt_size e3)) (fun q => ?_) o (hhref b o e3)
      rcases List.mem_cons.mp q with q | q
      · exact Nat.lt_irrefl _ (q ▸ lt₀ b o e)
      · cases q
    refine wpAny_mono (helt A' E' p s₃ m₂ _ code (List.mem_of_getElem? hp) hA hD hn hmx (X.keeps kk) (T.keeps kk)) (fun y s₄ hq => ?_) fun _ _ z => z
    obtain ⟨⟨objs, h1, h2⟩, h3⟩ := hq
    exact ⟨⟨objs, ⟨p, hp, h1⟩, h2⟩, h3⟩
  · intro a h₅ tk gs hbare haC hsz₅ hk₅ W hst
    dsimp only at haC hsz₅ hk₅ W hst ⊢
    have k5 : ∀ b o, b ≠ P → s.heap.get? b = some o → h₅.get? b = some o := fun b o hb e => hk₅ b o (k3 b o hb e)
    have len : (strVals parts).toArray.size = parts.length := by simp
    rw [len] at W hst
    refine hQ a ps' _ ⟨F.ns.at' fun o e => k5 _ _ hm.2.1.symm e, fun b o e => k5 b o (old₀ b o e) (F.keep b o e), F.above⟩ (fun q hq => ?_) ht' (fun y hy => ?_) s2o ⟨_, _, _, _, W, hst, fun i s st => ?_, List.mem_cons_self, ?_, ?_⟩
    · rw [hgr] at hq
      rcases List.mem_append.mp hq with hq | hq
      · have n := N q (List.mem_append_left _ hq)
        exact ⟨k5 _ _ (hp1 q hq) n.1, n.2⟩
      · rcases List.mem_cons.mp hq with rfl | hq
        · exact ⟨hk₅ _ _ hP₃, hm.2⟩
        · have n := N q (List.mem_append_right _ (.tail _ hq))
          exact ⟨k5 _ _ (hp2 q hq) n.1, n.2⟩
    · rcases Array.mem_push.mp hy with hy | rfl
      · exact G y (by rw [← s2g]; exact hy)
      · exact hbare
    · obtain ⟨o, nm, qn, e1, e2, _⟩ := st.1
      exact ⟨o, e1, e2⟩
    · intro b hb
      show b < h₅.objs.size
      have haC' : h₃.objs.size < a := haC
      have hsz' : h₅.objs.size = a + 1 := hsz₅
      rw [hsz']
      rcases List.mem_cons.mp hb with rfl | hb
      · exact Nat.lt_succ_self _
      · rcases List.mem_cons.mp hb with rfl | hb
        · exact Nat.lt_succ_of_lt haC'
        · exact Nat.lt_succ_of_lt (Nat.lt_trans (List.mem_range.mp hb) haC')
    · intro b hb
      have hb' : s.heap.objs.size ≤ b := by
        rcases List.mem_cons.mp hb with rfl | hb
        · exact Nat.le_of_lt hlt3
        · rcases List.mem_cons.mp hb with rfl | hb
          · exact Nat.le_refl _
          · cases hb
      refine ⟨Nat.ne_of_gt (Nat.lt_of_lt_of_le hLs hb'), ?_, fun q hq => ?_⟩
      · cases e : h₀.get? b with
        | none => rfl
        | some o => exact absurd (lt₀ b o e) (Nat.not_lt.mpr hb')
      · refine Nat.ne_of_lt (Nat.lt_of_lt_of_le ?_ hb')
        rw [hgr] at hq
        rcases List.mem_append.mp hq with hq | hq
        · exact Heap.lt_size (N q (List.mem_append_left _ hq)).1
        · rcases List.mem_cons.mp hq with rfl | hq
          · exact Heap.lt_size hm.1
          · exact Heap.lt_size (N q (List.mem_append_right _ (.tail _ hq))).1

theorem GenIt.tup2 {w : World} {A : Around} {env : Env} {elt : Expr} {x : Str} {scope : Scope} {cl : List (Str × Addr)} {pos : Pos} {Q E : Value → Shared → Prop} {s : Shared} {h₀ : Heap} {L c P t : Addr} {m mg mb : Str → Option Value} {loose : List Str} {mean : ExcName → Option Value} {news : List (Addr × Obj)} {g : Obj → List (Addr × Obj)} {ps : Array Value} {EOne : Str → Value → List (Addr × Obj) → Prop} (parts : List (Str × Tok))
    (F : Fr h₀ L s.heap m) (X : (Mine.hd.heap_39 w.params).In h₀) (T : Top topProg loose mean mg mb h₀) (N : News h₀ L s.heap news) (hT : s.heap.IsTuple t (strVals parts).toArray) (C : CodeHd h₀ c P) (ht : TriplesOk ps.toList) (U : UpdF P (tabObj ps) news g)
    (hcd : env.code = .ref c) (hge : env.globals = mainGlobals) (G : AllBare s.gens)
    (hh : (∀ (A' : Around) E' (p : Str × Tok) (s₂ : Shared) m₂ (C : Addr) (code : Value), p ∈ parts → A'.handled = none → A'.depth ≤ A.depth + 1 → s₂.heap.Ns C m₂ → m₂ x = some (.str p.1 p.2) → (Mine.hd.heap_39 w.params).In s₂.heap → Top topProg loose mean mg mb s₂.heap →
      wpAny (model PR w) A' (eval elt (genEnv scope cl C code builtinsNs env)) (ElPost EOne p.1 s₂) E' s₂) ∧
    (∀ (a : Addr) (ps' : Array Value) (s₅ : Shared), Fr h₀ L s₅.heap m → News h₀ L s₅.heap (g (tabObj ps')) → TriplesOk ps'.toList → AllBare s₅.gens → s₅.os = s.os → GenOn w A a parts.length (AtOf EOne parts) h₀ L (g (tabObj ps')) s₅ → Q (.ref a) s₅)) :
    GenIt w A env elt x scope cl pos Q E (.ref t) s := GenIt.tup parts F X T N hT U C hcd hge ht G hh.1 hh.2
theorem GenIt.list2 {w : World} {A : Around} {env : Env} {elt : Expr} {x : Str} {scope : Scope} {cl : List (Str × Addr)} {pos : Pos} {Q E : Value → Shared → Prop} {s : Shared} {h₀ : Heap} {L c P t : Addr} {m mg mb : Str → Option Value} {loose : List Str} {mean : ExcName → Option Value} {news : List (Addr × Obj)} {g : Obj → List (Addr × Obj)} {ps : Array Value} {EOne : Str → Value → List (Addr × Obj) → Prop} (parts : List (Str × Tok))
    (F : Fr h₀ L s.heap m) (X : (Mine.hd.heap_39 w.params).In h₀) (T : Top topProg loose mean mg mb h₀) (N : News h₀ L s.heap news) (hT : s.heap.IsList t (strVals parts).toArray) (C : CodeHd h₀ c P) (ht : TriplesOk ps.toList) (U : UpdF P (tabObj ps) news g)
    (hcd : env.code = .ref c) (hge : env.globals = mainGlobals) (G : AllBare s.gens)
    (hh : (∀ (A' : Around) E' (p : Str × Tok) (s₂ : Shared) m₂ (C : Addr) (code : Value), p ∈ parts → A'.handled = none → A'.depth ≤ A.depth + 1 → s₂.heap.Ns C m₂ → m₂ x = some (.str p.1 p.2) → (Mine.hd.heap_39 w.params).In s₂.heap → Top topProg loose mean mg mb s₂.heap →
      wpAny (model PR w) A' (eval elt (genEnv scope cl C code builtinsNs env)) (ElPost EOne p.1 s₂) E' s₂) ∧
    (∀ (a : Addr) (ps' : Array Value) (s₅ : Shared), Fr h₀ L s₅.heap m → News h₀ L s₅.heap (g (tabObj ps')) → TriplesOk ps'.toList → AllBare s₅.gens → s₅.os = s.os → GenOn w A a parts.length (AtOf EOne parts) h₀ L (g (tabObj ps')) s₅ → Q (.ref a) s₅)) :
    GenIt w A env elt x scope cl pos Q E (.ref t) s := GenIt.list parts F X T N hT U C hcd hge ht G hh.1 hh.2
abbrev tupObj (vs : List Value) : Obj := { cls := .type "tuple", data := .seq vs.toArray }
theorem tupleOn {w : World} {A : Around} {E : Value → Shared → Prop} {s : Shared} {Q : Value → Shared → Prop} {h₀ : Heap} {L a : Addr} {m : Str → Option Value} {led : List (Addr × Obj)} {n : Nat} {EO : Nat → Value → List (Addr × Obj) → Prop}
    (F : Fr h₀ L s.heap m) (N : News h₀ L s.heap led) (G : AllBare s.gens) (X : GenOn w A a n EO h₀ L led s) (hsz : n ≤ sizeLine)
    (hQ : ∀ (s' : Shared) (t : Addr) (vs : List Value) (objs : List (Addr × Obj)), Fr h₀ L s'.heap m → News h₀ L s'.heap ((t, tupObj vs) :: (led ++ objs)) → EOs EO n vs objs → AllBare s'.gens → s'.os = s.os →
      (∀ p ∈ objs, ∀ q ∈ led, p.1 ≠ q.1) → (∀ q ∈ led, q.1 < t) → (∀ p ∈ objs, p.1 < t) → Q (.ref t) s') :
    wpAny (model PR w) A (call (.type "tuple") [.ref a]) Q E s := by
  obtain ⟨fp, wr, g, St, W, hst, hT, hI, hfp, hwr⟩ := X
  refine call_tupleV (hsz := hsz) W.out hT hst hfp hI fun s' vs objs hm hacc hfr => ?_
  have kL : ∀ o, s.heap.get? L = some o → s'.heap.get? L = some o := fun o e => hm.heap L o (fun q => (hwr L q).1 rfl) e
  have k₀ : ∀ b o, h₀.get? b = some o → s'.heap.get? b = some o := fun b o e => hm.heap b o (fun q => by have := (hwr b q).2.1; rw [this] at e; cases e) (F.keep b o e)
  have kN : ∀ q ∈ led, s'.heap.get? q.1 = some q.2 := fun q hq => hm.heap _ _ (fun z => (hwr _ z).2.2 q hq rfl) (N q hq).1
  have F' : Fr h₀ L s'.heap m := ⟨F.ns.at' kL, k₀, F.above⟩
  have hLlt : L < s'.heap.objs.size := F'.ns.lt
  refine hQ _ s'.heap.objs.size vs objs (F'.push _) (fun q hq => ?_) hacc (show AllBare s'.gens from G.movedS hm) hm.os (fun p hp q hq e => ?_) (fun q hq => Heap.lt_size (kN q hq)) (fun p hp => Heap.lt_size (hfr p hp).1)
  · rcases List.mem_cons.mp hq with rfl | hq
    · refine ⟨Heap.get?_push_size _ rfl, Nat.ne_of_gt hLlt, ?_⟩
      cases e : h₀.get? s'.heap.objs.size with
      | none => rfl
      | some o => exact absurd (Heap.lt_size (k₀ _ _ e)) (Nat.lt_irrefl _)
    · rcases List.mem_append.mp hq with hq | hq
      · exact ⟨Heap.get?_push_of_some _ (kN q hq), (N q hq).2⟩
      · have h1 := hfr q hq
        refine ⟨Heap.get?_push_of_some _ h1.1, fun e => ?_, ?_⟩
        · obtain ⟨o, _, _, e2, _⟩ := F.ns
          rw [e, e2] at h1; exact nomatch h1.2.2
        · cases e : h₀.get? q.1 with
          | none => rfl
          | some o => have := F.keep _ _ e; rw [h1.2.2] at this; cases this
  · have h1 := (hfr p hp).2.2
    rw [e, (N q hq).1] at h1; cases h1
end Mine
end
section
theorem Mine.reset_G5 : True := by w_top off; trivial
open PySem PySem.W PyProof.Rows PySem.Calls PySem.Spec
set_option Elab.async false
set_option maxRecDepth 100000
namespace Mine
local macro_rules | `(tactic| walk_at "LeaveP") => `(tactic| (k_dflt (refine' LeaveP.intro ?k1 ?k2 ?_; (case k1 => k_asm); (case k2 => k_asm); k_whole); intro kF kN0 kN kA; (try simp only [List.cons_append, List.nil_append] at kN); (try dsimp only)))
section
variable {M : Model} {A : Around} {E : Value → Shared → Prop} {s : Shared} {Q : Value → Shared → Prop} {scope : Scope} {cl : List (Str × Addr)} {C : Addr} {code : Value} {env : Env} {pos : Pos} {x : Str} {v : Value}
theorem nameG_local {m : Str → Option Value} (hn : s.heap.Ns C m) (hv : m x = some v) (h : Q v s) (hk : scope.kind = .function) (hl : (genEnv scope cl C code builtinsNs env).kindOf x = some .local) (hd : (x == ("__debug__" : Str)) = false := by decide) :
    wpAny M A (eval (.Name x pos) (genEnv scope cl C code builtinsNs env)) Q E s := wpAny_Name (wpAny_loadName_local hk hl hn hv h) hd
theorem nameG_global {K : Frag} {mg mb : Str → Option Value} {p : Program} {loose : List Str} {mean : ExcName → Option Value} (X : K.In s.heap) (T : Top p loose mean mg mb s.heap) (e : nsIn K mainGlobals x = some (some v)) (h : Q v s) (hg : env.globals = mainGlobals) (hk : scope.kind = .function)
    (hx : (genEnv scope cl C code builtinsNs env).kindOf x = some .globalImplicit) (hd : (x == ("__debug__" : Str)) = false := by decide) :
    wpAny M A (eval (.Name x pos) (genEnv scope cl C code builtinsNs env)) Q E s :=
  Calls.Name_function_global hk hx (Calls.loadGlobal_global (env := genEnv scope cl C code builtinsNs env) (show s.heap.Ns env.globals mg from hg ▸ T.g) (mg_of X T.g e) h) hd
end
theorem inGenN {M : Model} {A : Around} {E : Value → Shared → Prop} {s : Shared} {x : Str} {pos : Pos} {scope : Scope} {cl : List (Str × Addr)} {C : Addr} {code : Value} {b : Addr} {env : Env} {Q : Value → Shared → Prop}
    (h : wpAny M A (eval (.Name x pos) (genEnv scope cl C code b env)) Q E s) : wpAny M A (eval (.Name x pos) (genEnv scope cl C code b env)) Q E s := h
theorem two_end {EOne : Str → Value → List (Addr × Obj) → Prop} {x : Str} {s : Shared} {h' : Heap} {tk : Nat} {i dx : Addr} {o o' : Obj} (k : ∀ b o, s.heap.get? b = some o → h'.get? b = some o) (z : NewTwo s.heap h' i dx o o') (e : EOne x (.ref i) [(i, o), (dx, o')]) : ElPost EOne x s (.ref i) { s with heap := h', toks := tk } :=
  ⟨⟨_, e, two_mem z⟩, h', tk, rfl, k⟩
theorem fillG5 : (PySem.Challenge.rw_ci0037_01, Mine.hd.heap_39) = (PySem.Challenge.rw_ci0037_01, Mine.hd.heap_39) := by k_fill; rfl
local macro_rules | `(tactic| walk_at "eval Name") => `(tactic| ((with_reducible refine inGenN ?_); k_dflt (refine' nameG_global ?X ?T ?e ?_ ?hg ?hk ?hx; (case X => with_reducible assumption); (case T => with_reducible assumption); (case e => k_is); (case hg => exact rfl); (case hk => exact rfl); (case hx => exact rfl); k_whole)))
local macro_rules | `(tactic| walk_at "eval Name") => `(tactic| ((with_reducible refine inGenN ?_); k_dflt (refine nameG_local (by with_reducible assumption) (by with_reducible assumption) ?_ (by with_reducible rfl) (by rfl))))
theorem inCall {M : Model} {A : Around} {E : Value → Shared → Prop} {s : Shared} {f : Addr} {x : Str} {t : Tok} {y : Str} {Q : Value → Shared → Prop} {s₂ : Shared}
    (h : wpAny M A (call (.ref f) [.str x t]) (fun v s => ElPost IdOne y s₂ v s) E s) : wpAny M A (call (.ref f) [.str x t]) (ElPost IdOne y s₂) E s := h
theorem code_hd {K : Frag} {h : Heap} {c P : Addr} {vs : Array Value} {file : Str} {tf tg tt : Tok} {flags text : Int} {inF : Bool} {dd : Option Addr} {sl : Array (Option Value)} (X : K.In h) (e : K.lookup c = some ⟨.type "code", dd, .fields vs, sl⟩)
    (h11 : vs[11]? = some (.ref P)) (h11' : vs.getD 11 .none = .ref P) (h18 : vs.getD 18 .none = .str file tf) (h7 : vs.getD 7 .none = .int flags tg) (h9 : vs.getD 9 .none = .bool inF) (h10 : vs.getD 10 .none = .int text tt) (hne : c ≠ P) : CodeHd h c P :=
  ⟨_, vs, file, tf, flags, tg, inF, text, tt, X _ _ e, rfl, rfl, h11, h11', h18, h7, h9, h10, hne⟩
theorem code_327 {w : World} {h : Heap} (X : (Mine.hd.heap_39 w.params).In h) : CodeHd h 327 323 := by
  k_dflt (refine' code_hd X ?e ?a ?b ?c ?d ?f ?g ?h; (case e => k_is); (case a => rfl); (case b => rfl); (case c => rfl); (case d => rfl); (case f => rfl); (case g => rfl); (case h => decide))
theorem code_270 {w : World} {h : Heap} (X : (Mine.hd.heap_39 w.params).In h) : CodeHd h 270 268 := by
  k_dflt (refine' code_hd X ?e ?a ?b ?c ?d ?f ?g ?h; (case e => k_is); (case a => rfl); (case b => rfl); (case c => rfl); (case d => rfl); (case f => rfl); (case g => rfl); (case h => decide))

def IdsOf (parts : List (Str × Tok)) (vs : List Value) (objs : List (Addr × Obj)) : Prop := EOs (AtOf IdOne parts) parts.length vs objs
abbrev verDict (h1 h2 h3 h4 h5 h6 : Int) (k1 k2 k3 k4 k5 k6 : Tok) (v1 v2 v3 v4 v5 v6 : Value) : List DictEntry :=
  [⟨h1, .str "major" k1, v1⟩, ⟨h2, .str "minor" k2, v2⟩, ⟨h3, .str "patch" k3, v3⟩, ⟨h4, .str "prerelease" k4, v4⟩, ⟨h5, .str "build" k5, v5⟩, ⟨h6, .str "partial" k6, v6⟩]

theorem num_end {w : World} {A : Around} {E : Value → Shared → Prop} {mg mb : Str → Option Value} {loose : List Str} {mean : ExcName → Option Value} {x : Str} {t : Tok} {s : Shared} (hP : PartOk x) (hdg : Txt.isdigit x = true) (hroom : A.depth + 6 < recursionLimit)
    (X : (Mine.hd.heap_39 w.params).In s.heap) (T : Top topProg loose mean mg mb s.heap) : wpAny (model PR w) A (call (.ref 150) [.str x t]) (ElPost IdOne x s) E s := by
  obtain ⟨q1, q2, q3, q4⟩ := hP
  obtain ⟨n, hn⟩ := q4 hdg
  refine num_make x t n hn q2 hroom X T fun i dx hs kt nt h' tk' k z => ?_
  exact two_end k z ⟨i, dx, hs, kt, nt, rfl, .inl ⟨hdg, n, hn, rfl⟩⟩
theorem alpha_end {w : World} {A : Around} {E : Value → Shared → Prop} {mg mb : Str → Option Value} {loose : List Str} {mean : ExcName → Option Value} {x : Str} {t : Tok} {s : Shared} (hP : PartOk x) (hdg : Txt.isdigit x = false) (hroom : A.depth + 6 < recursionLimit)
    (X : (Mine.hd.heap_39 w.params).In s.heap) (T : Top topProg loose mean mg mb s.heap) : wpAny (model PR w) A (call (.ref 206) [.str x t]) (ElPost IdOne x s) E s := by
  obtain ⟨q1, q2, q3, q4⟩ := hP
  refine alpha_make x t q1 (by omega) q3 hroom X T fun i dx hs kt nt h' tk' k z => ?_
  exact two_end k z ⟨i, dx, hs, kt, nt, rfl, .inr ⟨hdg, rfl⟩⟩
theorem len_line {n : Nat} (h : n ≤ 1000) : n ≤ sizeLine := Nat.le_trans h (by size_fits)
theorem tupAt {h₀ h : Heap} {L t : Addr} {vs : List Value} {news : List (Addr × Obj)} (N : News h₀ L h news) (hm : (t, tupObj vs) ∈ news) : h.IsTuple t vs.toArray := ⟨_, (N _ hm).1, rfl, _, rfl⟩
local macro_rules | `(tactic| walk_at "call ref") => `(tactic| ((with_reducible show wpAny _ _ (call (Value.ref 150) _) (ElPost _ _ _) _ _); k_dflt (exact num_end (by assumption) (by assumption) (by ktr_room) (by assumption) (by assumption))))
local macro_rules | `(tactic| walk_at "call ref") => `(tactic| ((with_reducible show wpAny _ _ (call (Value.ref 206) _) (ElPost _ _ _) _ _); k_dflt (exact alpha_end (by assumption) (by assumption) (by ktr_room) (by assumption) (by assumption))))
local macro_rules | `(tactic| walk_at "eval GeneratorExp") => `(tactic| (k_here; k_dflt (refine' genexpK ?hh ?hco ?hclos ?hcell ?h0 ?hx ?hkind ?hroom ?hs ?_; (case hh => first | exact rfl | assumption); (case hco => exact rfl); (case hclos => exact rfl); (case hcell => decide); (case h0 => exact rfl); (case hx => exact rfl); (case hkind => exact rfl); (case hroom => ktr_room); (case hs => intro _; exact rfl); k_whole)))
local macro_rules | `(tactic| k_all) => `(tactic| assumption)
local macro_rules | `(tactic| walk_at "GenIt") => `(tactic| (k_here; k_dflt (refine' GenIt.tup2 (EOne := IdOne) [] ?F ?X ?T ?N (tupAt ?N2 ?hm) ?C ?ht ?U ?hcd ?hge ?G ?_; (case F => k_asm); (case X => k_asm); (case T => k_asm); (case N => k_asm); (case N2 => k_asm); (case hm => k_mem); (case C => exact code_327 (by k_asm)); (case ht => assumption); (case U => k_updF); (case hcd => exact rfl); (case hge => exact rfl); (case G => assumption); k_whole); (refine And.intro ?_ ?_) <;> first
  | (intro A' E' p' s' m' C' c' hp' hA' hD' hn' hm' X' T'; exact absurd hp' List.not_mem_nil)
  | (intro A' E' p' s' m' C' c' hp' hA' hD' hn' hm' X' T'; have hP' := (by assumption : ∀ p ∈ _, PartOk p.1) p' hp'; clear hp')
  | (intro a' ps' s' F' N' ht' G' hos' X'; try dsimp only)))
local macro_rules | `(tactic| walk_at "GenIt") => `(tactic| (k_here; k_dflt (refine' GenIt.tup2 (EOne := IdOne) _ ?F ?X ?T ?N (tupAt ?N2 ?hm) ?C ?ht ?U ?hcd ?hge ?G ?_; (case F => k_asm); (case X => k_asm); (case T => k_asm); (case N => k_asm); (case N2 => k_asm); (case hm => k_mem); (case C => exact code_327 (by k_asm)); (case ht => assumption); (case U => k_updF); (case hcd => exact rfl); (case hge => exact rfl); (case G => assumption); k_whole); (refine And.intro ?_ ?_) <;> first
  | (intro A' E' p' s' m' C' c' hp' hA' hD' hn' hm' X' T'; exact absurd hp' List.not_mem_nil)
  | (intro A' E' p' s' m' C' c' hp' hA' hD' hn' hm' X' T'; have hP' := (by assumption : ∀ p ∈ _, PartOk p.1) p' hp'; clear hp')
  | (intro a' ps' s' F' N' ht' G' hos' X'; try dsimp only)))
local macro_rules | `(tactic| walk_at "truthy ref") => `(tactic| (k_here; (with_reducible show wpAny _ _ (truthy (Value.ref _)) _ _ _); k_dflt (refine' ktl_truthyK ?N ?m ?z ?_; (case N => k_asm); (case m => k_mem); (case z => first | (simp only [strVals, List.length_map]; assumption) | exact Nat.le_of_ble_eq_true rfl); k_whole)))
local macro_rules | `(tactic| walk_at "call type:tuple") => `(tactic| (k_here; (with_reducible show wpAny _ _ (call (Value.type _) [Value.ref _]) _ _ _); k_dflt (refine' tupleOn ?F ?N ?G ?X ?hsz ?_; (case X => assumption); (case F => k_asm); (case N => k_asm); (case G => assumption); (case hsz => first | exact len_line (by assumption) | exact Nat.zero_le _); k_whole); intro s' t' vs' objs' F' N' EO' G' hos' a1' l1' a3'; (try k_lt l1'); have b1' : ∀ p ∈ objs', p.1 ≠ (323 : Nat) := (fun p hp => a1' p hp (323, _) (by k_mem)); have b3' := (fun (p : Addr × Obj) (hp : p ∈ objs') => And.intro (a1' p hp (_, dictOf (_ :: _) _) (by k_mem)) (b1' p hp)); (try dsimp only at b3'); (simp only [List.cons_append, List.nil_append, List.append_assoc] at N')))

def PreKey (pre : List (Str × Tok)) (pk : Addr) (ko : List (Addr × Obj)) : Prop :=
  (pre = [] ∧ ∃ mx md : Addr, ko = [(pk, tupObj [.ref mx]), (mx, instObj 94 md), (md, dictOf [] 0)]) ∨ (pre ≠ [] ∧ ∃ vs objs, IdsOf pre vs objs ∧ ko = (pk, tupObj vs) :: objs)
def Key4 (v1 v2 v3 : Int) (pre : List (Str × Tok)) (kt : Addr) (ko : List (Addr × Obj)) : Prop :=
  ∃ (m1 m2 m3 : Tok) (pk : Addr) (ko' : List (Addr × Obj)), PreKey pre pk ko' ∧ ko = (kt, tupObj [.int v1 m1, .int v2 m2, .int v3 m3, .ref pk]) :: ko'
def Key5 (v1 v2 v3 : Int) (pre build : List (Str × Tok)) (kt : Addr) (ko : List (Addr × Obj)) : Prop :=
  ∃ (m1 m2 m3 : Tok) (pk bk : Addr) (ko' : List (Addr × Obj)) (vs : List Value) (objs : List (Addr × Obj)), PreKey pre pk ko' ∧ IdsOf build vs objs ∧ ko = (kt, tupObj [.int v1 m1, .int v2 m2, .int v3 m3, .ref pk, .ref bk]) :: (bk, tupObj vs) :: (ko' ++ objs)
theorem nil_of {pre : List (Str × Tok)} (h : (strVals pre).isEmpty = true) : pre = [] := by
  cases pre with
  | nil => rfl
  | cons a l => cases h
theorem cons_of {pre : List (Str × Tok)} (h : (strVals pre).isEmpty = false) : pre ≠ [] := by
  rintro rfl
  cases h
theorem ids_nil {build : List (Str × Tok)} {vs : List Value} {objs : List (Addr × Obj)} (h : (strVals build).isEmpty = true) (e : EOs (AtOf IdOne []) ([] : List (Str × Tok)).length vs objs) : IdsOf build vs objs := by
  have := nil_of h
  subst this
  exact e
theorem end_ne5 {objs led : List (Addr × Obj)} {a b c d e : Addr} {o1 o2 o3 o4 o5 : Obj} (A : ∀ p ∈ objs, ∀ q ∈ led, p.1 ≠ q.1) (m1 : (a, o1) ∈ led) (m2 : (b, o2) ∈ led) (m3 : (c, o3) ∈ led) (m4 : (d, o4) ∈ led) (m5 : (e, o5) ∈ led) :
    ∀ q ∈ objs, @Ne Nat q.1 a ∧ @Ne Nat q.1 b ∧ @Ne Nat q.1 c ∧ @Ne Nat q.1 d ∧ @Ne Nat q.1 e := fun q hq => ⟨A q hq _ m1, A q hq _ m2, A q hq _ m3, A q hq _ m4, A q hq _ m5⟩
theorem end_ap {a b news : List (Addr × Obj)} (h : ∀ p ∈ a, ∀ q ∈ news, p.1 ≠ q.1) (s : ∀ q ∈ b, q ∈ a) : ∀ q ∈ b, ∀ r ∈ news, q.1 ≠ r.1 := fun q hq => h q (s q hq)
section
variable {h₀ h : Heap} {L : Addr} {o' a b b' c d e f g i j : Addr × Obj} {o o2 news : List (Addr × Obj)}
theorem endF0 (N : News h₀ L h (a :: b :: c :: d :: e :: f :: g :: i :: j :: news)) : News h₀ L h (e :: f :: g :: i :: j :: [a, b, c, d]) := fun q hq => N q (by
  simp only [List.mem_cons, List.mem_append, List.not_mem_nil, or_false] at hq ⊢; grind)
theorem endF1 (N : News h₀ L h (a :: b :: e :: f :: g :: i :: j :: (o ++ news))) : News h₀ L h (e :: f :: g :: i :: j :: (a :: b :: o)) := fun q hq => N q (by
  simp only [List.mem_cons, List.mem_append, List.not_mem_nil, or_false] at hq ⊢; grind)
theorem endT00 (N : News h₀ L h (a :: b' :: o' :: b :: c :: d :: e :: f :: g :: i :: j :: (o ++ news))) : News h₀ L h (e :: f :: g :: i :: j :: (a :: b' :: ([b, c, d] ++ o))) := fun q hq => N q (by
  simp only [List.mem_cons, List.mem_append, List.not_mem_nil, or_false] at hq ⊢; grind)
theorem endT01 (N : News h₀ L h (a :: b' :: b :: c :: d :: e :: f :: g :: i :: j :: (o ++ news))) : News h₀ L h (e :: f :: g :: i :: j :: (a :: b' :: ([b, c, d] ++ o))) := fun q hq => N q (by
  simp only [List.mem_cons, List.mem_append, List.not_mem_nil, or_false] at hq ⊢; grind)
theorem endT10 (N : News h₀ L h (a :: b' :: o' :: b :: e :: f :: g :: i :: j :: (o2 ++ o ++ news))) : News h₀ L h (e :: f :: g :: i :: j :: (a :: b' :: ((b :: o2) ++ o))) := fun q hq => N q (by
  simp only [List.mem_cons, List.mem_append, List.not_mem_nil, or_false] at hq ⊢; grind)
theorem endT11 (N : News h₀ L h (a :: b' :: b :: e :: f :: g :: i :: j :: (o2 ++ o ++ news))) : News h₀ L h (e :: f :: g :: i :: j :: (a :: b' :: ((b :: o2) ++ o))) := fun q hq => N q (by
  simp only [List.mem_cons, List.mem_append, List.not_mem_nil, or_false] at hq ⊢; grind)
end
set_option pp.deepTerms false in
set_option pp.deepTerms.threshold 5 in
set_option maxHeartbeats 4000000 in
theorem bpk_f {w : World} {mg mb : Str → Option Value} {loose : List Str} {mean : ExcName → Option Value} {A : Around} (hh : A.handled = none)
    (x dx tp tb : Nat) (h1 h2 h3 h4 h5 h6 : Int) (k1 k2 k3 k4 k5 k6 m1 m2 m3 : Tok) (v1 v2 v3 : Int) (v6 : Value) (n : Nat) (pre : List (Str × Tok)) (hpre : ∀ p ∈ pre, PartOk p.1) (hlen : pre.length ≤ 1000) (build : List (Str × Tok)) (hbld : ∀ p ∈ build, PartOk p.1) (hblen : build.length ≤ 1000) (ps : Array Value) (ht : TriplesOk ps.toList) (hroom : A.depth + 20 < recursionLimit)
    {h₀ : Heap} {L : Addr} {m : Str → Option Value} {s : Shared} {Q E : Value → Shared → Prop} {news : List (Addr × Obj)}
    (F : Fr h₀ L s.heap m) (X : (Mine.hd.heap_39 w.params).In h₀) (T : Top topProg loose mean mg mb h₀)
    (NS : News h₀ L s.heap [(323, tabObj ps), (x, instObj 388 dx), (dx, dictOf (verDict h1 h2 h3 h4 h5 h6 k1 k2 k3 k4 k5 k6 (.int v1 m1) (.int v2 m2) (.int v3 m3) (.ref tp) (.ref tb) v6) n), (tp, tupObj (strVals pre)), (tb, tupObj (strVals build))]) (N : News h₀ L s.heap news)
    (hap : ∀ q ∈ ([(323, tabObj ps), (x, instObj 388 dx), (dx, dictOf (verDict h1 h2 h3 h4 h5 h6 k1 k2 k3 k4 k5 k6 (.int v1 m1) (.int v2 m2) (.int v3 m3) (.ref tp) (.ref tb) v6) n), (tp, tupObj (strVals pre)), (tb, tupObj (strVals build))] : List (Addr × Obj)), ∀ r ∈ news, q.1 ≠ r.1)
    (o1 : (323 : Nat) ≠ dx) (o2 : (323 : Nat) ≠ x) (o3 : (323 : Nat) ≠ tp) (o4 : (323 : Nat) ≠ tb) (o5 : dx ≠ x) (o6 : dx ≠ tp) (o7 : dx ≠ tb) (o8 : x ≠ tp) (o9 : x ≠ tb) (o10 : tp ≠ tb) (G : AllBare s.gens)
    (hret : ∀ (s' : Shared) (kt : Addr) (ko : List (Addr × Obj)) (ps' : Array Value), Key4 v1 v2 v3 pre kt ko → TriplesOk ps'.toList → Fr h₀ L s'.heap m → News h₀ L s'.heap ((323, tabObj ps') :: (x, instObj 388 dx) :: (dx, dictOf (verDict h1 h2 h3 h4 h5 h6 k1 k2 k3 k4 k5 k6 (.int v1 m1) (.int v2 m2) (.int v3 m3) (.ref tp) (.ref tb) v6) n) :: (tp, tupObj (strVals pre)) :: (tb, tupObj (strVals build)) :: ko) → News h₀ L s'.heap news → AllBare s'.gens → s'.os = s.os →
      (∀ q ∈ ko, @Ne Nat q.1 323 ∧ @Ne Nat q.1 x ∧ @Ne Nat q.1 dx ∧ @Ne Nat q.1 tp ∧ @Ne Nat q.1 tb) → (∀ q ∈ ko, ∀ r ∈ news, q.1 ≠ r.1) → Q (.ref kt) s') :
    codeAny (model PR w) A (.call (.ref 328) ⟨[.ref x], [("with_build", .bool false)]⟩) (fun r s' => match r with | .ok (.ret v) => Q v s' | .ok _ => False | .error e => E e s') s := by
  k_dflt (refine' enterS F X NS N hap T ?k6 ?k7 ?k8 ?k9 ?kB ?_ ?c2 ?c3 ?c4 ?c5; (case k6 => k_is); (case k7 => k_is); (case k8 => ktr_room); (case k9 => first | exact BindsTo.of_eq rfl | exact binds_K (by k_in) rfl (by k_is) rfl rfl rfl); (case c5 => decide); (case kB => exact locs rfl); (case c2 => exact rfl); (case c3 => exact rfl); (case c4 => exact rfl); k_whole; intro g L' h' FG' F' N' X' T'; (try dsimp only); (try k_fold))
  clear NS N hap F X T
  k_steps
  · k_dflt (refine' hret _ _ _ _ ⟨_, _, _, _, _, .inl ⟨nil_of (by assumption), _, _, rfl⟩, rfl⟩ ?ht ?F (endF0 ?N) ?N0 ?G ?os ?ne ?ap)
    (case N => k_asm)
    (case F => k_asm)
    (case N0 => k_asm)
    (case ht => assumption)
    (case G => assumption)
    (case os => first | exact rfl | exact (by assumption : _ = _) | (simp only [*]))
    (case ne => (repeat' (first | exact List.forall_mem_nil _ | (refine List.forall_mem_cons.mpr ⟨⟨neN ?_, neN ?_, neN ?_, neN ?_, neN ?_⟩, ?_⟩) | (refine List.forall_mem_append.mpr ⟨?_, ?_⟩) | (dsimp only; omega) | (k_dflt (refine' end_ne5 ?A ?m1 ?m2 ?m3 ?m4 ?m5; (case A => assumption); (case m1 => k_mem); (case m2 => k_mem); (case m3 => k_mem); (case m4 => k_mem); (case m5 => k_mem))))))
    (case ap => refine end_ap (by assumption) ?_; intro q hq; simp only [List.mem_cons, List.mem_append, List.not_mem_nil, or_false] at hq ⊢; grind)
  · k_dflt (refine' hret _ _ _ _ ⟨_, _, _, _, _, .inr ⟨cons_of (by assumption), _, _, ?e1, rfl⟩, rfl⟩ ?ht ?F (endF1 ?N) ?N0 ?G ?os ?ne ?ap)
    (case N => k_asm)
    (case F => k_asm)
    (case N0 => k_asm)
    (case ht => assumption)
    (case G => assumption)
    (case os => first | exact rfl | exact (by assumption : _ = _) | (simp only [*]))
    (case e1 => assumption)
    (case ne => (repeat' (first | exact List.forall_mem_nil _ | (refine List.forall_mem_cons.mpr ⟨⟨neN ?_, neN ?_, neN ?_, neN ?_, neN ?_⟩, ?_⟩) | (refine List.forall_mem_append.mpr ⟨?_, ?_⟩) | (dsimp only; omega) | (k_dflt (refine' end_ne5 ?A ?m1 ?m2 ?m3 ?m4 ?m5; (case A => assumption); (case m1 => k_mem); (case m2 => k_mem); (case m3 => k_mem); (case m4 => k_mem); (case m5 => k_mem))))))
    (case ap => refine end_ap (by assumption) ?_; intro q hq; simp only [List.mem_cons, List.mem_append, List.not_mem_nil, or_false] at hq ⊢; grind)
set_option pp.deepTerms false in
set_option pp.deepTerms.threshold 5 in
set_option maxHeartbeats 4000000 in
theorem bpk_t {w : World} {mg mb : Str → Option Value} {loose : List Str} {mean : ExcName → Option Value} {A : Around} (hh : A.handled = none)
    (x dx tp tb : Nat) (h1 h2 h3 h4 h5 h6 : Int) (k1 k2 k3 k4 k5 k6 m1 m2 m3 : Tok) (v1 v2 v3 : Int) (v6 : Value) (n : Nat) (h7 : Int) (k7 : Tok) (ck : Nat) (pre : List (Str × Tok)) (hpre : ∀ p ∈ pre, PartOk p.1) (hlen : pre.length ≤ 1000) (build : List (Str × Tok)) (hbld : ∀ p ∈ build, PartOk p.1) (hblen : build.length ≤ 1000) (ps : Array Value) (ht : TriplesOk ps.toList) (hroom : A.depth + 20 < recursionLimit)
    {h₀ : Heap} {L : Addr} {m : Str → Option Value} {s : Shared} {Q E : Value → Shared → Prop} {news : List (Addr × Obj)}
    (F : Fr h₀ L s.heap m) (X : (Mine.hd.heap_39 w.params).In h₀) (T : Top topProg loose mean mg mb h₀)
    (NS : News h₀ L s.heap [(323, tabObj ps), (x, instObj 388 dx), (dx, dictOf (verDict h1 h2 h3 h4 h5 h6 k1 k2 k3 k4 k5 k6 (.int v1 m1) (.int v2 m2) (.int v3 m3) (.ref tp) (.ref tb) v6 ++ [⟨h7, .str "_cmp_precedence_key" k7, .ref ck⟩]) n), (tp, tupObj (strVals pre)), (tb, tupObj (strVals build))]) (N : News h₀ L s.heap news)
    (hap : ∀ q ∈ ([(323, tabObj ps), (x, instObj 388 dx), (dx, dictOf (verDict h1 h2 h3 h4 h5 h6 k1 k2 k3 k4 k5 k6 (.int v1 m1) (.int v2 m2) (.int v3 m3) (.ref tp) (.ref tb) v6 ++ [⟨h7, .str "_cmp_precedence_key" k7, .ref ck⟩]) n), (tp, tupObj (strVals pre)), (tb, tupObj (strVals build))] : List (Addr × Obj)), ∀ r ∈ news, q.1 ≠ r.1)
    (o1 : (323 : Nat) ≠ dx) (o2 : (323 : Nat) ≠ x) (o3 : (323 : Nat) ≠ tp) (o4 : (323 : Nat) ≠ tb) (o5 : dx ≠ x) (o6 : dx ≠ tp) (o7 : dx ≠ tb) (o8 : x ≠ tp) (o9 : x ≠ tb) (o10 : tp ≠ tb) (G : AllBare s.gens)
    (hret : ∀ (s' : Shared) (kt : Addr) (ko : List (Addr × Obj)) (ps' : Array Value), Key5 v1 v2 v3 pre build kt ko → TriplesOk ps'.toList → Fr h₀ L s'.heap m → News h₀ L s'.heap ((323, tabObj ps') :: (x, instObj 388 dx) :: (dx, dictOf (verDict h1 h2 h3 h4 h5 h6 k1 k2 k3 k4 k5 k6 (.int v1 m1) (.int v2 m2) (.int v3 m3) (.ref tp) (.ref tb) v6 ++ [⟨h7, .str "_cmp_precedence_key" k7, .ref ck⟩]) n) :: (tp, tupObj (strVals pre)) :: (tb, tupObj (strVals build)) :: ko) → News h₀ L s'.heap news → AllBare s'.gens → s'.os = s.os →
      (∀ q ∈ ko, @Ne Nat q.1 323 ∧ @Ne Nat q.1 x ∧ @Ne Nat q.1 dx ∧ @Ne Nat q.1 tp ∧ @Ne Nat q.1 tb) → (∀ q ∈ ko, ∀ r ∈ news, q.1 ≠ r.1) → Q (.ref kt) s') :
    codeAny (model PR w) A (.call (.ref 328) ⟨[.ref x], [("with_build", .bool true)]⟩) (fun r s' => match r with | .ok (.ret v) => Q v s' | .ok _ => False | .error e => E e s') s := by
  k_dflt (refine' enterS F X NS N hap T ?k6 ?k7 ?k8 ?k9 ?kB ?_ ?c2 ?c3 ?c4 ?c5; (case k6 => k_is); (case k7 => k_is); (case k8 => ktr_room); (case k9 => first | exact BindsTo.of_eq rfl | exact binds_K (by k_in) rfl (by k_is) rfl rfl rfl); (case c5 => decide); (case kB => exact locs rfl); (case c2 => exact rfl); (case c3 => exact rfl); (case c4 => exact rfl); k_whole; intro g L' h' FG' F' N' X' T'; (try dsimp only); (try k_fold))
  clear NS N hap F X T
  k_steps
  · k_dflt (refine' hret _ _ _ _ ⟨_, _, _, _, _, _, _, _, .inl ⟨nil_of (by assumption), _, _, rfl⟩, ?e2, rfl⟩ ?ht ?F (endT00 ?N) ?N0 ?G ?os ?ne ?ap)
    (case N => k_asm)
    (case F => k_asm)
    (case N0 => k_asm)
    (case ht => assumption)
    (case G => assumption)
    (case os => first | exact rfl | exact (by assumption : _ = _) | (simp only [*]))
    (case e2 => exact ids_nil (by assumption) (by assumption))
    (case ne => (repeat' (first | exact List.forall_mem_nil _ | (refine List.forall_mem_cons.mpr ⟨⟨neN ?_, neN ?_, neN ?_, neN ?_, neN ?_⟩, ?_⟩) | (refine List.forall_mem_append.mpr ⟨?_, ?_⟩) | (dsimp only; omega) | (k_dflt (refine' end_ne5 ?A ?m1 ?m2 ?m3 ?m4 ?m5; (case A => assumption); (case m1 => k_mem); (case m2 => k_mem); (case m3 => k_mem); (case m4 => k_mem); (case m5 => k_mem))))))
    (case ap => refine end_ap (by assumption) ?_; intro q hq; simp only [List.mem_cons, List.mem_append, List.not_mem_nil, or_false] at hq ⊢; grind)
  · k_dflt (refine' hret _ _ _ _ ⟨_, _, _, _, _, _, _, _, .inl ⟨nil_of (by assumption), _, _, rfl⟩, ?e2, rfl⟩ ?ht ?F (endT01 ?N) ?N0 ?G ?os ?ne ?ap)
    (case N => k_asm)
    (case F => k_asm)
    (case N0 => k_asm)
    (case ht => assumption)
    (case G => assumption)
    (case os => first | exact rfl | exact (by assumption : _ = _) | (simp only [*]))
    (case e2 => assumption)
    (case ne => (repeat' (first | exact List.forall_mem_nil _ | (refine List.forall_mem_cons.mpr ⟨⟨neN ?_, neN ?_, neN ?_, neN ?_, neN ?_⟩, ?_⟩) | (refine List.forall_mem_append.mpr ⟨?_, ?_⟩) | (dsimp only; omega) | (k_dflt (refine' end_ne5 ?A ?m1 ?m2 ?m3 ?m4 ?m5; (case A => assumption); (case m1 => k_mem); (case m2 => k_mem); (case m3 => k_mem); (case m4 => k_mem); (case m5 => k_mem))))))
    (case ap => refine end_ap (by assumption) ?_; intro q hq; simp only [List.mem_cons, List.mem_append, List.not_mem_nil, or_false] at hq ⊢; grind)
  · k_dflt (refine' hret _ _ _ _ ⟨_, _, _, _, _, _, _, _, .inr ⟨cons_of (by assumption), _, _, ?e1, rfl⟩, ?e2, rfl⟩ ?ht ?F (endT10 ?N) ?N0 ?G ?os ?ne ?ap)
    (case N => k_asm)
    (case F => k_asm)
    (case N0 => k_asm)
    (case ht => assumption)
    (case G => assumption)
    (case os => first | exact rfl | exact (by assumption : _ = _) | (simp only [*]))
    (case e1 => assumption)
    (case e2 => exact ids_nil (by assumption) (by assumption))
    (case ne => (repeat' (first | exact List.forall_mem_nil _ | (refine List.forall_mem_cons.mpr ⟨⟨neN ?_, neN ?_, neN ?_, neN ?_, neN ?_⟩, ?_⟩) | (refine List.forall_mem_append.mpr ⟨?_, ?_⟩) | (dsimp only; omega) | (k_dflt (refine' end_ne5 ?A ?m1 ?m2 ?m3 ?m4 ?m5; (case A => assumption); (case m1 => k_mem); (case m2 => k_mem); (case m3 => k_mem); (case m4 => k_mem); (case m5 => k_mem))))))
    (case ap => refine end_ap (by assumption) ?_; intro q hq; simp only [List.mem_cons, List.mem_append, List.not_mem_nil, or_false] at hq ⊢; grind)
  · k_dflt (refine' hret _ _ _ _ ⟨_, _, _, _, _, _, _, _, .inr ⟨cons_of (by assumption), _, _, ?e1, rfl⟩, ?e2, rfl⟩ ?ht ?F (endT11 ?N) ?N0 ?G ?os ?ne ?ap)
    (case N => k_asm)
    (case F => k_asm)
    (case N0 => k_asm)
    (case ht => assumption)
    (case G => assumption)
    (case os => first | exact rfl | exact (by assumption : _ = _) | (simp only [*]))
    (case e1 => assumption)
    (case e2 => assumption)
    (case ne => (repeat' (first | exact List.forall_mem_nil _ | (refine List.forall_mem_cons.mpr ⟨⟨neN ?_, neN ?_, neN ?_, neN ?_, neN ?_⟩, ?_⟩) | (refine List.forall_mem_append.mpr ⟨?_, ?_⟩) | (dsimp only; omega) | (k_dflt (refine' end_ne5 ?A ?m1 ?m2 ?m3 ?m4 ?m5; (case A => assumption); (case m1 => k_mem); (case m2 => k_mem); (case m3 => k_mem); (case m4 => k_mem); (case m5 => k_mem))))))
    (case ap => refine end_ap (by assumption) ?_; intro q hq; simp only [List.mem_cons, List.mem_append, List.not_mem_nil, or_false] at hq ⊢; grind)
end Mine
end
section
local macro_rules | `(tactic| walk_at "pad") => `(tactic| fail)
local macro_rules | `(tactic| walk_at "pad") => `(tactic| fail)
local macro_rules | `(tactic| walk_at "pad") => `(tactic| fail)
local macro_rules | `(tactic| walk_at "pad") => `(tactic| fail)
local macro_rules | `(tactic| walk_at "pad") => `(tactic| fail)
local macro_rules | `(tactic| walk_at "pad") => `(tactic| fail)
local macro_rules | `(tactic| walk_at "pad") => `(tactic| fail)
local macro_rules | `(tactic| walk_at "pad") => `(tactic| fail)
theorem Mine.reset_G6 : True := by w_top off; trivial
open PySem PySem.W PyProof.Rows PySem.Calls PySem.Spec
set_option Elab.async false
set_option maxRecDepth 100000
namespace Mine
def PartV (b : Bool) (x : Str) : Prop := 0 < x.length ∧ x.length < 10000 ∧ (b = false → lz x = false)
def ForIt (w : World) (A : Around) (env : Env) (x : Str) (px : Pos) (body : List Stmt) (Q : Flow → Shared → Prop) (xv : Value) (s₁ : Shared) : Prop :=
  wpAny (model PR w) A (pyIter xv) (fun it s₂ => codeAny (model PR w) A (.forLoop (.Name x px) it body [] env) (fun r s' => match r with | .ok f => Q f s' | .error _ => False) s₂) (fun _ _ => False) s₁
theorem for_it {w : World} {A : Around} {env : Env} {x : Str} {px pos : Pos} {iter : Expr} {body : List Stmt} {Q : Flow → Shared → Prop} {E : Value → Shared → Prop} {s : Shared} (hs : ∀ x, foldedSetIterable iter env x = pure x)
    (h : wpAny (model PR w) A (eval iter env) (ForIt w A env x px body Q) E s) : wpAny (model PR w) A (exec (.For (.Name x px) iter body [] pos) env) Q E s := by
  refine wpAny_For (wpAny_mono h (fun xv s₁ h₁ => wpAny_mono h₁ (fun it s₂ h₂ => codeAny_mono h₂ fun r s' hr => ?_) fun _ _ z => z.elim) fun _ _ z => z) hs
  cases r with
  | ok f => exact hr
  | error e => exact hr.elim
def TurnEnd (h₀ : Heap) (L : Addr) (m : Str → Option Value) (x : Str) (v : Value) (news : List (Addr × Obj)) (s : Shared) (f : Flow) (s₂ : Shared) : Prop :=
  f = .next ∧ ∃ h tk, s₂ = { s with heap := h, toks := tk } ∧ Fr h₀ L h (put m x v) ∧ News h₀ L h news
theorem TurnEnd.intro {h₀ : Heap} {L : Addr} {m : Str → Option Value} {x : Str} {v : Value} {news : List (Addr × Obj)} {s : Shared} {h : Heap} {tk : Nat} (F : Fr h₀ L h (put m x v)) (N : News h₀ L h news) : TurnEnd h₀ L m x v news s .next { s with heap := h, toks := tk } :=
  ⟨rfl, h, tk, rfl, F, N⟩
theorem ForIt.tup {w : World} {A : Around} {env : Env} {x : Str} {px : Pos} {body : List Stmt} {Q : Flow → Shared → Prop} {s : Shared} {h₀ : Heap} {t : Addr} {m : Str → Option Value} {news : List (Addr × Obj)} (parts : List (Str × Tok)) (hh : A.handled = none) (hx : env.kindOf x = some .local)
    (hp : (env.scope.kind == .class || (env.scope.kind == .module && env.locals != env.globals)) = false)
    (F : Fr h₀ env.locals s.heap m) (N : News h₀ env.locals s.heap news) (hT : s.heap.IsTuple t (strVals parts).toArray)
    (hd : (∀ p ∈ parts, ∀ ex h₁ tk, Fr h₀ env.locals h₁ (put m x (.str p.1 p.2)) → News h₀ env.locals h₁ (news ++ ex) → wpAny (model PR w) A (execs body env) (TurnEnd h₀ env.locals m x (.str p.1 p.2) (news ++ ex) s) (fun _ _ => False) { s with heap := h₁, toks := tk }) ∧
    (∀ h' tk m', Fr h₀ env.locals h' m' → News h₀ env.locals h' news → Q .next { s with heap := h', toks := tk })) :
    ForIt w A env x px body Q (.ref t) s := by
  obtain ⟨step, hQ⟩ := hd
  have hLs : env.locals < s.heap.objs.size := F.ns.lt
  have hlt : t < s.heap.objs.size := by obtain ⟨_, e, _⟩ := hT; exact Heap.lt_size e
  have htL : t ≠ env.locals := fun e => by
    obtain ⟨o, es, ep, e1, e2, _⟩ := F.ns
    obtain ⟨o', e3, _, n, e4⟩ := hT
    rw [e, e1] at e3; cases e3; rw [e2] at e4; cases e4
  unfold ForIt
  refine wpAny_pyIter_tuple hT ?_
  generalize hI : s.heap.objs.size = I at hLs hlt
  have hI0 : h₀.get? I = none := by
    cases e : h₀.get? I with
    | none => rfl
    | some o => exact absurd (Heap.lt_size (F.keep _ _ e)) (by rw [hI]; exact Nat.lt_irrefl _)
  have hIN : ∀ q ∈ news, q.1 ≠ I := fun q hq e => absurd (Heap.lt_size (N q hq).1) (by rw [hI, e]; exact Nat.lt_irrefl _)
  refine codeAny_forLoop (fun n s' => ∃ h' tk m' i, s' = { s with heap := h', toks := tk } ∧ h'.IsTupleIter I t i ∧ h'.IsTuple t (strVals parts).toArray ∧ Fr h₀ env.locals h' m' ∧ News h₀ env.locals h' news ∧ (m' = m ∨ ∃ v, m' = put m x v) ∧
    i ≤ parts.length ∧ n = parts.length + 1 - i) ?_ (parts.length + 1) ⟨s.heap.push { cls := .type "tuple_iterator", data := .fields #[.ref t, .int 0 0] }, s.toks, m, 0, rfl, ?_, hT.push _, F.push _, ?_, .inl rfl, Nat.zero_le _, rfl⟩
  · rintro n s' ⟨h', tk, m', i, rfl, hit, ht, F', N', hm, hi, rfl⟩
    cases hv : (strVals parts).toArray[i]? with
    | none =>
      refine wpAny_pyNext_tuple_end hh hit ht hv fun h₁ he₁ => wpAny_execs_nil ?_
      exact hQ h₁ tk m' ⟨F'.ns.extBut he₁ (Nat.ne_of_lt hLs), fun b o e => he₁ b o (fun q => by rw [q, hI0] at e; cases e) (F'.keep b o e), F'.above⟩ fun q hq => ⟨he₁ _ _ (hIN q hq) (N' q hq).1, (N' q hq).2⟩
    | some v =>
      obtain ⟨p, hpi, rfl⟩ : ∃ p, parts[i]? = some p ∧ v = .str p.1 p.2 := by
        have : (strVals parts)[i]? = some v := by simpa using hv
        rw [List.getElem?_map] at this
        cases e : parts[i]? with
        | none => rw [e] at this; cases this
        | some p => rw [e] at this; exact ⟨p, rfl, (Option.some.inj this).symm⟩
      have hlt' : i < parts.length := (List.getElem?_eq_some_iff.mp hpi).1
      refine wpAny_pyNext_tuple_item hit ht hv fun h₁ hit₁ hs₁ => ?_
      have F₁ : Fr h₀ env.locals h₁ m' := ⟨F'.ns.sameBut hs₁ (Nat.ne_of_lt hLs), fun b o e => hs₁.extBut b o (fun q => by rw [q, hI0] at e; cases e) (F'.keep b o e), F'.above⟩
      have N₁ : News h₀ env.locals h₁ news := fun q hq => ⟨hs₁.extBut _ _ (hIN q hq) (N' q hq).1, (N' q hq).2⟩
      have ht₁ := ht.extBut hs₁.extBut (Nat.ne_of_lt hlt)
      refine wpAny_assign_Name (wpAny_storeName_local hx F₁.ns (fun h₂ hn₂ hs₂ => ?_) hp)
      have F₂ : Fr h₀ env.locals h₂ (put m x (.str p.1 p.2)) := by
        have := F₁.set hn₂ hs₂
        rcases hm with rfl | ⟨v, rfl⟩
        · exact this
        · rw [← put_put m x v]; exact this
      have N₂ : News h₀ env.locals h₂ news := fun q hq => ⟨hs₂.extBut _ _ (N₁ q hq).2.1 (N₁ q hq).1, (N₁ q hq).2⟩
      have ht₂ := ht₁.extBut hs₂.extBut htL
      have hit₂ : h₂.IsTupleIter I t (i + 1) := by obtain ⟨o, e, r⟩ := hit₁; exact ⟨o, hs₂.extBut _ _ (Ne.symm (Nat.ne_of_lt hLs)) e, r⟩
      obtain ⟨oi, hoi, ri⟩ := hit₂
      obtain ⟨ot, hot, rt⟩ := ht₂
      have NX : News h₀ env.locals h₂ [(I, oi)] := fun q hq => by
        rcases List.mem_cons.mp hq with rfl | hq
        · exact ⟨hoi, Ne.symm (Nat.ne_of_lt hLs), hI0⟩
        · cases hq
      -- the tuple stands in the base or in the ledger's shadow
      have NE : ∃ ex, News h₀ env.locals h₂ ex ∧ ∀ h, News h₀ env.locals h ex → (∀ b o, h₀.get? b = some o → h.get? b = some o) → h.get? I = some oi ∧ h.get? t = some ot := by
        cases e : h₀.get? t with
        | none => exact ⟨[(I, oi), (t, ot)], (fun q hq => by
            rcases List.mem_cons.mp hq with rfl | hq
            · exact ⟨hoi, Ne.symm (Nat.ne_of_lt hLs), hI0⟩
            · rcases List.mem_cons.mp hq with rfl | hq
              · exact ⟨hot, htL, e⟩
              · cases hq), fun h z _ => ⟨(z _ List.mem_cons_self).1, (z _ (List.mem_cons_of_mem _ List.mem_cons_self)).1⟩⟩
        | some o =>
          have : o = ot := by have := F₂.keep _ _ e; rw [hot] at this; exact (Option.some.inj this).symm
          exact ⟨[(I, oi)], NX, fun h z k => ⟨(z _ List.mem_cons_self).1, this ▸ k _ _ e⟩⟩
      obtain ⟨ex, hex, hexk⟩ := NE
      refine wpAny_mono (step p (List.mem_of_getElem? hpi) ex h₂ _ F₂ (news_app N₂ hex)) (fun f s₃ h₃ => ?_) fun _ _ z => z.elim
      obtain ⟨rfl, h₃', tk₃, rfl, F₃, N₃⟩ := h₃
      obtain ⟨k1, k2⟩ := hexk h₃' (fun q hq => N₃ q (List.mem_append_right _ hq)) F₃.keep
      exact ⟨parts.length + 1 - (i + 1), by omega, h₃', tk₃, _, i + 1, rfl, ⟨oi, k1, ri⟩, ⟨ot, k2, rt⟩, F₃, (fun q hq => N₃ q (List.mem_append_left _ hq)), .inr ⟨_, rfl⟩, hlt', rfl⟩
  · exact ⟨_, hI ▸ Heap.get?_push_size _ rfl, rfl, rfl⟩
  · exact fun q hq => ⟨Heap.get?_push_of_some _ (N q hq).1, (N q hq).2⟩

local macro_rules | `(tactic| walk_at "LeaveR") => `(tactic| (k_dflt (refine' LeaveR.intro ?k1 ?k2 ?k3 ?_; (case k1 => k_asm); (case k2 => k_asm); (case k3 => (repeat' (first | exact List.forall_mem_nil _ | refine List.forall_mem_cons.mpr ⟨by k_mem, ?_⟩))); k_whole); intro kF kN0 kN; (try dsimp only)))
local macro_rules | `(tactic| walk_at "exec For") => `(tactic| (k_here; k_dflt (refine' for_it ?hs ?_; (case hs => intro _; exact rfl); k_whole)))
local macro_rules | `(tactic| walk_at "exec For Name Name cons nil") => `(tactic| (k_here; k_dflt (refine' for_it ?hs ?_; (case hs => intro _; exact rfl); k_whole)))
local macro_rules | `(tactic| walk_at "TurnEnd") => `(tactic| (k_dflt (refine' TurnEnd.intro ?F ?N; (case F => k_asm); (case N => k_asm))))
local macro_rules | `(tactic| walk_at "ForIt") => `(tactic| (k_here; k_dflt (refine' ForIt.tup _ ?hh ?hx ?hp ?F ?N ?hT ?_; (case hh => first | exact rfl | assumption); (case hx => exact rfl); (case hp => exact rfl); (case F => k_asm); (case N => k_asm); (case hT => exact tupAt (by k_asm) (by k_mem)); k_whole); (refine And.intro ?_ ?_) <;> first
  | (intro p' hp' ex' h1' tk' F' N'; have hP' := (by assumption : ∀ p ∈ _, PartV _ p.1) p' hp'; (k_dflt (obtain ⟨q1', q2', q3'⟩ := hP')); clear hp'; (try dsimp only); (simp only [List.cons_append, List.nil_append] at N'); (try dsimp only at F'); (try dsimp only at N'))
  | (intro h1' tk' m' F' N'; try dsimp only)))
theorem fillG6 : (PySem.Challenge.rw_ci0037_01, Mine.hd.heap_39) = (PySem.Challenge.rw_ci0037_01, Mine.hd.heap_39) := by k_fill; rfl
theorem lz_clash {x : Str} (h1 : (Txt.item x 0 == Str.ofString "0") = true) (h2 : Txt.isdigit x = true) (h3 : (x != Str.ofString "0") = true) (h : lz x = false) : False := by
  unfold lz at h
  rw [h1, h2] at h
  have h4 : (!(x == Str.ofString "0")) = true := h3
  rw [h4] at h; cases h
local macro_rules | `(tactic| walk_at "exec Raise some none") => `(tactic| (exfalso; first | omega | exact lz_clash (by assumption) (by assumption) (by assumption) ((by assumption : false = false → _) rfl)))
set_option pp.deepTerms false in
set_option pp.deepTerms.threshold 5 in
set_option maxHeartbeats 1000000 in
theorem vi_true {w : World} {mg mb : Str → Option Value} {loose : List Str} {mean : ExcName → Option Value} {A : Around} (hh : A.handled = none) (hroom : A.depth + 4 < recursionLimit)
    (t : Addr) (parts : List (Str × Tok)) (hparts : ∀ p ∈ parts, PartV true p.1)
    {h₀ : Heap} {L : Addr} {m : Str → Option Value} {s : Shared} {Q E : Value → Shared → Prop} {news : List (Addr × Obj)}
    (F : Fr h₀ L s.heap m) (X : (Mine.hd.heap_39 w.params).In h₀) (T : Top topProg loose mean mg mb h₀) (N : News h₀ L s.heap news) (hm : (t, tupObj (strVals parts)) ∈ news)
    (hret : ∀ h' tk', Fr h₀ L h' m → News h₀ L h' news → Q .none { s with heap := h', toks := tk' }) :
    codeAny (model PR w) A (.call (.ref 293) ⟨[.ref 388, .ref t], [("allow_leading_zeroes", .bool true)]⟩) (fun r s' => match r with | .ok (.ret v) => Q v s' | .ok _ => False | .error e => E e s') s := by
  k_dflt (refine' enterR (sel := [(t, tupObj (strVals parts))]) F X N (List.forall_mem_cons.mpr ⟨hm, List.forall_mem_nil _⟩) T ?k6 ?k7 ?k8 ?k9 ?kB ?_ ?c2 ?c3 ?c4 ?c5; (case k6 => k_is); (case k7 => k_is); (case k8 => ktr_room); (case k9 => first | exact BindsTo.of_eq rfl | exact binds_K (by k_in) rfl (by k_is) rfl rfl rfl); (case c5 => decide); (case kB => exact locs rfl); (case c2 => exact rfl); (case c3 => exact rfl); (case c4 => exact rfl); k_whole; intro g L' h' FG' F' N' X' T'; (try dsimp only); (try k_fold))
  clear N F X T
  k_steps
  all_goals first | exact hret _ _ (by assumption) (by assumption) | skip
set_option pp.deepTerms false in
set_option pp.deepTerms.threshold 5 in
set_option maxHeartbeats 1000000 in
theorem vi_false {w : World} {mg mb : Str → Option Value} {loose : List Str} {mean : ExcName → Option Value} {A : Around} (hh : A.handled = none) (hroom : A.depth + 4 < recursionLimit)
    (t : Addr) (parts : List (Str × Tok)) (hparts : ∀ p ∈ parts, PartV false p.1)
    {h₀ : Heap} {L : Addr} {m : Str → Option Value} {s : Shared} {Q E : Value → Shared → Prop} {news : List (Addr × Obj)}
    (F : Fr h₀ L s.heap m) (X : (Mine.hd.heap_39 w.params).In h₀) (T : Top topProg loose mean mg mb h₀) (N : News h₀ L s.heap news) (hm : (t, tupObj (strVals parts)) ∈ news)
    (hret : ∀ h' tk', Fr h₀ L h' m → News h₀ L h' news → Q .none { s with heap := h', toks := tk' }) :
    codeAny (model PR w) A (.call (.ref 293) ⟨[.ref 388, .ref t], [("allow_leading_zeroes", .bool false)]⟩) (fun r s' => match r with | .ok (.ret v) => Q v s' | .ok _ => False | .error e => E e s') s := by
  k_dflt (refine' enterR (sel := [(t, tupObj (strVals parts))]) F X N (List.forall_mem_cons.mpr ⟨hm, List.forall_mem_nil _⟩) T ?k6 ?k7 ?k8 ?k9 ?kB ?_ ?c2 ?c3 ?c4 ?c5; (case k6 => k_is); (case k7 => k_is); (case k8 => ktr_room); (case k9 => first | exact BindsTo.of_eq rfl | exact binds_K (by k_in) rfl (by k_is) rfl rfl rfl); (case c5 => decide); (case kB => exact locs rfl); (case c2 => exact rfl); (case c3 => exact rfl); (case c4 => exact rfl); k_whole; intro g L' h' FG' F' N' X' T'; (try dsimp only); (try k_fold))
  clear N F X T
  k_steps
  all_goals first | exact hret _ _ (by assumption) (by assumption) | skip
end Mine
end
section
theorem Mine.reset_G7 : True := by w_top off; trivial
open PySem PySem.W PyProof.Rows PySem.Calls PySem.Spec
set_option Elab.async false
set_option maxRecDepth 100000
namespace Mine
section
variable {prog : Program} {w : World} {A₀ A : Around} {s : Shared} {K : Frag} {L : Addr} {h₀ base : Heap} {m mg mb : Str → Option Value} {news sel : List (Addr × Obj)} {p : Program} {loose : List Str} {mean : ExcName → Option Value}
/-- enterS, with what stands below -/
theorem enterB {env : Env} {outer : List Env} {R : Result → Shared → Prop} {name qual : Str} {params : Arguments} {body : List Stmt} {scope : Scope} {dV kV doc pm cdv ct oc : Value} {an od : Option Addr} {osl : Array (Option Value)} {f : Addr} {args : Args} {binds : List (Str × Value)}
    (B : Below A₀ base outer h₀) (F : Fr h₀ L s.heap m) (X₀ : K.In h₀) (NS : News h₀ L s.heap sel) (N : News h₀ L s.heap news) (hap : ∀ q ∈ sel, ∀ r ∈ news, q.1 ≠ r.1) (T : Top p loose mean mg mb h₀) (hA : A.frames = some (env :: outer)) (hf : env.frame = some L) (hke : env.scope.kind = .function)
    (ho : K.lookup f = some ⟨oc, od, .func (fnOf name qual params body scope dV kV doc pm an cdv ct), osl⟩) (hcd : codeIn K cdv qual = true) (hroom : A.depth < recursionLimit)
    (hbind : BindsTo s (fnOf name qual params body scope dV kV doc pm an cdv ct) args binds) (hloc : ∀ y ∈ binds, scope.names.lookup y.1 = some .local)
    (h : ∀ g L' h₁, Fr h₀ L g m → Fr g L' h₁ (fun y => binds.reverse.lookup y) → News g L' h₁ sel → Below A base (env :: outer) g → K.In g → Top p loose mean mg mb g →
      wpAny (model prog w) (A.deeper (envOf qual scope L' f cdv)) (execs body (envOf qual scope L' f cdv))
        (fun fl s' => LeaveP h₀ L m news g R (match fl with | .ret v => v | _ => .none) s')
        (fun e s' => wpAny (model prog w) (A.deeper (envOf qual scope L' f cdv)) («leaving» (envOf qual scope L' f cdv) e) (fun _ s'' => R (.error e) s'') (fun e' s'' => R (.error e') s'') s')
        { s with heap := h₁, toks := s.toks + binds.length })
    (hco : scope.isCoroutine = false) (hgen : scope.isGenerator = false) (hk : scope.kind = .function)
    (hcell : ∀ x ∈ scope.names, x.2 ≠ .cell) : codeAny (model prog w) A (.call (.ref f) args) R s :=
  enterS F X₀ NS N hap T ho hcd hroom hbind hloc (fun g L' h₁ FG F' N' X' T' => h g L' h₁ FG F' N' (below_g B F FG hA hf hke) X' T') hco hgen hk hcell
end

section
variable {M : Model} {A : Around} {E : Value → Shared → Prop} {s : Shared} {K : Frag} {env : Env} {pos : Pos} {first : List Value} {Q : Value → Shared → Prop} {h₀ : Heap} {L : Addr} {news : List (Addr × Obj)} {q g : Addr} {self : Value}
theorem callWith_MKW {e : Expr} {rest : List Expr} {kws : List Keyword} (_X : K.In h₀) (_N : News h₀ L s.heap news) (_q : (q, methodObj (.ref g) self) ∈ news) (hf : fnIn K g = true) (hall : (backToKw pos (keywordEach kws env)).all (·.1.isSome) = true)
    (h : wpAny M A (spliced (backTo pos (starEach (e :: rest) env))) (fun vs s₁ => wpAny M A (evalAll ((backToKw pos (keywordEach kws env)).map (·.2)))
      (fun ks s₂ => MethP K q g self s₂.heap ∧ wpAny M A (call (.ref q) (first ++ vs) (((backToKw pos (keywordEach kws env)).filterMap (·.1)).zip ks)) Q E s₂) E s₁) E s)
    (hplain : ((backTo pos (starEach (e :: rest) env)).any (·.1) || (backToKw pos (keywordEach kws env)).any (·.1.isNone)) = false := by rfl) (he : starEach (e :: rest) env = (false, eval e env) :: starEach rest env := by rfl) :
    wpAny M A (callWith pos (.ref q) first (backTo pos (starEach (e :: rest) env)) (backToKw pos (keywordEach kws env))) Q E s :=
  callWith_of hplain (keeps_M hf) (evalArgs_kw2 hall h he)
end
local macro_rules | `(tactic| walk_at "ENTER") => `(tactic| k_dflt (refine' enterP ?k1 ?k2 ?k3 ?k4 ?k5 ?kA ?kF ?kK ?k6 ?k7 ?k8 ?k9 ?kB ?_ ?c2 ?c3 ?c4 ?c5; (case kA => exact rfl); (case kF => exact rfl); (case kK => first | exact rfl | assumption); (case k1 => k_asm); (case k2 => k_asm); (case k3 => k_asm); (case k4 => k_asm); (case k5 => k_asm); (case k6 => k_is); (case k7 => k_is); (case k8 => ktr_room); (case k9 => first | exact BindsTo.of_eq rfl | exact binds_K (by k_in) rfl (by k_is) rfl rfl rfl); (case c5 => decide); (case kB => exact locs rfl); (case c2 => exact rfl); (case c3 => exact rfl); (case c4 => exact rfl); k_whole; intro L' h' F' N' B' X' T'; (try dsimp only); (try k_fold)))
local macro_rules | `(tactic| walk_at "LeaveP") => `(tactic| (k_dflt (refine' LeaveP.intro ?k1 ?k2 ?_; (case k1 => k_asm); (case k2 => k_asm); k_whole); intro kF kN0 kN kA; (try (with_reducible rename Frag.In _ _ => hx9); clear hx9); (try (with_reducible rename Top _ _ _ _ _ _ => hx9); clear hx9); (try (with_reducible rename Below _ _ _ _ => hx9); clear hx9); (try simp only [List.cons_append, List.nil_append] at kN); (try dsimp only)))
local macro_rules | `(tactic| walk_at "call ref") => `(tactic| (k_here; k_dflt (first
  | (refine' call_meth ?k1 ?k2 ?_; (case k1 => k_asm); (case k2 => k_mem); k_whole; walk_at "ENTER")
  | (refine wpAny_call ?_; walk_at "ENTER"))))
local macro_rules | `(tactic| k_all) => `(tactic| assumption)
local macro_rules | `(tactic| walk_at "callWith ref") => `(tactic| (k_here; (with_reducible show wpAny _ _ (callWith _ _ _ _ (backToKw _ _)) _ _ _); k_dflt (refine' callWith_MKW ?k1 ?k2 ?k3 ?k4 ?k5 ?_; (case k2 => k_asm); (case k1 => k_asm); (case k3 => k_mem); (case k4 => k_is); (case k5 => exact rfl); k_whole)))
local macro_rules | `(tactic| walk_at "exec Raise some none") => `(tactic| (exfalso; omega))
local macro_rules | `(tactic| walk_at "call type:int") => `(tactic| (k_here; (with_reducible show wpAny _ _ (call (Value.type "int") [Value.str _ _]) _ _ _); refine KIN.call_text (by with_reducible assumption) (by first | with_reducible assumption | omega) ?_; try dsimp only))
theorem fillG7 : (PySem.Challenge.rw_ci0037_01, Mine.hd.heap_39) = (PySem.Challenge.rw_ci0037_01, Mine.hd.heap_39) := by k_fill; rfl
theorem parts_of {b : Bool} {x : Str} {l : List (Str × Tok)} (e : l.map (·.1) = Txt.split x (Str.ofString ".")) (h : ∀ y ∈ Txt.split x (Str.ofString "."), PartV b y) : ∀ q ∈ l, PartV b q.1 := fun q hq => h _ (e ▸ List.mem_map_of_mem hq)
theorem split_size {x : Str} (h : x.length < 10000) : x.length + 2 ≤ sizeLine := Nat.le_trans (by omega : x.length + 2 ≤ 10002) (by size_fits)
theorem len_of {x : Str} {l : List (Str × Tok)} (e : l.map (·.1) = Txt.split x (Str.ofString ".")) (h : (Txt.split x (Str.ofString ".")).length ≤ 1000) : l.length ≤ 1000 := by
  rw [← e, List.length_map] at h; exact h
theorem tuple_strs {w : World} {A : Around} {E : Value → Shared → Prop} {s : Shared} {h₀ : Heap} {L l : Addr} {m : Str → Option Value} {news : List (Addr × Obj)} {ps : List (Str × Tok)} {n : Nat} {Q : Value → Shared → Prop} (F : Fr h₀ L s.heap m) (N : News h₀ L s.heap news) (hm : (l, W.listOf (PySem.strValues ps).toArray n) ∈ news) (hz : ps.length ≤ 1000)
    (h : ∀ D h', Fr h₀ L h' m → News h₀ L h' ((D, tupObj (strVals ps)) :: news) → (∀ p ∈ news, p.1 < D) → Q (.ref D) { s with heap := h' }) : wpAny (model PR w) A (call (.type "tuple") [.ref l]) Q E s :=
  kde_tupleOf F N (News.isList N hm) (by simp [PySem.strValues]; omega) (by simp [PySem.strValues]) h
theorem ne_empty {x : Str} (h : 0 < x.length) : (x == Str.ofString "") = false := by
  cases e : (x == Str.ofString "") with
  | false => rfl
  | true => have := eq_of_beq e; subst this; exact absurd h (by decide)
theorem parse_end {h₀ h : Heap} {L pt tp tb : Addr} {o : Obj} {pre bld : List (Str × Tok)} {led news : List (Addr × Obj)} (kN : News h₀ L h led) (m1 : (pt, o) ∈ led) (m2 : (tp, tupObj (strVals pre)) ∈ led) (m3 : (tb, tupObj (strVals bld)) ∈ led) (m4 : ∀ q ∈ news, q ∈ led) :
    News h₀ L h ((pt, o) :: (tp, tupObj (strVals pre)) :: (tb, tupObj (strVals bld)) :: news) := fun q hq => by
  rcases List.mem_cons.mp hq with rfl | hq
  · exact kN _ m1
  · rcases List.mem_cons.mp hq with rfl | hq
    · exact kN _ m2
    · rcases List.mem_cons.mp hq with rfl | hq
      · exact kN _ m3
      · exact kN _ (m4 _ hq)
theorem parse_ap {led news : List (Addr × Obj)} {pt tp tb : Addr} {o1 o2 o3 : Obj} (kA : ∀ p ∈ led, ∀ q ∈ news, p.1 ≠ q.1) (m1 : (pt, o1) ∈ led) (m2 : (tp, o2) ∈ led) (m3 : (tb, o3) ∈ led) : ∀ q ∈ news, pt ≠ q.1 ∧ tp ≠ q.1 ∧ tb ≠ q.1 :=
  fun q hq => ⟨kA _ m1 q hq, kA _ m2 q hq, kA _ m3 q hq⟩
theorem lz_false {w mg mb loose mean} {x : Str} {t1 : Tok} (hx : 0 < x.length) (hx2 : x.length < 10000) (hz : lz x = false)
    {dp un : Nat} {gd : Option (List Code)} {cn : Str} {cs : Scope} {a : Addr} {ccd : Value} {cl : List (Str × Addr)} {outer : List Env} {A₀ : Around} {base h₀ : Heap} {L : Addr} {m : Str → Option Value} {s : Shared} {Q E : Value → Shared → Prop} {news : List (Addr × Obj)}
    (B : Below A₀ base outer h₀) (F : Fr h₀ L s.heap m) (X : (Mine.hd.heap_39 w.params).In h₀) (N : News h₀ L s.heap news) (T : Top topProg loose mean mg mb h₀) (hk : cs.kind = .function) (hd : dp + 2 < recursionLimit) (hu : un + 16 < cLine)
    (hret : ∀ (h' : Heap) (tk' : Nat), Fr h₀ L h' m → News h₀ L h' news → Q (.bool false) { s with heap := h', toks := tk' }) :
    wpAny (model PR w) (ktrTop dp un gd cn cs L a ccd cl outer) (call (.ref 49) [.str x t1]) Q E s :=
  lz_spec x t1 hx hx2 _ _ _ _ _ _ _ _ _ _ _ _ _ _ _ _ _ _ B F X N T hk trivial hd hu (fun _ h' tk' F' N' => by rw [hz]; exact hret h' tk' F' N')
theorem call_vi {w : World} {mg mb : Str → Option Value} {loose : List Str} {mean : ExcName → Option Value} {b : Bool} {q t : Addr} {parts : List (Str × Tok)}
    {dp un : Nat} {gd : Option (List Code)} {cn : Str} {cs : Scope} {a : Addr} {ccd : Value} {cl : List (Str × Addr)} {outer : List Env}
    {h₀ : Heap} {L : Addr} {m : Str → Option Value} {s : Shared} {Q E : Value → Shared → Prop} {news : List (Addr × Obj)}
    (hq : (q, methodObj (.ref 293) (.ref 388)) ∈ news) (N : News h₀ L s.heap news) (F : Fr h₀ L s.heap m) (X : (Mine.hd.heap_39 w.params).In h₀) (T : Top topProg loose mean mg mb h₀) (hm : (t, tupObj (strVals parts)) ∈ news) (hp : ∀ p ∈ parts, PartV b p.1) (hd : dp + 4 < recursionLimit)
    (hret : ∀ h' tk', Fr h₀ L h' m → News h₀ L h' news → Q .none { s with heap := h', toks := tk' }) :
    wpAny (model PR w) (ktrTop dp un gd cn cs L a ccd cl outer) (call (.ref q) [.ref t] [("allow_leading_zeroes", .bool b)]) Q E s := by
  refine call_meth N hq ?_
  cases b with
  | false => exact vi_false rfl hd t parts hp F X T N hm hret
  | true => exact vi_true rfl hd t parts hp F X T N hm hret
theorem vg_00 {w mg mb loose mean} {x : Str} {t1 : Tok} {ga gb gc : Str} (hx : x.length < 10000) (hn : (Txt.slice x (some (-1)) none == Str.ofString "\n") = false) (hv : VG x = some (ga, gb, gc, none, none))
    {dp un : Nat} {gd : Option (List Code)} {cn : Str} {cs : Scope} {a : Addr} {ccd : Value} {cl : List (Str × Addr)} {outer : List Env} {A₀ : Around} {base h₀ : Heap} {L : Addr} {m : Str → Option Value} {s : Shared} {Q E : Value → Shared → Prop} {news : List (Addr × Obj)}
    (B : Below A₀ base outer h₀) (F : Fr h₀ L s.heap m) (X : (Mine.hd.heap_39 w.params).In h₀) (N : News h₀ L s.heap news) (T : Top topProg loose mean mg mb h₀) (hk : cs.kind = .function) (hd : dp + 2 < recursionLimit) (hu : un + 16 < cLine)
    (hret1 : ∀ (l : Addr) (ta tb tc : Tok) (n : Nat) (h' : Heap) (tk' : Nat), Fr h₀ L h' m →
      News h₀ L h' ((l, listOf #[.str ga ta, .str gb tb, .str gc tc, .none, .none] n) :: news) → (∀ p ∈ news, p.1 ≠ l) → Q (.ref l) { s with heap := h', toks := tk' }) :
    wpAny (model PR w) (ktrTop dp un gd cn cs L a ccd cl outer) (call (.ref 42) [.str x t1, .bool false]) Q E s :=
  vg_spec x t1 hx hn _ _ _ _ _ _ _ _ _ _ _ _ _ _ _ _ _ _ B F X N T hk hd hu (fun e => nomatch (hv.symm.trans e)) (fun a b c p q e l ta tb tc vp vq n h' tk' hp hq F' N' ap => by
    have e' := Option.some.inj (hv.symm.trans e)
    cases e'
    cases (show vp = .none from hp)
    cases (show vq = .none from hq)
    exact hret1 l ta tb tc n h' tk' F' N' ap)
theorem vg_01 {w mg mb loose mean} {x : Str} {t1 : Tok} {ga gb gc : Str} {gq : Str} (hx : x.length < 10000) (hn : (Txt.slice x (some (-1)) none == Str.ofString "\n") = false) (hv : VG x = some (ga, gb, gc, none, some gq))
    {dp un : Nat} {gd : Option (List Code)} {cn : Str} {cs : Scope} {a : Addr} {ccd : Value} {cl : List (Str × Addr)} {outer : List Env} {A₀ : Around} {base h₀ : Heap} {L : Addr} {m : Str → Option Value} {s : Shared} {Q E : Value → Shared → Prop} {news : List (Addr × Obj)}
    (B : Below A₀ base outer h₀) (F : Fr h₀ L s.heap m) (X : (Mine.hd.heap_39 w.params).In h₀) (N : News h₀ L s.heap news) (T : Top topProg loose mean mg mb h₀) (hk : cs.kind = .function) (hd : dp + 2 < recursionLimit) (hu : un + 16 < cLine)
    (hret1 : ∀ (l : Addr) (ta tb tc : Tok) (tq : Tok) (n : Nat) (h' : Heap) (tk' : Nat), Fr h₀ L h' m →
      News h₀ L h' ((l, listOf #[.str ga ta, .str gb tb, .str gc tc, .none, .str gq tq] n) :: news) → (∀ p ∈ news, p.1 ≠ l) → Q (.ref l) { s with heap := h', toks := tk' }) :
    wpAny (model PR w) (ktrTop dp un gd cn cs L a ccd cl outer) (call (.ref 42) [.str x t1, .bool false]) Q E s :=
  vg_spec x t1 hx hn _ _ _ _ _ _ _ _ _ _ _ _ _ _ _ _ _ _ B F X N T hk hd hu (fun e => nomatch (hv.symm.trans e)) (fun a b c p q e l ta tb tc vp vq n h' tk' hp hq F' N' ap => by
    have e' := Option.some.inj (hv.symm.trans e)
    cases e'
    cases (show vp = .none from hp)
    obtain ⟨t2, rfl⟩ := hq
    exact hret1 l ta tb tc t2 n h' tk' F' N' ap)
theorem vg_10 {w mg mb loose mean} {x : Str} {t1 : Tok} {ga gb gc : Str} {gp : Str} (hx : x.length < 10000) (hn : (Txt.slice x (some (-1)) none == Str.ofString "\n") = false) (hv : VG x = some (ga, gb, gc, some gp, none))
    {dp un : Nat} {gd : Option (List Code)} {cn : Str} {cs : Scope} {a : Addr} {ccd : Value} {cl : List (Str × Addr)} {outer : List Env} {A₀ : Around} {base h₀ : Heap} {L : Addr} {m : Str → Option Value} {s : Shared} {Q E : Value → Shared → Prop} {news : List (Addr × Obj)}
    (B : Below A₀ base outer h₀) (F : Fr h₀ L s.heap m) (X : (Mine.hd.heap_39 w.params).In h₀) (N : News h₀ L s.heap news) (T : Top topProg loose mean mg mb h₀) (hk : cs.kind = .function) (hd : dp + 2 < recursionLimit) (hu : un + 16 < cLine)
    (hret1 : ∀ (l : Addr) (ta tb tc : Tok) (tp : Tok) (n : Nat) (h' : Heap) (tk' : Nat), Fr h₀ L h' m →
      News h₀ L h' ((l, listOf #[.str ga ta, .str gb tb, .str gc tc, .str gp tp, .none] n) :: news) → (∀ p ∈ news, p.1 ≠ l) → Q (.ref l) { s with heap := h', toks := tk' }) :
    wpAny (model PR w) (ktrTop dp un gd cn cs L a ccd cl outer) (call (.ref 42) [.str x t1, .bool false]) Q E s :=
  vg_spec x t1 hx hn _ _ _ _ _ _ _ _ _ _ _ _ _ _ _ _ _ _ B F X N T hk hd hu (fun e => nomatch (hv.symm.trans e)) (fun a b c p q e l ta tb tc vp vq n h' tk' hp hq F' N' ap => by
    have e' := Option.some.inj (hv.symm.trans e)
    cases e'
    obtain ⟨t1, rfl⟩ := hp
    cases (show vq = .none from hq)
    exact hret1 l ta tb tc t1 n h' tk' F' N' ap)
theorem vg_11 {w mg mb loose mean} {x : Str} {t1 : Tok} {ga gb gc : Str} {gp : Str} {gq : Str} (hx : x.length < 10000) (hn : (Txt.slice x (some (-1)) none == Str.ofString "\n") = false) (hv : VG x = some (ga, gb, gc, some gp, some gq))
    {dp un : Nat} {gd : Option (List Code)} {cn : Str} {cs : Scope} {a : Addr} {ccd : Value} {cl : List (Str × Addr)} {outer : List Env} {A₀ : Around} {base h₀ : Heap} {L : Addr} {m : Str → Option Value} {s : Shared} {Q E : Value → Shared → Prop} {news : List (Addr × Obj)}
    (B : Below A₀ base outer h₀) (F : Fr h₀ L s.heap m) (X : (Mine.hd.heap_39 w.params).In h₀) (N : News h₀ L s.heap news) (T : Top topProg loose mean mg mb h₀) (hk : cs.kind = .function) (hd : dp + 2 < recursionLimit) (hu : un + 16 < cLine)
    (hret1 : ∀ (l : Addr) (ta tb tc : Tok) (tp : Tok) (tq : Tok) (n : Nat) (h' : Heap) (tk' : Nat), Fr h₀ L h' m →
      News h₀ L h' ((l, listOf #[.str ga ta, .str gb tb, .str gc tc, .str gp tp, .str gq tq] n) :: news) → (∀ p ∈ news, p.1 ≠ l) → Q (.ref l) { s with heap := h', toks := tk' }) :
    wpAny (model PR w) (ktrTop dp un gd cn cs L a ccd cl outer) (call (.ref 42) [.str x t1, .bool false]) Q E s :=
  vg_spec x t1 hx hn _ _ _ _ _ _ _ _ _ _ _ _ _ _ _ _ _ _ B F X N T hk hd hu (fun e => nomatch (hv.symm.trans e)) (fun a b c p q e l ta tb tc vp vq n h' tk' hp hq F' N' ap => by
    have e' := Option.some.inj (hv.symm.trans e)
    cases e'
    obtain ⟨t1, rfl⟩ := hp
    obtain ⟨t2, rfl⟩ := hq
    exact hret1 l ta tb tc t1 t2 n h' tk' F' N' ap)
local macro_rules | `(tactic| walk_at "call ref") => `(tactic| (k_here; (with_reducible show wpAny _ _ (call (Value.ref 42) _ _) _ _ _); k_dflt (first
  | (refine' vg_00 ?hx ?hn ?hv ?B ?F ?X ?N ?T ?kk ?hd ?hu ?_; (case hv => assumption); (case B => k_asm); (case F => k_asm); (case X => k_asm); (case N => k_asm); (case T => k_asm); (case kk => first | exact rfl | assumption); (case hx => assumption); (case hn => assumption); (case hd => ktr_room); (case hu => ktr_units); intro l9 ta9 tb9 tc9 n9 h9 tk9 F9 N9 ap9; (try dsimp only); (try k_fold))
  | (refine' vg_01 ?hx ?hn ?hv ?B ?F ?X ?N ?T ?kk ?hd ?hu ?_; (case hv => assumption); (case B => k_asm); (case F => k_asm); (case X => k_asm); (case N => k_asm); (case T => k_asm); (case kk => first | exact rfl | assumption); (case hx => assumption); (case hn => assumption); (case hd => ktr_room); (case hu => ktr_units); intro l9 ta9 tb9 tc9 tq9 n9 h9 tk9 F9 N9 ap9; (try dsimp only); (try k_fold))
  | (refine' vg_10 ?hx ?hn ?hv ?B ?F ?X ?N ?T ?kk ?hd ?hu ?_; (case hv => assumption); (case B => k_asm); (case F => k_asm); (case X => k_asm); (case N => k_asm); (case T => k_asm); (case kk => first | exact rfl | assumption); (case hx => assumption); (case hn => assumption); (case hd => ktr_room); (case hu => ktr_units); intro l9 ta9 tb9 tc9 tp9 n9 h9 tk9 F9 N9 ap9; (try dsimp only); (try k_fold))
  | (refine' vg_11 ?hx ?hn ?hv ?B ?F ?X ?N ?T ?kk ?hd ?hu ?_; (case hv => assumption); (case B => k_asm); (case F => k_asm); (case X => k_asm); (case N => k_asm); (case T => k_asm); (case kk => first | exact rfl | assumption); (case hx => assumption); (case hn => assumption); (case hd => ktr_room); (case hu => ktr_units); intro l9 ta9 tb9 tc9 tp9 tq9 n9 h9 tk9 F9 N9 ap9; (try dsimp only); (try k_fold))
  )))
local macro_rules | `(tactic| walk_at "call ref") => `(tactic| (k_here; (with_reducible show wpAny _ _ (call (Value.ref 49) _ _) _ _ _); k_dflt (refine' lz_false ?hx ?hx2 ?hz ?B ?F ?X ?N ?T ?kk ?hd ?hu ?_; (case B => k_asm); (case F => k_asm); (case X => k_asm); (case N => k_asm); (case T => k_asm); (case kk => first | exact rfl | assumption); (case hx => assumption); (case hx2 => omega); (case hz => assumption); (case hd => ktr_room); (case hu => ktr_units); intro h9 tk9 F9 N9; (try dsimp only); (try k_fold))))
local macro_rules | `(tactic| walk_at "call builtin:str.split") => `(tactic| (k_here; (with_reducible show wpAny _ _ (call (Value.builtin "str.split") _) _ _ _); (refine KSpl.split1 (by k_asm) (by k_asm) (by decide) ?_ (split_size (by assumption))); intro D9 l9 h9 k9 e9 a9 F9 N9 l9'; (try k_lt l9'); have hl9 := parts_of e9 (by assumption); have hz9 := len_of e9 (by assumption)))
local macro_rules | `(tactic| walk_at "call type:tuple") => `(tactic| (k_here; (with_reducible show wpAny _ _ (call (Value.type _) [Value.ref _]) _ _ _); k_dflt (refine' tuple_strs ?k1 ?k2 ?k3 ?k4 ?_; (case k1 => k_asm); (case k2 => k_asm); (case k4 => assumption); (case k3 => k_mem); k_whole); intro D8 h8 F8 N8 l8; (try k_lt l8)))
local macro_rules | `(tactic| walk_at "call ref") => `(tactic| (k_here; k_dflt (refine' call_vi ?q ?N ?F ?X ?T ?hm ?hp ?hd ?_; (case N => k_asm); (case q => k_mem); (case F => k_asm); (case X => k_asm); (case T => k_asm); (case hp => assumption); (case hm => k_mem); (case hd => ktr_room); k_whole; intro h9 tk9 F9 N9; (try dsimp only); (try k_fold))))
set_option pp.deepTerms false in
set_option pp.deepTerms.threshold 5 in
set_option maxHeartbeats 4000000 in
theorem parse_00 {w : World} {mg mb : Str → Option Value} {loose : List Str} {mean : ExcName → Option Value} (x : Str) (t1 : Tok) (ga gb gc : Str) (v1 v2 v3 : Int) (hx0 : 0 < x.length) (hx : x.length < 10000) (hn : (Txt.slice x (some (-1)) none == Str.ofString "\n") = false) (hv : VG x = some (ga, gb, gc, none, none))
    (ha0 : 0 < ga.length) (ha1 : ga.length ≤ 640) (ha : lz ga = false) (hai : PySem.intText? ga = some v1) (hb0 : 0 < gb.length) (hb1 : gb.length ≤ 640) (hb : lz gb = false) (hbi : PySem.intText? gb = some v2) (hc0 : 0 < gc.length) (hc1 : gc.length ≤ 640) (hc : lz gc = false) (hci : PySem.intText? gc = some v3)
    (args : Args) (hargs : args = ⟨[.ref 388, .str x t1, .bool false], []⟩ ∨ args = ⟨[.ref 388, .str x t1], []⟩)
    {dp un : Nat} {gd : Option (List Code)} {cn : Str} {cs : Scope} {a : Addr} {ccd : Value} {cl : List (Str × Addr)} {outer : List Env} {A₀ : Around} {base h₀ : Heap} {L : Addr} {m : Str → Option Value} {s : Shared} {Q E : Value → Shared → Prop} {news : List (Addr × Obj)}
    (B : Below A₀ base outer h₀) (F : Fr h₀ L s.heap m) (X : (Mine.hd.heap_39 w.params).In h₀) (N : News h₀ L s.heap news) (T : Top topProg loose mean mg mb h₀) (hk : cs.kind = .function) (hd : dp + 8 < recursionLimit) (hu : un + 100 < cLine)
    (hret : ∀ (h' : Heap) (tk' : Nat) (pt tp tb : Addr) (m1 m2 m3 : Tok) (pre bld : List (Str × Tok)), pre = [] → bld = [] → Fr h₀ L h' m →
      News h₀ L h' ((pt, tupObj [.int v1 m1, .int v2 m2, .int v3 m3, .ref tp, .ref tb]) :: (tp, tupObj (strVals pre)) :: (tb, tupObj (strVals bld)) :: news) → (∀ q ∈ news, pt ≠ q.1 ∧ tp ≠ q.1 ∧ tb ≠ q.1) → tp ≠ tb → Q (.ref pt) { s with heap := h', toks := tk' }) :
    codeAny (model PR w) (ktrTop dp un gd cn cs L a ccd cl outer) (.call (.ref 282) args) (fun r s' => match r with | .ok (.ret v) => Q v s' | .ok _ => False | .error e => E e s') s := by
  k_dflt (refine' enterB (sel := []) (binds := [("cls", .ref 388), ("version_string", .str x t1), ("partial", .bool false), ("coerce", .bool false)]) B F X (fun _ hq => nomatch hq) N (fun _ hq => nomatch hq) T ?kA ?kF ?kK ?k6 ?k7 ?k8 ?k9 ?kB ?_ ?c2 ?c3 ?c4 ?c5; (case kA => exact rfl); (case kF => exact rfl); (case kK => exact hk); (case k6 => k_is); (case k7 => k_is); (case k8 => ktr_room); (case k9 => rcases hargs with rfl | rfl <;> first | exact BindsTo.of_eq rfl | exact binds_K (by k_in) rfl (by k_is) rfl rfl rfl); (case c5 => decide); (case kB => exact locs rfl); (case c2 => exact rfl); (case c3 => exact rfl); (case c4 => exact rfl); k_whole; intro g L' h' FG' F' N' B' X' T'; (try dsimp only); (try k_fold))
  clear N B F X T
  k_steps
  k_dflt (refine' hret _ _ _ _ _ _ _ _ [] [] ?ep ?eq ?F (parse_end ?kN ?a ?b ?c ?d) (parse_ap ?kA ?a2 ?b2 ?c2) ?ne)
  (case ep => first | with_reducible rfl | assumption)
  (case eq => first | with_reducible rfl | assumption)
  (case F => k_asm)
  (case kN => k_asm)
  (case a => k_dflt k_mem)
  (case b => k_dflt k_mem)
  (case c => k_dflt k_mem)
  (case d => intro q hq; (repeat' (first | exact hq | refine List.Mem.tail _ ?_)))
  (case kA => assumption)
  (case a2 => k_dflt k_mem)
  (case b2 => k_dflt k_mem)
  (case c2 => k_dflt k_mem)
  (case ne => refine neN ?_; omega)
set_option pp.deepTerms false in
set_option pp.deepTerms.threshold 5 in
set_option maxHeartbeats 4000000 in
theorem parse_01 {w : World} {mg mb : Str → Option Value} {loose : List Str} {mean : ExcName → Option Value} (x : Str) (t1 : Tok) (ga gb gc : Str) (gq : Str) (hgq : gq.length < 10000) (hgq0 : 0 < gq.length) (hqv : ∀ y ∈ Txt.split gq (Str.ofString "."), PartV true y) (hql : (Txt.split gq (Str.ofString ".")).length ≤ 1000) (v1 v2 v3 : Int) (hx0 : 0 < x.length) (hx : x.length < 10000) (hn : (Txt.slice x (some (-1)) none == Str.ofString "\n") = false) (hv : VG x = some (ga, gb, gc, none, some gq))
    (ha0 : 0 < ga.length) (ha1 : ga.length ≤ 640) (ha : lz ga = false) (hai : PySem.intText? ga = some v1) (hb0 : 0 < gb.length) (hb1 : gb.length ≤ 640) (hb : lz gb = false) (hbi : PySem.intText? gb = some v2) (hc0 : 0 < gc.length) (hc1 : gc.length ≤ 640) (hc : lz gc = false) (hci : PySem.intText? gc = some v3)
    (args : Args) (hargs : args = ⟨[.ref 388, .str x t1, .bool false], []⟩ ∨ args = ⟨[.ref 388, .str x t1], []⟩)
    {dp un : Nat} {gd : Option (List Code)} {cn : Str} {cs : Scope} {a : Addr} {ccd : Value} {cl : List (Str × Addr)} {outer : List Env} {A₀ : Around} {base h₀ : Heap} {L : Addr} {m : Str → Option Value} {s : Shared} {Q E : Value → Shared → Prop} {news : List (Addr × Obj)}
    (B : Below A₀ base outer h₀) (F : Fr h₀ L s.heap m) (X : (Mine.hd.heap_39 w.params).In h₀) (N : News h₀ L s.heap news) (T : Top topProg loose mean mg mb h₀) (hk : cs.kind = .function) (hd : dp + 8 < recursionLimit) (hu : un + 100 < cLine)
    (hret : ∀ (h' : Heap) (tk' : Nat) (pt tp tb : Addr) (m1 m2 m3 : Tok) (pre bld : List (Str × Tok)), pre = [] → bld.map (·.1) = Txt.split gq (Str.ofString ".") → Fr h₀ L h' m →
      News h₀ L h' ((pt, tupObj [.int v1 m1, .int v2 m2, .int v3 m3, .ref tp, .ref tb]) :: (tp, tupObj (strVals pre)) :: (tb, tupObj (strVals bld)) :: news) → (∀ q ∈ news, pt ≠ q.1 ∧ tp ≠ q.1 ∧ tb ≠ q.1) → tp ≠ tb → Q (.ref pt) { s with heap := h', toks := tk' }) :
    codeAny (model PR w) (ktrTop dp un gd cn cs L a ccd cl outer) (.call (.ref 282) args) (fun r s' => match r with | .ok (.ret v) => Q v s' | .ok _ => False | .error e => E e s') s := by
  k_dflt (refine' enterB (sel := []) (binds := [("cls", .ref 388), ("version_string", .str x t1), ("partial", .bool false), ("coerce", .bool false)]) B F X (fun _ hq => nomatch hq) N (fun _ hq => nomatch hq) T ?kA ?kF ?kK ?k6 ?k7 ?k8 ?k9 ?kB ?_ ?c2 ?c3 ?c4 ?c5; (case kA => exact rfl); (case kF => exact rfl); (case kK => exact hk); (case k6 => k_is); (case k7 => k_is); (case k8 => ktr_room); (case k9 => rcases hargs with rfl | rfl <;> first | exact BindsTo.of_eq rfl | exact binds_K (by k_in) rfl (by k_is) rfl rfl rfl); (case c5 => decide); (case kB => exact locs rfl); (case c2 => exact rfl); (case c3 => exact rfl); (case c4 => exact rfl); k_whole; intro g L' h' FG' F' N' B' X' T'; (try dsimp only); (try k_fold))
  clear N B F X T
  have hqe := ne_empty hgq0
  k_steps
  k_dflt (refine' hret _ _ _ _ _ _ _ _ [] _ ?ep ?eq ?F (parse_end ?kN ?a ?b ?c ?d) (parse_ap ?kA ?a2 ?b2 ?c2) ?ne)
  (case ep => first | with_reducible rfl | assumption)
  (case eq => first | with_reducible rfl | assumption)
  (case F => k_asm)
  (case kN => k_asm)
  (case a => k_dflt k_mem)
  (case b => k_dflt k_mem)
  (case c => k_dflt k_mem)
  (case d => intro q hq; (repeat' (first | exact hq | refine List.Mem.tail _ ?_)))
  (case kA => assumption)
  (case a2 => k_dflt k_mem)
  (case b2 => k_dflt k_mem)
  (case c2 => k_dflt k_mem)
  (case ne => refine neN ?_; omega)
set_option pp.deepTerms false in
set_option pp.deepTerms.threshold 5 in
set_option maxHeartbeats 4000000 in
theorem parse_10 {w : World} {mg mb : Str → Option Value} {loose : List Str} {mean : ExcName → Option Value} (x : Str) (t1 : Tok) (ga gb gc : Str) (gp : Str) (hgp : gp.length < 10000) (hgp0 : 0 < gp.length) (hpv : ∀ y ∈ Txt.split gp (Str.ofString "."), PartV false y) (hpl : (Txt.split gp (Str.ofString ".")).length ≤ 1000) (v1 v2 v3 : Int) (hx0 : 0 < x.length) (hx : x.length < 10000) (hn : (Txt.slice x (some (-1)) none == Str.ofString "\n") = false) (hv : VG x = some (ga, gb, gc, some gp, none))
    (ha0 : 0 < ga.length) (ha1 : ga.length ≤ 640) (ha : lz ga = false) (hai : PySem.intText? ga = some v1) (hb0 : 0 < gb.length) (hb1 : gb.length ≤ 640) (hb : lz gb = false) (hbi : PySem.intText? gb = some v2) (hc0 : 0 < gc.length) (hc1 : gc.length ≤ 640) (hc : lz gc = false) (hci : PySem.intText? gc = some v3)
    (args : Args) (hargs : args = ⟨[.ref 388, .str x t1, .bool false], []⟩ ∨ args = ⟨[.ref 388, .str x t1], []⟩)
    {dp un : Nat} {gd : Option (List Code)} {cn : Str} {cs : Scope} {a : Addr} {ccd : Value} {cl : List (Str × Addr)} {outer : List Env} {A₀ : Around} {base h₀ : Heap} {L : Addr} {m : Str → Option Value} {s : Shared} {Q E : Value → Shared → Prop} {news : List (Addr × Obj)}
    (B : Below A₀ base outer h₀) (F : Fr h₀ L s.heap m) (X : (Mine.hd.heap_39 w.params).In h₀) (N : News h₀ L s.heap news) (T : Top topProg loose mean mg mb h₀) (hk : cs.kind = .function) (hd : dp + 8 < recursionLimit) (hu : un + 100 < cLine)
    (hret : ∀ (h' : Heap) (tk' : Nat) (pt tp tb : Addr) (m1 m2 m3 : Tok) (pre bld : List (Str × Tok)), pre.map (·.1) = Txt.split gp (Str.ofString ".") → bld = [] → Fr h₀ L h' m →
      News h₀ L h' ((pt, tupObj [.int v1 m1, .int v2 m2, .int v3 m3, .ref tp, .ref tb]) :: (tp, tupObj (strVals pre)) :: (tb, tupObj (strVals bld)) :: news) → (∀ q ∈ news, pt ≠ q.1 ∧ tp ≠ q.1 ∧ tb ≠ q.1) → tp ≠ tb → Q (.ref pt) { s with heap := h', toks := tk' }) :
    codeAny (model PR w) (ktrTop dp un gd cn cs L a ccd cl outer) (.call (.ref 282) args) (fun r s' => match r with | .ok (.ret v) => Q v s' | .ok _ => False | .error e => E e s') s := by
  k_dflt (refine' enterB (sel := []) (binds := [("cls", .ref 388), ("version_string", .str x t1), ("partial", .bool false), ("coerce", .bool false)]) B F X (fun _ hq => nomatch hq) N (fun _ hq => nomatch hq) T ?kA ?kF ?kK ?k6 ?k7 ?k8 ?k9 ?kB ?_ ?c2 ?c3 ?c4 ?c5; (case kA => exact rfl); (case kF => exact rfl); (case kK => exact hk); (case k6 => k_is); (case k7 => k_is); (case k8 => ktr_room); (case k9 => rcases hargs with rfl | rfl <;> first | exact BindsTo.of_eq rfl | exact binds_K (by k_in) rfl (by k_is) rfl rfl rfl); (case c5 => decide); (case kB => exact locs rfl); (case c2 => exact rfl); (case c3 => exact rfl); (case c4 => exact rfl); k_whole; intro g L' h' FG' F' N' B' X' T'; (try dsimp only); (try k_fold))
  clear N B F X T
  have hpe := ne_empty hgp0
  k_steps
  k_dflt (refine' hret _ _ _ _ _ _ _ _ _ [] ?ep ?eq ?F (parse_end ?kN ?a ?b ?c ?d) (parse_ap ?kA ?a2 ?b2 ?c2) ?ne)
  (case ep => first | with_reducible rfl | assumption)
  (case eq => first | with_reducible rfl | assumption)
  (case F => k_asm)
  (case kN => k_asm)
  (case a => k_dflt k_mem)
  (case b => k_dflt k_mem)
  (case c => k_dflt k_mem)
  (case d => intro q hq; (repeat' (first | exact hq | refine List.Mem.tail _ ?_)))
  (case kA => assumption)
  (case a2 => k_dflt k_mem)
  (case b2 => k_dflt k_mem)
  (case c2 => k_dflt k_mem)
  (case ne => refine neN ?_; omega)
set_option pp.deepTerms false in
set_option pp.deepTerms.threshold 5 in
set_option maxHeartbeats 4000000 in
theorem parse_11 {w : World} {mg mb : Str → Option Value} {loose : List Str} {mean : ExcName → Option Value} (x : Str) (t1 : Tok) (ga gb gc : Str) (gp : Str) (hgp : gp.length < 10000) (hgp0 : 0 < gp.length) (hpv : ∀ y ∈ Txt.split gp (Str.ofString "."), PartV false y) (hpl : (Txt.split gp (Str.ofString ".")).length ≤ 1000) (gq : Str) (hgq : gq.length < 10000) (hgq0 : 0 < gq.length) (hqv : ∀ y ∈ Txt.split gq (Str.ofString "."), PartV true y) (hql : (Txt.split gq (Str.ofString ".")).length ≤ 1000) (v1 v2 v3 : Int) (hx0 : 0 < x.length) (hx : x.length < 10000) (hn : (Txt.slice x (some (-1)) none == Str.ofString "\n") = false) (hv : VG x = some (ga, gb, gc, some gp, some gq))
    (ha0 : 0 < ga.length) (ha1 : ga.length ≤ 640) (ha : lz ga = false) (hai : PySem.intText? ga = some v1) (hb0 : 0 < gb.length) (hb1 : gb.length ≤ 640) (hb : lz gb = false) (hbi : PySem.intText? gb = some v2) (hc0 : 0 < gc.length) (hc1 : gc.length ≤ 640) (hc : lz gc = false) (hci : PySem.intText? gc = some v3)
    (args : Args) (hargs : args = ⟨[.ref 388, .str x t1, .bool false], []⟩ ∨ args = ⟨[.ref 388, .str x t1], []⟩)
    {dp un : Nat} {gd : Option (List Code)} {cn : Str} {cs : Scope} {a : Addr} {ccd : Value} {cl : List (Str × Addr)} {outer : List Env} {A₀ : Around} {base h₀ : Heap} {L : Addr} {m : Str → Option Value} {s : Shared} {Q E : Value → Shared → Prop} {news : List (Addr × Obj)}
    (B : Below A₀ base outer h₀) (F : Fr h₀ L s.heap m) (X : (Mine.hd.heap_39 w.params).In h₀) (N : News h₀ L s.heap news) (T : Top topProg loose mean mg mb h₀) (hk : cs.kind = .function) (hd : dp + 8 < recursionLimit) (hu : un + 100 < cLine)
    (hret : ∀ (h' : Heap) (tk' : Nat) (pt tp tb : Addr) (m1 m2 m3 : Tok) (pre bld : List (Str × Tok)), pre.map (·.1) = Txt.split gp (Str.ofString ".") → bld.map (·.1) = Txt.split gq (Str.ofString ".") → Fr h₀ L h' m →
      News h₀ L h' ((pt, tupObj [.int v1 m1, .int v2 m2, .int v3 m3, .ref tp, .ref tb]) :: (tp, tupObj (strVals pre)) :: (tb, tupObj (strVals bld)) :: news) → (∀ q ∈ news, pt ≠ q.1 ∧ tp ≠ q.1 ∧ tb ≠ q.1) → tp ≠ tb → Q (.ref pt) { s with heap := h', toks := tk' }) :
    codeAny (model PR w) (ktrTop dp un gd cn cs L a ccd cl outer) (.call (.ref 282) args) (fun r s' => match r with | .ok (.ret v) => Q v s' | .ok _ => False | .error e => E e s') s := by
  k_dflt (refine' enterB (sel := []) (binds := [("cls", .ref 388), ("version_string", .str x t1), ("partial", .bool false), ("coerce", .bool false)]) B F X (fun _ hq => nomatch hq) N (fun _ hq => nomatch hq) T ?kA ?kF ?kK ?k6 ?k7 ?k8 ?k9 ?kB ?_ ?c2 ?c3 ?c4 ?c5; (case kA => exact rfl); (case kF => exact rfl); (case kK => exact hk); (case k6 => k_is); (case k7 => k_is); (case k8 => ktr_room); (case k9 => rcases hargs with rfl | rfl <;> first | exact BindsTo.of_eq rfl | exact binds_K (by k_in) rfl (by k_is) rfl rfl rfl); (case c5 => decide); (case kB => exact locs rfl); (case c2 => exact rfl); (case c3 => exact rfl); (case c4 => exact rfl); k_whole; intro g L' h' FG' F' N' B' X' T'; (try dsimp only); (try k_fold))
  clear N B F X T
  have hpe := ne_empty hgp0
  have hqe := ne_empty hgq0
  k_steps
  k_dflt (refine' hret _ _ _ _ _ _ _ _ _ _ ?ep ?eq ?F (parse_end ?kN ?a ?b ?c ?d) (parse_ap ?kA ?a2 ?b2 ?c2) ?ne)
  (case ep => first | with_reducible rfl | assumption)
  (case eq => first | with_reducible rfl | assumption)
  (case F => k_asm)
  (case kN => k_asm)
  (case a => k_dflt k_mem)
  (case b => k_dflt k_mem)
  (case c => k_dflt k_mem)
  (case d => intro q hq; (repeat' (first | exact hq | refine List.Mem.tail _ ?_)))
  (case kA => assumption)
  (case a2 => k_dflt k_mem)
  (case b2 => k_dflt k_mem)
  (case c2 => k_dflt k_mem)
  (case ne => refine neN ?_; omega)
end Mine
end
section
local macro_rules | `(tactic| walk_at "pad") => `(tactic| fail)
local macro_rules | `(tactic| walk_at "pad") => `(tactic| fail)
local macro_rules | `(tactic| walk_at "pad") => `(tactic| fail)
local macro_rules | `(tactic| walk_at "pad") => `(tactic| fail)
local macro_rules | `(tactic| walk_at "pad") => `(tactic| fail)
local macro_rules | `(tactic| walk_at "pad") => `(tactic| fail)
local macro_rules | `(tactic| walk_at "pad") => `(tactic| fail)
local macro_rules | `(tactic| walk_at "pad") => `(tactic| fail)
local macro_rules | `(tactic| walk_at "pad") => `(tactic| fail)
theorem Mine.reset_I0 : True := by w_top off; trivial
open PySem PySem.W PyProof.Rows PySem.Calls PySem.Spec
set_option Elab.async false
set_option maxRecDepth 100000
namespace Mine

/-- what a text must be for the walk of Version(text): its groups, their values, their parts -/
structure POK (x ga gb gc : Str) (gp gq : Option Str) (v1 v2 v3 : Int) : Prop where
  x0 : 0 < x.length
  x1 : x.length < 10000
  n : (Txt.slice x (some (-1)) none == Str.ofString "\n") = false
  v : VG x = some (ga, gb, gc, gp, gq)
  a0 : 0 < ga.length
  a1 : ga.length ≤ 640
  a : lz ga = false
  ai : PySem.intText? ga = some v1
  b0 : 0 < gb.length
  b1 : gb.length ≤ 640
  b : lz gb = false
  bi : PySem.intText? gb = some v2
  c0 : 0 < gc.length
  c1 : gc.length ≤ 640
  c : lz gc = false
  ci : PySem.intText? gc = some v3
  p : ∀ t, gp = some t → t.length < 10000 ∧ 0 < t.length ∧ (∀ y ∈ Txt.split t (Str.ofString "."), PartV false y) ∧ (Txt.split t (Str.ofString ".")).length ≤ 1000 ∧ ∀ y ∈ Txt.split t (Str.ofString "."), PartOk y
  q : ∀ t, gq = some t → t.length < 10000 ∧ 0 < t.length ∧ (∀ y ∈ Txt.split t (Str.ofString "."), PartV true y) ∧ (Txt.split t (Str.ofString ".")).length ≤ 1000 ∧ ∀ y ∈ Txt.split t (Str.ofString "."), PartOk y
def PartsOf : Option Str → List (Str × Tok) → Prop
  | none, l => l = []
  | some t, l => l.map (·.1) = Txt.split t (Str.ofString ".")
theorem parse_ok {w : World} {mg mb : Str → Option Value} {loose : List Str} {mean : ExcName → Option Value} {x : Str} {t1 : Tok} {ga gb gc : Str} {gp gq : Option Str} {v1 v2 v3 : Int} (H : POK x ga gb gc gp gq v1 v2 v3)
    {args : Args} (hargs : args = ⟨[.ref 388, .str x t1, .bool false], []⟩ ∨ args = ⟨[.ref 388, .str x t1], []⟩)
    {dp un : Nat} {gd : Option (List Code)} {cn : Str} {cs : Scope} {a : Addr} {ccd : Value} {cl : List (Str × Addr)} {outer : List Env} {A₀ : Around} {base h₀ : Heap} {L : Addr} {m : Str → Option Value} {s : Shared} {Q E : Value → Shared → Prop} {news : List (Addr × Obj)}
    (B : Below A₀ base outer h₀) (F : Fr h₀ L s.heap m) (X : (Mine.hd.heap_39 w.params).In h₀) (N : News h₀ L s.heap news) (T : Top topProg loose mean mg mb h₀) (hk : cs.kind = .function) (hd : dp + 8 < recursionLimit) (hu : un + 100 < cLine)
    (hret : ∀ (h' : Heap) (tk' : Nat) (pt tp tb : Addr) (m1 m2 m3 : Tok) (pre bld : List (Str × Tok)), PartsOf gp pre → PartsOf gq bld → Fr h₀ L h' m →
      News h₀ L h' ((pt, tupObj [.int v1 m1, .int v2 m2, .int v3 m3, .ref tp, .ref tb]) :: (tp, tupObj (strVals pre)) :: (tb, tupObj (strVals bld)) :: news) → (∀ q ∈ news, @Ne Nat pt q.1 ∧ @Ne Nat tp q.1 ∧ @Ne Nat tb q.1) → @Ne Nat tp tb → Q (.ref pt) { s with heap := h', toks := tk' }) :
    codeAny (model PR w) (ktrTop dp un gd cn cs L a ccd cl outer) (.call (.ref 282) args) (fun r s' => match r with | .ok (.ret v) => Q v s' | .ok _ => False | .error e => E e s') s := by
  obtain ⟨x0, x1, n, v, a0, a1, av, ai, b0, b1, bv, bi, c0, c1, cv, ci, hp, hq⟩ := H
  cases gp with
  | none =>
    cases gq with
    | none => exact parse_00 x t1 ga gb gc v1 v2 v3 x0 x1 n v a0 a1 av ai b0 b1 bv bi c0 c1 cv ci args hargs B F X N T hk hd hu hret
    | some q =>
      obtain ⟨q1, q2, q3, q4, _⟩ := hq q rfl
      exact parse_01 x t1 ga gb gc q q1 q2 q3 q4 v1 v2 v3 x0 x1 n v a0 a1 av ai b0 b1 bv bi c0 c1 cv ci args hargs B F X N T hk hd hu hret
  | some p =>
    obtain ⟨p1, p2, p3, p4, _⟩ := hp p rfl
    cases gq with
    | none => exact parse_10 x t1 ga gb gc p p1 p2 p3 p4 v1 v2 v3 x0 x1 n v a0 a1 av ai b0 b1 bv bi c0 c1 cv ci args hargs B F X N T hk hd hu hret
    | some q =>
      obtain ⟨q1, q2, q3, q4, _⟩ := hq q rfl
      exact parse_11 x t1 ga gb gc p p1 p2 p3 p4 q q1 q2 q3 q4 v1 v2 v3 x0 x1 n v a0 a1 av ai b0 b1 bv bi c0 c1 cv ci args hargs B F X N T hk hd hu hret
theorem all_app {ko k1 : List (Addr × Obj)} {d : Addr} (a : ∀ p ∈ ko, p.1 ≠ d) (b : ∀ p ∈ k1, p.1 ≠ d) : ∀ p ∈ ko ++ k1, p.1 ≠ d := fun p hp => (List.mem_append.mp hp).elim (a p) (b p)
theorem pre_ok {x ga gb gc : Str} {gp gq : Option Str} {v1 v2 v3 : Int} {l : List (Str × Tok)} (H : POK x ga gb gc gp gq v1 v2 v3) (e : PartsOf gp l) : (∀ q ∈ l, PartOk q.1) ∧ l.length ≤ 1000 := by
  cases gp with
  | none => cases (show l = [] from e); exact ⟨fun _ hq => (nomatch hq), Nat.zero_le _⟩
  | some t =>
    have e' : l.map (·.1) = Txt.split t (Str.ofString ".") := e
    obtain ⟨_, _, _, h4, h5⟩ := H.p t rfl
    exact ⟨fun q hq => h5 _ (e' ▸ List.mem_map_of_mem hq), len_of e' h4⟩
theorem bld_ok {x ga gb gc : Str} {gp gq : Option Str} {v1 v2 v3 : Int} {l : List (Str × Tok)} (H : POK x ga gb gc gp gq v1 v2 v3) (e : PartsOf gq l) : (∀ q ∈ l, PartOk q.1) ∧ l.length ≤ 1000 := by
  cases gq with
  | none => cases (show l = [] from e); exact ⟨fun _ hq => (nomatch hq), Nat.zero_le _⟩
  | some t =>
    have e' : l.map (·.1) = Txt.split t (Str.ofString ".") := e
    obtain ⟨_, _, _, h4, h5⟩ := H.q t rfl
    exact ⟨fun q hq => h5 _ (e' ▸ List.mem_map_of_mem hq), len_of e' h4⟩
local macro_rules | `(tactic| walk_at "ENTER") => `(tactic| k_dflt (refine' enterP ?k1 ?k2 ?k3 ?k4 ?k5 ?kA ?kF ?kK ?k6 ?k7 ?k8 ?k9 ?kB ?_ ?c2 ?c3 ?c4 ?c5; (case kA => exact rfl); (case kF => exact rfl); (case kK => first | exact rfl | assumption); (case k1 => k_asm); (case k2 => k_asm); (case k3 => k_asm); (case k4 => k_asm); (case k5 => k_asm); (case k6 => k_is); (case k7 => k_is); (case k8 => ktr_room); (case k9 => first | exact BindsTo.of_eq rfl | exact binds_K (by k_in) rfl (by k_is) rfl rfl rfl); (case c5 => decide); (case kB => exact locs rfl); (case c2 => exact rfl); (case c3 => exact rfl); (case c4 => exact rfl); k_whole; intro L' h' F' N' B' X' T'; (try dsimp only); (try k_fold)))
local macro_rules | `(tactic| walk_at "LeaveP") => `(tactic| (k_dflt (refine' LeaveP.intro ?k1 ?k2 ?_; (case k1 => k_asm); (case k2 => k_asm); k_whole); intro kF kN0 kN kA; (try (with_reducible rename Frag.In _ _ => hx9); clear hx9); (try (with_reducible rename Top _ _ _ _ _ _ => hx9); clear hx9); (try (with_reducible rename Below _ _ _ _ => hx9); clear hx9); (try simp only [List.cons_append, List.nil_append] at kN); (try dsimp only)))
local macro_rules | `(tactic| walk_at "call ref") => `(tactic| (k_here; k_dflt (first
  | (refine' call_meth ?k1 ?k2 ?_; (case k1 => k_asm); (case k2 => k_mem); k_whole; walk_at "ENTER")
  | (refine wpAny_call ?_; walk_at "ENTER"))))

local macro_rules | `(tactic| k_all) => `(tactic| k_dflt (first | assumption | exact all_app (by assumption) (by assumption)))
local macro_rules | `(tactic| walk_at "exec Raise some none") => `(tactic| (exfalso; omega))
local macro_rules | `(tactic| walk_at "StopUp") => `(tactic| fail "no raise here")
local macro_rules | `(tactic| walk_at "InitBack") => `(tactic| (refine And.intro rfl ?_; try dsimp only))
theorem fillI0 : (PySem.Challenge.rw_ci0037_01, Mine.hd.heap_39) = (PySem.Challenge.rw_ci0037_01, Mine.hd.heap_39) := by k_fill; rfl
abbrev verDict8 (h1 h2 h3 h4 h5 h6 h7 h8 : Int) (k1 k2 k3 k4 k5 k6 k7 k8 : Tok) (v1 v2 v3 v4 v5 v6 v7 v8 : Value) : List DictEntry :=
  [⟨h1, .str "major" k1, v1⟩, ⟨h2, .str "minor" k2, v2⟩, ⟨h3, .str "patch" k3, v3⟩, ⟨h4, .str "prerelease" k4, v4⟩, ⟨h5, .str "build" k5, v5⟩, ⟨h6, .str "partial" k6, v6⟩, ⟨h7, .str "_cmp_precedence_key" k7, v7⟩, ⟨h8, .str "_sort_precedence_key" k8, v8⟩]
def IsVer (v1 v2 v3 : Int) (pre bld : List (Str × Tok)) (v : Addr) (objs : List (Addr × Obj)) : Prop :=
  ∃ (dx tp tb ck sk : Addr) (h1 h2 h3 h4 h5 h6 h7 h8 : Int) (k1 k2 k3 k4 k5 k6 k7 k8 m1 m2 m3 : Tok) (ko4 ko5 : List (Addr × Obj)), Key4 v1 v2 v3 pre ck ko4 ∧ Key5 v1 v2 v3 pre bld sk ko5 ∧
    objs = (v, instObj 388 dx) :: (dx, dictOf (verDict8 h1 h2 h3 h4 h5 h6 h7 h8 k1 k2 k3 k4 k5 k6 k7 k8 (.int v1 m1) (.int v2 m2) (.int v3 m3) (.ref tp) (.ref tb) (.bool false) (.ref ck) (.ref sk)) 8) :: (tp, tupObj (strVals pre)) :: (tb, tupObj (strVals bld)) :: (ko4 ++ ko5)
theorem units_kw (A : Around) (C : Addr) (vals : List Value) (kw : List (Str × Value)) : (A.under (.builtin "type.__call__" ⟨.ref C :: vals, kw⟩)).units = A.units + 1 := rfl
theorem news5 {h₀ h : Heap} {L : Addr} {a b c d e : Addr × Obj} {led : List (Addr × Obj)} (N : News h₀ L h led) (m1 : a ∈ led) (m2 : b ∈ led) (m3 : c ∈ led) (m4 : d ∈ led) (m5 : e ∈ led) : News h₀ L h [a, b, c, d, e] := fun q hq => by
  simp only [List.mem_cons, List.not_mem_nil, or_false] at hq
  rcases hq with rfl | rfl | rfl | rfl | rfl <;> exact N _ (by assumption)
local macro_rules | `(tactic| walk_at "call ref") => `(tactic| (k_here; k_dflt (refine' call_meth (f := .ref 282) ?k1 ?k2 ?_; (case k1 => k_asm); (case k2 => k_mem); refine' parse_ok ?H (.inl rfl) ?B ?F ?X ?N ?T ?kk ?hd ?hu ?_; (case H => assumption); (case B => k_asm); (case F => k_asm); (case X => k_asm); (case N => k_asm); (case T => k_asm); (case kk => first | exact rfl | assumption); (case hd => ktr_room); (case hu => (try simp only [units_deeper, units_kw]); (try dsimp only [ktrTop]); omega)); intro h9 tk9 pt9 tp9 tb9 m19 m29 m39 pre9 bld9 ep' eq' F9 N9 ap9 ne9; have hpo' := pre_ok (by assumption) ep'; have hqo' := bld_ok (by assumption) eq'; (k_dflt (obtain ⟨hpo1, hpo2⟩ := hpo')); (k_dflt (obtain ⟨hqo1, hqo2⟩ := hqo')); (try dsimp only); (try simp only [List.forall_mem_cons, List.not_mem_nil, false_implies, implies_true, and_true] at ap9)))
theorem news_tail5 {h₀ h : Heap} {L : Addr} {a b c d e : Addr × Obj} {ko : List (Addr × Obj)} (N : News h₀ L h (a :: b :: c :: d :: e :: ko)) : News h₀ L h ko := fun q hq => N q (List.mem_cons_of_mem _ (List.mem_cons_of_mem _ (List.mem_cons_of_mem _ (List.mem_cons_of_mem _ (List.mem_cons_of_mem _ hq)))))
theorem merge5 {h₀ h : Heap} {L : Addr} {a b c d e : Addr × Obj} {ko k1 : List (Addr × Obj)} (N : News h₀ L h (a :: b :: c :: d :: e :: ko)) (M : News h₀ L h k1) : News h₀ L h (a :: b :: c :: d :: e :: (ko ++ k1)) := fun q hq => by
  simp only [List.mem_cons, List.mem_append] at hq
  by_cases h1 : q ∈ k1
  · exact M q h1
  · exact N q (by simp only [List.mem_cons]; grind)
theorem first_ne {ko : List (Addr × Obj)} {a : Nat} {R : Addr × Obj → Prop} (h : ∀ q ∈ ko, @Ne Nat q.1 a ∧ R q) : ∀ q ∈ ko, @Ne Nat q.1 a := fun q hq => (h q hq).1
theorem ver_news {h₀ h : Heap} {L : Addr} {a b c d e : Addr × Obj} {k4 k5 news : List (Addr × Obj)} (N : News h₀ L h (a :: b :: c :: d :: e :: (k5 ++ k4 ++ news))) : News h₀ L h (a :: ((b :: c :: d :: e :: (k4 ++ k5)) ++ news)) := fun q hq => N q (by
  simp only [List.mem_cons, List.mem_append] at hq ⊢; grind)
theorem ap_tail5 {a b c d e : Nat} {o1 o2 o3 o4 o5 : Obj} {ko : List (Addr × Obj)} (ne : ∀ q ∈ ko, @Ne Nat q.1 a ∧ @Ne Nat q.1 b ∧ @Ne Nat q.1 c ∧ @Ne Nat q.1 d ∧ @Ne Nat q.1 e) : ∀ q ∈ ([(a, o1), (b, o2), (c, o3), (d, o4), (e, o5)] : List (Addr × Obj)), ∀ r ∈ ko, q.1 ≠ r.1 := fun q hq r hr => by
  have h := ne r hr
  simp only [List.mem_cons, List.not_mem_nil, or_false] at hq
  rcases hq with rfl | rfl | rfl | rfl | rfl
  · exact Ne.symm h.1
  · exact Ne.symm h.2.1
  · exact Ne.symm h.2.2.1
  · exact Ne.symm h.2.2.2.1
  · exact Ne.symm h.2.2.2.2
local macro_rules | `(tactic| walk_at "call ref") => `(tactic| (k_here; (with_reducible show wpAny _ _ (call (Value.ref 328) _ _) _ _ _); (refine wpAny_call ?_); k_dflt (refine' bpk_f ?hh _ _ _ _ _ _ _ _ _ _ _ _ _ _ _ _ _ _ _ _ _ _ _ _ _ ?hpre ?hlen _ ?hbld ?hblen _ ?ht ?hroom ?F ?X ?T (news5 ?N ?m1 ?m2 ?m3 ?m4 ?m5) News.nil (fun _ _ _ hr => nomatch hr) ?o1 ?o2 ?o3 ?o4 ?o5 ?o6 ?o7 ?o8 ?o9 ?o10 ?G ?_; (case N => k_asm); (case m1 => k_mem); (case m2 => k_mem); (case m3 => k_mem); (case m4 => k_mem); (case m5 => k_mem); (case F => k_asm); (case X => k_asm); (case T => k_asm); (case hh => first | exact rfl | assumption); (case hpre => assumption); (case hlen => assumption); (case hbld => assumption); (case hblen => assumption); (case ht => assumption); (case hroom => ktr_room); (case G => assumption); (case o1 => omega); (case o2 => omega); (case o3 => omega); (case o4 => omega); (case o5 => omega); (case o6 => omega); (case o7 => omega); (case o8 => omega); (case o9 => omega); (case o10 => omega)); intro s9 kt9 ko9 ps9 key9 ht9 F9 N9 N09 G9 os9 ne9 ap9; clear N09; have nd9 := (fun (q : Addr × Obj) (hq : q ∈ ko9) => (ne9 q hq).2.2.1); (try dsimp only)))
local macro_rules | `(tactic| walk_at "call ref") => `(tactic| (k_here; (with_reducible show wpAny _ _ (call (Value.ref 328) _ _) _ _ _); (refine wpAny_call ?_); k_dflt (refine' bpk_t ?hh _ _ _ _ _ _ _ _ _ _ _ _ _ _ _ _ _ _ _ _ _ _ _ _ _ _ _ _ ?hpre ?hlen _ ?hbld ?hblen _ ?ht ?hroom ?F ?X ?T (news5 ?N ?m1 ?m2 ?m3 ?m4 ?m5) (news_tail5 ?N2) (ap_tail5 ?ne) ?o1 ?o2 ?o3 ?o4 ?o5 ?o6 ?o7 ?o8 ?o9 ?o10 ?G ?_; (case N2 => k_asm); (case ne => assumption); (case N => k_asm); (case m1 => k_mem); (case m2 => k_mem); (case m3 => k_mem); (case m4 => k_mem); (case m5 => k_mem); (case F => k_asm); (case X => k_asm); (case T => k_asm); (case hh => first | exact rfl | assumption); (case hpre => assumption); (case hlen => assumption); (case hbld => assumption); (case hblen => assumption); (case ht => assumption); (case hroom => ktr_room); (case G => assumption); (case o1 => omega); (case o2 => omega); (case o3 => omega); (case o4 => omega); (case o5 => omega); (case o6 => omega); (case o7 => omega); (case o8 => omega); (case o9 => omega); (case o10 => omega)); intro s9 kt9 ko9 ps9 key9 ht9 F9 N9 N09 G9 os9 ne9 ap9; have N9m := merge5 N9 N09; clear N9 N09; have nd9 := (fun (q : Addr × Obj) (hq : q ∈ ko9) => (ne9 q hq).2.2.1); (try dsimp only)))
set_option pp.deepTerms false in
set_option pp.deepTerms.threshold 5 in
set_option maxHeartbeats 1000000 in
theorem ver_new {w : World} {mg mb : Str → Option Value} {loose : List Str} {mean : ExcName → Option Value} {x : Str} {t1 : Tok} {ga gb gc : Str} {gp gq : Option Str} {v1 v2 v3 : Int} (H : POK x ga gb gc gp gq v1 v2 v3)
    {kw : List (Str × Value)} (hkw : kw = ([("partial", .bool false)] : List (Str × Value)) ∨ kw = [])
    {dp un : Nat} {gd : Option (List Code)} {cn : Str} {cs : Scope} {a : Addr} {ccd : Value} {cl : List (Str × Addr)} {outer : List Env} {A₀ : Around} {base h₀ : Heap} {L : Addr} {m : Str → Option Value} {s : Shared} {Q E : Value → Shared → Prop} {news : List (Addr × Obj)} {ps : Array Value}
    (B : Below A₀ base outer h₀) (F : Fr h₀ L s.heap m) (X : (Mine.hd.heap_39 w.params).In h₀) (N : News h₀ L s.heap ((323, tabObj ps) :: news)) (hap : ∀ r ∈ news, (323 : Nat) ≠ r.1) (ht : TriplesOk ps.toList) (G : AllBare s.gens) (T : Top topProg loose mean mg mb h₀) (hk : cs.kind = .function) (hd : dp + 40 < recursionLimit) (hu : un + 200 < cLine)
    (hret : ∀ (s' : Shared) (v : Addr) (pre bld : List (Str × Tok)) (objs : List (Addr × Obj)) (ps' : Array Value), PartsOf gp pre → PartsOf gq bld → IsVer v1 v2 v3 pre bld v objs → TriplesOk ps'.toList → Fr h₀ L s'.heap m →
      News h₀ L s'.heap ((323, tabObj ps') :: (objs ++ news)) → AllBare s'.gens → s'.os = s.os → (∀ q ∈ objs, q.1 ≠ (323 : Nat)) → (∀ q ∈ objs, ∀ r ∈ news, q.1 ≠ r.1) → Q (.ref v) s') :
    wpAny (model PR w) (ktrTop dp un gd cn cs L a ccd cl outer) (call (.ref 388) [.str x t1] kw) Q E s := by
  have hx0 := H.x0
  refine' call_cls F X N ?k4 ?k5 ?k6 ?_
  case k4 => k_is
  case k5 => k_is
  case k6 => k_is
  intro v dx h1 F1 N1 l1 l2
  k_lt2 l2
  have l0 := ltN (l1 _ (List.Mem.head _))
  have NS : News h₀ L h1 [(323, tabObj ps), (v, instObj 388 dx), (dx, dictOf [] 0)] := fun q hq => N1 q (by simp only [List.mem_cons, List.not_mem_nil, or_false] at hq ⊢; grind)
  have N0 : News h₀ L h1 news := fun q hq => N1 q (by simp only [List.mem_cons]; grind)
  have hap2 : ∀ q ∈ ([(323, tabObj ps), (v, instObj 388 dx), (dx, dictOf [] 0)] : List (Addr × Obj)), ∀ r ∈ news, q.1 ≠ r.1 := by
    intro q hq r hr
    have h3 := ltN (l1 r (List.mem_cons_of_mem _ hr))
    simp only [List.mem_cons, List.not_mem_nil, or_false] at hq
    rcases hq with rfl | rfl | rfl
    · exact hap r hr
    · exact neN (by dsimp only; omega)
    · exact neN (by dsimp only; omega)
  k_dflt (refine' enterB (s := { s with heap := h1 }) (binds := [("self", .ref v), ("version_string", .str x t1), ("major", .none), ("minor", .none), ("patch", .none), ("prerelease", .none), ("build", .none), ("partial", .bool false)]) B F1 X NS N0 hap2 T ?kA ?kF ?kK ?k6 ?k7 ?k8 ?k9 ?kB ?_ ?c2 ?c3 ?c4 ?c5; (case kA => exact rfl); (case kF => exact rfl); (case kK => exact hk); (case k6 => k_is); (case k7 => k_is); (case k8 => ktr_room); (case k9 => rcases hkw with rfl | rfl <;> first | exact BindsTo.of_eq rfl | exact binds_K (by k_in) rfl (by k_is) rfl rfl rfl); (case c5 => decide); (case kB => exact locs rfl); (case c2 => exact rfl); (case c3 => exact rfl); (case c4 => exact rfl); k_whole; intro g L' h' FG' F' N' B' X' T'; (try dsimp only); (try k_fold))
  clear N N1 NS N0 B F F1 X T hap2 l1
  k_steps
  k_dflt (refine' hret _ _ _ _ _ _ ?ep ?eq ?ver ?ht ?F (ver_news ?N) ?G ?os ?ne ?ap)
  (case N => k_asm)
  (case ep => assumption)
  (case eq => assumption)
  (case ver => refine' ⟨_, _, _, _, _, _, _, _, _, _, _, _, _, _, _, _, _, _, _, _, _, _, _, _, _, _, ?a, ?b, ?c⟩; (case a => assumption); (case b => assumption); (case c => rfl))
  (case ht => assumption)
  (case F => k_asm)
  (case G => assumption)
  (case os => first | exact (by assumption : _ = _) | (simp only [*]))
  (case ne => (repeat' (first | exact List.forall_mem_nil _ | (refine List.forall_mem_cons.mpr ⟨neN ?_, ?_⟩) | (refine List.forall_mem_append.mpr ⟨?_, ?_⟩) | (dsimp only; omega) | exact first_ne (by assumption))))
  (case ap => refine end_ap (by assumption) ?_; intro q hq; simp only [List.mem_cons, List.mem_append, List.not_mem_nil, or_false] at hq ⊢; grind)
end Mine
end
section
open PySem PySem.W PyProof.Rows PySem.Calls PySem.Spec
set_option Elab.async false
set_option maxRecDepth 100000
namespace Mine
/-- what a read-only call is given: the written part stands, some objects stand that are none of it -/
structure Has (w : World) (loose : List Str) (mean : ExcName → Option Value) (mg mb : Str → Option Value) (h₀ : Heap) (objs : List (Addr × Obj)) (h : Heap) : Prop where
  X : (Mine.hd.heap_39 w.params).In h₀
  T : Top topProg loose mean mg mb h₀
  keep : ∀ b o, h₀.get? b = some o → h.get? b = some o
  has : ∀ q ∈ objs, h.get? q.1 = some q.2 ∧ h₀.get? q.1 = none
section
variable {w : World} {loose : List Str} {mean : ExcName → Option Value} {mg mb : Str → Option Value} {h₀ h h' : Heap} {objs sel : List (Addr × Obj)}
theorem Has.keeps (H : Has w loose mean mg mb h₀ objs h) (k : ∀ b o, h.get? b = some o → h'.get? b = some o) : Has w loose mean mg mb h₀ objs h' :=
  ⟨H.X, H.T, fun b o e => k b o (H.keep b o e), fun q hq => ⟨k _ _ (H.has q hq).1, (H.has q hq).2⟩⟩
theorem Has.sub (H : Has w loose mean mg mb h₀ objs h) (s : ∀ q ∈ sel, q ∈ objs) : Has w loose mean mg mb h₀ sel h := ⟨H.X, H.T, H.keep, fun q hq => H.has q (s q hq)⟩
theorem Has.of {L : Addr} {m : Str → Option Value} {news : List (Addr × Obj)} (F : Fr h₀ L h m) (X : (Mine.hd.heap_39 w.params).In h₀) (T : Top topProg loose mean mg mb h₀) (N : News h₀ L h news) (s : ∀ q ∈ objs, q ∈ news) : Has w loose mean mg mb h₀ objs h :=
  ⟨X, T, F.keep, fun q hq => ⟨(N q (s q hq)).1, (N q (s q hq)).2.2⟩⟩
theorem Has.old (H : Has w loose mean mg mb h₀ sel h) : ∀ b o, h₀.get? b = some o → (without h sel).get? b = some o := fun b o e => without_get (H.keep b o e) fun q hq e2 => by
  have := (H.has q hq).2
  rw [e2, e] at this; cases this
def LeaveH (h : Heap) (g : Heap) (sel : List (Addr × Obj)) (R : Result → Shared → Prop) (v : Value) (s' : Shared) : Prop :=
  ∃ L' m' news', Fr g L' s'.heap m' ∧ News g L' s'.heap news' ∧ (∀ q ∈ sel, q ∈ news') ∧ ((∀ b o, h.get? b = some o → s'.heap.get? b = some o) → R (.ok (.ret v)) s')
theorem LeaveH.intro {g : Heap} {L' : Addr} {m' : Str → Option Value} {news' : List (Addr × Obj)} {R : Result → Shared → Prop} {v : Value} {s' : Shared} (F' : Fr g L' s'.heap m') (N' : News g L' s'.heap news') (hs : ∀ q ∈ sel, q ∈ news')
    (k : (∀ b o, h.get? b = some o → s'.heap.get? b = some o) → R (.ok (.ret v)) s') : LeaveH h g sel R v s' := ⟨L', m', news', F', N', hs, k⟩
theorem LeaveH.keep {g : Heap} {R : Result → Shared → Prop} {v : Value} {s' : Shared} (hs : ∀ q ∈ sel, h.get? q.1 = some q.2) (x : LeaveH h (without h sel) sel R v s') : R (.ok (.ret v)) s' := by
  obtain ⟨L', m', news', F', N', h1, k⟩ := x
  refine k fun b o e => ?_
  by_cases hb : b ∈ sel.map (·.1)
  · obtain ⟨q, hq, rfl⟩ := List.mem_map.mp hb
    have := hs q hq
    rw [e] at this
    rw [Option.some.inj this]
    exact (N' q (h1 q hq)).1
  · exact F'.keep _ _ (without_get e fun q hq e2 => hb (e2 ▸ List.mem_map_of_mem hq))
/-- into a def that reads some objects -/
theorem enterH {prog : Program} {A : Around} {s : Shared} {R : Result → Shared → Prop} {name qual : Str} {params : Arguments} {body : List Stmt} {scope : Scope} {dV kV doc pm cdv ct oc : Value} {an od : Option Addr} {osl : Array (Option Value)} {f : Addr} {args : Args} {binds : List (Str × Value)}
    (H : Has w loose mean mg mb h₀ sel s.heap)
    (ho : (Mine.hd.heap_39 w.params).lookup f = some ⟨oc, od, .func (fnOf name qual params body scope dV kV doc pm an cdv ct), osl⟩) (hcd : codeIn (Mine.hd.heap_39 w.params) cdv qual = true) (hroom : A.depth < recursionLimit)
    (hbind : BindsTo s (fnOf name qual params body scope dV kV doc pm an cdv ct) args binds) (hloc : ∀ y ∈ binds, scope.names.lookup y.1 = some .local)
    (h : ∀ g L' h₁, (Mine.hd.heap_39 w.params).In g → Top topProg loose mean mg mb g → (∀ b o, h₀.get? b = some o → g.get? b = some o) → Fr g L' h₁ (fun y => binds.reverse.lookup y) → News g L' h₁ sel →
      wpAny (model prog w) (A.deeper (envOf qual scope L' f cdv)) (execs body (envOf qual scope L' f cdv))
        (fun fl s' => LeaveH s.heap g sel R (match fl with | .ret v => v | _ => .none) s')
        (fun e s' => wpAny (model prog w) (A.deeper (envOf qual scope L' f cdv)) («leaving» (envOf qual scope L' f cdv) e) (fun _ s'' => R (.error e) s'') (fun e' s'' => R (.error e') s'') s')
        { s with heap := h₁, toks := s.toks + binds.length })
    (hco : scope.isCoroutine = false) (hgen : scope.isGenerator = false) (hk : scope.kind = .function)
    (hcell : ∀ x ∈ scope.names, x.2 ≠ .cell) : codeAny (model prog w) A (.call (.ref f) args) R s := by
  have old := H.old
  refine enterC (H.X.keeps old) (fun q hq => (H.has q hq).1) (H.T.keeps old) ho hcd hroom hbind hloc (fun L' h₁ F' N' => ?_) hco hgen hk hcell
  refine wpAny_mono (h _ L' h₁ (H.X.keeps old) (H.T.keeps old) old F' N') (fun fl s' hl => ?_) fun _ _ y => y
  obtain ⟨L2, m2, news2, F2, N2, h1, k⟩ := hl
  refine LeaveC.intro F2 N2 fun kK kN => ?_
  exact LeaveH.keep (g := without s.heap sel) (fun q hq => (H.has q hq).1) ⟨L2, m2, news2, F2, N2, h1, k⟩
end
end Mine
end
section
local macro_rules | `(tactic| walk_at "pad") => `(tactic| fail)
theorem Mine.reset_P0 : True := by w_top off; trivial
open PySem PySem.W PyProof.Rows PySem.Calls PySem.Spec
set_option Elab.async false
set_option maxRecDepth 100000
namespace Mine
section
open Builtin
theorem slot_bytes_lt : Slot "bytes" (cmpInfo .Lt).2.1 "bytes.__lt__" :=
  .of (owner := "bytes") (n := "__lt__") (by rw [typeLookup_type, builtinLookup_eq_fast]; kernel_rfl) (by decide +kernel) (by decide +kernel) (by decide +kernel)
    (by first | exact .inl (by decide +kernel) | exact .inr (by decide +kernel)) (by rw [isSubtype_type]; kernel_rfl)
theorem entry_bytes_lt : entryFor table "bytes.__lt__" = some Builtin.«bytes.__lt__» := entryFor_of_tree (by kernel_rfl)
theorem args_bytes_lt_2 (a b : Value) : argsOk "bytes.__lt__" ⟨[a, b], []⟩ := by
  unfold argsOk; rw [signature?_of (id := "bytes.__lt__") (n := ['_', '_', 't', 'l', '_', '_']) (o := ['s', 'e', 't', 'y', 'b']) (by kernel_rfl) FB.owner_bytes]; kernel_rfl
def bytesLt (a b : Array UInt8) : Bool := Bytes.order a.toList b.toList == .lt
theorem gives_bytes_lt (b c : Array UInt8) (t u : Tok) : Gives («bytes.__lt__» ⟨[.bytes b t, .bytes c u], []⟩) (.val (.bool (bytesLt b c))) := by
  refine .of_wp fun M A E s Q hq => ?_
  show wpAny M A (isInstance (.bytes c u) (.type "bytes") >>= fun r => _) _ E s
  refine wpAny_bind (wpAny_isInstance (typeIs_bytes s c u) F.sub_bytes_bytes ?_)
  exact wpAny_pure ⟨_, rfl, hq⟩
theorem lt_bytes {prog : Program} {w : World} {A : Around} {E : Value → Shared → Prop} {s : Shared} {b c : Array UInt8} {t u : Tok} {Q : Value → Shared → Prop} (h : Q (.bool (bytesLt b c)) s) : wpAny (model prog w) A (compareOp .Lt (.bytes b t) (.bytes c u)) Q E s :=
  compareOp_gives (op := .Lt) (typeIs_bytes s b t) (typeIs_bytes s c u) slot_bytes_lt entry_bytes_lt (args_bytes_lt_2 _ _) (gives_bytes_lt b c t u) (fun e => nomatch e) h
end
local macro_rules | `(tactic| walk_at "compareOp Lt bytes bytes") => `(tactic| (k_here; (with_reducible show wpAny _ _ (compareOp CmpOp.Lt (Value.bytes _ _) (Value.bytes _ _)) _ _ _); refine lt_bytes ?_))
local macro_rules | `(tactic| walk_at "compareOp Eq bytes bytes") => `(tactic| (k_here; (with_reducible show wpAny _ _ (compareOp CmpOp.Eq (Value.bytes _ _) (Value.bytes _ _)) _ _ _); refine eq_bytes ?_))
local macro_rules | `(tactic| walk_at "LeaveH") => `(tactic| (k_dflt (refine' LeaveH.intro ?k1 ?k2 ?k3 ?_; (case k1 => k_asm); (case k2 => k_asm); (case k3 => (repeat' (first | exact List.forall_mem_nil _ | refine List.forall_mem_cons.mpr ⟨by k_mem, ?_⟩))); k_whole); intro kK; (try dsimp only)))
local macro_rules | `(tactic| k_all) => `(tactic| assumption)
theorem fillP0 : (PySem.Challenge.rw_ci0037_01, Mine.hd.heap_39) = (PySem.Challenge.rw_ci0037_01, Mine.hd.heap_39) := by k_fill; rfl
/-- the objects of an identifier -/
abbrev idMax (i d : Addr) : List (Addr × Obj) := [(i, instObj 94 d), (d, dictOf [] 0)]
abbrev idNum (i d : Addr) (h : Int) (k t : Tok) (n : Int) : List (Addr × Obj) := [(i, instObj 150 d), (d, dictOf [⟨h, .str "value" k, .int n t⟩] 1)]
abbrev idAlpha (i d : Addr) (h : Int) (k t : Tok) (b : Array UInt8) : List (Addr × Obj) := [(i, instObj 206 d), (d, dictOf [⟨h, .str "value" k, .bytes b t⟩] 1)]
/-- a method of two identifiers hands back r, and changes nothing -/
def Meth (f : Addr) (i j : Addr) (objs : List (Addr × Obj)) (r : Value) : Prop :=
  ∀ {w : World} {loose : List Str} {mean : ExcName → Option Value} {mg mb : Str → Option Value} {A : Around} {h₀ : Heap} {s : Shared} {Q E : Value → Shared → Prop}, A.handled = none → A.depth + 10 < recursionLimit → A.units + 60 < cLine →
    Has w loose mean mg mb h₀ objs s.heap → (∀ (h' : Heap) (tk' : Nat), (∀ b o, s.heap.get? b = some o → h'.get? b = some o) → Q r { s with heap := h', toks := tk' }) →
    codeAny (model PR w) A (.call (.ref f) ⟨[.ref i, .ref j], []⟩) (fun r s' => match r with | .ok (.ret v) => Q v s' | .ok _ => False | .error e => E e s') s
set_option maxHeartbeats 4000000 in
theorem eq_MM {i d : Addr} {j e : Addr} : Meth 63 i j [(i, instObj 94 d), (d, dictOf [] 0), (j, instObj 94 e), (e, dictOf [] 0)] (.bool true) := by
  intro w loose mean mg mb A h₀ s Q E hh hroom hu H hret
  k_dflt (refine' enterH H ?k6 ?k7 ?k8 ?k9 ?kB ?_ ?c2 ?c3 ?c4 ?c5; (case k6 => k_is); (case k7 => k_is); (case k8 => ktr_room); (case k9 => first | exact BindsTo.of_eq rfl | exact binds_K (by k_in) rfl (by k_is) rfl rfl rfl); (case c5 => decide); (case kB => exact locs rfl); (case c2 => exact rfl); (case c3 => exact rfl); (case c4 => exact rfl); k_whole; intro g L' h' X' T' K' F' N'; (try dsimp only); (try k_fold))
  clear H
  k_steps
  rename_i kK
  exact hret _ _ kK
set_option maxHeartbeats 4000000 in
theorem eq_MN {i d : Addr} {j e : Addr} {h2 : Int} {k2 t2 : Tok} {b : Int} : Meth 63 i j [(i, instObj 94 d), (d, dictOf [] 0), (j, instObj 150 e), (e, dictOf [⟨h2, .str "value" k2, .int b t2⟩] 1)] (.bool false) := by
  intro w loose mean mg mb A h₀ s Q E hh hroom hu H hret
  k_dflt (refine' enterH H ?k6 ?k7 ?k8 ?k9 ?kB ?_ ?c2 ?c3 ?c4 ?c5; (case k6 => k_is); (case k7 => k_is); (case k8 => ktr_room); (case k9 => first | exact BindsTo.of_eq rfl | exact binds_K (by k_in) rfl (by k_is) rfl rfl rfl); (case c5 => decide); (case kB => exact locs rfl); (case c2 => exact rfl); (case c3 => exact rfl); (case c4 => exact rfl); k_whole; intro g L' h' X' T' K' F' N'; (try dsimp only); (try k_fold))
  clear H
  k_steps
  rename_i kK
  exact hret _ _ kK
set_option maxHeartbeats 4000000 in
theorem eq_MA {i d : Addr} {j e : Addr} {h2 : Int} {k2 t2 : Tok} {b : Array UInt8} : Meth 63 i j [(i, instObj 94 d), (d, dictOf [] 0), (j, instObj 206 e), (e, dictOf [⟨h2, .str "value" k2, .bytes b t2⟩] 1)] (.bool false) := by
  intro w loose mean mg mb A h₀ s Q E hh hroom hu H hret
  k_dflt (refine' enterH H ?k6 ?k7 ?k8 ?k9 ?kB ?_ ?c2 ?c3 ?c4 ?c5; (case k6 => k_is); (case k7 => k_is); (case k8 => ktr_room); (case k9 => first | exact BindsTo.of_eq rfl | exact binds_K (by k_in) rfl (by k_is) rfl rfl rfl); (case c5 => decide); (case kB => exact locs rfl); (case c2 => exact rfl); (case c3 => exact rfl); (case c4 => exact rfl); k_whole; intro g L' h' X' T' K' F' N'; (try dsimp only); (try k_fold))
  clear H
  k_steps
  rename_i kK
  exact hret _ _ kK
set_option maxHeartbeats 4000000 in
theorem eq_NM {i d : Addr} {h1 : Int} {k1 t1 : Tok} {a : Int} {j e : Addr} : Meth 119 i j [(i, instObj 150 d), (d, dictOf [⟨h1, .str "value" k1, .int a t1⟩] 1), (j, instObj 94 e), (e, dictOf [] 0)] (.notImplemented) := by
  intro w loose mean mg mb A h₀ s Q E hh hroom hu H hret
  k_dflt (refine' enterH H ?k6 ?k7 ?k8 ?k9 ?kB ?_ ?c2 ?c3 ?c4 ?c5; (case k6 => k_is); (case k7 => k_is); (case k8 => ktr_room); (case k9 => first | exact BindsTo.of_eq rfl | exact binds_K (by k_in) rfl (by k_is) rfl rfl rfl); (case c5 => decide); (case kB => exact locs rfl); (case c2 => exact rfl); (case c3 => exact rfl); (case c4 => exact rfl); k_whole; intro g L' h' X' T' K' F' N'; (try dsimp only); (try k_fold))
  clear H
  k_steps
  rename_i kK
  exact hret _ _ kK
set_option maxHeartbeats 4000000 in
theorem eq_NN {i d : Addr} {h1 : Int} {k1 t1 : Tok} {a : Int} {j e : Addr} {h2 : Int} {k2 t2 : Tok} {b : Int} : Meth 119 i j [(i, instObj 150 d), (d, dictOf [⟨h1, .str "value" k1, .int a t1⟩] 1), (j, instObj 150 e), (e, dictOf [⟨h2, .str "value" k2, .int b t2⟩] 1)] (.bool (a == b)) := by
  intro w loose mean mg mb A h₀ s Q E hh hroom hu H hret
  k_dflt (refine' enterH H ?k6 ?k7 ?k8 ?k9 ?kB ?_ ?c2 ?c3 ?c4 ?c5; (case k6 => k_is); (case k7 => k_is); (case k8 => ktr_room); (case k9 => first | exact BindsTo.of_eq rfl | exact binds_K (by k_in) rfl (by k_is) rfl rfl rfl); (case c5 => decide); (case kB => exact locs rfl); (case c2 => exact rfl); (case c3 => exact rfl); (case c4 => exact rfl); k_whole; intro g L' h' X' T' K' F' N'; (try dsimp only); (try k_fold))
  clear H
  k_steps
  rename_i kK
  exact hret _ _ kK
set_option maxHeartbeats 4000000 in
theorem eq_NA {i d : Addr} {h1 : Int} {k1 t1 : Tok} {a : Int} {j e : Addr} {h2 : Int} {k2 t2 : Tok} {b : Array UInt8} : Meth 119 i j [(i, instObj 150 d), (d, dictOf [⟨h1, .str "value" k1, .int a t1⟩] 1), (j, instObj 206 e), (e, dictOf [⟨h2, .str "value" k2, .bytes b t2⟩] 1)] (.notImplemented) := by
  intro w loose mean mg mb A h₀ s Q E hh hroom hu H hret
  k_dflt (refine' enterH H ?k6 ?k7 ?k8 ?k9 ?kB ?_ ?c2 ?c3 ?c4 ?c5; (case k6 => k_is); (case k7 => k_is); (case k8 => ktr_room); (case k9 => first | exact BindsTo.of_eq rfl | exact binds_K (by k_in) rfl (by k_is) rfl rfl rfl); (case c5 => decide); (case kB => exact locs rfl); (case c2 => exact rfl); (case c3 => exact rfl); (case c4 => exact rfl); k_whole; intro g L' h' X' T' K' F' N'; (try dsimp only); (try k_fold))
  clear H
  k_steps
  rename_i kK
  exact hret _ _ kK
set_option maxHeartbeats 4000000 in
theorem eq_AM {i d : Addr} {h1 : Int} {k1 t1 : Tok} {a : Array UInt8} {j e : Addr} : Meth 175 i j [(i, instObj 206 d), (d, dictOf [⟨h1, .str "value" k1, .bytes a t1⟩] 1), (j, instObj 94 e), (e, dictOf [] 0)] (.notImplemented) := by
  intro w loose mean mg mb A h₀ s Q E hh hroom hu H hret
  k_dflt (refine' enterH H ?k6 ?k7 ?k8 ?k9 ?kB ?_ ?c2 ?c3 ?c4 ?c5; (case k6 => k_is); (case k7 => k_is); (case k8 => ktr_room); (case k9 => first | exact BindsTo.of_eq rfl | exact binds_K (by k_in) rfl (by k_is) rfl rfl rfl); (case c5 => decide); (case kB => exact locs rfl); (case c2 => exact rfl); (case c3 => exact rfl); (case c4 => exact rfl); k_whole; intro g L' h' X' T' K' F' N'; (try dsimp only); (try k_fold))
  clear H
  k_steps
  rename_i kK
  exact hret _ _ kK
set_option maxHeartbeats 4000000 in
theorem eq_AN {i d : Addr} {h1 : Int} {k1 t1 : Tok} {a : Array UInt8} {j e : Addr} {h2 : Int} {k2 t2 : Tok} {b : Int} : Meth 175 i j [(i, instObj 206 d), (d, dictOf [⟨h1, .str "value" k1, .bytes a t1⟩] 1), (j, instObj 150 e), (e, dictOf [⟨h2, .str "value" k2, .int b t2⟩] 1)] (.notImplemented) := by
  intro w loose mean mg mb A h₀ s Q E hh hroom hu H hret
  k_dflt (refine' enterH H ?k6 ?k7 ?k8 ?k9 ?kB ?_ ?c2 ?c3 ?c4 ?c5; (case k6 => k_is); (case k7 => k_is); (case k8 => ktr_room); (case k9 => first | exact BindsTo.of_eq rfl | exact binds_K (by k_in) rfl (by k_is) rfl rfl rfl); (case c5 => decide); (case kB => exact locs rfl); (case c2 => exact rfl); (case c3 => exact rfl); (case c4 => exact rfl); k_whole; intro g L' h' X' T' K' F' N'; (try dsimp only); (try k_fold))
  clear H
  k_steps
  rename_i kK
  exact hret _ _ kK
set_option maxHeartbeats 4000000 in
theorem eq_AA {i d : Addr} {h1 : Int} {k1 t1 : Tok} {a : Array UInt8} {j e : Addr} {h2 : Int} {k2 t2 : Tok} {b : Array UInt8} : Meth 175 i j [(i, instObj 206 d), (d, dictOf [⟨h1, .str "value" k1, .bytes a t1⟩] 1), (j, instObj 206 e), (e, dictOf [⟨h2, .str "value" k2, .bytes b t2⟩] 1)] (.bool (a.toList == b.toList)) := by
  intro w loose mean mg mb A h₀ s Q E hh hroom hu H hret
  k_dflt (refine' enterH H ?k6 ?k7 ?k8 ?k9 ?kB ?_ ?c2 ?c3 ?c4 ?c5; (case k6 => k_is); (case k7 => k_is); (case k8 => ktr_room); (case k9 => first | exact BindsTo.of_eq rfl | exact binds_K (by k_in) rfl (by k_is) rfl rfl rfl); (case c5 => decide); (case kB => exact locs rfl); (case c2 => exact rfl); (case c3 => exact rfl); (case c4 => exact rfl); k_whole; intro g L' h' X' T' K' F' N'; (try dsimp only); (try k_fold))
  clear H
  k_steps
  rename_i kK
  exact hret _ _ kK
set_option maxHeartbeats 4000000 in
theorem lt_MM {i d : Addr} {j e : Addr} : Meth 70 i j [(i, instObj 94 d), (d, dictOf [] 0), (j, instObj 94 e), (e, dictOf [] 0)] (.bool false) := by
  intro w loose mean mg mb A h₀ s Q E hh hroom hu H hret
  k_dflt (refine' enterH H ?k6 ?k7 ?k8 ?k9 ?kB ?_ ?c2 ?c3 ?c4 ?c5; (case k6 => k_is); (case k7 => k_is); (case k8 => ktr_room); (case k9 => first | exact BindsTo.of_eq rfl | exact binds_K (by k_in) rfl (by k_is) rfl rfl rfl); (case c5 => decide); (case kB => exact locs rfl); (case c2 => exact rfl); (case c3 => exact rfl); (case c4 => exact rfl); k_whole; intro g L' h' X' T' K' F' N'; (try dsimp only); (try k_fold))
  clear H
  k_steps
  rename_i kK
  exact hret _ _ kK
set_option maxHeartbeats 4000000 in
theorem lt_MN {i d : Addr} {j e : Addr} {h2 : Int} {k2 t2 : Tok} {b : Int} : Meth 70 i j [(i, instObj 94 d), (d, dictOf [] 0), (j, instObj 150 e), (e, dictOf [⟨h2, .str "value" k2, .int b t2⟩] 1)] (.bool false) := by
  intro w loose mean mg mb A h₀ s Q E hh hroom hu H hret
  k_dflt (refine' enterH H ?k6 ?k7 ?k8 ?k9 ?kB ?_ ?c2 ?c3 ?c4 ?c5; (case k6 => k_is); (case k7 => k_is); (case k8 => ktr_room); (case k9 => first | exact BindsTo.of_eq rfl | exact binds_K (by k_in) rfl (by k_is) rfl rfl rfl); (case c5 => decide); (case kB => exact locs rfl); (case c2 => exact rfl); (case c3 => exact rfl); (case c4 => exact rfl); k_whole; intro g L' h' X' T' K' F' N'; (try dsimp only); (try k_fold))
  clear H
  k_steps
  rename_i kK
  exact hret _ _ kK
set_option maxHeartbeats 4000000 in
theorem lt_MA {i d : Addr} {j e : Addr} {h2 : Int} {k2 t2 : Tok} {b : Array UInt8} : Meth 70 i j [(i, instObj 94 d), (d, dictOf [] 0), (j, instObj 206 e), (e, dictOf [⟨h2, .str "value" k2, .bytes b t2⟩] 1)] (.bool false) := by
  intro w loose mean mg mb A h₀ s Q E hh hroom hu H hret
  k_dflt (refine' enterH H ?k6 ?k7 ?k8 ?k9 ?kB ?_ ?c2 ?c3 ?c4 ?c5; (case k6 => k_is); (case k7 => k_is); (case k8 => ktr_room); (case k9 => first | exact BindsTo.of_eq rfl | exact binds_K (by k_in) rfl (by k_is) rfl rfl rfl); (case c5 => decide); (case kB => exact locs rfl); (case c2 => exact rfl); (case c3 => exact rfl); (case c4 => exact rfl); k_whole; intro g L' h' X' T' K' F' N'; (try dsimp only); (try k_fold))
  clear H
  k_steps
  rename_i kK
  exact hret _ _ kK
set_option maxHeartbeats 4000000 in
theorem lt_NM {i d : Addr} {h1 : Int} {k1 t1 : Tok} {a : Int} {j e : Addr} : Meth 126 i j [(i, instObj 150 d), (d, dictOf [⟨h1, .str "value" k1, .int a t1⟩] 1), (j, instObj 94 e), (e, dictOf [] 0)] (.bool true) := by
  intro w loose mean mg mb A h₀ s Q E hh hroom hu H hret
  k_dflt (refine' enterH H ?k6 ?k7 ?k8 ?k9 ?kB ?_ ?c2 ?c3 ?c4 ?c5; (case k6 => k_is); (case k7 => k_is); (case k8 => ktr_room); (case k9 => first | exact BindsTo.of_eq rfl | exact binds_K (by k_in) rfl (by k_is) rfl rfl rfl); (case c5 => decide); (case kB => exact locs rfl); (case c2 => exact rfl); (case c3 => exact rfl); (case c4 => exact rfl); k_whole; intro g L' h' X' T' K' F' N'; (try dsimp only); (try k_fold))
  clear H
  k_steps
  rename_i kK
  exact hret _ _ kK
set_option maxHeartbeats 4000000 in
theorem lt_NA {i d : Addr} {h1 : Int} {k1 t1 : Tok} {a : Int} {j e : Addr} {h2 : Int} {k2 t2 : Tok} {b : Array UInt8} : Meth 126 i j [(i, instObj 150 d), (d, dictOf [⟨h1, .str "value" k1, .int a t1⟩] 1), (j, instObj 206 e), (e, dictOf [⟨h2, .str "value" k2, .bytes b t2⟩] 1)] (.bool true) := by
  intro w loose mean mg mb A h₀ s Q E hh hroom hu H hret
  k_dflt (refine' enterH H ?k6 ?k7 ?k8 ?k9 ?kB ?_ ?c2 ?c3 ?c4 ?c5; (case k6 => k_is); (case k7 => k_is); (case k8 => ktr_room); (case k9 => first | exact BindsTo.of_eq rfl | exact binds_K (by k_in) rfl (by k_is) rfl rfl rfl); (case c5 => decide); (case kB => exact locs rfl); (case c2 => exact rfl); (case c3 => exact rfl); (case c4 => exact rfl); k_whole; intro g L' h' X' T' K' F' N'; (try dsimp only); (try k_fold))
  clear H
  k_steps
  rename_i kK
  exact hret _ _ kK
set_option maxHeartbeats 4000000 in
theorem lt_NN {i d : Addr} {h1 : Int} {k1 t1 : Tok} {a : Int} {j e : Addr} {h2 : Int} {k2 t2 : Tok} {b : Int} : Meth 126 i j [(i, instObj 150 d), (d, dictOf [⟨h1, .str "value" k1, .int a t1⟩] 1), (j, instObj 150 e), (e, dictOf [⟨h2, .str "value" k2, .int b t2⟩] 1)] (.bool (decide (a < b))) := by
  intro w loose mean mg mb A h₀ s Q E hh hroom hu H hret
  k_dflt (refine' enterH H ?k6 ?k7 ?k8 ?k9 ?kB ?_ ?c2 ?c3 ?c4 ?c5; (case k6 => k_is); (case k7 => k_is); (case k8 => ktr_room); (case k9 => first | exact BindsTo.of_eq rfl | exact binds_K (by k_in) rfl (by k_is) rfl rfl rfl); (case c5 => decide); (case kB => exact locs rfl); (case c2 => exact rfl); (case c3 => exact rfl); (case c4 => exact rfl); k_whole; intro g L' h' X' T' K' F' N'; (try dsimp only); (try k_fold))
  clear H
  k_steps
  rename_i kK
  exact hret _ _ kK
set_option maxHeartbeats 4000000 in
theorem lt_AM {i d : Addr} {h1 : Int} {k1 t1 : Tok} {a : Array UInt8} {j e : Addr} : Meth 182 i j [(i, instObj 206 d), (d, dictOf [⟨h1, .str "value" k1, .bytes a t1⟩] 1), (j, instObj 94 e), (e, dictOf [] 0)] (.bool true) := by
  intro w loose mean mg mb A h₀ s Q E hh hroom hu H hret
  k_dflt (refine' enterH H ?k6 ?k7 ?k8 ?k9 ?kB ?_ ?c2 ?c3 ?c4 ?c5; (case k6 => k_is); (case k7 => k_is); (case k8 => ktr_room); (case k9 => first | exact BindsTo.of_eq rfl | exact binds_K (by k_in) rfl (by k_is) rfl rfl rfl); (case c5 => decide); (case kB => exact locs rfl); (case c2 => exact rfl); (case c3 => exact rfl); (case c4 => exact rfl); k_whole; intro g L' h' X' T' K' F' N'; (try dsimp only); (try k_fold))
  clear H
  k_steps
  rename_i kK
  exact hret _ _ kK
set_option maxHeartbeats 4000000 in
theorem lt_AN {i d : Addr} {h1 : Int} {k1 t1 : Tok} {a : Array UInt8} {j e : Addr} {h2 : Int} {k2 t2 : Tok} {b : Int} : Meth 182 i j [(i, instObj 206 d), (d, dictOf [⟨h1, .str "value" k1, .bytes a t1⟩] 1), (j, instObj 150 e), (e, dictOf [⟨h2, .str "value" k2, .int b t2⟩] 1)] (.bool false) := by
  intro w loose mean mg mb A h₀ s Q E hh hroom hu H hret
  k_dflt (refine' enterH H ?k6 ?k7 ?k8 ?k9 ?kB ?_ ?c2 ?c3 ?c4 ?c5; (case k6 => k_is); (case k7 => k_is); (case k8 => ktr_room); (case k9 => first | exact BindsTo.of_eq rfl | exact binds_K (by k_in) rfl (by k_is) rfl rfl rfl); (case c5 => decide); (case kB => exact locs rfl); (case c2 => exact rfl); (case c3 => exact rfl); (case c4 => exact rfl); k_whole; intro g L' h' X' T' K' F' N'; (try dsimp only); (try k_fold))
  clear H
  k_steps
  rename_i kK
  exact hret _ _ kK
set_option maxHeartbeats 4000000 in
theorem lt_AA {i d : Addr} {h1 : Int} {k1 t1 : Tok} {a : Array UInt8} {j e : Addr} {h2 : Int} {k2 t2 : Tok} {b : Array UInt8} : Meth 182 i j [(i, instObj 206 d), (d, dictOf [⟨h1, .str "value" k1, .bytes a t1⟩] 1), (j, instObj 206 e), (e, dictOf [⟨h2, .str "value" k2, .bytes b t2⟩] 1)] (.bool (bytesLt a b)) := by
  intro w loose mean mg mb A h₀ s Q E hh hroom hu H hret
  k_dflt (refine' enterH H ?k6 ?k7 ?k8 ?k9 ?kB ?_ ?c2 ?c3 ?c4 ?c5; (case k6 => k_is); (case k7 => k_is); (case k8 => ktr_room); (case k9 => first | exact BindsTo.of_eq rfl | exact binds_K (by k_in) rfl (by k_is) rfl rfl rfl); (case c5 => decide); (case kB => exact locs rfl); (case c2 => exact rfl); (case c3 => exact rfl); (case c4 => exact rfl); k_whole; intro g L' h' X' T' K' F' N'; (try dsimp only); (try k_fold))
  clear H
  k_steps
  rename_i kK
  exact hret _ _ kK
set_option maxHeartbeats 4000000 in
theorem gt_MM {i d : Addr} {j e : Addr} : Meth 84 i j [(i, instObj 94 d), (d, dictOf [] 0), (j, instObj 94 e), (e, dictOf [] 0)] (.bool false) := by
  intro w loose mean mg mb A h₀ s Q E hh hroom hu H hret
  k_dflt (refine' enterH H ?k6 ?k7 ?k8 ?k9 ?kB ?_ ?c2 ?c3 ?c4 ?c5; (case k6 => k_is); (case k7 => k_is); (case k8 => ktr_room); (case k9 => first | exact BindsTo.of_eq rfl | exact binds_K (by k_in) rfl (by k_is) rfl rfl rfl); (case c5 => decide); (case kB => exact locs rfl); (case c2 => exact rfl); (case c3 => exact rfl); (case c4 => exact rfl); k_whole; intro g L' h' X' T' K' F' N'; (try dsimp only); (try k_fold))
  clear H
  k_steps
  rename_i kK
  exact hret _ _ kK
set_option maxHeartbeats 4000000 in
theorem gt_MN {i d : Addr} {j e : Addr} {h2 : Int} {k2 t2 : Tok} {b : Int} : Meth 84 i j [(i, instObj 94 d), (d, dictOf [] 0), (j, instObj 150 e), (e, dictOf [⟨h2, .str "value" k2, .int b t2⟩] 1)] (.bool true) := by
  intro w loose mean mg mb A h₀ s Q E hh hroom hu H hret
  k_dflt (refine' enterH H ?k6 ?k7 ?k8 ?k9 ?kB ?_ ?c2 ?c3 ?c4 ?c5; (case k6 => k_is); (case k7 => k_is); (case k8 => ktr_room); (case k9 => first | exact BindsTo.of_eq rfl | exact binds_K (by k_in) rfl (by k_is) rfl rfl rfl); (case c5 => decide); (case kB => exact locs rfl); (case c2 => exact rfl); (case c3 => exact rfl); (case c4 => exact rfl); k_whole; intro g L' h' X' T' K' F' N'; (try dsimp only); (try k_fold))
  clear H
  k_steps
  rename_i kK
  exact hret _ _ kK
set_option maxHeartbeats 4000000 in
theorem gt_MA {i d : Addr} {j e : Addr} {h2 : Int} {k2 t2 : Tok} {b : Array UInt8} : Meth 84 i j [(i, instObj 94 d), (d, dictOf [] 0), (j, instObj 206 e), (e, dictOf [⟨h2, .str "value" k2, .bytes b t2⟩] 1)] (.bool true) := by
  intro w loose mean mg mb A h₀ s Q E hh hroom hu H hret
  k_dflt (refine' enterH H ?k6 ?k7 ?k8 ?k9 ?kB ?_ ?c2 ?c3 ?c4 ?c5; (case k6 => k_is); (case k7 => k_is); (case k8 => ktr_room); (case k9 => first | exact BindsTo.of_eq rfl | exact binds_K (by k_in) rfl (by k_is) rfl rfl rfl); (case c5 => decide); (case kB => exact locs rfl); (case c2 => exact rfl); (case c3 => exact rfl); (case c4 => exact rfl); k_whole; intro g L' h' X' T' K' F' N'; (try dsimp only); (try k_fold))
  clear H
  k_steps
  rename_i kK
  exact hret _ _ kK
end Mine
end
section
local macro_rules | `(tactic| walk_at "pad") => `(tactic| fail)
local macro_rules | `(tactic| walk_at "pad") => `(tactic| fail)
theorem Mine.reset_P1 : True := by w_top off; trivial
open PySem PySem.W PyProof.Rows PySem.Calls PySem.Spec
set_option Elab.async false
set_option maxRecDepth 100000
namespace Mine
theorem fillP1 : (PySem.Challenge.rw_ci0037_01, Mine.hd.heap_39) = (PySem.Challenge.rw_ci0037_01, Mine.hd.heap_39) := by k_fill; rfl
/-- x op y gives b, and changes nothing that stands -/
def Rc (op : CmpOp) (x y : Value) (objs : List (Addr × Obj)) (u : Nat) (b : Bool) : Prop :=
  ∀ {w : World} {loose : List Str} {mean : ExcName → Option Value} {mg mb : Str → Option Value} {A : Around} {h₀ : Heap} {s : Shared} {Q : Value → Shared → Prop} {E : Value → Shared → Prop}, A.handled = none → A.depth + u < recursionLimit → A.units + u < cLine →
    Has w loose mean mg mb h₀ objs s.heap → (∀ (h' : Heap) (tk' : Nat), (∀ b o, s.heap.get? b = some o → h'.get? b = some o) → Q (.bool b) { s with heap := h', toks := tk' }) → wpAny (model PR w) A (richCompare op x y) Q E s
def EqB (x y : Value) (objs : List (Addr × Obj)) (u : Nat) (b : Bool) : Prop :=
  ∀ {w : World} {loose : List Str} {mean : ExcName → Option Value} {mg mb : Str → Option Value} {A : Around} {h₀ : Heap} {s : Shared} {Q : Bool → Shared → Prop} {E : Value → Shared → Prop}, A.handled = none → A.depth + u < recursionLimit → A.units + u < cLine →
    Has w loose mean mg mb h₀ objs s.heap → (∀ (h' : Heap) (tk' : Nat), (∀ b o, s.heap.get? b = some o → h'.get? b = some o) → Q b { s with heap := h', toks := tk' }) → wpAny (model PR w) A (eqBool x y) Q E s
theorem Rc.mono {op : CmpOp} {x y : Value} {objs objs' : List (Addr × Obj)} {u u' : Nat} {b : Bool} (h : Rc op x y objs u b) (hs : ∀ q ∈ objs, q ∈ objs') (hu : u ≤ u') : Rc op x y objs' u' b :=
  fun h1 h2 h3 H hq => h h1 (by omega) (by omega) (H.sub hs) hq
theorem EqB.mono {x y : Value} {objs objs' : List (Addr × Obj)} {u u' : Nat} {b : Bool} (h : EqB x y objs u b) (hs : ∀ q ∈ objs, q ∈ objs') (hu : u ≤ u') : EqB x y objs' u' b :=
  fun h1 h2 h3 H hq => h h1 (by omega) (by omega) (H.sub hs) hq
theorem EqB.same {v : Value} {objs : List (Addr × Obj)} {u : Nat} : EqB v v objs u true := fun {w loose mean mg mb A h₀ s Q E} _ _ _ _ hq => by
  unfold eqBool
  refine wpAny_holding ?_
  refine wpAny_ite_split (fun _ => ?_) (fun hab => absurd (beq_self_eq_true v) hab)
  exact wpAny_bind (wpAny_rule (wpAny_pure (hq s.heap s.toks fun _ _ e => e)))
theorem EqB.refs {i j : Addr} {objs : List (Addr × Obj)} {u : Nat} {b : Bool} (hne : i ≠ j) (h : Rc .Eq (.ref i) (.ref j) objs u b) : EqB (.ref i) (.ref j) objs u b := fun h1 h2 h3 H hq => by
  unfold eqBool
  refine wpAny_holding ?_
  refine wpAny_ite_split (fun hab => absurd (by have := eq_of_beq hab; injection this) hne) (fun _ => ?_)
  exact wpAny_bind (h h1 h2 h3 H fun h' tk' k => wpAny_truthy_bool (hq h' tk' k))
theorem EqB.int (a b : Int) (t u : Tok) {objs : List (Addr × Obj)} {n : Nat} : EqB (.int a t) (.int b u) objs n (a == b) := fun {w loose mean mg mb A h₀ s Q E} _ _ _ _ hq =>
  SeqAt.EqAt.int_int (A := A) (s := s) a t b u PR w E Q (hq s.heap s.toks fun _ _ e => e)
theorem EqB.str (a b : Str) (t u : Tok) {objs : List (Addr × Obj)} {n : Nat} : EqB (.str a t) (.str b u) objs n (a == b) := fun {w loose mean mg mb A h₀ s Q E} _ _ _ _ hq =>
  SeqAt.EqAt.str_str (A := A) (s := s) a t b u PR w E Q (hq s.heap s.toks fun _ _ e => e)
theorem Rc.lt_int (a b : Int) (t u : Tok) {objs : List (Addr × Obj)} {n : Nat} : Rc .Lt (.int a t) (.int b u) objs n (decide (a < b)) := fun {w loose mean mg mb A h₀ s Q E} _ _ _ _ hq =>
  show wpAny (model PR w) A (compareOp .Lt (.int a t) (.int b u)) Q E s from PyProof.Rows.lt_int (hq s.heap s.toks fun _ _ e => e)
theorem Rc.gt_int (a b : Int) (t u : Tok) {objs : List (Addr × Obj)} {n : Nat} : Rc .Gt (.int a t) (.int b u) objs n (decide (a > b)) := fun {w loose mean mg mb A h₀ s Q E} _ _ _ _ hq =>
  show wpAny (model PR w) A (compareOp .Gt (.int a t) (.int b u)) Q E s from PyProof.Rows.gt_int (hq s.heap s.toks fun _ _ e => e)
theorem Rc.lt_str (a b : Str) (t u : Tok) {objs : List (Addr × Obj)} {n : Nat} : Rc .Lt (.str a t) (.str b u) objs n (decide (a.cps.toList < b.cps.toList)) := fun {w loose mean mg mb A h₀ s Q E} _ _ _ _ hq =>
  show wpAny (model PR w) A (compareOp .Lt (.str a t) (.str b u)) Q E s from PyProof.Rows.lt_str (hq s.heap s.toks fun _ _ e => e)
end Mine
end
section
theorem Mine.reset_P2 : True := by w_top off; trivial
open PySem PySem.W PyProof.Rows PySem.Calls PySem.Spec
set_option Elab.async false
set_option maxRecDepth 100000
namespace Mine
section
variable {prog : Program} {w : World} {A : Around} {E : Value → Shared → Prop} {s : Shared} {K : Frag} {x C L f : Addr} {ox : Obj} {od : Option Obj} {b tb : Value} {op : CmpOp}
/-- a comparison whose left side has a method of its own, that answers -/
theorem rc_left {Q : Value → Shared → Prop} (hu : A.units < cLine) (X : K.In s.heap) (I : InstAt s.heap x ox C od) (hb : Looks (model prog w) s.heap (typeOf b) tb) (hn : notFirst K C tb = true)
    (hs : findIn K (.ref C) (cmpInfo op).2.1 = some (some (.ref f))) (hf : isFn K (.ref f) = true)
    (h : wpAny (model prog w) A (call (.ref f) [.ref x, b]) (W.CmpBack Q) E s) : wpAny (model prog w) A (richCompare op (.ref x) b) Q E s := by
  have one : wpAny (model prog w) A (tryCompare (.ref x) (cmpInfo op).2.1 b) (fun r s' => ∃ v, r = some v ∧ Q v s') E s := by
    unfold tryCompare
    refine wpAny_bind (ifBound_K X I hs hf (wpAny_mono h (fun v s' hv => ?_) fun _ _ e => e))
    cases v <;> first | exact hv.elim | exact wpAny_pure ⟨_, rfl, hv⟩
  unfold richCompare
  simp only [oneThing_ref]
  refine wpAny_holding (wpAny_bind (wpAny_cRoomFor hu ?_))
  refine wpAny_bind (I.type.here (wpAny_bind (hb.here ?_)))
  split
  · rename_i q
    have e : subIn K tb (.ref C) = some false := by
      rcases Bool.or_eq_true_iff.mp hn with e | e
      · rw [beq_iff_eq.mp e] at q; simp at q
      · exact beq_iff_eq.mp e
    refine wpAny_bind ((looks_subIn X e).here ?_)
    simp only [Bool.false_eq_true, if_false]
    refine wpAny_bind (wpAny_mono one (fun r s' z => ?_) fun _ _ e => e)
    obtain ⟨v, rfl, hq⟩ := z
    exact wpAny_pure hq
  · refine wpAny_bind (wpAny_pure ?_)
    simp only [Bool.false_eq_true, if_false]
    refine wpAny_bind (wpAny_mono one (fun r s' z => ?_) fun _ _ e => e)
    obtain ⟨v, rfl, hq⟩ := z
    exact wpAny_pure hq
def EqLast (prog : Program) (w : World) (A : Around) (x : Addr) (b : Value) (Q : Value → Shared → Prop) (E : Value → Shared → Prop) (r : Option Value) (s'' : Shared) : Prop := match r with
  | some v => Q v s''
  | none => wpAny (model prog w) A (isSame (.ref x) b) (fun k s3 => Q (.bool k) s3) E s''
/-- an == whose left side's method declines -/
theorem rc_eq_right {Q : Value → Shared → Prop} (hu : A.units < cLine) (X : K.In s.heap) (I : InstAt s.heap x ox C od) (hb : Looks (model prog w) s.heap (typeOf b) tb) (hn : notFirst K C tb = true)
    (hs : findIn K (.ref C) "__eq__" = some (some (.ref f))) (hf : isFn K (.ref f) = true)
    (h : wpAny (model prog w) A (call (.ref f) [.ref x, b]) (fun v s' => v = .notImplemented ∧ wpAny (model prog w) A (tryCompare b "__eq__" (.ref x)) (EqLast prog w A x b Q E) E s') E s) : wpAny (model prog w) A (richCompare .Eq (.ref x) b) Q E s := by
  have one : wpAny (model prog w) A (tryCompare (.ref x) "__eq__" b) (fun r s' => r = none ∧ wpAny (model prog w) A (tryCompare b "__eq__" (.ref x)) (EqLast prog w A x b Q E) E s') E s := by
    conv => arg 3; unfold tryCompare
    refine wpAny_bind (ifBound_K X I hs hf (wpAny_mono h (fun v s' hv => ?_) fun _ _ e => e))
    obtain ⟨rfl, hv⟩ := hv
    exact wpAny_pure ⟨rfl, hv⟩
  unfold richCompare
  simp only [oneThing_ref]
  refine wpAny_holding (wpAny_bind (wpAny_cRoomFor hu ?_))
  refine wpAny_bind (I.type.here (wpAny_bind (hb.here ?_)))
  split
  · rename_i q
    have e : subIn K tb (.ref C) = some false := by
      rcases Bool.or_eq_true_iff.mp hn with e | e
      · rw [beq_iff_eq.mp e] at q; simp at q
      · exact beq_iff_eq.mp e
    refine wpAny_bind ((looks_subIn X e).here ?_)
    simp only [Bool.false_eq_true, if_false]
    refine wpAny_bind (wpAny_mono one (fun r s' z => ?_) fun _ _ e => e)
    obtain ⟨rfl, hq⟩ := z
    dsimp only
    simp only [Bool.not_false, if_true]
    refine wpAny_bind (wpAny_mono hq (fun r s'' z2 => ?_) fun _ _ e => e)
    cases r with
    | some v => exact wpAny_pure z2
    | none => exact wpAny_bind (wpAny_rule (wpAny_bind (wpAny_mono z2 (fun k s3 z3 => wpAny_pure z3) fun _ _ e => e)))
  · refine wpAny_bind (wpAny_pure ?_)
    simp only [Bool.false_eq_true, if_false]
    refine wpAny_bind (wpAny_mono one (fun r s' z => ?_) fun _ _ e => e)
    obtain ⟨rfl, hq⟩ := z
    dsimp only
    simp only [Bool.not_false, if_true]
    refine wpAny_bind (wpAny_mono hq (fun r s'' z2 => ?_) fun _ _ e => e)
    cases r with
    | some v => exact wpAny_pure z2
    | none => exact wpAny_bind (wpAny_rule (wpAny_bind (wpAny_mono z2 (fun k s3 z3 => wpAny_pure z3) fun _ _ e => e)))
end
theorem fillP2 : (PySem.Challenge.rw_ci0037_01, Mine.hd.heap_39) = (PySem.Challenge.rw_ci0037_01, Mine.hd.heap_39) := by k_fill; rfl
section
variable {op : CmpOp} {C C' d e f f' i j : Addr} {objs : List (Addr × Obj)} {od oe : Obj} {b : Bool}
theorem inst_of {w : World} {loose : List Str} {mean : ExcName → Option Value} {mg mb : Str → Option Value} {h₀ h : Heap} (H : Has w loose mean mg mb h₀ objs h) (m1 : (i, instObj C d) ∈ objs) (m2 : (d, od) ∈ objs) : InstAt h i (instObj C d) C (some od) := ⟨(H.has _ m1).1, rfl, rfl, (H.has _ m2).1⟩
theorem rc_meth (M : Meth f i j objs (.bool b)) (m1 : (i, instObj C d) ∈ objs) (m2 : (d, od) ∈ objs) (m3 : (j, instObj C' e) ∈ objs) (m4 : (e, oe) ∈ objs)
    (hs : ∀ P, findIn (Mine.hd.heap_39 P) (.ref C) (cmpInfo op).2.1 = some (some (.ref f))) (hf : ∀ P, isFn (Mine.hd.heap_39 P) (.ref f) = true) (hn : ∀ P, notFirst (Mine.hd.heap_39 P) C (.ref C') = true) : Rc op (.ref i) (.ref j) objs 80 b :=
  fun {w loose mean mg mb A h₀ s Q E} hh hr hu H hq =>
    rc_left (by omega) (H.X.keeps H.keep) (inst_of H m1 m2) (inst_of H m3 m4).type (hn _) (hs _) (hf _) (wpAny_call (M hh (by omega) (by omega) H fun h' tk' k => hq h' tk' k))
theorem try_meth {w : World} {loose : List Str} {mean : ExcName → Option Value} {mg mb : Str → Option Value} {A : Around} {h₀ : Heap} {s : Shared} {Q : Option Value → Shared → Prop} {E : Value → Shared → Prop} {v : Value} (M : Meth f i j objs v) (hh : A.handled = none) (hr : A.depth + 10 < recursionLimit) (hu : A.units + 60 < cLine)
    (H : Has w loose mean mg mb h₀ objs s.heap) (m1 : (i, instObj C d) ∈ objs) (m2 : (d, od) ∈ objs) (hs : ∀ P, findIn (Mine.hd.heap_39 P) (.ref C) "__eq__" = some (some (.ref f))) (hf : ∀ P, isFn (Mine.hd.heap_39 P) (.ref f) = true)
    (hq : ∀ (h' : Heap) (tk' : Nat), (∀ b o, s.heap.get? b = some o → h'.get? b = some o) → Q (match v with | .notImplemented => none | v => some v) { s with heap := h', toks := tk' }) : wpAny (model PR w) A (tryCompare (.ref i) "__eq__" (.ref j)) Q E s := by
  unfold tryCompare
  refine wpAny_bind (ifBound_K (H.X.keeps H.keep) (inst_of H m1 m2) (hs _) (hf _) (wpAny_call (M hh hr hu H fun h' tk' k => ?_)))
  have := hq h' tk' k
  cases v <;> exact wpAny_pure this
theorem eq_ni (M : Meth f i j objs .notImplemented) {v : Value} (M' : Meth f' j i objs v) (m1 : (i, instObj C d) ∈ objs) (m2 : (d, od) ∈ objs) (m3 : (j, instObj C' e) ∈ objs) (m4 : (e, oe) ∈ objs)
    (hs : ∀ P, findIn (Mine.hd.heap_39 P) (.ref C) "__eq__" = some (some (.ref f))) (hf : ∀ P, isFn (Mine.hd.heap_39 P) (.ref f) = true) (hs' : ∀ P, findIn (Mine.hd.heap_39 P) (.ref C') "__eq__" = some (some (.ref f'))) (hf' : ∀ P, isFn (Mine.hd.heap_39 P) (.ref f') = true)
    (hn : ∀ P, notFirst (Mine.hd.heap_39 P) C (.ref C') = true) (hij : i ≠ j) (hv : v = .notImplemented ∨ v = .bool false) : Rc .Eq (.ref i) (.ref j) objs 80 false :=
  fun {w loose mean mg mb A h₀ s Q E} hh hr hu H hq => by
    refine rc_eq_right (by omega) (H.X.keeps H.keep) (inst_of H m1 m2) (inst_of H m3 m4).type (hn _) (hs _) (hf _) (wpAny_call (M hh (by omega) (by omega) H fun h' tk' k => ⟨rfl, ?_⟩))
    refine try_meth M' hh (by omega) (by omega) (s := { s with heap := h', toks := tk' }) (H.keeps k) m3 m4 hs' hf' fun h2 tk2 k2 => ?_
    have kk := fun b o e => k2 b o (k b o e)
    rcases hv with rfl | rfl
    · have H2 : Has w loose mean mg mb h₀ objs h2 := H.keeps kk
      exact SeqAt.wpAny_isSame_ref_other' hij (H2.has _ m1).1 (H2.has _ m3).1 (by intro hc; cases hc) (hq h2 tk2 kk)
    · exact hq h2 tk2 kk
end
end Mine
end
section
open PySem PySem.W PyProof.Rows PySem.Calls PySem.Spec
set_option Elab.async false
set_option maxRecDepth 100000
namespace Mine
theorem slot_obj_ne : Slot "object" "__ne__" "object.__ne__" :=
  .of (owner := "object") (n := "__ne__") (by rw [typeLookup_type, builtinLookup_eq_fast]; kernel_rfl) (by decide +kernel) (by decide +kernel) (by decide +kernel)
    (by first | exact .inl (by decide +kernel) | exact .inr (by decide +kernel)) (by rw [isSubtype_type]; kernel_rfl)
def neAns (v : Value) : Value := match v with | .notImplemented => .notImplemented | _ => .bool true
def neOpt (v : Value) : Option Value := match v with | .notImplemented => none | _ => some (.bool true)
section
variable {C C' d e f f' i j : Addr} {objs : List (Addr × Obj)} {od oe : Obj} {b : Bool}
theorem ne_call {w : World} {loose : List Str} {mean : ExcName → Option Value} {mg mb : Str → Option Value} {A : Around} {h₀ : Heap} {s : Shared} {Q : Value → Shared → Prop} {E : Value → Shared → Prop} {v : Value} (M : Meth f i j objs v) (hv : v = .notImplemented ∨ v = .bool false) (hh : A.handled = none) (hr : A.depth + 10 < recursionLimit) (hu : A.units + 70 < cLine)
    (H : Has w loose mean mg mb h₀ objs s.heap) (m1 : (i, instObj C d) ∈ objs) (m2 : (d, od) ∈ objs) (hs : ∀ P, findIn (Mine.hd.heap_39 P) (.ref C) "__eq__" = some (some (.ref f))) (hf : ∀ P, isFn (Mine.hd.heap_39 P) (.ref f) = true)
    (ho : ∀ P, subIn (Mine.hd.heap_39 P) (.ref C) (.type "object") = some true)
    (hq : ∀ (h' : Heap) (tk' : Nat), (∀ b o, s.heap.get? b = some o → h'.get? b = some o) → Q (neAns v) { s with heap := h', toks := tk' }) : wpAny (model PR w) A (call (.builtin "object.__ne__") [.ref i, .ref j]) Q E s := by
  have X := H.X.keeps H.keep
  have I := inst_of H m1 m2
  refine wpAny_call (codeAny_call_builtin slot_obj_ne.plain F.cmpEntry_ne ?_)
  have body : wpAny (model PR w) A.in1 (Builtin.«object.__ne__» ⟨[.ref i, .ref j], []⟩) (fun fin s' => match fin with | .done (.ret v) => Q v s' | .done _ => False | .again c' => False) E s := by
    unfold Builtin.«object.__ne__»
    refine wpAny_bind (m := slotArgs _ _ _) (wpAny_pure ?_)
    refine wpAny_bind (wpAny_cRoomFor (by show A.units + 1 < _; omega) ?_)
    refine wpAny_bind (ifBound_K X I (hs _) (hf _) (wpAny_call (M (A := A.in1) hh (by show A.depth + 10 < _; omega) (by show A.units + 1 + 60 < _; omega) H fun h' tk' k => ?_)))
    have hq' := hq h' tk' k
    rcases hv with rfl | rfl
    · exact wpAny_pure hq'
    · refine wpAny_bind (wpAny_truthy_bool ?_)
      exact wpAny_pure hq'
  have chk : wpAny (model PR w) A.in1 (checkBuiltinCall "object.__ne__" ⟨[.ref i, .ref j], []⟩) (fun _ s' => s' = s) (fun _ _ => False) s := by
    have ha := F.cmpArgs_ne (.ref i) (.ref j)
    simp only [checkBuiltinCall, F.cmpKind_ne, F.cmpSplit_ne]
    refine wpAny_bind ?_
    unfold isInstance
    refine wpAny_bind (I.type.here ((looks_subIn X (ho w.params)).here ?_))
    simp only [Bool.not_true, Bool.false_eq_true, if_false]
    cases hsig : Manifest.signature? "object.__ne__" with
    | none => exact wpAny_pure rfl
    | some sig =>
      simp only [argsOk, hsig] at ha
      have h2 : Bind.checkArgs "object.__ne__" sig ⟨[.ref i, .ref j], []⟩ = pure () := ha
      show wpAny _ _ (Bind.checkArgs "object.__ne__" sig ⟨[.ref i, .ref j], []⟩) _ _ s
      rw [h2]; exact wpAny_pure rfl
  refine wpAny_mono chk (fun _ s1 e => ?_) fun _ _ x => x.elim
  subst e
  refine wpAny_mono body (fun fin s' hf => ?_) fun _ _ x => x
  cases fin with
  | done fl => cases fl <;> first | exact hf | exact hf.elim
  | again c => exact hf.elim
theorem try_ne {w : World} {loose : List Str} {mean : ExcName → Option Value} {mg mb : Str → Option Value} {A : Around} {h₀ : Heap} {s : Shared} {Q : Option Value → Shared → Prop} {E : Value → Shared → Prop} {v : Value} (M : Meth f i j objs v) (hv : v = .notImplemented ∨ v = .bool false) (hh : A.handled = none) (hr : A.depth + 10 < recursionLimit) (hu : A.units + 70 < cLine)
    (H : Has w loose mean mg mb h₀ objs s.heap) (m1 : (i, instObj C d) ∈ objs) (m2 : (d, od) ∈ objs) (hs : ∀ P, findIn (Mine.hd.heap_39 P) (.ref C) "__eq__" = some (some (.ref f))) (hf : ∀ P, isFn (Mine.hd.heap_39 P) (.ref f) = true)
    (ho : ∀ P, subIn (Mine.hd.heap_39 P) (.ref C) (.type "object") = some true) (hne : ∀ P, findIn (Mine.hd.heap_39 P) (.ref C) "__ne__" = some (some (.builtin "object.__ne__")))
    (hq : ∀ (h' : Heap) (tk' : Nat), (∀ b o, s.heap.get? b = some o → h'.get? b = some o) → Q (neOpt v) { s with heap := h', toks := tk' }) : wpAny (model PR w) A (tryCompare (.ref i) "__ne__" (.ref j)) Q E s := by
  have X := H.X.keeps H.keep
  have I := inst_of H m1 m2
  have step : wpAny (model PR w) A (callSpecialIfBound? (.ref i) "__ne__" [.ref j]) (fun r s' => ∃ x, r = some x ∧ ∃ h' tk', (∀ b o, s.heap.get? b = some o → h'.get? b = some o) ∧ s' = { s with heap := h', toks := tk' } ∧ x = neAns v) E s := by
    simp only [callSpecialIfBound?, bindSpecialIfBound?]
    refine wpAny_holding (wpAny_bind (wpAny_bind (wpAny_bind (I.type.here ((looks_findIn X (hne w.params)).here ?_)))))
    refine wpAny_bind (wpAny_askSetting (wpAny_ite ?_))
    have fin : wpAny (model PR w) A (call (.builtin "object.__ne__") ([.ref i] ++ [.ref j]) >>= fun v => pure (some v)) (fun r s' => ∃ x, r = some x ∧ ∃ h' tk', (∀ b o, s.heap.get? b = some o → h'.get? b = some o) ∧ s' = { s with heap := h', toks := tk' } ∧ x = neAns v) E s :=
      wpAny_bind (ne_call M hv hh hr hu H m1 m2 hs hf ho fun h' tk' k => wpAny_pure ⟨_, rfl, h', tk', k, rfl, rfl⟩)
    simp only [slot_obj_ne.bind]
    split
    · exact wpAny_bind (wpAny_pure (wpAny_pure fin))
    · exact wpAny_tryCatch (wpAny_bind (wpAny_pure (wpAny_pure fin)))
  unfold tryCompare
  refine wpAny_bind (wpAny_mono step (fun r s' z => ?_) fun _ _ e => e)
  obtain ⟨x, rfl, h', tk', k, rfl, rfl⟩ := z
  have := hq h' tk' k
  rcases hv with rfl | rfl
  · exact wpAny_pure this
  · exact wpAny_pure this
/-- != of two identifiers that are not equal -/
theorem rc_ne (M : Meth f i j objs (.bool false)) (m1 : (i, instObj C d) ∈ objs) (m2 : (d, od) ∈ objs) (m3 : (j, instObj C' e) ∈ objs) (m4 : (e, oe) ∈ objs)
    (hs : ∀ P, findIn (Mine.hd.heap_39 P) (.ref C) "__eq__" = some (some (.ref f))) (hf : ∀ P, isFn (Mine.hd.heap_39 P) (.ref f) = true)
    (ho : ∀ P, subIn (Mine.hd.heap_39 P) (.ref C) (.type "object") = some true) (hne : ∀ P, findIn (Mine.hd.heap_39 P) (.ref C) "__ne__" = some (some (.builtin "object.__ne__")))
    (hn : ∀ P, notFirst (Mine.hd.heap_39 P) C (.ref C') = true) : Rc .NotEq (.ref i) (.ref j) objs 90 true :=
  fun {w loose mean mg mb A h₀ s Q E} hh hr hu H hq => by
    have one : wpAny (model PR w) A (tryCompare (.ref i) "__ne__" (.ref j)) (fun r s' => ∃ v, r = some v ∧ Q v s') E s :=
      try_ne M (.inr rfl) hh (by omega) (by omega) H m1 m2 hs hf ho hne fun h' tk' k => ⟨_, rfl, hq h' tk' k⟩
    unfold richCompare
    simp only [oneThing_ref]
    refine wpAny_holding (wpAny_bind (wpAny_cRoomFor (by omega) ?_))
    refine wpAny_bind ((inst_of H m1 m2).type.here (wpAny_bind ((inst_of H m3 m4).type.here ?_)))
    split
    · rename_i q
      have e : subIn (Mine.hd.heap_39 w.params) (.ref C') (.ref C) = some false := by
        rcases Bool.or_eq_true_iff.mp (hn w.params) with e | e
        · rw [beq_iff_eq.mp e] at q; simp at q
        · exact beq_iff_eq.mp e
      refine wpAny_bind ((looks_subIn (H.X.keeps H.keep) e).here ?_)
      simp only [Bool.false_eq_true, if_false]
      refine wpAny_bind (wpAny_mono one (fun r s' z => ?_) fun _ _ e => e)
      obtain ⟨v, rfl, hq⟩ := z
      exact wpAny_pure hq
    · refine wpAny_bind (wpAny_pure ?_)
      simp only [Bool.false_eq_true, if_false]
      refine wpAny_bind (wpAny_mono one (fun r s' z => ?_) fun _ _ e => e)
      obtain ⟨v, rfl, hq⟩ := z
      exact wpAny_pure hq
/-- != of two identifiers that decline both -/
theorem rc_ne_ni (M : Meth f i j objs .notImplemented) (M' : Meth f' j i objs .notImplemented) (m1 : (i, instObj C d) ∈ objs) (m2 : (d, od) ∈ objs) (m3 : (j, instObj C' e) ∈ objs) (m4 : (e, oe) ∈ objs)
    (hs : ∀ P, findIn (Mine.hd.heap_39 P) (.ref C) "__eq__" = some (some (.ref f))) (hf : ∀ P, isFn (Mine.hd.heap_39 P) (.ref f) = true) (hs' : ∀ P, findIn (Mine.hd.heap_39 P) (.ref C') "__eq__" = some (some (.ref f'))) (hf' : ∀ P, isFn (Mine.hd.heap_39 P) (.ref f') = true)
    (ho : ∀ P, subIn (Mine.hd.heap_39 P) (.ref C) (.type "object") = some true) (hne : ∀ P, findIn (Mine.hd.heap_39 P) (.ref C) "__ne__" = some (some (.builtin "object.__ne__")))
    (ho' : ∀ P, subIn (Mine.hd.heap_39 P) (.ref C') (.type "object") = some true) (hne' : ∀ P, findIn (Mine.hd.heap_39 P) (.ref C') "__ne__" = some (some (.builtin "object.__ne__")))
    (hn : ∀ P, notFirst (Mine.hd.heap_39 P) C (.ref C') = true) (hij : i ≠ j) : Rc .NotEq (.ref i) (.ref j) objs 90 true :=
  fun {w loose mean mg mb A h₀ s Q E} hh hr hu H hq => by
    have one : wpAny (model PR w) A (tryCompare (.ref i) "__ne__" (.ref j)) (fun r s' => r = none ∧ wpAny (model PR w) A (tryCompare (.ref j) "__ne__" (.ref i)) (fun r s'' => r = none ∧ wpAny (model PR w) A (isSame (.ref i) (.ref j)) (fun k s3 => Q (.bool (!k)) s3) E s'') E s') E s := by
      refine try_ne M (.inl rfl) hh (by omega) (by omega) H m1 m2 hs hf ho hne fun h' tk' k => ⟨rfl, ?_⟩
      refine try_ne (s := { s with heap := h', toks := tk' }) M' (.inl rfl) hh (by omega) (by omega) (H.keeps k) m3 m4 hs' hf' ho' hne' fun h2 tk2 k2 => ⟨rfl, ?_⟩
      have kk := fun b o e => k2 b o (k b o e)
      have H2 : Has w loose mean mg mb h₀ objs h2 := H.keeps kk
      exact SeqAt.wpAny_isSame_ref_other' hij (H2.has _ m1).1 (H2.has _ m3).1 (by intro hc; cases hc) (hq h2 tk2 kk)
    unfold richCompare
    simp only [oneThing_ref]
    refine wpAny_holding (wpAny_bind (wpAny_cRoomFor (by omega) ?_))
    refine wpAny_bind ((inst_of H m1 m2).type.here (wpAny_bind ((inst_of H m3 m4).type.here ?_)))
    split
    · rename_i q
      have e : subIn (Mine.hd.heap_39 w.params) (.ref C') (.ref C) = some false := by
        rcases Bool.or_eq_true_iff.mp (hn w.params) with e | e
        · rw [beq_iff_eq.mp e] at q; simp at q
        · exact beq_iff_eq.mp e
      refine wpAny_bind ((looks_subIn (H.X.keeps H.keep) e).here ?_)
      simp only [Bool.false_eq_true, if_false]
      refine wpAny_bind (wpAny_mono one (fun r s' z => ?_) fun _ _ e => e)
      obtain ⟨rfl, hq⟩ := z
      dsimp only
      simp only [Bool.not_false, if_true]
      refine wpAny_bind (wpAny_mono hq (fun r s'' z2 => ?_) fun _ _ e => e)
      obtain ⟨rfl, z2⟩ := z2
      exact wpAny_bind (wpAny_rule (wpAny_bind (wpAny_mono z2 (fun k s3 z3 => wpAny_pure z3) fun _ _ e => e)))
    · refine wpAny_bind (wpAny_pure ?_)
      simp only [Bool.false_eq_true, if_false]
      refine wpAny_bind (wpAny_mono one (fun r s' z => ?_) fun _ _ e => e)
      obtain ⟨rfl, hq⟩ := z
      dsimp only
      simp only [Bool.not_false, if_true]
      refine wpAny_bind (wpAny_mono hq (fun r s'' z2 => ?_) fun _ _ e => e)
      obtain ⟨rfl, z2⟩ := z2
      exact wpAny_bind (wpAny_rule (wpAny_bind (wpAny_mono z2 (fun k s3 z3 => wpAny_pure z3) fun _ _ e => e)))
end
end Mine
end
section
local macro_rules | `(tactic| walk_at "pad") => `(tactic| fail)
local macro_rules | `(tactic| walk_at "pad") => `(tactic| fail)
theorem Mine.reset_P4 : True := by w_top off; trivial
open PySem PySem.W PyProof.Rows PySem.Calls PySem.Spec
set_option Elab.async false
set_option maxRecDepth 100000
namespace Mine
local macro_rules | `(tactic| walk_at "LeaveH") => `(tactic| (k_dflt (refine' LeaveH.intro ?k1 ?k2 ?k3 ?_; (case k1 => k_asm); (case k2 => k_asm); (case k3 => (repeat' (first | exact List.forall_mem_nil _ | refine List.forall_mem_cons.mpr ⟨by k_mem, ?_⟩))); k_whole); intro kK; (try dsimp only)))
local macro_rules | `(tactic| k_all) => `(tactic| assumption)
theorem fillP4 : (PySem.Challenge.rw_ci0037_01, Mine.hd.heap_39) = (PySem.Challenge.rw_ci0037_01, Mine.hd.heap_39) := by k_fill; rfl
section
variable {w : World} {loose : List Str} {mean : ExcName → Option Value} {mg mb : Str → Option Value} {A : Around} {h₀ : Heap} {s : Shared} {Q E : Value → Shared → Prop} {L : Addr} {m : Str → Option Value} {objs led : List (Addr × Obj)} {x y : Value} {u : Nat} {b : Bool}
theorem cmp_lt (R : Rc .Lt x y objs u b) (hh : A.handled = none) (hr : A.depth + u < recursionLimit) (hu : A.units + u < cLine) (F : Fr h₀ L s.heap m) (X : (Mine.hd.heap_39 w.params).In h₀) (T : Top topProg loose mean mg mb h₀) (N : News h₀ L s.heap led) (hs : ∀ q ∈ objs, q ∈ led)
    (h : ∀ h' tk', Fr h₀ L h' m → News h₀ L h' led → Q (.bool b) { s with heap := h', toks := tk' }) : wpAny (model PR w) A (compareOp .Lt x y) Q E s :=
  show wpAny (model PR w) A (richCompare .Lt x y) Q E s from R hh hr hu (Has.of F X T N hs) fun h' tk' k => h h' tk' (F.keeps k) (N.grown k)
theorem cmp_gt (R : Rc .Gt x y objs u b) (hh : A.handled = none) (hr : A.depth + u < recursionLimit) (hu : A.units + u < cLine) (F : Fr h₀ L s.heap m) (X : (Mine.hd.heap_39 w.params).In h₀) (T : Top topProg loose mean mg mb h₀) (N : News h₀ L s.heap led) (hs : ∀ q ∈ objs, q ∈ led)
    (h : ∀ h' tk', Fr h₀ L h' m → News h₀ L h' led → Q (.bool b) { s with heap := h', toks := tk' }) : wpAny (model PR w) A (compareOp .Gt x y) Q E s :=
  show wpAny (model PR w) A (richCompare .Gt x y) Q E s from R hh hr hu (Has.of F X T N hs) fun h' tk' k => h h' tk' (F.keeps k) (N.grown k)
theorem cmp_ne (R : Rc .NotEq x y objs u b) (hh : A.handled = none) (hr : A.depth + u < recursionLimit) (hu : A.units + u < cLine) (F : Fr h₀ L s.heap m) (X : (Mine.hd.heap_39 w.params).In h₀) (T : Top topProg loose mean mg mb h₀) (N : News h₀ L s.heap led) (hs : ∀ q ∈ objs, q ∈ led)
    (h : ∀ h' tk', Fr h₀ L h' m → News h₀ L h' led → Q (.bool b) { s with heap := h', toks := tk' }) : wpAny (model PR w) A (compareOp .NotEq x y) Q E s :=
  show wpAny (model PR w) A (richCompare .NotEq x y) Q E s from R hh hr hu (Has.of F X T N hs) fun h' tk' k => h h' tk' (F.keeps k) (N.grown k)
end
def MethG (f : Addr) (i j : Addr) (objs : List (Addr × Obj)) (r : Value) : Prop :=
  ∀ {w : World} {loose : List Str} {mean : ExcName → Option Value} {mg mb : Str → Option Value} {A : Around} {h₀ : Heap} {s : Shared} {Q E : Value → Shared → Prop}, A.handled = none → A.depth + 120 < recursionLimit → A.units + 120 < cLine →
    Has w loose mean mg mb h₀ objs s.heap → (∀ (h' : Heap) (tk' : Nat), (∀ b o, s.heap.get? b = some o → h'.get? b = some o) → Q r { s with heap := h', toks := tk' }) →
    codeAny (model PR w) A (.call (.ref f) ⟨[.ref i, .ref j], []⟩) (fun r s' => match r with | .ok (.ret v) => Q v s' | .ok _ => False | .error e => E e s') s
local macro_rules | `(tactic| walk_at "compareOp Lt ref ref") => `(tactic| (k_here; (with_reducible show wpAny _ _ (compareOp CmpOp.Lt (Value.ref _) (Value.ref _)) _ _ _); k_dflt (refine' cmp_lt ?R ?hh ?hr ?hu ?F ?X ?T ?N (fun _ h => h) ?_; (case R => assumption); (case hh => first | exact rfl | assumption); (case hr => ktr_room); (case hu => (try simp only [units_deeper]); omega); (case F => k_asm); (case X => k_asm); (case T => k_asm); (case N => k_asm)); intro h9 tk9 F9 N9; (try dsimp only)))
local macro_rules | `(tactic| walk_at "compareOp NotEq ref ref") => `(tactic| (k_here; (with_reducible show wpAny _ _ (compareOp CmpOp.NotEq (Value.ref _) (Value.ref _)) _ _ _); k_dflt (refine' cmp_ne ?R ?hh ?hr ?hu ?F ?X ?T ?N (fun _ h => h) ?_; (case R => assumption); (case hh => first | exact rfl | assumption); (case hr => ktr_room); (case hu => (try simp only [units_deeper]); omega); (case F => k_asm); (case X => k_asm); (case T => k_asm); (case N => k_asm)); intro h9 tk9 F9 N9; (try dsimp only)))
set_option pp.deepTerms false in
set_option pp.deepTerms.threshold 5 in
set_option maxHeartbeats 4000000 in
theorem gt_walkA {i j d e : Addr} {od : Obj} {C : Addr} {oe : Obj} (RL : Rc .Lt (.ref i) (.ref j) [(i, instObj 206 d), (d, od), (j, instObj C e), (e, oe)] 80 false) (RN : Rc .NotEq (.ref i) (.ref j) [(i, instObj 206 d), (d, od), (j, instObj C e), (e, oe)] 90 true) : MethG 189 i j [(i, instObj 206 d), (d, od), (j, instObj C e), (e, oe)] (.bool true) := by
  intro w loose mean mg mb A h₀ s Q E hh hroom hu H hret
  k_dflt (refine' enterH H ?k6 ?k7 ?k8 ?k9 ?kB ?_ ?c2 ?c3 ?c4 ?c5; (case k6 => k_is); (case k7 => k_is); (case k8 => ktr_room); (case k9 => first | exact BindsTo.of_eq rfl | exact binds_K (by k_in) rfl (by k_is) rfl rfl rfl); (case c5 => decide); (case kB => exact locs rfl); (case c2 => exact rfl); (case c3 => exact rfl); (case c4 => exact rfl); k_whole; intro g L' h' X' T' K' F' N'; (try dsimp only); (try k_fold))
  clear H
  k_steps
  rename_i kK
  exact hret _ _ kK
set_option pp.deepTerms false in
set_option pp.deepTerms.threshold 5 in
set_option maxHeartbeats 4000000 in
theorem gt_walkN {i j d e : Addr} {od : Obj} {C : Addr} {oe : Obj} (RL : Rc .Lt (.ref i) (.ref j) [(i, instObj 150 d), (d, od), (j, instObj C e), (e, oe)] 80 false) (RN : Rc .NotEq (.ref i) (.ref j) [(i, instObj 150 d), (d, od), (j, instObj C e), (e, oe)] 90 true) : MethG 133 i j [(i, instObj 150 d), (d, od), (j, instObj C e), (e, oe)] (.bool true) := by
  intro w loose mean mg mb A h₀ s Q E hh hroom hu H hret
  k_dflt (refine' enterH H ?k6 ?k7 ?k8 ?k9 ?kB ?_ ?c2 ?c3 ?c4 ?c5; (case k6 => k_is); (case k7 => k_is); (case k8 => ktr_room); (case k9 => first | exact BindsTo.of_eq rfl | exact binds_K (by k_in) rfl (by k_is) rfl rfl rfl); (case c5 => decide); (case kB => exact locs rfl); (case c2 => exact rfl); (case c3 => exact rfl); (case c4 => exact rfl); k_whole; intro g L' h' X' T' K' F' N'; (try dsimp only); (try k_fold))
  clear H
  k_steps
  rename_i kK
  exact hret _ _ kK
end Mine
end
section
local macro_rules | `(tactic| walk_at "pad") => `(tactic| fail)
theorem Mine.reset_P5 : True := by w_top off; trivial
open PySem PySem.W PyProof.Rows PySem.Calls PySem.Spec
set_option Elab.async false
set_option maxRecDepth 100000
namespace Mine
theorem fillP5 : (PySem.Challenge.rw_ci0037_01, Mine.hd.heap_39) = (PySem.Challenge.rw_ci0037_01, Mine.hd.heap_39) := by k_fill; rfl
/-- an identifier's worth -/
inductive Idn
  | max
  | num (n : Int)
  | alpha (b : Array UInt8)
def IdObjs : Idn → Addr → List (Addr × Obj) → Prop
  | .max, i, o => ∃ d : Addr, o = [(i, instObj 94 d), (d, dictOf [] 0)]
  | .num n, i, o => ∃ (d : Addr) (h : Int) (k t : Tok), o = [(i, instObj 150 d), (d, dictOf [⟨h, .str "value" k, .int n t⟩] 1)]
  | .alpha b, i, o => ∃ (d : Addr) (h : Int) (k t : Tok), o = [(i, instObj 206 d), (d, dictOf [⟨h, .str "value" k, .bytes b t⟩] 1)]
def idEq : Idn → Idn → Bool
  | .max, .max => true
  | .num a, .num b => a == b
  | .alpha a, .alpha b => a.toList == b.toList
  | _, _ => false
def idLt : Idn → Idn → Bool
  | .max, _ => false
  | .num a, .num b => decide (a < b)
  | .num _, _ => true
  | .alpha _, .max => true
  | .alpha _, .num _ => false
  | .alpha a, .alpha b => bytesLt a b
theorem Meth.perm {f i j : Addr} {objs objs' : List (Addr × Obj)} {v : Value} (M : Meth f i j objs v) (hs : ∀ q ∈ objs, q ∈ objs') : Meth f i j objs' v := fun h1 h2 h3 H hq => M h1 h2 h3 (H.sub hs) hq
section
variable {i j : Addr}
theorem swap4 {a b c d : Addr × Obj} : ∀ q ∈ [a, b, c, d], q ∈ [c, d, a, b] := fun q hq => by
  simp only [List.mem_cons, List.not_mem_nil, or_false] at hq ⊢; grind
theorem m1 {a b c d : Addr × Obj} : a ∈ [a, b, c, d] := .head _
theorem m2 {a b c d : Addr × Obj} : b ∈ [a, b, c, d] := .tail _ (.head _)
theorem m3 {a b c d : Addr × Obj} : c ∈ [a, b, c, d] := .tail _ (.tail _ (.head _))
theorem m4 {a b c d : Addr × Obj} : d ∈ [a, b, c, d] := .tail _ (.tail _ (.tail _ (.head _)))
theorem id_eq {x y : Idn} {ox oy : List (Addr × Obj)} (hx : IdObjs x i ox) (hy : IdObjs y j oy) (hij : i ≠ j) : Rc .Eq (.ref i) (.ref j) (ox ++ oy) 80 (idEq x y) := by
  cases x with
  | max =>
    obtain ⟨d, rfl⟩ := hx
    cases y with
    | max =>
      obtain ⟨e, rfl⟩ := hy
      exact rc_meth (op := .Eq) (C := 94) (C' := 94) (f := 63) eq_MM m1 m2 m3 m4 (by intro P; k_dflt k_is) (by intro P; k_dflt k_is) (by intro P; k_dflt k_is)
    | num b =>
      obtain ⟨e, h', k', t', rfl⟩ := hy
      exact rc_meth (op := .Eq) (C := 94) (C' := 150) (f := 63) eq_MN m1 m2 m3 m4 (by intro P; k_dflt k_is) (by intro P; k_dflt k_is) (by intro P; k_dflt k_is)
    | alpha b =>
      obtain ⟨e, h', k', t', rfl⟩ := hy
      exact rc_meth (op := .Eq) (C := 94) (C' := 206) (f := 63) eq_MA m1 m2 m3 m4 (by intro P; k_dflt k_is) (by intro P; k_dflt k_is) (by intro P; k_dflt k_is)
  | num a =>
    obtain ⟨d, h, k, t, rfl⟩ := hx
    cases y with
    | max =>
      obtain ⟨e, rfl⟩ := hy
      exact eq_ni (C := 150) (C' := 94) (f := 119) (f' := 63) eq_NM (Meth.perm eq_MN swap4) m1 m2 m3 m4 (by intro P; k_dflt k_is) (by intro P; k_dflt k_is) (by intro P; k_dflt k_is) (by intro P; k_dflt k_is) (by intro P; k_dflt k_is) hij (.inr rfl)
    | num b =>
      obtain ⟨e, h', k', t', rfl⟩ := hy
      exact rc_meth (op := .Eq) (C := 150) (C' := 150) (f := 119) eq_NN m1 m2 m3 m4 (by intro P; k_dflt k_is) (by intro P; k_dflt k_is) (by intro P; k_dflt k_is)
    | alpha b =>
      obtain ⟨e, h', k', t', rfl⟩ := hy
      exact eq_ni (C := 150) (C' := 206) (f := 119) (f' := 175) eq_NA (Meth.perm eq_AN swap4) m1 m2 m3 m4 (by intro P; k_dflt k_is) (by intro P; k_dflt k_is) (by intro P; k_dflt k_is) (by intro P; k_dflt k_is) (by intro P; k_dflt k_is) hij (.inl rfl)
  | alpha a =>
    obtain ⟨d, h, k, t, rfl⟩ := hx
    cases y with
    | max =>
      obtain ⟨e, rfl⟩ := hy
      exact eq_ni (C := 206) (C' := 94) (f := 175) (f' := 63) eq_AM (Meth.perm eq_MA swap4) m1 m2 m3 m4 (by intro P; k_dflt k_is) (by intro P; k_dflt k_is) (by intro P; k_dflt k_is) (by intro P; k_dflt k_is) (by intro P; k_dflt k_is) hij (.inr rfl)
    | num b =>
      obtain ⟨e, h', k', t', rfl⟩ := hy
      exact eq_ni (C := 206) (C' := 150) (f := 175) (f' := 119) eq_AN (Meth.perm eq_NA swap4) m1 m2 m3 m4 (by intro P; k_dflt k_is) (by intro P; k_dflt k_is) (by intro P; k_dflt k_is) (by intro P; k_dflt k_is) (by intro P; k_dflt k_is) hij (.inl rfl)
    | alpha b =>
      obtain ⟨e, h', k', t', rfl⟩ := hy
      exact rc_meth (op := .Eq) (C := 206) (C' := 206) (f := 175) eq_AA m1 m2 m3 m4 (by intro P; k_dflt k_is) (by intro P; k_dflt k_is) (by intro P; k_dflt k_is)
theorem id_lt {x y : Idn} {ox oy : List (Addr × Obj)} (hx : IdObjs x i ox) (hy : IdObjs y j oy) : Rc .Lt (.ref i) (.ref j) (ox ++ oy) 80 (idLt x y) := by
  cases x with
  | max =>
    obtain ⟨d, rfl⟩ := hx
    cases y with
    | max =>
      obtain ⟨e, rfl⟩ := hy
      exact rc_meth (op := .Lt) (C := 94) (C' := 94) (f := 70) lt_MM m1 m2 m3 m4 (by intro P; k_dflt k_is) (by intro P; k_dflt k_is) (by intro P; k_dflt k_is)
    | num b =>
      obtain ⟨e, h', k', t', rfl⟩ := hy
      exact rc_meth (op := .Lt) (C := 94) (C' := 150) (f := 70) lt_MN m1 m2 m3 m4 (by intro P; k_dflt k_is) (by intro P; k_dflt k_is) (by intro P; k_dflt k_is)
    | alpha b =>
      obtain ⟨e, h', k', t', rfl⟩ := hy
      exact rc_meth (op := .Lt) (C := 94) (C' := 206) (f := 70) lt_MA m1 m2 m3 m4 (by intro P; k_dflt k_is) (by intro P; k_dflt k_is) (by intro P; k_dflt k_is)
  | num a =>
    obtain ⟨d, h, k, t, rfl⟩ := hx
    cases y with
    | max =>
      obtain ⟨e, rfl⟩ := hy
      exact rc_meth (op := .Lt) (C := 150) (C' := 94) (f := 126) lt_NM m1 m2 m3 m4 (by intro P; k_dflt k_is) (by intro P; k_dflt k_is) (by intro P; k_dflt k_is)
    | num b =>
      obtain ⟨e, h', k', t', rfl⟩ := hy
      exact rc_meth (op := .Lt) (C := 150) (C' := 150) (f := 126) lt_NN m1 m2 m3 m4 (by intro P; k_dflt k_is) (by intro P; k_dflt k_is) (by intro P; k_dflt k_is)
    | alpha b =>
      obtain ⟨e, h', k', t', rfl⟩ := hy
      exact rc_meth (op := .Lt) (C := 150) (C' := 206) (f := 126) lt_NA m1 m2 m3 m4 (by intro P; k_dflt k_is) (by intro P; k_dflt k_is) (by intro P; k_dflt k_is)
  | alpha a =>
    obtain ⟨d, h, k, t, rfl⟩ := hx
    cases y with
    | max =>
      obtain ⟨e, rfl⟩ := hy
      exact rc_meth (op := .Lt) (C := 206) (C' := 94) (f := 182) lt_AM m1 m2 m3 m4 (by intro P; k_dflt k_is) (by intro P; k_dflt k_is) (by intro P; k_dflt k_is)
    | num b =>
      obtain ⟨e, h', k', t', rfl⟩ := hy
      exact rc_meth (op := .Lt) (C := 206) (C' := 150) (f := 182) lt_AN m1 m2 m3 m4 (by intro P; k_dflt k_is) (by intro P; k_dflt k_is) (by intro P; k_dflt k_is)
    | alpha b =>
      obtain ⟨e, h', k', t', rfl⟩ := hy
      exact rc_meth (op := .Lt) (C := 206) (C' := 206) (f := 182) lt_AA m1 m2 m3 m4 (by intro P; k_dflt k_is) (by intro P; k_dflt k_is) (by intro P; k_dflt k_is)
theorem rc_methG {op : CmpOp} {C C' d e f : Addr} {objs : List (Addr × Obj)} {od oe : Obj} {b : Bool} (M : MethG f i j objs (.bool b)) (m1 : (i, instObj C d) ∈ objs) (m2 : (d, od) ∈ objs) (m3 : (j, instObj C' e) ∈ objs) (m4 : (e, oe) ∈ objs)
    (hs : ∀ P, findIn (Mine.hd.heap_39 P) (.ref C) (cmpInfo op).2.1 = some (some (.ref f))) (hf : ∀ P, isFn (Mine.hd.heap_39 P) (.ref f) = true) (hn : ∀ P, notFirst (Mine.hd.heap_39 P) C (.ref C') = true) : Rc op (.ref i) (.ref j) objs 140 b :=
  fun {w loose mean mg mb A h₀ s Q E} hh hr hu H hq =>
    rc_left (by omega) (H.X.keeps H.keep) (inst_of H m1 m2) (inst_of H m3 m4).type (hn _) (hs _) (hf _) (wpAny_call (M hh (by omega) (by omega) H fun h' tk' k => hq h' tk' k))
theorem Rc.val {op : CmpOp} {x y : Value} {objs : List (Addr × Obj)} {u : Nat} {b b' : Bool} (R : Rc op x y objs u b) (e : b = b') : Rc op x y objs u b' := e ▸ R
theorem Meth.val {f i j : Addr} {objs : List (Addr × Obj)} {b b' : Bool} (M : Meth f i j objs (.bool b)) (e : b = b') : Meth f i j objs (.bool b') := e ▸ M
theorem id_gt {x y : Idn} {ox oy : List (Addr × Obj)} (hx : IdObjs x i ox) (hy : IdObjs y j oy) (hij : i ≠ j) (hl : idLt x y = false) (he : idEq x y = false) : Rc .Gt (.ref i) (.ref j) (ox ++ oy) 140 true := by
  cases x with
  | max =>
    obtain ⟨d, rfl⟩ := hx
    cases y with
    | max =>
      obtain ⟨e, rfl⟩ := hy
      cases he
    | num b =>
      obtain ⟨e, h', k', t', rfl⟩ := hy
      exact Rc.mono (rc_meth (op := .Gt) (C := 94) (C' := 150) (f := 84) gt_MN m1 m2 m3 m4 (by intro P; k_dflt k_is) (by intro P; k_dflt k_is) (by intro P; k_dflt k_is)) (fun _ h => h) (by omega)
    | alpha b =>
      obtain ⟨e, h', k', t', rfl⟩ := hy
      exact Rc.mono (rc_meth (op := .Gt) (C := 94) (C' := 206) (f := 84) gt_MA m1 m2 m3 m4 (by intro P; k_dflt k_is) (by intro P; k_dflt k_is) (by intro P; k_dflt k_is)) (fun _ h => h) (by omega)
  | num a =>
    obtain ⟨d, h, k, t, rfl⟩ := hx
    cases y with
    | max =>
      obtain ⟨e, rfl⟩ := hy
      cases hl
    | num b =>
      obtain ⟨e, h', k', t', rfl⟩ := hy
      exact rc_methG (op := .Gt) (C := 150) (C' := 150) (f := 133) (gt_walkN (Rc.val (rc_meth (op := .Lt) (C := 150) (C' := 150) (f := 126) lt_NN m1 m2 m3 m4 (by intro P; k_dflt k_is) (by intro P; k_dflt k_is) (by intro P; k_dflt k_is)) hl) (rc_ne (C := 150) (C' := 150) (f := 119) (Meth.val eq_NN he) m1 m2 m3 m4 (by intro P; k_dflt k_is) (by intro P; k_dflt k_is) (by intro P; k_dflt k_is) (by intro P; k_dflt k_is) (by intro P; k_dflt k_is))) m1 m2 m3 m4 (by intro P; k_dflt k_is) (by intro P; k_dflt k_is) (by intro P; k_dflt k_is)
    | alpha b =>
      obtain ⟨e, h', k', t', rfl⟩ := hy
      cases hl
  | alpha a =>
    obtain ⟨d, h, k, t, rfl⟩ := hx
    cases y with
    | max =>
      obtain ⟨e, rfl⟩ := hy
      cases hl
    | num b =>
      obtain ⟨e, h', k', t', rfl⟩ := hy
      exact rc_methG (op := .Gt) (C := 206) (C' := 150) (f := 189) (gt_walkA (Rc.val (rc_meth (op := .Lt) (C := 206) (C' := 150) (f := 182) lt_AN m1 m2 m3 m4 (by intro P; k_dflt k_is) (by intro P; k_dflt k_is) (by intro P; k_dflt k_is)) hl) (rc_ne_ni (C := 206) (C' := 150) (f := 175) (f' := 119) eq_AN (Meth.perm eq_NA swap4) m1 m2 m3 m4 (by intro P; k_dflt k_is) (by intro P; k_dflt k_is) (by intro P; k_dflt k_is) (by intro P; k_dflt k_is) (by intro P; k_dflt k_is) (by intro P; k_dflt k_is) (by intro P; k_dflt k_is) (by intro P; k_dflt k_is) (by intro P; k_dflt k_is) hij)) m1 m2 m3 m4 (by intro P; k_dflt k_is) (by intro P; k_dflt k_is) (by intro P; k_dflt k_is)
    | alpha b =>
      obtain ⟨e, h', k', t', rfl⟩ := hy
      exact rc_methG (op := .Gt) (C := 206) (C' := 206) (f := 189) (gt_walkA (Rc.val (rc_meth (op := .Lt) (C := 206) (C' := 206) (f := 182) lt_AA m1 m2 m3 m4 (by intro P; k_dflt k_is) (by intro P; k_dflt k_is) (by intro P; k_dflt k_is)) hl) (rc_ne (C := 206) (C' := 206) (f := 175) (Meth.val eq_AA he) m1 m2 m3 m4 (by intro P; k_dflt k_is) (by intro P; k_dflt k_is) (by intro P; k_dflt k_is) (by intro P; k_dflt k_is) (by intro P; k_dflt k_is))) m1 m2 m3 m4 (by intro P; k_dflt k_is) (by intro P; k_dflt k_is) (by intro P; k_dflt k_is)
end
end Mine
end
section
open PySem PySem.W PyProof.Rows PySem.Calls PySem.Spec
open PySem.Sem (wp)
open AutoSeq1 (wpAny_loadPart')
set_option Elab.async false
set_option maxRecDepth 100000
namespace Mine
def sizesB (op : CmpOp) (m n : Nat) : Bool := match op with
  | .Eq => m == n | .NotEq => m != n | .Lt => m < n | .LtE => m ≤ n | .Gt => m > n | _ => m ≥ n
/-- two rows of values, compared place by place -/
inductive LexAt (op : CmpOp) (objs : List (Addr × Obj)) (u : Nat) : List Value → List Value → Bool → Prop
  | nilL (ys : List Value) : LexAt op objs u [] ys (sizesB op 0 ys.length)
  | nilR (x : Value) (xs : List Value) : LexAt op objs u (x :: xs) [] (sizesB op (xs.length + 1) 0)
  | eq {x y : Value} {xs ys : List Value} {b : Bool} : EqB x y objs u true → LexAt op objs u xs ys b → LexAt op objs u (x :: xs) (y :: ys) b
  | ne {x y : Value} {xs ys : List Value} {b : Bool} : EqB x y objs u false → (op = .Eq → b = false) → (op ≠ .Eq → Rc op x y objs u b) → LexAt op objs u (x :: xs) (y :: ys) b
theorem sizes_shift {op : CmpOp} {m n k : Nat} : sizesB op (k + m) (k + n) = sizesB op m n := by
  have e1 : (k + m == k + n) = (m == n) := by rw [Bool.eq_iff_iff]; simp
  cases op <;> simp [sizesB, bne, e1]
section
variable {w : World} {loose : List Str} {mean : ExcName → Option Value} {mg mb : Str → Option Value} {A : Around} {h₀ : Heap}
theorem tup_lt {xs ys : List Value} {objs : List (Addr × Obj)} {u : Nat} {b : Bool} {t1 t2 : Addr} (m1 : (t1, tupObj xs) ∈ objs) (m2 : (t2, tupObj ys) ∈ objs) (X : LexAt .Lt objs u xs ys b) : Rc .Lt (.ref t1) (.ref t2) objs (u + 10) b :=
  fun {w loose mean mg mb A h₀ s Q E} hh hr hu H hq => by
    have g1 := (H.has _ m1).1
    have g2 := (H.has _ m2).1
    refine wpAny_richCompare_same_room (op := .Lt) (T := "tuple") ⟨_, g1, rfl⟩ ⟨_, g2, rfl⟩ F.slot_tuple_lt (wpAny_call_entry F.slot_tuple_lt ⟨_, g1, rfl⟩ F.entry_tuple_lt ?_ (F.args_tuple_lt_2 _ _)) (by omega)
    have hr1 : A.in1.depth + u < recursionLimit := by show A.depth + u < _; omega
    have hu1 : A.in1.units + u < cLine := by show A.units + 1 + u < _; omega
    obtain ⟨hp, g, d, tk, os⟩ := s
    have hl : hp.get? t1 = some (tupObj xs) := g1
    have hb : hp.get? t2 = some (tupObj ys) := g2
    have f2 := AutoSeq1.sub_tuple_tuple
    wp_walk using wpAny_loadPart' hl, wpAny_loadPart' hb, wpAny_forIn_list _ (fun rest bb s' => bb.1 = none ∧ ∃ h' tk' xs' ys', s' = ⟨h', g, d, tk', os⟩ ∧ (∀ b o, hp.get? b = some o → h'.get? b = some o) ∧ rest = xs'.zip ys' ∧ LexAt .Lt objs u xs' ys' b ∧ xs.length + ys'.length = ys.length + xs'.length ∧ xs'.length ≤ xs.length) _
    case turn =>
      rintro ⟨x, y⟩ rest bb s' ⟨hb', h', tk', xs', ys', rfl, k, hz, X', hs1, hs2⟩
      cases X' with
      | nilL => cases hz
      | nilR => cases hz
      | eq E1 X2 =>
        rw [List.zip_cons_cons] at hz
        injection hz with hz1 hz2
        injection hz1 with hx hy
        subst hx hy hz2
        refine wpAny_bind (E1 (A := A.in1) hh hr1 hu1 (s := ⟨h', g, d, tk', os⟩) (H.keeps k) fun h2 tk2 k2 => ?_)
        wp_walk
        refine ⟨rfl, h2, tk2, _, _, rfl, fun b o e => k2 b o (k b o e), rfl, X2, ?_, ?_⟩
        · simp only [List.length_cons] at hs1; omega
        · simp only [List.length_cons] at hs2; omega
      | ne E1 f1 f2 =>
        rw [List.zip_cons_cons] at hz
        injection hz with hz1 hz2
        injection hz1 with hx hy
        subst hx hy hz2
        refine wpAny_bind (E1 (A := A.in1) hh hr1 hu1 (s := ⟨h', g, d, tk', os⟩) (H.keeps k) fun h2 tk2 k2 => ?_)
        simp only [Bool.not_false, if_true]
        refine wpAny_bind (wpAny_rule ?_)
        refine wpAny_bind (f2 (fun z => nomatch z) (A := A.in1) hh hr1 hu1 (s := ⟨h2, g, d, tk2, os⟩) (H.keeps fun b o e => k2 b o (k b o e)) fun h3 tk3 k3 => ?_)
        wp_walk
        exact ⟨_, rfl, (fun z => nomatch z), hq h3 tk3 fun b o e => k3 b o (k2 b o (k b o e))⟩
    case fin =>
      rintro ⟨b1, b2⟩ s' ⟨hb', h', tk', xs', ys', rfl, k, hz, X', hs1, hs2⟩
      simp only at hb'
      subst hb'
      have e : Builtin.Tuple.tupleCompareSizes .Lt xs.length ys.length = .bool b := by
        cases X' with
        | nilL =>
          show Value.bool (sizesB .Lt xs.length ys.length) = _
          simp only [List.length_nil] at hs1
          obtain ⟨j, hj⟩ : ∃ j, xs.length = j + 0 := ⟨xs.length, rfl⟩
          have hy : ys.length = j + ys'.length := by omega
          rw [hj, hy, sizes_shift]
        | nilR x xr =>
          show Value.bool (sizesB .Lt xs.length ys.length) = _
          simp only [List.length_nil, List.length_cons] at hs1 hs2
          obtain ⟨j, hj⟩ : ∃ j, ys.length = j + 0 := ⟨ys.length, rfl⟩
          have hy : xs.length = j + (xr.length + 1) := by omega
          rw [hj, hy, sizes_shift]
        | eq => cases hz
        | ne => cases hz
      wp_walk
      refine ⟨_, rfl, ?_⟩
      have e' : Builtin.Tuple.tupleCompareSizes .Lt xs.toArray.size ys.toArray.size = .bool b := by simpa using e
      rw [e']
      exact ⟨(fun z => nomatch z), hq h' tk' k⟩
    case h =>
      exact ⟨rfl, hp, tk, xs, ys, rfl, fun _ _ e => e, by simp, X, by omega, Nat.le_refl _⟩
theorem tup_gt {xs ys : List Value} {objs : List (Addr × Obj)} {u : Nat} {b : Bool} {t1 t2 : Addr} (m1 : (t1, tupObj xs) ∈ objs) (m2 : (t2, tupObj ys) ∈ objs) (X : LexAt .Gt objs u xs ys b) : Rc .Gt (.ref t1) (.ref t2) objs (u + 10) b :=
  fun {w loose mean mg mb A h₀ s Q E} hh hr hu H hq => by
    have g1 := (H.has _ m1).1
    have g2 := (H.has _ m2).1
    refine wpAny_richCompare_same_room (op := .Gt) (T := "tuple") ⟨_, g1, rfl⟩ ⟨_, g2, rfl⟩ F.slot_tuple_gt (wpAny_call_entry F.slot_tuple_gt ⟨_, g1, rfl⟩ F.entry_tuple_gt ?_ (F.args_tuple_gt_2 _ _)) (by omega)
    have hr1 : A.in1.depth + u < recursionLimit := by show A.depth + u < _; omega
    have hu1 : A.in1.units + u < cLine := by show A.units + 1 + u < _; omega
    obtain ⟨hp, g, d, tk, os⟩ := s
    have hl : hp.get? t1 = some (tupObj xs) := g1
    have hb : hp.get? t2 = some (tupObj ys) := g2
    have f2 := AutoSeq1.sub_tuple_tuple
    wp_walk using wpAny_loadPart' hl, wpAny_loadPart' hb, wpAny_forIn_list _ (fun rest bb s' => bb.1 = none ∧ ∃ h' tk' xs' ys', s' = ⟨h', g, d, tk', os⟩ ∧ (∀ b o, hp.get? b = some o → h'.get? b = some o) ∧ rest = xs'.zip ys' ∧ LexAt .Gt objs u xs' ys' b ∧ xs.length + ys'.length = ys.length + xs'.length ∧ xs'.length ≤ xs.length) _
    case turn =>
      rintro ⟨x, y⟩ rest bb s' ⟨hb', h', tk', xs', ys', rfl, k, hz, X', hs1, hs2⟩
      cases X' with
      | nilL => cases hz
      | nilR => cases hz
      | eq E1 X2 =>
        rw [List.zip_cons_cons] at hz
        injection hz with hz1 hz2
        injection hz1 with hx hy
        subst hx hy hz2
        refine wpAny_bind (E1 (A := A.in1) hh hr1 hu1 (s := ⟨h', g, d, tk', os⟩) (H.keeps k) fun h2 tk2 k2 => ?_)
        wp_walk
        refine ⟨rfl, h2, tk2, _, _, rfl, fun b o e => k2 b o (k b o e), rfl, X2, ?_, ?_⟩
        · simp only [List.length_cons] at hs1; omega
        · simp only [List.length_cons] at hs2; omega
      | ne E1 f1 f2 =>
        rw [List.zip_cons_cons] at hz
        injection hz with hz1 hz2
        injection hz1 with hx hy
        subst hx hy hz2
        refine wpAny_bind (E1 (A := A.in1) hh hr1 hu1 (s := ⟨h', g, d, tk', os⟩) (H.keeps k) fun h2 tk2 k2 => ?_)
        simp only [Bool.not_false, if_true]
        refine wpAny_bind (wpAny_rule ?_)
        refine wpAny_bind (f2 (fun z => nomatch z) (A := A.in1) hh hr1 hu1 (s := ⟨h2, g, d, tk2, os⟩) (H.keeps fun b o e => k2 b o (k b o e)) fun h3 tk3 k3 => ?_)
        wp_walk
        exact ⟨_, rfl, (fun z => nomatch z), hq h3 tk3 fun b o e => k3 b o (k2 b o (k b o e))⟩
    case fin =>
      rintro ⟨b1, b2⟩ s' ⟨hb', h', tk', xs', ys', rfl, k, hz, X', hs1, hs2⟩
      simp only at hb'
      subst hb'
      have e : Builtin.Tuple.tupleCompareSizes .Gt xs.length ys.length = .bool b := by
        cases X' with
        | nilL =>
          show Value.bool (sizesB .Gt xs.length ys.length) = _
          simp only [List.length_nil] at hs1
          obtain ⟨j, hj⟩ : ∃ j, xs.length = j + 0 := ⟨xs.length, rfl⟩
          have hy : ys.length = j + ys'.length := by omega
          rw [hj, hy, sizes_shift]
        | nilR x xr =>
          show Value.bool (sizesB .Gt xs.length ys.length) = _
          simp only [List.length_nil, List.length_cons] at hs1 hs2
          obtain ⟨j, hj⟩ : ∃ j, ys.length = j + 0 := ⟨ys.length, rfl⟩
          have hy : xs.length = j + (xr.length + 1) := by omega
          rw [hj, hy, sizes_shift]
        | eq => cases hz
        | ne => cases hz
      wp_walk
      refine ⟨_, rfl, ?_⟩
      have e' : Builtin.Tuple.tupleCompareSizes .Gt xs.toArray.size ys.toArray.size = .bool b := by simpa using e
      rw [e']
      exact ⟨(fun z => nomatch z), hq h' tk' k⟩
    case h =>
      exact ⟨rfl, hp, tk, xs, ys, rfl, fun _ _ e => e, by simp, X, by omega, Nat.le_refl _⟩
theorem tup_eq {xs ys : List Value} {objs : List (Addr × Obj)} {u : Nat} {b : Bool} {t1 t2 : Addr} (m1 : (t1, tupObj xs) ∈ objs) (m2 : (t2, tupObj ys) ∈ objs) (X : LexAt .Eq objs u xs ys b) : Rc .Eq (.ref t1) (.ref t2) objs (u + 10) b :=
  fun {w loose mean mg mb A h₀ s Q E} hh hr hu H hq => by
    have g1 := (H.has _ m1).1
    have g2 := (H.has _ m2).1
    refine wpAny_richCompare_same_room (op := .Eq) (T := "tuple") ⟨_, g1, rfl⟩ ⟨_, g2, rfl⟩ F.slot_tuple_eq (wpAny_call_entry F.slot_tuple_eq ⟨_, g1, rfl⟩ F.entry_tuple_eq ?_ (F.args_tuple_eq_2 _ _)) (by omega)
    have hr1 : A.in1.depth + u < recursionLimit := by show A.depth + u < _; omega
    have hu1 : A.in1.units + u < cLine := by show A.units + 1 + u < _; omega
    obtain ⟨hp, g, d, tk, os⟩ := s
    have hl : hp.get? t1 = some (tupObj xs) := g1
    have hb : hp.get? t2 = some (tupObj ys) := g2
    have f2 := AutoSeq1.sub_tuple_tuple
    wp_walk using wpAny_loadPart' hl, wpAny_loadPart' hb, wpAny_forIn_list _ (fun rest bb s' => bb.1 = none ∧ ∃ h' tk' xs' ys', s' = ⟨h', g, d, tk', os⟩ ∧ (∀ b o, hp.get? b = some o → h'.get? b = some o) ∧ rest = xs'.zip ys' ∧ LexAt .Eq objs u xs' ys' b ∧ xs.length + ys'.length = ys.length + xs'.length ∧ xs'.length ≤ xs.length) _
    case turn =>
      rintro ⟨x, y⟩ rest bb s' ⟨hb', h', tk', xs', ys', rfl, k, hz, X', hs1, hs2⟩
      cases X' with
      | nilL => cases hz
      | nilR => cases hz
      | eq E1 X2 =>
        rw [List.zip_cons_cons] at hz
        injection hz with hz1 hz2
        injection hz1 with hx hy
        subst hx hy hz2
        refine wpAny_bind (E1 (A := A.in1) hh hr1 hu1 (s := ⟨h', g, d, tk', os⟩) (H.keeps k) fun h2 tk2 k2 => ?_)
        wp_walk
        refine ⟨rfl, h2, tk2, _, _, rfl, fun b o e => k2 b o (k b o e), rfl, X2, ?_, ?_⟩
        · simp only [List.length_cons] at hs1; omega
        · simp only [List.length_cons] at hs2; omega
      | ne E1 f1 f2 =>
        rw [List.zip_cons_cons] at hz
        injection hz with hz1 hz2
        injection hz1 with hx hy
        subst hx hy hz2
        refine wpAny_bind (E1 (A := A.in1) hh hr1 hu1 (s := ⟨h', g, d, tk', os⟩) (H.keeps k) fun h2 tk2 k2 => ?_)
        simp only [Bool.not_false, if_true]
        cases f1 rfl
        wp_walk
        exact ⟨_, rfl, (fun z => nomatch z), hq h2 tk2 fun b o e => k2 b o (k b o e)⟩
    case fin =>
      rintro ⟨b1, b2⟩ s' ⟨hb', h', tk', xs', ys', rfl, k, hz, X', hs1, hs2⟩
      simp only at hb'
      subst hb'
      have e : Builtin.Tuple.tupleCompareSizes .Eq xs.length ys.length = .bool b := by
        cases X' with
        | nilL =>
          show Value.bool (sizesB .Eq xs.length ys.length) = _
          simp only [List.length_nil] at hs1
          obtain ⟨j, hj⟩ : ∃ j, xs.length = j + 0 := ⟨xs.length, rfl⟩
          have hy : ys.length = j + ys'.length := by omega
          rw [hj, hy, sizes_shift]
        | nilR x xr =>
          show Value.bool (sizesB .Eq xs.length ys.length) = _
          simp only [List.length_nil, List.length_cons] at hs1 hs2
          obtain ⟨j, hj⟩ : ∃ j, ys.length = j + 0 := ⟨ys.length, rfl⟩
          have hy : xs.length = j + (xr.length + 1) := by omega
          rw [hj, hy, sizes_shift]
        | eq => cases hz
        | ne => cases hz
      wp_walk
      refine ⟨_, rfl, ?_⟩
      have e' : Builtin.Tuple.tupleCompareSizes .Eq xs.toArray.size ys.toArray.size = .bool b := by simpa using e
      rw [e']
      exact ⟨(fun z => nomatch z), hq h' tk' k⟩
    case h =>
      exact ⟨rfl, hp, tk, xs, ys, rfl, fun _ _ e => e, by simp, X, by omega, Nat.le_refl _⟩
end
end Mine
end
section
open PySem PySem.W PyProof.Rows PySem.Calls PySem.Spec
open PySem.Sem (wp)
open AutoSeq1 (wpAny_loadPart')
open PySem.MeetsSeq3 (plain_eq_loop entry_eq_loop)
set_option Elab.async false
set_option maxRecDepth 100000
namespace Mine
theorem lex_len {objs : List (Addr × Obj)} {u : Nat} {xs ys : List Value} {b : Bool} (X : LexAt .Eq objs u xs ys b) (h : xs.length ≠ ys.length) : b = false := by
  induction X with
  | nilL ys =>
    show (0 == ys.length) = false
    simp only [List.length_nil] at h
    simpa using h
  | nilR x xs => rfl
  | eq _ _ ih => exact ih (by simpa using h)
  | ne _ f1 _ => exact f1 rfl
theorem lst_loop_lt {w : World} {loose : List Str} {mean : ExcName → Option Value} {mg mb : Str → Option Value} {A : Around} {h₀ : Heap} {xs ys : List Value} {objs : List (Addr × Obj)} {u n1 n2 : Nat} {b : Bool} {t1 t2 : Addr} (m1 : (t1, W.listOf xs.toArray n1) ∈ objs) (m2 : (t2, W.listOf ys.toArray n2) ∈ objs)
    (hh : A.handled = none) (hr1 : A.in1.depth + u < recursionLimit) (hu1 : A.in1.units + u < cLine) {hp : Heap} {g : Array GenState} {d : Drawn} {os : OsState} (H : Has w loose mean mg mb h₀ objs hp) {R : Result → Shared → Prop}
    (hR : ∀ h' tk', (∀ b o, hp.get? b = some o → h'.get? b = some o) → R (.ok (.ret (.bool b))) ⟨h', g, d, tk', os⟩) :
    ∀ (k : Nat) (i : Nat) (h' : Heap) (tk' : Nat), xs.length - i = k → i ≤ xs.length → i ≤ ys.length → (∀ b o, hp.get? b = some o → h'.get? b = some o) → LexAt .Lt objs u (xs.drop i) (ys.drop i) b →
      codeAny (model PR w) A (.builtin "list.__eq__.loop" ⟨[.ref t1, .ref t2, rawInt (i : Int), rawInt 0], []⟩) R ⟨h', g, d, tk', os⟩ := by
  intro c
  induction c with
  | zero =>
    intro i h' tk' hk hi hi' k X
    have hix : i = xs.length := by omega
    subst hix
    have hl' : h'.get? t1 = some (W.listOf xs.toArray n1) := k _ _ (H.has _ m1).1
    have hb' : h'.get? t2 = some (W.listOf ys.toArray n2) := k _ _ (H.has _ m2).1
    refine codeAny_builtin entry_eq_loop ?_
    rw [Around.under_plainId plain_eq_loop _]
    wp_walk using wpAny_loadPart' hl', wpAny_loadPart' hb'
    have e1 : xs.toArray[((xs.length : Nat) : Int).toNat]? = none := by simp
    rw [e1]
    wp_walk using wpAny_loadPart' hl', wpAny_loadPart' hb'
    have e : sizesB .Lt xs.length ys.length = b := by
      rw [List.drop_length] at X
      generalize hy : ys.drop xs.length = yr at X
      have hyl : ys.length = xs.length + yr.length := by rw [← hy, List.length_drop]; omega
      cases X with
      | nilL =>
        have := sizes_shift (op := .Lt) (m := 0) (n := yr.length) (k := xs.length)
        rw [hyl]; simpa using this
    have e2 := hR h' tk' k
    rw [← e] at e2
    exact e2
  | succ c ih =>
    intro i h' tk' hk hi hi' k X
    have hlt : i < xs.length := by omega
    have hl' : h'.get? t1 = some (W.listOf xs.toArray n1) := k _ _ (H.has _ m1).1
    have hb' : h'.get? t2 = some (W.listOf ys.toArray n2) := k _ _ (H.has _ m2).1
    refine codeAny_builtin entry_eq_loop ?_
    rw [Around.under_plainId plain_eq_loop _]
    wp_walk using wpAny_loadPart' hl', wpAny_loadPart' hb'
    rw [List.drop_eq_getElem_cons hlt] at X
    have hi1 : xs.toArray[((i : Nat) : Int).toNat]? = some xs[i] := by simp [hlt]
    by_cases hlt2 : i < ys.length
    · rw [List.drop_eq_getElem_cons hlt2] at X
      have hi2 : ys.toArray[((i : Nat) : Int).toNat]? = some ys[i] := by simp [hlt2]
      have hc : ((i : Int) + 1) = ((i + 1 : Nat) : Int) := by push_cast; rfl
      rw [hi1, hi2]
      cases X with
      | eq E1 X2 =>
        refine wpAny_bind (E1 (A := A.in1) hh hr1 hu1 (s := ⟨h', g, d, tk', os⟩) (H.keeps k) fun h2 tk2 k2 => ?_)
        wp_walk
        rw [hc]
        exact ⟨plainId_quiet plain_eq_loop _, ih (i + 1) h2 tk2 (by omega) hlt hlt2 (fun b o e => k2 b o (k b o e)) X2⟩
      | ne E1 f1 f2 =>
        refine wpAny_bind (E1 (A := A.in1) hh hr1 hu1 (s := ⟨h', g, d, tk', os⟩) (H.keeps k) fun h2 tk2 k2 => ?_)
        simp only [Bool.false_eq_true, if_false]
        have hl2 := k2 _ _ hl'
        have hb2 := k2 _ _ hb'
        wp_walk using wpAny_loadPart' hl2, wpAny_loadPart' hb2
        rw [hi1, hi2]
        dsimp only
        refine wpAny_bind (f2 (fun z => nomatch z) (A := A.in1) hh hr1 hu1 (s := ⟨h2, g, d, tk2, os⟩) (H.keeps fun b o e => k2 b o (k b o e)) fun h3 tk3 k3 => ?_)
        wp_walk
        exact hR h3 tk3 fun b o e => k3 b o (k2 b o (k b o e))
    · have hy : i = ys.length := by omega
      have hi2 : ys.toArray[((i : Nat) : Int).toNat]? = none := by simp; omega
      rw [hi1, hi2]
      wp_walk using wpAny_loadPart' hl', wpAny_loadPart' hb'
      have e : sizesB .Lt xs.length ys.length = b := by
        have hd : ys.drop i = [] := by rw [hy, List.drop_length]
        rw [hd] at X
        cases X with
        | nilR =>
          have := sizes_shift (op := .Lt) (m := xs.length - i) (n := 0) (k := i)
          rw [List.length_drop]
          have a1 : i + (xs.length - i) = xs.length := by omega
          rw [a1] at this
          have a2 : xs.length - (i + 1) + 1 = xs.length - i := by omega
          rw [a2, ← this, hy]; rfl
      have e2 := hR h' tk' k
      rw [← e] at e2
      exact e2
theorem lst_loop_eq {w : World} {loose : List Str} {mean : ExcName → Option Value} {mg mb : Str → Option Value} {A : Around} {h₀ : Heap} {xs ys : List Value} {objs : List (Addr × Obj)} {u n1 n2 : Nat} {b : Bool} {t1 t2 : Addr} (m1 : (t1, W.listOf xs.toArray n1) ∈ objs) (m2 : (t2, W.listOf ys.toArray n2) ∈ objs)
    (hh : A.handled = none) (hr1 : A.in1.depth + u < recursionLimit) (hu1 : A.in1.units + u < cLine) {hp : Heap} {g : Array GenState} {d : Drawn} {os : OsState} (H : Has w loose mean mg mb h₀ objs hp) {R : Result → Shared → Prop}
    (hR : ∀ h' tk', (∀ b o, hp.get? b = some o → h'.get? b = some o) → R (.ok (.ret (.bool b))) ⟨h', g, d, tk', os⟩) :
    ∀ (k : Nat) (i : Nat) (h' : Heap) (tk' : Nat), xs.length - i = k → i ≤ xs.length → i ≤ ys.length → (∀ b o, hp.get? b = some o → h'.get? b = some o) → LexAt .Eq objs u (xs.drop i) (ys.drop i) b →
      codeAny (model PR w) A (.builtin "list.__eq__.loop" ⟨[.ref t1, .ref t2, rawInt (i : Int), rawInt 2], []⟩) R ⟨h', g, d, tk', os⟩ := by
  intro c
  induction c with
  | zero =>
    intro i h' tk' hk hi hi' k X
    have hix : i = xs.length := by omega
    subst hix
    have hl' : h'.get? t1 = some (W.listOf xs.toArray n1) := k _ _ (H.has _ m1).1
    have hb' : h'.get? t2 = some (W.listOf ys.toArray n2) := k _ _ (H.has _ m2).1
    refine codeAny_builtin entry_eq_loop ?_
    rw [Around.under_plainId plain_eq_loop _]
    wp_walk using wpAny_loadPart' hl', wpAny_loadPart' hb'
    have e1 : xs.toArray[((xs.length : Nat) : Int).toNat]? = none := by simp
    rw [e1]
    wp_walk using wpAny_loadPart' hl', wpAny_loadPart' hb'
    have e : sizesB .Eq xs.length ys.length = b := by
      rw [List.drop_length] at X
      generalize hy : ys.drop xs.length = yr at X
      have hyl : ys.length = xs.length + yr.length := by rw [← hy, List.length_drop]; omega
      cases X with
      | nilL =>
        have := sizes_shift (op := .Eq) (m := 0) (n := yr.length) (k := xs.length)
        rw [hyl]; simpa using this
    have e2 := hR h' tk' k
    rw [← e] at e2
    exact e2
  | succ c ih =>
    intro i h' tk' hk hi hi' k X
    have hlt : i < xs.length := by omega
    have hl' : h'.get? t1 = some (W.listOf xs.toArray n1) := k _ _ (H.has _ m1).1
    have hb' : h'.get? t2 = some (W.listOf ys.toArray n2) := k _ _ (H.has _ m2).1
    refine codeAny_builtin entry_eq_loop ?_
    rw [Around.under_plainId plain_eq_loop _]
    wp_walk using wpAny_loadPart' hl', wpAny_loadPart' hb'
    rw [List.drop_eq_getElem_cons hlt] at X
    have hi1 : xs.toArray[((i : Nat) : Int).toNat]? = some xs[i] := by simp [hlt]
    by_cases hlt2 : i < ys.length
    · rw [List.drop_eq_getElem_cons hlt2] at X
      have hi2 : ys.toArray[((i : Nat) : Int).toNat]? = some ys[i] := by simp [hlt2]
      have hc : ((i : Int) + 1) = ((i + 1 : Nat) : Int) := by push_cast; rfl
      rw [hi1, hi2]
      cases X with
      | eq E1 X2 =>
        refine wpAny_bind (E1 (A := A.in1) hh hr1 hu1 (s := ⟨h', g, d, tk', os⟩) (H.keeps k) fun h2 tk2 k2 => ?_)
        wp_walk
        rw [hc]
        exact ⟨plainId_quiet plain_eq_loop _, ih (i + 1) h2 tk2 (by omega) hlt hlt2 (fun b o e => k2 b o (k b o e)) X2⟩
      | ne E1 f1 f2 =>
        refine wpAny_bind (E1 (A := A.in1) hh hr1 hu1 (s := ⟨h', g, d, tk', os⟩) (H.keeps k) fun h2 tk2 k2 => ?_)
        simp only [Bool.false_eq_true, if_false]
        cases f1 rfl
        have hl2 := k2 _ _ hl'
        have hb2 := k2 _ _ hb'
        wp_walk using wpAny_loadPart' hl2, wpAny_loadPart' hb2
        rw [hi1, hi2]
        wp_walk
        exact hR h2 tk2 fun b o e => k2 b o (k b o e)
    · have hy : i = ys.length := by omega
      have hi2 : ys.toArray[((i : Nat) : Int).toNat]? = none := by simp; omega
      rw [hi1, hi2]
      wp_walk using wpAny_loadPart' hl', wpAny_loadPart' hb'
      have e : sizesB .Eq xs.length ys.length = b := by
        have hd : ys.drop i = [] := by rw [hy, List.drop_length]
        rw [hd] at X
        cases X with
        | nilR =>
          have := sizes_shift (op := .Eq) (m := xs.length - i) (n := 0) (k := i)
          rw [List.length_drop]
          have a1 : i + (xs.length - i) = xs.length := by omega
          rw [a1] at this
          have a2 : xs.length - (i + 1) + 1 = xs.length - i := by omega
          rw [a2, ← this, hy]; rfl
      have e2 := hR h' tk' k
      rw [← e] at e2
      exact e2
theorem lst_lt {xs ys : List Value} {objs : List (Addr × Obj)} {u n1 n2 : Nat} {b : Bool} {t1 t2 : Addr} (m1 : (t1, W.listOf xs.toArray n1) ∈ objs) (m2 : (t2, W.listOf ys.toArray n2) ∈ objs) (X : LexAt .Lt objs u xs ys b) : Rc .Lt (.ref t1) (.ref t2) objs (u + 10) b :=
  fun {w loose mean mg mb A h₀ s Q E} hh hr hu H hq => by
    have g1 := (H.has _ m1).1
    have g2 := (H.has _ m2).1
    refine wpAny_richCompare_same_room (op := .Lt) (T := "list") ⟨_, g1, rfl⟩ ⟨_, g2, rfl⟩ F.slot_list_lt ?_ (by omega)
    refine wpAny_call (codeAny_call_builtin F.slot_list_lt.plain F.entry_list_lt (F.slot_list_lt.check _ _ _ _ _ _ _ _ ⟨_, g1, rfl⟩ (F.args_list_lt_2 _ _) ?_))
    obtain ⟨hp, g, d, tk, os⟩ := s
    have hl : hp.get? t1 = some (W.listOf xs.toArray n1) := g1
    have hb : hp.get? t2 = some (W.listOf ys.toArray n2) := g2
    have f3 := AutoSeq1.sub_list_list
    wp_walk using wpAny_loadPart' hl, wpAny_loadPart' hb
    exact ⟨plainId_quiet plain_eq_loop _, lst_loop_lt m1 m2 hh (by show A.depth + u < _; omega) (by show A.units + 1 + u < _; omega) H (fun h' tk' k => ⟨(fun z => nomatch z), hq h' tk' k⟩) _ 0 hp tk rfl (Nat.zero_le _) (Nat.zero_le _) (fun _ _ e => e) X⟩
theorem lst_eq {xs ys : List Value} {objs : List (Addr × Obj)} {u n1 n2 : Nat} {b : Bool} {t1 t2 : Addr} (m1 : (t1, W.listOf xs.toArray n1) ∈ objs) (m2 : (t2, W.listOf ys.toArray n2) ∈ objs) (X : LexAt .Eq objs u xs ys b) : Rc .Eq (.ref t1) (.ref t2) objs (u + 10) b :=
  fun {w loose mean mg mb A h₀ s Q E} hh hr hu H hq => by
    have g1 := (H.has _ m1).1
    have g2 := (H.has _ m2).1
    refine wpAny_richCompare_same_room (op := .Eq) (T := "list") ⟨_, g1, rfl⟩ ⟨_, g2, rfl⟩ F.slot_list_eq ?_ (by omega)
    refine wpAny_call (codeAny_call_builtin F.slot_list_eq.plain F.entry_list_eq (F.slot_list_eq.check _ _ _ _ _ _ _ _ ⟨_, g1, rfl⟩ (F.args_list_eq_2 _ _) ?_))
    obtain ⟨hp, g, d, tk, os⟩ := s
    have hl : hp.get? t1 = some (W.listOf xs.toArray n1) := g1
    have hb : hp.get? t2 = some (W.listOf ys.toArray n2) := g2
    have f3 := AutoSeq1.sub_list_list
    by_cases hsz : xs.length = ys.length
    · have hne : ¬ (xs.toArray.size != ys.toArray.size) = true := by simp [hsz]
      wp_walk using wpAny_loadPart' hl, wpAny_loadPart' hb
      exact ⟨plainId_quiet plain_eq_loop _, lst_loop_eq m1 m2 hh (by show A.depth + u < _; omega) (by show A.units + 1 + u < _; omega) H (fun h' tk' k => ⟨(fun z => nomatch z), hq h' tk' k⟩) _ 0 hp tk rfl (Nat.zero_le _) (Nat.zero_le _) (fun _ _ e => e) X⟩
    · have hc0 : (xs.toArray.size != ys.toArray.size) = true := by simpa using hsz
      cases lex_len X hsz
      wp_walk using wpAny_loadPart' hl, wpAny_loadPart' hb
      exact ⟨(fun z => nomatch z), hq hp tk fun _ _ e => e⟩
end Mine
end
section
open PySem PySem.W PyProof.Rows PySem.Calls PySem.Spec
set_option Elab.async false
set_option maxRecDepth 100000
namespace Mine
def Func (objs : List (Addr × Obj)) : Prop := ∀ a o o', (a, o) ∈ objs → (a, o') ∈ objs → o = o'
theorem Has.func {w : World} {loose : List Str} {mean : ExcName → Option Value} {mg mb : Str → Option Value} {h₀ h : Heap} {objs : List (Addr × Obj)} (H : Has w loose mean mg mb h₀ objs h) : Func objs := fun a o o' m1 m2 => by
  have h1 := (H.has _ m1).1
  have h2 := (H.has _ m2).1
  rw [h1] at h2; exact Option.some.inj h2
theorem instObj_inj {C C' d d' : Addr} (h : instObj C d = instObj C' d') : C = C' ∧ d = d' := by
  injection h with h1 h2 _ _
  injection h1 with h1
  injection h2 with h2
  exact ⟨h1, h2⟩
theorem dict1_inj {h h' : Int} {k k' : Value} {v v' : Value} (e : dictOf [⟨h, k, v⟩] 1 = dictOf [⟨h', k', v'⟩] 1) : v = v' := by
  injection e with _ _ e _
  injection e with e _
  have := congrArg Array.toList e
  injection this with e _
  injection e
theorem bytes_eq_refl (a : Array UInt8) : (a.toList == a.toList) = true := by simp
theorem idEq_refl (x : Idn) : idEq x x = true := by
  cases x <;> simp [idEq]
theorem id_same {x y : Idn} {i : Addr} {ox oy objs : List (Addr × Obj)} (hF : Func objs) (hx : IdObjs x i ox) (hy : IdObjs y i oy) (sx : ∀ q ∈ ox, q ∈ objs) (sy : ∀ q ∈ oy, q ∈ objs) : x = y := by
  cases x <;> cases y <;> (simp only [IdObjs] at hx hy)
  · rfl
  · obtain ⟨d, rfl⟩ := hx; obtain ⟨e, h, k, t, rfl⟩ := hy
    have := instObj_inj (hF _ _ _ (sx _ (.head _)) (sy _ (.head _)))
    exact absurd this.1 (by decide)
  · obtain ⟨d, rfl⟩ := hx; obtain ⟨e, h, k, t, rfl⟩ := hy
    have := instObj_inj (hF _ _ _ (sx _ (.head _)) (sy _ (.head _)))
    exact absurd this.1 (by decide)
  · obtain ⟨d, h, k, t, rfl⟩ := hx; obtain ⟨e, rfl⟩ := hy
    have := instObj_inj (hF _ _ _ (sx _ (.head _)) (sy _ (.head _)))
    exact absurd this.1 (by decide)
  · obtain ⟨d, h, k, t, rfl⟩ := hx; obtain ⟨e, h', k', t', rfl⟩ := hy
    have z := instObj_inj (hF _ _ _ (sx _ (.head _)) (sy _ (.head _)))
    obtain ⟨_, rfl⟩ := z
    have := dict1_inj (hF _ _ _ (sx _ (.tail _ (.head _))) (sy _ (.tail _ (.head _))))
    injection this with e1 _
    rw [e1]
  · obtain ⟨d, h, k, t, rfl⟩ := hx; obtain ⟨e, h', k', t', rfl⟩ := hy
    have := instObj_inj (hF _ _ _ (sx _ (.head _)) (sy _ (.head _)))
    exact absurd this.1 (by decide)
  · obtain ⟨d, h, k, t, rfl⟩ := hx; obtain ⟨e, rfl⟩ := hy
    have := instObj_inj (hF _ _ _ (sx _ (.head _)) (sy _ (.head _)))
    exact absurd this.1 (by decide)
  · obtain ⟨d, h, k, t, rfl⟩ := hx; obtain ⟨e, h', k', t', rfl⟩ := hy
    have := instObj_inj (hF _ _ _ (sx _ (.head _)) (sy _ (.head _)))
    exact absurd this.1 (by decide)
  · obtain ⟨d, h, k, t, rfl⟩ := hx; obtain ⟨e, h', k', t', rfl⟩ := hy
    have z := instObj_inj (hF _ _ _ (sx _ (.head _)) (sy _ (.head _)))
    obtain ⟨_, rfl⟩ := z
    have := dict1_inj (hF _ _ _ (sx _ (.tail _ (.head _))) (sy _ (.tail _ (.head _))))
    injection this with e1 _
    rw [e1]
theorem app_sub {a b c : List (Addr × Obj)} (h1 : ∀ q ∈ a, q ∈ c) (h2 : ∀ q ∈ b, q ∈ c) : ∀ q ∈ a ++ b, q ∈ c := fun q hq => (List.mem_append.mp hq).elim (h1 q) (h2 q)
theorem id_eqB {x y : Idn} {i j : Addr} {ox oy objs : List (Addr × Obj)} (hx : IdObjs x i ox) (hy : IdObjs y j oy) (sx : ∀ q ∈ ox, q ∈ objs) (sy : ∀ q ∈ oy, q ∈ objs) : EqB (.ref i) (.ref j) objs 80 (idEq x y) :=
  fun {w loose mean mg mb A h₀ s Q E} hh hr hu H hq => by
    by_cases hij : i = j
    · subst hij
      cases id_same H.func hx hy sx sy
      rw [idEq_refl] at hq
      exact EqB.same hh hr hu H hq
    · exact (EqB.mono (EqB.refs hij (id_eq hx hy hij)) (app_sub sx sy) (Nat.le_refl _)) hh hr hu H hq
/-- a row of identifiers -/
inductive IdRow (objs : List (Addr × Obj)) : List Idn → List Value → Prop
  | nil : IdRow objs [] []
  | cons {x : Idn} {a : Addr} {o : List (Addr × Obj)} {ids : List Idn} {vs : List Value} : IdObjs x a o → (∀ q ∈ o, q ∈ objs) → IdRow objs ids vs → IdRow objs (x :: ids) (.ref a :: vs)
theorem IdRow.mono {objs objs' : List (Addr × Obj)} {ids : List Idn} {vs : List Value} (h : IdRow objs ids vs) (hs : ∀ q ∈ objs, q ∈ objs') : IdRow objs' ids vs := by
  induction h with
  | nil => exact .nil
  | cons hx hq _ ih => exact .cons hx (fun q z => hs q (hq q z)) ih
theorem IdRow.app {objs : List (Addr × Obj)} {ids ids' : List Idn} {vs vs' : List Value} (h : IdRow objs ids vs) (h' : IdRow objs ids' vs') : IdRow objs (ids ++ ids') (vs ++ vs') := by
  induction h with
  | nil => exact h'
  | cons hx hq _ ih => exact .cons hx hq ih
def lexEq : List Idn → List Idn → Bool
  | [], [] => true
  | x :: xs, y :: ys => idEq x y && lexEq xs ys
  | _, _ => false
def lexLt : List Idn → List Idn → Bool
  | [], [] => false
  | [], _ :: _ => true
  | _ :: _, [] => false
  | x :: xs, y :: ys => if idEq x y then lexLt xs ys else idLt x y
theorem lexEq_refl : ∀ xs : List Idn, lexEq xs xs = true
  | [] => rfl
  | x :: xs => by simp [lexEq, idEq_refl, lexEq_refl xs]
theorem row_det {objs : List (Addr × Obj)} (hF : Func objs) {xs ys : List Idn} {vs : List Value} (h : IdRow objs xs vs) : IdRow objs ys vs → xs = ys := by
  induction h generalizing ys with
  | nil => intro h'; cases h'; rfl
  | cons hx hq _ ih =>
    intro h'
    cases h' with
    | cons hy hq' r => rw [id_same hF hx hy hq hq', ih r]
theorem lex_cons {op : CmpOp} {objs : List (Addr × Obj)} {u : Nat} {x y : Value} {xs ys : List Value} {e b : Bool} (E : EqB x y objs u e) (h1 : e = true → LexAt op objs u xs ys b) (h2 : e = false → (op = .Eq → b = false) ∧ (op ≠ .Eq → Rc op x y objs u b)) : LexAt op objs u (x :: xs) (y :: ys) b := by
  cases e with
  | true => exact .eq E (h1 rfl)
  | false => exact .ne E (h2 rfl).1 (h2 rfl).2
theorem row_eq {objs : List (Addr × Obj)} {xs ys : List Idn} {vs ws : List Value} (h : IdRow objs xs vs) (h' : IdRow objs ys ws) : LexAt .Eq objs 80 vs ws (lexEq xs ys) := by
  induction h generalizing ys ws with
  | nil =>
    cases h' with
    | nil => exact .nilL []
    | cons => exact .nilL _
  | cons hx hq r ih =>
    cases h' with
    | nil => exact .nilR _ _
    | cons hy hq' r' =>
      refine lex_cons (id_eqB hx hy hq hq') (fun he => ?_) (fun he => ⟨fun _ => ?_, fun z => absurd rfl z⟩)
      · simp only [lexEq, he, Bool.true_and]; exact ih r'
      · simp only [lexEq, he, Bool.false_and]
theorem row_lt {objs : List (Addr × Obj)} {xs ys : List Idn} {vs ws : List Value} (h : IdRow objs xs vs) (h' : IdRow objs ys ws) : LexAt .Lt objs 80 vs ws (lexLt xs ys) := by
  induction h generalizing ys ws with
  | nil =>
    cases h' with
    | nil => exact .nilL []
    | cons _ _ r => exact .nilL (_ :: _)
  | cons hx hq r ih =>
    cases h' with
    | nil => exact .nilR _ _
    | cons hy hq' r' =>
      refine lex_cons (id_eqB hx hy hq hq') (fun he => ?_) (fun he => ⟨(fun z => nomatch z), fun _ => ?_⟩)
      · simp only [lexLt, he, if_true]; exact ih r'
      · simp only [lexLt, he, Bool.false_eq_true, if_false]
        exact Rc.mono (id_lt hx hy) (app_sub hq hq') (Nat.le_refl _)
theorem id_gtR {x y : Idn} {i j : Addr} {ox oy objs : List (Addr × Obj)} (hx : IdObjs x i ox) (hy : IdObjs y j oy) (sx : ∀ q ∈ ox, q ∈ objs) (sy : ∀ q ∈ oy, q ∈ objs) (hl : idLt x y = false) (he : idEq x y = false) : Rc .Gt (.ref i) (.ref j) objs 140 true :=
  fun {w loose mean mg mb A h₀ s Q E} hh hr hu H hq => by
    by_cases hij : i = j
    · subst hij
      cases id_same H.func hx hy sx sy
      rw [idEq_refl] at he; cases he
    · exact (Rc.mono (id_gt hx hy hij hl he) (app_sub sx sy) (Nat.le_refl _)) hh hr hu H hq
theorem row_gt {objs : List (Addr × Obj)} {xs ys : List Idn} {vs ws : List Value} (h : IdRow objs xs vs) (h' : IdRow objs ys ws) (hl : lexLt xs ys = false) : LexAt .Gt objs 140 vs ws (!lexEq xs ys) := by
  induction h generalizing ys ws with
  | nil =>
    cases h' with
    | nil => exact .nilL []
    | cons => cases hl
  | cons hx hq r ih =>
    cases h' with
    | nil => exact .nilR _ _
    | cons hy hq' r' =>
      refine lex_cons (EqB.mono (id_eqB hx hy hq hq') (fun _ h => h) (show 80 ≤ 140 by omega)) (fun he => ?_) (fun he => ⟨(fun z => nomatch z), fun _ => ?_⟩)
      · simp only [lexLt, he, if_true] at hl
        simp only [lexEq, he, Bool.true_and]; exact ih r' hl
      · simp only [lexLt, he, Bool.false_eq_true, if_false] at hl
        simp only [lexEq, he, Bool.false_and, Bool.not_false]
        exact id_gtR hx hy hq hq' hl he
end Mine
end
section
open PySem PySem.W PyProof.Rows PySem.Calls PySem.Spec
set_option Elab.async false
set_option maxRecDepth 100000
namespace Mine
def idnOf (x : Str) : Idn := if Txt.isdigit x = true then .num ((PySem.intText? x).getD 0) else .alpha (asBytes x)
def preIds (pre : List Str) : List Idn := if pre = [] then [.max] else pre.map idnOf
theorem idOne_idn {x : Str} {y : Value} {o : List (Addr × Obj)} (h : IdOne x y o) : ∃ a : Addr, y = .ref a ∧ IdObjs (idnOf x) a o := by
  obtain ⟨i, dx, hs, kt, nt, rfl, h⟩ := h
  refine ⟨i, rfl, ?_⟩
  rcases h with ⟨hd, n, hn, rfl⟩ | ⟨hd, rfl⟩
  · unfold idnOf; rw [if_pos hd, hn]; exact ⟨dx, hs, kt, nt, rfl⟩
  · unfold idnOf; rw [if_neg (by rw [hd]; simp)]; exact ⟨dx, hs, kt, nt, rfl⟩
theorem ids_row_aux {parts : List (Str × Tok)} {n : Nat} {vs : List Value} {objs : List (Addr × Obj)} (h : EOs (AtOf IdOne parts) n vs objs) : n ≤ parts.length → IdRow objs ((parts.take n).map fun p => idnOf p.1) vs := by
  induction h with
  | nil => intro _; exact .nil
  | snoc hE hy ih =>
    intro hn
    obtain ⟨p, hp, ho⟩ := hy
    obtain ⟨a, rfl, hi⟩ := idOne_idn ho
    rw [List.take_add_one, hp]
    simp only [Option.toList_some, List.map_append, List.map_cons, List.map_nil]
    exact ((ih (by omega)).mono fun q hq => List.mem_append_right _ hq).app (.cons hi (fun q hq => List.mem_append_left _ hq) .nil)
theorem ids_row {parts : List (Str × Tok)} {vs : List Value} {objs : List (Addr × Obj)} (h : IdsOf parts vs objs) : IdRow objs ((parts.map (·.1)).map idnOf) vs := by
  have := ids_row_aux h (Nat.le_refl _)
  rw [List.take_length] at this
  rw [List.map_map]; exact this
theorem pre_row {pre : List (Str × Tok)} {pk : Addr} {ko : List (Addr × Obj)} (h : PreKey pre pk ko) : ∃ vs, (pk, tupObj vs) ∈ ko ∧ IdRow ko (preIds (pre.map (·.1))) vs := by
  rcases h with ⟨rfl, mx, md, rfl⟩ | ⟨hne, vs, objs, hi, rfl⟩
  · refine ⟨[.ref mx], .head _, .cons (x := .max) ⟨md, rfl⟩ (fun q hq => ?_) .nil⟩
    exact List.mem_cons_of_mem _ hq
  · refine ⟨vs, .head _, ?_⟩
    unfold preIds
    rw [if_neg (by simpa using hne)]
    exact (ids_row hi).mono fun q hq => List.mem_cons_of_mem _ hq
/-- the worth of a key of four -/
structure K4 where
  a : Int
  b : Int
  c : Int
  p : List Idn
def K4.eq (x y : K4) : Bool := (x.a == y.a) && ((x.b == y.b) && ((x.c == y.c) && lexEq x.p y.p))
def K4.lt (x y : K4) : Bool := if x.a == y.a then (if x.b == y.b then (if x.c == y.c then (if lexEq x.p y.p then false else lexLt x.p y.p) else decide (x.c < y.c)) else decide (x.b < y.b)) else decide (x.a < y.a)
theorem row_eqB {objs : List (Addr × Obj)} {xs ys : List Idn} {vs ws : List Value} {t1 t2 : Addr} (m1 : (t1, tupObj vs) ∈ objs) (m2 : (t2, tupObj ws) ∈ objs) (h : IdRow objs xs vs) (h' : IdRow objs ys ws) : EqB (.ref t1) (.ref t2) objs 90 (lexEq xs ys) :=
  fun {w loose mean mg mb A h₀ s Q E} hh hr hu H hq => by
    by_cases hij : t1 = t2
    · subst hij
      have := H.func _ _ _ m1 m2
      injection this with _ _ e _
      injection e with e _
      have e2 : vs = ws := by simpa using congrArg Array.toList e
      subst e2
      cases row_det H.func h h'
      rw [lexEq_refl] at hq
      exact EqB.same hh hr hu H hq
    · exact (EqB.refs hij (tup_eq m1 m2 (row_eq h h'))) hh hr hu H hq
theorem k4_eq {objs : List (Addr × Obj)} {x y : K4} {m1 m2 m3 n1 n2 n3 : Tok} {p q : Addr} {vs ws : List Value} (hp : (p, tupObj vs) ∈ objs) (hq : (q, tupObj ws) ∈ objs) (rx : IdRow objs x.p vs) (ry : IdRow objs y.p ws) :
    LexAt .Eq objs 90 [.int x.a m1, .int x.b m2, .int x.c m3, .ref p] [.int y.a n1, .int y.b n2, .int y.c n3, .ref q] (x.eq y) := by
  refine lex_cons (EqB.int _ _ _ _) (fun e => ?_) (fun e => ⟨fun _ => by simp [K4.eq, e], fun z => absurd rfl z⟩)
  simp only [K4.eq, e, Bool.true_and]
  refine lex_cons (EqB.int _ _ _ _) (fun e => ?_) (fun e => ⟨fun _ => by simp [e], fun z => absurd rfl z⟩)
  simp only [e, Bool.true_and]
  refine lex_cons (EqB.int _ _ _ _) (fun e => ?_) (fun e => ⟨fun _ => by simp [e], fun z => absurd rfl z⟩)
  simp only [e, Bool.true_and]
  refine lex_cons (row_eqB hp hq rx ry) (fun e => ?_) (fun e => ⟨fun _ => by simp [e], fun z => absurd rfl z⟩)
  rw [e]; exact .nilL []
theorem k4_lt {objs : List (Addr × Obj)} {x y : K4} {m1 m2 m3 n1 n2 n3 : Tok} {p q : Addr} {vs ws : List Value} (hp : (p, tupObj vs) ∈ objs) (hq : (q, tupObj ws) ∈ objs) (rx : IdRow objs x.p vs) (ry : IdRow objs y.p ws) :
    LexAt .Lt objs 90 [.int x.a m1, .int x.b m2, .int x.c m3, .ref p] [.int y.a n1, .int y.b n2, .int y.c n3, .ref q] (x.lt y) := by
  unfold K4.lt
  refine lex_cons (EqB.int _ _ _ _) (fun e => ?_) (fun e => ⟨(fun z => nomatch z), fun _ => by simp only [e, Bool.false_eq_true, if_false]; exact Rc.lt_int _ _ _ _⟩)
  simp only [e, if_true]
  refine lex_cons (EqB.int _ _ _ _) (fun e => ?_) (fun e => ⟨(fun z => nomatch z), fun _ => by simp only [e, Bool.false_eq_true, if_false]; exact Rc.lt_int _ _ _ _⟩)
  simp only [e, if_true]
  refine lex_cons (EqB.int _ _ _ _) (fun e => ?_) (fun e => ⟨(fun z => nomatch z), fun _ => by simp only [e, Bool.false_eq_true, if_false]; exact Rc.lt_int _ _ _ _⟩)
  simp only [e, if_true]
  refine lex_cons (row_eqB hp hq rx ry) (fun e => ?_) (fun e => ⟨(fun z => nomatch z), fun _ => by simp only [e, Bool.false_eq_true, if_false]; exact tup_lt hp hq (row_lt rx ry)⟩)
  simp only [e, if_true]; exact .nilL []
theorem gt_of {a b : Int} (h : (a == b) = false) (h2 : decide (a < b) = false) : decide (a > b) = true := by
  simp at h h2 ⊢; omega
theorem k4_gt {objs : List (Addr × Obj)} {x y : K4} {m1 m2 m3 n1 n2 n3 : Tok} {p q : Addr} {vs ws : List Value} (hp : (p, tupObj vs) ∈ objs) (hq : (q, tupObj ws) ∈ objs) (rx : IdRow objs x.p vs) (ry : IdRow objs y.p ws) (hl : x.lt y = false) :
    LexAt .Gt objs 150 [.int x.a m1, .int x.b m2, .int x.c m3, .ref p] [.int y.a n1, .int y.b n2, .int y.c n3, .ref q] (!x.eq y) := by
  unfold K4.lt at hl
  refine lex_cons (EqB.int _ _ _ _) (fun e => ?_) (fun e => ⟨(fun z => nomatch z), fun _ => ?_⟩)
  · simp only [e, if_true] at hl
    simp only [K4.eq, e, Bool.true_and]
    refine lex_cons (EqB.int _ _ _ _) (fun e => ?_) (fun e => ⟨(fun z => nomatch z), fun _ => ?_⟩)
    · simp only [e, if_true] at hl
      simp only [e, Bool.true_and]
      refine lex_cons (EqB.int _ _ _ _) (fun e => ?_) (fun e => ⟨(fun z => nomatch z), fun _ => ?_⟩)
      · simp only [e, if_true] at hl
        simp only [e, Bool.true_and]
        refine lex_cons (EqB.mono (row_eqB hp hq rx ry) (fun _ h => h) (show 90 ≤ 150 by omega)) (fun e => ?_) (fun e => ⟨(fun z => nomatch z), fun _ => ?_⟩)
        · simp only [e, Bool.not_true]; exact .nilL []
        · simp only [e, Bool.false_eq_true, if_false] at hl
          exact Rc.val (tup_gt hp hq (row_gt rx ry hl)) (by rw [e])
      · simp only [e, Bool.false_eq_true, if_false] at hl
        simp only [e, Bool.false_and, Bool.not_false]
        exact Rc.val (Rc.gt_int _ _ _ _) (gt_of e hl)
    · simp only [e, Bool.false_eq_true, if_false] at hl
      simp only [e, Bool.false_and, Bool.not_false]
      exact Rc.val (Rc.gt_int _ _ _ _) (gt_of e hl)
  · simp only [e, Bool.false_eq_true, if_false] at hl
    simp only [K4.eq, e, Bool.false_and, Bool.not_false]
    exact Rc.val (Rc.gt_int _ _ _ _) (gt_of e hl)
/-- the worth of a key of five -/
def k5Lt (x y : K4) (b c : List Idn) : Bool := if x.a == y.a then (if x.b == y.b then (if x.c == y.c then (if lexEq x.p y.p then (if lexEq b c then false else lexLt b c) else lexLt x.p y.p) else decide (x.c < y.c)) else decide (x.b < y.b)) else decide (x.a < y.a)
theorem k5_lt {objs : List (Addr × Obj)} {x y : K4} {bx by_ : List Idn} {m1 m2 m3 n1 n2 n3 : Tok} {p q r t : Addr} {vs ws vs' ws' : List Value} (hp : (p, tupObj vs) ∈ objs) (hq : (q, tupObj ws) ∈ objs) (rx : IdRow objs x.p vs) (ry : IdRow objs y.p ws)
    (hr : (r, tupObj vs') ∈ objs) (ht : (t, tupObj ws') ∈ objs) (rx' : IdRow objs bx vs') (ry' : IdRow objs by_ ws') :
    LexAt .Lt objs 90 [.int x.a m1, .int x.b m2, .int x.c m3, .ref p, .ref r] [.int y.a n1, .int y.b n2, .int y.c n3, .ref q, .ref t] (k5Lt x y bx by_) := by
  unfold k5Lt
  refine lex_cons (EqB.int _ _ _ _) (fun e => ?_) (fun e => ⟨(fun z => nomatch z), fun _ => by simp only [e, Bool.false_eq_true, if_false]; exact Rc.lt_int _ _ _ _⟩)
  simp only [e, if_true]
  refine lex_cons (EqB.int _ _ _ _) (fun e => ?_) (fun e => ⟨(fun z => nomatch z), fun _ => by simp only [e, Bool.false_eq_true, if_false]; exact Rc.lt_int _ _ _ _⟩)
  simp only [e, if_true]
  refine lex_cons (EqB.int _ _ _ _) (fun e => ?_) (fun e => ⟨(fun z => nomatch z), fun _ => by simp only [e, Bool.false_eq_true, if_false]; exact Rc.lt_int _ _ _ _⟩)
  simp only [e, if_true]
  refine lex_cons (row_eqB hp hq rx ry) (fun e => ?_) (fun e => ⟨(fun z => nomatch z), fun _ => by simp only [e, Bool.false_eq_true, if_false]; exact tup_lt hp hq (row_lt rx ry)⟩)
  simp only [e, if_true]
  refine lex_cons (row_eqB hr ht rx' ry') (fun e => ?_) (fun e => ⟨(fun z => nomatch z), fun _ => by simp only [e, Bool.false_eq_true, if_false]; exact tup_lt hr ht (row_lt rx' ry')⟩)
  simp only [e, if_true]; exact .nilL []
end Mine
end
section
open PySem PySem.W PyProof.Rows PySem.Calls PySem.Spec
open PySem.Sem (wp)
set_option Elab.async false
set_option maxRecDepth 100000
namespace Mine
section
variable {prog : Program} {w : World} {A : Around} {E : Value → Shared → Prop} {s : Shared}
/-- the next value of a generator that a def made -/
theorem pyNext_genF {a : Addr} {g n : Nat} {gs : GenState} {P : Nat → Shared → Shared → Prop} {Y : Protocol} {Q : Option Value → Shared → Prop} (hh : A.handled = none)
    (hl : s.heap.NoLimit) (hroom : A.depth < recursionLimit)
    (hg : s.heap.IsGen a g) (hgs : s.gens[g]? = some gs)
    (hgo : gs.Goes (model prog w) A.in1 (fun n s₀ r s₁ => r = .ok (.ret .none) ∧ P n s₀ s₁) Y n (.send .none) (s.setGen g .running))
    (hY : ∀ v s₁ gs', gs'.bare = true → Y (n - 1) (s.setGen g .running) v s₁ (fun r' s'' => match n with
        | 0 => False
        | m + 1 => gs'.Goes (model prog w) A.in1 (fun n s₀ r s₁ => r = .ok (.ret .none) ∧ P n s₀ s₁) Y m r' s'') → Q (some v) (s₁.setGen g gs'))
    (hP : ∀ s₁, P n (s.setGen g .running) s₁ → ∀ h', (∀ b o, s₁.heap.get? b = some o → h'.get? b = some o) → Q none { s₁.setGen g .finished with heap := h' }) :
    wpAny (model prog w) A (pyNext (.ref a)) Q E s := by
  unfold pyNext
  refine wpAny_bind (wpAny_attempt (wpAny_callSpecial?_slot (name := Str.ofString "__next__") hg.typeIs slot_gen_next (wpAny_call_entry slot_gen_next hg.typeIs entry_gen_next ?_ (args_gen_next _))))
  show wpAny _ A.in1 (Builtin.Generator.genWake (.ref a) (.send .none)) _ _ s
  unfold Builtin.Generator.genWake
  refine wpAny_bind (wpAny_holding (wpAny_genNumber hg (wpAny_bind (wpAny_genState hgs ?_))))
  cases gs with
  | running => exact hgo.elim
  | finished => exact hgo.elim
  | _ =>
    refine wpAny_bind (wpAny_roomToWake hl hroom ?_)
    show wpAny _ A.in1 (.resume g (.send .none) [] _) _ _ s
    refine wpAny_resumeQ hgs hgo (fun x s₁ hx => ?_) (fun v s₁ gs' hb hv => wpAny_pure ⟨v, rfl, wpAny_pure (hY v s₁ gs' hb hv)⟩)
    obtain ⟨rfl, hp⟩ := hx
    show wpAny _ A.in1 (newExc (.type "StopIteration") [] >>= _) _ _ _
    refine wpAny_bind ?_
    simp only [newExc, newTuple]
    refine wpAny_bind (wpAny_newObj_type ?_ (by size_fits))
    refine wpAny_bind (m := firstArgMember _ _) (wpAny_of_eq (a := Value.none) (by first | rfl | (simp only [firstArgMember]; rfl)) ?_)
    refine wpAny_newObj_type ?_ (by size_fits)
    simp only [raiseNew]
    refine wpAny_bind (wpAny_bind (wpAny_handled ?_))
    first | rw [show A.in1.handled = none from hh] | rw [hh]
    refine wpAny_throw ?_
    refine wpAny_bind (wpAny_isInstance (T := "StopIteration") (b := true) ⟨_, Heap.get?_push_size _ rfl, rfl⟩ isSubtype_stop ?_)
    exact wpAny_pure (hP s₁ hp _ fun b o hb => Heap.get?_push_of_some _ (Heap.get?_push_of_some _ hb))

/-- what a generator def's next value is: no new object, the frame's namespace alone may change -/
def protoF (C : Addr) (fp : List Addr) (n₀ : Nat) (P : Nat → Value → Prop) : Protocol := fun m s₀ v s kap =>
  P (n₀ - 1 - m) v ∧ GenSince C [] s₀ s ∧ ∀ s'' : Shared, (∀ b ∈ C :: fp, ∀ o, s.heap.get? b = some o → s''.heap.get? b = some o) → kap (.send .none) s''
def EndF (C : Addr) : GenEnd := fun n s₀ r s₁ => r = .ok (.ret .none) ∧ (n = 0 ∧ GenSince C [] s₀ s₁)
def GenAtF (prog : Program) (w : World) (A : Around) (a : Addr) (g : Nat) (C : Addr) (fp : List Addr) (n₀ : Nat) (P : Nat → Value → Prop) (j : Nat) (s : Shared) : Prop :=
  s.heap.IsGen a g ∧ s.heap.NoLimit ∧ ∃ gs, s.gens[g]? = some gs ∧ ∀ s'' : Shared, (∀ b ∈ C :: fp, ∀ o, s.heap.get? b = some o → s''.heap.get? b = some o) →
    gs.Goes (model prog w) A.in1 (EndF C) (protoF C fp n₀ P) (n₀ - j) (.send .none) s''
def EOval (P : Nat → Value → Prop) (i : Nat) (v : Value) (objs : List (Addr × Obj)) : Prop := objs = [] ∧ P i v
theorem WalksV.genF (hh : A.handled = none) (a : Addr) (g : Nat) (C : Addr) (fp : List Addr) (n₀ : Nat) (P : Nat → Value → Prop) (haC : a ≠ C) (haf : a ∉ fp)
    (hroom : A.depth < recursionLimit) (hcs : cStatics ∈ fp) (hcC : cStatics ≠ C) :
    WalksV prog w A a (a :: C :: fp) [C] (GenOnlyQ g) n₀ (EOval P) (GenAtF prog w A a g C fp n₀ P) where
  sub := fun b hb => by
    rcases List.mem_cons.mp hb with rfl | hb
    · simp
    · cases hb
  grefl := fun _ => .inl rfl
  gtrans := fun _ _ _ x y => x.trans y
  frame := fun j s h' tk st _ hk =>
    ⟨let ⟨o, nm, qn, ho, r⟩ := st.1; ⟨o, nm, qn, hk a (List.mem_cons_self ..) o ho, r⟩,
     (let ⟨mc, hns, hnn⟩ := st.2.1; ⟨mc, hns.at' fun o e => hk cStatics (List.mem_cons_of_mem _ (List.mem_cons_of_mem _ hcs)) o e, hnn⟩),
     let ⟨gs, hgs, hgo⟩ := st.2.2; ⟨gs, hgs, fun s'' hal => hgo s'' fun b hb o e => hal b hb o (hk b (List.mem_cons_of_mem _ hb) o e)⟩⟩
  item := fun j s Q E hj st hQ => by
    obtain ⟨hg, hl, gs, hgs, hgo⟩ := st
    obtain ⟨m, hm⟩ : ∃ m, n₀ - j = m + 1 := ⟨n₀ - j - 1, by omega⟩
    rw [hm] at hgo
    refine wpAny_with_toks (Nat.le_refl s.toks) ?_
    refine pyNext_genF (P := fun n s₀ s₁ => n = 0 ∧ GenSince C [] s₀ s₁) hh hl hroom hg hgs (hgo _ fun _ _ _ e => e) (fun v s₁ gs' hb hv => ?_) (fun s₁ hp h' hk => ?_)
    · obtain ⟨hPv, ⟨h₁, tk₁, rfl, hk₁⟩, hkap⟩ := hv
      have hidx : n₀ - 1 - (m + 1 - 1) = j := by omega
      rw [hidx] at hPv
      intro htk
      refine hQ v _ [] ⟨rfl, hPv⟩ Fresh.nil ⟨let ⟨o, nm, qn, ho, r⟩ := hg; ⟨o, nm, qn, hk₁ a o haC (fun h => nomatch h) ho, r⟩, (let ⟨mc, hns, hnn⟩ := hl; ⟨mc, hns.at' fun o e => hk₁ cStatics o hcC (fun h => nomatch h) e, hnn⟩), gs', setGen_self (gs := .running) (setGen_self hgs), fun s'' hal => ?_⟩
        ⟨fun b o hb e => hk₁ b o (fun h => hb (h ▸ List.mem_cons_self ..)) (fun h => nomatch h) e, GenOnlyQ.of ((GenOnly.setGen s g .running).trans (GenOnly.setGen _ g gs')) (setGen_self (gs := .running) (setGen_self hgs)) hb, rfl, rfl, htk⟩
      have e : n₀ - (j + 1) = m := by omega
      rw [e]
      exact hkap s'' hal
    · exact absurd hp.1 (Nat.succ_ne_zero m)
  done := fun s Q E st hQ => by
    obtain ⟨hg, hl, gs, hgs, hgo⟩ := st
    rw [Nat.sub_self] at hgo
    refine wpAny_with_toks (Nat.le_refl s.toks) ?_
    refine pyNext_genF (P := fun n s₀ s₁ => n = 0 ∧ GenSince C [] s₀ s₁) hh hl hroom hg hgs (hgo _ fun _ _ _ e => e) (fun v s₁ gs' hb hv => ?_) (fun s₁ hp h' hk => ?_)
    · obtain ⟨_, _, hkap⟩ := hv
      exact False.elim (hkap s₁ fun _ _ _ e => e)
    · obtain ⟨_, h₁, tk₁, rfl, hk₁⟩ := hp
      intro htk
      exact hQ _ ⟨fun b o hb e => hk b o (hk₁ b o (fun h => hb (h ▸ List.mem_cons_self ..)) (fun h => nomatch h) e), GenOnlyQ.of ((GenOnly.setGen s g .running).trans (GenOnly.setGen _ g .finished)) (setGen_self (gs := .running) (setGen_self hgs)) rfl, rfl, rfl, htk⟩
  self := fun _ _ _ _ st hQ => wpAny_pyIter_gen st.1 hQ
end
end Mine
end
section
local macro_rules | `(tactic| walk_at "pad") => `(tactic| fail)
local macro_rules | `(tactic| walk_at "pad") => `(tactic| fail)
local macro_rules | `(tactic| walk_at "pad") => `(tactic| fail)
local macro_rules | `(tactic| walk_at "pad") => `(tactic| fail)
local macro_rules | `(tactic| walk_at "pad") => `(tactic| fail)
local macro_rules | `(tactic| walk_at "pad") => `(tactic| fail)
theorem Mine.reset_N1 : True := by w_top off; trivial
open PySem PySem.W PyProof.Rows PySem.Calls PySem.Spec
open PySem.Sem (wp)
set_option Elab.async false
set_option maxRecDepth 100000
namespace Mine
def AttrPost (s : Shared) (val : Value) (v : Value) (s' : Shared) : Prop := v = val ∧ Keeps s s'
theorem AttrPost.intro {s : Shared} {val : Value} {h' : Heap} {tk : Nat} (k : ∀ b o, s.heap.get? b = some o → h'.get? b = some o) : AttrPost s val val { s with heap := h', toks := tk } := ⟨rfl, h', tk, rfl, k⟩
theorem AttrPost.same {s : Shared} {val : Value} {tk : Nat} : AttrPost s val val { s with toks := tk } := ⟨rfl, s.heap, tk, rfl, fun _ _ e => e⟩
section
variable {w : World} {A : Around} {loose : List Str} {mean : ExcName → Option Value} {mg mb : Str → Option Value} {h₀ : Heap} {C : Addr} {m : Str → Option Value} {sel : List (Addr × Obj)} {fp : List Addr} {n₀ n : Nat} {P : Nat → Value → Prop} {env : Env}
/-- one «yield self.x» of a generator def -/
theorem seg_yieldK {c : Code} {e : Expr} {val : Value} {ypos pos : Pos} {rest : List Stmt} {s₀ s : Shared} {K : Flow → Sem PySem.Fin} {H : Value → Sem PySem.Fin} {gd : Bool → Bool} {lv : List Value → List Value}
    (hgd : gd false = false) (F : Fr h₀ C s.heap m) (N : News h₀ C s.heap sel) (h0 : ∀ b o, h₀.get? b = some o → b ∈ fp) (hs : ∀ q ∈ sel, q.1 ∈ fp) (hs0 : GenSince C [] s₀ s)
    (hev : wpAny (model PR w) (A.over c []) (eval e env) (AttrPost s val) (fun _ _ => False) s)
    (hP : P (n₀ - 1 - n) val)
    (hk : ∀ s'', Fr h₀ C s''.heap m → News h₀ C s''.heap sel → Seg (model PR w) A (EndF C) (protoF C fp n₀ P) n s'' c ((execs rest env).wrap K H gd lv) [] s'')
    (hco : env.scope.isCoroutine = false) (hi : interactive env = false) :
    Seg (model PR w) A (EndF C) (protoF C fp n₀ P) (n + 1) s₀ c ((execs (.Expr (.Yield (some e) ypos) pos :: rest) env).wrap K H gd lv) [] s := by
  refine seg_execs_cons (seg_Expr_Yield rfl hgd rfl (wpAny_mono hev (fun v s' hv => ?_) fun _ _ z => z.elim) hco hi)
  obtain ⟨rfl, h₁, tk₁, rfl, k₁⟩ := hv
  intro kap hkap
  refine ⟨hP, hs0.step fun b o _ _ e => k₁ b o e, fun s'' hal => ?_⟩
  refine hkap .none s'' (hk s'' ⟨(F.ns.keeps k₁).at' fun o e => hal C List.mem_cons_self o e, fun b o e => hal b (List.mem_cons_of_mem _ (h0 b o e)) o (k₁ b o (F.keep b o e)), F.above⟩ fun q hq => ⟨hal _ (List.mem_cons_of_mem _ (hs q hq)) _ (k₁ _ _ (N q hq).1), (N q hq).2⟩)
theorem call_genK {s : Shared} {K : Frag} {R : Result → Shared → Prop} {name qual : Str} {params : Arguments} {body : List Stmt} {scope : Scope} {dV kV doc pm cdv ct oc : Value} {an od : Option Addr} {osl : Array (Option Value)} {f : Addr} {args : Args} {binds : List (Str × Value)}
    (X : K.In s.heap) (hlim : s.heap.NoLimit) (ho : K.lookup f = some ⟨oc, od, .func (fnOf name qual params body scope dV kV doc pm an cdv ct), osl⟩) (hcd : codeIn K cdv qual = true) (hroom : A.depth < recursionLimit)
    (hbind : BindsTo s (fnOf name qual params body scope dV kV doc pm an cdv ct) args binds) (hloc : ∀ y ∈ binds, scope.names.lookup y.1 = some .local)
    (h : ∀ (h₁ : Heap) (tk : Nat), h₁.Ns s.heap.objs.size (fun y => binds.reverse.lookup y) → (∀ b o, s.heap.get? b = some o → h₁.get? b = some o) → h₁.objs.size = s.heap.objs.size + 1 →
      R (.ok (.ret (.ref h₁.objs.size))) { s with gens := s.gens.push (.fresh (.func body (envOf qual scope s.heap.objs.size f cdv))), toks := tk + 1 + 1, heap := h₁.push { cls := .type "generator", data := .fields #[.int s.gens.size 0, .str name tk, .str qual (tk + 1)] } })
    (hco : scope.isCoroutine = false) (hgen : scope.isGenerator = true) (hk : scope.kind = .function) (hcell : ∀ x ∈ scope.names, x.2 ≠ .cell) :
    codeAny (model PR w) A (.call (.ref f) args) R s := by
  refine codeAny_call_generator (fd := fnOf name qual params body scope dV kV doc pm an cdv ct) hroom (X _ _ ho) rfl hco hgen rfl (codeRec_of X hcd) (hbind _ _ _ _ ?_)
  refine wpAny_newFunctionEnv hcell hloc (fun h₁ hns hsb => ?_) hk
  have keep : ∀ b o, s.heap.get? b = some o → h₁.get? b = some o := fun b o e => hsb.extBut b o (Nat.ne_of_lt (Heap.lt_size e)) (Heap.get?_push_of_some _ e)
  refine ⟨hlim.keeps keep, ?_⟩
  exact h h₁ _ hns keep (by rw [hsb.1, Heap.size_push])
end
theorem fillN1 : (PySem.Challenge.rw_ci0037_01, Mine.hd.heap_39) = (PySem.Challenge.rw_ci0037_01, Mine.hd.heap_39) := by k_fill; rfl
local macro_rules | `(tactic| walk_at "AttrPost") => `(tactic| (k_dflt (first | exact AttrPost.same | exact AttrPost.intro (by assumption))))
/-- the five values of a version -/
def FiveAt (vs : List Value) (i : Nat) (v : Value) : Prop := vs[i]? = some v
set_option pp.deepTerms false in
set_option pp.deepTerms.threshold 5 in
set_option maxHeartbeats 8000000 in
theorem iter_call {w : World} {loose : List Str} {mean : ExcName → Option Value} {mg mb : Str → Option Value} {A : Around} (hh : A.handled = none) (hroom : A.depth + 10 < recursionLimit)
    {v dx tp tb : Addr} {h1 h2 h3 h4 h5 h6 h7 h8 : Int} {k1 k2 k3 k4 k5 k6 k7 k8 m1 m2 m3 : Tok} {v1 v2 v3 : Int} {v6 v7 v8 : Value} {n : Nat} {h₀ : Heap} {L : Addr} {m : Str → Option Value} {s : Shared} {fp : List Addr} {Q E : Value → Shared → Prop}
    (F : Fr h₀ L s.heap m) (X : (Mine.hd.heap_39 w.params).In h₀) (T : Top topProg loose mean mg mb h₀)
    (N : News h₀ L s.heap [(v, instObj 388 dx), (dx, dictOf (verDict8 h1 h2 h3 h4 h5 h6 h7 h8 k1 k2 k3 k4 k5 k6 k7 k8 (.int v1 m1) (.int v2 m2) (.int v3 m3) (.ref tp) (.ref tb) v6 v7 v8) n)])
    (hb0 : ∀ b o, h₀.get? b = some o → b ∈ fp) (hfv : v ∈ fp) (hfd : dx ∈ fp) (hft : ∀ b ∈ fp, b < s.heap.objs.size)
    (hret : ∀ (a C : Addr) h' tk gs, gs.bare = true → s.heap.objs.size ≤ C → C < a → (∀ b o, s.heap.get? b = some o → h'.get? b = some o) → h'.objs.size = a + 1 → h'.NoLimit →
      WalksV PR w A.in4 a (a :: C :: fp) [C] (GenOnlyQ s.gens.size) 5 (EOval (FiveAt [.int v1 m1, .int v2 m2, .int v3 m3, .ref tp, .ref tb])) (GenAtF PR w A.in4 a s.gens.size C (fp) 5 (FiveAt [.int v1 m1, .int v2 m2, .int v3 m3, .ref tp, .ref tb])) →
      GenAtF PR w A.in4 a s.gens.size C (fp) 5 (FiveAt [.int v1 m1, .int v2 m2, .int v3 m3, .ref tp, .ref tb]) 0 { s with gens := s.gens.push gs, heap := h', toks := tk } →
      Q (.ref a) { s with gens := s.gens.push gs, heap := h', toks := tk }) :
    codeAny (model PR w) A (.call (.ref 313) ⟨[.ref v], []⟩) (fun r s' => match r with | .ok (.ret v) => Q v s' | .ok _ => False | .error e => E e s') s := by
  have Xs := X.keeps F.keep
  have hl : s.heap.NoLimit := T.nolimit.keeps F.keep
  k_dflt (refine' call_genK Xs hl ?k6 ?k7 ?k8 ?k9 ?kB ?_ ?c2 ?c3 ?c4 ?c5; (case k6 => k_is); (case k7 => k_is); (case k8 => ktr_room); (case k9 => first | exact BindsTo.of_eq rfl | exact binds_K (by k_in) rfl (by k_is) rfl rfl rfl); (case c5 => decide); (case kB => exact locs rfl); (case c2 => exact rfl); (case c3 => exact rfl); (case c4 => exact rfl); k_whole)
  intro hx tk hns keep hsz
  have hLs : L < s.heap.objs.size := F.ns.lt
  have hclt : cStatics < s.heap.objs.size := let ⟨_, hn, _⟩ := hl; hn.lt
  have hcm : cStatics ∈ fp := let ⟨_, hn, _⟩ := T.nolimit; let ⟨o, _, _, e, _⟩ := hn; hb0 _ o e
  have keep2 : ∀ b o, s.heap.get? b = some o → (hx.push { cls := .type "generator", data := .fields #[.int s.gens.size 0, .str "__iter__" tk, .str "Version.__iter__" (tk + 1)] }).get? b = some o := fun b o e => Heap.get?_push_of_some _ (keep b o e)
  refine hret hx.objs.size s.heap.objs.size _ _ _ rfl (Nat.le_refl _) (by rw [hsz]; exact Nat.lt_succ_self _) keep2 (by rw [Heap.size_push]) (hl.keeps keep2) (WalksV.genF (A := A.in4) hh _ _ _ _ 5 _ (by rw [hsz]; exact Nat.succ_ne_self _) (fun hm => by have hm' := hft _ hm; rw [hsz] at hm'; exact absurd hm' (Nat.not_lt.mpr (Nat.le_succ _))) (by show A.depth < _; omega) hcm (Nat.ne_of_lt hclt)) ?_
  refine ⟨⟨_, _, _, Heap.get?_push_size _ rfl, rfl, rfl, rfl⟩, hl.keeps keep2, _, Array.getElem?_push_size .., fun s'' hal => ⟨rfl, ?_⟩⟩
  have F2 : Fr h₀ s.heap.objs.size s''.heap (fun y => ([("self", .ref v)] : List (Str × Value)).reverse.lookup y) := ⟨(hns.push _).at' fun o e => hal _ List.mem_cons_self o e, fun b o e => hal b (List.mem_cons_of_mem _ (hb0 b o e)) o (keep2 b o (F.keep b o e)), Nat.le_trans F.above (Nat.le_of_lt hLs)⟩
  have hs0 : ∀ q ∈ ([(v, instObj 388 dx), (dx, dictOf (verDict8 h1 h2 h3 h4 h5 h6 h7 h8 k1 k2 k3 k4 k5 k6 k7 k8 (.int v1 m1) (.int v2 m2) (.int v3 m3) (.ref tp) (.ref tb) v6 v7 v8) n)] : List (Addr × Obj)), q.1 ∈ fp := fun q hq => by
    simp only [List.mem_cons, List.not_mem_nil, or_false] at hq
    rcases hq with rfl | rfl
    · exact hfv
    · exact hfd
  have N2 := fun (q : Addr × Obj) hq => (⟨hal _ (List.mem_cons_of_mem _ (hs0 q hq)) _ (keep2 _ _ (N q hq).1), Nat.ne_of_lt (Heap.lt_size (N q hq).1), (N q hq).2.2⟩ : s''.heap.get? q.1 = some q.2 ∧ q.1 ≠ s.heap.objs.size ∧ h₀.get? q.1 = none)
  have N3 : News h₀ s.heap.objs.size s''.heap [(v, instObj 388 dx), (dx, dictOf (verDict8 h1 h2 h3 h4 h5 h6 h7 h8 k1 k2 k3 k4 k5 k6 k7 k8 (.int v1 m1) (.int v2 m2) (.int v3 m3) (.ref tp) (.ref tb) v6 v7 v8) n)] := N2
  generalize s.heap.objs.size = C at F2 N3 ⊢
  clear N2 hal hns keep hsz keep2 hret F N hLs hclt hl Xs hft hcm hfv hfd
  refine seg_func ?_
  refine seg_yieldK rfl F2 N3 hb0 hs0 (GenSince.refl _ _ _) ?_ rfl (fun s1 F1 N1 => ?_) rfl rfl
  · clear hb0 hs0
    k_steps
  clear F2 N3
  refine seg_yieldK rfl F1 N1 hb0 hs0 (GenSince.refl _ _ _) ?_ rfl (fun s11 F11 N11 => ?_) rfl rfl
  · clear hb0 hs0
    k_steps
  clear F1 N1
  refine seg_yieldK rfl F11 N11 hb0 hs0 (GenSince.refl _ _ _) ?_ rfl (fun s12 F12 N12 => ?_) rfl rfl
  · clear hb0 hs0
    k_steps
  clear F11 N11
  refine seg_yieldK rfl F12 N12 hb0 hs0 (GenSince.refl _ _ _) ?_ rfl (fun s13 F13 N13 => ?_) rfl rfl
  · clear hb0 hs0
    k_steps
  clear F12 N12
  refine seg_yieldK rfl F13 N13 hb0 hs0 (GenSince.refl _ _ _) ?_ rfl (fun s14 F14 N14 => ?_) rfl rfl
  · clear hb0 hs0
    k_steps
  clear F13 N13
  exact seg_execs_nil (seg_end (.ok (.ret .none)) ⟨rfl, rfl, GenSince.refl _ _ _⟩)
end Mine
end
section
theorem Mine.reset_N2 : True := by w_top off; trivial
open PySem PySem.W PyProof.Rows PySem.Calls PySem.Spec
open PySem.Sem (wp)
set_option Elab.async false
set_option maxRecDepth 100000
namespace Mine
theorem fillN2 : (PySem.Challenge.rw_ci0037_01, Mine.hd.heap_39) = (PySem.Challenge.rw_ci0037_01, Mine.hd.heap_39) := by k_fill; rfl
theorem five_of {vs acc : List Value} {objs : List (Addr × Obj)} (h : EOs (EOval (FiveAt vs)) 5 acc objs) : ∀ {a b c d e : Value}, vs = [a, b, c, d, e] → acc = [a, b, c, d, e] := by
  intro a b c d e hv
  subst hv
  cases h with
  | snoc h5 x5 => cases h5 with
    | snoc h4 x4 => cases h4 with
      | snoc h3 x3 => cases h3 with
        | snoc h2 x2 => cases h2 with
          | snoc h1 x1 =>
            cases h1
            have y1 := x1.2; have y2 := x2.2; have y3 := x3.2; have y4 := x4.2; have y5 := x5.2
            simp [FiveAt] at y1 y2 y3 y4 y5
            subst y1 y2 y3 y4 y5; rfl
section
variable {w : World} {A : Around} {loose : List Str} {mean : ExcName → Option Value} {mg mb : Str → Option Value}
/-- list(version), as tuple(version) gathers it -/
theorem collect_ver {E : Value → Shared → Prop} {s : Shared} {Q : List Value → Shared → Prop} (hh : A.handled = none) (hroom : A.depth + 20 < recursionLimit)
    {v dx tp tb : Addr} {h1 h2 h3 h4 h5 h6 h7 h8 : Int} {k1 k2 k3 k4 k5 k6 k7 k8 m1 m2 m3 : Tok} {v1 v2 v3 : Int} {v6 v7 v8 : Value} {n : Nat} {h₀ : Heap} {L : Addr} {m : Str → Option Value}
    (FF : Fr h₀ L s.heap m) (X : (Mine.hd.heap_39 w.params).In h₀) (T : Top topProg loose mean mg mb h₀) (G : AllBare s.gens)
    (N : News h₀ L s.heap [(v, instObj 388 dx), (dx, dictOf (verDict8 h1 h2 h3 h4 h5 h6 h7 h8 k1 k2 k3 k4 k5 k6 k7 k8 (.int v1 m1) (.int v2 m2) (.int v3 m3) (.ref tp) (.ref tb) v6 v7 v8) n)])
    (hQ : ∀ s', (∀ b o, s.heap.get? b = some o → s'.heap.get? b = some o) → AllBare s'.gens → s'.os = s.os → Q [.int v1 m1, .int v2 m2, .int v3 m3, .ref tp, .ref tb] s') : wpAny (model PR w) A (collect (.ref v)) Q E s := by
  have hLs : L < s.heap.objs.size := FF.ns.lt
  have hv := N _ (List.mem_cons_self)
  have hd := N _ (List.mem_cons_of_mem _ List.mem_cons_self)
  have hvs : v < s.heap.objs.size := Heap.lt_size hv.1
  have hds : dx < s.heap.objs.size := Heap.lt_size hd.1
  unfold collect
  refine wpAny_bind (wpAny_runValue (codeAny_builtin F.entry_proto_collect ?_))
  rw [Around.under_plainId F.plain_proto_collect _]
  show wpAny _ A.in1 (newList [] >>= fun l => again (.builtin "list.__iadd__" ⟨[l, .ref v], []⟩)) _ _ s
  refine wpAny_bind (wpAny_newObj_type ?_)
  refine wpAny_pure ⟨plainId_quiet F.plain_list_iadd _, codeAny_builtin F.entry_list_iadd ?_⟩
  rw [Around.under_plainId F.plain_list_iadd _]
  generalize hS : s.heap.objs.size = S at *
  have up : ∀ b o, s.heap.get? b = some o → (s.heap.push { cls := .type "list", data := .seq ([] : List Value).toArray }).get? b = some o := fun b o e => Heap.get?_push_of_some _ e
  have F1 : Fr h₀ L (s.heap.push { cls := .type "list", data := .seq ([] : List Value).toArray }) m := FF.push _
  have N1 := N.grown up
  have hS₁ : (s.heap.push { cls := .type "list", data := .seq ([] : List Value).toArray }).get? S = some { cls := .type "list", data := .seq ([] : List Value).toArray } := hS ▸ Heap.get?_push_size _ rfl
  have hsz1 : (s.heap.push { cls := .type "list", data := .seq ([] : List Value).toArray }).objs.size = S + 1 := by rw [Heap.size_push, hS]
  generalize hH : s.heap.push { cls := .type "list", data := .seq ([] : List Value).toArray } = H1 at *
  clear hH
  show wpAny _ A.in1 (Builtin.List.listExtendWith (.ref S) (.ref v) (.ref S)) _ _ _
  unfold Builtin.List.listExtendWith
  have I1 : InstAt H1 v (instObj 388 dx) 388 (some _) := InstAt.of_news N1 List.mem_cons_self (List.mem_cons_of_mem _ List.mem_cons_self)
  refine wpAny_bind (I1.type.here ?_)
  have e1 : Builtin.List.listSameRef (.ref S) (.ref v) = false := by simp [Builtin.List.listSameRef, Nat.ne_of_gt hvs]
  have e2 : (Value.ref 388 == Value.type "list") = false := by decide
  have e3 : (Value.ref 388 == Value.type "tuple") = false := by decide
  simp only [e1, e2, e3, Bool.or_false, Bool.false_eq_true, if_false]
  have hlt0 : ∀ b o, h₀.get? b = some o → b < S := fun b o e => hS ▸ Heap.lt_size (FF.keep b o e)
  refine wpAny_bind (owit_iter (s := { s with heap := H1 }) F1 X I1 (by k_dflt k_is) (by k_dflt k_is) (wpAny_call (iter_call (A := A.in1) (s := { s with heap := H1 }) (fp := List.range S) hh (by show A.depth + 10 < _; omega) F1 X T N1 (fun b o e => List.mem_range.mpr (hlt0 b o e)) (List.mem_range.mpr hvs) (List.mem_range.mpr hds) (fun b hb => ?_) fun a C h' tk gs hbare hC hCa keep hsz hlim W st => ?_)))
  · rw [hsz1]; exact Nat.lt_succ_of_lt (List.mem_range.mp hb)
  rw [hsz1] at hC
  have hIs : h'.IsGen a s.gens.size := st.1
  refine wpAny_specialOf (T := "generator") (Heap.IsGen.typeIs hIs) slot_gen_next.lookup ?_
  have keepS := fun b o e => keep b o (up b o e)
  have N2 := N1.grown keep
  have F2 := F1.keeps keep
  have I2 : InstAt h' v (instObj 388 dx) 388 (some _) := InstAt.of_news N2 List.mem_cons_self (List.mem_cons_of_mem _ List.mem_cons_self)
  have X2 := X.keeps F2.keep
  refine wpAny_bind (wpAny_holding ?_)
  unfold Builtin.List.listLengthHint
  refine wpAny_bind (wpAny_bind (I2.type.here ((looks_findIn X2 (by k_dflt k_is) : Looks _ _ (typeLookup (.ref 388) "__len__") none).here ?_)))
  show wpAny _ A.in1 (specialOf (Value.ref v) (Str.ofString "__length_hint__") >>= _) _ _ _
  refine wpAny_bind (wpAny_bind (I2.type.here ((looks_findIn X2 (by k_dflt k_is) : Looks _ _ (typeLookup (.ref 388) "__length_hint__") none).here ?_)))
  refine wpAny_pure ?_
  show wpAny _ A.in1 (rule "list.extend.makes-room" >>= fun _ => Builtin.List.listTouch (.ref S) >>= fun _ =>
    again (.builtin "list.extend.loop" ⟨[.ref S, .ref a, .ref S], []⟩)) _ _ _
  refine wpAny_bind (wpAny_rule ?_)
  have hS₂' : h'.get? S = some { cls := .type "list", data := .seq ([] : List Value).toArray } := keep _ _ hS₁
  refine wpAny_bind ?_
  show wpAny _ A.in1 (updateSeq S (·.push .none) >>= fun _ => updateSeq S (·.pop)) _ _ _
  refine wpAny_bind (wpAny_updateSeq hS₂' rfl ?_)
  have hS₂ := Heap.get?_update_self (Obj.mapSeq (·.push Value.none)) hS₂' rfl
  refine wpAny_updateSeq hS₂ rfl ?_
  have hS₃ := Heap.get?_update_self (Obj.mapSeq (·.pop)) hS₂ rfl
  have oth : ∀ b o, b ≠ S → h'.get? b = some o → ((h'.update S (Obj.mapSeq (·.push Value.none))).update S (Obj.mapSeq (·.pop))).get? b = some o :=
    fun b o hb e => (Heap.get?_update_other _ _ (Ne.symm hb)).trans ((Heap.get?_update_other _ _ (Ne.symm hb)).trans e)
  have hSf : S ∉ a :: C :: List.range S := fun hm => by
    have h1 : S < C := Nat.lt_of_succ_le hC
    rcases List.mem_cons.mp hm with q | hm
    · exact absurd (Nat.lt_trans h1 hCa) (by rw [← q]; exact Nat.lt_irrefl _)
    · rcases List.mem_cons.mp hm with q | hm
      · exact absurd h1 (by rw [← q]; exact Nat.lt_irrefl _)
      · exact Nat.lt_irrefl _ (List.mem_range.mp hm)
  have st2 := W.frame 0 _ ((h'.update S (Obj.mapSeq (·.push Value.none))).update S (Obj.mapSeq (·.pop))) tk st (Nat.le_refl _) fun b hb o e => oth b o (fun q => hSf (q ▸ hb)) e
  refine wpAny_pure ⟨plainId_quiet F.plain_extend_loop _, extend_loopV W.out.out.out.out (by size_fits) S hSf _ _ 5 0 _ #[] [] _ rfl (Nat.zero_le _) st2 hS₃ .nil Fresh.nil (Moved.refl W.grefl) fun s' acc' c' objs hm hS' hacc hfr => ?_⟩
  show wpAny _ A (load S >>= _) _ _ s'
  refine wpAny_bind (wpAny_load hS' ?_)
  refine wpAny_pure ?_
  rw [five_of hacc rfl]
  refine hQ s' (fun b o e => ?_) ?_ hm.os
  · have hbS : b < S := hS ▸ Heap.lt_size e
    refine hm.heap b o (fun q => ?_) (oth b o (Nat.ne_of_lt hbS) (keepS b o e))
    rcases List.mem_cons.mp q with q | q
    · exact absurd hbS (by rw [q]; exact Nat.lt_irrefl _)
    · rw [List.mem_singleton.mp q] at hbS
      exact absurd (Nat.lt_trans hbS (Nat.lt_of_succ_le hC)) (Nat.lt_irrefl _)
  · refine hm.gens.bare fun y hy => ?_
    rcases Array.mem_push.mp hy with hy | rfl
    · exact G y hy
    · exact hbare
end
end Mine
end
section
open PySem PySem.W PyProof.Rows PySem.Calls PySem.Spec
open PySem.Sem (wp)
set_option Elab.async false
set_option maxRecDepth 100000
namespace Mine
section
variable {w : World} {A : Around} {loose : List Str} {mean : ExcName → Option Value} {mg mb : Str → Option Value}
    {v dx tp tb : Addr} {h1 h2 h3 h4 h5 h6 h7 h8 : Int} {k1 k2 k3 k4 k5 k6 k7 k8 m1 m2 m3 : Tok} {v1 v2 v3 : Int} {v6 v7 v8 : Value} {n : Nat} {h₀ : Heap} {L : Addr} {m : Str → Option Value}
theorem tuple_new_ver {E : Value → Shared → Prop} {s : Shared} {Q₁ : Value → Shared → Prop} (hh : A.handled = none) (hroom : A.depth + 30 < recursionLimit)
    (FF : Fr h₀ L s.heap m) (X : (Mine.hd.heap_39 w.params).In h₀) (T : Top topProg loose mean mg mb h₀) (G : AllBare s.gens)
    (N : News h₀ L s.heap [(v, instObj 388 dx), (dx, dictOf (verDict8 h1 h2 h3 h4 h5 h6 h7 h8 k1 k2 k3 k4 k5 k6 k7 k8 (.int v1 m1) (.int v2 m2) (.int v3 m3) (.ref tp) (.ref tb) v6 v7 v8) n)])
    (h : ∀ (s' : Shared), (∀ b o, s.heap.get? b = some o → s'.heap.get? b = some o) → AllBare s'.gens → s'.os = s.os → Q₁ (.ref s'.heap.objs.size) { s' with heap := s'.heap.push (tupObj [.int v1 m1, .int v2 m2, .int v3 m3, .ref tp, .ref tb]) }) :
    codeAny (model PR w) A (.call (.builtin "tuple.__new__") ⟨[.type "tuple", .ref v], []⟩) (wants Q₁ E) s := by
  refine codeAny_of_tree ?_
  show wpAny _ A.in1 (do checkBuiltinCall "tuple.__new__" ⟨[.type "tuple", .ref v], []⟩; again (.builtin "tuple.__new__" ⟨[.type "tuple", .ref v], []⟩)) _ _ s
  refine wpAny_bind (wpAny_of_eq (F.newCall_tuple_1 _) (wpAny_pure ⟨plainId_quiet F.plain_tuple_new _, codeAny_builtin F.entry_tuple_new ?_⟩))
  rw [Around.under_plainId F.plain_tuple_new _]
  have hsub := sub_tuple_self
  have hinit := init_tuple_lookup
  have hmh := madeHere_tuple
  have I1 : InstAt s.heap v (instObj 388 dx) 388 (some _) := InstAt.of_news N List.mem_cons_self (List.mem_cons_of_mem _ List.mem_cons_self)
  have hT : ∀ {Q : Value → Shared → Prop} {E : Value → Shared → Prop}, Q (.ref 388) s → wpAny (model PR w) A.in1 (typeOf (.ref v)) Q E s := fun hq => I1.type.here hq
  have hC : ∀ {Q : List Value → Shared → Prop} {E : Value → Shared → Prop}, (∀ (s' : Shared), (∀ b o, s.heap.get? b = some o → s'.heap.get? b = some o) → AllBare s'.gens → s'.os = s.os → Q [.int v1 m1, .int v2 m2, .int v3 m3, .ref tp, .ref tb] s') → wpAny (model PR w) A.in1 (collect (.ref v)) Q E s :=
    fun hq => collect_ver (A := A.in1) hh (by show A.depth + 20 < _; omega) FF X T G N hq
  wp_walk using hT, hC
  intro s' k g o
  show wpAny _ _ (Builtin.Tuple.tupleExact #[Value.int v1 m1, Value.int v2 m2, Value.int v3 m3, Value.ref tp, Value.ref tb] >>= fun v => ret v) _ _ _
  unfold Builtin.Tuple.tupleExact
  refine wpAny_bind (wpAny_newObj_type ?_ (by show (5 : Nat) ≤ sizeLine; size_fits))
  exact wpAny_pure (h s' k g o)
theorem tuple_ver {E : Value → Shared → Prop} {s : Shared} {Q : Value → Shared → Prop} (hh : A.handled = none) (hroom : A.depth + 40 < recursionLimit)
    (FF : Fr h₀ L s.heap m) (X : (Mine.hd.heap_39 w.params).In h₀) (T : Top topProg loose mean mg mb h₀) (G : AllBare s.gens)
    {led : List (Addr × Obj)} (N : News h₀ L s.heap led) (q1 : (v, instObj 388 dx) ∈ led) (q2 : (dx, dictOf (verDict8 h1 h2 h3 h4 h5 h6 h7 h8 k1 k2 k3 k4 k5 k6 k7 k8 (.int v1 m1) (.int v2 m2) (.int v3 m3) (.ref tp) (.ref tb) v6 v7 v8) n) ∈ led)
    (h : ∀ (s' : Shared) t, Fr h₀ L s'.heap m → News h₀ L s'.heap ((t, tupObj [.int v1 m1, .int v2 m2, .int v3 m3, .ref tp, .ref tb]) :: led) → (∀ q ∈ led, q.1 < t) → AllBare s'.gens → s'.os = s.os → (∀ b o, s.heap.get? b = some o → s'.heap.get? b = some o) → Q (.ref t) s') :
    wpAny (model PR w) A (call (.type "tuple") [.ref v]) Q E s := by
  have N2 : News h₀ L s.heap [(v, instObj 388 dx), (dx, dictOf (verDict8 h1 h2 h3 h4 h5 h6 h7 h8 k1 k2 k3 k4 k5 k6 k7 k8 (.int v1 m1) (.int v2 m2) (.int v3 m3) (.ref tp) (.ref tb) v6 v7 v8) n)] := fun q hq => by
    rcases List.mem_cons.mp hq with rfl | hq
    · exact N _ q1
    · rw [List.mem_singleton.mp hq]; exact N _ q2
  refine callType_codes (Q₁ := fun obj s₁ => s₁.TypeIs obj "tuple" ∧ Q obj s₁) F.called_tuple (F.typeCall_tuple_1 _) F.entry_object_init
    (tuple_new_ver (A := A.in1) hh (by show A.depth + 30 < _; omega) FF X T G N2 fun s' k g o => ⟨⟨_, Heap.get?_push_size _ rfl, rfl⟩, ?_⟩) fun obj s₁ h₁ => ?_
  · have F' : Fr h₀ L s'.heap m := FF.keeps k
    have N' := N.grown k
    exact h _ _ (F'.push _) (News.push F' N' _) (fun q hq => Heap.lt_size (N' q hq).1) g o fun b o e => Heap.get?_push_of_some _ (k b o e)
  · exact ⟨h₁.1, F.args_object_init_2 obj _, object_init_meets F.called_tuple.init.lookup F.called_tuple.made (by decide) PR w A.in1 _ s₁ ⟨h₁.1, rfl, h₁.2⟩⟩
end
end Mine
end
section
local macro_rules | `(tactic| walk_at "pad") => `(tactic| fail)
theorem Mine.reset_S1a : True := by w_top off; trivial
open PySem PySem.W PyProof.Rows PySem.Calls PySem.Spec
set_option Elab.async false
set_option maxRecDepth 100000
namespace Mine
local macro_rules | `(tactic| walk_at "LeaveH") => `(tactic| (k_dflt (refine' LeaveH.intro ?k1 ?k2 ?k3 ?_; (case k1 => k_asm); (case k2 => k_asm); (case k3 => (repeat' (first | exact List.forall_mem_nil _ | refine List.forall_mem_cons.mpr ⟨by k_mem, ?_⟩))); k_whole); intro kK; (try dsimp only)))
local macro_rules | `(tactic| k_all) => `(tactic| assumption)
open PySem.Builtin PySem.Builtin.Str PySem.W.KPc in
section
variable {M : Model} {A : Around} {E : Value → Shared → Prop} {s : Shared} {l : List Nat} {p : List Value} {r : List Nat}
  {f : Nat → List Value × Writer × List Nat → Sem (ForInStep (List Value × Writer × List Nat))} {Q : List Value × Writer × List Nat → Shared → Prop}
  {w : Writer} {T x y : PySem.Str} {N K : Nat} {o : Option Value}
theorem after_intW {c : Percent} {n : Int} {d : List Nat} (g : Good w T N) (h1 : c.alt = false) (h2 : c.type = 100 ∨ c.type = 105 ∨ c.type = 117) (h3 : c.prec = none) (hn : 0 ≤ n) (hm : n < 10 ^ 20)
    (hd : d = (PySem.Str.ofString (toString ((n.natAbs : Nat) : Int))).cps.toList) (ho : o = none) (h : ∀ w', Good w' (T ++ PySem.Str.ofString (toString n)) (N + 20) → wpAny M A (forIn l (p, w', r) f) Q E s) :
    wpAny M A (forIn l (p, w.add ⟨(percentInt c (decide (n < 0)) d).toArray⟩ o, r) f) Q E s := by
  have en : ((n.natAbs : Nat) : Int) = n := Int.natAbs_of_nonneg hn
  rw [int_text c h1 h2 h3 hn, hd, en]
  exact after_str g (toString_length_le hn (by decide) hm) (obj_none ho) h
theorem after_intW0 {c : Percent} {n : Int} {d : List Nat} (g : Good w PySem.Str.empty N) (h1 : c.alt = false) (h2 : c.type = 100 ∨ c.type = 105 ∨ c.type = 117) (h3 : c.prec = none) (hn : 0 ≤ n) (hm : n < 10 ^ 20)
    (hd : d = (PySem.Str.ofString (toString ((n.natAbs : Nat) : Int))).cps.toList) (ho : o = none) (h : ∀ w', Good w' (PySem.Str.ofString (toString n)) (N + 20) → wpAny M A (forIn l (p, w', r) f) Q E s) :
    wpAny M A (forIn l (p, w.add ⟨(percentInt c (decide (n < 0)) d).toArray⟩ o, r) f) Q E s :=
  after_intW g h1 h2 h3 hn hm hd ho fun w' g' => h w' (by rw [empty_app] at g'; exact g')
theorem mod_intW {prog : Program} {wd : World} {Q : Value → Shared → Prop} {X X' : PySem.Str} {n : Int} {t u : Tok} {T : Int → PySem.Str} (hX : X = X') (hn0 : 0 ≤ n) (hn1 : n < 10 ^ 20)
    (hm : ∀ i : Int, 0 ≤ i → i < 10 ^ 20 → i.natAbs.log2 < 1920 → ((i.natAbs : Nat) : Int).natAbs.log2 < 1920 → Meets («str.__mod__» ⟨[.str X' t, .int i u], []⟩) (fun _ R s => ∀ t' k, R (.ok (.ret (.str (T i) t'))) { s with toks := k }))
    (h : ∀ t' k, Q (.str (T n) t') { s with toks := k }) : wpAny (model prog wd) A (binaryOp .Mod (.str X t) (.int n u)) Q E s :=
  mod_lit hX (shown (N := 2 ^ 1920) (by omega) (Int.lt_of_lt_of_le hn1 (by decide)) (Int.le_refl _)) (hm n hn0 hn1) h
end
local macro_rules | `(tactic| kpc_piece) => `(tactic| first
  | (refine after_intW0 (by kpc_g) rfl (by kpc_kind) rfl (by with_reducible assumption) (by with_reducible assumption) rfl (by kpc_none) ?_; intro _ _)
  | (refine after_intW (by kpc_g) rfl (by kpc_kind) rfl (by with_reducible assumption) (by with_reducible assumption) rfl (by kpc_none) ?_; intro _ _))
local macro_rules | `(tactic| kpt_piece) => `(tactic| first
  | (refine KPc.after_add0 (by kpc_g) (by kpc_text) (by kpc_obj) ?_; intro _ _)
  | (refine KPc.after_add (by kpc_g) (by kpc_text) (by kpc_obj) ?_; intro _ _)
  | (refine KPc.after_str0 (by kpc_g) (by kpt_len) (by kpc_obj) ?_; intro _ _)
  | (refine KPc.after_str (by kpc_g) (by kpt_len) (by kpc_obj) ?_; intro _ _)
  | (refine after_intW0 (by kpc_g) rfl (by kpc_kind) rfl (by with_reducible assumption) (by with_reducible assumption) rfl (by kpc_none) ?_; intro _ _)
  | (refine after_intW (by kpc_g) rfl (by kpc_kind) rfl (by with_reducible assumption) (by with_reducible assumption) rfl (by kpc_none) ?_; intro _ _))
theorem shownW {n : Int} (h0 : 0 ≤ n) (h1 : n < 10 ^ 20) : n.natAbs.log2 < 1920 := shown (N := 2 ^ 1920) (by omega) (Int.lt_of_lt_of_le h1 (by decide)) (Int.le_refl _)
local macro_rules | `(tactic| kpt_hd) => `(tactic| with_reducible exact shownW (by assumption) (by assumption))
set_option maxHeartbeats 2000000 in
theorem meets_sd (t b tx tv) (x : PySem.Str) (v : Int) (hx : x.length ≤ 100000) (h0 : 0 ≤ v) (h1 : v < 10 ^ 20) :
    Meets (PySem.Builtin.«str.__mod__» ⟨[.str ⟨#[37, 115, 46, 37, 100]⟩ t, .ref b], []⟩) (fun _ R s => PyProof.Rows.IsTup s.heap b #[.str x tx, .int v tv] ∧ ∀ t' k, R (.ok (.ret (.str (x ++ PySem.Str.ofString "." ++ PySem.Str.ofString (toString v)) t'))) { s with toks := k }) := by
  kpt_run
end Mine
end
section
local macro_rules | `(tactic| walk_at "pad") => `(tactic| fail)
local macro_rules | `(tactic| walk_at "pad") => `(tactic| fail)
local macro_rules | `(tactic| walk_at "pad") => `(tactic| fail)
local macro_rules | `(tactic| walk_at "pad") => `(tactic| fail)
local macro_rules | `(tactic| walk_at "pad") => `(tactic| fail)
local macro_rules | `(tactic| walk_at "pad") => `(tactic| fail)
theorem Mine.reset_S1 : True := by w_top off; trivial
open PySem PySem.W PyProof.Rows PySem.Calls PySem.Spec
set_option Elab.async false
set_option maxRecDepth 100000
namespace Mine
local macro_rules | `(tactic| walk_at "LeaveH") => `(tactic| (k_dflt (refine' LeaveH.intro ?k1 ?k2 ?k3 ?_; (case k1 => k_asm); (case k2 => k_asm); (case k3 => (repeat' (first | exact List.forall_mem_nil _ | refine List.forall_mem_cons.mpr ⟨by k_mem, ?_⟩))); k_whole); intro kK; (try dsimp only)))
local macro_rules | `(tactic| k_all) => `(tactic| assumption)
local macro_rules | `(tactic| kpc_piece) => `(tactic| first
  | (refine after_intW0 (by kpc_g) rfl (by kpc_kind) rfl (by with_reducible assumption) (by with_reducible assumption) rfl (by kpc_none) ?_; intro _ _)
  | (refine after_intW (by kpc_g) rfl (by kpc_kind) rfl (by with_reducible assumption) (by with_reducible assumption) rfl (by kpc_none) ?_; intro _ _))
local macro_rules | `(tactic| walk_at "binaryOp Mod str int") => `(tactic| (k_here; (with_reducible show wpAny _ _ (binaryOp Operator.Mod (Value.str _ _) (Value.int _ _)) _ _ _); (refine' mod_intW ?kpcF ?kpcl ?kpch ?kpcm ?_; (case kpcF => kpc_eq); (case kpcl => assumption); (case kpch => assumption); (case kpcm => k_dflt kpc_run)); intro _ _))
theorem mod_sd {w : World} {A : Around} {E : Value → Shared → Prop} {s : Shared} {x : PySem.Str} {v : Int} {t tx tv : Tok} {Q : Value → Shared → Prop} {b L : Addr} {n : Nat} {h₀ : Heap} {news : List (Addr × Obj)} (hx : x.length ≤ 100000) (h0 : 0 ≤ v) (h1 : v < 10 ^ 20)
    (N : News h₀ L s.heap news) (hb : (b, ({ cls := .type "tuple", data := .seq #[.str x tx, .int v tv] n } : Obj)) ∈ news)
    (h : ∀ t' k, Q (.str (x ++ PySem.Str.ofString "." ++ PySem.Str.ofString (toString v)) t') { s with toks := k }) : wpAny (model PR w) A (binaryOp .Mod (.str (PySem.Str.ofString "%s.%d") t) (.ref b)) Q E s :=
  KPt.mod_tuple N hb (by decide) (meets_sd t b tx tv x v hx h0 h1) h
local macro_rules | `(tactic| walk_at "binaryOp Mod str ref") => `(tactic| (k_here; (with_reducible show wpAny _ _ (binaryOp Operator.Mod (Value.str _ _) (Value.ref _)) _ _ _); k_dflt (refine' mod_sd ?x ?a ?b ?N ?m ?_; (case N => k_asm); (case m => k_mem); (case x => first | with_reducible assumption | omega); (case a => with_reducible assumption); (case b => with_reducible assumption)); intro t9 k9; (try dsimp only)))
theorem join_tup {w : World} {A : Around} {E : Value → Shared → Prop} {s : Shared} {Q : Value → Shared → Prop} {h₀ : Heap} {L D : Addr} {led : List (Addr × Obj)} {lt : List (Str × Tok)} {sep : Str} {t : Tok}
    (N : News h₀ L s.heap led) (hm : (D, tupObj (strVals lt)) ∈ led) (hs : sep.length ≤ 64) (hok : ((lt.map (·.1)).map (·.length)).sum + (lt.map (·.1)).length * 64 ≤ 16777216) {r : Str} (hr : Txt.join sep (lt.map (·.1)) = r)
    (hQ : ∀ t' k, Q (.str r t') { s with toks := k }) :
    wpAny (model PR w) A (call (.builtin "str.join") [.str sep t, .ref D]) Q E s :=
  join_tupleC (News.isTup N hm) (strsAre_of_values lt) hs hok (by rw [hr]; exact hQ)
local macro_rules | `(tactic| walk_at "truthy ref") => `(tactic| (k_here; (with_reducible show wpAny _ _ (truthy (Value.ref _)) _ _ _); k_dflt (refine' ktl_truthyK ?N ?m ?z ?_; (case N => k_asm); (case m => k_mem); (case z => first | (simp only [strVals, List.length_map]; assumption) | exact Nat.le_of_ble_eq_true rfl); k_whole)))
local macro_rules | `(tactic| walk_at "call builtin:str.join") => `(tactic| (k_here; (with_reducible show wpAny _ _ (call (Value.builtin "str.join") [Value.str _ _, Value.ref _]) _ _ _); k_dflt (refine' join_tup ?N ?m ?s ?ok ?r ?_; (case N => k_asm); (case m => k_mem); (case s => decide); (case ok => with_reducible assumption); (case r => with_reducible assumption)); intro t9 k9; (try dsimp only)))
abbrev abcText (v1 v2 v3 : Int) : Str := PySem.Str.ofString (toString v1) ++ PySem.Str.ofString "." ++ PySem.Str.ofString (toString v2) ++ PySem.Str.ofString "." ++ PySem.Str.ofString (toString v3)
def withPre (t : Str) (pre : List Str) : Str := if pre = [] then t else Str.empty ++ t ++ Str.ofString "-" ++ Txt.join (Str.ofString ".") pre
def withBld (t : Str) (bld : List Str) : Str := if bld = [] then t else Str.empty ++ t ++ Str.ofString "+" ++ Txt.join (Str.ofString ".") bld
/-- str(version) -/
def verText (v1 v2 v3 : Int) (pre bld : List Str) : Str := withBld (withPre (abcText v1 v2 v3) pre) bld
theorem pre_no {t : Str} {l : List (Str × Tok)} (h : (strVals l).isEmpty = true) : withPre t (l.map (·.1)) = t := by
  cases nil_of h; rfl
theorem bld_no {t : Str} {l : List (Str × Tok)} (h : (strVals l).isEmpty = true) : withBld t (l.map (·.1)) = t := by
  cases nil_of h; rfl
theorem pre_yes {t r : Str} {l : List (Str × Tok)} (h : (strVals l).isEmpty = false) (hr : Txt.join (Str.ofString ".") (l.map (·.1)) = r) : withPre t (l.map (·.1)) = Str.empty ++ t ++ Str.ofString "-" ++ r := by
  have := cons_of h
  unfold withPre; rw [if_neg (by simpa using this), hr]
theorem bld_yes {t r : Str} {l : List (Str × Tok)} (h : (strVals l).isEmpty = false) (hr : Txt.join (Str.ofString ".") (l.map (·.1)) = r) : withBld t (l.map (·.1)) = Str.empty ++ t ++ Str.ofString "+" ++ r := by
  have := cons_of h
  unfold withBld; rw [if_neg (by simpa using this), hr]
theorem ver_text {v1 v2 v3 : Int} {pre bld : List (Str × Tok)} {t1 t2 : Str} (h1 : withPre (abcText v1 v2 v3) (pre.map (·.1)) = t1) (h2 : withBld t1 (bld.map (·.1)) = t2) : verText v1 v2 v3 (pre.map (·.1)) (bld.map (·.1)) = t2 := by
  subst h1 h2; rfl
theorem fillS1 : (PySem.Challenge.rw_ci0037_01, Mine.hd.heap_39) = (PySem.Challenge.rw_ci0037_01, Mine.hd.heap_39) := by k_fill; rfl
set_option pp.deepTerms false in
set_option pp.deepTerms.threshold 5 in
set_option maxHeartbeats 8000000 in
theorem str_core {w : World} {loose : List Str} {mean : ExcName → Option Value} {mg mb : Str → Option Value} {A : Around} (hh : A.handled = none) (hroom : A.depth + 10 < recursionLimit)
    {v dx tp tb : Addr} {h1 h2 h3 h4 h5 h6 h7 h8 : Int} {k1 k2 k3 k4 k5 k6 k7 k8 m1 m2 m3 : Tok} {v1 v2 v3 : Int} {pre bld : List (Str × Tok)} {v7 v8 : Value} {n : Nat}
    (hv1 : 0 ≤ v1) (hw1 : v1 < 10 ^ 20) (hv2 : 0 ≤ v2) (hw2 : v2 < 10 ^ 20) (hv3 : 0 ≤ v3) (hw3 : v3 < 10 ^ 20) (hl1 : (PySem.Str.ofString (toString v1)).length ≤ 100000) (hl2 : (PySem.Str.ofString (toString v1) ++ PySem.Str.ofString "." ++ PySem.Str.ofString (toString v2)).length ≤ 100000)
    (hpl : pre.length ≤ 1000) (hbl : bld.length ≤ 1000) (hp : ((pre.map (·.1)).map (·.length)).sum + (pre.map (·.1)).length * 64 ≤ 16777216) (hb : ((bld.map (·.1)).map (·.length)).sum + (bld.map (·.1)).length * 64 ≤ 16777216)
    {jp jb : Str} (hjp : Txt.join (Str.ofString ".") (pre.map (·.1)) = jp) (hjb : Txt.join (Str.ofString ".") (bld.map (·.1)) = jb) (hjpl : jp.length ≤ 20000) (hjbl : jb.length ≤ 20000)
    (hl3 : (PySem.Str.ofString (toString v1) ++ PySem.Str.ofString "." ++ PySem.Str.ofString (toString v2) ++ PySem.Str.ofString "." ++ PySem.Str.ofString (toString v3)).length ≤ 10000)
    (hl4 : (Str.empty ++ (PySem.Str.ofString (toString v1) ++ PySem.Str.ofString "." ++ PySem.Str.ofString (toString v2) ++ PySem.Str.ofString "." ++ PySem.Str.ofString (toString v3)) ++ Str.ofString "-" ++ jp).length ≤ 100000)
    {h₀ : Heap} {s : Shared} {Q E : Value → Shared → Prop}
    (H : Has w loose mean mg mb h₀ [(v, instObj 388 dx), (dx, dictOf (verDict8 h1 h2 h3 h4 h5 h6 h7 h8 k1 k2 k3 k4 k5 k6 k7 k8 (.int v1 m1) (.int v2 m2) (.int v3 m3) (.ref tp) (.ref tb) (.bool false) v7 v8) n), (tp, tupObj (strVals pre)), (tb, tupObj (strVals bld))] s.heap)
    (hret : ∀ (r : Str) (t : Tok) (h' : Heap) (tk' : Nat), verText v1 v2 v3 (pre.map (·.1)) (bld.map (·.1)) = r → (∀ b o, s.heap.get? b = some o → h'.get? b = some o) → Q (.str r t) { s with heap := h', toks := tk' }) :
    codeAny (model PR w) A (.call (.ref 320) ⟨[.ref v], []⟩) (fun r s' => match r with | .ok (.ret v) => Q v s' | .ok _ => False | .error e => E e s') s := by
  k_dflt (refine' enterH H ?k6 ?k7 ?k8 ?k9 ?kB ?_ ?c2 ?c3 ?c4 ?c5; (case k6 => k_is); (case k7 => k_is); (case k8 => ktr_room); (case k9 => first | exact BindsTo.of_eq rfl | exact binds_K (by k_in) rfl (by k_is) rfl rfl rfl); (case c5 => decide); (case kB => exact locs rfl); (case c2 => exact rfl); (case c3 => exact rfl); (case c4 => exact rfl); k_whole; intro g L' h' X' T' K' F' N'; (try dsimp only); (try k_fold))
  clear H
  k_steps
  · rename_i kK
    with_reducible exact hret _ _ _ _ (ver_text (pre_no (t := abcText v1 v2 v3) (l := pre) (by with_reducible assumption)) (bld_no (l := bld) (by with_reducible assumption))) kK
  · rename_i kK
    with_reducible exact hret _ _ _ _ (ver_text (pre_no (t := abcText v1 v2 v3) (l := pre) (by with_reducible assumption)) (bld_yes (l := bld) (by with_reducible assumption) hjb)) kK
  · rename_i kK
    with_reducible exact hret _ _ _ _ (ver_text (pre_yes (t := abcText v1 v2 v3) (l := pre) (by with_reducible assumption) hjp) (bld_no (l := bld) (by with_reducible assumption))) kK
  · rename_i kK
    with_reducible exact hret _ _ _ _ (ver_text (pre_yes (t := abcText v1 v2 v3) (l := pre) (by with_reducible assumption) hjp) (bld_yes (l := bld) (by with_reducible assumption) hjb)) kK

/-- what str(version) asks of the version's parts -/
structure StrOk (v1 v2 v3 : Int) (pre bld : List Str) : Prop where
  a0 : 0 ≤ v1
  a1 : v1 < 10 ^ 20
  b0 : 0 ≤ v2
  b1 : v2 < 10 ^ 20
  c0 : 0 ≤ v3
  c1 : v3 < 10 ^ 20
  p : pre.length ≤ 10
  q : bld.length ≤ 10
  ps : (pre.map (·.length)).sum ≤ 10000
  qs : (bld.map (·.length)).sum ≤ 10000
theorem dec_len {v : Int} (h0 : 0 ≤ v) (h1 : v < 10 ^ 20) : (PySem.Str.ofString (toString v)).length ≤ 20 := toString_length_le h0 (by decide) h1
theorem join_len {l : List Str} (h : l.length ≤ 10) (hs : (l.map (·.length)).sum ≤ 10000) : (Txt.join (Str.ofString ".") l).length ≤ 10010 := by
  have h1 := StrLaws.join_length_le (Str.ofString ".") l
  have h2 : (Str.ofString ".").length = 1 := by decide
  have h3 : Txt.join (Str.ofString ".") l = Str.join (Str.ofString ".") l := StrLaws.glued_eq_join _ _
  rw [h2] at h1; rw [h3]; omega
theorem str_ver {w : World} {loose : List Str} {mean : ExcName → Option Value} {mg mb : Str → Option Value} {A : Around} (hh : A.handled = none) (hroom : A.depth + 10 < recursionLimit)
    {v : Addr} {v1 v2 v3 : Int} {pre bld : List (Str × Tok)} {objs : List (Addr × Obj)} (V : IsVer v1 v2 v3 pre bld v objs) (O : StrOk v1 v2 v3 (pre.map (·.1)) (bld.map (·.1)))
    {h₀ : Heap} {s : Shared} {Q E : Value → Shared → Prop} (H : Has w loose mean mg mb h₀ objs s.heap)
    (hret : ∀ (t : Tok) (h' : Heap) (tk' : Nat), (∀ b o, s.heap.get? b = some o → h'.get? b = some o) → Q (.str (verText v1 v2 v3 (pre.map (·.1)) (bld.map (·.1))) t) { s with heap := h', toks := tk' }) :
    codeAny (model PR w) A (.call (.ref 320) ⟨[.ref v], []⟩) (fun r s' => match r with | .ok (.ret v) => Q v s' | .ok _ => False | .error e => E e s') s := by
  obtain ⟨dx, tp, tb, ck, sk, h1, h2, h3, h4, h5, h6, h7, h8, k1, k2, k3, k4, k5, k6, k7, k8, m1, m2, m3, ko4, ko5, K4, K5, rfl⟩ := V
  obtain ⟨a0, a1, b0, b1, c0, c1, p, q, ps, qs⟩ := O
  have d1 := dec_len a0 a1
  have d2 := dec_len b0 b1
  have d3 := dec_len c0 c1
  have e1 := join_len p ps
  have e2 := join_len q qs
  have one : (Str.ofString ".").length = 1 := by decide
  have one2 : (Str.ofString "-").length = 1 := by decide
  have zero : (Str.empty).length = 0 := by decide
  rw [List.length_map] at p q
  refine str_core hh hroom a0 a1 b0 b1 c0 c1 (by omega) ?_ (by omega) (by omega) (by rw [List.length_map]; omega) (by rw [List.length_map]; omega) rfl rfl (by omega) (by omega) ?_ ?_
    (H.sub (sel := [(v, instObj 388 dx), (dx, dictOf (verDict8 h1 h2 h3 h4 h5 h6 h7 h8 k1 k2 k3 k4 k5 k6 k7 k8 (.int v1 m1) (.int v2 m2) (.int v3 m3) (.ref tp) (.ref tb) (.bool false) (.ref ck) (.ref sk)) 8), (tp, tupObj (strVals pre)), (tb, tupObj (strVals bld))]) fun q hq => ?_)
    (fun r t h' tk' e k => e ▸ hret t h' tk' k)
  · simp only [PySem.Str.length_append, one]; omega
  · simp only [PySem.Str.length_append, one]; omega
  · simp only [PySem.Str.length_append, one, one2, zero]; omega
  · simp only [List.mem_cons, List.not_mem_nil, or_false] at hq ⊢
    rcases hq with rfl | rfl | rfl | rfl <;> simp
end Mine
end
section
theorem Mine.reset_N4 : True := by w_top off; trivial
open PySem PySem.W PyProof.Rows PySem.Calls PySem.Spec
set_option Elab.async false
set_option maxRecDepth 100000
namespace Mine
local macro_rules | `(tactic| walk_at "LeaveH") => `(tactic| (k_dflt (refine' LeaveH.intro ?k1 ?k2 ?k3 ?_; (case k1 => k_asm); (case k2 => k_asm); (case k3 => (repeat' (first | exact List.forall_mem_nil _ | refine List.forall_mem_cons.mpr ⟨by k_mem, ?_⟩))); k_whole); intro kK; (try dsimp only)))
local macro_rules | `(tactic| k_all) => `(tactic| assumption)
theorem fillN4 : (PySem.Challenge.rw_ci0037_01, Mine.hd.heap_39) = (PySem.Challenge.rw_ci0037_01, Mine.hd.heap_39) := by k_fill; rfl
def strsData (l : List Str) : List PyData := l.map PyData.str
theorem eqv_strs : ∀ l : List Str, PyData.eqvAll (strsData l) (strsData l) = true
  | [] => by simp [strsData, PyData.eqvAll]
  | x :: r => by
    have := eqv_strs r
    simp only [strsData, List.map_cons, PyData.eqvAll, PyData.eqv] at this ⊢
    simp [this]
def verData (v1 v2 v3 : Int) (pre bld : List Str) : PyData := .tuple [.int v1, .int v2, .int v3, .tuple (strsData pre), .tuple (strsData bld)]
theorem eqv_ver (v1 v2 v3 : Int) (pre bld : List Str) : PyData.eqv (verData v1 v2 v3 pre bld) (verData v1 v2 v3 pre bld) = true := by
  simp [verData, PyData.eqv, PyData.eqvAll, eqv_strs]
theorem reads_strs {h : Heap} : ∀ l : List (Str × Tok), ReadsAll h (strVals l) (strsData (l.map (·.1))) []
  | [] => .nil
  | (x, t) :: r => by
    have := ReadsAll.cons (Reads.str (h := h) x t) (reads_strs r)
    simpa [strVals, strsData] using this
theorem reads_ver {h₀ h : Heap} {L t tp tb : Addr} {led : List (Addr × Obj)} {v1 v2 v3 : Int} {m1 m2 m3 : Tok} {pre bld : List (Str × Tok)} (N : News h₀ L h led) (q1 : (t, tupObj [.int v1 m1, .int v2 m2, .int v3 m3, .ref tp, .ref tb]) ∈ led) (q2 : (tp, tupObj (strVals pre)) ∈ led) (q3 : (tb, tupObj (strVals bld)) ∈ led) :
    Reads h (.ref t) (verData v1 v2 v3 (pre.map (·.1)) (bld.map (·.1))) [] := by
  have r2 := reads_tuple_at (h := h) (News.get N q2) rfl rfl (reads_strs pre)
  have r3 := reads_tuple_at (h := h) (News.get N q3) rfl rfl (reads_strs bld)
  have := ReadsAll.cons (Reads.int (h := h) v1 m1) (.cons (Reads.int v2 m2) (.cons (Reads.int v3 m3) (.cons r2 (.cons r3 .nil))))
  exact reads_tuple_at (News.get N q1) rfl rfl (by simpa using this)
theorem canLay_strs : ∀ l : List Str, (∀ x ∈ l, PyData.strOk x = true) → PyData.canLayAll0 (strsData l) = true
  | [], _ => by simp [strsData, PyData.canLayAll0]
  | x :: r, h => by
    have := canLay_strs r fun y hy => h y (List.mem_cons_of_mem _ hy)
    have h1 := h x List.mem_cons_self
    simp only [strsData, List.map_cons, PyData.canLayAll0, PyData.canLay0] at this ⊢
    simp [this, h1]
theorem depth_strs : ∀ l : List Str, PyData.depthAll (strsData l) = 0
  | [] => by simp [strsData, PyData.depthAll]
  | x :: r => by
    have := depth_strs r
    simp only [strsData, List.map_cons, PyData.depthAll, PyData.depth] at this ⊢
    simp [this]
theorem shaped_ver {v1 v2 v3 : Int} {pre bld : List Str} (hp : ∀ x ∈ pre, PyData.strOk x = true) (hb : ∀ x ∈ bld, PyData.strOk x = true) : SeqAt.shaped (verData v1 v2 v3 pre bld) = true := by
  unfold SeqAt.shaped verData
  simp [PyData.canLay0, PyData.canLayAll0, canLay_strs _ hp, canLay_strs _ hb, PyData.depth, PyData.depthAll, depth_strs]
theorem ne_tuples {w : World} {A : Around} {E : Value → Shared → Prop} {s : Shared} {Q : Value → Shared → Prop} {h₀ : Heap} {L : Addr} {led : List (Addr × Obj)} {t tp tb t' tp' tb' : Addr} {v1 v2 v3 : Int} {m1 m2 m3 m1' m2' m3' : Tok} {pre bld pre' bld' : List (Str × Tok)}
    (N : News h₀ L s.heap led) (q1 : (t, tupObj [.int v1 m1, .int v2 m2, .int v3 m3, .ref tp, .ref tb]) ∈ led) (q2 : (tp, tupObj (strVals pre)) ∈ led) (q3 : (tb, tupObj (strVals bld)) ∈ led)
    (q4 : (t', tupObj [.int v1 m1', .int v2 m2', .int v3 m3', .ref tp', .ref tb']) ∈ led) (q5 : (tp', tupObj (strVals pre')) ∈ led) (q6 : (tb', tupObj (strVals bld')) ∈ led)
    (e1 : pre.map (·.1) = pre'.map (·.1)) (e2 : bld.map (·.1) = bld'.map (·.1)) (o1 : ∀ x ∈ pre.map (·.1), PyData.strOk x = true) (o2 : ∀ x ∈ bld.map (·.1), PyData.strOk x = true) (hu : A.units + 64 < cLine)
    (h : Q (.bool false) s) : wpAny (model PR w) A (compareOp .NotEq (.ref t) (.ref t')) Q E s := by
  refine ne_dataH (reads_ver N q1 q2 q3) (reads_ver N q4 q5 q6) (shaped_ver o1 o2) (shaped_ver (e1 ▸ o1) (e2 ▸ o2)) hu ?_
  rw [← e1, ← e2, eqv_ver]
  exact h
end Mine
end
section
local macro_rules | `(tactic| walk_at "pad") => `(tactic| fail)
local macro_rules | `(tactic| walk_at "pad") => `(tactic| fail)
theorem Mine.reset_N5 : True := by w_top off; trivial
open PySem PySem.W PyProof.Rows PySem.Calls PySem.Spec
set_option Elab.async false
set_option maxRecDepth 100000
namespace Mine
local macro_rules | `(tactic| walk_at "LeaveH") => `(tactic| (k_dflt (refine' LeaveH.intro ?k1 ?k2 ?k3 ?_; (case k1 => k_asm); (case k2 => k_asm); (case k3 => (repeat' (first | exact List.forall_mem_nil _ | refine List.forall_mem_cons.mpr ⟨by k_mem, ?_⟩))); k_whole); intro kK; (try dsimp only)))
local macro_rules | `(tactic| k_all) => `(tactic| assumption)
theorem fillN5 : (PySem.Challenge.rw_ci0037_01, Mine.hd.heap_39) = (PySem.Challenge.rw_ci0037_01, Mine.hd.heap_39) := by k_fill; rfl
local macro_rules | `(tactic| walk_at "call type:tuple") => `(tactic| (k_here; (with_reducible show wpAny _ _ (call (Value.type _) [Value.ref _]) _ _ _); k_dflt (refine' tuple_ver ?hh ?hr ?F ?X ?T ?G ?N ?q1 ?q2 ?_; (case hh => first | exact rfl | assumption); (case hr => ktr_room); (case F => k_asm); (case X => k_asm); (case T => k_asm); (case N => k_asm); (case q1 => k_mem); (case q2 => k_mem); (case G => assumption)); intro s9 t9 F9 N9 l9 G9 os9 k9; (try k_lt l9); (try dsimp only)))
local macro_rules | `(tactic| walk_at "compareOp NotEq ref ref") => `(tactic| (k_here; (with_reducible show wpAny _ _ (compareOp CmpOp.NotEq (Value.ref _) (Value.ref _)) _ _ _); k_dflt (refine' ne_tuples ?N ?q1 ?q2 ?q3 ?q4 ?q5 ?q6 ?e1 ?e2 ?o1 ?o2 ?u ?_; (case N => k_asm); (case q1 => k_mem); (case q4 => k_mem); (case q2 => k_mem); (case q3 => k_mem); (case q5 => k_mem); (case q6 => k_mem); (case e1 => assumption); (case e2 => assumption); (case o1 => assumption); (case o2 => assumption); (case u => (try simp only [units_deeper]); omega)); (try dsimp only)))
set_option pp.deepTerms false in
set_option pp.deepTerms.threshold 5 in
set_option maxHeartbeats 8000000 in
theorem ne_core {w : World} {loose : List Str} {mean : ExcName → Option Value} {mg mb : Str → Option Value} {A : Around} (hh : A.handled = none) (hroom : A.depth + 60 < recursionLimit) (hu : A.units + 100 < cLine)
    {v dx tp tb : Addr} {h1 h2 h3 h4 h5 h6 h7 h8 : Int} {k1 k2 k3 k4 k5 k6 k7 k8 m1 m2 m3 : Tok} {v1 v2 v3 : Int} {pre bld : List (Str × Tok)} {v6 v7 v8 : Value} {n : Nat}
    {v' dx' tp' tb' : Addr} {h1' h2' h3' h4' h5' h6' h7' h8' : Int} {k1' k2' k3' k4' k5' k6' k7' k8' m1' m2' m3' : Tok} {pre' bld' : List (Str × Tok)} {v6' v7' v8' : Value} {n' : Nat}
    (e1 : pre.map (·.1) = pre'.map (·.1)) (e2 : bld.map (·.1) = bld'.map (·.1)) (o1 : ∀ x ∈ pre.map (·.1), PyData.strOk x = true) (o2 : ∀ x ∈ bld.map (·.1), PyData.strOk x = true)
    {h₀ : Heap} {s : Shared} {Q E : Value → Shared → Prop} (G : AllBare s.gens)
    (H : Has w loose mean mg mb h₀ [(v, instObj 388 dx), (dx, dictOf (verDict8 h1 h2 h3 h4 h5 h6 h7 h8 k1 k2 k3 k4 k5 k6 k7 k8 (.int v1 m1) (.int v2 m2) (.int v3 m3) (.ref tp) (.ref tb) v6 v7 v8) n), (tp, tupObj (strVals pre)), (tb, tupObj (strVals bld)),
      (v', instObj 388 dx'), (dx', dictOf (verDict8 h1' h2' h3' h4' h5' h6' h7' h8' k1' k2' k3' k4' k5' k6' k7' k8' (.int v1 m1') (.int v2 m2') (.int v3 m3') (.ref tp') (.ref tb') v6' v7' v8') n'), (tp', tupObj (strVals pre')), (tb', tupObj (strVals bld'))] s.heap)
    (hret : ∀ (s' : Shared), (∀ b o, s.heap.get? b = some o → s'.heap.get? b = some o) → AllBare s'.gens → s'.os = s.os → Q (.bool false) s') :
    codeAny (model PR w) A (.call (.ref 357) ⟨[.ref v, .ref v'], []⟩) (fun r s' => match r with | .ok (.ret v) => Q v s' | .ok _ => False | .error e => E e s') s := by
  k_dflt (refine' enterH H ?k6 ?k7 ?k8 ?k9 ?kB ?_ ?c2 ?c3 ?c4 ?c5; (case k6 => k_is); (case k7 => k_is); (case k8 => ktr_room); (case k9 => first | exact BindsTo.of_eq rfl | exact binds_K (by k_in) rfl (by k_is) rfl rfl rfl); (case c5 => decide); (case kB => exact locs rfl); (case c2 => exact rfl); (case c3 => exact rfl); (case c4 => exact rfl); k_whole; intro g L' h' X' T' K' F' N'; (try dsimp only); (try k_fold))
  clear H
  k_steps
  rename_i kK
  exact hret _ kK (by assumption) (by simp only [*])
theorem ne_ver {w : World} {loose : List Str} {mean : ExcName → Option Value} {mg mb : Str → Option Value} {A : Around} (hh : A.handled = none) (hroom : A.depth + 60 < recursionLimit) (hu : A.units + 100 < cLine)
    {v v' : Addr} {v1 v2 v3 : Int} {pre bld pre' bld' : List (Str × Tok)} {objs objs' : List (Addr × Obj)} (V : IsVer v1 v2 v3 pre bld v objs) (V' : IsVer v1 v2 v3 pre' bld' v' objs')
    (e1 : pre.map (·.1) = pre'.map (·.1)) (e2 : bld.map (·.1) = bld'.map (·.1)) (o1 : ∀ x ∈ pre.map (·.1), PyData.strOk x = true) (o2 : ∀ x ∈ bld.map (·.1), PyData.strOk x = true)
    {h₀ : Heap} {s : Shared} {Q E : Value → Shared → Prop} (G : AllBare s.gens) (H : Has w loose mean mg mb h₀ (objs ++ objs') s.heap)
    (hret : ∀ (s' : Shared), (∀ b o, s.heap.get? b = some o → s'.heap.get? b = some o) → AllBare s'.gens → s'.os = s.os → Q (.bool false) s') :
    codeAny (model PR w) A (.call (.ref 357) ⟨[.ref v, .ref v'], []⟩) (fun r s' => match r with | .ok (.ret v) => Q v s' | .ok _ => False | .error e => E e s') s := by
  obtain ⟨dx, tp, tb, ck, sk, h1, h2, h3, h4, h5, h6, h7, h8, k1, k2, k3, k4, k5, k6, k7, k8, m1, m2, m3, ko4, ko5, K4, K5, rfl⟩ := V
  obtain ⟨dx', tp', tb', ck', sk', h1', h2', h3', h4', h5', h6', h7', h8', k1', k2', k3', k4', k5', k6', k7', k8', m1', m2', m3', ko4', ko5', K4', K5', rfl⟩ := V'
  refine ne_core hh hroom hu e1 e2 o1 o2 G (H.sub (sel := [(v, instObj 388 dx), (dx, dictOf (verDict8 h1 h2 h3 h4 h5 h6 h7 h8 k1 k2 k3 k4 k5 k6 k7 k8 (.int v1 m1) (.int v2 m2) (.int v3 m3) (.ref tp) (.ref tb) (.bool false) (.ref ck) (.ref sk)) 8), (tp, tupObj (strVals pre)), (tb, tupObj (strVals bld)),
      (v', instObj 388 dx'), (dx', dictOf (verDict8 h1' h2' h3' h4' h5' h6' h7' h8' k1' k2' k3' k4' k5' k6' k7' k8' (.int v1 m1') (.int v2 m2') (.int v3 m3') (.ref tp') (.ref tb') (.bool false) (.ref ck') (.ref sk')) 8), (tp', tupObj (strVals pre')), (tb', tupObj (strVals bld'))]) fun q hq => ?_) hret
  simp only [List.mem_cons, List.not_mem_nil, or_false] at hq
  simp only [List.mem_append, List.mem_cons]
  rcases hq with rfl | rfl | rfl | rfl | rfl | rfl | rfl | rfl <;> simp
end Mine
end
section
local macro_rules | `(tactic| walk_at "pad") => `(tactic| fail)
theorem Mine.reset_Q0 : True := by w_top off; trivial
open PySem PySem.W PyProof.Rows PySem.Calls PySem.Spec
set_option Elab.async false
set_option maxRecDepth 100000
namespace Mine
local macro_rules | `(tactic| walk_at "LeaveH") => `(tactic| (k_dflt (refine' LeaveH.intro ?k1 ?k2 ?k3 ?_; (case k1 => k_asm); (case k2 => k_asm); (case k3 => (first | exact fun _ h => h | (repeat' (first | exact List.forall_mem_nil _ | refine List.forall_mem_cons.mpr ⟨by k_mem, ?_⟩)))); k_whole); intro kK; (try dsimp only)))
local macro_rules | `(tactic| k_all) => `(tactic| assumption)
theorem fillQ0 : (PySem.Challenge.rw_ci0037_01, Mine.hd.heap_39) = (PySem.Challenge.rw_ci0037_01, Mine.hd.heap_39) := by k_fill; rfl
/-- a method of two versions: it reads, and hands back r -/
def MethV (f : Addr) (i j : Addr) (objs : List (Addr × Obj)) (r : Value) : Prop :=
  ∀ {w : World} {loose : List Str} {mean : ExcName → Option Value} {mg mb : Str → Option Value} {A : Around} {h₀ : Heap} {s : Shared} {Q E : Value → Shared → Prop}, A.handled = none → A.depth + 220 < recursionLimit → A.units + 220 < cLine →
    Has w loose mean mg mb h₀ objs s.heap → (∀ (h' : Heap) (tk' : Nat), (∀ b o, s.heap.get? b = some o → h'.get? b = some o) → Q r { s with heap := h', toks := tk' }) →
    codeAny (model PR w) A (.call (.ref f) ⟨[.ref i, .ref j], []⟩) (fun r s' => match r with | .ok (.ret v) => Q v s' | .ok _ => False | .error e => E e s') s
local macro_rules | `(tactic| walk_at "compareOp Lt ref ref") => `(tactic| (k_here; (with_reducible show wpAny _ _ (compareOp CmpOp.Lt (Value.ref _) (Value.ref _)) _ _ _); k_dflt (refine' cmp_lt ?R ?hh ?hr ?hu ?F ?X ?T ?N (fun _ h => h) ?_; (case R => assumption); (case hh => first | exact rfl | assumption); (case hr => ktr_room); (case hu => (try simp only [units_deeper]); omega); (case F => k_asm); (case X => k_asm); (case T => k_asm); (case N => k_asm)); intro h9 tk9 F9 N9; (try dsimp only)))
local macro_rules | `(tactic| walk_at "compareOp Gt ref ref") => `(tactic| (k_here; (with_reducible show wpAny _ _ (compareOp CmpOp.Gt (Value.ref _) (Value.ref _)) _ _ _); k_dflt (refine' cmp_gt ?R ?hh ?hr ?hu ?F ?X ?T ?N (fun _ h => h) ?_; (case R => assumption); (case hh => first | exact rfl | assumption); (case hr => ktr_room); (case hu => (try simp only [units_deeper]); omega); (case F => k_asm); (case X => k_asm); (case T => k_asm); (case N => k_asm)); intro h9 tk9 F9 N9; (try dsimp only)))
set_option pp.deepTerms false in
set_option pp.deepTerms.threshold 5 in
set_option maxHeartbeats 4000000 in
theorem vlt_core {v dx tp tb ck sk : Addr} {h1 h2 h3 h4 h5 h6 h7 h8 : Int} {k1 k2 k3 k4 k5 k6 k7 k8 m1 m2 m3 : Tok} {v1 v2 v3 : Int} {pre bld : List (Str × Tok)} {v' dx' tp' tb' ck' sk' : Addr} {h1' h2' h3' h4' h5' h6' h7' h8' : Int} {k1' k2' k3' k4' k5' k6' k7' k8' m1' m2' m3' : Tok} {v1' v2' v3' : Int} {pre' bld' : List (Str × Tok)} {rest : List (Addr × Obj)} {b : Bool}
    (R : Rc .Lt (.ref ck) (.ref ck') ((v, instObj 388 dx) :: (dx, dictOf (verDict8 h1 h2 h3 h4 h5 h6 h7 h8 k1 k2 k3 k4 k5 k6 k7 k8 (.int v1 m1) (.int v2 m2) (.int v3 m3) (.ref tp) (.ref tb) (.bool false) (.ref ck) (.ref sk)) 8) :: (tp, tupObj (strVals pre)) :: (tb, tupObj (strVals bld)) :: (v', instObj 388 dx') :: (dx', dictOf (verDict8 h1' h2' h3' h4' h5' h6' h7' h8' k1' k2' k3' k4' k5' k6' k7' k8' (.int v1' m1') (.int v2' m2') (.int v3' m3') (.ref tp') (.ref tb') (.bool false) (.ref ck') (.ref sk')) 8) :: (tp', tupObj (strVals pre')) :: (tb', tupObj (strVals bld')) :: rest) 100 b) : MethV 364 v v' ((v, instObj 388 dx) :: (dx, dictOf (verDict8 h1 h2 h3 h4 h5 h6 h7 h8 k1 k2 k3 k4 k5 k6 k7 k8 (.int v1 m1) (.int v2 m2) (.int v3 m3) (.ref tp) (.ref tb) (.bool false) (.ref ck) (.ref sk)) 8) :: (tp, tupObj (strVals pre)) :: (tb, tupObj (strVals bld)) :: (v', instObj 388 dx') :: (dx', dictOf (verDict8 h1' h2' h3' h4' h5' h6' h7' h8' k1' k2' k3' k4' k5' k6' k7' k8' (.int v1' m1') (.int v2' m2') (.int v3' m3') (.ref tp') (.ref tb') (.bool false) (.ref ck') (.ref sk')) 8) :: (tp', tupObj (strVals pre')) :: (tb', tupObj (strVals bld')) :: rest) (.bool b) := by
  intro w loose mean mg mb A h₀ s Q E hh hroom hu H hret
  k_dflt (refine' enterH H ?k6 ?k7 ?k8 ?k9 ?kB ?_ ?c2 ?c3 ?c4 ?c5; (case k6 => k_is); (case k7 => k_is); (case k8 => ktr_room); (case k9 => first | exact BindsTo.of_eq rfl | exact binds_K (by k_in) rfl (by k_is) rfl rfl rfl); (case c5 => decide); (case kB => exact locs rfl); (case c2 => exact rfl); (case c3 => exact rfl); (case c4 => exact rfl); k_whole; intro g L' h' X' T' K' F' N'; (try dsimp only); (try k_fold))
  clear H
  k_steps
  rename_i kK
  exact hret _ _ kK
set_option pp.deepTerms false in
set_option pp.deepTerms.threshold 5 in
set_option maxHeartbeats 4000000 in
theorem vgt_core {v dx tp tb ck sk : Addr} {h1 h2 h3 h4 h5 h6 h7 h8 : Int} {k1 k2 k3 k4 k5 k6 k7 k8 m1 m2 m3 : Tok} {v1 v2 v3 : Int} {pre bld : List (Str × Tok)} {v' dx' tp' tb' ck' sk' : Addr} {h1' h2' h3' h4' h5' h6' h7' h8' : Int} {k1' k2' k3' k4' k5' k6' k7' k8' m1' m2' m3' : Tok} {v1' v2' v3' : Int} {pre' bld' : List (Str × Tok)} {rest : List (Addr × Obj)} {b : Bool}
    (R : Rc .Gt (.ref ck) (.ref ck') ((v, instObj 388 dx) :: (dx, dictOf (verDict8 h1 h2 h3 h4 h5 h6 h7 h8 k1 k2 k3 k4 k5 k6 k7 k8 (.int v1 m1) (.int v2 m2) (.int v3 m3) (.ref tp) (.ref tb) (.bool false) (.ref ck) (.ref sk)) 8) :: (tp, tupObj (strVals pre)) :: (tb, tupObj (strVals bld)) :: (v', instObj 388 dx') :: (dx', dictOf (verDict8 h1' h2' h3' h4' h5' h6' h7' h8' k1' k2' k3' k4' k5' k6' k7' k8' (.int v1' m1') (.int v2' m2') (.int v3' m3') (.ref tp') (.ref tb') (.bool false) (.ref ck') (.ref sk')) 8) :: (tp', tupObj (strVals pre')) :: (tb', tupObj (strVals bld')) :: rest) 160 b) : MethV 378 v v' ((v, instObj 388 dx) :: (dx, dictOf (verDict8 h1 h2 h3 h4 h5 h6 h7 h8 k1 k2 k3 k4 k5 k6 k7 k8 (.int v1 m1) (.int v2 m2) (.int v3 m3) (.ref tp) (.ref tb) (.bool false) (.ref ck) (.ref sk)) 8) :: (tp, tupObj (strVals pre)) :: (tb, tupObj (strVals bld)) :: (v', instObj 388 dx') :: (dx', dictOf (verDict8 h1' h2' h3' h4' h5' h6' h7' h8' k1' k2' k3' k4' k5' k6' k7' k8' (.int v1' m1') (.int v2' m2') (.int v3' m3') (.ref tp') (.ref tb') (.bool false) (.ref ck') (.ref sk')) 8) :: (tp', tupObj (strVals pre')) :: (tb', tupObj (strVals bld')) :: rest) (.bool b) := by
  intro w loose mean mg mb A h₀ s Q E hh hroom hu H hret
  k_dflt (refine' enterH H ?k6 ?k7 ?k8 ?k9 ?kB ?_ ?c2 ?c3 ?c4 ?c5; (case k6 => k_is); (case k7 => k_is); (case k8 => ktr_room); (case k9 => first | exact BindsTo.of_eq rfl | exact binds_K (by k_in) rfl (by k_is) rfl rfl rfl); (case c5 => decide); (case kB => exact locs rfl); (case c2 => exact rfl); (case c3 => exact rfl); (case c4 => exact rfl); k_whole; intro g L' h' X' T' K' F' N'; (try dsimp only); (try k_fold))
  clear H
  k_steps
  rename_i kK
  exact hret _ _ kK
end Mine
end
section
local macro_rules | `(tactic| walk_at "pad") => `(tactic| fail)
local macro_rules | `(tactic| walk_at "pad") => `(tactic| fail)
local macro_rules | `(tactic| walk_at "pad") => `(tactic| fail)
local macro_rules | `(tactic| walk_at "pad") => `(tactic| fail)
local macro_rules | `(tactic| walk_at "pad") => `(tactic| fail)
theorem Mine.reset_Q1 : True := by w_top off; trivial
open PySem PySem.W PyProof.Rows PySem.Calls PySem.Spec
set_option Elab.async false
set_option maxRecDepth 100000
namespace Mine
local macro_rules | `(tactic| walk_at "LeaveH") => `(tactic| (k_dflt (refine' LeaveH.intro ?k1 ?k2 ?k3 ?_; (case k1 => k_asm); (case k2 => k_asm); (case k3 => (intro q9 hq9; (repeat' (first | exact hq9 | refine List.Mem.tail _ ?_)))); k_whole); intro kK; (try dsimp only)))
local macro_rules | `(tactic| k_all) => `(tactic| assumption)
theorem fillQ1 : (PySem.Challenge.rw_ci0037_01, Mine.hd.heap_39) = (PySem.Challenge.rw_ci0037_01, Mine.hd.heap_39) := by k_fill; rfl
theorem eqv_tup (l : List Str) : PyData.eqv (.tuple (strsData l)) (.tuple (strsData l)) = true := by
  simp [PyData.eqv, eqv_strs]
theorem shaped_strs {l : List Str} (h : ∀ x ∈ l, PyData.strOk x = true) : SeqAt.shaped (.tuple (strsData l)) = true := by
  unfold SeqAt.shaped
  simp [PyData.canLay0, canLay_strs _ h, PyData.depth, depth_strs]
theorem reads_tup {h₀ h : Heap} {L t : Addr} {led : List (Addr × Obj)} {l : List (Str × Tok)} (N : News h₀ L h led) (q : (t, tupObj (strVals l)) ∈ led) : Reads h (.ref t) (.tuple (strsData (l.map (·.1)))) [] :=
  reads_tuple_at (News.get N q) rfl rfl (reads_strs l)
theorem eq_tups {w : World} {A : Around} {E : Value → Shared → Prop} {s : Shared} {Q : Value → Shared → Prop} {h₀ : Heap} {L : Addr} {led : List (Addr × Obj)} {t t' : Addr} {l l' : List (Str × Tok)}
    (N : News h₀ L s.heap led) (q1 : (t, tupObj (strVals l)) ∈ led) (q2 : (t', tupObj (strVals l')) ∈ led) (e : l.map (·.1) = l'.map (·.1)) (o : ∀ x ∈ l.map (·.1), PyData.strOk x = true) (hu : A.units + 64 < cLine)
    (h : Q (.bool true) s) : wpAny (model PR w) A (compareOp .Eq (.ref t) (.ref t')) Q E s := by
  refine eq_dataH (reads_tup N q1) (reads_tup N q2) (shaped_strs o) (shaped_strs (e ▸ o)) hu ?_
  rw [← e, eqv_tup]
  exact h
theorem nil_both {l l' : List (Str × Tok)} (e : l.map (·.1) = l'.map (·.1)) (h1 : (strVals l).isEmpty = true) (h2 : (strVals l').isEmpty = false) : False := by
  cases nil_of h1
  have := cons_of h2
  exact this (by simpa using e.symm)
theorem nil_both' {l l' : List (Str × Tok)} (e : l.map (·.1) = l'.map (·.1)) (h1 : (strVals l).isEmpty = false) (h2 : (strVals l').isEmpty = true) : False := nil_both e.symm h2 h1
local macro_rules | `(tactic| walk_at "truthy ref") => `(tactic| (k_here; (with_reducible show wpAny _ _ (truthy (Value.ref _)) _ _ _); k_dflt (refine' ktl_truthyK ?N ?m ?z ?_; (case N => k_asm); (case m => k_mem); (case z => first | (simp only [strVals, List.length_map]; assumption) | exact Nat.le_of_ble_eq_true rfl); k_whole)))
local macro_rules | `(tactic| walk_at "compareOp Eq ref ref") => `(tactic| (k_here; (with_reducible show wpAny _ _ (compareOp CmpOp.Eq (Value.ref _) (Value.ref _)) _ _ _); k_dflt (refine' eq_tups ?N ?q1 ?q2 ?e ?o ?u ?_; (case N => k_asm); (case q1 => k_mem); (case q2 => k_mem); (case e => assumption); (case o => assumption); (case u => (try simp only [units_deeper]); omega)); (try dsimp only)))
set_option pp.deepTerms false in
set_option pp.deepTerms.threshold 5 in
set_option maxHeartbeats 4000000 in
theorem veq_nil {v dx tp tb ck sk : Addr} {h1 h2 h3 h4 h5 h6 h7 h8 : Int} {k1 k2 k3 k4 k5 k6 k7 k8 m1 m2 m3 : Tok} {v1 v2 v3 : Int} {pre bld : List (Str × Tok)} {v' dx' tp' tb' ck' sk' : Addr} {h1' h2' h3' h4' h5' h6' h7' h8' : Int} {k1' k2' k3' k4' k5' k6' k7' k8' m1' m2' m3' : Tok} {pre' bld' : List (Str × Tok)} {rest : List (Addr × Obj)}
    (e1 : pre.map (·.1) = pre'.map (·.1)) (o1 : ∀ x ∈ pre.map (·.1), PyData.strOk x = true) (c1 : (strVals pre).isEmpty = true) (c2 : (strVals pre').isEmpty = true) (c3 : (strVals bld).isEmpty = true) (c4 : (strVals bld').isEmpty = true) (l1 : pre.length ≤ 1000) (l2 : bld.length ≤ 1000) (l3 : pre'.length ≤ 1000) (l4 : bld'.length ≤ 1000) :
    MethV 350 v v' ((v, instObj 388 dx) :: (dx, dictOf (verDict8 h1 h2 h3 h4 h5 h6 h7 h8 k1 k2 k3 k4 k5 k6 k7 k8 (.int v1 m1) (.int v2 m2) (.int v3 m3) (.ref tp) (.ref tb) (.bool false) (.ref ck) (.ref sk)) 8) :: (tp, tupObj (strVals pre)) :: (tb, tupObj (strVals bld)) :: (v', instObj 388 dx') :: (dx', dictOf (verDict8 h1' h2' h3' h4' h5' h6' h7' h8' k1' k2' k3' k4' k5' k6' k7' k8' (.int v1 m1') (.int v2 m2') (.int v3 m3') (.ref tp') (.ref tb') (.bool false) (.ref ck') (.ref sk')) 8) :: (tp', tupObj (strVals pre')) :: (tb', tupObj (strVals bld')) :: rest) (.bool true) := by
  intro w loose mean mg mb A h₀ s Q E hh hroom hu H hret
  k_dflt (refine' enterH H ?k6 ?k7 ?k8 ?k9 ?kB ?_ ?c2 ?c3 ?c4 ?c5; (case k6 => k_is); (case k7 => k_is); (case k8 => ktr_room); (case k9 => first | exact BindsTo.of_eq rfl | exact binds_K (by k_in) rfl (by k_is) rfl rfl rfl); (case c5 => decide); (case kB => exact locs rfl); (case c2 => exact rfl); (case c3 => exact rfl); (case c4 => exact rfl); k_whole; intro g L' h' X' T' K' F' N'; (try dsimp only); (try k_fold))
  clear H o1
  k_steps
  · rename_i kK; exact hret _ _ kK
  all_goals (rename_i hne _; exact absurd rfl hne)
set_option pp.deepTerms false in
set_option pp.deepTerms.threshold 5 in
set_option maxHeartbeats 4000000 in
theorem veq_cons {v dx tp tb ck sk : Addr} {h1 h2 h3 h4 h5 h6 h7 h8 : Int} {k1 k2 k3 k4 k5 k6 k7 k8 m1 m2 m3 : Tok} {v1 v2 v3 : Int} {pre bld : List (Str × Tok)} {v' dx' tp' tb' ck' sk' : Addr} {h1' h2' h3' h4' h5' h6' h7' h8' : Int} {k1' k2' k3' k4' k5' k6' k7' k8' m1' m2' m3' : Tok} {pre' bld' : List (Str × Tok)} {rest : List (Addr × Obj)}
    (e1 : pre.map (·.1) = pre'.map (·.1)) (o1 : ∀ x ∈ pre.map (·.1), PyData.strOk x = true) (c1 : (strVals pre).isEmpty = false) (c2 : (strVals pre').isEmpty = false) (c3 : (strVals bld).isEmpty = true) (c4 : (strVals bld').isEmpty = true) (l1 : pre.length ≤ 1000) (l2 : bld.length ≤ 1000) (l3 : pre'.length ≤ 1000) (l4 : bld'.length ≤ 1000) :
    MethV 350 v v' ((v, instObj 388 dx) :: (dx, dictOf (verDict8 h1 h2 h3 h4 h5 h6 h7 h8 k1 k2 k3 k4 k5 k6 k7 k8 (.int v1 m1) (.int v2 m2) (.int v3 m3) (.ref tp) (.ref tb) (.bool false) (.ref ck) (.ref sk)) 8) :: (tp, tupObj (strVals pre)) :: (tb, tupObj (strVals bld)) :: (v', instObj 388 dx') :: (dx', dictOf (verDict8 h1' h2' h3' h4' h5' h6' h7' h8' k1' k2' k3' k4' k5' k6' k7' k8' (.int v1 m1') (.int v2 m2') (.int v3 m3') (.ref tp') (.ref tb') (.bool false) (.ref ck') (.ref sk')) 8) :: (tp', tupObj (strVals pre')) :: (tb', tupObj (strVals bld')) :: rest) (.bool true) := by
  intro w loose mean mg mb A h₀ s Q E hh hroom hu H hret
  k_dflt (refine' enterH H ?k6 ?k7 ?k8 ?k9 ?kB ?_ ?c2 ?c3 ?c4 ?c5; (case k6 => k_is); (case k7 => k_is); (case k8 => ktr_room); (case k9 => first | exact BindsTo.of_eq rfl | exact binds_K (by k_in) rfl (by k_is) rfl rfl rfl); (case c5 => decide); (case kB => exact locs rfl); (case c2 => exact rfl); (case c3 => exact rfl); (case c4 => exact rfl); k_whole; intro g L' h' X' T' K' F' N'; (try dsimp only); (try k_fold))
  clear H
  k_steps
  · rename_i kK; exact hret _ _ kK
  all_goals (rename_i hne _; exact absurd rfl hne)
end Mine
end
section
theorem Mine.reset_R0 : True := by w_top off; trivial
open PySem PySem.W PyProof.Rows PySem.Calls PySem.Spec
set_option Elab.async false
set_option maxRecDepth 100000
namespace Mine
theorem fillR0 : (PySem.Challenge.rw_ci0037_01, Mine.hd.heap_39) = (PySem.Challenge.rw_ci0037_01, Mine.hd.heap_39) := by k_fill; rfl
theorem rc_methV {op : CmpOp} {C C' d e f i j : Addr} {objs : List (Addr × Obj)} {od oe : Obj} {b : Bool} (M : MethV f i j objs (.bool b)) (m1 : (i, instObj C d) ∈ objs) (m2 : (d, od) ∈ objs) (m3 : (j, instObj C' e) ∈ objs) (m4 : (e, oe) ∈ objs)
    (hs : ∀ P, findIn (Mine.hd.heap_39 P) (.ref C) (cmpInfo op).2.1 = some (some (.ref f))) (hf : ∀ P, isFn (Mine.hd.heap_39 P) (.ref f) = true) (hn : ∀ P, notFirst (Mine.hd.heap_39 P) C (.ref C') = true) : Rc op (.ref i) (.ref j) objs 230 b :=
  fun {w loose mean mg mb A h₀ s Q E} hh hr hu H hq =>
    rc_left (by omega) (H.X.keeps H.keep) (inst_of H m1 m2) (inst_of H m3 m4).type (hn _) (hs _) (hf _) (wpAny_call (M hh (by omega) (by omega) H fun h' tk' k => hq h' tk' k))
theorem perm_sub {α : Type} {a1 a2 a3 a4 b1 b2 b3 b4 k k' : α} {ko ko5 ko' ko5' : List α} : ∀ q ∈ a1 :: a2 :: a3 :: a4 :: b1 :: b2 :: b3 :: b4 :: k :: k' :: (ko ++ ko'), q ∈ (a1 :: a2 :: a3 :: a4 :: (k :: ko ++ ko5)) ++ (b1 :: b2 :: b3 :: b4 :: (k' :: ko' ++ ko5')) := by
  intro q hq
  simp only [List.mem_cons, List.mem_append] at hq ⊢
  rcases hq with hq | hq | hq | hq | hq | hq | hq | hq | hq | hq | hq | hq <;> simp only [hq, true_or, or_true]
theorem perm_sub2 {α : Type} {a1 a2 a3 a4 b1 b2 b3 b4 : α} {ko ko' : List α} : ∀ q ∈ a1 :: a2 :: a3 :: a4 :: b1 :: b2 :: b3 :: b4 :: [], q ∈ (a1 :: a2 :: a3 :: a4 :: ko) ++ (b1 :: b2 :: b3 :: b4 :: ko') := by
  intro q hq
  simp only [List.mem_cons, List.mem_append, List.not_mem_nil, or_false] at hq ⊢
  rcases hq with hq | hq | hq | hq | hq | hq | hq | hq <;> simp only [hq, true_or, or_true]
def verKey (a b c : Int) (pre : List (Str × Tok)) : K4 := ⟨a, b, c, preIds (pre.map (·.1))⟩
theorem ver_lt {a b c a' b' c' : Int} {v v' : Addr} {pre bld pre' bld' : List (Str × Tok)} {objs objs' : List (Addr × Obj)} (V : IsVer a b c pre bld v objs) (V' : IsVer a' b' c' pre' bld' v' objs') : Rc .Lt (.ref v) (.ref v') (objs ++ objs') 230 ((verKey a b c pre).lt (verKey a' b' c' pre')) := by
  obtain ⟨dx, tp, tb, ck, sk, h1, h2, h3, h4, h5, h6, h7, h8, k1, k2, k3, k4, k5, k6, k7, k8, m1, m2, m3, ko4, ko5, K4, K5, rfl⟩ := V
  obtain ⟨dx', tp', tb', ck', sk', h1', h2', h3', h4', h5', h6', h7', h8', k1', k2', k3', k4', k5', k6', k7', k8', m1', m2', m3', ko4', ko5', K4', K5', rfl⟩ := V'
  obtain ⟨n1, n2, n3, pk, ko, P, rfl⟩ := K4
  obtain ⟨n1', n2', n3', pk', ko', P', rfl⟩ := K4'
  obtain ⟨vs, mp, rp⟩ := pre_row P
  obtain ⟨vs', mp', rp'⟩ := pre_row P'
  have R : Rc .Lt (.ref ck) (.ref ck') ((ck, tupObj [.int a n1, .int b n2, .int c n3, .ref pk]) :: (ck', tupObj [.int a' n1', .int b' n2', .int c' n3', .ref pk']) :: (ko ++ ko')) 100 ((verKey a b c pre).lt (verKey a' b' c' pre')) :=
    tup_lt (u := 90) (.head _) (.tail _ (.head _)) (k4_lt (x := verKey a b c pre) (y := verKey a' b' c' pre') (.tail _ (.tail _ (List.mem_append_left _ mp))) (.tail _ (.tail _ (List.mem_append_right _ mp'))) (rp.mono fun q hq => .tail _ (.tail _ (List.mem_append_left _ hq))) (rp'.mono fun q hq => .tail _ (.tail _ (List.mem_append_right _ hq))))
  have M : MethV 364 v v' ((v, instObj 388 dx) :: (dx, dictOf (verDict8 h1 h2 h3 h4 h5 h6 h7 h8 k1 k2 k3 k4 k5 k6 k7 k8 (.int a m1) (.int b m2) (.int c m3) (.ref tp) (.ref tb) (.bool false) (.ref ck) (.ref sk)) 8) :: (tp, tupObj (strVals pre)) :: (tb, tupObj (strVals bld)) :: (v', instObj 388 dx') :: (dx', dictOf (verDict8 h1' h2' h3' h4' h5' h6' h7' h8' k1' k2' k3' k4' k5' k6' k7' k8' (.int a' m1') (.int b' m2') (.int c' m3') (.ref tp') (.ref tb') (.bool false) (.ref ck') (.ref sk')) 8) :: (tp', tupObj (strVals pre')) :: (tb', tupObj (strVals bld')) :: (ck, tupObj [.int a n1, .int b n2, .int c n3, .ref pk]) :: (ck', tupObj [.int a' n1', .int b' n2', .int c' n3', .ref pk']) :: (ko ++ ko')) (.bool ((verKey a b c pre).lt (verKey a' b' c' pre'))) := vlt_core (rest := (ck, tupObj [.int a n1, .int b n2, .int c n3, .ref pk]) :: (ck', tupObj [.int a' n1', .int b' n2', .int c' n3', .ref pk']) :: (ko ++ ko')) (b := ((verKey a b c pre).lt (verKey a' b' c' pre'))) (Rc.mono R (fun q hq => .tail _ (.tail _ (.tail _ (.tail _ (.tail _ (.tail _ (.tail _ (.tail _ hq)))))))) (Nat.le_refl _))
  have RR : Rc .Lt (.ref v) (.ref v') ((v, instObj 388 dx) :: (dx, dictOf (verDict8 h1 h2 h3 h4 h5 h6 h7 h8 k1 k2 k3 k4 k5 k6 k7 k8 (.int a m1) (.int b m2) (.int c m3) (.ref tp) (.ref tb) (.bool false) (.ref ck) (.ref sk)) 8) :: (tp, tupObj (strVals pre)) :: (tb, tupObj (strVals bld)) :: (v', instObj 388 dx') :: (dx', dictOf (verDict8 h1' h2' h3' h4' h5' h6' h7' h8' k1' k2' k3' k4' k5' k6' k7' k8' (.int a' m1') (.int b' m2') (.int c' m3') (.ref tp') (.ref tb') (.bool false) (.ref ck') (.ref sk')) 8) :: (tp', tupObj (strVals pre')) :: (tb', tupObj (strVals bld')) :: (ck, tupObj [.int a n1, .int b n2, .int c n3, .ref pk]) :: (ck', tupObj [.int a' n1', .int b' n2', .int c' n3', .ref pk']) :: (ko ++ ko')) 230 ((verKey a b c pre).lt (verKey a' b' c' pre')) := rc_methV (op := .Lt) (C := 388) (C' := 388) M (.head _) (.tail _ (.head _)) (.tail _ (.tail _ (.tail _ (.tail _ (.head _))))) (.tail _ (.tail _ (.tail _ (.tail _ (.tail _ (.head _)))))) (fun P => by k_is) (fun P => by k_is) (fun P => by k_is)
  exact fun {w loose mean mg mb A h₀ s Q E} h1 h2 h3 H hq => RR h1 h2 h3 (H.sub perm_sub) hq
theorem ver_gt {a b c a' b' c' : Int} {v v' : Addr} {pre bld pre' bld' : List (Str × Tok)} {objs objs' : List (Addr × Obj)} (V : IsVer a b c pre bld v objs) (V' : IsVer a' b' c' pre' bld' v' objs') (hl : (verKey a b c pre).lt (verKey a' b' c' pre') = false) : Rc .Gt (.ref v) (.ref v') (objs ++ objs') 230 (!(verKey a b c pre).eq (verKey a' b' c' pre')) := by
  obtain ⟨dx, tp, tb, ck, sk, h1, h2, h3, h4, h5, h6, h7, h8, k1, k2, k3, k4, k5, k6, k7, k8, m1, m2, m3, ko4, ko5, K4, K5, rfl⟩ := V
  obtain ⟨dx', tp', tb', ck', sk', h1', h2', h3', h4', h5', h6', h7', h8', k1', k2', k3', k4', k5', k6', k7', k8', m1', m2', m3', ko4', ko5', K4', K5', rfl⟩ := V'
  obtain ⟨n1, n2, n3, pk, ko, P, rfl⟩ := K4
  obtain ⟨n1', n2', n3', pk', ko', P', rfl⟩ := K4'
  obtain ⟨vs, mp, rp⟩ := pre_row P
  obtain ⟨vs', mp', rp'⟩ := pre_row P'
  have R : Rc .Gt (.ref ck) (.ref ck') ((ck, tupObj [.int a n1, .int b n2, .int c n3, .ref pk]) :: (ck', tupObj [.int a' n1', .int b' n2', .int c' n3', .ref pk']) :: (ko ++ ko')) 160 (!(verKey a b c pre).eq (verKey a' b' c' pre')) :=
    tup_gt (u := 150) (.head _) (.tail _ (.head _)) (k4_gt (x := verKey a b c pre) (y := verKey a' b' c' pre') (.tail _ (.tail _ (List.mem_append_left _ mp))) (.tail _ (.tail _ (List.mem_append_right _ mp'))) (rp.mono fun q hq => .tail _ (.tail _ (List.mem_append_left _ hq))) (rp'.mono fun q hq => .tail _ (.tail _ (List.mem_append_right _ hq))) hl)
  have M : MethV 378 v v' ((v, instObj 388 dx) :: (dx, dictOf (verDict8 h1 h2 h3 h4 h5 h6 h7 h8 k1 k2 k3 k4 k5 k6 k7 k8 (.int a m1) (.int b m2) (.int c m3) (.ref tp) (.ref tb) (.bool false) (.ref ck) (.ref sk)) 8) :: (tp, tupObj (strVals pre)) :: (tb, tupObj (strVals bld)) :: (v', instObj 388 dx') :: (dx', dictOf (verDict8 h1' h2' h3' h4' h5' h6' h7' h8' k1' k2' k3' k4' k5' k6' k7' k8' (.int a' m1') (.int b' m2') (.int c' m3') (.ref tp') (.ref tb') (.bool false) (.ref ck') (.ref sk')) 8) :: (tp', tupObj (strVals pre')) :: (tb', tupObj (strVals bld')) :: (ck, tupObj [.int a n1, .int b n2, .int c n3, .ref pk]) :: (ck', tupObj [.int a' n1', .int b' n2', .int c' n3', .ref pk']) :: (ko ++ ko')) (.bool (!(verKey a b c pre).eq (verKey a' b' c' pre'))) := vgt_core (rest := (ck, tupObj [.int a n1, .int b n2, .int c n3, .ref pk]) :: (ck', tupObj [.int a' n1', .int b' n2', .int c' n3', .ref pk']) :: (ko ++ ko')) (b := (!(verKey a b c pre).eq (verKey a' b' c' pre'))) (Rc.mono R (fun q hq => .tail _ (.tail _ (.tail _ (.tail _ (.tail _ (.tail _ (.tail _ (.tail _ hq)))))))) (Nat.le_refl _))
  have RR : Rc .Gt (.ref v) (.ref v') ((v, instObj 388 dx) :: (dx, dictOf (verDict8 h1 h2 h3 h4 h5 h6 h7 h8 k1 k2 k3 k4 k5 k6 k7 k8 (.int a m1) (.int b m2) (.int c m3) (.ref tp) (.ref tb) (.bool false) (.ref ck) (.ref sk)) 8) :: (tp, tupObj (strVals pre)) :: (tb, tupObj (strVals bld)) :: (v', instObj 388 dx') :: (dx', dictOf (verDict8 h1' h2' h3' h4' h5' h6' h7' h8' k1' k2' k3' k4' k5' k6' k7' k8' (.int a' m1') (.int b' m2') (.int c' m3') (.ref tp') (.ref tb') (.bool false) (.ref ck') (.ref sk')) 8) :: (tp', tupObj (strVals pre')) :: (tb', tupObj (strVals bld')) :: (ck, tupObj [.int a n1, .int b n2, .int c n3, .ref pk]) :: (ck', tupObj [.int a' n1', .int b' n2', .int c' n3', .ref pk']) :: (ko ++ ko')) 230 (!(verKey a b c pre).eq (verKey a' b' c' pre')) := rc_methV (op := .Gt) (C := 388) (C' := 388) M (.head _) (.tail _ (.head _)) (.tail _ (.tail _ (.tail _ (.tail _ (.head _))))) (.tail _ (.tail _ (.tail _ (.tail _ (.tail _ (.head _)))))) (fun P => by k_is) (fun P => by k_is) (fun P => by k_is)
  exact fun {w loose mean mg mb A h₀ s Q E} h1 h2 h3 H hq => RR h1 h2 h3 (H.sub perm_sub) hq
theorem lexEq_eq : ∀ {xs ys : List Idn}, lexEq xs ys = true → xs = ys := by
  intro xs
  induction xs with
  | nil => intro ys h; cases ys with
    | nil => rfl
    | cons => cases h
  | cons x xs ih => intro ys h; cases ys with
    | nil => cases h
    | cons y ys =>
      simp only [lexEq, Bool.and_eq_true] at h
      rw [ih h.2]
      have e := h.1
      cases x <;> cases y <;> simp_all [idEq]
theorem ver_eq {a b c : Int} {v v' : Addr} {pre bld pre' bld' : List (Str × Tok)} {objs objs' : List (Addr × Obj)} (V : IsVer a b c pre bld v objs) (V' : IsVer a b c pre' bld' v' objs') (e1 : pre.map (·.1) = pre'.map (·.1)) (o1 : ∀ x ∈ pre.map (·.1), PyData.strOk x = true) (n1 : bld = []) (n2 : bld' = []) (l1 : pre.length ≤ 1000) : Rc .Eq (.ref v) (.ref v') (objs ++ objs') 230 true := by
  have l3 : pre'.length ≤ 1000 := by
    have := congrArg List.length e1
    simp only [List.length_map] at this
    omega
  subst n1
  subst n2
  obtain ⟨dx, tp, tb, ck, sk, h1, h2, h3, h4, h5, h6, h7, h8, k1, k2, k3, k4, k5, k6, k7, k8, m1, m2, m3, ko4, ko5, K4, K5, rfl⟩ := V
  obtain ⟨dx', tp', tb', ck', sk', h1', h2', h3', h4', h5', h6', h7', h8', k1', k2', k3', k4', k5', k6', k7', k8', m1', m2', m3', ko4', ko5', K4', K5', rfl⟩ := V'
  have M : MethV 350 v v' ((v, instObj 388 dx) :: (dx, dictOf (verDict8 h1 h2 h3 h4 h5 h6 h7 h8 k1 k2 k3 k4 k5 k6 k7 k8 (.int a m1) (.int b m2) (.int c m3) (.ref tp) (.ref tb) (.bool false) (.ref ck) (.ref sk)) 8) :: (tp, tupObj (strVals pre)) :: (tb, tupObj (strVals [])) :: (v', instObj 388 dx') :: (dx', dictOf (verDict8 h1' h2' h3' h4' h5' h6' h7' h8' k1' k2' k3' k4' k5' k6' k7' k8' (.int a m1') (.int b m2') (.int c m3') (.ref tp') (.ref tb') (.bool false) (.ref ck') (.ref sk')) 8) :: (tp', tupObj (strVals pre')) :: (tb', tupObj (strVals [])) :: []) (.bool true) := by
    cases pre with
    | nil =>
      cases pre' with
      | nil => exact veq_nil rfl (by intro x hx; simp at hx) rfl rfl rfl rfl (by simp) (by simp) (by simp) (by simp)
      | cons => simp at e1
    | cons p ps =>
      cases pre' with
      | nil => simp at e1
      | cons p' ps' => exact veq_cons e1 o1 rfl rfl rfl rfl l1 (by simp) l3 (by simp)
  have RR : Rc .Eq (.ref v) (.ref v') ((v, instObj 388 dx) :: (dx, dictOf (verDict8 h1 h2 h3 h4 h5 h6 h7 h8 k1 k2 k3 k4 k5 k6 k7 k8 (.int a m1) (.int b m2) (.int c m3) (.ref tp) (.ref tb) (.bool false) (.ref ck) (.ref sk)) 8) :: (tp, tupObj (strVals pre)) :: (tb, tupObj (strVals [])) :: (v', instObj 388 dx') :: (dx', dictOf (verDict8 h1' h2' h3' h4' h5' h6' h7' h8' k1' k2' k3' k4' k5' k6' k7' k8' (.int a m1') (.int b m2') (.int c m3') (.ref tp') (.ref tb') (.bool false) (.ref ck') (.ref sk')) 8) :: (tp', tupObj (strVals pre')) :: (tb', tupObj (strVals [])) :: []) 230 true := rc_methV (op := .Eq) (C := 388) (C' := 388) M (.head _) (.tail _ (.head _)) (.tail _ (.tail _ (.tail _ (.tail _ (.head _))))) (.tail _ (.tail _ (.tail _ (.tail _ (.tail _ (.head _)))))) (fun P => by k_is) (fun P => by k_is) (fun P => by k_is)
  exact fun {w loose mean mg mb A h₀ s Q E} h1 h2 h3 H hq => RR h1 h2 h3 (H.sub perm_sub2) hq
end Mine
end
section
local macro_rules | `(tactic| walk_at "pad") => `(tactic| fail)
local macro_rules | `(tactic| walk_at "pad") => `(tactic| fail)
local macro_rules | `(tactic| walk_at "pad") => `(tactic| fail)
local macro_rules | `(tactic| walk_at "pad") => `(tactic| fail)
local macro_rules | `(tactic| walk_at "pad") => `(tactic| fail)
local macro_rules | `(tactic| walk_at "pad") => `(tactic| fail)
theorem Mine.reset_R1 : True := by w_top off; trivial
open PySem PySem.W PyProof.Rows PySem.Calls PySem.Spec
set_option Elab.async false
set_option maxRecDepth 100000
namespace Mine
local macro_rules | `(tactic| walk_at "LeaveH") => `(tactic| (k_dflt (refine' LeaveH.intro ?k1 ?k2 ?k3 ?_; (case k1 => k_asm); (case k2 => k_asm); (case k3 => (intro q9 hq9; (repeat' (first | exact hq9 | refine List.Mem.tail _ ?_)))); k_whole); intro kK; (try dsimp only)))
local macro_rules | `(tactic| k_all) => `(tactic| assumption)
theorem fillR1 : (PySem.Challenge.rw_ci0037_01, Mine.hd.heap_39) = (PySem.Challenge.rw_ci0037_01, Mine.hd.heap_39) := by k_fill; rfl
theorem cmp_eq {w : World} {loose : List Str} {mean : ExcName → Option Value} {mg mb : Str → Option Value} {A : Around} {h₀ : Heap} {s : Shared} {Q E : Value → Shared → Prop} {L : Addr} {m : Str → Option Value} {objs led : List (Addr × Obj)} {x y : Value} {u : Nat} {b : Bool} (R : Rc .Eq x y objs u b) (hh : A.handled = none) (hr : A.depth + u < recursionLimit) (hu : A.units + u < cLine) (F : Fr h₀ L s.heap m) (X : (Mine.hd.heap_39 w.params).In h₀) (T : Top topProg loose mean mg mb h₀) (N : News h₀ L s.heap led) (hs : ∀ q ∈ objs, q ∈ led)
    (h : ∀ h' tk', Fr h₀ L h' m → News h₀ L h' led → Q (.bool b) { s with heap := h', toks := tk' }) : wpAny (model PR w) A (compareOp .Eq x y) Q E s :=
  show wpAny (model PR w) A (richCompare .Eq x y) Q E s from R hh hr hu (Has.of F X T N hs) fun h' tk' k => h h' tk' (F.keeps k) (N.grown k)
/-- _cmp of two versions: it reads, and hands back r -/
def CmpV (i j : Addr) (objs : List (Addr × Obj)) (r : Int) : Prop :=
  ∀ {w : World} {loose : List Str} {mean : ExcName → Option Value} {mg mb : Str → Option Value} {A : Around} {h₀ : Heap} {s : Shared} {Q E : Value → Shared → Prop}, A.handled = none → A.depth + 250 < recursionLimit → A.units + 250 < cLine →
    Has w loose mean mg mb h₀ objs s.heap → (∀ (h' : Heap) (tk' : Nat) (t : Tok), (∀ b o, s.heap.get? b = some o → h'.get? b = some o) → Q (.int r t) { s with heap := h', toks := tk' }) →
    codeAny (model PR w) A (.call (.ref 343) ⟨[.ref i, .ref j], []⟩) (fun r s' => match r with | .ok (.ret v) => Q v s' | .ok _ => False | .error e => E e s') s
local macro_rules | `(tactic| walk_at "compareOp Lt ref ref") => `(tactic| (k_here; (with_reducible show wpAny _ _ (compareOp CmpOp.Lt (Value.ref _) (Value.ref _)) _ _ _); k_dflt (refine' cmp_lt ?R ?hh ?hr ?hu ?F ?X ?T ?N (fun _ h => h) ?_; (case R => with_reducible assumption); (case hh => first | exact rfl | assumption); (case hr => ktr_room); (case hu => (try simp only [units_deeper]); omega); (case F => k_asm); (case X => k_asm); (case T => k_asm); (case N => k_asm)); intro h9 tk9 F9 N9; (try dsimp only)))
local macro_rules | `(tactic| walk_at "compareOp Gt ref ref") => `(tactic| (k_here; (with_reducible show wpAny _ _ (compareOp CmpOp.Gt (Value.ref _) (Value.ref _)) _ _ _); k_dflt (refine' cmp_gt ?R ?hh ?hr ?hu ?F ?X ?T ?N (fun _ h => h) ?_; (case R => with_reducible assumption); (case hh => first | exact rfl | assumption); (case hr => ktr_room); (case hu => (try simp only [units_deeper]); omega); (case F => k_asm); (case X => k_asm); (case T => k_asm); (case N => k_asm)); intro h9 tk9 F9 N9; (try dsimp only)))
local macro_rules | `(tactic| walk_at "compareOp Eq ref ref") => `(tactic| (k_here; (with_reducible show wpAny _ _ (compareOp CmpOp.Eq (Value.ref _) (Value.ref _)) _ _ _); k_dflt (refine' cmp_eq ?R ?hh ?hr ?hu ?F ?X ?T ?N (fun _ h => h) ?_; (case R => with_reducible assumption); (case hh => first | exact rfl | assumption); (case hr => ktr_room); (case hu => (try simp only [units_deeper]); omega); (case F => k_asm); (case X => k_asm); (case T => k_asm); (case N => k_asm)); intro h9 tk9 F9 N9; (try dsimp only)))
set_option pp.deepTerms false in
set_option pp.deepTerms.threshold 5 in
set_option maxHeartbeats 4000000 in
theorem vcmp_lt {i d j e : Addr} {od oe : Obj} {rest : List (Addr × Obj)} (RL : Rc .Lt (.ref i) (.ref j) ((i, instObj 388 d) :: (d, od) :: (j, instObj 388 e) :: (e, oe) :: rest) 230 true) : CmpV i j ((i, instObj 388 d) :: (d, od) :: (j, instObj 388 e) :: (e, oe) :: rest) (-1) := by
  intro w loose mean mg mb A h₀ s Q E hh hroom hu H hret
  k_dflt (refine' enterH H ?k6 ?k7 ?k8 ?k9 ?kB ?_ ?c2 ?c3 ?c4 ?c5; (case k6 => k_is); (case k7 => k_is); (case k8 => ktr_room); (case k9 => first | exact BindsTo.of_eq rfl | exact binds_K (by k_in) rfl (by k_is) rfl rfl rfl); (case c5 => decide); (case kB => exact locs rfl); (case c2 => exact rfl); (case c3 => exact rfl); (case c4 => exact rfl); k_whole; intro g L' h' X' T' K' F' N'; (try dsimp only); (try k_fold))
  clear H
  k_steps
  rename_i kK
  exact hret _ _ _ kK
set_option pp.deepTerms false in
set_option pp.deepTerms.threshold 5 in
set_option maxHeartbeats 4000000 in
theorem vcmp_gt {i d j e : Addr} {od oe : Obj} {rest : List (Addr × Obj)} (RL : Rc .Lt (.ref i) (.ref j) ((i, instObj 388 d) :: (d, od) :: (j, instObj 388 e) :: (e, oe) :: rest) 230 false) (RG : Rc .Gt (.ref i) (.ref j) ((i, instObj 388 d) :: (d, od) :: (j, instObj 388 e) :: (e, oe) :: rest) 230 true) : CmpV i j ((i, instObj 388 d) :: (d, od) :: (j, instObj 388 e) :: (e, oe) :: rest) 1 := by
  intro w loose mean mg mb A h₀ s Q E hh hroom hu H hret
  k_dflt (refine' enterH H ?k6 ?k7 ?k8 ?k9 ?kB ?_ ?c2 ?c3 ?c4 ?c5; (case k6 => k_is); (case k7 => k_is); (case k8 => ktr_room); (case k9 => first | exact BindsTo.of_eq rfl | exact binds_K (by k_in) rfl (by k_is) rfl rfl rfl); (case c5 => decide); (case kB => exact locs rfl); (case c2 => exact rfl); (case c3 => exact rfl); (case c4 => exact rfl); k_whole; intro g L' h' X' T' K' F' N'; (try dsimp only); (try k_fold))
  clear H
  k_steps
  rename_i kK
  exact hret _ _ _ kK
set_option pp.deepTerms false in
set_option pp.deepTerms.threshold 5 in
set_option maxHeartbeats 4000000 in
theorem vcmp_eq {i d j e : Addr} {od oe : Obj} {rest : List (Addr × Obj)} (RL : Rc .Lt (.ref i) (.ref j) ((i, instObj 388 d) :: (d, od) :: (j, instObj 388 e) :: (e, oe) :: rest) 230 false) (RG : Rc .Gt (.ref i) (.ref j) ((i, instObj 388 d) :: (d, od) :: (j, instObj 388 e) :: (e, oe) :: rest) 230 false) (RE : Rc .Eq (.ref i) (.ref j) ((i, instObj 388 d) :: (d, od) :: (j, instObj 388 e) :: (e, oe) :: rest) 230 true) : CmpV i j ((i, instObj 388 d) :: (d, od) :: (j, instObj 388 e) :: (e, oe) :: rest) 0 := by
  intro w loose mean mg mb A h₀ s Q E hh hroom hu H hret
  k_dflt (refine' enterH H ?k6 ?k7 ?k8 ?k9 ?kB ?_ ?c2 ?c3 ?c4 ?c5; (case k6 => k_is); (case k7 => k_is); (case k8 => ktr_room); (case k9 => first | exact BindsTo.of_eq rfl | exact binds_K (by k_in) rfl (by k_is) rfl rfl rfl); (case c5 => decide); (case kB => exact locs rfl); (case c2 => exact rfl); (case c3 => exact rfl); (case c4 => exact rfl); k_whole; intro g L' h' X' T' K' F' N'; (try dsimp only); (try k_fold))
  clear H
  k_steps
  rename_i kK
  exact hret _ _ _ kK
end Mine
end
section
theorem Mine.reset_R2 : True := by w_top off; trivial
open PySem PySem.W PyProof.Rows PySem.Calls PySem.Spec
set_option Elab.async false
set_option maxRecDepth 100000
namespace Mine
local macro_rules | `(tactic| walk_at "ENTER") => `(tactic| k_dflt (refine' enterP ?k1 ?k2 ?k3 ?k4 ?k5 ?kA ?kF ?kK ?k6 ?k7 ?k8 ?k9 ?kB ?_ ?c2 ?c3 ?c4 ?c5; (case kA => exact rfl); (case kF => exact rfl); (case kK => first | exact rfl | assumption); (case k1 => k_asm); (case k2 => k_asm); (case k3 => k_asm); (case k4 => k_asm); (case k5 => k_asm); (case k6 => k_is); (case k7 => k_is); (case k8 => ktr_room); (case k9 => first | exact BindsTo.of_eq rfl | exact binds_K (by k_in) rfl (by k_is) rfl rfl rfl); (case c5 => decide); (case kB => exact locs rfl); (case c2 => exact rfl); (case c3 => exact rfl); (case c4 => exact rfl); k_whole; intro L' h' F' N' B' X' T'; (try dsimp only); (try k_fold)))
local macro_rules | `(tactic| walk_at "LeaveP") => `(tactic| (k_dflt (refine' LeaveP.intro ?k1 ?k2 ?_; (case k1 => k_asm); (case k2 => k_asm); k_whole); intro kF kN0 kN kA; (try (with_reducible rename Frag.In _ _ => hx9); clear hx9); (try (with_reducible rename Top _ _ _ _ _ _ => hx9); clear hx9); (try (with_reducible rename Below _ _ _ _ => hx9); clear hx9); (try simp only [List.cons_append, List.nil_append] at kN); (try dsimp only)))
local macro_rules | `(tactic| walk_at "call ref") => `(tactic| (k_here; k_dflt (first
  | (refine' call_meth ?k1 ?k2 ?_; (case k1 => k_asm); (case k2 => k_mem); k_whole; walk_at "ENTER")
  | (refine wpAny_call ?_; walk_at "ENTER"))))

local macro_rules | `(tactic| k_all) => `(tactic| k_dflt (first | assumption | exact all_app (by assumption) (by assumption)))
theorem fillR2 : (PySem.Challenge.rw_ci0037_01, Mine.hd.heap_39) = (PySem.Challenge.rw_ci0037_01, Mine.hd.heap_39) := by k_fill; rfl
theorem cmp_call {w : World} {loose : List Str} {mean : ExcName → Option Value} {mg mb : Str → Option Value} {A : Around} {h₀ : Heap} {s : Shared} {Q E : Value → Shared → Prop} {L : Addr} {m : Str → Option Value} {objs led : List (Addr × Obj)} {i j : Addr} {r : Int} (C : CmpV i j objs r) (hh : A.handled = none) (hr : A.depth + 250 < recursionLimit) (hu : A.units + 250 < cLine) (F : Fr h₀ L s.heap m) (X : (Mine.hd.heap_39 w.params).In h₀) (T : Top topProg loose mean mg mb h₀) (N : News h₀ L s.heap led) (hs : ∀ q ∈ objs, q ∈ led)
    (h : ∀ h' tk' t, Fr h₀ L h' m → News h₀ L h' led → Q (.int r t) { s with heap := h', toks := tk' }) : codeAny (model PR w) A (.call (.ref 343) ⟨[.ref i, .ref j], []⟩) (fun r s' => match r with | .ok (.ret v) => Q v s' | .ok _ => False | .error e => E e s') s :=
  C hh hr hu (Has.of F X T N hs) fun h' tk' t k => h h' tk' t (F.keeps k) (N.grown k)
theorem CmpV.sub {i j : Addr} {r : Int} {objs objs' : List (Addr × Obj)} (C : CmpV i j objs r) (hs : ∀ q ∈ objs, q ∈ objs') : CmpV i j objs' r := fun {w loose mean mg mb A h₀ s Q E} h1 h2 h3 H hq => C h1 h2 h3 (H.sub hs) hq
section
theorem vcmp_ver {a b c a' b' c' : Int} {v v' : Addr} {pre bld pre' bld' : List (Str × Tok)} {objs objs' : List (Addr × Obj)} (V : IsVer a b c pre bld v objs) (V' : IsVer a' b' c' pre' bld' v' objs')
    (hi : lexEq (preIds (pre.map (·.1))) (preIds (pre'.map (·.1))) = true → pre.map (·.1) = pre'.map (·.1)) (o1 : ∀ x ∈ pre.map (·.1), PyData.strOk x = true) (n1 : bld = []) (n2 : bld' = []) (l1 : pre.length ≤ 1000) :
    CmpV v v' (objs ++ objs') (if (verKey a b c pre).lt (verKey a' b' c' pre') then -1 else if (verKey a b c pre).eq (verKey a' b' c' pre') then 0 else 1) := by
  have RL := @ver_lt a b c a' b' c' v v' pre bld pre' bld' objs objs' V V'
  have RG := @ver_gt a b c a' b' c' v v' pre bld pre' bld' objs objs' V V'
  have V0 := V
  have V0' := V'
  obtain ⟨dx, tp, tb, ck, sk, h1, h2, h3, h4, h5, h6, h7, h8, k1, k2, k3, k4, k5, k6, k7, k8, m1, m2, m3, ko4, ko5, KK4, KK5, ho⟩ := V
  obtain ⟨dx', tp', tb', ck', sk', h1', h2', h3', h4', h5', h6', h7', h8', k1', k2', k3', k4', k5', k6', k7', k8', m1', m2', m3', ko4', ko5', KK4', KK5', ho'⟩ := V'
  generalize hdo : dictOf _ 8 = do_ at ho
  generalize hdo' : dictOf _ 8 = do_' at ho'
  have q1 : (v, instObj 388 dx) ∈ objs ++ objs' := List.mem_append_left _ (by rw [ho]; exact .head _)
  have q2 : (dx, do_) ∈ objs ++ objs' := List.mem_append_left _ (by rw [ho]; exact .tail _ (.head _))
  have q3 : (v', instObj 388 dx') ∈ objs ++ objs' := List.mem_append_right _ (by rw [ho']; exact .head _)
  have q4 : (dx', do_') ∈ objs ++ objs' := List.mem_append_right _ (by rw [ho']; exact .tail _ (.head _))
  have sub : ∀ q ∈ (v, instObj 388 dx) :: (dx, do_) :: (v', instObj 388 dx') :: (dx', do_') :: (objs ++ objs'), q ∈ objs ++ objs' := by
    intro q hq
    rcases List.mem_cons.mp hq with rfl | hq
    · exact q1
    rcases List.mem_cons.mp hq with rfl | hq
    · exact q2
    rcases List.mem_cons.mp hq with rfl | hq
    · exact q3
    rcases List.mem_cons.mp hq with rfl | hq
    · exact q4
    · exact hq
  have sup : ∀ q ∈ objs ++ objs', q ∈ (v, instObj 388 dx) :: (dx, do_) :: (v', instObj 388 dx') :: (dx', do_') :: (objs ++ objs') := fun q hq => .tail _ (.tail _ (.tail _ (.tail _ hq)))
  have C : CmpV v v' ((v, instObj 388 dx) :: (dx, do_) :: (v', instObj 388 dx') :: (dx', do_') :: (objs ++ objs')) (if (verKey a b c pre).lt (verKey a' b' c' pre') then -1 else if (verKey a b c pre).eq (verKey a' b' c' pre') then 0 else 1) := by
    cases hl : (verKey a b c pre).lt (verKey a' b' c' pre') with
    | true =>
      rw [hl] at RL
      rw [if_pos rfl]
      exact @vcmp_lt _ _ _ _ _ _ _ (@Rc.mono _ _ _ _ _ _ _ _ @RL sup (Nat.le_refl _))
    | false =>
      rw [if_neg (by simp)]
      have RG' := @RG hl
      rw [hl] at RL
      cases he : (verKey a b c pre).eq (verKey a' b' c' pre') with
      | false =>
        rw [he, Bool.not_false] at RG'
        rw [if_neg (by simp)]
        exact @vcmp_gt _ _ _ _ _ _ _ (@Rc.mono _ _ _ _ _ _ _ _ @RL sup (Nat.le_refl _)) (@Rc.mono _ _ _ _ _ _ _ _ @RG' sup (Nat.le_refl _))
      | true =>
        rw [he, Bool.not_true] at RG'
        rw [if_pos rfl]
        simp only [K4.eq, verKey, Bool.and_eq_true, beq_iff_eq] at he
        obtain ⟨rfl, rfl, rfl, he⟩ := he
        exact @vcmp_eq _ _ _ _ _ _ _ (@Rc.mono _ _ _ _ _ _ _ _ @RL sup (Nat.le_refl _)) (@Rc.mono _ _ _ _ _ _ _ _ @RG' sup (Nat.le_refl _)) (@Rc.mono _ _ _ _ _ _ _ _ (@ver_eq _ _ _ _ _ _ _ _ _ _ _ V0 V0' (hi he) o1 n1 n2 l1) sup (Nat.le_refl _))
  exact @CmpV.sub _ _ _ _ _ @C sub
end
theorem news_swap {h₀ h : Heap} {L : Addr} {a b : Addr × Obj} {l : List (Addr × Obj)} (N : News h₀ L h (a :: b :: l)) : News h₀ L h (b :: a :: l) := fun q hq => N q (by
  simp only [List.mem_cons] at hq ⊢
  rcases hq with hq | hq | hq <;> simp only [hq, true_or, or_true])
theorem hap_meth {h₀ h : Heap} {L : Addr} {q : Addr} {f x : Value} {ps : Array Value} {l : List (Addr × Obj)} (N : News h₀ L h ((q, methodObj f x) :: (323, tabObj ps) :: l)) (hr : ∀ r ∈ l, r.1 ≠ (323 : Nat)) : ∀ r ∈ (q, methodObj f x) :: l, (323 : Nat) ≠ r.1 := by
  intro r hq
  rcases List.mem_cons.mp hq with rfl | hq
  · intro e
    have e1 := (N _ (.head _)).1
    have e2 := (N _ (.tail _ (.head _))).1
    have e3 : q = (323 : Nat) := e.symm
    subst e3
    rw [e1] at e2
    injection e2 with e2
    injection e2 with e2
    cases e2
  · exact fun e => hr r hq e.symm
theorem app_nil_ne {l : List (Addr × Obj)} (h : ∀ q ∈ l, q.1 ≠ (323 : Nat)) : ∀ q ∈ l ++ [], q.1 ≠ (323 : Nat) := by simpa using h
end Mine
end
section
open PySem PySem.W PyProof.Rows PySem.Calls PySem.Spec
set_option Elab.async false
set_option maxRecDepth 100000
namespace Mine
/-- the text that «while version.count('.') < 2: version += '.0'» leaves -/
def PadTo : Nat → Str → Str → Prop
  | 0, v, v1 => ¬ (Txt.count v (Str.ofString ".") < 2) ∧ v = v1
  | n + 1, v, v1 => Txt.count v (Str.ofString ".") < 2 ∧ v.length ≤ 11000 ∧ PadTo n (v ++ Str.ofString ".0") v1
def PadPost (g : Heap) (L : Addr) (m : Str → Option Value) (news : List (Addr × Obj)) (v1 : Str) (s : Shared) (f : Flow) (s' : Shared) : Prop :=
  f = .next ∧ ∃ t h' tk', s' = { s with heap := h', toks := tk' } ∧ Fr g L h' (put m (Str.ofString "version") (.str v1 t)) ∧ News g L h' news
theorem PadPost.intro {g : Heap} {L : Addr} {m : Str → Option Value} {news : List (Addr × Obj)} {v1 : Str} {s : Shared} {t : Tok} {h' : Heap} {tk' : Nat} (F : Fr g L h' (put m (Str.ofString "version") (.str v1 t))) (N : News g L h' news) :
    PadPost g L m news v1 s .next { s with heap := h', toks := tk' } := ⟨rfl, t, h', tk', rfl, F, N⟩
theorem pad_cut {M : Model} {A : Around} {E : Value → Shared → Prop} {Q : Flow → Shared → Prop} {s : Shared} {st : Stmt} {env : Env} {g : Heap} {L : Addr} {m : Str → Option Value} {news : List (Addr × Obj)} {v0 v1 : Str} {t : Tok}
    (F : Fr g L s.heap m) (N : News g L s.heap news) (_h0 : m (Str.ofString "version") = some (.str v0 t)) {n : Nat} (_hp : PadTo n v0 v1)
    (h1 : wpAny M A (exec st env) (fun f s' => PadPost g L m news v1 s f s') E s)
    (h2 : ∀ t' h' tk', Fr g L h' (put m (Str.ofString "version") (.str v1 t')) → News g L h' news → Q .next { s with heap := h', toks := tk' }) :
    wpAny M A (exec st env) Q E s := by
  refine wpAny_mono h1 (fun f s' hp => ?_) fun _ _ y => y
  obtain ⟨rfl, t', h', tk', rfl, a3, a4⟩ := hp
  exact h2 t' h' tk' a3 a4
theorem iadd_txt {prog : Program} {w : World} {A : Around} {E : Value → Shared → Prop} {s : Shared} {x y : Str} {t u : Tok} {Q : Value → Shared → Prop} (hx : x.length ≤ 30000) (hy : y.length ≤ 30000) (h : ∀ t' tk, Q (.str (x ++ y) t') { s with toks := tk }) : wpAny (model prog w) A (inplaceOp .Add (.str x t) (.str y u)) Q E s :=
  PyProof.Rows.iadd_str h (by rw [sizeLine_eq]; omega)
theorem add_txt {prog : Program} {w : World} {A : Around} {E : Value → Shared → Prop} {s : Shared} {x y : Str} {t u : Tok} {Q : Value → Shared → Prop} (hx : x.length ≤ 30000) (hy : y.length ≤ 30000) (h : ∀ t' tk, Q (.str (x ++ y) t') { s with toks := tk }) : wpAny (model prog w) A (binaryOp .Add (.str x t) (.str y u)) Q E s :=
  SBL.add (fun t' c _ => h t' c) (by rw [sizeLine_eq]; omega)
def PadStep (g : Heap) (L : Addr) (m : Str → Option Value) (news : List (Addr × Obj)) (v1 : Str) (n : Nat) (s : Shared) (f : Flow) (s' : Shared) : Prop :=
  f = .next ∧ ∃ v t h' tk', s' = { s with heap := h', toks := tk' } ∧ Fr g L h' (put m (Str.ofString "version") (.str v t)) ∧ News g L h' news ∧ PadTo n v v1
theorem PadStep.intro {g : Heap} {L : Addr} {m : Str → Option Value} {news : List (Addr × Obj)} {v v1 : Str} {n : Nat} {u : Value} {s : Shared} {t : Tok} {h' : Heap} {tk' : Nat} (F : Fr g L h' (put (put m (Str.ofString "version") u) (Str.ofString "version") (.str v t))) (N : News g L h' news) (P : PadTo n v v1) :
    PadStep g L m news v1 n s .next { s with heap := h', toks := tk' } := ⟨rfl, v, t, h', tk', rfl, put_put m _ _ _ ▸ F, N, P⟩
theorem pad_loop {prog : Program} {w : World} {A : Around} {E : Value → Shared → Prop} {s : Shared} {env : Env} {g : Heap} {L : Addr} {m : Str → Option Value} {news : List (Addr × Obj)} {v0 v1 : Str} {t : Tok} {test : Expr} {body : List Stmt} {pos : Pos} {n : Nat}
    (F : Fr g L s.heap m) (N : News g L s.heap news) (h0 : m (Str.ofString "version") = some (.str v0 t)) (hp : PadTo n v0 v1) (hE : PassesOwn (model prog w) A env E)
    (turn0 : ∀ t h₁ tk₁, ¬ (Txt.count v1 (Str.ofString ".") < 2) → Fr g L h₁ (put m (Str.ofString "version") (.str v1 t)) → News g L h₁ news →
      wpAny (model prog w) A (isTrue test env (eval test env)) (fun b s₂ => if b = true then wpAny (model prog w) A (execs body env) (fun _ _ => False) E s₂ else PadPost g L m news v1 s .next s₂) E { s with heap := h₁, toks := tk₁ })
    (turnS : ∀ v k t h₁ tk₁, Txt.count v (Str.ofString ".") < 2 → v.length ≤ 11000 → PadTo k (v ++ Str.ofString ".0") v1 → Fr g L h₁ (put m (Str.ofString "version") (.str v t)) → News g L h₁ news →
      wpAny (model prog w) A (isTrue test env (eval test env)) (fun b s₂ => if b = true then wpAny (model prog w) A (execs body env) (PadStep g L m news v1 k s) E s₂ else PadPost g L m news v1 s .next s₂) E { s with heap := h₁, toks := tk₁ }) :
    wpAny (model prog w) A (exec (.While test body [] pos) env) (fun f s' => PadPost g L m news v1 s f s') E s := by
  refine While_inv (fun n m₁ news₁ => news₁ = news ∧ ∃ v t, m₁ = put m (Str.ofString "version") (.str v t) ∧ PadTo n v v1) (n₀ := n) F N ⟨rfl, v0, t, put_id h0, hp⟩ ?_ hE
  rintro n m₁ news₁ h₁ tk₁ F2 N2 ⟨rfl, v, t, rfl, P⟩
  cases n with
  | zero =>
    obtain ⟨P1, rfl⟩ := P
    refine wpAny_mono (turn0 t h₁ tk₁ P1 F2 N2) (fun b s₂ hb => ?_) fun _ _ y => y
    cases b with
    | true =>
      simp only [if_true] at hb ⊢
      exact wpAny_mono hb (fun f s₃ hf => hf.elim) fun _ _ y => y
    | false => simpa using hb
  | succ k =>
    obtain ⟨P1, P2, P3⟩ := P
    refine wpAny_mono (turnS v k t h₁ tk₁ P1 P2 P3 F2 N2) (fun b s₂ hb => ?_) fun _ _ y => y
    cases b with
    | true =>
      simp only [if_true] at hb ⊢
      refine wpAny_mono hb (fun f s₃ hf => ?_) fun _ _ y => y
      obtain ⟨rfl, v2, t2, h2, tk2, rfl, F3, N3, P3⟩ := hf
      exact WhileStep.intro (n' := k) F3 N3 (Nat.lt_succ_self _) ⟨rfl, v2, t2, rfl, P3⟩
    | false => simpa using hb
end Mine
end
section
open PySem PySem.W PyProof.Rows PySem.Calls PySem.Spec
set_option Elab.async false
set_option maxRecDepth 100000
namespace Mine
theorem WalksV.toS {prog : Program} {w : World} {A : Around} {I : Addr} {fp wr : List Addr} {G : Array GenState → Array GenState → Prop} {n : Nat} {EO : Nat → Value → List (Addr × Obj) → Prop} {St : Nat → Shared → Prop} (W : WalksV prog w A I fp wr G n EO St) :
    WalksS prog w A I fp wr G n (fun i v => ∃ objs, EO i v objs) St where
  sub := W.sub
  grefl := W.grefl
  gtrans := W.gtrans
  frame := W.frame
  item := fun i s Q E hi st hQ => W.item i s Q E hi st fun v s' objs hE _ st' hm => hQ v s' ⟨objs, hE⟩ st' hm
  done := W.done
  self := W.self
/-- a generator's text, no object -/
def TxtOne (f : Str → Str) (x : Str) (y : Value) (objs : List (Addr × Obj)) : Prop := objs = [] ∧ ∃ t, y = .str (f x) t
theorem joinOn {w : World} {A : Around} {E : Value → Shared → Prop} {s : Shared} {Q : Value → Shared → Prop} {h₀ : Heap} {L a : Addr} {m : Str → Option Value} {led : List (Addr × Obj)} {parts : List (Str × Tok)} {f : Str → Str} {sep : Str} {t : Tok}
    (F : Fr h₀ L s.heap m) (N : News h₀ L s.heap led) (G : AllBare s.gens) (X : GenOn w A a parts.length (AtOf (TxtOne f) parts) h₀ L led s) (hok : JoinOk sep (parts.map fun p => f p.1) = true) (hsz : parts.length ≤ sizeLine)
    (hQ : ∀ s' t', Fr h₀ L s'.heap m → News h₀ L s'.heap led → AllBare s'.gens → s'.os = s.os → Q (.str (Txt.join sep (parts.map fun p => f p.1)) t') s') :
    wpAny (model PR w) A (call (.builtin "str.join") [.str sep t, .ref a]) Q E s := by
  obtain ⟨fp, wr, g, St, W, hst, hT, hI, hfp, hwr⟩ := X
  refine SC.joinGen (W.out.out).toS hT hst hfp hI (fun j v hv => ?_) (fun s' lt hm hacc => ?_) hsz
  · obtain ⟨objs, p, _, _, u, e⟩ := hv
    exact ⟨_, u, e⟩
  · have hl : lt.map (·.1) = parts.map fun p => f p.1 := by
      apply List.ext_getElem?
      intro j
      have hsz : lt.length = parts.length := by simpa [strValues] using hacc.1
      by_cases hj : j < parts.length
      · have hj' : j < lt.length := hsz ▸ hj
        obtain ⟨objs, p, hp, _, u, hv⟩ := hacc.2 j (.str lt[j].1 lt[j].2) (by simp [strValues, List.getElem?_eq_getElem hj'])
        injection hv with h1 _
        rw [List.getElem?_eq_getElem hj] at hp
        have hp' := Option.some.inj hp
        simp [List.getElem?_eq_getElem hj', hj, h1, ← hp']
      · rw [List.getElem?_eq_none (by simpa [hsz] using Nat.le_of_not_lt hj), List.getElem?_eq_none (by simpa using Nat.le_of_not_lt hj)]
    rw [hl]
    have kL : ∀ o, s.heap.get? L = some o → s'.heap.get? L = some o := fun o e => hm.heap L o (fun q => (hwr L q).1 rfl) e
    have k₀ : ∀ b o, h₀.get? b = some o → s'.heap.get? b = some o := fun b o e => hm.heap b o (fun q => by have := (hwr b q).2.1; rw [this] at e; cases e) (F.keep b o e)
    have kN : News h₀ L s'.heap led := fun q hq => ⟨hm.heap _ _ (fun z => (hwr _ z).2.2 q hq rfl) (N q hq).1, (N q hq).2⟩
    have F' : Fr h₀ L s'.heap m := ⟨F.ns.at' kL, k₀, F.above⟩
    have g1 := G.movedS hm
    have o1 := hm.os
    exact ⟨hok, fun t' k => hQ { s' with toks := k } t' F' kN g1 o1⟩
open PyProof.Rows.LCg in
section
variable {w : World} {A : Around} {E : Value → Shared → Prop} {s : Shared} {h₀ : Heap} {L : Addr} {m : Str → Option Value} {env : Env} {elt iter : Expr} {x : Str} {px : Pos} {scope : Scope} {cl : List (Str × Addr)} {pos : Pos} {news : List (Addr × Obj)}
theorem pyIter_strO {prog : Program} {x : Str} {t : Tok} {Q : Value → Shared → Prop}
    (hQ : ∀ (o : Obj) (St : Nat → Heap → Prop), (∀ A' : Around, A'.handled = none → Walks prog w A' s.heap.objs.size [s.heap.objs.size] [s.heap.objs.size] x.cps.size (SignAt x) St) → (∀ i h, St i h → ∃ o, h.get? s.heap.objs.size = some o) → St 0 (s.heap.push o) →
      Q (.ref s.heap.objs.size) { s with heap := s.heap.push o }) : wpAny (model prog w) A (pyIter (.str x t)) Q E s := by
  cases ha : x.cps.all (· < 128)
  · exact wpAny_pyIter_wide ha (hQ _ _ (fun A' hA => Walks.strWide hA _ x t) (fun i h st => let ⟨o, e, _⟩ := st; ⟨o, e⟩) ⟨_, Heap.get?_push_size _ rfl, rfl, rfl⟩)
  · exact wpAny_pyIter_ascii ha (hQ _ _ (fun A' hA => Walks.strAscii hA _ x t) (fun i h st => let ⟨o, e, _⟩ := st; ⟨o, e⟩) ⟨_, Heap.get?_push_size _ rfl, rfl, rfl⟩)
/-- a turn's end of a comprehension whose elements are texts -/
def MapEl (news : List (Addr × Obj)) (r : Str) (y : Value) (news' : List (Addr × Obj)) : Prop := news' = news ∧ ∃ t : Tok, y = .str r t
theorem map_snoc {y : Str} {t : Tok} {lt : List (Str × Tok)} : strVals lt ++ [.str y t] = strVals (lt ++ [(y, t)]) := by simp [strVals]
theorem rest_str {y : Str} {Fin : List Value → List (Addr × Obj) → Prop} (g : Nat → Str)
    (turn : ∀ c u I oI C oC D m₂ ys h tk (E' : Value → Shared → Prop), c ∈ y.cps.toList → NsObj oC m₂ → m₂ x = some (.str ⟨#[c]⟩ u) → Fr h₀ L h m → News h₀ L h ((I, oI) :: (C, oC) :: (D, lst ys) :: news) → Off3 I C D news → ((@Ne Nat I C) ∧ (@Ne Nat I D) ∧ (@Ne Nat C D)) →
      wpAny (model PR w) A (eval elt (compEnvC scope cl C env)) (CompEnd h₀ L m { s with heap := h, toks := tk } I oI C oC D (lst ys) (fun _ => True) (fun y news' => MapEl news (g c) y news')) E' { s with heap := h, toks := tk })
    (fin : ∀ lt : List (Str × Tok), lt.map (·.1) = y.cps.toList.map g → Fin (strVals lt) news) : CompRest PR w A h₀ L m env elt x scope cl s (fun _ => True) (SignAt y) Fin y.cps.size 0 [] news := by
  have key : ∀ (j i : Nat) (lt : List (Str × Tok)), i + j = y.cps.size → lt.map (·.1) = (y.cps.toList.take i).map g → CompRest PR w A h₀ L m env elt x scope cl s (fun _ => True) (SignAt y) Fin j i (strVals lt) news := by
    intro j
    induction j with
    | zero =>
      intro i lt hi hy
      have e : i = y.cps.toList.length := by simpa using hi
      subst e
      rw [List.take_length] at hy
      exact CompRest.zero (fin lt hy)
    | succ j ih =>
      intro i lt hi hy
      refine CompRest.succ ?_
      intro v I oI C oC D m₂ h tk E' hv hC hx F N off ne
      obtain ⟨c, u, hk, hv'⟩ := hv
      rw [hv'] at hx
      have hk' : y.cps.toList[i]? = some c := by simpa using hk
      refine wpAny_mono (turn c u I oI C oC D m₂ _ h tk E' (List.mem_of_getElem? hk') hC hx F N off ne) (fun y s₂ hq => ?_) fun _ _ e => e
      obtain ⟨h', tk', nw, e, F', N', off', hS, hn, t', hy'⟩ := hq
      rw [hn] at N' off'
      refine ⟨h', tk', news, e, F', N', off', hS, ?_⟩
      have z := ih (i + 1) (lt ++ [(g c, t')]) (by omega) (by rw [List.take_add_one, hk']; simp [hy])
      rw [← map_snoc] at z
      rw [hy']
      exact z
  exact key y.cps.size 0 [] (by omega) (by simp)
def StrSrc (w : World) (A : Around) (h₀ : Heap) (L : Addr) (m : Str → Option Value) (env : Env) (elt : Expr) (x : Str) (scope : Scope) (cl : List (Str × Addr)) (Q : Value → Shared → Prop) (xv : Value) (s₁ : Shared) : Prop :=
  ∃ (y : Str) (t : Tok) (news : List (Addr × Obj)) (g : Nat → Str), xv = .str y t ∧ A.handled = none ∧ Fr h₀ L s₁.heap m ∧ News h₀ L s₁.heap news ∧ y.length ≤ sizeLine ∧
   (∀ g0 c u I oI C oC D m₂ ys h tk (E' : Value → Shared → Prop), c ∈ y.cps.toList → NsObj oC m₂ → m₂ x = some (.str ⟨#[c]⟩ u) → Fr h₀ L h m → News h₀ L h ((I, oI) :: (C, oC) :: (D, lst ys) :: news) → Off3 I C D news → ((@Ne Nat I C) ∧ (@Ne Nat I D) ∧ (@Ne Nat C D)) →
      wpAny (model PR w) A (eval elt (compEnvC scope cl C env)) (CompEnd h₀ L m { ({ s₁ with heap := g0 } : Shared) with heap := h, toks := tk } I oI C oC D (lst ys) (fun _ => True) (fun y news' => MapEl news (g c) y news')) E' { ({ s₁ with heap := g0 } : Shared) with heap := h, toks := tk }) ∧
   (∀ D h tk (lt : List (Str × Tok)), lt.map (·.1) = y.cps.toList.map g → Fr h₀ L h m → News h₀ L h ((D, lst (strVals lt)) :: news) → Off1 D news → Q (.ref D) { s₁ with heap := h, toks := tk })
theorem StrSrc.intro {Q : Value → Shared → Prop} {y : Str} {t : Tok} {s₁ : Shared} (g : Nat → Str) (hh : A.handled = none) (F : Fr h₀ L s₁.heap m) (N : News h₀ L s₁.heap news) (hsz : y.length ≤ sizeLine)
    (h : (∀ g0 c u I oI C oC D m₂ ys h tk (E' : Value → Shared → Prop), c ∈ y.cps.toList → NsObj oC m₂ → m₂ x = some (.str ⟨#[c]⟩ u) → Fr h₀ L h m → News h₀ L h ((I, oI) :: (C, oC) :: (D, lst ys) :: news) → Off3 I C D news → ((@Ne Nat I C) ∧ (@Ne Nat I D) ∧ (@Ne Nat C D)) →
      wpAny (model PR w) A (eval elt (compEnvC scope cl C env)) (CompEnd h₀ L m { ({ s₁ with heap := g0 } : Shared) with heap := h, toks := tk } I oI C oC D (lst ys) (fun _ => True) (fun y news' => MapEl news (g c) y news')) E' { ({ s₁ with heap := g0 } : Shared) with heap := h, toks := tk }) ∧
   (∀ D h tk (lt : List (Str × Tok)), lt.map (·.1) = y.cps.toList.map g → Fr h₀ L h m → News h₀ L h ((D, lst (strVals lt)) :: news) → Off1 D news → Q (.ref D) { s₁ with heap := h, toks := tk })) :
    StrSrc w A h₀ L m env elt x scope cl Q (.str y t) s₁ := ⟨y, t, news, g, rfl, hh, F, N, hsz, h.1, h.2⟩
theorem ListComp_str {Q : Value → Shared → Prop} (F₀ : Fr h₀ L s.heap m)
    (hclos : closureFor scope env = pure cl) (hcell : ∀ y ∈ scope.names, y.2 ≠ .cell) (hkind : scope.kind = .function)
    (hnames : ∀ y ∈ scope.names, y.2 = .local → scope.names.lookup y.1 = some .local) (hx : scope.names.lookup x = some .local)
    (h : wpAny (model PR w) A (eval iter env) (StrSrc w A h₀ L m env elt x scope cl Q) E s)
    (hs : ∀ x, foldedSetIterable iter env x = pure x) :
    wpAny (model PR w) A (eval (.ListComp elt [⟨.Name x px, iter, [], 0⟩] scope pos) env) Q E s := by
  rw [eval_ListComp]
  refine wpAny_comprehension_free (use := none) rfl hs hclos hkind hnames (wpAny_mono h (fun xv s₁ h₁ => ?_) fun _ _ e => e)
  obtain ⟨y, t, news, g, rfl, hh, F, N, hsz, turn, fin⟩ := h₁
  refine pyIter_strO fun o St W hIo hst => ?_
  have up : ∀ b o', s₁.heap.get? b = some o' → (s₁.heap.push o).get? b = some o' := fun b o' e => Heap.get?_push_of_some _ e
  refine block_U (W A hh) hsz hIo (fun i h h' o nw st e e' _ _ _ => (W A hh).frame i h h' st fun b hb o' e2 => ?_) hcell hkind hx hst (fun b hb => ?_)
      (F.keeps up) (N.grown up) (Nat.ne_of_lt F.ns.lt) (next_is_new F) (fun p hp => Nat.ne_of_lt (Heap.lt_size (N p hp).1)) trivial (rest_str (Fin := FinE h₀ L m s₁ Q) g (turn (s₁.heap.push o)) fun lt hl D h tk F' N' o1 => fin D h tk lt hl F' N' o1) ?_
  · rw [List.mem_singleton.mp hb] at e2 ⊢
    rw [e] at e2; cases e2; exact e'
  · show b < (s₁.heap.push o).objs.size
    rw [Heap.size_push, List.mem_singleton.mp hb]
    exact Nat.lt_succ_self _
  · intro D C h tk m' ys news' F' N' o1 hn hC₀ hD₀ hCL hDL hCD offC fin
    refine ⟨m', hn, fun h'' hs'' => fin D h'' tk (F'.change hs'' hCL hC₀) (fun p hp => ?_) o1⟩
    refine ⟨hs''.extBut _ _ ?_ (N' p hp).1, (N' p hp).2⟩
    rcases List.mem_cons.mp hp with rfl | hp
    · exact Ne.symm hCD
    · exact offC p hp
end
end Mine
end
section
theorem Mine.reset_C2 : True := by w_top off; trivial
open PySem PySem.W PyProof.Rows PySem.Calls PySem.Spec
set_option Elab.async false
set_option maxRecDepth 100000
namespace Mine
local macro_rules | `(tactic| walk_at "ENTER") => `(tactic| k_dflt (refine' enterP ?k1 ?k2 ?k3 ?k4 ?k5 ?kA ?kF ?kK ?k6 ?k7 ?k8 ?k9 ?kB ?_ ?c2 ?c3 ?c4 ?c5; (case kA => exact rfl); (case kF => exact rfl); (case kK => first | exact rfl | assumption); (case k1 => k_asm); (case k2 => k_asm); (case k3 => k_asm); (case k4 => k_asm); (case k5 => k_asm); (case k6 => k_is); (case k7 => k_is); (case k8 => ktr_room); (case k9 => first | exact BindsTo.of_eq rfl | exact binds_K (by k_in) rfl (by k_is) rfl rfl rfl); (case c5 => decide); (case kB => exact locs rfl); (case c2 => exact rfl); (case c3 => exact rfl); (case c4 => exact rfl); k_whole; intro L' h' F' N' B' X' T'; (try dsimp only); (try k_fold)))
local macro_rules | `(tactic| walk_at "LeaveP") => `(tactic| (k_dflt (refine' LeaveP.intro ?k1 ?k2 ?_; (case k1 => k_asm); (case k2 => k_asm); k_whole); intro kF kN0 kN kA; (try (with_reducible rename Frag.In _ _ => hx9); clear hx9); (try (with_reducible rename Top _ _ _ _ _ _ => hx9); clear hx9); (try (with_reducible rename Below _ _ _ _ => hx9); clear hx9); (try simp only [List.cons_append, List.nil_append] at kN); (try dsimp only)))
local macro_rules | `(tactic| walk_at "call ref") => `(tactic| (k_here; k_dflt (first
  | (refine' call_meth ?k1 ?k2 ?_; (case k1 => k_asm); (case k2 => k_mem); k_whole; walk_at "ENTER")
  | (refine wpAny_call ?_; walk_at "ENTER"))))

local macro_rules | `(tactic| k_all) => `(tactic| k_dflt (first | assumption | exact all_app (by assumption) (by assumption)))
local macro_rules | `(tactic| walk_at "exec Raise some none") => `(tactic| (exfalso; omega))
theorem fillC2 : (PySem.Challenge.rw_ci0037_01, Mine.hd.heap_39) = (PySem.Challenge.rw_ci0037_01, Mine.hd.heap_39) := by k_fill; rfl
def strip0 (p : Str) : Str := if (Txt.lstripChars p (Str.ofString "0")).length = 0 then Str.ofString "0" else Txt.lstripChars p (Str.ofString "0")
theorem split_size2 {x : Str} (h : x.length ≤ 12000) : x.length + 2 ≤ sizeLine := Nat.le_trans (by omega : x.length + 2 ≤ 12002) (by size_fits)
theorem listAt {h₀ h : Heap} {L t : Addr} {ps : List (Str × Tok)} {n : Nat} {news : List (Addr × Obj)} (N : News h₀ L h news) (hm : (t, W.listOf (PySem.strValues ps).toArray n) ∈ news) : h.IsList t (strVals ps).toArray := ⟨_, (N _ hm).1, rfl, _, rfl⟩
theorem part_len {x : Str} {l : List (Str × Tok)} (e : l.map (·.1) = Txt.split x (Str.ofString ".")) (h : ∀ y ∈ Txt.split x (Str.ofString "."), y.length ≤ 12000) : ∀ p ∈ l, p.1.length ≤ 12000 := fun q hq => h _ (e ▸ List.mem_map_of_mem hq)
theorem strip0_yes {p : Str} (h : ((Txt.lstripChars p (Str.ofString "0")).length : Int) ≠ 0) : strip0 p = Txt.lstripChars p (Str.ofString "0") := by
  unfold strip0; rw [if_neg]; omega
theorem strip0_no {p : Str} (h : ((Txt.lstripChars p (Str.ofString "0")).length : Int) = 0) : strip0 p = Str.ofString "0" := by
  unfold strip0; rw [if_pos]; omega
theorem joinOn2 {w : World} {A : Around} {E : Value → Shared → Prop} {s : Shared} {Q : Value → Shared → Prop} {h₀ : Heap} {L a : Addr} {m : Str → Option Value} {led : List (Addr × Obj)} {parts : List (Str × Tok)} {f : Str → Str} {sep : Str} {t : Tok} {ys : List Str}
    (F : Fr h₀ L s.heap m) (N : News h₀ L s.heap led) (G : AllBare s.gens) (X : GenOn w A a parts.length (AtOf (TxtOne f) parts) h₀ L led s) (e : parts.map (·.1) = ys) {r : Str} (hok : JoinOk sep (ys.map f) = true) (hsz : ys.length ≤ 1000) (hr : Txt.join sep (ys.map f) = r)
    (hQ : ∀ s' t', Fr h₀ L s'.heap m → News h₀ L s'.heap led → AllBare s'.gens → s'.os = s.os → Q (.str r t') s') :
    wpAny (model PR w) A (call (.builtin "str.join") [.str sep t, .ref a]) Q E s := by
  subst hr
  have e2 : (parts.map fun p => f p.1) = ys.map f := by rw [← e, List.map_map]; rfl
  refine joinOn F N G X (by rw [e2]; exact hok) (by rw [← e, List.length_map] at hsz; exact len_line hsz) ?_
  rw [e2]; exact hQ
theorem news2 {h₀ h : Heap} {L : Addr} {p q : Addr × Obj} {led : List (Addr × Obj)} (N : News h₀ L h led) (m1 : p ∈ led) (m2 : q ∈ led) : News h₀ L h [p, q] := fun r hr => by
  rcases List.mem_cons.mp hr with rfl | hr
  · exact N _ m1
  · rcases List.mem_cons.mp hr with rfl | hr
    · exact N _ m2
    · cases hr
theorem mem_268 {o : Obj} {led : List (Addr × Obj)} (h : ((268 : Nat), o) ∈ led) : ((268 : Nat), o) ∈ led := h
theorem ne_268 {o : Obj} : ∀ r ∈ ([((268 : Nat), o)] : List (Addr × Obj)), (323 : Nat) ≠ r.1 := fun r hr => by
  rw [List.mem_singleton.mp hr]; exact (show (323 : Nat) ≠ 268 by decide)
def gS (c : Nat) : Str := if (Txt.contains (Str.ofString "0123456789abcdefghijklmnopqrstuvwxyzABCDEFGHIJKLMNOPQRSTUVWXYZ.-") ⟨#[c]⟩ || (⟨#[c]⟩ : Str) == Str.ofString "+") = true then ⟨#[c]⟩ else Str.ofString "-"
theorem MapEl.intro {news : List (Addr × Obj)} {e r : Str} {t : Tok} (h : e = r) : MapEl news e (.str r t) news := ⟨rfl, t, by rw [h]⟩
theorem joinL {w : World} {A : Around} {E : Value → Shared → Prop} {s : Shared} {Q : Value → Shared → Prop} {h₀ : Heap} {L D : Addr} {led : List (Addr × Obj)} {lt : List (Str × Tok)} {sep r : Str} {t : Tok} {ys : List Str}
    (N : News h₀ L s.heap led) (hm : (D, LCg.lst (strVals lt)) ∈ led) (e : lt.map (·.1) = ys) (hok : JoinOk sep ys = true) (hr : Txt.join sep ys = r)
    (hQ : ∀ t' k, Q (.str r t') { s with toks := k }) :
    wpAny (model PR w) A (call (.builtin "str.join") [.str sep t, .ref D]) Q E s := by
  subst hr
  exact SC.join ⟨_, (N _ hm).1, rfl, _, rfl⟩ e hok hQ
theorem gS_in {c : Nat} (h : (Builtin.Str.occurrences (Str.ofString "0123456789abcdefghijklmnopqrstuvwxyzABCDEFGHIJKLMNOPQRSTUVWXYZ.-") ⟨#[c]⟩ 0 (Str.ofString "0123456789abcdefghijklmnopqrstuvwxyzABCDEFGHIJKLMNOPQRSTUVWXYZ.-").length 1).isEmpty = false) : gS c = ⟨#[c]⟩ := by
  unfold gS Txt.contains; rw [h]; simp
theorem gS_plus {c : Nat} (h : ((⟨#[c]⟩ : Str) == Str.ofString "+") = true) : gS c = ⟨#[c]⟩ := by
  unfold gS; rw [h]; simp
theorem gS_out {c : Nat} (h : (Builtin.Str.occurrences (Str.ofString "0123456789abcdefghijklmnopqrstuvwxyzABCDEFGHIJKLMNOPQRSTUVWXYZ.-") ⟨#[c]⟩ 0 (Str.ofString "0123456789abcdefghijklmnopqrstuvwxyzABCDEFGHIJKLMNOPQRSTUVWXYZ.-").length 1).isEmpty = true) (h2 : ((⟨#[c]⟩ : Str) == Str.ofString "+") = false) : gS c = Str.ofString "-" := by
  unfold gS Txt.contains; rw [h, h2]; simp
theorem replaceR {prog : Program} {w : World} {A : Around} {E : Value → Shared → Prop} {s : Shared} {x y z b : Str} {t u v : Tok} {Q : Value → Shared → Prop} (hu : u ≠ 0) (hv : v ≠ 0) (huv : u ≠ v) (hyz : (y == z) = false) (hx : x.length ≤ 1048576) (hz : z.length ≤ 14) (hb : Txt.replace x y z = b)
    (hq : ∀ t' k, Q (.str b t') { s with toks := k }) : wpAny (model prog w) A (call (.builtin "str.replace") [.str x t, .str y u, .str z v]) Q E s := by
  subst hb; exact SC.replaceW hu hv huv hyz hx hz hq
theorem truthy_txt {prog : Program} {w : World} {A : Around} {E : Value → Shared → Prop} {s : Shared} {x : Str} {t : Tok} {Q : Bool → Shared → Prop} (h0 : 0 < x.length) (h1 : x.length < 10000) (h : ∀ k, Q true { s with toks := k }) : wpAny (model prog w) A (PySem.truthy (.str x t)) Q E s :=
  SBL.truthy (x := x) (by omega) (by have e : ((x.length : Int) != 0) = true := by (simp; omega)
                                     rw [e]; exact h _)
theorem gen_toks {α : Type} {M : Model} {A : Around} {t : Sem α} {Q : α → Shared → Prop} {E : Value → Shared → Prop} {hp : Heap} {gs : Array GenState} {dr : Drawn} {tk : Nat} {os : OsState} (h1 : 1 ≤ tk) (h : ∀ k, 1 ≤ k → wpAny M A t Q E ⟨hp, gs, dr, k, os⟩) : wpAny M A t Q E ⟨hp, gs, dr, tk, os⟩ := h tk h1
theorem split_two {prog : Program} {w : World} {A : Around} {E : Value → Shared → Prop} {s : Shared} {x y p q : Str} {t u v : Tok} {h₀ : Heap} {L : Addr} {m : Str → Option Value} {news : List (Addr × Obj)} {Q : Value → Shared → Prop} (hF : Fr h₀ L s.heap m) (hN : News h₀ L s.heap news) (hy : (y.length == 0) = false) (hx : x.length < 10000)
    (hs : Txt.splitMax x y 1 = [p, q])
    (h : ∀ D tp tq h' tk, Fr h₀ L h' m → News h₀ L h' ((D, listOf #[.str p tp, .str q tq] 0) :: news) → (∀ r ∈ news, r.1 < D) → Q (.ref D) { s with heap := h', toks := tk }) :
    wpAny (model prog w) A (call (.builtin "str.split") [.str x t, .str y u, .int 1 v]) Q E s := by
  refine splitN2A hF hN hy (by decide) (fun l h' tk e _ _ _ F N => ?_) (by rw [sizeLine_eq]; omega)
  rw [hs] at e
  obtain ⟨tp, l', rfl, e'⟩ := KSpl.cons_of e
  obtain ⟨tq, l'', rfl, e''⟩ := KSpl.cons_of e'
  cases KSpl.nil_of e''
  exact h _ tp tq h' tk F N fun r hr => Heap.lt_size (hN r hr).1
inductive RestCase (r v2 y : Str) : Prop
  | plus (b : Str) (h1 : (Txt.item r 0 == Str.ofString "+") = true) (hb : Txt.replace (Txt.slice r (some 1) none) (Str.ofString "+") (Str.ofString ".") = b) (hb0 : 0 < b.length) (hbl : b.length < 10000) (hy : Str.empty ++ v2 ++ Str.ofString "+" ++ b = y)
  | dot (b : Str) (h1 : (Txt.item r 0 == Str.ofString "+") = false) (h2 : (Txt.item r 0 == Str.ofString ".") = true) (hb : Txt.replace (Txt.slice r (some 1) none) (Str.ofString "+") (Str.ofString ".") = b) (hb0 : 0 < b.length) (hbl : b.length < 10000) (hy : Str.empty ++ v2 ++ Str.ofString "+" ++ b = y)
  | dash (h1 : (Txt.item r 0 == Str.ofString "+") = false) (h2 : (Txt.item r 0 == Str.ofString ".") = false) (h3 : (Txt.item r 0 == Str.ofString "-") = true) (hp : (Builtin.Str.occurrences (Txt.slice r (some 1) none) (Str.ofString "+") 0 (Txt.slice r (some 1) none).length 1).isEmpty = true)
    (hp0 : 0 < (Txt.slice r (some 1) none).length) (hpl : (Txt.slice r (some 1) none).length < 10000) (hb : Txt.replace (Str.ofString "") (Str.ofString "+") (Str.ofString ".") = Str.ofString "") (hy : Str.empty ++ v2 ++ Str.ofString "-" ++ Txt.slice r (some 1) none = y)
  | both (p q b : Str) (h1 : (Txt.item r 0 == Str.ofString "+") = false) (h2 : (Txt.item r 0 == Str.ofString ".") = false) (h3 : (Txt.item r 0 == Str.ofString "-") = true) (hp : (Builtin.Str.occurrences (Txt.slice r (some 1) none) (Str.ofString "+") 0 (Txt.slice r (some 1) none).length 1).isEmpty = false)
    (hl : (Txt.slice r (some 1) none).length < 10000) (hs : Txt.splitMax (Txt.slice r (some 1) none) (Str.ofString "+") 1 = [p, q]) (hp0 : 0 < p.length) (hpl : p.length < 10000) (hql : q.length < 10000) (hb : Txt.replace q (Str.ofString "+") (Str.ofString ".") = b) (hb0 : 0 < b.length) (hbl : b.length < 10000)
    (hy : Str.empty ++ (Str.empty ++ v2 ++ Str.ofString "-" ++ p) ++ Str.ofString "+" ++ b = y)
inductive EndCase (x v2 y : Str) : Prop
  | whole (h : (numEnd x == (x.length : Int)) = true) (hy : v2 = y)
  | more (r : Str) (h : (numEnd x == (x.length : Int)) = false) (hjr : JoinOk (Str.ofString "") ((Txt.slice x (some (numEnd x)) none).cps.toList.map gS) = true) (hr : Txt.join (Str.ofString "") ((Txt.slice x (some (numEnd x)) none).cps.toList.map gS) = r) (hr0 : 0 < r.length) (hrl : r.length < 10000) (hc : RestCase r v2 y)
theorem str_line {n : Nat} (h : n ≤ 10000) : n ≤ sizeLine := by rw [sizeLine_eq]; omega
theorem ver_new2 {w : World} {mg mb : Str → Option Value} {loose : List Str} {mean : ExcName → Option Value} {x x' : Str} {t1 : Tok} {ga gb gc : Str} {gp gq : Option Str} {v1 v2 v3 : Int} (H : POK x' ga gb gc gp gq v1 v2 v3)
    {kw : List (Str × Value)} (hkw : kw = ([("partial", .bool false)] : List (Str × Value)) ∨ kw = []) (hxx : x = x')
    {dp un : Nat} {gd : Option (List Code)} {cn : Str} {cs : Scope} {a : Addr} {ccd : Value} {cl : List (Str × Addr)} {outer : List Env} {A₀ : Around} {base h₀ : Heap} {L : Addr} {m : Str → Option Value} {s : Shared} {Q E : Value → Shared → Prop} {news : List (Addr × Obj)} {ps : Array Value}
    (B : Below A₀ base outer h₀) (F : Fr h₀ L s.heap m) (X : (Mine.hd.heap_39 w.params).In h₀) (N : News h₀ L s.heap ((323, tabObj ps) :: news)) (hap : ∀ r ∈ news, (323 : Nat) ≠ r.1) (ht : TriplesOk ps.toList) (G : AllBare s.gens) (T : Top topProg loose mean mg mb h₀) (hk : cs.kind = .function) (hd : dp + 40 < recursionLimit) (hu : un + 200 < cLine)
    (hret : ∀ (s' : Shared) (v : Addr) (pre bld : List (Str × Tok)) (objs : List (Addr × Obj)) (ps' : Array Value), PartsOf gp pre → PartsOf gq bld → IsVer v1 v2 v3 pre bld v objs → TriplesOk ps'.toList → Fr h₀ L s'.heap m →
      News h₀ L s'.heap ((323, tabObj ps') :: (objs ++ news)) → AllBare s'.gens → s'.os = s.os → (∀ q ∈ objs, q.1 ≠ (323 : Nat)) → (∀ q ∈ objs, ∀ r ∈ news, q.1 ≠ r.1) → Q (.ref v) s') :
    wpAny (model PR w) (ktrTop dp un gd cn cs L a ccd cl outer) (call (.ref 388) [.str x t1] kw) Q E s := by
  subst hxx; exact ver_new H hkw B F X N hap ht G T hk hd hu hret
theorem coerce_news {h₀ h : Heap} {L : Addr} {a b : Addr × Obj} {o news : List (Addr × Obj)} (N : News h₀ L h (a :: (o ++ [b] ++ news))) : News h₀ L h (b :: a :: (o ++ news)) := fun q hq => N q (by
  simp only [List.mem_cons, List.mem_append, List.not_mem_nil, or_false] at hq ⊢; grind)
theorem coerce_ne {o : List (Addr × Obj)} {b : Obj} (h1 : ∀ q ∈ o, q.1 ≠ (323 : Nat)) (h2 : ∀ q ∈ o, ∀ r ∈ ([((268 : Nat), b)] : List (Addr × Obj)), q.1 ≠ r.1) : ∀ q ∈ o, q.1 ≠ (268 : Nat) ∧ q.1 ≠ (323 : Nat) := fun q hq => ⟨h2 q hq _ (List.mem_singleton.mpr rfl), h1 q hq⟩
theorem coerce_ap {o news : List (Addr × Obj)} {a b : Addr × Obj} (k : ∀ p ∈ a :: (o ++ [b]), ∀ q ∈ news, p.1 ≠ q.1) : ∀ q ∈ o, ∀ r ∈ news, q.1 ≠ r.1 := fun q hq => k q (List.mem_cons_of_mem _ (List.mem_append_left _ hq))
theorem txt_end {x : Str} {s : Shared} {f : Str → Str} {r : Str} {t : Tok} {tk : Nat} (e : f x = r) : ElPost (TxtOne f) x s (.str r t) { s with toks := tk } :=
  ⟨⟨[], ⟨rfl, t, by rw [e]⟩, fun _ hp => nomatch hp⟩, s.heap, tk, rfl, fun _ _ e => e⟩
theorem numEnd_at {w mg mb loose mean} {x : Str} {t1 : Tok} (hx : x.length < 10000)
    {dp un : Nat} {gd : Option (List Code)} {cn : Str} {cs : Scope} {a : Addr} {ccd : Value} {cl : List (Str × Addr)} {outer : List Env} {A₀ : Around} {base h₀ : Heap} {L : Addr} {m : Str → Option Value} {s : Shared} {Q E : Value → Shared → Prop} {news : List (Addr × Obj)}
    (B : Below A₀ base outer h₀) (F : Fr h₀ L s.heap m) (X : (Mine.hd.heap_39 w.params).In h₀) (N : News h₀ L s.heap news) (T : Top topProg loose mean mg mb h₀) (hk : cs.kind = .function) (hd : dp + 2 < recursionLimit) (hu : un + 16 < cLine)
    (hret : ∀ (t : Tok) (h' : Heap) (tk' : Nat), Fr h₀ L h' m → News h₀ L h' news → Q (.int (numEnd x) t) { s with heap := h', toks := tk' }) :
    wpAny (model PR w) (ktrTop dp un gd cn cs L a ccd cl outer) (call (.ref 35) [.str x t1]) Q E s :=
  numEnd_spec x t1 hx _ _ _ _ _ _ _ _ _ _ _ _ _ _ _ _ _ _ B F X N T hk trivial hd hu hret
local macro_rules | `(tactic| walk_at "call ref") => `(tactic| (k_here; (with_reducible show wpAny _ _ (call (Value.ref 35) _) _ _ _); k_dflt (refine' numEnd_at ?hx ?B ?F ?X ?N ?T ?kk ?hd ?hu ?_; (case B => k_asm); (case F => k_asm); (case X => k_asm); (case N => k_asm); (case T => k_asm); (case kk => first | exact rfl | assumption); (case hx => assumption); (case hd => ktr_room); (case hu => ktr_units); intro t9 h9 tk9 F9 N9; (try dsimp only); (try k_fold))))

local macro_rules | `(tactic| walk_at "exec While Compare cons nil") => `(tactic| (goal_has PadPost; k_here; k_dflt (refine' pad_loop ?F ?N ?a ?P ?E ?_ ?_; (case F => k_asm); (case N => k_asm); (case a => exact rfl); (case P => assumption); (case E => passes_own); k_whole) <;> first
  | (intro t9 h9 tk9 hc9 F9 N9; try dsimp only)
  | (intro v9 n9 t9 h9 tk9 hc9 hl9 hP9 F9 N9; try dsimp only)))
local macro_rules | `(tactic| walk_at "exec While Compare cons nil") => `(tactic| (goal_lacks PadPost; k_here; k_dflt (refine' pad_cut ?F ?N ?a ?P ?_ ?_; (case F => k_asm); (case N => k_asm); (case a => exact rfl); (case P => assumption); rotate_left; (intro t9 h9 tk9 F9 N9; try dsimp only))))
local macro_rules | `(tactic| walk_at "PadStep") => `(tactic| k_dflt (refine' PadStep.intro ?F ?N ?P; (case F => k_asm); (case N => k_asm); (case P => assumption)))
local macro_rules | `(tactic| walk_at "PadPost") => `(tactic| k_dflt (refine' PadPost.intro ?F ?N; (case F => k_asm); (case N => k_asm)))
local macro_rules | `(tactic| walk_at "inplaceOp Add str str") => `(tactic| (k_here; (with_reducible show wpAny _ _ (inplaceOp Operator.Add (Value.str _ _) (Value.str _ _)) _ _ _); (refine iadd_txt (by omega) (by decide) ?_); intro t9 tk9))
local macro_rules | `(tactic| walk_at "eval Name") => `(tactic| ((with_reducible refine inGenN ?_); k_dflt (refine' nameG_global ?X ?T ?e ?_ ?hg ?hk ?hx; (case X => with_reducible assumption); (case T => with_reducible assumption); (case e => k_is); (case hg => exact rfl); (case hk => exact rfl); (case hx => exact rfl); k_whole)))
local macro_rules | `(tactic| walk_at "eval Name") => `(tactic| ((with_reducible refine inGenN ?_); k_dflt (refine nameG_local (by with_reducible assumption) (by with_reducible assumption) ?_ (by with_reducible rfl) (by rfl))))
local macro_rules | `(tactic| walk_at "eval GeneratorExp") => `(tactic| (k_here; k_dflt (refine' genexpK ?hh ?hco ?hclos ?hcell ?h0 ?hx ?hkind ?hroom ?hs ?_; (case hh => first | exact rfl | assumption); (case hco => exact rfl); (case hclos => exact rfl); (case hcell => decide); (case h0 => exact rfl); (case hx => exact rfl); (case hkind => exact rfl); (case hroom => ktr_room); (case hs => intro _; exact rfl); k_whole)))
local macro_rules | `(tactic| walk_at "call builtin:str.split") => `(tactic| (k_here; (with_reducible show wpAny _ _ (call (Value.builtin "str.split") [Value.str _ _, Value.str _ _]) _ _ _); (refine KSpl.split1 (by k_asm) (by k_asm) (by decide) ?_ (split_size2 (by assumption))); intro D9 l9 h9 k9 e9 a9 F9 N9 l9'; (try k_lt l9')))
local macro_rules | `(tactic| walk_at "GenIt") => `(tactic| (k_here; k_dflt (refine' GenIt.list2 (EOne := TxtOne strip0) _ ?F ?X ?T ?N (listAt ?N2 ?hm) ?C ?ht ?U ?hcd ?hge ?G ?_; (case F => k_asm); (case X => k_asm); (case T => k_asm); (case N => k_asm); (case N2 => k_asm); (case hm => k_mem); (case C => exact code_270 (by k_asm)); (case U => k_updF); (case ht => assumption); (case hcd => exact rfl); (case hge => exact rfl); (case G => assumption); k_whole); (refine And.intro ?_ ?_) <;> first
  | (intro A' E' p' s' m' C' c' hp' hA' hD' hn' hm' X' T'; have hP' := part_len (by assumption) (by assumption) p' hp'; clear hp')
  | (intro a' ps' s' F' N' ht' G' hos' X'; try dsimp only)))
local macro_rules | `(tactic| walk_at "ElPost") => `(tactic| k_dflt (refine txt_end ?_; first | exact strip0_yes (by assumption) | exact strip0_no (by assumption)))
local macro_rules | `(tactic| walk_at "call builtin:str.join") => `(tactic| (k_here; (with_reducible show wpAny _ _ (call (Value.builtin "str.join") [Value.str _ _, Value.ref _]) _ _ _); k_dflt (refine' joinOn2 ?F ?N ?G ?X ?e ?ok ?l ?r ?_; (case X => with_reducible assumption); (case F => k_asm); (case N => k_asm); (case G => assumption); (case e => with_reducible assumption); (case ok => with_reducible assumption); (case l => with_reducible assumption); (case r => with_reducible assumption)); intro s9 t9 F9 N9 G9 os9; (try dsimp only)))
local macro_rules | `(tactic| walk_at "call ref") => `(tactic| (k_here; (with_reducible show wpAny _ _ (call (Value.ref 388) _ _) _ _ _); k_dflt (refine' ver_new2 ?H (.inl rfl) ?y ?B ?F ?X (news2 ?N ?m1 ?m2) ?hap ?ht ?G ?T ?kk ?hd ?hu ?_; (case H => assumption); (case y => first | assumption | exact rfl); (case B => k_asm); (case F => k_asm); (case X => k_asm); (case N => k_asm); (case m1 => k_mem); (case m2 => exact mem_268 (by k_mem)); (case hap => exact ne_268); (case ht => assumption); (case G => assumption); (case T => k_asm); (case kk => first | exact rfl | assumption); (case hd => ktr_room); (case hu => ktr_units)); intro s9 v9 pre9 bld9 objs9 ps9 ep9 eq9 ver9 ht9 F9 N9 G9 os9 ne9 ap9; (try dsimp only)))

local macro_rules | `(tactic| walk_at "call builtin:str.join") => `(tactic| (k_here; (with_reducible show wpAny _ _ (call (Value.builtin "str.join") [Value.str _ _, Value.ref _]) _ _ _); k_dflt (refine' joinL ?N ?m ?e ?ok ?r ?_; (case N => k_asm); (case m => k_mem); (case e => with_reducible assumption); (case ok => with_reducible assumption); (case r => with_reducible assumption)); intro t9 k9; (try dsimp only)))
local macro_rules | `(tactic| walk_at "eval ListComp") => `(tactic| (k_here; k_dflt (refine' ListComp_str ?F ?hclos ?hcell ?hkind ?hnames ?hx ?_ ?hs; (case F => k_asm); (case hclos => exact rfl); (case hcell => decide); (case hkind => exact rfl); (case hnames => decide); (case hx => exact rfl); (case hs => intro _; exact rfl); k_whole)))
local macro_rules | `(tactic| walk_at "StrSrc") => `(tactic| (k_dflt (refine' StrSrc.intro gS ?hh ?F ?N ?hsz ?_; (case hh => first | exact rfl | assumption); (case F => k_asm); (case N => k_asm); (case hsz => exact str_line (by omega)); k_whole); (refine And.intro ?_ ?_) <;> first
  | (intro g0' c' u' I' oI' C' oC' D' m2' ys' h' tk' E' hc' hC' hx' F' N' off' ne'; clear hc'; (try simp only [LCg.Off3, and_true] at off'); (try dsimp only))
  | (intro D' h' tk' lt' hl' F' N' o1'; (try simp only [LCg.Off1, and_true] at o1'); (try dsimp only))))
local macro_rules | `(tactic| walk_at "MapEl") => `(tactic| (k_dflt (refine MapEl.intro ?_; first | exact gS_in (by with_reducible assumption) | exact gS_plus (by with_reducible assumption) | exact gS_out (by with_reducible assumption) (by with_reducible assumption))))
local macro_rules | `(tactic| walk_at "call builtin:str.replace") => `(tactic| (k_here; (with_reducible show wpAny _ _ (call (Value.builtin "str.replace") [Value.str _ _, Value.str _ _, Value.str _ _]) _ _ _); (refine' replaceR ?a ?b ?c ?d ?e ?f ?g ?_; (case a => first | exact Nat.ne_of_gt (by assumption) | omega | simp); (case b => first | omega | simp); (case c => first | omega | (simp; omega) | simp); (case d => decide); (case e => first | omega | decide); (case f => decide); (case g => assumption)); intro t9 k9; (try dsimp only)))
local macro_rules | `(tactic| walk_at "call builtin:str.split") => `(tactic| (k_here; (with_reducible show wpAny _ _ (call (Value.builtin "str.split") [Value.str _ _, Value.str _ _, Value.int _ _]) _ _ _); k_dflt (refine' split_two ?F ?N ?y ?x ?s ?_; (case F => k_asm); (case N => k_asm); (case y => decide); (case x => assumption); (case s => assumption)); intro D9 tp9 tq9 h9 k9 F9 N9 l9'; (try k_lt l9'); (try dsimp only)))
local macro_rules | `(tactic| walk_at "execs cons") => `(tactic| (k_here; (refine gen_toks (by omega) ?_); intro tk9 htk9; (with_reducible refine wpAny_execs_cons ?_); (try dsimp only)))
local macro_rules | `(tactic| walk_at "execs nil") => `(tactic| (k_here; (refine gen_toks (by omega) ?_); intro tk9 htk9; (with_reducible refine wpAny_execs_nil ?_); (try dsimp only)))
local macro_rules | `(tactic| walk_at "truthy str") => `(tactic| (k_here; (with_reducible show wpAny _ _ (PySem.truthy (Value.str _ _)) _ _ _); refine truthy_txt (by assumption) (by assumption) ?_; intro k9; (try dsimp only)))
local macro_rules | `(tactic| walk_at "call builtin:len") => `(tactic| (k_here; (with_reducible rename EndCase _ _ _ => hC9); k_dflt (rcases hC9 with ⟨q1, q2⟩ | ⟨r9, q1, q2, q3, q4, q5, q6⟩)))
local macro_rules | `(tactic| walk_at "eval Subscript") => `(tactic| (k_here; (with_reducible show wpAny _ _ (eval (Expr.Subscript _ (Expr.Constant _ _ _) _) _) _ _ _); (with_reducible rename RestCase _ _ _ => hC9); k_dflt (rcases hC9 with ⟨b9, q1, q2, q3, q4, q5⟩ | ⟨b9, q1, q2, q3, q4, q5, q6⟩ | ⟨q1, q2, q3, q4, q5, q6, q7, q8⟩ | ⟨p9, qq9, b9, q1, q2, q3, q4, q5, q6, q7, q8, q9, q10, q11, q12, q13⟩)))
set_option pp.deepTerms false in
set_option pp.deepTerms.threshold 5 in
set_option maxHeartbeats 8000000 in
theorem coerce_ok {w : World} {mg mb : Str → Option Value} {loose : List Str} {mean : ExcName → Option Value} {x : Str} {t1 : Tok} (hx0 : 0 < x.length) (hx : x.length < 10000) (he : 0 < numEnd x) (he0 : (numEnd x == 0) = false)
    {n1 : Nat} {v1 v2 : Str} (hpad : PadTo n1 (Txt.slice x none (some (numEnd x))) v1) (hv1 : v1.length ≤ 12000) (hvp : ∀ y ∈ Txt.split v1 (Str.ofString "."), y.length ≤ 12000) (hvl : (Txt.split v1 (Str.ofString ".")).length ≤ 1000) (hjo : JoinOk (Str.ofString ".") ((Txt.split v1 (Str.ofString ".")).map strip0) = true) (hv2 : Txt.join (Str.ofString ".") ((Txt.split v1 (Str.ofString ".")).map strip0) = v2) (hv2l : v2.length < 10000)
    {y : Str} (hcase : EndCase x v2 y) {ga gb gc : Str} {gp gq : Option Str} {i1 i2 i3 : Int} (H : POK y ga gb gc gp gq i1 i2 i3)
    {dp un : Nat} {gd : Option (List Code)} {cn : Str} {cs : Scope} {a : Addr} {ccd : Value} {cl : List (Str × Addr)} {outer : List Env} {A₀ : Around} {base h₀ : Heap} {L : Addr} {m : Str → Option Value} {s : Shared} {Q E : Value → Shared → Prop} {news : List (Addr × Obj)} {ps1 ps : Array Value}
    (B : Below A₀ base outer h₀) (F : Fr h₀ L s.heap m) (X : (Mine.hd.heap_39 w.params).In h₀) (NS : News h₀ L s.heap [(268, tabObj ps1), (323, tabObj ps)]) (N : News h₀ L s.heap news) (hap : ∀ q ∈ ([(268, tabObj ps1), (323, tabObj ps)] : List (Addr × Obj)), ∀ r ∈ news, q.1 ≠ r.1) (ht1 : TriplesOk ps1.toList) (ht : TriplesOk ps.toList) (G : AllBare s.gens) (T : Top topProg loose mean mg mb h₀) (hk : cs.kind = .function) (hd : dp + 60 < recursionLimit) (hu : un + 300 < cLine)
    (hret : ∀ (s' : Shared) (v : Addr) (pre bld : List (Str × Tok)) (objs : List (Addr × Obj)) (ps1' ps' : Array Value), PartsOf gp pre → PartsOf gq bld → IsVer i1 i2 i3 pre bld v objs → TriplesOk ps1'.toList → TriplesOk ps'.toList → Fr h₀ L s'.heap m →
      News h₀ L s'.heap ((268, tabObj ps1') :: (323, tabObj ps') :: (objs ++ news)) → AllBare s'.gens → s'.os = s.os → (∀ q ∈ objs, q.1 ≠ (268 : Nat) ∧ q.1 ≠ (323 : Nat)) → (∀ q ∈ objs, ∀ r ∈ news, q.1 ≠ r.1) → Q (.ref v) s') :
    codeAny (model PR w) (ktrTop dp un gd cn cs L a ccd cl outer) (.call (.ref 271) ⟨[.ref 388, .str x t1], []⟩) (fun r s' => match r with | .ok (.ret v) => Q v s' | .ok _ => False | .error e => E e s') s := by
  k_dflt (refine' enterB B F X NS N hap T ?kA ?kF ?kK ?k6 ?k7 ?k8 ?k9 ?kB ?_ ?c2 ?c3 ?c4 ?c5; (case kA => exact rfl); (case kF => exact rfl); (case kK => exact hk); (case k6 => k_is); (case k7 => k_is); (case k8 => ktr_room); (case k9 => first | exact BindsTo.of_eq rfl | exact binds_K (by k_in) rfl (by k_is) rfl rfl rfl); (case c5 => decide); (case kB => exact locs rfl); (case c2 => exact rfl); (case c3 => exact rfl); (case c4 => exact rfl); k_whole; intro g L' h' FG' F' N' B' X' T'; (try dsimp only); (try k_fold))
  clear NS N B F X T hap
  k_steps
  all_goals (
    rename_i kF kN0 kN kA
    k_dflt (refine' hret _ _ _ _ _ _ _ ?ep ?eq ?ver ?ht1 ?ht ?F (coerce_news kN) ?G ?os ?ne ?ap)
    (case ep => assumption)
    (case eq => assumption)
    (case ver => assumption)
    (case ht => assumption)
    (case ht1 => assumption)
    (case F => exact kF)
    (case G => assumption)
    (case os => first | exact (by assumption : _ = _) | (simp only [*]))
    (case ne => exact coerce_ne (by assumption) (by assumption))
    (case ap => exact coerce_ap kA))
end Mine
end
section
local macro_rules | `(tactic| walk_at "pad") => `(tactic| fail)
local macro_rules | `(tactic| walk_at "pad") => `(tactic| fail)
local macro_rules | `(tactic| walk_at "pad") => `(tactic| fail)
theorem Mine.reset_R3 : True := by w_top off; trivial
open PySem PySem.W PyProof.Rows PySem.Calls PySem.Spec
set_option Elab.async false
set_option maxRecDepth 100000
namespace Mine
local macro_rules | `(tactic| walk_at "ENTER") => `(tactic| k_dflt (refine' enterP ?k1 ?k2 ?k3 ?k4 ?k5 ?kA ?kF ?kK ?k6 ?k7 ?k8 ?k9 ?kB ?_ ?c2 ?c3 ?c4 ?c5; (case kA => exact rfl); (case kF => exact rfl); (case kK => first | exact rfl | assumption); (case k1 => k_asm); (case k2 => k_asm); (case k3 => k_asm); (case k4 => k_asm); (case k5 => k_asm); (case k6 => k_is); (case k7 => k_is); (case k8 => ktr_room); (case k9 => first | exact BindsTo.of_eq rfl | exact binds_K (by k_in) rfl (by k_is) rfl rfl rfl); (case c5 => decide); (case kB => exact locs rfl); (case c2 => exact rfl); (case c3 => exact rfl); (case c4 => exact rfl); k_whole; intro L' h' F' N' B' X' T'; (try dsimp only); (try k_fold)))
local macro_rules | `(tactic| walk_at "LeaveP") => `(tactic| (k_dflt (refine' LeaveP.intro ?k1 ?k2 ?_; (case k1 => k_asm); (case k2 => k_asm); k_whole); intro kF kN0 kN kA; (try (with_reducible rename Frag.In _ _ => hx9); clear hx9); (try (with_reducible rename Top _ _ _ _ _ _ => hx9); clear hx9); (try (with_reducible rename Below _ _ _ _ => hx9); clear hx9); (try simp only [List.cons_append, List.nil_append] at kN); (try dsimp only)))
local macro_rules | `(tactic| walk_at "call ref") => `(tactic| (k_here; k_dflt (first
  | (refine' call_meth ?k1 ?k2 ?_; (case k1 => k_asm); (case k2 => k_mem); k_whole; walk_at "ENTER")
  | (refine wpAny_call ?_; walk_at "ENTER"))))

local macro_rules | `(tactic| k_all) => `(tactic| k_dflt (first | assumption | exact all_app (by assumption) (by assumption)))
/-- _cmp of all versions with these parts gives r -/
def CmpAll (i1 i2 i3 : Int) (gp gq : Option Str) (i1' i2' i3' : Int) (gp' gq' : Option Str) (r : Int) : Prop := ∀ {v v' : Addr} {pre bld pre' bld' : List (Str × Tok)} {objs objs' : List (Addr × Obj)}, IsVer i1 i2 i3 pre bld v objs → IsVer i1' i2' i3' pre' bld' v' objs' → PartsOf gp pre → PartsOf gq bld → PartsOf gp' pre' → PartsOf gq' bld' → CmpV v v' (objs ++ objs') r
theorem cmp_subs {α : Type} {x : α} {a b : List α} : ∀ q ∈ a ++ b, q ∈ x :: (b ++ a) := by
  intro q hq
  simp only [List.mem_cons, List.mem_append] at hq ⊢
  rcases hq with hq | hq <;> simp only [hq, true_or, or_true]
theorem cmp_news {h₀ h : Heap} {L : Addr} {a : Addr × Obj} {l o news : List (Addr × Obj)} (_kA : ∀ p ∈ a :: o, ∀ q ∈ news, p.1 ≠ q.1) (N : News h₀ L h l) (e : a :: (o ++ news) = l) : News h₀ L h (a :: (o ++ news)) := e ▸ N
theorem cmp_ap {o news : List (Addr × Obj)} {a : Addr × Obj} (k : ∀ p ∈ a :: o, ∀ q ∈ news, p.1 ≠ q.1) : ∀ q ∈ o, ∀ r ∈ news, q.1 ≠ r.1 := fun q hq => k q (List.mem_cons_of_mem _ hq)
theorem fillR3 : (PySem.Challenge.rw_ci0037_01, Mine.hd.heap_39) = (PySem.Challenge.rw_ci0037_01, Mine.hd.heap_39) := by k_fill; rfl
theorem ne_323 {l : List (Addr × Obj)} (h : ∀ q ∈ l, q.1 ≠ (323 : Nat)) : ∀ r ∈ l, (323 : Nat) ≠ r.1 := fun r hr e => h r hr e.symm
local macro_rules | `(tactic| walk_at "call ref") => `(tactic| (k_here; (with_reducible show wpAny _ _ (call (Value.ref 343) _) _ _ _); (with_reducible rename CmpAll _ _ _ _ _ _ _ _ _ _ _ => hC9); k_dflt (refine' wpAny_call (cmp_call ?C ?hh ?hr ?hu ?F ?X ?T ?N ?hs ?_); (case C => exact hC9 (by with_reducible assumption) (by with_reducible assumption) (by assumption) (by assumption) (by assumption) (by assumption)); (case hh => exact rfl); (case hr => ktr_room); (case hu => ktr_units); (case F => k_asm); (case X => k_asm); (case T => k_asm); (case N => k_asm); (case hs => exact cmp_subs)); intro h9 tk9 t9 F9 N9; (try dsimp only)))
local macro_rules | `(tactic| walk_at "call ref") => `(tactic| (k_here; (with_reducible show wpAny _ _ (call (Value.ref 388) _ _) _ _ _); k_dflt (refine' ver_new2 ?H (.inr rfl) ?y ?B ?F ?X ?N ?hap ?ht ?G ?T ?kk ?hd ?hu ?_; (case y => exact rfl); (case H => with_reducible assumption); (case B => k_asm); (case F => k_asm); (case X => k_asm); (case N => k_asm); (case hap => first | exact List.forall_mem_nil _ | exact ne_323 (by assumption)); (case ht => assumption); (case G => assumption); (case T => k_asm); (case kk => first | exact rfl | assumption); (case hd => ktr_room); (case hu => ktr_units)); intro s9 v9 pre9 bld9 objs9 ps9 ep9 eq9 ver9 ht9 F9 N9 G9 os9 ne9 ap9; have ver8 := ver9; k_dflt (obtain ⟨dx9, tp9, tb9, ck9, sk9, h19, h29, h39, h49, h59, h69, h79, h89, k19, k29, k39, k49, k59, k69, k79, k89, m19, m29, m39, ko49, ko59, K49, K59, ho9⟩ := ver9); clear K49 K59; subst ho9; (simp only [List.cons_append, List.append_nil] at N9); (try dsimp only)))

set_option pp.deepTerms false in
set_option pp.deepTerms.threshold 5 in
set_option maxHeartbeats 8000000 in
theorem compare_ok {w : World} {mg mb : Str → Option Value} {loose : List Str} {mean : ExcName → Option Value} {x x' : Str} {t1 t1' : Tok} {ga gb gc : Str} {gp gq : Option Str} {i1 i2 i3 : Int} (H : POK x ga gb gc gp gq i1 i2 i3) {ga' gb' gc' : Str} {gp' gq' : Option Str} {i1' i2' i3' : Int} (H' : POK x' ga' gb' gc' gp' gq' i1' i2' i3')
    {r : Int} (hC : CmpAll i1 i2 i3 gp gq i1' i2' i3' gp' gq' r)
    {dp un : Nat} {gd : Option (List Code)} {cn : Str} {cs : Scope} {a : Addr} {ccd : Value} {cl : List (Str × Addr)} {outer : List Env} {A₀ : Around} {base h₀ : Heap} {L : Addr} {m : Str → Option Value} {s : Shared} {Q E : Value → Shared → Prop} {news : List (Addr × Obj)} {ps : Array Value}
    (B : Below A₀ base outer h₀) (F : Fr h₀ L s.heap m) (X : (Mine.hd.heap_39 w.params).In h₀) (NS : News h₀ L s.heap [(323, tabObj ps)]) (N : News h₀ L s.heap news) (hap : ∀ q ∈ ([(323, tabObj ps)] : List (Addr × Obj)), ∀ r ∈ news, q.1 ≠ r.1) (ht : TriplesOk ps.toList) (G : AllBare s.gens) (T : Top topProg loose mean mg mb h₀) (hk : cs.kind = .function) (hd : dp + 300 < recursionLimit) (hu : un + 400 < cLine)
    (hret : ∀ (s' : Shared) (t : Tok) (objs : List (Addr × Obj)) (ps' : Array Value), TriplesOk ps'.toList → Fr h₀ L s'.heap m →
      News h₀ L s'.heap ((323, tabObj ps') :: (objs ++ news)) → AllBare s'.gens → s'.os = s.os → (∀ q ∈ objs, ∀ r ∈ news, q.1 ≠ r.1) → Q (.int r t) s') :
    codeAny (model PR w) (ktrTop dp un gd cn cs L a ccd cl outer) (.call (.ref 399) ⟨[.str x t1, .str x' t1'], []⟩) (fun r s' => match r with | .ok (.ret v) => Q v s' | .ok _ => False | .error e => E e s') s := by
  k_dflt (refine' enterB B F X NS N hap T ?kA ?kF ?kK ?k6 ?k7 ?k8 ?k9 ?kB ?_ ?c2 ?c3 ?c4 ?c5; (case kA => exact rfl); (case kF => exact rfl); (case kK => exact hk); (case k6 => k_is); (case k7 => k_is); (case k8 => ktr_room); (case k9 => first | exact BindsTo.of_eq rfl | exact binds_K (by k_in) rfl (by k_is) rfl rfl rfl); (case c5 => decide); (case kB => exact locs rfl); (case c2 => exact rfl); (case c3 => exact rfl); (case c4 => exact rfl); k_whole; intro g L' h' FG' F' N' B' X' T'; (try dsimp only); (try k_fold))
  clear NS N B F X T hap
  k_steps
  rename_i kF kN0 kN kA
  k_dflt (refine' hret _ _ _ _ ?ht ?F (cmp_news kA kN ?e) ?G ?os ?ap)
  (case e => simp only [List.cons_append, List.append_assoc])
  (case ht => assumption)
  (case F => exact kF)
  (case G => assumption)
  (case os => simp only [*])
  (case ap => exact cmp_ap kA)
end Mine
end
section
local macro_rules | `(tactic| walk_at "pad") => `(tactic| fail)
local macro_rules | `(tactic| walk_at "pad") => `(tactic| fail)
theorem Mine.reset_V0 : True := by w_top off; trivial
open PySem PySem.W PyProof.Rows PySem.Calls PySem.Spec
set_option Elab.async false
set_option maxRecDepth 100000
namespace Mine
local macro_rules | `(tactic| walk_at "ENTER") => `(tactic| k_dflt (refine' enterP ?k1 ?k2 ?k3 ?k4 ?k5 ?kA ?kF ?kK ?k6 ?k7 ?k8 ?k9 ?kB ?_ ?c2 ?c3 ?c4 ?c5; (case kA => exact rfl); (case kF => exact rfl); (case kK => first | exact rfl | assumption); (case k1 => k_asm); (case k2 => k_asm); (case k3 => k_asm); (case k4 => k_asm); (case k5 => k_asm); (case k6 => k_is); (case k7 => k_is); (case k8 => ktr_room); (case k9 => first | exact BindsTo.of_eq rfl | exact binds_K (by k_in) rfl (by k_is) rfl rfl rfl); (case c5 => decide); (case kB => exact locs rfl); (case c2 => exact rfl); (case c3 => exact rfl); (case c4 => exact rfl); k_whole; intro L' h' F' N' B' X' T'; (try dsimp only); (try k_fold)))
local macro_rules | `(tactic| walk_at "LeaveP") => `(tactic| (k_dflt (refine' LeaveP.intro ?k1 ?k2 ?_; (case k1 => k_asm); (case k2 => k_asm); k_whole); intro kF kN0 kN kA; (try (with_reducible rename Frag.In _ _ => hx9); clear hx9); (try (with_reducible rename Top _ _ _ _ _ _ => hx9); clear hx9); (try (with_reducible rename Below _ _ _ _ => hx9); clear hx9); (try simp only [List.cons_append, List.nil_append] at kN); (try dsimp only)))
local macro_rules | `(tactic| walk_at "call ref") => `(tactic| (k_here; k_dflt (first
  | (refine' call_meth ?k1 ?k2 ?_; (case k1 => k_asm); (case k2 => k_mem); k_whole; walk_at "ENTER")
  | (refine wpAny_call ?_; walk_at "ENTER"))))

local macro_rules | `(tactic| k_all) => `(tactic| k_dflt (first | assumption | exact all_app (by assumption) (by assumption)))
theorem fillV0 : (PySem.Challenge.rw_ci0037_01, Mine.hd.heap_39) = (PySem.Challenge.rw_ci0037_01, Mine.hd.heap_39) := by k_fill; rfl
theorem vg_some {w mg mb loose mean} {x : Str} {t1 : Tok} {ga gb gc : Str} {gp gq : Option Str} (hx : x.length < 10000) (hn : (Txt.slice x (some (-1)) none == Str.ofString "\n") = false) (hv : VG x = some (ga, gb, gc, gp, gq))
    {dp un : Nat} {gd : Option (List Code)} {cn : Str} {cs : Scope} {a : Addr} {ccd : Value} {cl : List (Str × Addr)} {outer : List Env} {A₀ : Around} {base h₀ : Heap} {L : Addr} {m : Str → Option Value} {s : Shared} {Q E : Value → Shared → Prop} {news : List (Addr × Obj)}
    (B : Below A₀ base outer h₀) (F : Fr h₀ L s.heap m) (X : (Mine.hd.heap_39 w.params).In h₀) (N : News h₀ L s.heap news) (T : Top topProg loose mean mg mb h₀) (hk : cs.kind = .function) (hd : dp + 2 < recursionLimit) (hu : un + 16 < cLine)
    (hret1 : ∀ (l : Addr) (ta tb tc : Tok) (vp vq : Value) (n : Nat) (h' : Heap) (tk' : Nat), optV gp vp → optV gq vq → Fr h₀ L h' m →
      News h₀ L h' ((l, listOf #[.str ga ta, .str gb tb, .str gc tc, vp, vq] n) :: news) → (∀ p ∈ news, p.1 ≠ l) → Q (.ref l) { s with heap := h', toks := tk' }) :
    wpAny (model PR w) (ktrTop dp un gd cn cs L a ccd cl outer) (call (.ref 42) [.str x t1, .bool false]) Q E s :=
  vg_spec x t1 hx hn _ _ _ _ _ _ _ _ _ _ _ _ _ _ _ _ _ _ B F X N T hk hd hu (fun e => nomatch (hv.symm.trans e)) (fun a b c p q e l ta tb tc vp vq n h' tk' hp hq F' N' ap => by
    have e' := Option.some.inj (hv.symm.trans e)
    cases e'
    exact hret1 l ta tb tc vp vq n h' tk' hp hq F' N' ap)
theorem vg_none {w mg mb loose mean} {x : Str} {t1 : Tok} (hx : x.length < 10000) (hn : (Txt.slice x (some (-1)) none == Str.ofString "\n") = false) (hv : VG x = none)
    {dp un : Nat} {gd : Option (List Code)} {cn : Str} {cs : Scope} {a : Addr} {ccd : Value} {cl : List (Str × Addr)} {outer : List Env} {A₀ : Around} {base h₀ : Heap} {L : Addr} {m : Str → Option Value} {s : Shared} {Q E : Value → Shared → Prop} {news : List (Addr × Obj)}
    (B : Below A₀ base outer h₀) (F : Fr h₀ L s.heap m) (X : (Mine.hd.heap_39 w.params).In h₀) (N : News h₀ L s.heap news) (T : Top topProg loose mean mg mb h₀) (hk : cs.kind = .function) (hd : dp + 2 < recursionLimit) (hu : un + 16 < cLine)
    (hret0 : ∀ (h' : Heap) (tk' : Nat), Fr h₀ L h' m → News h₀ L h' news → Q .none { s with heap := h', toks := tk' }) :
    wpAny (model PR w) (ktrTop dp un gd cn cs L a ccd cl outer) (call (.ref 42) [.str x t1, .bool false]) Q E s :=
  vg_spec x t1 hx hn _ _ _ _ _ _ _ _ _ _ _ _ _ _ _ _ _ _ B F X N T hk hd hu (fun _ => hret0) (fun _ _ _ _ _ e => nomatch (hv.symm.trans e))
theorem lz_true {w mg mb loose mean} {x : Str} {t1 : Tok} (hx : 0 < x.length) (hx2 : x.length < 10000) (hz : lz x = true)
    {dp un : Nat} {gd : Option (List Code)} {cn : Str} {cs : Scope} {a : Addr} {ccd : Value} {cl : List (Str × Addr)} {outer : List Env} {A₀ : Around} {base h₀ : Heap} {L : Addr} {m : Str → Option Value} {s : Shared} {Q E : Value → Shared → Prop} {news : List (Addr × Obj)}
    (B : Below A₀ base outer h₀) (F : Fr h₀ L s.heap m) (X : (Mine.hd.heap_39 w.params).In h₀) (N : News h₀ L s.heap news) (T : Top topProg loose mean mg mb h₀) (hk : cs.kind = .function) (hd : dp + 2 < recursionLimit) (hu : un + 16 < cLine)
    (hret : ∀ (h' : Heap) (tk' : Nat), Fr h₀ L h' m → News h₀ L h' news → Q (.bool true) { s with heap := h', toks := tk' }) :
    wpAny (model PR w) (ktrTop dp un gd cn cs L a ccd cl outer) (call (.ref 49) [.str x t1]) Q E s :=
  lz_spec x t1 hx hx2 _ _ _ _ _ _ _ _ _ _ _ _ _ _ _ _ _ _ B F X N T hk trivial hd hu (fun _ h' tk' F' N' => by rw [hz]; exact hret h' tk' F' N')

section
variable {prog : Program} {w : World} {A₀ A : Around} {s : Shared} {K : Frag} {L : Addr} {h₀ base : Heap} {m mg mb : Str → Option Value} {news : List (Addr × Obj)} {p : Program} {loose : List Str} {mean : ExcName → Option Value}
/-- back from a def that may have caught an exception -/
def LeaveV (fs : List Addr) (h₀ : Heap) (L : Addr) (m : Str → Option Value) (news : List (Addr × Obj)) (g : Heap) (R : Result → Shared → Prop) (v : Value) (s' : Shared) : Prop :=
  ∃ g' L' m', KtsTurn fs g g' ∧ Fr g' L' s'.heap m' ∧ (Fr h₀ L s'.heap m → News h₀ L s'.heap news → R (.ok (.ret v)) s')
theorem LeaveV.intro {fs : List Addr} {g g' : Heap} {L' : Addr} {m' : Str → Option Value} {R : Result → Shared → Prop} {v : Value} {s' : Shared} (F' : Fr g' L' s'.heap m') (T : KtsTurn fs g g')
    (k : Fr h₀ L s'.heap m → News h₀ L s'.heap news → R (.ok (.ret v)) s') : LeaveV fs h₀ L m news g R v s' := ⟨g', L', m', T, F', k⟩
theorem enterV {env : Env} {R : Result → Shared → Prop} {name qual : Str} {params : Arguments} {body : List Stmt} {scope : Scope} {dV kV doc pm cdv ct oc : Value} {an od : Option Addr} {osl : Array (Option Value)} {f : Addr} {args : Args} {binds : List (Str × Value)}
    (B : Below A₀ base [] h₀) (F : Fr h₀ L s.heap m) (X₀ : K.In h₀) (N : News h₀ L s.heap news) (T : Top p loose mean mg mb h₀) (hA : A.frames = some [env]) (hf : env.frame = some L) (hke : env.scope.kind = .function)
    (ho : K.lookup f = some ⟨oc, od, .func (fnOf name qual params body scope dV kV doc pm an cdv ct), osl⟩) (hcd : codeIn K cdv qual = true) (hroom : A.depth < recursionLimit)
    (hbind : BindsTo s (fnOf name qual params body scope dV kV doc pm an cdv ct) args binds) (hloc : ∀ y ∈ binds, scope.names.lookup y.1 = some .local)
    (h : ∀ L' h₁, Fr s.heap L' h₁ (fun y => binds.reverse.lookup y) → News s.heap L' h₁ [] → Below A base [env] s.heap → K.In s.heap → Top p loose mean mg mb s.heap → KtsDicts ([env].filterMap (·.frame)) s.heap →
      wpAny (model prog w) (A.deeper (envOf qual scope L' f cdv)) (execs body (envOf qual scope L' f cdv))
        (fun fl s' => LeaveV ([env].filterMap (·.frame)) h₀ L m news s.heap R (match fl with | .ret v => v | _ => .none) s')
        (fun e s' => wpAny (model prog w) (A.deeper (envOf qual scope L' f cdv)) («leaving» (envOf qual scope L' f cdv) e) (fun _ s'' => R (.error e) s'') (fun e' s'' => R (.error e') s'') s')
        { s with heap := h₁, toks := s.toks + binds.length })
    (hco : scope.isCoroutine = false) (hgen : scope.isGenerator = false) (hk : scope.kind = .function)
    (hcell : ∀ x ∈ scope.names, x.2 ≠ .cell) : codeAny (model prog w) A (.call (.ref f) args) R s := by
  have X := X₀.keeps F.keep
  have fm : [env].filterMap (·.frame) = [L] := by simp [hf]
  obtain ⟨oL, es, ep, hL, hLd, hLk, hLf⟩ := F.ns
  have D : KtsDicts ([env].filterMap (·.frame)) s.heap := fun b hb => by
    rw [fm] at hb
    cases List.mem_singleton.mp hb
    exact ⟨oL, es, ep, hL, hLd⟩
  refine codeAny_call_def (fd := fnOf name qual params body scope dV kV doc pm an cdv ct) (body := body) (binds := binds) hroom (X _ _ ho) rfl (T.nolimit.keeps F.keep) (codeRec_of X hcd) rfl hbind hcell hloc (fun h₁ hns hk₁ => ?_) hco hgen hk
  refine wpAny_mono (h s.heap.objs.size h₁ ⟨hns, hk₁, Nat.le_refl _⟩ News.nil (below_here B F hA hf hke) X (T.keeps F.keep) D) (fun fl s' hl => ?_) fun _ _ y => y
  obtain ⟨g', L', m', T', F', k⟩ := hl
  obtain ⟨sl, hs⟩ := T'.up hL
  have nL₀ : h₀.get? L = none := kts_self F
  refine k ⟨⟨_, es, ep, F'.keep _ _ hs, hLd, hLk, hLf⟩, fun b o e => F'.keep b o (T'.other b o (F.keep b o e) fun q => ?_), F.above⟩ fun q hq => ⟨F'.keep _ _ (T'.other _ _ (N q hq).1 fun z => ?_), (N q hq).2⟩
  · rw [fm] at q
    cases List.mem_singleton.mp q
    rw [nL₀] at e; cases e
  · rw [fm] at z
    exact (N q hq).2.1 (List.mem_singleton.mp z)
end
local macro_rules | `(tactic| walk_at "LeaveV") => `(tactic| (k_dflt (refine' LeaveV.intro ?k1 ?k2 ?_; (case k1 => k_asm); (case k2 => first | assumption | exact KtsTurn.refl); k_whole); intro kF kN; (try dsimp only)))
local macro_rules | `(tactic| walk_at "call ref") => `(tactic| (k_here; (with_reducible show wpAny _ _ (call (Value.ref 42) _ _) _ _ _); k_dflt (refine' vg_none ?hx ?hn ?hv ?B ?F ?X ?N ?T ?kk ?hd ?hu ?_; (case B => k_asm); (case F => k_asm); (case X => k_asm); (case N => k_asm); (case T => k_asm); (case kk => first | exact rfl | assumption); (case hx => with_reducible assumption); (case hn => with_reducible assumption); (case hv => with_reducible assumption); (case hd => ktr_room); (case hu => ktr_units); intro h9 tk9 F9 N9; (try dsimp only); (try k_fold))))
local macro_rules | `(tactic| walk_at "call ref") => `(tactic| (k_here; (with_reducible show wpAny _ _ (call (Value.ref 42) _ _) _ _ _); k_dflt (refine' vg_some ?hx ?hn ?hv ?B ?F ?X ?N ?T ?kk ?hd ?hu ?_; (case B => k_asm); (case F => k_asm); (case X => k_asm); (case N => k_asm); (case T => k_asm); (case kk => first | exact rfl | assumption); (case hx => with_reducible assumption); (case hn => with_reducible assumption); (case hv => with_reducible assumption); (case hd => ktr_room); (case hu => ktr_units); intro l9 ta9 tb9 tc9 vp9 vq9 n9 h9 tk9 hp9 hq9 F9 N9 ap9; (try dsimp only); (try k_fold))))
local macro_rules | `(tactic| walk_at "call ref") => `(tactic| (k_here; (with_reducible show wpAny _ _ (call (Value.ref 49) _) _ _ _); k_dflt (refine' lz_false ?hx ?hx2 ?hz ?B ?F ?X ?N ?T ?kk ?hd ?hu ?_; (case B => k_asm); (case F => k_asm); (case X => k_asm); (case N => k_asm); (case T => k_asm); (case kk => first | exact rfl | assumption); (case hx => with_reducible assumption); (case hx2 => with_reducible assumption); (case hz => with_reducible assumption); (case hd => ktr_room); (case hu => ktr_units); intro h9 tk9 F9 N9; (try dsimp only); (try k_fold))))
local macro_rules | `(tactic| walk_at "call ref") => `(tactic| (k_here; (with_reducible show wpAny _ _ (call (Value.ref 49) _) _ _ _); k_dflt (refine' lz_true ?hx ?hx2 ?hz ?B ?F ?X ?N ?T ?kk ?hd ?hu ?_; (case B => k_asm); (case F => k_asm); (case X => k_asm); (case N => k_asm); (case T => k_asm); (case kk => first | exact rfl | assumption); (case hx => with_reducible assumption); (case hx2 => with_reducible assumption); (case hz => with_reducible assumption); (case hd => ktr_room); (case hu => ktr_units); intro h9 tk9 F9 N9; (try dsimp only); (try k_fold))))
local macro_rules | `(tactic| walk_at "exec Raise some none") => `(tactic| (exfalso; omega))
set_option pp.deepTerms false in
set_option pp.deepTerms.threshold 5 in
set_option maxHeartbeats 8000000 in
theorem validate_none {w : World} {mg mb : Str → Option Value} {loose : List Str} {mean : ExcName → Option Value} {x : Str} {t1 : Tok} (hx0 : 0 < x.length) (hx : x.length < 10000) (hxb : (x == Str.ofString "") = false) (hn : (Txt.slice x (some (-1)) none == Str.ofString "\n") = false) (hv : VG x = none)
    {dp un : Nat} {gd : Option (List Code)} {cn : Str} {cs : Scope} {a : Addr} {ccd : Value} {cl : List (Str × Addr)} {A₀ : Around} {base h₀ : Heap} {L : Addr} {m : Str → Option Value} {s : Shared} {Q E : Value → Shared → Prop} {news : List (Addr × Obj)}
    (B : Below A₀ base [] h₀) (F : Fr h₀ L s.heap m) (X : (Mine.hd.heap_39 w.params).In h₀) (N : News h₀ L s.heap news) (T : Top topProg loose mean mg mb h₀) (XB : (Mine.hd.heap_39 w.params).In base) (TB : Top topProg loose mean mg mb base) (hk : cs.kind = .function) (hd : dp + 60 < recursionLimit) (hu : un + 300 < cLine)
    (hret : ∀ (h' : Heap) (tk' : Nat), Fr h₀ L h' m → News h₀ L h' news → Q (.bool false) { s with heap := h', toks := tk' }) :
    codeAny (model PR w) (ktrTop dp un gd cn cs L a ccd cl []) (.call (.ref 406) ⟨[.str x t1], []⟩) (fun r s' => match r with | .ok (.ret v) => Q v s' | .ok _ => False | .error e => E e s') s := by
  k_dflt (refine' enterV B F X N T ?hA ?hf ?hke ?k6 ?k7 ?k8 ?k9 ?kB ?_ ?c2 ?c3 ?c4 ?c5; (case hA => exact rfl); (case hf => exact rfl); (case hke => exact hk); (case k6 => k_is); (case k7 => k_is); (case k8 => ktr_room); (case k9 => first | exact BindsTo.of_eq rfl | exact binds_K (by k_in) rfl (by k_is) rfl rfl rfl); (case c5 => decide); (case kB => exact locs rfl); (case c2 => exact rfl); (case c3 => exact rfl); (case c4 => exact rfl); k_whole; intro L' h' F' N' B' X' T' D'; (try dsimp only); (try k_fold))
  clear B F N X T
  k_steps
  rename_i kF kN
  exact hret _ _ kF kN
set_option pp.deepTerms false in
set_option pp.deepTerms.threshold 5 in
set_option maxHeartbeats 8000000 in
theorem validate_lza {w : World} {mg mb : Str → Option Value} {loose : List Str} {mean : ExcName → Option Value} {x : Str} {t1 : Tok} (hx0 : 0 < x.length) (hx : x.length < 10000) (hxb : (x == Str.ofString "") = false) (hn : (Txt.slice x (some (-1)) none == Str.ofString "\n") = false) {ga gb gc : Str} {gp gq : Option Str} (hv : VG x = some (ga, gb, gc, gp, gq)) (la : 0 < ga.length) (la2 : ga.length < 10000) (za : lz ga = true)
    {dp un : Nat} {gd : Option (List Code)} {cn : Str} {cs : Scope} {a : Addr} {ccd : Value} {cl : List (Str × Addr)} {A₀ : Around} {base h₀ : Heap} {L : Addr} {m : Str → Option Value} {s : Shared} {Q E : Value → Shared → Prop} {news : List (Addr × Obj)}
    (B : Below A₀ base [] h₀) (F : Fr h₀ L s.heap m) (X : (Mine.hd.heap_39 w.params).In h₀) (N : News h₀ L s.heap news) (T : Top topProg loose mean mg mb h₀) (XB : (Mine.hd.heap_39 w.params).In base) (TB : Top topProg loose mean mg mb base) (hk : cs.kind = .function) (hd : dp + 60 < recursionLimit) (hu : un + 300 < cLine)
    (hret : ∀ (h' : Heap) (tk' : Nat), Fr h₀ L h' m → News h₀ L h' news → Q (.bool false) { s with heap := h', toks := tk' }) :
    codeAny (model PR w) (ktrTop dp un gd cn cs L a ccd cl []) (.call (.ref 406) ⟨[.str x t1], []⟩) (fun r s' => match r with | .ok (.ret v) => Q v s' | .ok _ => False | .error e => E e s') s := by
  k_dflt (refine' enterV B F X N T ?hA ?hf ?hke ?k6 ?k7 ?k8 ?k9 ?kB ?_ ?c2 ?c3 ?c4 ?c5; (case hA => exact rfl); (case hf => exact rfl); (case hke => exact hk); (case k6 => k_is); (case k7 => k_is); (case k8 => ktr_room); (case k9 => first | exact BindsTo.of_eq rfl | exact binds_K (by k_in) rfl (by k_is) rfl rfl rfl); (case c5 => decide); (case kB => exact locs rfl); (case c2 => exact rfl); (case c3 => exact rfl); (case c4 => exact rfl); k_whole; intro L' h' F' N' B' X' T' D'; (try dsimp only); (try k_fold))
  clear B F N X T
  k_steps
  rename_i kF kN
  exact hret _ _ kF kN
set_option pp.deepTerms false in
set_option pp.deepTerms.threshold 5 in
set_option maxHeartbeats 8000000 in
theorem validate_lzb {w : World} {mg mb : Str → Option Value} {loose : List Str} {mean : ExcName → Option Value} {x : Str} {t1 : Tok} (hx0 : 0 < x.length) (hx : x.length < 10000) (hxb : (x == Str.ofString "") = false) (hn : (Txt.slice x (some (-1)) none == Str.ofString "\n") = false) {ga gb gc : Str} {gp gq : Option Str} (hv : VG x = some (ga, gb, gc, gp, gq)) (la : 0 < ga.length) (la2 : ga.length < 10000) (za : lz ga = false) (lb : 0 < gb.length) (lb2 : gb.length < 10000) (zb : lz gb = true)
    {dp un : Nat} {gd : Option (List Code)} {cn : Str} {cs : Scope} {a : Addr} {ccd : Value} {cl : List (Str × Addr)} {A₀ : Around} {base h₀ : Heap} {L : Addr} {m : Str → Option Value} {s : Shared} {Q E : Value → Shared → Prop} {news : List (Addr × Obj)}
    (B : Below A₀ base [] h₀) (F : Fr h₀ L s.heap m) (X : (Mine.hd.heap_39 w.params).In h₀) (N : News h₀ L s.heap news) (T : Top topProg loose mean mg mb h₀) (XB : (Mine.hd.heap_39 w.params).In base) (TB : Top topProg loose mean mg mb base) (hk : cs.kind = .function) (hd : dp + 60 < recursionLimit) (hu : un + 300 < cLine)
    (hret : ∀ (h' : Heap) (tk' : Nat), Fr h₀ L h' m → News h₀ L h' news → Q (.bool false) { s with heap := h', toks := tk' }) :
    codeAny (model PR w) (ktrTop dp un gd cn cs L a ccd cl []) (.call (.ref 406) ⟨[.str x t1], []⟩) (fun r s' => match r with | .ok (.ret v) => Q v s' | .ok _ => False | .error e => E e s') s := by
  k_dflt (refine' enterV B F X N T ?hA ?hf ?hke ?k6 ?k7 ?k8 ?k9 ?kB ?_ ?c2 ?c3 ?c4 ?c5; (case hA => exact rfl); (case hf => exact rfl); (case hke => exact hk); (case k6 => k_is); (case k7 => k_is); (case k8 => ktr_room); (case k9 => first | exact BindsTo.of_eq rfl | exact binds_K (by k_in) rfl (by k_is) rfl rfl rfl); (case c5 => decide); (case kB => exact locs rfl); (case c2 => exact rfl); (case c3 => exact rfl); (case c4 => exact rfl); k_whole; intro L' h' F' N' B' X' T' D'; (try dsimp only); (try k_fold))
  clear B F N X T
  k_steps
  rename_i kF kN
  exact hret _ _ kF kN
set_option pp.deepTerms false in
set_option pp.deepTerms.threshold 5 in
set_option maxHeartbeats 8000000 in
theorem validate_lzc {w : World} {mg mb : Str → Option Value} {loose : List Str} {mean : ExcName → Option Value} {x : Str} {t1 : Tok} (hx0 : 0 < x.length) (hx : x.length < 10000) (hxb : (x == Str.ofString "") = false) (hn : (Txt.slice x (some (-1)) none == Str.ofString "\n") = false) {ga gb gc : Str} {gp gq : Option Str} (hv : VG x = some (ga, gb, gc, gp, gq)) (la : 0 < ga.length) (la2 : ga.length < 10000) (za : lz ga = false) (lb : 0 < gb.length) (lb2 : gb.length < 10000) (zb : lz gb = false) (lc : 0 < gc.length) (lc2 : gc.length < 10000) (zc : lz gc = true)
    {dp un : Nat} {gd : Option (List Code)} {cn : Str} {cs : Scope} {a : Addr} {ccd : Value} {cl : List (Str × Addr)} {A₀ : Around} {base h₀ : Heap} {L : Addr} {m : Str → Option Value} {s : Shared} {Q E : Value → Shared → Prop} {news : List (Addr × Obj)}
    (B : Below A₀ base [] h₀) (F : Fr h₀ L s.heap m) (X : (Mine.hd.heap_39 w.params).In h₀) (N : News h₀ L s.heap news) (T : Top topProg loose mean mg mb h₀) (XB : (Mine.hd.heap_39 w.params).In base) (TB : Top topProg loose mean mg mb base) (hk : cs.kind = .function) (hd : dp + 60 < recursionLimit) (hu : un + 300 < cLine)
    (hret : ∀ (h' : Heap) (tk' : Nat), Fr h₀ L h' m → News h₀ L h' news → Q (.bool false) { s with heap := h', toks := tk' }) :
    codeAny (model PR w) (ktrTop dp un gd cn cs L a ccd cl []) (.call (.ref 406) ⟨[.str x t1], []⟩) (fun r s' => match r with | .ok (.ret v) => Q v s' | .ok _ => False | .error e => E e s') s := by
  k_dflt (refine' enterV B F X N T ?hA ?hf ?hke ?k6 ?k7 ?k8 ?k9 ?kB ?_ ?c2 ?c3 ?c4 ?c5; (case hA => exact rfl); (case hf => exact rfl); (case hke => exact hk); (case k6 => k_is); (case k7 => k_is); (case k8 => ktr_room); (case k9 => first | exact BindsTo.of_eq rfl | exact binds_K (by k_in) rfl (by k_is) rfl rfl rfl); (case c5 => decide); (case kB => exact locs rfl); (case c2 => exact rfl); (case c3 => exact rfl); (case c4 => exact rfl); k_whole; intro L' h' F' N' B' X' T' D'; (try dsimp only); (try k_fold))
  clear B F N X T
  k_steps
  rename_i kF kN
  exact hret _ _ kF kN
local macro_rules | `(tactic| walk_at "call ref") => `(tactic| (k_here; k_dflt (refine' call_meth (f := .ref 282) ?k1 ?k2 ?_; (case k1 => k_asm); (case k2 => k_mem); refine' parse_ok ?H (.inr rfl) ?B ?F ?X ?N ?T ?kk ?hd ?hu ?_; (case H => with_reducible assumption); (case B => k_asm); (case F => k_asm); (case X => k_asm); (case N => k_asm); (case T => k_asm); (case kk => first | exact rfl | assumption); (case hd => ktr_room); (case hu => ktr_units)); intro h9 tk9 pt9 tp9 tb9 m19 m29 m39 pre9 bld9 ep' eq' F9 N9 ap9 ne9; (try dsimp only)))
set_option pp.deepTerms false in
set_option pp.deepTerms.threshold 5 in
set_option maxHeartbeats 8000000 in
theorem validate_ok {w : World} {mg mb : Str → Option Value} {loose : List Str} {mean : ExcName → Option Value} {x : Str} {t1 : Tok} {ga gb gc : Str} {gp gq : Option Str} {v1 v2 v3 : Int} (H : POK x ga gb gc gp gq v1 v2 v3)
    {dp un : Nat} {gd : Option (List Code)} {cn : Str} {cs : Scope} {a : Addr} {ccd : Value} {cl : List (Str × Addr)} {A₀ : Around} {base h₀ : Heap} {L : Addr} {m : Str → Option Value} {s : Shared} {Q E : Value → Shared → Prop} {news : List (Addr × Obj)}
    (B : Below A₀ base [] h₀) (F : Fr h₀ L s.heap m) (X : (Mine.hd.heap_39 w.params).In h₀) (N : News h₀ L s.heap news) (T : Top topProg loose mean mg mb h₀) (XB : (Mine.hd.heap_39 w.params).In base) (TB : Top topProg loose mean mg mb base) (hk : cs.kind = .function) (hd : dp + 60 < recursionLimit) (hu : un + 300 < cLine)
    (hret : ∀ (h' : Heap) (tk' : Nat), Fr h₀ L h' m → News h₀ L h' news → Q (.bool true) { s with heap := h', toks := tk' }) :
    codeAny (model PR w) (ktrTop dp un gd cn cs L a ccd cl []) (.call (.ref 406) ⟨[.str x t1], []⟩) (fun r s' => match r with | .ok (.ret v) => Q v s' | .ok _ => False | .error e => E e s') s := by
  k_dflt (refine' enterV B F X N T ?hA ?hf ?hke ?k6 ?k7 ?k8 ?k9 ?kB ?_ ?c2 ?c3 ?c4 ?c5; (case hA => exact rfl); (case hf => exact rfl); (case hke => exact hk); (case k6 => k_is); (case k7 => k_is); (case k8 => ktr_room); (case k9 => first | exact BindsTo.of_eq rfl | exact binds_K (by k_in) rfl (by k_is) rfl rfl rfl); (case c5 => decide); (case kB => exact locs rfl); (case c2 => exact rfl); (case c3 => exact rfl); (case c4 => exact rfl); k_whole; intro L' h' F' N' B' X' T' D'; (try dsimp only); (try k_fold))
  clear B F N X T
  k_steps
  rename_i kF kN
  exact hret _ _ kF kN
end Mine
end
section
open PySem PySem.W PyProof.Rows PySem.Calls PySem.Spec
set_option Elab.async false
set_option maxRecDepth 100000
namespace Mine
/-- what stands in law's frame: lists that change, what is laid aside, what stays -/
structure LS (h₀ : Heap) (L : Addr) (m : Str → Option Value) (muts ex objs : List (Addr × Obj)) (os : OsState) (s : Shared) : Prop where
  F : Fr h₀ L s.heap m
  N : News h₀ L s.heap (muts ++ (ex ++ objs))
  ap : ∀ p ∈ muts, ∀ q ∈ ex ++ objs, p.1 ≠ q.1
  ax : ∀ p ∈ ex, ∀ q ∈ objs, p.1 ≠ q.1
  G : AllBare s.gens
  os : s.os = os
/-- the end of a turn -/
def TurnG (h₀ : Heap) (L : Addr) (muts ex : List (Addr × Obj)) (os : OsState) (Jn : (Str → Option Value) → List (Addr × Obj) → List (Addr × Obj) → Prop) (f : Flow) (s : Shared) : Prop :=
  f = .next ∧ ∃ m₂ muts₂ objs₂, LS h₀ L m₂ muts₂ ex objs₂ os s ∧ muts₂.map (·.1) = muts.map (·.1) ∧ Jn m₂ muts₂ objs₂
section
variable {w : World} {A : Around} {env : Env} {s : Shared} {h₀ : Heap} {os : OsState}
theorem forG {R : Result → Shared → Prop} {target : Expr} {body : List Stmt} {I : Addr} {fp wr : List Addr} {n : Nat} {P : Nat → Value → Prop} {St : Nat → Heap → Prop} {m : Str → Option Value} {muts ex objs : List (Addr × Obj)}
    (W : Walks PR w A I fp wr n P St) (hLf : env.locals ∉ fp) (hwr : ∀ b ∈ wr, h₀.get? b = none) (hfm : ∀ p ∈ muts, p.1 ∉ fp) (hwo : ∀ p ∈ ex, p.1 ∉ wr) (hfo : ∀ p ∈ objs, p.1 ∉ fp) (hst : St 0 s.heap) (hlive : ∀ i h, St i h → ∀ b ∈ fp, ∃ o, h.get? b = some o) (S : LS h₀ env.locals m muts ex objs os s)
    (hgo : ∀ i (s' : Shared) v (Q' : Unit → Shared → Prop), St i s'.heap → Q' () s' → wpAny (model PR w) A (letOwnedTupleGo target (.ref I) v) Q' (fun _ _ => False) s')
    (J : Nat → (Str → Option Value) → List (Addr × Obj) → List (Addr × Obj) → Prop) (h0 : J 0 m muts objs)
    (step : ∀ i v m₁ muts₁ ex₁ objs₁ s₁, i < n → P i v → J i m₁ muts₁ objs₁ → LS h₀ env.locals m₁ muts₁ ex₁ objs₁ os s₁ → muts₁.map (·.1) = muts.map (·.1) → (∀ q ∈ ex, q ∈ ex₁) →
      wpAny (model PR w) A (assign target env v) (fun _ s₂ => wpAny (model PR w) A (execs body env) (TurnG h₀ env.locals muts₁ ex₁ os (J (i + 1))) (fun _ _ => False) s₂) (fun _ _ => False) s₁)
    (hR : ∀ m' muts' objs' s', LS h₀ env.locals m' muts' ex objs' os s' → muts'.map (·.1) = muts.map (·.1) → J n m' muts' objs' → R (.ok .next) s') :
    codeAny (model PR w) A (.forLoop target (.ref I) body [] env) R s := by
  have hLw : env.locals ∉ wr := fun h => hLf (W.sub _ h)
  have old : ∀ b o, h₀.get? b = some o → b ∉ wr := fun b o e hb => by rw [hwr b hb] at e; cases e
  have mfp : ∀ {muts' : List (Addr × Obj)}, muts'.map (·.1) = muts.map (·.1) → ∀ p ∈ muts', p.1 ∉ fp := fun e p hp => by
    have : p.1 ∈ muts.map (·.1) := e ▸ List.mem_map_of_mem hp
    obtain ⟨q, hq, e2⟩ := List.mem_map.mp this
    rw [← e2]; exact hfm q hq
  refine codeAny_forLoop_any
    (fun k s' => ∃ m' muts' objs' i, LS h₀ env.locals m' muts' ex objs' os s' ∧ St i s'.heap ∧ (∀ p ∈ objs', p.1 ∉ fp) ∧ muts'.map (·.1) = muts.map (·.1) ∧ J i m' muts' objs' ∧ i ≤ n ∧ k = n + 1 - i) ?_ (n + 1)
    ⟨m, muts, objs, 0, S, hst, hfo, rfl, h0, Nat.zero_le _, rfl⟩
  rintro k s' ⟨m', muts', objs', i, S', hst', hfo', hmm, hJ, hi, rfl⟩
  have hnw : ∀ p ∈ muts' ++ (ex ++ objs'), p.1 ∉ wr := fun p hp hc => by
    rcases List.mem_append.mp hp with hp | hp
    · exact mfp hmm p hp (W.sub _ hc)
    · rcases List.mem_append.mp hp with hp | hp
      · exact hwo p hp hc
      · exact hfo' p hp (W.sub _ hc)
  have next : ∀ h₁ : Heap, ∀ tk, (∀ b o, b ∉ wr → s'.heap.get? b = some o → h₁.get? b = some o) → LS h₀ env.locals m' muts' ex objs' os { s' with heap := h₁, toks := tk } := fun h₁ tk hk₁ =>
    ⟨⟨S'.F.ns.at' fun o e => hk₁ _ o hLw e, fun b o e => hk₁ b o (old b o e) (S'.F.keep b o e), S'.F.above⟩, fun p hp => ⟨hk₁ _ _ (hnw p hp) (S'.N p hp).1, (S'.N p hp).2⟩, S'.ap, S'.ax, S'.G, S'.os⟩
  by_cases hlt : i < n
  · refine W.item i _ _ _ hlt hst' fun v h₁ tk₁ hP hst₁ hk₁ => ?_
    have S₁ := next h₁ tk₁ hk₁
    have Nown : News h₀ env.locals h₁ (ownOf h₀ fp h₁) := news_ownOf hLf
    refine wpAny_mono (hgo (i + 1) _ v (Q' := fun _ s₂ => wpAny (model PR w) A (assign target env v) (fun _ s₂ => wpAny (model PR w) A (execs body env) (TurnG h₀ env.locals muts' (ownOf h₀ fp h₁ ++ ex) os (J (i + 1))) (fun _ _ => False) s₂) (fun _ _ => False) s₂) hst₁ ?_) (fun _ s₂ h₂ => wpAny_mono h₂ (fun _ s₃ h₃ => wpAny_mono h₃ (fun f s₄ h₄ => ?_) fun _ _ (e : False) => e.elim) fun _ _ (e : False) => e.elim) fun _ _ (e : False) => e.elim
    · refine step i v m' muts' (ownOf h₀ fp h₁ ++ ex) objs' _ hlt hP hJ ⟨S₁.F, fun p hp => ?_, fun p hp q hq => ?_, fun p hp q hq => ?_, S₁.G, S₁.os⟩ hmm (fun q hq => List.mem_append_right _ hq)
      · rcases List.mem_append.mp hp with hp | hp
        · exact S₁.N p (List.mem_append_left _ hp)
        · rcases List.mem_append.mp hp with hp | hp
          · rcases List.mem_append.mp hp with hp | hp
            · exact Nown p hp
            · exact S₁.N p (List.mem_append_right _ (List.mem_append_left _ hp))
          · exact S₁.N p (List.mem_append_right _ (List.mem_append_right _ hp))
      · rcases List.mem_append.mp hq with hq | hq
        · rcases List.mem_append.mp hq with hq | hq
          · exact fun e => mfp hmm p hp (e ▸ ownOf_sub q hq)
          · exact S₁.ap p hp q (List.mem_append_left _ hq)
        · exact S₁.ap p hp q (List.mem_append_right _ hq)
      · rcases List.mem_append.mp hp with hp | hp
        · exact fun e => hfo' q hq (e ▸ ownOf_sub p hp)
        · exact S₁.ax p hp q hq
    · obtain ⟨rfl, m₂, muts₂, objs₂, S₂, hm₂, hJ₂⟩ := h₄
      refine ⟨n + 1 - (i + 1), by omega, m₂, muts₂, objs₂, i + 1, ⟨S₂.F, fun p hp => ?_, fun p hp q hq => ?_, fun p hp q hq => ?_, S₂.G, S₂.os⟩, ?_, fun p hp hc => ?_, hm₂.trans hmm, hJ₂, hlt, rfl⟩
      · rcases List.mem_append.mp hp with hp | hp
        · exact S₂.N p (List.mem_append_left _ hp)
        · rcases List.mem_append.mp hp with hp | hp
          · exact S₂.N p (List.mem_append_right _ (List.mem_append_left _ (List.mem_append_right _ hp)))
          · exact S₂.N p (List.mem_append_right _ (List.mem_append_right _ hp))
      · rcases List.mem_append.mp hq with hq | hq
        · exact S₂.ap p hp q (List.mem_append_left _ (List.mem_append_right _ hq))
        · exact S₂.ap p hp q (List.mem_append_right _ hq)
      · exact S₂.ax p (List.mem_append_right _ hp) q hq
      · refine W.frame _ _ _ hst₁ fun b hb o e => ?_
        cases hn : h₀.get? b with
        | some o₀ =>
          have : o₀ = o := by have := S₁.F.keep b o₀ hn; rw [e] at this; exact (Option.some.inj this).symm
          exact this ▸ S₂.F.keep b o₀ hn
        | none => exact (S₂.N _ (List.mem_append_right _ (List.mem_append_left _ (List.mem_append_left _ (mem_ownOf hb hn e))))).1
      · -- what is new is apart from what is laid aside
        cases hn : h₀.get? p.1 with
        | some o₀ =>
          have := (S₂.N p (List.mem_append_right _ (List.mem_append_right _ hp))).2.2
          rw [hn] at this; cases this
        | none =>
          cases ho : h₁.get? p.1 with
          | some o => exact S₂.ax _ (List.mem_append_left _ (mem_ownOf hc hn ho)) p hp rfl
          | none =>
            obtain ⟨o, e⟩ := hlive _ _ hst₁ _ hc
            have e' : h₁.get? p.1 = some o := e
            rw [ho] at e'; cases e'
  · have hin : i = n := by omega
    subst hin
    refine W.done _ _ _ hst' fun h₁ tk₁ hk₁ => wpAny_execs_nil ?_
    exact hR m' muts' objs' _ (next h₁ tk₁ hk₁) hmm hJ
end
end Mine
namespace Mine
def ForL (w : World) (A : Around) (env : Env) (target : Expr) (body : List Stmt) (Q : Flow → Shared → Prop) (xv : Value) (s₁ : Shared) : Prop :=
  wpAny (model PR w) A (pyIter xv) (fun it s₂ => codeAny (model PR w) A (.forLoop target it body [] env) (fun r s' => match r with | .ok f => Q f s' | .error _ => False) s₂) (fun _ _ => False) s₁
theorem for_l {w : World} {A : Around} {env : Env} {target : Expr} {pos : Pos} {iter : Expr} {body : List Stmt} {Q : Flow → Shared → Prop} {E : Value → Shared → Prop} {s : Shared} (hs : ∀ x, foldedSetIterable iter env x = pure x)
    (h : wpAny (model PR w) A (eval iter env) (ForL w A env target body Q) E s) : wpAny (model PR w) A (exec (.For target iter body [] pos) env) Q E s := by
  refine wpAny_For (wpAny_mono h (fun xv s₁ h₁ => wpAny_mono h₁ (fun it s₂ h₂ => codeAny_mono h₂ fun r s' hr => ?_) fun _ _ z => z.elim) fun _ _ z => z) hs
  cases r with
  | ok f => exact hr
  | error e => exact hr.elim
theorem LS.push {h₀ : Heap} {L : Addr} {m : Str → Option Value} {muts ex objs : List (Addr × Obj)} {os : OsState} {s : Shared} (S : LS h₀ L m muts ex objs os s) (o : Obj) : LS h₀ L m muts ex objs os { s with heap := s.heap.push o } :=
  ⟨S.F.push _, fun q hq => ⟨Heap.get?_push_of_some _ (S.N q hq).1, (S.N q hq).2⟩, S.ap, S.ax, S.G, S.os⟩
theorem LS.ne_size {h₀ : Heap} {L : Addr} {m : Str → Option Value} {muts ex objs : List (Addr × Obj)} {os : OsState} {s : Shared} (S : LS h₀ L m muts ex objs os s) : ∀ p ∈ muts ++ (ex ++ objs), p.1 ≠ s.heap.objs.size := fun p hp e => absurd (Heap.lt_size (S.N p hp).1) (by rw [e]; exact Nat.lt_irrefl _)
theorem LS.size_none {h₀ : Heap} {L : Addr} {m : Str → Option Value} {muts ex objs : List (Addr × Obj)} {os : OsState} {s : Shared} (S : LS h₀ L m muts ex objs os s) : h₀.get? s.heap.objs.size = none := by
  cases e : h₀.get? s.heap.objs.size with
  | none => rfl
  | some o => exact absurd (Heap.lt_size (S.F.keep _ _ e)) (Nat.lt_irrefl _)
section
variable {w : World} {A : Around} {env : Env} {s : Shared} {h₀ : Heap} {os : OsState} {target : Expr} {body : List Stmt} {Q : Flow → Shared → Prop} {m : Str → Option Value} {muts ex objs : List (Addr × Obj)}
theorem ForL.list {ax : Addr} {vals : List Value} {n : Nat} (hh : A.handled = none) (S : LS h₀ env.locals m muts ex objs os s) (hm : (ax, W.listOf vals.toArray n) ∈ ex) (hax : ∀ p ∈ muts, p.1 ≠ ax)
    (hgo : ∀ (I l : Addr) i (s' : Shared) v (Q' : Unit → Shared → Prop), s'.heap.IsListIter I l i → Q' () s' → wpAny (model PR w) A (letOwnedTupleGo target (.ref I) v) Q' (fun _ _ => False) s')
    (J : Nat → (Str → Option Value) → List (Addr × Obj) → List (Addr × Obj) → Prop) (h0 : J 0 m muts objs)
    (step : ∀ i v m₁ muts₁ ex₁ objs₁ s₁, vals[i]? = some v → J i m₁ muts₁ objs₁ → LS h₀ env.locals m₁ muts₁ ex₁ objs₁ os s₁ → muts₁.map (·.1) = muts.map (·.1) → (∀ q ∈ ex, q ∈ ex₁) →
      wpAny (model PR w) A (assign target env v) (fun _ s₂ => wpAny (model PR w) A (execs body env) (TurnG h₀ env.locals muts₁ ex₁ os (J (i + 1))) (fun _ _ => False) s₂) (fun _ _ => False) s₁)
    (hR : ∀ m' muts' objs' s', LS h₀ env.locals m' muts' ex objs' os s' → muts'.map (·.1) = muts.map (·.1) → J vals.length m' muts' objs' → Q .next s') :
    ForL w A env target body Q (.ref ax) s := by
  have hl : s.heap.IsList ax vals.toArray := ⟨_, (S.N _ (List.mem_append_right _ (List.mem_append_left _ hm))).1, rfl, _, rfl⟩
  unfold ForL
  refine wpAny_pyIter_list hl ?_
  have hLs : env.locals < s.heap.objs.size := S.F.ns.lt
  have hlt : ax < s.heap.objs.size := by obtain ⟨_, e, _⟩ := hl; exact Heap.lt_size e
  have haL : ax ≠ env.locals := (S.N _ (List.mem_append_right _ (List.mem_append_left _ hm))).2.1
  refine forG (Walks.list hh s.heap.objs.size ax (Nat.ne_of_lt hlt) vals.toArray) (fun hc => ?_) (fun b hb => ?_) (fun p hp hc => ?_) (fun p hp hc => ?_) (fun p hp hc => ?_) ⟨⟨_, Heap.get?_push_size _ rfl, rfl, rfl⟩, hl.push _⟩ (fun i h st b hb => ?_) (S.push _)
    (fun i s' v Q' st hq => hgo _ _ _ s' v Q' st.1 hq) J h0 (fun i v m₁ muts₁ ex₁ objs₁ s₁ hi hv => step i v m₁ muts₁ ex₁ objs₁ s₁ (by simpa using hv)) (fun m' muts' objs' s' S' e hJ => hR m' muts' objs' s' S' e (by simpa using hJ))
  · rcases List.mem_cons.mp hc with e | hc
    · exact absurd hLs (by rw [e]; exact Nat.lt_irrefl _)
    · exact haL (List.mem_singleton.mp hc).symm
  · rw [List.mem_singleton.mp hb]; exact S.size_none
  · rcases List.mem_cons.mp hc with e | hc
    · exact S.ne_size p (List.mem_append_left _ hp) e
    · exact hax p hp (List.mem_singleton.mp hc)
  · exact S.ne_size p (List.mem_append_right _ (List.mem_append_left _ hp)) (List.mem_singleton.mp hc)
  · rcases List.mem_cons.mp hc with e | hc
    · exact S.ne_size p (List.mem_append_right _ (List.mem_append_right _ hp)) e
    · exact S.ax _ hm p hp (List.mem_singleton.mp hc).symm
  · rcases List.mem_cons.mp hb with rfl | hb
    · obtain ⟨o, e, _⟩ := st.1; exact ⟨o, e⟩
    · rw [List.mem_singleton.mp hb]; obtain ⟨o, e, _⟩ := st.2; exact ⟨o, e⟩
end
end Mine
namespace Mine
section
variable {w : World} {A : Around} {env : Env} {s : Shared} {h₀ : Heap} {os : OsState} {body : List Stmt} {Q : Flow → Shared → Prop} {m : Str → Option Value} {muts ex objs : List (Addr × Obj)}
theorem ForL.range {r : Addr} {n : Nat} {t u v : Tok} {x : Str} {px : Pos} (hh : A.handled = none) (S : LS h₀ env.locals m muts ex objs os s) (hr : IsRange s.heap r 0 n 1 t u v) (hn : n ≤ 1000)
    (J : Nat → (Str → Option Value) → List (Addr × Obj) → List (Addr × Obj) → Prop) (h0 : J 0 m muts objs)
    (step : ∀ (i : Nat) (tk : Tok) m₁ muts₁ ex₁ objs₁ s₁, i < n → J i m₁ muts₁ objs₁ → LS h₀ env.locals m₁ muts₁ ex₁ objs₁ os s₁ → muts₁.map (·.1) = muts.map (·.1) → (∀ q ∈ ex, q ∈ ex₁) →
      wpAny (model PR w) A (assign (.Name x px) env (.int i tk)) (fun _ s₂ => wpAny (model PR w) A (execs body env) (TurnG h₀ env.locals muts₁ ex₁ os (J (i + 1))) (fun _ _ => False) s₂) (fun _ _ => False) s₁)
    (hR : ∀ m' muts' objs' s', LS h₀ env.locals m' muts' ex objs' os s' → muts'.map (·.1) = muts.map (·.1) → J n m' muts' objs' → Q .next s') :
    ForL w A env (.Name x px) body Q (.ref r) s := by
  have hs : Builtin.Range.small 0 n 1 = true := by
    unfold Builtin.Range.small Builtin.Range.rangeFitsLong Builtin.Range.rangeSize
    simp
    refine ⟨⟨by omega, ?_⟩, ?_⟩ <;> (try split) <;> omega
  have hz : Builtin.Range.rangeSize 0 n 1 = n := by
    unfold Builtin.Range.rangeSize
    simp
    intro h; omega
  unfold ForL
  refine wpAny_pyIter_range hr hs ?_
  have hLs : env.locals < s.heap.objs.size := S.F.ns.lt
  refine forG (Walks.range hh s.heap.objs.size 0 1 n) (fun hc => ?_) (fun b hb => ?_) (fun p hp hc => ?_) (fun p hp hc => ?_) (fun p hp hc => ?_) ?_ (fun i h st b hb => ?_) (S.push _)
    (fun i s' v Q' st hq => ?_) J h0 (fun i v m₁ muts₁ ex₁ objs₁ s₁ hi hv hJ hS he hx => ?_) hR
  · exact absurd hLs (by rw [List.mem_singleton.mp hc]; exact Nat.lt_irrefl _)
  · rw [List.mem_singleton.mp hb]; exact S.size_none
  · exact S.ne_size p (List.mem_append_left _ hp) (List.mem_singleton.mp hc)
  · exact S.ne_size p (List.mem_append_right _ (List.mem_append_left _ hp)) (List.mem_singleton.mp hc)
  · exact S.ne_size p (List.mem_append_right _ (List.mem_append_right _ hp)) (List.mem_singleton.mp hc)
  · show IsRangeIter _ _ _ _ _
    rw [hz]
    have := Heap.get?_push_size (h := s.heap) (o := { cls := .type "range_iterator", data := .fields #[rawInt 0, rawInt n, rawInt 1] }) rfl
    simpa using this
  · rw [List.mem_singleton.mp hb]; exact ⟨_, st⟩
  · exact wpAny_pure hq
  · obtain ⟨tk, rfl⟩ := hv
    have e : (0 + (i : Int) * 1) = (i : Int) := by omega
    rw [e]
    exact step i tk m₁ muts₁ ex₁ objs₁ s₁ hi hJ hS he hx
end
end Mine
end
section
open PySem PySem.W PyProof.Rows PySem.Calls PySem.Spec
set_option Elab.async false
set_option maxRecDepth 100000
namespace Mine
abbrev T (x : String) : Str := Str.ofString x
/-- the numbers' texts and values -/
def MENU : List (Str × Int) := [(T "0", 0), (T "1", 1), (T "10", 10), (T "007", 7), (T "99", 99), (T "123456789012", 123456789012), (T "100", 100), (T "02", 2), (T "3", 3)]
def WORDS : List Str := [T "", T " rc", T "_b", T "-2"]
def PLUS : List Str := [T "", T "+7", T "+b"]
inductive PairRow (objs : List (Addr × Obj)) : List (Str × Int) → List Value → Prop
  | nil : PairRow objs [] []
  | cons {x : Str} {v : Int} {a : Addr} {t u : Tok} {l : List (Str × Int)} {vs : List Value} : (a, tupObj [.str x t, .int v u]) ∈ objs → PairRow objs l vs → PairRow objs ((x, v) :: l) (.ref a :: vs)
theorem PairRow.mono {objs objs' : List (Addr × Obj)} {l : List (Str × Int)} {vs : List Value} (h : PairRow objs l vs) (hs : ∀ q ∈ objs, q ∈ objs') : PairRow objs' l vs := by
  induction h with
  | nil => exact .nil
  | cons m _ ih => exact .cons (hs _ m) ih
theorem PairRow.length {objs : List (Addr × Obj)} {l : List (Str × Int)} {vs : List Value} (h : PairRow objs l vs) : vs.length = l.length := by
  induction h with
  | nil => rfl
  | cons _ _ ih => simp [ih]
theorem PairRow.app {objs : List (Addr × Obj)} {l l' : List (Str × Int)} {vs vs' : List Value} (h : PairRow objs l vs) (h' : PairRow objs l' vs') : PairRow objs (l ++ l') (vs ++ vs') := by
  induction h with
  | nil => exact h'
  | cons m _ ih => exact .cons m ih
theorem PairRow.take {objs : List (Addr × Obj)} {l : List (Str × Int)} {vs : List Value} (h : PairRow objs l vs) (k : Nat) : PairRow objs (l.take k) (vs.take k) := by
  induction h generalizing k with
  | nil => simp; exact .nil
  | cons m _ ih =>
    cases k with
    | zero => exact .nil
    | succ k => exact .cons m (ih k)
theorem PairRow.drop {objs : List (Addr × Obj)} {l : List (Str × Int)} {vs : List Value} (h : PairRow objs l vs) (k : Nat) : PairRow objs (l.drop k) (vs.drop k) := by
  induction h generalizing k with
  | nil => simp; exact .nil
  | cons m r ih =>
    cases k with
    | zero => exact .cons m r
    | succ k => exact ih k
theorem PairRow.get {objs : List (Addr × Obj)} {l : List (Str × Int)} {vs : List Value} (h : PairRow objs l vs) {i : Nat} {v : Value} (hv : vs[i]? = some v) : ∃ p a t u, l[i]? = some p ∧ v = .ref a ∧ (a, tupObj [.str p.1 t, .int p.2 u]) ∈ objs := by
  induction h generalizing i with
  | nil => simp at hv
  | @cons x v' a t u l vs m r ih =>
    cases i with
    | zero => simp at hv; exact ⟨(x, v'), a, t, u, rfl, hv.symm, m⟩
    | succ i => simpa using ih (by simpa using hv)
/-- the list at na holds these numbers -/
def NumsAt (objs : List (Addr × Obj)) (na : Addr) (nums : List (Str × Int)) : Prop := ∃ vs n, (na, W.listOf vs.toArray n) ∈ objs ∧ PairRow objs nums vs
theorem NumsAt.mono {objs objs' : List (Addr × Obj)} {na : Addr} {nums : List (Str × Int)} (h : NumsAt objs na nums) (hs : ∀ q ∈ objs, q ∈ objs') : NumsAt objs' na nums := by
  obtain ⟨vs, n, m, r⟩ := h
  exact ⟨vs, n, hs _ m, r.mono hs⟩
def GoodN (nums : List (Str × Int)) : Prop := 1 ≤ nums.length ∧ nums.length ≤ 6 ∧ ∀ p ∈ nums, p ∈ MENU
structure Row where
  nums : List (Str × Int)
  word : Str
  plus : Str
def GoodR (r : Row) : Prop := GoodN r.nums ∧ r.word ∈ WORDS ∧ r.plus ∈ PLUS ∧ (4 ≤ r.nums.length → r.plus = T "")
def RowAt (objs : List (Addr × Obj)) (v : Value) (r : Row) : Prop := ∃ a na t u, v = .ref a ∧ (a, tupObj [.ref na, .str r.word t, .str r.plus u]) ∈ objs ∧ NumsAt objs na r.nums
theorem RowAt.mono {objs objs' : List (Addr × Obj)} {v : Value} {r : Row} (h : RowAt objs v r) (hs : ∀ q ∈ objs, q ∈ objs') : RowAt objs' v r := by
  obtain ⟨a, na, t, u, e, m, N⟩ := h
  exact ⟨a, na, t, u, e, hs _ m, N.mono hs⟩
inductive All2 {α β : Type} (R : α → β → Prop) : List α → List β → Prop
  | nil : All2 R [] []
  | snoc {l l' x y} : All2 R l l' → R x y → All2 R (l ++ [x]) (l' ++ [y])
theorem All2.length {α β : Type} {R : α → β → Prop} {l : List α} {l' : List β} (h : All2 R l l') : l.length = l'.length := by
  induction h with
  | nil => rfl
  | snoc _ _ ih => simp [ih]
theorem All2.imp {α β : Type} {R S : α → β → Prop} {l : List α} {l' : List β} (h : All2 R l l') (hs : ∀ x y, R x y → S x y) : All2 S l l' := by
  induction h with
  | nil => exact .nil
  | snoc _ r ih => exact .snoc ih (hs _ _ r)
theorem All2.get {α β : Type} {R : α → β → Prop} {l : List α} {l' : List β} (h : All2 R l l') {i : Nat} {x : α} (hx : l[i]? = some x) : ∃ y, l'[i]? = some y ∧ R x y := by
  induction h generalizing i with
  | nil => simp at hx
  | @snoc l l' a b h r ih =>
    have hl := h.length
    by_cases c : i < l.length
    · rw [List.getElem?_append_left c] at hx
      obtain ⟨y, e, k⟩ := ih hx
      exact ⟨y, by rw [List.getElem?_append_left (by omega)]; exact e, k⟩
    · rw [List.getElem?_append_right (by omega)] at hx
      rw [List.getElem?_append_right (by omega), ← hl]
      cases hz : i - l.length with
      | zero => rw [hz] at hx; simp at hx; subst hx; exact ⟨b, by simp, r⟩
      | succ k => rw [hz] at hx; simp at hx
/-- loop 1 -/
def J1 (ra : Addr) (i : Nat) (m : Str → Option Value) (muts objs : List (Addr × Obj)) : Prop :=
  ∃ rows vals n na nums, muts = [(268, tabObj #[]), (323, tabObj #[]), (ra, W.listOf (List.toArray vals) n)] ∧ m (T "rows") = some (.ref ra) ∧ m (T "numbers") = some (.ref na) ∧ NumsAt objs na nums ∧ GoodN nums ∧ All2 (RowAt objs) vals rows ∧ rows.length = i ∧ ∀ r ∈ rows, GoodR r
end Mine
namespace Mine
/-- the walk halts here -/
def Stop (P : Prop) : Prop := P
theorem stop_intro {P : Prop} (h : Stop P) : P := h
theorem Stop.go {P : Prop} (h : P) : Stop P := h
section
variable {w : World} {A : Around} {E : Value → Shared → Prop} {s : Shared} {h₀ : Heap} {L l : Addr}
theorem pick_list {value slice : PySem.Expr} {news : List (Addr × Obj)} {vals : List Value} {n : Nat} {k : Int} {u : Tok} {Q : Value → Shared → Prop} (OK : Value → Prop) (N : News h₀ L s.heap news) (hm : (l, W.listOf vals.toArray n) ∈ news)
    (h0 : 0 ≤ k) (h1 : k < (vals.length : Int)) (hfit : k < 2 ^ 63) (each : ∀ v ∈ vals, OK v) (h : ∀ v, OK v → Q v s)
    (hs : subscripted slice false (.ref l) (.int k u) = operate [.ref l, .int k u] (getItem (.ref l) (.int k u)) := by with_unfolding_all rfl) :
    wpAny (model PR w) A (subscriptTail value slice (.ref l) (.int k u)) Q E s := by
  have hl : s.heap.IsList l vals.toArray := ⟨_, (N _ hm).1, rfl, n, rfl⟩
  have hk : k.toNat < vals.length := by omega
  refine tail_any hl.typeIs slot_list_getitem.lookup ?_ hs
  exact wpAny_getItem_list hl h0 hfit (x := vals[k.toNat]) (by simp [hk]) (h _ (each _ (List.getElem_mem hk)))
end
end Mine
end
section
open PySem PySem.W PyProof.Rows PySem.Calls PySem.Spec
set_option Elab.async false
set_option maxRecDepth 100000
namespace Mine
/-- a part of a list, as a slice takes it -/
def pickL {α : Type} (l : List α) (lo hi : Option Int) : List α := (l.drop (kms_lo lo l.length)).take (kms_hi hi l.length - kms_lo lo l.length)
theorem PairRow.pick {objs : List (Addr × Obj)} {l : List (Str × Int)} {vs : List Value} (h : PairRow objs l vs) (lo hi : Option Int) : PairRow objs (pickL l lo hi) (kms_pick vs lo hi) := by
  unfold pickL kms_pick
  rw [h.length]
  exact (h.drop _).take _
/-- the list at a holds these numbers; its pairs stand in K -/
def NumsIn (led K : List (Addr × Obj)) (a : Addr) (xs : List (Str × Int)) : Prop := ∃ vs n, (a, W.listOf (List.toArray vs) n) ∈ led ∧ PairRow K xs vs
theorem len_line6 {n : Nat} (h : n ≤ 100) : n ≤ sizeLine := Nat.le_trans h (by size_fits)
section
variable {w : World} {A : Around} {E : Value → Shared → Prop} {s : Shared} {h₀ : Heap} {L a b : Addr} {m : Str → Option Value} {led K : List (Addr × Obj)} {xs ys : List (Str × Int)}
theorem nums_list (N : News h₀ L s.heap led) (H : NumsIn led K a xs) : ∃ vs : List Value, s.heap.IsList a vs.toArray ∧ PairRow K xs vs := by
  obtain ⟨vs, n, hm, r⟩ := H
  exact ⟨vs, ⟨_, (N _ hm).1, rfl, n, rfl⟩, r⟩
theorem nums_len {Q : Value → Shared → Prop} (N : News h₀ L s.heap led) (H : NumsIn led K a xs) (hz : xs.length ≤ 100) (h : Q (.int (xs.length : Int) (s.toks + 1)) { s with toks := s.toks + 1 + 1 }) : wpAny (model PR w) A (call (.builtin "len") [.ref a]) Q E s := by
  obtain ⟨vs, hl, r⟩ := nums_list N H
  have e : vs.toArray.size = xs.length := by rw [List.size_toArray, r.length]
  exact len_list hl (by rw [e]; omega) (by rw [e]; exact h)
theorem nums_add {Q : Value → Shared → Prop} (F : Fr h₀ L s.heap m) (N : News h₀ L s.heap led) (H : NumsIn led K a xs) (H' : NumsIn led K b ys) (hx : xs.length ≤ 50) (hy : ys.length ≤ 50)
    (h : ∀ D h' vs, Fr h₀ L h' m → News h₀ L h' ((D, W.listOf (List.toArray vs) 0) :: led) → PairRow K (xs ++ ys) vs → (∀ p ∈ led, p.1 < D) → Q (.ref D) { s with heap := h' }) : wpAny (model PR w) A (binaryOp .Add (.ref a) (.ref b)) Q E s := by
  obtain ⟨vs, hl, r⟩ := nums_list N H
  obtain ⟨vs', hl', r'⟩ := nums_list N H'
  refine kmk_add_lit F N hl hl' rfl (fun D h' F' N' l => h D h' _ F' N' ?_ l) ?_
  · simpa using r.app r'
  · have := r.length; have := r'.length
    exact len_line6 (by simp; omega)
theorem nums_slice {value slice : PySem.Expr} {lo hi : Option Int} {vl vu : Value} {Q : Value → Shared → Prop} (F : Fr h₀ L s.heap m) (N : News h₀ L s.heap led) (H : NumsIn led K a xs) (hx : xs.length ≤ 50) (pl : IsPart vl lo) (pu : IsPart vu hi)
    (h : ∀ D h' vs, Fr h₀ L h' m → News h₀ L h' ((D, W.listOf (List.toArray vs) 0) :: led) → PairRow K (pickL xs lo hi) vs → (∀ p ∈ led, p.1 < D) → Q (.ref D) { s with heap := h' })
    (hs : subscripted slice false (.ref a) (.ref s.heap.objs.size) = operate [.ref s.heap.objs.size, .ref a] (getItem (.ref a) (.ref s.heap.objs.size))) (ht : ∀ r, letTemporaryGo value (.ref a) r = pure ()) :
    wpAny (model PR w) A (subscriptTail value slice (.ref a) (.ref s.heap.objs.size)) Q E { s with heap := s.heap.push { cls := .type "slice", data := .fields #[vl, vu, .none] } } := by
  obtain ⟨vs, hl, r⟩ := nums_list N H
  refine kms_slice_lit F N hl pl pu rfl (fun D h' F' N' l => h D h' _ F' N' ?_ l) hs ht ?_
  · simpa using r.pick lo hi
  · have := r.length
    exact len_line6 (by simp; omega)
end
end Mine
namespace Mine
/-- behind the first If of loop 1 -/
def NumPost (h₀ : Heap) (L : Addr) (ra : Addr) (led K : List (Addr × Obj)) (more : Value) (s : Shared) (f : Flow) (s' : Shared) : Prop :=
  f = .next ∧ ∃ m na nums new h' tk, s' = { s with heap := h', toks := tk } ∧ Fr h₀ L h' m ∧ News h₀ L h' (new ++ led) ∧ m (T "rows") = some (.ref ra) ∧ m (T "numbers") = some (.ref na) ∧ m (T "more") = some more ∧ NumsIn (new ++ K) K na nums ∧ GoodN nums ∧ ∀ q ∈ new, AllLt q.1 led
end Mine
namespace Mine
theorem num_cut {w : World} {A : Around} {env : Env} {st : Stmt} {E : Value → Shared → Prop} {s : Shared} {h₀ : Heap} {L ra : Addr} {led K : List (Addr × Obj)} {more : Value} {m0 : Str → Option Value} {Q : Flow → Shared → Prop} (_F : Fr h₀ L s.heap m0) (_N : News h₀ L s.heap led) (_h : m0 (T "more") = some more)
    (h1 : wpAny (model PR w) A (exec st env) (NumPost h₀ L ra led K more s) E s)
    (h2 : ∀ m na nums new h' tk, Fr h₀ L h' m → News h₀ L h' (new ++ led) → m (T "rows") = some (.ref ra) → m (T "numbers") = some (.ref na) → m (T "more") = some more → NumsIn (new ++ K) K na nums → GoodN nums → (∀ q ∈ new, AllLt q.1 led) → Q .next { s with heap := h', toks := tk }) :
    wpAny (model PR w) A (exec st env) Q E s := by
  refine wpAny_mono h1 (fun f s' h => ?_) fun _ _ e => e
  obtain ⟨rfl, m, na, nums, new, h', tk, rfl, F, N, a1, a2, a3, H, G, hl⟩ := h
  exact h2 m na nums new h' tk F N a1 a2 a3 H G hl
end Mine
namespace Mine
theorem pickL_up {α : Type} (l : List α) {k : Int} (h : 0 ≤ k) : pickL l none (some k) = l.take k.toNat := by
  have e : kms_hi (some k) l.length = min k.toNat l.length := by
    show (if k < 0 then _ else _) = _
    rw [if_neg (by omega)]
  show (l.drop 0).take (kms_hi (some k) l.length - 0) = _
  rw [e, List.drop_zero, Nat.sub_zero]
  exact kmk_take_min l k.toNat
theorem pickL_from {α : Type} (l : List α) {k : Int} (h : 0 ≤ k) : pickL l (some k) none = l.drop k.toNat := by
  have e : kms_lo (some k) l.length = min k.toNat l.length := by
    show (if k < 0 then _ else _) = _
    rw [if_neg (by omega)]
  show (l.drop (kms_lo (some k) l.length)).take (l.length - kms_lo (some k) l.length) = _
  rw [e, kmk_drop_min, List.take_of_length_le]
  simp only [List.length_drop]; omega
theorem pickL_last {α : Type} (l : List α) : pickL l none (some (-1)) = l.take (l.length - 1) := by
  show (l.drop 0).take (l.length - 1 - 0) = _
  simp
theorem good_last {l : List (Str × Int)} (h : GoodN l) (h2 : 1 < l.length) : GoodN (pickL l none (some (-1))) := by
  rw [pickL_last]
  refine ⟨by simp; omega, by have := h.2.1; simp; omega, fun p hp => h.2.2 p (List.mem_of_mem_take hp)⟩
theorem good_add {l : List (Str × Int)} {p : Str × Int} (h : GoodN l) (hp : p ∈ MENU) : GoodN (pickL (l ++ [p]) none (some 6)) := by
  rw [pickL_up _ (by decide)]
  refine ⟨by have := h.1; simp; omega, by simp; omega, fun q hq => ?_⟩
  rcases List.mem_append.mp (List.mem_of_mem_take hq) with hq | hq
  · exact h.2.2 q hq
  · rw [List.mem_singleton.mp hq]; exact hp
theorem good_set {l : List (Str × Int)} {p : Str × Int} {k : Int} (h : GoodN l) (hp : p ∈ MENU) (h0 : 0 ≤ k) (h1 : k < l.length) : GoodN ((pickL l none (some k) ++ [p]) ++ pickL l (some (k + 1)) none) := by
  rw [pickL_up _ h0, pickL_from _ (by omega)]
  have := h.2.1
  refine ⟨by simp; omega, by simp; omega, fun q hq => ?_⟩
  rcases List.mem_append.mp hq with hq | hq
  · rcases List.mem_append.mp hq with hq | hq
    · exact h.2.2 q (List.mem_of_mem_take hq)
    · rw [List.mem_singleton.mp hq]; exact hp
  · exact h.2.2 q (List.mem_of_mem_drop hq)
theorem NumPost.intro {h₀ h' : Heap} {L ra na : Addr} {led K new : List (Addr × Obj)} {more : Value} {s : Shared} {tk : Nat} {m : Str → Option Value} {nums : List (Str × Int)} (F : Fr h₀ L h' m) (N : News h₀ L h' (new ++ led))
    (a1 : m (T "rows") = some (.ref ra)) (a2 : m (T "numbers") = some (.ref na)) (a3 : m (T "more") = some more) (H : NumsIn (new ++ K) K na nums) (G : GoodN nums) (hl : ∀ q ∈ new, AllLt q.1 led) : NumPost h₀ L ra led K more s .next { s with heap := h', toks := tk } :=
  ⟨rfl, m, na, nums, new, h', tk, rfl, F, N, a1, a2, a3, H, G, hl⟩
end Mine
namespace Mine
theorem look3 {h₀ h : Heap} {L : Addr} {m : Str → Option Value} {x y z : Str} {a b c : Value} (F : Fr h₀ L h m) (hx : m x = some a) (hy : m y = some b) (hz : m z = some c) : Fr h₀ L h (fun u => if u = x then some a else if u = y then some b else if u = z then some c else m u) := by
  have e : m = put (put (put m z c) y b) x a := by rw [← put_id hz, ← put_id hy, ← put_id hx]
  rw [e] at F
  exact F
/-- what is new joins what stays -/
theorem fold_new {h₀ h : Heap} {L : Addr} {new ex objs : List (Addr × Obj)} {o a b c : Addr × Obj} (N : News h₀ L h (new ++ (o :: a :: b :: c :: (ex ++ objs)))) : News h₀ L h (a :: b :: c :: (ex ++ (new ++ (o :: objs)))) := fun q hq => N q (by
  simp only [List.mem_cons, List.mem_append] at hq ⊢
  rcases hq with hq | hq | hq | hq | hq | hq | hq <;> simp only [hq, true_or, or_true])
end Mine
end
section
open PySem PySem.W PyProof.Rows PySem.Calls PySem.Spec PySem.Builtin PySem.Builtin.Str
set_option Elab.async false
set_option maxRecDepth 100000
namespace Mine
abbrev D (v : Int) : Str := PySem.Str.ofString (toString v)
theorem menu_dig : ∀ p ∈ MENU, Digs (co p.1) ∧ co p.1 ≠ [] ∧ (co p.1).length ≤ 12 := by decide +kernel
theorem menu_strip : ∀ p ∈ MENU, strip0 p.1 = D p.2 := by decide +kernel
theorem menu_D : ∀ p ∈ MENU, Digs (co (D p.2)) ∧ co (D p.2) ≠ [] ∧ (co (D p.2)).length ≤ 12 ∧ strip0 (D p.2) = D p.2 := by decide +kernel
theorem menu_lz : ∀ p ∈ MENU, lz (D p.2) = false ∧ lz p.1 = decide (p.1 = T "02" ∨ p.1 = T "007") := by decide +kernel
theorem menu_raw : ∀ p ∈ MENU, lz p.1 = false → p.1 = D p.2 := by decide +kernel
theorem menu_int : ∀ p ∈ MENU, PySem.intText? (D p.2) = some p.2 ∧ PySem.intText? p.1 = some p.2 ∧ Txt.isdigit p.1 = true := by decide +kernel
theorem menu_v : ∀ p ∈ MENU, 0 ≤ p.2 ∧ p.2 < 10 ^ 20 := by decide +kernel
/-- a number's text, and what becomes of it -/
structure NumT (t : Str) (v : Int) : Prop where
  dig : Digs (co t)
  ne : co t ≠ []
  len : (co t).length ≤ 12
  strip : strip0 t = D v
  dd : Digs (co (D v))
  dn : co (D v) ≠ []
  dl : (co (D v)).length ≤ 12
  v0 : 0 ≤ v
  v1 : v < 10 ^ 20
  z : lz (D v) = false
  i : PySem.intText? (D v) = some v
theorem NumT.of {p : Str × Int} (h : p ∈ MENU) : NumT p.1 p.2 :=
  ⟨(menu_dig p h).1, (menu_dig p h).2.1, (menu_dig p h).2.2, menu_strip p h, (menu_D p h).1, (menu_D p h).2.1, (menu_D p h).2.2.1, (menu_v p h).1, (menu_v p h).2, (menu_lz p h).1, (menu_int p h).1⟩
theorem NumT.dec {p : Str × Int} (h : p ∈ MENU) : NumT (D p.2) p.2 :=
  ⟨(menu_D p h).1, (menu_D p h).2.1, (menu_D p h).2.2.1, (menu_D p h).2.2.2, (menu_D p h).1, (menu_D p h).2.1, (menu_D p h).2.2.1, (menu_v p h).1, (menu_v p h).2, (menu_lz p h).1, (menu_int p h).1⟩
theorem NumT.nodot {t : Str} {v : Int} (h : NumT t v) : 46 ∉ co t := fun m => absurd (h.dig 46 m) (by decide)
theorem NumT.nodotD {t : Str} {v : Int} (h : NumT t v) : 46 ∉ co (D v) := fun m => absurd (h.dd 46 m) (by decide)
theorem numT_zero : NumT (T "0") 0 := NumT.of (p := (T "0", 0)) (by decide)
theorem co_abc (a b c : Int) : co (abcText a b c) = co (D a) ++ 46 :: (co (D b) ++ 46 :: co (D c)) := by
  unfold abcText
  rw [co_app, co_app, co_app, co_app, dot_eq, List.append_assoc, List.append_assoc, List.append_assoc]
  rfl
/-- what stands ahead of the rest, made a version's three numbers -/
structure BaseOk (x : Str) (R : List Nat) (v1 v2 v3 : Int) : Prop where
  l0 : 0 < x.length
  e0 : 0 < numEnd x
  e1 : co (Txt.slice x (some (numEnd x)) none) = R
  e2 : numEnd x = (x.length : Int) - R.length
  p : ∃ n1 w, PadTo n1 (Txt.slice x none (some (numEnd x))) w ∧ w.length ≤ 12000 ∧ ∃ l, Txt.split w (T ".") = l ∧ (∀ y ∈ l, y.length ≤ 12000) ∧ l.length ≤ 1000 ∧ JoinOk (T ".") (l.map strip0) = true ∧ Txt.join (T ".") (l.map strip0) = abcText v1 v2 v3
theorem join3 {t1 t2 t3 : Str} {v1 v2 v3 : Int} (h1 : NumT t1 v1) (h2 : NumT t2 v2) (h3 : NumT t3 v3) {w : Str} (e : co w = co t1 ++ 46 :: (co t2 ++ 46 :: co t3)) :
    w.length ≤ 12000 ∧ ∃ l, Txt.split w (T ".") = l ∧ (∀ y ∈ l, y.length ≤ 12000) ∧ l.length ≤ 1000 ∧ JoinOk (T ".") (l.map strip0) = true ∧ Txt.join (T ".") (l.map strip0) = abcText v1 v2 v3 := by
  have a1 := h1.len
  have a2 := h2.len
  have a3 := h3.len
  have b1 := h1.dl
  have b2 := h2.dl
  have b3 := h3.dl
  refine ⟨?_, [t1, t2, t3], ?_, ?_, ?_, ?_, ?_⟩
  · rw [co_len, e]; simp only [List.length_append, List.length_cons]; omega
  · show Txt.split w (Str.ofString ".") = _
    rw [dot_eq]
    refine split_at (by simp) ?_ (by rw [e]; rfl)
    intro p hp
    simp only [List.mem_cons, List.not_mem_nil, or_false] at hp
    rcases hp with rfl | rfl | rfl
    · exact h1.nodot
    · exact h2.nodot
    · exact h3.nodot
  · intro y hy
    simp only [List.mem_cons, List.not_mem_nil, or_false] at hy
    rcases hy with rfl | rfl | rfl <;> rw [co_len] <;> omega
  · show 3 ≤ 1000; omega
  · show JoinOk _ [strip0 t1, strip0 t2, strip0 t3] = true
    rw [h1.strip, h2.strip, h3.strip]
    have c1 : (D v1).length ≤ 12 := by rw [co_len]; exact b1
    have c2 : (D v2).length ≤ 12 := by rw [co_len]; exact b2
    have c3 : (D v3).length ≤ 12 := by rw [co_len]; exact b3
    have c4 : (T ".").length = 1 := by decide
    unfold JoinOk tooLong
    show (!decide ((((0 + (D v1).length + (T ".").length) + (D v2).length + (T ".").length) + (D v3).length + (T ".").length) > sizeLine)) = true
    rw [sizeLine_eq, c4]
    simp; omega
  · show Txt.join _ [strip0 t1, strip0 t2, strip0 t3] = _
    rw [h1.strip, h2.strip, h3.strip]
    refine co_ext ?_
    rw [co_abc]
    show co (Txt.join (Str.ofString ".") _) = _
    rw [dot_eq, co_join]
    rfl
theorem base3 {x t1 t2 t3 : Str} {v1 v2 v3 : Int} {R : List Nat} (h1 : NumT t1 v1) (h2 : NumT t2 v2) (h3 : NumT t3 v3) (e : co x = co t1 ++ 46 :: (co t2 ++ 46 :: (co t3 ++ R))) (hR : NoHead dig R) : BaseOk x R v1 v2 v3 := by
  have hn := num3 e h1.ne h1.dig h2.ne h2.dig h3.ne h3.dig hR
  have e' : co x = (co t1 ++ 46 :: (co t2 ++ 46 :: co t3)) ++ R := by rw [e]; simp
  have l1 := pos_of h1.ne
  have hw : co (Txt.slice x none (some (numEnd x))) = co t1 ++ 46 :: (co t2 ++ 46 :: co t3) := sl_to e' hn
  refine ⟨?_, ?_, sl_from e' hn, ?_, 0, Txt.slice x none (some (numEnd x)), ⟨?_, rfl⟩, join3 h1 h2 h3 hw⟩
  · rw [co_len, e]; simp only [List.length_append]; omega
  · rw [hn]; simp only [List.length_append]; omega
  · rw [hn, co_len, e']; simp only [List.length_append]; omega
  · rw [dot_eq, count_co, hw]
    have := cnt_glue (c := 46) (l := [co t1, co t2, co t3]) (by simp) (by
      intro p hp
      simp only [List.mem_cons, List.not_mem_nil, or_false] at hp
      rcases hp with rfl | rfl | rfl
      · exact h1.nodot
      · exact h2.nodot
      · exact h3.nodot)
    rw [show glue 46 [co t1, co t2, co t3] = co t1 ++ 46 :: (co t2 ++ 46 :: co t3) from rfl] at this
    rw [this]; simp only [List.length_cons, List.length_nil]; omega
theorem co_dot0 : co (Str.ofString ".0") = [46, 48] := by decide +kernel
theorem co_zero : co (T "0") = [48] := by decide +kernel
theorem base2 {x t1 t2 : Str} {v1 v2 : Int} {R : List Nat} (h1 : NumT t1 v1) (h2 : NumT t2 v2) (e : co x = co t1 ++ 46 :: (co t2 ++ R)) (hR : NoHead dig R) (hR2 : NoHead (· = 46) R) : BaseOk x R v1 v2 0 := by
  have hn := num2 e h1.ne h1.dig h2.ne h2.dig hR hR2
  have e' : co x = (co t1 ++ 46 :: co t2) ++ R := by rw [e]; simp
  have l1 := pos_of h1.ne
  have a1 := h1.len
  have a2 := h2.len
  have hw : co (Txt.slice x none (some (numEnd x))) = co t1 ++ 46 :: co t2 := sl_to e' hn
  have hw2 : co (Txt.slice x none (some (numEnd x)) ++ Str.ofString ".0") = co t1 ++ 46 :: (co t2 ++ 46 :: co (T "0")) := by
    rw [co_app, hw, co_dot0, co_zero]; simp
  refine ⟨?_, ?_, sl_from e' hn, ?_, 1, _, ⟨?_, ?_, ?_, rfl⟩, join3 h1 h2 numT_zero hw2⟩
  · rw [co_len, e]; simp only [List.length_append]; omega
  · rw [hn]; simp only [List.length_append]; omega
  · rw [hn, co_len, e']; simp only [List.length_append]; omega
  · rw [dot_eq, count_co, hw]
    have := cnt_glue (c := 46) (l := [co t1, co t2]) (by simp) (by
      intro p hp
      simp only [List.mem_cons, List.not_mem_nil, or_false] at hp
      rcases hp with rfl | rfl
      · exact h1.nodot
      · exact h2.nodot)
    rw [show glue 46 [co t1, co t2] = co t1 ++ 46 :: co t2 from rfl] at this
    rw [this]; simp only [List.length_cons, List.length_nil]; omega
  · rw [co_len, hw]; simp only [List.length_append, List.length_cons]; omega
  · rw [dot_eq, count_co, hw2]
    have := cnt_glue (c := 46) (l := [co t1, co t2, co (T "0")]) (by simp) (by
      intro p hp
      simp only [List.mem_cons, List.not_mem_nil, or_false] at hp
      rcases hp with rfl | rfl | rfl
      · exact h1.nodot
      · exact h2.nodot
      · exact numT_zero.nodot)
    rw [show glue 46 [co t1, co t2, co (T "0")] = co t1 ++ 46 :: (co t2 ++ 46 :: co (T "0")) from rfl] at this
    rw [this]; simp only [List.length_cons, List.length_nil]; omega
theorem base1 {x t1 : Str} {v1 : Int} {R : List Nat} (h1 : NumT t1 v1) (e : co x = co t1 ++ R) (hR : NoHead dig R) (hR2 : NoHead (· = 46) R) : BaseOk x R v1 0 0 := by
  have hn := num1 e h1.dig hR hR2
  have l1 := pos_of h1.ne
  have a1 := h1.len
  have hw : co (Txt.slice x none (some (numEnd x))) = co t1 := sl_to e hn
  have hw2 : co (Txt.slice x none (some (numEnd x)) ++ Str.ofString ".0") = co t1 ++ 46 :: co (T "0") := by
    rw [co_app, hw, co_dot0, co_zero]
  have hw3 : co (Txt.slice x none (some (numEnd x)) ++ Str.ofString ".0" ++ Str.ofString ".0") = co t1 ++ 46 :: (co (T "0") ++ 46 :: co (T "0")) := by
    rw [co_app, hw2, co_dot0, co_zero]; simp
  refine ⟨?_, ?_, sl_from e hn, ?_, 2, _, ⟨?_, ?_, ?_, ?_, ?_, rfl⟩, join3 h1 numT_zero numT_zero hw3⟩
  · rw [co_len, e]; simp only [List.length_append]; omega
  · rw [hn]; omega
  · rw [hn, co_len, e]; simp only [List.length_append]; omega
  · rw [dot_eq, count_co, hw, cnt_none 46 _ h1.nodot]; decide
  · rw [co_len, hw]; omega
  · rw [dot_eq, count_co, hw2]
    have := cnt_glue (c := 46) (l := [co t1, co (T "0")]) (by simp) (by
      intro p hp
      simp only [List.mem_cons, List.not_mem_nil, or_false] at hp
      rcases hp with rfl | rfl
      · exact h1.nodot
      · exact numT_zero.nodot)
    rw [show glue 46 [co t1, co (T "0")] = co t1 ++ 46 :: co (T "0") from rfl] at this
    rw [this]; simp only [List.length_cons, List.length_nil]; omega
  · rw [co_len, hw2, co_zero]; simp only [List.length_append, List.length_cons, List.length_nil]; omega
  · rw [dot_eq, count_co, hw3]
    have := cnt_glue (c := 46) (l := [co t1, co (T "0"), co (T "0")]) (by simp) (by
      intro p hp
      simp only [List.mem_cons, List.not_mem_nil, or_false] at hp
      rcases hp with rfl | rfl | rfl
      · exact h1.nodot
      · exact numT_zero.nodot
      · exact numT_zero.nodot)
    rw [show glue 46 [co t1, co (T "0"), co (T "0")] = co t1 ++ 46 :: (co (T "0") ++ 46 :: co (T "0")) from rfl] at this
    rw [this]; simp only [List.length_cons, List.length_nil]; omega
end Mine
end
section
open PySem PySem.W PyProof.Rows PySem.Calls PySem.Spec PySem.Builtin PySem.Builtin.Str
set_option Elab.async false
set_option maxRecDepth 100000
namespace Mine
/-- identifiers that may stand in a version's text -/
structure PG (b : Bool) (P : List Str) : Prop where
  len : P.length ≤ 10
  each : ∀ y ∈ P, (0 < (co y).length ∧ (co y).length ≤ 100) ∧ (b = false → lz y = false) ∧ (∀ k ∈ co y, k ∈ co SG) ∧ 46 ∉ co y ∧ (Txt.isdigit y = true → ∃ n, PySem.intText? y = some n)
theorem sg_small : ∀ k ∈ co SG, k < 128 ∧ k ≠ 10 ∧ k ≠ 43 := by rw [sg_eq]; decide
theorem PG.partV {b : Bool} {P : List Str} (G : PG b P) : ∀ y ∈ P, PartV b y := fun y hy => by
  obtain ⟨⟨a1, a2⟩, a3, _⟩ := G.each y hy
  exact ⟨by rw [co_len]; omega, by rw [co_len]; omega, a3⟩
theorem PG.partOk {b : Bool} {P : List Str} (G : PG b P) : ∀ y ∈ P, PartOk y := fun y hy => by
  obtain ⟨⟨a1, a2⟩, _, a4, _, a6⟩ := G.each y hy
  exact ⟨by rw [co_len]; omega, by rw [co_len]; omega, fun c hc => (sg_small c (a4 c hc)).1, a6⟩
theorem glue_len {c n : Nat} : ∀ {l : List (List Nat)}, (∀ p ∈ l, p.length ≤ n) → (glue c l).length ≤ l.length * (n + 1) := by
  intro l
  induction l with
  | nil => intro _; exact Nat.zero_le _
  | cons a r ih =>
    intro h
    have ha := h a (.head _)
    cases r with
    | nil => show a.length ≤ _; simp; omega
    | cons b r =>
      have := ih fun p hp => h p (.tail _ hp)
      rw [glue_cons (by simp), List.length_append, List.length_cons]
      have e : (a :: b :: r).length * (n + 1) = (b :: r).length * (n + 1) + (n + 1) := by simp only [List.length_cons]; rw [Nat.add_one_mul]
      rw [e]; omega
theorem glue_mem {c k : Nat} : ∀ {l : List (List Nat)}, k ∈ glue c l → k = c ∨ ∃ p ∈ l, k ∈ p := by
  intro l
  induction l with
  | nil => intro h; cases h
  | cons a r ih =>
    intro h
    cases r with
    | nil => exact .inr ⟨a, .head _, h⟩
    | cons b r =>
      rw [glue_cons (by simp), List.mem_append, List.mem_cons] at h
      rcases h with h | h | h
      · exact .inr ⟨a, .head _, h⟩
      · exact .inl h
      · rcases ih h with h | ⟨p, hp, hk⟩
        · exact .inl h
        · exact .inr ⟨p, .tail _ hp, hk⟩
theorem glue_ne {c : Nat} {a : List Nat} {r : List (List Nat)} (ha : a ≠ []) : glue c (a :: r) ≠ [] := by
  cases r with
  | nil => exact ha
  | cons b r => rw [glue_cons (by simp)]; simp
theorem join_co (P : List Str) : co (Txt.join (T ".") P) = glue 46 (P.map co) := by
  show co (Txt.join (Str.ofString ".") P) = _
  rw [dot_eq, co_join]
theorem PG.signs {b : Bool} {P : List Str} (G : PG b P) : ∀ k ∈ co (Txt.join (T ".") P), k ∈ co SG := fun k hk => by
  rw [join_co] at hk
  rcases glue_mem hk with rfl | ⟨p, hp, hk⟩
  · rw [sg_eq]; decide
  · obtain ⟨y, hy, rfl⟩ := List.mem_map.mp hp
    exact (G.each y hy).2.2.1 k hk
theorem PG.ne {b : Bool} {P : List Str} (G : PG b P) (h : P ≠ []) : co (Txt.join (T ".") P) ≠ [] := by
  rw [join_co]
  cases P with
  | nil => exact absurd rfl h
  | cons a r =>
    refine glue_ne fun e => ?_
    have := (G.each a (.head _)).1.1
    rw [e] at this; exact absurd this (by decide)
theorem PG.lt {b : Bool} {P : List Str} (G : PG b P) : (co (Txt.join (T ".") P)).length ≤ 1010 := by
  rw [join_co]
  have h1 := glue_len (c := 46) (n := 100) (l := P.map co) fun p hp => by
    obtain ⟨y, hy, rfl⟩ := List.mem_map.mp hp
    exact (G.each y hy).1.2
  have h2 := G.len
  rw [List.length_map] at h1
  omega
theorem PG.split {b : Bool} {P : List Str} (G : PG b P) (h : P ≠ []) : Txt.split (Txt.join (T ".") P) (T ".") = P := by
  show Txt.split _ (Str.ofString ".") = P
  rw [dot_eq]
  exact split_at h (fun p hp => (G.each p hp).2.2.2.1) (join_co P)
def optJ (P : List Str) : Option Str := if P = [] then none else some (Txt.join (T ".") P)
theorem optJ_nil : optJ [] = none := rfl
theorem optJ_ne {P : List Str} (h : P ≠ []) : optJ P = some (Txt.join (T ".") P) := by unfold optJ; rw [if_neg h]
theorem optJ_signs {b : Bool} {P : List Str} (G : PG b P) : SignsOk (optJ P) := fun p e => by
  by_cases h : P = []
  · subst h; cases e
  · rw [optJ_ne h] at e
    cases e
    exact ⟨G.signs, G.ne h⟩
theorem optJ_parts {b : Bool} {P : List Str} (G : PG b P) {l : List (Str × Tok)} (e : PartsOf (optJ P) l) : l.map (·.1) = P := by
  by_cases h : P = []
  · subst h
    cases (show l = [] from e)
    rfl
  · rw [optJ_ne h] at e
    have e' : l.map (·.1) = Txt.split (Txt.join (T ".") P) (T ".") := e
    rw [e', G.split h]
theorem co_verText (v1 v2 v3 : Int) (P B : List Str) : co (verText v1 v2 v3 P B) = co (D v1) ++ 46 :: (co (D v2) ++ 46 :: (co (D v3) ++ tailOf (optJ P) (optJ B))) := by
  unfold verText withBld withPre tailOf
  by_cases hP : P = []
  · by_cases hB : B = []
    · subst hP hB
      rw [if_pos rfl, if_pos rfl, optJ_nil, co_abc]; simp
    · subst hP
      rw [if_neg hB, if_pos rfl, optJ_nil, optJ_ne hB, Str.empty_append, co_app, co_app, co_abc, plus_eq]
      simp; rfl
  · by_cases hB : B = []
    · subst hB
      rw [if_pos rfl, if_neg hP, optJ_nil, optJ_ne hP, Str.empty_append, co_app, co_app, co_abc, dash_eq]
      simp; rfl
    · rw [if_neg hB, if_neg hP, optJ_ne hP, optJ_ne hB, Str.empty_append, Str.empty_append, co_app, co_app, co_app, co_app, co_abc, dash_eq, plus_eq]
      simp; rfl
theorem nl_ok {x : Str} (h : 10 ∉ co x) : (Txt.slice x (some (-1)) none == Str.ofString "\n") = false := by
  rw [slice_from_neg (by decide), str_beq, decide_eq_false_iff_not]
  intro e
  apply h
  have hx : max 0 ((x.length : Int) + -1) = ((x.length - 1 : Nat) : Int) := by omega
  rw [hx, co_slice_from (by rw [← co_len]; omega)] at e
  have : (10 : Nat) ∈ co (Str.ofString "\n") := by decide +kernel
  rw [← e] at this
  exact List.mem_of_mem_drop this
theorem tail_mem {gp gq : Option Str} (hp : SignsOk gp) (hq : SignsOk gq) : ∀ k ∈ tailOf gp gq, k ≠ 10 := fun k hk e => by
  subst e
  unfold tailOf at hk
  rcases List.mem_append.mp hk with hk | hk
  · cases gp with
    | none => cases hk
    | some p =>
      rcases List.mem_cons.mp hk with e | hk
      · cases e
      · exact (sg_small _ ((hp p rfl).1 _ hk)).2.1 rfl
  · cases gq with
    | none => cases hk
    | some p =>
      rcases List.mem_cons.mp hk with e | hk
      · cases e
      · exact (sg_small _ ((hq p rfl).1 _ hk)).2.1 rfl
theorem tail_len {b b' : Bool} {P B : List Str} (GP : PG b P) (GB : PG b' B) : (tailOf (optJ P) (optJ B)).length ≤ 2030 := by
  have h1 := GP.lt
  have h2 := GB.lt
  unfold tailOf
  rw [List.length_append]
  by_cases hP : P = []
  · by_cases hB : B = []
    · rw [hP, hB, optJ_nil]; simp
    · rw [hP, optJ_nil, optJ_ne hB]; simp only [List.length_cons, List.length_nil]; omega
  · by_cases hB : B = []
    · rw [hB, optJ_nil, optJ_ne hP]; simp only [List.length_cons, List.length_nil]; omega
    · rw [optJ_ne hP, optJ_ne hB]; simp only [List.length_cons]; omega
theorem NumT.nl {t : Str} {v : Int} (h : NumT t v) : 10 ∉ co (D v) := fun m => absurd (h.dd 10 m) (by decide)
theorem pok_text {y t1 t2 t3 : Str} {v1 v2 v3 : Int} {P B : List Str} (h1 : NumT t1 v1) (h2 : NumT t2 v2) (h3 : NumT t3 v3) (GP : PG false P) (GB : PG true B) (e : co y = co (D v1) ++ 46 :: (co (D v2) ++ 46 :: (co (D v3) ++ tailOf (optJ P) (optJ B)))) :
    POK y (D v1) (D v2) (D v3) (optJ P) (optJ B) v1 v2 v3 := by
  have a1 := pos_of h1.dn
  have a2 := pos_of h2.dn
  have a3 := pos_of h3.dn
  have b1 := h1.dl
  have b2 := h2.dl
  have b3 := h3.dl
  have tl := tail_len GP GB
  have sp := optJ_signs GP
  have sq := optJ_signs GB
  refine ⟨?_, ?_, nl_ok ?_, vg_val e h1.dn h1.dd h2.dn h2.dd h3.dn h3.dd sp sq, ?_, ?_, h1.z, h1.i, ?_, ?_, h2.z, h2.i, ?_, ?_, h3.z, h3.i, ?_, ?_⟩
  · rw [co_len, e]; simp only [List.length_append, List.length_cons]; omega
  · rw [co_len, e]; simp only [List.length_append, List.length_cons]; omega
  · rw [e]
    simp only [List.mem_append, List.mem_cons, not_or]
    exact ⟨h1.nl, by decide, h2.nl, by decide, h3.nl, fun m => tail_mem sp sq 10 m rfl⟩
  · rw [co_len]; exact a1
  · rw [co_len]; omega
  · rw [co_len]; exact a2
  · rw [co_len]; omega
  · rw [co_len]; exact a3
  · rw [co_len]; omega
  · intro t et
    have hP : P ≠ [] := fun h0 => by rw [h0] at et; cases et
    rw [optJ_ne hP] at et
    cases et
    have := GP.lt
    have := pos_of (GP.ne hP)
    have := GP.len
    refine ⟨by rw [co_len]; omega, by rw [co_len]; omega, ?_, ?_, ?_⟩
    · rw [show Str.ofString "." = T "." from rfl, GP.split hP]; exact GP.partV
    · rw [show Str.ofString "." = T "." from rfl, GP.split hP]; omega
    · rw [show Str.ofString "." = T "." from rfl, GP.split hP]; exact GP.partOk
  · intro t et
    have hP : B ≠ [] := fun h0 => by rw [h0] at et; cases et
    rw [optJ_ne hP] at et
    cases et
    have := GB.lt
    have := pos_of (GB.ne hP)
    have := GB.len
    refine ⟨by rw [co_len]; omega, by rw [co_len]; omega, ?_, ?_, ?_⟩
    · rw [show Str.ofString "." = T "." from rfl, GB.split hP]; exact GB.partV
    · rw [show Str.ofString "." = T "." from rfl, GB.split hP]; omega
    · rw [show Str.ofString "." = T "." from rfl, GB.split hP]; exact GB.partOk
end Mine
end
section
open PySem PySem.W PyProof.Rows PySem.Calls PySem.Spec PySem.Builtin PySem.Builtin.Str
set_option Elab.async false
set_option maxRecDepth 100000
namespace Mine
theorem co_join0 : ∀ l : List Str, co (Txt.join (T "") l) = (l.map co).flatten := by
  intro l
  have e : Txt.join (T "") l = Str.join (T "") l := StrLaws.glued_eq_join _ _
  have e0 : co (T "") = [] := by decide +kernel
  rw [e]; clear e
  induction l with
  | nil => rfl
  | cons a r ih =>
    cases r with
    | nil => simp [Str.join]
    | cons b r =>
      show co (a ++ T "" ++ Str.join (T "") (b :: r)) = _
      rw [co_app, co_app, ih, e0]
      simp
theorem gS_keep {k : Nat} (h : k ∈ co SG ∨ k = 43) : gS k = ⟨#[k]⟩ := by
  unfold gS
  rw [if_pos]
  rw [Bool.or_eq_true]
  rcases h with h | h
  · refine .inl ?_
    show Txt.contains SG ⟨#[k]⟩ = true
    rw [txt_in]; exact decide_eq_true h
  · subst h; exact .inr (by rw [plus_eq]; exact beq_self_eq_true _)
theorem map_keep {l : List Nat} (h : ∀ k ∈ l, k ∈ co SG ∨ k = 43) : co (Txt.join (T "") (l.map gS)) = l := by
  rw [co_join0]
  induction l with
  | nil => rfl
  | cons a r ih =>
    simp only [List.map_cons, List.flatten_cons]
    rw [ih fun k hk => h k (.tail _ hk), gS_keep (h a (.head _))]
    rfl
theorem gS_len (k : Nat) : (gS k).length = 1 := by
  unfold gS
  split
  · rfl
  · decide +kernel
theorem fold_ones : ∀ (l : List Nat) (a : Nat), (l.map gS).foldl (fun n s => n + s.length + (T "").length) a = a + l.length := by
  intro l
  induction l with
  | nil => intro a; rfl
  | cons k r ih =>
    intro a
    have e0 : (T "").length = 0 := by decide +kernel
    simp only [List.map_cons, List.foldl_cons, List.length_cons]
    rw [ih, gS_len, e0]; omega
theorem joinOk0 {l : List Nat} (h : l.length ≤ 10000) : JoinOk (T "") (l.map gS) = true := by
  unfold JoinOk tooLong
  rw [List.foldl_toArray, fold_ones]
  rw [sizeLine_eq]
  simp; omega
abbrev tl1 (s : Str) : Str := Txt.slice s (some 1) none
def preW (w : Str) : List Str := if w = T "" then [] else [tl1 w]
def rW (w u : Str) : Str := Txt.join (T "") ((co (w ++ u)).map gS)
theorem pre_one (t p : Str) : withPre t [p] = Str.empty ++ t ++ Str.ofString "-" ++ p := by
  unfold withPre; rw [if_neg (by simp)]; rfl
theorem bld_one (t p : Str) : withBld t [p] = Str.empty ++ t ++ Str.ofString "+" ++ p := by
  unfold withBld; rw [if_neg (by simp)]; rfl
theorem rest_pre {w : Str} (h : w = T " rc" ∨ w = T "_b" ∨ w = T "-2") (v2 : Str) : RestCase (rW w (T "")) v2 (withBld (withPre v2 (preW w)) (preW (T ""))) := by
  rcases h with rfl | rfl | rfl
  · exact .dash (by decide +kernel) (by decide +kernel) (by decide +kernel) (by decide +kernel) (by decide +kernel) (by decide +kernel) (by decide +kernel) (by
      rw [show preW (T " rc") = [Txt.slice (rW (T " rc") (T "")) (some 1) none] by decide +kernel, pre_one]; rfl)
  · exact .dash (by decide +kernel) (by decide +kernel) (by decide +kernel) (by decide +kernel) (by decide +kernel) (by decide +kernel) (by decide +kernel) (by
      rw [show preW (T "_b") = [Txt.slice (rW (T "_b") (T "")) (some 1) none] by decide +kernel, pre_one]; rfl)
  · exact .dash (by decide +kernel) (by decide +kernel) (by decide +kernel) (by decide +kernel) (by decide +kernel) (by decide +kernel) (by decide +kernel) (by
      rw [show preW (T "-2") = [Txt.slice (rW (T "-2") (T "")) (some 1) none] by decide +kernel, pre_one]; rfl)
theorem rest_bld {u : Str} (h : u = T "+7" ∨ u = T "+b") (v2 : Str) : RestCase (rW (T "") u) v2 (withBld (withPre v2 (preW (T ""))) (preW u)) := by
  rcases h with rfl | rfl
  · exact .plus (T "7") (by decide +kernel) (by decide +kernel) (by decide +kernel) (by decide +kernel) (by
      rw [show preW (T "+7") = [T "7"] by decide +kernel, bld_one]; rfl)
  · exact .plus (T "b") (by decide +kernel) (by decide +kernel) (by decide +kernel) (by decide +kernel) (by
      rw [show preW (T "+b") = [T "b"] by decide +kernel, bld_one]; rfl)
theorem rest_both {w u p q : Str} (v2 : Str) (e1 : preW w = [p]) (e2 : preW u = [q]) (h1 : (Txt.item (rW w u) 0 == Str.ofString "+") = false) (h2 : (Txt.item (rW w u) 0 == Str.ofString ".") = false) (h3 : (Txt.item (rW w u) 0 == Str.ofString "-") = true)
    (hp : (Builtin.Str.occurrences (Txt.slice (rW w u) (some 1) none) (Str.ofString "+") 0 (Txt.slice (rW w u) (some 1) none).length 1).isEmpty = false) (hl : (Txt.slice (rW w u) (some 1) none).length < 10000) (hs : Txt.splitMax (Txt.slice (rW w u) (some 1) none) (Str.ofString "+") 1 = [p, q])
    (hb : 0 < p.length ∧ p.length < 10000 ∧ q.length < 10000 ∧ Txt.replace q (Str.ofString "+") (Str.ofString ".") = q ∧ 0 < q.length) : RestCase (rW w u) v2 (withBld (withPre v2 (preW w)) (preW u)) := by
  obtain ⟨a1, a2, a3, a4, a5⟩ := hb
  exact .both p q q h1 h2 h3 hp hl hs a1 a2 a3 a4 a5 a3 (by rw [e1, e2, pre_one, bld_one])
theorem rest_tab {w u : Str} (hw : w ∈ WORDS) (hu : u ∈ PLUS) (hne : ¬ (w = T "" ∧ u = T "")) (v2 : Str) : RestCase (rW w u) v2 (withBld (withPre v2 (preW w)) (preW u)) := by
  simp only [WORDS, PLUS, List.mem_cons, List.not_mem_nil, or_false] at hw hu
  rcases hw with rfl | hw
  · rcases hu with rfl | hu
    · exact absurd ⟨rfl, rfl⟩ hne
    · exact rest_bld hu v2
  · rcases hu with rfl | rfl | rfl
    · exact rest_pre hw v2
    · rcases hw with rfl | rfl | rfl
      · exact rest_both (p := T "rc") (q := T "7") v2 (by decide +kernel) (by decide +kernel) (by decide +kernel) (by decide +kernel) (by decide +kernel) (by decide +kernel) (by decide +kernel) (by decide +kernel) (by decide +kernel)
      · exact rest_both (p := T "b") (q := T "7") v2 (by decide +kernel) (by decide +kernel) (by decide +kernel) (by decide +kernel) (by decide +kernel) (by decide +kernel) (by decide +kernel) (by decide +kernel) (by decide +kernel)
      · exact rest_both (p := T "2") (q := T "7") v2 (by decide +kernel) (by decide +kernel) (by decide +kernel) (by decide +kernel) (by decide +kernel) (by decide +kernel) (by decide +kernel) (by decide +kernel) (by decide +kernel)
    · rcases hw with rfl | rfl | rfl
      · exact rest_both (p := T "rc") (q := T "b") v2 (by decide +kernel) (by decide +kernel) (by decide +kernel) (by decide +kernel) (by decide +kernel) (by decide +kernel) (by decide +kernel) (by decide +kernel) (by decide +kernel)
      · exact rest_both (p := T "b") (q := T "b") v2 (by decide +kernel) (by decide +kernel) (by decide +kernel) (by decide +kernel) (by decide +kernel) (by decide +kernel) (by decide +kernel) (by decide +kernel) (by decide +kernel)
      · exact rest_both (p := T "2") (q := T "b") v2 (by decide +kernel) (by decide +kernel) (by decide +kernel) (by decide +kernel) (by decide +kernel) (by decide +kernel) (by decide +kernel) (by decide +kernel) (by decide +kernel)
/-- closed facts on the short rests -/
theorem tab_facts : ∀ w ∈ WORDS, ∀ u ∈ PLUS, tailOf (optJ (preW w)) (optJ (preW u)) = co (rW w u) ∧ Txt.join (T "") ((co (rW w u)).map gS) = rW w u ∧ (co (w ++ u)).length ≤ 10 ∧ (co (rW w u)).length = (co (w ++ u)).length ∧ 10 ∉ co (w ++ u) := by decide +kernel
theorem tab_head : ∀ w ∈ WORDS, ∀ u ∈ PLUS, ∀ c ∈ (co (w ++ u)).take 1, ¬ dig c ∧ c ≠ 46 := by decide +kernel
theorem preW_facts : ∀ w ∈ WORDS ++ PLUS, (preW w).length ≤ 10 ∧ ∀ y ∈ preW w, (0 < (co y).length ∧ (co y).length ≤ 100) ∧ lz y = false ∧ (∀ k ∈ co y, k ∈ co SG) ∧ 46 ∉ co y ∧ (Txt.isdigit y = true → PySem.intText? y = some 2 ∨ PySem.intText? y = some 7) := by decide +kernel
theorem preW_PG {w : Str} (h : w ∈ WORDS ++ PLUS) (b : Bool) : PG b (preW w) := by
  obtain ⟨a, b⟩ := preW_facts w h
  refine ⟨a, fun y hy => ?_⟩
  obtain ⟨c1, c2, c3, c4, c5⟩ := b y hy
  exact ⟨c1, fun _ => c2, c3, c4, fun h => (c5 h).elim (fun e => ⟨_, e⟩) fun e => ⟨_, e⟩⟩
/-- what Version.coerce asks of a text -/
structure CoOk (x y : Str) (v1 v2 v3 : Int) : Prop where
  x1 : x.length < 10000
  base : ∃ R, BaseOk x R v1 v2 v3
  fin : EndCase x (abcText v1 v2 v3) y
  la : (abcText v1 v2 v3).length < 10000
theorem abc_len {t1 t2 t3 : Str} {v1 v2 v3 : Int} (h1 : NumT t1 v1) (h2 : NumT t2 v2) (h3 : NumT t3 v3) : (abcText v1 v2 v3).length < 10000 := by
  have a1 := h1.dl
  have a2 := h2.dl
  have a3 := h3.dl
  rw [co_len, co_abc]; simp only [List.length_append, List.length_cons]; omega
theorem end_whole {x : Str} {v1 v2 v3 : Int} (b : BaseOk x [] v1 v2 v3) : EndCase x (abcText v1 v2 v3) (abcText v1 v2 v3) :=
  .whole (by rw [b.e2]; simp) rfl
theorem end_more {x y r v : Str} {R : List Nat} {v1 v2 v3 : Int} (b : BaseOk x R v1 v2 v3) (hR : R ≠ []) (hl : R.length ≤ 9000) (hr : Txt.join (T "") (R.map gS) = r) (hr0 : 0 < (co r).length) (hrl : (co r).length ≤ 9000) (hc : RestCase r v y) : EndCase x v y := by
  have l0 := pos_of hR
  refine .more r ?_ ?_ ?_ (by rw [co_len]; exact hr0) (by rw [co_len]; omega) hc
  · rw [b.e2, beq_eq_false_iff_ne]; omega
  · show JoinOk (T "") ((co (Txt.slice x (some (numEnd x)) none)).map gS) = true
    rw [b.e1]; exact joinOk0 (by omega)
  · show Txt.join (T "") ((co (Txt.slice x (some (numEnd x)) none)).map gS) = r
    rw [b.e1]; exact hr
theorem noHead_take {P : Nat → Prop} {l : List Nat} (h : ∀ c ∈ l.take 1, ¬ P c) : NoHead P l := fun c r e => by subst e; exact h c (by simp)
/-- texts of up to three numbers: coerce of the text and of the version's text -/
theorem short_co {x w u : Str} {v1 v2 v3 : Int} {t1 t2 t3 : Str} (hw : w ∈ WORDS) (hu : u ∈ PLUS) (h1 : NumT t1 v1) (h2 : NumT t2 v2) (h3 : NumT t3 v3) (hx : x.length < 10000) (b : BaseOk x (co (w ++ u)) v1 v2 v3) :
    CoOk x (verText v1 v2 v3 (preW w) (preW u)) v1 v2 v3 := by
  refine ⟨hx, ⟨_, b⟩, ?_, abc_len h1 h2 h3⟩
  obtain ⟨f1, f2, f3, f4, f5⟩ := tab_facts w hw u hu
  by_cases hne : w = T "" ∧ u = T ""
  · obtain ⟨rfl, rfl⟩ := hne
    exact end_whole b
  · have hR : co (w ++ u) ≠ [] := fun e => hne (by
      have : ∀ w ∈ WORDS, ∀ u ∈ PLUS, co (w ++ u) = [] → w = T "" ∧ u = T "" := by decide +kernel
      exact this w hw u hu e)
    have l0 := pos_of hR
    exact end_more b hR (by omega) rfl (by rw [show Txt.join (T "") ((co (w ++ u)).map gS) = rW w u from rfl, f4]; exact l0) (by rw [show Txt.join (T "") ((co (w ++ u)).map gS) = rW w u from rfl]; omega) (rest_tab hw hu hne _)
theorem short_again {w u : Str} {v1 v2 v3 : Int} {t1 t2 t3 : Str} (hw : w ∈ WORDS) (hu : u ∈ PLUS) (h1 : NumT t1 v1) (h2 : NumT t2 v2) (h3 : NumT t3 v3) (h1' : NumT (D v1) v1) (h2' : NumT (D v2) v2) (h3' : NumT (D v3) v3) :
    CoOk (verText v1 v2 v3 (preW w) (preW u)) (verText v1 v2 v3 (preW w) (preW u)) v1 v2 v3 := by
  obtain ⟨f1, f2, f3, f4, f5⟩ := tab_facts w hw u hu
  have e := co_verText v1 v2 v3 (preW w) (preW u)
  have b : BaseOk (verText v1 v2 v3 (preW w) (preW u)) (tailOf (optJ (preW w)) (optJ (preW u))) v1 v2 v3 := base3 h1' h2' h3' e tail_sign.1
  rw [f1] at b e
  have a1 := h1.dl
  have a2 := h2.dl
  have a3 := h3.dl
  refine ⟨by rw [co_len, e]; simp only [List.length_append, List.length_cons]; omega, ⟨_, b⟩, ?_, abc_len h1 h2 h3⟩
  by_cases hne : w = T "" ∧ u = T ""
  · obtain ⟨rfl, rfl⟩ := hne
    rw [show co (rW (T "") (T "")) = [] by decide +kernel] at b
    exact end_whole b
  · have hR : co (rW w u) ≠ [] := fun e => hne (by
      have : ∀ w ∈ WORDS, ∀ u ∈ PLUS, co (rW w u) = [] → w = T "" ∧ u = T "" := by decide +kernel
      exact this w hw u hu e)
    have l0 := pos_of hR
    exact end_more b hR (by omega) f2 l0 (by omega) (rest_tab hw hu hne _)
end Mine
end
section
open PySem PySem.W PyProof.Rows PySem.Calls PySem.Spec
set_option Elab.async false
namespace Mine
abbrev TABS : List (Addr × Addr) := [(270, 268), (327, 323)]
/-- what law's walk must show -/
def LawEnd (s₁ : Shared) (r : Result) (s' : Shared) : Prop :=
  r = .ok (.ret (.bool true)) ∧ (∀ b o, (ghostOf s₁.heap TABS).get? b = some o → s'.heap.get? b = some o) ∧ s'.os = s₁.os ∧ AllBare s'.gens ∧ GrownAll TABS s'.heap
def LawWalk : Prop := ∀ (w : World) (loose : List Str) (mean : ExcName → Option Value) (mg mb : Str → Option Value) (s₁ : Shared) (sa : Addr) (xs : List Int) (vals : List Value),
  TabsAt TABS s₁.heap → (Mine.hd.heap_39 w.params).In (ghostOf s₁.heap TABS) → Top topProg loose mean mg mb (ghostOf s₁.heap TABS) → s₁.heap.IsList sa vals.toArray → IntsAre vals xs → xs.length ≤ 63 → s₁.gens = #[] →
  codeAny (model PR w) callerA (.call (.ref 411) ⟨[.ref sa], []⟩) (LawEnd s₁) s₁
theorem good_of {c : ClaimW} {cl : Str → Option Addr} {mean : ExcName → Option Value} {args : List WData} {s₁ s' : Shared} {r : Result} (hT : TabsAt TABS s₁.heap) (h : LawEnd s₁ r s') (hr : ∀ cls, c.raises args cls = false)
    (hp : c.post args (ofPy (.bool true)) args = true) : GoodWG c cl mean args s₁ r s' := by
  obtain ⟨rfl, hk, hos, hg, hgr⟩ := h
  have keep : ∀ b o, b ∉ TABS.map (·.2) → s₁.heap.get? b = some o → s'.heap.get? b = some o := fun b o hb e => hk b o (ghost_ne e hb)
  have grown : ∀ b o, b ∈ TABS.map (·.2) → s₁.heap.get? b = some o → isCodeTable s₁.heap b ∧ o = tabObj #[] ∧ ∃ ps, s'.heap.get? b = some (tabObj ps) := fun b o hb e => by
    obtain ⟨q, hq, rfl⟩ := List.mem_map.mp hb
    have e2 := (hT q hq).2
    rw [e] at e2
    exact ⟨((hT q hq).1.tab (hT q hq).2).isCodeTable, Option.some.inj e2, hgr.get q hq⟩
  refine ⟨.inl ⟨_, ofPy (.bool true), [], rfl, hr, readsW_of_reads (by constructor), hp, fun _ => ⟨List.nodup_nil, fun _ ha => nomatch ha⟩⟩, ⟨fun b o e => ?_, fun b o e => ?_⟩, hos, hg⟩
  · by_cases hb : b ∈ TABS.map (·.2)
    · obtain ⟨ht, rfl, ps, hP⟩ := grown b o hb e
      exact .inr (.inl ⟨ht, rfl, #[], ps, rfl, by rw [Array.empty_append]; exact hP⟩)
    · exact .inl (keep b o hb e)
  · by_cases hb : b ∈ TABS.map (·.2)
    · obtain ⟨_, _, ps, hP⟩ := grown b o hb e
      exact ⟨_, hP⟩
    · exact ⟨_, keep b o hb e⟩
end Mine
end
section
open PySem PySem.W PyProof.Rows PySem.Calls PySem.Spec
set_option Elab.async false
set_option maxRecDepth 100000
set_option linter.unusedSimpArgs false
namespace Mine
theorem allLt_mem {d : Nat} : ∀ {l : List (Addr × Obj)}, AllLt d l → ∀ p ∈ l, @LT.lt Nat _ p.1 d := by
  intro l
  induction l with
  | nil => intro _ p hp; cases hp
  | cons a r ih =>
    intro h p hp
    rcases List.mem_cons.mp hp with e | hp
    · rw [e]; exact h.1
    · exact ih h.2 p hp
theorem allLt_app {d : Nat} {a b : List (Addr × Obj)} (h : AllLt d (a ++ b)) : AllLt d a ∧ AllLt d b :=
  ⟨allLt_of fun p hp => allLt_mem h p (List.mem_append_left _ hp), allLt_of fun p hp => allLt_mem h p (List.mem_append_right _ hp)⟩
/-- a loop's turn has its end: what is new lies above all that stood -/
theorem LS.turn {h₀ : Heap} {L : Addr} {m' : Str → Option Value} {muts muts' ex objs new : List (Addr × Obj)} {os : OsState} {s' : Shared}
    (F : Fr h₀ L s'.heap m') (N : News h₀ L s'.heap (muts' ++ (ex ++ (new ++ objs)))) (hm : muts'.map (·.1) = muts.map (·.1)) (ap : ∀ p ∈ muts, ∀ q ∈ ex ++ objs, p.1 ≠ q.1) (ax : ∀ p ∈ ex, ∀ q ∈ objs, p.1 ≠ q.1)
    (hn : ∀ q ∈ new, AllLt q.1 muts ∧ AllLt q.1 ex) (G : AllBare s'.gens) (ho : s'.os = os) : LS h₀ L m' muts' ex (new ++ objs) os s' := by
  have back : ∀ p ∈ muts', ∃ p' ∈ muts, p'.1 = p.1 := fun p hp => by
    have : p.1 ∈ muts.map (·.1) := hm ▸ List.mem_map_of_mem hp
    obtain ⟨p', a, b⟩ := List.mem_map.mp this
    exact ⟨p', a, b⟩
  refine ⟨F, N, fun p hp q hq => ?_, fun p hp q hq => ?_, G, ho⟩
  · obtain ⟨p', hp', e⟩ := back p hp
    rw [← e]
    rcases List.mem_append.mp hq with hq | hq
    · exact ap p' hp' q (List.mem_append_left _ hq)
    · rcases List.mem_append.mp hq with hq | hq
      · exact Nat.ne_of_lt (allLt_mem (hn q hq).1 p' hp')
      · exact ap p' hp' q (List.mem_append_right _ hq)
  · rcases List.mem_append.mp hq with hq | hq
    · exact Nat.ne_of_lt (allLt_mem (hn q hq).2 p hp)
    · exact ax p hp q hq
theorem turn1 {h₀ : Heap} {L : Addr} {m' : Str → Option Value} {ex objs objs2 new9 : List (Addr × Obj)} {os : OsState} {s' : Shared} {ra na9 D a1 : Addr} {rvals : List Value} {n n' : Nat} {rows : List Row} {nums9 : List (Str × Int)} {xw xp : Str} {tw tp : Tok} {i : Nat} {o1 : Obj}
    (F : Fr h₀ L s'.heap m') (N : News h₀ L s'.heap ((D, tupObj [.ref na9, .str xw tw, .str xp tp]) :: (268, tabObj #[]) :: (323, tabObj #[]) :: (ra, W.listOf (rvals.toArray.push (Value.ref D)) n') :: (ex ++ objs2)))
    (hob : new9 ++ (a1, o1) :: objs = objs2)
    (ap : ∀ p ∈ ([(268, tabObj #[]), (323, tabObj #[]), (ra, W.listOf rvals.toArray n)] : List (Addr × Obj)), ∀ q ∈ ex ++ objs, p.1 ≠ q.1) (ax : ∀ p ∈ ex, ∀ q ∈ objs, p.1 ≠ q.1) (G : AllBare s'.gens) (ho : s'.os = os)
    (lD : @LT.lt Nat _ 268 D ∧ @LT.lt Nat _ 323 D ∧ @LT.lt Nat _ ra D ∧ AllLt D (ex ++ objs2)) (g1 : @LT.lt Nat _ 268 a1) (g2 : @LT.lt Nat _ 323 a1) (g3 : @LT.lt Nat _ ra a1) (g4 : AllLt a1 (ex ++ objs))
    (al : ∀ q ∈ new9, AllLt q.1 ((a1, o1) :: (268, tabObj #[]) :: (323, tabObj #[]) :: (ra, W.listOf rvals.toArray n) :: (ex ++ objs)))
    (hr : m' (T "rows") = some (.ref ra)) (hn : m' (T "numbers") = some (.ref na9)) (H : NumsAt objs2 na9 nums9) (G9 : GoodN nums9) (R : All2 (RowAt objs) rvals rows) (hi : rows.length = i) (hg : ∀ r ∈ rows, GoodR r) (hw : xw ∈ WORDS) (hp : xp ∈ PLUS) (h4 : 4 ≤ nums9.length → xp = T "") :
    TurnG h₀ L [(268, tabObj #[]), (323, tabObj #[]), (ra, W.listOf rvals.toArray n)] ex os (J1 ra (i + 1)) .next s' := by
  subst hob
  have hsub : ∀ q ∈ objs, q ∈ (D, tupObj [.ref na9, .str xw tw, .str xp tp]) :: (new9 ++ (a1, o1) :: objs) := fun q hq => .tail _ (List.mem_append_right _ (.tail _ hq))
  refine ⟨rfl, m', [(268, tabObj #[]), (323, tabObj #[]), (ra, W.listOf (rvals ++ [Value.ref D]).toArray n')], ((D, tupObj [.ref na9, .str xw tw, .str xp tp]) :: (new9 ++ [(a1, o1)])) ++ objs, LS.turn (muts := [(268, tabObj #[]), (323, tabObj #[]), (ra, W.listOf rvals.toArray n)]) F (fun q hq => ?_) rfl ap ax ?_ G ho, rfl, rows ++ [⟨nums9, xw, xp⟩], rvals ++ [Value.ref D], n', na9, nums9, rfl, hr, hn, ?_, G9, .snoc (R.imp fun x y h => h.mono ?_) ?_, ?_, ?_⟩
  · rw [List.push_toArray] at N
    refine N q ?_
    simp only [List.cons_append, List.nil_append, List.append_assoc, List.mem_cons, List.mem_append, List.not_mem_nil, or_false] at hq ⊢
    grind
  · intro q hq
    rcases List.mem_cons.mp hq with rfl | hq
    · exact ⟨⟨lD.1, lD.2.1, lD.2.2.1, trivial⟩, (allLt_app lD.2.2.2).1⟩
    · rcases List.mem_append.mp hq with hq | hq
      · obtain ⟨_, b1, b2, b3, b4⟩ := al q hq
        exact ⟨⟨b1, b2, b3, trivial⟩, (allLt_app b4).1⟩
      · rw [List.mem_singleton.mp hq]
        exact ⟨⟨g1, g2, g3, trivial⟩, (allLt_app g4).1⟩
  · exact H.mono fun q hq => by simp only [List.cons_append, List.append_assoc, List.nil_append]; exact .tail _ hq
  · simp only [List.cons_append, List.append_assoc, List.nil_append]; exact hsub
  · refine ⟨D, na9, tw, tp, rfl, .head _, H.mono fun q hq => by simp only [List.cons_append, List.append_assoc, List.nil_append]; exact .tail _ hq⟩
  · simp [hi]
  · intro r hr
    rcases List.mem_append.mp hr with hr | hr
    · exact hg r hr
    · rw [List.mem_singleton.mp hr]
      exact ⟨G9, hw, hp, h4⟩
end Mine
end
section
open PySem PySem.W PyProof.Rows PySem.Calls PySem.Spec
set_option Elab.async false
set_option maxRecDepth 100000
namespace Mine
/-- law's text -/
def lawFn : Stmt := PR.main.body.getLastD (.Pass ⟨0, 0, 0, 0⟩)
def lawBody : List Stmt := match lawFn with | .FunctionDef _ _ b _ _ _ _ _ _ _ => b | _ => []
def lawScope : Scope := match lawFn with | .FunctionDef _ _ _ _ _ _ s _ _ _ => s | _ => { kind := .function, names := [], isGenerator := false, isCoroutine := false, more := [] }
def rest1 : List Stmt := lawBody.drop 3
abbrev lawEnv (L : Addr) : Env := envOf (Str.ofString "law") lawScope L 411 (.ref 410)
def EndT (s₁ : Shared) (v : Value) (s' : Shared) : Prop := LawEnd s₁ (.ok (.ret v)) s'
theorem EndT.intro {s₁ s' : Shared} {L : Addr} {m : Str → Option Value} {led : List (Addr × Obj)} {ps1 ps2 : Array Value} (F : Fr (ghostOf s₁.heap TABS) L s'.heap m) (N : News (ghostOf s₁.heap TABS) L s'.heap led) (m1 : (268, tabObj ps1) ∈ led) (m2 : (323, tabObj ps2) ∈ led) (G : AllBare s'.gens) (os : s'.os = s₁.os) : EndT s₁ (.bool true) s' :=
  ⟨rfl, F.keep, os, G, ⟨ps1, (N _ m1).1⟩, ⟨ps2, (N _ m2).1⟩, trivial⟩
end Mine
namespace Mine
/-- the second loop and the third, their turns' statements -/
def for2 : Stmt := rest1.getD 1 (.Pass ⟨0, 0, 0, 0⟩)
def body2 : List Stmt := match for2 with | .For _ _ b _ _ => b | _ => []
def st2 (k : Nat) : Stmt := body2.getD k (.Pass ⟨0, 0, 0, 0⟩)
def for3 : Stmt := rest1.getD 2 (.Pass ⟨0, 0, 0, 0⟩)
def body3 : List Stmt := match for3 with | .For _ _ b _ _ => b | _ => []
def for4 : Stmt := body3.getD 0 (.Pass ⟨0, 0, 0, 0⟩)
def body4 : List Stmt := match for4 with | .For _ _ b _ _ => b | _ => []
def st4 (k : Nat) : Stmt := body4.getD k (.Pass ⟨0, 0, 0, 0⟩)
/-- names of the frame, and what they hold -/
def Vars (m : Str → Option Value) (l : List (Str × Value)) : Prop := ∀ p ∈ l, m p.1 = some p.2
def over (l : List (Str × Value)) (m : Str → Option Value) : Str → Option Value := match l with
  | [] => m
  | p :: r => fun z => if z = p.1 then some p.2 else over r m z
theorem over_eq {m : Str → Option Value} : ∀ {l : List (Str × Value)}, Vars m l → over l m = m := by
  intro l
  induction l with
  | nil => intro _; rfl
  | cons p r ih =>
    intro h
    have e := ih fun q hq => h q (.tail _ hq)
    funext z
    show (if z = p.1 then some p.2 else over r m z) = m z
    rw [e]
    split
    · rename_i hz; rw [hz]; exact (h p (.head _)).symm
    · rfl
theorem Vars.look {h₀ h : Heap} {L : Addr} {m : Str → Option Value} {l : List (Str × Value)} (V : Vars m l) (F : Fr h₀ L h m) : Fr h₀ L h (over l m) := by rw [over_eq V]; exact F
theorem Vars.sub {m : Str → Option Value} {l l' : List (Str × Value)} (V : Vars m l) (h : ∀ p ∈ l', p ∈ l) : Vars m l' := fun p hp => V p (h p hp)
theorem Vars.nil {m : Str → Option Value} : Vars m [] := fun _ h => by cases h
theorem Vars.cons {m : Str → Option Value} {x : Str} {v : Value} {l : List (Str × Value)} (h : m x = some v) (V : Vars m l) : Vars m ((x, v) :: l) := fun p hp => by
  rcases List.mem_cons.mp hp with rfl | hp
  · exact h
  · exact V p hp
end Mine
end
section
open PySem PySem.W PyProof.Rows PySem.Calls PySem.Spec
set_option Elab.async false
set_option maxRecDepth 100000
namespace Mine
open PyProof.Rows.LCg PyProof.Rows.LCp
/-- values made of a row of pairs, one a pair, and the objects that they bring -/
inductive Els (EL : Str × Int → Value → List (Addr × Obj) → Prop) : List (Str × Int) → List Value → List (Addr × Obj) → Prop
  | nil : Els EL [] [] []
  | snoc {l : List (Str × Int)} {vs : List Value} {objs o : List (Addr × Obj)} {p : Str × Int} {v : Value} : Els EL l vs objs → EL p v o → Els EL (l ++ [p]) (vs ++ [v]) (o ++ objs)
def ElEnd (EL : Str × Int → Value → List (Addr × Obj) → Prop) (p : Str × Int) (led : List (Addr × Obj)) (y : Value) (news' : List (Addr × Obj)) : Prop := ∃ o, news' = o ++ led ∧ EL p y o ∧ ∀ q ∈ o, ∀ r ∈ led, q.1 ≠ r.1
section
variable {w : World} {A : Around} {E : Value → Shared → Prop} {s : Shared} {h₀ : Heap} {L : Addr} {m : Str → Option Value} {env : Env} {elt : Expr} {x x₂ : Str} {scope : Scope} {cl : List (Str × Addr)} {news K : List (Addr × Obj)} {nums : List (Str × Int)} {vals : List Value} {ax : Addr} {n : Nat} {EL : Str × Int → Value → List (Addr × Obj) → Prop}
abbrev PairTurn (w : World) (A : Around) (h₀ : Heap) (L : Addr) (m : Str → Option Value) (env : Env) (elt : Expr) (x x₂ : Str) (scope : Scope) (cl : List (Str × Addr)) (s : Shared) (EL : Str × Int → Value → List (Addr × Obj) → Prop) (nums : List (Str × Int)) : Prop :=
  ∀ (p : Str × Int) (t u : Tok) I oI C oC D m₂ ys led h tk (E' : Value → Shared → Prop), p ∈ nums → NsObj oC m₂ → m₂ x = some (.str p.1 t) → m₂ x₂ = some (.int p.2 u) → Fr h₀ L h m → News h₀ L h ((I, oI) :: (C, oC) :: (D, lst ys) :: led) → Off3 I C D led → ((@Ne Nat I C) ∧ (@Ne Nat I D) ∧ (@Ne Nat C D)) →
      wpAny (model PR w) A (eval elt (compEnvC scope cl C env)) (CompEnd h₀ L m { s with heap := h, toks := tk } I oI C oC D (lst ys) (fun _ => True) (fun y news' => ElEnd EL p led y news')) E' { s with heap := h, toks := tk }
theorem pairs_rest {Fin : List Value → List (Addr × Obj) → Prop} (hm : (ax, W.listOf vals.toArray n) ∈ news) (r : PairRow K nums vals) (hK : ∀ q ∈ K, q ∈ news)
    (turn : PairTurn w A h₀ L m env elt x x₂ scope cl s EL nums) (fin : ∀ ys objs, Els EL nums ys objs → (∀ q ∈ objs, ∀ r ∈ news, q.1 ≠ r.1) → Fin ys (objs ++ news)) :
    CompRestP PR w A h₀ L m env elt x x₂ scope cl s (SrcAt h₀ ax vals.toArray) (fun i v => vals.toArray[i]? = some v) Fin vals.toArray.size 0 [] news := by
  have src : ∀ objs : List (Addr × Obj), SrcAt h₀ ax vals.toArray (objs ++ news) := fun objs => .inr ⟨_, List.mem_append_right _ hm, rfl, n, rfl⟩
  have key : ∀ (j i : Nat) (ys : List Value) (objs : List (Addr × Obj)), i + j = nums.length → Els EL (nums.take i) ys objs → (∀ q ∈ objs, ∀ r ∈ news, q.1 ≠ r.1) →
      CompRestP PR w A h₀ L m env elt x x₂ scope cl s (SrcAt h₀ ax vals.toArray) (fun i v => vals.toArray[i]? = some v) Fin j i ys (objs ++ news) := by
    intro j
    induction j with
    | zero =>
      intro i ys objs hi H hap
      have e : i = nums.length := by omega
      subst e
      rw [List.take_length] at H
      exact CompRestP.zero (fin ys objs H hap)
    | succ j ih =>
      intro i ys objs hi H hap
      refine CompRestP.succ fun v hv => ?_
      have hv' : vals[i]? = some v := by simpa using hv
      obtain ⟨p, a, t, u, hp, rfl, ha⟩ := r.get hv'
      refine ⟨a, _, _, _, _, rfl, List.mem_append_right _ (hK _ ha), rfl, rfl, ?_⟩
      intro I oI C oC D m₂ h tk E' hC hx hy F N off ne
      refine wpAny_mono (turn p t u I oI C oC D m₂ ys _ h tk E' (List.mem_of_getElem? hp) hC hx hy F N off ne) (fun y s₂ hq => ?_) fun _ _ e => e
      obtain ⟨h', tk', nw, e, F', N', off', _, o, rfl, hel, hon⟩ := hq
      have e2 : o ++ (objs ++ news) = (o ++ objs) ++ news := by rw [List.append_assoc]
      refine ⟨h', tk', _, e, F', N', off', e2 ▸ src (o ++ objs), ?_⟩
      rw [e2]
      refine ih (i + 1) (ys ++ [y]) (o ++ objs) (by omega) ?_ ?_
      · rw [List.take_add_one, hp]
        exact H.snoc hel
      · intro q hq r hr
        rcases List.mem_append.mp hq with hq | hq
        · exact hon q hq r (List.mem_append_right _ hr)
        · exact hap q hq r hr
  have z := key nums.length 0 [] [] (by omega) (by simpa using Els.nil) (List.forall_mem_nil _)
  have e : vals.toArray.size = nums.length := by rw [List.size_toArray, r.length]
  rw [e]
  exact z
theorem src_pairs {FinS : Shared → List Value → List (Addr × Obj) → Prop} {s₁ : Shared} (hh : A.handled = none) (F : Fr h₀ L s₁.heap m) (N : News h₀ L s₁.heap news) (H : NumsIn news K ax nums) (hK : ∀ q ∈ K, q ∈ news) (hl : nums.length ≤ 100)
    (turn : ∀ g, PairTurn w A h₀ L m env elt x x₂ scope cl { s₁ with heap := g } EL nums) (fin : ∀ g ys objs, Els EL nums ys objs → (∀ q ∈ objs, ∀ r ∈ news, q.1 ≠ r.1) → FinS { s₁ with heap := g } ys (objs ++ news)) :
    SrcLP PR w A h₀ L m env elt x x₂ scope cl FinS (.ref ax) s₁ := by
  obtain ⟨vals, n, hm, r⟩ := H
  exact SrcLP.ledger hh F N (k := n) hm (by rw [List.size_toArray, r.length]; exact len_line6 hl) fun g => pairs_rest hm r hK (turn g) (fin g)
end
/-- the texts; the values; the triples of a key -/
def TextEl (p : Str × Int) (v : Value) (o : List (Addr × Obj)) : Prop := o = [] ∧ ∃ t, v = .str p.1 t
def ValEl (p : Str × Int) (v : Value) (o : List (Addr × Obj)) : Prop := o = [] ∧ ∃ t, v = .int p.2 t
def TripEl (p : Str × Int) (v : Value) (o : List (Addr × Obj)) : Prop := ∃ a t u t', v = .ref a ∧ o = [(a, tupObj [.int 0 t, .int p.2 u, .str (T "") t'])]
theorem els_text {l : List (Str × Int)} {vs : List Value} {objs : List (Addr × Obj)} (h : Els TextEl l vs objs) : objs = [] ∧ ∃ lt : List (Str × Tok), vs = strVals lt ∧ lt.map (·.1) = l.map (·.1) := by
  induction h with
  | nil => exact ⟨rfl, [], rfl, rfl⟩
  | snoc _ e ih =>
    obtain ⟨rfl, lt, rfl, e2⟩ := ih
    obtain ⟨rfl, t, rfl⟩ := e
    exact ⟨rfl, lt ++ [(_, t)], map_snoc, by simp [e2]⟩
theorem els_val {l : List (Str × Int)} {vs : List Value} {objs : List (Addr × Obj)} (h : Els ValEl l vs objs) : objs = [] ∧ IntsAre vs (l.map (·.2)) := by
  induction h with
  | nil => exact ⟨rfl, .nil⟩
  | snoc _ e ih =>
    obtain ⟨rfl, ih⟩ := ih
    obtain ⟨rfl, t, rfl⟩ := e
    refine ⟨rfl, ?_⟩
    rw [List.map_append]
    exact IntsAre.append ih (.cons _ _ .nil)
end Mine
end
section
local macro_rules | `(tactic| walk_at "pad") => `(tactic| fail)
local macro_rules | `(tactic| walk_at "pad") => `(tactic| fail)
local macro_rules | `(tactic| walk_at "pad") => `(tactic| fail)
theorem Mine.reset_T1 : True := by w_top off; trivial
open PySem PySem.W PyProof.Rows PySem.Calls PySem.Spec
set_option Elab.async false
set_option maxRecDepth 100000
set_option linter.unusedSimpArgs false
set_option linter.unusedVariables false
namespace Mine
open PyProof.Rows.LCg PyProof.Rows.LCp
theorem fillT1 : (PySem.Challenge.rw_ci0037_01, Mine.hd.heap_39) = (PySem.Challenge.rw_ci0037_01, Mine.hd.heap_39) := by k_fill; rfl
/-- a name is stored; all else stays -/
def SetPost (h₀ : Heap) (L : Addr) (m : Str → Option Value) (led : List (Addr × Obj)) (x : Str) (P : Value → Prop) (s : Shared) (f : Flow) (s' : Shared) : Prop :=
  f = .next ∧ ∃ v h' tk, P v ∧ s' = { s with heap := h', toks := tk } ∧ Fr h₀ L h' (put m x v) ∧ News h₀ L h' led
theorem SetPost.intro {h₀ h' : Heap} {L : Addr} {m : Str → Option Value} {led led' : List (Addr × Obj)} {x : Str} {P : Value → Prop} {s : Shared} {v : Value} {tk : Nat} {l : List (Str × Value)} (V : Vars m l) (F : Fr h₀ L h' (put (over l m) x v)) (N : News h₀ L h' led') (hs : ∀ q ∈ led, q ∈ led') (hv : P v) : SetPost h₀ L m led x P s .next { s with heap := h', toks := tk } :=
  ⟨rfl, v, h', tk, hv, rfl, (over_eq V) ▸ F, fun q hq => N q (hs q hq)⟩
abbrev lawA (L : Addr) : Around := callerA.deeper (lawEnv L)
theorem src_text {w : World} {A : Around} {h₀ : Heap} {L : Addr} {m : Str → Option Value} {env : Env} {x x₂ : Str} {px : Pos} {scope : Scope} {cl : List (Str × Addr)} {news K : List (Addr × Obj)} {nums : List (Str × Int)} {ax : Addr} {FinS : Shared → List Value → List (Addr × Obj) → Prop} {s₁ : Shared}
    (hh : A.handled = none) (F : Fr h₀ L s₁.heap m) (N : News h₀ L s₁.heap news) (H : NumsIn news K ax nums) (hK : ∀ q ∈ K, q ∈ news) (hl : nums.length ≤ 100)
    (hk : ∀ C, (compEnvC scope cl C env).scope.kind = .function) (hx : ∀ C, (compEnvC scope cl C env).kindOf x = some .local) (hd : (x == ("__debug__" : Str)) = false)
    (fin : ∀ g (lt : List (Str × Tok)), lt.map (·.1) = nums.map (·.1) → FinS { s₁ with heap := g } (strVals lt) news) :
    SrcLP PR w A h₀ L m env (.Name x px) x x₂ scope cl FinS (.ref ax) s₁ := by
  refine src_pairs (EL := TextEl) hh F N H hK hl (fun g => ?_) (fun g ys objs he _ => ?_)
  · intro p t u I oI C oC D m₂ ys led h tk E' hp hC hm1 hm2 F' N' off ne
    exact LCgL.ld_own N' (.tail _ (.head _)) hC hm1 (CompEnd.intro F' N' led (fun q hq => hq) off trivial ⟨[], rfl, ⟨rfl, t, rfl⟩, List.forall_mem_nil _⟩) (hk C) (hx C) hd
  · obtain ⟨rfl, lt, rfl, e⟩ := els_text he
    exact fin g lt e
theorem src_val {w : World} {A : Around} {h₀ : Heap} {L : Addr} {m : Str → Option Value} {env : Env} {x x₂ : Str} {px : Pos} {scope : Scope} {cl : List (Str × Addr)} {news K : List (Addr × Obj)} {nums : List (Str × Int)} {ax : Addr} {FinS : Shared → List Value → List (Addr × Obj) → Prop} {s₁ : Shared}
    (hh : A.handled = none) (F : Fr h₀ L s₁.heap m) (N : News h₀ L s₁.heap news) (H : NumsIn news K ax nums) (hK : ∀ q ∈ K, q ∈ news) (hl : nums.length ≤ 100)
    (hk : ∀ C, (compEnvC scope cl C env).scope.kind = .function) (hx : ∀ C, (compEnvC scope cl C env).kindOf x₂ = some .local) (hd : (x₂ == ("__debug__" : Str)) = false)
    (fin : ∀ g (vs : List Value), IntsAre vs (nums.map (·.2)) → FinS { s₁ with heap := g } vs news) :
    SrcLP PR w A h₀ L m env (.Name x₂ px) x x₂ scope cl FinS (.ref ax) s₁ := by
  refine src_pairs (EL := ValEl) hh F N H hK hl (fun g => ?_) (fun g ys objs he _ => ?_)
  · intro p t u I oI C oC D m₂ ys led h tk E' hp hC hm1 hm2 F' N' off ne
    exact LCgL.ld_own N' (.tail _ (.head _)) hC hm2 (CompEnd.intro F' N' led (fun q hq => hq) off trivial ⟨[], rfl, ⟨rfl, u, rfl⟩, List.forall_mem_nil _⟩) (hk C) (hx C) hd
  · obtain ⟨rfl, e⟩ := els_val he
    exact fin g ys e
local macro_rules | `(tactic| walk_at "eval ListComp") => `(tactic| (k_here; k_dflt (refine LCp.ListComp_P (F₀ := by k_asm) (by with_unfolding_all rfl) (by decide) (by rfl) (by decide) (by rfl) (by rfl) (by decide) ?_)))
local macro_rules | `(tactic| walk_at "SrcLP") => `(tactic| (k_here; k_dflt (first
  | (refine' src_text ?hh ?F ?N ?H ?hK ?hl ?hk ?hx ?hd ?_; (case hh => exact rfl); (case F => k_asm); (case N => k_asm); (case H => with_reducible assumption); (case hK => with_reducible assumption); (case hl => omega); (case hk => intro _; exact rfl); (case hx => intro _; exact rfl); (case hd => decide); k_whole; intro g9 lt9 e9 D9 h9 tk9 F9 N9 o9; (try dsimp only)))))
local macro_rules | `(tactic| walk_at "call builtin:str.join") => `(tactic| (k_here; (with_reducible show wpAny _ _ (call (Value.builtin "str.join") [Value.str _ _, Value.ref _]) _ _ _); k_dflt (refine' joinL ?N ?m ?e ?ok rfl ?_; (case N => k_asm); (case m => k_mem); (case e => with_reducible assumption); (case ok => with_reducible assumption)); intro t9 k9; (try dsimp only)))
local macro_rules | `(tactic| walk_at "binaryOp Add str str") => `(tactic| (k_here; (with_reducible show wpAny _ _ (binaryOp Operator.Add (Value.str _ _) (Value.str _ _)) _ _ _); (refine add_txt (by (try simp only [PySem.Str.length_append]); omega) (by omega) ?_); intro t9 tk9; (try dsimp only)))
set_option pp.deepTerms false in
set_option pp.deepTerms.threshold 5 in
set_option maxHeartbeats 4000000 in
theorem t1 {w : World} {loose : List Str} {mean : ExcName → Option Value} {mg mb : Str → Option Value} {h₀ : Heap} {s : Shared} {L na : Addr} {m : Str → Option Value} {led K : List (Addr × Obj)} {nums : List (Str × Int)} {xw xp : Str} {tw tp : Tok} {E : Value → Shared → Prop}
    (X : (Mine.hd.heap_39 w.params).In h₀) (T : Top topProg loose mean mg mb h₀) (F : Fr h₀ L s.heap m) (N : News h₀ L s.heap led)
    (V : Vars m [(Mine.T "numbers", .ref na), (Mine.T "word", .str xw tw), (Mine.T "plus", .str xp tp)]) (H : NumsIn led K na nums) (hK : ∀ q ∈ K, q ∈ led) (hn : nums.length ≤ 6)
    (hj : JoinOk (Mine.T ".") (nums.map (·.1)) = true) (hj2 : (Txt.join (Mine.T ".") (nums.map (·.1))).length ≤ 20000) (hw : xw.length ≤ 100) (hp : xp.length ≤ 100) :
    wpAny (model PR w) (lawA L) (exec (st2 0) (lawEnv L)) (SetPost h₀ L m led (Mine.T "whole") (fun v => ∃ t, v = .str (Txt.join (Mine.T ".") (nums.map (·.1)) ++ xw ++ xp) t) s) E s := by
  have F1 := V.look F
  clear F
  conv in st2 0 => whnf
  unfold lawA lawEnv
  conv in (occs := *) lawScope => all_goals whnf
  simp only [over] at F1
  k_steps
  exact SetPost.intro V (by assumption) (by assumption) (fun q hq => .tail _ hq) ⟨_, rfl⟩
end Mine
end
section
theorem Mine.reset_T2 : True := by w_top off; trivial
open PySem PySem.W PyProof.Rows PySem.Calls PySem.Spec
set_option Elab.async false
set_option maxRecDepth 100000
set_option linter.unusedSimpArgs false
set_option linter.unusedVariables false
namespace Mine
theorem fillT2 : (PySem.Challenge.rw_ci0037_01, Mine.hd.heap_39) = (PySem.Challenge.rw_ci0037_01, Mine.hd.heap_39) := by k_fill; rfl
/-- a version is made and stored; the tables grow -/
def VerPost (h₀ : Heap) (L : Addr) (m : Str → Option Value) (led : List (Addr × Obj)) (x : Str) (v1 v2 v3 : Int) (P B : List Str) (s : Shared) (f : Flow) (s' : Shared) : Prop :=
  f = .next ∧ ∃ v pre bld vo ps1 ps, pre.map (·.1) = P ∧ bld.map (·.1) = B ∧ IsVer v1 v2 v3 pre bld v vo ∧ TriplesOk ps1.toList ∧ TriplesOk ps.toList ∧ Fr h₀ L s'.heap (put m x (.ref v)) ∧
    News h₀ L s'.heap ((268, tabObj ps1) :: (323, tabObj ps) :: (vo ++ led)) ∧ AllBare s'.gens ∧ s'.os = s.os ∧ (∀ q ∈ vo, q.1 ≠ (268 : Nat) ∧ q.1 ≠ (323 : Nat)) ∧ (∀ q ∈ vo, ∀ r ∈ led, q.1 ≠ r.1)
theorem VerPost.intro {h₀ : Heap} {L : Addr} {m : Str → Option Value} {led : List (Addr × Obj)} {x : Str} {v1 v2 v3 : Int} {P B : List Str} {s s' : Shared} {v : Addr} {pre bld : List (Str × Tok)} {vo : List (Addr × Obj)} {ps1 ps : Array Value} {l : List (Str × Value)} (e1 : pre.map (·.1) = P) (e2 : bld.map (·.1) = B) (I : IsVer v1 v2 v3 pre bld v vo) (t1 : TriplesOk ps1.toList) (t2 : TriplesOk ps.toList)
    (V : Vars m l) (F : Fr h₀ L s'.heap (put (over l m) x (.ref v))) (N : News h₀ L s'.heap ((268, tabObj ps1) :: (323, tabObj ps) :: (vo ++ led))) (G : AllBare s'.gens) (ho : s'.os = s.os) (n1 : ∀ q ∈ vo, q.1 ≠ (268 : Nat) ∧ q.1 ≠ (323 : Nat)) (n2 : ∀ q ∈ vo, ∀ r ∈ led, q.1 ≠ r.1) : VerPost h₀ L m led x v1 v2 v3 P B s .next s' :=
  ⟨rfl, v, pre, bld, vo, ps1, ps, e1, e2, I, t1, t2, (over_eq V) ▸ F, N, G, ho, n1, n2⟩
theorem coerce_at {w : World} {mg mb : Str → Option Value} {loose : List Str} {mean : ExcName → Option Value} {x y : Str} {t1 : Tok} {v1 v2 v3 : Int} {ga gb gc : Str} {P Bd : List Str} (C : CoOk x y v1 v2 v3) (O : POK y ga gb gc (optJ P) (optJ Bd) v1 v2 v3) (GP : PG false P) (GB : PG true Bd)
    {dp un : Nat} {gd : Option (List Code)} {cn : Str} {cs : Scope} {a : Addr} {ccd : Value} {cl : List (Str × Addr)} {outer : List Env} {A₀ : Around} {base h₀ : Heap} {L : Addr} {m : Str → Option Value} {s : Shared} {Q E : Value → Shared → Prop} {led news : List (Addr × Obj)} {ps1 ps : Array Value}
    (B : Below A₀ base outer h₀) (F : Fr h₀ L s.heap m) (X : (Mine.hd.heap_39 w.params).In h₀) (N : News h₀ L s.heap led) (m1 : (268, tabObj ps1) ∈ led) (m2 : (323, tabObj ps) ∈ led) (hs : ∀ q ∈ news, q ∈ led) (hap : ∀ r ∈ news, r.1 ≠ (268 : Nat) ∧ r.1 ≠ (323 : Nat)) (ht1 : TriplesOk ps1.toList) (ht : TriplesOk ps.toList) (G : AllBare s.gens) (T : Top topProg loose mean mg mb h₀) (hk : cs.kind = .function) (hd : dp + 60 < recursionLimit) (hu : un + 300 < cLine)
    (hret : ∀ (s' : Shared) (v : Addr) (pre bld : List (Str × Tok)) (objs : List (Addr × Obj)) (ps1' ps' : Array Value), pre.map (·.1) = P → bld.map (·.1) = Bd → IsVer v1 v2 v3 pre bld v objs → TriplesOk ps1'.toList → TriplesOk ps'.toList → Fr h₀ L s'.heap m →
      News h₀ L s'.heap ((268, tabObj ps1') :: (323, tabObj ps') :: (objs ++ news)) → AllBare s'.gens → s'.os = s.os → (∀ q ∈ objs, q.1 ≠ (268 : Nat) ∧ q.1 ≠ (323 : Nat)) → (∀ q ∈ objs, ∀ r ∈ news, q.1 ≠ r.1) → Q (.ref v) s') :
    codeAny (model PR w) (ktrTop dp un gd cn cs L a ccd cl outer) (.call (.ref 271) ⟨[.ref 388, .str x t1], []⟩) (fun r s' => match r with | .ok (.ret v) => Q v s' | .ok _ => False | .error e => E e s') s := by
  obtain ⟨x1, ⟨R, b⟩, fin, hla⟩ := C
  obtain ⟨l0, e0, _, _, n1, u, hp, hu1, l, hsp, hy1, hy2, hj1, hj2⟩ := b
  subst hsp
  refine coerce_ok l0 x1 e0 (beq_eq_false_iff_ne.mpr (by omega)) hp hu1 hy1 hy2 hj1 hj2 ?_ fin O B F X (news2 N m1 m2) (fun q hq => N q (hs q hq)) ?_ ht1 ht G T hk hd hu ?_
  · exact hla
  · intro q hq r hr
    simp only [List.mem_cons, List.not_mem_nil, or_false] at hq
    rcases hq with rfl | rfl
    · exact Ne.symm (hap r hr).1
    · exact Ne.symm (hap r hr).2
  · intro s' v pre bld objs ps1' ps' ep eb
    exact hret s' v pre bld objs ps1' ps' (optJ_parts GP ep) (optJ_parts GB eb)
local macro_rules | `(tactic| walk_at "call ref") => `(tactic| (k_here; k_dflt (refine' call_meth (f := .ref 271) ?k1 ?k2 ?_; (case k1 => k_asm); (case k2 => k_mem); refine' coerce_at ?C ?O ?GP ?GB ?B ?F ?X ?N ?m1 ?m2 ?hs ?hap ?ht1 ?ht ?G ?T ?kk ?hd ?hu ?_; (case C => with_reducible assumption); (case O => with_reducible assumption); (case GP => with_reducible assumption); (case GB => with_reducible assumption); (case B => k_asm); (case F => k_asm); (case X => k_asm); (case T => k_asm); (case N => k_asm); (case m1 => k_mem); (case m2 => k_mem); (case hap => with_reducible assumption); (case hs => intro q9 hq9; (repeat' (first | exact hq9 | refine List.Mem.tail _ ?_))); (case ht1 => with_reducible assumption); (case ht => with_reducible assumption); (case G => with_reducible assumption); (case kk => exact rfl); (case hd => ktr_room); (case hu => ktr_units)); intro s9 v9 pre9 bld9 objs9 ps91 ps9 ep9 eb9 ver9 ht91 ht9 F9 N9 G9 os9 ne9 ap9; (try dsimp only)))
set_option pp.deepTerms false in
set_option pp.deepTerms.threshold 5 in
set_option maxHeartbeats 4000000 in
theorem t2 {w : World} {loose : List Str} {mean : ExcName → Option Value} {mg mb : Str → Option Value} {h₀ : Heap} {s : Shared} {L : Addr} {m : Str → Option Value} {led : List (Addr × Obj)} {x y : Str} {tx : Tok} {v1 v2 v3 : Int} {P B : List Str} {ps1 ps : Array Value} {E : Value → Shared → Prop}
    (X : (Mine.hd.heap_39 w.params).In h₀) (T : Top topProg loose mean mg mb h₀) (F : Fr h₀ L s.heap m) (N : News h₀ L s.heap ((268, tabObj ps1) :: (323, tabObj ps) :: led)) (hB : Below callerA h₀ [] h₀)
    (V : Vars m [(Mine.T "whole", .str x tx)]) (hap : ∀ r ∈ led, r.1 ≠ (268 : Nat) ∧ r.1 ≠ (323 : Nat)) (ht1 : TriplesOk ps1.toList) (ht : TriplesOk ps.toList) (G : AllBare s.gens) {ga gb gc : Str} (C : CoOk x y v1 v2 v3) (O : POK y ga gb gc (optJ P) (optJ B) v1 v2 v3) (GP : PG false P) (GB : PG true B) :
    wpAny (model PR w) (lawA L) (exec (st2 1) (lawEnv L)) (VerPost h₀ L m led (Mine.T "version") v1 v2 v3 P B s) E s := by
  have F1 := V.look F
  clear F
  conv in st2 1 => whnf
  unfold lawA lawEnv
  conv in (occs := *) lawScope => all_goals whnf
  simp only [over] at F1
  k_steps
  rename_i q1 h1 l1 s9 v9 pre9 bld9 o9 pa pb a1 a2 a3 a4 a5 a6 a7 a8 a9 h2 F9 N9
  exact VerPost.intro a1 a2 a3 a4 a5 V F9 N9 a6 a7 a8 a9
end Mine
end
section
local macro_rules | `(tactic| walk_at "pad") => `(tactic| fail)
local macro_rules | `(tactic| walk_at "pad") => `(tactic| fail)
theorem Mine.reset_T3 : True := by w_top off; trivial
open PySem PySem.W PyProof.Rows PySem.Calls PySem.Spec
set_option Elab.async false
set_option maxRecDepth 100000
set_option linter.unusedSimpArgs false
set_option linter.unusedVariables false
namespace Mine
open PyProof.Rows.LCg PyProof.Rows.LCp
theorem fillT3 : (PySem.Challenge.rw_ci0037_01, Mine.hd.heap_39) = (PySem.Challenge.rw_ci0037_01, Mine.hd.heap_39) := by k_fill; rfl
theorem NumsIn.up {led led' K : List (Addr × Obj)} {a : Addr} {xs : List (Str × Int)} (H : NumsIn led K a xs) (hK : ∀ q ∈ K, q ∈ led) (hs : ∀ q ∈ led, q ∈ led') : NumsIn led' led' a xs := by
  obtain ⟨vs, n, hm, r⟩ := H
  exact ⟨vs, n, hs _ hm, r.mono fun q hq => hs q (hK q hq)⟩
def three3 (nums : List (Str × Int)) : List Int := ((nums ++ [(T "0", (0 : Int)), (T "0", 0)]).take 3).map (·.2)
theorem three_pick {nums : List (Str × Int)} {vs : List Value} (h : IntsAre vs ((pickL (nums ++ [(T "0", (0 : Int)), (T "0", 0)]) none (some 3)).map (·.2))) : IntsAre vs (three3 nums) := by
  rw [pickL_up _ (by decide)] at h
  exact h
/-- a list of ints is made and stored -/
def IntsPost (h₀ : Heap) (L : Addr) (m : Str → Option Value) (led : List (Addr × Obj)) (x : Str) (ns : List Int) (s : Shared) (f : Flow) (s' : Shared) : Prop :=
  f = .next ∧ ∃ D vs n h' tk, IntsAre vs ns ∧ s' = { s with heap := h', toks := tk } ∧ Fr h₀ L h' (put m x (.ref D)) ∧ News h₀ L h' ((D, W.listOf (List.toArray vs) n) :: led) ∧ ∀ q ∈ led, q.1 ≠ D
theorem IntsPost.intro {h₀ h' : Heap} {L : Addr} {m : Str → Option Value} {led led' : List (Addr × Obj)} {x : Str} {ns : List Int} {s : Shared} {tk n : Nat} {l : List (Str × Value)} {D : Addr} {vs : List Value} (V : Vars m l) (F : Fr h₀ L h' (put (over l m) x (.ref D))) (N : News h₀ L h' ((D, W.listOf (List.toArray vs) n) :: led')) (hs : ∀ q ∈ led, q ∈ led') (hv : IntsAre vs ns) (o : Off1 D led') : IntsPost h₀ L m led x ns s .next { s with heap := h', toks := tk } := by
  refine ⟨rfl, D, vs, n, h', tk, hv, rfl, (over_eq V) ▸ F, fun q hq => N q ?_, fun q hq => ?_⟩
  · rcases List.mem_cons.mp hq with rfl | hq
    · exact .head _
    · exact .tail _ (hs q hq)
  · have : ∀ {l : List (Addr × Obj)}, Off1 D l → ∀ q ∈ l, q.1 ≠ D := by
      intro l
      induction l with
      | nil => intro _ q hq; cases hq
      | cons a r ih =>
        intro h q hq
        rcases List.mem_cons.mp hq with rfl | hq
        · exact h.1
        · exact ih h.2 q hq
    exact this o q (hs q hq)
local macro_rules | `(tactic| walk_at "exec Assign cons ListComp") => `(tactic| (k_here; k_dflt (refine LCp.Assign_ListComp_P (F₀ := by k_asm) (by rfl) (by with_unfolding_all rfl) (by with_unfolding_all rfl) (by decide) (by rfl) (by decide) (by rfl) (by rfl) (by decide) (by rfl) (by rfl) ?_)))
local macro_rules | `(tactic| walk_at "binaryOp Add ref ref") => `(tactic| (k_here; (with_reducible show wpAny _ _ (binaryOp _ (Value.ref _) (Value.ref _)) _ _ _); k_dflt (refine' nums_add ?F ?N ?nA9 ?nB9 ?nx9 ?ny9 ?_; (case F => k_asm); (case N => k_asm); (case nA9 => exact NumsIn.up (by with_reducible assumption) (by with_reducible assumption) (by intro q9 hq9; (repeat' (first | exact hq9 | refine List.Mem.tail _ ?_)))); (case nB9 => exact ⟨[_, _], 0, .head _, .cons (by k_mem) (.cons (by k_mem) .nil)⟩); (case nx9 => omega); (case ny9 => (simp only [List.length_cons, List.length_nil]; omega))); intro D' h' vs' F' N' P' l1; (try k_lt l1)))
local macro_rules | `(tactic| walk_at "subscriptTail Name Slice ref ref") => `(tactic| (k_here; (with_reducible show wpAny _ _ (subscriptTail _ (PySem.Expr.Slice _ _ none _) (Value.ref _) (Value.ref _)) _ _ _); k_dflt (refine' nums_slice ?F ?N ?nA9 ?nx9 ?np9 ?nq9 ?_ ?ns9 ?nt9; (case F => k_asm); (case N => k_asm); (case nA9 => exact ⟨_, _, by k_mem, by with_reducible assumption⟩); (case nx9 => (simp only [List.length_append, List.length_cons, List.length_nil]; omega)); (case np9 => kmk_part); (case nq9 => kmk_part); (case ns9 => with_unfolding_all rfl); (case nt9 => kmk_pure)); intro D' h' vs' F' N' P' l1; (try k_lt l1)))
local macro_rules | `(tactic| walk_at "SrcLP") => `(tactic| (k_here; k_dflt (first
  | (refine' src_val ?hh ?F ?N ?H ?hK ?hl ?hk ?hx ?hd ?_; (case hh => exact rfl); (case F => k_asm); (case N => k_asm); (case H => exact ⟨_, _, by k_mem, by with_reducible assumption⟩); (case hK => intro q9 hq9; (repeat' (first | exact hq9 | refine List.Mem.tail _ ?_))); (case hl => (first | omega | (simp only [pickL, List.length_append, List.length_cons, List.length_nil, List.length_take, List.length_drop]; omega))); (case hk => intro _; exact rfl); (case hx => intro _; exact rfl); (case hd => decide); k_whole; intro g9 vs9 e9 D9 h9 tk9 F9 N9 o9; (try dsimp only)))))
set_option pp.deepTerms false in
set_option pp.deepTerms.threshold 5 in
set_option maxHeartbeats 4000000 in
theorem t3 {w : World} {loose : List Str} {mean : ExcName → Option Value} {mg mb : Str → Option Value} {h₀ : Heap} {s : Shared} {L na : Addr} {m : Str → Option Value} {led K : List (Addr × Obj)} {nums : List (Str × Int)} {E : Value → Shared → Prop}
    (X : (Mine.hd.heap_39 w.params).In h₀) (T : Top topProg loose mean mg mb h₀) (F : Fr h₀ L s.heap m) (N : News h₀ L s.heap led)
    (V : Vars m [(Mine.T "numbers", .ref na)]) (H : NumsIn led K na nums) (hK : ∀ q ∈ K, q ∈ led) (hn : nums.length ≤ 6) :
    wpAny (model PR w) (lawA L) (exec (st2 2) (lawEnv L)) (IntsPost h₀ L m led (Mine.T "three") (three3 nums) s) E s := by
  have F1 := V.look F
  clear F
  conv in st2 2 => whnf
  unfold lawA lawEnv
  conv in (occs := *) lawScope => all_goals whnf
  simp only [over] at F1
  k_steps
  exact IntsPost.intro V (by assumption) (by assumption) (fun q hq => .tail _ (.tail _ (.tail _ (.tail _ (.tail _ hq))))) (three_pick (by assumption)) (by assumption)
end Mine
end
section
local macro_rules | `(tactic| walk_at "pad") => `(tactic| fail)
local macro_rules | `(tactic| walk_at "pad") => `(tactic| fail)
local macro_rules | `(tactic| walk_at "pad") => `(tactic| fail)
local macro_rules | `(tactic| walk_at "pad") => `(tactic| fail)
theorem Mine.reset_T4 : True := by w_top off; trivial
open PySem PySem.W PyProof.Rows PySem.Calls PySem.Spec
set_option Elab.async false
set_option maxRecDepth 100000
set_option linter.unusedSimpArgs false
set_option linter.unusedVariables false
namespace Mine
open PyProof.Rows.LCg PyProof.Rows.LCp
theorem fillT4 : (PySem.Challenge.rw_ci0037_01, Mine.hd.heap_39) = (PySem.Challenge.rw_ci0037_01, Mine.hd.heap_39) := by k_fill; rfl
def Stays (m m' : Str → Option Value) (xs : List Str) : Prop := ∀ z, z ∉ xs → m' z = m z
theorem Vars.stays {m m' : Str → Option Value} {l : List (Str × Value)} {xs : List Str} (V : Vars m l) (S : Stays m m' xs) (h : ∀ p ∈ l, p.1 ∉ xs) : Vars m' l := fun p hp => (S p.1 (h p hp)).trans (V p hp)
def EmptyPost (h₀ : Heap) (L : Addr) (m : Str → Option Value) (led : List (Addr × Obj)) (s : Shared) (f : Flow) (s' : Shared) : Prop :=
  f = .next ∧ ∃ m' h' tk pa, s' = { s with heap := h', toks := tk } ∧ Fr h₀ L h' m' ∧ Stays m m' [T "pre", T "build", T "key"] ∧ m' (T "pre") = some (.ref pa) ∧ News h₀ L h' ((pa, W.listOf #[] 0) :: led) ∧ ∀ q ∈ led, q.1 ≠ pa
set_option pp.deepTerms false in
set_option pp.deepTerms.threshold 5 in
set_option maxHeartbeats 4000000 in
theorem t4 {w : World} {loose : List Str} {mean : ExcName → Option Value} {mg mb : Str → Option Value} {h₀ : Heap} {s : Shared} {L : Addr} {m : Str → Option Value} {led : List (Addr × Obj)} {E : Value → Shared → Prop}
    (X : (Mine.hd.heap_39 w.params).In h₀) (T : Top topProg loose mean mg mb h₀) (F : Fr h₀ L s.heap m) (N : News h₀ L s.heap led) :
    wpAny (model PR w) (lawA L) (exec (st2 3) (lawEnv L)) (EmptyPost h₀ L m led s) E s := by
  conv in st2 3 => whnf
  unfold lawA lawEnv
  conv in (occs := *) lawScope => all_goals whnf
  k_steps
  rename_i pa g1 l1 g2 g3 l2 g4 g5 l3 g6 g7 l4 g8 g9 g10 g11 F9 N9
  refine ⟨rfl, _, _, _, pa, rfl, F9, ?_, rfl, fun q hq => N9 q ?_, fun q hq => Nat.ne_of_lt (l1 q hq)⟩
  · intro z hz
    simp only [List.mem_cons, List.not_mem_nil, or_false, not_or] at hz
    obtain ⟨z1, z2, z3⟩ := hz
    show (if z = _ then _ else if z = _ then _ else if z = _ then _ else m z) = m z
    rw [if_neg z1, if_neg z2, if_neg z3]
  · rcases List.mem_cons.mp hq with rfl | hq
    · exact .tail _ (.tail _ (.tail _ (.head _)))
    · exact .tail _ (.tail _ (.tail _ (.tail _ hq)))
end Mine
end
section
local macro_rules | `(tactic| walk_at "pad") => `(tactic| fail)
local macro_rules | `(tactic| walk_at "pad") => `(tactic| fail)
local macro_rules | `(tactic| walk_at "pad") => `(tactic| fail)
theorem Mine.reset_T5 : True := by w_top off; trivial
open PySem PySem.W PyProof.Rows PySem.Calls PySem.Spec
set_option Elab.async false
set_option maxRecDepth 100000
set_option linter.unusedSimpArgs false
set_option linter.unusedVariables false
namespace Mine
open PyProof.Rows.LCg PyProof.Rows.LCp
theorem fillT5 : (PySem.Challenge.rw_ci0037_01, Mine.hd.heap_39) = (PySem.Challenge.rw_ci0037_01, Mine.hd.heap_39) := by k_fill; rfl
/-- a row of triples: values, what they hold -/
inductive TripRow (objs : List (Addr × Obj)) : List (Int × Int × Str) → List Value → Prop
  | nil : TripRow objs [] []
  | cons {x y : Int} {z : Str} {a : Addr} {t u v : Tok} {l : List (Int × Int × Str)} {vs : List Value} : (a, tupObj [.int x t, .int y u, .str z v]) ∈ objs → TripRow objs l vs → TripRow objs ((x, y, z) :: l) (.ref a :: vs)
theorem TripRow.mono {objs objs' : List (Addr × Obj)} {l : List (Int × Int × Str)} {vs : List Value} (h : TripRow objs l vs) (hs : ∀ q ∈ objs, q ∈ objs') : TripRow objs' l vs := by
  induction h with
  | nil => exact .nil
  | cons m _ ih => exact .cons (hs _ m) ih
theorem TripRow.app {objs : List (Addr × Obj)} {l l' : List (Int × Int × Str)} {vs vs' : List Value} (h : TripRow objs l vs) (h' : TripRow objs l' vs') : TripRow objs (l ++ l') (vs ++ vs') := by
  induction h with
  | nil => exact h'
  | cons m _ ih => exact .cons m ih
theorem els_trip {l : List (Str × Int)} {vs : List Value} {objs : List (Addr × Obj)} (h : Els TripEl l vs objs) : TripRow objs (l.map fun p => (0, p.2, T "")) vs := by
  induction h with
  | nil => exact .nil
  | @snoc l vs objs o p v _ e ih =>
    obtain ⟨a, t, u, t', rfl, rfl⟩ := e
    rw [List.map_append]
    exact (ih.mono fun q hq => List.mem_append_right _ hq).app (.cons (.head _) .nil)
def midN (nums : List (Str × Int)) : List (Str × Int) := pickL nums (some 3) (some (-1))
def lastN (nums : List (Str × Int)) : Str × Int := nums.getLast?.getD (T "", 0)
def tailW (w : Str) : Str := if w = T "" then T "" else T "-" ++ Txt.slice w (some 1) none
def preO (nums : List (Str × Int)) (w : Str) : List Str := if 3 < nums.length then [] else if w = T "" then [] else [Txt.slice w (some 1) none]
def bldO (nums : List (Str × Int)) (w u : Str) : List Str := if 3 < nums.length then (midN nums).map (·.1) ++ [(lastN nums).1 ++ tailW w] else if u = T "" then [] else [Txt.slice u (some 1) none]
def keyO (nums : List (Str × Int)) (w u : Str) : List (Int × Int × Str) :=
  if 3 < nums.length then ((midN nums).map fun p => (0, p.2, T "")) ++ [if w = T "" then (0, (lastN nums).2, T "") else (1, 0, (lastN nums).1 ++ tailW w)]
  else if u = T "" then [] else [if u = T "+7" then (0, 7, T "") else (1, 0, T "b")]
/-- behind «if len(numbers) > 3» -/
def IfPost (h₀ : Heap) (L : Addr) (m : Str → Option Value) (led : List (Addr × Obj)) (P B : List Str) (Ky : List (Int × Int × Str)) (s : Shared) (f : Flow) (s' : Shared) : Prop :=
  f = .next ∧ ∃ m' h' tk pa ba ka prel bldl kvs n1 n2 n3 ko, s' = { s with heap := h', toks := tk } ∧ Fr h₀ L h' m' ∧ Stays m m' [T "tail", T "pre", T "build", T "key"] ∧ m' (T "pre") = some (.ref pa) ∧ m' (T "build") = some (.ref ba) ∧ m' (T "key") = some (.ref ka) ∧
    prel.map (·.1) = P ∧ bldl.map (·.1) = B ∧ TripRow ko Ky kvs ∧ News h₀ L h' ((pa, W.listOf (strVals prel).toArray n1) :: (ba, W.listOf (strVals bldl).toArray n2) :: (ka, W.listOf (List.toArray kvs) n3) :: (ko ++ led)) ∧
    ∀ q ∈ led, q.1 ≠ pa ∧ q.1 ≠ ba ∧ q.1 ≠ ka ∧ ∀ r ∈ ko, q.1 ≠ r.1
theorem IfPost.intro {h₀ h' : Heap} {L : Addr} {m m' : Str → Option Value} {led led' : List (Addr × Obj)} {P B : List Str} {Ky : List (Int × Int × Str)} {s : Shared} {tk n1 n2 n3 : Nat} {pa ba ka : Addr} {prel bldl : List (Str × Tok)} {pvs bvs kvs : List Value} {ko : List (Addr × Obj)}
    (F : Fr h₀ L h' m') (S : Stays m m' [T "tail", T "pre", T "build", T "key"]) (e1 : m' (T "pre") = some (.ref pa)) (e2 : m' (T "build") = some (.ref ba)) (e3 : m' (T "key") = some (.ref ka)) (hp : pvs = strVals prel) (hb : bvs = strVals bldl) (p1 : prel.map (·.1) = P) (p2 : bldl.map (·.1) = B)
    (N : News h₀ L h' led') (m1 : (pa, W.listOf (List.toArray pvs) n1) ∈ led') (m2 : (ba, W.listOf (List.toArray bvs) n2) ∈ led') (m3 : (ka, W.listOf (List.toArray kvs) n3) ∈ led') (m4 : ∀ q ∈ ko, q ∈ led') (m5 : ∀ q ∈ led, q ∈ led')
    (a1 : ∀ q ∈ led, q.1 ≠ pa) (a2 : ∀ q ∈ led, q.1 ≠ ba) (a3 : ∀ q ∈ led, q.1 ≠ ka) (a4 : ∀ r ∈ ko, ∀ q ∈ led, q.1 ≠ r.1) (p3 : TripRow ko Ky kvs) : IfPost h₀ L m led P B Ky s .next { s with heap := h', toks := tk } := by
  subst hp hb
  refine ⟨rfl, m', h', tk, pa, ba, ka, prel, bldl, kvs, n1, n2, n3, ko, rfl, F, S, e1, e2, e3, p1, p2, p3, fun q hq => N q ?_, fun q hq => ⟨a1 q hq, a2 q hq, a3 q hq, fun r hr => a4 r hr q hq⟩⟩
  simp only [List.mem_cons, List.mem_append] at hq
  rcases hq with rfl | rfl | rfl | hq | hq
  · exact m1
  · exact m2
  · exact m3
  · exact m4 q hq
  · exact m5 q hq
theorem lt_ne {d : Nat} {l : List (Addr × Obj)} (h : AllLt d l) : ∀ q ∈ l, q.1 ≠ d := fun q hq => Nat.ne_of_lt (allLt_mem h q hq)
theorem beq_T {x y : Str} (h : (x == y) = true) : x = y := beq_iff_eq.mp h
theorem nbeq_T {x y : Str} (h : (x == y) = false) : x ≠ y := beq_eq_false_iff_ne.mp h
theorem bne_T {x y : Str} (h : (x != y) = true) : x ≠ y := bne_iff_ne.mp h
theorem nbne_T {x y : Str} (h : (x != y) = false) : x = y := bne_eq_false_iff_eq.mp h
theorem src_trip {w : World} {A : Around} {h₀ : Heap} {L : Addr} {m : Str → Option Value} {env : Env} {elt : Expr} {x x₂ : Str} {scope : Scope} {cl : List (Str × Addr)} {news K : List (Addr × Obj)} {nums : List (Str × Int)} {ax : Addr} {FinS : Shared → List Value → List (Addr × Obj) → Prop} {s₁ : Shared}
    (hh : A.handled = none) (F : Fr h₀ L s₁.heap m) (N : News h₀ L s₁.heap news) (H : NumsIn news K ax nums) (hK : ∀ q ∈ K, q ∈ news) (hl : nums.length ≤ 100)
    (h : (∀ g, PairTurn w A h₀ L m env elt x x₂ scope cl { s₁ with heap := g } TripEl nums) ∧
    (∀ g (ys : List Value) (objs : List (Addr × Obj)), TripRow objs (nums.map fun p => (0, p.2, T "")) ys → (∀ q ∈ objs, ∀ r ∈ news, q.1 ≠ r.1) → FinS { s₁ with heap := g } ys (objs ++ news))) :
    SrcLP PR w A h₀ L m env elt x x₂ scope cl FinS (.ref ax) s₁ :=
  src_pairs (EL := TripEl) hh F N H hK hl h.1 (fun g ys objs he ha => h.2 g ys objs (els_trip he) ha)
theorem trip_comp {h₀ h' : Heap} {L I C D D' : Addr} {m : Str → Option Value} {s₁ : Shared} {oI oC : Obj} {ys : List Value} {led : List (Addr × Obj)} {p : Str × Int} {t u t' : Tok} {tk : Nat} (F : Fr h₀ L h' m) (N : News h₀ L h' ((D', tupObj [.int 0 t, .int p.2 u, .str (T "") t']) :: (I, oI) :: (C, oC) :: (D, lst ys) :: led)) (off : Off3 I C D led)
    (l1 : @LT.lt Nat _ I D' ∧ @LT.lt Nat _ C D' ∧ @LT.lt Nat _ D D' ∧ AllLt D' led) : CompEnd h₀ L m s₁ I oI C oC D (lst ys) (fun _ => True) (fun y news' => ElEnd TripEl p led y news') (.ref D') { s₁ with heap := h', toks := tk } := by
  refine CompEnd.intro F N ((D', tupObj [.int 0 t, .int p.2 u, .str (T "") t']) :: led) (fun q hq => ?_) ⟨⟨Nat.ne_of_gt l1.1, Nat.ne_of_gt l1.2.1, Nat.ne_of_gt l1.2.2.1⟩, off⟩ trivial ⟨[_], rfl, ⟨D', t, u, t', rfl, rfl⟩, fun q hq r hr => by rw [List.mem_singleton.mp hq]; exact Nat.ne_of_gt (allLt_mem l1.2.2.2 r hr)⟩
  simp only [List.mem_cons] at hq ⊢
  rcases hq with rfl | rfl | rfl | rfl | hq
  · exact .inr (.inl rfl)
  · exact .inr (.inr (.inl rfl))
  · exact .inr (.inr (.inr (.inl rfl)))
  · exact .inl rfl
  · exact .inr (.inr (.inr (.inr hq)))
theorem pickL_len {α : Type} {l : List α} {lo hi : Option Int} : (pickL l lo hi).length ≤ l.length := by
  unfold pickL; rw [List.length_take, List.length_drop]; omega
theorem text_len {lt : List (Str × Tok)} {l : List (Str × Int)} {lo hi : Option Int} (e : lt.map (·.1) = (pickL l lo hi).map (·.1)) (h : l.length ≤ 6) : (strVals lt).length ≤ 100 := by
  have e2 : lt.length = (pickL l lo hi).length := by simpa using congrArg List.length e
  have := pickL_len (l := l) (lo := lo) (hi := hi)
  unfold strVals; rw [List.length_map]; omega
theorem TripRow.length {objs : List (Addr × Obj)} {l : List (Int × Int × Str)} {vs : List Value} (r : TripRow objs l vs) : vs.length = l.length := by
  induction r with
  | nil => rfl
  | cons _ _ ih => simp [ih]
theorem trip_len {objs : List (Addr × Obj)} {vs : List Value} {l : List (Str × Int)} {lo hi : Option Int} {f : Str × Int → Int × Int × Str} (r : TripRow objs ((pickL l lo hi).map f) vs) (h : l.length ≤ 6) : vs.length ≤ 100 := by
  have e2 := r.length
  rw [List.length_map] at e2
  have := pickL_len (l := l) (lo := lo) (hi := hi)
  omega
section
variable {w : World} {A : Around} {E : Value → Shared → Prop} {s : Shared} {h₀ : Heap} {L a b : Addr} {m : Str → Option Value} {led K : List (Addr × Obj)}
theorem list_add {vs ws : List Value} {n k : Nat} {Q : Value → Shared → Prop} (F : Fr h₀ L s.heap m) (N : News h₀ L s.heap led) (m1 : (a, W.listOf (List.toArray vs) n) ∈ led) (m2 : (b, W.listOf (List.toArray ws) k) ∈ led) (hx : vs.length ≤ 100) (hy : ws.length ≤ 100)
    (h : ∀ D h', Fr h₀ L h' m → News h₀ L h' ((D, W.listOf (List.toArray (vs ++ ws)) 0) :: led) → (∀ p ∈ led, p.1 < D) → Q (.ref D) { s with heap := h' }) : wpAny (model PR w) A (binaryOp .Add (.ref a) (.ref b)) Q E s := by
  refine kmk_add_lit F N (its := vs.toArray) (its2 := ws.toArray) ⟨_, (N _ m1).1, rfl, n, rfl⟩ ⟨_, (N _ m2).1, rfl, k, rfl⟩ rfl h ?_
  have e : sizeLine = 16777216 := sizeLine_eq
  simp only [e]; omega
theorem list_last {value slice : PySem.Expr} {vs : List Value} {v : Value} {n : Nat} {u : Tok} {Q : Value → Shared → Prop} (N : News h₀ L s.heap led) (m1 : (a, W.listOf (List.toArray vs) n) ∈ led) (e : vs.getLast? = some v) (hq : Q v s)
    (hs : subscripted slice false (.ref a) (.int (-1) u) = operate [.ref a, .int (-1) u] (getItem (.ref a) (.int (-1) u)) := by with_unfolding_all rfl) :
    wpAny (model PR w) A (subscriptTail value slice (.ref a) (.int (-1) u)) Q E s := by
  have hl : s.heap.IsList a vs.toArray := ⟨_, (N _ m1).1, rfl, n, rfl⟩
  have hp : 0 < vs.length := by
    cases vs with
    | nil => simp at e
    | cons _ _ => simp
  refine tail_any hl.typeIs slot_list_getitem.lookup ?_ hs
  refine wpAny_getItem_list_neg hl (by decide) (by simp; omega) (by decide) ?_ hq
  have e2 : (-1 + ((vs.toArray.size : Nat) : Int)).toNat = vs.length - 1 := by simp; omega
  rw [e2]
  rw [List.getLast?_eq_getElem?] at e
  simpa using e
theorem pair_last {l : List (Str × Int)} {vs : List Value} (r : PairRow K l vs) (h : l ≠ []) : ∃ a t u, vs.getLast? = some (.ref a) ∧ (a, tupObj [.str (lastN l).1 t, .int (lastN l).2 u]) ∈ K := by
  have hl := r.length
  have h1 : l.length - 1 < vs.length := by
    have : 0 < l.length := by cases l with
      | nil => exact absurd rfl h
      | cons _ _ => simp
    omega
  obtain ⟨p, a, t, u, hp, hv, hm⟩ := r.get (i := l.length - 1) (List.getElem?_eq_getElem h1)
  have e : lastN l = p := by
    unfold lastN
    rw [List.getLast?_eq_getElem?, hp]; rfl
  rw [e]
  refine ⟨a, t, u, ?_, hm⟩
  rw [List.getLast?_eq_getElem?, hl, List.getElem?_eq_getElem h1, hv]
theorem nums_last {value slice : PySem.Expr} {nums : List (Str × Int)} {u : Tok} {Q : Value → Shared → Prop} (N : News h₀ L s.heap led) (H : NumsIn led K a nums) (hK : ∀ q ∈ K, q ∈ led) (hn : 3 < nums.length)
    (hq : ∀ D t t', News h₀ L s.heap ((D, tupObj [.str (lastN nums).1 t, .int (lastN nums).2 t']) :: led) → Q (.ref D) s)
    (hs : subscripted slice false (.ref a) (.int (-1) u) = operate [.ref a, .int (-1) u] (getItem (.ref a) (.int (-1) u)) := by with_unfolding_all rfl) :
    wpAny (model PR w) A (subscriptTail value slice (.ref a) (.int (-1) u)) Q E s := by
  obtain ⟨vs, n, hm, r⟩ := H
  obtain ⟨D, t, t', e, hm2⟩ := pair_last r (by intro e; rw [e] at hn; simp at hn)
  exact list_last N hm e (hq D t t' fun q hq => (List.mem_cons.mp hq).elim (fun e => e ▸ N _ (hK _ hm2)) fun hq => N q hq) hs
end
local macro_rules | `(tactic| walk_at "call builtin:len") => `(tactic| (k_here; (with_reducible show wpAny _ _ (call (Value.builtin "len") [Value.ref _]) _ _ _); k_dflt (refine' nums_len ?N ?nA9 ?nz9 ?_; (case N => k_asm); (case nA9 => with_reducible assumption); (case nz9 => omega)); (try dsimp only)))
local macro_rules | `(tactic| walk_at "subscriptTail Name Slice ref ref") => `(tactic| (k_here; (with_reducible show wpAny _ _ (subscriptTail _ (PySem.Expr.Slice _ _ none _) (Value.ref _) (Value.ref _)) _ _ _); k_dflt (refine' nums_slice (K := _) ?F ?N ?nA9 ?nx9 ?np9 ?nq9 ?_ ?ns9 ?nt9; (case F => k_asm); (case N => k_asm); (case nA9 => (refine NumsIn.up (by with_reducible assumption) (by with_reducible assumption) ?_; intro q9 hq9; (repeat' (first | exact hq9 | refine List.Mem.tail _ ?_ | refine List.mem_append_right _ ?_)))); (case nx9 => omega); (case np9 => kmk_part); (case nq9 => kmk_part); (case ns9 => with_unfolding_all rfl); (case nt9 => kmk_pure)); intro D' h' vs' F' N' P' l1; (try k_lt l1)))
local macro_rules | `(tactic| walk_at "eval ListComp") => `(tactic| (k_here; k_dflt (refine LCp.ListComp_P (F₀ := by k_asm) (by with_unfolding_all rfl) (by decide) (by rfl) (by decide) (by rfl) (by rfl) (by decide) ?_)))
local macro_rules | `(tactic| walk_at "SrcLP") => `(tactic| (k_here; k_dflt (first
  | (refine' src_text ?hh ?F ?N ?H ?hK ?hl ?hk ?hx ?hd ?_; (case hh => exact rfl); (case F => k_asm); (case N => k_asm); (case H => exact ⟨_, _, by k_mem, by with_reducible assumption⟩); (case hK => intro q9 hq9; (repeat' (first | exact hq9 | refine List.Mem.tail _ ?_))); (case hl => (first | omega | (simp only [pickL, List.length_append, List.length_cons, List.length_nil, List.length_take, List.length_drop]; omega))); (case hk => intro _; exact rfl); (case hx => intro _; exact rfl); (case hd => decide); k_whole; intro g9 lt9 e9 D9 h9 tk9 F9 N9 o9; (try dsimp only))
  | (refine' src_trip ?hh ?F ?N ?H ?hK ?hl ?_; (case hh => exact rfl); (case F => k_asm); (case N => k_asm); (case H => exact ⟨_, _, by k_mem, by with_reducible assumption⟩); (case hK => intro q9 hq9; (repeat' (first | exact hq9 | refine List.Mem.tail _ ?_))); (case hl => (first | omega | (simp only [pickL, List.length_append, List.length_cons, List.length_nil, List.length_take, List.length_drop]; omega))); k_whole; (refine And.intro ?_ ?_) <;> first
     | (intro g9 p9 t9 u9 I9 oI9 C9 oC9 D9 m9 ys9 led9 h9 tk9 E9 hp9 hC9 hx9 hy9 F9 N9 off9 ne9; (try dsimp only))
     | (intro g9 ys9 objs9 hr9 ha9 D9 h9 tk9 F9 N9 o9; (try dsimp only))))))
local macro_rules | `(tactic| walk_at "binaryOp Add str str") => `(tactic| (k_here; (with_reducible show wpAny _ _ (binaryOp Operator.Add (Value.str _ _) (Value.str _ _)) _ _ _); (refine add_txt (by (try simp only [PySem.Str.length_append]); omega) (by (try simp only [PySem.Str.length_append]); omega) ?_); intro t9 tk9; (try dsimp only)))
local macro_rules | `(tactic| walk_at "CompEnd") => `(tactic| k_dflt (exact trip_comp (by with_reducible assumption) (by assumption) (by with_reducible assumption) (by with_reducible assumption)))
local macro_rules | `(tactic| walk_at "binaryOp Add ref ref") => `(tactic| (k_here; (with_reducible show wpAny _ _ (binaryOp _ (Value.ref _) (Value.ref _)) _ _ _); k_dflt (refine' list_add ?F ?N ?m1 ?m2 ?nx9 ?ny9 ?_; (case F => k_asm); (case N => k_asm); (case m1 => k_mem); (case m2 => k_mem); (case nx9 => first | exact text_len (by with_reducible assumption) (by with_reducible assumption) | exact trip_len (by with_reducible assumption) (by with_reducible assumption)); (case ny9 => (simp only [List.length_cons, List.length_nil]; omega))); intro D' h' F' N' l1; (try k_lt l1)))
local macro_rules | `(tactic| walk_at "subscriptTail Name UnaryOp ref int") => `(tactic| (k_here; k_dflt (first
  | (refine' list_last ?N ?m ?e ?_ ?hs; (case N => k_asm); (case m => (repeat' (first | exact List.Mem.head _ | refine List.Mem.tail _ ?_ | refine List.mem_append_right _ ?_))); (case e => exact List.getLast?_concat); (case hs => with_unfolding_all rfl); (try dsimp only))
  | (refine' nums_last ?N ?H ?hK ?hn ?_ ?hs; (case N => k_asm); (case H => (refine NumsIn.up (by with_reducible assumption) (by with_reducible assumption) ?_; intro q9 hq9; (repeat' (first | exact hq9 | refine List.Mem.tail _ ?_ | refine List.mem_append_right _ ?_)))); (case hK => exact fun _ h => h); (case hn => omega); (case hs => with_unfolding_all rfl); intro D9 t9 u9 N9; (try dsimp only)))))
set_option pp.deepTerms false in
set_option pp.deepTerms.threshold 5 in
set_option maxHeartbeats 4000000 in
theorem t5 {w : World} {loose : List Str} {mean : ExcName → Option Value} {mg mb : Str → Option Value} {h₀ : Heap} {s : Shared} {L na pa0 : Addr} {m : Str → Option Value} {led K : List (Addr × Obj)} {nums : List (Str × Int)} {xw xp : Str} {tw tp : Tok} {E : Value → Shared → Prop}
    (X : (Mine.hd.heap_39 w.params).In h₀) (T : Top topProg loose mean mg mb h₀) (F : Fr h₀ L s.heap m) (N : News h₀ L s.heap ((pa0, W.listOf #[] 0) :: led)) (hp0 : ∀ q ∈ led, q.1 ≠ pa0)
    (V : Vars m [(Mine.T "numbers", .ref na), (Mine.T "word", .str xw tw), (Mine.T "plus", .str xp tp), (Mine.T "pre", .ref pa0)]) (H : NumsIn led K na nums) (hK : ∀ q ∈ K, q ∈ led) (hn : nums.length ≤ 6)
    (hw : xw.length ≤ 100) (hp : xp.length ≤ 100) (hl : ∀ p ∈ nums, p.1.length ≤ 100) (hpl : xp = Mine.T "" ∨ xp = Mine.T "+7" ∨ xp = Mine.T "+b") :
    wpAny (model PR w) (lawA L) (exec (st2 4) (lawEnv L)) (IfPost h₀ L m led (preO nums xw) (bldO nums xw xp) (keyO nums xw xp) s) E s := by
  have F1 := V.look F
  clear F
  have H1 : NumsIn ((pa0, W.listOf #[] 0) :: led) K na nums := by
    obtain ⟨vs, n, hm, r⟩ := H
    exact ⟨vs, n, .tail _ hm, r⟩
  have hll : (lastN nums).1.length ≤ 100 := by
    unfold lastN
    cases e : nums.getLast? with
    | none => decide +kernel
    | some p => exact hl p (List.mem_of_getLast? e)
  have hdash : (Str.ofString "-").length = 1 := by decide +kernel
  have hempt : (Str.ofString "").length = 0 := by decide +kernel
  have hK1 : ∀ q ∈ K, q ∈ (pa0, W.listOf #[] 0) :: led := fun q hq => .tail _ (hK q hq)
  conv in st2 4 => whnf
  unfold lawA lawEnv
  conv in (occs := *) lawScope => all_goals whnf
  simp only [over] at F1
  k_steps
  · rename_i c0 c1 c2 c3 c4 c5 c6 c7 c8 c9 lt e9 D93 h91 tk92 o91 D92 t92 u91 t91 tk91 l1a h7 lB DB h6 lC h5 tkc D2 h4 vs P' lD g9 ys objs hr ha D91 h9 tk9 o9 D9 t9 u9 DT h3 lX l' h2 lY DK h1 lZ hh F' N'
    have hx := beq_T c2
    exact IfPost.intro (prel := []) (bldl := lt ++ [(_, t91)]) (ko := (DT, _) :: objs) F' (by intro z hz; simp only [List.mem_cons, List.not_mem_nil, or_false, not_or] at hz; obtain ⟨z1, z2, z3, z4⟩ := hz; have e := congrFun (over_eq V) z; simp only [over] at e; simp only [z1, z2, z3, z4, if_false] at e ⊢; exact e) rfl rfl rfl rfl map_snoc (by rw [preO, if_pos (by omega)]; rfl) (by rw [bldO, if_pos (by omega), List.map_append, e9, tailW, if_pos hx]; rfl)
      N' (by (repeat' (first | exact List.Mem.head _ | refine List.Mem.tail _ ?_ | refine List.mem_append_right _ ?_))) (by (repeat' (first | exact List.Mem.head _ | refine List.Mem.tail _ ?_ | refine List.mem_append_right _ ?_))) (by (repeat' (first | exact List.Mem.head _ | refine List.Mem.tail _ ?_ | refine List.mem_append_right _ ?_))) (fun q hq => by
        rcases List.mem_cons.mp hq with rfl | hq
        · exact (by (repeat' (first | exact List.Mem.head _ | refine List.Mem.tail _ ?_ | refine List.mem_append_right _ ?_)))
        · exact .tail _ (.tail _ (.tail _ (.tail _ (.tail _ (List.mem_append_left _ hq)))))) (fun q hq => (by (repeat' (first | exact hq | refine List.Mem.tail _ ?_ | refine List.mem_append_right _ ?_)))) hp0 (lt_ne lC.2.2.2.2.2) (fun q hq => Nat.ne_of_lt (allLt_mem lZ.2.2.2.2 q (by (repeat' (first | exact hq | refine List.Mem.tail _ ?_ | refine List.mem_append_right _ ?_))))) (fun r hr q hq => by
        rcases List.mem_cons.mp hr with rfl | hr
        · exact Nat.ne_of_lt (allLt_mem lX.2.2 q (by (repeat' (first | exact hq | refine List.Mem.tail _ ?_ | refine List.mem_append_right _ ?_))))
        · exact fun e => ha r hr q (by (repeat' (first | exact hq | refine List.Mem.tail _ ?_ | refine List.mem_append_right _ ?_))) e.symm) (by rw [keyO, if_pos (by omega), if_pos hx]; exact (hr.mono fun q hq => .tail _ hq).app (.cons (.head _) .nil))
  · rename_i c0 c1 c2 c3 c4 c5 c6 c7 c8 c9 c10 c11 c12 c13 c14 lA g91 lt e9 D93 h91 tk92 o91 D92 t92 u91 t91 tk91 l1a h7 lB DB h6 lC h5 tkc D2 h4 vs P' lD g9 ys objs hr ha D91 h9 tk9 o9 DT h3 lX l' h2 lY DK h1 lZ hh F' N'
    have hx := nbeq_T c2
    exact IfPost.intro (prel := []) (bldl := lt ++ [(_, t91)]) (ko := (DT, _) :: objs) F' (by intro z hz; simp only [List.mem_cons, List.not_mem_nil, or_false, not_or] at hz; obtain ⟨z1, z2, z3, z4⟩ := hz; have e := congrFun (over_eq V) z; simp only [over] at e; simp only [z1, z2, z3, z4, if_false] at e ⊢; exact e) rfl rfl rfl rfl map_snoc (by rw [preO, if_pos (by omega)]; rfl) (by rw [bldO, if_pos (by omega), List.map_append, e9, tailW, if_neg hx]; rfl)
      N' (by (repeat' (first | exact List.Mem.head _ | refine List.Mem.tail _ ?_ | refine List.mem_append_right _ ?_))) (by (repeat' (first | exact List.Mem.head _ | refine List.Mem.tail _ ?_ | refine List.mem_append_right _ ?_))) (by (repeat' (first | exact List.Mem.head _ | refine List.Mem.tail _ ?_ | refine List.mem_append_right _ ?_))) (fun q hq => by
        rcases List.mem_cons.mp hq with rfl | hq
        · exact (by (repeat' (first | exact List.Mem.head _ | refine List.Mem.tail _ ?_ | refine List.mem_append_right _ ?_)))
        · exact .tail _ (.tail _ (.tail _ (.tail _ (List.mem_append_left _ hq))))) (fun q hq => (by (repeat' (first | exact hq | refine List.Mem.tail _ ?_ | refine List.mem_append_right _ ?_)))) hp0 (lt_ne lC.2.2.2.2.2) (fun q hq => Nat.ne_of_lt (allLt_mem lZ.2.2.2 q (by (repeat' (first | exact hq | refine List.Mem.tail _ ?_ | refine List.mem_append_right _ ?_))))) (fun r hr q hq => by
        rcases List.mem_cons.mp hr with rfl | hr
        · exact Nat.ne_of_lt (allLt_mem lX.2 q (by (repeat' (first | exact hq | refine List.Mem.tail _ ?_ | refine List.mem_append_right _ ?_))))
        · exact fun e => ha r hr q (by (repeat' (first | exact hq | refine List.Mem.tail _ ?_ | refine List.mem_append_right _ ?_))) e.symm) (by rw [keyO, if_pos (by omega), if_neg hx, tailW, if_neg hx]; exact (hr.mono fun q hq => .tail _ hq).app (.cons (.head _) .nil))
  · rename_i cN k0 hxw h8 tw1 kw1 lw PA h7 lA h6 k1 hxp h5 tp1 kp1 lp BA h4 lB h3 k2 hx7 DT h2 lT KA h1 lK hh F' N'
    have hx := bne_T hxw
    have hu := bne_T hxp
    have h7' := beq_T hx7
    exact IfPost.intro (prel := [(Txt.slice xw (some 1) none, tw1)]) (bldl := [(Txt.slice xp (some 1) none, tp1)]) (ko := [(DT, _)]) F' (by intro z hz; simp only [List.mem_cons, List.not_mem_nil, or_false, not_or] at hz; obtain ⟨z1, z2, z3, z4⟩ := hz; have e := congrFun (over_eq V) z; simp only [over] at e; simp only [z1, z2, z3, z4, if_false] at e ⊢; exact e) rfl rfl rfl rfl rfl (by rw [preO, if_neg (by omega), if_neg hx]; rfl) (by rw [bldO, if_neg (by omega), if_neg hu]; rfl) N' (by (repeat' (first | exact List.Mem.head _ | refine List.Mem.tail _ ?_))) (by (repeat' (first | exact List.Mem.head _ | refine List.Mem.tail _ ?_))) (by (repeat' (first | exact List.Mem.head _ | refine List.Mem.tail _ ?_))) (fun q hq => by rw [List.mem_singleton.mp hq]; exact (by (repeat' (first | exact List.Mem.head _ | refine List.Mem.tail _ ?_)))) (fun q hq => (by (repeat' (first | exact hq | refine List.Mem.tail _ ?_)))) (lt_ne lA.2) (lt_ne lB.2.2) (lt_ne lK.2.2.2.2) (fun r hr q hq => by rw [List.mem_singleton.mp hr]; exact lt_ne lT.2.2.2 q hq) (by rw [keyO, if_neg (by omega), if_neg hu, if_pos h7']; exact .cons (.head _) .nil)
  · rename_i cN k0 hxw h8 tw1 kw1 lw PA h7 lA h6 k1 hxp h5 tp1 kp1 lp BA h4 lB h3 k2 hx7 DT h2 lT KA h1 lK hh F' N'
    have hx := bne_T hxw
    have hu := bne_T hxp
    have h7' := nbeq_T hx7
    exact IfPost.intro (prel := [(Txt.slice xw (some 1) none, tw1)]) (bldl := [(Txt.slice xp (some 1) none, tp1)]) (ko := [(DT, _)]) F' (by intro z hz; simp only [List.mem_cons, List.not_mem_nil, or_false, not_or] at hz; obtain ⟨z1, z2, z3, z4⟩ := hz; have e := congrFun (over_eq V) z; simp only [over] at e; simp only [z1, z2, z3, z4, if_false] at e ⊢; exact e) rfl rfl rfl rfl rfl (by rw [preO, if_neg (by omega), if_neg hx]; rfl) (by rw [bldO, if_neg (by omega), if_neg hu]; rfl) N' (by (repeat' (first | exact List.Mem.head _ | refine List.Mem.tail _ ?_))) (by (repeat' (first | exact List.Mem.head _ | refine List.Mem.tail _ ?_))) (by (repeat' (first | exact List.Mem.head _ | refine List.Mem.tail _ ?_))) (fun q hq => by rw [List.mem_singleton.mp hq]; exact (by (repeat' (first | exact List.Mem.head _ | refine List.Mem.tail _ ?_)))) (fun q hq => (by (repeat' (first | exact hq | refine List.Mem.tail _ ?_)))) (lt_ne lA.2) (lt_ne lB.2.2) (lt_ne lK.2.2.2.2) (fun r hr q hq => by rw [List.mem_singleton.mp hr]; exact lt_ne lT.2.2.2 q hq) (by rw [keyO, if_neg (by omega), if_neg hu, if_neg h7']; exact .cons (.head _) .nil)
  · rename_i cN k0 hxw h8 tw1 kw1 lw PA h7 lA h6 k1 hxp BA h4 lB h3 k2 KA h1 lK hh F' N'
    have hx := bne_T hxw
    have hu := nbne_T hxp
    exact IfPost.intro (prel := [(Txt.slice xw (some 1) none, tw1)]) (bldl := []) (ko := []) F' (by intro z hz; simp only [List.mem_cons, List.not_mem_nil, or_false, not_or] at hz; obtain ⟨z1, z2, z3, z4⟩ := hz; have e := congrFun (over_eq V) z; simp only [over] at e; simp only [z1, z2, z3, z4, if_false] at e ⊢; exact e) rfl rfl rfl rfl rfl (by rw [preO, if_neg (by omega), if_neg hx]; rfl) (by rw [bldO, if_neg (by omega), if_pos hu]; rfl) N' (by (repeat' (first | exact List.Mem.head _ | refine List.Mem.tail _ ?_))) (by (repeat' (first | exact List.Mem.head _ | refine List.Mem.tail _ ?_))) (by (repeat' (first | exact List.Mem.head _ | refine List.Mem.tail _ ?_))) (List.forall_mem_nil _) (fun q hq => (by (repeat' (first | exact hq | refine List.Mem.tail _ ?_)))) (lt_ne lA.2) (lt_ne lB.2.2) (lt_ne lK.2.2.2) (List.forall_mem_nil _) (by rw [keyO, if_neg (by omega), if_pos hu]; exact .nil)
  · rename_i cN k0 hxw PA h7 lA h6 k1 hxp h5 tp1 kp1 lp BA h4 lB h3 k2 hx7 DT h2 lT KA h1 lK hh F' N'
    have hx := nbne_T hxw
    have hu := bne_T hxp
    have h7' := beq_T hx7
    exact IfPost.intro (prel := []) (bldl := [(Txt.slice xp (some 1) none, tp1)]) (ko := [(DT, _)]) F' (by intro z hz; simp only [List.mem_cons, List.not_mem_nil, or_false, not_or] at hz; obtain ⟨z1, z2, z3, z4⟩ := hz; have e := congrFun (over_eq V) z; simp only [over] at e; simp only [z1, z2, z3, z4, if_false] at e ⊢; exact e) rfl rfl rfl rfl rfl (by rw [preO, if_neg (by omega), if_pos hx]; rfl) (by rw [bldO, if_neg (by omega), if_neg hu]; rfl) N' (by (repeat' (first | exact List.Mem.head _ | refine List.Mem.tail _ ?_))) (by (repeat' (first | exact List.Mem.head _ | refine List.Mem.tail _ ?_))) (by (repeat' (first | exact List.Mem.head _ | refine List.Mem.tail _ ?_))) (fun q hq => by rw [List.mem_singleton.mp hq]; exact (by (repeat' (first | exact List.Mem.head _ | refine List.Mem.tail _ ?_)))) (fun q hq => (by (repeat' (first | exact hq | refine List.Mem.tail _ ?_)))) (lt_ne lA.2) (lt_ne lB.2.2) (lt_ne lK.2.2.2.2) (fun r hr q hq => by rw [List.mem_singleton.mp hr]; exact lt_ne lT.2.2.2 q hq) (by rw [keyO, if_neg (by omega), if_neg hu, if_pos h7']; exact .cons (.head _) .nil)
  · rename_i cN k0 hxw PA h7 lA h6 k1 hxp h5 tp1 kp1 lp BA h4 lB h3 k2 hx7 DT h2 lT KA h1 lK hh F' N'
    have hx := nbne_T hxw
    have hu := bne_T hxp
    have h7' := nbeq_T hx7
    exact IfPost.intro (prel := []) (bldl := [(Txt.slice xp (some 1) none, tp1)]) (ko := [(DT, _)]) F' (by intro z hz; simp only [List.mem_cons, List.not_mem_nil, or_false, not_or] at hz; obtain ⟨z1, z2, z3, z4⟩ := hz; have e := congrFun (over_eq V) z; simp only [over] at e; simp only [z1, z2, z3, z4, if_false] at e ⊢; exact e) rfl rfl rfl rfl rfl (by rw [preO, if_neg (by omega), if_pos hx]; rfl) (by rw [bldO, if_neg (by omega), if_neg hu]; rfl) N' (by (repeat' (first | exact List.Mem.head _ | refine List.Mem.tail _ ?_))) (by (repeat' (first | exact List.Mem.head _ | refine List.Mem.tail _ ?_))) (by (repeat' (first | exact List.Mem.head _ | refine List.Mem.tail _ ?_))) (fun q hq => by rw [List.mem_singleton.mp hq]; exact (by (repeat' (first | exact List.Mem.head _ | refine List.Mem.tail _ ?_)))) (fun q hq => (by (repeat' (first | exact hq | refine List.Mem.tail _ ?_)))) (lt_ne lA.2) (lt_ne lB.2.2) (lt_ne lK.2.2.2.2) (fun r hr q hq => by rw [List.mem_singleton.mp hr]; exact lt_ne lT.2.2.2 q hq) (by rw [keyO, if_neg (by omega), if_neg hu, if_neg h7']; exact .cons (.head _) .nil)
  · rename_i cN k0 hxw PA h7 lA h6 k1 hxp BA h4 lB h3 k2 KA h1 lK hh F' N'
    have hx := nbne_T hxw
    have hu := nbne_T hxp
    exact IfPost.intro (prel := []) (bldl := []) (ko := []) F' (by intro z hz; simp only [List.mem_cons, List.not_mem_nil, or_false, not_or] at hz; obtain ⟨z1, z2, z3, z4⟩ := hz; have e := congrFun (over_eq V) z; simp only [over] at e; simp only [z1, z2, z3, z4, if_false] at e ⊢; exact e) rfl rfl rfl rfl rfl (by rw [preO, if_neg (by omega), if_pos hx]; rfl) (by rw [bldO, if_neg (by omega), if_pos hu]; rfl) N' (by (repeat' (first | exact List.Mem.head _ | refine List.Mem.tail _ ?_))) (by (repeat' (first | exact List.Mem.head _ | refine List.Mem.tail _ ?_))) (by (repeat' (first | exact List.Mem.head _ | refine List.Mem.tail _ ?_))) (List.forall_mem_nil _) (fun q hq => (by (repeat' (first | exact hq | refine List.Mem.tail _ ?_)))) (lt_ne lA.2) (lt_ne lB.2.2) (lt_ne lK.2.2.2) (List.forall_mem_nil _) (by rw [keyO, if_neg (by omega), if_pos hu]; exact .nil)
end Mine
end
section
local macro_rules | `(tactic| walk_at "pad") => `(tactic| fail)
theorem Mine.reset_T6 : True := by w_top off; trivial
open PySem PySem.W PyProof.Rows PySem.Calls PySem.Spec
set_option Elab.async false
set_option maxRecDepth 100000
set_option linter.unusedSimpArgs false
set_option linter.unusedVariables false
namespace Mine
theorem fillT6 : (PySem.Challenge.rw_ci0037_01, Mine.hd.heap_39) = (PySem.Challenge.rw_ci0037_01, Mine.hd.heap_39) := by k_fill; rfl
/-- nothing is stored -/
def KeepPost (h₀ : Heap) (L : Addr) (m : Str → Option Value) (led : List (Addr × Obj)) (s : Shared) (f : Flow) (s' : Shared) : Prop :=
  f = .next ∧ ∃ h' tk, s' = { s with heap := h', toks := tk } ∧ Fr h₀ L h' m ∧ News h₀ L h' led
theorem KeepPost.intro {h₀ h' : Heap} {L : Addr} {m : Str → Option Value} {led led' : List (Addr × Obj)} {s : Shared} {tk : Nat} {l : List (Str × Value)} (V : Vars m l) (F : Fr h₀ L h' (over l m)) (N : News h₀ L h' led') (hs : ∀ q ∈ led, q ∈ led') : KeepPost h₀ L m led s .next { s with heap := h', toks := tk } :=
  ⟨rfl, h', tk, rfl, (over_eq V) ▸ F, fun q hq => N q (hs q hq)⟩
theorem ints_get : ∀ {vs : List Value} {ns : List Int}, IntsAre vs ns → ∀ {j : Nat} {v : Value}, vs[j]? = some v → ∃ n t, ns[j]? = some n ∧ v = .int n t := by
  intro vs ns h
  induction h with
  | nil => intro j v hv; simp at hv
  | cons n t _ ih =>
    intro j v hv
    cases j with
    | zero => simp at hv; exact ⟨n, t, rfl, hv.symm⟩
    | succ j => exact ih (by simpa using hv)
theorem strs_get {l : List (Str × Tok)} {j : Nat} {v : Value} (h : (strVals l)[j]? = some v) : ∃ p : Str × Tok, l[j]? = some p ∧ v = .str p.1 p.2 := by
  unfold strVals at h
  rw [List.getElem?_map] at h
  cases e : l[j]? with
  | none => rw [e] at h; cases h
  | some p => rw [e] at h; cases h; exact ⟨p, rfl, rfl⟩
theorem all_no {n : Nat} {Q : Value → Shared → Prop} {s : Shared} (hq : Q (.bool false) s) : Q (.bool (!(List.range n).all fun _ => true)) s := by
  have e : ((List.range n).all fun _ => true) = true := List.all_eq_true.mpr fun _ _ => rfl
  rw [e]; exact hq
section
variable {w : World} {A : Around} {E : Value → Shared → Prop} {s : Shared} {h₀ : Heap} {L a b : Addr} {led : List (Addr × Obj)} {Q : Value → Shared → Prop}
theorem ne_ints {vs ws : List Value} {ns : List Int} {n k : Nat} (N : News h₀ L s.heap led) (m1 : (a, W.listOf (List.toArray vs) n) ∈ led) (m2 : (b, W.listOf (List.toArray ws) k) ∈ led) (i1 : IntsAre vs ns) (i2 : IntsAre ws ns) (hu : A.units < cLine) (hq : Q (.bool false) s) : wpAny (model PR w) A (compareOp .NotEq (.ref a) (.ref b)) Q E s := by
  have l1 := IntsAre.length i1
  have l2 := IntsAre.length i2
  refine (SeqAt.RcNeAt.lists (e := fun _ => true) ⟨_, (N _ m1).1, rfl, n, rfl⟩ ⟨_, (N _ m2).1, rfl, k, rfl⟩ (by simp; omega) hu fun j h1 h2 => ?_) PR w E Q (all_no hq)
  have h1' : j < vs.length := by simpa using h1
  have h2' : j < ws.length := by simpa using h2
  obtain ⟨x, t, e, ev⟩ := ints_get i1 (List.getElem?_eq_getElem h1')
  obtain ⟨x', t', e', ew⟩ := ints_get i2 (List.getElem?_eq_getElem h2')
  rw [e] at e'
  cases e'
  have z := SeqAt.EqAt.int_int (A := A.in1) (s := s) x t x t'
  rw [beq_self_eq_true] at z
  show SeqAt.EqAt A.in1 s vs[j] ws[j] true
  rw [ev, ew]; exact z
theorem ne_strs {l l' : List (Str × Tok)} {n k : Nat} (N : News h₀ L s.heap led) (m1 : (a, W.listOf (List.toArray (strVals l)) n) ∈ led) (m2 : (b, W.listOf (List.toArray (strVals l')) k) ∈ led) (e : l.map (·.1) = l'.map (·.1)) (hu : A.units < cLine) (hq : Q (.bool false) s) : wpAny (model PR w) A (compareOp .NotEq (.ref a) (.ref b)) Q E s := by
  have l1 : l.length = l'.length := by simpa using congrArg List.length e
  have z1 : (strVals l).length = l.length := by unfold strVals; rw [List.length_map]
  have z2 : (strVals l').length = l'.length := by unfold strVals; rw [List.length_map]
  refine (SeqAt.RcNeAt.lists (e := fun _ => true) ⟨_, (N _ m1).1, rfl, n, rfl⟩ ⟨_, (N _ m2).1, rfl, k, rfl⟩ (by simp; omega) hu fun j h1 h2 => ?_) PR w E Q (all_no hq)
  have h1' : j < (strVals l).length := by simpa using h1
  have h2' : j < (strVals l').length := by simpa using h2
  obtain ⟨p, e1, ev⟩ := strs_get (List.getElem?_eq_getElem h1')
  obtain ⟨p', e2, ew⟩ := strs_get (List.getElem?_eq_getElem h2')
  have e3 : p.1 = p'.1 := by
    have := congrArg (fun l => l[j]?) e
    simp only [List.getElem?_map, e1, e2, Option.map_some] at this
    exact Option.some.inj this
  have z := SeqAt.EqAt.str_str (A := A.in1) (s := s) p.1 p.2 p.1 p'.2
  rw [beq_self_eq_true] at z
  show SeqAt.EqAt A.in1 s (strVals l)[j] (strVals l')[j] true
  rw [ev, ew, ← e3]; exact z
theorem list_of_strs {m : Str → Option Value} {l : List (Str × Tok)} (F : Fr h₀ L s.heap m) (N : News h₀ L s.heap led) (hb : (b, tupObj (strVals l)) ∈ led) (hl : l.length ≤ 100)
    (h : ∀ D c h', Fr h₀ L h' m → News h₀ L h' ((D, W.listOf (List.toArray (strVals l)) c) :: led) → (∀ q ∈ led, q.1 < D) → Q (.ref D) { s with heap := h' }) : wpAny (model PR w) A (call (.type "list") [.ref b]) Q E s := by
  refine kup_listOfT F N hb rfl h ?_
  have e : sizeLine = 16777216 := sizeLine_eq
  have z1 : (strVals l).length = l.length := by unfold strVals; rw [List.length_map]
  show (strVals l).length ≤ _
  rw [z1, e]; omega
end
local macro_rules | `(tactic| walk_at "compareOp NotEq ref ref") => `(tactic| (k_here; refine stop_intro ?_))
local macro_rules | `(tactic| walk_at "call type:list") => `(tactic| (k_here; refine stop_intro ?_))
local macro_rules | `(tactic| walk_at "call type:list") => `(tactic| (k_here; k_dflt (refine' list_of_strs ?F ?N ?b ?hl ?_; (case F => k_asm); (case N => k_asm); (case b => k_mem); (case hl => with_reducible assumption)); intro D' c' h' F' N' l1; (try k_lt l1)))
local macro_rules | `(tactic| walk_at "compareOp NotEq ref ref") => `(tactic| (k_here; k_dflt (first
  | (refine' ne_ints ?N ?m1 ?m2 ?i1 ?i2 ?hu ?_; (case N => k_asm); (case m1 => k_mem); (case m2 => k_mem); (case i1 => exact .cons _ _ (.cons _ _ (.cons _ _ .nil))); (case i2 => with_reducible assumption); (case hu => ktr_units))
  | (refine' ne_strs ?N ?m1 ?m2 ?e ?hu ?_; (case N => k_asm); (case m1 => k_mem); (case m2 => k_mem); (case e => with_reducible assumption); (case hu => ktr_units)))))
set_option pp.deepTerms false in
set_option pp.deepTerms.threshold 5 in
set_option maxHeartbeats 4000000 in
theorem t6 {w : World} {loose : List Str} {mean : ExcName → Option Value} {mg mb : Str → Option Value} {h₀ : Heap} {s : Shared} {L v dx tp tb ck sk D3 pa ba : Addr} {m : Str → Option Value} {led : List (Addr × Obj)} {E : Value → Shared → Prop}
    {v1 v2 v3 h1 h2 h3 h4 h5 h6 h7 h8 : Int} {k1 k2 k3 k4 k5 k6 k7 k8 m1 m2 m3 : Tok} {pre bld prel bldl : List (Str × Tok)} {vs : List Value} {n1 n2 n3 : Nat}
    (X : (Mine.hd.heap_39 w.params).In h₀) (T : Top topProg loose mean mg mb h₀) (F : Fr h₀ L s.heap m)
    (N : News h₀ L s.heap led) (hf : ∀ q ∈ (((v, instObj 388 dx) :: (dx, dictOf (verDict8 h1 h2 h3 h4 h5 h6 h7 h8 k1 k2 k3 k4 k5 k6 k7 k8 (.int v1 m1) (.int v2 m2) (.int v3 m3) (.ref tp) (.ref tb) (.bool false) (.ref ck) (.ref sk)) 8) :: (tp, tupObj (strVals pre)) :: (tb, tupObj (strVals bld)) :: (D3, W.listOf (List.toArray vs) n1) :: (pa, W.listOf (strVals prel).toArray n2) :: (ba, W.listOf (strVals bldl).toArray n3) :: []) : List (Addr × Obj)), q ∈ led)
    (V : Vars m [(Mine.T "version", .ref v), (Mine.T "three", .ref D3), (Mine.T "pre", .ref pa), (Mine.T "build", .ref ba)]) (hi : IntsAre vs [v1, v2, v3]) (e1 : pre.map (·.1) = prel.map (·.1)) (e2 : bld.map (·.1) = bldl.map (·.1)) (l1 : pre.length ≤ 100) (l2 : bld.length ≤ 100) :
    wpAny (model PR w) (lawA L) (exec (st2 5) (lawEnv L)) (KeepPost h₀ L m led s) E s := by
  have N1 : News h₀ L s.heap ((v, instObj 388 dx) :: (dx, dictOf (verDict8 h1 h2 h3 h4 h5 h6 h7 h8 k1 k2 k3 k4 k5 k6 k7 k8 (.int v1 m1) (.int v2 m2) (.int v3 m3) (.ref tp) (.ref tb) (.bool false) (.ref ck) (.ref sk)) 8) :: (tp, tupObj (strVals pre)) :: (tb, tupObj (strVals bld)) :: (D3, W.listOf (List.toArray vs) n1) :: (pa, W.listOf (strVals prel).toArray n2) :: (ba, W.listOf (strVals bldl).toArray n3) :: led) := fun q hq => by
    rcases List.mem_append.mp (show q ∈ ((v, instObj 388 dx) :: (dx, dictOf (verDict8 h1 h2 h3 h4 h5 h6 h7 h8 k1 k2 k3 k4 k5 k6 k7 k8 (.int v1 m1) (.int v2 m2) (.int v3 m3) (.ref tp) (.ref tb) (.bool false) (.ref ck) (.ref sk)) 8) :: (tp, tupObj (strVals pre)) :: (tb, tupObj (strVals bld)) :: (D3, W.listOf (List.toArray vs) n1) :: (pa, W.listOf (strVals prel).toArray n2) :: (ba, W.listOf (strVals bldl).toArray n3) :: []) ++ led from hq) with hq | hq
    · exact N q (hf q hq)
    · exact N q hq
  clear N
  have F1 := V.look F
  clear F
  conv in st2 5 => whnf
  unfold lawA lawEnv
  conv in (occs := *) lawScope => all_goals whnf
  simp only [over] at F1
  k_steps
  exact KeepPost.intro V (by assumption) (by assumption) (fun q hq => by (repeat' (first | exact hq | refine List.Mem.tail _ ?_)))
end Mine
end
section
theorem Mine.reset_T7 : True := by w_top off; trivial
open PySem PySem.W PyProof.Rows PySem.Calls PySem.Spec
set_option Elab.async false
set_option maxRecDepth 100000
set_option linter.unusedSimpArgs false
set_option linter.unusedVariables false
namespace Mine
theorem fillT7 : (PySem.Challenge.rw_ci0037_01, Mine.hd.heap_39) = (PySem.Challenge.rw_ci0037_01, Mine.hd.heap_39) := by k_fill; rfl
theorem sub3 {a b c : Addr × Obj} {vo led : List (Addr × Obj)} (h : ∀ q ∈ vo, q ∈ led) : ∀ q ∈ vo, q ∈ a :: b :: c :: led := fun q hq => .tail _ (.tail _ (.tail _ (h q hq)))
set_option maxHeartbeats 1000000 in
theorem str_at {w : World} {loose : List Str} {mean : ExcName → Option Value} {mg mb : Str → Option Value} {A : Around} {h₀ : Heap} {s : Shared} {L v : Addr} {m : Str → Option Value} {led vo : List (Addr × Obj)} {v1 v2 v3 : Int} {pre bld : List (Str × Tok)} {Q E : Value → Shared → Prop}
    (hh : A.in1.in1.handled = none) (hroom : A.in1.in1.depth + 10 < recursionLimit) (hu : A.in1.in1.units < cLine) (F : Fr h₀ L s.heap m) (X : (Mine.hd.heap_39 w.params).In h₀) (T : Top topProg loose mean mg mb h₀) (N : News h₀ L s.heap led) (I : IsVer v1 v2 v3 pre bld v vo) (hvo : ∀ q ∈ vo, q ∈ led) (O : StrOk v1 v2 v3 (pre.map (·.1)) (bld.map (·.1)))
    (hret : ∀ (t : Tok) (h' : Heap) (tk' : Nat), Fr h₀ L h' m → News h₀ L h' led → Q (.str (verText v1 v2 v3 (pre.map (·.1)) (bld.map (·.1))) t) { s with heap := h', toks := tk' }) : wpAny (model PR w) A (call (.type "str") [.ref v]) Q E s := by
  have X' := X.keeps F.keep
  have hz : ∃ dx od, (v, instObj 388 dx) ∈ led ∧ (dx, od) ∈ led := by
    obtain ⟨dx, tp, tb, ck, sk, h1, h2, h3, h4, h5, h6, h7, h8, k1, k2, k3, k4, k5, k6, k7, k8, m1, m2, m3, ko4, ko5, K4, K5, rfl⟩ := I
    exact ⟨dx, _, hvo _ (.head _), hvo _ (.tail _ (.head _))⟩
  obtain ⟨dx, od, i1, i2⟩ := hz
  refine kso_call (f := 320) hu X' (InstAt.of_news N i1 i2) (by kernel_rfl) (by kernel_rfl) ?_
  refine wpAny_call (str_ver hh hroom I O (Has.of F X T N hvo) fun t h' tk' k => ?_)
  exact hret t h' tk' (F.keeps k) fun q hq => ⟨k _ _ (N q hq).1, (N q hq).2⟩
local macro_rules | `(tactic| walk_at "call ref") => `(tactic| (k_here; k_dflt (refine' call_meth (f := .ref 271) ?k1 ?k2 ?_; (case k1 => k_asm); (case k2 => k_mem); refine' coerce_at ?C ?O ?GP ?GB ?B ?F ?X ?N ?m1 ?m2 ?hs ?hap ?ht1 ?ht ?G ?T ?kk ?hd ?hu ?_; (case C => with_reducible assumption); (case O => with_reducible assumption); (case GP => with_reducible assumption); (case GB => with_reducible assumption); (case B => k_asm); (case F => k_asm); (case X => k_asm); (case T => k_asm); (case N => k_asm); (case m1 => k_mem); (case m2 => k_mem); (case hap => with_reducible assumption); (case hs => intro q9 hq9; (repeat' (first | exact hq9 | refine List.Mem.tail _ ?_))); (case ht1 => with_reducible assumption); (case ht => with_reducible assumption); (case G => with_reducible assumption); (case kk => exact rfl); (case hd => ktr_room); (case hu => ktr_units)); intro s9 v9 pre9 bld9 objs9 ps91 ps9 ep9 eb9 ver9 ht91 ht9 F9 N9 G9 os9 ne9 ap9; (try dsimp only)))
local macro_rules | `(tactic| walk_at "call type:str") => `(tactic| (k_here; k_dflt (refine' str_at ?hh ?hr ?hu ?F ?X ?T ?N ?I ?hv ?O ?_; (case F => k_asm); (case X => k_asm); (case T => k_asm); (case N => k_asm); (case hh => exact rfl); (case hr => ktr_room); (case hu => ktr_units); (case I => with_reducible assumption); (case hv => first | with_reducible assumption | exact sub3 (by with_reducible assumption)); (case O => with_reducible assumption)); intro t9 h9 tk9 F9 N9; (try dsimp only)))
set_option pp.deepTerms false in
set_option pp.deepTerms.threshold 5 in
set_option maxHeartbeats 4000000 in
theorem t7 {w : World} {loose : List Str} {mean : ExcName → Option Value} {mg mb : Str → Option Value} {h₀ : Heap} {s : Shared} {L v : Addr} {m : Str → Option Value} {led vo : List (Addr × Obj)} {v1 v2 v3 : Int} {P B : List Str} {pre bld : List (Str × Tok)} {ps1 ps : Array Value} {E : Value → Shared → Prop}
    (X : (Mine.hd.heap_39 w.params).In h₀) (T : Top topProg loose mean mg mb h₀) (F : Fr h₀ L s.heap m) (N : News h₀ L s.heap ((268, tabObj ps1) :: (323, tabObj ps) :: led)) (hB : Below callerA h₀ [] h₀)
    (V : Vars m [(Mine.T "version", .ref v)]) (I : IsVer v1 v2 v3 pre bld v vo) (hvo : ∀ q ∈ vo, q ∈ led) (O : StrOk v1 v2 v3 (pre.map (·.1)) (bld.map (·.1))) (hap : ∀ r ∈ led, r.1 ≠ (268 : Nat) ∧ r.1 ≠ (323 : Nat)) (ht1 : TriplesOk ps1.toList) (ht : TriplesOk ps.toList) (G : AllBare s.gens) {ga gb gc : Str} (C : CoOk (verText v1 v2 v3 (pre.map (·.1)) (bld.map (·.1))) (verText v1 v2 v3 (pre.map (·.1)) (bld.map (·.1))) v1 v2 v3) (Ok : POK (verText v1 v2 v3 (pre.map (·.1)) (bld.map (·.1))) ga gb gc (optJ P) (optJ B) v1 v2 v3) (GP : PG false P) (GB : PG true B) :
    wpAny (model PR w) (lawA L) (exec (st2 6) (lawEnv L)) (VerPost h₀ L m led (Mine.T "again") v1 v2 v3 P B s) E s := by
  have F1 := V.look F
  clear F
  conv in st2 6 => whnf
  unfold lawA lawEnv
  conv in (occs := *) lawScope => all_goals whnf
  simp only [over] at F1
  k_steps
  rename_i q1 hq1 l1 t9 h9 tk9 s9 v9 pre9 bld9 o9 pa pb a1 a2 a3 a4 a5 a6 a7 a8 a9 h2 F9 N9
  exact VerPost.intro a1 a2 a3 a4 a5 V F9 N9 a6 a7 a8 a9
end Mine
end
section
local macro_rules | `(tactic| walk_at "pad") => `(tactic| fail)
local macro_rules | `(tactic| walk_at "pad") => `(tactic| fail)
local macro_rules | `(tactic| walk_at "pad") => `(tactic| fail)
local macro_rules | `(tactic| walk_at "pad") => `(tactic| fail)
theorem Mine.reset_T8 : True := by w_top off; trivial
open PySem PySem.W PyProof.Rows PySem.Calls PySem.Spec
set_option Elab.async false
set_option maxRecDepth 100000
set_option linter.unusedSimpArgs false
set_option linter.unusedVariables false
namespace Mine
theorem fillT8 : (PySem.Challenge.rw_ci0037_01, Mine.hd.heap_39) = (PySem.Challenge.rw_ci0037_01, Mine.hd.heap_39) := by k_fill; rfl
/-- what validate answers, and why -/
inductive ValOk (x : Str) : Bool → Prop
  | yes {ga gb gc : Str} {gp gq : Option Str} {v1 v2 v3 : Int} (H : POK x ga gb gc gp gq v1 v2 v3) : ValOk x true
  | no (x0 : 0 < x.length) (x1 : x.length < 10000) (n : (Txt.slice x (some (-1)) none == Str.ofString "\n") = false) (v : VG x = none) : ValOk x false
  | lza {ga gb gc : Str} {gp gq : Option Str} (x0 : 0 < x.length) (x1 : x.length < 10000) (n : (Txt.slice x (some (-1)) none == Str.ofString "\n") = false) (v : VG x = some (ga, gb, gc, gp, gq)) (a : 0 < ga.length ∧ ga.length < 10000) (z : lz ga = true) : ValOk x false
  | lzb {ga gb gc : Str} {gp gq : Option Str} (x0 : 0 < x.length) (x1 : x.length < 10000) (n : (Txt.slice x (some (-1)) none == Str.ofString "\n") = false) (v : VG x = some (ga, gb, gc, gp, gq)) (a : 0 < ga.length ∧ ga.length < 10000) (z : lz ga = false) (b : 0 < gb.length ∧ gb.length < 10000) (zb : lz gb = true) : ValOk x false
  | lzc {ga gb gc : Str} {gp gq : Option Str} (x0 : 0 < x.length) (x1 : x.length < 10000) (n : (Txt.slice x (some (-1)) none == Str.ofString "\n") = false) (v : VG x = some (ga, gb, gc, gp, gq)) (a : 0 < ga.length ∧ ga.length < 10000) (z : lz ga = false) (b : 0 < gb.length ∧ gb.length < 10000) (zb : lz gb = false) (c : 0 < gc.length ∧ gc.length < 10000) (zc : lz gc = true) : ValOk x false
theorem not_blank {x : Str} (h : 0 < x.length) : (x == Str.ofString "") = false := by
  cases e : x == Str.ofString "" with
  | false => rfl
  | true =>
    rw [beq_iff_eq.mp e] at h
    exact absurd h (by decide +kernel)
theorem validate_at {w : World} {mg mb : Str → Option Value} {loose : List Str} {mean : ExcName → Option Value} {x : Str} {t1 : Tok} {b : Bool} (O : ValOk x b)
    {dp un : Nat} {gd : Option (List Code)} {cn : Str} {cs : Scope} {a : Addr} {ccd : Value} {cl : List (Str × Addr)} {A₀ : Around} {h₀ : Heap} {L : Addr} {m : Str → Option Value} {s : Shared} {Q E : Value → Shared → Prop} {news : List (Addr × Obj)}
    (B : Below A₀ h₀ [] h₀) (F : Fr h₀ L s.heap m) (X : (Mine.hd.heap_39 w.params).In h₀) (N : News h₀ L s.heap news) (T : Top topProg loose mean mg mb h₀) (hk : cs.kind = .function) (hd : dp + 60 < recursionLimit) (hu : un + 300 < cLine)
    (hret : ∀ (h' : Heap) (tk' : Nat), Fr h₀ L h' m → News h₀ L h' news → Q (.bool b) { s with heap := h', toks := tk' }) :
    wpAny (model PR w) (ktrTop dp un gd cn cs L a ccd cl []) (call (.ref 406) [.str x t1]) Q E s := by
  refine wpAny_call ?_
  cases O with
  | yes H => exact validate_ok H B F X N T X T hk hd hu hret
  | no x0 x1 n v => exact validate_none x0 x1 (not_blank x0) n v B F X N T X T hk hd hu hret
  | lza x0 x1 n v a z => exact validate_lza x0 x1 (not_blank x0) n v a.1 a.2 z B F X N T X T hk hd hu hret
  | lzb x0 x1 n v a z b zb => exact validate_lzb x0 x1 (not_blank x0) n v a.1 a.2 z b.1 b.2 zb B F X N T X T hk hd hu hret
  | lzc x0 x1 n v a z b zb c zc => exact validate_lzc x0 x1 (not_blank x0) n v a.1 a.2 z b.1 b.2 zb c.1 c.2 zc B F X N T X T hk hd hu hret
set_option maxHeartbeats 1000000 in
theorem ne_at {w : World} {loose : List Str} {mean : ExcName → Option Value} {mg mb : Str → Option Value} {A : Around} {h₀ : Heap} {s : Shared} {L v v' : Addr} {m : Str → Option Value} {led vo vo' : List (Addr × Obj)} {v1 v2 v3 : Int} {pre bld pre' bld' : List (Str × Tok)} {Q E : Value → Shared → Prop}
    (hh : A.handled = none) (hroom : A.depth + 60 < recursionLimit) (hu : A.units + 100 < cLine) (F : Fr h₀ L s.heap m) (X : (Mine.hd.heap_39 w.params).In h₀) (T : Top topProg loose mean mg mb h₀) (N : News h₀ L s.heap led) (I : IsVer v1 v2 v3 pre bld v vo) (I' : IsVer v1 v2 v3 pre' bld' v' vo') (hvo : ∀ q ∈ vo, q ∈ led) (hvo' : ∀ q ∈ vo', q ∈ led)
    (e1 : pre.map (·.1) = pre'.map (·.1)) (e2 : bld.map (·.1) = bld'.map (·.1)) (o1 : ∀ x ∈ pre.map (·.1), PyData.strOk x = true) (o2 : ∀ x ∈ bld.map (·.1), PyData.strOk x = true) (G : AllBare s.gens)
    (hret : ∀ (s' : Shared), Fr h₀ L s'.heap m → News h₀ L s'.heap led → AllBare s'.gens → s'.os = s.os → Q (.bool false) s') : wpAny (model PR w) A (compareOp .NotEq (.ref v) (.ref v')) Q E s := by
  have X' := X.keeps F.keep
  have hz : ∀ {v : Addr} {vo : List (Addr × Obj)} {pre bld : List (Str × Tok)}, IsVer v1 v2 v3 pre bld v vo → (∀ q ∈ vo, q ∈ led) → ∃ dx od, (v, instObj 388 dx) ∈ led ∧ (dx, od) ∈ led := by
    intro v vo pre bld I hvo
    obtain ⟨dx, tp, tb, ck, sk, h1, h2, h3, h4, h5, h6, h7, h8, k1, k2, k3, k4, k5, k6, k7, k8, m1, m2, m3, ko4, ko5, K4, K5, rfl⟩ := I
    exact ⟨dx, _, hvo _ (.head _), hvo _ (.tail _ (.head _))⟩
  obtain ⟨dx, od, i1, i2⟩ := hz I hvo
  obtain ⟨dx', od', i1', i2'⟩ := hz I' hvo'
  show wpAny (model PR w) A (richCompare .NotEq (.ref v) (.ref v')) Q E s
  refine rc_left (f := 357) (by omega) X' (InstAt.of_news N i1 i2) (InstAt.of_news N i1' i2').type (by kernel_rfl) (by kernel_rfl) (by kernel_rfl) ?_
  refine wpAny_call (ne_ver hh hroom hu I I' e1 e2 o1 o2 G (Has.of F X T N fun q hq => ?_) fun s' k g o => ?_)
  · rcases List.mem_append.mp hq with hq | hq
    · exact hvo q hq
    · exact hvo' q hq
  · exact hret s' (F.keeps k) (fun q hq => ⟨k _ _ (N q hq).1, (N q hq).2⟩) g o
/-- nothing is stored; a generator has run -/
def KeepG (h₀ : Heap) (L : Addr) (m : Str → Option Value) (led : List (Addr × Obj)) (s : Shared) (f : Flow) (s' : Shared) : Prop :=
  f = .next ∧ Fr h₀ L s'.heap m ∧ News h₀ L s'.heap led ∧ AllBare s'.gens ∧ s'.os = s.os
theorem KeepG.intro {h₀ : Heap} {L : Addr} {m : Str → Option Value} {led : List (Addr × Obj)} {s s' : Shared} {l : List (Str × Value)} (V : Vars m l) (F : Fr h₀ L s'.heap (over l m)) (N : News h₀ L s'.heap led) (G : AllBare s'.gens) (o : s'.os = s.os) : KeepG h₀ L m led s .next s' :=
  ⟨rfl, (over_eq V) ▸ F, N, G, o⟩
local macro_rules | `(tactic| walk_at "call type:str") => `(tactic| (k_here; k_dflt (refine' str_at ?hh ?hr ?hu ?F ?X ?T ?N ?I ?hv ?O ?_; (case F => k_asm); (case X => k_asm); (case T => k_asm); (case N => k_asm); (case hh => exact rfl); (case hr => ktr_room); (case hu => ktr_units); (case I => with_reducible assumption); (case hv => with_reducible assumption); (case O => with_reducible assumption)); intro t9 h9 tk9 F9 N9; (try dsimp only)))
local macro_rules | `(tactic| walk_at "call ref") => `(tactic| (k_here; (with_reducible show wpAny _ _ (call (Value.ref 406) _ _) _ _ _); k_dflt (refine' validate_at ?O ?B ?F ?X ?N ?T ?kk ?hd ?hu ?_; (case O => with_reducible assumption); (case B => k_asm); (case F => k_asm); (case X => k_asm); (case N => k_asm); (case T => k_asm); (case kk => exact rfl); (case hd => ktr_room); (case hu => ktr_units)); intro h9 tk9 F9 N9; (try dsimp only)))
local macro_rules | `(tactic| walk_at "compareOp NotEq ref ref") => `(tactic| (k_here; k_dflt (refine' ne_at ?hh ?hr ?hu ?F ?X ?T ?N ?I ?I' ?v ?v' ?e1 ?e2 ?o1 ?o2 ?G ?_; (case F => k_asm); (case X => k_asm); (case T => k_asm); (case N => k_asm); (case hh => exact rfl); (case hr => ktr_room); (case hu => ktr_units); (case I => with_reducible assumption); (case I' => with_reducible assumption); (case v => with_reducible assumption); (case v' => with_reducible assumption); (case e1 => with_reducible assumption); (case e2 => with_reducible assumption); (case o1 => with_reducible assumption); (case o2 => with_reducible assumption); (case G => with_reducible assumption)); intro s9 F9 N9 G9 o9; (try dsimp only)))
set_option pp.deepTerms false in
set_option pp.deepTerms.threshold 5 in
set_option maxHeartbeats 4000000 in
theorem t8 {w : World} {loose : List Str} {mean : ExcName → Option Value} {mg mb : Str → Option Value} {h₀ : Heap} {s : Shared} {L v v' : Addr} {m : Str → Option Value} {led vo vo' : List (Addr × Obj)} {v1 v2 v3 : Int} {pre bld pre' bld' : List (Str × Tok)} {E : Value → Shared → Prop}
    (X : (Mine.hd.heap_39 w.params).In h₀) (T : Top topProg loose mean mg mb h₀) (F : Fr h₀ L s.heap m) (N : News h₀ L s.heap led) (hB : Below callerA h₀ [] h₀)
    (V : Vars m [(Mine.T "again", .ref v), (Mine.T "version", .ref v')]) (I : IsVer v1 v2 v3 pre bld v vo) (I' : IsVer v1 v2 v3 pre' bld' v' vo') (hvo : ∀ q ∈ vo, q ∈ led) (hvo' : ∀ q ∈ vo', q ∈ led) (e1 : pre.map (·.1) = pre'.map (·.1)) (e2 : bld.map (·.1) = bld'.map (·.1)) (o1 : ∀ x ∈ pre.map (·.1), PyData.strOk x = true) (o2 : ∀ x ∈ bld.map (·.1), PyData.strOk x = true)
    (O : StrOk v1 v2 v3 (pre.map (·.1)) (bld.map (·.1))) (O' : StrOk v1 v2 v3 (pre'.map (·.1)) (bld'.map (·.1))) (G : AllBare s.gens) (Vk : ValOk (verText v1 v2 v3 (pre'.map (·.1)) (bld'.map (·.1))) true) (hs : (verText v1 v2 v3 (pre.map (·.1)) (bld.map (·.1)) != verText v1 v2 v3 (pre'.map (·.1)) (bld'.map (·.1))) = false) :
    wpAny (model PR w) (lawA L) (exec (st2 7) (lawEnv L)) (KeepG h₀ L m led s) E s := by
  have F1 := V.look F
  clear F
  conv in st2 7 => whnf
  unfold lawA lawEnv
  conv in (occs := *) lawScope => all_goals whnf
  simp only [over] at F1
  k_steps
  exact KeepG.intro V (by assumption) (by assumption) (by assumption) (by assumption)

end Mine
end
section
open PySem PySem.W PyProof.Rows PySem.Calls PySem.Spec
set_option Elab.async false
set_option maxRecDepth 100000
set_option linter.unusedSimpArgs false
set_option linter.unusedVariables false
namespace Mine
open PyProof.Rows.LCg PyProof.Rows.LCp
section
variable {w : World} {A : Around} {E : Value → Shared → Prop} {s : Shared} {h₀ : Heap} {L : Addr} {m : Str → Option Value} {env : Env} {x x₂ : Str} {scope : Scope} {cl : List (Str × Addr)} {news K : List (Addr × Obj)} {nums : List (Str × Int)} {vals : List Value} {ax : Addr} {ct : Expr} {f : Str × Int → Bool}
/-- the test of a turn: it answers f, and changes nothing -/
abbrev TestTurn (w : World) (A : Around) (h₀ : Heap) (L : Addr) (m : Str → Option Value) (env : Env) (ct : Expr) (x x₂ : Str) (scope : Scope) (cl : List (Str × Addr)) (s : Shared) (f : Str × Int → Bool) (nums : List (Str × Int)) : Prop :=
  ∀ (p : Str × Int) (t u : Tok) C oC m₂ led h tk (E' : Value → Shared → Prop), p ∈ nums → NsObj oC m₂ → m₂ x = some (.str p.1 t) → m₂ x₂ = some (.int p.2 u) → Fr h₀ L h m → News h₀ L h ((C, oC) :: led) →
    wpAny (model PR w) A (isTrue ct (compEnvC scope cl C env) (eval ct (compEnvC scope cl C env))) (fun b s' => b = f p ∧ ∃ h' tk', s' = { s with heap := h', toks := tk' } ∧ Fr h₀ L h' m ∧ News h₀ L h' ((C, oC) :: led)) E' { s with heap := h, toks := tk }
def TInv (h₀ : Heap) (L : Addr) (m : Str → Option Value) (s : Shared) (I ax C D : Addr) (news : List (Addr × Obj)) (nums : List (Str × Int)) (f : Str × Int → Bool) (k : Nat) (s' : Shared) : Prop :=
  ∃ i h' tk lt m', s' = { s with heap := h', toks := tk } ∧ i ≤ nums.length ∧ k = nums.length + 1 - i ∧ lt.map (·.1) = ((nums.take i).filter f).map (·.1) ∧ lt.length ≤ i ∧ h'.IsListIter I ax i ∧ Fr h₀ L h' m ∧ h'.Ns C m' ∧ News h₀ L h' ((D, lst (strVals lt)) :: news)
theorem block_T {iter : Expr} {pe px px₂ tp : Pos} {tk : Nat} {pos : Pos} {s₂ : Shared} {I : Addr} {n : Nat} {RR : Value → Addr → Result → Shared → Prop}
    (hh : A.handled = none) (hl : nums.length ≤ 100) (hcell : ∀ y ∈ scope.names, y.2 ≠ .cell) (hkind : scope.kind = .function) (hx : scope.names.lookup x = some .local) (hx₂ : scope.names.lookup x₂ = some .local) (hxx : x ≠ x₂)
    (hk : ∀ C, (compEnvC scope cl C env).scope.kind = .function) (hxl : ∀ C, (compEnvC scope cl C env).kindOf x = some .local) (hd : (x == ("__debug__" : Str)) = false)
    (hit : s₂.heap.IsListIter I ax 0) (hIlt : I < s₂.heap.objs.size) (hm : (ax, W.listOf (List.toArray vals) n) ∈ news) (r : PairRow K nums vals) (hK : ∀ q ∈ K, q ∈ news)
    (F : Fr h₀ L s₂.heap m) (N : News h₀ L s₂.heap news) (hIL : L ≠ I) (hI₀ : h₀.get? I = none) (off : ∀ p ∈ news, p.1 ≠ I)
    (turn : TestTurn w A h₀ L m env ct x x₂ scope cl s₂ f nums)
    (hRR : ∀ D C h tk m' lt, lt.map (·.1) = (nums.filter f).map (·.1) → Fr h₀ L h m → News h₀ L h ((D, lst (strVals lt)) :: news) → h.Ns C m' → h₀.get? C = none → C ≠ L → C ≠ D → (∀ p ∈ news, p.1 ≠ C) → RR (.ref D) C (.ok .next) { s₂ with heap := h, toks := tk }) :
    wpAny (model PR w) A (newList []) (fun acc s₃ => wpAny (model PR w) A (newFunctionEnv scope env.globals cl [] env.qual none .none (some env)) (fun cenv s₄ =>
      codeAny (model PR w) A (.compStart (.ListComp (.Name x pe) [⟨.Tuple [.Name x px, .Name x₂ px₂] tk tp, iter, [ct], 0⟩] scope pos) 0 (.ref I) acc { cenv with scope := relabel scope env }) (RR acc cenv.locals) s₄) E s₃) E s₂ := by
  refine wpAny_newObj_type (wpAny_newFunctionEnv hcell (by intro y hy; simp at hy) (fun h₁ hns₁ hsb₁ => ?_) hkind)
  dsimp only at hns₁ hsb₁ ⊢
  generalize hH2 : s₂.heap.push { cls := .type "list", dict := none, data := .seq ([] : List Value).toArray } = H2 at hns₁ hsb₁ ⊢
  have hC : H2.objs.size = s₂.heap.objs.size + 1 := by rw [← hH2, Heap.size_push]
  have low : ∀ b, b < s₂.heap.objs.size → b ≠ H2.objs.size ∧ b ≠ s₂.heap.objs.size := fun b hb => ⟨by rw [hC]; exact Nat.ne_of_lt (Nat.lt_succ_of_lt hb), Nat.ne_of_lt hb⟩
  have old : ∀ b o, s₂.heap.get? b = some o → h₁.get? b = some o := fun b o e => hsb₁.extBut b o (low b (Heap.lt_size e)).1 (Heap.get?_push_of_some _ (hH2 ▸ Heap.get?_push_of_some _ e))
  have hDC : s₂.heap.objs.size ≠ H2.objs.size := by rw [hC]; exact Nat.ne_of_lt (Nat.lt_succ_self _)
  have hacc : h₁.get? s₂.heap.objs.size = some (lst []) := hsb₁.extBut _ _ hDC (Heap.get?_push_of_some _ (hH2 ▸ Heap.get?_push_size _ rfl))
  have fresh : ∀ a, s₂.heap.objs.size ≤ a → h₀.get? a = none := fun a ha => by
    cases e : h₀.get? a with
    | none => rfl
    | some o' => exact absurd (Heap.lt_size (F.keep a o' e)) (Nat.not_lt.mpr ha)
  have hD₀ := fresh _ (Nat.le_refl s₂.heap.objs.size)
  have hC₀ := fresh H2.objs.size (by rw [hC]; exact Nat.le_succ _)
  have hDL : s₂.heap.objs.size ≠ L := Ne.symm (low L F.ns.lt).2
  have hCL : H2.objs.size ≠ L := Ne.symm (low L F.ns.lt).1
  have hIC := (low I hIlt).1
  have hID := (low I hIlt).2
  have nlt : ∀ p ∈ news, p.1 < s₂.heap.objs.size := fun p hp => Heap.lt_size (N p hp).1
  have hax := off _ hm
  have axD : ax ≠ s₂.heap.objs.size := (low ax (nlt _ hm)).2
  have axC : ax ≠ H2.objs.size := (low ax (nlt _ hm)).1
  generalize hDD : s₂.heap.objs.size = D at *
  generalize hCC : H2.objs.size = C at *
  have W := Walks.list (prog := PR) (w := w) hh I ax hax vals.toArray
  have start : TInv h₀ L m s₂ I ax C D news nums f (nums.length + 1) { s₂ with heap := h₁, toks := s₂.toks + ([] : List (Str × Value)).length } :=
    ⟨0, h₁, _, [], _, rfl, Nat.zero_le _, rfl, rfl, Nat.le_refl _, by obtain ⟨o, e, q⟩ := hit; exact ⟨o, old _ _ e, q⟩, F.keeps old, hns₁, fun p hp => by
      rcases List.mem_cons.mp hp with rfl | hp
      · exact ⟨hacc, hDL, hD₀⟩
      · exact ⟨old _ _ (N p hp).1, (N p hp).2⟩⟩
  have loop : ∀ s₃ : Shared, s₃ = { s₂ with heap := h₁, toks := s₂.toks + ([] : List (Str × Value)).length } →
      codeAny (model PR w) A (.compLoop (.ListComp (.Name x pe) [⟨.Tuple [.Name x px, .Name x₂ px₂] tk tp, iter, [ct], 0⟩] scope pos) 0 (.ref I) (.ref D) (compEnvC scope cl C env)) (RR (.ref D) C) s₃ := by
    rintro s₃ rfl
    refine kct_loop (TInv h₀ L m s₂ I ax C D news nums f) ?_ _ start
    rintro k s' ⟨i, h', tk', lt, m', rfl, hi, rfl, hlt, hll, hit', F', hn', N'⟩
    have isl : ∀ {g : Heap}, News h₀ L g news → g.IsList ax vals.toArray := fun N => ⟨_, (N _ hm).1, rfl, n, rfl⟩
    have Nn : News h₀ L h' news := fun q hq => N' q (.tail _ hq)
    by_cases hlti : i < nums.length
    · have hlv : i < vals.toArray.size := by rw [List.size_toArray, r.length]; exact hlti
      refine W.item i _ _ _ hlv ⟨hit', isl Nn⟩ fun v h₂ tk₂ hPv hst₂ hk₂ => ?_
      have hv' : vals[i]? = some v := by simpa using hPv
      obtain ⟨p, a, t, u, hp, rfl, ha⟩ := r.get hv'
      have hpm := List.mem_of_getElem? hp
      have F₂ : Fr h₀ L h₂ m := fr_but F' hk₂ hIL hI₀
      have N₂ : News h₀ L h₂ ((D, lst (strVals lt)) :: news) := news_but N' hk₂ fun q hq => by
        rcases List.mem_cons.mp hq with rfl | hq
        · exact Ne.symm hID
        · exact off q hq
      have hta : IsTup h₂ a #[.str p.1 t, .int p.2 u] := ⟨_, (N₂ _ (.tail _ (hK _ ha))).1, rfl, _, rfl⟩
      refine wpAny_letOwnedTupleGo_listiter hst₂.1 ?_
      refine assign_Tuple_tuple hh hta rfl rfl fun h₅ he => ?_
      have he' : ∀ b o, h₂.get? b = some o → h₅.get? b = some o := fun b o e => he b o (Nat.ne_of_lt (Heap.lt_size e)) e
      refine assignInOrder_cons (wpAny_assign_Name (wpAny_storeName_local (lookup_relabel_local hx) ((hn'.at' fun o e => hk₂ _ o (by simpa using Ne.symm hIC) e).at' fun o e => he' _ o e) (fun h₆ hn₆ hs₆ => ?_) (by simp [compEnvC, relabel, hkind])))
      refine assignInOrder_cons (wpAny_assign_Name (wpAny_storeName_local (lookup_relabel_local hx₂) hn₆ (fun h₃ hn₃ hs₃ => ?_) (by simp [compEnvC, relabel, hkind])))
      refine assignInOrder_nil ?_
      have up : ∀ b o, b ≠ C → h₂.get? b = some o → h₃.get? b = some o := fun b o hb e => hs₃.extBut b o hb (hs₆.extBut b o hb (he' b o e))
      obtain ⟨oC, heC, hoC⟩ := ns_obj hn₃
      have F₃ : Fr h₀ L h₃ m := (((F₂).keeps he').change hs₆ hCL hC₀).change hs₃ hCL hC₀
      have N₃ : News h₀ L h₃ ((C, oC) :: (D, lst (strVals lt)) :: news) := fun q hq => by
        rcases List.mem_cons.mp hq with rfl | hq
        · exact ⟨heC, hCL, hC₀⟩
        · have z := N₂ q hq
          refine ⟨up _ _ ?_ z.1, z.2⟩
          rcases List.mem_cons.mp hq with rfl | hq
          · exact hDC
          · exact (low _ (nlt q hq)).1
      have hit₃ : h₃.IsListIter I ax (i + 1) := by obtain ⟨o, e, q⟩ := hst₂.1; exact ⟨o, up _ _ hIC e, q⟩
      obtain ⟨oI, eI, qI⟩ := hit₃
      have N₃' : News h₀ L h₃ ((C, oC) :: (I, oI) :: (D, lst (strVals lt)) :: news) := fun q hq => by
        rcases List.mem_cons.mp hq with rfl | hq
        · exact N₃ _ (.head _)
        · rcases List.mem_cons.mp hq with rfl | hq
          · exact ⟨eI, Ne.symm hIL, hI₀⟩
          · exact N₃ q (.tail _ hq)
      refine wpAny_mono (turn p t u C oC _ _ h₃ _ _ hpm hoC (by simp [hxx]) (by simp) F₃ N₃') (fun b s₄ hq => ?_) fun _ _ e => e
      obtain ⟨rfl, h₄, tk₄, rfl, F₄, N₄'⟩ := hq
      have hit₄ : h₄.IsListIter I ax (i + 1) := ⟨oI, (N₄' (I, oI) (.tail _ (.head _))).1, qI⟩
      have N₄ : News h₀ L h₄ ((C, oC) :: (D, lst (strVals lt)) :: news) := fun q hq => by
        rcases List.mem_cons.mp hq with rfl | hq
        · exact N₄' _ (.head _)
        · exact N₄' q (.tail _ (.tail _ hq))
      have etake : (nums.take (i + 1)).filter f = (nums.take i).filter f ++ (if f p = true then [p] else []) := by
        rw [List.take_add_one, hp, List.filter_append]
        simp [List.filter_cons]
      cases hf : f p with
      | true =>
        rw [if_pos rfl]
        refine LCgL.ld_own (v := .str p.1 t) (m₂ := fun z => if z = x₂ then some (.int p.2 u) else if z = x then some (.str p.1 t) else m' z) N₄ (.head _) hoC (by simp [hxx]) ?_ (hk C) (hxl C) hd
        have hlen : (strVals lt).length = lt.length := by unfold strVals; rw [List.length_map]
        refine append_at (hsz := by rw [List.size_toArray, hlen]; exact len_line6 (by omega)) (N₄ (D, lst (strVals lt)) (.tail _ (.head _))).1 fun h₇ hs₇ hD₇ => ?_
        refine ⟨nums.length + 1 - (i + 1), by omega, i + 1, h₇, tk₄, lt ++ [(p.1, t)], _, rfl, hlti, rfl, ?_, ?_, ?_, F₄.change hs₇ hDL hD₀, (hoC.ns (N₄ (C, oC) (.head _)).1).sameBut hs₇ (Ne.symm hDC), fun q hq => ?_⟩
        · rw [etake, if_pos hf]; simp [hlt]
        · simp; omega
        · obtain ⟨o, e, q⟩ := hit₄; exact ⟨o, hs₇.extBut _ _ hID e, q⟩
        · rcases List.mem_cons.mp hq with rfl | hq
          · refine ⟨?_, hDL, hD₀⟩
            rw [← map_snoc]
            exact hD₇.trans (congrArg some (lst_snoc _ _))
          · exact ⟨hs₇.extBut _ _ (Nat.ne_of_lt (nlt q hq)) (N₄ q (.tail _ (.tail _ hq))).1, (N₄ q (.tail _ (.tail _ hq))).2⟩
      | false =>
        rw [if_neg Bool.false_ne_true]
        exact ⟨nums.length + 1 - (i + 1), by omega, i + 1, h₄, tk₄, lt, _, rfl, hlti, rfl, by rw [etake, if_neg (by rw [hf]; exact Bool.false_ne_true), List.append_nil]; exact hlt, by omega, hit₄, F₄, hoC.ns (N₄ (C, oC) (.head _)).1, fun q hq => N₄ q (.tail _ hq)⟩
    · obtain rfl : i = nums.length := Nat.le_antisymm hi (Nat.not_lt.mp hlti)
      have hst' : h'.IsListIter I ax vals.toArray.size := by rw [List.size_toArray, r.length]; exact hit'
      refine W.done _ _ _ ⟨hst', isl Nn⟩ fun h₂ tk₂ hk₂ => ?_
      rw [List.take_length] at hlt
      exact hRR _ _ h₂ tk₂ _ lt hlt (fr_but F' hk₂ hIL hI₀) (news_but N' hk₂ fun q hq => by
        rcases List.mem_cons.mp hq with rfl | hq
        · exact Ne.symm hID
        · exact off q hq) (hn'.at' fun o e => hk₂ _ o (by simpa using Ne.symm hIC) e) hC₀ hCL (Ne.symm hDC) (fun q hq => (low _ (nlt q hq)).1)
  exact codeAny_compStart_list (loop _ rfl) (W.self 0 _ _ _ ⟨by obtain ⟨o, e, q⟩ := hit; exact ⟨o, old _ _ e, q⟩, ⟨_, old _ _ (N _ hm).1, rfl, n, rfl⟩⟩ (loop _ rfl))
/-- a comprehension over a row of pairs with a test: the texts of those that pass -/
def SrcT (w : World) (A : Around) (h₀ : Heap) (L : Addr) (m : Str → Option Value) (env : Env) (ct : Expr) (x x₂ : Str) (scope : Scope) (cl : List (Str × Addr)) (Q : Value → Shared → Prop) (xv : Value) (s₁ : Shared) : Prop :=
  ∃ ax news K nums f, xv = .ref ax ∧ A.handled = none ∧ Fr h₀ L s₁.heap m ∧ News h₀ L s₁.heap news ∧ NumsIn news K ax nums ∧ (∀ q ∈ K, q ∈ news) ∧ nums.length ≤ 100 ∧ (∀ g, TestTurn w A h₀ L m env ct x x₂ scope cl { s₁ with heap := g } f nums) ∧
    ∀ D h tk (lt : List (Str × Tok)), lt.map (·.1) = (nums.filter f).map (·.1) → Fr h₀ L h m → News h₀ L h ((D, lst (strVals lt)) :: news) → Q (.ref D) { s₁ with heap := h, toks := tk }
theorem SrcT.intro {Q : Value → Shared → Prop} {s₁ : Shared} (f : Str × Int → Bool) (hh : A.handled = none) (F : Fr h₀ L s₁.heap m) (N : News h₀ L s₁.heap news) (H : NumsIn news K ax nums) (hK : ∀ q ∈ K, q ∈ news) (hl : nums.length ≤ 100)
    (h : (∀ g, TestTurn w A h₀ L m env ct x x₂ scope cl { s₁ with heap := g } f nums) ∧
    ∀ D h tk (lt : List (Str × Tok)), lt.map (·.1) = (nums.filter f).map (·.1) → Fr h₀ L h m → News h₀ L h ((D, lst (strVals lt)) :: news) → Q (.ref D) { s₁ with heap := h, toks := tk }) :
    SrcT w A h₀ L m env ct x x₂ scope cl Q (.ref ax) s₁ := ⟨ax, news, K, nums, f, rfl, hh, F, N, H, hK, hl, h.1, h.2⟩
theorem ListComp_T {iter : Expr} {pe px px₂ tp : Pos} {tk : Nat} {pos : Pos} {Q : Value → Shared → Prop} (F₀ : Fr h₀ L s.heap m)
    (hclos : closureFor scope env = pure cl) (hcell : ∀ y ∈ scope.names, y.2 ≠ .cell) (hkind : scope.kind = .function)
    (hnames : ∀ y ∈ scope.names, y.2 = .local → scope.names.lookup y.1 = some .local) (hx : scope.names.lookup x = some .local) (hx₂ : scope.names.lookup x₂ = some .local) (hxx : x ≠ x₂)
    (hk : ∀ C, (compEnvC scope cl C env).scope.kind = .function) (hxl : ∀ C, (compEnvC scope cl C env).kindOf x = some .local) (hd : (x == ("__debug__" : Str)) = false)
    (h : wpAny (model PR w) A (eval iter env) (SrcT w A h₀ L m env ct x x₂ scope cl Q) E s)
    (hs : ∀ x, foldedSetIterable iter env x = pure x) :
    wpAny (model PR w) A (eval (.ListComp (.Name x pe) [⟨.Tuple [.Name x px, .Name x₂ px₂] tk tp, iter, [ct], 0⟩] scope pos) env) Q E s := by
  rw [eval_ListComp]
  refine wpAny_comprehension_free (use := none) rfl hs hclos hkind hnames (wpAny_mono h (fun xv s₁ h₁ => ?_) fun _ _ e => e)
  obtain ⟨ax, news, K, nums, f, rfl, hh, F, N, ⟨vals, n, hm, r⟩, hK, hl, turn, fin⟩ := h₁
  have hli : s₁.heap.IsList ax vals.toArray := ⟨_, (N _ hm).1, rfl, n, rfl⟩
  refine wpAny_pyIter_list hli ?_
  have up : ∀ b o, s₁.heap.get? b = some o → (s₁.heap.push { cls := .type "list_iterator", data := .fields #[.ref ax, .int 0 0] }).get? b = some o := fun b o e => Heap.get?_push_of_some _ e
  refine block_T hh hl hcell hkind hx hx₂ hxx hk hxl hd ⟨_, Heap.get?_push_size _ rfl, rfl, rfl⟩ ?_ hm r hK (F.keeps up) (N.grown up) (Nat.ne_of_lt F.ns.lt) (next_is_new F) (fun p hp => Nat.ne_of_lt (Heap.lt_size (N p hp).1)) (turn _) ?_
  · show s₁.heap.objs.size < (s₁.heap.push _).objs.size
    rw [Heap.size_push]; exact Nat.lt_succ_self _
  · intro D C h tk m' lt e F' N' hn hC₀ hCL hCD offC
    refine ⟨m', hn, fun h'' hs'' => fin D h'' tk lt e (F'.change hs'' hCL hC₀) (fun p hp => ?_)⟩
    refine ⟨hs''.extBut _ _ ?_ (N' p hp).1, (N' p hp).2⟩
    rcases List.mem_cons.mp hp with rfl | hp
    · exact Ne.symm hCD
    · exact offC p hp
end
end Mine
end
section
local macro_rules | `(tactic| walk_at "pad") => `(tactic| fail)
local macro_rules | `(tactic| walk_at "pad") => `(tactic| fail)
local macro_rules | `(tactic| walk_at "pad") => `(tactic| fail)
theorem Mine.reset_T9 : True := by w_top off; trivial
open PySem PySem.W PyProof.Rows PySem.Calls PySem.Spec
set_option Elab.async false
set_option maxRecDepth 100000
set_option linter.unusedSimpArgs false
set_option linter.unusedVariables false
namespace Mine
open PyProof.Rows.LCg PyProof.Rows.LCp
theorem fillT9 : (PySem.Challenge.rw_ci0037_01, Mine.hd.heap_39) = (PySem.Challenge.rw_ci0037_01, Mine.hd.heap_39) := by k_fill; rfl
def badT (p : Str × Int) : Bool := (p.1 == T "02") || (p.1 == T "007")
def TestP (h₀ : Heap) (L : Addr) (m : Str → Option Value) (led : List (Addr × Obj)) (f : Bool) (s : Shared) (b : Bool) (s' : Shared) : Prop := b = f ∧ ∃ h' tk', s' = { s with heap := h', toks := tk' } ∧ Fr h₀ L h' m ∧ News h₀ L h' led
theorem TestP.intro {h₀ h' : Heap} {L : Addr} {m : Str → Option Value} {led : List (Addr × Obj)} {q : Addr × Obj} {f b : Bool} {s : Shared} {tk : Nat} (e : b = f) (F : Fr h₀ L h' m) (N : News h₀ L h' (q :: led)) : TestP h₀ L m led f s b { s with heap := h', toks := tk } := ⟨e, h', tk, rfl, F, fun p hp => N p (.tail _ hp)⟩
theorem bad_any (p : Str × Int) : ([Str.ofString "02", Str.ofString "007"].any fun x => x == p.1) = badT p := by
  unfold badT
  simp only [List.any_cons, List.any_nil, Bool.or_false]
  rw [BEq.comm, BEq.comm (a := Str.ofString "007")]
def vO (nums : List (Str × Int)) (w : Str) : Bool := decide (nums.length = 3) && (([Str.ofString "", Str.ofString "-2"].any fun x => x == w) && (nums.filter badT).isEmpty)
theorem vo_list {vb : Bool} {nums : List (Str × Int)} {w : Str} {lt : List (Str × Tok)} (h : vb = vO nums w) (a : (nums.length : Int) = 3) (b : ([Str.ofString "", Str.ofString "-2"].any fun x => x == w) = true) (e : lt.map (·.1) = (nums.filter badT).map (·.1)) : vb = (strVals lt).isEmpty := by
  have e2 : (strVals lt).isEmpty = (nums.filter badT).isEmpty := by
    have := congrArg List.isEmpty e
    simpa [strVals] using this
  rw [h, e2, vO, b, decide_eq_true (by omega)]; rfl
theorem vo_word {vb : Bool} {nums : List (Str × Int)} {w : Str} (h : vb = vO nums w) (b : ([Str.ofString "", Str.ofString "-2"].any fun x => x == w) = false) : vb = ([Str.ofString "", Str.ofString "-2"].any fun x => x == w) := by
  rw [h, vO, b]; simp
theorem vo_len {vb : Bool} {nums : List (Str × Int)} {w : Str} (h : vb = vO nums w) (a : (nums.length : Int) ≠ 3) : vb = ((nums.length : Int) == 3) := by
  have e : ((nums.length : Int) == 3) = false := beq_eq_false_iff_ne.mpr a
  rw [h, vO, e, decide_eq_false (by omega)]; rfl
theorem bne_no {a b : Bool} (h : a = b) (h2 : (a != b) = true) : False := by rw [h] at h2; simp at h2
theorem eq_empty {vs : List Value} {led : List (Addr × Obj)} {a b : Addr} {n k : Nat} (m1 : (a, W.listOf (List.toArray vs) n) ∈ led) (m2 : (b, W.listOf #[] k) ∈ led) : Rc .Eq (.ref a) (.ref b) led 20 vs.isEmpty := by
  cases vs with
  | nil => exact Rc.mono (lst_eq (xs := []) (ys := []) (u := 10) m1 m2 (LexAt.nilL (op := .Eq) [])) (fun _ h => h) (by omega)
  | cons x xs => exact Rc.mono (lst_eq (xs := x :: xs) (ys := []) (u := 10) m1 m2 (LexAt.nilR (op := .Eq) x xs)) (fun _ h => h) (by omega)
theorem srcT_bad {w : World} {A : Around} {h₀ : Heap} {L : Addr} {m : Str → Option Value} {env : Env} {x x₂ : Str} {scope : Scope} {cl : List (Str × Addr)} {news K : List (Addr × Obj)} {nums : List (Str × Int)} {ax : Addr} {ct : Expr} {Q : Value → Shared → Prop} {s₁ : Shared} (hh : A.handled = none) (F : Fr h₀ L s₁.heap m) (N : News h₀ L s₁.heap news) (H : NumsIn news K ax nums) (hK : ∀ q ∈ K, q ∈ news) (hl : nums.length ≤ 100)
    (h : (∀ g (p : Str × Int) (t u : Tok) C oC m₂ led h tk (E' : Value → Shared → Prop), p ∈ nums → NsObj oC m₂ → m₂ x = some (.str p.1 t) → m₂ x₂ = some (.int p.2 u) → Fr h₀ L h m → News h₀ L h ((C, oC) :: led) →
      wpAny (model PR w) A (isTrue ct (compEnvC scope cl C env) (eval ct (compEnvC scope cl C env))) (TestP h₀ L m ((C, oC) :: led) (badT p) { s₁ with heap := g }) E' { ({ s₁ with heap := g } : Shared) with heap := h, toks := tk }) ∧
    ∀ D h tk (lt : List (Str × Tok)), lt.map (·.1) = (nums.filter badT).map (·.1) → Fr h₀ L h m → News h₀ L h ((D, lst (strVals lt)) :: news) → Q (.ref D) { s₁ with heap := h, toks := tk }) :
    SrcT w A h₀ L m env ct x x₂ scope cl Q (.ref ax) s₁ :=
  SrcT.intro badT hh F N H hK hl ⟨fun g p t u C oC m₂ led hp tk E' a b c d e f => h.1 g p t u C oC m₂ led hp tk E' a b c d e f, h.2⟩
local macro_rules | `(tactic| walk_at "call builtin:len") => `(tactic| (k_here; (with_reducible show wpAny _ _ (call (Value.builtin "len") [Value.ref _]) _ _ _); k_dflt (refine' nums_len ?N ?nA9 ?nz9 ?_; (case N => k_asm); (case nA9 => with_reducible assumption); (case nz9 => omega)); (try dsimp only)))
local macro_rules | `(tactic| walk_at "call ref") => `(tactic| (k_here; (with_reducible show wpAny _ _ (call (Value.ref 406) _ _) _ _ _); k_dflt (refine' validate_at ?O ?B ?F ?X ?N ?T ?kk ?hd ?hu ?_; (case O => with_reducible assumption); (case B => k_asm); (case F => k_asm); (case X => k_asm); (case N => k_asm); (case T => k_asm); (case kk => exact rfl); (case hd => ktr_room); (case hu => ktr_units)); intro h9 tk9 F9 N9; (try dsimp only)))
local macro_rules | `(tactic| walk_at "eval ListComp") => `(tactic| (k_here; k_dflt (refine' ListComp_T ?F ?a1 ?a2 ?a3 ?a4 ?a5 ?a6 ?a7 ?a8 ?a9 ?b1 ?_ ?b2; (case F => k_asm); (case a1 => with_unfolding_all rfl); (case a2 => decide); (case a3 => rfl); (case a4 => decide); (case a5 => rfl); (case a6 => rfl); (case a7 => decide); (case a8 => intro _; exact rfl); (case a9 => intro _; exact rfl); (case b1 => decide); (case b2 => intro _; exact rfl); k_whole)))
local macro_rules | `(tactic| walk_at "TestP") => `(tactic| k_dflt (refine' TestP.intro (bad_any _) ?F ?N; (case F => k_asm); (case N => k_asm)))
local macro_rules | `(tactic| walk_at "compareOp Eq ref ref") => `(tactic| (k_here; k_dflt (refine' cmp_eq (eq_empty ?m1 ?m2) ?hh ?hr ?hu ?F ?X ?T ?N (fun _ h => h) ?_; (case F => k_asm); (case X => k_asm); (case T => k_asm); (case N => k_asm); (case m1 => k_mem); (case m2 => k_mem); (case hh => exact rfl); (case hr => ktr_room); (case hu => ktr_units)); intro h9 tk9 F9 N9; (try dsimp only)))
local macro_rules | `(tactic| walk_at "SrcT") => `(tactic| (k_here; k_dflt (refine' srcT_bad ?hh ?F ?N ?H ?hK ?hl ?_; (case hh => exact rfl); (case F => k_asm); (case N => k_asm); (case H => exact NumsIn.up (by with_reducible assumption) (by with_reducible assumption) (by intro q9 hq9; (repeat' (first | exact hq9 | refine List.Mem.tail _ ?_)))); (case hK => exact fun _ h => h); (case hl => omega); k_whole; (refine And.intro ?_ ?_) <;> first
     | (intro g9 p9 t9 u9 C9 oC9 m9 led9 h9 tk9 E9 hp9 hC9 hx9 hy9 F9 N9; (try dsimp only))
     | (intro D9 h9 tk9 lt9 e9 F9 N9; (try dsimp only)))))
set_option pp.deepTerms false in
set_option pp.deepTerms.threshold 5 in
set_option maxHeartbeats 4000000 in
theorem t9 {w : World} {loose : List Str} {mean : ExcName → Option Value} {mg mb : Str → Option Value} {h₀ : Heap} {s : Shared} {L na : Addr} {m : Str → Option Value} {led K : List (Addr × Obj)} {nums : List (Str × Int)} {x xw : Str} {tx tw : Tok} {vb : Bool} {E : Value → Shared → Prop}
    (X : (Mine.hd.heap_39 w.params).In h₀) (T : Top topProg loose mean mg mb h₀) (F : Fr h₀ L s.heap m) (N : News h₀ L s.heap led) (hB : Below callerA h₀ [] h₀)
    (V : Vars m [(Mine.T "whole", .str x tx), (Mine.T "numbers", .ref na), (Mine.T "word", .str xw tw)]) (H : NumsIn led K na nums) (hK : ∀ q ∈ K, q ∈ led) (hn : nums.length ≤ 6) (Vk : ValOk x vb) (hv : vb = vO nums xw) (hxw : xw.length ≤ 100) :
    wpAny (model PR w) (lawA L) (exec (st2 8) (lawEnv L)) (KeepPost h₀ L m led s) E s := by
  have F1 := V.look F
  clear F
  conv in st2 8 => whnf
  unfold lawA lawEnv
  conv in (occs := *) lawScope => all_goals whnf
  simp only [over] at F1
  k_steps
  all_goals first
    | exact KeepPost.intro V (by assumption) (by assumption) (fun q hq => by (repeat' (first | exact hq | refine List.Mem.tail _ ?_)))
    | exact (bne_no (vo_list hv (by assumption) (by assumption) (by assumption)) (by assumption)).elim
    | exact (bne_no (vo_word hv (by assumption)) (by assumption)).elim
    | exact (bne_no (vo_len hv (by assumption)) (by assumption)).elim
end Mine
end
section
open PySem PySem.W PyProof.Rows PySem.Calls PySem.Spec PySem.Builtin PySem.Builtin.Str
set_option Elab.async false
set_option maxRecDepth 100000
set_option linter.unusedSimpArgs false
set_option linter.unusedVariables false
namespace Mine
theorem glue_last {c : Nat} {z : List Nat} : ∀ {l : List (List Nat)} {a : List Nat}, glue c (l ++ [a]) ++ z = glue c (l ++ [a ++ z]) := by
  intro l
  induction l with
  | nil => intro a; rfl
  | cons b r ih =>
    intro a
    have h1 : r ++ [a] ≠ [] := by simp
    have h2 : r ++ [a ++ z] ≠ [] := by simp
    rw [List.cons_append, List.cons_append, glue_cons h1, glue_cons h2, ← ih]
    simp
theorem item0 {x : Str} {c : Nat} {l : List Nat} (e : co x = c :: l) : Txt.item x 0 = ⟨#[c]⟩ := by
  have h : 0 < x.length := by rw [co_len, e]; simp
  have := charAt_nat (x := x) (p := 0) h
  rw [show ((0 : Nat) : Int) = 0 from rfl] at this
  rw [this]
  congr 2
  have e2 : x.cps.toList = c :: l := e
  simp [e2]
theorem mk_beq {c d : Nat} : ((⟨#[c]⟩ : Str) == ⟨#[d]⟩) = decide (c = d) := by
  rw [str_beq]
  show decide ([c] = [d]) = _
  simp
/-- the rest behind further numbers -/
theorem rest_dot {r b v2 y : Str} (e : co r = 46 :: co b) (hn : 43 ∉ co b) (h0 : co b ≠ []) (hl : (co b).length ≤ 5000) (hy : Str.empty ++ v2 ++ Str.ofString "+" ++ b = y) : RestCase r v2 y := by
  have es : Txt.slice r (some 1) none = b := co_ext (sl_from (a := [46]) (b := co b) (by rw [e]; rfl) rfl)
  have lb := pos_of h0
  refine .dot b ?_ ?_ ?_ (by rw [co_len]; exact lb) (by rw [co_len]; omega) hy
  · rw [item0 e, plus_eq, mk_beq]; decide
  · rw [item0 e, dot_eq, mk_beq]; decide
  · rw [es, plus_eq]; exact replace_none hn
theorem rest_plus {r b v2 y : Str} (e : co r = 43 :: co b) (hn : 43 ∉ co b) (h0 : co b ≠ []) (hl : (co b).length ≤ 5000) (hy : Str.empty ++ v2 ++ Str.ofString "+" ++ b = y) : RestCase r v2 y := by
  have es : Txt.slice r (some 1) none = b := co_ext (sl_from (a := [43]) (b := co b) (by rw [e]; rfl) rfl)
  have lb := pos_of h0
  refine .plus b ?_ ?_ (by rw [co_len]; exact lb) (by rw [co_len]; omega) hy
  · rw [item0 e, plus_eq, mk_beq]; decide
  · rw [es, plus_eq]; exact replace_none hn
theorem word_gS : ∀ w ∈ WORDS, co (Txt.join (T "") ((co w).map gS)) = co (tailW w) ∧ (co (tailW w)).length ≤ 10 ∧ 10 ∉ co w := by decide +kernel
theorem idt_ok : ∀ p ∈ MENU, ∀ w ∈ WORDS, (0 < (co (p.1 ++ tailW w)).length ∧ (co (p.1 ++ tailW w)).length ≤ 100) ∧ (∀ k ∈ co (p.1 ++ tailW w), k ∈ co SG) ∧ 46 ∉ co (p.1 ++ tailW w) ∧ (Txt.isdigit (p.1 ++ tailW w) = true → PySem.intText? (p.1 ++ tailW w) = some p.2) := by decide +kernel
theorem idt_raw : ∀ p ∈ MENU, (0 < (co p.1).length ∧ (co p.1).length ≤ 100) ∧ (∀ k ∈ co p.1, k ∈ co SG) ∧ 46 ∉ co p.1 ∧ PySem.intText? p.1 = some p.2 := by decide +kernel
/-- the further numbers of a row, the last one with its word -/
def bigB (mid : List (Str × Int)) (last : Str × Int) (w : Str) : List Str := mid.map (·.1) ++ [last.1 ++ tailW w]
theorem bigB_PG {mid : List (Str × Int)} {last : Str × Int} {w : Str} (hm : ∀ p ∈ mid, p ∈ MENU) (hl : last ∈ MENU) (hw : w ∈ WORDS) (hn : mid.length ≤ 5) : PG true (bigB mid last w) := by
  refine ⟨by unfold bigB; simp; omega, fun y hy => ?_⟩
  rcases List.mem_append.mp hy with hy | hy
  · obtain ⟨p, hp, rfl⟩ := List.mem_map.mp hy
    obtain ⟨a, b, c, d⟩ := idt_raw p (hm p hp)
    exact ⟨a, fun h => (by cases h), b, c, fun _ => ⟨_, d⟩⟩
  · rw [List.mem_singleton.mp hy]
    obtain ⟨a, b, c, d⟩ := idt_ok last hl w hw
    exact ⟨a, fun h => (by cases h), b, c, fun h => ⟨_, d h⟩⟩
theorem bigB_co {mid : List (Str × Int)} {last : Str × Int} {w : Str} : co (Txt.join (T ".") (bigB mid last w)) = glue 46 ((mid ++ [last]).map fun p => co p.1) ++ co (tailW w) := by
  rw [join_co]
  unfold bigB
  rw [List.map_append, List.map_append, List.map_cons, List.map_nil, List.map_cons, List.map_nil, glue_last, co_app, List.map_map]
  rfl
theorem bld_val (t : Str) (B : List Str) (h : B ≠ []) : Str.empty ++ t ++ Str.ofString "+" ++ Txt.join (T ".") B = withBld (withPre t []) B := by
  unfold withBld withPre; rw [if_neg h, if_pos rfl]
theorem sg_digit : ∀ c ∈ ([48, 49, 50, 51, 52, 53, 54, 55, 56, 57, 46] : List Nat), c ∈ co SG := by decide +kernel
theorem glue_signs {l : List (Str × Int)} (h : ∀ p ∈ l, p ∈ MENU) : ∀ k ∈ glue 46 (l.map fun p => co p.1), k ∈ co SG := fun k hk => by
  rcases glue_mem hk with rfl | ⟨q, hq, hk⟩
  · exact sg_digit _ (by decide)
  · obtain ⟨p, hp, rfl⟩ := List.mem_map.mp hq
    exact (idt_raw p (h p hp)).2.1 k hk
/-- more than three numbers -/
theorem long_co {x w : Str} {p1 p2 p3 last : Str × Int} {mid : List (Str × Int)} (h1 : p1 ∈ MENU) (h2 : p2 ∈ MENU) (h3 : p3 ∈ MENU) (hm : ∀ p ∈ mid, p ∈ MENU) (hl : last ∈ MENU) (hn : mid.length ≤ 5) (hw : w ∈ WORDS)
    (e : co x = co p1.1 ++ 46 :: (co p2.1 ++ 46 :: (co p3.1 ++ 46 :: (glue 46 ((mid ++ [last]).map fun p => co p.1) ++ co w)))) (hx : x.length < 10000) :
    CoOk x (verText p1.2 p2.2 p3.2 [] (bigB mid last w)) p1.2 p2.2 p3.2 := by
  have N1 := NumT.of h1
  have N2 := NumT.of h2
  have N3 := NumT.of h3
  have GB := bigB_PG hm hl hw hn
  have hB : bigB mid last w ≠ [] := by unfold bigB; simp
  have hb0 := GB.ne hB
  have hbl := GB.lt
  obtain ⟨w1, w2, w3⟩ := word_gS w hw
  have hall : ∀ p ∈ mid ++ [last], p ∈ MENU := fun p hp => (List.mem_append.mp hp).elim (hm p) fun hp => (List.mem_singleton.mp hp) ▸ hl
  have b := base3 N1 N2 N3 (R := 46 :: (glue 46 ((mid ++ [last]).map fun p => co p.1) ++ co w)) e (.cons (by decide))
  have er : Txt.join (T "") ((46 :: (glue 46 ((mid ++ [last]).map fun p => co p.1) ++ co w)).map gS) = ⟨(46 :: co (Txt.join (T ".") (bigB mid last w))).toArray⟩ := by
    refine co_ext (Eq.trans ?_ (co_mk _).symm)
    rw [bigB_co]
    rw [show (46 :: (glue 46 ((mid ++ [last]).map fun p => co p.1) ++ co w)) = (46 :: glue 46 ((mid ++ [last]).map fun p => co p.1)) ++ co w from rfl, List.map_append, co_join0, List.map_append, List.flatten_append, ← co_join0, ← co_join0, w1, map_keep]
    · rfl
    · intro k hk
      rcases List.mem_cons.mp hk with rfl | hk
      · exact .inl (sg_digit _ (by decide))
      · exact .inl (glue_signs hall k hk)
  refine ⟨hx, ⟨_, b⟩, ?_, abc_len N1 N2 N3⟩
  have l2 : (co (Txt.join (T ".") (bigB mid last w))).length ≤ 5000 := by omega
  have lR : (46 :: (glue 46 ((mid ++ [last]).map fun p => co p.1) ++ co w)).length ≤ 9000 := by
    have q1 : (co x).length < 10000 := by rw [← co_len]; exact hx
    have q2 := glue_len (c := 46) (n := 100) (l := (mid ++ [last]).map fun p => co p.1) fun q hq => by
      obtain ⟨p, hp, rfl⟩ := List.mem_map.mp hq
      exact (idt_raw p (hall p hp)).1.2
    have q3 : (co w).length ≤ 10 := by
      have : ∀ w ∈ WORDS, (co w).length ≤ 10 := by decide +kernel
      exact this w hw
    rw [List.length_map, List.length_append, List.length_singleton] at q2
    rw [List.length_cons, List.length_append]
    omega
  refine end_more b (by simp) lR er (by rw [co_mk]; simp) (by rw [co_mk, List.length_cons]; omega) (rest_dot (b := Txt.join (T ".") (bigB mid last w)) (co_mk _) (fun hm => (sg_small _ (GB.signs _ hm)).2.2 rfl) hb0 l2 (bld_val _ _ hB))
theorem long_again {w : Str} {p1 p2 p3 last : Str × Int} {mid : List (Str × Int)} (h1 : p1 ∈ MENU) (h2 : p2 ∈ MENU) (h3 : p3 ∈ MENU) (hm : ∀ p ∈ mid, p ∈ MENU) (hl : last ∈ MENU) (hn : mid.length ≤ 5) (hw : w ∈ WORDS) :
    CoOk (verText p1.2 p2.2 p3.2 [] (bigB mid last w)) (verText p1.2 p2.2 p3.2 [] (bigB mid last w)) p1.2 p2.2 p3.2 := by
  have N1 := NumT.dec h1
  have N2 := NumT.dec h2
  have N3 := NumT.dec h3
  have GB := bigB_PG hm hl hw hn
  have hB : bigB mid last w ≠ [] := by unfold bigB; simp
  have hb0 := GB.ne hB
  have hbl := GB.lt
  have e := co_verText p1.2 p2.2 p3.2 [] (bigB mid last w)
  have b := base3 N1 N2 N3 e tail_sign.1
  have et : tailOf (optJ []) (optJ (bigB mid last w)) = 43 :: co (Txt.join (T ".") (bigB mid last w)) := by rw [optJ_nil, optJ_ne hB]; rfl
  rw [et] at b e
  have l2 : (co (Txt.join (T ".") (bigB mid last w))).length ≤ 5000 := by omega
  have a1 := N1.len
  have a2 := N2.len
  have a3 := N3.len
  refine ⟨by rw [co_len, e]; simp only [List.length_append, List.length_cons]; omega, ⟨_, b⟩, ?_, abc_len N1 N2 N3⟩
  have er : Txt.join (T "") ((43 :: co (Txt.join (T ".") (bigB mid last w))).map gS) = ⟨(43 :: co (Txt.join (T ".") (bigB mid last w))).toArray⟩ := by
    refine co_ext (Eq.trans ?_ (co_mk _).symm)
    rw [map_keep]
    intro k hk
    rcases List.mem_cons.mp hk with rfl | hk
    · exact .inr rfl
    · exact .inl (GB.signs k hk)
  exact end_more b (by simp) (by rw [List.length_cons]; omega) er (by rw [co_mk]; simp) (by rw [co_mk, List.length_cons]; omega) (rest_plus (b := Txt.join (T ".") (bigB mid last w)) (co_mk _) (fun hm => (sg_small _ (GB.signs _ hm)).2.2 rfl) hb0 l2 (bld_val _ _ hB))
end Mine
end
section
open PySem PySem.W PyProof.Rows PySem.Calls PySem.Spec PySem.Builtin PySem.Builtin.Str
set_option Elab.async false
set_option maxRecDepth 100000
set_option linter.unusedSimpArgs false
set_option linter.unusedVariables false
namespace Mine
abbrev wholeT (nums : List (Str × Int)) (w u : Str) : Str := Txt.join (T ".") (nums.map (·.1)) ++ w ++ u
abbrev yT (nums : List (Str × Int)) (w u : Str) (v1 v2 v3 : Int) : Str := verText v1 v2 v3 (preO nums w) (bldO nums w u)
structure RowF (nums : List (Str × Int)) (w u : Str) (v1 v2 v3 : Int) : Prop where
  t3 : three3 nums = [v1, v2, v3]
  c1 : CoOk (wholeT nums w u) (yT nums w u v1 v2 v3) v1 v2 v3
  c2 : CoOk (yT nums w u v1 v2 v3) (yT nums w u v1 v2 v3) v1 v2 v3
  ok : POK (yT nums w u v1 v2 v3) (D v1) (D v2) (D v3) (optJ (preO nums w)) (optJ (bldO nums w u)) v1 v2 v3
  gp : PG false (preO nums w)
  gb : PG true (bldO nums w u)
  val : ValOk (wholeT nums w u) (vO nums w)
  nt : ∃ t1 t2 t3, NumT t1 v1 ∧ NumT t2 v2 ∧ NumT t3 v3
theorem co_whole (nums : List (Str × Int)) (w u : Str) : co (wholeT nums w u) = glue 46 (nums.map fun p => co p.1) ++ co (w ++ u) := by
  show co (Txt.join (T ".") (nums.map (·.1)) ++ w ++ u) = _
  rw [Str.append_assoc, co_app, join_co, List.map_map]
  rfl
theorem whole_len {nums : List (Str × Int)} {w u : Str} (h : ∀ p ∈ nums, p ∈ MENU) (hn : nums.length ≤ 6) (hw : w ∈ WORDS) (hu : u ∈ PLUS) : (wholeT nums w u).length < 10000 := by
  have h1 := glue_len (c := 46) (n := 100) (l := nums.map fun p => co p.1) fun q hq => by
    obtain ⟨p, hp, rfl⟩ := List.mem_map.mp hq
    exact (idt_raw p (h p hp)).1.2
  have h2 := (tab_facts w hw u hu).2.2.1
  rw [List.length_map] at h1
  rw [co_len, co_whole, List.length_append]
  omega
theorem whole_nl {nums : List (Str × Int)} {w u : Str} (h : ∀ p ∈ nums, p ∈ MENU) (hw : w ∈ WORDS) (hu : u ∈ PLUS) : 10 ∉ co (wholeT nums w u) := by
  rw [co_whole, List.mem_append, not_or]
  exact ⟨fun hk => (sg_small _ (glue_signs h _ hk)).2.1 rfl, (tab_facts w hw u hu).2.2.2.2⟩
theorem words_plus {w : Str} (hw : w ∈ WORDS) : w ∈ WORDS ++ PLUS := List.mem_append_left _ hw
theorem plus_words {w : Str} (hw : w ∈ PLUS) : w ∈ WORDS ++ PLUS := List.mem_append_right _ hw
theorem head_dig {w u : Str} (hw : w ∈ WORDS) (hu : u ∈ PLUS) : NoHead dig (co (w ++ u)) := noHead_take fun c hc => (tab_head w hw u hu c hc).1
theorem head_dot {w u : Str} (hw : w ∈ WORDS) (hu : u ∈ PLUS) : NoHead (· = 46) (co (w ++ u)) := noHead_take fun c hc => (tab_head w hw u hu c hc).2
theorem preO_short {nums : List (Str × Int)} {w : Str} (h : nums.length ≤ 3) : preO nums w = preW w := by unfold preO preW; rw [if_neg (by omega)]
theorem bldO_short {nums : List (Str × Int)} {w u : Str} (h : nums.length ≤ 3) : bldO nums w u = preW u := by unfold bldO preW; rw [if_neg (by omega)]
theorem row_short {nums : List (Str × Int)} {w u : Str} {t1 t2 t3 : Str} {v1 v2 v3 : Int} (h : nums.length ≤ 3) (ht : three3 nums = [v1, v2, v3]) (hm : ∀ p ∈ nums, p ∈ MENU) (hw : w ∈ WORDS) (hu : u ∈ PLUS) (h1 : NumT t1 v1) (h2 : NumT t2 v2) (h3 : NumT t3 v3) (h1' : NumT (D v1) v1) (h2' : NumT (D v2) v2) (h3' : NumT (D v3) v3)
    (b : BaseOk (wholeT nums w u) (co (w ++ u)) v1 v2 v3) (val : ValOk (wholeT nums w u) (vO nums w)) : RowF nums w u v1 v2 v3 := by
  have hp := preO_short (w := w) h
  have hb := bldO_short (w := w) (u := u) h
  have GP := preW_PG (words_plus hw) false
  have GB := preW_PG (plus_words hu) true
  refine ⟨ht, ?_, ?_, ?_, ?_, ?_, val, t1, t2, t3, h1, h2, h3⟩
  · show CoOk _ (verText _ _ _ (preO nums w) (bldO nums w u)) _ _ _
    rw [hp, hb]; exact short_co hw hu h1 h2 h3 (whole_len hm (by omega) hw hu) b
  · show CoOk (verText _ _ _ (preO nums w) (bldO nums w u)) (verText _ _ _ (preO nums w) (bldO nums w u)) _ _ _
    rw [hp, hb]; exact short_again hw hu h1 h2 h3 h1' h2' h3'
  · show POK (verText _ _ _ (preO nums w) (bldO nums w u)) _ _ _ _ _ _ _ _
    rw [hp, hb]; exact pok_text h1 h2 h3 GP GB (co_verText _ _ _ _ _)
  · rw [hp]; exact GP
  · rw [hb]; exact GB
theorem numT_D0 : NumT (D 0) 0 := NumT.dec (p := (T "0", 0)) (by decide)
theorem vO_len {nums : List (Str × Int)} {w : Str} (h : nums.length ≠ 3) : vO nums w = false := by
  unfold vO; rw [decide_eq_false h]; rfl
theorem val_no {nums : List (Str × Int)} {w u : Str} (h : nums.length ≠ 3) (h0 : nums ≠ []) (hn : nums.length ≤ 6) (hm : ∀ p ∈ nums, p ∈ MENU) (hw : w ∈ WORDS) (hu : u ∈ PLUS) (v : VG (wholeT nums w u) = none) : ValOk (wholeT nums w u) (vO nums w) := by
  rw [vO_len h]
  refine .no ?_ (whole_len hm hn hw hu) (nl_ok (whole_nl hm hw hu)) v
  rw [co_len, co_whole, List.length_append]
  cases nums with
  | nil => exact absurd rfl h0
  | cons a r =>
    have : glue 46 ((a :: r).map fun p => co p.1) ≠ [] := glue_ne (menu_dig a (hm a (.head _))).2.1
    have := pos_of this
    omega
theorem bad_lz {p : Str × Int} (h : p ∈ MENU) : lz p.1 = badT p := by
  rw [(menu_lz p h).2]
  unfold badT
  rw [Bool.eq_iff_iff, decide_eq_true_eq, Bool.or_eq_true, beq_iff_eq, beq_iff_eq]
theorem word_any : ∀ w ∈ WORDS, ([Str.ofString "", Str.ofString "-2"].any fun x => x == w) = decide (w = T "" ∨ w = T "-2") := by decide +kernel
theorem tail_plain : ∀ w ∈ WORDS, (w = T "" ∨ w = T "-2") → ∀ u ∈ PLUS, co (w ++ u) = tailOf (optJ (preW w)) (optJ (preW u)) := by decide +kernel
theorem tail_odd : ∀ w ∈ WORDS, ¬ (w = T "" ∨ w = T "-2") → ∀ u ∈ PLUS, co (w ++ u) ≠ [] ∧ ∀ c ∈ (co (w ++ u)).take 1, ¬ c = 45 ∧ ¬ c = 43 := by decide +kernel
theorem val_three {a b c : Str × Int} {w u : Str} (ha : a ∈ MENU) (hb : b ∈ MENU) (hc : c ∈ MENU) (hw : w ∈ WORDS) (hu : u ∈ PLUS) : ValOk (wholeT [a, b, c] w u) (vO [a, b, c] w) := by
  have hm : ∀ p ∈ [a, b, c], p ∈ MENU := fun p hp => by
    simp only [List.mem_cons, List.not_mem_nil, or_false] at hp
    rcases hp with rfl | rfl | rfl <;> assumption
  have N1 := NumT.of ha
  have N2 := NumT.of hb
  have N3 := NumT.of hc
  have x1 := whole_len hm (by simp) hw hu
  have nl := nl_ok (whole_nl hm hw hu)
  have e : co (wholeT [a, b, c] w u) = co a.1 ++ 46 :: (co b.1 ++ 46 :: (co c.1 ++ co (w ++ u))) := by rw [co_whole]; simp [glue]
  have x0 : 0 < (wholeT [a, b, c] w u).length := by
    rw [co_len, e]
    have := pos_of N1.ne
    simp only [List.length_append]; omega
  by_cases hwd : w = T "" ∨ w = T "-2"
  · have ea : vO [a, b, c] w = ([a, b, c].filter badT).isEmpty := by
      unfold vO
      rw [word_any w hw, decide_eq_true hwd]; rfl
    have et := tail_plain w hw hwd u hu
    have hv : VG (wholeT [a, b, c] w u) = some (a.1, b.1, c.1, optJ (preW w), optJ (preW u)) :=
      vg_val (by rw [e, et]) N1.ne N1.dig N2.ne N2.dig N3.ne N3.dig (optJ_signs (preW_PG (words_plus hw) false)) (optJ_signs (preW_PG (plus_words hu) true))
    have la : 0 < a.1.length ∧ a.1.length < 10000 := by have := pos_of N1.ne; have := N1.len; rw [co_len]; omega
    have lb : 0 < b.1.length ∧ b.1.length < 10000 := by have := pos_of N2.ne; have := N2.len; rw [co_len]; omega
    have lc : 0 < c.1.length ∧ c.1.length < 10000 := by have := pos_of N3.ne; have := N3.len; rw [co_len]; omega
    rw [ea]
    cases za : badT a with
    | true =>
      rw [show ([a, b, c].filter badT).isEmpty = false by simp [List.filter_cons, za]]
      exact .lza x0 x1 nl hv la (by rw [bad_lz ha]; exact za)
    | false =>
      cases zb : badT b with
      | true =>
        rw [show ([a, b, c].filter badT).isEmpty = false by simp [List.filter_cons, za, zb]]
        exact .lzb x0 x1 nl hv la (by rw [bad_lz ha]; exact za) lb (by rw [bad_lz hb]; exact zb)
      | false =>
        cases zc : badT c with
        | true =>
          rw [show ([a, b, c].filter badT).isEmpty = false by simp [List.filter_cons, za, zb, zc]]
          exact .lzc x0 x1 nl hv la (by rw [bad_lz ha]; exact za) lb (by rw [bad_lz hb]; exact zb) lc (by rw [bad_lz hc]; exact zc)
        | false =>
          rw [show ([a, b, c].filter badT).isEmpty = true by simp [List.filter_cons, za, zb, zc]]
          have ea := menu_raw a ha (by rw [bad_lz ha]; exact za)
          have eb := menu_raw b hb (by rw [bad_lz hb]; exact zb)
          have ec := menu_raw c hc (by rw [bad_lz hc]; exact zc)
          refine .yes (pok_text (P := preW w) (B := preW u) N1 N2 N3 (preW_PG (words_plus hw) false) (preW_PG (plus_words hu) true) ?_)
          rw [e, et, ← ea, ← eb, ← ec]
  · have ea : vO [a, b, c] w = false := by
      unfold vO
      rw [word_any w hw, decide_eq_false hwd]; rfl
    rw [ea]
    obtain ⟨t1, t2⟩ := tail_odd w hw hwd u hu
    exact .no x0 x1 nl (vg_bad3 e N1.ne N1.dig N2.ne N2.dig N3.ne N3.dig t1 (head_dig hw hu) (noHead_take fun c hc => (t2 c hc).1) (noHead_take fun c hc => (t2 c hc).2))
theorem mid_long {a b c : Str × Int} {mid : List (Str × Int)} {last : Str × Int} : midN (a :: b :: c :: (mid ++ [last])) = mid ∧ lastN (a :: b :: c :: (mid ++ [last])) = last := by
  constructor
  · unfold midN pickL
    have hl : (a :: b :: c :: (mid ++ [last])).length = mid.length + 4 := by simp
    have e1 : kms_lo (some 3) (a :: b :: c :: (mid ++ [last])).length = 3 := by
      rw [hl]
      show (if (3 : Int) < 0 then (mid.length + 4) - (-3 : Int).toNat else min (3 : Int).toNat (mid.length + 4)) = 3
      rw [if_neg (by decide)]
      show min 3 (mid.length + 4) = 3
      omega
    have e2 : kms_hi (some (-1)) (a :: b :: c :: (mid ++ [last])).length = mid.length + 3 := by
      rw [hl]; rfl
    rw [e1, e2]
    simp
  · unfold lastN
    rw [show a :: b :: c :: (mid ++ [last]) = (a :: b :: c :: mid) ++ [last] from rfl, List.getLast?_concat]; rfl
theorem row_ok {nums : List (Str × Int)} {w u : Str} (G : GoodN nums) (hw : w ∈ WORDS) (hu : u ∈ PLUS) (h4 : 4 ≤ nums.length → u = T "") : ∃ v1 v2 v3, RowF nums w u v1 v2 v3 := by
  obtain ⟨g1, g2, g3⟩ := G
  match nums, g1, g2, g3, h4 with
  | [a], g1, g2, g3, h4 =>
    have ha := g3 a (.head _)
    have N1 := NumT.of ha
    have e : co (wholeT [a] w u) = co a.1 ++ co (w ++ u) := by rw [co_whole]; rfl
    exact ⟨a.2, 0, 0, row_short (by simp) rfl g3 hw hu N1 numT_zero numT_zero (NumT.dec ha) numT_D0 numT_D0 (base1 N1 e (head_dig hw hu) (head_dot hw hu))
      (val_no (by simp) (by simp) (by simp) g3 hw hu (vg_bad1 e N1.ne N1.dig (head_dig hw hu) (head_dot hw hu)))⟩
  | [a, b], g1, g2, g3, h4 =>
    have ha := g3 a (.head _)
    have hb := g3 b (.tail _ (.head _))
    have N1 := NumT.of ha
    have N2 := NumT.of hb
    have e : co (wholeT [a, b] w u) = co a.1 ++ 46 :: (co b.1 ++ co (w ++ u)) := by rw [co_whole]; simp [glue]
    exact ⟨a.2, b.2, 0, row_short (by simp) rfl g3 hw hu N1 N2 numT_zero (NumT.dec ha) (NumT.dec hb) numT_D0 (base2 N1 N2 e (head_dig hw hu) (head_dot hw hu))
      (val_no (by simp) (by simp) (by simp) g3 hw hu (vg_bad2 e N1.ne N1.dig N2.ne N2.dig (head_dig hw hu) (head_dot hw hu)))⟩
  | [a, b, c], g1, g2, g3, h4 =>
    have ha := g3 a (.head _)
    have hb := g3 b (.tail _ (.head _))
    have hc := g3 c (.tail _ (.tail _ (.head _)))
    have N1 := NumT.of ha
    have N2 := NumT.of hb
    have N3 := NumT.of hc
    have e : co (wholeT [a, b, c] w u) = co a.1 ++ 46 :: (co b.1 ++ 46 :: (co c.1 ++ co (w ++ u))) := by rw [co_whole]; simp [glue]
    exact ⟨a.2, b.2, c.2, row_short (by simp) rfl g3 hw hu N1 N2 N3 (NumT.dec ha) (NumT.dec hb) (NumT.dec hc) (base3 N1 N2 N3 e (head_dig hw hu)) (val_three ha hb hc hw hu)⟩
  | a :: b :: c :: d :: rest, g1, g2, g3, h4 =>
    have hu0 := h4 (by simp)
    subst hu0
    obtain ⟨mid, last, hd⟩ : ∃ mid last, d :: rest = mid ++ [last] := ⟨(d :: rest).dropLast, (d :: rest).getLast (by simp), (List.dropLast_concat_getLast _).symm⟩
    rw [hd] at g1 g2 g3 ⊢
    have ha := g3 a (.head _)
    have hb := g3 b (.tail _ (.head _))
    have hc := g3 c (.tail _ (.tail _ (.head _)))
    have hmid : ∀ p ∈ mid, p ∈ MENU := fun p hp => g3 p (.tail _ (.tail _ (.tail _ (List.mem_append_left _ hp))))
    have hlast : last ∈ MENU := g3 last (.tail _ (.tail _ (.tail _ (List.mem_append_right _ (.head _)))))
    have hn : mid.length ≤ 5 := by simp at g2; omega
    have hpl : T "" ∈ PLUS := by decide
    have hx := whole_len (u := T "") g3 g2 hw hpl
    obtain ⟨m1, m2⟩ := mid_long (a := a) (b := b) (c := c) (mid := mid) (last := last)
    have hlen : 3 < (a :: b :: c :: (mid ++ [last])).length := by simp
    have eP : preO (a :: b :: c :: (mid ++ [last])) w = [] := by unfold preO; rw [if_pos hlen]
    have eB : bldO (a :: b :: c :: (mid ++ [last])) w (T "") = bigB mid last w := by unfold bldO bigB; rw [if_pos hlen, m1, m2]
    have ew : co (w ++ T "") = co w := by rw [co_app, show co (T "") = [] by decide +kernel, List.append_nil]
    have e0 : co (wholeT (a :: b :: c :: (mid ++ [last])) w (T "")) = co a.1 ++ 46 :: (co b.1 ++ 46 :: (co c.1 ++ 46 :: (glue 46 ((mid ++ [last]).map fun p => co p.1) ++ co w))) := by
      rw [co_whole, ew]
      have hne : (mid ++ [last]).map (fun p => co p.1) ≠ [] := by simp
      rw [List.map_cons, List.map_cons, List.map_cons, glue_cons (by simp), glue_cons (by simp), glue_cons hne]
      simp
    have N1 := NumT.of ha
    have N2 := NumT.of hb
    have N3 := NumT.of hc
    have GB := bigB_PG hmid hlast hw hn
    refine ⟨a.2, b.2, c.2, rfl, ?_, ?_, ?_, ?_, ?_, ?_, _, _, _, N1, N2, N3⟩
    · show CoOk _ (verText _ _ _ (preO _ w) (bldO _ w _)) _ _ _
      rw [eP, eB]; exact long_co ha hb hc hmid hlast hn hw e0 hx
    · show CoOk (verText _ _ _ (preO _ w) (bldO _ w _)) (verText _ _ _ (preO _ w) (bldO _ w _)) _ _ _
      rw [eP, eB]; exact long_again ha hb hc hmid hlast hn hw
    · show POK (verText _ _ _ (preO _ w) (bldO _ w _)) _ _ _ _ _ _ _ _
      rw [eP, eB]; exact pok_text N1 N2 N3 ⟨by simp, fun _ h => by cases h⟩ GB (co_verText _ _ _ _ _)
    · rw [eP]; exact ⟨by simp, fun _ h => by cases h⟩
    · rw [eB]; exact GB
    · exact val_no (by simp) (by simp) g2 g3 hw hpl (vg_bad3 e0 N1.ne N1.dig N2.ne N2.dig N3.ne N3.dig (by simp) (.cons (by decide)) (.cons (by decide)) (.cons (by decide)))
theorem sum_le {n : Nat} : ∀ {l : List Nat}, (∀ x ∈ l, x ≤ n) → l.sum ≤ l.length * n := by
  intro l
  induction l with
  | nil => intro _; simp
  | cons a r ih =>
    intro h
    have := ih fun x hx => h x (.tail _ hx)
    have := h a (.head _)
    rw [List.sum_cons, List.length_cons, Nat.add_one_mul]; omega
theorem PG.sum {b : Bool} {P : List Str} (G : PG b P) : (P.map (·.length)).sum ≤ 10000 := by
  have h := sum_le (n := 100) (l := P.map (·.length)) fun x hx => by
    obtain ⟨y, hy, rfl⟩ := List.mem_map.mp hx
    have := (G.each y hy).1.2
    rw [co_len]; exact this
  have := G.len
  rw [List.length_map] at h
  omega
theorem RowF.so {nums : List (Str × Int)} {w u : Str} {v1 v2 v3 : Int} (R : RowF nums w u v1 v2 v3) : StrOk v1 v2 v3 (preO nums w) (bldO nums w u) := by
  obtain ⟨t1, t2, t3, n1, n2, n3⟩ := R.nt
  exact ⟨n1.v0, n1.v1, n2.v0, n2.v1, n3.v0, n3.v1, R.gp.len, R.gb.len, R.gp.sum, R.gb.sum⟩
theorem PG.str {b : Bool} {P : List Str} (G : PG b P) : ∀ x ∈ P, PyData.strOk x = true := fun x hx => by
  unfold PyData.strOk
  rw [← Array.all_toList, List.all_eq_true]
  intro c hc
  have := (sg_small c ((G.each x hx).2.2.1 c hc)).1
  simp; omega
theorem preO_one {nums : List (Str × Int)} {w : Str} : (preO nums w).length ≤ 1 := by
  unfold preO
  split
  · simp
  · split <;> simp
theorem join_ok6 {nums : List (Str × Int)} (h : ∀ p ∈ nums, p ∈ MENU) (hn : nums.length ≤ 6) : JoinOk (T ".") (nums.map (·.1)) = true := by
  have key : ∀ (l : List (Str × Int)) (a : Nat), (∀ p ∈ l, p ∈ MENU) → (l.map (·.1)).foldl (fun n s => n + s.length + (T ".").length) a ≤ a + l.length * 101 := by
    intro l
    induction l with
    | nil => intro a _; simp
    | cons p r ih =>
      intro a hp
      have e1 : (T ".").length = 1 := by decide +kernel
      have h1 := (idt_raw p (hp p (.head _))).1.2
      have h2 := ih (a + p.1.length + (T ".").length) fun q hq => hp q (.tail _ hq)
      rw [← co_len] at h1
      simp only [List.map_cons, List.foldl_cons, List.length_cons]
      rw [Nat.add_one_mul]
      omega
  unfold JoinOk tooLong
  rw [List.foldl_toArray]
  have := key nums 0 h
  rw [sizeLine_eq]
  simp only [Bool.not_eq_true', decide_eq_false_iff_not]
  omega
theorem join_len6 {nums : List (Str × Int)} (h : ∀ p ∈ nums, p ∈ MENU) (hn : nums.length ≤ 6) : (Txt.join (T ".") (nums.map (·.1))).length ≤ 20000 := by
  have h1 := glue_len (c := 46) (n := 100) (l := nums.map fun p => co p.1) fun q hq => by
    obtain ⟨p, hp, rfl⟩ := List.mem_map.mp hq
    exact (idt_raw p (h p hp)).1.2
  rw [List.length_map] at h1
  rw [co_len, join_co, List.map_map]
  show (glue 46 (nums.map fun p => co p.1)).length ≤ _
  omega
theorem word_len : ∀ w ∈ WORDS, w.length ≤ 100 := by decide +kernel
theorem plus_len : ∀ w ∈ PLUS, w.length ≤ 100 := by decide +kernel
theorem plus_is : ∀ w ∈ PLUS, w = T "" ∨ w = T "+7" ∨ w = T "+b" := by decide +kernel
end Mine
end
section
open PySem PySem.W PyProof.Rows PySem.Calls PySem.Spec PySem.Builtin PySem.Builtin.Str
set_option Elab.async false
set_option maxRecDepth 100000
set_option linter.unusedSimpArgs false
set_option linter.unusedVariables false
namespace Mine
abbrev T3 := Int × Int × Str
def strLt (x y : Str) : Bool := decide (x.cps.toList < y.cps.toList)
def t3Eq (x y : T3) : Bool := (x.1 == y.1) && ((x.2.1 == y.2.1) && (x.2.2 == y.2.2))
def t3Lt (x y : T3) : Bool := if x.1 == y.1 then (if x.2.1 == y.2.1 then (if x.2.2 == y.2.2 then false else strLt x.2.2 y.2.2) else decide (x.2.1 < y.2.1)) else decide (x.1 < y.1)
def gEq {α : Type} (e : α → α → Bool) : List α → List α → Bool
  | [], [] => true
  | x :: xs, y :: ys => e x y && gEq e xs ys
  | _, _ => false
def gLt {α : Type} (e l : α → α → Bool) : List α → List α → Bool
  | [], [] => false
  | [], _ :: _ => true
  | _ :: _, [] => false
  | x :: xs, y :: ys => if e x y then gLt e l xs ys else l x y
abbrev iEq (a b : Int) : Bool := a == b
abbrev iLt (a b : Int) : Bool := decide (a < b)
def midEq (x y : Int × Str) : Bool := (x.1 == y.1) && (x.2 == y.2)
def midLt (x y : Int × Str) : Bool := if x.1 == y.1 then (if x.2 == y.2 then false else strLt x.2 y.2) else decide (x.1 < y.1)
/-- the law's keys -/
structure Key where
  ns : List Int
  mid : Int × Str
  ks : List T3
def Key.lt (k k' : Key) : Bool := if gEq iEq k.ns k'.ns then (if midEq k.mid k'.mid then (if gEq t3Eq k.ks k'.ks then false else gLt t3Eq t3Lt k.ks k'.ks) else midLt k.mid k'.mid) else gLt iEq iLt k.ns k'.ns
theorem u8_inj {a b : Nat} (ha : a < 128) (hb : b < 128) : (a.toUInt8 = b.toUInt8) ↔ a = b := by
  constructor
  · intro h
    have := congrArg UInt8.toNat h
    simp [Nat.toUInt8] at this
    omega
  · rintro rfl; rfl
theorem map_u8 : ∀ {l l' : List Nat}, (∀ c ∈ l, c < 128) → (∀ c ∈ l', c < 128) → (l.map Nat.toUInt8 = l'.map Nat.toUInt8 ↔ l = l') := by
  intro l
  induction l with
  | nil => intro l' _ _; cases l' <;> simp
  | cons a r ih =>
    intro l' h h'
    cases l' with
    | nil => simp
    | cons b r' =>
      simp only [List.map_cons, List.cons.injEq]
      rw [u8_inj (h a (.head _)) (h' b (.head _)), ih (fun c hc => h c (.tail _ hc)) (fun c hc => h' c (.tail _ hc))]
theorem bytes_eq {t t' : Str} (h : ∀ c ∈ co t, c < 128) (h' : ∀ c ∈ co t', c < 128) : ((asBytes t).toList == (asBytes t').toList) = (t == t') := by
  rw [asBytes_eq, asBytes_eq, str_beq, Bool.eq_iff_iff, beq_iff_eq, decide_eq_true_eq, map_u8 h h']
theorem order_u8 : ∀ {l l' : List Nat}, (∀ c ∈ l, c < 128) → (∀ c ∈ l', c < 128) → (Bytes.order (l.map Nat.toUInt8) (l'.map Nat.toUInt8) = .lt ↔ l < l') := by
  intro l
  induction l with
  | nil => intro l' _ _; cases l' <;> simp [Bytes.order]
  | cons a r ih =>
    intro l' h h'
    cases l' with
    | nil => simp [Bytes.order]
    | cons b r' =>
      have ha := h a (.head _)
      have hb := h' b (.head _)
      have ih' := ih (l' := r') (fun c hc => h c (.tail _ hc)) (fun c hc => h' c (.tail _ hc))
      rw [List.cons_lt_cons_iff]
      simp only [List.map_cons, Bytes.order]
      have e1 : (a.toUInt8 < b.toUInt8) ↔ a < b := by
        rw [UInt8.lt_iff_toNat_lt]; simp [Nat.toUInt8]; omega
      have e2 : (a.toUInt8 == b.toUInt8) = (a == b) := by rw [Bool.eq_iff_iff, beq_iff_eq, beq_iff_eq, u8_inj ha hb]
      by_cases hab : a = b
      · subst hab
        simp [e1, ih']
      · have : (a.toUInt8 == b.toUInt8) = false := by rw [e2]; simp [hab]
        by_cases hlt : a < b
        · simp [e1, e2, hab, hlt]
        · have e3 : b.toUInt8 < a.toUInt8 := by
            rw [UInt8.lt_iff_toNat_lt]; simp [Nat.toUInt8]; omega
          rw [if_neg (by rw [e1]; exact hlt), if_pos e3]
          simp [hab, hlt]
theorem bytes_lt {t t' : Str} (h : ∀ c ∈ co t, c < 128) (h' : ∀ c ∈ co t', c < 128) : bytesLt (asBytes t) (asBytes t') = strLt t t' := by
  unfold bytesLt strLt
  rw [asBytes_eq, asBytes_eq, Bool.eq_iff_iff, decide_eq_true_eq]
  have := order_u8 h h'
  rw [← this]
  cases Bytes.order (List.map Nat.toUInt8 t.cps.toList) (List.map Nat.toUInt8 t'.cps.toList) <;> simp
/-- an identifier, and what stands for it in a key -/
def Corr (x : Idn) (k : T3) : Prop := (∃ v, x = .num v ∧ k = (0, v, T "")) ∨ (∃ t, x = .alpha (asBytes t) ∧ k = (1, 0, t) ∧ ∀ c ∈ co t, c < 128)
theorem corr_eq {x y : Idn} {k k' : T3} (h : Corr x k) (h' : Corr y k') : idEq x y = t3Eq k k' := by
  rcases h with ⟨v, rfl, rfl⟩ | ⟨t, rfl, rfl, h⟩ <;> rcases h' with ⟨v', rfl, rfl⟩ | ⟨t', rfl, rfl, h'⟩
  · simp [idEq, t3Eq]
  · simp [idEq, t3Eq]
  · simp [idEq, t3Eq]
  · show ((asBytes t).toList == (asBytes t').toList) = _
    rw [bytes_eq h h']; simp [t3Eq]
theorem corr_lt {x y : Idn} {k k' : T3} (h : Corr x k) (h' : Corr y k') (hne : idEq x y = false) : idLt x y = t3Lt k k' := by
  rcases h with ⟨v, rfl, rfl⟩ | ⟨t, rfl, rfl, h⟩ <;> rcases h' with ⟨v', rfl, rfl⟩ | ⟨t', rfl, rfl, h'⟩
  · have hv : (v == v') = false := hne
    simp [idLt, t3Lt, hv]
  · simp [idLt, t3Lt]
  · simp [idLt, t3Lt]
  · have ht : (t == t') = false := by
      rw [← bytes_eq h h']; exact hne
    show bytesLt _ _ = _
    rw [bytes_lt h h']
    simp [t3Lt, ht]
inductive Corrs : List Idn → List T3 → Prop
  | nil : Corrs [] []
  | cons {x : Idn} {k : T3} {xs : List Idn} {ks : List T3} : Corr x k → Corrs xs ks → Corrs (x :: xs) (k :: ks)
theorem corrs_eq {xs : List Idn} {ks : List T3} (h : Corrs xs ks) : ∀ {ys : List Idn} {ks' : List T3}, Corrs ys ks' → lexEq xs ys = gEq t3Eq ks ks' := by
  induction h with
  | nil => intro ys ks' h'; cases h' <;> rfl
  | cons c _ ih =>
    intro ys ks' h'
    cases h' with
    | nil => rfl
    | cons c' r' =>
      simp only [lexEq, gEq]
      rw [corr_eq c c', ih r']
theorem corrs_lt {xs : List Idn} {ks : List T3} (h : Corrs xs ks) : ∀ {ys : List Idn} {ks' : List T3}, Corrs ys ks' → lexLt xs ys = gLt t3Eq t3Lt ks ks' := by
  induction h with
  | nil => intro ys ks' h'; cases h' <;> rfl
  | cons c _ ih =>
    intro ys ks' h'
    cases h' with
    | nil => rfl
    | cons c' r' =>
      simp only [lexLt, gLt]
      rw [corr_eq c c', ih r']
      cases e : t3Eq _ _ with
      | true => rfl
      | false =>
        simp only [Bool.false_eq_true, if_false]
        exact corr_lt c c' (by rw [corr_eq c c']; exact e)
theorem Corrs.app {xs xs' : List Idn} {ks ks' : List T3} (h : Corrs xs ks) (h' : Corrs xs' ks') : Corrs (xs ++ xs') (ks ++ ks') := by
  induction h with
  | nil => exact h'
  | cons c _ ih => exact .cons c ih
theorem menu_idn {p : Str × Int} (h : p ∈ MENU) : Corr (idnOf p.1) (0, p.2, T "") := by
  refine .inl ⟨p.2, ?_, rfl⟩
  unfold idnOf
  rw [if_pos (menu_int p h).2.2, (menu_int p h).2.1]; rfl
theorem word_dig : ∀ p ∈ MENU, ∀ w ∈ WORDS, w ≠ T "" → Txt.isdigit (p.1 ++ tailW w) = false := by decide +kernel
theorem word_nil : ∀ p ∈ MENU, p.1 ++ tailW (T "") = p.1 := by decide +kernel
theorem plus_ids : ∀ u ∈ PLUS, u ≠ T "" → (u = T "+7" ∧ Txt.isdigit (Txt.slice u (some 1) none) = true ∧ PySem.intText? (Txt.slice u (some 1) none) = some 7) ∨ (u = T "+b" ∧ Txt.isdigit (Txt.slice u (some 1) none) = false ∧ Txt.slice u (some 1) none = T "b" ∧ ∀ c ∈ co (T "b"), c < 128) := by decide +kernel
theorem plus_neq : T "+b" ≠ T "+7" := by decide +kernel
theorem ids_corr {nums : List (Str × Int)} {w u : Str} (hm : ∀ p ∈ nums, p ∈ MENU) (hw : w ∈ WORDS) (hu : u ∈ PLUS) (h0 : nums ≠ []) : Corrs ((bldO nums w u).map idnOf) (keyO nums w u) := by
  unfold bldO keyO
  by_cases h : 3 < nums.length
  · rw [if_pos h, if_pos h, List.map_append]
    have hmid : ∀ p ∈ midN nums, p ∈ MENU := fun p hp => hm p (List.mem_of_mem_drop (List.mem_of_mem_take hp))
    have hlast : lastN nums ∈ MENU := by
      unfold lastN
      cases e : nums.getLast? with
      | none => rw [List.getLast?_eq_none_iff] at e; exact absurd e h0
      | some p => exact hm p (List.mem_of_getLast? e)
    refine Corrs.app ?_ (.cons ?_ .nil)
    · have : ∀ l : List (Str × Int), (∀ p ∈ l, p ∈ MENU) → Corrs ((l.map (·.1)).map idnOf) (l.map fun p => (0, p.2, T "")) := by
        intro l
        induction l with
        | nil => intro _; exact .nil
        | cons a r ih => intro hl; exact .cons (menu_idn (hl a (.head _))) (ih fun p hp => hl p (.tail _ hp))
      exact this _ hmid
    · by_cases hwe : w = T ""
      · rw [if_pos hwe, hwe, word_nil _ hlast]; exact menu_idn hlast
      · rw [if_neg hwe]
        refine .inr ⟨_, ?_, rfl, fun c hc => (sg_small c ((idt_ok _ hlast w hw).2.1 c hc)).1⟩
        unfold idnOf
        rw [if_neg (by rw [word_dig _ hlast w hw hwe]; exact Bool.false_ne_true)]
  · rw [if_neg h, if_neg h]
    by_cases hue : u = T ""
    · rw [if_pos hue, if_pos hue]; exact .nil
    · rw [if_neg hue, if_neg hue]
      refine .cons ?_ .nil
      rcases plus_ids u hu hue with ⟨e, a, b⟩ | ⟨e, a, b, c⟩
      · rw [if_pos e]
        refine .inl ⟨7, ?_, rfl⟩
        unfold idnOf
        rw [if_pos a, b]; rfl
      · rw [if_neg (by rw [e]; exact plus_neq)]
        refine .inr ⟨T "b", ?_, rfl, c⟩
        unfold idnOf
        rw [if_neg (by rw [a]; exact Bool.false_ne_true), b]
end Mine
end
section
local macro_rules | `(tactic| walk_at "pad") => `(tactic| fail)
theorem Mine.reset_T10 : True := by w_top off; trivial
open PySem PySem.W PyProof.Rows PySem.Calls PySem.Spec
set_option Elab.async false
set_option maxRecDepth 100000
set_option linter.unusedSimpArgs false
set_option linter.unusedVariables false
namespace Mine
theorem fillT10 : (PySem.Challenge.rw_ci0037_01, Mine.hd.heap_39) = (PySem.Challenge.rw_ci0037_01, Mine.hd.heap_39) := by k_fill; rfl
local macro_rules | `(tactic| k_all) => `(tactic| k_dflt (first | assumption | exact all_app (by assumption) (by assumption)))
def AppPost (h₀ : Heap) (L : Addr) (m : Str → Option Value) (va : Addr) (vals : List Value) (v : Value) (led : List (Addr × Obj)) (s : Shared) (f : Flow) (s' : Shared) : Prop :=
  f = .next ∧ ∃ h' tk n, s' = { s with heap := h', toks := tk } ∧ Fr h₀ L h' m ∧ News h₀ L h' ((va, W.listOf (List.toArray (vals ++ [v])) n) :: led)
set_option pp.deepTerms false in
set_option pp.deepTerms.threshold 5 in
set_option maxHeartbeats 4000000 in
theorem t10 {w : World} {loose : List Str} {mean : ExcName → Option Value} {mg mb : Str → Option Value} {h₀ : Heap} {s : Shared} {L v va : Addr} {m : Str → Option Value} {led : List (Addr × Obj)} {vals : List Value} {n : Nat} {E : Value → Shared → Prop}
    (X : (Mine.hd.heap_39 w.params).In h₀) (T : Top topProg loose mean mg mb h₀) (F : Fr h₀ L s.heap m) (N : News h₀ L s.heap ((va, W.listOf (List.toArray vals) n) :: led)) (hva : ∀ p ∈ led, p.1 ≠ va)
    (V : Vars m [(Mine.T "versions", .ref va), (Mine.T "version", .ref v)]) (hl : vals.length ≤ 100) :
    wpAny (model PR w) (lawA L) (exec (st2 9) (lawEnv L)) (AppPost h₀ L m va vals (.ref v) led s) E s := by
  have F1 := V.look F
  clear F
  have hsz : vals.toArray.size ≤ sizeLine := by rw [List.size_toArray]; exact len_line6 hl
  conv in st2 9 => whnf
  unfold lawA lawEnv
  conv in (occs := *) lawScope => all_goals whnf
  simp only [over] at F1
  k_steps
  rename_i h9 F9 N9
  rw [List.push_toArray] at N9
  exact ⟨rfl, _, _, _, rfl, (over_eq V) ▸ F9, N9⟩
end Mine
end
section
local macro_rules | `(tactic| walk_at "pad") => `(tactic| fail)
local macro_rules | `(tactic| walk_at "pad") => `(tactic| fail)
local macro_rules | `(tactic| walk_at "pad") => `(tactic| fail)
local macro_rules | `(tactic| walk_at "pad") => `(tactic| fail)
local macro_rules | `(tactic| walk_at "pad") => `(tactic| fail)
theorem Mine.reset_T11 : True := by w_top off; trivial
open PySem PySem.W PyProof.Rows PySem.Calls PySem.Spec
set_option Elab.async false
set_option maxRecDepth 100000
set_option linter.unusedSimpArgs false
set_option linter.unusedVariables false
namespace Mine
theorem fillT11 : (PySem.Challenge.rw_ci0037_01, Mine.hd.heap_39) = (PySem.Challenge.rw_ci0037_01, Mine.hd.heap_39) := by k_fill; rfl
local macro_rules | `(tactic| k_all) => `(tactic| k_dflt (first | assumption | exact all_app (by assumption) (by assumption)))
def midKey (P : List Str) : Int × Str := match P with
  | [] => (2, T "")
  | y :: _ => if y = T "2" then (0, T "") else (1, y)
def KeyPost (h₀ : Heap) (L : Addr) (m : Str → Option Value) (kl : Addr) (vals : List Value) (D3 ka : Addr) (P : List Str) (led : List (Addr × Obj)) (s : Shared) (f : Flow) (s' : Shared) : Prop :=
  f = .next ∧ ∃ h' tk n kt pk t t', s' = { s with heap := h', toks := tk } ∧ Fr h₀ L h' m ∧ News h₀ L h' ((kl, W.listOf (List.toArray (vals ++ [Value.ref kt])) n) :: (kt, tupObj [.ref D3, .ref pk, .ref ka]) :: (pk, tupObj [.int (midKey P).1 t, .str (midKey P).2 t']) :: led) ∧ (∀ q ∈ led, q.1 ≠ kt ∧ q.1 ≠ pk) ∧ kt ≠ kl ∧ pk ≠ kl
theorem KeyPost.intro {h₀ h' : Heap} {L kl D3 ka kt pk : Addr} {m : Str → Option Value} {vals : List Value} {P : List Str} {led led' : List (Addr × Obj)} {s : Shared} {tk n : Nat} {t t' : Tok} {c : Int} {z : Str} {l : List (Str × Value)} (V : Vars m l) (F : Fr h₀ L h' (over l m)) (N : News h₀ L h' led')
    (m1 : (kl, W.listOf (vals.toArray.push (Value.ref kt)) n) ∈ led') (m2 : (kt, tupObj [.ref D3, .ref pk, .ref ka]) ∈ led') (m3 : (pk, tupObj [.int c t, .str z t']) ∈ led') (e : midKey P = (c, z)) (m4 : ∀ q ∈ led, q ∈ led') (l1 : AllLt kt led) (l2 : AllLt pk led) (k1 : @LT.lt Nat _ kl kt) (k2 : @LT.lt Nat _ kl pk) : KeyPost h₀ L m kl vals D3 ka P led s .next { s with heap := h', toks := tk } := by
  rw [List.push_toArray] at m1
  refine ⟨rfl, h', tk, n, kt, pk, t, t', rfl, (over_eq V) ▸ F, fun q hq => N q ?_, fun q hq => ⟨lt_ne l1 q hq, lt_ne l2 q hq⟩, Nat.ne_of_gt k1, Nat.ne_of_gt k2⟩
  rw [e] at hq
  simp only [List.mem_cons] at hq
  rcases hq with rfl | rfl | rfl | hq
  · exact m1
  · exact m2
  · exact m3
  · exact m4 q hq
theorem eq_one {y z : Str} {t u : Tok} {led : List (Addr × Obj)} {a b : Addr} {n k : Nat} (m1 : (a, W.listOf #[.str y t] n) ∈ led) (m2 : (b, W.listOf #[.str z u] k) ∈ led) : Rc .Eq (.ref a) (.ref b) led 20 (y == z) := by
  refine Rc.mono (lst_eq (xs := [.str y t]) (ys := [.str z u]) (u := 10) m1 m2 ?_) (fun _ h => h) (by omega)
  cases e : y == z with
  | true => exact .eq (e ▸ EqB.str y z t u) (LexAt.nilL (op := .Eq) [])
  | false => exact .ne (e ▸ EqB.str y z t u) (fun _ => rfl) (fun h => absurd rfl h)
local macro_rules | `(tactic| walk_at "compareOp Eq ref ref") => `(tactic| (k_here; k_dflt (first
  | (refine' cmp_eq (eq_empty ?m1 ?m2) ?hh ?hr ?hu ?F ?X ?T ?N (fun _ h => h) ?_; (case F => k_asm); (case X => k_asm); (case T => k_asm); (case N => k_asm); (case m1 => k_mem); (case m2 => k_mem); (case hh => exact rfl); (case hr => ktr_room); (case hu => ktr_units))
  | (refine' cmp_eq (eq_one ?m1 ?m2) ?hh ?hr ?hu ?F ?X ?T ?N (fun _ h => h) ?_; (case F => k_asm); (case X => k_asm); (case T => k_asm); (case N => k_asm); (case m1 => k_mem); (case m2 => k_mem); (case hh => exact rfl); (case hr => ktr_room); (case hu => ktr_units))); intro h9 tk9 F9 N9; (try dsimp only)))
set_option pp.deepTerms false in
set_option pp.deepTerms.threshold 5 in
set_option maxHeartbeats 4000000 in
theorem t11 {w : World} {loose : List Str} {mean : ExcName → Option Value} {mg mb : Str → Option Value} {h₀ : Heap} {s : Shared} {L kl D3 pa ka : Addr} {m : Str → Option Value} {led : List (Addr × Obj)} {vals : List Value} {n n2 : Nat} {prel : List (Str × Tok)} {P : List Str} {E : Value → Shared → Prop}
    (X : (Mine.hd.heap_39 w.params).In h₀) (T : Top topProg loose mean mg mb h₀) (F : Fr h₀ L s.heap m) (N : News h₀ L s.heap ((kl, W.listOf (List.toArray vals) n) :: led)) (hkl : ∀ p ∈ led, p.1 ≠ kl) (hpa : (pa, W.listOf (strVals prel).toArray n2) ∈ led)
    (V : Vars m [(Mine.T "keys", .ref kl), (Mine.T "three", .ref D3), (Mine.T "pre", .ref pa), (Mine.T "key", .ref ka)]) (hl : vals.length ≤ 100) (e : prel.map (·.1) = P) (hP : P.length ≤ 1) :
    wpAny (model PR w) (lawA L) (exec (st2 10) (lawEnv L)) (KeyPost h₀ L m kl vals D3 ka P led s) E s := by
  have F1 := V.look F
  clear F
  have hsz : vals.toArray.size ≤ sizeLine := by rw [List.size_toArray]; exact len_line6 hl
  have hkp : ∀ p ∈ led, @Ne Nat kl p.1 := fun p hp => Ne.symm (hkl p hp)
  conv in st2 10 => whnf
  unfold lawA lawEnv
  conv in (occs := *) lawScope => all_goals whnf
  simp only [over] at F1
  cases prel with
  | nil =>
    have N1 : News h₀ L s.heap ((pa, W.listOf #[] n2) :: (kl, W.listOf (List.toArray vals) n) :: led) := fun q hq => (List.mem_cons.mp hq).elim (fun e => by rw [e]; exact N _ (.tail _ hpa)) fun hq => N q hq
    have hpk : @Ne Nat kl pa := fun e => hkl _ hpa e.symm
    clear N
    k_steps
    rename_i b1 b2 b3 b4 b5 D1 b6 l8 D b7 l9 b8 F9 N9
    subst e
    exact KeyPost.intro V F9 N9 (by (repeat' (first | exact List.Mem.head _ | refine List.Mem.tail _ ?_))) (by (repeat' (first | exact List.Mem.head _ | refine List.Mem.tail _ ?_))) (by (repeat' (first | exact List.Mem.head _ | refine List.Mem.tail _ ?_))) (rfl) (fun q hq => by (repeat' (first | exact hq | refine List.Mem.tail _ ?_))) l9.2.2.2.2 l8.2.2.2 l9.2.2.2.1 l8.2.2.1
  | cons p r =>
    obtain ⟨y, t⟩ := p
    have hr : r = [] := by
      cases r with
      | nil => rfl
      | cons _ _ => subst e; simp at hP
    subst hr
    have N1 : News h₀ L s.heap ((pa, W.listOf #[.str y t] n2) :: (kl, W.listOf (List.toArray vals) n) :: led) := fun q hq => (List.mem_cons.mp hq).elim (fun e => by rw [e]; exact N _ (.tail _ hpa)) fun hq => N q hq
    have hpk : @Ne Nat kl pa := fun e => hkl _ hpa e.symm
    clear N
    k_steps
    · rename_i b1 b2 b3 b4 b5 hz b6 b7 b8 b9 c1 c2 c3 c4 c5
      cases hz
    · rename_i c1 c2 c3 c4 c5 c6 b1 b2 b3 b4 b5 hy D1 b6 l8 D b7 l9 b8 F9 N9
      subst e
      exact KeyPost.intro V F9 N9 (by (repeat' (first | exact List.Mem.head _ | refine List.Mem.tail _ ?_))) (by (repeat' (first | exact List.Mem.head _ | refine List.Mem.tail _ ?_))) (by (repeat' (first | exact List.Mem.head _ | refine List.Mem.tail _ ?_))) (by show (if y = _ then _ else _) = _; rw [if_pos (beq_T hy)]) (fun q hq => by (repeat' (first | exact hq | refine List.Mem.tail _ ?_))) l9.2.2.2.2.2 l8.2.2.2.2 l9.2.2.2.2.1 l8.2.2.2.1
    · rename_i c1 c2 c3 c4 c5 c6 b1 b2 b3 b4 b5 hy D1 b6 l8 D b7 l9 b8 F9 N9
      subst e
      exact KeyPost.intro V F9 N9 (by (repeat' (first | exact List.Mem.head _ | refine List.Mem.tail _ ?_))) (by (repeat' (first | exact List.Mem.head _ | refine List.Mem.tail _ ?_))) (by (repeat' (first | exact List.Mem.head _ | refine List.Mem.tail _ ?_))) (by show (if y = _ then _ else _) = _; rw [if_neg (nbeq_T hy)]) (fun q hq => by (repeat' (first | exact hq | refine List.Mem.tail _ ?_))) l9.2.2.2.2.2 l8.2.2.2.2 l9.2.2.2.2.1 l8.2.2.2.1
end Mine
end
section
open PySem PySem.W PyProof.Rows PySem.Calls PySem.Spec
set_option Elab.async false
set_option maxRecDepth 100000
set_option linter.unusedSimpArgs false
set_option linter.unusedVariables false
namespace Mine
theorem Vars.put {m : Str → Option Value} {l : List (Str × Value)} {x : Str} {v : Value} (V : Vars m l) (names : List Str) (hn : l.map (·.1) = names) (h : ∀ y ∈ names, y ≠ x) : Vars (put m x v) ((x, v) :: l) :=
  Vars.cons (by show (if x = x then _ else _) = _; rw [if_pos rfl]) fun p hp => by
    show (if p.1 = x then _ else _) = _
    rw [if_neg (h p.1 (hn ▸ List.mem_map_of_mem hp))]
    exact V p hp
theorem Vars.stay {m m' : Str → Option Value} {l : List (Str × Value)} {xs : List Str} (V : Vars m l) (S : Stays m m' xs) (names : List Str) (hn : l.map (·.1) = names) (h : ∀ y ∈ names, y ∉ xs) : Vars m' l := V.stays S fun p hp => h p.1 (hn ▸ List.mem_map_of_mem hp)
theorem execs_go {M : Model} {A : Around} {st : Stmt} {rest : List Stmt} {env : Env} {P Q : Flow → Shared → Prop} {E : Value → Shared → Prop} {s : Shared} (h1 : wpAny M A (exec st env) P E s) (hP : ∀ f s', P f s' → f = .next) (h2 : ∀ s', P .next s' → wpAny M A (execs rest env) Q E s') : wpAny M A (execs (st :: rest) env) Q E s :=
  wpAny_execs_cons (wpAny_mono h1 (fun f s' h => by obtain rfl := hP f s' h; exact h2 s' h) fun _ _ e => e)
theorem body2_is : body2 = [st2 0, st2 1, st2 2, st2 3, st2 4, st2 5, st2 6, st2 7, st2 8, st2 9, st2 10] := by rfl
/-- a version's objects stand, and a key's -/
def VerAt (objs : List (Addr × Obj)) (v : Value) (r : Row) : Prop :=
  ∃ a v1 v2 v3 pre bld vo, v = .ref a ∧ RowF r.nums r.word r.plus v1 v2 v3 ∧ IsVer v1 v2 v3 pre bld a vo ∧ (∀ q ∈ vo, q ∈ objs) ∧ pre.map (·.1) = preO r.nums r.word ∧ bld.map (·.1) = bldO r.nums r.word r.plus
def KeyAt (objs : List (Addr × Obj)) (v : Value) (r : Row) : Prop :=
  ∃ kt D3 pk ka vs n1 kvs n3 t t', v = .ref kt ∧ (kt, tupObj [.ref D3, .ref pk, .ref ka]) ∈ objs ∧ (D3, W.listOf (List.toArray vs) n1) ∈ objs ∧ IntsAre vs (three3 r.nums) ∧ (pk, tupObj [.int (midKey (preO r.nums r.word)).1 t, .str (midKey (preO r.nums r.word)).2 t']) ∈ objs ∧
    (ka, W.listOf (List.toArray kvs) n3) ∈ objs ∧ TripRow objs (keyO r.nums r.word r.plus) kvs
theorem VerAt.mono {objs objs' : List (Addr × Obj)} {v : Value} {r : Row} (h : VerAt objs v r) (hs : ∀ q ∈ objs, q ∈ objs') : VerAt objs' v r := by
  obtain ⟨a, v1, v2, v3, pre, bld, vo, e, R, I, h1, h2, h3⟩ := h
  exact ⟨a, v1, v2, v3, pre, bld, vo, e, R, I, fun q hq => hs q (h1 q hq), h2, h3⟩
theorem KeyAt.mono {objs objs' : List (Addr × Obj)} {v : Value} {r : Row} (h : KeyAt objs v r) (hs : ∀ q ∈ objs, q ∈ objs') : KeyAt objs' v r := by
  obtain ⟨kt, D3, pk, ka, vs, n1, kvs, n3, t, t', e, a1, a2, a3, a4, a5, a6⟩ := h
  exact ⟨kt, D3, pk, ka, vs, n1, kvs, n3, t, t', e, hs _ a1, hs _ a2, a3, hs _ a4, hs _ a5, a6.mono hs⟩
abbrev muts2 (ps1 ps : Array Value) (va kl : Addr) (vv kv : List Value) (n n' : Nat) : List (Addr × Obj) := [(268, tabObj ps1), (323, tabObj ps), (va, W.listOf (List.toArray vv) n), (kl, W.listOf (List.toArray kv) n')]
/-- a turn of loop 2 -/
def Turn2 (h₀ : Heap) (L : Addr) (ra va kl : Addr) (vv kv : List Value) (ex objs : List (Addr × Obj)) (os : OsState) (r : Row) (f : Flow) (s' : Shared) : Prop :=
  f = .next ∧ ∃ m' ps1 ps n n' v kt new, LS h₀ L m' (muts2 ps1 ps va kl (vv ++ [v]) (kv ++ [kt]) n n') ex (new ++ objs) os s' ∧ Vars m' [(T "rows", .ref ra), (T "versions", .ref va), (T "keys", .ref kl)] ∧ TriplesOk ps1.toList ∧ TriplesOk ps.toList ∧ VerAt (new ++ objs) v r ∧ KeyAt (new ++ objs) kt r
theorem ls_new {h₀ : Heap} {L va kl : Addr} {m' : Str → Option Value} {vv kv : List Value} {n n' : Nat} {ps1 ps : Array Value} {ex objs new : List (Addr × Obj)} {os : OsState} {s' : Shared} (F : Fr h₀ L s'.heap m') (N : News h₀ L s'.heap (muts2 ps1 ps va kl vv kv n n' ++ (ex ++ (new ++ objs))))
    (ap : ∀ x ∈ ([268, 323, va, kl] : List Nat), ∀ q ∈ ex ++ objs, @Ne Nat x q.1) (ax : ∀ p ∈ ex, ∀ q ∈ objs, p.1 ≠ q.1) (an : ∀ q ∈ new, (∀ x ∈ ([268, 323, va, kl] : List Nat), @Ne Nat x q.1) ∧ ∀ p ∈ ex, p.1 ≠ q.1) (G : AllBare s'.gens) (ho : s'.os = os) : LS h₀ L m' (muts2 ps1 ps va kl vv kv n n') ex (new ++ objs) os s' := by
  refine ⟨F, N, fun p hp q hq => ?_, fun p hp q hq => ?_, G, ho⟩
  · have hx : p.1 ∈ ([268, 323, va, kl] : List Nat) := by
      simp only [muts2, List.mem_cons, List.not_mem_nil, or_false] at hp ⊢
      rcases hp with rfl | rfl | rfl | rfl <;> simp
    rcases List.mem_append.mp hq with hq | hq
    · exact ap _ hx q (List.mem_append_left _ hq)
    · rcases List.mem_append.mp hq with hq | hq
      · exact (an q hq).1 _ hx
      · exact ap _ hx q (List.mem_append_right _ hq)
  · rcases List.mem_append.mp hq with hq | hq
    · exact (an q hq).2 p hp
    · exact ax p hp q hq
set_option maxHeartbeats 4000000 in
theorem turn2 {w : World} {loose : List Str} {mean : ExcName → Option Value} {mg mb : Str → Option Value} {h₀ : Heap} {s : Shared} {L ra va kl na : Addr} {m : Str → Option Value} {ex objs : List (Addr × Obj)} {vv kv : List Value} {n n' : Nat} {ps1 ps : Array Value} {os : OsState} {nums : List (Str × Int)} {xw xp : Str} {tw tp : Tok} {E : Value → Shared → Prop}
    (X : (Mine.hd.heap_39 w.params).In h₀) (T : Top topProg loose mean mg mb h₀) (hB : Below callerA h₀ [] h₀) (S : LS h₀ L m (muts2 ps1 ps va kl vv kv n n') ex objs os s) (hva : @LT.lt Nat _ 323 va) (hkl : @LT.lt Nat _ va kl) (ht1 : TriplesOk ps1.toList) (ht : TriplesOk ps.toList)
    (V : Vars m [(Mine.T "numbers", .ref na), (Mine.T "word", .str xw tw), (Mine.T "plus", .str xp tp), (Mine.T "rows", .ref ra), (Mine.T "versions", .ref va), (Mine.T "keys", .ref kl)])
    (H : NumsAt objs na nums) (G : GoodN nums) (hw : xw ∈ WORDS) (hu : xp ∈ PLUS) (h4 : 4 ≤ nums.length → xp = Mine.T "") (hvv : vv.length ≤ 100) (hkv : kv.length ≤ 100) :
    wpAny (model PR w) (lawA L) (execs body2 (lawEnv L)) (Turn2 h₀ L ra va kl vv kv ex objs os ⟨nums, xw, xp⟩) E s := by
  obtain ⟨v1, v2, v3, R⟩ := row_ok G hw hu h4
  obtain ⟨F, N, ap, ax, G0, ho⟩ := S
  have hn := G.2.1
  have so := R.so
  have a1 : ∀ x ∈ ([268, 323, va, kl] : List Nat), ∀ q ∈ ex ++ objs, @Ne Nat x q.1 := fun x hx q hq => by
    simp only [List.mem_cons, List.not_mem_nil, or_false] at hx
    rcases hx with hx | hx | hx | hx
    · rw [hx]; exact ap (268, tabObj ps1) (.head _) q hq
    · rw [hx]; exact ap (323, tabObj ps) (.tail _ (.head _)) q hq
    · rw [hx]; exact ap (va, _) (.tail _ (.tail _ (.head _))) q hq
    · rw [hx]; exact ap (kl, _) (.tail _ (.tail _ (.tail _ (.head _)))) q hq
  have b1 : @Ne Nat 268 va := by omega
  have b2 : @Ne Nat 323 va := by omega
  have b3 : @Ne Nat 268 kl := by omega
  have b4 : @Ne Nat 323 kl := by omega
  have b5 : @Ne Nat va kl := by omega
  obtain ⟨base, hbase⟩ : ∃ base : List (Addr × Obj), base = (va, W.listOf (List.toArray vv) n) :: (kl, W.listOf (List.toArray kv) n') :: (ex ++ objs) := ⟨_, rfl⟩
  have N0 : News h₀ L s.heap ((268, tabObj ps1) :: (323, tabObj ps) :: base) := by rw [hbase]; exact N
  have hbo : ∀ q ∈ objs, q ∈ base := fun q hq => by rw [hbase]; exact .tail _ (.tail _ (List.mem_append_right _ hq))
  have hbap : ∀ r ∈ base, r.1 ≠ (268 : Nat) ∧ r.1 ≠ (323 : Nat) := fun r hr => by
    rw [hbase] at hr
    rcases List.mem_cons.mp hr with rfl | hr
    · exact ⟨Ne.symm b1, Ne.symm b2⟩
    · rcases List.mem_cons.mp hr with rfl | hr
      · exact ⟨Ne.symm b3, Ne.symm b4⟩
      · exact ⟨Ne.symm (a1 268 (by simp) r hr), Ne.symm (a1 323 (by simp) r hr)⟩
  obtain ⟨nvs, nn, nm, npr⟩ := H
  have HN : ∀ {led : List (Addr × Obj)}, (∀ q ∈ base, q ∈ led) → NumsIn led objs na nums := fun hs => ⟨nvs, nn, hs _ (hbo _ nm), npr⟩
  rw [body2_is]
  -- whole
  refine execs_go (t1 (K := objs) (tw := tw) (tp := tp) X T F N0 (V.sub (by intro p hp; simp only [List.mem_cons, List.not_mem_nil, or_false] at hp ⊢; grind)) (HN fun q hq => .tail _ (.tail _ hq)) (fun q hq => .tail _ (.tail _ (hbo q hq))) hn (join_ok6 G.2.2 hn) (join_len6 G.2.2 hn) (word_len _ hw) (plus_len _ hu)) (fun f s' h => h.1) ?_
  rintro s' ⟨_, vx, hh1, tk1, ⟨tx, rfl⟩, rfl, F1, N1⟩
  have V1 := V.put (x := Mine.T "whole") (v := .str (wholeT nums xw xp) tx) [Mine.T "numbers", Mine.T "word", Mine.T "plus", Mine.T "rows", Mine.T "versions", Mine.T "keys"] rfl (by decide +kernel)
  -- version
  refine execs_go (t2 (x := wholeT nums xw xp) (tx := tx) X T F1 N1 hB (V1.sub (by intro p hp; simp only [List.mem_cons, List.not_mem_nil, or_false] at hp ⊢; grind)) hbap ht1 ht G0 R.c1 R.ok R.gp R.gb) (fun f s' h => h.1) ?_
  rintro s2 ⟨_, v, pre, bld, vo, ps1a, psa, e1, e2, I, ht1a, hta, F2, N2, G2, o2, n1, n2⟩
  have V2 := V1.put (x := Mine.T "version") (v := .ref v) [Mine.T "whole", Mine.T "numbers", Mine.T "word", Mine.T "plus", Mine.T "rows", Mine.T "versions", Mine.T "keys"] rfl (by decide +kernel)
  -- three
  refine execs_go (t3 (K := objs) X T F2 N2 (V2.sub (by intro p hp; simp only [List.mem_cons, List.not_mem_nil, or_false] at hp ⊢; grind)) (HN fun q hq => .tail _ (.tail _ (List.mem_append_right _ hq))) (fun q hq => .tail _ (.tail _ (List.mem_append_right _ (hbo q hq)))) hn) (fun f s' h => h.1) ?_
  rintro s3 ⟨_, D3, vs, nd, hh3, tk3, hi3, rfl, F3, N3, o3⟩
  have V3 := V2.put (x := Mine.T "three") (v := .ref D3) [Mine.T "version", Mine.T "whole", Mine.T "numbers", Mine.T "word", Mine.T "plus", Mine.T "rows", Mine.T "versions", Mine.T "keys"] rfl (by decide +kernel)
  -- pre, build, key
  refine execs_go (t4 X T F3 N3) (fun f s' h => h.1) ?_
  rintro s4 ⟨_, m4, hh4, tk4, pa0, rfl, F4, S4, e4, N4, o4⟩
  have V4 := V3.stay S4 [Mine.T "three", Mine.T "version", Mine.T "whole", Mine.T "numbers", Mine.T "word", Mine.T "plus", Mine.T "rows", Mine.T "versions", Mine.T "keys"] rfl (by decide +kernel)
  obtain ⟨led3, hl3⟩ : ∃ led3 : List (Addr × Obj), led3 = (D3, W.listOf (List.toArray vs) nd) :: (268, tabObj ps1a) :: (323, tabObj psa) :: (vo ++ base) := ⟨_, rfl⟩
  rw [← hl3] at N4 o4
  have hb3 : ∀ q ∈ base, q ∈ led3 := fun q hq => by rw [hl3]; exact .tail _ (.tail _ (.tail _ (List.mem_append_right _ hq)))
  have hv3 : ∀ q ∈ vo, q ∈ led3 := fun q hq => by rw [hl3]; exact .tail _ (.tail _ (.tail _ (List.mem_append_left _ hq)))
  -- if len(numbers) > 3
  refine execs_go (t5 (K := objs) (tw := tw) (tp := tp) X T F4 N4 o4 ((V4.cons e4).sub (by intro p hp; simp only [List.mem_cons, List.not_mem_nil, or_false] at hp ⊢; grind)) (HN hb3) (fun q hq => hb3 q (hbo q hq)) hn (word_len _ hw) (plus_len _ hu) (fun p hp => by rw [co_len]; exact (idt_raw p (G.2.2 p hp)).1.2) (plus_is _ hu)) (fun f s' h => h.1) ?_
  rintro s5 ⟨_, m5, hh5, tk5, pa, ba, ka, prel, bldl, kvs, q1, q2, q3, ko, rfl, F5, S5, e5p, e5b, e5k, p1, p2, p3, N5, o5⟩
  have V5 := (((V4.stay S5 [Mine.T "three", Mine.T "version", Mine.T "whole", Mine.T "numbers", Mine.T "word", Mine.T "plus", Mine.T "rows", Mine.T "versions", Mine.T "keys"] rfl (by decide +kernel)).cons e5k).cons e5b).cons e5p
  obtain ⟨dx, tp', tb', ck, sk, h1, h2, h3, h4', h5, h6, h7, h8, k1, k2, k3, k4, k5, k6, k7, k8, m1, m2, m3, ko4, ko5, K4, K5, hvo⟩ := id I
  have hl1 : pre.length ≤ 100 := by
    have := congrArg List.length e1
    rw [List.length_map] at this
    have := R.gp.len
    omega
  have hl2 : bld.length ≤ 100 := by
    have := congrArg List.length e2
    rw [List.length_map] at this
    have := R.gb.len
    omega
  have hi6 : IntsAre vs [v1, v2, v3] := R.t3 ▸ hi3
  -- the checks
  refine execs_go (t6 (v := v) (dx := dx) (tp := tp') (tb := tb') (ck := ck) (sk := sk) (D3 := D3) (pa := pa) (ba := ba) (h1 := h1) (h2 := h2) (h3 := h3) (h4 := h4') (h5 := h5) (h6 := h6) (h7 := h7) (h8 := h8) (k1 := k1) (k2 := k2) (k3 := k3) (k4 := k4) (k5 := k5) (k6 := k6) (k7 := k7) (k8 := k8) (m1 := m1) (m2 := m2) (m3 := m3) (pre := pre) (bld := bld) (prel := prel) (bldl := bldl) (vs := vs) (n1 := nd) (n2 := q1) (n3 := q2) X T F5 N5 ?hf (V5.sub (by intro p hp; simp only [List.mem_cons, List.not_mem_nil, or_false] at hp ⊢; grind)) hi6 (e1.trans p1.symm) (e2.trans p2.symm) hl1 hl2) (fun f s' h => h.1) ?_
  case hf =>
    intro q hq
    simp only [List.mem_cons, List.not_mem_nil, or_false] at hq
    have vin : ∀ q ∈ vo, q ∈ (pa, W.listOf (strVals prel).toArray q1) :: (ba, W.listOf (strVals bldl).toArray q2) :: (ka, W.listOf (List.toArray kvs) q3) :: (ko ++ led3) := fun q hq => .tail _ (.tail _ (.tail _ (List.mem_append_right _ (hv3 q hq))))
    rcases hq with rfl | rfl | rfl | rfl | rfl | rfl | rfl
    · exact vin _ (by rw [hvo]; simp)
    · exact vin _ (by rw [hvo]; simp)
    · exact vin _ (by rw [hvo]; simp)
    · exact vin _ (by rw [hvo]; simp)
    · exact .tail _ (.tail _ (.tail _ (List.mem_append_right _ (by rw [hl3]; simp))))
    · simp
    · simp
  rintro s6 ⟨_, hh6, tk6, rfl, F6, N6⟩
  -- again
  have o5a : ∀ q ∈ led3, q.1 ≠ pa := fun q hq => (o5 q hq).1
  have o5b : ∀ q ∈ led3, q.1 ≠ ba := fun q hq => (o5 q hq).2.1
  have o5k : ∀ q ∈ led3, q.1 ≠ ka := fun q hq => (o5 q hq).2.2.1
  have o5o : ∀ r ∈ ko, ∀ q ∈ led3, q.1 ≠ r.1 := fun r hr q hq => (o5 q hq).2.2.2 r hr
  have i268 : (268, tabObj ps1a) ∈ led3 := by rw [hl3]; simp
  have i323 : (323, tabObj psa) ∈ led3 := by rw [hl3]; simp
  obtain ⟨led7, hl7⟩ : ∃ led7 : List (Addr × Obj), led7 = (pa, W.listOf (strVals prel).toArray q1) :: (ba, W.listOf (strVals bldl).toArray q2) :: (ka, W.listOf (List.toArray kvs) q3) :: (ko ++ ((D3, W.listOf (List.toArray vs) nd) :: (vo ++ base))) := ⟨_, rfl⟩
  have N7 : News h₀ L hh6 ((268, tabObj ps1a) :: (323, tabObj psa) :: led7) := fun q hq => N6 q (by
    rw [hl7] at hq; rw [hl3]
    simp only [List.mem_cons, List.mem_append] at hq ⊢; grind)
  have hap7 : ∀ r ∈ led7, r.1 ≠ (268 : Nat) ∧ r.1 ≠ (323 : Nat) := fun r hr => by
    rw [hl7] at hr
    simp only [List.mem_cons, List.mem_append] at hr
    rcases hr with rfl | rfl | rfl | hr | rfl | hr | hr
    · exact ⟨Ne.symm (o5a _ i268), Ne.symm (o5a _ i323)⟩
    · exact ⟨Ne.symm (o5b _ i268), Ne.symm (o5b _ i323)⟩
    · exact ⟨Ne.symm (o5k _ i268), Ne.symm (o5k _ i323)⟩
    · exact ⟨Ne.symm (o5o r hr _ i268), Ne.symm (o5o r hr _ i323)⟩
    · exact ⟨Ne.symm (o3 (268, tabObj ps1a) (.head _)), Ne.symm (o3 (323, tabObj psa) (.tail _ (.head _)))⟩
    · exact n1 r hr
    · exact hbap r hr
  have hv7 : ∀ q ∈ vo, q ∈ led7 := fun q hq => by rw [hl7]; simp only [List.mem_cons, List.mem_append]; grind
  have hb7 : ∀ q ∈ base, q ∈ led7 := fun q hq => by rw [hl7]; simp only [List.mem_cons, List.mem_append]; grind
  refine execs_go (t7 (P := preO nums xw) (B := bldO nums xw xp) (pre := pre) (bld := bld) X T F6 N7 hB (V5.sub (by intro p hp; simp only [List.mem_cons, List.not_mem_nil, or_false] at hp ⊢; grind)) I hv7 (by rw [e1, e2]; exact so) hap7 ht1a hta G2 (by rw [e1, e2]; exact R.c2) (by rw [e1, e2]; exact R.ok) R.gp R.gb) (fun f s' h => h.1) ?_
  rintro s7 ⟨_, v', pre', bld', vo', ps1b, psb, e1', e2', I', ht1b, htb, F7, N7', G7, o7, n1', n2'⟩
  have V7 := V5.put (x := Mine.T "again") (v := .ref v') [Mine.T "pre", Mine.T "build", Mine.T "key", Mine.T "three", Mine.T "version", Mine.T "whole", Mine.T "numbers", Mine.T "word", Mine.T "plus", Mine.T "rows", Mine.T "versions", Mine.T "keys"] rfl (by decide +kernel)
  have ee1 := e1'.trans e1.symm
  have ee2 := e2'.trans e2.symm
  refine execs_go (t8 (pre := pre') (bld := bld') (pre' := pre) (bld' := bld) X T F7 N7' hB (V7.sub (by intro p hp; simp only [List.mem_cons, List.not_mem_nil, or_false] at hp ⊢; grind)) I' I (fun q hq => .tail _ (.tail _ (List.mem_append_left _ hq))) (fun q hq => .tail _ (.tail _ (List.mem_append_right _ (hv7 q hq)))) ee1 ee2 (by rw [e1']; exact R.gp.str) (by rw [e2']; exact R.gb.str) (by rw [e1', e2']; exact so) (by rw [e1, e2]; exact so) G7 (by rw [e1, e2]; exact .yes R.ok) (by rw [ee1, ee2]; simp)) (fun f s' h => h.1) ?_
  rintro s8 ⟨_, F8, N8, G8, o8⟩
  refine execs_go (t9 (K := objs) (x := wholeT nums xw xp) (tx := tx) (xw := xw) (tw := tw) X T F8 N8 hB (V7.sub (by intro p hp; simp only [List.mem_cons, List.not_mem_nil, or_false] at hp ⊢; grind)) (HN fun q hq => .tail _ (.tail _ (List.mem_append_right _ (hb7 q hq)))) (fun q hq => .tail _ (.tail _ (List.mem_append_right _ (hb7 q (hbo q hq))))) hn R.val rfl (word_len _ hw)) (fun f s' h => h.1) ?_
  rintro s9 ⟨_, hh9, tk9, rfl, F9, N9⟩
  -- versions.append
  have iva : (va, W.listOf (List.toArray vv) n) ∈ base := by rw [hbase]; simp
  have ikl : (kl, W.listOf (List.toArray kv) n') ∈ base := by rw [hbase]; simp
  have iex : ∀ q ∈ ex, q ∈ base := fun q hq => by rw [hbase]; simp only [List.mem_cons, List.mem_append]; grind
  have iob : ∀ q ∈ objs, q ∈ base := hbo
  have n2v : ∀ q ∈ vo, q.1 ≠ va := fun q hq => n2 q hq _ iva
  have n2k : ∀ q ∈ vo, q.1 ≠ kl := fun q hq => n2 q hq _ ikl
  have o3v : D3 ≠ va := Ne.symm (o3 _ (.tail _ (.tail _ (List.mem_append_right _ iva))))
  have o3k : D3 ≠ kl := Ne.symm (o3 _ (.tail _ (.tail _ (List.mem_append_right _ ikl))))
  obtain ⟨mid, hmid⟩ : ∃ mid : List (Addr × Obj), mid = (pa, W.listOf (strVals prel).toArray q1) :: (ba, W.listOf (strVals bldl).toArray q2) :: (ka, W.listOf (List.toArray kvs) q3) :: (ko ++ ((D3, W.listOf (List.toArray vs) nd) :: (vo ++ (ex ++ objs)))) := ⟨_, rfl⟩
  have mid7 : ∀ q ∈ mid, q ∈ led7 := fun q hq => by
    rw [hmid] at hq; rw [hl7]
    have := iex q
    have := iob q
    simp only [List.mem_cons, List.mem_append] at hq ⊢; grind
  have midv : ∀ q ∈ mid, q.1 ≠ va ∧ q.1 ≠ kl := fun q hq => by
    rw [hmid] at hq
    simp only [List.mem_cons, List.mem_append] at hq
    rcases hq with rfl | rfl | rfl | hq | rfl | hq | hq | hq
    · exact ⟨Ne.symm (o5a _ (hb3 _ iva)), Ne.symm (o5a _ (hb3 _ ikl))⟩
    · exact ⟨Ne.symm (o5b _ (hb3 _ iva)), Ne.symm (o5b _ (hb3 _ ikl))⟩
    · exact ⟨Ne.symm (o5k _ (hb3 _ iva)), Ne.symm (o5k _ (hb3 _ ikl))⟩
    · exact ⟨Ne.symm (o5o q hq _ (hb3 _ iva)), Ne.symm (o5o q hq _ (hb3 _ ikl))⟩
    · exact ⟨o3v, o3k⟩
    · exact ⟨n2v q hq, n2k q hq⟩
    · exact ⟨Ne.symm (a1 va (by simp) q (List.mem_append_left _ hq)), Ne.symm (a1 kl (by simp) q (List.mem_append_left _ hq))⟩
    · exact ⟨Ne.symm (a1 va (by simp) q (List.mem_append_right _ hq)), Ne.symm (a1 kl (by simp) q (List.mem_append_right _ hq))⟩
  have N10 : News h₀ L hh9 ((va, W.listOf (List.toArray vv) n) :: ((268, tabObj ps1b) :: (323, tabObj psb) :: (kl, W.listOf (List.toArray kv) n') :: mid)) := fun q hq => N9 q (by
    have := mid7 q
    have := hb7 _ iva
    have := hb7 _ ikl
    simp only [List.mem_cons, List.mem_append] at hq ⊢; grind)
  refine execs_go (t10 (v := v) (va := va) X T F9 N10 ?hva (V7.sub (by intro p hp; simp only [List.mem_cons, List.not_mem_nil, or_false] at hp ⊢; grind)) hvv) (fun f s' h => h.1) ?_
  case hva =>
    intro q hq
    rcases List.mem_cons.mp hq with rfl | hq
    · exact b1
    · rcases List.mem_cons.mp hq with rfl | hq
      · exact b2
      · rcases List.mem_cons.mp hq with rfl | hq
        · exact Ne.symm b5
        · exact (midv q hq).1
  rintro s10 ⟨_, hh10, tk10, n10, rfl, F10, N10'⟩
  have N11 : News h₀ L hh10 ((kl, W.listOf (List.toArray kv) n') :: ((268, tabObj ps1b) :: (323, tabObj psb) :: (va, W.listOf (List.toArray (vv ++ [Value.ref v])) n10) :: mid)) := fun q hq => N10' q (by
    simp only [List.mem_cons] at hq ⊢; grind)
  refine execs_go (t11 (kl := kl) (D3 := D3) (pa := pa) (ka := ka) (prel := prel) X T F10 N11 ?hkl (n2 := q1) ?hpa (V7.sub (by intro p hp; simp only [List.mem_cons, List.not_mem_nil, or_false] at hp ⊢; grind)) hkv p1 preO_one) (fun f s' h => h.1) ?_
  case hkl =>
    intro q hq
    rcases List.mem_cons.mp hq with rfl | hq
    · exact b3
    · rcases List.mem_cons.mp hq with rfl | hq
      · exact b4
      · rcases List.mem_cons.mp hq with rfl | hq
        · exact b5
        · exact (midv q hq).2
  case hpa => exact .tail _ (.tail _ (.tail _ (by rw [hmid]; exact .head _)))
  rintro s11 ⟨_, hh11, tk11, n11, kt, pk, t, t', rfl, F11, N11', o11, kk1, kk2⟩
  refine wpAny_execs_nil ?_
  have midn : ∀ q ∈ ex, q ∈ mid := fun q hq => by rw [hmid]; simp only [List.mem_cons, List.mem_append]; grind
  have o11k : ∀ q ∈ (268, tabObj ps1b) :: (323, tabObj psb) :: (va, W.listOf (List.toArray (vv ++ [Value.ref v])) n10) :: mid, q.1 ≠ kt := fun q hq => (o11 q hq).1
  have o11p : ∀ q ∈ (268, tabObj ps1b) :: (323, tabObj psb) :: (va, W.listOf (List.toArray (vv ++ [Value.ref v])) n10) :: mid, q.1 ≠ pk := fun q hq => (o11 q hq).2
  refine ⟨rfl, _, ps1b, psb, n10, n11, .ref v, .ref kt, (kt, tupObj [.ref D3, .ref pk, .ref ka]) :: (pk, tupObj [.int (midKey (preO nums xw)).1 t, .str (midKey (preO nums xw)).2 t']) :: (D3, W.listOf (List.toArray vs) nd) :: (ka, W.listOf (List.toArray kvs) q3) :: (ko ++ vo), ls_new F11 (fun q hq => N11' q ?_) a1 ax ?_ G8 ?_, V7.sub (by intro p hp; simp only [List.mem_cons, List.not_mem_nil, or_false] at hp ⊢; grind), ht1b, htb, ?_, ?_⟩
  · rw [hmid]
    simp only [muts2, List.mem_cons, List.mem_append, List.not_mem_nil, or_false] at hq ⊢; grind
  · intro q hq
    simp only [List.mem_cons, List.mem_append] at hq
    have ex3 : ∀ p ∈ ex, p ∈ led3 := fun p hp => hb3 p (iex p hp)
    rcases hq with rfl | rfl | rfl | rfl | hq | hq
    · refine ⟨fun x hx => ?_, fun p hp => o11k p (.tail _ (.tail _ (.tail _ (midn p hp))))⟩
      simp only [List.mem_cons, List.not_mem_nil, or_false] at hx
      rcases hx with hx | hx | hx | hx
      · rw [hx]; exact o11k (268, tabObj ps1b) (.head _)
      · rw [hx]; exact o11k (323, tabObj psb) (.tail _ (.head _))
      · rw [hx]; exact o11k (va, _) (.tail _ (.tail _ (.head _)))
      · rw [hx]; exact Ne.symm kk1
    · refine ⟨fun x hx => ?_, fun p hp => o11p p (.tail _ (.tail _ (.tail _ (midn p hp))))⟩
      simp only [List.mem_cons, List.not_mem_nil, or_false] at hx
      rcases hx with hx | hx | hx | hx
      · rw [hx]; exact o11p (268, tabObj ps1b) (.head _)
      · rw [hx]; exact o11p (323, tabObj psb) (.tail _ (.head _))
      · rw [hx]; exact o11p (va, _) (.tail _ (.tail _ (.head _)))
      · rw [hx]; exact Ne.symm kk2
    · refine ⟨fun x hx => ?_, fun p hp => o3 p (.tail _ (.tail _ (List.mem_append_right _ (iex p hp))))⟩
      simp only [List.mem_cons, List.not_mem_nil, or_false] at hx
      rcases hx with hx | hx | hx | hx
      · rw [hx]; exact o3 (268, tabObj ps1a) (.head _)
      · rw [hx]; exact o3 (323, tabObj psa) (.tail _ (.head _))
      · rw [hx]; exact Ne.symm o3v
      · rw [hx]; exact Ne.symm o3k
    · refine ⟨fun x hx => ?_, fun p hp => o5k p (ex3 p hp)⟩
      simp only [List.mem_cons, List.not_mem_nil, or_false] at hx
      rcases hx with hx | hx | hx | hx
      · rw [hx]; exact o5k _ i268
      · rw [hx]; exact o5k _ i323
      · rw [hx]; exact o5k _ (hb3 _ iva)
      · rw [hx]; exact o5k _ (hb3 _ ikl)
    · refine ⟨fun x hx => ?_, fun p hp => o5o q hq p (ex3 p hp)⟩
      simp only [List.mem_cons, List.not_mem_nil, or_false] at hx
      rcases hx with hx | hx | hx | hx
      · rw [hx]; exact o5o q hq _ i268
      · rw [hx]; exact o5o q hq _ i323
      · rw [hx]; exact o5o q hq _ (hb3 _ iva)
      · rw [hx]; exact o5o q hq _ (hb3 _ ikl)
    · refine ⟨fun x hx => ?_, fun p hp => Ne.symm (n2 q hq p (iex p hp))⟩
      simp only [List.mem_cons, List.not_mem_nil, or_false] at hx
      rcases hx with hx | hx | hx | hx
      · rw [hx]; exact Ne.symm (n1 q hq).1
      · rw [hx]; exact Ne.symm (n1 q hq).2
      · rw [hx]; exact Ne.symm (n2v q hq)
      · rw [hx]; exact Ne.symm (n2k q hq)
  · exact o8.trans (o7.trans (o2.trans ho))
  · exact ⟨v, v1, v2, v3, pre, bld, vo, rfl, R, I, fun q hq => by simp only [List.mem_cons, List.mem_append]; grind, e1, e2⟩
  · exact ⟨kt, D3, pk, ka, vs, nd, kvs, q3, t, t', rfl, by simp, by simp, hi3, by simp, by simp, p3.mono fun q hq => by simp only [List.mem_cons, List.mem_append]; grind⟩
end Mine
end
section
theorem Mine.reset_T0 : True := by w_top off; trivial
open PySem PySem.W PyProof.Rows PySem.Calls PySem.Spec
set_option Elab.async false
set_option maxRecDepth 100000
set_option linter.unusedSimpArgs false
set_option linter.unusedVariables false
namespace Mine
theorem fillT0 : (PySem.Challenge.rw_ci0037_01, Mine.hd.heap_39) = (PySem.Challenge.rw_ci0037_01, Mine.hd.heap_39) := by k_fill; rfl
def targ2 : Expr := match for2 with | .For t _ _ _ _ => t | _ => .Name "" ⟨0, 0, 0, 0⟩
def AssPost (h₀ : Heap) (L : Addr) (m : Str → Option Value) (led : List (Addr × Obj)) (a b c : Value) (s : Shared) (_ : Unit) (s' : Shared) : Prop :=
  ∃ h' tk, s' = { s with heap := h', toks := tk } ∧ Fr h₀ L h' (put (put (put m (T "numbers") a) (T "word") b) (T "plus") c) ∧ News h₀ L h' led
set_option pp.deepTerms false in
set_option pp.deepTerms.threshold 5 in
set_option maxHeartbeats 4000000 in
theorem tA {w : World} {loose : List Str} {mean : ExcName → Option Value} {mg mb : Str → Option Value} {h₀ : Heap} {s : Shared} {L a na : Addr} {m : Str → Option Value} {led : List (Addr × Obj)} {xw xp : Str} {tw tp : Tok} {E : Value → Shared → Prop}
    (X : (Mine.hd.heap_39 w.params).In h₀) (T : Top topProg loose mean mg mb h₀) (F : Fr h₀ L s.heap m) (N : News h₀ L s.heap led) (hm : (a, tupObj [.ref na, .str xw tw, .str xp tp]) ∈ led) :
    wpAny (model PR w) (lawA L) (assign targ2 (lawEnv L) (.ref a)) (AssPost h₀ L m led (.ref na) (.str xw tw) (.str xp tp) s) E s := by
  have N1 : News h₀ L s.heap ((a, tupObj [.ref na, .str xw tw, .str xp tp]) :: led) := fun q hq => (List.mem_cons.mp hq).elim (fun e => by rw [e]; exact N _ hm) fun hq => N q hq
  clear N
  conv in targ2 => whnf
  unfold lawA lawEnv
  conv in (occs := *) lawScope => all_goals whnf
  k_steps
  rename_i F9 N9
  exact ⟨_, _, rfl, F9, fun q hq => N9 q (.tail _ hq)⟩
theorem letGo_list {w : World} {A : Around} {E : Value → Shared → Prop} {target : Expr} {I l : Addr} {i : Nat} {v : Value} {Q' : Unit → Shared → Prop} {s' : Shared} (hit : s'.heap.IsListIter I l i) (h : Q' () s') :
    wpAny (model PR w) A (letOwnedTupleGo target (.ref I) v) Q' E s' := by
  obtain ⟨o, ho, hc, hd⟩ := hit
  unfold letOwnedTupleGo
  cases target <;> first
    | exact wpAny_pure h
    | (cases v <;> first
        | exact wpAny_pure h
        | (refine wpAny_bind (wpAny_load ho ?_)
           rw [hc, hd]
           exact wpAny_pure h))
def st1 (k : Nat) : Stmt := rest1.getD k (.Pass ⟨0, 0, 0, 0⟩)
theorem rest1_is : rest1 = [st1 0, st1 1, st1 2, st1 3] := by rfl
def TwoPost (h₀ : Heap) (L : Addr) (m : Str → Option Value) (led : List (Addr × Obj)) (s : Shared) (f : Flow) (s' : Shared) : Prop :=
  f = .next ∧ ∃ h' tk va kl, s' = { s with heap := h', toks := tk } ∧ Fr h₀ L h' (put (put m (T "keys") (.ref kl)) (T "versions") (.ref va)) ∧ News h₀ L h' ((va, W.listOf #[] 0) :: (kl, W.listOf #[] 0) :: led) ∧ @LT.lt Nat _ va kl ∧ AllLt va led ∧ AllLt kl led
set_option pp.deepTerms false in
set_option pp.deepTerms.threshold 5 in
set_option maxHeartbeats 4000000 in
theorem tB {w : World} {loose : List Str} {mean : ExcName → Option Value} {mg mb : Str → Option Value} {h₀ : Heap} {s : Shared} {L : Addr} {m : Str → Option Value} {led : List (Addr × Obj)} {E : Value → Shared → Prop}
    (X : (Mine.hd.heap_39 w.params).In h₀) (T : Top topProg loose mean mg mb h₀) (F : Fr h₀ L s.heap m) (N : News h₀ L s.heap led) :
    wpAny (model PR w) (lawA L) (exec (st1 0) (lawEnv L)) (TwoPost h₀ L m led s) E s := by
  conv in st1 0 => whnf
  unfold lawA lawEnv
  conv in (occs := *) lawScope => all_goals whnf
  k_steps
  rename_i va g1 l1 kl g2 l2 D g3 l3 g4 g5 g6 F9 N9
  refine ⟨rfl, _, _, va, kl, rfl, F9, fun q hq => N9 q ?_, l2.1, allLt_of l1, l2.2⟩
  rcases List.mem_cons.mp hq with rfl | hq
  · exact .tail _ (.tail _ (.head _))
  · rcases List.mem_cons.mp hq with rfl | hq
    · exact .tail _ (.head _)
    · exact .tail _ (.tail _ (.tail _ hq))
end Mine
end
section
local macro_rules | `(tactic| walk_at "pad") => `(tactic| fail)
local macro_rules | `(tactic| walk_at "pad") => `(tactic| fail)
theorem Mine.reset_M5 : True := by w_top off; trivial
open PySem PySem.W PyProof.Rows PySem.Calls PySem.Spec
set_option Elab.async false
set_option maxRecDepth 100000
set_option linter.unusedSimpArgs false
set_option linter.unusedVariables false
namespace Mine
theorem fillM5 : (PySem.Challenge.rw_ci0037_01, Mine.hd.heap_39) = (PySem.Challenge.rw_ci0037_01, Mine.hd.heap_39) := by k_fill; rfl
/-- loop 2 -/
def J2 (rows : List Row) (rvals : List Value) (ra va kl : Addr) (i : Nat) (m : Str → Option Value) (muts objs : List (Addr × Obj)) : Prop :=
  ∃ vv kv n n' ps1 ps, muts = muts2 ps1 ps va kl vv kv n n' ∧ Vars m [(T "rows", .ref ra), (T "versions", .ref va), (T "keys", .ref kl)] ∧ TriplesOk ps1.toList ∧ TriplesOk ps.toList ∧ All2 (RowAt objs) rvals rows ∧ All2 (VerAt objs) vv (rows.take i) ∧ All2 (KeyAt objs) kv (rows.take i)
local macro_rules | `(tactic| walk_at "exec For") => `(tactic| (k_here; k_dflt (refine' for_l ?hs ?_; (case hs => intro _; exact rfl); k_whole)))
local macro_rules | `(tactic| walk_at "exec For Tuple Name cons nil") => `(tactic| (k_here; k_dflt (refine' for_l ?hs ?_; (case hs => intro _; exact rfl); k_whole)))
set_option maxHeartbeats 1000000 in
theorem name_row {loose : List Str} {mean : ExcName → Option Value} {mg mb : Str → Option Value} {w : World} {h₀ : Heap} {s : Shared} {L : Addr} {m : Str → Option Value} {ra : Addr} {Q E : Value → Shared → Prop} {pos : Pos} (X : (Mine.hd.heap_39 w.params).In h₀) (T' : Top topProg loose mean mg mb h₀) (F : Fr h₀ L s.heap m) (hm : m (T "rows") = some (.ref ra)) (hq : Q (.ref ra) s) : wpAny (model PR w) (lawA L) (eval (.Name (Str.ofString "rows") pos) (lawEnv L)) Q E s := by
  have F1 := Vars.look (l := [(T "rows", .ref ra)]) (Vars.nil.cons hm) F
  clear F
  unfold lawA lawEnv
  conv in (occs := *) lawScope => all_goals whnf
  simp only [over] at F1
  k_steps
  exact hq
set_option pp.deepTerms false in
set_option pp.deepTerms.threshold 5 in
set_option maxHeartbeats 4000000 in
theorem loop2 {w : World} {loose : List Str} {mean : ExcName → Option Value} {mg mb : Str → Option Value} {h₀ : Heap} {s : Shared} {L ra va kl : Addr} {m : Str → Option Value} {objs : List (Addr × Obj)} {n0 : Nat} {os : OsState} {rows : List Row} {rvals : List Value} {E : Value → Shared → Prop} {Q : Flow → Shared → Prop}
    (X : (Mine.hd.heap_39 w.params).In h₀) (T : Top topProg loose mean mg mb h₀) (hB : Below callerA h₀ [] h₀) (S : LS h₀ L m (muts2 #[] #[] va kl [] [] 0 0) [(ra, W.listOf (List.toArray rvals) n0)] objs os s) (hva : @LT.lt Nat _ 323 va) (hkl : @LT.lt Nat _ va kl) (hra : @LT.lt Nat _ 323 ra) (hrv : @LT.lt Nat _ ra va)
    (V : Vars m [(Mine.T "rows", .ref ra), (Mine.T "versions", .ref va), (Mine.T "keys", .ref kl)]) (R : All2 (RowAt objs) rvals rows) (hg : ∀ r ∈ rows, GoodR r) (hn : rows.length ≤ 6)
    (hR : ∀ m' muts' objs' s', LS h₀ L m' muts' [(ra, W.listOf (List.toArray rvals) n0)] objs' os s' → J2 rows rvals ra va kl rows.length m' muts' objs' → Q .next s') :
    wpAny (model PR w) (lawA L) (exec (st1 1) (lawEnv L)) Q E s := by
  have hl := R.length
  conv in st1 1 => whnf
  refine for_l (fun _ => rfl) ?_
  refine name_row X T S.F (V _ (.head _)) ?_
  refine ForL.list (vals := rvals) (n := n0) rfl S (.head _) ?_ (fun I l i s' v Q' hit hq => letGo_list hit hq) (J2 rows rvals ra va kl) ?_ ?_ ?_
  · intro p hp
    simp only [muts2, List.mem_cons, List.not_mem_nil, or_false] at hp
    rcases hp with rfl | rfl | rfl | rfl
    · exact Nat.ne_of_lt (by omega : (268 : Nat) < ra)
    · exact Nat.ne_of_lt hra
    · exact Nat.ne_of_gt hrv
    · exact Nat.ne_of_gt (Nat.lt_trans hrv hkl)
  · exact ⟨[], [], 0, 0, #[], #[], rfl, V, trivial, trivial, R, .nil, .nil⟩
  · intro i v m₁ muts₁ ex₁ objs₁ s₁ hv hJ hS hm hx
    obtain ⟨vv, kv, n, n', ps1, ps, rfl, V1, ht1, ht, R1, A1, A2⟩ := hJ
    obtain ⟨r, hr, a, na, t, u, rfl, ha, HN⟩ := R1.get hv
    have G := hg r (List.mem_of_getElem? hr)
    have hi : i < rows.length := (List.getElem?_eq_some_iff.mp hr).1
    have e1 := A1.length
    have e2 := A2.length
    rw [List.length_take] at e1 e2
    have etake : rows.take (i + 1) = rows.take i ++ [r] := by rw [List.take_add_one, hr]; rfl
    refine wpAny_mono (tA X T hS.F hS.N (List.mem_append_right _ (List.mem_append_right _ ha))) (fun _ s2 h2 => ?_) fun _ _ e => e
    obtain ⟨h', tk, rfl, F2, N2⟩ := h2
    have V2 := ((V1.put (x := Mine.T "numbers") (v := .ref na) [Mine.T "rows", Mine.T "versions", Mine.T "keys"] rfl (by decide +kernel)).put (x := Mine.T "word") (v := .str r.word t) [Mine.T "numbers", Mine.T "rows", Mine.T "versions", Mine.T "keys"] rfl (by decide +kernel)).put (x := Mine.T "plus") (v := .str r.plus u) [Mine.T "word", Mine.T "numbers", Mine.T "rows", Mine.T "versions", Mine.T "keys"] rfl (by decide +kernel)
    have S2 : LS h₀ L _ (muts2 ps1 ps va kl vv kv n n') ex₁ objs₁ os { s₁ with heap := h', toks := tk } := ⟨F2, N2, hS.ap, hS.ax, hS.G, hS.os⟩
    refine wpAny_mono (turn2 (na := na) (ra := ra) (nums := r.nums) (xw := r.word) (xp := r.plus) (tw := t) (tp := u) X T hB S2 hva hkl ht1 ht (V2.sub (by intro p hp; simp only [List.mem_cons, List.not_mem_nil, or_false] at hp ⊢; grind)) HN G.1 G.2.1 G.2.2.1 G.2.2.2 (by omega) (by omega)) (fun f s3 h3 => ?_) fun _ _ e => e
    obtain ⟨rfl, m', ps1', ps', k, k', v, kt, new, S3, V3, t1, t2, VA, KA⟩ := h3
    have sub : ∀ q ∈ objs₁, q ∈ new ++ objs₁ := fun q hq => List.mem_append_right _ hq
    refine ⟨rfl, m', _, new ++ objs₁, S3, rfl, vv ++ [v], kv ++ [kt], k, k', ps1', ps', rfl, V3, t1, t2, R1.imp fun _ _ h => h.mono sub, ?_, ?_⟩
    · rw [etake]; exact .snoc (A1.imp fun _ _ h => h.mono sub) VA
    · rw [etake]; exact .snoc (A2.imp fun _ _ h => h.mono sub) KA
  · intro m' muts' objs' s' S' e hJ
    rw [hl] at hJ
    exact hR m' muts' objs' s' S' hJ
end Mine
end
section
open PySem PySem.W PyProof.Rows PySem.Calls PySem.Spec PySem.Builtin PySem.Builtin.Str
set_option Elab.async false
set_option maxRecDepth 100000
set_option linter.unusedSimpArgs false
set_option linter.unusedVariables false
namespace Mine
def PRES : List (List Str) := [[], [T "rc"], [T "b"], [T "2"]]
theorem preW_is : ∀ w ∈ WORDS, preW w ∈ PRES := by decide +kernel
theorem preO_is {nums : List (Str × Int)} {w : Str} (hw : w ∈ WORDS) : preO nums w ∈ PRES := by
  by_cases h : 3 < nums.length
  · unfold preO; rw [if_pos h]; decide
  · rw [preO_short (by omega)]; exact preW_is w hw
theorem pres_law : ∀ P ∈ PRES, ∀ P' ∈ PRES, lexEq (preIds P) (preIds P') = midEq (midKey P) (midKey P') ∧ (lexEq (preIds P) (preIds P') = false → lexLt (preIds P) (preIds P') = midLt (midKey P) (midKey P')) ∧
    (lexEq (preIds P) (preIds P') = true → P = P') ∧ lexEq (preIds P) (preIds P') = lexEq (preIds P') (preIds P) ∧ (lexEq (preIds P) (preIds P') = false → lexLt (preIds P) (preIds P') = false → lexLt (preIds P') (preIds P) = true) ∧ (lexLt (preIds P) (preIds P') = true → lexLt (preIds P') (preIds P) = false) := by decide +kernel
abbrev lawKey (a b c : Int) (P : List Str) (ks : List T3) : Key := ⟨[a, b, c], midKey P, ks⟩
theorem key_law {a b c a' b' c' : Int} {P P' : List Str} {ids ids' : List Idn} {ks ks' : List T3} (hP : P ∈ PRES) (hP' : P' ∈ PRES) (h : Corrs ids ks) (h' : Corrs ids' ks') :
    k5Lt ⟨a, b, c, preIds P⟩ ⟨a', b', c', preIds P'⟩ ids ids' = (lawKey a b c P ks).lt (lawKey a' b' c' P' ks') := by
  obtain ⟨l1, l2, _⟩ := pres_law P hP P' hP'
  have e1 := corrs_eq h h'
  have e2 := corrs_lt h h'
  unfold k5Lt Key.lt
  simp only [gEq, gLt, iEq, iLt, Bool.and_true]
  by_cases ha : a = a'
  · subst ha
    by_cases hb : b = b'
    · subst hb
      by_cases hc : c = c'
      · subst hc
        simp only [beq_self_eq_true, Bool.and_self, if_true]
        rw [← l1, e1, e2]
        cases hl : lexEq (preIds P) (preIds P') with
        | false => simp only [Bool.false_eq_true, if_false]; exact l2 hl
        | true => rfl
      · have q : (c == c') = false := beq_eq_false_iff_ne.mpr hc
        simp only [beq_self_eq_true, Bool.true_and, if_true, q, Bool.false_eq_true, if_false]
    · have q : (b == b') = false := beq_eq_false_iff_ne.mpr hb
      simp only [beq_self_eq_true, Bool.true_and, Bool.false_and, if_true, q, Bool.false_eq_true, if_false]
  · have q : (a == a') = false := beq_eq_false_iff_ne.mpr ha
    simp only [Bool.false_and, q, Bool.false_eq_true, if_false]
theorem k5_nil {x y : K4} : k5Lt x y [] [] = x.lt y := by
  unfold k5Lt K4.lt
  rfl
theorem cmp_law {a b c a' b' c' : Int} {P P' : List Str} (hP : P ∈ PRES) (hP' : P' ∈ PRES) :
    (if (⟨a, b, c, preIds P⟩ : K4).lt ⟨a', b', c', preIds P'⟩ then (-1 : Int) else if (⟨a, b, c, preIds P⟩ : K4).eq ⟨a', b', c', preIds P'⟩ then 0 else 1) =
    (if (lawKey a b c P []).lt (lawKey a' b' c' P' []) then (-1 : Int) else if (lawKey a' b' c' P' []).lt (lawKey a b c P []) then 1 else 0) := by
  have k1 := key_law (a := a) (b := b) (c := c) (a' := a') (b' := b') (c' := c') hP hP' .nil .nil
  have k2 := key_law (a := a') (b := b') (c := c') (a' := a) (b' := b) (c' := c) hP' hP .nil .nil
  rw [k5_nil] at k1 k2
  rw [← k1, ← k2]
  obtain ⟨_, _, _, l3, l4, l5⟩ := pres_law P hP P' hP'
  unfold K4.lt K4.eq
  simp only
  by_cases ha : a = a'
  · subst ha
    by_cases hb : b = b'
    · subst hb
      by_cases hc : c = c'
      · subst hc
        simp only [beq_self_eq_true, if_true, Bool.true_and]
        rw [← l3]
        cases hl : lexEq (preIds P) (preIds P') with
        | true => simp
        | false =>
          simp only [Bool.false_eq_true, if_false]
          cases hm : lexLt (preIds P) (preIds P') with
          | true => simp
          | false => simp [l4 hl hm]
      · have e1 : (c == c') = false := beq_eq_false_iff_ne.mpr hc
        have e2 : (c' == c) = false := beq_eq_false_iff_ne.mpr (Ne.symm hc)
        simp only [beq_self_eq_true, if_true, Bool.true_and, e1, e2, Bool.false_eq_true, if_false, Bool.false_and]
        by_cases h : c < c'
        · simp [h]
        · have : c' < c := by omega
          simp [h, this]
    · have e1 : (b == b') = false := beq_eq_false_iff_ne.mpr hb
      have e2 : (b' == b) = false := beq_eq_false_iff_ne.mpr (Ne.symm hb)
      simp only [beq_self_eq_true, if_true, Bool.true_and, e1, e2, Bool.false_eq_true, if_false, Bool.false_and]
      by_cases h : b < b'
      · simp [h]
      · have : b' < b := by omega
        simp [h, this]
  · have e1 : (a == a') = false := beq_eq_false_iff_ne.mpr ha
    have e2 : (a' == a) = false := beq_eq_false_iff_ne.mpr (Ne.symm ha)
    simp only [e1, e2, Bool.false_eq_true, if_false, Bool.false_and]
    by_cases h : a < a'
    · simp [h]
    · have : a' < a := by omega
      simp [h, this]
end Mine
end
section
open PySem PySem.W PyProof.Rows PySem.Calls PySem.Spec PySem.Builtin PySem.Builtin.Str
set_option Elab.async false
set_option maxRecDepth 100000
set_option linter.unusedSimpArgs false
set_option linter.unusedVariables false
namespace Mine
section
variable {objs : List (Addr × Obj)}
theorem tup_inj {a : Addr} {xs ys : List Value} (hF : Func objs) (m1 : (a, tupObj xs) ∈ objs) (m2 : (a, tupObj ys) ∈ objs) : xs = ys := by
  have := hF _ _ _ m1 m2
  injection this with _ _ e _
  injection e with e _
  simpa using congrArg Array.toList e
theorem lst_inj {a : Addr} {xs ys : List Value} {n k : Nat} (hF : Func objs) (m1 : (a, W.listOf (List.toArray xs) n) ∈ objs) (m2 : (a, W.listOf (List.toArray ys) k) ∈ objs) : xs = ys := by
  have := hF _ _ _ m1 m2
  injection this with _ _ e _
  injection e with e _
  simpa using congrArg Array.toList e
theorem str_ltR (a b : Str) (t u : Tok) {n : Nat} : Rc .Lt (.str a t) (.str b u) objs n (strLt a b) := Rc.lt_str a b t u
/-- triples -/
theorem trip_ltL {x y x' y' : Int} {z z' : Str} {t u v t' u' v' : Tok} : LexAt .Lt objs 5 [.int x t, .int y u, .str z v] [.int x' t', .int y' u', .str z' v'] (t3Lt (x, y, z) (x', y', z')) := by
  unfold t3Lt
  simp only
  refine lex_cons (EqB.int _ _ _ _) (fun e => ?_) (fun e => ⟨(fun q => nomatch q), fun _ => by simp only [e, Bool.false_eq_true, if_false]; exact Rc.lt_int _ _ _ _⟩)
  simp only [e, if_true]
  refine lex_cons (EqB.int _ _ _ _) (fun e => ?_) (fun e => ⟨(fun q => nomatch q), fun _ => by simp only [e, Bool.false_eq_true, if_false]; exact Rc.lt_int _ _ _ _⟩)
  simp only [e, if_true]
  refine lex_cons (EqB.str _ _ _ _) (fun e => ?_) (fun e => ⟨(fun q => nomatch q), fun _ => by simp only [e, Bool.false_eq_true, if_false]; exact str_ltR _ _ _ _⟩)
  simp only [e, if_true]
  exact .nilL []
theorem trip_eqL {x y x' y' : Int} {z z' : Str} {t u v t' u' v' : Tok} : LexAt .Eq objs 5 [.int x t, .int y u, .str z v] [.int x' t', .int y' u', .str z' v'] (t3Eq (x, y, z) (x', y', z')) := by
  unfold t3Eq
  simp only
  refine lex_cons (EqB.int _ _ _ _) (fun e => ?_) (fun e => ⟨fun _ => by simp [e], fun q => absurd rfl q⟩)
  simp only [e, Bool.true_and]
  refine lex_cons (EqB.int _ _ _ _) (fun e => ?_) (fun e => ⟨fun _ => by simp [e], fun q => absurd rfl q⟩)
  simp only [e, Bool.true_and]
  refine lex_cons (EqB.str _ _ _ _) (fun e => ?_) (fun e => ⟨fun _ => by simp [e], fun q => absurd rfl q⟩)
  simp only [e]
  exact .nilL []
theorem t3Eq_refl (x : T3) : t3Eq x x = true := by simp [t3Eq]
theorem trip_eqB {a b : Addr} {x y x' y' : Int} {z z' : Str} {t u v t' u' v' : Tok} (m1 : (a, tupObj [.int x t, .int y u, .str z v]) ∈ objs) (m2 : (b, tupObj [.int x' t', .int y' u', .str z' v']) ∈ objs) : EqB (.ref a) (.ref b) objs 15 (t3Eq (x, y, z) (x', y', z')) :=
  fun {w loose mean mg mb A h₀ s Q E} hh hr hu H hq => by
    by_cases hij : a = b
    · subst hij
      have e := tup_inj H.func m1 m2
      injection e with e1 e
      injection e with e2 e
      injection e with e3 e
      injection e1 with e1
      injection e2 with e2
      injection e3 with e3
      subst e1 e2 e3
      rw [t3Eq_refl] at hq
      exact EqB.same hh hr hu H hq
    · exact (EqB.refs hij (tup_eq m1 m2 trip_eqL)) hh hr hu H hq
theorem trips_eq {ks ks' : List T3} {vs ws : List Value} (h : TripRow objs ks vs) (h' : TripRow objs ks' ws) : LexAt .Eq objs 15 vs ws (gEq t3Eq ks ks') := by
  induction h generalizing ks' ws with
  | nil =>
    cases h' with
    | nil => exact .nilL []
    | cons m r => exact .nilL _
  | cons m r ih =>
    cases h' with
    | nil => exact .nilR _ _
    | cons m' r' =>
      simp only [gEq]
      exact lex_cons (trip_eqB m m') (fun e => by simp only [e, Bool.true_and]; exact ih r') (fun e => ⟨fun _ => by simp [e], fun q => absurd rfl q⟩)
theorem trips_lt {ks ks' : List T3} {vs ws : List Value} (h : TripRow objs ks vs) (h' : TripRow objs ks' ws) : LexAt .Lt objs 15 vs ws (gLt t3Eq t3Lt ks ks') := by
  induction h generalizing ks' ws with
  | nil =>
    cases h' with
    | nil => exact .nilL []
    | cons m r => exact .nilL _
  | cons m r ih =>
    cases h' with
    | nil => exact .nilR _ _
    | cons m' r' =>
      simp only [gLt]
      exact lex_cons (trip_eqB m m') (fun e => by simp only [e, if_true]; exact ih r') (fun e => ⟨(fun q => nomatch q), fun _ => by simp only [e, Bool.false_eq_true, if_false]; exact tup_lt m m' trip_ltL⟩)
theorem gEq_refl {α : Type} {e : α → α → Bool} (h : ∀ x, e x x = true) : ∀ l : List α, gEq e l l = true := by
  intro l
  induction l with
  | nil => rfl
  | cons a r ih => simp only [gEq]; rw [h, ih]; rfl
theorem trips_det (hF : Func objs) {ks ks' : List T3} {vs : List Value} (h : TripRow objs ks vs) (h' : TripRow objs ks' vs) : ks = ks' := by
  induction h generalizing ks' with
  | nil => cases h'; rfl
  | cons m r ih =>
    cases h' with
    | cons m' r' =>
      have e := tup_inj hF m m'
      injection e with e1 e
      injection e with e2 e
      injection e with e3 e
      injection e1 with e1
      injection e2 with e2
      injection e3 with e3
      subst e1 e2 e3
      rw [ih r']
theorem ka_eqB {a b : Addr} {ks ks' : List T3} {vs ws : List Value} {n k : Nat} (m1 : (a, W.listOf (List.toArray vs) n) ∈ objs) (m2 : (b, W.listOf (List.toArray ws) k) ∈ objs) (h : TripRow objs ks vs) (h' : TripRow objs ks' ws) : EqB (.ref a) (.ref b) objs 25 (gEq t3Eq ks ks') :=
  fun {w loose mean mg mb A h₀ s Q E} hh hr hu H hq => by
    by_cases hij : a = b
    · subst hij
      have e := lst_inj H.func m1 m2
      subst e
      have e2 := trips_det H.func h h'
      subst e2
      rw [gEq_refl t3Eq_refl] at hq
      exact EqB.same hh hr hu H hq
    · exact (EqB.refs hij (lst_eq m1 m2 (trips_eq h h'))) hh hr hu H hq
theorem ints_eqL : ∀ {vs ws : List Value} {ns ns' : List Int}, IntsAre vs ns → IntsAre ws ns' → LexAt .Eq objs 5 vs ws (gEq iEq ns ns') := by
  intro vs ws ns ns' h
  induction h generalizing ws ns' with
  | nil =>
    intro h'
    cases h' with
    | nil => exact .nilL []
    | cons a t r => exact .nilL _
  | cons a t r ih =>
    intro h'
    cases h' with
    | nil => exact .nilR _ _
    | cons b u r' =>
      simp only [gEq]
      exact lex_cons (EqB.int _ _ _ _) (fun e => by simp only [iEq, e, Bool.true_and]; exact ih r') (fun e => ⟨fun _ => by simp [iEq, e], fun q => absurd rfl q⟩)
theorem ints_ltL : ∀ {vs ws : List Value} {ns ns' : List Int}, IntsAre vs ns → IntsAre ws ns' → LexAt .Lt objs 5 vs ws (gLt iEq iLt ns ns') := by
  intro vs ws ns ns' h
  induction h generalizing ws ns' with
  | nil =>
    intro h'
    cases h' with
    | nil => exact .nilL []
    | cons a t r => exact .nilL _
  | cons a t r ih =>
    intro h'
    cases h' with
    | nil => exact .nilR _ _
    | cons b u r' =>
      simp only [gLt]
      exact lex_cons (EqB.int _ _ _ _) (fun e => by simp only [iEq, e, if_true]; exact ih r') (fun e => ⟨(fun q => nomatch q), fun _ => by simp only [iEq, e, Bool.false_eq_true, if_false]; exact Rc.lt_int _ _ _ _⟩)
theorem ints_det : ∀ {vs : List Value} {ns ns' : List Int}, IntsAre vs ns → IntsAre vs ns' → ns = ns' := by
  intro vs ns ns' h
  induction h generalizing ns' with
  | nil => intro h'; cases h'; rfl
  | cons a t r ih => intro h'; cases h' with | cons _ _ r' => rw [ih r']
theorem ns_eqB {a b : Addr} {ns ns' : List Int} {vs ws : List Value} {n k : Nat} (m1 : (a, W.listOf (List.toArray vs) n) ∈ objs) (m2 : (b, W.listOf (List.toArray ws) k) ∈ objs) (h : IntsAre vs ns) (h' : IntsAre ws ns') : EqB (.ref a) (.ref b) objs 25 (gEq iEq ns ns') :=
  fun {w loose mean mg mb A h₀ s Q E} hh hr hu H hq => by
    by_cases hij : a = b
    · subst hij
      have e := lst_inj H.func m1 m2
      subst e
      have e2 := ints_det h h'
      subst e2
      rw [gEq_refl (fun x => by simp [iEq])] at hq
      exact EqB.same hh hr hu H hq
    · exact (EqB.mono (EqB.refs hij (lst_eq m1 m2 (ints_eqL h h'))) (fun _ h => h) (by omega)) hh hr hu H hq
theorem mid_ltL {x x' : Int} {z z' : Str} {t v t' v' : Tok} : LexAt .Lt objs 5 [.int x t, .str z v] [.int x' t', .str z' v'] (midLt (x, z) (x', z')) := by
  unfold midLt
  simp only
  refine lex_cons (EqB.int _ _ _ _) (fun e => ?_) (fun e => ⟨(fun q => nomatch q), fun _ => by simp only [e, Bool.false_eq_true, if_false]; exact Rc.lt_int _ _ _ _⟩)
  simp only [e, if_true]
  refine lex_cons (EqB.str _ _ _ _) (fun e => ?_) (fun e => ⟨(fun q => nomatch q), fun _ => by simp only [e, Bool.false_eq_true, if_false]; exact str_ltR _ _ _ _⟩)
  simp only [e, if_true]
  exact .nilL []
theorem mid_eqL {x x' : Int} {z z' : Str} {t v t' v' : Tok} : LexAt .Eq objs 5 [.int x t, .str z v] [.int x' t', .str z' v'] (midEq (x, z) (x', z')) := by
  unfold midEq
  simp only
  refine lex_cons (EqB.int _ _ _ _) (fun e => ?_) (fun e => ⟨fun _ => by simp [e], fun q => absurd rfl q⟩)
  simp only [e, Bool.true_and]
  refine lex_cons (EqB.str _ _ _ _) (fun e => ?_) (fun e => ⟨fun _ => by simp [e], fun q => absurd rfl q⟩)
  simp only [e]
  exact .nilL []
theorem mid_eqB {a b : Addr} {p p' : Int × Str} {t v t' v' : Tok} (m1 : (a, tupObj [.int p.1 t, .str p.2 v]) ∈ objs) (m2 : (b, tupObj [.int p'.1 t', .str p'.2 v']) ∈ objs) : EqB (.ref a) (.ref b) objs 25 (midEq p p') :=
  fun {w loose mean mg mb A h₀ s Q E} hh hr hu H hq => by
    by_cases hij : a = b
    · subst hij
      have e := tup_inj H.func m1 m2
      injection e with e1 e
      injection e with e3 e
      injection e1 with e1
      injection e3 with e3
      have e5 : p = p' := Prod.ext e1 e3
      subst e5
      rw [show midEq p p = true by simp [midEq]] at hq
      exact EqB.same hh hr hu H hq
    · exact (EqB.mono (EqB.refs hij (tup_eq m1 m2 mid_eqL)) (fun _ h => h) (by omega)) hh hr hu H hq
/-- the law's keys, compared -/
theorem key_rc {kt kt' D D' pk pk' ka ka' : Addr} {k k' : Key} {vs vs' ws ws' : List Value} {n1 n2 n3 n4 : Nat} {t v t' v' : Tok} (m1 : (kt, tupObj [.ref D, .ref pk, .ref ka]) ∈ objs) (m2 : (kt', tupObj [.ref D', .ref pk', .ref ka']) ∈ objs)
    (d1 : (D, W.listOf (List.toArray vs) n1) ∈ objs) (d2 : (D', W.listOf (List.toArray vs') n2) ∈ objs) (i1 : IntsAre vs k.ns) (i2 : IntsAre vs' k'.ns) (p1 : (pk, tupObj [.int k.mid.1 t, .str k.mid.2 v]) ∈ objs) (p2 : (pk', tupObj [.int k'.mid.1 t', .str k'.mid.2 v']) ∈ objs)
    (q1 : (ka, W.listOf (List.toArray ws) n3) ∈ objs) (q2 : (ka', W.listOf (List.toArray ws') n4) ∈ objs) (r1 : TripRow objs k.ks ws) (r2 : TripRow objs k'.ks ws') : Rc .Lt (.ref kt) (.ref kt') objs 40 (k.lt k') := by
  refine Rc.mono (tup_lt (u := 25) m1 m2 ?_) (fun _ h => h) (by omega)
  unfold Key.lt
  refine lex_cons (ns_eqB d1 d2 i1 i2) (fun e => ?_) (fun e => ⟨(fun q => nomatch q), fun _ => by simp only [e, Bool.false_eq_true, if_false]; exact Rc.mono (lst_lt d1 d2 (ints_ltL i1 i2)) (fun _ h => h) (by omega)⟩)
  simp only [e, if_true]
  refine lex_cons (mid_eqB p1 p2) (fun e => ?_) (fun e => ⟨(fun q => nomatch q), fun _ => by simp only [e, Bool.false_eq_true, if_false]; exact Rc.mono (tup_lt p1 p2 mid_ltL) (fun _ h => h) (by omega)⟩)
  simp only [e, if_true]
  refine lex_cons (ka_eqB q1 q2 r1 r2) (fun e => ?_) (fun e => ⟨(fun q => nomatch q), fun _ => by simp only [e, Bool.false_eq_true, if_false]; exact lst_lt q1 q2 (trips_lt r1 r2)⟩)
  simp only [e, if_true]
  exact .nilL []
end
end Mine
end
section
local macro_rules | `(tactic| walk_at "pad") => `(tactic| fail)
local macro_rules | `(tactic| walk_at "pad") => `(tactic| fail)
local macro_rules | `(tactic| walk_at "pad") => `(tactic| fail)
local macro_rules | `(tactic| walk_at "pad") => `(tactic| fail)
local macro_rules | `(tactic| walk_at "pad") => `(tactic| fail)
local macro_rules | `(tactic| walk_at "pad") => `(tactic| fail)
local macro_rules | `(tactic| walk_at "pad") => `(tactic| fail)
theorem Mine.reset_U1 : True := by w_top off; trivial
open PySem PySem.W PyProof.Rows PySem.Calls PySem.Spec
set_option Elab.async false
set_option maxRecDepth 100000
set_option linter.unusedSimpArgs false
set_option linter.unusedVariables false
namespace Mine
theorem fillU1 : (PySem.Challenge.rw_ci0037_01, Mine.hd.heap_39) = (PySem.Challenge.rw_ci0037_01, Mine.hd.heap_39) := by k_fill; rfl
theorem sort_rc {a b c a' b' c' : Int} {pre bld pre' bld' : List (Str × Tok)} {sk sk' : Addr} {ko ko' objs : List (Addr × Obj)} (K5 : Key5 a b c pre bld sk ko) (K5' : Key5 a' b' c' pre' bld' sk' ko') (s1 : ∀ q ∈ ko, q ∈ objs) (s2 : ∀ q ∈ ko', q ∈ objs) :
    Rc .Lt (.ref sk) (.ref sk') objs 100 (k5Lt ⟨a, b, c, preIds (pre.map (·.1))⟩ ⟨a', b', c', preIds (pre'.map (·.1))⟩ ((bld.map (·.1)).map idnOf) ((bld'.map (·.1)).map idnOf)) := by
  obtain ⟨m1, m2, m3, pk, bk, kp, vs, ob, hp, hi, rfl⟩ := K5
  obtain ⟨m1', m2', m3', pk', bk', kp', vs', ob', hp', hi', rfl⟩ := K5'
  obtain ⟨ws, w1, w2⟩ := pre_row hp
  obtain ⟨ws', w1', w2'⟩ := pre_row hp'
  have sp : ∀ q ∈ kp, q ∈ objs := fun q hq => s1 q (.tail _ (.tail _ (List.mem_append_left _ hq)))
  have sp' : ∀ q ∈ kp', q ∈ objs := fun q hq => s2 q (.tail _ (.tail _ (List.mem_append_left _ hq)))
  have so : ∀ q ∈ ob, q ∈ objs := fun q hq => s1 q (.tail _ (.tail _ (List.mem_append_right _ hq)))
  have so' : ∀ q ∈ ob', q ∈ objs := fun q hq => s2 q (.tail _ (.tail _ (List.mem_append_right _ hq)))
  have z := k5_lt (m1 := m1) (m2 := m2) (m3 := m3) (n1 := m1') (n2 := m2') (n3 := m3') (x := ⟨a, b, c, preIds (pre.map (·.1))⟩) (y := ⟨a', b', c', preIds (pre'.map (·.1))⟩) (sp _ w1) (sp' _ w1') (w2.mono sp) (w2'.mono sp') (s1 _ (.tail _ (.head _))) (s2 _ (.tail _ (.head _))) ((ids_row hi).mono so) ((ids_row hi').mono so')
  have z2 : Rc .Lt (.ref sk) (.ref sk') objs (90 + 10) _ := tup_lt (s1 _ (.head _)) (s2 _ (.head _)) z
  exact @z2
section
variable {w : World} {A : Around} {E : Value → Shared → Prop} {s : Shared} {h₀ : Heap} {L l : Addr}
theorem idx_at {value slice : PySem.Expr} {led : List (Addr × Obj)} {vals : List Value} {n i : Nat} {v : Value} {u : Tok} {Q : Value → Shared → Prop} (N : News h₀ L s.heap led) (hm : (l, W.listOf (List.toArray vals) n) ∈ led) (e : vals[i]? = some v) (hi : i ≤ 1000) (h : Q v s)
    (hs : subscripted slice false (.ref l) (.int (i : Int) u) = operate [.ref l, .int (i : Int) u] (getItem (.ref l) (.int (i : Int) u)) := by with_unfolding_all rfl) :
    wpAny (model PR w) A (subscriptTail value slice (.ref l) (.int (i : Int) u)) Q E s := by
  have hl : s.heap.IsList l vals.toArray := ⟨_, (N _ hm).1, rfl, n, rfl⟩
  refine tail_any hl.typeIs slot_list_getitem.lookup ?_ hs
  exact wpAny_getItem_list hl (by omega) (by omega) (x := v) (by simpa using e) h
end
local macro_rules | `(tactic| walk_at "LeaveH") => `(tactic| (k_dflt (refine' LeaveH.intro ?k1 ?k2 ?k3 ?_; (case k1 => k_asm); (case k2 => k_asm); (case k3 => (repeat' (first | exact List.forall_mem_nil _ | refine List.forall_mem_cons.mpr ⟨by k_mem, ?_⟩))); k_whole); intro kK; (try dsimp only)))
set_option maxHeartbeats 4000000 in
theorem prop_sk {w : World} {loose : List Str} {mean : ExcName → Option Value} {mg mb : Str → Option Value} {A : Around} (hh : A.handled = none) (hroom : A.depth + 10 < recursionLimit)
    {v dx tp tb ck sk : Addr} {h1 h2 h3 h4 h5 h6 h7 h8 : Int} {k1 k2 k3 k4 k5 k6 k7 k8 m1 m2 m3 : Tok} {v1 v2 v3 : Int}
    {h₀ : Heap} {s : Shared} {Q E : Value → Shared → Prop}
    (H : Has w loose mean mg mb h₀ [(v, instObj 388 dx), (dx, dictOf (verDict8 h1 h2 h3 h4 h5 h6 h7 h8 k1 k2 k3 k4 k5 k6 k7 k8 (.int v1 m1) (.int v2 m2) (.int v3 m3) (.ref tp) (.ref tb) (.bool false) (.ref ck) (.ref sk)) 8)] s.heap)
    (hret : ∀ (h' : Heap) (tk' : Nat), (∀ b o, s.heap.get? b = some o → h'.get? b = some o) → Q (.ref sk) { s with heap := h', toks := tk' }) :
    codeAny (model PR w) A (.call (.ref 335) ⟨[.ref v], []⟩) (fun r s' => match r with | .ok (.ret v) => Q v s' | .ok _ => False | .error e => E e s') s := by
  k_dflt (refine' enterH H ?k6 ?k7 ?k8 ?k9 ?kB ?_ ?c2 ?c3 ?c4 ?c5; (case k6 => k_is); (case k7 => k_is); (case k8 => ktr_room); (case k9 => first | exact BindsTo.of_eq rfl | exact binds_K (by k_in) rfl (by k_is) rfl rfl rfl); (case c5 => decide); (case kB => exact locs rfl); (case c2 => exact rfl); (case c3 => exact rfl); (case c4 => exact rfl); k_whole; intro g L' h' X' T' K' F' N'; (try dsimp only); (try k_fold))
  clear H
  k_steps
  rename_i kK
  exact hret _ _ kK
theorem has2 {w : World} {loose : List Str} {mean : ExcName → Option Value} {mg mb : Str → Option Value} {h₀ h : Heap} {L : Addr} {m : Str → Option Value} {led : List (Addr × Obj)} {a b : Addr × Obj} (F : Fr h₀ L h m) (X : (Mine.hd.heap_39 w.params).In h₀) (T : Top topProg loose mean mg mb h₀) (N : News h₀ L h led) (q1 : a ∈ led) (q2 : b ∈ led) : Has w loose mean mg mb h₀ [a, b] h := Has.of F X T N fun q hq => by
  simp only [List.mem_cons, List.not_mem_nil, or_false] at hq
  rcases hq with rfl | rfl
  · exact q1
  · exact q2
theorem prop_at {w : World} {loose : List Str} {mean : ExcName → Option Value} {mg mb : Str → Option Value} {A : Around} (hh : A.in1.handled = none) (hroom : A.in1.depth + 10 < recursionLimit)
    {v dx tp tb ck sk : Addr} {h1 h2 h3 h4 h5 h6 h7 h8 : Int} {k1 k2 k3 k4 k5 k6 k7 k8 m1 m2 m3 : Tok} {v1 v2 v3 : Int} {b : Bool}
    {h₀ : Heap} {L : Addr} {m : Str → Option Value} {led : List (Addr × Obj)} {s : Shared} {Q E : Value → Shared → Prop} (F : Fr h₀ L s.heap m) (X : (Mine.hd.heap_39 w.params).In h₀) (T : Top topProg loose mean mg mb h₀) (N : News h₀ L s.heap led)
    (q1 : (v, instObj 388 dx) ∈ led) (q2 : (dx, dictOf (verDict8 h1 h2 h3 h4 h5 h6 h7 h8 k1 k2 k3 k4 k5 k6 k7 k8 (.int v1 m1) (.int v2 m2) (.int v3 m3) (.ref tp) (.ref tb) (.bool false) (.ref ck) (.ref sk)) 8) ∈ led)
    (hret : ∀ (h' : Heap) (tk' : Nat), Fr h₀ L h' m → News h₀ L h' led → Q (.ref sk) { s with heap := h', toks := tk' }) :
    wpAny (model PR w) A (getAttr (.ref v) (PySem.Str.ofString "precedence_key") b) Q E s := by
  k_dflt (refine' get_prop ?k1 ?k2 ?k3 ?k4 ?k5 ?k6 ?k7 ?k8 ?k9 ?_; (case k1 => exact F); (case k2 => exact X); (case k3 => exact InstAt.of_news N q1 q2); (case k4 => k_is); (case k5 => k_is); (case k6 => k_is); (case k7 => k_is); (case k8 => k_is); (case k9 => k_is))
  refine prop_sk hh hroom (has2 F X T N q1 q2) fun h' tk' k => ?_
  · exact handed_on rfl (hret h' tk' (F.keeps k) fun q hq => ⟨k _ _ (N q hq).1, (N q hq).2⟩)
local macro_rules | `(tactic| walk_at "getAttr ref") => `(tactic| (k_here; (with_reducible show wpAny _ _ (getAttr (Value.ref _) (PySem.Str.ofString "precedence_key") _) _ _ _); k_dflt (refine' prop_at ?hh ?hr ?F ?X ?T ?N ?q1 ?q2 ?_; (case hh => exact rfl); (case hr => ktr_room); (case F => k_asm); (case X => k_asm); (case T => k_asm); (case N => k_asm); (case q1 => k_mem); (case q2 => k_mem)); intro h9 tk9 F9 N9; (try dsimp only)))
local macro_rules | `(tactic| walk_at "subscriptTail Name Name ref int") => `(tactic| (k_here; k_dflt (refine' idx_at ?N ?m ?e ?i ?_ ?hs; (case N => k_asm); (case m => k_mem); (case e => with_reducible assumption); (case i => with_reducible assumption); (case hs => with_unfolding_all rfl)); (try dsimp only)))
local macro_rules | `(tactic| walk_at "compareOp Lt ref ref") => `(tactic| (k_here; (with_reducible show wpAny _ _ (compareOp CmpOp.Lt (Value.ref _) (Value.ref _)) _ _ _); k_dflt (refine' cmp_lt ?R ?hh ?hr ?hu ?F ?X ?T ?N ?sub ?_; (case R => with_reducible assumption); (case hh => exact rfl); (case hr => ktr_room); (case hu => ktr_units); (case F => k_asm); (case X => k_asm); (case T => k_asm); (case N => k_asm); (case sub => intro q9 hq9; (repeat' (first | exact hq9 | refine List.Mem.tail _ ?_)))); intro h9 tk9 F9 N9; (try dsimp only)))
set_option pp.deepTerms false in
set_option pp.deepTerms.threshold 5 in
set_option maxHeartbeats 4000000 in
theorem u1 {w : World} {loose : List Str} {mean : ExcName → Option Value} {mg mb : Str → Option Value} {h₀ : Heap} {s : Shared} {L va kl a dx tp tb ck sk a' dx' tp' tb' ck' sk' kt kt' : Addr} {m : Str → Option Value} {led : List (Addr × Obj)} {E : Value → Shared → Prop} {i j n1 n2 : Nat} {tn tm : Tok} {vv kv : List Value} {bv bk : Bool}
    {v1 v2 v3 h1 h2 h3 h4 h5 h6 h7 h8 : Int} {k1 k2 k3 k4 k5 k6 k7 k8 m1 m2 m3 : Tok} {v1' v2' v3' h1' h2' h3' h4' h5' h6' h7' h8' : Int} {k1' k2' k3' k4' k5' k6' k7' k8' m1' m2' m3' : Tok}
    (X : (Mine.hd.heap_39 w.params).In h₀) (T : Top topProg loose mean mg mb h₀) (hB : Below callerA h₀ [] h₀) (F : Fr h₀ L s.heap m) (N : News h₀ L s.heap led)
    (hf : ∀ q ∈ (((va, W.listOf (List.toArray vv) n1) :: (kl, W.listOf (List.toArray kv) n2) :: (a, instObj 388 dx) :: (dx, dictOf (verDict8 h1 h2 h3 h4 h5 h6 h7 h8 k1 k2 k3 k4 k5 k6 k7 k8 (.int v1 m1) (.int v2 m2) (.int v3 m3) (.ref tp) (.ref tb) (.bool false) (.ref ck) (.ref sk)) 8) :: (a', instObj 388 dx') :: (dx', dictOf (verDict8 h1' h2' h3' h4' h5' h6' h7' h8' k1' k2' k3' k4' k5' k6' k7' k8' (.int v1' m1') (.int v2' m2') (.int v3' m3') (.ref tp') (.ref tb') (.bool false) (.ref ck') (.ref sk')) 8) :: []) : List (Addr × Obj)), q ∈ led)
    (V : Vars m [(Mine.T "n", .int (i : Int) tn), (Mine.T "m", .int (j : Int) tm), (Mine.T "versions", .ref va), (Mine.T "keys", .ref kl)]) (e1 : vv[i]? = some (.ref a)) (e2 : vv[j]? = some (.ref a')) (e3 : kv[i]? = some (.ref kt)) (e4 : kv[j]? = some (.ref kt')) (hi : i ≤ 1000) (hj : j ≤ 1000)
    (RV : Rc .Lt (.ref sk) (.ref sk') led 100 bv) (RK : Rc .Lt (.ref kt) (.ref kt') led 40 bk) (hb : (bv != bk) = false) :
    wpAny (model PR w) (lawA L) (exec (st4 0) (lawEnv L)) (KeepPost h₀ L m led s) E s := by
  have N1 : News h₀ L s.heap ((va, W.listOf (List.toArray vv) n1) :: (kl, W.listOf (List.toArray kv) n2) :: (a, instObj 388 dx) :: (dx, dictOf (verDict8 h1 h2 h3 h4 h5 h6 h7 h8 k1 k2 k3 k4 k5 k6 k7 k8 (.int v1 m1) (.int v2 m2) (.int v3 m3) (.ref tp) (.ref tb) (.bool false) (.ref ck) (.ref sk)) 8) :: (a', instObj 388 dx') :: (dx', dictOf (verDict8 h1' h2' h3' h4' h5' h6' h7' h8' k1' k2' k3' k4' k5' k6' k7' k8' (.int v1' m1') (.int v2' m2') (.int v3' m3') (.ref tp') (.ref tb') (.bool false) (.ref ck') (.ref sk')) 8) :: led) := fun q hq => by
    rcases List.mem_append.mp (show q ∈ ((va, W.listOf (List.toArray vv) n1) :: (kl, W.listOf (List.toArray kv) n2) :: (a, instObj 388 dx) :: (dx, dictOf (verDict8 h1 h2 h3 h4 h5 h6 h7 h8 k1 k2 k3 k4 k5 k6 k7 k8 (.int v1 m1) (.int v2 m2) (.int v3 m3) (.ref tp) (.ref tb) (.bool false) (.ref ck) (.ref sk)) 8) :: (a', instObj 388 dx') :: (dx', dictOf (verDict8 h1' h2' h3' h4' h5' h6' h7' h8' k1' k2' k3' k4' k5' k6' k7' k8' (.int v1' m1') (.int v2' m2') (.int v3' m3') (.ref tp') (.ref tb') (.bool false) (.ref ck') (.ref sk')) 8) :: []) ++ led from hq) with hq | hq
    · exact N q (hf q hq)
    · exact N q hq
  clear N
  have F1 := V.look F
  clear F
  conv in st4 0 => whnf
  unfold lawA lawEnv
  conv in (occs := *) lawScope => all_goals whnf
  simp only [over] at F1
  k_steps
  exact KeepPost.intro V (by assumption) (by assumption) (fun q hq => by (repeat' (first | exact hq | refine List.Mem.tail _ ?_)))
end Mine
end
section
local macro_rules | `(tactic| walk_at "pad") => `(tactic| fail)
local macro_rules | `(tactic| walk_at "pad") => `(tactic| fail)
local macro_rules | `(tactic| walk_at "pad") => `(tactic| fail)
local macro_rules | `(tactic| walk_at "pad") => `(tactic| fail)
local macro_rules | `(tactic| walk_at "pad") => `(tactic| fail)
local macro_rules | `(tactic| walk_at "pad") => `(tactic| fail)
local macro_rules | `(tactic| walk_at "pad") => `(tactic| fail)
local macro_rules | `(tactic| walk_at "pad") => `(tactic| fail)
local macro_rules | `(tactic| walk_at "pad") => `(tactic| fail)
theorem Mine.reset_U2 : True := by w_top off; trivial
open PySem PySem.W PyProof.Rows PySem.Calls PySem.Spec
set_option Elab.async false
set_option maxRecDepth 100000
set_option linter.unusedSimpArgs false
set_option linter.unusedVariables false
namespace Mine
theorem fillU2 : (PySem.Challenge.rw_ci0037_01, Mine.hd.heap_39) = (PySem.Challenge.rw_ci0037_01, Mine.hd.heap_39) := by k_fill; rfl
theorem no_a {r : Int} {bk bk' : Bool} (hr : r = if bk = true then -1 else if bk' = true then 1 else 0) (h : bk = true) (h2 : r ≠ -1) : False := h2 (by rw [hr, if_pos h])
theorem no_b {r : Int} {bk bk' : Bool} (hr : r = if bk = true then -1 else if bk' = true then 1 else 0) (h : bk = false) (h' : bk' = true) (h2 : r ≠ 1) : False := h2 (by rw [hr, h, if_neg (by simp), if_pos h'])
theorem no_c {r : Int} {bk bk' : Bool} (hr : r = if bk = true then -1 else if bk' = true then 1 else 0) (h : bk = false) (h' : bk' = false) (h2 : r ≠ 0) : False := h2 (by rw [hr, h, h', if_neg (by simp), if_neg (by simp)])
theorem subN {a b c : List (Addr × Obj)} (h : ∀ q ∈ a, q ∈ b) (h2 : ∀ q ∈ b, q ∈ c) : ∀ q ∈ a, q ∈ c := fun q hq => h2 q (h q hq)
theorem news_pick {h₀ h : Heap} {L : Addr} {q : Addr × Obj} {l : List (Addr × Obj)} (N : News h₀ L h l) (m : q ∈ l) : News h₀ L h [q] := fun p hp => by rw [List.mem_singleton.mp hp]; exact N q m
def TabPost (h₀ : Heap) (L : Addr) (m : Str → Option Value) (led : List (Addr × Obj)) (s : Shared) (f : Flow) (s' : Shared) : Prop :=
  f = .next ∧ ∃ ps, Fr h₀ L s'.heap m ∧ News h₀ L s'.heap ((323, tabObj ps) :: led) ∧ TriplesOk ps.toList ∧ AllBare s'.gens ∧ s'.os = s.os
theorem TabPost.intro {h₀ : Heap} {L : Addr} {m : Str → Option Value} {led led' : List (Addr × Obj)} {s s' : Shared} {l : List (Str × Value)} {ps : Array Value} (V : Vars m l) (F : Fr h₀ L s'.heap (over l m)) (N : News h₀ L s'.heap led') (m1 : (323, tabObj ps) ∈ led') (hs : ∀ q ∈ led, q ∈ led') (ht : TriplesOk ps.toList) (G : AllBare s'.gens) (o : s'.os = s.os) : TabPost h₀ L m led s .next s' :=
  ⟨rfl, ps, (over_eq V) ▸ F, fun q hq => (List.mem_cons.mp hq).elim (fun e => by rw [e]; exact N _ m1) fun hq => N q (hs q hq), ht, G, o⟩
local macro_rules | `(tactic| walk_at "subscriptTail Name Name ref int") => `(tactic| (k_here; k_dflt (refine' idx_at ?N ?m ?e ?i ?_ ?hs; (case N => k_asm); (case m => first | k_mem | exact List.mem_cons_of_mem _ (by with_reducible assumption)); (case e => with_reducible assumption); (case i => with_reducible assumption); (case hs => with_unfolding_all rfl)); (try dsimp only)))
local macro_rules | `(tactic| walk_at "compareOp Lt ref ref") => `(tactic| (k_here; (with_reducible show wpAny _ _ (compareOp CmpOp.Lt (Value.ref _) (Value.ref _)) _ _ _); k_dflt (refine' cmp_lt ?R ?hh ?hr ?hu ?F ?X ?T ?N ?sub ?_; (case R => with_reducible assumption); (case hh => exact rfl); (case hr => ktr_room); (case hu => ktr_units); (case F => k_asm); (case X => k_asm); (case T => k_asm); (case N => k_asm); (case sub => intro q9 hq9; (repeat' (first | exact hq9 | refine List.Mem.tail _ ?_)))); intro h9 tk9 F9 N9; (try dsimp only)))
local macro_rules | `(tactic| walk_at "call type:str") => `(tactic| (k_here; k_dflt (refine' str_at ?hh ?hr ?hu ?F ?X ?T ?N ?I ?hv ?O ?_; (case F => k_asm); (case X => k_asm); (case T => k_asm); (case N => k_asm); (case hh => exact rfl); (case hr => ktr_room); (case hu => ktr_units); (case I => with_reducible assumption); (case hv => first | with_reducible assumption | exact subN (by with_reducible assumption) (by intro q9 hq9; (repeat' (first | exact hq9 | refine List.Mem.tail _ ?_)))); (case O => with_reducible assumption)); intro t9 h9 tk9 F9 N9; (try dsimp only)))
local macro_rules | `(tactic| walk_at "binaryOp Add ref ref") => `(tactic| (k_here; (with_reducible show wpAny _ _ (binaryOp _ (Value.ref _) (Value.ref _)) _ _ _); k_dflt (refine' list_add ?F ?N ?m1 ?m2 ?nx9 ?ny9 ?_; (case F => k_asm); (case N => k_asm); (case m1 => k_mem); (case m2 => k_mem); (case nx9 => with_reducible assumption); (case ny9 => with_reducible assumption)); intro D' h' F' N' l1; (try k_lt l1)))
local macro_rules | `(tactic| walk_at "compareOp Eq ref ref") => `(tactic| (k_here; k_dflt (refine' cmp_eq (eq_empty ?m1 ?m2) ?hh ?hr ?hu ?F ?X ?T ?N (fun _ h => h) ?_; (case F => k_asm); (case X => k_asm); (case T => k_asm); (case N => k_asm); (case m1 => k_mem); (case m2 => k_mem); (case hh => exact rfl); (case hr => ktr_room); (case hu => ktr_units)); intro h9 tk9 F9 N9; (try dsimp only)))
theorem compare_at {w : World} {mg mb : Str → Option Value} {loose : List Str} {mean : ExcName → Option Value} {x x' : Str} {t1 t1' : Tok} {ga gb gc : Str} {gp gq : Option Str} {i1 i2 i3 : Int} (H : POK x ga gb gc gp gq i1 i2 i3) {ga' gb' gc' : Str} {gp' gq' : Option Str} {i1' i2' i3' : Int} (H' : POK x' ga' gb' gc' gp' gq' i1' i2' i3')
    {r : Int} (hC : CmpAll i1 i2 i3 gp gq i1' i2' i3' gp' gq' r)
    {dp un : Nat} {gd : Option (List Code)} {cn : Str} {cs : Scope} {a : Addr} {ccd : Value} {cl : List (Str × Addr)} {outer : List Env} {A₀ : Around} {base h₀ : Heap} {L : Addr} {m : Str → Option Value} {s : Shared} {Q E : Value → Shared → Prop} {big led : List (Addr × Obj)} {ps : Array Value}
    (B : Below A₀ base outer h₀) (F : Fr h₀ L s.heap m) (X : (Mine.hd.heap_39 w.params).In h₀) (N : News h₀ L s.heap big) (hap : ∀ q ∈ ([(323, tabObj ps)] : List (Addr × Obj)), ∀ r ∈ led, q.1 ≠ r.1) (m1 : (323, tabObj ps) ∈ big) (hs : ∀ q ∈ led, q ∈ big) (ht : TriplesOk ps.toList) (G : AllBare s.gens) (T : Top topProg loose mean mg mb h₀) (hk : cs.kind = .function) (hd : dp + 300 < recursionLimit) (hu : un + 400 < cLine)
    (hret : ∀ (s' : Shared) (t : Tok) (ps' : Array Value), TriplesOk ps'.toList → Fr h₀ L s'.heap m → News h₀ L s'.heap ((323, tabObj ps') :: led) → AllBare s'.gens → s'.os = s.os → Q (.int r t) s') :
    wpAny (model PR w) (ktrTop dp un gd cn cs L a ccd cl outer) (call (.ref 399) [.str x t1, .str x' t1']) Q E s := by
  refine wpAny_call (compare_ok H H' hC B F X (news_pick N m1) (fun q hq => N q (hs q hq)) hap ht G T hk hd hu fun s' t objs ps' ht' F' N' G' o' _ => hret s' t ps' ht' F' (fun q hq => N' q ?_) G' o')
  rcases List.mem_cons.mp hq with rfl | hq
  · exact .head _
  · exact .tail _ (List.mem_append_right _ hq)
local macro_rules | `(tactic| walk_at "call ref") => `(tactic| (k_here; (with_reducible show wpAny _ _ (call (Value.ref 399) _ _) _ _ _); k_dflt (refine' compare_at ?H ?H' ?hC ?B ?F ?X ?N ?hap ?m1 ?hs ?ht ?G ?T ?kk ?hd ?hu ?_; (case H => with_reducible assumption); (case H' => with_reducible assumption); (case B => k_asm); (case F => k_asm); (case X => k_asm); (case T => k_asm); (case N => k_asm); (case hap => with_reducible assumption); (case m1 => k_mem); (case hs => intro q9 hq9; (repeat' (first | exact hq9 | refine List.Mem.tail _ ?_))); (case hC => (with_reducible rename (_ = true → CmpAll _ _ _ _ _ _ _ _ _ _ _) => hz9); exact hz9 (by with_reducible assumption)); (case ht => with_reducible assumption); (case G => with_reducible assumption); (case kk => exact rfl); (case hd => ktr_room); (case hu => ktr_units)); intro s9 t9 ps9 ht9 F9 N9 G9 os9; (try dsimp only)))
set_option pp.deepTerms false in
set_option pp.deepTerms.threshold 5 in
set_option maxHeartbeats 4000000 in
theorem u2 {w : World} {loose : List Str} {mean : ExcName → Option Value} {mg mb : Str → Option Value} {h₀ : Heap} {s : Shared} {L va kl a a' kt kt' D3 D3' pk pk' ka ka' : Addr} {m : Str → Option Value} {led vo vo' : List (Addr × Obj)} {E : Value → Shared → Prop} {i j n1 n2 n3 n4 : Nat} {tn tm : Tok} {vv kv ws ws' : List Value} {bk bk' : Bool}
    {v1 v2 v3 v1' v2' v3' : Int} {pre bld pre' bld' : List (Str × Tok)} {ps : Array Value} {r : Int} {ga gb gc ga' gb' gc' : Str} {gp gq gp' gq' : Option Str}
    (X : (Mine.hd.heap_39 w.params).In h₀) (T : Top topProg loose mean mg mb h₀) (hB : Below callerA h₀ [] h₀) (F : Fr h₀ L s.heap m) (N : News h₀ L s.heap ((323, tabObj ps) :: led)) (ht : TriplesOk ps.toList) (G : AllBare s.gens)
    (hf : ∀ q ∈ (((va, W.listOf (List.toArray vv) n1) :: (kl, W.listOf (List.toArray kv) n2) :: (kt, tupObj [.ref D3, .ref pk, .ref ka]) :: (kt', tupObj [.ref D3', .ref pk', .ref ka']) :: (ka, W.listOf (List.toArray ws) n3) :: (ka', W.listOf (List.toArray ws') n4) :: []) : List (Addr × Obj)), q ∈ led)
    (V : Vars m [(Mine.T "n", .int (i : Int) tn), (Mine.T "m", .int (j : Int) tm), (Mine.T "versions", .ref va), (Mine.T "keys", .ref kl)]) (e1 : vv[i]? = some (.ref a)) (e2 : vv[j]? = some (.ref a')) (e3 : kv[i]? = some (.ref kt)) (e4 : kv[j]? = some (.ref kt')) (hi : i ≤ 1000) (hj : j ≤ 1000) (lw : ws.length ≤ 100) (lw' : ws'.length ≤ 100)
    (I : IsVer v1 v2 v3 pre bld a vo) (I' : IsVer v1' v2' v3' pre' bld' a' vo') (hvo : ∀ q ∈ vo, q ∈ led) (hvo' : ∀ q ∈ vo', q ∈ led) (O : StrOk v1 v2 v3 (pre.map (·.1)) (bld.map (·.1))) (O' : StrOk v1' v2' v3' (pre'.map (·.1)) (bld'.map (·.1)))
    (H : POK (verText v1 v2 v3 (pre.map (·.1)) (bld.map (·.1))) ga gb gc gp gq v1 v2 v3) (H' : POK (verText v1' v2' v3' (pre'.map (·.1)) (bld'.map (·.1))) ga' gb' gc' gp' gq' v1' v2' v3') (hap : ∀ q ∈ ([(323, tabObj ps)] : List (Addr × Obj)), ∀ r ∈ led, q.1 ≠ r.1)
    (RK : Rc .Lt (.ref kt) (.ref kt') led 40 bk) (RK' : Rc .Lt (.ref kt') (.ref kt) led 40 bk') (hC : (ws ++ ws').isEmpty = true → CmpAll v1 v2 v3 gp gq v1' v2' v3' gp' gq' r) (hr : (ws ++ ws').isEmpty = true → r = if bk then -1 else if bk' then 1 else 0) :
    wpAny (model PR w) (lawA L) (exec (st4 1) (lawEnv L)) (TabPost h₀ L m led s) E s := by
  have N1 : News h₀ L s.heap ((va, W.listOf (List.toArray vv) n1) :: (kl, W.listOf (List.toArray kv) n2) :: (kt, tupObj [.ref D3, .ref pk, .ref ka]) :: (kt', tupObj [.ref D3', .ref pk', .ref ka']) :: (ka, W.listOf (List.toArray ws) n3) :: (ka', W.listOf (List.toArray ws') n4) :: (323, tabObj ps) :: led) := fun q hq => by
    rcases List.mem_append.mp (show q ∈ ((va, W.listOf (List.toArray vv) n1) :: (kl, W.listOf (List.toArray kv) n2) :: (kt, tupObj [.ref D3, .ref pk, .ref ka]) :: (kt', tupObj [.ref D3', .ref pk', .ref ka']) :: (ka, W.listOf (List.toArray ws) n3) :: (ka', W.listOf (List.toArray ws') n4) :: []) ++ ((323, tabObj ps) :: led) from hq) with hq | hq
    · exact N q (.tail _ (hf q hq))
    · exact N q hq
  clear N
  have ikl : (kl, W.listOf (List.toArray kv) n2) ∈ led := hf _ (by simp)
  have F1 := V.look F
  clear F
  conv in st4 1 => whnf
  unfold lawA lawEnv
  conv in (occs := *) lawScope => all_goals whnf
  simp only [over] at F1
  k_steps
  all_goals first
    | exact TabPost.intro V (by assumption) (by assumption) (by (repeat' (first | exact List.Mem.head _ | refine List.Mem.tail _ ?_))) (fun q hq => by (repeat' (first | exact hq | refine List.Mem.tail _ ?_))) (by assumption) (by assumption) (by first | rfl | assumption)
    | exact (no_a (hr (by assumption)) (by assumption) (by assumption)).elim
    | exact (no_b (hr (by assumption)) (by assumption) (by assumption) (by assumption)).elim
    | exact (no_c (hr (by assumption)) (by assumption) (by assumption) (by assumption)).elim
end Mine
end
section
theorem Mine.reset_M6 : True := by w_top off; trivial
open PySem PySem.W PyProof.Rows PySem.Calls PySem.Spec
set_option Elab.async false
set_option maxRecDepth 100000
set_option linter.unusedSimpArgs false
set_option linter.unusedVariables false
namespace Mine
theorem fillM6 : (PySem.Challenge.rw_ci0037_01, Mine.hd.heap_39) = (PySem.Challenge.rw_ci0037_01, Mine.hd.heap_39) := by k_fill; rfl
def iterOf (st : Stmt) : Expr := match st with | .For _ i _ _ _ => i | _ => .Name "" ⟨0, 0, 0, 0⟩
def RangePost (h₀ : Heap) (L : Addr) (m : Str → Option Value) (led : List (Addr × Obj)) (n : Nat) (s : Shared) (v : Value) (s' : Shared) : Prop :=
  ∃ r t u w h' tk, v = .ref r ∧ s' = { s with heap := h', toks := tk } ∧ IsRange h' r 0 n 1 t u w ∧ Fr h₀ L h' m ∧ News h₀ L h' led
theorem len_at {w : World} {A : Around} {h₀ : Heap} {L a : Addr} {led : List (Addr × Obj)} {s : Shared} {vals : List Value} {n : Nat} {Q E : Value → Shared → Prop} (N : News h₀ L s.heap led) (hm : (a, W.listOf (List.toArray vals) n) ∈ led) (hz : vals.length ≤ 100) (h : Q (.int (vals.length : Int) (s.toks + 1)) { s with toks := s.toks + 1 + 1 }) : wpAny (model PR w) A (call (.builtin "len") [.ref a]) Q E s := by
  have hl : s.heap.IsList a vals.toArray := ⟨_, (N _ hm).1, rfl, n, rfl⟩
  have e : vals.toArray.size = vals.length := List.size_toArray ..
  exact len_list hl (by rw [e]; omega) (by rw [e]; exact h)
local macro_rules | `(tactic| walk_at "call builtin:len") => `(tactic| (k_here; (with_reducible show wpAny _ _ (call (Value.builtin "len") [Value.ref _]) _ _ _); k_dflt (refine' len_at ?N ?m ?l ?_; (case N => k_asm); (case m => k_mem); (case l => with_reducible assumption)); (try dsimp only)))
set_option maxHeartbeats 4000000 in
theorem tR3 {w : World} {loose : List Str} {mean : ExcName → Option Value} {mg mb : Str → Option Value} {h₀ : Heap} {s : Shared} {L ra : Addr} {m : Str → Option Value} {led : List (Addr × Obj)} {vals : List Value} {n : Nat} {E : Value → Shared → Prop}
    (X : (Mine.hd.heap_39 w.params).In h₀) (T : Top topProg loose mean mg mb h₀) (F : Fr h₀ L s.heap m) (N : News h₀ L s.heap led) (hm : (ra, W.listOf (List.toArray vals) n) ∈ led) (V : Vars m [(Mine.T "rows", .ref ra)]) (hl : vals.length ≤ 100) :
    wpAny (model PR w) (lawA L) (eval (iterOf (st1 2)) (lawEnv L)) (RangePost h₀ L m led vals.length s) E s := by
  have N1 : News h₀ L s.heap ((ra, W.listOf (List.toArray vals) n) :: led) := fun q hq => (List.mem_cons.mp hq).elim (fun e => by rw [e]; exact N _ hm) fun hq => N q hq
  clear N
  have F1 := V.look F
  clear F
  conv in iterOf (st1 2) => whnf
  unfold lawA lawEnv
  conv in (occs := *) lawScope => all_goals whnf
  simp only [over] at F1
  k_steps
  rename_i h9 tk9 t9 u9 v9 a1 a2 a3 a4
  have F9 : Fr h₀ L h9 (over [(Mine.T "rows", .ref ra)] m) := a2
  exact ⟨_, _, _, _, _, _, rfl, rfl, a1, (over_eq V) ▸ F9, fun q hq => a3 q (.tail _ hq)⟩
set_option maxHeartbeats 4000000 in
theorem tR4 {w : World} {loose : List Str} {mean : ExcName → Option Value} {mg mb : Str → Option Value} {h₀ : Heap} {s : Shared} {L ra : Addr} {m : Str → Option Value} {led : List (Addr × Obj)} {vals : List Value} {n : Nat} {E : Value → Shared → Prop}
    (X : (Mine.hd.heap_39 w.params).In h₀) (T : Top topProg loose mean mg mb h₀) (F : Fr h₀ L s.heap m) (N : News h₀ L s.heap led) (hm : (ra, W.listOf (List.toArray vals) n) ∈ led) (V : Vars m [(Mine.T "rows", .ref ra)]) (hl : vals.length ≤ 100) :
    wpAny (model PR w) (lawA L) (eval (iterOf for4) (lawEnv L)) (RangePost h₀ L m led vals.length s) E s := by
  have N1 : News h₀ L s.heap ((ra, W.listOf (List.toArray vals) n) :: led) := fun q hq => (List.mem_cons.mp hq).elim (fun e => by rw [e]; exact N _ hm) fun hq => N q hq
  clear N
  have F1 := V.look F
  clear F
  conv in iterOf for4 => whnf
  unfold lawA lawEnv
  conv in (occs := *) lawScope => all_goals whnf
  simp only [over] at F1
  k_steps
  rename_i h9 tk9 t9 u9 v9 a1 a2 a3 a4
  have F9 : Fr h₀ L h9 (over [(Mine.T "rows", .ref ra)] m) := a2
  exact ⟨_, _, _, _, _, _, rfl, rfl, a1, (over_eq V) ▸ F9, fun q hq => a3 q (.tail _ hq)⟩
def AsgPost (h₀ : Heap) (L : Addr) (m : Str → Option Value) (led : List (Addr × Obj)) (x : Str) (v : Value) (s : Shared) (_ : Unit) (s' : Shared) : Prop :=
  ∃ h' tk, s' = { s with heap := h', toks := tk } ∧ Fr h₀ L h' (put m x v) ∧ News h₀ L h' led
set_option maxHeartbeats 4000000 in
theorem tN {w : World} {loose : List Str} {mean : ExcName → Option Value} {mg mb : Str → Option Value} {h₀ : Heap} {s : Shared} {L : Addr} {m : Str → Option Value} {led : List (Addr × Obj)} {v : Value} {pos : Pos} {E : Value → Shared → Prop}
    (X : (Mine.hd.heap_39 w.params).In h₀) (T : Top topProg loose mean mg mb h₀) (F : Fr h₀ L s.heap m) (N : News h₀ L s.heap led) :
    wpAny (model PR w) (lawA L) (assign (.Name (Str.ofString "n") pos) (lawEnv L) v) (AsgPost h₀ L m led (Mine.T "n") v s) E s := by
  unfold lawA lawEnv
  conv in (occs := *) lawScope => all_goals whnf
  k_steps
  rename_i F9 N9
  exact ⟨_, _, rfl, F9, N9⟩
set_option maxHeartbeats 4000000 in
theorem tM {w : World} {loose : List Str} {mean : ExcName → Option Value} {mg mb : Str → Option Value} {h₀ : Heap} {s : Shared} {L : Addr} {m : Str → Option Value} {led : List (Addr × Obj)} {v : Value} {pos : Pos} {E : Value → Shared → Prop}
    (X : (Mine.hd.heap_39 w.params).In h₀) (T : Top topProg loose mean mg mb h₀) (F : Fr h₀ L s.heap m) (N : News h₀ L s.heap led) :
    wpAny (model PR w) (lawA L) (assign (.Name (Str.ofString "m") pos) (lawEnv L) v) (AsgPost h₀ L m led (Mine.T "m") v s) E s := by
  unfold lawA lawEnv
  conv in (occs := *) lawScope => all_goals whnf
  k_steps
  rename_i F9 N9
  exact ⟨_, _, rfl, F9, N9⟩

theorem mem_take {α : Type} {l : List α} {n : Nat} {x : α} (h : l[n]? = some x) : x ∈ l := List.mem_of_getElem? h
theorem ver_key {v : Addr} {v1 v2 v3 : Int} {pre bld : List (Str × Tok)} {vo : List (Addr × Obj)} (I : IsVer v1 v2 v3 pre bld v vo) : ∃ dx tp tb ck sk h1 h2 h3 h4 h5 h6 h7 h8 k1 k2 k3 k4 k5 k6 k7 k8 m1 m2 m3 ko5, (v, instObj 388 dx) ∈ vo ∧ (dx, dictOf (verDict8 h1 h2 h3 h4 h5 h6 h7 h8 k1 k2 k3 k4 k5 k6 k7 k8 (.int v1 m1) (.int v2 m2) (.int v3 m3) (.ref tp) (.ref tb) (.bool false) (.ref ck) (.ref sk)) 8) ∈ vo ∧ Key5 v1 v2 v3 pre bld sk ko5 ∧ ∀ q ∈ ko5, q ∈ vo := by
  obtain ⟨dx, tp, tb, ck, sk, h1, h2, h3, h4, h5, h6, h7, h8, k1, k2, k3, k4, k5, k6, k7, k8, m1, m2, m3, ko4, ko5, K4, K5, rfl⟩ := I
  exact ⟨dx, tp, tb, ck, sk, h1, h2, h3, h4, h5, h6, h7, h8, k1, k2, k3, k4, k5, k6, k7, k8, m1, m2, m3, ko5, by simp, by simp, K5, fun q hq => by simp only [List.mem_cons, List.mem_append]; grind⟩
theorem keyO_len {nums : List (Str × Int)} {w u : Str} (h : nums.length ≤ 6) : (keyO nums w u).length ≤ 100 := by
  unfold keyO
  split
  · have := pickL_len (l := nums) (lo := some 3) (hi := some (-1))
    rw [List.length_append, List.length_map]
    unfold midN
    simp only [List.length_cons, List.length_nil]; omega
  · split <;> simp
theorem bld_nil {nums : List (Str × Int)} {w u : Str} (h : keyO nums w u = []) : bldO nums w u = [] := by
  unfold keyO at h
  unfold bldO
  by_cases h3 : 3 < nums.length
  · rw [if_pos h3] at h; simp at h
  · rw [if_neg h3] at h ⊢
    by_cases hu : u = T ""
    · rw [if_pos hu]
    · rw [if_neg hu] at h; simp at h
theorem u1m {w : World} {loose : List Str} {mean : ExcName → Option Value} {mg mb : Str → Option Value} {h₀ : Heap} {s : Shared} {L va kl a dx tp tb ck sk a' dx' tp' tb' ck' sk' kt kt' : Addr} {m : Str → Option Value} {led : List (Addr × Obj)} {E : Value → Shared → Prop} {i j n1 n2 : Nat} {tn tm : Tok} {vv kv : List Value} {bv bk : Bool}
    {v1 v2 v3 h1 h2 h3 h4 h5 h6 h7 h8 : Int} {k1 k2 k3 k4 k5 k6 k7 k8 m1 m2 m3 : Tok} {v1' v2' v3' h1' h2' h3' h4' h5' h6' h7' h8' : Int} {k1' k2' k3' k4' k5' k6' k7' k8' m1' m2' m3' : Tok}
    (X : (Mine.hd.heap_39 w.params).In h₀) (T : Top topProg loose mean mg mb h₀) (hB : Below callerA h₀ [] h₀) (F : Fr h₀ L s.heap m) (N : News h₀ L s.heap led)
    (f1 : (va, W.listOf (List.toArray vv) n1) ∈ led) (f2 : (kl, W.listOf (List.toArray kv) n2) ∈ led) (f3 : (a, instObj 388 dx) ∈ led) (f4 : (dx, dictOf (verDict8 h1 h2 h3 h4 h5 h6 h7 h8 k1 k2 k3 k4 k5 k6 k7 k8 (.int v1 m1) (.int v2 m2) (.int v3 m3) (.ref tp) (.ref tb) (.bool false) (.ref ck) (.ref sk)) 8) ∈ led) (f5 : (a', instObj 388 dx') ∈ led) (f6 : (dx', dictOf (verDict8 h1' h2' h3' h4' h5' h6' h7' h8' k1' k2' k3' k4' k5' k6' k7' k8' (.int v1' m1') (.int v2' m2') (.int v3' m3') (.ref tp') (.ref tb') (.bool false) (.ref ck') (.ref sk')) 8) ∈ led)
    (V : Vars m [(Mine.T "n", .int (i : Int) tn), (Mine.T "m", .int (j : Int) tm), (Mine.T "versions", .ref va), (Mine.T "keys", .ref kl)]) (e1 : vv[i]? = some (.ref a)) (e2 : vv[j]? = some (.ref a')) (e3 : kv[i]? = some (.ref kt)) (e4 : kv[j]? = some (.ref kt')) (hi : i ≤ 1000) (hj : j ≤ 1000)
    (RV : Rc .Lt (.ref sk) (.ref sk') led 100 bv) (RK : Rc .Lt (.ref kt) (.ref kt') led 40 bk) (hb : (bv != bk) = false) :
    wpAny (model PR w) (lawA L) (exec (st4 0) (lawEnv L)) (KeepPost h₀ L m led s) E s :=
  u1 X T hB F N (fun q hq => by
    simp only [List.mem_cons, List.not_mem_nil, or_false] at hq
    rcases hq with rfl | rfl | rfl | rfl | rfl | rfl
    · exact f1
    · exact f2
    · exact f3
    · exact f4
    · exact f5
    · exact f6) V e1 e2 e3 e4 hi hj RV RK hb
theorem body4_is : body4 = [st4 0, st4 1] := by rfl
/-- between the turns of loop 3 -/
def J3 (rows : List Row) (ra va kl : Addr) (nv : List (Str × Value)) (m : Str → Option Value) (muts objs : List (Addr × Obj)) : Prop :=
  ∃ vv kv n n' ps1 ps, muts = muts2 ps1 ps va kl vv kv n n' ∧ Vars m (nv ++ [(T "rows", .ref ra), (T "versions", .ref va), (T "keys", .ref kl)]) ∧ TriplesOk ps1.toList ∧ TriplesOk ps.toList ∧ All2 (VerAt objs) vv rows ∧ All2 (KeyAt objs) kv rows
theorem row_facts {r : Row} (G : GoodR r) : r.nums ≠ [] ∧ (∀ p ∈ r.nums, p ∈ MENU) ∧ Corrs ((bldO r.nums r.word r.plus).map idnOf) (keyO r.nums r.word r.plus) ∧ preO r.nums r.word ∈ PRES := by
  have h0 : r.nums ≠ [] := fun e => by have := G.1.1; rw [e] at this; simp at this
  exact ⟨h0, G.1.2.2, ids_corr G.1.2.2 G.2.1 G.2.2.1 h0, preO_is G.2.1⟩
set_option maxHeartbeats 4000000 in
theorem turn3 {w : World} {loose : List Str} {mean : ExcName → Option Value} {mg mb : Str → Option Value} {h₀ : Heap} {s : Shared} {L ra va kl : Addr} {m : Str → Option Value} {ex objs : List (Addr × Obj)} {os : OsState} {rows : List Row} {i j : Nat} {tn tm : Tok} {muts : List (Addr × Obj)} {E : Value → Shared → Prop}
    (X : (Mine.hd.heap_39 w.params).In h₀) (T : Top topProg loose mean mg mb h₀) (hB : Below callerA h₀ [] h₀) (S : LS h₀ L m muts ex objs os s) (hva : @LT.lt Nat _ 323 va) (hkl : @LT.lt Nat _ va kl) (J : J3 rows ra va kl [(Mine.T "m", .int (j : Int) tm), (Mine.T "n", .int (i : Int) tn)] m muts objs) (hg : ∀ r ∈ rows, GoodR r) (hn : rows.length ≤ 6) (hi : i < rows.length) (hj : j < rows.length) :
    wpAny (model PR w) (lawA L) (execs body4 (lawEnv L)) (fun f s' => f = .next ∧ ∃ m' muts', LS h₀ L m' muts' ex objs os s' ∧ muts'.map (·.1) = muts.map (·.1) ∧ J3 rows ra va kl [(Mine.T "m", .int (j : Int) tm), (Mine.T "n", .int (i : Int) tn)] m' muts' objs) E s := by
  obtain ⟨vv, kv, n, n', ps1, ps, rfl, V, ht1, ht, A1, A2⟩ := J
  have lv := A1.length
  have lk := A2.length
  obtain ⟨F, N, ap, ax, G, ho⟩ := S
  have hvi : vv[i]? = some vv[i] := List.getElem?_eq_getElem (by omega)
  have hvj : vv[j]? = some vv[j] := List.getElem?_eq_getElem (by omega)
  have hki : kv[i]? = some kv[i] := List.getElem?_eq_getElem (by omega)
  have hkj : kv[j]? = some kv[j] := List.getElem?_eq_getElem (by omega)
  obtain ⟨ri, hri, a, v1, v2, v3, pre, bld, vo, ea, R, I, so, ep, eb⟩ := A1.get hvi
  obtain ⟨rj, hrj, a', v1', v2', v3', pre', bld', vo', ea', R', I', so', ep', eb'⟩ := A1.get hvj
  obtain ⟨ri2, hri2, kt, D3, pk, ka, vs, n1, kvs, n3, t, t', ek, q1, q2, q3, q4, q5, q6⟩ := A2.get hki
  obtain ⟨rj2, hrj2, kt', D3', pk', ka', vs', n1', kvs', n3', t2, t2', ek', q1', q2', q3', q4', q5', q6'⟩ := A2.get hkj
  rw [hri] at hri2
  cases hri2
  rw [hrj] at hrj2
  cases hrj2
  rw [ea] at hvi
  rw [ea'] at hvj
  rw [ek] at hki
  rw [ek'] at hkj
  have Gi := hg ri (mem_take hri)
  have Gj := hg rj (mem_take hrj)
  obtain ⟨z0, zm, zc, zp⟩ := row_facts Gi
  obtain ⟨z0', zm', zc', zp'⟩ := row_facts Gj
  obtain ⟨dx, tp, tb, ck, sk, h1, h2, h3, h4, h5, h6, h7, h8, k1, k2, k3, k4, k5, k6, k7, k8, m1, m2, m3, ko, w1, w2, K5, sk5⟩ := ver_key I
  obtain ⟨dx', tp', tb', ck', sk', h1', h2', h3', h4', h5', h6', h7', h8', k1', k2', k3', k4', k5', k6', k7', k8', m1', m2', m3', ko', w1', w2', K5', sk5'⟩ := ver_key I'
  obtain ⟨led, hled⟩ : ∃ led : List (Addr × Obj), led = (268, tabObj ps1) :: (va, W.listOf (List.toArray vv) n) :: (kl, W.listOf (List.toArray kv) n') :: (ex ++ objs) := ⟨_, rfl⟩
  have ob : ∀ q ∈ objs, q ∈ led := fun q hq => by rw [hled]; exact .tail _ (.tail _ (.tail _ (List.mem_append_right _ hq)))
  have iva : (va, W.listOf (List.toArray vv) n) ∈ led := by rw [hled]; simp
  have ikl : (kl, W.listOf (List.toArray kv) n') ∈ led := by rw [hled]; simp
  have N0 : News h₀ L s.heap ((323, tabObj ps) :: led) := fun q hq => N q (by
    rw [hled] at hq
    simp only [muts2, List.mem_cons, List.mem_append, List.not_mem_nil, or_false] at hq ⊢; grind)
  have hap : ∀ q ∈ ([(323, tabObj ps)] : List (Addr × Obj)), ∀ r ∈ led, q.1 ≠ r.1 := fun q hq r hr => by
    rw [List.mem_singleton.mp hq]
    rw [hled] at hr
    simp only [List.mem_cons] at hr
    rcases hr with rfl | rfl | rfl | hr
    · exact (by decide : (323 : Nat) ≠ 268)
    · exact Nat.ne_of_lt hva
    · exact Nat.ne_of_lt (Nat.lt_trans hva hkl)
    · exact ap (323, tabObj ps) (.tail _ (.head _)) r hr
  have q3n : IntsAre vs [v1, v2, v3] := R.t3 ▸ q3
  have q3n' : IntsAre vs' [v1', v2', v3'] := R'.t3 ▸ q3'
  have RV := @sort_rc v1 v2 v3 v1' v2' v3' pre bld pre' bld' sk sk' ko ko' led K5 K5' (fun q hq => ob q (so q (sk5 q hq))) (fun q hq => ob q (so' q (sk5' q hq)))
  have RK : Rc .Lt (.ref kt) (.ref kt') led 40 ((lawKey v1 v2 v3 (preO ri.nums ri.word) (keyO ri.nums ri.word ri.plus)).lt (lawKey v1' v2' v3' (preO rj.nums rj.word) (keyO rj.nums rj.word rj.plus))) := key_rc (objs := led) (k := lawKey v1 v2 v3 (preO ri.nums ri.word) (keyO ri.nums ri.word ri.plus)) (k' := lawKey v1' v2' v3' (preO rj.nums rj.word) (keyO rj.nums rj.word rj.plus)) (ob _ q1) (ob _ q1') (ob _ q2) (ob _ q2') q3n q3n' (ob _ q4) (ob _ q4') (ob _ q5) (ob _ q5') (q6.mono ob) (q6'.mono ob)
  have RK' : Rc .Lt (.ref kt') (.ref kt) led 40 ((lawKey v1' v2' v3' (preO rj.nums rj.word) (keyO rj.nums rj.word rj.plus)).lt (lawKey v1 v2 v3 (preO ri.nums ri.word) (keyO ri.nums ri.word ri.plus))) := key_rc (objs := led) (k' := lawKey v1 v2 v3 (preO ri.nums ri.word) (keyO ri.nums ri.word ri.plus)) (k := lawKey v1' v2' v3' (preO rj.nums rj.word) (keyO rj.nums rj.word rj.plus)) (ob _ q1') (ob _ q1) (ob _ q2') (ob _ q2) q3n' q3n (ob _ q4') (ob _ q4) (ob _ q5') (ob _ q5) (q6'.mono ob) (q6.mono ob)
  have law := key_law (a := v1) (b := v2) (c := v3) (a' := v1') (b' := v2') (c' := v3') zp zp' zc zc'
  rw [body4_is]
  have V4 : Vars m [(Mine.T "n", .int (i : Int) tn), (Mine.T "m", .int (j : Int) tm), (Mine.T "versions", .ref va), (Mine.T "keys", .ref kl)] := V.sub (by intro p hp; simp only [List.cons_append, List.nil_append, List.mem_cons, List.not_mem_nil, or_false] at hp ⊢; grind)
  have hb : (k5Lt ⟨v1, v2, v3, preIds (pre.map (·.1))⟩ ⟨v1', v2', v3', preIds (pre'.map (·.1))⟩ ((bld.map (·.1)).map idnOf) ((bld'.map (·.1)).map idnOf) != (lawKey v1 v2 v3 (preO ri.nums ri.word) (keyO ri.nums ri.word ri.plus)).lt (lawKey v1' v2' v3' (preO rj.nums rj.word) (keyO rj.nums rj.word rj.plus))) = false := by
    rw [ep, ep', eb, eb', law]; simp
  refine execs_go (u1m (i := i) (j := j) X T hB F N0 (.tail _ iva) (.tail _ ikl) (.tail _ (ob _ (so _ w1))) (.tail _ (ob _ (so _ w2))) (.tail _ (ob _ (so' _ w1'))) (.tail _ (ob _ (so' _ w2'))) V4 hvi hvj hki hkj (by omega) (by omega) (Rc.mono RV (fun q hq => .tail _ hq) (Nat.le_refl _)) (Rc.mono RK (fun q hq => .tail _ hq) (Nat.le_refl _)) hb) (fun f s' h => h.1) ?_
  rintro s1 ⟨_, hh1, tk1, rfl, F1, N1⟩
  have lw : kvs.length ≤ 100 := by
    have e := q6.length
    rw [e]; exact keyO_len Gi.1.2.1
  have lw' : kvs'.length ≤ 100 := by
    have e := q6'.length
    rw [e]; exact keyO_len Gj.1.2.1
  have hks : (kvs ++ kvs').isEmpty = true → keyO ri.nums ri.word ri.plus = [] ∧ keyO rj.nums rj.word rj.plus = [] := by
    intro h
    have e1 := q6.length
    have e2 := q6'.length
    rw [List.isEmpty_iff, List.append_eq_nil_iff] at h
    rw [h.1] at e1
    rw [h.2] at e2
    exact ⟨List.eq_nil_of_length_eq_zero e1.symm, List.eq_nil_of_length_eq_zero e2.symm⟩
  refine execs_go (u2 (va := va) (kl := kl) (a := a) (a' := a') (kt := kt) (kt' := kt') (D3 := D3) (D3' := D3') (pk := pk) (pk' := pk') (ka := ka) (ka' := ka') (n1 := n) (n2 := n') (n3 := n3) (n4 := n3') (i := i) (j := j) (r := if (⟨v1, v2, v3, preIds (preO ri.nums ri.word)⟩ : K4).lt ⟨v1', v2', v3', preIds (preO rj.nums rj.word)⟩ then (-1 : Int) else if (⟨v1, v2, v3, preIds (preO ri.nums ri.word)⟩ : K4).eq ⟨v1', v2', v3', preIds (preO rj.nums rj.word)⟩ then 0 else 1) X T hB F1 N1 ht G ?hf2 V4 hvi hvj hki hkj (by omega) (by omega) lw lw' I I' (fun q hq => ob q (so q hq)) (fun q hq => ob q (so' q hq)) (by rw [ep, eb]; exact R.so) (by rw [ep', eb']; exact R'.so) (by rw [ep, eb]; exact R.ok) (by rw [ep', eb']; exact R'.ok) hap RK RK' ?hC ?hr) (fun f s' h => h.1) ?_
  case hf2 =>
    intro q hq
    simp only [List.mem_cons, List.not_mem_nil, or_false] at hq
    rcases hq with rfl | rfl | rfl | rfl | rfl | rfl
    · exact iva
    · exact ikl
    · exact ob _ q1
    · exact ob _ q1'
    · exact ob _ q5
    · exact ob _ q5'
  case hC =>
    intro hemp
    obtain ⟨y1, y2⟩ := hks hemp
    intro v v' pre0 bld0 pre0' bld0' objs0 objs0' I0 I0' g1 g2 g3 g4
    have p1 := optJ_parts R.gp g1
    have p2 := optJ_parts R.gb g2
    have p3 := optJ_parts R'.gp g3
    have p4 := optJ_parts R'.gb g4
    rw [bld_nil y1] at p2
    rw [bld_nil y2] at p4
    have b1 : bld0 = [] := by simpa using p2
    have b2 : bld0' = [] := by simpa using p4
    have l1 : pre0.length ≤ 1000 := by
      have := congrArg List.length p1
      rw [List.length_map] at this
      have := R.gp.len
      omega
    have C := @vcmp_ver v1 v2 v3 v1' v2' v3' v v' pre0 bld0 pre0' bld0' objs0 objs0' I0 I0' (by rw [p1, p3]; exact (pres_law _ zp _ zp').2.2.1) (by rw [p1]; exact R.gp.str) b1 b2 l1
    unfold verKey at C
    rw [p1, p3] at C
    exact @C
  case hr =>
    intro hemp
    obtain ⟨y1, y2⟩ := hks hemp
    rw [y1, y2]
    exact cmp_law zp zp'
  rintro s2 ⟨_, psn, F2, N2, ht2, G2, o2⟩
  refine wpAny_execs_nil ?_
  refine ⟨rfl, m, muts2 ps1 psn va kl vv kv n n', ⟨F2, fun q hq => N2 q ?_, fun p hp q hq => ?_, ax, G2, o2.trans ho⟩, rfl, vv, kv, n, n', ps1, psn, rfl, V, ht1, ht2, A1, A2⟩
  · rw [hled]
    simp only [muts2, List.mem_cons, List.mem_append, List.not_mem_nil, or_false] at hq ⊢; grind
  · have : ∃ o, (p.1, o) ∈ muts2 ps1 ps va kl vv kv n n' := by
      simp only [muts2, List.mem_cons, List.not_mem_nil, or_false] at hp ⊢
      rcases hp with rfl | rfl | rfl | rfl
      · exact ⟨_, .inl rfl⟩
      · exact ⟨_, .inr (.inl rfl)⟩
      · exact ⟨_, .inr (.inr (.inl rfl))⟩
      · exact ⟨_, .inr (.inr (.inr rfl))⟩
    obtain ⟨o, hm⟩ := this
    exact ap _ hm q hq
end Mine
end
section
local macro_rules | `(tactic| walk_at "pad") => `(tactic| fail)
local macro_rules | `(tactic| walk_at "pad") => `(tactic| fail)
theorem Mine.reset_M7 : True := by w_top off; trivial
open PySem PySem.W PyProof.Rows PySem.Calls PySem.Spec
set_option Elab.async false
set_option maxRecDepth 100000
set_option linter.unusedSimpArgs false
set_option linter.unusedVariables false
namespace Mine
theorem fillM7 : (PySem.Challenge.rw_ci0037_01, Mine.hd.heap_39) = (PySem.Challenge.rw_ci0037_01, Mine.hd.heap_39) := by k_fill; rfl
set_option maxHeartbeats 4000000 in
theorem loop4 {w : World} {loose : List Str} {mean : ExcName → Option Value} {mg mb : Str → Option Value} {h₀ : Heap} {s : Shared} {L ra va kl : Addr} {m : Str → Option Value} {muts ex objs : List (Addr × Obj)} {os : OsState} {rows : List Row} {rvals : List Value} {n0 i : Nat} {tn : Tok} {Q : Flow → Shared → Prop} {E : Value → Shared → Prop}
    (X : (Mine.hd.heap_39 w.params).In h₀) (T : Top topProg loose mean mg mb h₀) (hB : Below callerA h₀ [] h₀) (S : LS h₀ L m muts ex objs os s) (hra : (ra, W.listOf (List.toArray rvals) n0) ∈ ex) (hva : @LT.lt Nat _ 323 va) (hkl : @LT.lt Nat _ va kl) (J : J3 rows ra va kl [(Mine.T "n", .int (i : Int) tn)] m muts objs) (hg : ∀ r ∈ rows, GoodR r) (hn : rows.length ≤ 6) (hl : rvals.length = rows.length) (hi : i < rows.length)
    (hQ : ∀ m' muts' objs' s', LS h₀ L m' muts' ex objs' os s' → muts'.map (·.1) = muts.map (·.1) → J3 rows ra va kl [(Mine.T "n", .int (i : Int) tn)] m' muts' objs' → Q .next s') : wpAny (model PR w) (lawA L) (exec for4 (lawEnv L)) Q E s := by
  have hVr : Vars m [(Mine.T "rows", .ref ra)] := by
    obtain ⟨_, _, _, _, _, _, _, V, _⟩ := J
    exact V.sub (by intro p hp; simp only [List.cons_append, List.nil_append, List.mem_cons, List.not_mem_nil, or_false] at hp ⊢; grind)
  conv in for4 => whnf
  refine for_l (fun _ => rfl) ?_
  refine wpAny_mono (tR4 X T S.F S.N (List.mem_append_right _ (List.mem_append_left _ hra)) hVr (by omega)) (fun v s' hv => ?_) fun _ _ e => e
  obtain ⟨r, t, u, w', h', tk, rfl, rfl, hr, F', N'⟩ := hv
  rw [hl] at hr
  refine ForL.range (n := rows.length) rfl (⟨F', N', S.ap, S.ax, S.G, S.os⟩ : LS h₀ L m muts ex objs os { s with heap := h', toks := tk }) hr (by omega) (fun _ m muts objs => J3 rows ra va kl [(Mine.T "n", .int (i : Int) tn)] m muts objs) J ?_ ?_
  · intro j tkj m₁ muts₁ ex₁ objs₁ s₁ hj hJ hS hm hx
    refine wpAny_mono (tM X T hS.F hS.N) (fun _ s2 h2 => ?_) fun _ _ e => e
    obtain ⟨h2', tk2, rfl, F2, N2⟩ := h2
    have J2' : J3 rows ra va kl [(Mine.T "m", .int (j : Int) tkj), (Mine.T "n", .int (i : Int) tn)] (put m₁ (Mine.T "m") (.int (j : Int) tkj)) muts₁ objs₁ := by
      obtain ⟨vv, kv, n, n', ps1, ps, e, V, a1, a2, a3, a4⟩ := hJ
      exact ⟨vv, kv, n, n', ps1, ps, e, V.put [Mine.T "n", Mine.T "rows", Mine.T "versions", Mine.T "keys"] rfl (by decide +kernel), a1, a2, a3, a4⟩
    refine wpAny_mono (turn3 X T hB (⟨F2, N2, hS.ap, hS.ax, hS.G, hS.os⟩ : LS h₀ L _ muts₁ ex₁ objs₁ os { s₁ with heap := h2', toks := tk2 }) hva hkl J2' hg hn hi hj) (fun f s3 h3 => ?_) fun _ _ e => e
    obtain ⟨rfl, m3, muts3, S3, e3, J3'⟩ := h3
    refine ⟨rfl, m3, muts3, objs₁, S3, e3, ?_⟩
    obtain ⟨vv, kv, n, n', ps1, ps, e, V, a1, a2, a3, a4⟩ := J3'
    exact ⟨vv, kv, n, n', ps1, ps, e, V.sub (by intro p hp; simp only [List.cons_append, List.nil_append, List.mem_cons, List.not_mem_nil, or_false] at hp ⊢; grind), a1, a2, a3, a4⟩
  · intro m' muts' objs' s' S' e hJ
    exact hQ m' muts' objs' s' S' e hJ
set_option maxHeartbeats 4000000 in
theorem loop3 {w : World} {loose : List Str} {mean : ExcName → Option Value} {mg mb : Str → Option Value} {h₀ : Heap} {s : Shared} {L ra va kl : Addr} {m : Str → Option Value} {muts ex objs : List (Addr × Obj)} {os : OsState} {rows : List Row} {rvals : List Value} {n0 : Nat} {Q : Flow → Shared → Prop} {E : Value → Shared → Prop}
    (X : (Mine.hd.heap_39 w.params).In h₀) (T : Top topProg loose mean mg mb h₀) (hB : Below callerA h₀ [] h₀) (S : LS h₀ L m muts ex objs os s) (hra : (ra, W.listOf (List.toArray rvals) n0) ∈ ex) (hva : @LT.lt Nat _ 323 va) (hkl : @LT.lt Nat _ va kl) (J : J3 rows ra va kl [] m muts objs) (hg : ∀ r ∈ rows, GoodR r) (hn : rows.length ≤ 6) (hl : rvals.length = rows.length)
    (hQ : ∀ m' muts' objs' s', LS h₀ L m' muts' ex objs' os s' → J3 rows ra va kl [] m' muts' objs' → Q .next s') : wpAny (model PR w) (lawA L) (exec (st1 2) (lawEnv L)) Q E s := by
  have hVr : Vars m [(Mine.T "rows", .ref ra)] := by
    obtain ⟨_, _, _, _, _, _, _, V, _⟩ := J
    exact V.sub (by intro p hp; simp only [List.cons_append, List.nil_append, List.mem_cons, List.not_mem_nil, or_false] at hp ⊢; grind)
  conv in st1 2 => whnf
  refine for_l (fun _ => rfl) ?_
  refine wpAny_mono (tR3 X T S.F S.N (List.mem_append_right _ (List.mem_append_left _ hra)) hVr (by omega)) (fun v s' hv => ?_) fun _ _ e => e
  obtain ⟨r, t, u, w', h', tk, rfl, rfl, hr, F', N'⟩ := hv
  rw [hl] at hr
  refine ForL.range (n := rows.length) rfl (⟨F', N', S.ap, S.ax, S.G, S.os⟩ : LS h₀ L m muts ex objs os { s with heap := h', toks := tk }) hr (by omega) (fun _ m muts objs => J3 rows ra va kl [] m muts objs) J ?_ ?_
  · intro i tki m₁ muts₁ ex₁ objs₁ s₁ hi hJ hS hm hx
    refine wpAny_mono (tN X T hS.F hS.N) (fun _ s2 h2 => ?_) fun _ _ e => e
    obtain ⟨h2', tk2, rfl, F2, N2⟩ := h2
    have J2' : J3 rows ra va kl [(Mine.T "n", .int (i : Int) tki)] (put m₁ (Mine.T "n") (.int (i : Int) tki)) muts₁ objs₁ := by
      obtain ⟨vv, kv, n, n', ps1, ps, e, V, a1, a2, a3, a4⟩ := hJ
      exact ⟨vv, kv, n, n', ps1, ps, e, V.put [Mine.T "rows", Mine.T "versions", Mine.T "keys"] rfl (by decide +kernel), a1, a2, a3, a4⟩
    refine wpAny_execs_cons (loop4 X T hB (⟨F2, N2, hS.ap, hS.ax, hS.G, hS.os⟩ : LS h₀ L _ muts₁ ex₁ objs₁ os { s₁ with heap := h2', toks := tk2 }) (hx _ hra) hva hkl J2' hg hn hl hi ?_)
    intro m3 muts3 objs3 s3 S3 e3 J3'
    refine wpAny_execs_nil ?_
    refine ⟨rfl, m3, muts3, objs3, S3, e3, ?_⟩
    obtain ⟨vv, kv, n, n', ps1, ps, e, V, a1, a2, a3, a4⟩ := J3'
    exact ⟨vv, kv, n, n', ps1, ps, e, V.sub (by intro p hp; simp only [List.cons_append, List.nil_append, List.mem_cons, List.not_mem_nil, or_false] at hp ⊢; grind), a1, a2, a3, a4⟩
  · intro m' muts' objs' s' S' e hJ
    exact hQ m' muts' objs' s' S' hJ
set_option pp.deepTerms false in
set_option pp.deepTerms.threshold 5 in
set_option maxHeartbeats 4000000 in
theorem tEnd {w : World} {loose : List Str} {mean : ExcName → Option Value} {mg mb : Str → Option Value} {h₀ : Heap} {s : Shared} {L : Addr} {m : Str → Option Value} {led : List (Addr × Obj)} {E : Value → Shared → Prop} {Q : Flow → Shared → Prop}
    (X : (Mine.hd.heap_39 w.params).In h₀) (T : Top topProg loose mean mg mb h₀) (F : Fr h₀ L s.heap m) (N : News h₀ L s.heap led) (hQ : ∀ tk, Q (.ret (.bool true)) { s with toks := tk }) :
    wpAny (model PR w) (lawA L) (exec (st1 3) (lawEnv L)) Q E s := by
  conv in st1 3 => whnf
  unfold lawA lawEnv
  conv in (occs := *) lawScope => all_goals whnf
  k_steps
  exact hQ s.toks
end Mine
end
section
open PySem PySem.W PyProof.Rows PySem.Calls PySem.Spec
set_option Elab.async false
set_option maxRecDepth 100000
namespace Mine
set_option maxHeartbeats 1000000 in
/-- law's text behind the first loop -/
theorem law_rest {w : World} {loose : List Str} {mean : ExcName → Option Value} {mg mb : Str → Option Value} {s₁ s : Shared} {L ra : Addr} {m : Str → Option Value} {muts ex objs : List (Addr × Obj)} {n : Nat} {E : Value → Shared → Prop}
    (X : (Mine.hd.heap_39 w.params).In (ghostOf s₁.heap TABS)) (T : Top topProg loose mean mg mb (ghostOf s₁.heap TABS)) (B : Below callerA (ghostOf s₁.heap TABS) [] (ghostOf s₁.heap TABS))
    (S : LS (ghostOf s₁.heap TABS) L m muts ex objs s₁.os s) (J : J1 ra n m muts objs) (hr : 323 < ra) (hn : n ≤ 6) :
    wpAny (model PR w) (callerA.deeper (lawEnv L)) (execs rest1 (lawEnv L)) (fun fl s' => EndT s₁ (match fl with | .ret v => v | _ => .none) s') E s := by
  obtain ⟨rows, rvals, n0, na, nums, rfl, hm, hm2, _, _, R, rfl, hg⟩ := J
  rw [rest1_is]
  refine execs_go (tB X T S.F S.N) (fun _ _ h => h.1) fun s2 h2 => ?_
  obtain ⟨_, h', tk, va, kl, rfl, F2, N2, hkl, la, lk⟩ := h2
  have hra : @LT.lt Nat _ ra va := allLt_mem la (ra, W.listOf (List.toArray rvals) n0) (List.mem_append_left _ (.tail _ (.tail _ (.head _))))
  have hva : @LT.lt Nat _ 323 va := Nat.lt_trans hr hra
  have hao : ∀ q ∈ objs, @LT.lt Nat _ q.1 va := fun q hq => allLt_mem la q (List.mem_append_right _ (List.mem_append_right _ hq))
  have hro : ∀ q ∈ objs, ra ≠ q.1 := fun q hq => S.ap (ra, W.listOf (List.toArray rvals) n0) (.tail _ (.tail _ (.head _))) q (List.mem_append_right _ hq)
  have h26 : ∀ q ∈ objs, 268 ≠ q.1 := fun q hq => S.ap (268, tabObj #[]) (.head _) q (List.mem_append_right _ hq)
  have h32 : ∀ q ∈ objs, 323 ≠ q.1 := fun q hq => S.ap (323, tabObj #[]) (.tail _ (.head _)) q (List.mem_append_right _ hq)
  have S2 : LS (ghostOf s₁.heap TABS) L (put (put m (Mine.T "keys") (.ref kl)) (Mine.T "versions") (.ref va)) (muts2 #[] #[] va kl [] [] 0 0) [(ra, W.listOf (List.toArray rvals) n0)] objs s₁.os { s with heap := h', toks := tk } := by
    refine ⟨F2, fun q hq => N2 q ?_, ?_, ?_, S.G, S.os⟩
    · simp only [muts2, List.mem_append, List.mem_cons, List.not_mem_nil, or_false] at hq ⊢
      grind
    · intro p hp q hq
      have hq' : q.1 = ra ∨ q ∈ objs := by
        rcases List.mem_append.mp hq with hq | hq
        · exact .inl (by rw [List.mem_singleton.mp hq])
        · exact .inr hq
      simp only [muts2, List.mem_cons, List.not_mem_nil, or_false] at hp
      rcases hp with rfl | rfl | rfl | rfl
      · rcases hq' with e | hq'
        · rw [e]; exact Nat.ne_of_lt (Nat.lt_trans (by decide) hr)
        · exact h26 q hq'
      · rcases hq' with e | hq'
        · rw [e]; exact Nat.ne_of_lt hr
        · exact h32 q hq'
      · rcases hq' with e | hq'
        · rw [e]; exact (Nat.ne_of_lt hra).symm
        · exact (Nat.ne_of_lt (hao q hq')).symm
      · rcases hq' with e | hq'
        · rw [e]; exact (Nat.ne_of_lt (Nat.lt_trans hra hkl)).symm
        · exact (Nat.ne_of_lt (Nat.lt_trans (hao q hq') hkl)).symm
    · intro p hp q hq
      rw [List.mem_singleton.mp hp]
      exact hro q hq
  have V2 : Vars (put (put m (Mine.T "keys") (.ref kl)) (Mine.T "versions") (.ref va)) [(Mine.T "rows", .ref ra), (Mine.T "versions", .ref va), (Mine.T "keys", .ref kl)] := by
    have V0 : Vars m [(Mine.T "rows", .ref ra)] := Vars.nil.cons hm
    have V1 := (V0.put (x := Mine.T "keys") (v := .ref kl) [Mine.T "rows"] rfl (by decide +kernel)).put (x := Mine.T "versions") (v := .ref va) [Mine.T "keys", Mine.T "rows"] rfl (by decide +kernel)
    exact V1.sub (by intro p hp; simp only [List.mem_cons, List.not_mem_nil, or_false] at hp ⊢; grind)
  refine wpAny_execs_cons (loop2 X T B S2 hva hkl hr hra V2 R hg hn fun m3 muts3 objs3 s3 S3 J2' => ?_)
  have J3' : J3 rows ra va kl [] m3 muts3 objs3 := by
    obtain ⟨vv, kv, n, n', ps1, ps, e, V, a1, a2, a3, a4, a5⟩ := J2'
    rw [List.take_length] at a4 a5
    exact ⟨vv, kv, n, n', ps1, ps, e, V, a1, a2, a4, a5⟩
  refine wpAny_execs_cons (loop3 X T B S3 (.head _) hva hkl J3' hg hn R.length fun m4 muts4 objs4 s4 S4 J4 => ?_)
  refine wpAny_execs_cons (tEnd X T S4.F S4.N fun tk4 => ?_)
  obtain ⟨vv, kv, n, n', ps1, ps, rfl, _⟩ := J4
  exact EndT.intro S4.F S4.N (List.mem_append_left _ (.head _)) (List.mem_append_left _ (.tail _ (.head _))) S4.G S4.os
end Mine
end
section
local macro_rules | `(tactic| walk_at "pad") => `(tactic| fail)
local macro_rules | `(tactic| walk_at "pad") => `(tactic| fail)
local macro_rules | `(tactic| walk_at "pad") => `(tactic| fail)
local macro_rules | `(tactic| walk_at "pad") => `(tactic| fail)
local macro_rules | `(tactic| walk_at "pad") => `(tactic| fail)
local macro_rules | `(tactic| walk_at "pad") => `(tactic| fail)
local macro_rules | `(tactic| walk_at "pad") => `(tactic| fail)
theorem Mine.reset_M0 : True := by w_top off; trivial
open PySem PySem.W PyProof.Rows PySem.Calls PySem.Spec
set_option Elab.async false
set_option maxRecDepth 100000
set_option linter.unusedSimpArgs false
set_option linter.unusedVariables false
namespace Mine
theorem fillM0 : (PySem.Challenge.rw_ci0037_01, Mine.hd.heap_39) = (PySem.Challenge.rw_ci0037_01, Mine.hd.heap_39) := by k_fill; rfl
section
variable {prog : Program} {w : World} {s : Shared} {K : Frag} {mg mb : Str → Option Value} {p : Program} {loose : List Str} {mean : ExcName → Option Value}
theorem enterT {name qual : Str} {params : Arguments} {body : List Stmt} {scope : Scope} {dV kV doc pm cdv ct oc : Value} {an od : Option Addr} {osl : Array (Option Value)} {f : Addr} {args : Args} {binds : List (Str × Value)}
    (hT : TabsAt TABS s.heap) (X₀ : K.In (ghostOf s.heap TABS)) (T : Top p loose mean mg mb (ghostOf s.heap TABS))
    (ho : K.lookup f = some ⟨oc, od, .func (fnOf name qual params body scope dV kV doc pm an cdv ct), osl⟩) (hcd : codeIn K cdv qual = true)
    (hbind : BindsTo s (fnOf name qual params body scope dV kV doc pm an cdv ct) args binds) (hloc : ∀ y ∈ binds, scope.names.lookup y.1 = some .local)
    (h : ∀ L' h₁, Fr (ghostOf s.heap TABS) L' h₁ (fun y => binds.reverse.lookup y) → News (ghostOf s.heap TABS) L' h₁ [(268, tabObj #[]), (323, tabObj #[])] → Below callerA (ghostOf s.heap TABS) [] (ghostOf s.heap TABS) →
      wpAny (model prog w) (callerA.deeper (envOf qual scope L' f cdv)) (execs body (envOf qual scope L' f cdv))
        (fun fl s' => EndT s (match fl with | .ret v => v | _ => .none) s')
        (fun e s' => wpAny (model prog w) (callerA.deeper (envOf qual scope L' f cdv)) («leaving» (envOf qual scope L' f cdv) e) (fun _ s'' => LawEnd s (.error e) s'') (fun e' s'' => LawEnd s (.error e') s'') s')
        { s with heap := h₁, toks := s.toks + binds.length })
    (hco : scope.isCoroutine = false) (hgen : scope.isGenerator = false) (hk : scope.kind = .function)
    (hcell : ∀ x ∈ scope.names, x.2 ≠ .cell) : codeAny (model prog w) callerA (.call (.ref f) args) (LawEnd s) s := by
  have back : ∀ b o, (ghostOf s.heap TABS).get? b = some o → s.heap.get? b = some o := fun b o e => of_hideAll _ e
  have X : K.In s.heap := X₀.keeps back
  refine codeAny_call_def (fd := fnOf name qual params body scope dV kV doc pm an cdv ct) (body := body) (binds := binds) (by decide) (X _ _ ho) rfl (T.nolimit.keeps back) (codeRec_of X hcd) rfl hbind hcell hloc (fun h₁ hns hk₁ => ?_) hco hgen hk
  have F : Fr s.heap s.heap.objs.size h₁ (fun y => binds.reverse.lookup y) := ⟨hns, hk₁, Nat.le_refl _⟩
  exact h s.heap.objs.size h₁ (ghost_fr hT F) (ghost_news hT F News.nil) (ghost_below hT)
end
local macro_rules | `(tactic| walk_at "ENTER") => `(tactic| k_dflt (refine' enterP ?k1 ?k2 ?k3 ?k4 ?k5 ?kA ?kF ?kK ?k6 ?k7 ?k8 ?k9 ?kB ?_ ?c2 ?c3 ?c4 ?c5; (case kA => exact rfl); (case kF => exact rfl); (case kK => first | exact rfl | assumption); (case k1 => k_asm); (case k2 => k_asm); (case k3 => k_asm); (case k4 => k_asm); (case k5 => k_asm); (case k6 => k_is); (case k7 => k_is); (case k8 => ktr_room); (case k9 => first | exact BindsTo.of_eq rfl | exact binds_K (by k_in) rfl (by k_is) rfl rfl rfl); (case c5 => decide); (case kB => exact locs rfl); (case c2 => exact rfl); (case c3 => exact rfl); (case c4 => exact rfl); k_whole; intro L' h' F' N' B' X' T'; (try dsimp only); (try k_fold)))
local macro_rules | `(tactic| walk_at "LeaveP") => `(tactic| (k_dflt (refine' LeaveP.intro ?k1 ?k2 ?_; (case k1 => k_asm); (case k2 => k_asm); k_whole); intro kF kN0 kN kA; (try (with_reducible rename Frag.In _ _ => hx9); clear hx9); (try (with_reducible rename Top _ _ _ _ _ _ => hx9); clear hx9); (try (with_reducible rename Below _ _ _ _ => hx9); clear hx9); (try simp only [List.cons_append, List.nil_append] at kN); (try dsimp only)))
local macro_rules | `(tactic| walk_at "call ref") => `(tactic| (k_here; k_dflt (first
  | (refine' call_meth ?k1 ?k2 ?_; (case k1 => k_asm); (case k2 => k_mem); k_whole; walk_at "ENTER")
  | (refine wpAny_call ?_; walk_at "ENTER"))))

local macro_rules | `(tactic| walk_at "subscriptTail") => `(tactic| (k_here; (with_reducible show wpAny _ _ (subscriptTail _ _ (Value.ref _) (Value.int _ _)) _ _ _); refine stop_intro ?_))
def OneOk (h₀ : Heap) (L : Addr) (h : Heap) (ra : Addr) (tl : List (Addr × Obj)) (v : Value) : Prop :=
  ∃ a t u p, v = .ref a ∧ p ∈ MENU ∧ News h₀ L h [(a, tupObj [.str p.1 t, .int p.2 u])] ∧ 268 < a ∧ 323 < a ∧ ra < a ∧ AllLt a tl
theorem one_news {h₀ h : Heap} {L : Addr} {q : Addr × Obj} {l : List (Addr × Obj)} (N : News h₀ L h l) (m : q ∈ l) : News h₀ L h [q] := fun p hp => by rw [List.mem_singleton.mp hp]; exact N q m
theorem news_one {h₀ h : Heap} {L : Addr} {q : Addr × Obj} {l : List (Addr × Obj)} (N : News h₀ L h [q]) (N' : News h₀ L h l) : News h₀ L h (q :: l) := fun p hp => (List.mem_cons.mp hp).elim (fun e => by rw [e]; exact N q (.head _)) (N' p)
theorem news_tail12 {h₀ h : Heap} {L : Addr} {a b c d e f g i j : Addr × Obj} {l : List (Addr × Obj)} (N : News h₀ L h (a :: b :: c :: d :: e :: f :: g :: i :: j :: l)) : News h₀ L h l := fun q hq => N q (.tail _ (.tail _ (.tail _ (.tail _ (.tail _ (.tail _ (.tail _ (.tail _ (.tail _ hq)))))))))
theorem fmod7 (k : Int) : 0 ≤ Int.fmod k 7 ∧ Int.fmod k 7 < 7 := ⟨Int.fmod_nonneg_of_pos k (by decide), Int.fmod_lt_of_pos k (by decide)⟩
theorem fmod5 (k : Int) : 0 ≤ Int.fmod k 5 ∧ Int.fmod k 5 < 5 := ⟨Int.fmod_nonneg_of_pos k (by decide), Int.fmod_lt_of_pos k (by decide)⟩
theorem news_tail1 {h₀ h : Heap} {L : Addr} {a : Addr × Obj} {l : List (Addr × Obj)} (N : News h₀ L h (a :: l)) : News h₀ L h l := fun q hq => N q (.tail _ hq)
theorem fmod_fit {k n : Int} (h : 0 < n) (h2 : n < 2 ^ 63) : Int.fmod k n < 2 ^ 63 := Int.lt_trans (Int.fmod_lt_of_pos k h) h2
theorem nums_of {objs objs' : List (Addr × Obj)} {na : Addr} {nums : List (Str × Int)} {vs : List Value} {n : Nat} (h : (na, W.listOf vs.toArray n) ∈ objs') (r : PairRow objs nums vs) (hs : ∀ q ∈ objs, q ∈ objs') : NumsAt objs' na nums := ⟨vs, n, h, r.mono hs⟩
local macro_rules | `(tactic| walk_at "call builtin:len") => `(tactic| (k_here; (with_reducible show wpAny _ _ (call (Value.builtin "len") [Value.ref _]) _ _ _); k_dflt (refine' nums_len ?N ?nA9 ?nz9 ?_; (case N => k_asm); (case nA9 => first | exact ⟨_, _, by k_mem, by with_reducible assumption⟩ | exact ⟨_, _, by (repeat' (first | with_reducible assumption | exact List.mem_append_right _ (by with_reducible assumption) | refine List.Mem.tail _ ?_)), by with_reducible assumption⟩); (case nz9 => omega)); (try dsimp only)))
local macro_rules | `(tactic| walk_at "binaryOp Add ref ref") => `(tactic| (k_here; (with_reducible show wpAny _ _ (binaryOp _ (Value.ref _) (Value.ref _)) _ _ _); k_dflt (refine' nums_add ?F ?N ?nA9 ?nB9 ?nx9 ?ny9 ?_; (case F => k_asm); (case N => k_asm); (case nA9 => first | exact ⟨_, _, by k_mem, by with_reducible assumption⟩ | exact ⟨_, _, by (repeat' (first | with_reducible assumption | exact List.mem_append_right _ (by with_reducible assumption) | refine List.Mem.tail _ ?_)), by with_reducible assumption⟩); (case nB9 => first | exact ⟨_, _, by k_mem, by with_reducible assumption⟩ | exact ⟨_, _, by (repeat' (first | with_reducible assumption | exact List.mem_append_right _ (by with_reducible assumption) | refine List.Mem.tail _ ?_)), by with_reducible assumption⟩); (case nx9 => (first | omega | ((try simp only [List.length_append, List.length_cons, List.length_nil, pickL, List.length_take, List.length_drop]); omega))); (case ny9 => (first | omega | ((try simp only [List.length_append, List.length_cons, List.length_nil, pickL, List.length_take, List.length_drop]); omega)))); intro D' h' vs' F' N' P' l1; (try k_lt l1)))
local macro_rules | `(tactic| walk_at "subscriptTail Name Slice ref ref") => `(tactic| (k_here; (with_reducible show wpAny _ _ (subscriptTail _ (PySem.Expr.Slice _ _ none _) (Value.ref _) (Value.ref _)) _ _ _); k_dflt (refine' nums_slice ?F ?N ?nA9 ?nx9 ?np9 ?nq9 ?_ ?ns9 ?nt9; (case F => k_asm); (case N => k_asm); (case nA9 => first | exact ⟨_, _, by k_mem, by with_reducible assumption⟩ | exact ⟨_, _, by (repeat' (first | with_reducible assumption | exact List.mem_append_right _ (by with_reducible assumption) | refine List.Mem.tail _ ?_)), by with_reducible assumption⟩); (case nx9 => (first | omega | ((try simp only [List.length_append, List.length_cons, List.length_nil, pickL, List.length_take, List.length_drop]); omega))); (case np9 => kmk_part); (case nq9 => kmk_part); (case ns9 => with_unfolding_all rfl); (case nt9 => kmk_pure)); intro D' h' vs' F' N' P' l1; (try k_lt l1)))
local macro_rules | `(tactic| walk_at "subscriptTail BinOp Slice ref ref") => `(tactic| walk_at "subscriptTail Name Slice ref ref")
local macro_rules | `(tactic| walk_at "exec If") => `(tactic| (goal_lacks NumPost; k_here; refine stop_intro ?_))
theorem ints_at : ∀ {vs : List Value} {ns : List Int}, IntsAre vs ns → ∀ {i : Nat} {v : Value}, vs[i]? = some v → ∃ x t, v = .int x t := by
  intro vs ns h
  induction h with
  | nil => intro i v hv; simp at hv
  | cons _ _ _ ih =>
    intro i v hv
    cases i with
    | zero => simp at hv; exact ⟨_, _, hv.symm⟩
    | succ i => exact ih (by simpa using hv)
theorem look2 {h₀ h : Heap} {L : Addr} {m : Str → Option Value} {x y : Str} {a b : Value} (F : Fr h₀ L h m) (hx : m x = some a) (hy : m y = some b) : Fr h₀ L h (fun z => if z = x then some a else if z = y then some b else m z) := by
  have e : m = put (put m y b) x a := by rw [← put_id hy, ← put_id hx]
  rw [e] at F
  exact F
theorem start1 {h₀ hp : Heap} {L : Addr} {a b c d e f g h i j k l m : Addr × Obj} (N : News h₀ L hp [a, b, c, d, e, f, g, h, i, j, k, l, m]) : News h₀ L hp ([l, m, k] ++ ([a] ++ [g, h, i, j])) := fun q hq => N q (by
  simp only [List.cons_append, List.nil_append, List.mem_cons, List.not_mem_nil, or_false] at hq ⊢
  rcases hq with hq | hq | hq | hq | hq | hq | hq | hq <;> simp only [hq, true_or, or_true])
local macro_rules | `(tactic| walk_at "exec For") => `(tactic| (k_here; k_dflt (refine' for_l ?hs ?_; (case hs => intro _; exact rfl); k_whole)))
local macro_rules | `(tactic| walk_at "exec For Name Subscript cons nil") => `(tactic| (k_here; k_dflt (refine' for_l ?hs ?_; (case hs => intro _; exact rfl); k_whole)))
set_option pp.deepTerms false in
set_option pp.deepTerms.threshold 6 in
set_option maxHeartbeats 8000000 in
theorem dev1 : LawWalk := by
  intro w loose mean mg mb s₁ sa xs vals hT X T hL hI hx hg
  have hL' := ghost_list hT hL
  k_dflt (refine' enterT hT X T ?k6 ?k7 ?k9 ?kB ?_ ?c2 ?c3 ?c4 ?c5; (case k6 => k_is); (case k7 => k_is); (case k9 => first | exact BindsTo.of_eq rfl | exact binds_K (by k_in) rfl (by k_is) rfl rfl rfl); (case c5 => decide); (case kB => exact locs rfl); (case c2 => exact rfl); (case c3 => exact rfl); (case c4 => exact rfl); k_whole; intro L' h' F' N' B'; (try dsimp only); (try k_fold))
  k_steps
  rename_i ra h15 l10 h14 tk1 D7 h13 l9 D6 h12 l8 D5 h11 l7 na h10 l6 D4 h9 l5 h8 h7 h6 D3 ws3 h5 hI3 hC2 hL2 l4 le h4 l3 D2 ws2 h3 hI2 l2 D1 ws1 h2 hI1 hC1 hL1 l1 h1 tk0 D ws h0 F9 N9 hI9 hC9 hL9 l0
  have hr1 := l10
  have hws : ws.length ≤ 6 := by
    have e9 := IntsAre.length hI9
    rw [e9]
    refine Nat.le_trans hL9 ?_
    simp; omega
  refine ForL.list (os := s₁.os) rfl ⟨F9, start1 N9, ?ap, ?ax, ?G, ?os⟩ (.head _) ?hax ?hgo (J1 ra) ?h0 ?step ?fin
  case G => exact AllBare.of_eq hg
  case os => rfl
  case hgo => exact fun I l i s' v Q' _ hq => wpAny_pure hq
  case hax => simp only [List.forall_mem_cons]; exact ⟨Nat.ne_of_lt (by simp only [l0, l6, l7, l8, l9]), Nat.ne_of_lt (by simp only [l0, l6, l7, l8, l9]), Nat.ne_of_lt (by simp only [l0, l6, l7, l8, l9]), List.forall_mem_nil _⟩
  case ax => simp only [List.forall_mem_cons]; exact ⟨⟨Nat.ne_of_gt (by simp only [l0, l6, l7, l8, l9]), Nat.ne_of_gt (by simp only [l0, l6, l7, l8, l9]), Nat.ne_of_gt (by simp only [l0, l6, l7, l8, l9]), Nat.ne_of_gt (by simp only [l0, l6, l7, l8, l9]), List.forall_mem_nil _⟩, List.forall_mem_nil _⟩
  case ap => simp only [List.forall_mem_cons, List.cons_append, List.nil_append]; exact ⟨⟨Nat.ne_of_lt (by simp only [l0, l6, l7, l8, l9]), Nat.ne_of_lt (by simp only [l0, l6, l7, l8, l9]), Nat.ne_of_lt (by simp only [l0, l6, l7, l8, l9]), Nat.ne_of_lt (by simp only [l0, l6, l7, l8, l9]), Nat.ne_of_lt (by simp only [l0, l6, l7, l8, l9]), List.forall_mem_nil _⟩, ⟨Nat.ne_of_lt (by simp only [l0, l6, l7, l8, l9]), Nat.ne_of_lt (by simp only [l0, l6, l7, l8, l9]), Nat.ne_of_lt (by simp only [l0, l6, l7, l8, l9]), Nat.ne_of_lt (by simp only [l0, l6, l7, l8, l9]), Nat.ne_of_lt (by simp only [l0, l6, l7, l8, l9]), List.forall_mem_nil _⟩, ⟨Nat.ne_of_lt (by simp only [l0, l6, l7, l8, l9]), Nat.ne_of_lt (by simp only [l0, l6, l7, l8, l9]), Nat.ne_of_lt (by simp only [l0, l6, l7, l8, l9]), Nat.ne_of_lt (by simp only [l0, l6, l7, l8, l9]), Nat.ne_of_lt (by simp only [l0, l6, l7, l8, l9]), List.forall_mem_nil _⟩, List.forall_mem_nil _⟩
  case h0 => exact ⟨[], [], 0, na, [(Mine.T "1", 1), (Mine.T "02", 2), (Mine.T "3", 3)], rfl, rfl, rfl, ⟨[_, _, _], 0, .head _, .cons (.tail _ (.tail _ (.tail _ (.head _)))) (.cons (.tail _ (.tail _ (.head _))) (.cons (.tail _ (.head _)) .nil))⟩, ⟨by decide, by decide, by decide⟩, .nil, rfl, List.forall_mem_nil _⟩
  case fin =>
    intro m' muts' objs' s' S' hm' hJ'
    exact law_rest X T B' S' hJ' hr1.2 hws
  case step =>
    clear F9 N9 l0 l1 l2 l3 l4 l5 l6 l7 l8 l9
    intro i v m₁ muts₁ ex₁ objs₁ s₂ hv hJ hS hm hx
    obtain ⟨rows, rvals, n, na', nums, rfl, hr, hn, hNA, ⟨hg1, hg2, hg3⟩, hRW, hi9, hgr⟩ := hJ
    obtain ⟨F2, N2, ap2, ax2, G2, os2⟩ := hS
    obtain ⟨x, t, rfl⟩ : ∃ x t, v = .int x t := ints_at hI9 hv
    have F3 := look2 F2 hr hn
    clear F2
    simp only [List.cons_append, List.nil_append] at N2
    (try dsimp only)
    k_steps
    rename_i hA tkA uA tkB D0 hB k8 hC hD hE E1 hF k7 E2 hG k6 E3 hH k5 E4 hI' k4 E5 hJ k3 E6 hK k2 E7 hL3 k1 ll hM FN NN k0
    refine Stop.go ?_
    refine pick_list (OneOk (ghostOf s₁.heap TABS) L' hM ra (ex₁ ++ objs₁)) NN (.head _) (fmod7 _).1 (fmod7 _).2 (fmod_fit (by decide) (by decide)) ?each ?cont
    case each =>
      intro v hv
      simp only [List.mem_cons, List.not_mem_nil, or_false] at hv
      rcases hv with rfl | rfl | rfl | rfl | rfl | rfl | rfl
      · exact ⟨_, _, _, (Mine.T "0", 0), rfl, by decide, one_news NN (by k_mem), by simp only [k7], by simp only [k7], by simp only [k7], by simp only [k7]⟩
      · exact ⟨_, _, _, (Mine.T "1", 1), rfl, by decide, one_news NN (by k_mem), by simp only [k6], by simp only [k6], by simp only [k6], by simp only [k6]⟩
      · exact ⟨_, _, _, (Mine.T "10", 10), rfl, by decide, one_news NN (by k_mem), by simp only [k5], by simp only [k5], by simp only [k5], by simp only [k5]⟩
      · exact ⟨_, _, _, (Mine.T "007", 7), rfl, by decide, one_news NN (by k_mem), by simp only [k4], by simp only [k4], by simp only [k4], by simp only [k4]⟩
      · exact ⟨_, _, _, (Mine.T "99", 99), rfl, by decide, one_news NN (by k_mem), by simp only [k3], by simp only [k3], by simp only [k3], by simp only [k3]⟩
      · exact ⟨_, _, _, (Mine.T "123456789012", 123456789012), rfl, by decide, one_news NN (by k_mem), by simp only [k2], by simp only [k2], by simp only [k2], by simp only [k2]⟩
      · exact ⟨_, _, _, (Mine.T "100", 100), rfl, by decide, one_news NN (by k_mem), by simp only [k1], by simp only [k1], by simp only [k1], by simp only [k1]⟩
    case cont =>
      rintro v ⟨a1, t1, u1, p1, rfl, hp1, Na1, g1, g2, g3, g4⟩
      have NN2 := news_one Na1 (news_tail12 NN)
      clear NN N2 k0 k1 k2 k3 k4 k5 k6 k7 k8
      obtain ⟨vs0, n0, hm0, hP0⟩ := hNA
      obtain ⟨K, hK⟩ : ∃ K : List (Addr × Obj), K = (a1, tupObj [.str p1.1 t1, .int p1.2 u1]) :: objs₁ := ⟨_, rfl⟩
      have hP1 : PairRow K nums vs0 := hP0.mono fun q hq => by rw [hK]; exact .tail _ hq
      have hP2 : PairRow K [p1] [Value.ref a1] := by rw [hK]; exact .cons (.head _) .nil
      clear hP0
      have hra : ∀ p ∈ ex₁ ++ objs₁, p.1 ≠ ra := fun p hp e => ap2 _ (.tail _ (.tail _ (.head _))) p hp e.symm
      k_steps
      refine Stop.go ?_
      rename_i hS FS NS
      refine num_cut (ra := ra) (K := K) FS NS rfl ?arm ?rest
      case rest =>
        intro m9 na9 nums9 new9 h9 tk9 F10 N10 b1 b2 b3 H10 G10 al10
        have F11 := look3 F10 b1 b2 b3
        have N11 := fold_new N10
        clear F10 N10 NS FS
        have H11 : NumsAt (new9 ++ K) na9 nums9 := by
          obtain ⟨vs5, n5, hm5, hP5⟩ := H10
          exact ⟨vs5, n5, hm5, hP5.mono fun q hq => List.mem_append_right _ hq⟩
        rw [hK] at H11
        generalize hob : new9 ++ ((a1, tupObj [.str p1.1 t1, .int p1.2 u1]) :: objs₁) = objs2 at N11 H11
        clear H10
        obtain ⟨gg1, gg2, gg3⟩ := G10
        have hra2 : ∀ p ∈ ex₁ ++ objs2, p.1 ≠ ra := by
          intro p hp
          rw [← hob] at hp
          rcases List.mem_append.mp hp with hp | hp
          · exact hra p (List.mem_append_left _ hp)
          · rcases List.mem_append.mp hp with hp | hp
            · exact Nat.ne_of_gt (al10 p hp).2.2.2.1
            · rcases List.mem_cons.mp hp with rfl | hp
              · exact Nat.ne_of_gt g3
              · exact hra p (List.mem_append_right _ hp)
        obtain ⟨vs6, n6, hm6, hP6⟩ := id H11
        (try dsimp only)
        k_steps
        rename_i hW FW NW kW
        refine Stop.go ?_
        refine pick_list (fun v => ∃ x t, v = .str x t ∧ x ∈ WORDS) NW (.head _) (fmod5 _).1 (fmod5 _).2 (fmod_fit (by decide) (by decide)) ?eachW ?contW
        case eachW =>
          intro v hv
          simp only [List.mem_cons, List.not_mem_nil, or_false] at hv
          rcases hv with rfl | rfl | rfl | rfl | rfl <;> exact ⟨_, _, rfl, by decide⟩
        case contW =>
          rintro v ⟨xw, tw, rfl, hxw⟩
          have NW2 := news_tail1 NW
          clear NW kW
          have hi7 : rvals.length ≤ 6 := by
            have e8 := hRW.length
            have e7 := (List.getElem?_eq_some_iff.mp hv).1
            omega
          k_steps
          · rename_i hP kP1 FP kP2 NP kP3
            refine Stop.go ?_
            refine pick_list (fun v => ∃ x t, v = .str x t ∧ x ∈ PLUS) NP (.head _) (Int.fmod_nonneg_of_pos _ (by decide)) (Int.fmod_lt_of_pos _ (by decide)) (fmod_fit (by decide) (by decide)) ?eachP ?contP
            case eachP =>
              intro v hv
              simp only [List.mem_cons, List.not_mem_nil, or_false] at hv
              rcases hv with rfl | rfl | rfl <;> exact ⟨_, _, rfl, by decide⟩
            case contP =>
              rintro v ⟨xp, tp, rfl, hxp⟩
              have NP2 := news_tail1 NP
              clear NP kP3
              k_steps
              rename_i hY1 hY2 FY NY kY
              refine append_K FY NY (.tail (Nat.ne_of_gt kY.2.2.1) (.tail (Nat.ne_of_lt hr1.1) (.tail (Nat.ne_of_lt hr1.2) (.head hra2)))) ?_ (by rw [List.size_toArray]; exact len_line6 (by omega))
              intro hZ FZ NZ
              refine wpAny_execs_nil ?_
              exact turn1 FZ NZ hob ap2 ax2 G2 os2 kY g1 g2 g3 g4 al10 rfl rfl H11 ⟨gg1, gg2, gg3⟩ hRW hi9 hgr hxw hxp (fun h4 => absurd hP (by omega))
          · rename_i hP hY1 hY2 FY NY kY
            refine append_K FY NY (.tail (Nat.ne_of_gt kY.2.2.1) (.tail (Nat.ne_of_lt hr1.1) (.tail (Nat.ne_of_lt hr1.2) (.head hra2)))) ?_ (by rw [List.size_toArray]; exact len_line6 (by omega))
            intro hZ FZ NZ
            refine wpAny_execs_nil ?_
            exact turn1 FZ NZ hob ap2 ax2 G2 os2 kY g1 g2 g3 g4 al10 rfl rfl H11 ⟨gg1, gg2, gg3⟩ hRW hi9 hgr hxw (by decide) (fun _ => rfl)
      case arm =>
        k_steps
        · exact NumPost.intro (new := [_, _, _, _, _]) (by assumption) (by assumption) rfl rfl rfl ⟨_, _, .head _, by assumption⟩ (good_set ⟨hg1, hg2, hg3⟩ hp1 (Int.fmod_nonneg_of_pos _ (by omega)) (Int.fmod_lt_of_pos _ (by omega))) (by simp only [List.forall_mem_cons, List.not_mem_nil, false_implies, implies_true, AllLt, and_true, and_self, *])
        · exact NumPost.intro (new := [_, _, _]) (by assumption) (by assumption) rfl rfl rfl ⟨_, _, .head _, by assumption⟩ (good_add ⟨hg1, hg2, hg3⟩ hp1) (by simp only [List.forall_mem_cons, List.not_mem_nil, false_implies, implies_true, AllLt, and_true, and_self, *])
        · exact NumPost.intro (new := [_]) (by assumption) (by assumption) rfl rfl rfl ⟨_, _, .head _, by assumption⟩ (good_last ⟨hg1, hg2, hg3⟩ (by omega)) (by simp only [List.forall_mem_cons, List.not_mem_nil, false_implies, implies_true, AllLt, and_true, and_self, *])
        · exact NumPost.intro (new := []) (by assumption) (by assumption) rfl rfl rfl ⟨_, _, (by rw [hK]; exact .tail _ hm0), by assumption⟩ ⟨hg1, hg2, hg3⟩ (List.forall_mem_nil _)
end Mine
end
section
local macro_rules | `(tactic| walk_at "pad") => `(tactic| fail)
local macro_rules | `(tactic| walk_at "pad") => `(tactic| fail)
local macro_rules | `(tactic| walk_at "pad") => `(tactic| fail)
theorem Mine.reset_Z1 : True := by w_top off; trivial
open PySem PySem.W PyProof.Rows PySem.Calls PySem.Spec
namespace Mine
set_option maxRecDepth 100000 in
set_option maxHeartbeats 8000000 in
theorem law_all : PySem.Challenge.rw_ci0037_01.Holds := by
  w_on
  o_law
  o_head (kmHook Mine.hd.heap_39 [2, 3, 15, 17, 18, 20, 21, 22, 24, 25, 27, 28, 29, 31, 32, 34, 35, 36, 38, 39, 41, 42, 43, 45, 46, 48, 49, 50, 57, 59, 60, 62, 63, 64, 66, 67, 69, 70, 71, 73, 74, 76, 77, 78, 80, 81, 83, 84, 85, 87, 88, 90, 91, 92, 93, 94, 95, 96, 99, 106, 108, 109, 111, 112, 113, 115, 116, 118, 119, 120, 122, 123, 125, 126, 127, 129, 130, 132, 133, 134, 136, 137, 139, 140, 141, 143, 144, 146, 147, 148, 149, 150, 151, 152, 155, 162, 164, 165, 167, 168, 169, 171, 172, 174, 175, 176, 178, 179, 181, 182, 183, 185, 186, 188, 189, 190, 192, 193, 195, 196, 197, 199, 200, 202, 203, 204, 205, 206, 207, 208, 211, 218, 219, 221, 222, 224, 225, 226, 227, 229, 230, 232, 233, 234, 235, 236, 237, 239, 240, 242, 243, 244, 246, 247, 249, 250, 251, 253, 254, 256, 257, 258, 259, 261, 262, 264, 265, 266, 267, 270, 271, 272, 273, 274, 275, 276, 278, 279, 281, 282, 283, 284, 285, 286, 287, 289, 290, 292, 293, 294, 295, 296, 297, 299, 300, 302, 303, 304, 305, 306, 307, 309, 310, 312, 313, 314, 316, 317, 319, 320, 321, 322, 324, 325, 327, 328, 329, 331, 332, 334, 335, 336, 337, 339, 340, 342, 343, 344, 346, 347, 349, 350, 351, 353, 354, 356, 357, 358, 360, 361, 363, 364, 365, 367, 368, 370, 371, 372, 374, 375, 377, 378, 379, 381, 382, 384, 385, 386, 387, 388, 389, 390, 393, 395, 396, 398, 399, 400, 402, 403, 405, 406, 407, 410, 411] (fun _ => by kernel_rfl) [268, 323])
  (case hw => w_witness2)
  k_fill
  intro w s₀ s₁ mg mb G Y fa o pm cd doc dV kV ho hd hcd hD hmg hg args vals as hpre hlay hrd hwl hlo
  have KX := km_in_of Y
  have KT := km_tabs_of Y
  refine Ground.open G ?_
  intro T B D TE TW
  have hfa := mg_of (n := PySem.Str.ofString "law") (v := .ref 411) KX (Top.g T) (by kernel_rfl)
  have e9 : fa = 411 := by
    have e := hmg.symm.trans hfa
    injection e with e
    injection e
  subst e9
  have hT9 : TabsAt TABS s₁.heap := List.forall_mem_cons.mpr ⟨⟨codeHd_of_K (c := 270) (P := 268) KX (by kernel_rfl), KT 268 (by simp)⟩, List.forall_mem_cons.mpr ⟨⟨codeHd_of_K (c := 327) (P := 323) KX (by kernel_rfl), KT 323 (by simp)⟩, fun _ h => nomatch h⟩⟩
  have X' := ghost_K hT9 KX (by kernel_rfl)
  have T' := ghost_top hT9 T
  clear ho hd hcd hD hmg hfa
  wrow_args hpre hlay hrd hwl hlo
  first | refine callC_kw (enter_call ?_) | refine enter_call ?_
  refine codeAny_mono (dev1 w _ _ _ _ s₁ _ _ _ hT9 X' T' (by assumption) (by assumption) (by omega) hg) fun r s' h => good_of hT9 h ?_ ?_
  · first | exact fun _ => rfl | exact raisesW_false (by wrow_none_raised)
  · first | rfl | exact postW_of (by wrow_shape) (by wtm_val) (by str_meet; first | done | w_fin)
end Mine
end
theorem PySem.Challenge.cw_ci0037_01_holds : PySem.Challenge.rw_ci0037_01.Holds := by
  exact Mine.law_all
