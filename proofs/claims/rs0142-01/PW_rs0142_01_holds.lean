import PyProof.Rows.All
import Wide.All
import OpenK.AllK
import Wide.FinOn
import PySem.Challenge.RW_rs0142_01
open PySem PySem.W PyProof.Rows
set_option Elab.async false
namespace Mine
/-- the statements of the text that the top's view keeps -/
def view : Program := { PySem.Challenge.pw_rs0142_01 with main := { PySem.Challenge.pw_rs0142_01.main with body := [1, 2, 3, 5, 6, 7, 8, 9, 10, 11, 13, 14, 15, 16, 17, 19, 20, 21, 22, 23, 24].filterMap fun i => PySem.Challenge.pw_rs0142_01.main.body[i]? } }
-- the head in one check of the whole top: its pieces would take 11 MB more
local macro_rules | `(tactic| o_head $H) => `(tactic| (
  refine holds_open (q := Mine.view) (loose := []) (Xt := fun s => xlAt Mine.view [] s && recOk (RowW.records PySem.Challenge.rw_rs0142_01.row.toRowW) s) (XP := XL Mine.view []) (Yf := Hook.obs $H) (Ya := Hook.val $H) (YP := Hook.says $H) (N := 2078) ?hl (Hook.of $H) (Hook.keeps $H) (fun s e => xl_of s (Bool.and_eq_true_iff.mp e).1) XL.keeps (by rfl) (by rfl) (by rfl) (fun s e => recFacts_of (Bool.and_eq_true_iff.mp e).2) (by rfl) (by first | assumption | decide +kernel) (by decide +kernel) ⟨rfl, rfl, rfl, rfl, rfl, by decide +kernel⟩ ?hw ?hc
  (case hl => (intro w; kernel_rfl))))
set_option maxRecDepth 100000 in
set_option maxHeartbeats 8000000 in
open_top hd for PySem.Challenge.rw_rs0142_01
end Mine
namespace Mine
/-- a contract of a def: it ends, what it gives back answers Out, the ledger is as it was -/
abbrev Con (rm : Nat) (w : World) (loose : List Str) (mean : ExcName → Option Value) (mg mb : Str → Option Value) (f : Addr) (vs : List Value) (Out : Value → Prop) : Prop :=
  ∀ (dp un : Nat) (gd : Option (List Code)) (cn : Str) (cs : Scope) (a : Addr) (ccd : Value) (cl : List (Str × Addr)) (outer : List Env) (A₀ : Around) (base h₀ : Heap) (L : Addr) (m : Str → Option Value) (news : List (Addr × Obj)) (s : Shared) (Q E : Value → Shared → Prop),
    Below A₀ base outer h₀ → Fr h₀ L s.heap m → (Mine.hd.heap_39 w.params).In h₀ → News h₀ L s.heap news → Top topProg loose mean mg mb h₀ → cs.kind = .function →
    dp + rm < recursionLimit → un + 10 * rm < cLine →
    (∀ r h' tk', Out r → Fr h₀ L h' m → News h₀ L h' news → Q r { s with heap := h', toks := tk' }) →
      wpAny (model PySem.Challenge.rw_rs0142_01.row.prog w) (ktrTop dp un gd cn cs L a ccd cl outer) (call (.ref f) vs) Q E s
section
variable {rm : Nat} {w : World} {loose : List Str} {mean : ExcName → Option Value} {mg mb : Str → Option Value} {f : Addr} {vs : List Value} {Out : Value → Prop} {dp un : Nat} {gd : Option (List Code)} {cn : Str} {cs : Scope} {a : Addr} {ccd : Value} {cl : List (Str × Addr)} {outer : List Env} {A₀ : Around} {base h₀ : Heap} {L : Addr} {m : Str → Option Value} {news : List (Addr × Obj)} {s : Shared} {Q E : Value → Shared → Prop}
theorem con_use (C : Con rm w loose mean mg mb f vs Out) (B : Below A₀ base outer h₀) (F : Fr h₀ L s.heap m) (X : (Mine.hd.heap_39 w.params).In h₀) (N : News h₀ L s.heap news) (T : Top topProg loose mean mg mb h₀) (hk : cs.kind = .function) (hd : dp + rm < recursionLimit) (hu : un + 10 * rm < cLine)
    (ret : ∀ r h' tk', Out r → Fr h₀ L h' m → News h₀ L h' news → Q r { s with heap := h', toks := tk' }) :
    wpAny (model PySem.Challenge.rw_rs0142_01.row.prog w) (ktrTop dp un gd cn cs L a ccd cl outer) (call (.ref f) vs) Q E s := C _ _ _ _ _ _ _ _ _ _ _ _ _ _ _ _ _ _ B F X N T hk hd hu ret
end
theorem str_eq {x y : Str} (h : x.cps.toList = y.cps.toList) : x = y := by
  cases x; cases y; congr; exact Array.toList_inj.mp h
theorem codes_append (x y : Str) : (x ++ y).cps.toList = x.cps.toList ++ y.cps.toList := by
  rw [Str.cps_append]; simp
theorem codes_quotes (n : Int) : (Txt.mul (Str.ofString "\"") n).cps.toList = List.replicate n.toNat 34 := by
  rw [show Str.ofString "\"" = ⟨#[34]⟩ from by decide +kernel]; exact mul_one_list 34 n
theorem codes_xs (n : Int) : (Txt.mul (Str.ofString "x") n).cps.toList = List.replicate n.toNat 120 := by
  rw [show Str.ofString "x" = ⟨#[120]⟩ from by decide +kernel]; exact mul_one_list 120 n
def half (n : Int) : Str := ⟨(List.replicate (n / 2).toNat 34 ++ List.replicate (1 - n % 2).toNat 120).toArray⟩
theorem half_is {n : Int} (h0 : 0 ≤ n) : Txt.mul (Str.ofString "\"") (n.fdiv 2) ++ Txt.mul (Str.ofString "x") (1 - n.fmod 2) = half n := by
  apply str_eq
  rw [codes_append, codes_quotes, codes_xs, Int.fdiv_eq_ediv_of_nonneg _ (by omega), Int.fmod_eq_emod_of_nonneg _ (by omega)]
  simp [half]
theorem ite_f {b : Bool} {T E : Prop} (h : b = false) (e : E) : if b = true then T else E := by
  subst h; simpa using e
theorem ite_t {b : Bool} {T E : Prop} (h : b = true) (t : T) : if b = true then T else E := by
  subst h; simpa using t
theorem ite_ne_t {x y : Int} {P Q : Prop} (h : x ≠ y) (p : P) : if (x != y) = true then P else Q := by
  rw [if_pos (by simp [h])]; exact p
theorem ite_ne_f {x y : Int} {P Q : Prop} (h : x = y) (q : Q) : if (x != y) = true then P else Q := by
  rw [if_neg (by simp [h])]; exact q
theorem ite_eq_t {x y : Int} {P Q : Prop} (h : x = y) (p : P) : if (x == y) = true then P else Q := by
  rw [if_pos (by simp [h])]; exact p
theorem ite_eq_f {x y : Int} {P Q : Prop} (h : x ≠ y) (q : Q) : if (x == y) = true then P else Q := by
  rw [if_neg (by simp [h])]; exact q
theorem ite_dec_t {c : Prop} [Decidable c] {P Q : Prop} (h : c) (p : P) : if decide c = true then P else Q := by
  rw [if_pos (by simp [h])]; exact p
theorem ite_dec_f {c : Prop} [Decidable c] {P Q : Prop} (h : ¬ c) (q : Q) : if decide c = true then P else Q := by
  rw [if_neg (by simp [h])]; exact q
theorem len_codes (x : Str) : x.length = x.cps.toList.length := by simp [Str.length]
theorem slice_to {x : Str} {j : Int} (h0 : 0 ≤ j) (h2 : j ≤ x.length) : (Txt.slice x none (some j)).cps.toList = x.cps.toList.take j.toNat := by
  rw [beq_iff_eq.mp (slice_closes_toL h0 h2)]; simp
theorem slice_ft {x : Str} {i j : Int} (h0 : 0 ≤ i) (h1 : i ≤ j) (h2 : j ≤ x.length) : (Txt.slice x (some i) (some j)).cps.toList = (x.cps.toList.drop i.toNat).take (j - i).toNat := by
  rw [beq_iff_eq.mp (slice_closesL h0 h1 h2)]
theorem slice_fr {x : Str} {i : Int} (h0 : 0 ≤ i) (h2 : i ≤ x.length) : (Txt.slice x (some i) none).cps.toList = x.cps.toList.drop i.toNat := by
  rw [slice_from_eq h0 h2 rfl]
  show List.take _ _ = _
  apply List.take_of_length_le
  rw [List.length_drop, ← len_codes]; omega
theorem item_is {x : Str} {i : Int} (h0 : 0 ≤ i) (h1 : i < x.length) : Txt.item x i = ⟨#[x.cps.toList.getD i.toNat 0]⟩ := by
  rw [item_at h0 h1 rfl]; simp
theorem of_eq_codes {x y : Str} (h : x.cps.toList = y.cps.toList) : (x != y) = false := by
  rw [str_eq h]; simp
theorem codes_one (c : Nat) : (Str.mk #[c]).cps.toList = [c] := rfl
theorem quote_is : Str.ofString "\"" = ⟨#[34]⟩ := by decide +kernel
/-- what parse257 tells of the signs behind the first quote -/
def parseGo : List Nat → List Nat
  | [] => []
  | [c] => if c = 34 then [] else [c]
  | c :: d :: r => if c = 34 then (if d = 34 then 34 :: parseGo r else []) else c :: parseGo (d :: r)
theorem parseGo_plain {c : Nat} (h : c ≠ 34) (l : List Nat) : parseGo (c :: l) = c :: parseGo l := by
  cases l with
  | nil => simp [parseGo, h]
  | cons d r => rw [parseGo]; simp [h]
theorem parseGo_two (l : List Nat) : parseGo (34 :: 34 :: l) = 34 :: parseGo l := by rw [parseGo]; simp
theorem parseGo_one : parseGo [34] = [] := by simp [parseGo]
theorem parseGo_stop {d : Nat} (h : d ≠ 34) (l : List Nat) : parseGo (34 :: d :: l) = [] := by rw [parseGo]; simp [h]
def lowN (c : Nat) : Nat := if 65 ≤ c ∧ c ≤ 90 then c + 32 else c
/-- what one letter costs against another -/
def sc (c d : Nat) : Int := if c = d then 0 else if lowN c = lowN d then 1 else 2
/-- one row: the new row, its last number, its least -/
def stepRow (y : Nat) : List Nat → List Int → Int → Int → Int → List Int × Int × Int
  | x :: as, r :: row, dist, res, mn =>
    let res' := if dist + sc y x < (if r < res then r else res) + 2 then dist + sc y x else (if r < res then r else res) + 2
    let R := stepRow y as row r res' (if res' < mn then res' else mn)
    (res' :: R.1, R.2)
  | _, row, _, res, mn => (row, res, mn)
def goRows (as : List Nat) (c : Int) : List Nat → Int → List Int → Int → Int
  | [], _, _, res => res
  | y :: bs, j, row, _ =>
    let R := stepRow y as row (j * 2) (j * 2) 9223372036854775807
    if c < R.2.2 then c + 1 else goRows as c bs (j + 1) R.1 R.2.1
def preLen : List Nat → List Nat → Nat
  | x :: a, y :: b => if x = y then preLen a b + 1 else 0
  | _, _ => 0
def levCore (a b : List Nat) (c : Int) : Int :=
  if a = [] ∨ b = [] then 2 * ((a.length : Int) + b.length)
  else
    let p := if b.length < a.length then (b, a) else (a, b)
    if c < ((p.2.length : Int) - p.1.length) * 2 then c + 1
    else goRows p.1 c p.2 0 ((List.range p.1.length).map fun k : Nat => 2 + 2 * (k : Int)) 0
def stripPre (a b : List Nat) : List Nat × List Nat := (a.drop (preLen a b), b.drop (preLen a b))
def stripPost (a b : List Nat) : List Nat × List Nat := (a.take (a.length - preLen a.reverse b.reverse), b.take (b.length - preLen a.reverse b.reverse))
def lev (a b : List Nat) (c : Int) : Int :=
  if a = b then 0 else
    let p := stripPre a b
    let q := stripPost p.1 p.2
    levCore q.1 q.2 c
end Mine
namespace Mine
theorem execs_app_eq (env : Env) (l2 : List Stmt) : ∀ l1 : List Stmt, execs (l1 ++ l2) env = (do match ← execs l1 env with | .next => execs l2 env | f => pure f)
  | [] => by rw [List.nil_append, execs_nil, pure_bind]
  | st :: l1 => by
    rw [List.cons_append, execs_cons, execs_cons, bind_assoc]
    congr 1
    funext f
    cases f with
    | next => exact execs_app_eq env l2 l1
    | brk => rw [pure_bind]
    | cont => rw [pure_bind]
    | ret v => rw [pure_bind]
/-- between two parts of a body: which names hold what (ps), what the ledger holds (Led), what is known (P); all else as before, but for the stored names -/
def MidEnd {σ : Type} (h₀ : Heap) (L : Addr) (s : Shared) (m₀ : Str → Option Value) (Led : σ → List (Addr × Obj)) (ps : σ → List (Str × Value)) (stored : List Str) (P : σ → Prop) (s' : Shared) : Prop :=
  ∃ (c : σ) (h : Heap) (tk : Nat) (m' : Str → Option Value) (news' : List (Addr × Obj)), s' = { s with heap := h, toks := tk } ∧ Fr h₀ L h m' ∧ News h₀ L h news' ∧ (∀ p ∈ Led c, p ∈ news') ∧ (∀ p ∈ ps c, m' p.1 = some p.2) ∧ (∀ z, (∀ p ∈ ps c, z ≠ p.1) → stored.contains z = false → m' z = m₀ z) ∧ P c
theorem mid_end {σ : Type} {h₀ : Heap} {L : Addr} {s : Shared} {m₀ m' : Str → Option Value} {Led : σ → List (Addr × Obj)} {ps : σ → List (Str × Value)} {stored : List Str} {P : σ → Prop} {h : Heap} {tk : Nat} {news' : List (Addr × Obj)} (c : σ)
    (F : Fr h₀ L h m') (N : News h₀ L h news') (hn : ∀ p ∈ Led c, p ∈ news') (hk : ∀ p ∈ ps c, m' p.1 = some p.2) (hr : ∀ z, (∀ p ∈ ps c, z ≠ p.1) → stored.contains z = false → m' z = m₀ z) (hp : P c) :
    MidEnd h₀ L s m₀ Led ps stored P { s with heap := h, toks := tk } := ⟨c, h, tk, m', news', rfl, F, N, hn, hk, hr, hp⟩
def MidN {σ : Type} (h₀ : Heap) (L : Addr) (s : Shared) (m₀ : Str → Option Value) (Led : σ → List (Addr × Obj)) (ps : σ → List (Str × Value)) (stored : List Str) (P : σ → Prop) (Q : Flow → Shared → Prop) (f : Flow) (s' : Shared) : Prop :=
  match f with
  | .next => MidEnd h₀ L s m₀ Led ps stored P s'
  | .brk => Q .brk s'
  | .cont => Q .cont s'
  | .ret v => Q (.ret v) s'
section
variable {σ : Type} {M : Model} {A : Around} {E : Value → Shared → Prop} {s : Shared} {env : Env} {h₀ : Heap} {L : Addr} {Q : Flow → Shared → Prop} {m₀ : Str → Option Value}
theorem cut_at (k : Nat) {l : List Stmt} (Led : σ → List (Addr × Obj)) (ps : σ → List (Str × Value)) (stored : List Str) (P : σ → Prop) (_F : Fr h₀ L s.heap m₀)
    (h1 : wpAny M A (execs (l.take k) env) (MidN h₀ L s m₀ Led ps stored P Q) E s)
    (h2 : ∀ (c : σ) (u : Str → Option Value) h tk, P c → Fr h₀ L h (kstB (fun z => if stored.contains z then u z else m₀ z) (ps c)) → News h₀ L h (Led c) → wpAny M A (execs (l.drop k) env) Q E { s with heap := h, toks := tk }) :
    wpAny M A (execs l env) Q E s := by
  have e : execs l env = (do match ← execs (l.take k) env with | .next => execs (l.drop k) env | f => pure f) := by
    rw [← execs_app_eq, List.take_append_drop]
  rw [e]
  refine wpAny_bind (wpAny_mono h1 (fun f s' h => ?_) fun _ _ x => x)
  cases f with
  | next =>
    obtain ⟨c, h, tk, m', news', rfl, F', N', hn, hk, hr, hp⟩ := h
    exact h2 c m' h tk hp (ksw_fr hk hr F') fun p hq => N' p (hn p hq)
  | brk => exact wpAny_pure h
  | cont => exact wpAny_pure h
  | ret v => exact wpAny_pure h
end
end Mine
namespace Mine
/-- a mark at which the walk stops -/
def Stop (P : Prop) : Prop := P
theorem Stop.at {P : Prop} (h : Stop P) : P := h
theorem Stop.on {P : Prop} (h : P) : Stop P := h
end Mine
namespace Mine
set_option maxRecDepth 100000 in
set_option maxHeartbeats 64000000 in
theorem half_con (w : World) (loose mean mg mb) (n : Int) (t : Tok) (h0 : 0 ≤ n) (h1 : n < 1000) : Con 3 w loose mean mg mb 114 [.int n t] (fun r => ∃ t', r = .str (half n) t') := by
  w_top off
  have q1 : n.fdiv 2 = n / 2 := Int.fdiv_eq_ediv_of_nonneg _ (by omega)
  have q2 : n.fmod 2 = n % 2 := Int.fmod_eq_emod_of_nonneg _ (by omega)
  unfold Con
  k_fill
  intro dp un gd cn cs a ccd cl outer A₀ base h₀ L m news s Q E B F X N T hk hd hu hret
  refine wpAny_call ?_
  k_dflt cell_enter
  k_steps
  exact hret _ _ _ ⟨_, congrArg (Value.str · _) (half_is h0)⟩ (by assumption) (by assumption)
end Mine
namespace Mine
local macro_rules | `(tactic| walk_at "no such 0") => `(tactic| skip)
local macro_rules | `(tactic| walk_at "no such 1") => `(tactic| skip)
local macro_rules | `(tactic| walk_at "no such 2") => `(tactic| skip)
local macro_rules | `(tactic| walk_at "no such 3") => `(tactic| skip)
local macro_rules | `(tactic| walk_at "no such 4") => `(tactic| skip)
local macro_rules | `(tactic| walk_at "no such 5") => `(tactic| skip)
local macro_rules | `(tactic| walk_at "no such 6") => `(tactic| skip)
local macro_rules | `(tactic| walk_at "no such 7") => `(tactic| skip)
local macro_rules | `(tactic| walk_at "no such 8") => `(tactic| skip)
local macro_rules | `(tactic| omega) => `(tactic| lia)
def PI (r : List Nat) (i : Int) (d : Str) : Prop := d.cps.toList ++ parseGo (r.drop (i - 5).toNat) = parseGo r
section
variable {resp d : Str} {r : List Nat} {i : Int}
theorem pi_item (hr : resp.cps.toList = [50, 53, 55, 32, 34] ++ r) (h0 : 5 ≤ i) (h1 : i < 5 + (r.length : Int)) : ∃ c, Txt.item resp i = ⟨#[c]⟩ ∧ r.drop (i - 5).toNat = c :: r.drop (i + 1 - 5).toNat := by
  w_top off
  have hl : resp.length = 5 + r.length := by rw [len_codes, hr]; simp; omega
  obtain ⟨k, rfl⟩ : ∃ k : Nat, i = 5 + k := ⟨(i - 5).toNat, by omega⟩
  have hk : k < r.length := by omega
  refine ⟨r[k], ?_, ?_⟩
  · rw [item_is (by omega) (by omega), hr]
    congr
    rw [show (5 + (k : Int)).toNat = k + 5 by omega]
    simp [List.getD, hk]
  · rw [show (5 + (k : Int) - 5).toNat = k by omega, show (5 + (k : Int) + 1 - 5).toNat = k + 1 by omega]
    exact List.drop_eq_getElem_cons hk
theorem pi_start : (5 : Int) ≤ 5 ∧ (5 : Int) ≤ 5 + (r.length : Int) ∧ (Str.ofString "").length ≤ (5 : Int).toNat ∧ PI r 5 (Str.ofString "") := by
  w_top off
  refine ⟨by omega, by omega, by decide +kernel, ?_⟩
  unfold PI
  rw [show (Str.ofString "").cps.toList = [] from by decide +kernel]; simp
theorem pi_turn1 (hr : resp.cps.toList = [50, 53, 55, 32, 34] ++ r) (h0 : 5 ≤ i) (h1 : i < 5 + (r.length : Int)) (hd : d.length ≤ i.toNat) (hI : PI r i d) (hq : (Txt.item resp i == Str.ofString "\"") = false) :
    5 ≤ i + 1 ∧ i + 1 ≤ 5 + (r.length : Int) ∧ (d ++ Txt.item resp i).length ≤ (i + 1).toNat ∧ PI r (i + 1) (d ++ Txt.item resp i) := by
  w_top off
  obtain ⟨c, e, f⟩ := pi_item hr h0 h1
  rw [e, quote_is] at hq
  rw [e]
  have hc : c ≠ 34 := by intro h; subst h; simp at hq
  refine ⟨by omega, by omega, ?_, ?_⟩
  · rw [len_codes, codes_append, List.length_append, codes_one, ← len_codes]; simp; omega
  · unfold PI at hI ⊢
    rw [f, parseGo_plain hc] at hI
    rw [codes_append, codes_one, List.append_assoc]
    exact hI
theorem pi_turn2 (hr : resp.cps.toList = [50, 53, 55, 32, 34] ++ r) (h0 : 5 ≤ i) (h1 : i + 1 < 5 + (r.length : Int)) (hd : d.length ≤ i.toNat) (hI : PI r i d) (hq : (Txt.item resp i == Str.ofString "\"") = true) (hq2 : (Txt.item resp (i + 1) != Str.ofString "\"") = false) :
    5 ≤ i + 1 + 1 ∧ i + 1 + 1 ≤ 5 + (r.length : Int) ∧ (d ++ Txt.item resp i).length ≤ (i + 1 + 1).toNat ∧ PI r (i + 1 + 1) (d ++ Txt.item resp i) := by
  w_top off
  obtain ⟨c, e, f⟩ := pi_item hr h0 (by omega)
  obtain ⟨c', e', f'⟩ := pi_item (i := i + 1) hr (by omega) h1
  rw [e, quote_is] at hq
  rw [e', quote_is] at hq2
  have hc : c = 34 := by simpa using hq
  have hc' : c' = 34 := by simpa using hq2
  subst hc hc'
  rw [e]
  refine ⟨by omega, by omega, ?_, ?_⟩
  · rw [len_codes, codes_append, List.length_append, codes_one, ← len_codes]; simp; omega
  · unfold PI at hI ⊢
    rw [f, f', parseGo_two] at hI
    rw [codes_append, codes_one, List.append_assoc]
    exact hI
theorem pi_end3 (hr : resp.cps.toList = [50, 53, 55, 32, 34] ++ r) (h0 : 5 ≤ i) (h1 : i < 5 + (r.length : Int)) (h2 : 5 + (r.length : Int) ≤ i + 1) (hI : PI r i d) (hq : (Txt.item resp i == Str.ofString "\"") = true) : d = ⟨(parseGo r).toArray⟩ := by
  w_top off
  obtain ⟨c, e, f⟩ := pi_item hr h0 (by omega)
  rw [e, quote_is] at hq
  have hc : c = 34 := by simpa using hq
  subst hc
  unfold PI at hI
  rw [f, List.drop_eq_nil_of_le (by omega), parseGo_one] at hI
  apply str_eq; simpa using hI
theorem pi_end4 (hr : resp.cps.toList = [50, 53, 55, 32, 34] ++ r) (h0 : 5 ≤ i) (h1 : i + 1 < 5 + (r.length : Int)) (hI : PI r i d) (hq : (Txt.item resp i == Str.ofString "\"") = true) (hq2 : (Txt.item resp (i + 1) != Str.ofString "\"") = true) : d = ⟨(parseGo r).toArray⟩ := by
  w_top off
  obtain ⟨c, e, f⟩ := pi_item hr h0 (by omega)
  obtain ⟨c', e', f'⟩ := pi_item (i := i + 1) hr (by omega) h1
  rw [e, quote_is] at hq
  rw [e', quote_is] at hq2
  have hc : c = 34 := by simpa using hq
  have hc' : c' ≠ 34 := by simpa using hq2
  subst hc
  unfold PI at hI
  rw [f, f', parseGo_stop hc'] at hI
  apply str_eq; simpa using hI
theorem pi_end5 (hI : PI r i d) (h1 : 5 + (r.length : Int) ≤ i) : d = ⟨(parseGo r).toArray⟩ := by
  w_top off
  unfold PI at hI
  rw [List.drop_eq_nil_of_le (by omega)] at hI
  apply str_eq; simpa [parseGo] using hI
end
local macro_rules | `(tactic| walk_at "ite") => `(tactic| first | refine ite_f (by with_reducible assumption) ?_ | refine ite_t (by with_reducible assumption) ?_)
set_option maxRecDepth 100000 in
set_option maxHeartbeats 64000000 in
theorem parse_con (w : World) (loose mean mg mb) (resp : Str) (t : Tok) (r : List Nat) (hr : resp.cps.toList = [50, 53, 55, 32, 34] ++ r) (hl : r.length < 1000) : Con 3 w loose mean mg mb 46 [.str resp t] (fun v => ∃ t', v = .str ⟨(parseGo r).toArray⟩ t') := by
  w_top off
  have hlen : (resp.length : Int) = 5 + r.length := by rw [len_codes, hr]; simp; omega
  have hlen2 : resp.length ≤ 2000 := by omega
  have e1 : (Txt.slice resp none (some 3) != Str.ofString "257") = false := by
    apply of_eq_codes; rw [slice_to (by omega) (by omega), hr]; rfl
  have e2 : (Txt.slice resp (some 3) (some 5) != Str.ofString " \"") = false := by
    apply of_eq_codes; rw [slice_ft (by omega) (by omega) (by omega), hr]; rfl
  unfold Con
  k_fill
  intro dp un gd cn cs a ccd cl outer A₀ base h₀ L m news s Q E B F X N T hk hd hu hret
  refine wpAny_call ?_
  k_dflt cell_enter
  k_with "exec While Compare cons nil" => k_while (fun _ i d => 5 ≤ i ∧ i ≤ 5 + (r.length : Int) ∧ d.length ≤ i.toNat ∧ PI r i d) (fun _ i _ => 5 + r.length - i.toNat) "i" "dirname"
  k_with "state" => first | exact pi_start | exact pi_turn1 hr (by assumption) (by omega) (by assumption) (by assumption) (by assumption) | exact pi_turn2 hr (by assumption) (by omega) (by assumption) (by assumption) (by assumption) (by assumption)
  k_steps
  all_goals (refine hret _ _ _ ⟨_, congrArg (Value.str · _) ?_⟩ (by assumption) (by assumption))
  · exact pi_end3 hr (by assumption) (by omega) (by omega) (by assumption) (by assumption)
  · exact pi_end4 hr (by assumption) (by omega) (by assumption) (by assumption) (by assumption)
  · exact pi_end5 (by assumption) (by omega)
theorem parseGo_quotes_x : ∀ n : Nat, parseGo (List.replicate n 34 ++ [120]) = List.replicate (n / 2) 34 ++ List.replicate (1 - n % 2) 120
  | 0 => by decide
  | 1 => by decide
  | n + 2 => by
    rw [List.replicate_succ, List.replicate_succ]
    show parseGo (34 :: 34 :: (List.replicate n 34 ++ [120])) = _
    rw [parseGo_two, parseGo_quotes_x n, show (n + 2) / 2 = n / 2 + 1 by omega, show (n + 2) % 2 = n % 2 by omega, List.replicate_succ]
    rfl
theorem parseGo_quotes : ∀ n : Nat, parseGo (List.replicate n 34) = List.replicate (n / 2) 34
  | 0 => by decide
  | 1 => by decide
  | n + 2 => by
    rw [List.replicate_succ, List.replicate_succ, parseGo_two, parseGo_quotes n, show (n + 2) / 2 = n / 2 + 1 by omega, List.replicate_succ]
/-- a run with an x behind: half of it -/
theorem parse_x (w : World) (loose mean mg mb) (n : Int) (t : Tok) (resp : Str) (e : resp = Str.ofString "257 \"" ++ Txt.mul (Str.ofString "\"") n ++ Str.ofString "x") (h0 : 0 ≤ n) (h1 : n < 900) :
    Con 3 w loose mean mg mb 46 [.str resp t] (fun v => ∃ t', v = .str (half n) t') := by
  w_top off
  have := parse_con w loose mean mg mb resp t (List.replicate n.toNat 34 ++ [120]) (by
    rw [e, codes_append, codes_append, codes_quotes, show (Str.ofString "257 \"").cps.toList = [50, 53, 55, 32, 34] from by decide +kernel, show (Str.ofString "x").cps.toList = [120] from by decide +kernel, List.append_assoc]) (by simp; omega)
  rw [parseGo_quotes_x] at this
  rw [show half n = ⟨(List.replicate (n.toNat / 2) 34 ++ List.replicate (1 - n.toNat % 2) 120).toArray⟩ from by
    unfold half; rw [show (n / 2).toNat = n.toNat / 2 by omega, show (1 - n % 2).toNat = 1 - n.toNat % 2 by omega]]
  exact this
def quotes (n : Int) : Str := Txt.mul (Str.ofString "\"") n
/-- a run without it -/
theorem parse_q (w : World) (loose mean mg mb) (n : Int) (t : Tok) (resp : Str) (e : resp = Str.ofString "257 \"" ++ Txt.mul (Str.ofString "\"") n) (h0 : 0 ≤ n) (h1 : n < 900) :
    Con 3 w loose mean mg mb 46 [.str resp t] (fun v => ∃ t', v = .str (Txt.mul (Str.ofString "\"") (n.fdiv 2)) t') := by
  w_top off
  have := parse_con w loose mean mg mb resp t (List.replicate n.toNat 34) (by
    rw [e, codes_append, codes_quotes, show (Str.ofString "257 \"").cps.toList = [50, 53, 55, 32, 34] from by decide +kernel]) (by simp; omega)
  rw [parseGo_quotes] at this
  rw [show Txt.mul (Str.ofString "\"") (n.fdiv 2) = ⟨(List.replicate (n.toNat / 2) 34).toArray⟩ from by
    apply str_eq; rw [codes_quotes, Int.fdiv_eq_ediv_of_nonneg _ (by omega), show (n / 2).toNat = n.toNat / 2 by omega]]
  exact this
end Mine
namespace Mine
theorem lower_low : ∀ c, c < 128 → Txt.lower ⟨#[c]⟩ = ⟨#[lowN c]⟩ := by decide +kernel
local macro_rules | `(tactic| walk_at "ite") => `(tactic| first | refine ite_f (by with_reducible assumption) ?_ | refine ite_t (by with_reducible assumption) ?_)
theorem one_eq (c d : Nat) : ((⟨#[c]⟩ : Str) == ⟨#[d]⟩) = decide (c = d) := by
  w_top off
  by_cases h : c = d
  · subst h; simp
  · simp [h]
set_option maxRecDepth 100000 in
set_option maxHeartbeats 64000000 in
theorem subst_con (w : World) (loose mean mg mb) (c d : Nat) (x y : Str) (t u : Tok) (hx : x = ⟨#[c]⟩) (hy : y = ⟨#[d]⟩) (hc : c < 128) (hd : d < 128) : Con 3 w loose mean mg mb 95 [.str x t, .str y u] (fun v => ∃ t', v = .int (sc c d) t') := by
  w_top off
  have ex : x.length = 1 := by rw [hx]; rfl
  have ey : y.length = 1 := by rw [hy]; rfl
  have e1 : (x == y) = decide (c = d) := by rw [hx, hy]; exact one_eq c d
  have e2 : (Txt.lower x == Txt.lower y) = decide (lowN c = lowN d) := by rw [hx, hy, lower_low c hc, lower_low d hd]; exact one_eq _ _
  k_with_none
  unfold Con
  k_fill
  intro dp un gd cn cs a ccd cl outer A₀ base h₀ L m news s Q E B F X N T hk hd hu hret
  refine wpAny_call ?_
  k_dflt cell_enter
  k_steps
  all_goals (refine hret _ _ _ ⟨_, congrArg (Value.int · _) ?_⟩ (by assumption) (by assumption))
  · have q := e1.symm.trans (by assumption); simp at q; simp [sc, q]
  · have q := e1.symm.trans (by assumption); have q2 := e2.symm.trans (by assumption); simp at q q2; simp [sc, q, q2]
  · have q := e1.symm.trans (by assumption); have q2 := e2.symm.trans (by assumption); simp at q q2; simp [sc, q, q2]
end Mine
namespace Mine
local macro_rules | `(tactic| omega) => `(tactic| lia)
theorem preLen_cons (x y : Nat) (a b : List Nat) : preLen (x :: a) (y :: b) = if x = y then preLen a b + 1 else 0 := rfl
theorem preLen_nil_right (a : List Nat) : preLen a [] = 0 := by cases a <;> rfl
theorem preLen_le : ∀ a b : List Nat, preLen a b ≤ a.length ∧ preLen a b ≤ b.length
  | [], b => by cases b <;> simp [preLen]
  | _ :: _, [] => by simp [preLen]
  | x :: a, y :: b => by
    have := preLen_le a b
    rw [preLen_cons]
    split <;> simp <;> omega
def PreI (x y : Str) (p : Int) : Prop := (preLen x.cps.toList y.cps.toList : Int) = p + preLen (x.cps.toList.drop p.toNat) (y.cps.toList.drop p.toNat)
section
variable {x y : Str} {p : Int}
theorem slice_fr_len (h0 : 0 ≤ p) (hl : p ≤ x.length) : ((Txt.slice x (some p) none).length : Int) = x.length - p := by
  rw [len_codes, slice_fr h0 hl, List.length_drop, ← len_codes]; omega
theorem drop_item (h0 : 0 ≤ p) (hl : p < x.length) : ∃ c, Txt.item x p = ⟨#[c]⟩ ∧ x.cps.toList.drop p.toNat = c :: x.cps.toList.drop (p + 1).toNat := by
  have hl' : p.toNat < x.cps.toList.length := by rw [← len_codes]; omega
  refine ⟨x.cps.toList[p.toNat], ?_, ?_⟩
  · rw [item_is h0 hl]; congr; simp only [List.getD, List.getElem?_eq_getElem hl', Option.getD_some]
  · rw [show (p + 1).toNat = p.toNat + 1 by omega]; exact List.drop_eq_getElem_cons hl'
theorem pre_start : (0 : Int) ≤ 0 ∧ (0 : Int) ≤ (x.length : Int) ∧ (0 : Int) ≤ (y.length : Int) ∧ PreI x y 0 := ⟨by omega, by omega, by omega, by simp [PreI]⟩
theorem pre_turn (h0 : 0 ≤ p) (hl : p ≤ (x.length : Int)) (hl' : p ≤ (y.length : Int)) (hp : PreI x y p) (n1 : ((Txt.slice x (some p) none).length : Int) ≠ 0) (n2 : ((Txt.slice y (some p) none).length : Int) ≠ 0) (e : (Txt.item x p == Txt.item y p) = true) :
    0 ≤ p + 1 ∧ p + 1 ≤ (x.length : Int) ∧ p + 1 ≤ (y.length : Int) ∧ PreI x y (p + 1) := by
  rw [slice_fr_len h0 hl] at n1
  rw [slice_fr_len h0 hl'] at n2
  refine ⟨by omega, by omega, by omega, ?_⟩
  obtain ⟨c, e1, f1⟩ := drop_item (x := x) h0 (by omega)
  obtain ⟨d, e2, f2⟩ := drop_item (x := y) h0 (by omega)
  rw [e1, e2, one_eq] at e
  have e : c = d := by simpa using e
  subst e
  unfold PreI at hp ⊢
  rw [f1, f2, preLen_cons] at hp
  simp at hp
  omega
theorem pre_exit1 (h0 : 0 ≤ p) (hl : p ≤ (x.length : Int)) (hl' : p ≤ (y.length : Int)) (hp : PreI x y p) (n1 : ((Txt.slice x (some p) none).length : Int) = 0) : 0 ≤ p ∧ p ≤ (x.length : Int) ∧ p ≤ (y.length : Int) ∧ (preLen x.cps.toList y.cps.toList : Int) = p := by
  refine ⟨h0, hl, hl', ?_⟩
  rw [slice_fr_len h0 hl] at n1
  unfold PreI at hp
  rw [List.drop_eq_nil_of_le (by rw [← len_codes]; omega)] at hp
  simpa [preLen] using hp
theorem pre_exit2 (h0 : 0 ≤ p) (hl : p ≤ (x.length : Int)) (hl' : p ≤ (y.length : Int)) (hp : PreI x y p) (n1 : ((Txt.slice y (some p) none).length : Int) = 0) : 0 ≤ p ∧ p ≤ (x.length : Int) ∧ p ≤ (y.length : Int) ∧ (preLen x.cps.toList y.cps.toList : Int) = p := by
  refine ⟨h0, hl, hl', ?_⟩
  rw [slice_fr_len h0 hl'] at n1
  unfold PreI at hp
  rw [List.drop_eq_nil_of_le (as := y.cps.toList) (by rw [← len_codes]; omega), preLen_nil_right] at hp
  simpa using hp
theorem pre_exit3 (h0 : 0 ≤ p) (hl : p ≤ (x.length : Int)) (hl' : p ≤ (y.length : Int)) (hp : PreI x y p) (n1 : ((Txt.slice x (some p) none).length : Int) ≠ 0) (n2 : ((Txt.slice y (some p) none).length : Int) ≠ 0) (e : (Txt.item x p == Txt.item y p) = false) : 0 ≤ p ∧ p ≤ (x.length : Int) ∧ p ≤ (y.length : Int) ∧ (preLen x.cps.toList y.cps.toList : Int) = p := by
  refine ⟨h0, hl, hl', ?_⟩
  rw [slice_fr_len h0 hl] at n1
  rw [slice_fr_len h0 hl'] at n2
  obtain ⟨c, e1, f1⟩ := drop_item (x := x) h0 (by omega)
  obtain ⟨d, e2, f2⟩ := drop_item (x := y) h0 (by omega)
  rw [e1, e2, one_eq] at e
  have e : c ≠ d := by simpa using e
  unfold PreI at hp
  rw [f1, f2, preLen_cons] at hp
  simp [e] at hp
  exact hp
end
end Mine
namespace Mine
local macro_rules | `(tactic| omega) => `(tactic| lia)
open PySem.Builtin.Str
theorem slice_all (x : Str) : Txt.slice x none none = x := by
  unfold Txt.slice
  rw [if_pos]
  unfold strSliceIndices sliceRange
  simp only [show (1 : Int) > 0 by decide, if_true, List.length_map, List.length_range]
  split <;> simp <;> omega
theorem slice_neg {x : Str} {j : Int} (h0 : j < 0) (h1 : -(x.length : Int) ≤ j) : Txt.slice x none (some j) = Txt.slice x none (some (j + x.length)) := by
  have e : strSliceIndices none (some j) 1 x.length = strSliceIndices none (some (j + x.length)) 1 x.length := by
    unfold strSliceIndices
    simp only [show (1 : Int) > 0 by decide, if_true, if_pos h0, if_neg (show ¬ (j + (x.length : Int) < 0) by omega)]
  unfold Txt.slice
  rw [e]
theorem slice_to_neg {x : Str} {j : Int} (h0 : j < 0) (h1 : -(x.length : Int) ≤ j) : (Txt.slice x none (some j)).cps.toList = x.cps.toList.take (x.length + j).toNat := by
  rw [slice_neg h0 h1, slice_to (by omega) (by omega)]
  congr 1; omega
def PostI (x y : Str) (p : Int) : Prop := (preLen x.cps.toList.reverse y.cps.toList.reverse : Int) = -p + preLen (x.cps.toList.reverse.drop (-p).toNat) (y.cps.toList.reverse.drop (-p).toNat)
section
variable {x y : Str} {p : Int}
theorem cut_all (h : p = 0) : x.cps.toList = x.cps.toList.take (x.length + p).toNat := by
  subst h; rw [List.take_of_length_le]; rw [← len_codes]; omega
theorem po_ne0 (h : p = 0) (n : (x.length : Int) ≠ 0) : (x.length : Int) + p ≠ 0 := by omega
theorem po_eq0 (h : p = 0) (n : (x.length : Int) = 0) : (x.length : Int) + p = 0 := by omega
theorem po_len (h : p ≠ 0) (h0 : p ≤ 0) (hl : -p ≤ (x.length : Int)) : ((Txt.slice x none (some p)).length : Int) = x.length + p := by
  rw [len_codes, slice_to_neg (by omega) (by omega), List.length_take, ← len_codes]; omega
theorem po_nej (h0 : p ≤ 0) (hl : -p ≤ (x.length : Int)) (h : p ≠ 0) (n : ((Txt.slice x none (some p)).length : Int) ≠ 0) : (x.length : Int) + p ≠ 0 := by
  rw [po_len h h0 hl] at n; omega
theorem po_eqj (h0 : p ≤ 0) (hl : -p ≤ (x.length : Int)) (h : p ≠ 0) (n : ((Txt.slice x none (some p)).length : Int) = 0) : (x.length : Int) + p = 0 := by
  rw [po_len h h0 hl] at n; omega
theorem rev_item (h0 : p ≤ 0) (hl : -p < (x.length : Int)) : ∃ c, Txt.item x (p - 1) = ⟨#[c]⟩ ∧ x.cps.toList.reverse.drop (-p).toNat = c :: x.cps.toList.reverse.drop (-(p - 1)).toNat := by
  have hl' : (-p).toNat < x.cps.toList.reverse.length := by rw [List.length_reverse, ← len_codes]; omega
  refine ⟨x.cps.toList.reverse[(-p).toNat], ?_, ?_⟩
  · rw [beq_iff_eq.mp (item_closes_neg (x := x) (i := p - 1) (by omega) (by omega) rfl)]
    have hb : (p - 1 + (x.length : Int)).toNat = x.cps.toList.length - 1 - (-p).toNat := by rw [← len_codes]; omega
    rw [hb]
    have hc : x.cps.toList.length - 1 - (-p).toNat < x.cps.size := by rw [← Array.length_toList]; rw [List.length_reverse] at hl'; omega
    congr
    rw [List.getElem_reverse]
    simp only [Array.length_toList] at hc
    simp [Array.getD]
    rw [dif_pos hc]
  · rw [show (-(p - 1)).toNat = (-p).toNat + 1 by omega]; exact List.drop_eq_getElem_cons hl'
theorem post_start : (0 : Int) ≤ 0 ∧ -(0 : Int) ≤ (x.length : Int) ∧ -(0 : Int) ≤ (y.length : Int) ∧ PostI x y 0 := ⟨by omega, by omega, by omega, by simp [PostI]⟩
theorem post_turn (h0 : p ≤ 0) (hl : -p ≤ (x.length : Int)) (hl' : -p ≤ (y.length : Int)) (hp : PostI x y p) (n1 : (x.length : Int) + p ≠ 0) (n2 : (y.length : Int) + p ≠ 0) (e : (Txt.item x (p - 1) == Txt.item y (p - 1)) = true) :
    p - 1 ≤ 0 ∧ -(p - 1) ≤ (x.length : Int) ∧ -(p - 1) ≤ (y.length : Int) ∧ PostI x y (p - 1) := by
  refine ⟨by omega, by omega, by omega, ?_⟩
  obtain ⟨c, e1, f1⟩ := rev_item (x := x) h0 (by omega)
  obtain ⟨d, e2, f2⟩ := rev_item (x := y) h0 (by omega)
  rw [e1, e2, one_eq] at e
  have e : c = d := by simpa using e
  subst e
  unfold PostI at hp ⊢
  rw [f1, f2, preLen_cons] at hp
  simp only [if_true] at hp
  omega
def PostEnd (x y : Str) (p : Int) : Prop := p ≤ 0 ∧ -p ≤ (x.length : Int) ∧ -p ≤ (y.length : Int) ∧ (preLen x.cps.toList.reverse y.cps.toList.reverse : Int) = -p
theorem post_exit1 (h0 : p ≤ 0) (hl : -p ≤ (x.length : Int)) (hl' : -p ≤ (y.length : Int)) (hp : PostI x y p) (n1 : (x.length : Int) + p = 0) : PostEnd x y p := by
  refine ⟨h0, hl, hl', ?_⟩
  unfold PostI at hp
  rw [List.drop_eq_nil_of_le (as := x.cps.toList.reverse) (by rw [List.length_reverse, ← len_codes]; omega)] at hp
  simpa [preLen] using hp
theorem post_exit2 (h0 : p ≤ 0) (hl : -p ≤ (x.length : Int)) (hl' : -p ≤ (y.length : Int)) (hp : PostI x y p) (n1 : (y.length : Int) + p = 0) : PostEnd x y p := by
  refine ⟨h0, hl, hl', ?_⟩
  unfold PostI at hp
  rw [List.drop_eq_nil_of_le (as := y.cps.toList.reverse) (by rw [List.length_reverse, ← len_codes]; omega), preLen_nil_right] at hp
  simpa using hp
theorem post_exit3 (h0 : p ≤ 0) (hl : -p ≤ (x.length : Int)) (hl' : -p ≤ (y.length : Int)) (hp : PostI x y p) (n1 : (x.length : Int) + p ≠ 0) (n2 : (y.length : Int) + p ≠ 0) (e : (Txt.item x (p - 1) == Txt.item y (p - 1)) = false) : PostEnd x y p := by
  refine ⟨h0, hl, hl', ?_⟩
  obtain ⟨c, e1, f1⟩ := rev_item (x := x) h0 (by omega)
  obtain ⟨d, e2, f2⟩ := rev_item (x := y) h0 (by omega)
  rw [e1, e2, one_eq] at e
  have e : c ≠ d := by simpa using e
  unfold PostI at hp
  rw [f1, f2, preLen_cons] at hp
  simp only [if_neg e] at hp
  omega
end
end Mine

namespace Mine
local macro_rules | `(tactic| omega) => `(tactic| lia)
def levTail (a b : List Nat) (c : Int) : Int :=
  if c < ((b.length : Int) - a.length) * 2 then c + 1 else goRows a c b 0 ((List.range a.length).map fun k : Nat => 2 + 2 * (k : Int)) 0
structure TailOk (x y : Str) (c : Int) (a b : Str) : Prop where
  la : a.length ≤ 30
  lb : b.length ≤ 30
  aa : ∀ k ∈ a.cps.toList, k < 128
  ab : ∀ k ∈ b.cps.toList, k < 128
  le : a.length ≤ b.length
  pos : a.length ≠ 0
  eq : lev x.cps.toList y.cps.toList c = levTail a.cps.toList b.cps.toList c
theorem lev_core {x y a b a' b' : Str} {c p q : Int} (ne : (x == y) = false) (p0 : 0 ≤ p) (p1 : p ≤ (x.length : Int)) (p2 : p ≤ (y.length : Int)) (p3 : (preLen x.cps.toList y.cps.toList : Int) = p) (ea : a = Txt.slice x (some p) none) (eb : b = Txt.slice y (some p) none)
    (hq : PostEnd a b q) (ea' : a'.cps.toList = a.cps.toList.take (a.length + q).toNat) (eb' : b'.cps.toList = b.cps.toList.take (b.length + q).toNat) :
    lev x.cps.toList y.cps.toList c = levCore a'.cps.toList b'.cps.toList c := by
  have hne : ¬ x.cps.toList = y.cps.toList := by
    intro h; rw [str_eq h] at ne; simp at ne
  obtain ⟨q0, q1, q2, q3⟩ := hq
  unfold lev
  rw [if_neg hne]
  have e1 : a.cps.toList = (stripPre x.cps.toList y.cps.toList).1 := by
    rw [ea, slice_fr p0 p1]; unfold stripPre; simp only; congr 1; omega
  have e2 : b.cps.toList = (stripPre x.cps.toList y.cps.toList).2 := by
    rw [eb, slice_fr p0 p2]; unfold stripPre; simp only; congr 1; omega
  simp only
  rw [← e1, ← e2]
  unfold stripPost
  simp only
  rw [ea', eb']
  congr 2
  · rw [← len_codes]; omega
  · rw [← len_codes]; omega
theorem all_low {x a : Str} (h : ∀ k ∈ x.cps.toList, k < 128) (s : ∃ i j, a.cps.toList = (x.cps.toList.drop i).take j) : ∀ k ∈ a.cps.toList, k < 128 := by
  obtain ⟨i, j, e⟩ := s
  intro k hk
  rw [e] at hk
  exact h k (List.mem_of_mem_drop (List.mem_of_mem_take hk))
theorem tail_ok {x y a b : Str} {c : Int} (ec : lev x.cps.toList y.cps.toList c = levCore a.cps.toList b.cps.toList c) (la : a.length ≤ 30) (lb : b.length ≤ 30) (aa : ∀ k ∈ a.cps.toList, k < 128) (ab : ∀ k ∈ b.cps.toList, k < 128)
    (na : (a.length : Int) ≠ 0) (nb : (b.length : Int) ≠ 0) (h : ¬ (b.length : Int) < (a.length : Int)) : TailOk x y c a b := by
  have ea : a.cps.toList ≠ [] := by intro h; apply na; rw [len_codes, h]; rfl
  have eb : b.cps.toList ≠ [] := by intro h; apply nb; rw [len_codes, h]; rfl
  refine ⟨la, lb, aa, ab, by omega, by omega, ?_⟩
  rw [ec]
  unfold levCore
  rw [if_neg (by simp [ea, eb])]
  have : ¬ b.cps.toList.length < a.cps.toList.length := by rw [← len_codes, ← len_codes]; omega
  simp only [if_neg this]
  rfl
theorem tail_ok' {x y a b : Str} {c : Int} (ec : lev x.cps.toList y.cps.toList c = levCore a.cps.toList b.cps.toList c) (la : a.length ≤ 30) (lb : b.length ≤ 30) (aa : ∀ k ∈ a.cps.toList, k < 128) (ab : ∀ k ∈ b.cps.toList, k < 128)
    (na : (a.length : Int) ≠ 0) (nb : (b.length : Int) ≠ 0) (h : (b.length : Int) < (a.length : Int)) : TailOk x y c b a := by
  have ea : a.cps.toList ≠ [] := by intro h; apply na; rw [len_codes, h]; rfl
  have eb : b.cps.toList ≠ [] := by intro h; apply nb; rw [len_codes, h]; rfl
  refine ⟨lb, la, ab, aa, by omega, by omega, ?_⟩
  rw [ec]
  unfold levCore
  rw [if_neg (by simp [ea, eb])]
  have : b.cps.toList.length < a.cps.toList.length := by rw [← len_codes, ← len_codes]; omega
  simp only [if_pos this]
  rfl
theorem core_nil {a b : Str} {c : Int} (h : (a.length : Int) = 0 ∨ (b.length : Int) = 0) : 2 * ((a.length : Int) + b.length) = levCore a.cps.toList b.cps.toList c := by
  unfold levCore
  rw [if_pos, len_codes, len_codes]
  rcases h with h | h
  · left; rw [len_codes] at h; exact List.length_eq_zero_iff.mp (by omega)
  · right; rw [len_codes] at h; exact List.length_eq_zero_iff.mp (by omega)
end Mine

namespace Mine
local macro_rules | `(tactic| omega) => `(tactic| lia)
theorem rows_ints : ∀ (vs : List Value) (a : Int) (n : Nat), vs.length = n → (∀ (j : Nat) (v : Value), vs[j]? = some v → ∃ t, v = .int (a + j * 2) t) → IntsAre vs ((List.range n).map fun k : Nat => a + 2 * (k : Int))
  | [], a, n, e, _ => by
    subst e
    exact IntsAre.nil
  | v :: r, a, n, e, h => by
    subst e
    rw [List.length_cons, List.range_succ_eq_map, List.map_cons, List.map_map]
    obtain ⟨t, ht⟩ := h 0 v rfl
    have hv : v = .int (a + 2 * ((0 : Nat) : Int)) t := by rw [ht]; simp
    subst hv
    have e : ((fun k : Nat => a + 2 * (k : Int)) ∘ Nat.succ) = fun k : Nat => (a + 2) + 2 * (k : Int) := by
      funext k; simp only [Function.comp]; omega
    rw [e]
    refine IntsAre.cons _ _ (rows_ints r (a + 2) r.length rfl fun j v hj => ?_)
    obtain ⟨t', ht'⟩ := h (j + 1) v hj
    refine ⟨t', ht'.trans ?_⟩
    congr 1
    omega
theorem small_two {a b : Int} (ha : -(2 ^ 61) ≤ a) (ha' : a < 2 ^ 61) (hb : -(2 ^ 61) ≤ b) (hb' : b < 2 ^ 61) : Builtin.Range.small a b 2 = true := by
  have h : 0 ≤ Builtin.Range.rangeSize a b 2 ∧ Builtin.Range.rangeSize a b 2 < 2 ^ 62 := by
    unfold Builtin.Range.rangeSize
    simp only [show (2 : Int) > 0 by decide, if_true]
    split <;> omega
  unfold Builtin.Range.small
  generalize Builtin.Range.rangeSize a b 2 = z at *
  simp only [Builtin.Range.rangeFitsLong, Bool.and_eq_true, Bool.or_eq_true, decide_eq_true_eq, beq_iff_eq, show (2 : Int) > 0 by decide, if_true]
  omega
section
variable {prog : Program} {w : World} {A : Around} {E : Value → Shared → Prop} {s : Shared} {h₀ : Heap} {L r : Addr} {m : Str → Option Value} {news : List (Addr × Obj)} {t₀ u₀ v₀ : Tok} {n : Nat} {Q : Value → Shared → Prop}
set_option maxRecDepth 100000 in
theorem rows_list (hh : A.handled = none) (F : Fr h₀ L s.heap m) (N : News h₀ L s.heap news) (hr : IsRange s.heap r 2 (2 * ((n : Int) + 1)) 2 t₀ u₀ v₀) (hz : n ≤ 100)
    (h : ∀ D us c h' tk, Fr h₀ L h' m → News h₀ L h' ((D, listOf (List.toArray us) c) :: news) → (∀ p ∈ news, p.1 < D) → IntsAre us ((List.range n).map fun k : Nat => 2 + 2 * (k : Int)) → Q (.ref D) { s with heap := h', toks := tk }) :
    wpAny (model prog w) A (call (.type "list") [.ref r]) Q E s := by
  have hs : Builtin.Range.rangeSize 2 (2 * ((n : Int) + 1)) 2 = (n : Int) := by
    unfold Builtin.Range.rangeSize
    simp only [show (2 : Int) > 0 by decide, if_true]
    split <;> omega
  have hsm : Builtin.Range.small 2 (2 * ((n : Int) + 1)) 2 = true := small_two (by omega) (by omega) (by omega) (by omega)
  refine call_list_range hh hr hsm hs (by omega) fun h' tk acc c hk hD hI => ?_
  have hD' : h'.get? s.heap.objs.size = some (listOf (List.toArray acc.toList) c) := by
    rw [Array.toArray_toList]
    exact hD
  exact h _ acc.toList c h' tk (F.keeps hk) (news_pushed F N hk hD' rfl) (fun p hp => Heap.lt_size (N p hp).1) (rows_ints _ _ _ (by rw [Array.length_toList]; exact hI.1) fun j v hj => hI.2 j v (by rw [← hj, Array.getElem?_toList]))
end
/-- the inner loop, at its k-th turn -/
def StepI (A : List Nat) (y : Nat) (row0 : List Int) (d0 : Int) (k : Nat) (d r mn : Int) (row : List Int) : Prop :=
  row.length = A.length ∧ k ≤ A.length ∧ row.take k ++ (stepRow y (A.drop k) (row.drop k) d r mn).1 = (stepRow y A row0 d0 d0 9223372036854775807).1 ∧ (stepRow y (A.drop k) (row.drop k) d r mn).2 = (stepRow y A row0 d0 d0 9223372036854775807).2
/-- the outer loop, at its j-th turn -/
def GoI (A B : List Nat) (c : Int) (j : Nat) (r : Int) (row : List Int) : Prop :=
  row.length = A.length ∧ j ≤ B.length ∧ goRows A c (B.drop j) j row r = goRows A c B 0 ((List.range A.length).map fun k : Nat => 2 + 2 * (k : Int)) 0
end Mine

namespace Mine
local macro_rules | `(tactic| omega) => `(tactic| lia)
section
variable {a b : Str} {c : Int}
theorem goI_start : ((List.range a.length).map fun k : Nat => 2 + 2 * (k : Int)).length = a.length ∧ GoI a.cps.toList b.cps.toList c ([] : List Int).length 0 ((List.range a.length).map fun k : Nat => 2 + 2 * (k : Int)) := by
  refine ⟨by simp, ?_, by simp, ?_⟩
  · rw [← len_codes]; simp
  · rw [← len_codes]; rfl
theorem stepI_start {y : Nat} {row : List Int} {d : Int} (h : row.length = a.length) : row.length = a.length ∧ StepI a.cps.toList y row d ([] : List Int).length d d 9223372036854775807 row := by
  refine ⟨h, ?_, by simp, ?_, ?_⟩
  · rw [← len_codes]; exact h
  · simp
  · simp
theorem item_code (h0 : 0 ≤ c) (h1 : c < (a.length : Int)) : Txt.item a c = ⟨#[a.cps.toList.getD c.toNat 0]⟩ := item_is h0 h1
theorem code_low (h : ∀ k ∈ a.cps.toList, k < 128) (h0 : 0 ≤ c) (h1 : c < (a.length : Int)) : a.cps.toList.getD c.toNat 0 < 128 := by
  have hl : c.toNat < a.cps.toList.length := by rw [← len_codes]; omega
  rw [List.getD_eq_getElem?_getD, List.getElem?_eq_getElem hl]
  exact h _ (List.getElem_mem hl)
end
end Mine

namespace Mine
local macro_rules | `(tactic| omega) => `(tactic| lia)
section
variable {a b : Str} {c d r mn mn' d0 : Int} {y : Nat} {row row0 : List Int} {pre : List Int} {kN : Int}
theorem stepI_turn (kEq : kN = 0 + (pre.length : Int)) (kLt : pre.length < ((a.length : Int) - 0).toNat) (hl : row.length = a.length) (inv : StepI a.cps.toList y row0 d0 pre.length d r mn row)
    (hm : (if (if d + sc y (a.cps.toList.getD kN.toNat 0) < (if row.getD kN.toNat 0 < r then row.getD kN.toNat 0 else r) + 2 then d + sc y (a.cps.toList.getD kN.toNat 0) else (if row.getD kN.toNat 0 < r then row.getD kN.toNat 0 else r) + 2) < mn then (if d + sc y (a.cps.toList.getD kN.toNat 0) < (if row.getD kN.toNat 0 < r then row.getD kN.toNat 0 else r) + 2 then d + sc y (a.cps.toList.getD kN.toNat 0) else (if row.getD kN.toNat 0 < r then row.getD kN.toNat 0 else r) + 2) else mn) = mn') :
    (row.set kN.toNat (if d + sc y (a.cps.toList.getD kN.toNat 0) < (if row.getD kN.toNat 0 < r then row.getD kN.toNat 0 else r) + 2 then d + sc y (a.cps.toList.getD kN.toNat 0) else (if row.getD kN.toNat 0 < r then row.getD kN.toNat 0 else r) + 2)).length = a.length ∧
    StepI a.cps.toList y row0 d0 (pre ++ [kN]).length (row.getD kN.toNat 0) (if d + sc y (a.cps.toList.getD kN.toNat 0) < (if row.getD kN.toNat 0 < r then row.getD kN.toNat 0 else r) + 2 then d + sc y (a.cps.toList.getD kN.toNat 0) else (if row.getD kN.toNat 0 < r then row.getD kN.toNat 0 else r) + 2) mn' (row.set kN.toNat (if d + sc y (a.cps.toList.getD kN.toNat 0) < (if row.getD kN.toNat 0 < r then row.getD kN.toNat 0 else r) + 2 then d + sc y (a.cps.toList.getD kN.toNat 0) else (if row.getD kN.toNat 0 < r then row.getD kN.toNat 0 else r) + 2)) := by
  have hk : kN.toNat = pre.length := by omega
  have hlt : pre.length < a.cps.toList.length := by rw [← len_codes]; omega
  have hlr : pre.length < row.length := by omega
  rw [hk] at hm ⊢
  obtain ⟨i1, i2, i3, i4⟩ := inv
  have ea : a.cps.toList.drop pre.length = a.cps.toList.getD pre.length 0 :: a.cps.toList.drop (pre.length + 1) := by
    rw [List.drop_eq_getElem_cons hlt, List.getD_eq_getElem?_getD, List.getElem?_eq_getElem hlt]; rfl
  have er : row.drop pre.length = row.getD pre.length 0 :: row.drop (pre.length + 1) := by
    rw [List.drop_eq_getElem_cons hlr, List.getD_eq_getElem?_getD, List.getElem?_eq_getElem hlr]; rfl
  rw [ea, er, stepRow] at i3 i4
  rw [hm] at i3 i4
  generalize (if d + sc y (a.cps.toList.getD pre.length 0) < (if row.getD pre.length 0 < r then row.getD pre.length 0 else r) + 2 then d + sc y (a.cps.toList.getD pre.length 0) else (if row.getD pre.length 0 < r then row.getD pre.length 0 else r) + 2) = R at *
  have eA : (pre ++ [kN]).length = pre.length + 1 := by simp
  rw [eA]
  have et : (row.set pre.length R).take (pre.length + 1) = row.take pre.length ++ [R] := by
    rw [List.take_add_one, List.take_set_of_le (Nat.le_refl _)]
    simp [hlr]
  have ed : (row.set pre.length R).drop (pre.length + 1) = row.drop (pre.length + 1) := by
    rw [List.drop_set]; simp
  refine ⟨by simp [hl], by simp [i1], by omega, ?_, ?_⟩
  · rw [et, ed]
    simp only [List.append_assoc, List.cons_append, List.nil_append]
    exact i3
  · rw [ed]; exact i4
theorem stepI_done (hl' : row.length = a.length) (sI : StepI a.cps.toList y row0 d0 (rangeKs 0 ((a.length : Int) - 0).toNat).length d r mn row) : stepRow y a.cps.toList row0 d0 d0 9223372036854775807 = (row, r, mn) := by
  obtain ⟨i1, i2, i3, i4⟩ := sI
  have e : (rangeKs 0 ((a.length : Int) - 0).toNat).length = a.length := by rw [rangeKs_length]; omega
  have ea : a.cps.toList.drop a.length = [] := List.drop_eq_nil_of_le (by rw [← len_codes]; omega)
  have er : row.drop a.length = [] := List.drop_eq_nil_of_le (by omega)
  have et : row.take a.length = row := List.take_of_length_le (by omega)
  have e0 : stepRow y [] [] d r mn = ([], r, mn) := rfl
  rw [e, ea, er, e0] at i3 i4
  rw [et] at i3
  simp at i3
  exact Prod.ext i3.symm i4.symm
theorem goRows_step {A B : List Nat} {k : Nat} (h : k < B.length) (row : List Int) (r : Int) : goRows A c (B.drop k) k row r = (if c < (stepRow (B.getD k 0) A row ((k : Int) * 2) ((k : Int) * 2) 9223372036854775807).2.2 then c + 1 else goRows A c (B.drop (k + 1)) ((k : Int) + 1) (stepRow (B.getD k 0) A row ((k : Int) * 2) ((k : Int) * 2) 9223372036854775807).1 (stepRow (B.getD k 0) A row ((k : Int) * 2) ((k : Int) * 2) 9223372036854775807).2.1) := by
  rw [List.drop_eq_getElem_cons h, goRows, show B.getD k 0 = B[k] from by rw [List.getD_eq_getElem?_getD, List.getElem?_eq_getElem h]; rfl]
theorem goI_turn {r0 : Int} (kEq : kN = 0 + (pre.length : Int)) (kLt : pre.length < ((b.length : Int) - 0).toNat) (gI : GoI a.cps.toList b.cps.toList c pre.length r0 row0) (hl' : row.length = a.length)
    (sI : StepI a.cps.toList (b.cps.toList.getD kN.toNat 0) row0 (kN * 2) (rangeKs 0 ((a.length : Int) - 0).toNat).length d r mn row) (h : ¬ c < mn) : row.length = a.length ∧ GoI a.cps.toList b.cps.toList c (pre ++ [kN]).length r row := by
  have e := stepI_done hl' sI
  obtain ⟨g1, g2, g3⟩ := gI
  have hk : kN = (pre.length : Int) := by omega
  have hlt : pre.length < b.cps.toList.length := by rw [← len_codes]; omega
  subst hk
  rw [Int.toNat_natCast] at e
  rw [goRows_step hlt, e] at g3
  simp only [if_neg h] at g3
  have eA : (pre ++ [(pre.length : Int)]).length = pre.length + 1 := by simp
  rw [eA]
  refine ⟨hl', by rw [← len_codes]; exact hl', by omega, ?_⟩
  rw [← g3]
  rfl
theorem goI_ret {r0 : Int} (kEq : kN = 0 + (pre.length : Int)) (kLt : pre.length < ((b.length : Int) - 0).toNat) (gI : GoI a.cps.toList b.cps.toList c pre.length r0 row0) (hl' : row.length = a.length)
    (sI : StepI a.cps.toList (b.cps.toList.getD kN.toNat 0) row0 (kN * 2) (rangeKs 0 ((a.length : Int) - 0).toNat).length d r mn row) (h : c < mn) (hc : ¬ c < ((b.length : Int) - a.length) * 2) : c + 1 = levTail a.cps.toList b.cps.toList c := by
  have e := stepI_done hl' sI
  obtain ⟨g1, g2, g3⟩ := gI
  have hk : kN = (pre.length : Int) := by omega
  have hlt : pre.length < b.cps.toList.length := by rw [← len_codes]; omega
  subst hk
  rw [Int.toNat_natCast] at e
  rw [goRows_step hlt, e] at g3
  simp only [if_pos h] at g3
  unfold levTail
  rw [if_neg (by rw [← len_codes, ← len_codes]; exact hc), g3]
theorem goI_end (gI : GoI a.cps.toList b.cps.toList c (rangeKs 0 ((b.length : Int) - 0).toNat).length r row) (hc : ¬ c < ((b.length : Int) - a.length) * 2) : r = levTail a.cps.toList b.cps.toList c := by
  obtain ⟨g1, g2, g3⟩ := gI
  rw [rangeKs_length, List.drop_eq_nil_of_le (by rw [← len_codes]; omega), goRows] at g3
  unfold levTail
  rw [if_neg (by rw [← len_codes, ← len_codes]; exact hc), g3]
theorem tail_cut (hc : c < ((b.length : Int) - a.length) * 2) : c + 1 = levTail a.cps.toList b.cps.toList c := by
  unfold levTail
  rw [if_pos (by rw [← len_codes, ← len_codes]; exact hc)]
end
end Mine

namespace Mine
local macro_rules | `(tactic| omega) => `(tactic| lia)
theorem lev_same {x y : Str} {c : Int} (h : (x == y) = true) : 0 = lev x.cps.toList y.cps.toList c := by
  have e : x = y := by simpa using h
  subst e
  unfold lev
  rw [if_pos rfl]
end Mine
namespace Mine
/-- the number that digits of n bits say, the least first -/
def valL (n : Nat) : List Int → Int
  | [] => 0
  | d :: ds => d + 2 ^ n * valL n ds
theorem valL_append (n : Nat) : ∀ a b : List Int, valL n (a ++ b) = valL n a + 2 ^ (n * a.length) * valL n b
  | [], b => by simp [valL]
  | d :: a, b => by
    simp only [List.cons_append, valL, valL_append n a b, List.length_cons]
    rw [Nat.mul_add, Nat.mul_one, Nat.add_comm (n * a.length) n, Int.pow_add]
    rw [Int.mul_add, ← Int.mul_assoc]
    omega
theorem land_shift (x k : Nat) : x &&& (x / 2 ^ k * 2 ^ k) = x / 2 ^ k * 2 ^ k := by
  rw [← Nat.shiftRight_eq_div_pow, ← Nat.shiftLeft_eq]
  apply Nat.eq_of_testBit_eq
  intro i
  rw [Nat.testBit_and, Nat.testBit_shiftLeft, Nat.testBit_shiftRight]
  by_cases h : k ≤ i
  · rw [show k + (i - k) = i by omega]
    simp [h]
  · simp [h]
theorem and_nat (a b : Nat) : Builtin.bitAnd (a : Int) (b : Int) = ((a &&& b : Nat) : Int) := by
  simp [Builtin.bitAnd]
theorem xor_low {x : Int} {k : Nat} (h : 0 ≤ x) : Builtin.bitXor x (x.fdiv (2 ^ k) * 2 ^ k) = x % 2 ^ k := by
  obtain ⟨a, rfl⟩ : ∃ a : Nat, x = (a : Int) := ⟨x.toNat, by omega⟩
  have hp : (0 : Int) ≤ 2 ^ k := Int.le_of_lt (Int.pow_pos (by omega))
  rw [Int.fdiv_eq_ediv_of_nonneg _ hp]
  have e : ((a : Int) / 2 ^ k * 2 ^ k) = ((a / 2 ^ k * 2 ^ k : Nat) : Int) := by
    push_cast; rfl
  rw [e, bitXor_and, and_nat, land_shift]
  have h1 := Int.emod_add_mul_ediv (a : Int) (2 ^ k)
  rw [← e]
  rw [Int.mul_comm (2 ^ k)] at h1
  omega
end Mine
section
open PySem.Spec PySem.SeqAt PyProof.V
namespace Mine
section
variable {prog : Program} {w : World} {A : Around} {E : Value → Shared → Prop} {s : Shared}
theorem reads_two {h : Heap} {a : Addr} {x y : Str} {t u : Tok} (hl : h.IsList a #[.str x t, .str y u]) : Reads h (.ref a) (.list [.str x, .str y]) [a] := by
  obtain ⟨o, ho, hc, n, hd⟩ := hl
  have r : ReadsAll h [.str x t, .str y u] [.str x, .str y] [] := by
    have := ReadsAll.cons (Reads.str (h := h) x t) (ReadsAll.cons (Reads.str (h := h) y u) ReadsAll.nil)
    simpa using this
  exact Reads.list ho hc hd (by simpa using r)
theorem eq_two {a b : Addr} {x y x' y' : Str} {t u t' u' : Tok} {Q : Value → Shared → Prop} (ha : s.heap.IsList a #[.str x t, .str y u]) (hb : s.heap.IsList b #[.str x' t', .str y' u']) (hu : A.units + 64 < cLine) (ex : x = x') (ey : y = y') (ox : PyData.strOk x = true) (oy : PyData.strOk y = true)
    (h : Q (.bool true) s) : wpAny (model prog w) A (compareOp .Eq (.ref a) (.ref b)) Q E s := by
  subst ex ey
  have sh : shaped (.list [.str x, .str y]) = true := by simp [shaped, PyData.canLay0, PyData.canLayAll0, PyData.depth, PyData.depthAll, ox, oy]
  refine eq_dataH_same (reads_two ha) (reads_two hb) sh sh hu (by simp [noMix, noMixAll]) ?_
  have e : PySem.Spec.same (.list [.str x, .str y]) (.list [.str x, .str y]) = true := by simp [PySem.Spec.same, PySem.Spec.sameAll]
  rw [e]; exact h
theorem eq_two_news {h₀ : Heap} {L a b : Addr} {x y x' y' : Str} {t u t' u' : Tok} {n : Nat} {rest : List (Addr × Obj)} {Q : Value → Shared → Prop} (N : News h₀ L s.heap ((b, listOf #[.str x' t', .str y' u'] n) :: (a, LCg.lst [.str x t, .str y u]) :: rest)) (hu : A.units + 64 < cLine) (ex : x = x') (ey : y = y') (ox : PyData.strOk x = true) (oy : PyData.strOk y = true)
    (h : Q (.bool true) s) : wpAny (model prog w) A (compareOp .Eq (.ref a) (.ref b)) Q E s :=
  eq_two (News.isList N (.tail _ (.head _))) (News.isList N (.head _)) hu ex ey ox oy h
end
theorem quotes_ok (n : Int) : PyData.strOk (Txt.mul (Str.ofString "\"") n) = true := by
  unfold PyData.strOk
  rw [← Array.all_toList, codes_quotes]
  simp
end Mine
end
namespace Mine
local macro_rules | `(tactic| walk_at "no such 0") => `(tactic| skip)
local macro_rules | `(tactic| walk_at "no such 1") => `(tactic| skip)
local macro_rules | `(tactic| walk_at "no such 2") => `(tactic| skip)
local macro_rules | `(tactic| walk_at "no such 3") => `(tactic| skip)
local macro_rules | `(tactic| walk_at "no such 4") => `(tactic| skip)
local macro_rules | `(tactic| walk_at "no such 5") => `(tactic| skip)
local macro_rules | `(tactic| walk_at "no such 6") => `(tactic| skip)
local macro_rules | `(tactic| walk_at "no such 7") => `(tactic| skip)
local macro_rules | `(tactic| walk_at "no such 8") => `(tactic| skip)
local macro_rules | `(tactic| omega) => `(tactic| lia)
local macro_rules | `(tactic| walk_at "ite") => `(tactic| first | refine ite_f (by with_reducible assumption) ?_ | refine ite_t (by with_reducible assumption) ?_ | refine ite_ne_t (by with_reducible assumption) ?_ | refine ite_ne_f (by with_reducible assumption) ?_ | refine ite_dec_f (by omega) ?_ | refine ite_dec_t (by omega) ?_)
local macro_rules | `(tactic| walk_at "MidN") => `(tactic| dsimp only [MidN])
set_option maxRecDepth 100000 in
set_option maxHeartbeats 64000000 in
theorem lev_con (w : World) (loose mean mg mb) (x y : Str) (c : Int) (t u v : Tok) (hx : x.length ≤ 30) (hy : y.length ≤ 30) (hc : c < 1000) (hc' : -10 ≤ c) (ax : ∀ k ∈ x.cps.toList, k < 128) (ay : ∀ k ∈ y.cps.toList, k < 128) :
    Con 5 w loose mean mg mb 102 [.str x t, .str y u, .int c v] (fun r => ∃ t', r = .int (lev x.cps.toList y.cps.toList c) t') := by
  w_top off
  k_with_none
  unfold Con
  k_fill
  intro dp un gd cn cs a ccd cl outer A₀ base h₀ L m news s Q E B F X N T hk hd hu hret
  refine wpAny_call ?_
  k_dflt cell_enter
  refine cut_at (σ := Int × Tok) 3 (fun _ => news) (fun p => [(Str.ofString "pre", .int p.1 p.2)]) [] (fun p => (x == y) = false ∧ 0 ≤ p.1 ∧ p.1 ≤ (x.length : Int) ∧ p.1 ≤ (y.length : Int) ∧ (preLen x.cps.toList y.cps.toList : Int) = p.1) (by assumption) ?_ ?_
  · dsimp only [List.take_succ_cons, List.take_zero]
    k_with "exec While BoolOp" => k_while (fun _ p => 0 ≤ p ∧ p ≤ (x.length : Int) ∧ p ≤ (y.length : Int) ∧ PreI x y p) (fun _ p => 100 - p.toNat) "pre"
    k_with "state" => first | exact pre_start | exact pre_turn (by assumption) (by assumption) (by assumption) (by assumption) (by assumption) (by assumption) (by assumption)
    k_with "MidEnd" => (refine mid_end ⟨_, _⟩ (by assumption) (by assumption) (by intro p hp; exact hp) (by kst_all) (by ksw_same) ⟨by assumption, ?_⟩; first | exact pre_exit1 (by assumption) (by assumption) (by assumption) (by assumption) (by assumption) | exact pre_exit2 (by assumption) (by assumption) (by assumption) (by assumption) (by assumption) | exact pre_exit3 (by assumption) (by assumption) (by assumption) (by assumption) (by assumption) (by assumption) (by assumption))
    k_steps
    exact hret _ _ _ ⟨_, congrArg (Value.int · _) (lev_same (by assumption))⟩ (by assumption) (by assumption)
  · k_with_none
    rintro ⟨p, tp⟩ kU kH kTk ⟨ne, p0, p1, p2, p3⟩ kFr kNews
    dsimp only [kstB] at *
    simp only [List.drop_succ_cons, List.drop_zero]
    refine cut_at (σ := (Str × Tok) × (Str × Tok)) 2 (fun _ => news) (fun p => [(Str.ofString "a", .str p.1.1 p.1.2), (Str.ofString "b", .str p.2.1 p.2.2)]) [] (fun z => z.1.1 = Txt.slice x (some p) none ∧ z.2.1 = Txt.slice y (some p) none) kFr ?_ ?_
    · dsimp only [List.take_succ_cons, List.take_zero]
      k_with "MidEnd" => (refine mid_end ⟨⟨_, _⟩, ⟨_, _⟩⟩ (by assumption) (by assumption) (by intro p hp; exact hp) (by kst_all) (by ksw_same) ⟨rfl, rfl⟩)
      k_steps
    rintro ⟨⟨a, ta⟩, ⟨b, tb⟩⟩ kU kH kTk ⟨ea, eb⟩ kFr kNews
    dsimp only [kstB] at *
    simp only [List.drop_succ_cons, List.drop_zero]
    have la : a.length ≤ 30 := by rw [ea]; exact Nat.le_trans (Txt.slice_le _ _ _) hx
    have lb : b.length ≤ 30 := by rw [eb]; exact Nat.le_trans (Txt.slice_le _ _ _) hy
    refine cut_at (σ := Int × Tok) 2 (fun _ => news) (fun p => [(Str.ofString "post", .int p.1 p.2)]) [] (fun p => PostEnd a b p.1) kFr ?_ ?_
    · dsimp only [List.take_succ_cons, List.take_zero]
      k_with_none
      k_with "exec While BoolOp" => k_while (fun _ p => p ≤ 0 ∧ -p ≤ (a.length : Int) ∧ -p ≤ (b.length : Int) ∧ PostI a b p) (fun _ p => 100 - (-p).toNat) "post"
      k_with "state" => first | exact post_start | exact post_turn (by assumption) (by assumption) (by assumption) (by assumption) (by assumption) (by assumption) (by assumption)
      k_with "subscriptTail Name Slice str ref" => (first | (refine slice_strN_nn (hsz := by rw [sizeLine_eq]; omega) (s := ⟨_, _, _, _, _⟩) (by assumption) (by assumption) ?_; intro _ _ _ _ _; rw [slice_all]))
      k_with "subscriptTail Name BinOp str int" => (
        (first | (have qa := po_nej (x := a) (by assumption) (by assumption) (by assumption) (by assumption)) | (have qa := po_ne0 (x := a) (by assumption) (by assumption)))
        (first | (have qb := po_nej (x := b) (by assumption) (by assumption) (by assumption) (by assumption)) | (have qb := po_ne0 (x := b) (by assumption) (by assumption)))
        refine item_str (fitsSsize_of (N := 9223372036854775808) (by omega) (by omega) (Int.le_refl _)) (by omega) (by omega) ?_
        intro _)
      k_with "MidEnd" => (refine mid_end ⟨_, _⟩ (by assumption) (by assumption) (by intro p hp; exact hp) (by kst_all) (by ksw_same) ?_; first
        | exact post_exit3 (by assumption) (by assumption) (by assumption) (by assumption) (by assumption) (by assumption) (by assumption)
        | exact post_exit1 (by assumption) (by assumption) (by assumption) (by assumption) (po_eq0 (by assumption) (by assumption))
        | exact post_exit1 (by assumption) (by assumption) (by assumption) (by assumption) (po_eqj (by assumption) (by assumption) (by assumption) (by assumption))
        | exact post_exit2 (by assumption) (by assumption) (by assumption) (by assumption) (po_eq0 (by assumption) (by assumption))
        | exact post_exit2 (by assumption) (by assumption) (by assumption) (by assumption) (po_eqj (by assumption) (by assumption) (by assumption) (by assumption)))
      k_steps
    rintro ⟨q, tq⟩ kU kH kTk ⟨q0, q1, q2, q3⟩ kFr kNews
    dsimp only [kstB] at *
    simp only [List.drop_succ_cons, List.drop_zero]
    refine cut_at (σ := (Str × Tok) × (Str × Tok)) 2 (fun _ => news) (fun p => [(Str.ofString "a", .str p.1.1 p.1.2), (Str.ofString "b", .str p.2.1 p.2.2)]) [] (fun z => z.1.1.cps.toList = a.cps.toList.take (a.length + q).toNat ∧ z.2.1.cps.toList = b.cps.toList.take (b.length + q).toNat) kFr ?_ ?_
    · dsimp only [List.take_succ_cons, List.take_zero]
      k_with_none
      k_with "subscriptTail Name Slice str ref" => (first | (refine slice_strN_nn (hsz := by rw [sizeLine_eq]; omega) (s := ⟨_, _, _, _, _⟩) (by assumption) (by assumption) ?_; intro _ _ _ _ _; rw [slice_all]))
      k_with "MidEnd" => (refine mid_end ⟨⟨_, _⟩, ⟨_, _⟩⟩ (by assumption) (by assumption) (by intro p hp; exact hp) (by kst_all) (by ksw_same) ?_; first | exact ⟨cut_all (by assumption), cut_all (by assumption)⟩ | exact ⟨slice_to_neg (by omega) (by omega), slice_to_neg (by omega) (by omega)⟩)
      k_steps
    rintro ⟨⟨a', ta'⟩, ⟨b', tb'⟩⟩ kU kH kTk ⟨ea', eb'⟩ kFr kNews
    dsimp only [kstB] at *
    simp only [List.drop_succ_cons, List.drop_zero]
    have hlev := lev_core (c := c) ne p0 p1 p2 p3 ea eb ⟨q0, q1, q2, q3⟩ ea' eb'
    have la' : a'.length ≤ 30 := by rw [len_codes, ea', List.length_take, ← len_codes]; omega
    have lb' : b'.length ≤ 30 := by rw [len_codes, eb', List.length_take, ← len_codes]; omega
    have aa' := all_low ax ⟨p.toNat, _, ea'.trans (by rw [ea, slice_fr p0 p1])⟩
    have ab' := all_low ay ⟨p.toNat, _, eb'.trans (by rw [eb, slice_fr p0 p2])⟩
    refine cut_at (σ := (Str × Tok) × (Str × Tok)) 3 (fun _ => news) (fun p => [(Str.ofString "a", .str p.1.1 p.1.2), (Str.ofString "b", .str p.2.1 p.2.2)]) [] (fun z => TailOk x y c z.1.1 z.2.1) kFr ?_ ?_
    · dsimp only [List.take_succ_cons, List.take_zero]
      clear ea eb ea' eb' q3 p3
      k_with_none
      k_with "MidEnd" => (refine mid_end ⟨⟨_, _⟩, ⟨_, _⟩⟩ (by assumption) (by assumption) (by intro p hp; first | exact hp | exact List.mem_cons_of_mem _ hp) (by kst_all) (by ksw_same) ?_; first | exact tail_ok hlev la' lb' aa' ab' (by assumption) (by assumption) (by assumption) | exact tail_ok' hlev la' lb' aa' ab' (by assumption) (by assumption) (by assumption))
      k_steps
      · exact hret _ _ _ ⟨_, congrArg (Value.int · _) ((core_nil (.inr (by assumption))).trans hlev.symm)⟩ (by assumption) (by assumption)
      · exact hret _ _ _ ⟨_, congrArg (Value.int · _) ((core_nil (.inl (by assumption))).trans hlev.symm)⟩ (by assumption) (by assumption)
    clear hlev la' lb' aa' ab' ea' eb' ea eb q0 q1 q2 q3 la lb p3 ne p0 p1 p2
    rintro ⟨⟨a₁, ta₁⟩, ⟨b₁, tb₁⟩⟩ kU kH kTk ⟨la, lb, aa, ab, le, pos, hlev⟩ kFr kNews
    dsimp only [kstB] at *
    simp only [List.drop_succ_cons, List.drop_zero]
    k_with_none
    k_with "call type:list" => (refine rows_list (n := a₁.length) rfl (by assumption) (by assumption) (by assumption) (by omega) ?_; intro D' vs' c' h' tk' F' N' l1 hI'; (try k_lt l1); (try k_sweep))
    k_with "pyIter ref" => (k_of "bindex" => k_state (fun pre r row => row.length = a₁.length ∧ GoI a₁.cps.toList b₁.cps.toList c pre.length r row) "result" "row")
    k_with "pyIter ref" => (k_of "index" => k_state_given ["row!", "bindex"] (fun row0 bi pre d r mn row => row.length = a₁.length ∧ StepI a₁.cps.toList (b₁.cps.toList.getD bi.toNat 0) row0 (bi * 2) pre.length d r mn row) "distance" "result" "minimum" "row")
    k_with "state" => first | exact goI_start | exact stepI_start (by assumption) | exact stepI_turn (by assumption) (by assumption) (by assumption) (by assumption) (if_pos (by assumption)) | exact stepI_turn (by assumption) (by assumption) (by assumption) (by assumption) (if_neg (by assumption)) | exact goI_turn (by assumption) (by assumption) (by assumption) (by assumption) (by assumption) (by assumption)
    k_with "call ref" => (refine con_use (subst_con _ _ _ _ _ _ _ _ _ _ _ (item_code (by omega) (by omega)) (item_code (by omega) (by omega)) (code_low ab (by omega) (by omega)) (code_low aa (by omega) (by omega))) (by k_asm) (by k_asm) (by k_asm) (by k_asm) (by k_asm) (by first | exact rfl | assumption) (by ktr_room) (by ktr_units) ?_; rintro r9 h9 tk9 ⟨t9, rfl⟩ F9 N9; (try dsimp only); (try k_fold))
    k_steps
    all_goals (refine hret _ _ _ ⟨_, congrArg (Value.int · _) (Eq.trans ?_ hlev.symm)⟩ (by assumption) (by first | assumption | exact cb_drop (by assumption) (by intro p hp; simp [hp])))
    · exact tail_cut (by assumption)
    · exact goI_ret (by assumption) (by assumption) (by assumption) (by assumption) (by assumption) (by assumption) (by assumption)
    · exact goI_end (by assumption) (by assumption)
end Mine
namespace Mine
local macro_rules | `(tactic| omega) => `(tactic| lia)
local macro_rules | `(tactic| walk_at $s:str) => `(tactic| k_extra $s)
local macro_rules | `(tactic| walk_at "enter cells") => `(tactic| (refine' code_defC ?k1 ?k2 ?k3 ?k4 ?k5 ?kA ?kF ?kK ?k6 ?k7 ?k8 ?k9 ?kB ?kD ?_ ?c2 ?c3 ?c4; (case kA => exact rfl); (case kF => exact rfl); (case kK => assumption); (case k1 => k_asm); (case k2 => k_asm); (case k3 => k_asm); (case k4 => k_asm); (case k5 => k_asm); (case k6 => k_is); (case k7 => k_is); (case k8 => ktr_room); (case k9 => exact BindsTo.of_eq rfl); (case kB => exact rfl); (case kD => decide +kernel); (case c2 => exact rfl); (case c3 => exact rfl); (case c4 => exact rfl); k_whole; intro g' L' h' tk' cells' FG' F' N' Y' B' X' T' l1; (try k_lt l1); k_cells Y'; (try simp only [List.cons_append, List.nil_append] at N'); (try dsimp only); (try k_lift B'); (try k_fold)))
def letters : List Nat := [97, 98, 99, 100, 101, 102, 103, 104, 105, 106, 107, 108, 109]
def wordL (g l : Nat) (m : Bool) : List Nat :=
  let k := (List.range l).map fun k => letters.getD ((2 * k + 1) * g / (2 * l)) 0
  if m then k.set (l / 2) (k.getD (l / 2) 0 - 32) else k
theorem idx_low {g l k : Int} (h0 : 1 ≤ l) (h1 : l ≤ g) (hk : 0 ≤ k) : 0 ≤ ((2 * k + 1) * g).fdiv (2 * l) := by
  w_top off
  rw [Int.fdiv_eq_ediv_of_nonneg _ (by omega)]
  exact Int.ediv_nonneg (Int.mul_nonneg (by omega) (by omega)) (by omega)
theorem idx_high {g l k : Int} (h0 : 1 ≤ l) (h1 : l ≤ g) (h2 : g ≤ 13) (hk : k < l) : ((2 * k + 1) * g).fdiv (2 * l) < 13 := by
  w_top off
  rw [Int.fdiv_eq_ediv_of_nonneg _ (by omega)]
  have : ((2 * k + 1) * g) / (2 * l) < g := by
    apply Int.ediv_lt_of_lt_mul (by omega)
    rw [Int.mul_comm g]
    exact Int.mul_lt_mul_of_pos_right (by omega) (by omega)
  omega
def wordT (g l k : Int) : Str := Txt.item (Str.ofString "abcdefghijklm") (((2 * k + 1) * g).fdiv (2 * l))
theorem word_dec : ∀ g : Nat, g < 14 → ∀ l : Nat, l < 14 → 1 ≤ l → l ≤ g → Txt.join (Str.ofString "") (List.map (wordT g l) (rangeKs 0 ((l : Int) - 0).toNat)) = ⟨(wordL g l false).toArray⟩ := by decide +kernel
theorem word_is {g l : Int} (h0 : 1 ≤ l) (h1 : l ≤ g) (h2 : g ≤ 13) : Txt.join (Str.ofString "") (List.map (wordT g l) (rangeKs 0 (l - 0).toNat)) = ⟨(wordL g.toNat l.toNat false).toArray⟩ := by
  w_top off
  have := word_dec g.toNat (by omega) l.toNat (by omega) (by omega) (by omega)
  rw [Int.toNat_of_nonneg (by omega), Int.toNat_of_nonneg (by omega)] at this
  exact this
set_option maxRecDepth 100000 in
set_option maxHeartbeats 12800000 in
theorem word_con (w : World) (loose mean mg mb) (g l : Int) (t u : Tok) (h0 : 1 ≤ l) (h1 : l ≤ g) (h2 : g ≤ 13) : Con 5 w loose mean mg mb 107 [.int g t, .int l u, .bool false] (fun v => ∃ t', v = .str ⟨(wordL g.toNat l.toNat false).toArray⟩ t') := by
  w_top off
  k_with_none
  unfold Con
  k_fill
  intro dp un gd cn cs a ccd cl outer A₀ base h₀ L m news s Q E B F X N T hk hd hu hret
  refine wpAny_call ?_
  k_dflt (walk_at "enter cells")
  k_with "CompSrc" => (k_here; k_dflt (refine LCg.CompSrc.range (by rfl) (by k_asm) (by k_asm) (by assumption) (small_one (by omega) (by omega) (by omega) (by omega)) (rangeSize_nat _ _) (by rw [PySem.sizeLine_eq]; omega) ?_); intro g'; (refine' kct_range (fun k => wordT g l k) (fun k' t' I' oI' C' oC' D' m' ys' h' tk' E' hlo' hhi' hC' hx' F' N' off' ne' hMark' => ?_) ?_); (all_goals (try (simp only [LCg.Off3, and_true] at off'))))
  k_with "subscriptTail" => (refine item_str (fitsSsize_of (N := 9223372036854775808) (by have := idx_low h0 h1 (by assumption); omega) (by have := idx_high h0 h1 h2 (k := k') (by omega); omega) (Int.le_refl _)) (by have := idx_low h0 h1 (by assumption); omega) (by have := idx_high h0 h1 h2 (k := k') (by omega); exact this) ?_; intro _)
  k_with "CompEnd" => (k_here; k_dflt (refine LCg.CompEnd.intro (by assumption) (by assumption) _ (fun p hp => hp) ?_ True.intro ⟨rfl, _, rfl⟩); (simp only [LCg.Off3]; assumption))
  k_with "KCtEl" => exact kct_el rfl (by with_unfolding_all rfl) (by with_unfolding_all rfl)
  k_steps
  exact hret _ _ _ ⟨_, congrArg (Value.str · _) (word_is h0 h1 h2)⟩ (by assumption) (by first | assumption | exact cb_drop (by assumption) (by intro p hp; simp [hp]))
theorem strs_set {x : Str} {u : Tok} : ∀ {vs : List Value} {ns : List Str}, StrsAre vs ns → ∀ j : Nat, StrsAre (vs.set j (.str x u)) (ns.set j x)
  | _, _, .nil, _ => .nil
  | _, _, .cons _ _ h, 0 => .cons x u h
  | _, _, .cons i t h, j + 1 => .cons i t (strs_set h j)
theorem strs_at : ∀ {vs : List Value} {ns : List Str}, StrsAre vs ns → ∀ j : Nat, j < ns.length → ∃ t, vs[j]? = some (.str (ns.getD j Str.empty) t)
  | _, _, .nil, _, h => absurd h (Nat.not_lt_zero _)
  | _, _, .cons x t _, 0, _ => ⟨t, rfl⟩
  | _, _, .cons _ _ r, j + 1, h => by
    obtain ⟨t, e⟩ := strs_at r j (Nat.lt_of_succ_lt_succ h)
    exact ⟨t, by simpa using e⟩
theorem off1_all {D : Addr} : ∀ (l : List (Addr × Obj)), LCg.Off1 D l → ∀ p ∈ l, p.1 ≠ D
  | [], _, p, hp => by simp at hp
  | q :: r, h, p, hp => by
    rcases List.mem_cons.mp hp with rfl | hp
    · exact h.1
    · exact off1_all r h.2 p hp
theorem carried_strs {ys : List Value} {f : Int → Str} {ks : List Int} (h : CarriedAll ys (ks.map fun k => PyData.str (f k))) : StrsAre ys (ks.map f) := StrsAre.of_carried (by rw [List.map_map]; exact h)
section
variable {prog : Program} {w : World} {A : Around} {E : Value → Shared → Prop} {s : Shared} {h₀ : Heap} {L D : Addr} {m : Str → Option Value} {news : List (Addr × Obj)} {vs : List Value} {ns : List Str} {n : Nat} {k : Int} {v : Value} {t u : Tok}
theorem strs_store {Q : Unit → Shared → Prop} (F : Fr h₀ L s.heap m) (N : News h₀ L s.heap ((D, listOf vs.toArray n) :: news)) (o1 : LCg.Off1 D news) (h0 : 0 ≤ k) (h1 : k < vs.length) (hfit : k < 2 ^ 63)
    (h : ∀ h', Fr h₀ L h' m → News h₀ L h' ((D, listOf (vs.set k.toNat v).toArray n) :: news) → Q () { s with heap := h' }) :
    wpAny (model prog w) A (setItem (.ref D) (.int k t) v) Q E s := by
  have z := N (D, listOf vs.toArray n) (.head _)
  refine ki_setAt z.1 h0 hfit (by simpa using h1) (h _ (F.change (Heap.SameBut.update ..) z.2.1 z.2.2) (ki_turn (pre := []) _ N (fun _ h => nomatch h) (off1_all _ o1) ?_ ?_))
  · show vs.toArray.setIfInBounds k.toNat v = (vs.set k.toNat v).toArray
    apply Array.toList_inj.mp
    simp
  · simp
theorem strs_item {value slice : PySem.Expr} {Q : Value → Shared → Prop} (N : News h₀ L s.heap ((D, listOf vs.toArray n) :: news)) (hi : StrsAre vs ns) (h0 : 0 ≤ k) (h1 : k < ns.length) (hfit : k < 2 ^ 63) (h : ∀ t, Q (.str (ns.getD k.toNat Str.empty) t) s)
    (hs : subscripted slice false (.ref D) (.int k u) = operate [.ref D, .int k u] (getItem (.ref D) (.int k u)) := by with_unfolding_all rfl) :
    wpAny (model prog w) A (subscriptTail value slice (.ref D) (.int k u)) Q E s := by
  have hl : s.heap.IsList D vs.toArray := PySem.IsL.isList (n := n) (N _ (.head _)).1
  obtain ⟨t, e⟩ := strs_at hi k.toNat (by omega)
  exact tail_any hl.typeIs slot_list_getitem.lookup (wpAny_getItem_list hl h0 hfit (by simpa using e) (h t)) hs
end
def wordM (g l : Int) : List Str := ((rangeKs 0 (l - 0).toNat).map (wordT g l)).set (l.fdiv 2).toNat (Txt.upper (((rangeKs 0 (l - 0).toNat).map (wordT g l)).getD (l.fdiv 2).toNat Str.empty))
theorem wordM_dec : ∀ g : Nat, g < 14 → ∀ l : Nat, l < 14 → 1 ≤ l → l ≤ g → Txt.join (Str.ofString "") (wordM g l) = ⟨(wordL g l true).toArray⟩ := by decide +kernel
theorem wordM_ones : ∀ g : Nat, g < 14 → ∀ l : Nat, l < 14 → 1 ≤ l → l ≤ g → ∀ a ∈ wordM g l, a.length = 1 := by decide +kernel
theorem getD_short {g l : Int} (ks : List Int) (i : Nat) : ((ks.map (wordT g l)).getD i Str.empty).length ≤ 1 := by
  w_top off
  rw [List.getD_eq_getElem?_getD, List.getElem?_map]
  cases ks[i]? with
  | none => simp; decide
  | some k => exact Nat.le_of_eq (len_item _ _)
theorem wordM_ones' {g l : Int} (h0 : 1 ≤ l) (h1 : l ≤ g) (h2 : g ≤ 13) : ∀ a ∈ wordM g l, a.length = 1 := by
  w_top off
  have := wordM_ones g.toNat (by omega) l.toNat (by omega) (by omega) (by omega)
  rw [Int.toNat_of_nonneg (by omega), Int.toNat_of_nonneg (by omega)] at this
  exact this
theorem wordM_is {g l : Int} (h0 : 1 ≤ l) (h1 : l ≤ g) (h2 : g ≤ 13) : Txt.join (Str.ofString "") ((wordM g l).map fun a => a) = ⟨(wordL g.toNat l.toNat true).toArray⟩ := by
  w_top off
  have := wordM_dec g.toNat (by omega) l.toNat (by omega) (by omega) (by omega)
  rw [Int.toNat_of_nonneg (by omega), Int.toNat_of_nonneg (by omega)] at this
  rw [List.map_id']
  exact this
theorem News.get {h₀ h : Heap} {L D : Addr} {o : Obj} {news : List (Addr × Obj)} (N : News h₀ L h ((D, o) :: news)) : h.get? D = some o := (N _ (.head _)).1
set_option maxRecDepth 100000 in
set_option maxHeartbeats 12800000 in
theorem word_mk (w : World) (loose mean mg mb) (g l : Int) (t u : Tok) (h0 : 1 ≤ l) (h1 : l ≤ g) (h2 : g ≤ 13) : Con 5 w loose mean mg mb 107 [.int g t, .int l u, .bool true] (fun v => ∃ t', v = .str ⟨(wordL g.toNat l.toNat true).toArray⟩ t') := by
  w_top off
  have q1 : l.fdiv 2 = l / 2 := Int.fdiv_eq_ediv_of_nonneg _ (by omega)
  have hz : ((List.map (wordT g l) (rangeKs 0 (l - 0).toNat)).getD (l.fdiv 2).toNat Str.empty).length ≤ 1 := getD_short _ _
  k_with_none
  unfold Con
  k_fill
  intro dp un gd cn cs a ccd cl outer A₀ base h₀ L m news s Q E B F X N T hk hd hu hret
  refine wpAny_call ?_
  k_dflt (walk_at "enter cells")
  k_with "CompSrc" => (k_here; k_dflt (refine LCg.CompSrc.range (by rfl) (by k_asm) (by k_asm) (by assumption) (small_one (by omega) (by omega) (by omega) (by omega)) (rangeSize_nat _ _) (by rw [PySem.sizeLine_eq]; omega) ?_); intro g'; (refine' kct_range (fun k => wordT g l k) (fun k' t' I' oI' C' oC' D' m' ys' h' tk' E' hlo' hhi' hC' hx' F' N' off' ne' hMark' => ?_) ?_); (all_goals (try (simp only [LCg.Off3, and_true] at off'))))
  k_with "subscriptTail" => (refine item_str (fitsSsize_of (N := 9223372036854775808) (by have := idx_low h0 h1 (by assumption); omega) (by have := idx_high h0 h1 h2 (k := k') (by omega); omega) (Int.le_refl _)) (by have := idx_low h0 h1 (by assumption); omega) (by have := idx_high h0 h1 h2 (k := k') (by omega); exact this) ?_; intro _)
  k_with "CompEnd" => (k_here; k_dflt (refine LCg.CompEnd.intro (by assumption) (by assumption) _ (fun p hp => hp) ?_ True.intro ⟨rfl, _, rfl⟩); (simp only [LCg.Off3]; assumption))
  k_with "subscriptTail" => (k_here; k_dflt (refine strs_item (by assumption) (carried_strs (by assumption)) (by omega) (by simp only [List.length_map, rangeKs_length]; omega) (by omega) ?_ (by with_unfolding_all rfl)); intro tS)
  k_with "setItem ref int" => (k_here; k_dflt (refine strs_store (by assumption) (by assumption) (by assumption) (by omega) (by rw [CarriedAll.length_eq (by assumption)]; simp only [List.length_map, rangeKs_length]; omega) (by omega) ?_); intro h' F' N')
  k_with "call builtin:str.join" => (k_here; k_dflt (refine KT.join_1 (l := wordM g l) (g := fun a => a) (PySem.IsL.isList (News.get (by assumption))) (strs_set (carried_strs (by assumption)) _).carried (wordM_ones' h0 h1 h2) (by simp [wordM, rangeKs_length]; omega) ?_); intro tJ kJ hJ)
  k_steps
  exact hret _ _ _ ⟨_, congrArg (Value.str · _) (wordM_is h0 h1 h2)⟩ (by assumption) (by first | assumption | exact cb_drop (by assumption) (by intro p hp; simp [hp]))
end Mine
namespace Mine
local macro_rules | `(tactic| walk_at "no such 0") => `(tactic| skip)
local macro_rules | `(tactic| walk_at "no such 1") => `(tactic| skip)
local macro_rules | `(tactic| walk_at "no such 2") => `(tactic| skip)
local macro_rules | `(tactic| walk_at "no such 3") => `(tactic| skip)
local macro_rules | `(tactic| walk_at "no such 4") => `(tactic| skip)
local macro_rules | `(tactic| walk_at "no such 5") => `(tactic| skip)
local macro_rules | `(tactic| walk_at "no such 6") => `(tactic| skip)
local macro_rules | `(tactic| walk_at "no such 7") => `(tactic| skip)
local macro_rules | `(tactic| walk_at "no such 8") => `(tactic| skip)
local macro_rules | `(tactic| omega) => `(tactic| lia)
local macro_rules | `(tactic| walk_at $s:str) => `(tactic| k_extra $s)
local macro_rules | `(tactic| walk_at "ite") => `(tactic| first | refine ite_f (by with_reducible assumption) ?_ | refine ite_t (by with_reducible assumption) ?_ | with_reducible refine ite_f (bne_self_eq_false _) ?_)
local macro_rules | `(tactic| walk_at "enter def") => `(tactic| (refine' code_def ?k1 ?k2 ?k3 ?k4 ?k5 ?kA ?kF ?kK ?k6 ?k7 ?k8 ?k9 ?kB ?_ ?c2 ?c3 ?c4 ?c5; (case kA => exact rfl); (case kF => exact rfl); (case kK => first | exact rfl | assumption); (case k1 => k_asm); (case k2 => k_asm); (case k3 => k_asm); (case k4 => k_asm); (case k5 => k_asm); (case k6 => k_is); (case k7 => k_is); (case k8 => first | ktr_room | ((simp only [depth_mark, depth_deeper] at *); (try dsimp only [ktrTop] at *); omega)); (case k9 => exact BindsTo.of_eq rfl); (case c5 => decide); (case kB => exact locs rfl); (case c2 => exact rfl); (case c3 => exact rfl); (case c4 => exact rfl); k_whole; intro g' L' h' FG' F' N' B' X' T'; (try dsimp only); (try k_lift B'); (try k_fold)))
section
variable {prog : Program} {w : World} {A₀ A : Around} {s : Shared} {base h₀ : Heap} {L : Addr} {m : Str → Option Value} {env : Env} {news : List (Addr × Obj)} {K : Frag} {p : Program} {loose : List Str} {mean : ExcName → Option Value} {mg mb : Str → Option Value}
    {R : Result → Shared → Prop} {name qual : Str} {params : Arguments} {body : List Stmt} {scope : Scope} {dV kV doc pm cdv ct oc : Value} {an od : Option Addr} {osl : Array (Option Value)} {f : Addr} {args : Args} {binds : List (Str × Value)}
/-- a def with a try of its own, called from the law's own frame, whatever cells that frame has -/
theorem enter_try (B : Below A₀ base [] h₀) (F : Fr h₀ L s.heap m) (X₀ : K.In h₀) (N : News h₀ L s.heap news) (T : Top p loose mean mg mb h₀) (hA : A.frames = some [env]) (hf : env.frame = some L) (hke : env.scope.kind = .function)
    (ho : K.lookup f = some ⟨oc, od, .func (fnOf name qual params body scope dV kV doc pm an cdv ct), osl⟩) (hcd : codeIn K cdv qual = true) (hroom : A.depth < recursionLimit)
    (hbind : BindsTo s (fnOf name qual params body scope dV kV doc pm an cdv ct) args binds) (hloc : ∀ y ∈ binds, scope.names.lookup y.1 = some .local)
    (h : ∀ g L' h₁, Fr h₀ L g m → Fr g L' h₁ (fun y => binds.reverse.lookup y) → News g L' h₁ news → Below A base [env] g → K.In g → Top p loose mean mg mb g → KtsDicts ([env].filterMap (·.frame)) g →
      wpAny (model prog w) (A.deeper (envOf qual scope L' f cdv)) (execs body (envOf qual scope L' f cdv))
        (fun fl s' => LeaveS0 ([env].filterMap (·.frame)) h₀ L m g R (match fl with | .ret v => v | _ => .none) s')
        (fun e s' => wpAny (model prog w) (A.deeper (envOf qual scope L' f cdv)) (leaving (envOf qual scope L' f cdv) e) (fun _ s'' => R (.error e) s'') (fun e' s'' => R (.error e') s'') s')
        { s with heap := h₁, toks := s.toks + binds.length })
    (hco : scope.isCoroutine = false) (hgen : scope.isGenerator = false) (hk : scope.kind = .function)
    (hcell : ∀ x ∈ scope.names, x.2 ≠ .cell) : codeAny (model prog w) A (.call (.ref f) args) R s := by
  have X := X₀.keeps F.keep
  have hm : ∀ b, b ∈ [env].filterMap (·.frame) → b = L := by
    intro b hb
    simp only [List.filterMap_cons, hf, List.filterMap_nil, List.mem_singleton] at hb
    exact hb
  obtain ⟨FG, BG, st, lv⟩ := groundX (R := R) B F N hA hf hke
  refine codeAny_call_def (fd := fnOf name qual params body scope dV kV doc pm an cdv ct) (body := body) (binds := binds) hroom (X _ _ ho) rfl (T.nolimit.keeps F.keep) (codeRec_of X hcd) rfl hbind hcell hloc (fun h₁ hns hk₁ => ?_) hco hgen hk
  obtain ⟨oL, es, ep, hLg, hLd, hLk, hLf⟩ := FG.ns
  refine wpAny_mono (h _ s.heap.objs.size h₁ FG ⟨hns, fun b o e => hk₁ b o (of_hideAll _ e), Nat.le_of_eq (hideAll_size _ _)⟩
    (fun p hp => ⟨hk₁ _ _ (N p hp).1, Nat.ne_of_lt (Heap.lt_size (N p hp).1), hideAll_none _ (List.mem_map_of_mem hp)⟩) BG (X₀.keeps st) (T.keeps st) (fun b hb => by
      rw [hm b hb]
      exact ⟨oL, es, ep, hLg, hLd⟩)) (fun fl s' hl => ?_) fun _ _ y => y
  obtain ⟨g', L', m', news', T', F', N', k⟩ := hl
  have nL₀ : h₀.get? L = none := kts_self F
  obtain ⟨sl, hs⟩ := T'.up hLg
  refine k ⟨⟨_, es, ep, F'.keep _ _ hs, hLd, hLk, hLf⟩, fun b o e => F'.keep b o (T'.other b o (st b o e) (fun q => by
    rw [hm b q, nL₀] at e
    cases e)), F.above⟩ fun p hp => ⟨(N' p hp).1, fun q => ?_, ?_⟩
  · have := (N' p hp).2.2; rw [q, hs] at this; cases this
  · cases q : h₀.get? p.1 with
    | none => rfl
    | some o =>
      obtain ⟨sl', hs'⟩ := T'.up (st _ _ q)
      have := (N' p hp).2.2
      rw [hs'] at this
      cases this
end
theorem of_ne_codes {x y : Str} (h : x.cps.toList ≠ y.cps.toList) : (x != y) = true := by
  w_top off
  simp only [bne_iff_ne, ne_eq]; intro e; exact h (by rw [e])
theorem r250 (y : Str) : (Txt.slice (Str.ofString "250 \"" ++ y ++ Str.ofString "x") none (some 3) != Str.ofString "257") = true := by
  w_top off
  apply of_ne_codes
  have hc : (Str.ofString "250 \"" ++ y ++ Str.ofString "x").cps.toList = [50, 53, 48, 32, 34] ++ (y.cps.toList ++ [120]) := by
    rw [codes_append, codes_append, show (Str.ofString "250 \"").cps.toList = [50, 53, 48, 32, 34] from by decide +kernel, show (Str.ofString "x").cps.toList = [120] from by decide +kernel, List.append_assoc]
  rw [slice_to (by omega) (by rw [len_codes, hc]; simp; omega), hc, show (Str.ofString "257").cps.toList = [50, 53, 55] from by decide +kernel]
  simp
theorem r257 (y : Str) : (Txt.slice (Str.ofString "257 x" ++ y) none (some 3) != Str.ofString "257") = false ∧ (Txt.slice (Str.ofString "257 x" ++ y) (some 3) (some 5) != Str.ofString " \"") = true := by
  w_top off
  have hc : (Str.ofString "257 x" ++ y).cps.toList = [50, 53, 55, 32, 120] ++ y.cps.toList := by
    rw [codes_append, show (Str.ofString "257 x").cps.toList = [50, 53, 55, 32, 120] from by decide +kernel]
  have hl : 5 ≤ ((Str.ofString "257 x" ++ y).length : Int) := by rw [len_codes, hc]; simp; omega
  refine ⟨of_eq_codes ?_, of_ne_codes ?_⟩
  · rw [slice_to (by omega) (by omega), hc, show (Str.ofString "257").cps.toList = [50, 53, 55] from by decide +kernel]; simp
  · rw [slice_ft (by omega) (by omega) (by omega), hc, show (Str.ofString " \"").cps.toList = [32, 34] from by decide +kernel]; simp
/-- a contract of a def that is called from the law's own frame -/
abbrev Con0 (rm : Nat) (w : World) (loose : List Str) (mean : ExcName → Option Value) (mg mb : Str → Option Value) (f : Addr) (vs : List Value) (Out : Value → Prop) : Prop :=
  ∀ (dp un : Nat) (gd : Option (List Code)) (cn : Str) (cs : Scope) (a : Addr) (ccd : Value) (cl : List (Str × Addr)) (A₀ : Around) (base h₀ : Heap) (L : Addr) (m : Str → Option Value) (news : List (Addr × Obj)) (s : Shared) (Q E : Value → Shared → Prop),
    Below A₀ base [] h₀ → Fr h₀ L s.heap m → (Mine.hd.heap_39 w.params).In h₀ → News h₀ L s.heap news → Top topProg loose mean mg mb h₀ → (Mine.hd.heap_39 w.params).In base → Top topProg loose mean mg mb base → cs.kind = .function →
    dp + rm < recursionLimit → un + 10 * rm < cLine →
    (∀ r h' tk', Out r → Fr h₀ L h' m → News h₀ L h' news → Q r { s with heap := h', toks := tk' }) →
      wpAny (model PySem.Challenge.rw_rs0142_01.row.prog w) (ktrTop dp un gd cn cs L a ccd cl []) (call (.ref f) vs) Q E s
local macro_rules | `(tactic| walk_at "enter try") => `(tactic| (refine' enter_try ?k1 ?k2 ?k3 ?k4 ?k5 ?kA ?kF ?kK ?k6 ?k7 ?k8 ?k9 ?kB ?_ ?c2 ?c3 ?c4 ?c5; (case kA => exact rfl); (case kF => exact rfl); (case kK => first | exact rfl | assumption); (case k1 => assumption); (case k2 => assumption); (case k3 => assumption); (case k4 => assumption); (case k5 => assumption); (case k6 => k_is); (case k7 => k_is); (case k8 => ktr_room); (case k9 => exact BindsTo.of_eq rfl); (case c5 => decide); (case kB => exact locs rfl); (case c2 => exact rfl); (case c3 => exact rfl); (case c4 => exact rfl); k_whole; intro g' L' h' FG' F' N' B' X' T' D'; (try dsimp only); (try k_lift B'); (try k_fold)))
set_option maxRecDepth 100000 in
set_option maxHeartbeats 64000000 in
theorem reads_con (w : World) (loose mean mg mb) (b : Int) (t : Tok) (h0 : 3 ≤ b) (h1 : b ≤ 13) (hb : b % 2 = 1) : Con0 20 w loose mean mg mb 119 [.int b t] (fun v => v = .bool true) := by
  w_top off
  have e1 := r250 (Txt.mul (Str.ofString "\"") b)
  obtain ⟨e2, e3⟩ := r257 (Txt.mul (Str.ofString "\"") b)
  k_with_none
  unfold Con0
  k_fill
  intro dp un gd cn cs a ccd cl A₀ base h₀ L m news s Q E B F X N T XB TB hk hd hu hret
  refine wpAny_call ?_
  k_dflt (walk_at "enter try")
  k_with "call ref" => ((first | (with_reducible show wpAny _ _ (call _ [Value.str (Str.ofString "250 \"" ++ _ ++ _) _]) _ _ _) | (with_reducible show wpAny _ _ (call _ [Value.str (Str.ofString "257 x" ++ _) _]) _ _ _)); k_here; refine wpAny_call ?_; k_dflt (walk_at "enter def"))
  k_with "call ref" => ((with_reducible show wpAny _ _ (call _ [Value.str (Str.ofString "257 \"" ++ Txt.mul _ _) _]) _ _ _); refine con_use (parse_q _ _ _ _ _ _ _ _ rfl (by omega) (by omega)) (by k_asm) (by k_asm) (by k_asm) (by k_asm) (by k_asm) (by first | exact rfl | assumption) (by ktr_room) (by ktr_units) ?_; rintro r9 h9 tk9 ⟨t9, rfl⟩ F9 N9; (try dsimp only); (try k_fold))
  k_with "call ref" => ((with_reducible show wpAny _ _ (call _ [Value.str (Str.ofString "257 \"" ++ _ ++ Str.ofString "x") _]) _ _ _); refine con_use (parse_x _ _ _ _ _ _ _ _ rfl (by omega) (by omega)) (by k_asm) (by k_asm) (by k_asm) (by k_asm) (by k_asm) (by first | exact rfl | assumption) (by ktr_room) (by ktr_units) ?_; rintro r9 h9 tk9 ⟨t9, rfl⟩ F9 N9; (try dsimp only); (try k_fold))
  k_with "call ref" => ((with_reducible show wpAny _ _ (call (Value.ref 114) _) _ _ _); refine con_use (half_con _ _ _ _ _ _ _ (by omega) (by omega)) (by k_asm) (by k_asm) (by k_asm) (by k_asm) (by k_asm) (by first | exact rfl | assumption) (by ktr_room) (by ktr_units) ?_; rintro r9 h9 tk9 ⟨t9, rfl⟩ F9 N9; (try dsimp only); (try k_fold))
  k_with "eval ListComp" => (k_here; k_dflt (refine LCg.ListComp_U (F₀ := by k_asm) (by rfl) (by decide) (by rfl) (by decide) (by rfl) ?_))
  k_with "CompSrc" => (k_here; k_dflt (refine LCg.CompSrc.ledger (by rfl) (by k_asm) (by k_asm) (List.Mem.head _) (Nat.le_of_ble_eq_true rfl) ?_); intro g'; lcg_lit)
  k_with "CompEnd" => (k_here; k_dflt (refine LCg.CompEnd.intro (by assumption) (by assumption) _ (fun p hp => hp) ?_ (Or.inr ⟨_, .head _, rfl, _, rfl⟩) ?_); (simp only [LCg.Off3]; assumption))
  have q1 : b.fdiv 2 = b / 2 := Int.fdiv_eq_ediv_of_nonneg _ (by omega)
  have q2 : (b + 1).fdiv 2 = b.fdiv 2 + 1 := by rw [Int.fdiv_eq_ediv_of_nonneg _ (by omega), q1]; omega
  k_with "compareOp Eq ref ref" => (refine eq_two_news (by assumption) (by ktr_units) rfl (congrArg (Txt.mul (Str.ofString "\"")) q2) (quotes_ok _) (quotes_ok _) ?_)
  k_steps
  exact hret _ _ _ rfl (by assumption) (by first | assumption | exact cb_drop (by assumption) (by intro p hp; simp [hp]))
end Mine
namespace Mine
/-- a contract of a def that hands back what it has made: tl lies ahead of the ledger -/
abbrev ConX (rm : Nat) (w : World) (loose : List Str) (mean : ExcName → Option Value) (mg mb : Str → Option Value) (f : Addr) (vs : List Value) (Out : Value → List (Addr × Obj) → Prop) : Prop :=
  ∀ (dp un : Nat) (gd : Option (List Code)) (cn : Str) (cs : Scope) (a : Addr) (ccd : Value) (cl : List (Str × Addr)) (outer : List Env) (A₀ : Around) (base h₀ : Heap) (L : Addr) (m : Str → Option Value) (news : List (Addr × Obj)) (s : Shared) (Q E : Value → Shared → Prop),
    Below A₀ base outer h₀ → Fr h₀ L s.heap m → (Mine.hd.heap_39 w.params).In h₀ → News h₀ L s.heap news → Top topProg loose mean mg mb h₀ → cs.kind = .function →
    dp + rm < recursionLimit → un + 10 * rm < cLine →
    (∀ r tl h' tk', Out r tl → Fr h₀ L h' m → News h₀ L h' (tl ++ news) → (∀ q ∈ news, ∀ p ∈ tl, q.1 < p.1) → Q r { s with heap := h', toks := tk' }) →
      wpAny (model PySem.Challenge.rw_rs0142_01.row.prog w) (ktrTop dp un gd cn cs L a ccd cl outer) (call (.ref f) vs) Q E s
local macro_rules | `(tactic| walk_at $s:str) => `(tactic| k_extra $s)
local macro_rules | `(tactic| walk_at "ite") => `(tactic| first | refine ite_f (by with_reducible assumption) ?_ | refine ite_t (by with_reducible assumption) ?_ | refine ite_dec_f (by omega) ?_ | refine ite_dec_t (by omega) ?_)
theorem lt_news {h₀ h : Heap} {L : Addr} {news : List (Addr × Obj)} (N : News h₀ L h news) : ∀ q ∈ news, q.1 < h.objs.size := fun q hq => Heap.lt_size (N q hq).1
set_option maxRecDepth 100000 in
set_option maxHeartbeats 12800000 in
theorem div21_con (w : World) (loose mean mg mb) (x b n : Int) (t u v : Tok) (h0 : 0 ≤ x) (h1 : x < 65536) (hb : 2 ≤ b) (hb' : b < 100) (hn : 0 ≤ n) (hn' : n < 100) :
    ConX 6 w loose mean mg mb 53 [.int x t, .int b u, .int n v] (fun r tl => ∃ p t1 t2 k, r = .ref p ∧ tl = [(p, ({ cls := .type "tuple", data := .seq #[.int (x.fdiv b) t1, .int (x.fmod b) t2] k } : Obj))]) := by
  w_top off
  have hz : Builtin.Int.intBits x ≤ 64 := intBits_le_64 (by omega) (by omega)
  k_with_none
  unfold ConX
  k_fill
  intro dp un gd cn cs a ccd cl outer A₀ base h₀ L m news s Q E B F X N T hk hd hu hret
  refine wpAny_call ?_
  k_dflt cell_enter
  k_steps
  refine hret _ _ _ _ ⟨_, _, _, _, rfl, rfl⟩ (by assumption) (by assumption) ?_
  intro q hq p hp
  rw [List.mem_singleton.mp hp]
  exact lt_news (by assumption) q hq
end Mine
namespace Mine
local macro_rules | `(tactic| walk_at "no such 0") => `(tactic| skip)
local macro_rules | `(tactic| walk_at "no such 1") => `(tactic| skip)
local macro_rules | `(tactic| walk_at "no such 2") => `(tactic| skip)
local macro_rules | `(tactic| walk_at "no such 3") => `(tactic| skip)
local macro_rules | `(tactic| walk_at "no such 4") => `(tactic| skip)
local macro_rules | `(tactic| walk_at "no such 5") => `(tactic| skip)
local macro_rules | `(tactic| walk_at "no such 6") => `(tactic| skip)
local macro_rules | `(tactic| walk_at "no such 7") => `(tactic| skip)
local macro_rules | `(tactic| walk_at "no such 8") => `(tactic| skip)
/-- the def that a body makes -/
def nestIn : List Stmt → Option (Str × Arguments × List Stmt × Scope × Pos)
  | [] => none
  | .FunctionDef name params body _ _ _ scope _ _ pos :: _ => some (name, params, body, scope, pos)
  | _ :: r => nestIn r
def bodyAt (K : Frag) (f : Addr) : List Stmt := match K.lookup f with
  | some ⟨_, _, .func fd, _⟩ => (match fd.body with | .stmts b => b | _ => [])
  | _ => []
theorem allLt_all {d : Nat} : ∀ {l : List (Addr × Obj)}, AllLt d l → ∀ p ∈ l, p.1 < d
  | [], _, p, hp => by simp at hp
  | q :: r, h, p, hp => by
    rcases List.mem_cons.mp hp with rfl | hp
    · exact h.1
    · exact allLt_all h.2 p hp
theorem allLt_ne1 {a : Prop} {d e : Nat} {l : List (Addr × Obj)} (h : a ∧ AllLt d l) (hle : d ≤ e) : ∀ p ∈ l, p.1 ≠ e := fun p hp => Nat.ne_of_lt (Nat.lt_of_lt_of_le (allLt_all h.2 p hp) hle)
section
variable {prog : Program} {w : World} {A : Around} {E : Value → Shared → Prop} {s : Shared} {a : Int} {t u : Tok} {Q : Value → Shared → Prop}
theorem rsh_one (h0 : 0 ≤ a) (h : ∀ t' tk, Q (.int (a / 2) t') { s with toks := tk }) : wpAny (model prog w) A (binaryOp .RShift (.int a t) (.int 1 u)) Q E s := by
  w_top off
  refine rshift_int (by decide) ?_
  rw [show a.fdiv (2 ^ Int.toNat 1) = a / 2 from Int.fdiv_eq_ediv_of_nonneg _ (by decide)]
  exact h _ _
end
theorem len_mid {ds seg : List Int} {lo mid : Int} (h0 : 0 ≤ lo) (h1 : lo ≤ mid) (h2 : mid ≤ ds.length) (hs : seg.length = (mid - lo).toNat) : (ds.take lo.toNat ++ seg ++ ds.drop mid.toNat).length = ds.length := by
  w_top off
  simp only [List.length_append, List.length_take, List.length_drop]; omega
theorem list_join {ds seg1 seg2 : List Int} {lo mid hi : Int} (h0 : 0 ≤ lo) (h1 : lo ≤ mid) (h2 : mid ≤ hi) (h3 : hi ≤ ds.length) (hs : seg1.length = (mid - lo).toNat) :
    (ds.take lo.toNat ++ seg1 ++ ds.drop mid.toNat).take mid.toNat ++ seg2 ++ (ds.take lo.toNat ++ seg1 ++ ds.drop mid.toNat).drop hi.toNat = ds.take lo.toNat ++ (seg1 ++ seg2) ++ ds.drop hi.toNat := by
  w_top off
  have hl : (ds.take lo.toNat ++ seg1).length = mid.toNat := by simp only [List.length_append, List.length_take]; omega
  have e1 : (ds.take lo.toNat ++ seg1 ++ ds.drop mid.toNat).take mid.toNat = ds.take lo.toNat ++ seg1 := by
    rw [← hl, List.take_left]
  have e2 : (ds.take lo.toNat ++ seg1 ++ ds.drop mid.toNat).drop hi.toNat = ds.drop hi.toNat := by
    rw [show hi.toNat = (ds.take lo.toNat ++ seg1).length + (hi.toNat - mid.toNat) by omega, ← List.drop_drop, List.drop_left, List.drop_drop]
    congr 1; omega
  rw [e1, e2]; simp [List.append_assoc]
theorem list_one {ds : List Int} {lo hi x : Int} (h0 : 0 ≤ lo) (h1 : lo + 1 = hi) (h2 : hi ≤ ds.length) : ds.set lo.toNat x = ds.take lo.toNat ++ [x] ++ ds.drop hi.toNat := by
  w_top off
  rw [List.set_eq_take_append_cons_drop, if_pos (by omega), List.append_assoc, show hi.toNat = lo.toNat + 1 by omega]; rfl
theorem split_facts {x lo hi n : Int} {k : Nat} (e0 : hi - lo = k) (e5 : 0 ≤ x) (e6 : x < 2 ^ (n.toNat * k)) (e7 : x < 65536) (hn : 0 ≤ n) :
    let S := (((lo + hi) / 2 - lo) * n).toNat
    (0 ≤ Builtin.bitXor x (x.fdiv (2 ^ S) * 2 ^ S) ∧ Builtin.bitXor x (x.fdiv (2 ^ S) * 2 ^ S) < 2 ^ (n.toNat * ((lo + hi) / 2 - lo).toNat) ∧ Builtin.bitXor x (x.fdiv (2 ^ S) * 2 ^ S) < 65536) ∧
    (0 ≤ x.fdiv (2 ^ S) ∧ x.fdiv (2 ^ S) < 2 ^ (n.toNat * (hi - (lo + hi) / 2).toNat) ∧ x.fdiv (2 ^ S) < 65536) ∧
    Builtin.bitXor x (x.fdiv (2 ^ S) * 2 ^ S) + 2 ^ (n.toNat * ((lo + hi) / 2 - lo).toNat) * x.fdiv (2 ^ S) = x := by
  intro S
  have hS : S = n.toNat * ((lo + hi) / 2 - lo).toNat := by
    show (((lo + hi) / 2 - lo) * n).toNat = _
    obtain ⟨a, ha⟩ : ∃ a : Nat, (lo + hi) / 2 - lo = (a : Int) := ⟨((lo + hi) / 2 - lo).toNat, by omega⟩
    obtain ⟨b, rfl⟩ : ∃ b : Nat, n = (b : Int) := ⟨n.toNat, by omega⟩
    rw [ha, ← Int.natCast_mul, Int.toNat_natCast, Int.toNat_natCast, Int.toNat_natCast, Nat.mul_comm]
  have hp : (0 : Int) < 2 ^ S := Int.pow_pos (by omega)
  rw [xor_low e5, ← hS, Int.fdiv_eq_ediv_of_nonneg _ (Int.le_of_lt hp)]
  have hm0 := Int.emod_nonneg x (Int.ne_of_gt hp)
  have hm1 := Int.emod_lt_of_pos x hp
  have hd0 : 0 ≤ x / 2 ^ S := Int.ediv_nonneg e5 (Int.le_of_lt hp)
  have hk : n.toNat * k = S + n.toNat * (hi - (lo + hi) / 2).toNat := by
    rw [hS, ← Nat.mul_add]; congr 1; omega
  have hmle : x % 2 ^ S ≤ x := by
    have h1 := Int.emod_add_mul_ediv x (2 ^ S)
    have h2 : 0 ≤ 2 ^ S * (x / 2 ^ S) := Int.mul_nonneg (Int.le_of_lt hp) hd0
    omega
  refine ⟨⟨hm0, hm1, by omega⟩, ⟨hd0, ?_, ?_⟩, Int.emod_add_mul_ediv x (2 ^ S)⟩
  · apply Int.ediv_lt_of_lt_mul hp
    rw [hk, Int.pow_add, Int.mul_comm] at e6
    exact e6
  · exact Int.lt_of_le_of_lt (Int.ediv_le_self _ e5) e7
abbrev InnerC (w : World) (loose : List Str) (mean : ExcName → Option Value) (mg mb : Str → Option Value) (f A : Addr) (n : Int) (Led : List (Addr × Obj)) (k : Nat) : Prop :=
  ∀ (x lo hi : Int) (t1 t2 t3 : Tok) (dp un : Nat) (gd : Option (List Code)) (cn : Str) (cs : Scope) (a : Addr) (ccd : Value) (cl : List (Str × Addr)) (outer : List Env) (A₀ : Around) (base h₀ : Heap) (L : Addr) (m : Str → Option Value) (s : Shared) (Q E : Value → Shared → Prop) (vs : List Value) (ds : List Int) (kk : Nat),
    hi - lo = (k : Int) → 0 ≤ lo → 1 ≤ k → hi ≤ (ds.length : Int) → ds.length ≤ 100 → 0 ≤ x → x < 2 ^ (n.toNat * k) → x < 65536 → IntsAre vs ds →
    Below A₀ base outer h₀ → Fr h₀ L s.heap m → (Mine.hd.heap_39 w.params).In h₀ → News h₀ L s.heap ((A, listOf vs.toArray kk) :: Led) → Top topProg loose mean mg mb h₀ → cs.kind = .function →
    dp + k + 2 < recursionLimit → un + 10 * (k + 2) < cLine →
    (∀ h' tk' vs' seg, IntsAre vs' (ds.take lo.toNat ++ seg ++ ds.drop hi.toNat) → seg.length = k → valL n.toNat seg = x → (∀ d ∈ seg, 0 ≤ d ∧ d < 2 ^ n.toNat) → Fr h₀ L h' m → News h₀ L h' ((A, listOf vs'.toArray kk) :: Led) → Q .none { s with heap := h', toks := tk' }) →
      wpAny (model PySem.Challenge.rw_rs0142_01.row.prog w) (ktrTop dp un gd cn cs L a ccd cl outer) (call (.ref f) [.int x t1, .int lo t2, .int hi t3]) Q E s
local macro_rules | `(tactic| walk_at $s:str) => `(tactic| k_extra $s)
local macro_rules | `(tactic| walk_at "ite") => `(tactic| first | refine ite_f (by with_reducible assumption) ?_ | refine ite_t (by with_reducible assumption) ?_ | refine ite_dec_f (by omega) ?_ | refine ite_dec_t (by omega) ?_)
set_option maxRecDepth 100000 in
set_option maxHeartbeats 16000000 in
theorem inner_con (w : World) (loose mean mg mb) (name qual : Str) (params : Arguments) (body : List Stmt) (scope : Scope) (pos : Pos) (hnest : nestIn (bodyAt (Mine.hd.heap_39 w.params) 67) = some (name, params, body, scope, pos))
    (f c' cI cA cN A : Addr) (clos : List (Str × Addr)) (doc pm ctv : Value) (oI oA oN oc : Obj) (vs : Array Value) (t tn : Tok) (n : Int) (Led : List (Addr × Obj))
    (m1 : (f, fnMade name qual params body scope clos doc pm c' ctv) ∈ Led) (m2 : (c', oc) ∈ Led) (d2 : oc.data = .fields vs) (v2 : vs[1]? = some (.str qual t))
    (m3 : (cI, oI) ∈ Led) (d3 : oI.data = .cell (some (.ref f))) (l3 : clos.lookup (Str.ofString "inner") = some cI)
    (m4 : (cA, oA) ∈ Led) (d4 : oA.data = .cell (some (.ref A))) (l4 : clos.lookup (Str.ofString "a_digits") = some cA)
    (m5 : (cN, oN) ∈ Led) (d5 : oN.data = .cell (some (.int n tn))) (l5 : clos.lookup (Str.ofString "n") = some cN)
    (off : ∀ q ∈ Led, q.1 ≠ A) (hn : 2 ≤ n) (hn' : n < 5) : ∀ k, InnerC w loose mean mg mb f A n Led k := by
  w_top off
  cases hnest
  intro k
  induction k using Nat.strongRecOn with
  | _ k IH =>
    unfold InnerC
    k_fill
    intro x lo hi t1 t2 t3 dp un gd cn cs a ccd cl outer A₀ base h₀ L m s Q E vs ds kk e0 e1 e2 e3 e4 e5 e6 e7 hi' B F X N T hk hd hu hret
    have hs0 : 0 ≤ ((lo + hi) / 2 - lo) * n := Int.mul_nonneg (by omega) (by omega)
    have hs1 : ((lo + hi) / 2 - lo) * n ≤ 500 := Int.le_trans (Int.mul_le_mul (show _ ≤ (100 : Int) by omega) (show n ≤ 5 by omega) (by omega) (by omega)) (by decide)
    obtain ⟨⟨q1, q2, q3⟩, ⟨q4, q5, q6⟩, q7⟩ := split_facts (lo := lo) (hi := hi) e0 e5 e6 e7 (by omega)
    refine wpAny_call ?_
    k_with_none
    have fa : ∀ {h₀ h : Heap} {L : Addr} {a : Addr × Obj}, News h₀ L h (a :: Led) → FnAt f h := fun N => FnAt.of N (.tail _ m1)
    refine' code_nest (binds := [(Str.ofString "x", .int x t1), (Str.ofString "L", .int lo t2), (Str.ofString "R", .int hi t3)]) ?k1 ?k2 ?k3 ?k4 ?k5 ?kA ?kF ?kK ?k6 ?k7 ?k8 ?k9 ?kB ?_ ?c2 ?c3 ?c4 ?c5
    (case kA => exact rfl)
    (case kF => exact rfl)
    (case kK => first | exact rfl | assumption)
    (case k1 => k_asm)
    (case k2 => k_asm)
    (case k3 => k_asm)
    (case k4 => k_asm)
    (case k5 => k_asm)
    (case k6 => exact .tail _ m1)
    (case k7 => exact codeRec_news (by k_asm) (.tail _ m2) d2 v2)
    (case k8 => ktr_room)
    (case k9 => exact BindsTo.of_eq rfl)
    (case c5 => decide)
    (case kB => exact locs rfl)
    (case c2 => exact rfl)
    (case c3 => exact rfl)
    (case c4 => exact rfl)
    k_whole
    intro g' L' h' FG' F' N' B' X' T'
    (try dsimp only)
    (try k_lift B')
    (try k_fold)
    clear m1
    k_with "setItem ref int" => (k_here; k_dflt (refine' ksa_set ?k1 ?k2 ?k3 ?k4 ?k5 ?k6 ?k7 ?_; (case k1 => k_asm); (case k2 => k_asm); (case k3 => exact Upd.head off); (case k4 => assumption); (case k5 => omega); (case k6 => omega); (case k7 => omega)); intro h' F' N' hi'' hl'' hs'')
    k_with "callWith ref" => (k_here; k_dflt (refine' callWith_F (fa (by assumption)) ?_))
    k_with "FnAt" => exact fa (by assumption)
    k_with "binaryOp RShift int int" => first | ((with_reducible show wpAny _ _ (binaryOp _ _ (Value.int 1 _)) _ _ _); refine rsh_one (by omega) ?_; intro t9 tk9) | refine rshift_int hs0 ?_
    k_with "binaryOp LShift int int" => refine lshift_int_small hs0 (by omega) (by omega) ?_
    k_with "call ref" => first
      | ((with_reducible show wpAny _ _ (call _ [Value.int (Builtin.bitXor _ _) _, _, _]) _ _ _); refine IH ((lo + hi) / 2 - lo).toNat (by omega) _ _ _ _ _ _ _ _ _ _ _ _ _ _ _ _ _ _ _ _ _ _ _ _ _ _ (by omega) e1 (by omega) (by omega) e4 q1 q2 q3 hi' (by k_asm) (by k_asm) (by k_asm) (by k_asm) (by k_asm) (by first | exact rfl | assumption) (by ktr_room) (by ktr_units) ?_; intro h9 tk9 vs9 seg9 hi9 sl9 sv9 sb9 F9 N9; (try dsimp only); (try k_fold))
      | ((with_reducible show wpAny _ _ (call _ [Value.int (Int.fdiv _ _) _, _, _]) _ _ _); refine IH (hi - (lo + hi) / 2).toNat (by omega) _ _ _ _ _ _ _ _ _ _ _ _ _ _ _ _ _ _ _ _ _ _ _ vs9 (ds.take lo.toNat ++ seg9 ++ ds.drop ((lo + hi) / 2).toNat) _ (by omega) (by omega) (by omega) (by rw [len_mid (by omega) (by omega) (by omega) (by assumption)]; omega) (by rw [len_mid (by omega) (by omega) (by omega) (by assumption)]; omega) q4 q5 q6 (by assumption) (by k_asm) (by k_asm) (by k_asm) (by k_asm) (by k_asm) (by first | exact rfl | assumption) (by ktr_room) (by ktr_units) ?_; intro h9 tk9 vs9 seg8 hi8 sl8 sv8 sb8 F9 N9; (try dsimp only); (try k_fold))
    k_with "eval Name" => first
      | ((with_reducible show wpAny _ _ (eval (Expr.Name (Str.ofString "n") _) _) _ _ _); k_here; k_dflt (refine' nameX_F ?N ?c ?m ?d ?_ ?a ?b; (case a => rfl); (case b => rfl); (case N => k_asm); (case c => exact l5); (case m => exact .tail _ m5); (case d => exact d5)))
      | ((with_reducible show wpAny _ _ (eval (Expr.Name (Str.ofString "inner") _) _) _ _ _); k_here; k_dflt (refine' nameX_F ?N ?c ?m ?d ?_ ?a ?b; (case a => rfl); (case b => rfl); (case N => k_asm); (case c => exact l3); (case m => exact .tail _ m3); (case d => exact d3)))
      | ((with_reducible show wpAny _ _ (eval (Expr.Name (Str.ofString "a_digits") _) _) _ _ _); k_here; k_dflt (refine' nameX_F ?N ?c ?m ?d ?_ ?a ?b; (case a => rfl); (case b => rfl); (case N => k_asm); (case c => exact l4); (case m => exact .tail _ m4); (case d => exact d4)))
    k_steps
    · refine hret _ _ _ [x] (by rw [← list_one e1 (by assumption) e3]; exact hi'') (by simp; omega) (by simp [valL]) (fun d hd => ?_) (by assumption) (by assumption)
      rw [List.mem_singleton.mp hd]
      refine ⟨e5, ?_⟩
      rw [show k = 1 by omega, Nat.mul_one] at e6
      exact e6
    · refine hret _ _ _ (seg9 ++ seg8) (by rw [← list_join e1 (by omega) (by omega) e3 sl9]; exact hi8) (by rw [List.length_append]; omega) (by rw [valL_append, sl9, sv9, sv8]; exact q7) (fun d hd => ?_) (by assumption) (by assumption)
      rcases List.mem_append.mp hd with h | h
      · exact sb9 d h
      · exact sb8 d h
end Mine
namespace Mine
local macro_rules | `(tactic| omega) => `(tactic| lia)
def seg (ds : List Int) (lo hi : Int) : List Int := (ds.drop lo.toNat).take (hi - lo).toNat
theorem seg_split {ds : List Int} {lo mid hi : Int} (h0 : 0 ≤ lo) (h1 : lo ≤ mid) (h2 : mid ≤ hi) : seg ds lo hi = seg ds lo mid ++ seg ds mid hi := by
  w_top off
  unfold seg
  rw [show (hi - lo).toNat = (mid - lo).toNat + (hi - mid).toNat by omega, List.take_add, List.drop_drop]
  congr 3; omega
theorem seg_len {ds : List Int} {lo hi : Int} (h0 : 0 ≤ lo) (h1 : lo ≤ hi) (h2 : hi ≤ ds.length) : (seg ds lo hi).length = (hi - lo).toNat := by
  w_top off
  unfold seg
  rw [List.length_take, List.length_drop]; omega
theorem seg_one {ds : List Int} {lo hi : Int} (h0 : 0 ≤ lo) (h1 : lo + 1 = hi) (h2 : hi ≤ ds.length) : seg ds lo hi = [ds.getD lo.toNat 0] := by
  w_top off
  unfold seg
  rw [show (hi - lo).toNat = 1 by omega, List.drop_eq_getElem_cons (show lo.toNat < ds.length by omega), List.take_succ_cons, List.take_zero]
  simp only [List.getD, List.getElem?_eq_getElem (show lo.toNat < ds.length by omega), Option.getD_some]
theorem valL_bound (n : Nat) : ∀ {ds : List Int}, (∀ d ∈ ds, 0 ≤ d ∧ d < 2 ^ n) → 0 ≤ valL n ds ∧ valL n ds < 2 ^ (n * ds.length)
  | [], _ => by simp [valL]
  | d :: r, h => by
    have h1 := h d (.head _)
    have h2 := valL_bound n (ds := r) fun x hx => h x (.tail _ hx)
    have hp : (0 : Int) < 2 ^ n := Int.pow_pos (by omega)
    simp only [valL, List.length_cons, Nat.mul_add, Nat.mul_one]
    rw [Nat.add_comm, Int.pow_add]
    have h3 : 0 ≤ 2 ^ n * valL n r := Int.mul_nonneg (Int.le_of_lt hp) h2.1
    have h4 : 2 ^ n * valL n r ≤ 2 ^ n * (2 ^ (n * r.length) - 1) := Int.mul_le_mul_of_nonneg_left (by omega) (Int.le_of_lt hp)
    rw [Int.mul_sub, Int.mul_one] at h4
    omega
theorem seg_mem {ds : List Int} {lo hi d : Int} (h : d ∈ seg ds lo hi) : d ∈ ds := List.mem_of_mem_drop (List.mem_of_mem_take h)
theorem valL_small {n : Nat} {ds : List Int} {lo hi : Int} (h : ∀ d ∈ ds, 0 ≤ d ∧ d < 2 ^ n) (hb : n * ds.length ≤ 40) : (valL n (seg ds lo hi)).natAbs < 2 ^ 64 := by
  w_top off
  have h1 := valL_bound n (ds := seg ds lo hi) fun d hd => h d (seg_mem hd)
  have h2 : (seg ds lo hi).length ≤ ds.length := by unfold seg; rw [List.length_take, List.length_drop]; omega
  have h3 : n * (seg ds lo hi).length ≤ 40 := Nat.le_trans (Nat.mul_le_mul_left _ h2) hb
  have h4 : (2 : Int) ^ (n * (seg ds lo hi).length) ≤ 2 ^ 40 := by exact_mod_cast Nat.pow_le_pow_right (n := 2) (by omega) h3
  have h5 : (2 : Int) ^ 40 = 1099511627776 := by decide
  omega
theorem shift_nat {lo hi n : Int} (h : lo ≤ hi) (hn : 0 ≤ n) : (((lo + hi) / 2 - lo) * n).toNat = n.toNat * ((lo + hi) / 2 - lo).toNat := by
  w_top off
  obtain ⟨a, ha⟩ : ∃ a : Nat, (lo + hi) / 2 - lo = (a : Int) := ⟨((lo + hi) / 2 - lo).toNat, by omega⟩
  obtain ⟨b, rfl⟩ : ∃ b : Nat, n = (b : Int) := ⟨n.toNat, by omega⟩
  rw [ha, ← Int.natCast_mul, Int.toNat_natCast, Int.toNat_natCast, Int.toNat_natCast, Nat.mul_comm]
theorem join_val {ds : List Int} {lo hi n : Int} (h0 : 0 ≤ lo) (h1 : lo < hi) (h2 : hi ≤ ds.length) (hn : 0 ≤ n) :
    valL n.toNat (seg ds ((lo + hi) / 2) hi) * 2 ^ (((lo + hi) / 2 - lo) * n).toNat + valL n.toNat (seg ds lo ((lo + hi) / 2)) = valL n.toNat (seg ds lo hi) := by
  w_top off
  rw [seg_split (ds := ds) (lo := lo) (mid := (lo + hi) / 2) (hi := hi) h0 (by omega) (by omega), valL_append, seg_len h0 (by omega) (by omega), shift_nat (by omega) hn, Int.mul_comm]
  omega
abbrev InnerD (w : World) (loose : List Str) (mean : ExcName → Option Value) (mg mb : Str → Option Value) (f : Addr) (n : Int) (ds : List Int) (Led : List (Addr × Obj)) (k : Nat) : Prop :=
  ∀ (lo hi : Int) (t2 t3 : Tok) (dp un : Nat) (gd : Option (List Code)) (cn : Str) (cs : Scope) (a : Addr) (ccd : Value) (cl : List (Str × Addr)) (outer : List Env) (A₀ : Around) (base h₀ : Heap) (L : Addr) (m : Str → Option Value) (s : Shared) (Q E : Value → Shared → Prop),
    hi - lo = (k : Int) → 0 ≤ lo → 1 ≤ k → hi ≤ (ds.length : Int) →
    Below A₀ base outer h₀ → Fr h₀ L s.heap m → (Mine.hd.heap_39 w.params).In h₀ → News h₀ L s.heap Led → Top topProg loose mean mg mb h₀ → cs.kind = .function →
    dp + k + 2 < recursionLimit → un + 10 * (k + 2) < cLine →
    (∀ h' tk' t', Fr h₀ L h' m → News h₀ L h' Led → Q (.int (valL n.toNat (seg ds lo hi)) t') { s with heap := h', toks := tk' }) →
      wpAny (model PySem.Challenge.rw_rs0142_01.row.prog w) (ktrTop dp un gd cn cs L a ccd cl outer) (call (.ref f) [.int lo t2, .int hi t3]) Q E s
local macro_rules | `(tactic| walk_at $s:str) => `(tactic| k_extra $s)
local macro_rules | `(tactic| walk_at "ite") => `(tactic| first | refine ite_f (by with_reducible assumption) ?_ | refine ite_t (by with_reducible assumption) ?_ | refine ite_dec_f (by omega) ?_ | refine ite_dec_t (by omega) ?_)
set_option maxRecDepth 100000 in
set_option maxHeartbeats 16000000 in
theorem innerD_con (w : World) (loose mean mg mb) (name qual : Str) (params : Arguments) (body : List Stmt) (scope : Scope) (pos : Pos) (hnest : nestIn (bodyAt (Mine.hd.heap_39 w.params) 74) = some (name, params, body, scope, pos))
    (f c' cI cA cN A : Addr) (clos : List (Str × Addr)) (doc pm ctv : Value) (oI oA oN oc : Obj) (vs : Array Value) (t tn : Tok) (n : Int) (ws : List Value) (ds : List Int) (kk : Nat) (Led : List (Addr × Obj))
    (m1 : (f, fnMade name qual params body scope clos doc pm c' ctv) ∈ Led) (m2 : (c', oc) ∈ Led) (d2 : oc.data = .fields vs) (v2 : vs[1]? = some (.str qual t))
    (m3 : (cI, oI) ∈ Led) (d3 : oI.data = .cell (some (.ref f))) (l3 : clos.lookup (Str.ofString "inner") = some cI)
    (m4 : (cA, oA) ∈ Led) (d4 : oA.data = .cell (some (.ref A))) (l4 : clos.lookup (Str.ofString "digits") = some cA)
    (m5 : (cN, oN) ∈ Led) (d5 : oN.data = .cell (some (.int n tn))) (l5 : clos.lookup (Str.ofString "n") = some cN)
    (mA : (A, listOf ws.toArray kk) ∈ Led) (hi' : IntsAre ws ds) (hds : ∀ d ∈ ds, 0 ≤ d ∧ d < 2 ^ n.toNat) (hb : n.toNat * ds.length ≤ 40) (hn : 2 ≤ n) (hn' : n < 5) : ∀ k, InnerD w loose mean mg mb f n ds Led k := by
  w_top off
  have hlen : ds.length ≤ 20 := by
    have : 2 * ds.length ≤ n.toNat * ds.length := Nat.mul_le_mul_right _ (by omega)
    omega
  cases hnest
  intro k
  induction k using Nat.strongRecOn with
  | _ k IH =>
    unfold InnerD
    k_fill
    intro lo hi t2 t3 dp un gd cn cs a ccd cl outer A₀ base h₀ L m s Q E e0 e1 e2 e3 B F X N T hk hd hu hret
    have hs0 : 0 ≤ ((lo + hi) / 2 - lo) * n := Int.mul_nonneg (by omega) (by omega)
    have hs1 : ((lo + hi) / 2 - lo) * n ≤ 500 := Int.le_trans (Int.mul_le_mul (show _ ≤ (100 : Int) by omega) (show n ≤ 5 by omega) (by omega) (by omega)) (by decide)
    refine wpAny_call ?_
    k_with_none
    have fa : ∀ {h₀ h : Heap} {L : Addr}, News h₀ L h Led → FnAt f h := fun N => FnAt.of N m1
    refine' code_nest (binds := [(Str.ofString "L", .int lo t2), (Str.ofString "R", .int hi t3)]) ?k1 ?k2 ?k3 ?k4 ?k5 ?kA ?kF ?kK ?k6 ?k7 ?k8 ?k9 ?kB ?_ ?c2 ?c3 ?c4 ?c5
    (case kA => exact rfl)
    (case kF => exact rfl)
    (case kK => first | exact rfl | assumption)
    (case k1 => k_asm)
    (case k2 => k_asm)
    (case k3 => k_asm)
    (case k4 => k_asm)
    (case k5 => k_asm)
    (case k6 => exact m1)
    (case k7 => exact codeRec_news (by k_asm) m2 d2 v2)
    (case k8 => ktr_room)
    (case k9 => exact BindsTo.of_eq rfl)
    (case c5 => decide)
    (case kB => exact locs rfl)
    (case c2 => exact rfl)
    (case c3 => exact rfl)
    (case c4 => exact rfl)
    k_whole
    intro g' L' h' FG' F' N' B' X' T'
    (try dsimp only)
    (try k_lift B')
    (try k_fold)
    clear m1
    k_with "subscriptTail" => (k_here; k_dflt (refine' ksa_sub ?k1 ?k2 ?k3 ?k4 ?k5 ?k6 ?_ ?k7; (case k1 => k_asm); (case k2 => exact mA); (case k3 => exact hi'); (case k4 => omega); (case k5 => omega); (case k6 => omega); (case k7 => with_unfolding_all rfl)); intro tS)
    k_with "callWith ref" => (k_here; k_dflt (refine' callWith_F (fa (by assumption)) ?_))
    k_with "FnAt" => exact fa (by assumption)
    k_with "binaryOp RShift int int" => ((with_reducible show wpAny _ _ (binaryOp _ _ (Value.int 1 _)) _ _ _); refine rsh_one (by omega) ?_; intro t9 tk9)
    k_with "binaryOp LShift int int" => refine lshift_int_small hs0 (by omega) (valL_small hds hb) ?_
    k_with "call ref" => first
      | ((with_reducible show wpAny _ _ (call _ [Value.int (HDiv.hDiv _ _) _, _]) _ _ _); refine IH (hi - (lo + hi) / 2).toNat (by omega) _ _ _ _ _ _ _ _ _ _ _ _ _ _ _ _ _ _ _ _ _ (by omega) (by omega) (by omega) e3 (by k_asm) (by k_asm) (by k_asm) (by k_asm) (by k_asm) (by first | exact rfl | assumption) (by ktr_room) (by ktr_units) ?_; intro h9 tk9 t9 F9 N9; (try dsimp only); (try k_fold))
      | ((with_reducible show wpAny _ _ (call _ [_, Value.int (HDiv.hDiv _ _) _]) _ _ _); refine IH ((lo + hi) / 2 - lo).toNat (by omega) _ _ _ _ _ _ _ _ _ _ _ _ _ _ _ _ _ _ _ _ _ (by omega) e1 (by omega) (by omega) (by k_asm) (by k_asm) (by k_asm) (by k_asm) (by k_asm) (by first | exact rfl | assumption) (by ktr_room) (by ktr_units) ?_; intro h9 tk9 t9 F9 N9; (try dsimp only); (try k_fold))
    k_with "eval Name" => first
      | ((with_reducible show wpAny _ _ (eval (Expr.Name (Str.ofString "n") _) _) _ _ _); k_here; k_dflt (refine' nameX_F ?N ?c ?m ?d ?_ ?a ?b; (case a => rfl); (case b => rfl); (case N => k_asm); (case c => exact l5); (case m => exact m5); (case d => exact d5)))
      | ((with_reducible show wpAny _ _ (eval (Expr.Name (Str.ofString "inner") _) _) _ _ _); k_here; k_dflt (refine' nameX_F ?N ?c ?m ?d ?_ ?a ?b; (case a => rfl); (case b => rfl); (case N => k_asm); (case c => exact l3); (case m => exact m3); (case d => exact d3)))
      | ((with_reducible show wpAny _ _ (eval (Expr.Name (Str.ofString "digits") _) _) _ _ _); k_here; k_dflt (refine' nameX_F ?N ?c ?m ?d ?_ ?a ?b; (case a => rfl); (case b => rfl); (case N => k_asm); (case c => exact l4); (case m => exact m4); (case d => exact d4)))
    k_steps
    · have q := hret h' tk tS (by assumption) (by assumption)
      rw [seg_one e1 (by assumption) e3] at q
      simp only [valL, Int.mul_zero, Int.add_zero] at q
      exact q
    · have q := join_val (ds := ds) e1 (by omega) e3 (show 0 ≤ n by omega)
      rw [q]
      exact hret _ _ _ (by assumption) (by assumption)
end Mine
namespace Mine
local macro_rules | `(tactic| walk_at "no such 0") => `(tactic| skip)
local macro_rules | `(tactic| walk_at "no such 1") => `(tactic| skip)
local macro_rules | `(tactic| walk_at "no such 2") => `(tactic| skip)
local macro_rules | `(tactic| walk_at "no such 3") => `(tactic| skip)
local macro_rules | `(tactic| walk_at "no such 4") => `(tactic| skip)
local macro_rules | `(tactic| walk_at "no such 5") => `(tactic| skip)
local macro_rules | `(tactic| walk_at "no such 6") => `(tactic| skip)
local macro_rules | `(tactic| walk_at "no such 7") => `(tactic| skip)
local macro_rules | `(tactic| walk_at "no such 8") => `(tactic| skip)
local macro_rules | `(tactic| omega) => `(tactic| lia)
local macro_rules | `(tactic| walk_at $s:str) => `(tactic| k_extra $s)
local macro_rules | `(tactic| walk_at "ite") => `(tactic| first | refine ite_f (by with_reducible assumption) ?_ | refine ite_t (by with_reducible assumption) ?_ | refine ite_dec_f (by omega) ?_ | refine ite_dec_t (by omega) ?_)
local macro_rules | `(tactic| walk_at "my off") => `(tactic| first | with_reducible assumption | exact allLt_ne1 (by assumption) (by omega) | exact List.forall_mem_nil _ | (refine List.forall_mem_cons.mpr ⟨?_, ?_⟩; ((show @Ne Nat _ _); (try dsimp only); omega); walk_at "my off"))
local macro_rules | `(tactic| walk_at "my upd") => `(tactic| first | (refine' UpdF.head ?u0; (case u0 => walk_at "my off")) | (refine' UpdF.tail ?u1 ?u2; (case u1 => ((show @Ne Nat _ _); (try dsimp only); omega)); (case u2 => walk_at "my upd")))
/-- a code object's table with the code of the one def inside -/
def TabIn (qual : Str) (ln cl : Nat) (p : Array Value) (Y : List (Addr × Obj)) : Prop :=
  ∃ c oc vs t, p = #[rawInt ln, rawInt cl, .ref c] ∧ (c, oc) ∈ Y ∧ oc.data = .fields vs ∧ vs[1]? = some (.str qual t)
/-- it is empty, or holds that code -/
def Tab (qual : Str) (ln cl : Nat) (p : Array Value) (Y : List (Addr × Obj)) : Prop := p = #[] ∨ TabIn qual ln cl p Y
theorem news_rot {h₀ h : Heap} {L : Addr} {a b c : Addr × Obj} {r : List (Addr × Obj)} (N : News h₀ L h (a :: b :: c :: r)) : News h₀ L h (c :: a :: b :: r) := fun p hp => by
  rcases List.mem_cons.mp hp with rfl | hp
  · exact N _ (.tail _ (.tail _ (.head _)))
  rcases List.mem_cons.mp hp with rfl | hp
  · exact N _ (.head _)
  rcases List.mem_cons.mp hp with rfl | hp
  · exact N _ (.tail _ (.head _))
  · exact N _ (.tail _ (.tail _ (.tail _ hp)))
theorem sub_tail {α : Type} {a l : List α} {c : α} (h : ∀ p ∈ a, p ∈ l) : ∀ p ∈ a, p ∈ c :: l := fun p hp => .tail _ (h p hp)
theorem sub_refl {α : Type} {a : List α} : ∀ p ∈ a, p ∈ a := fun _ hp => hp
local macro_rules | `(tactic| walk_at "my sub") => `(tactic| first | exact sub_refl | exact List.forall_mem_nil _ | (refine List.forall_mem_cons.mpr ⟨?_, ?_⟩; k_mem; walk_at "my sub") | (refine sub_tail ?_; walk_at "my sub"))
theorem flat_len (d : Nat) : (List.replicate d [(0 : Int)]).flatten.length = d := by simp
theorem flat_zero (d : Nat) : ∀ x ∈ (List.replicate d [(0 : Int)]).flatten, x = 0 := by simp
theorem valL_zero (n : Nat) : ∀ {ds : List Int}, (∀ x ∈ ds, x = 0) → valL n ds = 0
  | [], _ => rfl
  | d :: r, h => by simp only [valL]; rw [h d (.head _), valL_zero n (ds := r) fun x hx => h x (.tail _ hx)]; simp
theorem seg_whole {ds seg : List Int} {c : Nat} (h : ds.length = c) : ds.take (0 : Int).toNat ++ seg ++ ds.drop ((c : Nat) : Int).toNat = seg := by simp [h]
theorem bits_facts {x n d : Int} (h0 : 0 ≤ x) (h1 : x < 65536) (hn : 2 ≤ n) (hn' : n < 5) (hd : d = ((Builtin.Int.intBits x : Int) + n - 1).fdiv n) :
    0 ≤ d ∧ d ≤ 20 ∧ (x ≠ 0 → 1 ≤ d) ∧ x < 2 ^ (n.toNat * d.toNat) ∧ n.toNat * d.toNat ≤ 40 := by
  w_top off
  have hz : Builtin.Int.intBits x ≤ 16 := intBits_le_iff.mpr (by omega)
  have hb : x.natAbs < 2 ^ Builtin.Int.intBits x := intBits_le_iff.mp (Nat.le_refl _)
  rw [Int.fdiv_eq_ediv_of_nonneg _ (by omega)] at hd
  obtain ⟨b, hb'⟩ : ∃ b : Nat, b = Builtin.Int.intBits x := ⟨_, rfl⟩
  rw [← hb'] at hd hb hz
  have hd0 : 0 ≤ d := by rw [hd]; exact Int.ediv_nonneg (by omega) (by omega)
  have hn3 : n = 2 ∨ n = 3 ∨ n = 4 := by omega
  have hm : (b : Int) ≤ n * d ∧ n * d ≤ 40 ∧ d ≤ 20 ∧ (b ≠ 0 → 1 ≤ d) := by rcases hn3 with rfl | rfl | rfl <;> omega
  have hm2 : b ≤ n.toNat * d.toNat ∧ n.toNat * d.toNat ≤ 40 := by
    obtain ⟨e, rfl⟩ : ∃ e : Nat, d = (e : Int) := ⟨d.toNat, by omega⟩
    obtain ⟨k, rfl⟩ : ∃ k : Nat, n = (k : Int) := ⟨n.toNat, by omega⟩
    rw [← Int.natCast_mul] at hm
    simp only [Int.toNat_natCast]; omega
  refine ⟨hd0, hm.2.2.1, fun hx => hm.2.2.2 ?_, ?_, hm2.2⟩
  · intro q
    rw [q] at hb
    omega
  · have h4 : (2 : Int) ^ b ≤ 2 ^ (n.toNat * d.toNat) := by exact_mod_cast Nat.pow_le_pow_right (n := 2) (by omega) hm2.1
    have h5 : ((x.natAbs : Nat) : Int) < ((2 ^ b : Nat) : Int) := by exact_mod_cast hb
    rw [Int.natCast_pow] at h5
    have h6 : ((x.natAbs : Nat) : Int) = x := by omega
    rw [h6] at h5
    exact Int.lt_of_lt_of_le h5 h4
theorem news_rot2 {h₀ h : Heap} {L : Addr} {a b : Addr × Obj} {r : List (Addr × Obj)} (N : News h₀ L h (a :: b :: r)) : News h₀ L h (b :: a :: r) := fun p hp => by
  rcases List.mem_cons.mp hp with rfl | hp
  · exact N _ (.tail _ (.head _))
  rcases List.mem_cons.mp hp with rfl | hp
  · exact N _ (.head _)
  · exact N _ (.tail _ (.tail _ hp))
theorem gLx {l l' : List Int} {n d c : Nat} (h : l'.length = c) (e : l.length = c) (h' : l.length = d) (g : n * d ≤ 40) : n * l'.length ≤ 40 := by
  w_top off
  rw [h, ← e, h']; exact g
theorem g3x {x : Int} {l : List Int} {n d c : Nat} (h : l.length = c) (h' : l.length = d) (g : x < 2 ^ (n * d)) : x < 2 ^ (n * c) := by
  w_top off
  rw [← h, h']; exact g
theorem gt_one {rest : List (Addr × Obj)} {o oc : Obj} {D c L : Nat} (h : 62 < L ∧ AllLt L rest) (hL : L ≤ D) (hc : D < c) : ∀ r ∈ ((62 : Addr), o) :: rest, r.1 < D ∧ ∀ q ∈ [((c : Addr), oc)], r.1 < q.1 := by
  w_top off
  intro r hr
  have : r.1 < D := by
    rcases List.mem_cons.mp hr with rfl | hr
    · exact Nat.lt_of_lt_of_le h.1 hL
    · exact Nat.lt_of_lt_of_le (allLt_all h.2 r hr) hL
  refine ⟨this, fun q hq => ?_⟩
  rw [List.mem_singleton.mp hq]
  exact Nat.lt_trans this hc
theorem gt_nil {rest : List (Addr × Obj)} {o : Obj} {D L : Nat} (h : 62 < L ∧ AllLt L rest) (hL : L ≤ D) : ∀ r ∈ ((62 : Addr), o) :: rest, r.1 < D ∧ ∀ q ∈ ([] : List (Addr × Obj)), r.1 < q.1 := by
  w_top off
  intro r hr
  refine ⟨?_, fun q hq => absurd hq List.not_mem_nil⟩
  rcases List.mem_cons.mp hr with rfl | hr
  · exact Nat.lt_of_lt_of_le h.1 hL
  · exact Nat.lt_of_lt_of_le (allLt_all h.2 r hr) hL
local macro_rules | `(tactic| walk_at "my mem0") => `(tactic| first | assumption | (refine List.Mem.tail _ ?_; walk_at "my mem0"))
abbrev I2dC (w : World) (loose : List Str) (mean : ExcName → Option Value) (mg mb : Str → Option Value) (x n : Int) : Prop :=
  ∀ (t u : Tok) (dp un : Nat) (gd : Option (List Code)) (cn : Str) (cs : Scope) (a : Addr) (ccd : Value) (cl : List (Str × Addr)) (outer : List Env) (A₀ : Around) (base h₀ : Heap) (L : Addr) (m : Str → Option Value) (p : Array Value) (rest : List (Addr × Obj)) (s : Shared) (Q E : Value → Shared → Prop),
    Below A₀ base outer h₀ → Fr h₀ L s.heap m → (Mine.hd.heap_39 w.params).In h₀ → News h₀ L s.heap ((62, tabObj p) :: rest) → Top topProg loose mean mg mb h₀ → cs.kind = .function →
    CodeHd base 66 62 → (∀ q ∈ rest, q.1 ≠ 62) → Tab (Str.ofString "_int2digits.<locals>.inner") 54 4 p rest → dp + 30 < recursionLimit → un + 400 < cLine →
    (∀ h' tk' A vs ds kk p' more, IntsAre vs ds → valL n.toNat ds = x → (∀ d ∈ ds, 0 ≤ d ∧ d < 2 ^ n.toNat) → n.toNat * ds.length ≤ 40 → Fr h₀ L h' m → News h₀ L h' ((A, listOf vs.toArray kk) :: (62, tabObj p') :: (more ++ rest)) →
      (p' = p ∨ TabIn (Str.ofString "_int2digits.<locals>.inner") 54 4 p' more) → (∀ q ∈ more, q.1 ≠ A) → (∀ r ∈ (62, tabObj p) :: rest, r.1 < A ∧ ∀ q ∈ more, r.1 < q.1) → Q (.ref A) { s with heap := h', toks := tk' }) →
      wpAny (model PySem.Challenge.rw_rs0142_01.row.prog w) (ktrTop dp un gd cn cs L a ccd cl outer) (call (.ref 67) [.int x t, .int n u]) Q E s
set_option maxRecDepth 100000 in
set_option maxHeartbeats 16000000 in
theorem i2d_con (w : World) (loose mean mg mb) (x n : Int) (h0 : 0 ≤ x) (h1 : x < 65536) (hn : 2 ≤ n) (hn' : n < 5) : I2dC w loose mean mg mb x n := by
  w_top off
  have hz : Builtin.Int.intBits x ≤ 16 := intBits_le_iff.mpr (by omega)
  have hz0 : 0 ≤ ((Builtin.Int.intBits x : Int) + n - 1).fdiv n := by rw [Int.fdiv_eq_ediv_of_nonneg _ (by omega)]; exact Int.ediv_nonneg (by omega) (by omega)
  have hz1 : ((Builtin.Int.intBits x : Int) + n - 1).fdiv n ≤ 20 := by rw [Int.fdiv_eq_ediv_of_nonneg _ (by omega)]; exact Int.le_trans (Int.ediv_le_self _ (by omega)) (by omega)
  obtain ⟨g0, g1, g2, g3, g4⟩ := bits_facts h0 h1 hn hn' rfl
  have g5 := flat_len (((Builtin.Int.intBits x : Int) + n - 1).fdiv n).toNat
  unfold I2dC
  k_fill
  intro t u dp un gd cn cs a ccd cl outer A₀ base h₀ L m p rest s Q E B F X N T hk C r62 hT hd hu hret
  refine wpAny_call ?_
  k_with_none
  refine' code_defC (binds := [(Str.ofString "a", .int x t), (Str.ofString "n", .int n u)]) ?k1 ?k2 ?k3 ?k4 ?k5 ?kA ?kF ?kK ?k6 ?k7 ?k8 ?k9 ?kB ?kD ?_ ?c2 ?c3 ?c4
  (case kA => exact rfl)
  (case kF => exact rfl)
  (case kK => assumption)
  (case k1 => k_asm)
  (case k2 => k_asm)
  (case k3 => k_asm)
  (case k4 => k_asm)
  (case k5 => k_asm)
  (case k6 => k_is)
  (case k7 => k_is)
  (case k8 => ktr_room)
  (case k9 => exact BindsTo.of_eq rfl)
  (case kB => exact rfl)
  (case kD => decide +kernel)
  (case c2 => exact rfl)
  (case c3 => exact rfl)
  (case c4 => exact rfl)
  k_whole
  intro g' L' h' tk' cells' FG' F' N' Y' B' X' T' l1
  (try k_lt l1)
  k_cells Y'
  (try simp only [List.cons_append, List.nil_append] at N')
  (try dsimp only)
  (try k_lift B')
  (try k_fold)
  k_with "storeName" => (k_here; k_dflt (refine' storeX_C ?F ?N ?c ?U ?d ?_ ?a ?b); (case a => rfl); (case b => rfl); (case F => k_asm); (case N => k_asm); (case c => rfl); (case U => walk_at "my upd"); (case d => k_asm); k_whole; intro h' o' F' N' d'; (try dsimp only at N'))
  rcases hT with rfl | ⟨c', oc', vs', t', rfl, d0', d1', d2'⟩
  · k_with_none
    k_with "storeName" => (k_here; k_dflt (refine' storeX_C ?F ?N ?c ?U ?d ?_ ?a ?b); (case a => rfl); (case b => rfl); (case F => k_asm); (case N => k_asm); (case c => rfl); (case U => walk_at "my upd"); (case d => k_asm); k_whole; intro h' o' F' N' d'; (try dsimp only at N'))
    k_with "exec FunctionDef" => (k_here; k_dflt (refine' nestDef_K ?d0 ?k0 ?a0 ?_; (case d0 => exact rfl); (case k0 => exact rfl); (case a0 => exact rfl)); k_dflt (refine' nest_K ?F ?N ?T ?C ?cd ?U ?t ?n ?cl ?_); (case F => k_asm); (case N => k_asm); (case T => k_asm); (case cd => exact rfl); (case C => exact CodeHd.keeps C (Below.stays (by assumption))); (case U => walk_at "my upd"); (case t => kn_triples); (case n => kn_among); (case cl => exact rfl); intro f' c' oc' vs' t' ct' dc' h' tk' F' N' d1' d2' l1 l2; (try dsimp only at N'); (try k_lt l1); (try k_lt2 l2))
    k_steps
    · skip
      k_here
      (rename News _ _ _ _ => kN)
      (rename IntsAre _ _ => kI)
      refine' inner_con w loose mean mg mb _ _ _ _ _ _ ?hnz _ c' _ _ _ _ _ _ _ _ _ _ _ oc' vs' t' _ n _ ?m1z ?m2z ?d2z ?v2z ?m3z ?d3z ?l3z ?m4z ?d4z ?l4z ?m5z ?d5z ?l5z ?offz hn hn' _ x 0 _ _ _ _ _ _ _ _ _ _ _ _ _ _ _ _ _ _ _ _ _ _ _ _ (Int.sub_zero _) (Int.le_refl _) ?r1z ?r2z ?r3z h0 ?r4z h1 kI ?Bz ?Fz ?Xz (news_rot kN) ?Tz ?hkz ?dpz ?unz ?retz
      (case hnz => exact rfl)
      (case m1z => k_mem)
      (case l3z => exact rfl)
      (case l4z => exact rfl)
      (case l5z => exact rfl)
      (case m2z => k_mem)
      (case d2z => exact d1')
      (case v2z => exact d2')
      (case m3z => k_mem)
      (case m4z => k_mem)
      (case m5z => k_mem)
      (case d3z => k_asm)
      (case d4z => k_asm)
      (case d5z => k_asm)
      (case offz => walk_at "my off")
      (case r1z => have q := g2 (by assumption); omega)
      (case r2z => omega)
      (case r3z => omega)
      (case r4z => exact g3x (by assumption) g5 g3)
      (case Bz => k_asm)
      (case Fz => k_asm)
      (case Xz => k_asm)
      (case Tz => k_asm)
      (case hkz => first | exact rfl | assumption)
      (case dpz => ktr_room)
      (case unz => ktr_units)
      intro h9 tk9 vs9 seg9 hi9 sl9 sv9 sb9 F9 N9
      rw [seg_whole (by assumption)] at hi9
      (try dsimp only)
      (try k_fold)
      k_steps
      (rename News _ _ _ _ => kN)
      refine hret _ _ _ vs9 seg9 0 (#[] ++ #[rawInt ((54 : Nat) : Int), rawInt ((4 : Nat) : Int), .ref c']) [(c', oc')] hi9 sv9 sb9 ?_ (by assumption) (cb_drop kN ?_) (Or.inr ⟨c', oc', vs', _, by simp, .head _, d1', d2'⟩) ?_ ?_
      · exact gLx sl9 (by assumption) g5 g4
      · walk_at "my sub"
      · walk_at "my off"
      · exact gt_one (by assumption) (by omega) (by omega)
    · skip
      (rename News _ _ _ _ => kN)
      (rename IntsAre _ _ => kI)
      refine hret _ _ _ _ _ 0 (#[] ++ #[rawInt ((54 : Nat) : Int), rawInt ((4 : Nat) : Int), .ref c']) [(c', oc')] kI ((valL_zero _ (flat_zero _)).trans (by omega)) (fun d hd => by rw [flat_zero _ d hd]; exact ⟨Int.le_refl _, Int.pow_pos (by omega)⟩) ?_ (by assumption) (cb_drop kN ?_) (Or.inr ⟨c', oc', vs', _, by simp, .head _, d1', d2'⟩) ?_ ?_
      · rw [g5]; exact g4
      · walk_at "my sub"
      · walk_at "my off"
      · exact gt_one (by assumption) (by omega) (by omega)
  · k_with_none
    k_with "storeName" => (k_here; k_dflt (refine' storeX_C ?F ?N ?c ?U ?d ?_ ?a ?b); (case a => rfl); (case b => rfl); (case F => k_asm); (case N => k_asm); (case c => rfl); (case U => walk_at "my upd"); (case d => k_asm); k_whole; intro h' o' F' N' d'; (try dsimp only at N'))
    k_with "exec FunctionDef" => (k_here; k_dflt (refine' nestDef_K ?d0 ?k0 ?a0 ?_; (case d0 => exact rfl); (case k0 => exact rfl); (case a0 => exact rfl)); k_dflt (refine' nestHit_K ?F ?N ?T ?C ?cd ?mem ?t ?n ?cl ?_); (case F => k_asm); (case N => k_asm); (case T => k_asm); (case cd => exact rfl); (case C => exact CodeHd.keeps C (Below.stays (by assumption))); (case mem => k_mem); (case t => kn_triples); (case n => kn_hit); (case cl => exact rfl); intro f' ct' dc' h' tk' F' N' l1; (try dsimp only at N'); (try k_lt l1))
    k_steps
    · skip
      k_here
      (rename News _ _ _ _ => kN)
      (rename IntsAre _ _ => kI)
      refine' inner_con w loose mean mg mb _ _ _ _ _ _ ?hny _ c' _ _ _ _ _ _ _ _ _ _ _ oc' vs' t' _ n _ ?m1y ?m2y ?d2y ?v2y ?m3y ?d3y ?l3y ?m4y ?d4y ?l4y ?m5y ?d5y ?l5y ?offy hn hn' _ x 0 _ _ _ _ _ _ _ _ _ _ _ _ _ _ _ _ _ _ _ _ _ _ _ _ (Int.sub_zero _) (Int.le_refl _) ?r1y ?r2y ?r3y h0 ?r4y h1 kI ?By ?Fy ?Xy (news_rot2 kN) ?Ty ?hky ?dpy ?uny ?rety
      (case hny => exact rfl)
      (case m1y => k_mem)
      (case l3y => exact rfl)
      (case l4y => exact rfl)
      (case l5y => exact rfl)
      (case m2y => walk_at "my mem0")
      (case d2y => exact d1')
      (case v2y => exact d2')
      (case m3y => k_mem)
      (case m4y => k_mem)
      (case m5y => k_mem)
      (case d3y => k_asm)
      (case d4y => k_asm)
      (case d5y => k_asm)
      (case offy => walk_at "my off")
      (case r1y => have q := g2 (by assumption); omega)
      (case r2y => omega)
      (case r3y => omega)
      (case r4y => exact g3x (by assumption) g5 g3)
      (case By => k_asm)
      (case Fy => k_asm)
      (case Xy => k_asm)
      (case Ty => k_asm)
      (case hky => first | exact rfl | assumption)
      (case dpy => ktr_room)
      (case uny => ktr_units)
      intro h9 tk9 vs9 seg9 hi9 sl9 sv9 sb9 F9 N9
      rw [seg_whole (by assumption)] at hi9
      (try dsimp only)
      (try k_fold)
      k_steps
      (rename News _ _ _ _ => kN)
      refine hret _ _ _ vs9 seg9 0 _ [] hi9 sv9 sb9 ?_ (by assumption) (cb_drop kN ?_) (Or.inl rfl) ?_ ?_
      · exact gLx sl9 (by assumption) g5 g4
      · walk_at "my sub"
      · walk_at "my off"
      · exact gt_nil (by assumption) (by omega)
    · skip
      (rename News _ _ _ _ => kN)
      (rename IntsAre _ _ => kI)
      refine hret _ _ _ _ _ 0 _ [] kI ((valL_zero _ (flat_zero _)).trans (by omega)) (fun d hd => by rw [flat_zero _ d hd]; exact ⟨Int.le_refl _, Int.pow_pos (by omega)⟩) ?_ (by assumption) (cb_drop kN ?_) (Or.inl rfl) ?_ ?_
      · rw [g5]; exact g4
      · walk_at "my sub"
      · walk_at "my off"
      · exact gt_nil (by assumption) (by omega)
end Mine
namespace Mine
local macro_rules | `(tactic| omega) => `(tactic| lia)
local macro_rules | `(tactic| walk_at $s:str) => `(tactic| k_extra $s)
local macro_rules | `(tactic| walk_at "ite") => `(tactic| first | refine ite_f (by with_reducible assumption) ?_ | refine ite_t (by with_reducible assumption) ?_ | refine ite_dec_f (by omega) ?_ | refine ite_dec_t (by omega) ?_)
local macro_rules | `(tactic| walk_at "my off") => `(tactic| first | with_reducible assumption | exact allLt_ne1 (by assumption) (by omega) | exact List.forall_mem_nil _ | (refine List.forall_mem_cons.mpr ⟨?_, ?_⟩; ((show @Ne Nat _ _); (try dsimp only); omega); walk_at "my off"))
local macro_rules | `(tactic| walk_at "my upd") => `(tactic| first | (refine' UpdF.head ?u0; (case u0 => walk_at "my off")) | (refine' UpdF.tail ?u1 ?u2; (case u1 => ((show @Ne Nat _ _); (try dsimp only); omega)); (case u2 => walk_at "my upd")))
local macro_rules | `(tactic| walk_at "my sub") => `(tactic| first | exact sub_refl | exact List.forall_mem_nil _ | (refine List.forall_mem_cons.mpr ⟨?_, ?_⟩; k_mem; walk_at "my sub") | (refine sub_tail ?_; walk_at "my sub"))
local macro_rules | `(tactic| walk_at "my mem0") => `(tactic| first | assumption | (refine List.Mem.tail _ ?_; walk_at "my mem0"))
theorem gt_one6 {rest : List (Addr × Obj)} {o oc oa : Obj} {A c L : Nat} (h : A < L ∧ 69 < L ∧ AllLt L rest) (hc : L ≤ c) : ∀ r ∈ ((A : Addr), oa) :: ((69 : Addr), o) :: rest, ∀ q ∈ [((c : Addr), oc)], r.1 < q.1 := by
  w_top off
  intro r hr q hq
  rw [List.mem_singleton.mp hq]
  refine Nat.lt_of_lt_of_le ?_ hc
  rcases List.mem_cons.mp hr with rfl | hr
  · exact h.1
  rcases List.mem_cons.mp hr with rfl | hr
  · exact h.2.1
  · exact allLt_all h.2.2 r hr
theorem gt_nil6 {l : List (Addr × Obj)} : ∀ r ∈ l, ∀ q ∈ ([] : List (Addr × Obj)), r.1 < q.1 := fun r _ q hq => absurd hq List.not_mem_nil
theorem seg_all {ds : List Int} {c : Nat} (h : ds.length = c) : seg ds 0 (c : Int) = ds := by
  w_top off
  unfold seg
  simp [← h]
theorem allLt_ne2 {a b : Prop} {d e : Nat} {l : List (Addr × Obj)} (h : a ∧ b ∧ AllLt d l) (hle : d ≤ e) : ∀ p ∈ l, p.1 ≠ e := fun p hp => Nat.ne_of_lt (Nat.lt_of_lt_of_le (allLt_all h.2.2 p hp) hle)
local macro_rules | `(tactic| walk_at "my off") => `(tactic| exact allLt_ne2 (by assumption) (by omega))
abbrev D2iC (w : World) (loose : List Str) (mean : ExcName → Option Value) (mg mb : Str → Option Value) (n : Int) (ds : List Int) : Prop :=
  ∀ (A : Addr) (ws : List Value) (kk : Nat) (u : Tok) (dp un : Nat) (gd : Option (List Code)) (cn : Str) (cs : Scope) (a : Addr) (ccd : Value) (cl : List (Str × Addr)) (outer : List Env) (A₀ : Around) (base h₀ : Heap) (L : Addr) (m : Str → Option Value) (p : Array Value) (rest : List (Addr × Obj)) (s : Shared) (Q E : Value → Shared → Prop),
    Below A₀ base outer h₀ → Fr h₀ L s.heap m → (Mine.hd.heap_39 w.params).In h₀ → News h₀ L s.heap ((A, listOf ws.toArray kk) :: (69, tabObj p) :: rest) → Top topProg loose mean mg mb h₀ → cs.kind = .function →
    CodeHd base 73 69 → @Ne Nat A 69 → (∀ q ∈ rest, q.1 ≠ 69) → Tab (Str.ofString "_digits2int.<locals>.inner") 69 4 p rest → IntsAre ws ds → dp + 60 < recursionLimit → un + 700 < cLine →
    (∀ h' tk' t' p' more, Fr h₀ L h' m → News h₀ L h' ((A, listOf ws.toArray kk) :: (69, tabObj p') :: (more ++ rest)) →
      (p' = p ∨ TabIn (Str.ofString "_digits2int.<locals>.inner") 69 4 p' more) → (∀ r ∈ (A, listOf ws.toArray kk) :: (69, tabObj p) :: rest, ∀ q ∈ more, r.1 < q.1) → Q (.int (valL n.toNat ds) t') { s with heap := h', toks := tk' }) →
      wpAny (model PySem.Challenge.rw_rs0142_01.row.prog w) (ktrTop dp un gd cn cs L a ccd cl outer) (call (.ref 74) [.ref A, .int n u]) Q E s
set_option maxRecDepth 100000 in
set_option maxHeartbeats 16000000 in
theorem d2i_con (w : World) (loose mean mg mb) (n : Int) (ds : List Int) (hds : ∀ d ∈ ds, 0 ≤ d ∧ d < 2 ^ n.toNat) (hb : n.toNat * ds.length ≤ 40) (hn : 2 ≤ n) (hn' : n < 5) : D2iC w loose mean mg mb n ds := by
  w_top off
  have hlen : ds.length ≤ 20 := by
    have : 2 * ds.length ≤ n.toNat * ds.length := Nat.mul_le_mul_right _ (by omega)
    omega
  unfold D2iC
  k_fill
  intro A ws kk u dp un gd cn cs a ccd cl outer A₀ base h₀ L m p rest s Q E B F X N T hk C hA r69 hT hI hd hu hret
  refine wpAny_call ?_
  k_with_none
  refine' code_defC (binds := [(Str.ofString "digits", .ref A), (Str.ofString "n", .int n u)]) ?k1 ?k2 ?k3 ?k4 ?k5 ?kA ?kF ?kK ?k6 ?k7 ?k8 ?k9 ?kB ?kD ?_ ?c2 ?c3 ?c4
  (case kA => exact rfl)
  (case kF => exact rfl)
  (case kK => assumption)
  (case k1 => k_asm)
  (case k2 => k_asm)
  (case k3 => k_asm)
  (case k4 => k_asm)
  (case k5 => k_asm)
  (case k6 => k_is)
  (case k7 => k_is)
  (case k8 => ktr_room)
  (case k9 => exact BindsTo.of_eq rfl)
  (case kB => exact rfl)
  (case kD => decide +kernel)
  (case c2 => exact rfl)
  (case c3 => exact rfl)
  (case c4 => exact rfl)
  k_whole
  intro g' L' h' tk' cells' FG' F' N' Y' B' X' T' l1
  (try k_lt l1)
  k_cells Y'
  (try simp only [List.cons_append, List.nil_append] at N')
  (try dsimp only)
  (try k_lift B')
  (try k_fold)
  rcases hT with rfl | ⟨c', oc', vs', t', rfl, d0', d1', d2'⟩
  · k_with_none
    k_with "storeName" => (k_here; k_dflt (refine' storeX_C ?F ?N ?c ?U ?d ?_ ?a ?b); (case a => rfl); (case b => rfl); (case F => k_asm); (case N => k_asm); (case c => rfl); (case U => walk_at "my upd"); (case d => k_asm); k_whole; intro h' o' F' N' d'; (try dsimp only at N'))
    k_with "exec FunctionDef" => (k_here; k_dflt (refine' nestDef_K ?d0 ?k0 ?a0 ?_; (case d0 => exact rfl); (case k0 => exact rfl); (case a0 => exact rfl)); k_dflt (refine' nest_K ?F ?N ?T ?C ?cd ?U ?t ?n ?cl ?_); (case F => k_asm); (case N => k_asm); (case T => k_asm); (case cd => exact rfl); (case C => exact CodeHd.keeps C (Below.stays (by assumption))); (case U => walk_at "my upd"); (case t => kn_triples); (case n => kn_among); (case cl => exact rfl); intro f' c' oc' vs' t' ct' dc' h' tk' F' N' d1' d2' l1 l2; (try dsimp only at N'); (try k_lt l1); (try k_lt2 l2))
    k_steps
    · skip
      (rename News _ _ _ _ => kN)
      refine' innerD_con w loose mean mg mb _ _ _ _ _ _ ?hnz _ c' _ _ _ A _ _ _ _ _ _ _ oc' vs' t' _ n ws ds kk _ ?m1z ?m2z d1' d2' ?m3z ?d3z ?l3z ?m4z ?d4z ?l4z ?m5z ?d5z ?l5z ?mAz hI hds hb hn hn' _ 0 _ _ _ _ _ _ _ _ _ _ _ _ _ _ _ _ _ _ _ _ (Int.sub_zero _) (Int.le_refl _) ?r1z ?r2z ?Bz ?Fz ?Xz kN ?Tz ?hkz ?dpz ?unz ?_
      (case hnz => exact rfl)
      (case m1z => k_mem)
      (case l3z => exact rfl)
      (case l4z => exact rfl)
      (case l5z => exact rfl)
      (case m2z => k_mem)
      (case mAz => k_mem)
      (case m3z => k_mem)
      (case m4z => k_mem)
      (case m5z => k_mem)
      (case d3z => k_asm)
      (case d4z => k_asm)
      (case d5z => k_asm)
      (case r1z => omega)
      (case r2z => omega)
      (case Bz => k_asm)
      (case Fz => k_asm)
      (case Xz => k_asm)
      (case Tz => k_asm)
      (case hkz => first | exact rfl | assumption)
      (case dpz => ktr_room)
      (case unz => ktr_units)
      intro h9 tk9 t9 F9 N9
      (try dsimp only)
      (try k_fold)
      k_steps
      (rename News _ _ _ _ => kN)
      rw [seg_all rfl]
      exact hret _ _ _ (#[] ++ #[rawInt ((69 : Nat) : Int), rawInt ((4 : Nat) : Int), .ref c']) [(c', oc')] (by assumption) (cb_drop kN (by walk_at "my sub")) (Or.inr ⟨c', oc', vs', _, by simp, .head _, d1', d2'⟩) (gt_one6 (by assumption) (by omega))
    · skip
      (rename News _ _ _ _ => kN)
      have e : ds = [] := List.length_eq_zero_iff.mp (by omega)
      subst e
      exact hret _ _ _ (#[] ++ #[rawInt ((69 : Nat) : Int), rawInt ((4 : Nat) : Int), .ref c']) [(c', oc')] (by assumption) (cb_drop kN (by walk_at "my sub")) (Or.inr ⟨c', oc', vs', _, by simp, .head _, d1', d2'⟩) (gt_one6 (by assumption) (by omega))
  · k_with_none
    k_with "storeName" => (k_here; k_dflt (refine' storeX_C ?F ?N ?c ?U ?d ?_ ?a ?b); (case a => rfl); (case b => rfl); (case F => k_asm); (case N => k_asm); (case c => rfl); (case U => walk_at "my upd"); (case d => k_asm); k_whole; intro h' o' F' N' d'; (try dsimp only at N'))
    k_with "exec FunctionDef" => (k_here; k_dflt (refine' nestDef_K ?d0 ?k0 ?a0 ?_; (case d0 => exact rfl); (case k0 => exact rfl); (case a0 => exact rfl)); k_dflt (refine' nestHit_K ?F ?N ?T ?C ?cd ?mem ?t ?n ?cl ?_); (case F => k_asm); (case N => k_asm); (case T => k_asm); (case cd => exact rfl); (case C => exact CodeHd.keeps C (Below.stays (by assumption))); (case mem => k_mem); (case t => kn_triples); (case n => kn_hit); (case cl => exact rfl); intro f' ct' dc' h' tk' F' N' l1; (try dsimp only at N'); (try k_lt l1))
    k_steps
    · skip
      (rename News _ _ _ _ => kN)
      refine' innerD_con w loose mean mg mb _ _ _ _ _ _ ?hny _ c' _ _ _ A _ _ _ _ _ _ _ oc' vs' t' _ n ws ds kk _ ?m1y ?m2y d1' d2' ?m3y ?d3y ?l3y ?m4y ?d4y ?l4y ?m5y ?d5y ?l5y ?mAy hI hds hb hn hn' _ 0 _ _ _ _ _ _ _ _ _ _ _ _ _ _ _ _ _ _ _ _ (Int.sub_zero _) (Int.le_refl _) ?r1y ?r2y ?By ?Fy ?Xy kN ?Ty ?hky ?dpy ?uny ?_
      (case hny => exact rfl)
      (case m1y => k_mem)
      (case l3y => exact rfl)
      (case l4y => exact rfl)
      (case l5y => exact rfl)
      (case m2y => walk_at "my mem0")
      (case mAy => k_mem)
      (case m3y => k_mem)
      (case m4y => k_mem)
      (case m5y => k_mem)
      (case d3y => k_asm)
      (case d4y => k_asm)
      (case d5y => k_asm)
      (case r1y => omega)
      (case r2y => omega)
      (case By => k_asm)
      (case Fy => k_asm)
      (case Xy => k_asm)
      (case Ty => k_asm)
      (case hky => first | exact rfl | assumption)
      (case dpy => ktr_room)
      (case uny => ktr_units)
      intro h9 tk9 t9 F9 N9
      (try dsimp only)
      (try k_fold)
      k_steps
      (rename News _ _ _ _ => kN)
      rw [seg_all rfl]
      exact hret _ _ _ _ [] (by assumption) (cb_drop kN (by walk_at "my sub")) (Or.inl rfl) gt_nil6
    · skip
      (rename News _ _ _ _ => kN)
      have e : ds = [] := List.length_eq_zero_iff.mp (by omega)
      subst e
      exact hret _ _ _ _ [] (by assumption) (cb_drop kN (by walk_at "my sub")) (Or.inl rfl) gt_nil6
end Mine
namespace Mine
/-- a loop over a reversed list of ints, what lies ahead of each turn said by J; the ledger may grow -/
def EndG (h₀ : Heap) (L I : Addr) (own : List (Addr × Obj)) (J : (Str → Option Value) → List (Addr × Obj) → Prop) (s₁ s₂ : Shared) : Prop :=
  ∃ h' tk m' nx, s₂ = { s₁ with heap := h', toks := tk } ∧ Fr h₀ L h' m' ∧ News h₀ L h' (own ++ nx) ∧ (∀ p ∈ nx, p.1 ≠ I) ∧ J m' nx
def PostG (h₀ : Heap) (L I : Addr) (own : List (Addr × Obj)) (J : (Str → Option Value) → List (Addr × Obj) → Prop) (s₁ : Shared) (Q : Flow → Shared → Prop) (f : Flow) (s₂ : Shared) : Prop :=
  match f with
  | .ret v => Q (.ret v) s₂
  | .brk => Q .next s₂
  | _ => EndG h₀ L I own J s₁ s₂
theorem endG {h₀ : Heap} {L I : Addr} {own : List (Addr × Obj)} {J : (Str → Option Value) → List (Addr × Obj) → Prop} {s₁ : Shared} {h' : Heap} {tk : Nat} {m' : Str → Option Value} (nx : List (Addr × Obj)) {news' : List (Addr × Obj)}
    (F : Fr h₀ L h' m') (N : News h₀ L h' news') (hs : ∀ p ∈ own ++ nx, p ∈ news') (hI : ∀ p ∈ nx, p.1 ≠ I) (hJ : J m' nx) : EndG h₀ L I own J s₁ { s₁ with heap := h', toks := tk } := ⟨h', tk, m', nx, rfl, F, cb_drop N hs, hI, hJ⟩
section
variable {prog : Program} {w : World} {A : Around} {E : Value → Shared → Prop} {s : Shared} {env : Env} {h₀ : Heap} {x : Str} {body : List Stmt} {Q : Flow → Shared → Prop}
theorem rev_inv {ax I : Addr} {vs : List Value} {ns : List Int} {kk : Nat} {m₀ : Str → Option Value} {news : List (Addr × Obj)} (J : List Int → (Str → Option Value) → List (Addr × Obj) → Prop)
    (hh : A.handled = none) (F : Fr h₀ env.locals s.heap m₀) (N : News h₀ env.locals s.heap ((I, revObj ax ((vs.length : Int) - 1)) :: news)) (hoff : ∀ p ∈ news, p.1 ≠ I) (hm : (ax, listOf vs.toArray kk) ∈ news) (hi : IntsAre vs ns) (hj : J [] m₀ news)
    (turn : ∀ pre k post t m₁ news₁ h tk own, ns.reverse = pre ++ k :: post → (∀ p ∈ own, p.1 = I ∨ p.1 = ax) → (∀ p ∈ news₁, p.1 ≠ I) → J pre m₁ news₁ → Fr h₀ env.locals h (fun y => if y = x then some (.int k t) else m₁ y) → News h₀ env.locals h (own ++ news₁) →
      wpAny (model prog w) A (execs body env) (PostG h₀ env.locals I own (J (pre ++ [k])) { s with heap := h, toks := tk } Q) E { s with heap := h, toks := tk })
    (done : ∀ m₁ news₁ h tk, J ns.reverse m₁ news₁ → Fr h₀ env.locals h m₁ → News h₀ env.locals h news₁ → Q .next { s with heap := h, toks := tk }) :
    wpAny (model prog w) A (pyIter (.ref I)) (fun it s₂ => LoopAtV prog w A h₀ env x body Q E it s₂) E s := by
  have hIx := N _ (List.mem_cons_self ..)
  have hax := N _ (List.mem_cons_of_mem _ hm)
  have hl : s.heap.IsList ax vs.toArray := ⟨_, hax.1, rfl, kk, rfl⟩
  have hne : ax ≠ I := hoff _ hm
  have hit : s.heap.IsRevIter I ax ((vs.length : Int) - 1) := ⟨_, hIx.1, rfl, rfl⟩
  refine wpAny_pyIter_revIter hit ?_
  have W := Walks.listRev (prog := prog) (w := w) hh I ax hne vs.toArray
  have hlen : vs.toArray.size = vs.length := by simp
  rw [hlen] at W
  let J' : Nat → (Str → Option Value) → List (Addr × Obj) → Prop := fun i m₁ news₁ => (∀ p ∈ news₁, p.1 ≠ I) ∧ J (ns.reverse.take i) m₁ news₁
  refine ⟨I, _, _, vs.length, _, _, m₀, news, J', rfl, W, ?_, ?_, ?_, ⟨Nat.zero_le _, ?_, hl⟩, F, (fun p hp => N p (List.mem_cons_of_mem _ hp)), ⟨hoff, by simpa using hj⟩, ?_, ?_⟩
  · intro hmm
    rcases List.mem_cons.mp hmm with e | hmm
    · exact hIx.2.1 e.symm
    · exact hax.2.1 (List.mem_singleton.mp hmm).symm
  · intro b hb
    rw [List.mem_singleton.mp hb]
    exact hIx.2.2
  · intro p hp hI
    exact hoff p hp (List.mem_singleton.mp hI)
  · have e : (vs.length : Int) - 1 - ((0 : Nat) : Int) = (vs.length : Int) - 1 := by omega
    rw [e]
    exact hit
  · rintro i v m₁ news₁ s₁ own ⟨hh', tk', rfl⟩ hin hP ⟨ho, hJ⟩ hofs hown hget hall hst F₁ N₁
    have hlt : i < vs.length := hin
    have hi' : i < ns.reverse.length := by rw [List.length_reverse, ← hi.length]; exact hlt
    have hk : ns.reverse[i]? = some ns.reverse[i] := List.getElem?_eq_getElem hi'
    have hk2 : ns[vs.length - 1 - i]? = some ns.reverse[i] := by
      rw [← hk, List.getElem?_reverse (by rw [← hi.length]; exact hlt), hi.length]
    obtain ⟨t, ht⟩ := hi.get _ _ hk2
    have hv : v = .int ns.reverse[i] t := by
      have hP' : vs[vs.length - 1 - i]? = some v := by simpa using hP
      rw [ht] at hP'; exact (Option.some.inj hP').symm
    subst hv
    have e : ns.reverse = ns.reverse.take i ++ ns.reverse[i] :: ns.reverse.drop (i + 1) := by
      have := List.take_append_drop i ns.reverse
      rw [List.drop_eq_getElem_cons hi'] at this
      exact this.symm
    have e2 : ns.reverse.take (i + 1) = ns.reverse.take i ++ [ns.reverse[i]] := by rw [List.take_add_one, hk]; rfl
    have hown' : ∀ p ∈ own, p.1 = I ∨ p.1 = ax := fun p hp => (List.mem_cons.mp (hown p hp)).imp id List.mem_singleton.mp
    refine wpAny_mono (turn _ _ _ t m₁ news₁ hh' tk' own e hown' ho hJ F₁ N₁) (fun f s₂ p => ?_) fun _ _ e => e
    have fin : EndG h₀ env.locals I own (J (ns.reverse.take i ++ [ns.reverse[i]])) { s with heap := hh', toks := tk' } s₂ → LoopStepU h₀ env.locals [I] own (J' (i + 1)) { s with heap := hh', toks := tk' } .next s₂ := by
      rintro ⟨h', tk, m', nx, e', F', N', hI, hm'⟩
      refine ⟨rfl, h', tk, m', nx, e', F', N', fun p hp => ?_, hI, by rw [e2]; exact hm'⟩
      intro hq
      exact hI p hp (List.mem_singleton.mp hq)
    cases f with
    | ret v => exact .ret p
    | brk => exact .brk p
    | next => exact .next (fin p)
    | cont => exact .cont (fin p)
  · rintro h' tk m' news' F' N' _ ⟨_, hJ⟩
    rw [List.take_of_length_le (by rw [List.length_reverse, ← hi.length]; exact Nat.le_refl _)] at hJ
    exact done m' news' h' tk hJ F' N'
/-- the state between two turns: what the ledger holds (Led), which names hold what (ps), what is known (P) -/
def KstG {σ : Type} (Led : σ → List (Addr × Obj)) (ps : σ → List (Str × Value)) (x : Str) (stored : List Str) (m₀ : Str → Option Value) (P : List Int → σ → Prop) (pre : List Int) (m : Str → Option Value) (nx : List (Addr × Obj)) : Prop :=
  ∃ c : σ, nx = Led c ∧ (∀ p ∈ ps c, m p.1 = some p.2) ∧ (∀ z, z ≠ x → (∀ p ∈ ps c, z ≠ p.1) → stored.contains z = false → m z = m₀ z) ∧ P pre c
theorem rev_st {σ : Type} {ax I : Addr} {vs : List Value} {ns : List Int} {kk : Nat} {m₀ : Str → Option Value} (Led : σ → List (Addr × Obj)) (ps : σ → List (Str × Value)) (stored : List Str) (P : List Int → σ → Prop) (c₀ : σ)
    (hh : A.handled = none) (F : Fr h₀ env.locals s.heap m₀) (N : News h₀ env.locals s.heap ((I, revObj ax ((vs.length : Int) - 1)) :: Led c₀)) (hoff : ∀ p ∈ Led c₀, p.1 ≠ I) (hm : (ax, listOf vs.toArray kk) ∈ Led c₀) (hi : IntsAre vs ns)
    (hk : ∀ p ∈ ps c₀, m₀ p.1 = some p.2) (hp : P [] c₀)
    (turn : ∀ (c : σ) pre k post t (u : Str → Option Value) h tk own, ns.reverse = pre ++ k :: post → (∀ p ∈ own, p.1 = I ∨ p.1 = ax) → (∀ p ∈ Led c, p.1 ≠ I) → P pre c →
      Fr h₀ env.locals h (fun y => if y = x then some (.int k t) else kstB (fun z => if stored.contains z then u z else m₀ z) (ps c) y) → News h₀ env.locals h (own ++ Led c) →
      wpAny (model prog w) A (execs body env) (PostG h₀ env.locals I own (KstG Led ps x stored m₀ P (pre ++ [k])) { s with heap := h, toks := tk } Q) E { s with heap := h, toks := tk })
    (done : ∀ (c : σ) (u : Str → Option Value) h tk, P ns.reverse c → Fr h₀ env.locals h (fun y => if y = x then u y else kstB (fun z => if stored.contains z then u z else m₀ z) (ps c) y) → News h₀ env.locals h (Led c) → Q .next { s with heap := h, toks := tk }) :
    wpAny (model prog w) A (pyIter (.ref I)) (fun it s₂ => LoopAtV prog w A h₀ env x body Q E it s₂) E s := by
  refine rev_inv (KstG Led ps x stored m₀ P) hh F N hoff hm hi ⟨c₀, rfl, hk, fun _ _ _ _ => rfl, hp⟩ ?_ ?_
  · rintro pre k post t m₁ nx h tk own e hw ho ⟨c, rfl, h1, h2, hp'⟩ F₁ N₁
    exact turn c pre k post t m₁ h tk own e hw ho hp' (kst_fr h1 h2 F₁) N₁
  · rintro m₁ nx h tk ⟨c, rfl, h1, h2, hp'⟩ F₁ N₁
    exact done c m₁ h tk hp' (kst_frOut h1 h2 F₁) N₁
theorem range_st {σ : Type} {r : Addr} {b₀ : Int} {t₀ u₀ v₀ : Tok} {n : Nat} {m₀ : Str → Option Value} (Led : σ → List (Addr × Obj)) (ps : σ → List (Str × Value)) (stored : List Str) (P : Nat → σ → Prop) (c₀ : σ)
    (hh : A.handled = none) (hr : IsRange s.heap r 0 b₀ 1 t₀ u₀ v₀) (hsmall : Builtin.Range.small 0 b₀ 1 = true) (hn : Builtin.Range.rangeSize 0 b₀ 1 = (n : Int)) (F : Fr h₀ env.locals s.heap m₀) (N : News h₀ env.locals s.heap (Led c₀))
    (hk : ∀ p ∈ ps c₀, m₀ p.1 = some p.2) (hp : P 0 c₀)
    (turn : ∀ (I : Addr) (c : σ) (i : Nat) t (u : Str → Option Value) h tk own, i < n → (∀ p ∈ Led c₀, p.1 < I) → (∀ p ∈ own, p.1 = I) → (∀ p ∈ Led c, p.1 ≠ I) → (∃ p ∈ own, p.1 = I) → P i c →
      Fr h₀ env.locals h (fun y => if y = x then some (.int (i : Int) t) else kstB (fun z => if stored.contains z then u z else m₀ z) (ps c) y) → News h₀ env.locals h (own ++ Led c) →
      wpAny (model prog w) A (execs body env) (PostG h₀ env.locals I own (fun m nx => ∃ c : σ, nx = Led c ∧ (∀ p ∈ ps c, m p.1 = some p.2) ∧ (∀ z, z ≠ x → (∀ p ∈ ps c, z ≠ p.1) → stored.contains z = false → m z = m₀ z) ∧ P (i + 1) c) { s with heap := h, toks := tk } Q) E { s with heap := h, toks := tk })
    (done : ∀ (c : σ) (u : Str → Option Value) h tk, P n c → Fr h₀ env.locals h (fun y => if y = x then u y else kstB (fun z => if stored.contains z then u z else m₀ z) (ps c) y) → News h₀ env.locals h (Led c) → Q .next { s with heap := h, toks := tk }) :
    wpAny (model prog w) A (pyIter (.ref r)) (fun it s₂ => LoopAtV prog w A h₀ env x body Q E it s₂) E s := by
  refine wpAny_pyIter_range hr hsmall ?_
  have W : Walks prog w A s.heap.objs.size [s.heap.objs.size] [s.heap.objs.size] n (fun i v => i < n ∧ ∃ t, v = .int (0 + i * 1) t)
      (fun i h => IsRangeIter h s.heap.objs.size (0 + (i : Nat) * 1) ((n : Int) - (i : Nat)) 1) := (Walks.range hh _ 0 1 n).bound
  let J' : Nat → (Str → Option Value) → List (Addr × Obj) → Prop := fun i m nx => (∀ p ∈ nx, p.1 ≠ s.heap.objs.size) ∧ ∃ c : σ, nx = Led c ∧ (∀ p ∈ ps c, m p.1 = some p.2) ∧ (∀ z, z ≠ x → (∀ p ∈ ps c, z ≠ p.1) → stored.contains z = false → m z = m₀ z) ∧ P i c
  refine ⟨s.heap.objs.size, _, _, n, _, _, m₀, Led c₀, J', rfl, W, ?_, ?_, ?_, (by show IsRangeIter _ _ _ _ _; rw [hn]; simpa using Heap.get?_push_size _ rfl), F.push _, (fun p hp => ⟨Heap.get?_push_of_some _ (N p hp).1, (N p hp).2⟩), ⟨?_, c₀, rfl, hk, fun _ _ _ _ => rfl, hp⟩, ?_, ?_⟩
  · intro hm
    exact absurd F.ns.lt ((List.mem_singleton.mp hm) ▸ Nat.lt_irrefl _)
  · intro b hb
    rw [List.mem_singleton.mp hb]
    exact next_is_new F
  · intro p hp hI
    exact absurd (Heap.lt_size (N p hp).1) ((List.mem_singleton.mp hI) ▸ Nat.lt_irrefl _)
  · intro p hp hI
    exact absurd (Heap.lt_size (N p hp).1) (hI ▸ Nat.lt_irrefl _)
  · rintro i v m₁ news₁ s₁ own ⟨hh', tk', rfl⟩ hin ⟨_, t, rfl⟩ ⟨ho, c, rfl, h1, h2, hp'⟩ hofs hown hget hall hst F₁ N₁
    have e1 : (0 : Int) + (i : Int) * 1 = (i : Int) := by omega
    rw [e1] at F₁
    have hst' : hh'.get? s.heap.objs.size = some _ := hst
    have hmemI := hall s.heap.objs.size (List.mem_cons_self ..) (next_is_new F) _ hst'
    refine wpAny_mono (turn s.heap.objs.size c i t m₁ hh' tk' own hin (fun p hp => Heap.lt_size (N p hp).1) (fun p hp => List.mem_singleton.mp (hown p hp)) ho ⟨_, hmemI, rfl⟩ hp' (kst_fr h1 h2 F₁) N₁) (fun f s₂ p => ?_) fun _ _ e => e
    have fin : EndG h₀ env.locals s.heap.objs.size own (fun m nx => ∃ c : σ, nx = Led c ∧ (∀ p ∈ ps c, m p.1 = some p.2) ∧ (∀ z, z ≠ x → (∀ p ∈ ps c, z ≠ p.1) → stored.contains z = false → m z = m₀ z) ∧ P (i + 1) c) { s with heap := hh', toks := tk' } s₂ → LoopStepU h₀ env.locals [s.heap.objs.size] own (J' (i + 1)) { s with heap := hh', toks := tk' } .next s₂ := by
      rintro ⟨h', tk, m', nx, e', F', N', hI, hm'⟩
      exact ⟨rfl, h', tk, m', nx, e', F', N', fun p hp hq => hI p hp (List.mem_singleton.mp hq), hI, hm'⟩
    cases f with
    | ret v => exact .ret p
    | brk => exact .brk p
    | next => exact .next (fin p)
    | cont => exact .cont (fin p)
  · rintro h' tk m' news' F' N' _ ⟨_, c, rfl, h1, h2, hp'⟩
    exact done c m' h' tk hp' (kst_frOut h1 h2 F') N'
end
end Mine
namespace Mine
local macro_rules | `(tactic| walk_at "no such 0") => `(tactic| skip)
local macro_rules | `(tactic| walk_at "no such 1") => `(tactic| skip)
local macro_rules | `(tactic| walk_at "no such 2") => `(tactic| skip)
local macro_rules | `(tactic| walk_at "no such 3") => `(tactic| skip)
local macro_rules | `(tactic| walk_at "no such 4") => `(tactic| skip)
local macro_rules | `(tactic| walk_at "no such 5") => `(tactic| skip)
local macro_rules | `(tactic| walk_at "no such 6") => `(tactic| skip)
local macro_rules | `(tactic| walk_at "no such 7") => `(tactic| skip)
local macro_rules | `(tactic| walk_at "no such 8") => `(tactic| skip)
local macro_rules | `(tactic| omega) => `(tactic| lia)
local macro_rules | `(tactic| walk_at $s:str) => `(tactic| k_extra $s)
local macro_rules | `(tactic| walk_at "ite") => `(tactic| first | refine ite_f (by with_reducible assumption) ?_ | refine ite_t (by with_reducible assumption) ?_ | refine ite_dec_f (by omega) ?_ | refine ite_dec_t (by omega) ?_)
local macro_rules | `(tactic| walk_at "PostG") => `(tactic| dsimp only [PostG])
local macro_rules | `(tactic| walk_at "my sub") => `(tactic| first | exact sub_refl | exact List.forall_mem_nil _ | (refine List.forall_mem_cons.mpr ⟨?_, ?_⟩; k_mem; walk_at "my sub") | (refine sub_tail ?_; walk_at "my sub"))
abbrev T62 (p : Array Value) (Y : List (Addr × Obj)) : Prop := Tab (Str.ofString "_int2digits.<locals>.inner") 54 4 p Y
abbrev T69 (p : Array Value) (Y : List (Addr × Obj)) : Prop := Tab (Str.ofString "_digits2int.<locals>.inner") 69 4 p Y
abbrev I62 (p : Array Value) (Y : List (Addr × Obj)) : Prop := TabIn (Str.ofString "_int2digits.<locals>.inner") 54 4 p Y
abbrev I69 (p : Array Value) (Y : List (Addr × Obj)) : Prop := TabIn (Str.ofString "_digits2int.<locals>.inner") 69 4 p Y
theorem TabIn.more {q : Str} {l c : Nat} {p : Array Value} {Y Z : List (Addr × Obj)} (h : TabIn q l c p Y) (s : ∀ x ∈ Y, x ∈ Z) : TabIn q l c p Z := by
  w_top off
  obtain ⟨c, oc, vs, t, h1, h2, h3, h4⟩ := h
  exact ⟨c, oc, vs, t, h1, s _ h2, h3, h4⟩
theorem Tab.new {q : Str} {l c : Nat} {p p' : Array Value} {more rest : List (Addr × Obj)} (h : Tab q l c p rest) (k : p' = p ∨ TabIn q l c p' more) : Tab q l c p' (more ++ rest) := by
  w_top off
  rcases k with rfl | k
  · rcases h with h | h
    · exact .inl h
    · exact .inr (h.more fun z hz => List.mem_append_right _ hz)
  · exact .inr (k.more fun z hz => List.mem_append_left _ hz)
theorem Tab.more {q : Str} {l c : Nat} {p : Array Value} {Y Z : List (Addr × Obj)} (h : Tab q l c p Y) (s : ∀ x ∈ Y, x ∈ Z) : Tab q l c p Z := by
  w_top off
  rcases h with h | ⟨c, oc, vs, t, h1, h2, h3, h4⟩
  · exact .inl h
  · exact .inr ⟨c, oc, vs, t, h1, s _ h2, h3, h4⟩
/-- a contract of a def that may fill the two tables: q and r of x by b -/
abbrev DivC (rm : Nat) (w : World) (loose : List Str) (mean : ExcName → Option Value) (mg mb : Str → Option Value) (f : Addr) (x b : Int) : Prop :=
  ∀ (t u : Tok) (dp un : Nat) (gd : Option (List Code)) (cn : Str) (cs : Scope) (a : Addr) (ccd : Value) (cl : List (Str × Addr)) (outer : List Env) (A₀ : Around) (base h₀ : Heap) (L : Addr) (m : Str → Option Value) (p q : Array Value) (rest : List (Addr × Obj)) (s : Shared) (Q E : Value → Shared → Prop),
    Below A₀ base outer h₀ → Fr h₀ L s.heap m → (Mine.hd.heap_39 w.params).In h₀ → News h₀ L s.heap ((62, tabObj p) :: (69, tabObj q) :: rest) → Top topProg loose mean mg mb h₀ → cs.kind = .function →
    CodeHd base 66 62 → CodeHd base 73 69 → (∀ q ∈ rest, q.1 ≠ 62) → (∀ q ∈ rest, q.1 ≠ 69) → T62 p rest → T69 q rest → dp + rm < recursionLimit → un + 10 * rm < cLine →
    (∀ D h' tk' p' q' more t1 t2 k, Fr h₀ L h' m → News h₀ L h' ((D, ({ cls := .type "tuple", data := .seq #[.int (x / b) t1, .int (x % b) t2] k } : Obj)) :: (62, tabObj p') :: (69, tabObj q') :: (more ++ rest)) →
      (p' = p ∨ I62 p' more) → (q' = q ∨ I69 q' more) → (∀ r ∈ (62, tabObj p) :: (69, tabObj q) :: rest, r.1 < D ∧ ∀ z ∈ more, r.1 < z.1) → Q (.ref D) { s with heap := h', toks := tk' }) →
      wpAny (model PySem.Challenge.rw_rs0142_01.row.prog w) (ktrTop dp un gd cn cs L a ccd cl outer) (call (.ref f) [.int x t, .int b u]) Q E s
theorem off62 {q : Array Value} {rest : List (Addr × Obj)} (h : ∀ z ∈ rest, z.1 ≠ 62) : ∀ z ∈ ((69 : Addr), tabObj q) :: rest, z.1 ≠ 62 := List.forall_mem_cons.mpr ⟨show (69 : Nat) ≠ 62 by decide, h⟩
theorem news_mid {h₀ h : Heap} {L : Addr} {a b c : Addr × Obj} {m r : List (Addr × Obj)} (N : News h₀ L h (a :: b :: (m ++ c :: r))) : News h₀ L h (a :: c :: b :: (m ++ r)) := fun p hp => by
  apply N p
  simp only [List.mem_cons, List.mem_append] at hp ⊢
  rcases hp with h | h | h | h | h <;> simp [h]
theorem my_upd_head : True := trivial
local macro_rules | `(tactic| walk_at "my off") => `(tactic| first | with_reducible assumption | exact allLt_ne1 (by assumption) (by omega) | exact List.forall_mem_nil _ | (refine List.forall_mem_cons.mpr ⟨?_, ?_⟩; ((show @Ne Nat _ _); (try dsimp only); omega); walk_at "my off"))
local macro_rules | `(tactic| walk_at "my upd2") => `(tactic| first | (refine' Upd.head ?u0; (case u0 => walk_at "my off")) | (refine' Upd.tail ?u1 ?u2; (case u1 => ((show @Ne Nat _ _); (try dsimp only); omega)); (case u2 => walk_at "my upd2")))
theorem bits_b {b : Int} (h : 2 ≤ b) (h' : b < 16) : 2 ≤ Builtin.Int.intBits b ∧ Builtin.Int.intBits b < 5 ∧ b < 2 ^ Builtin.Int.intBits b := by
  w_top off
  have h1 : ¬ Builtin.Int.intBits b ≤ 1 := fun q => by have := intBits_le_iff.mp q; omega
  have h2 : Builtin.Int.intBits b ≤ 4 := intBits_le_iff.mpr (by omega)
  have h3 : b.natAbs < 2 ^ Builtin.Int.intBits b := intBits_le_iff.mp (Nat.le_refl _)
  refine ⟨by omega, by omega, ?_⟩
  have h5 : ((b.natAbs : Nat) : Int) < ((2 ^ Builtin.Int.intBits b : Nat) : Int) := by exact_mod_cast h3
  rw [Int.natCast_pow] at h5
  have h6 : ((b.natAbs : Nat) : Int) = b := by omega
  rw [h6] at h5
  exact h5
theorem digit_step {P V b r k D M : Int} (h : r * P + k = D * b + M) : k + P * (V * b + r) = (D + P * V) * b + M := by
  w_top off
  rw [Int.mul_add, Int.add_mul, Int.mul_assoc, Int.mul_comm P r]; omega
theorem div_of {V b r : Int} (h0 : 0 ≤ r) (h1 : r < b) : (V * b + r) / b = V := by
  w_top off
  rw [Int.add_comm, Int.add_mul_ediv_right _ _ (by omega), Int.ediv_eq_zero_of_lt h0 h1]; omega
theorem mod_of {V b r : Int} (h0 : 0 ≤ r) (h1 : r < b) : (V * b + r) % b = r := by
  w_top off
  rw [Int.add_comm, Int.add_mul_emod_self_right, Int.emod_eq_of_lt h0 h1]
theorem fr_tok {h₀ h : Heap} {L : Addr} {m : Str → Option Value} (_F : Fr h₀ L h m) (x : Str) (n : Int) (e : ∃ t, m x = some (.int n t)) : ∃ t, m x = some (.int n t) := e
theorem turn_facts {b r x : Int} (hb : 2 ≤ b) (hb' : b < 16) (b3 : b < 2 ^ Builtin.Int.intBits b) (r0 : 0 ≤ r) (r1 : r < b) (hx : 0 ≤ x ∧ x < 2 ^ (↑(Builtin.Int.intBits b) : Int).toNat) :
    let z := r * 2 ^ (↑(Builtin.Int.intBits b) : Int).toNat + x
    0 ≤ z ∧ z < 65536 ∧ 0 ≤ z.fdiv b ∧ z.fdiv b < 2 ^ (↑(Builtin.Int.intBits b) : Int).toNat ∧ 0 ≤ z.fmod b ∧ z.fmod b < b ∧ z = z.fdiv b * b + z.fmod b := by
  intro z
  rw [Int.toNat_natCast] at hx
  have hN : Builtin.Int.intBits b ≤ 4 := intBits_le_iff.mpr (by omega)
  obtain ⟨N, eN⟩ : ∃ N, N = Builtin.Int.intBits b := ⟨_, rfl⟩
  have ez : z = r * 2 ^ N + x := by show r * 2 ^ (↑(Builtin.Int.intBits b) : Int).toNat + x = _; rw [Int.toNat_natCast, eN]
  rw [Int.toNat_natCast, ← eN]
  rw [← eN] at hx hN b3
  have hp : (0 : Int) < 2 ^ N := Int.pow_pos (by omega)
  have h16 : (2 : Int) ^ N ≤ 2 ^ 4 := by exact_mod_cast Nat.pow_le_pow_right (n := 2) (by omega) hN
  have h1 : 0 ≤ r * 2 ^ N := Int.mul_nonneg r0 (Int.le_of_lt hp)
  have h2 : r * 2 ^ N ≤ (b - 1) * 2 ^ N := Int.mul_le_mul_of_nonneg_right (by omega) (Int.le_of_lt hp)
  have h3 : (b - 1) * 2 ^ N = b * 2 ^ N - 2 ^ N := by rw [Int.sub_mul, Int.one_mul]
  have h4 : b * 2 ^ N ≤ 15 * 2 ^ N := Int.mul_le_mul_of_nonneg_right (by omega) (Int.le_of_lt hp)
  rw [Int.fdiv_eq_ediv_of_nonneg _ (by omega), Int.fmod_eq_emod_of_nonneg _ (by omega)]
  have z0 : 0 ≤ z := by omega
  refine ⟨z0, by omega, Int.ediv_nonneg z0 (by omega), ?_, Int.emod_nonneg _ (by omega), Int.emod_lt_of_pos _ (by omega), ?_⟩
  · apply Int.ediv_lt_of_lt_mul (by omega)
    rw [Int.mul_comm (2 ^ N)]
    omega
  · rw [Int.mul_comm]; exact (Int.mul_ediv_add_emod z b).symm
set_option maxRecDepth 100000 in
set_option maxHeartbeats 16000000 in
theorem pos_con (w : World) (loose mean mg mb) (x b : Int) (h0 : 0 ≤ x) (h1 : x < 65536) (hb : 2 ≤ b) (hb' : b < 16) : DivC 80 w loose mean mg mb 81 x b := by
  w_top off
  obtain ⟨b1, b2, b3⟩ := bits_b hb hb'
  unfold DivC
  k_fill
  intro t u dp un gd cn cs a ccd cl outer A₀ base h₀ L m p q rest s Q E B F X N T hk C62 C69 o62 o69 hT hT' hd hu hret
  refine wpAny_call ?_
  k_with_none
  k_dflt cell_enter
  k_steps
  refine i2d_con w loose mean mg mb _ _ h0 h1 (by omega) (by omega) _ _ _ _ _ _ _ _ _ _ _ _ _ _ _ _ _ _ _ _ _ (by k_asm) (by k_asm) (by k_asm) (by k_asm) (by k_asm) (by first | exact rfl | assumption) C62 (off62 o62) (hT.more (sub_tail sub_refl)) (by ktr_room) (by ktr_units) ?_
  intro h9 tk9 A vsA ds kkA p' more hiA hvA hbA hlA F9 N9 T9 oA gA
  have N9 := news_mid N9
  obtain ⟨Y, hY⟩ : ∃ Y, Y = more ++ rest := ⟨_, rfl⟩
  have gA69 := (gA (69, tabObj q) (.tail _ (.head _)))
  have gA62 := (gA (62, tabObj p) (.head _))
  have Y69 : ∀ z ∈ Y, z.1 ≠ 69 := by
    rw [hY]; intro z hz
    rcases List.mem_append.mp hz with h | h
    · exact Nat.ne_of_gt (gA69.2 z h)
    · exact o69 z h
  have Y62 : ∀ z ∈ Y, z.1 ≠ 62 := by
    rw [hY]; intro z hz
    rcases List.mem_append.mp hz with h | h
    · exact Nat.ne_of_gt (gA62.2 z h)
    · exact o62 z h
  have YA : ∀ z ∈ Y, z.1 ≠ A := by
    rw [hY]; intro z hz
    rcases List.mem_append.mp hz with h | h
    · exact oA z h
    · exact Nat.ne_of_lt (gA z (.tail _ (.tail _ h))).1
  have gA62' : 62 < A := gA62.1
  have gA69' : 69 < A := gA69.1
  rw [← hY] at N9
  have TP : T62 p' Y := by
    rcases T9 with rfl | T9
    · exact hT.more (by rw [hY]; exact fun z hz => List.mem_append_right _ hz)
    · obtain ⟨c, oc, vs, t, e1, e2, e3⟩ := T9
      exact .inr ⟨c, oc, vs, t, e1, by rw [hY]; exact List.mem_append_left _ e2, e3⟩
  (try dsimp only)
  (try k_fold)
  k_with "newList" => (k_here; k_dflt (refine' newList_K ?F ?N ?_ ?z; (case F => k_asm); (case N => k_asm); (case z => size_fits)); intro Qa h' F' N' lQ; (try k_lt lQ))
  k_with "call type:reversed" => (k_here; k_dflt (refine' krv_reversed ?F ?N ?l ?_; (case F => k_asm); (case N => k_asm); (case l => exact News.isList (by k_asm) (by k_mem))); intro Dr h' F' N' lD; (try k_lt lD))
  k_steps
  (rename News _ _ _ _ => kN)
  (rename Fr _ _ _ _ => kF)
  have hQA : A < Qa := lQ.1
  have offQ : ∀ z ∈ Y, z.1 ≠ Qa := fun z hz => Nat.ne_of_lt (allLt_all lQ.2.2.2 z hz)
  have offD : ∀ z ∈ Y, z.1 ≠ Dr := fun z hz => Nat.ne_of_lt (allLt_all lD.2.2.2.2 z hz)
  obtain ⟨tr0, htr⟩ := fr_tok kF (Str.ofString "r") 0 ⟨_, by rfl⟩
  refine rev_st (σ := (List Value × List Int × Nat) × (Int × Tok)) (ax := A) (vs := vsA) (ns := ds) (kk := kkA) (fun c => (Qa, listOf c.1.1.toArray c.1.2.2) :: (A, listOf vsA.toArray kkA) :: (69, tabObj q) :: (62, tabObj p') :: Y) (fun c => [(Str.ofString "r", .int c.2.1 c.2.2)]) [Str.ofString "q_digit"]
    (fun pre c => IntsAre c.1.1 c.1.2.1 ∧ (∀ z ∈ c.1.2.1, 0 ≤ z ∧ z < 2 ^ (↑(Builtin.Int.intBits b) : Int).toNat) ∧ c.1.2.1.length = pre.length ∧ 0 ≤ c.2.1 ∧ c.2.1 < b ∧ valL (↑(Builtin.Int.intBits b) : Int).toNat pre.reverse = valL (↑(Builtin.Int.intBits b) : Int).toNat c.1.2.1.reverse * b + c.2.1)
    ⟨([], [], 0), (0, tr0)⟩ rfl kF kN ?off ?hm hiA ?hk ?hp ?turn ?done
  case hk => exact List.forall_mem_cons.mpr ⟨htr, List.forall_mem_nil _⟩
  case off => walk_at "my off"
  case hm => k_mem
  case hp => exact ⟨.nil, List.forall_mem_nil _, rfl, Int.le_refl _, show (0 : Int) < b by omega, by simp [valL]⟩
  case turn =>
    clear kN kF
    rintro ⟨⟨vq, qs, kq⟩, ⟨r, tr⟩⟩ pre k post tk0 u0 hx tkx own e hw ho ⟨iq, bq, lq, r0, r1, hv⟩ Fx Nx
    dsimp only [envOf] at iq bq lq r0 r1 hv Nx Fx
    have hkd : 0 ≤ k ∧ k < 2 ^ (↑(Builtin.Int.intBits b) : Int).toNat := hbA k (List.mem_reverse.mp (by rw [e]; simp))
    have hP := Int.toNat_natCast (Builtin.Int.intBits b)
    obtain ⟨Z, hZ⟩ : ∃ Z, Z = own ++ ((A, listOf vsA.toArray kkA) :: (69, tabObj q) :: (62, tabObj p') :: Y) := ⟨_, rfl⟩
    have oZ : ∀ z ∈ Z, z.1 ≠ Qa := by
      rw [hZ]; intro z hz
      rcases List.mem_append.mp hz with h | h
      · have q1 := lD.1
        rcases hw z h with h | h <;> rw [h]
        · exact Nat.ne_of_gt q1
        · exact Nat.ne_of_lt hQA
      · exact (show ∀ z ∈ ((A, listOf vsA.toArray kkA) :: (69, tabObj q) :: (62, tabObj p') :: Y), z.1 ≠ Qa from by walk_at "my off") z h
    have Nx2 : News _ _ _ ((Qa, listOf vq.toArray kq) :: Z) := cb_drop Nx (by
      rw [hZ]; intro z hz
      simp only [List.mem_cons, List.mem_append] at hz ⊢
      rcases hz with h | h | h | h | h | h <;> simp [h])
    have hz1 : qs.length ≤ 20 := by
      have h1 : pre.length ≤ ds.reverse.length := by rw [e]; simp
      rw [List.length_reverse] at h1
      have h2 : 2 * ds.length ≤ (↑(Builtin.Int.intBits b) : Int).toNat * ds.length := Nat.mul_le_mul_right _ (by omega)
      omega
    have hz2 : vq.length ≤ 20 := by rw [iq.length]; exact hz1
    obtain ⟨X0, X1, X2, X3, X4, X5, X6⟩ := turn_facts (x := k) hb hb' b3 r0 r1 hkd
    (try k_fold)
    k_with_none
    k_with "binaryOp LShift int int" => refine lshift_int_small (by omega) (by omega) (by omega) ?_
    k_steps
    refine div21_con w loose mean mg mb _ b _ _ _ _ X0 X1 hb (by omega) (by omega) (by omega) _ _ _ _ _ _ _ _ _ _ _ _ _ _ _ _ _ _ (by k_asm) (by k_asm) (by k_asm) (by k_asm) (by k_asm) (by first | exact rfl | assumption) (by ktr_room) (by ktr_units) ?_
    rintro r9 tl9 h8 tk8 ⟨D8, t8, u8, k8, rfl, rfl⟩ F8 N8 l8
    (try dsimp only [List.cons_append, List.nil_append] at N8)
    have oD8 : Qa < D8 := l8 _ (.head _) _ (.head _)
    have oZ8 : ∀ z ∈ Z, z.1 ≠ D8 := fun z hz => Nat.ne_of_lt (l8 z (.tail _ hz) _ (.head _))
    clear l8
    (try dsimp only)
    (try k_fold)
    k_with "call builtin:list.append" => (k_here; k_dflt (refine' append_K ?k1 ?k2 ?k3 ?_ ?z; (case k1 => k_asm); (case k2 => k_asm); (case k3 => exact Upd.tail (Nat.ne_of_gt oD8) (Upd.head oZ)); (case z => (rw [sizeLine_eq, List.size_toArray]; omega))); intro h' F' N')
    k_steps
    (rename News _ _ _ _ => kN)
    (rename Fr _ _ _ _ => kF)
    rw [List.push_toArray] at kN
    refine endG ((Qa, listOf (vq ++ [Value.int ((r * 2 ^ (↑(Builtin.Int.intBits b) : Int).toNat + k).fdiv b) t8]).toArray (kq + 1)) :: (A, listOf vsA.toArray kkA) :: (69, tabObj q) :: (62, tabObj p') :: Y) kF kN ?e1 ?e2 ⟨((vq ++ [Value.int ((r * 2 ^ (↑(Builtin.Int.intBits b) : Int).toNat + k).fdiv b) t8], qs ++ [(r * 2 ^ (↑(Builtin.Int.intBits b) : Int).toNat + k).fdiv b], kq + 1), ((r * 2 ^ (↑(Builtin.Int.intBits b) : Int).toNat + k).fmod b, u8)), rfl, ?e3, ?e4, ?e5⟩
    case e1 =>
      intro z hz
      rw [hZ]
      simp only [List.mem_cons, List.mem_append] at hz ⊢
      rcases hz with h | h | h | h | h | h <;> simp [h]
    case e2 => walk_at "my off"
    case e3 => kst_all
    case e4 =>
      intro z h1 h2 h3
      have h4 : z ≠ Str.ofString "r" := h2 _ (.head _)
      have h5 : z ≠ Str.ofString "q_digit" := by rintro rfl; simp at h3
      simp only [kstB, if_neg h1, if_neg h4, if_neg h5, h3, if_false, Bool.false_eq_true]
    case e5 =>
      refine ⟨IntsAre.append iq (.cons _ _ .nil), ?_, ?_, X4, X5, ?_⟩
      · intro z hz
        rcases List.mem_append.mp hz with h | h
        · exact bq z h
        · rw [List.mem_singleton.mp h]; exact ⟨X2, X3⟩
      · simp [lq]
      · simp only [List.reverse_append, List.reverse_cons, List.reverse_nil, List.nil_append, List.cons_append, valL]
        rw [hv]
        exact digit_step X6
  case done =>
    clear kN kF
    rintro ⟨⟨vq, qs, kq⟩, ⟨r, tr⟩⟩ u0 hx tkx ⟨iq, bq, lq, r0, r1, hv⟩ Fx Nx
    dsimp only [envOf] at iq bq lq r0 r1 hv Nx Fx
    rw [List.reverse_reverse, hvA] at hv
    rw [List.length_reverse] at lq
    have hlen : ds.length ≤ 20 := by
      have h2 : 2 * ds.length ≤ (↑(Builtin.Int.intBits b) : Int).toNat * ds.length := Nat.mul_le_mul_right _ (by omega)
      omega
    have hz2 : vq.length ≤ 20 := by rw [iq.length]; omega
    have hds : ∀ d ∈ qs.reverse, 0 ≤ d ∧ d < 2 ^ (↑(Builtin.Int.intBits b) : Int).toNat := fun d hd => bq d (List.mem_reverse.mp hd)
    have hlb : (↑(Builtin.Int.intBits b) : Int).toNat * qs.reverse.length ≤ 40 := by rw [List.length_reverse, lq]; exact hlA
    have eV : valL (↑(Builtin.Int.intBits b) : Int).toNat qs.reverse = x / b := by
      rw [hv]; exact (div_of r0 r1).symm
    have eR : r = x % b := by
      rw [hv]; exact (mod_of r0 r1).symm
    have offR : ∀ z ∈ ((A, listOf vsA.toArray kkA) :: (69, tabObj q) :: (62, tabObj p') :: Y), z.1 ≠ Qa := by walk_at "my off"
    have offS : ∀ z ∈ ((A, listOf vsA.toArray kkA) :: (62, tabObj p') :: Y), z.1 ≠ 69 := List.forall_mem_cons.mpr ⟨Nat.ne_of_gt gA69', List.forall_mem_cons.mpr ⟨show (62 : Nat) ≠ 69 by decide, Y69⟩⟩
    (try k_fold)
    k_with_none
    k_with "call builtin:list.reverse" => (k_here; k_dflt (refine' kl_reverse (l := vq.reverse) ?F ?N ?e ?U ?z ?_; (case F => k_asm); (case N => k_asm); (case e => exact rfl); (case U => exact Upd.head offR); (case z => (rw [sizeLine_eq]; show vq.length ≤ _; omega))); intro h' F' N')
    k_steps
    (rename News _ _ _ _ => kN)
    refine d2i_con w loose mean mg mb _ qs.reverse hds hlb (by omega) (by omega) Qa vq.reverse kq _ _ _ _ _ _ _ _ _ _ _ _ _ _ _ q ((A, listOf vsA.toArray kkA) :: (62, tabObj p') :: Y) _ _ _ (by k_asm) (by k_asm) (by k_asm) (cb_drop kN (by walk_at "my sub")) (by k_asm) (by first | exact rfl | assumption) C69 (show @Ne Nat Qa 69 by omega) offS (hT'.more ?t69) (IntsAre.reverse iq) (by ktr_room) (by ktr_units) ?_
    case t69 =>
      intro z hz
      exact .tail _ (.tail _ (by rw [hY]; exact List.mem_append_right _ hz))
    intro h8 tk8 t8 q' more8 F8 N8 TQ g8
    rw [eV]
    (try dsimp only)
    (try k_fold)
    k_with "newTuple" => (k_here; (rename News _ _ _ _ => kM); k_dflt (refine' newTuple_N ?F kM ?_ ?z; (case F => k_asm); (case z => size_fits)); have lF := lt_news kM; intro h' F' N')
    k_steps
    (rename News _ _ _ _ => kN)
    subst eR
    refine hret _ _ _ p' q' (more8 ++ more) t8 tr 0 (by assumption) (cb_drop kN ?e1) ?e2 ?e3 ?e4
    case e1 =>
      intro z hz
      rw [hY]
      simp only [List.mem_cons, List.mem_append] at hz ⊢
      rcases hz with h | h | h | (h | h) | h <;> simp [h]
    case e2 => exact T9.imp id fun k => k.more fun z hz => List.mem_append_right _ hz
    case e3 => exact TQ.imp id fun k => k.more fun z hz => List.mem_append_left _ hz
    case e4 =>
      intro z hz
      have hD := lF
      refine ⟨?_, fun y hy => ?_⟩
      · rcases List.mem_cons.mp hz with rfl | hz
        · exact lF (62, tabObj p') (.tail _ (.tail _ (List.mem_append_right _ (.tail _ (.head _)))))
        rcases List.mem_cons.mp hz with rfl | hz
        · exact lF (69, tabObj q') (.tail _ (.head _))
        · exact lF z (.tail _ (.tail _ (List.mem_append_right _ (.tail _ (.tail _ (by rw [hY]; exact List.mem_append_right _ hz))))))
      · rcases List.mem_append.mp hy with hy | hy
        · rcases List.mem_cons.mp hz with rfl | hz
          · exact g8 (62, tabObj p') (.tail _ (.tail _ (.tail _ (.head _)))) y hy
          rcases List.mem_cons.mp hz with rfl | hz
          · exact g8 (69, tabObj q) (.tail _ (.head _)) y hy
          · exact g8 z (.tail _ (.tail _ (.tail _ (.tail _ (by rw [hY]; exact List.mem_append_right _ hz))))) y hy
        · exact (gA z hz).2 y hy
end Mine
namespace Mine
local macro_rules | `(tactic| omega) => `(tactic| lia)
local macro_rules | `(tactic| walk_at $s:str) => `(tactic| k_extra $s)
local macro_rules | `(tactic| walk_at "ite") => `(tactic| first | refine ite_f (by with_reducible assumption) ?_ | refine ite_t (by with_reducible assumption) ?_ | refine ite_eq_f (by omega) ?_ | refine ite_eq_t (by omega) ?_ | refine ite_dec_f (by omega) ?_ | refine ite_dec_t (by omega) ?_)
set_option maxRecDepth 100000 in
set_option maxHeartbeats 16000000 in
theorem dm_pos (w : World) (loose mean mg mb) (x b : Int) (h0 : 0 ≤ x) (h1 : x < 65536) (hb : 2 ≤ b) (hb' : b < 16) : DivC 84 w loose mean mg mb 88 x b := by
  w_top off
  unfold DivC
  k_fill
  intro t u dp un gd cn cs a ccd cl outer A₀ base h₀ L m p q rest s Q E B F X N T hk C62 C69 o62 o69 hT hT' hd hu hret
  refine wpAny_call ?_
  k_with_none
  k_dflt cell_enter
  k_with "call ref" => (k_here; refine pos_con w loose mean mg mb _ _ h0 h1 hb hb' _ _ _ _ _ _ _ _ _ _ _ _ _ _ _ _ _ _ _ _ _ _ (by k_asm) (by k_asm) (by k_asm) (by k_asm) (by k_asm) (by first | exact rfl | assumption) C62 C69 o62 o69 hT hT' (by ktr_room) (by ktr_units) ?_; intro D h9 tk9 p' q' more t1 t2 k9 F9 N9 T9 T9' g9; (try dsimp only); (try k_fold))
  k_steps
  exact hret _ _ _ _ _ _ _ _ _ (by assumption) (by assumption) (by assumption) (by assumption) (by assumption)
theorem drop_second {h₀ h : Heap} {L : Addr} {a b : Addr × Obj} {r : List (Addr × Obj)} (N : News h₀ L h (a :: b :: r)) : News h₀ L h (a :: r) := fun p hp => by
  rcases List.mem_cons.mp hp with rfl | hp
  · exact N _ (.head _)
  · exact N _ (.tail _ (.tail _ hp))
theorem neg_div {x b : Int} (hb : 2 ≤ b) : -((-x - 1) / b) - 1 = x / b ∧ b + (-((-x - 1) % b) - 1) = x % b := by
  w_top off
  have h1 := Int.emod_nonneg (-x - 1) (show b ≠ 0 by omega)
  have h2 := Int.emod_lt_of_pos (-x - 1) (show 0 < b by omega)
  have h3 := Int.mul_ediv_add_emod (-x - 1) b
  have e : x = (-((-x - 1) / b) - 1) * b + (b + (-((-x - 1) % b) - 1)) := by
    rw [Int.sub_mul, Int.one_mul, Int.neg_mul, Int.mul_comm ((-x - 1) / b)]; omega
  constructor
  · conv => rhs; rw [e]
    exact (div_of (by omega) (by omega)).symm
  · conv => rhs; rw [e]
    exact (mod_of (by omega) (by omega)).symm
set_option maxRecDepth 100000 in
set_option maxHeartbeats 16000000 in
theorem dm_neg (w : World) (loose mean mg mb) (x b : Int) (h0 : x < 0) (h1 : -65536 < x) (hb : 2 ≤ b) (hb' : b < 16) : DivC 88 w loose mean mg mb 88 x b := by
  w_top off
  obtain ⟨e1, e2⟩ := neg_div (x := x) hb
  unfold DivC
  k_fill
  intro t u dp un gd cn cs a ccd cl outer A₀ base h₀ L m p q rest s Q E B F X N T hk C62 C69 o62 o69 hT hT' hd hu hret
  refine wpAny_call ?_
  k_with_none
  k_dflt cell_enter
  k_with "newTuple" => (k_here; (rename News _ _ _ _ => kM); k_dflt (refine' newTuple_N ?F kM ?_ ?z; (case F => k_asm); (case z => size_fits)); have lF := lt_news kM; intro h' F' N')
  k_steps
  refine dm_pos w loose mean mg mb _ _ (show 0 ≤ -x - 1 by omega) (show -x - 1 < 65536 by omega) hb hb' _ _ _ _ _ _ _ _ _ _ _ _ _ _ _ _ _ _ _ _ _ _ (by k_asm) (by k_asm) (by k_asm) (by k_asm) (by k_asm) (by first | exact rfl | assumption) C62 C69 o62 o69 hT hT' (by ktr_room) (by ktr_units) ?_
  intro D h9 tk9 p' q' more t1 t2 k9 F9 N9 T9 T9' g9
  (try dsimp only)
  (try k_fold)
  k_steps
  (rename News _ _ _ _ => kN)
  have e1' : Builtin.bitNot ((-x - 1) / b) = x / b := e1
  have e2' : b + Builtin.bitNot ((-x - 1) % b) = x % b := e2
  rw [e1', e2'] at kN
  refine hret _ _ _ p' q' more _ _ _ (by assumption) (drop_second kN) T9 T9' ?e4
  case e4 =>
    intro z hz
    refine ⟨?_, (g9 z hz).2⟩
    rcases List.mem_cons.mp hz with rfl | hz
    · exact lF (62, tabObj p') (.tail _ (.head _))
    rcases List.mem_cons.mp hz with rfl | hz
    · exact lF (69, tabObj q') (.tail _ (.tail _ (.head _)))
    · exact lF z (.tail _ (.tail _ (.tail _ (List.mem_append_right _ hz))))
theorem dm_con (w : World) (loose mean mg mb) (x b : Int) (h0 : -65536 < x) (h1 : x < 65536) (hb : 2 ≤ b) (hb' : b < 16) : DivC 88 w loose mean mg mb 88 x b := by
  w_top off
  by_cases h : x < 0
  · exact dm_neg w loose mean mg mb x b h h0 hb hb'
  · have C := dm_pos w loose mean mg mb x b (by omega) h1 hb hb'
    intro t u dp un gd cn cs a ccd cl outer A₀ base h₀ L m p q rest s Q E B F X N T hk C62 C69 o62 o69 hT hT' hd hu hret
    exact C t u dp un gd cn cs a ccd cl outer A₀ base h₀ L m p q rest s Q E B F X N T hk C62 C69 o62 o69 hT hT' (by omega) (by omega) hret
end Mine
namespace Mine
local macro_rules | `(tactic| walk_at "no such 0") => `(tactic| skip)
local macro_rules | `(tactic| walk_at "no such 1") => `(tactic| skip)
local macro_rules | `(tactic| walk_at "no such 2") => `(tactic| skip)
local macro_rules | `(tactic| walk_at "no such 3") => `(tactic| skip)
local macro_rules | `(tactic| walk_at "no such 4") => `(tactic| skip)
local macro_rules | `(tactic| walk_at "no such 5") => `(tactic| skip)
local macro_rules | `(tactic| walk_at "no such 6") => `(tactic| skip)
local macro_rules | `(tactic| walk_at "no such 7") => `(tactic| skip)
local macro_rules | `(tactic| walk_at "no such 8") => `(tactic| skip)
local macro_rules | `(tactic| omega) => `(tactic| lia)
local macro_rules | `(tactic| walk_at $s:str) => `(tactic| k_extra $s)
local macro_rules | `(tactic| walk_at "PostG") => `(tactic| dsimp only [PostG])
local macro_rules | `(tactic| walk_at "ite") => `(tactic| first | refine ite_f (by with_reducible assumption) ?_ | refine ite_t (by with_reducible assumption) ?_ | refine ite_ne_f (by with_reducible assumption) ?_ | refine ite_dec_f (by omega) ?_ | refine ite_dec_t (by omega) ?_)
def restsL (a b : Int) (n : Nat) : List Int := (List.range n).map fun k : Nat => (a * (k : Int)) % b
abbrev RestsC (w : World) (loose : List Str) (mean : ExcName → Option Value) (mg mb : Str → Option Value) (x b : Int) : Prop :=
  ∀ (t u : Tok) (dp un : Nat) (gd : Option (List Code)) (cn : Str) (cs : Scope) (a : Addr) (ccd : Value) (cl : List (Str × Addr)) (outer : List Env) (A₀ : Around) (base h₀ : Heap) (L : Addr) (m : Str → Option Value) (p q : Array Value) (rest : List (Addr × Obj)) (s : Shared) (Q E : Value → Shared → Prop),
    Below A₀ base outer h₀ → Fr h₀ L s.heap m → (Mine.hd.heap_39 w.params).In h₀ → News h₀ L s.heap ((62, tabObj p) :: (69, tabObj q) :: rest) → Top topProg loose mean mg mb h₀ → cs.kind = .function →
    CodeHd base 66 62 → CodeHd base 73 69 → (∀ q ∈ rest, q.1 ≠ 62) → (∀ q ∈ rest, q.1 ≠ 69) → T62 p rest → T69 q rest → dp + 100 < recursionLimit → un + 1000 < cLine →
    (∀ R h' tk' vs kk p' q' more, IntsAre vs (restsL x b b.toNat) → Fr h₀ L h' m → News h₀ L h' ((R, listOf vs.toArray kk) :: (62, tabObj p') :: (69, tabObj q') :: (more ++ rest)) →
      (∀ r ∈ (62, tabObj p) :: (69, tabObj q) :: rest, r.1 < R ∧ ∀ z ∈ more, r.1 < z.1) → (∀ z ∈ more, R < z.1) → Q (.ref R) { s with heap := h', toks := tk' }) →
      wpAny (model PySem.Challenge.rw_rs0142_01.row.prog w) (ktrTop dp un gd cn cs L a ccd cl outer) (call (.ref 126) [.int x t, .int b u]) Q E s
set_option maxRecDepth 100000 in
set_option maxHeartbeats 16000000 in
theorem rests_con (w : World) (loose mean mg mb) (x b : Int) (h0 : -100 < x) (h1 : x < 100) (hb : 3 ≤ b) (hb' : b < 14) : RestsC w loose mean mg mb x b := by
  w_top off
  unfold RestsC
  k_fill
  intro t u dp un gd cn cs a ccd cl outer A₀ base h₀ L m p q rest s Q E B F X N T hk C62 C69 o62 o69 hT hT' hd hu hret
  refine wpAny_call ?_
  k_with_none
  k_dflt cell_enter
  k_with "newList" => (k_here; k_dflt (refine' newList_K ?F ?N ?_ ?z; (case F => k_asm); (case N => k_asm); (case z => size_fits)); intro R h' F' N' lR)
  k_with "pyIter ref" => refine Stop.at ?_
  k_steps
  refine Stop.on ?_
  (rename News _ _ _ _ => kN)
  (rename Fr _ _ _ _ => kF)
  (rename IsRange _ _ _ _ _ _ _ _ => kR)
  have R62 : 62 < R := lR (62, tabObj p) (.head _)
  have R69 : 69 < R := lR (69, tabObj q) (.tail _ (.head _))
  have RY : ∀ z ∈ rest, z.1 < R := fun z hz => lR z (.tail _ (.tail _ hz))
  refine range_st (σ := (List Value × List Int × Nat) × (Array Value × Array Value) × List (Addr × Obj)) (n := b.toNat)
    (fun c => (R, listOf c.1.1.toArray c.1.2.2) :: (62, tabObj c.2.1.1) :: (69, tabObj c.2.1.2) :: (c.2.2 ++ rest)) (fun _ => []) [Str.ofString "quotient", Str.ofString "rest"]
    (fun i c => IntsAre c.1.1 c.1.2.1 ∧ c.1.2.1 = restsL x b i ∧ T62 c.2.1.1 (c.2.2 ++ rest) ∧ T69 c.2.1.2 (c.2.2 ++ rest) ∧ (∀ z ∈ c.2.2, R < z.1))
    (([], [], 0), (p, q), []) rfl kR (small_one (by omega) (by omega) (by omega) (by omega)) ?sz kF kN ?hk ?hp ?turn ?done
  case sz => rw [rangeSize_nat]; omega
  case hk => exact List.forall_mem_nil _
  case hp => exact ⟨.nil, rfl, hT, hT', List.forall_mem_nil _⟩
  case turn =>
    clear kN kF kR
    rintro I ⟨⟨vs, ns, kk⟩, ⟨p1, q1⟩, more⟩ i tk0 u0 hx tkx own hi hI hO hL hE ⟨iv, en, t62, t69, gm⟩ Fx Nx
    dsimp only [envOf] at iv en t62 t69 gm Nx Fx hL hI
    have hi2 : (i : Int) < 13 := by omega
    have hx1 : x * (i : Int) ≤ 99 * (i : Int) := Int.mul_le_mul_of_nonneg_right (by omega) (by omega)
    have hx2 : -99 * (i : Int) ≤ x * (i : Int) := Int.mul_le_mul_of_nonneg_right (by omega) (by omega)
    have hx3 : (x * (i : Int)) / b * b + (x * (i : Int)) % b = x * (i : Int) := by rw [Int.mul_comm]; exact Int.mul_ediv_add_emod _ _
    have hm0 := Int.emod_nonneg (x * (i : Int)) (show b ≠ 0 by omega)
    have hm1 := Int.emod_lt_of_pos (x * (i : Int)) (show 0 < b by omega)
    have IR : R < I := hI _ (.head _)
    have I62 : 62 < I := Nat.lt_trans R62 IR
    have I69 : 69 < I := Nat.lt_trans R69 IR
    obtain ⟨Z, hZ⟩ : ∃ Z, Z = own ++ (more ++ rest) := ⟨_, rfl⟩
    have offZ : ∀ (d : Nat), d ≤ R → (∀ z ∈ rest, z.1 ≠ d) → ∀ z ∈ Z, z.1 ≠ d := by
      intro d hd hr z hz
      rw [hZ] at hz
      rcases List.mem_append.mp hz with h | h
      · rw [hO z h]; exact Nat.ne_of_gt (Nat.lt_of_le_of_lt hd IR)
      rcases List.mem_append.mp h with h | h
      · exact Nat.ne_of_gt (Nat.lt_of_le_of_lt hd (gm z h))
      · exact hr z h
    have subZ : ∀ z ∈ more ++ rest, z ∈ Z := fun z hz => by rw [hZ]; exact List.mem_append_right _ hz
    have Nx2 : News _ _ _ ((R, listOf vs.toArray kk) :: (62, tabObj p1) :: (69, tabObj q1) :: Z) := cb_drop Nx (by
      rw [hZ]; intro z hz
      simp only [List.mem_cons, List.mem_append] at hz ⊢
      rcases hz with h | h | h | h | h | h <;> simp [h])
    clear Nx
    have hlen : vs.length ≤ 20 := by rw [iv.length, en, restsL, List.length_map, List.length_range]; omega
    (try k_fold)
    k_with_none
    k_with "call ref" => refine Stop.at ?_
    k_steps
    refine Stop.on ?_
    (rename News _ _ _ _ => kN)
    refine dm_con w loose mean mg mb _ _ (by omega) (by omega) (by omega) (by omega) _ _ _ _ _ _ _ _ _ _ _ _ _ _ _ _ p1 q1 ((R, listOf vs.toArray kk) :: Z) _ _ _ (by k_asm) (by k_asm) (by k_asm) (cb_drop kN ?sub) (by k_asm) (by first | exact rfl | assumption) C62 C69 ?f62 ?f69 (t62.more fun z hz => .tail _ (subZ z hz)) (t69.more fun z hz => .tail _ (subZ z hz)) (by ktr_room) (by ktr_units) ?_
    case sub =>
      intro z hz
      simp only [List.mem_cons] at hz ⊢
      rcases hz with h | h | h | h <;> simp [h]
    case f62 => exact List.forall_mem_cons.mpr ⟨Nat.ne_of_gt R62, offZ 62 (Nat.le_of_lt R62) o62⟩
    case f69 => exact List.forall_mem_cons.mpr ⟨Nat.ne_of_gt R69, offZ 69 (Nat.le_of_lt R69) o69⟩
    intro D h9 tk9 p2 q2 more2 t1 t2 k9 F9 N9 T9 T9' g9
    have DR : R < D := (g9 (R, listOf vs.toArray kk) (.tail _ (.tail _ (.head _)))).1
    obtain ⟨V, hV⟩ : ∃ V, V = more2 ++ Z := ⟨_, rfl⟩
    have offV : ∀ z ∈ ((D, ({ cls := .type "tuple", data := .seq #[.int (x * (i : Int) / b) t1, .int (x * (i : Int) % b) t2] k9 } : Obj)) :: (62, tabObj p2) :: (69, tabObj q2) :: V), z.1 ≠ R := by
      refine List.forall_mem_cons.mpr ⟨Nat.ne_of_gt DR, List.forall_mem_cons.mpr ⟨Nat.ne_of_lt R62, List.forall_mem_cons.mpr ⟨Nat.ne_of_lt R69, fun z hz => ?_⟩⟩⟩
      rw [hV] at hz
      rcases List.mem_append.mp hz with h | h
      · exact Nat.ne_of_gt ((g9 (R, listOf vs.toArray kk) (.tail _ (.tail _ (.head _)))).2 z h)
      · exact offZ R (Nat.le_refl _) (fun z hz => Nat.ne_of_lt (RY z hz)) z h
    have N10 : News _ _ _ ((R, listOf vs.toArray kk) :: (D, ({ cls := .type "tuple", data := .seq #[.int (x * (i : Int) / b) t1, .int (x * (i : Int) % b) t2] k9 } : Obj)) :: (62, tabObj p2) :: (69, tabObj q2) :: V) := cb_drop N9 (by
      rw [hV]; intro z hz
      simp only [List.mem_cons, List.mem_append] at hz ⊢
      rcases hz with h | h | h | h | h | h <;> simp [h])
    clear N9
    (try dsimp only)
    (try k_fold)
    k_with_none
    k_with "call builtin:list.append" => (k_here; k_dflt (refine' append_K ?k1 ?k2 ?k3 ?_ ?z; (case k1 => k_asm); (case k2 => k_asm); (case k3 => exact Upd.head offV); (case z => (rw [sizeLine_eq, List.size_toArray]; omega))); intro h' F' N')
    k_steps
    (rename News _ _ _ _ => kN)
    (rename Fr _ _ _ _ => kF)
    rw [List.push_toArray] at kN
    refine endG ((R, listOf (vs ++ [Value.int (x * (i : Int) % b) t2]).toArray (kk + 1)) :: (62, tabObj p2) :: (69, tabObj q2) :: ((more2 ++ more) ++ rest)) kF kN ?e1 ?e2 ⟨((vs ++ [Value.int (x * (i : Int) % b) t2], ns ++ [x * (i : Int) % b], kk + 1), (p2, q2), more2 ++ more), rfl, ?e3, ?e4, ?e5⟩
    case e1 =>
      intro z hz
      rw [hV, hZ]
      simp only [List.mem_cons, List.mem_append] at hz ⊢
      rcases hz with h | h | h | h | (h | h) | h <;> simp [h]
    case e2 =>
      refine List.forall_mem_cons.mpr ⟨Nat.ne_of_lt IR, List.forall_mem_cons.mpr ⟨Nat.ne_of_lt I62, List.forall_mem_cons.mpr ⟨Nat.ne_of_lt I69, fun z hz => ?_⟩⟩⟩
      rw [List.append_assoc] at hz
      rcases List.mem_append.mp hz with h | h
      · obtain ⟨z0, hz0, e0⟩ := hE
        rw [← e0]
        exact Nat.ne_of_gt ((g9 z0 (.tail _ (.tail _ (.tail _ (by rw [hZ]; exact List.mem_append_left _ hz0))))).2 z h)
      · exact hL z (.tail _ (.tail _ (.tail _ h)))
    case e3 => exact List.forall_mem_nil _
    case e4 =>
      intro z h1 _ h3
      have h4 : z ≠ Str.ofString "quotient" := by rintro rfl; simp at h3
      have h5 : z ≠ Str.ofString "rest" := by rintro rfl; simp at h3
      simp only [kstB, if_neg h1, if_neg h4, if_neg h5, h3, if_false, Bool.false_eq_true]
    case e5 =>
      refine ⟨IntsAre.append iv (.cons _ _ .nil), ?_, ?_, ?_, ?_⟩
      · show ns ++ _ = _
        rw [en, restsL, restsL, List.range_succ, List.map_append]; rfl
      · show T62 p2 ((more2 ++ more) ++ rest)
        rw [List.append_assoc]; exact t62.new T9
      · show T69 q2 ((more2 ++ more) ++ rest)
        rw [List.append_assoc]; exact t69.new T9'
      · intro z hz
        rcases List.mem_append.mp hz with h | h
        · exact (g9 (R, listOf vs.toArray kk) (.tail _ (.tail _ (.head _)))).2 z h
        · exact gm z h
  case done =>
    clear kN kF kR
    rintro ⟨⟨vs, ns, kk⟩, ⟨p1, q1⟩, more⟩ u0 hx tkx ⟨iv, en, t62, t69, gm⟩ Fx Nx
    dsimp only [envOf] at iv en t62 t69 gm Nx Fx
    (try k_fold)
    k_with_none
    k_steps
    subst en
    refine hret _ _ _ vs kk p1 q1 more iv (by assumption) (by assumption) ?_ gm
    intro z hz
    have hR : z.1 < R := by
      rcases List.mem_cons.mp hz with rfl | hz
      · exact R62
      rcases List.mem_cons.mp hz with rfl | hz
      · exact R69
      · exact RY z hz
    exact ⟨hR, fun y hy => Nat.lt_trans hR (gm y hy)⟩
end Mine
namespace Mine
def dueF (f s : Nat) : Nat := 2 * (max f s - min f s) + (if f < s ∧ f % 4 = 3 ∧ s % 4 = 3 then 1 else 0)
def flipF (s : Nat) : Nat := if s % 8 = 3 ∨ s % 8 = 5 then 1 else 0
/-- what the run tells of f and s: the second number, the turns -/
def runF : Nat → Nat → Nat → Nat × Nat
  | 0, _, s => (s, 0)
  | n + 1, f, s => if f = 0 then (s, 0) else if f % 2 = 0 then ((runF n (f / 2) s).1, (runF n (f / 2) s).2 + flipF s) else ((runF n (dueF f s / 2) (min f s)).1, (runF n (dueF f s / 2) (min f s)).2 + dueF f s % 2)
def gF (f s : Nat) : Nat := (runF 30 f s).1
def eF (f s : Nat) : Nat := (runF 30 f s).2
theorem runF_even : ∀ f, f < 14 → ∀ s, s < 14 → 0 < f → f % 2 = 0 → gF f s = gF (f / 2) s ∧ eF f s = eF (f / 2) s + flipF s := by decide +kernel
theorem runF_odd : ∀ f, f < 14 → ∀ s, s < 14 → f % 2 = 1 → s % 2 = 1 → gF f s = gF (dueF f s / 2) (min f s) ∧ eF f s = eF (dueF f s / 2) (min f s) + dueF f s % 2 := by decide +kernel
theorem runF_zero : ∀ s, gF 0 s = s ∧ eF 0 s = 0 := fun _ => ⟨rfl, rfl⟩
theorem runF_small : ∀ f, f < 14 → ∀ s, s < 14 → eF f s < 20 ∧ gF f s < 20 := by decide +kernel
def levOk (g l : Nat) (m : Bool) (due : Nat) : Bool :=
  (List.range 3).all fun i => lev (wordL g g false) (wordL g l m) ((due : Int) - 1 + i) == (due : Int) && lev (wordL g l m) (wordL g g false) ((due : Int) - 1 + i) == (due : Int)
def marksF (f s : Nat) : Bool := decide (f < s) && f % 4 == 3 && s % 4 == 3
theorem lev_all : ∀ f, f < 14 → ∀ s, s < 14 → f % 2 = 1 → s % 2 = 1 → levOk (max f s) (min f s) (marksF f s) (dueF f s) = true := by decide +kernel
theorem word_low : ∀ g, g < 14 → ∀ l, l < 14 → l ≤ g → ∀ m : Bool, (∀ k ∈ wordL g l m, k < 128) ∧ (wordL g l m).length ≤ 30 := by decide +kernel
end Mine
namespace Mine
local macro_rules | `(tactic| omega) => `(tactic| lia)
local macro_rules | `(tactic| walk_at $s:str) => `(tactic| k_extra $s)
local macro_rules | `(tactic| walk_at "MidN") => `(tactic| dsimp only [MidN])
local macro_rules | `(tactic| walk_at "ite") => `(tactic| first | refine ite_f (by with_reducible assumption) ?_ | refine ite_t (by with_reducible assumption) ?_ | with_reducible refine ite_f (bne_self_eq_false _) ?_ | with_reducible refine ite_t (beq_self_eq_true _) ?_ | refine ite_dec_f (by omega) ?_ | refine ite_dec_t (by omega) ?_)
theorem half_len {n : Int} (h : 0 ≤ n) : ((half n).length : Int) = n / 2 + 1 - n % 2 := by
  w_top off
  rw [len_codes]; unfold half; simp; omega
theorem flip_t {s : Int} (h0 : 1 ≤ s) (h : ([3, 5].any fun x => x == s.fmod 8) = true) : (flipF s.toNat : Int) = 1 := by
  w_top off
  rw [Int.fmod_eq_emod_of_nonneg _ (by omega)] at h
  simp at h
  unfold flipF
  rw [if_pos (by omega)]; rfl
theorem flip_f {s : Int} (h0 : 1 ≤ s) (h : ([3, 5].any fun x => x == s.fmod 8) = false) : (flipF s.toNat : Int) = 0 := by
  w_top off
  rw [Int.fmod_eq_emod_of_nonneg _ (by omega)] at h
  simp at h
  unfold flipF
  rw [if_neg (by omega)]; rfl
theorem even_P {f2 s1 t2 t' d len f1 t1 : Int} {G Ef : Nat} (q0 : 1 ≤ f2) (q1 : f2 ≤ f1) (hf1 : f1 < 14) (p2 : 1 ≤ s1) (p3 : s1 < 14) (ev : f2.fmod 2 = 0) (hl : len = f2 / 2 + 1 - f2 % 2) (q2 : t1 ≤ t2) (q3 : gF f2.toNat s1.toNat = G) (q4 : t2 + (eF f2.toNat s1.toNat : Int) = Ef)
    (hd : (flipF s1.toNat : Int) = d) (ht : t' = t2 + d) : (1 ≤ len - 1 ∧ len - 1 ≤ f1 ∧ t1 ≤ t' ∧ gF (len - 1).toNat s1.toNat = G ∧ t' + (eF (len - 1).toNat s1.toNat : Int) = Ef) ∧ (len - 1).toNat < f2.toNat := by
  w_top off
  rw [Int.fmod_eq_emod_of_nonneg _ (by omega)] at ev
  obtain ⟨r1, r2⟩ := runF_even f2.toNat (by omega) s1.toNat (by omega) (by omega) (by omega)
  have e : (len - 1).toNat = f2.toNat / 2 := by omega
  rw [e]
  refine ⟨⟨by omega, by omega, by omega, by rw [← r1]; exact q3, ?_⟩, by omega⟩
  rw [r2] at q4
  push_cast at q4
  omega
theorem word_any (w : World) (loose mean mg mb) (g l : Int) (m : Bool) (t u : Tok) (h0 : 1 ≤ l) (h1 : l ≤ g) (h2 : g ≤ 13) : Con 5 w loose mean mg mb 107 [.int g t, .int l u, .bool m] (fun v => ∃ t', v = .str ⟨(wordL g.toNat l.toNat m).toArray⟩ t') := by
  w_top off
  cases m with
  | false => exact word_con w loose mean mg mb g l t u h0 h1 h2
  | true => exact word_mk w loose mean mg mb g l t u h0 h1 h2
def LevP (d r : Int) (x y : Str) : Prop := x.length ≤ 30 ∧ y.length ≤ 30 ∧ (∀ k ∈ x.cps.toList, k < 128) ∧ (∀ k ∈ y.cps.toList, k < 128) ∧ lev x.cps.toList y.cps.toList (d - 1 + r) = d
theorem pick_two {P : Str → Str → Prop} {x y : Str} {i : Int} (h0 : 0 ≤ i) (h1 : i < 2) (a : P x y) (b : P y x) : P ([x, y].getD i.toNat Str.empty) ([x, y].getD (1 - i).toNat Str.empty) := by
  w_top off
  have : i = 0 ∨ i = 1 := by omega
  rcases this with rfl | rfl
  · exact a
  · exact b
theorem lev_P {f s r : Int} (hf : 1 ≤ f) (hf' : f < 14) (hs : 1 ≤ s) (hs' : s < 14) (of : f % 2 = 1) (os : s % 2 = 1) (r0 : 0 ≤ r) (r1 : r < 3) {g l d : Int} (e1 : g = (max f.toNat s.toNat : Nat)) (e2 : l = (min f.toNat s.toNat : Nat)) (e3 : d = (dueF f.toNat s.toNat : Nat)) :
    LevP d r ⟨(wordL g.toNat g.toNat false).toArray⟩ ⟨(wordL g.toNat l.toNat (marksF f.toNat s.toNat)).toArray⟩ ∧ LevP d r ⟨(wordL g.toNat l.toNat (marksF f.toNat s.toNat)).toArray⟩ ⟨(wordL g.toNat g.toNat false).toArray⟩ := by
  w_top off
  obtain ⟨x, rfl⟩ : ∃ x : Nat, f = x := ⟨f.toNat, by omega⟩
  obtain ⟨y, rfl⟩ : ∃ y : Nat, s = y := ⟨s.toNat, by omega⟩
  simp only [Int.toNat_natCast] at *
  have h := lev_all x (by omega) y (by omega) (by omega) (by omega)
  subst e1 e2
  rw [e3]
  simp only [Int.toNat_natCast] at *
  have hM : max x y < 14 := Nat.max_lt.mpr ⟨by omega, by omega⟩
  have hm : min x y ≤ max x y := Nat.le_trans (Nat.min_le_left _ _) (Nat.le_max_left _ _)
  obtain ⟨a1, a2⟩ := word_low (max x y) hM (max x y) hM (Nat.le_refl _) false
  obtain ⟨b1, b2⟩ := word_low (max x y) hM (min x y) (Nat.lt_of_le_of_lt hm hM) hm (marksF x y)
  unfold levOk at h
  have h' := List.all_eq_true.mp h r.toNat (List.mem_range.mpr (by omega))
  rw [Bool.and_eq_true, beq_iff_eq, beq_iff_eq, Int.toNat_of_nonneg r0] at h'
  exact ⟨⟨a2, b2, a1, b1, h'.1⟩, ⟨b2, a2, b1, a1, h'.2⟩⟩
theorem pick_max {n m : Nat} : (if (m : Int) > n then (m : Int) else n) = (max n m : Nat) := by
  w_top off
  split
  · rw [Nat.max_eq_right (by omega)]
  · rw [Nat.max_eq_left (by omega)]
theorem pick_min {n m : Nat} : (if (m : Int) < n then (m : Int) else n) = (min n m : Nat) := by
  w_top off
  split
  · rw [Nat.min_eq_right (by omega)]
  · rw [Nat.min_eq_left (by omega)]
theorem pick_due {n m k : Nat} : 2 * (((max n m : Nat) : Int) - (min n m : Nat)) + k = (2 * (max n m - min n m) + k : Nat) := by
  w_top off
  have h : min n m ≤ max n m := Nat.le_trans (Nat.min_le_left _ _) (Nat.le_max_left _ _)
  generalize max n m = x at *
  generalize min n m = y at *
  omega
theorem mark_T {m : Bool} {f s sh : Int} (hm : m = true) (hf : 1 ≤ f) (hs : 1 ≤ s) (h1 : f < s) (h2 : f.fmod 4 = 3) (h3 : s.fmod 4 = 3) :
    m = marksF f.toNat s.toNat ∧ (if s > f then s else f) = (max f.toNat s.toNat : Nat) ∧ (if s < f then s else f) = (min f.toNat s.toNat : Nat) ∧ 2 * ((if s > f then s else f) - if s < f then s else f) + 1 = (dueF f.toNat s.toNat : Nat) ∧ sh + 1 = sh + 1 := by
  w_top off
  rw [Int.fmod_eq_emod_of_nonneg _ (by omega)] at h2 h3
  subst hm
  obtain ⟨x, rfl⟩ : ∃ x : Nat, f = x := ⟨f.toNat, by omega⟩
  obtain ⟨y, rfl⟩ : ∃ y : Nat, s = y := ⟨s.toNat, by omega⟩
  simp only [Int.toNat_natCast]
  have e1 : x < y := by omega
  have e2 : x % 4 = 3 := by omega
  have e3 : y % 4 = 3 := by omega
  refine ⟨?_, pick_max, pick_min, ?_, trivial⟩
  · unfold marksF
    simp [e1, e2, e3]
  · unfold dueF
    rw [if_pos (show x < y ∧ x % 4 = 3 ∧ y % 4 = 3 from ⟨e1, e2, e3⟩), pick_max, pick_min]; exact pick_due
theorem mark_F {m : Bool} {f s sh : Int} (hm : m = false) (hf : 1 ≤ f) (hs : 1 ≤ s) (h : ¬ (f < s ∧ f.fmod 4 = 3 ∧ s.fmod 4 = 3)) :
    m = marksF f.toNat s.toNat ∧ (if s > f then s else f) = (max f.toNat s.toNat : Nat) ∧ (if s < f then s else f) = (min f.toNat s.toNat : Nat) ∧ 2 * ((if s > f then s else f) - if s < f then s else f) + 0 = (dueF f.toNat s.toNat : Nat) ∧ sh + 1 = sh + 1 := by
  w_top off
  rw [Int.fmod_eq_emod_of_nonneg _ (by omega), Int.fmod_eq_emod_of_nonneg _ (by omega)] at h
  obtain ⟨x, rfl⟩ : ∃ x : Nat, f = x := ⟨f.toNat, by omega⟩
  obtain ⟨y, rfl⟩ : ∃ y : Nat, s = y := ⟨s.toNat, by omega⟩
  simp only [Int.toNat_natCast]
  have hn : ¬ (x < y ∧ x % 4 = 3 ∧ y % 4 = 3) := fun ⟨a, b, c⟩ => h ⟨by omega, by omega, by omega⟩
  subst hm
  refine ⟨?_, pick_max, pick_min, ?_, trivial⟩
  · unfold marksF
    symm
    rw [Bool.eq_false_iff]
    intro h'
    simp only [Bool.and_eq_true, decide_eq_true_eq, beq_iff_eq] at h'
    exact hn ⟨h'.1.1, h'.1.2, h'.2⟩
  · unfold dueF
    rw [if_neg hn, pick_max, pick_min]; exact pick_due (k := 0)
def tailAt (K : Frag) (f : Addr) : Option (Str × Scope × Value × List Stmt) := match K.lookup f with
  | some ⟨_, _, .func fd, _⟩ => (match fd.body with | .stmts (_ :: .While _ (_ :: _ :: _ :: tl) _ _ :: _) => some (fd.qualname, fd.scope, fd.code, tl) | _ => none)
  | _ => none
def temps : List Str := [Str.ofString "told", Str.ofString "marked", Str.ofString "great", Str.ofString "less", Str.ofString "due", Str.ofString "words", Str.ofString "apart", Str.ofString "first", Str.ofString "second", Str.ofString "shift", Str.ofString "turns"]
/-- what the frame is between two parts: some names, all else a letter -/
theorem fr_letter {h₀ h : Heap} {L : Addr} {W : Str → Option Value} {ps : List (Str × Value)} (F : Fr h₀ L h (kstB W ps)) : ∃ U, U = W ∧ Fr h₀ L h (kstB U ps) := ⟨W, rfl, F⟩
set_option maxRecDepth 100000 in
set_option maxHeartbeats 32000000 in
theorem tail_one (w : World) (loose mean mg mb) (qual : Str) (sc : Scope) (cd : Value) (body : List Stmt) (hdef : tailAt (Mine.hd.heap_39 w.params) 133 = some (qual, sc, cd, body))
    (dp un : Nat) (gd : Option (List Code)) (outer : List Env) (A₀ : Around) (base h₀ : Heap) (L : Addr) (W : Str → Option Value) (news : List (Addr × Obj)) (s : Shared) (Q : Flow → Shared → Prop) (E : Value → Shared → Prop)
    (f2 s1 sh1 t2 : Int) (tf2 ts tsh tt2 : Tok) (q0 : 1 ≤ f2) (q1 : f2 < 14) (p2 : 1 ≤ s1) (p3 : s1 < 14)
    (B : Below A₀ base outer h₀) (F : Fr h₀ L s.heap (kstB W [(Str.ofString "first", .int f2 tf2), (Str.ofString "second", .int s1 ts), (Str.ofString "shift", .int sh1 tsh), (Str.ofString "turns", .int t2 tt2)])) (X : (Mine.hd.heap_39 w.params).In h₀) (N : News h₀ L s.heap news) (T : Top topProg loose mean mg mb h₀)
    (hd : dp + 27 < recursionLimit) (hu : un + 10 * 27 < cLine)
    (hret : ∀ (g l d : Int) (tg tl td tsh' : Tok) h tk, g = (max f2.toNat s1.toNat : Nat) → l = (min f2.toNat s1.toNat : Nat) → d = (dueF f2.toNat s1.toNat : Nat) →
      Fr h₀ L h (kstB W [(Str.ofString "marked", .bool (marksF f2.toNat s1.toNat)), (Str.ofString "great", .int g tg), (Str.ofString "less", .int l tl), (Str.ofString "due", .int d td), (Str.ofString "shift", .int (sh1 + 1) tsh'), (Str.ofString "first", .int f2 tf2), (Str.ofString "second", .int s1 ts), (Str.ofString "turns", .int t2 tt2)]) → News h₀ L h news →
      wpAny (model PySem.Challenge.rw_rs0142_01.row.prog w) (ktrTop dp un gd qual sc L 133 cd [] outer) (execs (body.drop 4) (envX qual sc L 133 cd [])) Q E { s with heap := h, toks := tk }) :
    wpAny (model PySem.Challenge.rw_rs0142_01.row.prog w) (ktrTop dp un gd qual sc L 133 cd [] outer) (execs body (envX qual sc L 133 cd [])) Q E s := by
  cases hdef
  simp only [List.drop_succ_cons, List.drop_zero] at hret
  revert X
  k_fill
  intro X
  refine cut_at (σ := Bool × (Int × Tok) × (Int × Tok) × (Int × Tok) × (Int × Tok)) 4 (fun _ => news)
      (fun c => [(Str.ofString "marked", .bool c.1), (Str.ofString "great", .int c.2.1.1 c.2.1.2), (Str.ofString "less", .int c.2.2.1.1 c.2.2.1.2), (Str.ofString "due", .int c.2.2.2.1.1 c.2.2.2.1.2), (Str.ofString "shift", .int c.2.2.2.2.1 c.2.2.2.2.2)]) []
      (fun c => c.1 = marksF f2.toNat s1.toNat ∧ c.2.1.1 = (max f2.toNat s1.toNat : Nat) ∧ c.2.2.1.1 = (min f2.toNat s1.toNat : Nat) ∧ c.2.2.2.1.1 = (dueF f2.toNat s1.toNat : Nat) ∧ c.2.2.2.2.1 = sh1 + 1) F ?_ ?_
  · dsimp only [List.take_succ_cons, List.take_zero]
    k_with_none
    k_with "MidEnd" => refine Stop.at ?_
    k_steps
    all_goals (refine Stop.on ?_; (rename News _ _ _ _ => kN); (rename Fr _ _ _ _ => kF))
    all_goals try omega
    · refine mid_end ⟨s1.fmod 4 == 3, (if s1 > f2 then s1 else f2, if s1 > f2 then ts else tf2), (if s1 < f2 then s1 else f2, if s1 < f2 then ts else tf2), (2 * ((if s1 > f2 then s1 else f2) - if s1 < f2 then s1 else f2) + 1, _), (sh1 + 1, _)⟩ kF kN (fun _ hp => by first | exact hp | exact List.mem_cons_of_mem _ hp) (List.forall_mem_cons.mpr ⟨rfl, List.forall_mem_cons.mpr ⟨rfl, List.forall_mem_cons.mpr ⟨rfl, List.forall_mem_cons.mpr ⟨rfl, List.forall_mem_cons.mpr ⟨rfl, List.forall_mem_nil _⟩⟩⟩⟩⟩) ?_ (mark_T (beq_iff_eq.mpr (by assumption)) q0 p2 (by assumption) (by assumption) (by assumption))
      intro z h2 _
      have a1 : z ≠ Str.ofString "marked" := h2 _ (.head _)
      have a2 : z ≠ Str.ofString "great" := h2 _ (.tail _ (.head _))
      have a3 : z ≠ Str.ofString "less" := h2 _ (.tail _ (.tail _ (.head _)))
      have a4 : z ≠ Str.ofString "due" := h2 _ (.tail _ (.tail _ (.tail _ (.head _))))
      have a5 : z ≠ Str.ofString "shift" := h2 _ (.tail _ (.tail _ (.tail _ (.tail _ (.head _)))))
      simp only [if_neg a1, if_neg a2, if_neg a3, if_neg a4, if_neg a5]
    · refine mid_end ⟨s1.fmod 4 == 3, (if s1 > f2 then s1 else f2, if s1 > f2 then ts else tf2), (if s1 < f2 then s1 else f2, if s1 < f2 then ts else tf2), (2 * ((if s1 > f2 then s1 else f2) - if s1 < f2 then s1 else f2) + 0, _), (sh1 + 1, _)⟩ kF kN (fun _ hp => by first | exact hp | exact List.mem_cons_of_mem _ hp) (List.forall_mem_cons.mpr ⟨rfl, List.forall_mem_cons.mpr ⟨rfl, List.forall_mem_cons.mpr ⟨rfl, List.forall_mem_cons.mpr ⟨rfl, List.forall_mem_cons.mpr ⟨rfl, List.forall_mem_nil _⟩⟩⟩⟩⟩) ?_ (mark_F (beq_eq_false_iff_ne.mpr (by assumption)) q0 p2 fun h => absurd h.2.2 (by assumption))
      intro z h2 _
      have a1 : z ≠ Str.ofString "marked" := h2 _ (.head _)
      have a2 : z ≠ Str.ofString "great" := h2 _ (.tail _ (.head _))
      have a3 : z ≠ Str.ofString "less" := h2 _ (.tail _ (.tail _ (.head _)))
      have a4 : z ≠ Str.ofString "due" := h2 _ (.tail _ (.tail _ (.tail _ (.head _))))
      have a5 : z ≠ Str.ofString "shift" := h2 _ (.tail _ (.tail _ (.tail _ (.tail _ (.head _)))))
      simp only [if_neg a1, if_neg a2, if_neg a3, if_neg a4, if_neg a5]
    · refine mid_end ⟨f2.fmod 4 == 3, (if s1 > f2 then s1 else f2, if s1 > f2 then ts else tf2), (if s1 < f2 then s1 else f2, if s1 < f2 then ts else tf2), (2 * ((if s1 > f2 then s1 else f2) - if s1 < f2 then s1 else f2) + 0, _), (sh1 + 1, _)⟩ kF kN (fun _ hp => by first | exact hp | exact List.mem_cons_of_mem _ hp) (List.forall_mem_cons.mpr ⟨rfl, List.forall_mem_cons.mpr ⟨rfl, List.forall_mem_cons.mpr ⟨rfl, List.forall_mem_cons.mpr ⟨rfl, List.forall_mem_cons.mpr ⟨rfl, List.forall_mem_nil _⟩⟩⟩⟩⟩) ?_ (mark_F (beq_eq_false_iff_ne.mpr (by assumption)) q0 p2 fun h => absurd h.2.1 (by assumption))
      intro z h2 _
      have a1 : z ≠ Str.ofString "marked" := h2 _ (.head _)
      have a2 : z ≠ Str.ofString "great" := h2 _ (.tail _ (.head _))
      have a3 : z ≠ Str.ofString "less" := h2 _ (.tail _ (.tail _ (.head _)))
      have a4 : z ≠ Str.ofString "due" := h2 _ (.tail _ (.tail _ (.tail _ (.head _))))
      have a5 : z ≠ Str.ofString "shift" := h2 _ (.tail _ (.tail _ (.tail _ (.tail _ (.head _)))))
      simp only [if_neg a1, if_neg a2, if_neg a3, if_neg a4, if_neg a5]
    · refine mid_end ⟨decide (f2 < s1), (if s1 > f2 then s1 else f2, if s1 > f2 then ts else tf2), (if s1 < f2 then s1 else f2, if s1 < f2 then ts else tf2), (2 * ((if s1 > f2 then s1 else f2) - if s1 < f2 then s1 else f2) + 0, _), (sh1 + 1, _)⟩ kF kN (fun _ hp => by first | exact hp | exact List.mem_cons_of_mem _ hp) (List.forall_mem_cons.mpr ⟨rfl, List.forall_mem_cons.mpr ⟨rfl, List.forall_mem_cons.mpr ⟨rfl, List.forall_mem_cons.mpr ⟨rfl, List.forall_mem_cons.mpr ⟨rfl, List.forall_mem_nil _⟩⟩⟩⟩⟩) ?_ (mark_F (decide_eq_false (by assumption)) q0 p2 fun h => absurd h.1 (by assumption))
      intro z h2 _
      have a1 : z ≠ Str.ofString "marked" := h2 _ (.head _)
      have a2 : z ≠ Str.ofString "great" := h2 _ (.tail _ (.head _))
      have a3 : z ≠ Str.ofString "less" := h2 _ (.tail _ (.tail _ (.head _)))
      have a4 : z ≠ Str.ofString "due" := h2 _ (.tail _ (.tail _ (.tail _ (.head _))))
      have a5 : z ≠ Str.ofString "shift" := h2 _ (.tail _ (.tail _ (.tail _ (.tail _ (.head _)))))
      simp only [if_neg a1, if_neg a2, if_neg a3, if_neg a4, if_neg a5]
  rintro ⟨mk, ⟨g, tg⟩, ⟨l, tl⟩, ⟨d, td⟩, ⟨sh2, tsh2⟩⟩ kU kH kTk ⟨r0, r1, r2, r3, r4⟩ Fx2 Nx2
  dsimp only at r0 r1 r2 r3 r4 Fx2 Nx2
  simp only [List.drop_succ_cons, List.drop_zero]
  subst r0 r4
  refine hret g l d tg tl td tsh2 _ _ r1 r2 r3 ?_ Nx2
  have e : kstB (fun z => if ([] : List Str).contains z = true then kU z else kstB W [(Str.ofString "first", .int f2 tf2), (Str.ofString "second", .int s1 ts), (Str.ofString "shift", .int sh1 tsh), (Str.ofString "turns", .int t2 tt2)] z) [(Str.ofString "marked", .bool (marksF f2.toNat s1.toNat)), (Str.ofString "great", .int g tg), (Str.ofString "less", .int l tl), (Str.ofString "due", .int d td), (Str.ofString "shift", .int (sh1 + 1) tsh2)] = kstB W [(Str.ofString "marked", .bool (marksF f2.toNat s1.toNat)), (Str.ofString "great", .int g tg), (Str.ofString "less", .int l tl), (Str.ofString "due", .int d td), (Str.ofString "shift", .int (sh1 + 1) tsh2), (Str.ofString "first", .int f2 tf2), (Str.ofString "second", .int s1 ts), (Str.ofString "turns", .int t2 tt2)] := by
    funext z
    simp only [kstB, List.contains_nil, Bool.false_eq_true, if_false]
    by_cases h5 : z = Str.ofString "shift"
    · subst h5; rfl
    · simp only [if_neg h5]
  rw [← e]
  exact Fx2
set_option maxRecDepth 100000 in
set_option maxHeartbeats 32000000 in
theorem tail_two (w : World) (loose mean mg mb) (qual : Str) (sc : Scope) (cd : Value) (body : List Stmt) (hdef : tailAt (Mine.hd.heap_39 w.params) 133 = some (qual, sc, cd, body))
    (dp un : Nat) (gd : Option (List Code)) (outer : List Env) (A₀ : Around) (base h₀ : Heap) (L : Addr) (W : Str → Option Value) (news : List (Addr × Obj)) (s : Shared) (Q : Flow → Shared → Prop) (E : Value → Shared → Prop)
    (f2 s1 sh1 t2 g l d : Int) (tf2 ts tsh tt2 tg tl td : Tok) (q0 : 1 ≤ f2) (q1 : f2 < 14) (p2 : 1 ≤ s1) (p3 : s1 < 14) (od : f2 % 2 = 1) (p4 : s1 % 2 = 1) (p5 : 0 ≤ sh1)
    (r1 : g = (max f2.toNat s1.toNat : Nat)) (r2 : l = (min f2.toNat s1.toNat : Nat)) (r3 : d = (dueF f2.toNat s1.toNat : Nat))
    (B : Below A₀ base outer h₀) (F : Fr h₀ L s.heap (kstB W [(Str.ofString "marked", .bool (marksF f2.toNat s1.toNat)), (Str.ofString "great", .int g tg), (Str.ofString "less", .int l tl), (Str.ofString "due", .int d td), (Str.ofString "shift", .int (sh1 + 1) tsh), (Str.ofString "first", .int f2 tf2), (Str.ofString "second", .int s1 ts), (Str.ofString "turns", .int t2 tt2)])) (X : (Mine.hd.heap_39 w.params).In h₀) (N : News h₀ L s.heap news) (T : Top topProg loose mean mg mb h₀)
    (hd : dp + 27 < recursionLimit) (hu : un + 10 * 27 < cLine)
    (hret : ∀ (ta : Tok) (V : Str → Option Value) h tk, (∀ z, z ≠ Str.ofString "words" → V z = W z) →
      Fr h₀ L h (kstB V ((Str.ofString "apart", .int d ta) :: [(Str.ofString "marked", .bool (marksF f2.toNat s1.toNat)), (Str.ofString "great", .int g tg), (Str.ofString "less", .int l tl), (Str.ofString "due", .int d td), (Str.ofString "shift", .int (sh1 + 1) tsh), (Str.ofString "first", .int f2 tf2), (Str.ofString "second", .int s1 ts), (Str.ofString "turns", .int t2 tt2)])) → News h₀ L h news →
      wpAny (model PySem.Challenge.rw_rs0142_01.row.prog w) (ktrTop dp un gd qual sc L 133 cd [] outer) (execs (body.drop 7) (envX qual sc L 133 cd [])) Q E { s with heap := h, toks := tk }) :
    wpAny (model PySem.Challenge.rw_rs0142_01.row.prog w) (ktrTop dp un gd qual sc L 133 cd [] outer) (execs (body.drop 4) (envX qual sc L 133 cd [])) Q E s := by
  cases hdef
  simp only [List.drop_succ_cons, List.drop_zero] at hret ⊢
  revert X
  k_fill
  intro X
  have hg1 : 1 ≤ l ∧ l ≤ g ∧ g ≤ 13 := by omega
  obtain ⟨hg1, hg2, hg3⟩ := hg1
  have i0 : 0 ≤ (sh1 + 1).fmod 2 ∧ (sh1 + 1).fmod 2 < 2 := by rw [Int.fmod_eq_emod_of_nonneg _ (by omega)]; omega
  have i1 : 0 ≤ (sh1 + 1).fmod 3 ∧ (sh1 + 1).fmod 3 < 3 := by rw [Int.fmod_eq_emod_of_nonneg _ (by omega)]; omega
  obtain ⟨i00, i01⟩ := i0
  obtain ⟨i10, i11⟩ := i1
  obtain ⟨LA, LB⟩ := lev_P q0 q1 p2 p3 od p4 i10 i11 r1 r2 r3
  have dsm : 0 ≤ d ∧ d < 30 := by
    have : dueF f2.toNat s1.toNat < 30 := by unfold dueF; split <;> omega
    omega
  obtain ⟨d0, d1⟩ := dsm
  obtain ⟨w0, e0⟩ : ∃ w0, w0 = (⟨(wordL g.toNat g.toNat false).toArray⟩ : Str) := ⟨_, rfl⟩
  obtain ⟨w1, e1⟩ : ∃ w1, w1 = (⟨(wordL g.toNat l.toNat (marksF f2.toNat s1.toNat)).toArray⟩ : Str) := ⟨_, rfl⟩
  rw [← e0, ← e1] at LA LB
  obtain ⟨L1, L2, L3, L4, L5⟩ := pick_two (P := LevP d ((sh1 + 1).fmod 3)) i00 i01 LA LB
  clear LA LB r1 r2 r3
  refine cut_at (σ := Int × Tok) 3 (fun _ => news) (fun c => [(Str.ofString "apart", .int c.1 c.2)]) [Str.ofString "words"] (fun c => c.1 = d) F ?_ ?_
  · dsimp only [List.take_succ_cons, List.take_zero]
    k_with_none
    k_with "call ref" => first
      | ((with_reducible show wpAny _ _ (call (Value.ref 107) [_, _, Value.bool false]) _ _ _); k_dflt (refine con_use (word_any _ _ _ _ _ _ _ _ _ _ (by omega) (by omega) (by omega)) (by k_asm) (by k_asm) (by k_asm) (by k_asm) (by k_asm) (by first | exact rfl | assumption) (by ktr_room) (by ktr_units) ?_); rintro r9 h9 tk9 ⟨t9, rfl⟩ F9 N9; rw [← e0]; (try dsimp only); (try k_fold))
      | ((with_reducible show wpAny _ _ (call (Value.ref 107) _) _ _ _); k_dflt (refine con_use (word_any _ _ _ _ _ _ _ _ _ _ (by omega) (by omega) (by omega)) (by k_asm) (by k_asm) (by k_asm) (by k_asm) (by k_asm) (by first | exact rfl | assumption) (by ktr_room) (by ktr_units) ?_); rintro r9 h9 tk9 ⟨t9, rfl⟩ F9 N9; rw [← e1]; (try dsimp only); (try k_fold))
      | ((with_reducible show wpAny _ _ (call (Value.ref 102) _) _ _ _); k_dflt (refine con_use (lev_con _ _ _ _ _ _ _ _ _ _ _ L1 L2 (by omega) (by omega) L3 L4) (by k_asm) (by k_asm) (by k_asm) (by k_asm) (by k_asm) (by first | exact rfl | assumption) (by ktr_room) (by ktr_units) ?_); rintro r9 h9 tk9 ⟨t9, rfl⟩ F9 N9; rw [L5]; (try dsimp only); (try k_fold))
    k_with "subscriptTail" => (k_here; k_dflt (refine strs_item (ns := [w0, w1]) (by k_asm) (.cons _ _ (.cons _ _ .nil)) (by omega) (by show _ < ((2 : Nat) : Int); omega) (by omega) ?_ (by with_unfolding_all rfl)); intro tS)
    k_with "MidEnd" => refine Stop.at ?_
    k_steps
    refine Stop.on ?_
    (rename News _ _ _ _ => kN)
    (rename Fr _ _ _ _ => kF)
    refine mid_end ⟨d, _⟩ kF kN (fun _ hp => by first | exact hp | exact List.mem_cons_of_mem _ hp) (List.forall_mem_cons.mpr ⟨rfl, List.forall_mem_nil _⟩) ?_ rfl
    intro z h2 h3
    have a1 : z ≠ Str.ofString "apart" := h2 _ (.head _)
    have a2 : z ≠ Str.ofString "words" := by rintro rfl; simp at h3
    simp only [if_neg a1, if_neg a2]
  rintro ⟨d', ta⟩ kU kH kTk re Fx2 Nx2
  dsimp only at re Fx2 Nx2
  subst re
  simp only [List.drop_succ_cons, List.drop_zero]
  refine hret ta (fun z => if z = Str.ofString "words" then kU z else W z) _ _ (fun z hz => if_neg hz) ?_ Nx2
  have e : kstB (fun z => if [Str.ofString "words"].contains z = true then kU z else kstB W [(Str.ofString "marked", .bool (marksF f2.toNat s1.toNat)), (Str.ofString "great", .int g tg), (Str.ofString "less", .int l tl), (Str.ofString "due", .int d' td), (Str.ofString "shift", .int (sh1 + 1) tsh), (Str.ofString "first", .int f2 tf2), (Str.ofString "second", .int s1 ts), (Str.ofString "turns", .int t2 tt2)] z) [(Str.ofString "apart", .int d' ta)] = kstB (fun z => if z = Str.ofString "words" then kU z else W z) ((Str.ofString "apart", .int d' ta) :: [(Str.ofString "marked", .bool (marksF f2.toNat s1.toNat)), (Str.ofString "great", .int g tg), (Str.ofString "less", .int l tl), (Str.ofString "due", .int d' td), (Str.ofString "shift", .int (sh1 + 1) tsh), (Str.ofString "first", .int f2 tf2), (Str.ofString "second", .int s1 ts), (Str.ofString "turns", .int t2 tt2)]) := by
    funext z
    by_cases h1 : z = Str.ofString "words"
    · subst h1; rfl
    · have h2 : [Str.ofString "words"].contains z = false := by simp [h1]
      simp only [kstB, h2, if_neg h1, Bool.false_eq_true, if_false]
  rw [← e]
  exact Fx2
theorem half_last : ∀ d : Nat, d < 30 → (Txt.slice (half (d : Int)) (some (-1)) none != Str.ofString "x") = decide (d % 2 = 1) := by decide +kernel
theorem half_count : ∀ d : Nat, d < 30 → Txt.count (half (d : Int)) (Str.ofString "\"") = (d : Int) / 2 := by decide +kernel
set_option maxRecDepth 100000 in
set_option maxHeartbeats 32000000 in
theorem tail_three (w : World) (loose mean mg mb) (qual : Str) (sc : Scope) (cd : Value) (body : List Stmt) (hdef : tailAt (Mine.hd.heap_39 w.params) 133 = some (qual, sc, cd, body))
    (dp un : Nat) (gd : Option (List Code)) (outer : List Env) (A₀ : Around) (base h₀ : Heap) (L : Addr) (V : Str → Option Value) (news : List (Addr × Obj)) (s : Shared) (Q : Flow → Shared → Prop) (E : Value → Shared → Prop)
    (f2 s1 sh1 t2 g l d : Int) (tf2 ts tsh tt2 tg tl td ta : Tok) (d0 : 0 ≤ d) (d1 : d < 30)
    (B : Below A₀ base outer h₀) (F : Fr h₀ L s.heap (kstB V ((Str.ofString "apart", .int d ta) :: [(Str.ofString "marked", .bool (marksF f2.toNat s1.toNat)), (Str.ofString "great", .int g tg), (Str.ofString "less", .int l tl), (Str.ofString "due", .int d td), (Str.ofString "shift", .int (sh1 + 1) tsh), (Str.ofString "first", .int f2 tf2), (Str.ofString "second", .int s1 ts), (Str.ofString "turns", .int t2 tt2)]))) (X : (Mine.hd.heap_39 w.params).In h₀) (N : News h₀ L s.heap news) (T : Top topProg loose mean mg mb h₀)
    (hd : dp + 27 < recursionLimit) (hu : un + 10 * 27 < cLine)
    (hret : ∀ (tA tB tC tD : Tok) (m' : Str → Option Value) h tk, m' (Str.ofString "first") = some (.int (d / 2) tA) → m' (Str.ofString "second") = some (.int l tB) → m' (Str.ofString "shift") = some (.int (sh1 + 1) tC) → m' (Str.ofString "turns") = some (.int (t2 + d % 2) tD) →
      (∀ z, temps.contains z = false → m' z = V z) → Fr h₀ L h m' → News h₀ L h news → Q .next { s with heap := h, toks := tk }) :
    wpAny (model PySem.Challenge.rw_rs0142_01.row.prog w) (ktrTop dp un gd qual sc L 133 cd [] outer) (execs (body.drop 7) (envX qual sc L 133 cd [])) Q E s := by
  cases hdef
  simp only [List.drop_succ_cons, List.drop_zero]
  revert X
  k_fill
  intro X
  obtain ⟨n, rfl⟩ : ∃ n : Nat, d = (n : Int) := ⟨d.toNat, by omega⟩
  have hl := half_len d0
  have hlast := half_last n (by omega)
  have hcount := half_count n (by omega)
  k_with_none
  k_with "call ref" => first
      | ((with_reducible show wpAny _ _ (call (Value.ref 46) [Value.str (Str.ofString "257 \"" ++ _ ++ Str.ofString "x") _]) _ _ _); k_dflt (refine con_use (parse_x _ _ _ _ _ _ _ _ rfl (by omega) (by omega)) (by k_asm) (by k_asm) (by k_asm) (by k_asm) (by k_asm) (by first | exact rfl | assumption) (by ktr_room) (by ktr_units) ?_); rintro r9 h9 tk9 ⟨t9, rfl⟩ F9 N9; (try dsimp only); (try k_fold))
      | ((with_reducible show wpAny _ _ (call (Value.ref 114) _) _ _ _); k_dflt (refine con_use (half_con _ _ _ _ _ _ _ (by omega) (by omega)) (by k_asm) (by k_asm) (by k_asm) (by k_asm) (by k_asm) (by first | exact rfl | assumption) (by ktr_room) (by ktr_units) ?_); rintro r9 h9 tk9 ⟨t9, rfl⟩ F9 N9; (try dsimp only); (try k_fold))
  k_with "subscriptTail Name Slice str ref" => (k_here; (rename News _ _ _ _ => kN); (rename Fr _ _ _ _ => kF); k_dflt (refine slice_strN_sn (hsz := by rw [sizeLine_eq]; omega) (s := ⟨_, _, _, _, _⟩) kF kN ?_); intro h' t' k' F' N')
  k_with "call builtin:str.count" => (refine KXw.count hcount ?_; intro t' k')
  k_steps
  · (rename News _ _ _ _ => kN)
    (rename Fr _ _ _ _ => kF)
    have hq := hlast.symm.trans (by assumption)
    have e : (n : Int) % 2 = 1 := by simp at hq; omega
    refine hret _ _ _ _ _ _ _ rfl rfl rfl (by rw [e]; rfl) ?_ kF (fun p hp => kN p (List.mem_cons_of_mem _ hp))
    intro z hz
    simp only [temps, List.contains_cons, List.contains_nil, Bool.or_false, Bool.or_eq_false_iff, beq_eq_false_iff_ne, ne_eq] at hz
    obtain ⟨a1, a2, a3, a4, a5, a6, a7, a8, a9, a10, a11⟩ := hz
    simp only [kstB, if_neg a1, if_neg a2, if_neg a3, if_neg a4, if_neg a5, if_neg a6, if_neg a7, if_neg a8, if_neg a9, if_neg a10, if_neg a11]
  · (rename News _ _ _ _ => kN)
    (rename Fr _ _ _ _ => kF)
    have hq := hlast.symm.trans (by assumption)
    have e : (n : Int) % 2 = 0 := by simp at hq; omega
    refine hret _ _ _ _ _ _ _ rfl rfl rfl (by rw [e, Int.add_zero]; rfl) ?_ kF (fun p hp => kN p (List.mem_cons_of_mem _ hp))
    intro z hz
    simp only [temps, List.contains_cons, List.contains_nil, Bool.or_false, Bool.or_eq_false_iff, beq_eq_false_iff_ne, ne_eq] at hz
    obtain ⟨a1, a2, a3, a4, a5, a6, a7, a8, a9, a10, a11⟩ := hz
    simp only [kstB, if_neg a1, if_neg a2, if_neg a3, if_neg a4, if_neg a5, if_neg a6, if_neg a7, if_neg a8, if_neg a9, if_neg a10, if_neg a11]
end Mine
namespace Mine
local macro_rules | `(tactic| walk_at "no such 0") => `(tactic| skip)
local macro_rules | `(tactic| walk_at "no such 1") => `(tactic| skip)
local macro_rules | `(tactic| walk_at "no such 2") => `(tactic| skip)
local macro_rules | `(tactic| walk_at "no such 3") => `(tactic| skip)
local macro_rules | `(tactic| walk_at "no such 4") => `(tactic| skip)
local macro_rules | `(tactic| walk_at "no such 5") => `(tactic| skip)
local macro_rules | `(tactic| walk_at "no such 6") => `(tactic| skip)
local macro_rules | `(tactic| walk_at "no such 7") => `(tactic| skip)
local macro_rules | `(tactic| walk_at "no such 8") => `(tactic| skip)
local macro_rules | `(tactic| omega) => `(tactic| lia)
local macro_rules | `(tactic| walk_at $s:str) => `(tactic| k_extra $s)
local macro_rules | `(tactic| walk_at "ite") => `(tactic| first | refine ite_f (by with_reducible assumption) ?_ | refine ite_t (by with_reducible assumption) ?_ | with_reducible refine ite_f (bne_self_eq_false _) ?_ | with_reducible refine ite_t (beq_self_eq_true _) ?_ | refine ite_dec_f (by omega) ?_ | refine ite_dec_t (by omega) ?_)
theorem fr_any {h₀ h : Heap} {L : Addr} {m : Str → Option Value} (F : Fr h₀ L h m) : ∃ M, M = m ∧ Fr h₀ L h M := ⟨m, rfl, F⟩
theorem fr_more {h₀ h : Heap} {L : Addr} {m : Str → Option Value} (ps : List (Str × Value)) (F : Fr h₀ L h m) (hk : ∀ p ∈ ps, m p.1 = some p.2) : Fr h₀ L h (kstB m ps) := by
  w_top off
  have : kstB m ps = m := by
    funext y
    exact kstB_eq hk fun _ => rfl
  rw [this]; exact F
theorem not_temp {z : Str} (hz : temps.contains z = false) : z ≠ Str.ofString "told" ∧ z ≠ Str.ofString "marked" ∧ z ≠ Str.ofString "great" ∧ z ≠ Str.ofString "less" ∧ z ≠ Str.ofString "due" ∧ z ≠ Str.ofString "words" ∧ z ≠ Str.ofString "apart" ∧ z ≠ Str.ofString "first" ∧ z ≠ Str.ofString "second" ∧ z ≠ Str.ofString "shift" ∧ z ≠ Str.ofString "turns" := by
  w_top off
  simp only [temps, List.contains_cons, List.contains_nil, Bool.or_false, Bool.or_eq_false_iff, beq_eq_false_iff_ne, ne_eq] at hz
  exact hz
def dueOk (n m : Nat) : Bool := decide (dueF n m / 2 < 14) && decide (1 ≤ min n m) && decide (min n m < 14) && decide (min n m % 2 = 1) && decide (dueF n m / 2 + min n m + 1 ≤ n + m) && decide (dueF n m < 30)
theorem due_ok : ∀ n : Nat, n < 14 → ∀ m : Nat, m < 14 → n % 2 = 1 → m % 2 = 1 → dueOk n m = true := by decide +kernel
theorem due_all (n : Nat) (hn : n < 14) (m : Nat) (hm : m < 14) (_ : 1 ≤ n) (_ : 1 ≤ m) (on : n % 2 = 1) (om : m % 2 = 1) : dueF n m / 2 < 14 ∧ 1 ≤ min n m ∧ min n m < 14 ∧ min n m % 2 = 1 ∧ dueF n m / 2 + min n m + 1 ≤ n + m ∧ dueF n m < 30 := by
  w_top off
  have h := due_ok n hn m hm on om
  simp only [dueOk, Bool.and_eq_true, decide_eq_true_eq] at h
  exact ⟨h.1.1.1.1.1, h.1.1.1.1.2, h.1.1.1.2, h.1.1.2, h.1.2, h.2⟩
theorem odd_P {f2 s1 t2 f1 t1 sh1 d : Int} {G Ef : Nat} (q0 : 1 ≤ f2) (q1 : f2 ≤ f1) (hf1 : f1 < 14) (p2 : 1 ≤ s1) (p3 : s1 < 14) (p4 : s1 % 2 = 1) (od : f2 % 2 = 1) (p5 : 0 ≤ sh1) (p6 : sh1 + f1 + s1 < 130) (p7 : 0 ≤ t1) (q2 : t1 ≤ t2) (q3 : gF f2.toNat s1.toNat = G) (q4 : t2 + (eF f2.toNat s1.toNat : Int) = Ef)
    {l : Int} (el : l = (min f2.toNat s1.toNat : Nat)) (ed : d = (dueF f2.toNat s1.toNat : Nat)) :
    (0 ≤ d / 2 ∧ d / 2 < 14 ∧ 1 ≤ l ∧ l < 14 ∧ l % 2 = 1 ∧ 0 ≤ sh1 + 1 ∧ sh1 + 1 + d / 2 + l < 130 ∧ 0 ≤ t2 + d % 2 ∧ gF (d / 2).toNat l.toNat = G ∧ t2 + d % 2 + (eF (d / 2).toNat l.toNat : Int) = Ef) ∧ (d / 2 + l).toNat < (f1 + s1).toNat := by
  w_top off
  obtain ⟨n, rfl⟩ : ∃ n : Nat, f2 = n := ⟨f2.toNat, by omega⟩
  obtain ⟨m, rfl⟩ : ∃ m : Nat, s1 = m := ⟨s1.toNat, by omega⟩
  simp only [Int.toNat_natCast] at q3 q4 el ed
  obtain ⟨r1, r2⟩ := runF_odd n (by omega) m (by omega) (by omega) (by omega)
  obtain ⟨a1, a2, a3, a4, a5, a6⟩ := due_all n (by omega) m (by omega) (by omega) (by omega) (by omega) (by omega)
  rw [r1] at q3
  rw [r2] at q4
  generalize dueF n m = D at *
  generalize min n m = l' at *
  clear r1 r2
  subst el ed
  have e1 : ((D : Int) / 2).toNat = D / 2 := by omega
  rw [e1, Int.toNat_natCast]
  refine ⟨⟨by omega, by omega, by omega, by omega, by omega, by omega, by omega, by omega, q3, ?_⟩, by omega⟩
  push_cast at q4
  omega
set_option maxRecDepth 100000 in
set_option maxHeartbeats 32000000 in
theorem run_con (w : World) (loose mean mg mb) (f b sh : Int) (t u v : Tok) (h0 : 0 ≤ f) (h1 : f < 14) (hb : 1 ≤ b) (hb' : b < 14) (hodd : b % 2 = 1) (hs : 0 ≤ sh) (hs' : sh < 100) :
    ConX 30 w loose mean mg mb 133 [.int f t, .int b u, .int sh v] (fun r tl => ∃ D t1 t2 k, r = .ref D ∧ tl = [(D, listOf #[.int (gF f.toNat b.toNat) t1, .int (eF f.toNat b.toNat) t2] k)]) := by
  w_top off
  unfold ConX
  k_fill
  intro dp un gd cn cs a ccd cl outer A₀ base h₀ L m news s Q E B F X N T hk hd hu hret
  refine wpAny_call ?_
  k_with_none
  k_dflt cell_enter
  k_with "exec While Compare cons nil" => refine Stop.at ?_
  k_steps
  refine Stop.on ?_
  (rename News _ _ _ _ => kN)
  (rename Fr _ _ _ _ => kF)
  obtain ⟨M0, hM0, kF0⟩ := fr_any kF
  have m1 : M0 (Str.ofString "first") = some (.int f t) := by rw [hM0]; rfl
  have m2 : M0 (Str.ofString "second") = some (.int b u) := by rw [hM0]; rfl
  have m3 : M0 (Str.ofString "shift") = some (.int sh v) := by rw [hM0]; rfl
  obtain ⟨tz, m4⟩ : ∃ tz, M0 (Str.ofString "turns") = some (.int 0 tz) := ⟨_, by rw [hM0]; rfl⟩
  clear hM0 kF
  refine ksw_while (σ := (Int × Tok) × (Int × Tok) × (Int × Tok) × (Int × Tok)) (fun _ => news) (fun c => [(Str.ofString "first", .int c.1.1 c.1.2), (Str.ofString "second", .int c.2.1.1 c.2.1.2), (Str.ofString "shift", .int c.2.2.1.1 c.2.2.1.2), (Str.ofString "turns", .int c.2.2.2.1 c.2.2.2.2)]) (fun _ => True)
    temps
    (fun c => 0 ≤ c.1.1 ∧ c.1.1 < 14 ∧ 1 ≤ c.2.1.1 ∧ c.2.1.1 < 14 ∧ c.2.1.1 % 2 = 1 ∧ 0 ≤ c.2.2.1.1 ∧ c.2.2.1.1 + c.1.1 + c.2.1.1 < 130 ∧ 0 ≤ c.2.2.2.1 ∧ gF c.1.1.toNat c.2.1.1.toNat = gF f.toNat b.toNat ∧ c.2.2.2.1 + (eF c.1.1.toNat c.2.1.1.toNat : Int) = (eF f.toNat b.toNat : Int))
    (fun c => (c.1.1 + c.2.1.1).toNat) ((f, t), (b, u), (sh, v), (0, tz)) kF0 kN True.intro (List.forall_mem_cons.mpr ⟨m1, List.forall_mem_cons.mpr ⟨m2, List.forall_mem_cons.mpr ⟨m3, List.forall_mem_cons.mpr ⟨m4, List.forall_mem_nil _⟩⟩⟩⟩) ?hp ?turn
  case hp => exact ⟨h0, h1, hb, hb', hodd, hs, by show sh + f + b < 130; omega, Int.le_refl _, rfl, Int.zero_add _⟩
  case turn =>
    clear kN kF0 m1 m2 m3 m4
    rintro ⟨⟨f1, tf⟩, ⟨s1, ts⟩, ⟨sh1, tsh⟩, ⟨t1, tt⟩⟩ u0 hx tkx - ⟨p0, p1, p2, p3, p4, p5, p6, p7, p8, p9⟩ Fx Nx
    dsimp only at p0 p1 p2 p3 p4 p5 p6 p7 p8 p9 Fx Nx
    obtain ⟨W0, hW0, Fx⟩ := fr_letter Fx
    have w0 : ∀ z, temps.contains z = false → W0 z = M0 z := by
      intro z hz; rw [hW0]; simp only [hz, Bool.false_eq_true, if_false]
    clear hW0
    (try k_fold)
    k_with_none
    k_with "exec While BoolOp" => refine Stop.at ?_
    k_with "call ref" => first
      | ((with_reducible show wpAny _ _ (call (Value.ref 46) [Value.str (Str.ofString "257 \"" ++ _ ++ Str.ofString "x") _]) _ _ _); k_dflt (refine con_use (parse_x _ _ _ _ _ _ _ _ rfl (by omega) (by omega)) (by k_asm) (by k_asm) (by k_asm) (by k_asm) (by k_asm) (by first | exact rfl | assumption) (by ktr_room) (by ktr_units) ?_); rintro r9 h9 tk9 ⟨t9, rfl⟩ F9 N9; (try dsimp only); (try k_fold))
      | ((with_reducible show wpAny _ _ (call (Value.ref 114) _) _ _ _); k_dflt (refine con_use (half_con _ _ _ _ _ _ _ (by omega) (by omega)) (by k_asm) (by k_asm) (by k_asm) (by k_asm) (by k_asm) (by first | exact rfl | assumption) (by ktr_room) (by ktr_units) ?_); rintro r9 h9 tk9 ⟨t9, rfl⟩ F9 N9; (try dsimp only); (try k_fold))
    k_with "newList" => (k_here; k_dflt (refine' newList_K ?F ?N ?_ ?z; (case F => k_asm); (case N => k_asm); (case z => size_fits)); intro R h' F' N' lR)
    k_steps
    rotate_left
    · have f0 : f1 = 0 := by omega
      subst f0
      have es : (gF f.toNat b.toNat : Int) = s1 := by
        rw [← p8, show (0 : Int).toNat = 0 from rfl, (runF_zero _).1]; omega
      have et : (eF f.toNat b.toNat : Int) = t1 := by
        rw [← p9, show (0 : Int).toNat = 0 from rfl, (runF_zero _).2]; simp
      refine hret _ [(R, listOf #[.int s1 ts, .int t1 tt] 0)] _ _ ⟨R, ts, tt, 0, rfl, by rw [es, et]⟩ (by assumption) (by assumption) ?_
      intro q hq p hp
      rw [List.mem_singleton.mp hp]
      exact lR q hq
    refine Stop.on ?_
    (rename News _ _ _ _ => kN)
    (rename Fr _ _ _ _ => kF)
    obtain ⟨M1, hM1, kF1⟩ := fr_any kF
    have m1 : M1 (Str.ofString "first") = some (.int f1 tf) := by rw [hM1]; rfl
    have m2 : M1 (Str.ofString "second") = some (.int s1 ts) := by rw [hM1]; rfl
    have m3 : M1 (Str.ofString "shift") = some (.int sh1 tsh) := by rw [hM1]; rfl
    have m4 : M1 (Str.ofString "turns") = some (.int t1 tt) := by rw [hM1]; rfl
    have m5 : M1 (Str.ofString "told") = some (.str (half f1) t9) := by rw [hM1]; rfl
    have w1 : ∀ z, temps.contains z = false → M1 z = M0 z := by
      intro z hz
      obtain ⟨a1, a2, a3, a4, a5, a6, a7, a8, a9, a10, a11⟩ := not_temp hz
      rw [hM1, ← w0 z hz]
      simp only [kstB, if_neg a1, if_neg a8, if_neg a9, if_neg a10, if_neg a11]
    clear hM1 kF w0
    refine ksw_while (σ := (Int × Tok) × (Int × Tok) × Tok) (fun _ => news) (fun c => [(Str.ofString "first", .int c.1.1 c.1.2), (Str.ofString "turns", .int c.2.1.1 c.2.1.2), (Str.ofString "told", .str (half c.1.1) c.2.2), (Str.ofString "second", .int s1 ts), (Str.ofString "shift", .int sh1 tsh)]) (fun _ => True) []
      (fun c => 1 ≤ c.1.1 ∧ c.1.1 ≤ f1 ∧ t1 ≤ c.2.1.1 ∧ gF c.1.1.toNat s1.toNat = gF f.toNat b.toNat ∧ c.2.1.1 + (eF c.1.1.toNat s1.toNat : Int) = (eF f.toNat b.toNat : Int))
      (fun c => c.1.1.toNat) ((f1, tf), (t1, tt), t9) kF1 kN True.intro (List.forall_mem_cons.mpr ⟨m1, List.forall_mem_cons.mpr ⟨m4, List.forall_mem_cons.mpr ⟨m5, List.forall_mem_cons.mpr ⟨m2, List.forall_mem_cons.mpr ⟨m3, List.forall_mem_nil _⟩⟩⟩⟩⟩) ?hp2 ?turn2
    case hp2 => exact ⟨show 1 ≤ f1 by omega, Int.le_refl _, Int.le_refl _, p8, p9⟩
    clear kN kF1 m1 m2 m3 m4 m5
    rintro ⟨⟨f2, tf2⟩, ⟨t2, tt2⟩, tz2⟩ u2 hx2 tkx2 - ⟨q0, q1, q2, q3, q4⟩ Fx Nx
    dsimp only at q0 q1 q2 q3 q4 Fx Nx
    obtain ⟨W2, hW2, Fx⟩ := fr_letter Fx
    have w2 : ∀ z, W2 z = M1 z := by
      intro z; rw [hW2]; simp
    clear hW2
    have hl := half_len (show 0 ≤ f2 by omega)
    have hfm : f2.fmod 2 = f2 % 2 := Int.fmod_eq_emod_of_nonneg _ (by omega)
    (try k_fold)
    k_with "KswEnd" => refine Stop.at ?_
    k_with "execs cons" => ((with_reducible show wpAny _ _ (execs (Stmt.Assign [Expr.Name (Str.ofString "marked") _] _ _ :: _) _) _ _ _); refine Stop.at ?_)
    k_steps
    · refine Stop.on ?_
      (rename News _ _ _ _ => kN)
      (rename Fr _ _ _ _ => kF)
      obtain ⟨P1, P2⟩ := even_P (t' := t2 + 1) q0 q1 p1 p2 p3 (by assumption) hl q2 q3 q4 (flip_t p2 (by assumption)) rfl
      exact ksw_end ((_, _), (_, _), _) kF kN (fun _ hp => by simp [hp]) True.intro (List.forall_mem_cons.mpr ⟨rfl, List.forall_mem_cons.mpr ⟨rfl, List.forall_mem_cons.mpr ⟨rfl, List.forall_mem_cons.mpr ⟨rfl, List.forall_mem_cons.mpr ⟨rfl, List.forall_mem_nil _⟩⟩⟩⟩⟩) (by intro z h2 _; have a1 : z ≠ Str.ofString "first" := h2 _ (.head _); have a2 : z ≠ Str.ofString "turns" := h2 _ (.tail _ (.head _)); have a3 : z ≠ Str.ofString "told" := h2 _ (.tail _ (.tail _ (.head _))); have a4 : z ≠ Str.ofString "second" := h2 _ (.tail _ (.tail _ (.tail _ (.head _)))); have a5 : z ≠ Str.ofString "shift" := h2 _ (.tail _ (.tail _ (.tail _ (.tail _ (.head _))))); simp only [kstB, if_neg a1, if_neg a2, if_neg a3, if_neg a4, if_neg a5]; exact w2 z) P1 P2
    · refine Stop.on ?_
      (rename News _ _ _ _ => kN)
      (rename Fr _ _ _ _ => kF)
      obtain ⟨P1, P2⟩ := even_P (t' := t2) q0 q1 p1 p2 p3 (by assumption) hl q2 q3 q4 (flip_f p2 (by assumption)) (by omega)
      exact ksw_end ((_, _), (_, _), _) kF kN (fun _ hp => by simp [hp]) True.intro (List.forall_mem_cons.mpr ⟨rfl, List.forall_mem_cons.mpr ⟨rfl, List.forall_mem_cons.mpr ⟨rfl, List.forall_mem_cons.mpr ⟨rfl, List.forall_mem_cons.mpr ⟨rfl, List.forall_mem_nil _⟩⟩⟩⟩⟩) (by intro z h2 _; have a1 : z ≠ Str.ofString "first" := h2 _ (.head _); have a2 : z ≠ Str.ofString "turns" := h2 _ (.tail _ (.head _)); have a3 : z ≠ Str.ofString "told" := h2 _ (.tail _ (.tail _ (.head _))); have a4 : z ≠ Str.ofString "second" := h2 _ (.tail _ (.tail _ (.tail _ (.head _)))); have a5 : z ≠ Str.ofString "shift" := h2 _ (.tail _ (.tail _ (.tail _ (.tail _ (.head _))))); simp only [kstB, if_neg a1, if_neg a2, if_neg a3, if_neg a4, if_neg a5]; exact w2 z) P1 P2
    refine Stop.on ?_
    have od : f2 % 2 = 1 := by omega
    (rename News _ _ _ _ => kN)
    (rename Fr _ _ _ _ => kF)
    have g1 : f2 < 14 := by omega
    have kF2 := fr_more [(Str.ofString "first", .int f2 tf2), (Str.ofString "second", .int s1 ts), (Str.ofString "shift", .int sh1 tsh), (Str.ofString "turns", .int t2 tt2)] kF (List.forall_mem_cons.mpr ⟨rfl, List.forall_mem_cons.mpr ⟨rfl, List.forall_mem_cons.mpr ⟨rfl, List.forall_mem_cons.mpr ⟨rfl, List.forall_mem_nil _⟩⟩⟩⟩)
    obtain ⟨W3, hW3, kF3⟩ := fr_letter kF2
    have w3 : ∀ z, temps.contains z = false → W3 z = M0 z := by
      intro z hz
      obtain ⟨a1, a2, a3, a4, a5, a6, a7, a8, a9, a10, a11⟩ := not_temp hz
      rw [hW3, ← w1 z hz, ← w2 z]
      simp only [kstB, if_neg a1, if_neg a8, if_neg a9, if_neg a10, if_neg a11]
    clear hW3 kF2 kF
    refine tail_one w loose mean mg mb _ _ _ _ rfl _ _ _ _ _ _ _ _ W3 news _ _ _ f2 s1 sh1 t2 tf2 ts tsh tt2 q0 g1 p2 p3 (by k_asm) kF3 (by k_asm) kN (by k_asm) (by ktr_room) (by ktr_units) ?_
    intro g l d tg tl td tsh' hx3 tkx3 e1 e2 e3 F3 N3
    have dsm : 0 ≤ d ∧ d < 30 := by
      have : dueF f2.toNat s1.toNat < 30 := (due_all _ (by omega) _ (by omega) (by omega) (by omega) (by omega) (by omega)).2.2.2.2.2
      omega
    refine tail_two w loose mean mg mb _ _ _ _ rfl _ _ _ _ _ _ _ _ W3 news _ _ _ f2 s1 sh1 t2 g l d tf2 ts tsh' tt2 tg tl td q0 g1 p2 p3 od p4 p5 e1 e2 e3 (by k_asm) F3 (by k_asm) N3 (by k_asm) (by ktr_room) (by ktr_units) ?_
    intro ta V hx4 tkx4 hV F4 N4
    refine tail_three w loose mean mg mb _ _ _ _ rfl _ _ _ _ _ _ _ _ V news _ _ _ f2 s1 sh1 t2 g l d tf2 ts tsh' tt2 tg tl td ta dsm.1 dsm.2 (by k_asm) F4 (by k_asm) N4 (by k_asm) (by ktr_room) (by ktr_units) ?_
    intro tA tB tC tD m' hx5 tkx5 b1 b2 b3 b4 b5 F5 N5
    obtain ⟨P1, P2⟩ := odd_P q0 q1 p1 p2 p3 p4 od p5 p6 p7 q2 q3 q4 e2 e3
    refine ksw_end ((d / 2, tA), (l, tB), (sh1 + 1, tC), (t2 + d % 2, tD)) F5 N5 (fun _ hp => hp) True.intro (List.forall_mem_cons.mpr ⟨b1, List.forall_mem_cons.mpr ⟨b2, List.forall_mem_cons.mpr ⟨b3, List.forall_mem_cons.mpr ⟨b4, List.forall_mem_nil _⟩⟩⟩⟩) ?_ P1 P2
    intro z _ hz
    obtain ⟨a1, a2, a3, a4, a5, a6, a7, a8, a9, a10, a11⟩ := not_temp hz
    rw [b5 z hz, hV z a6, w3 z hz]
end Mine
namespace Mine
theorem compTurn_two0 (elt t0 i0 t1 i1 : PySem.Expr) (ifs : List PySem.Expr) (scope : Scope) (pos : Pos) (it acc : Value) (env : Env) :
    compTurn (.ListComp elt [⟨t0, i0, [], 0⟩, ⟨t1, i1, ifs, 0⟩] scope pos) 0 it acc env = (do
      standAt i0.pos
      match ← pyNext it with
      | none => pure (.done .next)
      | some v =>
        letOwnedTupleGo t0 it v
        assign t0 env v
        let mut ok := true
        for c in ([] : List PySem.Expr) do
          if ok then ok ← isTrue c env (eval c env)
        if ok then
          let x ← eval i1 env
          standAt i1.pos
          let x ← foldedSetIterable i1 env x
          let _ ← runOwn (.compStart (.ListComp elt [⟨t0, i0, [], 0⟩, ⟨t1, i1, ifs, 0⟩] scope pos) 1 (← holding [x] (pyIter x)) acc env) env
        again (.compLoop (.ListComp elt [⟨t0, i0, [], 0⟩, ⟨t1, i1, ifs, 0⟩] scope pos) 0 it acc env)) := by rfl
theorem compTurn_two1 (elt t0 i0 t1 i1 : PySem.Expr) (ifs : List PySem.Expr) (scope : Scope) (pos : Pos) (it acc : Value) (env : Env) :
    compTurn (.ListComp elt [⟨t0, i0, [], 0⟩, ⟨t1, i1, ifs, 0⟩] scope pos) 1 it acc env = (do
      standAt i1.pos
      match ← pyNext it with
      | none => pure (.done .next)
      | some v =>
        letOwnedTupleGo t1 it v
        assign t1 env v
        let mut ok := true
        for c in ifs do
          if ok then ok ← isTrue c env (eval c env)
        if ok then
          (do let _ ← call (.builtin "list.append") [acc, ← eval elt env])
        again (.compLoop (.ListComp elt [⟨t0, i0, [], 0⟩, ⟨t1, i1, ifs, 0⟩] scope pos) 1 it acc env)) := by rfl
section
variable {prog : Program} {w : World} {A : Around} {E : Value → Shared → Prop} {R : Result → Shared → Prop} {s : Shared}
theorem start_two {elt t0 i0 t1 i1 : PySem.Expr} {ifs : List PySem.Expr} {scope : Scope} {pos : Pos} {it acc : Value} {env : Env}
    (h0 : codeAny (model prog w) A (.compLoop (.ListComp elt [⟨t0, i0, [], 0⟩, ⟨t1, i1, ifs, 0⟩] scope pos) 1 it acc env) R s)
    (h : wpAny (model prog w) A (pyIter it) (fun it' s' => codeAny (model prog w) A (.compLoop (.ListComp elt [⟨t0, i0, [], 0⟩, ⟨t1, i1, ifs, 0⟩] scope pos) 1 it' acc env) R s')
      (notedBy (model prog w) A env fun x s' => R (.error x) s') s) :
    codeAny (model prog w) A (.compStart (.ListComp elt [⟨t0, i0, [], 0⟩, ⟨t1, i1, ifs, 0⟩] scope pos) 1 it acc env) R s := by
  refine codeAny_of_tree ?_
  show wpAny _ _ ((compStart (.ListComp elt [⟨t0, i0, [], 0⟩, ⟨t1, i1, ifs, 0⟩] scope pos) 1 it acc env).onRaise (fun x => do noteFrame x env; standAt theWindowsPlace)) _ _ s
  refine wpAny_notedAt ?_
  unfold compStart
  show wpAny _ _ (ask >>= _) _ _ s
  refine wpAny_bind (wpAny_askSetting (wpAny_ite ?_))
  split
  · first
      | exact wpAny_bind (wpAny_pure (wpAny_pure (And.intro rfl h0)))
      | exact wpAny_pure (And.intro rfl h0)
  · first
      | exact wpAny_bind (wpAny_rule (wpAny_bind (wpAny_standAt (wpAny_bind (wpAny_mono h (fun it' s' h' => wpAny_pure (And.intro rfl h')) fun _ _ x => x)))))
      | (refine wpAny_bind (wpAny_rule ?_); show wpAny _ _ (standAt i1.pos >>= _) _ _ s; exact wpAny_bind (wpAny_standAt (wpAny_bind (wpAny_mono h (fun it' s' h' => wpAny_pure (And.intro rfl h')) fun _ _ x => x))))
theorem loop_two1 {elt t0 i0 t1 i1 : PySem.Expr} {ifs : List PySem.Expr} {scope : Scope} {pos : Pos} {it acc : Value} {env : Env} (I : Nat → Shared → Prop)
    (turn : ∀ n s, I n s → wpAny (model prog w) A (pyNext it) (fun r s₁ => match r with
      | none => R (.ok .next) s₁
      | some v => wpAny (model prog w) A (assign t1 env v) (fun _ s₂ =>
          wpAny (model prog w) A (forIn ifs true fun c r => if r = true then do let ok ← isTrue c env (eval c env); pure (ForInStep.yield ok) else pure (ForInStep.yield r)) (fun ok s₃ =>
            if ok = true then wpAny (model prog w) A (eval elt env) (fun x s₄ =>
              wpAny (model prog w) A (call (.builtin "list.append") [acc, x]) (fun _ s₅ => ∃ m, m < n ∧ I m s₅) (notedBy (model prog w) A env fun e s' => R (.error e) s') s₄) (notedBy (model prog w) A env fun e s' => R (.error e) s') s₃
            else ∃ m, m < n ∧ I m s₃) (notedBy (model prog w) A env fun e s' => R (.error e) s') s₂) (notedBy (model prog w) A env fun e s' => R (.error e) s') s₁) (notedBy (model prog w) A env fun e s' => R (.error e) s') s)
    (n : Nat) (h : I n s) (ht : ∀ v, letOwnedTupleGo t1 it v = pure () := by intro _; rfl) :
    codeAny (model prog w) A (.compLoop (.ListComp elt [⟨t0, i0, [], 0⟩, ⟨t1, i1, ifs, 0⟩] scope pos) 1 it acc env) R s := by
  refine codeAny_loop rfl I (fun n s hI => ?_) n h
  show wpAny _ A ((compTurn (.ListComp elt [⟨t0, i0, [], 0⟩, ⟨t1, i1, ifs, 0⟩] scope pos) 1 it acc env).onRaise (fun x => do noteFrame x env; theTreesLotGoes x)) _ _ s
  refine wpAny_noted ?_
  rw [compTurn_two1]
  refine wpAny_bind (wpAny_standAt (wpAny_bind (wpAny_mono (turn n s hI) (fun r s₁ h₁ => ?_) fun _ _ h' => h')))
  cases r with
  | none => exact wpAny_pure h₁
  | some v =>
    refine wpAny_bind (wpAny_of_eq (ht v) ?_)
    refine wpAny_bind (wpAny_mono h₁ (fun _ s₂ h₂ => wpAny_bind (wpAny_mono h₂ (fun ok s₃ h₃ => ?_) fun _ _ h' => h')) fun _ _ h' => h')
    cases ok with
    | false => exact wpAny_pure ⟨rfl, h₃⟩
    | true =>
      exact wpAny_bind (wpAny_bind (wpAny_mono h₃ (fun x s₄ h₄ => wpAny_bind (wpAny_mono h₄ (fun _ s₅ h₅ => wpAny_pure (wpAny_pure ⟨rfl, h₅⟩)) fun _ _ h' => h')) fun _ _ h' => h'))
theorem loop_two0 {elt t0 i0 t1 i1 : PySem.Expr} {ifs : List PySem.Expr} {scope : Scope} {pos : Pos} {it acc : Value} {env : Env} (I : Nat → Shared → Prop)
    (turn : ∀ n s, I n s → wpAny (model prog w) A (pyNext it) (fun r s₁ => match r with
      | none => R (.ok .next) s₁
      | some v => wpAny (model prog w) A (assign t0 env v) (fun _ s₂ =>
          wpAny (model prog w) A (eval i1 env) (fun xv s₃ => wpAny (model prog w) A (pyIter xv) (fun it' s₄ =>
            codeAny (model prog w) A (.compStart (.ListComp elt [⟨t0, i0, [], 0⟩, ⟨t1, i1, ifs, 0⟩] scope pos) 1 it' acc env) (fun r s' => match r with | .ok _ => ∃ m, m < n ∧ I m s' | .error e => cameBackBy (model prog w) A env (notedBy (model prog w) A env fun e s' => R (.error e) s') e s') s₄)
            (notedBy (model prog w) A env fun e s' => R (.error e) s') s₃) (notedBy (model prog w) A env fun e s' => R (.error e) s') s₂) (notedBy (model prog w) A env fun e s' => R (.error e) s') s₁) (notedBy (model prog w) A env fun e s' => R (.error e) s') s)
    (n : Nat) (h : I n s) (ht : ∀ v, letOwnedTupleGo t0 it v = pure () := by intro _; rfl) (hs : ∀ x, foldedSetIterable i1 env x = pure x := by intro _; rfl) :
    codeAny (model prog w) A (.compLoop (.ListComp elt [⟨t0, i0, [], 0⟩, ⟨t1, i1, ifs, 0⟩] scope pos) 0 it acc env) R s := by
  refine codeAny_loop rfl I (fun n s hI => ?_) n h
  show wpAny _ A ((compTurn (.ListComp elt [⟨t0, i0, [], 0⟩, ⟨t1, i1, ifs, 0⟩] scope pos) 0 it acc env).onRaise (fun x => do noteFrame x env; theTreesLotGoes x)) _ _ s
  refine wpAny_noted ?_
  rw [compTurn_two0]
  refine wpAny_bind (wpAny_standAt (wpAny_bind (wpAny_mono (turn n s hI) (fun r s₁ h₁ => ?_) fun _ _ h' => h')))
  cases r with
  | none => exact wpAny_pure h₁
  | some v =>
    refine wpAny_bind (wpAny_of_eq (ht v) ?_)
    refine wpAny_bind (wpAny_mono h₁ (fun _ s₂ h₂ => ?_) fun _ _ h' => h')
    refine wpAny_bind (wpAny_tests_nil ?_)
    rw [if_pos rfl]
    refine wpAny_bind (wpAny_mono h₂ (fun xv s₃ h₃ => ?_) fun _ _ h' => h')
    refine wpAny_bind (wpAny_standAt (wpAny_bind (wpAny_of_eq (hs xv) (wpAny_bind (wpAny_holding (wpAny_mono h₃ (fun it' s₄ h₄ => ?_) fun _ _ h' => h'))))))
    refine wpAny_bind (wpAny_runOwn (codeAny_mono h₄ fun r s' hr => ?_))
    cases r with
    | ok f => first | exact wpAny_pure ⟨rfl, hr⟩ | exact wpAny_pure (wpAny_pure ⟨rfl, hr⟩) | exact wpAny_bind (wpAny_pure (wpAny_pure ⟨rfl, hr⟩))
    | error e => exact hr
end
end Mine
section
open PySem.Spec PySem.Calls
namespace Mine
local macro_rules | `(tactic| omega) => `(tactic| lia)
def cntTo (c : Nat → Nat → Bool) (i : Nat) : Nat → Nat
  | 0 => 0
  | j + 1 => cntTo c i j + (if c i j = true then 1 else 0)
def cntAll (c : Nat → Nat → Bool) : Nat → Nat
  | 0 => 0
  | i + 1 => cntAll c i + cntTo c i i
theorem cntTo_le (c : Nat → Nat → Bool) (i : Nat) : ∀ j, cntTo c i j ≤ j
  | 0 => Nat.le_refl _
  | j + 1 => by
    have := cntTo_le c i j
    unfold cntTo
    split <;> omega
theorem cntAll_le (c : Nat → Nat → Bool) : ∀ i, cntAll c i ≤ i * i
  | 0 => Nat.le_refl _
  | i + 1 => by
    have h1 := cntAll_le c i
    have h2 := cntTo_le c i i
    unfold cntAll
    have : (i + 1) * (i + 1) = i * i + i + i + 1 := by rw [Nat.add_mul, Nat.mul_add]; omega
    omega
section
variable {h₀ h h' : Heap} {L D : Addr} {o o' : Obj} {m : Str → Option Value}
theorem news_at (pre : List (Addr × Obj)) {post : List (Addr × Obj)} (N : News h₀ L h (pre ++ (D, o) :: post)) (h1 : ∀ p ∈ pre, p.1 ≠ D) (h2 : ∀ p ∈ post, p.1 ≠ D) (hk : ∀ b ob, b ≠ D → h.get? b = some ob → h'.get? b = some ob) (ho : h'.get? D = some o') : News h₀ L h' (pre ++ (D, o') :: post) := by
  intro p hp
  rcases List.mem_append.mp hp with hp | hp
  · have z := N p (List.mem_append.mpr (.inl hp))
    exact ⟨hk _ _ (h1 p hp) z.1, z.2⟩
  · rcases List.mem_cons.mp hp with rfl | hp
    · exact ⟨ho, (N (D, o) (List.mem_append.mpr (.inr (.head _)))).2⟩
    · have z := N p (List.mem_append.mpr (.inr (.tail _ hp)))
      exact ⟨hk _ _ (h2 p hp) z.1, z.2⟩
theorem fr_at (F : Fr h₀ L h m) (hk : ∀ b ob, b ≠ D → h.get? b = some ob → h'.get? b = some ob) (hL : D ≠ L) (h0 : h₀.get? D = none) : Fr h₀ L h' m :=
  ⟨F.ns.at' fun ob e => hk L ob (Ne.symm hL) e, fun b ob e => hk b ob (fun q => by rw [q, h0] at e; cases e) (F.keep b ob e), F.above⟩
end
theorem lt_newsC {h₀ h : Heap} {L : Addr} {news : List (Addr × Obj)} (N : News h₀ L h news) : ∀ q ∈ news, q.1 < h.objs.size := fun q hq => Heap.lt_size (N q hq).1
def itO (i n : Nat) : Obj := { cls := .type "range_iterator", data := .fields #[rawInt (0 + (i : Int) * 1), rawInt ((n : Int) - (i : Int)), rawInt 1] }
theorem itO_is {h : Heap} {I : Addr} {i n : Nat} : IsRangeIter h I (0 + ((i : Nat) : Int) * 1) ((n : Int) - ((i : Nat) : Int)) 1 ↔ h.get? I = some (itO i n) := Iff.rfl
theorem itO_start (n : Nat) : ({ cls := .type "range_iterator", data := .fields #[rawInt 0, rawInt (Builtin.Range.rangeSize 0 (n : Int) 1), rawInt 1] } : Obj) = itO 0 n := by
  unfold itO
  rw [rangeSize_nat]
  congr 4 <;> simp
section
variable {prog : Program} {w : World} {A : Around} {E : Value → Shared → Prop} {s : Shared} {h₀ : Heap} {L : Addr} {m : Str → Option Value} {env : Env}
variable {elt i0 i1 test : PySem.Expr} {x y : Str} {px py : Pos} {scope : Scope} {cl : List (Str × Addr)} {pos : Pos} {b : Nat} {c : Nat → Nat → Bool} {news : List (Addr × Obj)}
/-- the inner loop of «for x in range(b) for y in range(x) if test» -/
theorem nest_inner {C D I0 I1 : Addr} {n : Nat} {ys : List Value} {oI oC : Obj} {m₂ : Str → Option Value} {ti : Tok} {h : Heap} {tk : Nat} {R : Result → Shared → Prop}
    (hh : A.handled = none) (hkind : scope.kind = .function) (hy : scope.names.lookup y = some .local) (hxy : x ≠ y) (hb : b ≤ 100) (hn : n < b)
    (h2 : ∀ (i j : Nat) C oC m₂ ti tj h tk (E' : Value → Shared → Prop) (Q' : Bool → Shared → Prop) led, i < b → j < i → LCg.NsObj oC m₂ → m₂ x = some (.int i ti) → m₂ y = some (.int j tj) → Fr h₀ L h m → News h₀ L h ((C, oC) :: led) → (∀ p ∈ news, p ∈ led) →
      (∀ h' tk', Fr h₀ L h' m → News h₀ L h' ((C, oC) :: led) → Q' (c i j) { s with heap := h', toks := tk' }) → wpAny (model prog w) A (isTrue test (compEnvC scope cl C env) (eval test (compEnvC scope cl C env))) Q' E' { s with heap := h, toks := tk })
    (h3 : ∀ C h tk (E' : Value → Shared → Prop) (Q' : Value → Shared → Prop), (∀ v tk', Q' v { s with heap := h, toks := tk' }) → wpAny (model prog w) A (eval elt (compEnvC scope cl C env)) Q' E' { s with heap := h, toks := tk })
    (hC : LCg.NsObj oC m₂) (hx : m₂ x = some (.int n ti)) (F : Fr h₀ L h m) (N : News h₀ L h ((I1, itO 0 n) :: (I0, oI) :: (C, oC) :: (D, LCg.lst ys) :: news)) (hl : ys.length ≤ 5000)
    (d1 : I1 ≠ I0) (d2 : I1 ≠ C) (d3 : I1 ≠ D) (d4 : I0 ≠ C) (d5 : I0 ≠ D) (d6 : C ≠ D) (off : ∀ p ∈ news, p.1 ≠ I1 ∧ p.1 ≠ I0 ∧ p.1 ≠ C ∧ p.1 ≠ D)
    (ret : ∀ h' tk' oC' m' zs, LCg.NsObj oC' m' → Fr h₀ L h' m → News h₀ L h' ((I0, oI) :: (C, oC') :: (D, LCg.lst zs) :: news) → zs.length = ys.length + cntTo c n n → R (.ok .next) { s with heap := h', toks := tk' }) :
    codeAny (model prog w) A (.compLoop (.ListComp elt [⟨.Name x px, i0, [], 0⟩, ⟨.Name y py, i1, [test], 0⟩] scope pos) 1 (.ref I1) (.ref D) (compEnvC scope cl C env)) R { s with heap := h, toks := tk } := by
  have offn : ∀ (d : Addr), (d = I1 ∨ d = I0 ∨ d = C ∨ d = D) → ∀ p ∈ news, p.1 ≠ d := by
    rintro d (rfl | rfl | rfl | rfl) p hp
    · exact (off p hp).1
    · exact (off p hp).2.1
    · exact (off p hp).2.2.1
    · exact (off p hp).2.2.2
  refine loop_two1 (fun k s' => ∃ h' tk' j zs oC' m', s' = { s with heap := h', toks := tk' } ∧ j ≤ n ∧ k = n + 1 - j ∧ zs.length = ys.length + cntTo c n j ∧ LCg.NsObj oC' m' ∧ m' x = some (.int n ti) ∧ Fr h₀ L h' m ∧ News h₀ L h' ((I1, itO j n) :: (I0, oI) :: (C, oC') :: (D, LCg.lst zs) :: news)) ?_ (n + 1)
    ⟨h, tk, 0, ys, oC, m₂, rfl, Nat.zero_le _, rfl, rfl, hC, hx, F, N⟩
  rintro k s' ⟨h', tk', j, zs, oC', m', rfl, hj, rfl, hz, hC', hx', F', N'⟩
  have W := LCg.range_walks (prog := prog) (w := w) (A := A) (I := I1) hh 0 n
  have nI := N' _ (.head _)
  by_cases hlt : j < n
  · refine W.item j _ _ _ hlt (itO_is.mpr nI.1) fun v h₂ tk₂ hPv hst₂ hk₂ => ?_
    obtain ⟨tj, rfl⟩ := hPv
    have hk₂' : ∀ q ob, q ≠ I1 → h'.get? q = some ob → h₂.get? q = some ob := fun q ob hq e => hk₂ q ob (by simpa using hq) e
    have F₂ := fr_at F' hk₂' nI.2.1 nI.2.2
    have N₂ : News h₀ L h₂ ((I1, itO (j + 1) n) :: (I0, oI) :: (C, oC') :: (D, LCg.lst zs) :: news) := news_at [] N' (fun _ hp => nomatch hp) (List.forall_mem_cons.mpr ⟨Ne.symm d1, List.forall_mem_cons.mpr ⟨Ne.symm d2, List.forall_mem_cons.mpr ⟨Ne.symm d3, offn I1 (.inl rfl)⟩⟩⟩) hk₂' (itO_is.mp hst₂)
    have nC := N₂ (C, oC') (.tail _ (.tail _ (.head _)))
    dsimp only
    refine wpAny_assign_Name (wpAny_storeName_local (lookup_relabel_local hy) (hC'.ns nC.1) (fun h₃ hn₃ hs₃ => ?_) (by simp [compEnvC, relabel, hkind]))
    obtain ⟨oC₃, heC, hoC⟩ := LCg.ns_obj hn₃
    have hk₃ : ∀ q ob, q ≠ C → h₂.get? q = some ob → h₃.get? q = some ob := fun q ob hq e => hs₃.extBut q ob hq e
    have F₃ := fr_at F₂ hk₃ nC.2.1 nC.2.2
    have N₃ : News h₀ L h₃ ((I1, itO (j + 1) n) :: (I0, oI) :: (C, oC₃) :: (D, LCg.lst zs) :: news) := news_at [(I1, itO (j + 1) n), (I0, oI)] N₂ (List.forall_mem_cons.mpr ⟨d2, List.forall_mem_cons.mpr ⟨d4, List.forall_mem_nil _⟩⟩) (List.forall_mem_cons.mpr ⟨Ne.symm d6, offn C (.inr (.inr (.inl rfl)))⟩) hk₃ heC
    have N₃' : News h₀ L h₃ ((C, oC₃) :: (I1, itO (j + 1) n) :: (I0, oI) :: (D, LCg.lst zs) :: news) := cb_drop N₃ (by
      intro p hp; simp only [List.mem_cons] at hp ⊢; rcases hp with h | h | h | h | h <;> simp [h])
    have ex : (fun z => if z = y then some (Value.int (0 + (j : Int)) tj) else m' z) x = some (.int n ti) := (if_neg hxy).trans hx'
    have ey : (fun z => if z = y then some (Value.int (0 + (j : Int)) tj) else m' z) y = some (.int j tj) := by simp
    refine wpAny_tests_one (h2 n j C oC₃ _ ti tj h₃ _ _ _ _ hn hlt hoC ex ey F₃ N₃' (fun p hp => .tail _ (.tail _ (.tail _ hp))) fun h₄ tk₄ F₄ N₄ => ?_)
    have N₄' : News h₀ L h₄ ((I1, itO (j + 1) n) :: (I0, oI) :: (C, oC₃) :: (D, LCg.lst zs) :: news) := cb_drop N₄ (by
      intro p hp; simp only [List.mem_cons] at hp ⊢; rcases hp with h | h | h | h | h <;> simp [h])
    by_cases ht : c n j = true
    · rw [if_pos ht]
      refine h3 C h₄ tk₄ _ _ fun v tk₅ => ?_
      have nD := N₄' (D, LCg.lst zs) (.tail _ (.tail _ (.tail _ (.head _))))
      have hcj := cntTo_le c n j
      refine append_at (hsz := by rw [sizeLine_eq, List.size_toArray]; omega) nD.1 fun h₆ hs₆ hD₆ => ?_
      have hk₆ : ∀ q ob, q ≠ D → h₄.get? q = some ob → h₆.get? q = some ob := fun q ob hq e => hs₆.extBut q ob hq e
      refine ⟨n + 1 - (j + 1), by omega, h₆, tk₅, j + 1, zs ++ [v], oC₃, _, rfl, hlt, rfl, ?_, hoC, ex, fr_at F₄ hk₆ nD.2.1 nD.2.2, ?_⟩
      · rw [List.length_append, List.length_singleton, hz, cntTo, if_pos ht]; omega
      · exact news_at [(I1, itO (j + 1) n), (I0, oI), (C, oC₃)] N₄' (List.forall_mem_cons.mpr ⟨d3, List.forall_mem_cons.mpr ⟨d5, List.forall_mem_cons.mpr ⟨d6, List.forall_mem_nil _⟩⟩⟩) (offn D (.inr (.inr (.inr rfl)))) hk₆ (hD₆.trans (congrArg some (LCg.lst_snoc zs v)))
    · rw [if_neg ht]
      refine ⟨n + 1 - (j + 1), by omega, h₄, tk₄, j + 1, zs, oC₃, _, rfl, hlt, rfl, ?_, hoC, ex, F₄, N₄'⟩
      rw [hz, cntTo, if_neg ht]; omega
  · obtain rfl : j = n := Nat.le_antisymm hj (Nat.not_lt.mp hlt)
    refine W.done _ _ _ (itO_is.mpr nI.1) fun h₂ tk₂ hk₂ => ?_
    have hk₂' : ∀ q ob, q ≠ I1 → h'.get? q = some ob → h₂.get? q = some ob := fun q ob hq e => hk₂ q ob (by simpa using hq) e
    refine ret h₂ tk₂ oC' m' zs hC' (fr_at F' hk₂' nI.2.1 nI.2.2) (fun p hp => ?_) hz
    have z := N' p (.tail _ hp)
    refine ⟨hk₂' _ _ ?_ z.1, z.2⟩
    rcases List.mem_cons.mp hp with rfl | hp
    · exact Ne.symm d1
    rcases List.mem_cons.mp hp with rfl | hp
    · exact Ne.symm d2
    rcases List.mem_cons.mp hp with rfl | hp
    · exact Ne.symm d3
    · exact offn I1 (.inl rfl) p hp
theorem nest_count {Q : Value → Shared → Prop} (_F : Fr h₀ L s.heap m) (_N : News h₀ L s.heap news)
    (hh : A.handled = none) (hcell : ∀ z ∈ scope.names, z.2 ≠ .cell) (hkind : scope.kind = .function) (hnames : ∀ z ∈ scope.names, z.2 = .local → scope.names.lookup z.1 = some .local)
    (hx : scope.names.lookup x = some .local) (hy : scope.names.lookup y = some .local) (hxy : x ≠ y) (hclos : closureFor scope env = pure cl) (hb : b ≤ 60)
    (hs0 : ∀ v, foldedSetIterable i0 env v = pure v) (hs1 : ∀ (e : Env) v, foldedSetIterable i1 e v = pure v)
    (h0 : wpAny (model prog w) A (eval i0 env) (fun xv s₁ => ∃ r t u v h' tk, xv = .ref r ∧ s₁ = { s with heap := h', toks := tk } ∧ IsRange h' r 0 (b : Int) 1 t u v ∧ Fr h₀ L h' m ∧ News h₀ L h' news) E s)
    (h1 : ∀ (i : Nat) C oC m₂ ti h tk (E' : Value → Shared → Prop) (Q' : Value → Shared → Prop) led, i < b → LCg.NsObj oC m₂ → m₂ x = some (.int i ti) → Fr h₀ L h m → News h₀ L h ((C, oC) :: led) → (∀ p ∈ news, p ∈ led) →
      (∀ r t u v h' tk', IsRange h' r 0 (i : Int) 1 t u v → Fr h₀ L h' m → News h₀ L h' ((C, oC) :: led) → Q' (.ref r) { s with heap := h', toks := tk' }) → wpAny (model prog w) A (eval i1 (compEnvC scope cl C env)) Q' E' { s with heap := h, toks := tk })
    (h2 : ∀ (i j : Nat) C oC m₂ ti tj h tk (E' : Value → Shared → Prop) (Q' : Bool → Shared → Prop) led, i < b → j < i → LCg.NsObj oC m₂ → m₂ x = some (.int i ti) → m₂ y = some (.int j tj) → Fr h₀ L h m → News h₀ L h ((C, oC) :: led) → (∀ p ∈ news, p ∈ led) →
      (∀ h' tk', Fr h₀ L h' m → News h₀ L h' ((C, oC) :: led) → Q' (c i j) { s with heap := h', toks := tk' }) → wpAny (model prog w) A (isTrue test (compEnvC scope cl C env) (eval test (compEnvC scope cl C env))) Q' E' { s with heap := h, toks := tk })
    (h3 : ∀ C h tk (E' : Value → Shared → Prop) (Q' : Value → Shared → Prop), (∀ v tk', Q' v { s with heap := h, toks := tk' }) → wpAny (model prog w) A (eval elt (compEnvC scope cl C env)) Q' E' { s with heap := h, toks := tk })
    (fin : ∀ D h tk ys, ys.length = cntAll c b → Fr h₀ L h m → News h₀ L h ((D, LCg.lst ys) :: news) → (∀ p ∈ news, p.1 ≠ D) → Q (.ref D) { s with heap := h, toks := tk }) :
    wpAny (model prog w) A (eval (.ListComp elt [⟨.Name x px, i0, [], 0⟩, ⟨.Name y py, i1, [test], 0⟩] scope pos) env) Q E s := by
  rw [eval_ListComp]
  refine wpAny_comprehension_free (use := none) rfl hs0 hclos hkind hnames (wpAny_mono h0 (fun xv s₁ h₁ => ?_) fun _ _ e => e)
  obtain ⟨r, t, u, v, ha, tka, rfl, rfl, hr, F1, N1⟩ := h₁
  refine wpAny_pyIter_range hr (small_one (by omega) (by omega) (by omega) (by omega)) ?_
  dsimp only
  refine wpAny_newObj_type (wpAny_newFunctionEnv hcell (by intro y hy; simp at hy) (fun h₁ hns₁ hsb₁ => ?_) hkind)
  dsimp only at hns₁ hsb₁ ⊢
  rw [itO_start] at hns₁ hsb₁ ⊢
  obtain ⟨I0, hI0⟩ : ∃ I0, I0 = ha.objs.size := ⟨_, rfl⟩
  generalize hH1 : ha.push (itO 0 b) = H1 at hns₁ hsb₁ ⊢
  generalize hH2 : H1.push { cls := .type "list", dict := none, data := .seq ([] : List Value).toArray } = H2 at hns₁ hsb₁ ⊢
  have sD : H1.objs.size = I0 + 1 := by rw [← hH1, Heap.size_push, hI0]
  have sC : H2.objs.size = I0 + 1 + 1 := by rw [← hH2, Heap.size_push, sD]
  rw [sC] at hns₁ hsb₁
  rw [sC, sD, ← hI0]
  have keep1 : ∀ q ob, ha.get? q = some ob → h₁.get? q = some ob := fun q ob e => by
    have hlt := Heap.lt_size e
    rw [← hI0] at hlt
    exact hsb₁.extBut q ob (Nat.ne_of_lt (Nat.lt_succ_of_lt (Nat.lt_succ_of_lt hlt))) (Heap.get?_push_of_some _ (hH2 ▸ Heap.get?_push_of_some _ (hH1 ▸ Heap.get?_push_of_some _ e)))
  have gI : h₁.get? I0 = some (itO 0 b) := hsb₁.extBut _ _ (Nat.ne_of_lt (by omega)) (Heap.get?_push_of_some _ (hH2 ▸ Heap.get?_push_of_some _ (hH1 ▸ hI0 ▸ Heap.get?_push_size _ rfl)))
  have gD : h₁.get? (I0 + 1) = some (LCg.lst []) := hsb₁.extBut _ _ (Nat.ne_of_lt (by omega)) (Heap.get?_push_of_some _ (hH2 ▸ sD ▸ Heap.get?_push_size _ rfl))
  obtain ⟨oC, gC, hoC⟩ := LCg.ns_obj hns₁
  have hL : L < I0 := by rw [hI0]; exact F1.ns.lt
  have fr0 : ∀ d : Addr, I0 ≤ d → h₀.get? d = none := fun d hd => by
    cases e : h₀.get? d with
    | none => rfl
    | some ob => exact absurd (Heap.lt_size (F1.keep d ob e)) (by rw [← hI0]; exact Nat.not_lt.mpr hd)
  have F2 : Fr h₀ L h₁ m := F1.keeps keep1
  have offs : ∀ p ∈ news, p.1 < I0 := fun p hp => by rw [hI0]; exact Heap.lt_size (N1 p hp).1
  have N2 : News h₀ L h₁ ((I0, itO 0 b) :: (I0 + 1 + 1, oC) :: (I0 + 1, LCg.lst []) :: news) := List.forall_mem_cons.mpr ⟨⟨gI, Nat.ne_of_gt hL, fr0 _ (Nat.le_refl _)⟩, List.forall_mem_cons.mpr ⟨⟨gC, Nat.ne_of_gt (Nat.lt_succ_of_lt (Nat.lt_succ_of_lt hL)), fr0 _ (by show I0 ≤ I0 + 1 + 1; omega)⟩, List.forall_mem_cons.mpr ⟨⟨gD, Nat.ne_of_gt (Nat.lt_succ_of_lt hL), fr0 _ (by show I0 ≤ I0 + 1; omega)⟩, fun p hp => ⟨keep1 _ _ (N1 p hp).1, (N1 p hp).2⟩⟩⟩⟩
  have offn : ∀ d : Addr, I0 ≤ d → ∀ p ∈ news, p.1 ≠ d := fun d hd p hp => Nat.ne_of_lt (Nat.lt_of_lt_of_le (offs p hp) hd)
  clear keep1 gI gD gC hns₁ hsb₁ hH1 hH2 sD sC fr0 hr
  have W := LCg.range_walks (prog := prog) (w := w) (A := A) (I := I0) hh 0 b
  have loop : ∀ tk, codeAny (model prog w) A (.compLoop (.ListComp elt [⟨.Name x px, i0, [], 0⟩, ⟨.Name y py, i1, [test], 0⟩] scope pos) 0 (.ref I0) (.ref (I0 + 1)) (compEnvC scope cl (I0 + 1 + 1) env))
      (compPost (model prog w) A E none Q (.ref (I0 + 1)) (I0 + 1 + 1)) { s with heap := h₁, toks := tk } := by
    intro tk
    refine loop_two0 (hs := hs1 _) (fun k s' => ∃ h' tk' i ys oC' m', s' = { s with heap := h', toks := tk' } ∧ i ≤ b ∧ k = b + 1 - i ∧ ys.length = cntAll c i ∧ LCg.NsObj oC' m' ∧ Fr h₀ L h' m ∧ News h₀ L h' ((I0, itO i b) :: (I0 + 1 + 1, oC') :: (I0 + 1, LCg.lst ys) :: news)) ?_ (b + 1)
      ⟨h₁, tk, 0, [], oC, _, rfl, Nat.zero_le _, rfl, rfl, hoC, F2, N2⟩
    rintro k s' ⟨h', tk', i, ys, oC', m', rfl, hi, rfl, hz, hC', F', N'⟩
    have nI := N' _ (.head _)
    have o1 : @Ne Nat (I0 + 1 + 1) I0 := by omega
    have o2 : @Ne Nat (I0 + 1) I0 := by omega
    have o3 : @Ne Nat (I0 + 1) (I0 + 1 + 1) := by omega
    have hyl : ys.length ≤ 3600 := by
      have h1 := cntAll_le c i
      have h2 : i * i ≤ 60 * 60 := Nat.mul_le_mul (by omega) (by omega)
      omega
    by_cases hlt : i < b
    · refine W.item i _ _ _ hlt (itO_is.mpr nI.1) fun v h₂ tk₂ hPv hst₂ hk₂ => ?_
      obtain ⟨ti, rfl⟩ := hPv
      have hk₂' : ∀ q ob, q ≠ I0 → h'.get? q = some ob → h₂.get? q = some ob := fun q ob hq e => hk₂ q ob (by simpa using hq) e
      have F₂ := fr_at F' hk₂' nI.2.1 nI.2.2
      have N₂ : News h₀ L h₂ ((I0, itO (i + 1) b) :: (I0 + 1 + 1, oC') :: (I0 + 1, LCg.lst ys) :: news) := news_at [] N' (fun _ hp => nomatch hp) (List.forall_mem_cons.mpr ⟨o1, List.forall_mem_cons.mpr ⟨o2, offn I0 (Nat.le_refl _)⟩⟩) hk₂' (itO_is.mp hst₂)
      have nC := N₂ (I0 + 1 + 1, oC') (.tail _ (.head _))
      dsimp only
      refine wpAny_assign_Name (wpAny_storeName_local (lookup_relabel_local hx) (hC'.ns nC.1) (fun h₃ hn₃ hs₃ => ?_) (by simp [compEnvC, relabel, hkind]))
      obtain ⟨oC₃, heC, hoC₃⟩ := LCg.ns_obj hn₃
      have hk₃ : ∀ q ob, q ≠ I0 + 1 + 1 → h₂.get? q = some ob → h₃.get? q = some ob := fun q ob hq e => hs₃.extBut q ob hq e
      have F₃ := fr_at F₂ hk₃ nC.2.1 nC.2.2
      have N₃ : News h₀ L h₃ ((I0, itO (i + 1) b) :: (I0 + 1 + 1, oC₃) :: (I0 + 1, LCg.lst ys) :: news) := news_at [(I0, itO (i + 1) b)] N₂ (List.forall_mem_cons.mpr ⟨Ne.symm o1, List.forall_mem_nil _⟩) (List.forall_mem_cons.mpr ⟨o3, offn (I0 + 1 + 1) (by show I0 ≤ I0 + 1 + 1; omega)⟩) hk₃ heC
      have N₃' : News h₀ L h₃ ((I0 + 1 + 1, oC₃) :: (I0, itO (i + 1) b) :: (I0 + 1, LCg.lst ys) :: news) := cb_drop N₃ (by
        intro p hp; simp only [List.mem_cons] at hp ⊢; rcases hp with h | h | h | h <;> simp [h])
      have ex : (fun z => if z = x then some (Value.int (0 + (i : Int)) ti) else m' z) x = some (.int i ti) := by simp
      refine h1 i (I0 + 1 + 1) oC₃ _ ti h₃ _ _ _ _ hlt hoC₃ ex F₃ N₃' (fun p hp => .tail _ (.tail _ hp)) fun r t u v h₄ tk₄ hr₄ F₄ N₄ => ?_
      refine wpAny_pyIter_range hr₄ (small_one (by omega) (by omega) (by omega) (by omega)) ?_
      rw [itO_start]
      dsimp only
      have lt4 : ∀ p ∈ ((I0 + 1 + 1, oC₃) :: (I0, itO (i + 1) b) :: (I0 + 1, LCg.lst ys) :: news), p.1 < h₄.objs.size := lt_newsC N₄
      have N₅ := News.push F₄ N₄ (itO 0 i)
      have F₅ := F₄.push (itO 0 i)
      have N₅' : News h₀ L (h₄.push (itO 0 i)) ((h₄.objs.size, itO 0 i) :: (I0, itO (i + 1) b) :: (I0 + 1 + 1, oC₃) :: (I0 + 1, LCg.lst ys) :: news) := cb_drop N₅ (by
        intro p hp; simp only [List.mem_cons] at hp ⊢; rcases hp with h | h | h | h | h <;> simp [h])
      have inner : codeAny (model prog w) A (.compLoop (.ListComp elt [⟨.Name x px, i0, [], 0⟩, ⟨.Name y py, i1, [test], 0⟩] scope pos) 1 (.ref h₄.objs.size) (.ref (I0 + 1)) (compEnvC scope cl (I0 + 1 + 1) env))
          (fun r s' => match r with | .ok _ => ∃ k', k' < b + 1 - i ∧ ∃ h' tk' i ys oC' m', s' = { s with heap := h', toks := tk' } ∧ i ≤ b ∧ k' = b + 1 - i ∧ ys.length = cntAll c i ∧ LCg.NsObj oC' m' ∧ Fr h₀ L h' m ∧ News h₀ L h' ((I0, itO i b) :: (I0 + 1 + 1, oC') :: (I0 + 1, LCg.lst ys) :: news) | .error e => cameBackBy (model prog w) A (compEnvC scope cl (I0 + 1 + 1) env) (notedBy (model prog w) A (compEnvC scope cl (I0 + 1 + 1) env) fun e s' => compPost (model prog w) A E none Q (.ref (I0 + 1)) (I0 + 1 + 1) (.error e) s') e s')
          { s with heap := h₄.push (itO 0 i), toks := tk₄ } := by
        refine nest_inner hh hkind hy hxy (by omega) hlt h2 h3 hoC₃ ex F₅ N₅' (by omega) (Nat.ne_of_gt (lt4 _ (.tail _ (.head _)))) (Nat.ne_of_gt (lt4 _ (.head _))) (Nat.ne_of_gt (lt4 _ (.tail _ (.tail _ (.head _))))) (Ne.symm o1) (Ne.symm o2) (Ne.symm o3)
          (fun p hp => ⟨Nat.ne_of_lt (lt4 p (.tail _ (.tail _ (.tail _ hp)))), offn I0 (Nat.le_refl _) p hp, offn (I0 + 1 + 1) (by show I0 ≤ I0 + 1 + 1; omega) p hp, offn (I0 + 1) (by show I0 ≤ I0 + 1; omega) p hp⟩)
          fun h₆ tk₆ oC₆ m₆ zs hC₆ F₆ N₆ hl₆ => ?_
        refine ⟨b + 1 - (i + 1), by omega, h₆, tk₆, i + 1, zs, oC₆, m₆, rfl, hlt, rfl, ?_, hC₆, F₆, N₆⟩
        rw [hl₆, hz, cntAll]
      exact start_two inner (wpAny_pyIter_rangeiter (itO_is.mpr (N₅' _ (.head _)).1) inner)
    · obtain rfl : i = b := Nat.le_antisymm hi (Nat.not_lt.mp hlt)
      refine W.done _ _ _ (itO_is.mpr nI.1) fun h₂ tk₂ hk₂ => ?_
      have hk₂' : ∀ q ob, q ≠ I0 → h'.get? q = some ob → h₂.get? q = some ob := fun q ob hq e => hk₂ q ob (by simpa using hq) e
      have F₂ := fr_at F' hk₂' nI.2.1 nI.2.2
      have nC := N' (I0 + 1 + 1, oC') (.tail _ (.head _))
      refine ⟨m', hC'.ns (hk₂' _ _ o1 nC.1), fun h'' hs'' => fin (I0 + 1) h'' tk₂ ys hz (fr_at F₂ (fun q ob hq e => hs''.extBut q ob hq e) nC.2.1 nC.2.2) (fun p hp => ?_) (offn (I0 + 1) (by show I0 ≤ I0 + 1; omega))⟩
      have z := N' p (.tail _ (.tail _ hp))
      refine ⟨hs''.extBut _ _ ?_ (hk₂' _ _ ?_ z.1), z.2⟩
      · rcases List.mem_cons.mp hp with rfl | hp
        · exact o3
        · exact offn (I0 + 1 + 1) (by show I0 ≤ I0 + 1 + 1; omega) p hp
      · rcases List.mem_cons.mp hp with rfl | hp
        · exact o2
        · exact offn I0 (Nat.le_refl _) p hp
  exact codeAny_compStart_list (loop _) (W.self 0 _ _ _ (itO_is.mpr (N2 _ (.head _)).1) (loop _))
end
end Mine
end
section
open PySem.Spec PySem.Calls
namespace Mine
theorem ints_all : ∀ {zs : List Value}, (∀ v ∈ zs, ∃ n t, v = .int n t) → ∃ ms, IntsAre zs ms
  | [], _ => ⟨[], .nil⟩
  | v :: r, h => by
    obtain ⟨n, t, rfl⟩ := h v (.head _)
    obtain ⟨ms, hm⟩ := ints_all fun x hx => h x (.tail _ hx)
    exact ⟨n :: ms, .cons n t hm⟩
theorem ints_each : ∀ {vs : List Value} {ns : List Int}, IntsAre vs ns → ∀ v ∈ vs, ∃ n t, v = .int n t
  | _, _, .nil, _, h => nomatch h
  | _, _, .cons n t r, v, h => by
    rcases List.mem_cons.mp h with rfl | h
    · exact ⟨n, t, rfl⟩
    · exact ints_each r v h
theorem ints_pick {vs : List Value} {ns : List Int} (hi : IntsAre vs ns) (lo hi' st : Option Int) : ∃ ms, IntsAre (slicePick vs.toArray lo hi' st).toList ms := by
  refine ints_all fun v hv => ints_each hi v ?_
  unfold slicePick at hv
  simp at hv
  obtain ⟨a, _, h⟩ := hv
  exact List.mem_of_getElem? h
theorem ints_news {h₀ h : Heap} {L D : Addr} {vs : List Value} {ns : List Int} {lo hi' st : Option Int} {k : Nat} {r : List (Addr × Obj)} (_N : News h₀ L h ((D, listOf (slicePick vs.toArray lo hi' st).toList.toArray k) :: r)) (hi : IntsAre vs ns) : ∃ ms, IntsAre (slicePick vs.toArray lo hi' st).toList ms := ints_pick hi _ _ _
end Mine
end
namespace Mine
/-- how many of the first i places have at j < i a greater one -/
def invAt (r : List Int) (i : Nat) : Nat := ((List.range i).filter fun j => decide (r.getD i 0 < r.getD j 0)).length
def inv (r : List Int) : Nat → Nat
  | 0 => 0
  | i + 1 => inv r i + invAt r i
def restsN (f b n : Nat) : List Int := (List.range n).map fun k : Nat => ((f : Int) * (k : Int)) % (b : Int)
def steps (g n : Nat) : List Int := (List.range n).map fun k : Nat => ((k / g * g : Nat) : Int)
theorem sorted_eq : ∀ {a b : List Int}, a.Perm b → a.Pairwise (· ≤ ·) → b.Pairwise (· ≤ ·) → a = b
  | [], b, p, _, _ => (List.nil_perm.mp p).symm
  | x :: a, [], p, _, _ => absurd (List.perm_nil.mp p) (by simp)
  | x :: a, y :: b, p, ha, hb => by
    have h1 : x ≤ y := by
      have : y ∈ x :: a := p.symm.subset (.head _)
      rcases List.mem_cons.mp this with h | h
      · exact Int.le_of_eq h.symm
      · exact (List.pairwise_cons.mp ha).1 y h
    have h2 : y ≤ x := by
      have : x ∈ y :: b := p.subset (.head _)
      rcases List.mem_cons.mp this with h | h
      · exact Int.le_of_eq h.symm
      · exact (List.pairwise_cons.mp hb).1 x h
    have e : x = y := Int.le_antisymm h1 h2
    subst e
    rw [sorted_eq (List.perm_cons x |>.mp p) (List.pairwise_cons.mp ha).2 (List.pairwise_cons.mp hb).2]
def lawOk (f b : Nat) : Bool :=
  (restsN f b b).isPerm (steps (gF f b) b) && decide ((steps (gF f b) b).Pairwise (· ≤ ·)) && (decide (1 < gF f b) || inv (restsN f b b) b % 2 == eF f b % 2) && decide (0 < gF f b)
theorem law_all : ∀ b, b < 14 → 3 ≤ b → b % 2 = 1 → ∀ f, f < b → lawOk f b = true := by decide +kernel
structure LawP (f n : Nat) : Prop where
  perm : (restsN f n n).Perm (steps (gF f n) n)
  sorted : (steps (gF f n) n).Pairwise (· ≤ ·)
  par : 1 < gF f n ∨ inv (restsN f n n) n % 2 = eF f n % 2
  pos : 0 < gF f n
theorem law_P {f n : Nat} (h1 : n < 14) (h2 : 3 ≤ n) (h3 : n % 2 = 1) (h4 : f < n) : LawP f n := by
  have h := law_all n h1 h2 h3 f h4
  unfold lawOk at h
  simp only [Bool.and_eq_true, Bool.or_eq_true, decide_eq_true_eq, beq_iff_eq] at h
  obtain ⟨⟨⟨a, b⟩, c⟩, d⟩ := h
  exact ⟨List.isPerm_iff.mp a, b, c, d⟩
end Mine
namespace Mine
local macro_rules | `(tactic| omega) => `(tactic| lia)
local macro_rules | `(tactic| walk_at $s:str) => `(tactic| k_extra $s)
local macro_rules | `(tactic| walk_at "ite") => `(tactic| first | refine ite_f (by with_reducible assumption) ?_ | refine ite_t (by with_reducible assumption) ?_ | with_reducible refine ite_f (bne_self_eq_false _) ?_ | with_reducible refine ite_t (beq_self_eq_true _) ?_ | refine ite_eq_f (by omega) ?_ | refine ite_eq_t (by omega) ?_ | refine ite_dec_f (by omega) ?_ | refine ite_dec_t (by omega) ?_)
local macro_rules | `(tactic| walk_at "my off") => `(tactic| first | with_reducible assumption | exact allLt_ne1 (by assumption) (by omega) | exact List.forall_mem_nil _ | (refine List.forall_mem_cons.mpr ⟨?_, ?_⟩; ((show @Ne Nat _ _); (try dsimp only); omega); walk_at "my off"))
local macro_rules | `(tactic| walk_at "my upd") => `(tactic| first | (refine' UpdF.head ?u0; (case u0 => walk_at "my off")) | (refine' UpdF.tail ?u1 ?u2; (case u1 => ((show @Ne Nat _ _); (try dsimp only); omega)); (case u2 => walk_at "my upd")))
def lawAt (K : Frag) (f : Addr) : Option (Scope × List Stmt) := match K.lookup f with
  | some ⟨_, _, .func fd, _⟩ => (match fd.body with | .stmts (_ :: _ :: _ :: tl) => some (fd.scope, tl) | _ => none)
  | _ => none
theorem rests_eq {a : Int} {n f : Nat} (hn : 0 < n) (hf : f = (a % (n : Int)).toNat) : restsL a (n : Int) (n : Int).toNat = restsN f n n := by
  w_top off
  have h0 := Int.emod_nonneg a (show (n : Int) ≠ 0 by omega)
  have e : (f : Int) = a % (n : Int) := by omega
  unfold restsL restsN
  rw [Int.toNat_natCast, e]
  congr 1
  funext k
  have h1 := Int.mul_emod a (k : Int) (n : Int)
  have h2 := Int.mul_emod (a % (n : Int)) (k : Int) (n : Int)
  rw [Int.emod_emod_of_dvd _ (Int.dvd_refl _)] at h2
  rw [h1, h2]
theorem cntTo_inv (r : List Int) (i : Nat) : ∀ j, cntTo (fun i j => decide (r.getD i 0 < r.getD j 0)) i j = ((List.range j).filter fun k => decide (r.getD i 0 < r.getD k 0)).length
  | 0 => rfl
  | j + 1 => by
    rw [cntTo, cntTo_inv r i j, List.range_succ, List.filter_append, List.length_append]
    congr 1
    rw [List.filter_cons, List.filter_nil]
    split <;> rfl
theorem cnt_inv (r : List Int) : ∀ n, cntAll (fun i j => decide (r.getD i 0 < r.getD j 0)) n = inv r n
  | 0 => rfl
  | n + 1 => by rw [cntAll, inv, cnt_inv r n, cntTo_inv, invAt]
set_option maxRecDepth 100000 in
set_option maxHeartbeats 32000000 in
theorem law_end (w : World) (loose mean mg mb) (sc : Scope) (tl : List Stmt) (hdef : lawAt (Mine.hd.heap_39 w.params) 138 = some (sc, tl)) (fa : Addr) (cd : Value)
    (dp un : Nat) (gd : Option (List Code)) (A₀ : Around) (base h₀ : Heap) (L R D8 : Addr) (U : Str → Option Value) (oR oc2 : Obj) (s : Shared) (Q : Flow → Shared → Prop) (E : Value → Shared → Prop)
    (n f : Nat) (tb t8 u8 : Tok) (vs8 : List Value) (kk8 k8 : Nat) (p' q' : Array Value) (hn3 : 3 ≤ n) (hn14 : n < 14) (b2 : n % 2 = 1) (hf : f < n) (hi8 : IntsAre vs8 (restsN f n n)) (dR : oR.data = .cell (some (.ref R))) (c2 : oc2.data = .cell none)
    (B : Below A₀ base [] h₀) (F : Fr h₀ L s.heap (kstB U [(Str.ofString "b", .int (n : Int) tb), (Str.ofString "ended", .ref D8)])) (X : (Mine.hd.heap_39 w.params).In h₀)
    (N : News h₀ L s.heap [(D8, listOf #[.int (gF f n : Int) t8, .int (eF f n : Int) u8] k8), (R, listOf vs8.toArray kk8), (L + 1 + 1, oc2), (L + 1, oR), (69, tabObj q'), (62, tabObj p')]) (T : Top topProg loose mean mg mb h₀)
    (l0 : @LT.lt Nat _ 69 L) (l1 : @LT.lt Nat _ (L + 1 + 1) R) (l2 : @LT.lt Nat _ R D8)
    (hd : dp + 20 < recursionLimit) (hu : un + 200 < cLine)
    (hret : ∀ h' tk p q m', Fr h₀ L h' m' → News h₀ L h' [(69, tabObj q), (62, tabObj p)] → Q (.ret (.bool true)) { s with heap := h', toks := tk }) :
    wpAny (model PySem.Challenge.rw_rs0142_01.row.prog w) (ktrTop dp un gd (Str.ofString "law") sc L fa cd (cellsFrom (L + 1) sc.names []) []) (execs (tl.drop 5) (envX (Str.ofString "law") sc L fa cd (cellsFrom (L + 1) sc.names []))) Q E s := by
  cases hdef
  simp only [List.drop_succ_cons, List.drop_zero]
  revert X
  k_fill
  intro X
  obtain ⟨hperm, hsrt, hpar, hg⟩ := law_P hn14 hn3 b2 hf
  have hG20 := (runF_small f (by omega) n hn14).2
  generalize gF f n = G at *
  generalize eF f n = ee at *
  have hne : decide ([(G : Int), (ee : Int)] = []) = false := by simp
  have hrl : (restsN f n n).length = n := by simp [restsN]
  k_with_none
  k_with "call builtin:sorted" => refine Stop.at ?_
  k_steps
  refine Stop.on ?_
  (rename News _ _ _ _ => kN)
  (rename Fr _ _ _ _ => kF)
  refine kso_sorted kF kN (News.isList kN (by k_mem)) hi8 (by omega) ?_
  intro D9 v9 n9 c9 h9 F9 N9 l9 i9 e9 p9 o9 _
  have en : n9 = steps G n := sorted_eq (p9.trans hperm) o9 hsrt
  subst en
  (try k_lt l9)
  clear p9 o9 e9 kF kN
  (try k_fold)
  k_with "eval ListComp" => refine Stop.at ?_
  k_steps
  refine Stop.on ?_
  refine LCg.ListComp_U F9 (by with_unfolding_all rfl) (by decide) (by rfl) (by decide) (by rfl) ?_
  (try k_fold)
  k_with "CompSrc" => refine Stop.at ?_
  k_steps
  refine Stop.on ?_
  (rename IsRange _ _ _ _ _ _ _ _ => kR)
  refine LCg.CompSrc.range (by rfl) (by k_asm) (by k_asm) kR (small_one (by omega) (by omega) (by omega) (by omega)) (rangeSize_nat _ _) (by rw [PySem.sizeLine_eq]; omega) ?_
  intro g'
  refine' kcf_range (fun k => k.fdiv (G : Int) * (G : Int)) (fun k' t' I' oI' C' oC' D' m' ys' h' tk' E' hlo' hhi' hC' hx' F' N' off' ne' hMark' => ?_) ?_
  · (try (simp only [LCg.Off3, and_true] at off'))
    have hq0 : 0 ≤ k'.fdiv (G : Int) := by rw [Int.fdiv_eq_ediv_of_nonneg _ (by omega)]; exact Int.ediv_nonneg hlo' (by omega)
    have hq1 : k'.fdiv (G : Int) ≤ 13 := by rw [Int.fdiv_eq_ediv_of_nonneg _ (by omega)]; exact Int.le_trans (Int.ediv_le_self _ hlo') (by omega)
    k_with "CompEnd" => (k_here; k_dflt (refine LCg.CompEnd.intro (by assumption) (by assumption) _ (fun p hp => hp) ?_ True.intro ⟨rfl, _, rfl⟩); (simp only [LCg.Off3, and_true]; assumption))
    k_steps
  · unfold KPfDone
    intro ys hys D7 h7 tk7 F7 N7 o7
    have es : List.map (fun k => k.fdiv (G : Int) * (G : Int)) (rangeKs 0 ((n : Int) - 0).toNat) = steps G n := by
      unfold steps rangeKs
      rw [show ((n : Int) - 0).toNat = n by omega, List.map_map]
      congr 1
      funext k
      simp only [Function.comp]
      rw [Int.fdiv_eq_ediv_of_nonneg _ (by omega)]
      push_cast; simp
    rw [es] at hys
    simp only [LCg.Off1, and_true] at o7
    (try k_fold)
    k_with_none
    k_with "eval ListComp" => refine Stop.at ?_
    k_steps
    · show Q (.ret (.bool true)) _
      refine hret _ _ p' q' _ (by assumption) (cb_drop N7 ?_)
      intro z hz
      simp only [List.mem_cons] at hz ⊢
      rcases hz with h | h | h <;> simp [h]
    refine Stop.on ?_
    have hp2 : inv (restsN f n n) n % 2 = ee % 2 := hpar.resolve_left (by omega)
    (rename News _ _ _ _ => kN)
    (rename Fr _ _ _ _ => kF)
    refine nest_count kF kN (x := Str.ofString "k") (y := Str.ofString "j") (b := n) (c := fun i j => decide ((restsN f n n).getD i 0 < (restsN f n n).getD j 0)) rfl (by decide) (by rfl) (by decide) (by rfl) (by rfl) (by decide) (by with_unfolding_all rfl) (by omega) (fun _ => rfl) (fun _ _ => rfl) ?z0 ?z1 ?z2 ?z3 ?zf
    case z0 =>
      (try k_fold)
      k_with_none
      k_steps
      all_goals assumption
    case z1 =>
      intro i C oC m₂ ti h tk E' Q' led hi hC hx F N hs hq
      k_with_none
      k_steps
      exact hq _ _ _ _ _ _ (by assumption) (by assumption) (by assumption)
    case z2 =>
      intro i j C oC m₂ ti tj h tk E' Q' led hi hj hC hx hy F N hs hq
      have mR := hs (L + 1, oR) (by k_mem)
      have mV := hs (R, listOf vs8.toArray kk8) (by k_mem)
      k_with_none
      k_with "eval Name" => ((with_reducible show wpAny _ _ (eval (Expr.Name (Str.ofString "rests") _) _) _ _ _); k_here; k_dflt (first
        | (refine' lcf_cell ?zqN ?zqc ?zqm ?zqd ?_ ?zqa ?zqb; (case zqa => rfl); (case zqb => rfl); (case zqN => k_asm); (case zqc => rfl); (case zqm => exact .tail _ mR); (case zqd => exact dR))
        | (refine' lcf_free ?zqN ?zqc ?zqm ?zqd ?_ ?zqa ?zqb; (case zqa => rfl); (case zqb => rfl); (case zqN => k_asm); (case zqc => rfl); (case zqm => exact .tail _ mR); (case zqd => exact dR))))
      k_with "subscriptTail" => (k_here; k_dflt (refine' ksa_sub ?zs1 ?zs2 ?zs3 ?zs4 ?zs5 ?zs6 ?_ ?zs7; (case zs1 => k_asm); (case zs2 => exact .tail _ mV); (case zs3 => exact hi8); (case zs4 => omega); (case zs5 => omega); (case zs6 => omega); (case zs7 => with_unfolding_all rfl)); intro tS)
      k_steps
      exact hq _ _ (by assumption) (by assumption)
    case z3 =>
      intro C h tk E' Q' hq
      k_with_none
      k_steps
      exact hq _ _
    case zf =>
      intro D6 h6 tk6 zs hl6 F6 N6 o6
      (try k_fold)
      k_with_none
      k_with "call builtin:len" => refine Stop.at ?_
      k_steps
      refine Stop.on ?_
      have hsz : zs.toArray.size = inv (restsN f n n) n := by rw [List.size_toArray, hl6, cnt_inv]
      have hsm : inv (restsN f n n) n ≤ 200 := by
        rw [← cnt_inv]
        have h1 := cntAll_le (fun i j => decide ((restsN f n n).getD i 0 < (restsN f n n).getD j 0)) n
        have h2 : n * n ≤ 13 * 13 := Nat.mul_le_mul (by omega) (by omega)
        omega
      refine len_list (News.isList N6 (.head _)) (by rw [hsz]; omega) ?_
      rw [hsz]
      (try dsimp only)
      (try k_fold)
      k_steps
      have hbt : (((inv (restsN f n n) n : Nat) : Int).fmod 2 == ((ee : Nat) : Int).fmod 2) = true := by
        rw [beq_iff_eq, Int.fmod_eq_emod_of_nonneg _ (by omega), Int.fmod_eq_emod_of_nonneg _ (by omega)]; omega
      rw [hbt]
      show Q (.ret (.bool true)) _
      (rename News _ _ _ _ => kN)
      refine hret _ _ p' q' _ (by assumption) (cb_drop kN ?_)
      intro z hz
      simp only [List.mem_cons] at hz ⊢
      rcases hz with h | h | h <;> simp [h]
end Mine
namespace Mine
local macro_rules | `(tactic| walk_at "no such 0") => `(tactic| skip)
local macro_rules | `(tactic| walk_at "no such 1") => `(tactic| skip)
local macro_rules | `(tactic| walk_at "no such 2") => `(tactic| skip)
local macro_rules | `(tactic| walk_at "no such 3") => `(tactic| skip)
local macro_rules | `(tactic| walk_at "no such 4") => `(tactic| skip)
local macro_rules | `(tactic| walk_at "no such 5") => `(tactic| skip)
local macro_rules | `(tactic| walk_at "no such 6") => `(tactic| skip)
local macro_rules | `(tactic| walk_at "no such 7") => `(tactic| skip)
local macro_rules | `(tactic| walk_at "no such 8") => `(tactic| skip)
local macro_rules | `(tactic| omega) => `(tactic| lia)
local macro_rules | `(tactic| walk_at $s:str) => `(tactic| k_extra $s)
local macro_rules | `(tactic| walk_at "ite") => `(tactic| first | refine ite_f (by with_reducible assumption) ?_ | refine ite_t (by with_reducible assumption) ?_ | with_reducible refine ite_f (bne_self_eq_false _) ?_ | with_reducible refine ite_t (beq_self_eq_true _) ?_ | refine ite_eq_f (by omega) ?_ | refine ite_eq_t (by omega) ?_ | refine ite_dec_f (by omega) ?_ | refine ite_dec_t (by omega) ?_)
local macro_rules | `(tactic| walk_at "my off") => `(tactic| first | with_reducible assumption | exact allLt_ne1 (by assumption) (by omega) | exact List.forall_mem_nil _ | (refine List.forall_mem_cons.mpr ⟨?_, ?_⟩; ((show @Ne Nat _ _); (try dsimp only); omega); walk_at "my off"))
local macro_rules | `(tactic| walk_at "my upd") => `(tactic| first | (refine' UpdF.head ?u0; (case u0 => walk_at "my off")) | (refine' UpdF.tail ?u1 ?u2; (case u1 => ((show @Ne Nat _ _); (try dsimp only); omega)); (case u2 => walk_at "my upd")))
def letL (b : Int) : Str := Txt.slice (Str.ofString "abcdefghijklm") (some (b - 3)) (some b)
theorem let_all : ∀ b : Nat, b < 14 → 3 ≤ b → (letL b ++ Str.ofString "!").length ≤ 30 ∧ (Str.ofString "?" ++ letL b).length ≤ 30 ∧ (∀ k ∈ (letL b ++ Str.ofString "!").cps.toList, k < 128) ∧ (∀ k ∈ (Str.ofString "?" ++ letL b).cps.toList, k < 128) ∧ lev (letL b ++ Str.ofString "!").cps.toList (Str.ofString "?" ++ letL b).cps.toList 4 = 4 := by decide +kernel
theorem let_len : ∀ b : Nat, b < 14 → 3 ≤ b → (letL b).length ≤ 3 := by decide +kernel
set_option maxRecDepth 100000 in
set_option maxHeartbeats 32000000 in
theorem law_tail (w : World) (loose mean mg mb) (sc : Scope) (tl : List Stmt) (hdef : lawAt (Mine.hd.heap_39 w.params) 138 = some (sc, tl)) (fa : Addr) (cd : Value)
    (dp un : Nat) (gd : Option (List Code)) (A₀ : Around) (base h₀ : Heap) (L Dt : Addr) (U : Str → Option Value) (oc1 oc2 : Obj) (s : Shared) (Q : Flow → Shared → Prop) (E : Value → Shared → Prop)
    (a b : Int) (ta tb : Tok) (ws : List Value) (ns : List Int) (kt : Nat) (a0 : -100 < a) (a1 : a < 100) (b0 : 3 ≤ b) (b1 : b < 14) (b2 : b % 2 = 1) (hw : IntsAre ws ns) (hwl : ns.length ≤ 63) (c1 : oc1.data = .cell none) (c2 : oc2.data = .cell none)
    (B : Below A₀ base [] h₀) (F : Fr h₀ L s.heap (kstB U [(Str.ofString "taken", .ref Dt), (Str.ofString "a", .int a ta), (Str.ofString "b", .int b tb)])) (X : (Mine.hd.heap_39 w.params).In h₀)
    (N : News h₀ L s.heap [(Dt, listOf ws.toArray kt), (L + 1 + 1, oc2), (L + 1, oc1), (69, tabObj #[]), (62, tabObj #[])]) (T : Top topProg loose mean mg mb h₀) (XB : (Mine.hd.heap_39 w.params).In base) (TB : Top topProg loose mean mg mb base)
    (C62 : CodeHd base 66 62) (C69 : CodeHd base 73 69) (l0 : @LT.lt Nat _ 69 L) (l1 : @LT.lt Nat _ (L + 1 + 1) Dt)
    (hd : dp + 120 < recursionLimit) (hu : un + 1300 < cLine)
    (hret : ∀ h' tk p q m', Fr h₀ L h' m' → News h₀ L h' [(69, tabObj q), (62, tabObj p)] → Q (.ret (.bool true)) { s with heap := h', toks := tk }) :
    wpAny (model PySem.Challenge.rw_rs0142_01.row.prog w) (ktrTop dp un gd (Str.ofString "law") sc L fa cd (cellsFrom (L + 1) sc.names []) []) (execs tl (envX (Str.ofString "law") sc L fa cd (cellsFrom (L + 1) sc.names []))) Q E s := by
  cases hdef
  revert X
  k_fill
  intro X
  obtain ⟨n, rfl⟩ : ∃ n : Nat, b = (n : Int) := ⟨b.toNat, by omega⟩
  have hn3 : 3 ≤ n := by omega
  have hn14 : n < 14 := by omega
  obtain ⟨L1, L2, L3, L4, L5⟩ := let_all n hn14 hn3
  have hll := let_len n hn14 hn3
  unfold letL at L1 L2 L3 L4 L5 hll
  k_with_none
  k_with "call ref" => first
    | ((with_reducible show wpAny _ _ (call (Value.ref 119) _) _ _ _); k_dflt (refine reads_con w _ _ _ _ _ _ (by omega) (by omega) (by omega) _ _ _ _ _ _ _ _ _ _ _ _ _ _ _ _ _ (by k_asm) (by k_asm) (by k_asm) (by k_asm) (by k_asm) (by k_asm) (by k_asm) (by first | exact rfl | assumption) (by ktr_room) (by ktr_units) ?_); rintro r9 h9 tk9 rfl F9 N9; (try dsimp only); (try k_fold))
    | ((with_reducible show wpAny _ _ (call (Value.ref 102) _) _ _ _); k_dflt (refine con_use (lev_con _ _ _ _ _ _ _ _ _ _ _ L1 L2 (by omega) (by omega) L3 L4) (by k_asm) (by k_asm) (by k_asm) (by k_asm) (by k_asm) (by first | exact rfl | assumption) (by ktr_room) (by ktr_units) ?_); rintro r9 h9 tk9 ⟨t9, rfl⟩ F9 N9; rw [L5]; (try dsimp only); (try k_fold))
    | refine Stop.at ?_
  k_steps
  refine Stop.on ?_
  (rename News _ _ _ _ => kN)
  have o62 : ∀ z ∈ [(Dt, listOf ws.toArray kt), (L + 1 + 1, oc2), (L + 1, oc1)], z.1 ≠ 62 := List.forall_mem_cons.mpr ⟨show @Ne Nat Dt 62 by omega, List.forall_mem_cons.mpr ⟨show @Ne Nat (L + 1 + 1) 62 by omega, List.forall_mem_cons.mpr ⟨show @Ne Nat (L + 1) 62 by omega, List.forall_mem_nil _⟩⟩⟩
  have o69 : ∀ z ∈ [(Dt, listOf ws.toArray kt), (L + 1 + 1, oc2), (L + 1, oc1)], z.1 ≠ 69 := List.forall_mem_cons.mpr ⟨show @Ne Nat Dt 69 by omega, List.forall_mem_cons.mpr ⟨show @Ne Nat (L + 1 + 1) 69 by omega, List.forall_mem_cons.mpr ⟨show @Ne Nat (L + 1) 69 by omega, List.forall_mem_nil _⟩⟩⟩
  refine rests_con w loose mean mg mb _ _ a0 a1 b0 b1 _ _ _ _ _ _ _ _ _ _ _ _ _ _ _ _ #[] #[] [(Dt, listOf ws.toArray kt), (L + 1 + 1, oc2), (L + 1, oc1)] _ _ _ (by k_asm) (by k_asm) (by k_asm) (cb_drop kN ?sb) (by k_asm) (by first | exact rfl | assumption) C62 C69 o62 o69 (.inl rfl) (.inl rfl) (by ktr_room) (by ktr_units) ?_
  case sb => intro z hz; simp only [List.mem_cons] at hz ⊢; rcases hz with h | h | h | h | h | h <;> simp [h]
  intro R h8 tk8 vs8 kk8 p' q' more hi8 F8 N8 g8 gm8
  have R1 : @LT.lt Nat _ (L + 1) R := (g8 (L + 1, oc1) (.tail _ (.tail _ (.tail _ (.tail _ (.head _)))))).1
  have R2 : @LT.lt Nat _ (L + 1 + 1) R := (g8 (L + 1 + 1, oc2) (.tail _ (.tail _ (.tail _ (.head _))))).1
  have R3 : @LT.lt Nat _ Dt R := (g8 (Dt, listOf ws.toArray kt) (.tail _ (.tail _ (.head _)))).1
  have N10 : News h₀ L h8 [(R, listOf vs8.toArray kk8), (Dt, listOf ws.toArray kt), (L + 1 + 1, oc2), (L + 1, oc1), (69, tabObj q'), (62, tabObj p')] := cb_drop N8 (by
    intro z hz; simp only [List.mem_cons, List.mem_append] at hz ⊢; rcases hz with h | h | h | h | h | h | h <;> simp [h])
  clear kN g8 gm8 N8
  have hrl : (restsL a (n : Int) (n : Int).toNat).length = n := by simp [restsL]
  (try dsimp only)
  (try k_fold)
  k_with_none
  k_with "call ref" => refine Stop.at ?_
  k_with "storeName" => (k_here; k_dflt (refine' storeX_C ?F ?N ?c ?U ?d ?_ ?a ?b); (case a => rfl); (case b => rfl); (case F => k_asm); (case N => k_asm); (case c => rfl); (case U => walk_at "my upd"); (case d => k_asm); k_whole; intro h' oR F' N' dR; (try dsimp only at N'))
  have hrne : decide (restsL a (n : Int) (n : Int).toNat = []) = false := by
    apply decide_eq_false; intro h; rw [h] at hrl; simp at hrl; omega
  have hr1 : (restsL a (n : Int) (n : Int).toNat).getD (Int.toNat 1) 0 = a % (n : Int) := by
    show (restsL a (n : Int) (n : Int).toNat).getD 1 0 = a % (n : Int)
    simp [restsL, List.getD, List.getElem?_map, List.getElem?_range (show 1 < n by omega)]
  have hm0 := Int.emod_nonneg a (show (n : Int) ≠ 0 by omega)
  have hm1 := Int.emod_lt_of_pos a (show (0 : Int) < n by omega)
  k_steps
  refine Stop.on ?_
  rw [hr1]
  (rename News _ _ _ _ => kN)
  refine run_con w loose mean mg mb _ _ _ _ _ _ hm0 (by omega) (by omega) (by omega) b2 (by omega) (by omega) _ _ _ _ _ _ _ _ _ _ _ _ _ _ _ _ _ _ (by k_asm) (by k_asm) (by k_asm) kN (by k_asm) (by first | exact rfl | assumption) (by ktr_room) (by ktr_units) ?_
  rintro r9 tl9 h7 tk7 ⟨D8, t8, u8, k8, rfl, rfl⟩ F7 N7 l7
  have hf : (a % (n : Int)).toNat < n := by omega
  rw [show ((n : Int)).toNat = n from Int.toNat_natCast n] at N7
  obtain ⟨f, hfe⟩ : ∃ f, f = (a % (n : Int)).toNat := ⟨_, rfl⟩
  rw [← hfe] at N7 hf
  have R4 : @LT.lt Nat _ R D8 := l7 (R, listOf vs8.toArray kk8) (.tail _ (.head _)) _ (.head _)
  obtain ⟨oR, dR, N11⟩ : ∃ oR : Obj, oR.data = .cell (some (.ref R)) ∧ News h₀ L h7 ((D8, listOf #[.int (gF f n : Int) t8, .int (eF f n : Int) u8] k8) :: (R, listOf vs8.toArray kk8) :: (L + 1 + 1, oc2) :: (L + 1, oR) :: (69, tabObj q') :: (62, tabObj p') :: []) := ⟨_, by assumption, cb_drop N7 (by
    intro z hz; simp only [List.mem_cons, List.cons_append, List.nil_append] at hz ⊢; rcases hz with h | h | h | h | h | h | h <;> simp [h])⟩
  clear N7 kN l7
  (try dsimp only)
  (try k_fold)
  k_with_none
  k_with "execs cons" => ((with_reducible show wpAny _ _ (execs (Stmt.If _ _ _ _ :: _) _) _ _ _); refine Stop.at ?_)
  k_steps
  refine Stop.on ?_
  (rename News _ _ _ _ => kN)
  (rename Fr _ _ _ _ => kF)
  have kF2 := fr_more [(Str.ofString "b", .int (n : Int) tb), (Str.ofString "ended", .ref D8)] kF (List.forall_mem_cons.mpr ⟨rfl, List.forall_mem_cons.mpr ⟨rfl, List.forall_mem_nil _⟩⟩)
  rw [rests_eq (by omega) hfe] at hi8
  exact law_end w loose mean mg mb _ _ rfl fa cd _ _ _ _ _ _ L R D8 _ oR oc2 _ _ _ n f tb t8 u8 vs8 kk8 k8 p' q' hn3 hn14 (by omega) hf hi8 dR c2 (by k_asm) kF2 (by k_asm) kN (by k_asm) l0 R2 R4 (by omega) (by omega) fun h' tk p q m' F N => hret h' tk p q m' F N
end Mine
namespace Mine
local macro_rules | `(tactic| walk_at $s:str) => `(tactic| k_extra $s)
theorem news_drop2 {h₀ : Heap} {L : Addr} {h : Heap} {x y : Addr × Obj} {r : List (Addr × Obj)} (N : News h₀ L h (x :: y :: r)) : News h₀ L h r := cb_drop N fun z hz => .tail _ (.tail _ hz)
set_option maxRecDepth 100000 in
set_option maxHeartbeats 32000000 in
theorem law_holds : PySem.Challenge.rw_rs0142_01.Holds := hd (by
  k_go0
  k_with_none
  k_with "subscriptTail Name Slice ref ref" => ((with_reducible show wpAny _ _ (subscriptTail _ (PySem.Expr.Slice _ _ (some _) _) (Value.ref _) (Value.ref _)) _ _ _); refine Stop.at ?_)
  k_with "call builtin:sum" => refine Stop.at ?_
  k_with "execs cons" => ((with_reducible show wpAny _ _ (execs (Stmt.Assign [Expr.Name (Str.ofString "letters") _] _ _ :: _) _) _ _ _); refine Stop.at ?_)
  (all_goals try k_fold)
  k_steps
  refine Stop.on ?_
  refine' kmk_slice3_lit ?zzFA ?zzNA ?zzlA ?zzpA ?zzqA ?zzkA ?zzoA ?zzeA ?_ ?zzsA ?zztA ?zzzA
  case zzFA => k_asm
  case zzNA => k_asm
  case zzlA => exact News.isList (by k_asm) (by k_mem)
  case zzpA => kmk_part
  case zzqA => kmk_part
  case zzkA => kmk_part
  case zzoA => decide
  case zzeA => exact rfl
  case zzsA => with_unfolding_all rfl
  case zztA => kmk_pure
  case zzzA => kmk_size
  intro DA h' F' N' l1
  obtain ⟨msA, hmsA⟩ := ints_news N' (by assumption)
  (try k_lt l1)
  (try k_fold)
  k_steps
  refine Stop.on ?_
  refine' sumK ?yy0A ?yy1A ?yy2A ?yy3A hmsA ?_
  case yy0A => exact rfl
  case yy1A => k_asm
  case yy2A => k_asm
  case yy3A => exact News.isList (by k_asm) (by k_mem)
  intro h' tk' t' F' N'
  (try k_fold)
  k_steps
  refine Stop.on ?_
  refine' kmk_slice3_lit ?zzFB ?zzNB ?zzlB ?zzpB ?zzqB ?zzkB ?zzoB ?zzeB ?_ ?zzsB ?zztB ?zzzB
  case zzFB => k_asm
  case zzNB => k_asm
  case zzlB => exact News.isList (by k_asm) (by k_mem)
  case zzpB => kmk_part
  case zzqB => kmk_part
  case zzkB => kmk_part
  case zzoB => decide
  case zzeB => exact rfl
  case zzsB => with_unfolding_all rfl
  case zztB => kmk_pure
  case zzzB => kmk_size
  intro DB h' F' N' l1
  obtain ⟨msB, hmsB⟩ := ints_news N' (by assumption)
  (try k_lt l1)
  (try k_fold)
  k_steps
  refine Stop.on ?_
  refine' sumK ?yy0B ?yy1B ?yy2B ?yy3B hmsB ?_
  case yy0B => exact rfl
  case yy1B => k_asm
  case yy2B => k_asm
  case yy3B => exact News.isList (by k_asm) (by k_mem)
  intro h' tk' t' F' N'
  (try k_fold)
  k_steps
  refine Stop.on ?_
  (rename News _ _ _ _ => kN)
  (rename Fr _ _ _ _ => kF)
  have kF2 := fr_more [(Str.ofString "taken", .ref _), (Str.ofString "a", .int _ _), (Str.ofString "b", .int _ _)] kF (List.forall_mem_cons.mpr ⟨rfl, List.forall_mem_cons.mpr ⟨rfl, List.forall_mem_cons.mpr ⟨rfl, List.forall_mem_nil _⟩⟩⟩)
  have ha0 : 0 ≤ (7 + msA.sum).fmod 199 := by rw [Int.fmod_eq_emod_of_nonneg _ (by decide)]; exact Int.emod_nonneg _ (by decide)
  have ha1 : (7 + msA.sum).fmod 199 < 199 := by rw [Int.fmod_eq_emod_of_nonneg _ (by decide)]; exact Int.emod_lt_of_pos _ (by decide)
  have hb0 : 0 ≤ (4 + msB.sum).fmod 6 := by rw [Int.fmod_eq_emod_of_nonneg _ (by decide)]; exact Int.emod_nonneg _ (by decide)
  have hb1 : (4 + msB.sum).fmod 6 < 6 := by rw [Int.fmod_eq_emod_of_nonneg _ (by decide)]; exact Int.emod_lt_of_pos _ (by decide)
  (rename IntsAre _ (List.take 63 _) => kI)
  (rename (List.take 63 _).length = _ => kC)
  (rename Below _ _ _ _ => kB)
  (rename Top _ _ _ _ _ _ => kT)
  have kN2 := news_drop2 kN
  refine law_tail _ _ _ _ _ _ _ rfl _ _ _ _ _ _ _ _ _ _ _ _ _ _ _ _ _ _ _ _ _ _ _ ?zya0 ?zya1 ?zyb0 ?zyb1 ?zyb2 kI ?zyhl ?zyc1 ?zyc2 kB kF2 ?zyX kN2 kT ?zyXB kT (by assumption) (by assumption) ?zyl0 ?zyl1 ?zyhd ?zyhu ?zyret
  case zyX => assumption
  case zyXB => assumption
  case zya0 => omega
  case zya1 => omega
  case zyb0 => omega
  case zyb1 => omega
  case zyb2 => omega
  case zyhl => rw [kC]; omega
  case zyc1 => assumption
  case zyc2 => assumption
  case zyl0 => omega
  case zyl1 => omega
  case zyhd => decide
  case zyhu => decide
  intro h' tk p q m' F' N'
  (try dsimp only)
  k_with_none
  k_steps)
end Mine
theorem PySem.Challenge.cw_rs0142_01_holds : PySem.Challenge.rw_rs0142_01.Holds :=
  Mine.law_holds

