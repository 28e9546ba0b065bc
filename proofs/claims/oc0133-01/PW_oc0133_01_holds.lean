import PyProof.Rows.All
import Wide.All
import OpenK.AllK
import Wide.FinOn
import PySem.Challenge.RW_oc0133_01
section
open PySem PySem.W PyProof.Rows
set_option Elab.async false
set_option maxRecDepth 100000
set_option maxHeartbeats 0
namespace Mine
noncomputable def pickL : List Nat → List Stmt → List Stmt
  | [], _ => []
  | i :: r, l => match l[i]? with
    | some s => s :: pickL r l
    | none => pickL r l
noncomputable def view : Program := by
  refine' (?f : (x : Program) → { PySem.Challenge.pw_oc0133_01 with main := { PySem.Challenge.pw_oc0133_01.main with body := pickL [1, 2, 3, 4, 5, 7, 8, 11, 12, 13, 14, 15, 16, 17, 18, 19, 20, 21, 22, 23, 24, 25, 26, 27, 28, 29, 30, 31, 32, 34, 35, 36, 37, 38, 39, 40] PySem.Challenge.pw_oc0133_01.main.body } } = x → Program) _ ?h
  case f => exact fun x _ => x
  case h =>
    unfold PySem.Challenge.pw_oc0133_01
    dsimp only
    simp only [pickL, List.getElem?_cons_zero, List.getElem?_cons_succ]
    exact rfl
noncomputable def lv : List (Str × WData) := [(Str.ofString "_filemode_table", .tuple [
  .tuple [.tuple [.int 40960, .str ⟨#[108]⟩], .tuple [.int 49152, .str ⟨#[115]⟩], .tuple [.int 32768, .str ⟨#[45]⟩], .tuple [.int 24576, .str ⟨#[98]⟩], .tuple [.int 16384, .str ⟨#[100]⟩], .tuple [.int 8192, .str ⟨#[99]⟩], .tuple [.int 4096, .str ⟨#[112]⟩]],
  .tuple [.tuple [.int 256, .str ⟨#[114]⟩]], .tuple [.tuple [.int 128, .str ⟨#[119]⟩]], .tuple [.tuple [.int 2112, .str ⟨#[115]⟩], .tuple [.int 2048, .str ⟨#[83]⟩], .tuple [.int 64, .str ⟨#[120]⟩]],
  .tuple [.tuple [.int 32, .str ⟨#[114]⟩]], .tuple [.tuple [.int 16, .str ⟨#[119]⟩]], .tuple [.tuple [.int 1032, .str ⟨#[115]⟩], .tuple [.int 1024, .str ⟨#[83]⟩], .tuple [.int 8, .str ⟨#[120]⟩]],
  .tuple [.tuple [.int 4, .str ⟨#[114]⟩]], .tuple [.tuple [.int 2, .str ⟨#[119]⟩]], .tuple [.tuple [.int 513, .str ⟨#[116]⟩], .tuple [.int 512, .str ⟨#[84]⟩], .tuple [.int 1, .str ⟨#[120]⟩]]])]
theorem said : PySem.Challenge.rw_oc0133_01.wellSaid = true := by kernel_rfl
theorem head_law {d : DefRec} {kwd : List (Str × PySem.Expr)} (H : Hook) (hl : LeftO PySem.Challenge.rw_oc0133_01.row.prog view [Str.ofString "_initial_missing", Str.ofString "reduce", Str.ofString "_filemode_table"] (fun s => xlAt view lv s && recOk (RowW.records (OpenRow.toRowW PySem.Challenge.rw_oc0133_01.row)) s) (Hook.obs H) (Hook.val H) 1782)
    (h1 : defOf view PySem.Challenge.rw_oc0133_01.row.name = some (d, kwd)) (h2 : PySem.Challenge.rw_oc0133_01.row.prog.theDef PySem.Challenge.rw_oc0133_01.row.name = some (d.params, d.body, d.scope)) (h3 : kwWritten? d.params.kwonlyargs d.params.kw_defaults = some kwd)
    (hw : PySem.Challenge.rw_oc0133_01.row.promised) (hc : WalkO view [Str.ofString "_initial_missing", Str.ofString "reduce", Str.ofString "_filemode_table"] (XL view lv) (Hook.says H) PySem.Challenge.rw_oc0133_01.row.toRowW d kwd fun f vs => call f vs) : PySem.Challenge.rw_oc0133_01.row.Holds :=
  PySem.W.holds_open hl (Hook.of H) (Hook.keeps H) (fun s e => xl_of s (Bool.and_eq_true_iff.mp e).1) XL.keeps h1 h2 h3 (fun s e => recFacts_of (Bool.and_eq_true_iff.mp e).2) (by rfl) (row_said said) (by kernel_rfl) ⟨rfl, rfl, rfl, rfl, rfl, by decide +kernel⟩ hw hc
set_option compiler.extract_closed false in
local macro_rules | `(tactic| o_law) => `(tactic| refine holds_law said (fun _ => ?_))
set_option compiler.extract_closed false in
local macro_rules | `(tactic| o_head $H) => `(tactic| (refine head_law $H ?hl (by rfl) (by rfl) (by rfl) ?hw ?hc; (case hl => intro w; kernel_rfl)))
open_top hd for PySem.Challenge.rw_oc0133_01
end Mine
end
section
open PySem PySem.W PyProof.Rows
namespace Mine
/-- the cost of one sign in another's place -/
noncomputable def sc (x y : Nat) : Int := if x = y then 0 else if Txt.lower ⟨#[x]⟩ = Txt.lower ⟨#[y]⟩ then 1 else 2
theorem sc_self (x : Nat) : sc x x = 0 := by simp [sc]
theorem sc_nonneg (x y : Nat) : 0 ≤ sc x y := by unfold sc; split <;> (try split) <;> omega
theorem sc_le (x y : Nat) : sc x y ≤ 2 := by unfold sc; split <;> (try split) <;> omega
theorem sc_comm (x y : Nat) : sc x y = sc y x := by
  unfold sc
  by_cases h : x = y
  · subst h; rfl
  · have h' : ¬ y = x := fun e => h e.symm
    rw [if_neg h, if_neg h']
    by_cases q : Txt.lower ⟨#[x]⟩ = Txt.lower ⟨#[y]⟩
    · rw [if_pos q, if_pos q.symm]
    · rw [if_neg q, if_neg fun e => q e.symm]
/-- the distance by an own reckoning -/
noncomputable def ed : List Nat → List Nat → Int
  | [], b => 2 * (b.length : Int)
  | _ :: a, [] => 2 * ((a.length : Int) + 1)
  | x :: a, y :: b => min (min (ed a (y :: b) + 2) (ed (x :: a) b + 2)) (ed a b + sc x y)
termination_by a b => a.length + b.length
theorem ed_nil (b : List Nat) : ed [] b = 2 * (b.length : Int) := by rw [ed]
theorem ed_nil' (a : List Nat) : ed a [] = 2 * (a.length : Int) := by
  cases a with
  | nil => rw [ed]
  | cons x a => rw [ed]; simp
theorem ed_cons (x y : Nat) (a b : List Nat) : ed (x :: a) (y :: b) = min (min (ed a (y :: b) + 2) (ed (x :: a) b + 2)) (ed a b + sc x y) := by rw [ed]
theorem ed_comm (a b : List Nat) : ed a b = ed b a := by
  induction a, b using ed.induct with
  | case1 b => rw [ed_nil, ed_nil']
  | case2 x a => rw [ed_nil, ed_nil']
  | case3 x a y b h1 h2 h3 =>
    rw [ed_cons, ed_cons, h1, h2, h3, sc_comm x y]
    exact congrArg (fun t => min t _) (Int.min_comm _ _)
theorem ed_up (x : Nat) (a b : List Nat) : ed (x :: a) b ≤ ed a b + 2 := by
  cases b with
  | nil => rw [ed_nil', ed_nil']; simp; omega
  | cons y b => rw [ed_cons]; omega
theorem ed_up' (y : Nat) (a b : List Nat) : ed a (y :: b) ≤ ed a b + 2 := by rw [ed_comm, ed_comm a b]; exact ed_up y b a
theorem ed_down (x : Nat) (a b : List Nat) : ed a b ≤ ed (x :: a) b + 2 := by
  induction b with
  | nil => rw [ed_nil', ed_nil']; simp; omega
  | cons y b ih =>
    rw [ed_cons]
    have h1 := ed_up' y a b
    have h2 := sc_nonneg x y
    omega
theorem ed_down' (y : Nat) (a b : List Nat) : ed a b ≤ ed a (y :: b) + 2 := by rw [ed_comm, ed_comm a]; exact ed_down y b a
theorem ed_same (x : Nat) (a b : List Nat) : ed (x :: a) (x :: b) = ed a b := by
  rw [ed_cons, sc_self]
  have h1 := ed_down x a b
  have h2 := ed_down' x a b
  omega
theorem ed_pre (p a b : List Nat) : ed (p ++ a) (p ++ b) = ed a b := by
  induction p with
  | nil => rfl
  | cons x p ih => rw [List.cons_append, List.cons_append, ed_same, ih]
theorem le_min_add (k x y c : Int) : k ≤ min x y + c ↔ k ≤ x + c ∧ k ≤ y + c := by omega
theorem min9 (a1 a2 a3 b1 b2 b3 c1 c2 c3 s t : Int) :
    min (min (min (min (a1 + 2) (a2 + 2)) (a3 + t) + 2) (min (min (b1 + 2) (b2 + 2)) (b3 + t) + 2)) (min (min (c1 + 2) (c2 + 2)) (c3 + t) + s) =
    min (min (min (min (a1 + 2) (b1 + 2)) (c1 + s) + 2) (min (min (a2 + 2) (b2 + 2)) (c2 + s) + 2)) (min (min (a3 + 2) (b3 + 2)) (c3 + s) + t) := by
  have key : ∀ k : Int, k ≤ min (min (min (min (a1 + 2) (a2 + 2)) (a3 + t) + 2) (min (min (b1 + 2) (b2 + 2)) (b3 + t) + 2)) (min (min (c1 + 2) (c2 + 2)) (c3 + t) + s) ↔
      k ≤ min (min (min (min (a1 + 2) (b1 + 2)) (c1 + s) + 2) (min (min (a2 + 2) (b2 + 2)) (c2 + s) + 2)) (min (min (a3 + 2) (b3 + 2)) (c3 + s) + t) := by
    intro k
    simp only [Int.le_min, le_min_add, Int.add_assoc]
    rw [Int.add_comm t 2, Int.add_comm t s, Int.add_comm s 2]
    constructor
    · rintro ⟨⟨⟨⟨h1, h2⟩, h3⟩, ⟨h4, h5⟩, h6⟩, ⟨h7, h8⟩, h9⟩
      exact ⟨⟨⟨⟨h1, h4⟩, h7⟩, ⟨h2, h5⟩, h8⟩, ⟨h3, h6⟩, h9⟩
    · rintro ⟨⟨⟨⟨h1, h4⟩, h7⟩, ⟨h2, h5⟩, h8⟩, ⟨h3, h6⟩, h9⟩
      exact ⟨⟨⟨⟨h1, h2⟩, h3⟩, ⟨h4, h5⟩, h6⟩, ⟨h7, h8⟩, h9⟩
  exact Int.le_antisymm ((key _).mp (Int.le_refl _)) ((key _).mpr (Int.le_refl _))
theorem min5 (p a s t : Int) : min (min p (min a s + 2)) (t + 2) = min (min p (min a t + 2)) (s + 2) := by
  have key : ∀ k : Int, k ≤ min (min p (min a s + 2)) (t + 2) ↔ k ≤ min (min p (min a t + 2)) (s + 2) := by
    intro k
    simp only [Int.le_min, le_min_add]
    constructor <;> rintro ⟨⟨h1, h2, h3⟩, h4⟩ <;> exact ⟨⟨h1, h2, h4⟩, h3⟩
  exact Int.le_antisymm ((key _).mp (Int.le_refl _)) ((key _).mpr (Int.le_refl _))
theorem cast2 (n : Nat) (s : Int) : 2 * ((n + (0 + 1) : Nat) : Int) + s = 2 * (n : Int) + s + 2 := by omega
theorem ed_snoc (x y : Nat) : ∀ (a b : List Nat), ed (a ++ [x]) (b ++ [y]) = min (min (ed a (b ++ [y]) + 2) (ed (a ++ [x]) b + 2)) (ed a b + sc x y)
  | [], [] => by
    rw [List.nil_append, List.nil_append, ed_cons]
  | [], z :: b => by
    have ih := ed_snoc x y [] b
    simp only [List.nil_append] at ih ⊢
    rw [List.cons_append, ed_cons, ih, ed_cons x z [] b]
    simp only [ed_nil, List.length_cons, List.length_append, List.length_nil]
    rw [cast2 b.length (sc x z), cast2 b.length (sc x y)]
    exact min5 ..
  | u :: a, [] => by
    have ih := ed_snoc x y a []
    simp only [List.nil_append] at ih ⊢
    rw [List.cons_append, ed_cons, ih, ed_cons u y a []]
    simp only [ed_nil', List.length_cons, List.length_append, List.length_nil]
    rw [cast2 a.length (sc u y), cast2 a.length (sc x y), Int.min_comm _ (2 * ((a.length + (0 + 1) + 1 : Nat) : Int) + 2), Int.min_comm _ (2 * ((a.length + (0 + 1) + 1 : Nat) : Int) + 2)]
    exact min5 ..
  | u :: a, z :: b => by
    have h1 := ed_snoc x y a (z :: b)
    have h2 := ed_snoc x y (u :: a) b
    have h3 := ed_snoc x y a b
    simp only [List.cons_append] at h1 h2 h3 ⊢
    rw [ed_cons u z (a ++ [x]) (b ++ [y]), h1, h2, h3, ed_cons u z a (b ++ [y]), ed_cons u z (a ++ [x]) b, ed_cons u z a b]
    exact min9 ..
termination_by a b => a.length + b.length
theorem ed_rev (a b : List Nat) : ed a.reverse b.reverse = ed a b := by
  induction a, b using ed.induct with
  | case1 b => simp [ed_nil]
  | case2 x a => rw [List.reverse_nil, ed_nil', ed_nil', List.length_reverse]
  | case3 x a y b h1 h2 h3 =>
    simp only [List.reverse_cons] at h1 h2 h3 ⊢
    rw [ed_snoc, h1, h2, h3, ed_cons]
theorem ed_post (p a b : List Nat) : ed (a ++ p) (b ++ p) = ed a b := by
  rw [← ed_rev, List.reverse_append, List.reverse_append, ed_pre, ed_rev]
theorem ed_ge (a b : List Nat) : 2 * ((a.length : Int) - b.length) ≤ ed a b ∧ 2 * ((b.length : Int) - a.length) ≤ ed a b := by
  induction a, b using ed.induct with
  | case1 b => rw [ed_nil]; simp only [List.length_nil]; omega
  | case2 x a => rw [ed_nil']; simp only [List.length_nil]; omega
  | case3 x a y b h1 h2 h3 =>
    rw [ed_cons]
    have := sc_nonneg x y
    simp only [List.length_cons] at h1 h2 h3 ⊢
    omega
theorem ed_le (a b : List Nat) : ed a b ≤ 2 * ((a.length : Int) + b.length) := by
  induction a, b using ed.induct with
  | case1 b => rw [ed_nil]; simp
  | case2 x a => rw [ed_nil']; simp
  | case3 x a y b h1 h2 h3 =>
    rw [ed_cons]
    simp only [List.length_cons] at h1 h2 h3 ⊢
    omega
theorem ed_nonneg (a b : List Nat) : 0 ≤ ed a b := by have := ed_ge a b; omega
/-- all of one row lies above m: so does the whole -/
theorem ed_row_step (m : Int) (b a : List Nat) (y : Nat) (h : ∀ q, m < ed b (a.take q)) : ∀ q, m < ed (b ++ [y]) (a.take q) := by
  intro q
  induction q with
  | zero =>
    have := h 0
    simp only [List.take_zero, ed_nil', List.length_append, List.length_cons, List.length_nil] at this ⊢
    omega
  | succ q ih =>
    by_cases hq : q < a.length
    · rw [List.take_succ_eq_append_getElem hq, ed_snoc]
      have h1 := h q
      have h2 := h (q + 1)
      rw [List.take_succ_eq_append_getElem hq] at h2
      have h3 := sc_nonneg y a[q]
      omega
    · rw [List.take_of_length_le (by omega)]
      rwa [List.take_of_length_le (by omega)] at ih
theorem ed_row_all (m : Int) (a : List Nat) : ∀ (b' b : List Nat), (∀ q, m < ed b (a.take q)) → m < ed (b ++ b') a
  | [], b, h => by
    have := h a.length
    rwa [List.take_length, ← List.append_nil b] at this
  | y :: b', b, h => by
    have := ed_row_all m a b' (b ++ [y]) (ed_row_step m b a y h)
    simpa using this
end Mine
end
section
open PySem PySem.W PyProof.Rows
namespace Mine
theorem len_toList (a : Str) : a.cps.toList.length = a.length := by simp [Str.length]
theorem item_nonneg (a : Str) (i : Int) (h0 : 0 ≤ i) (h1 : i < (a.length : Int)) : Txt.item a i = ⟨#[a.cps.toList.getD i.toNat 0]⟩ := by
  have hl : i.toNat < a.cps.size := by have : a.length = a.cps.size := rfl; omega
  unfold Txt.item Txt.charAt seqIndex?
  have e1 : ¬ i < 0 := by omega
  simp only [e1, if_false]
  have e2 : (decide (0 ≤ i) && decide (i < (a.length : Int))) = true := by simp [h0, h1]
  rw [if_pos e2]
  simp [hl]
theorem item_neg (a : Str) (i : Int) (h0 : i < 0) (h1 : 0 ≤ i + (a.length : Int)) : Txt.item a i = ⟨#[a.cps.toList.getD (i + a.length).toNat 0]⟩ := by
  have hl : (i + a.length).toNat < a.cps.size := by have : a.length = a.cps.size := rfl; omega
  unfold Txt.item Txt.charAt seqIndex?
  simp only [h0, if_true]
  have e2 : (decide (0 ≤ i + (a.length : Int)) && decide (i + (a.length : Int) < (a.length : Int))) = true := by simp [h1]; omega
  rw [if_pos e2]
  simp [hl]
theorem one_inj {x y : Nat} (h : ((⟨#[x]⟩ : Str) == ⟨#[y]⟩) = true) : x = y := by
  have := beq_iff_eq.mp h
  simpa using this
theorem item_eq {a b : Str} {i : Int} (h0 : 0 ≤ i) (ha : i < (a.length : Int)) (hb : i < (b.length : Int)) (h : (Txt.item a i == Txt.item b i) = true) :
    a.cps.toList.getD i.toNat 0 = b.cps.toList.getD i.toNat 0 := by
  rw [item_nonneg a i h0 ha, item_nonneg b i h0 hb] at h
  exact one_inj h
theorem take_more {a b : List Nat} {n : Nat} (ha : n < a.length) (hb : n < b.length) (h : a.take n = b.take n) (e : a.getD n 0 = b.getD n 0) : a.take (n + 1) = b.take (n + 1) := by
  rw [List.take_succ_eq_append_getElem ha, List.take_succ_eq_append_getElem hb, h]
  simp only [List.getD_eq_getElem?_getD, List.getElem?_eq_getElem ha, List.getElem?_eq_getElem hb, Option.getD_some] at e
  rw [e]
noncomputable def W1 (a b : Str) (pre : Int) : Prop := 0 ≤ pre ∧ pre ≤ (a.length : Int) ∧ pre ≤ (b.length : Int) ∧ a.cps.toList.take pre.toNat = b.cps.toList.take pre.toNat
theorem W1.f1 {a b : Str} {p : Int} (h : W1 a b p) : 0 ≤ p := h.1
theorem W1.f2 {a b : Str} {p : Int} (h : W1 a b p) : p ≤ (a.length : Int) := h.2.1
theorem W1.f3 {a b : Str} {p : Int} (h : W1 a b p) : p ≤ (b.length : Int) := h.2.2.1
theorem w1_of {a b : Str} {p : Int} (h4 : a.cps.toList.take p.toNat = b.cps.toList.take p.toNat) (h0 : 0 ≤ p) (h1 : p ≤ (a.length : Int)) (h2 : p ≤ (b.length : Int)) : W1 a b p := ⟨h0, h1, h2, h4⟩
theorem w1_step {a b : Str} {p : Int} (h4 : a.cps.toList.take p.toNat = b.cps.toList.take p.toNat) (he : (Txt.item a p == Txt.item b p) = true) (h0 : 0 ≤ p) (h1 : p < (a.length : Int)) (h2 : p < (b.length : Int)) :
    0 ≤ p + 1 ∧ p + 1 ≤ (a.length : Int) ∧ p + 1 ≤ (b.length : Int) ∧ a.cps.toList.take (p + 1).toNat = b.cps.toList.take (p + 1).toNat := by
  refine ⟨by omega, by omega, by omega, ?_⟩
  have e : (p + 1).toNat = p.toNat + 1 := by omega
  rw [e]
  exact take_more (by rw [len_toList]; omega) (by rw [len_toList]; omega) h4 (item_eq h0 h1 h2 he)
theorem slice_from (a : Str) (p : Int) (h0 : 0 ≤ p) (h1 : p ≤ (a.length : Int)) : (Txt.slice a (some p) none).cps.toList = a.cps.toList.drop p.toNat := by
  show (StrLaws.sliceText a (some p) none).cps.toList = _
  rw [StrLaws.sliceText_from ⟨h0, by rw [len_toList]; exact h1⟩]
  simp only [len_toList]
  rw [List.take_of_length_le (by rw [List.length_drop, len_toList]; omega)]
theorem slice_to_neg (a : Str) (p : Int) (h0 : p < 0) (h1 : 0 ≤ p + (a.length : Int)) : (Txt.slice a none (some p)).cps.toList = a.cps.toList.take (p + a.length).toNat := by
  show (StrLaws.sliceText a none (some p)).cps.toList = _
  rw [StrLaws.sliceText_to_neg h0 (by omega)]
  simp
theorem slice_all (a : Str) : Txt.slice a none none = a := by
  show StrLaws.sliceText a none none = a
  have e : StrLaws.sliceText a none none = StrLaws.sliceText a (some 0) (some (a.cps.toList.length : Int)) := by
    unfold StrLaws.sliceText
    rw [StrLaws.sliceIdx_none_lo, StrLaws.sliceIdx_none_hi]
    simp [Str.length]
  rw [e, StrLaws.sliceText_plain ⟨by omega, by omega, by omega⟩]
  simp only [Int.toNat_zero, List.drop_zero, Int.sub_zero, Int.toNat_natCast, List.take_length]
/-- what the second loop keeps: a common end of -p signs -/
noncomputable def W2 (a b : Str) (p : Int) : Prop := p ≤ 0 ∧ 0 ≤ p + (a.length : Int) ∧ 0 ≤ p + (b.length : Int) ∧ a.cps.toList.drop (p + a.length).toNat = b.cps.toList.drop (p + b.length).toNat
theorem W2.f1 {a b : Str} {p : Int} (h : W2 a b p) : p ≤ 0 := h.1
theorem W2.f2 {a b : Str} {p : Int} (h : W2 a b p) : 0 ≤ p + (a.length : Int) := h.2.1
theorem W2.f3 {a b : Str} {p : Int} (h : W2 a b p) : 0 ≤ p + (b.length : Int) := h.2.2.1
theorem w2_of {a b : Str} {p : Int} (h4 : a.cps.toList.drop (p + a.length).toNat = b.cps.toList.drop (p + b.length).toNat) (h0 : p ≤ 0) (h1 : 0 ≤ p + (a.length : Int)) (h2 : 0 ≤ p + (b.length : Int)) : W2 a b p := ⟨h0, h1, h2, h4⟩
theorem w2_zero (a b : Str) : W2 a b 0 := by
  refine ⟨by omega, by omega, by omega, ?_⟩
  rw [List.drop_of_length_le (by rw [len_toList]; omega), List.drop_of_length_le (by rw [len_toList]; omega)]
theorem drop_more {a b : List Nat} {n k : Nat} (ha : n < a.length) (hb : k < b.length) (h : a.drop (n + 1) = b.drop (k + 1)) (e : a.getD n 0 = b.getD k 0) : a.drop n = b.drop k := by
  rw [List.drop_eq_getElem_cons ha, List.drop_eq_getElem_cons hb, h]
  simp only [List.getD_eq_getElem?_getD, List.getElem?_eq_getElem ha, List.getElem?_eq_getElem hb, Option.getD_some] at e
  rw [e]
theorem w2_step {a b : Str} {p : Int} (h4 : a.cps.toList.drop (p + a.length).toNat = b.cps.toList.drop (p + b.length).toNat) (he : (Txt.item a (p - 1) == Txt.item b (p - 1)) = true) (h0 : p ≤ 0) (h1 : 0 < p + (a.length : Int)) (h2 : 0 < p + (b.length : Int)) :
    p - 1 ≤ 0 ∧ 0 ≤ p - 1 + (a.length : Int) ∧ 0 ≤ p - 1 + (b.length : Int) ∧ a.cps.toList.drop (p - 1 + a.length).toNat = b.cps.toList.drop (p - 1 + b.length).toNat := by
  refine ⟨by omega, by omega, by omega, ?_⟩
  rw [item_neg a _ (by omega) (by omega), item_neg b _ (by omega) (by omega)] at he
  have e := one_inj he
  have e1 : (p + a.length).toNat = (p - 1 + a.length).toNat + 1 := by omega
  have e2 : (p + b.length).toNat = (p - 1 + b.length).toNat + 1 := by omega
  rw [e1, e2] at h4
  exact drop_more (by rw [len_toList]; omega) (by rw [len_toList]; omega) h4 e
end Mine
namespace Mine
/-- a[:p or None] for p ≤ 0 -/
noncomputable def cutEnd (a : Str) (p : Int) : Str := ⟨(a.cps.toList.take (p + a.length).toNat).toArray⟩
theorem cutEnd_list (a : Str) (p : Int) : (cutEnd a p).cps.toList = a.cps.toList.take (p + a.length).toNat := by simp [cutEnd]
theorem cutEnd_len (a : Str) (p : Int) (h0 : p ≤ 0) (h1 : 0 ≤ p + (a.length : Int)) : ((cutEnd a p).length : Int) = p + (a.length : Int) := by
  rw [← len_toList, cutEnd_list, List.length_take, len_toList]
  omega
theorem str_ext {a b : Str} (h : a.cps.toList = b.cps.toList) : a = b := by
  cases a; cases b; simp only [Str.mk.injEq]; exact Array.toList_inj.mp h
theorem cutEnd_zero (a : Str) : a = cutEnd a 0 := by
  refine str_ext ?_
  rw [cutEnd_list, List.take_of_length_le (by rw [len_toList]; omega)]
theorem cutEnd_when (a : Str) (p : Int) (h : p = 0) : Txt.slice a none none = cutEnd a p := by
  subst h
  rw [slice_all]
  exact cutEnd_zero a
theorem cutEnd_neg (a : Str) (p : Int) (h0 : p < 0) (h1 : 0 ≤ p + (a.length : Int)) : Txt.slice a none (some p) = cutEnd a p := by
  refine str_ext ?_
  rw [slice_to_neg a p h0 h1, cutEnd_list]
theorem strip_ed {a b : Str} {p q : Int} (h1 : W1 a b p) (h2 : W2 (Txt.slice a (some p) none) (Txt.slice b (some p) none) q) :
    ed a.cps.toList b.cps.toList = ed (cutEnd (Txt.slice a (some p) none) q).cps.toList (cutEnd (Txt.slice b (some p) none) q).cps.toList := by
  obtain ⟨e0, e1, e2, e3⟩ := h1
  obtain ⟨f0, f1, f2, f3⟩ := h2
  have g1 : ed (Txt.slice a (some p) none).cps.toList (Txt.slice b (some p) none).cps.toList = ed (cutEnd (Txt.slice a (some p) none) q).cps.toList (cutEnd (Txt.slice b (some p) none) q).cps.toList := by
    rw [cutEnd_list, cutEnd_list]
    conv => lhs; rw [← List.take_append_drop (q + (Txt.slice a (some p) none).length).toNat (Txt.slice a (some p) none).cps.toList, ← List.take_append_drop (q + (Txt.slice b (some p) none).length).toNat (Txt.slice b (some p) none).cps.toList, f3]
    rw [ed_post]
  rw [← g1, slice_from a p e0 e1, slice_from b p e0 e2]
  conv => lhs; rw [← List.take_append_drop p.toNat a.cps.toList, ← List.take_append_drop p.toNat b.cps.toList, e3]
  rw [ed_pre]
/-- what _levenshtein_distance promises -/
noncomputable def LevSpec (a b : Str) (m r : Int) : Prop := (ed a.cps.toList b.cps.toList ≤ m → r = ed a.cps.toList b.cps.toList) ∧ (m < ed a.cps.toList b.cps.toList → m < r)
theorem levSpec_exact {a b : Str} {m r : Int} (h : r = ed a.cps.toList b.cps.toList) : LevSpec a b m r := ⟨fun _ => h, fun q => h ▸ q⟩
theorem levSpec_more {a b : Str} {m r : Int} (h : m < ed a.cps.toList b.cps.toList) (hr : m < r) : LevSpec a b m r := ⟨fun q => by omega, fun _ => hr⟩
theorem levSpec_same {a b : Str} {m : Int} (h : (a == b) = true) : LevSpec a b m 0 := by
  have := beq_iff_eq.mp h
  subst this
  refine levSpec_exact ?_
  have := ed_pre a.cps.toList [] []
  simpa [ed_nil] using this.symm
theorem levSpec_empty {a b x y : Str} {m r : Int} (h : ed a.cps.toList b.cps.toList = ed x.cps.toList y.cps.toList) (hxy : x.length = 0 ∨ y.length = 0) (hr : r = 2 * ((x.length : Int) + y.length)) : LevSpec a b m r := by
  refine levSpec_exact ?_
  rw [h, hr]
  rcases hxy with q | q
  · have e : x.cps.toList = [] := List.eq_nil_of_length_eq_zero (by rw [len_toList]; exact q)
    rw [e, ed_nil, len_toList]; omega
  · have e : y.cps.toList = [] := List.eq_nil_of_length_eq_zero (by rw [len_toList]; exact q)
    rw [e, ed_nil', len_toList]; omega
theorem levSpec_far {a b x y : Str} {m : Int} (h : ed a.cps.toList b.cps.toList = ed x.cps.toList y.cps.toList) (hm : m < ((y.length : Int) - x.length) * 2) : LevSpec a b m (m + 1) := by
  refine levSpec_more ?_ (by omega)
  have := (ed_ge x.cps.toList y.cps.toList).2
  rw [len_toList, len_toList] at this
  omega
end Mine
end
section
open PySem PySem.W PyProof.Rows PySem.Spec PySem.Calls
set_option maxRecDepth 100000
set_option linter.unusedVariables false
namespace Mine
section
variable {prog : Program} {w : World} {A : Around} {E : Value → Shared → Prop} {s : Shared} {h₀ : Heap} {L : Addr} {m : Str → Option Value} {news : List (Addr × Obj)}
/-- what a cut-off statement leaves: one int name turned, all else as it was -/
noncomputable def MidI (h₀ : Heap) (L : Addr) (m : Str → Option Value) (news : List (Addr × Obj)) (x : Str) (P : Int → Prop) (s : Shared) (f : Flow) (s' : Shared) : Prop :=
  f = .next ∧ ∃ (i : Int) (t : Tok) (h' : Heap) (tk : Nat), s' = { s with heap := h', toks := tk } ∧ P i ∧ Fr h₀ L h' (fun y => if y = x then some (.int i t) else m y) ∧ News h₀ L h' news
theorem midI_of {x : Str} {P : Int → Prop} {i : Int} {t : Tok} {h' : Heap} {tk : Nat} {m' : Str → Option Value} (F : Fr h₀ L h' m') (N : News h₀ L h' news) (h1 : m' x = some (.int i t)) (h2 : ∀ y, y ≠ x → m' y = m y) (hp : P i) :
    MidI h₀ L m news x P s .next { s with heap := h', toks := tk } := by
  obtain rfl : m' = fun y => if y = x then some (.int i t) else m y := funext fun y => by
    by_cases hy : y = x
    · rw [if_pos hy, hy, h1]
    · rw [if_neg hy, h2 y hy]
  exact ⟨rfl, i, t, h', tk, rfl, hp, F, N⟩
theorem cut_I {t : Sem Flow} {Q : Flow → Shared → Prop} (x : Str) (P : Int → Prop) (F : Fr h₀ L s.heap m) (N : News h₀ L s.heap news)
    (h1 : wpAny (model prog w) A t (MidI h₀ L m news x P s) E s)
    (h2 : ∀ (i : Int) (tt : Tok) (h' : Heap) (tk : Nat), P i → Fr h₀ L h' (fun y => if y = x then some (.int i tt) else m y) → News h₀ L h' news → Q .next { s with heap := h', toks := tk }) :
    wpAny (model prog w) A t Q E s :=
  wpAny_mono h1 (fun f s' hm => by
    obtain ⟨rfl, i, tt, h', tk, rfl, hp, F', N'⟩ := hm
    exact h2 i tt h' tk hp F' N') (fun _ _ x => x)
/-- what a cut-off expression leaves: a text -/
noncomputable def MidS (h₀ : Heap) (L : Addr) (m : Str → Option Value) (news : List (Addr × Obj)) (P : Str → Prop) (s : Shared) (v : Value) (s' : Shared) : Prop :=
  ∃ (y : Str) (t : Tok) (h' : Heap) (tk : Nat), v = .str y t ∧ s' = { s with heap := h', toks := tk } ∧ P y ∧ Fr h₀ L h' m ∧ News h₀ L h' news
theorem midS_of {P : Str → Prop} {y : Str} {t : Tok} {h' : Heap} {tk : Nat} (F : Fr h₀ L h' m) (N : News h₀ L h' news) (hp : P y) : MidS h₀ L m news P s (.str y t) { s with heap := h', toks := tk } :=
  ⟨y, t, h', tk, rfl, rfl, hp, F, N⟩
theorem cut_End {nx : Str} {x : Str} {p : Int} {tx tp : Tok} {p1 p6 : Pos} {sl : Expr} {env : Env} {Q : Value → Shared → Prop} (F : Fr h₀ L s.heap m) (N : News h₀ L s.heap news)
    (hx : m nx = some (.str x tx)) (hp : m (Str.ofString "post") = some (.int p tp)) (hp0 : p ≤ 0) (hp1 : 0 ≤ p + (x.length : Int))
    (h1 : wpAny (model prog w) A (eval (.Subscript (.Name nx p1) sl p6) env) (MidS h₀ L m news (fun y => y = cutEnd x p) s) E s)
    (h2 : ∀ (t' : Tok) (h' : Heap) (tk : Nat), ((cutEnd x p).length : Int) = p + (x.length : Int) → Fr h₀ L h' m → News h₀ L h' news → Q (.str (cutEnd x p) t') { s with heap := h', toks := tk }) :
    wpAny (model prog w) A (eval (.Subscript (.Name nx p1) sl p6) env) Q E s :=
  wpAny_mono h1 (fun v s' hm => by
    obtain ⟨y, t, h', tk, rfl, rfl, rfl, F', N'⟩ := hm
    exact h2 t h' tk (cutEnd_len x p hp0 hp1) F' N') (fun _ _ x => x)
/-- two text names turned -/
noncomputable def MidSS (h₀ : Heap) (L : Addr) (m : Str → Option Value) (news : List (Addr × Obj)) (x z : Str) (P : Str → Str → Prop) (s : Shared) (f : Flow) (s' : Shared) : Prop :=
  f = .next ∧ ∃ (a b : Str) (t u : Tok) (h' : Heap) (tk : Nat), s' = { s with heap := h', toks := tk } ∧ P a b ∧ Fr h₀ L h' (fun y => if y = x then some (.str a t) else if y = z then some (.str b u) else m y) ∧ News h₀ L h' news
theorem midSS_of {x z : Str} {P : Str → Str → Prop} {a b : Str} {t u : Tok} {h' : Heap} {tk : Nat} {m' : Str → Option Value} (F : Fr h₀ L h' m') (N : News h₀ L h' news) (h1 : m' x = some (.str a t)) (h2 : m' z = some (.str b u)) (h3 : ∀ y, y ≠ x → y ≠ z → m' y = m y) (hp : P a b) :
    MidSS h₀ L m news x z P s .next { s with heap := h', toks := tk } := by
  obtain rfl : m' = fun y => if y = x then some (.str a t) else if y = z then some (.str b u) else m y := funext fun y => by
    by_cases hy : y = x
    · rw [if_pos hy, hy, h1]
    · rw [if_neg hy]
      by_cases hz : y = z
      · rw [if_pos hz, hz, h2]
      · rw [if_neg hz, h3 y hy hz]
  exact ⟨rfl, a, b, t, u, h', tk, rfl, hp, F, N⟩
theorem cut_SS {t : Sem Flow} {Q : Flow → Shared → Prop} (x z : Str) (P : Str → Str → Prop) (F : Fr h₀ L s.heap m) (N : News h₀ L s.heap news)
    (h1 : wpAny (model prog w) A t (MidSS h₀ L m news x z P s) E s)
    (h2 : ∀ (a b : Str) (tt u : Tok) (h' : Heap) (tk : Nat), P a b → Fr h₀ L h' (fun y => if y = x then some (.str a tt) else if y = z then some (.str b u) else m y) → News h₀ L h' news → Q .next { s with heap := h', toks := tk }) :
    wpAny (model prog w) A t Q E s :=
  wpAny_mono h1 (fun f s' hm => by
    obtain ⟨rfl, a, b, tt, u, h', tk, rfl, hp, F', N'⟩ := hm
    exact h2 a b tt u h' tk hp F' N') (fun _ _ x => x)
end
/-- the names that the law's ground does not know -/
noncomputable abbrev lo : List Str := looseW view [Str.ofString "_initial_missing", Str.ofString "reduce", Str.ofString "_filemode_table"] ++ List.map (fun x => x.name) (recsOf view) ++ List.map (fun x => x.fst) (litsOf view) ++
  List.map (fun x => x.name) (clssOf view (looseW view [Str.ofString "_initial_missing", Str.ofString "reduce", Str.ofString "_filemode_table"]))
/-- the contract of a def that leaves nothing behind but its value: an int -/
noncomputable abbrev FnI (w : World) (room : Nat) (f : Addr) (vs : List Value) (Post : Int → Prop) : Prop :=
  ∀ (mean : ExcName → Option Value) (mg mb : Str → Option Value) (news : List (Addr × Obj)) (dp un : Nat) (gd : Option (List Code)) (cn : Str) (cs : Scope) (a : Addr) (ccd : Value) (cl : List (Str × Addr)) (outer : List Env) (A₀ : Around) (base h₀ : Heap) (L : Addr) (m : Str → Option Value) (s : Shared) (Q E : Value → Shared → Prop),
    Below A₀ base outer h₀ → Fr h₀ L s.heap m → (hd.heap_1 w.params).In h₀ → News h₀ L s.heap news →
    Top topProg lo mean mg mb h₀ → cs.kind = .function →
    dp + room < recursionLimit → un + 64 * room < cLine →
    (∀ (r : Int) (t : Tok) (h' : Heap) (tk' : Nat), Post r → Fr h₀ L h' m → News h₀ L h' news → Q (.int r t) { s with heap := h', toks := tk' }) →
      wpAny (model PySem.Challenge.rw_oc0133_01.row.prog w) (ktrTop dp un gd cn cs L a ccd cl outer) (call (.ref f) vs) Q E s
/-- the contract of a def that leaves nothing behind but its value: a text -/
noncomputable abbrev FnS (w : World) (room : Nat) (f : Addr) (vs : List Value) (Post : Str → Prop) : Prop :=
  ∀ (mean : ExcName → Option Value) (mg mb : Str → Option Value) (news : List (Addr × Obj)) (dp un : Nat) (gd : Option (List Code)) (cn : Str) (cs : Scope) (a : Addr) (ccd : Value) (cl : List (Str × Addr)) (outer : List Env) (A₀ : Around) (base h₀ : Heap) (L : Addr) (m : Str → Option Value) (s : Shared) (Q E : Value → Shared → Prop),
    Below A₀ base outer h₀ → Fr h₀ L s.heap m → (hd.heap_1 w.params).In h₀ → News h₀ L s.heap news →
    Top topProg lo mean mg mb h₀ → cs.kind = .function →
    dp + room < recursionLimit → un + 64 * room < cLine →
    (∀ (r : Str) (t : Tok) (h' : Heap) (tk' : Nat), Post r → Fr h₀ L h' m → News h₀ L h' news → Q (.str r t) { s with heap := h', toks := tk' }) →
      wpAny (model PySem.Challenge.rw_oc0133_01.row.prog w) (ktrTop dp un gd cn cs L a ccd cl outer) (call (.ref f) vs) Q E s
theorem use_FnI {w : World} {room : Nat} {f : Addr} {vs : List Value} {Post : Int → Prop} (C : FnI w room f vs Post)
    {mean : ExcName → Option Value} {mg mb : Str → Option Value} {news : List (Addr × Obj)} {dp un : Nat} {gd : Option (List Code)} {cn : Str} {cs : Scope} {a : Addr} {ccd : Value} {cl : List (Str × Addr)} {outer : List Env} {A₀ : Around} {base h₀ : Heap} {L : Addr} {m : Str → Option Value} {s : Shared} {Q E : Value → Shared → Prop}
    (k1 : Below A₀ base outer h₀) (k2 : Fr h₀ L s.heap m) (k3 : (hd.heap_1 w.params).In h₀) (k4 : News h₀ L s.heap news)
    (k5 : Top topProg lo mean mg mb h₀) (k6 : cs.kind = .function)
    (k7 : dp + room < recursionLimit) (k8 : un + 64 * room < cLine)
    (k9 : ∀ (r : Int) (t : Tok) (h' : Heap) (tk' : Nat), Post r → Fr h₀ L h' m → News h₀ L h' news → Q (.int r t) { s with heap := h', toks := tk' }) :
    wpAny (model PySem.Challenge.rw_oc0133_01.row.prog w) (ktrTop dp un gd cn cs L a ccd cl outer) (call (.ref f) vs) Q E s :=
  C mean mg mb news dp un gd cn cs a ccd cl outer A₀ base h₀ L m s Q E k1 k2 k3 k4 k5 k6 k7 k8 k9
theorem use_FnS {w : World} {room : Nat} {f : Addr} {vs : List Value} {Post : Str → Prop} (C : FnS w room f vs Post)
    {mean : ExcName → Option Value} {mg mb : Str → Option Value} {news : List (Addr × Obj)} {dp un : Nat} {gd : Option (List Code)} {cn : Str} {cs : Scope} {a : Addr} {ccd : Value} {cl : List (Str × Addr)} {outer : List Env} {A₀ : Around} {base h₀ : Heap} {L : Addr} {m : Str → Option Value} {s : Shared} {Q E : Value → Shared → Prop}
    (k1 : Below A₀ base outer h₀) (k2 : Fr h₀ L s.heap m) (k3 : (hd.heap_1 w.params).In h₀) (k4 : News h₀ L s.heap news)
    (k5 : Top topProg lo mean mg mb h₀) (k6 : cs.kind = .function)
    (k7 : dp + room < recursionLimit) (k8 : un + 64 * room < cLine)
    (k9 : ∀ (r : Str) (t : Tok) (h' : Heap) (tk' : Nat), Post r → Fr h₀ L h' m → News h₀ L h' news → Q (.str r t) { s with heap := h', toks := tk' }) :
    wpAny (model PySem.Challenge.rw_oc0133_01.row.prog w) (ktrTop dp un gd cn cs L a ccd cl outer) (call (.ref f) vs) Q E s :=
  C mean mg mb news dp un gd cn cs a ccd cl outer A₀ base h₀ L m s Q E k1 k2 k3 k4 k5 k6 k7 k8 k9
/-- the first row: 2, 4, .. -/
noncomputable def row0 (n : Nat) : List Int := (List.range n).map fun (i : Nat) => 2 + (i : Int) * 2
theorem ints_row : ∀ (vs : List Value) (k n : Nat), vs.length = n → (∀ (j : Nat) (v : Value), vs[j]? = some v → ∃ t, v = .int (2 + ((k + j : Nat) : Int) * 2) t) → IntsAre vs ((List.range' k n).map fun (i : Nat) => 2 + (i : Int) * 2)
  | [], k, n, e, _ => by
    subst e
    exact IntsAre.nil
  | v :: r, k, n, e, h => by
    subst e
    rw [List.length_cons, List.range'_succ, List.map_cons]
    obtain ⟨t, ht⟩ := h 0 v rfl
    rw [Nat.add_zero] at ht
    subst ht
    refine IntsAre.cons _ _ (ints_row r (k + 1) r.length rfl fun j v hj => ?_)
    obtain ⟨t', ht'⟩ := h (j + 1) v hj
    refine ⟨t', ht'.trans ?_⟩
    rw [show k + (j + 1) = k + 1 + j by omega]
section
variable {prog : Program} {w : World} {A : Around} {E : Value → Shared → Prop} {s : Shared} {h₀ : Heap} {L r : Addr} {m : Str → Option Value} {news : List (Addr × Obj)} {t₀ u₀ v₀ : Tok} {n : Nat} {b : Int} {Q : Value → Shared → Prop}
theorem small_two {b : Int} (h0 : 2 ≤ b) (h1 : b ≤ 1000) : Builtin.Range.small 2 b 2 = true := by
  unfold Builtin.Range.small Builtin.Range.rangeSize
  simp only [Builtin.Range.rangeFitsLong, Bool.and_eq_true, Bool.or_eq_true, decide_eq_true_eq, beq_iff_eq, show (2 : Int) > 0 by decide, if_true]
  split <;> omega
theorem size_two (n : Nat) : Builtin.Range.rangeSize 2 (2 * ((n : Int) + 1)) 2 = (n : Int) := by
  unfold Builtin.Range.rangeSize
  simp only [show (2 : Int) > 0 by decide, if_true]
  split <;> omega
theorem list_row (hh : A.handled = none) (F : Fr h₀ L s.heap m) (N : News h₀ L s.heap news) (hr : IsRange s.heap r 2 b 2 t₀ u₀ v₀) (hb : b = 2 * ((n : Int) + 1)) (hz : n ≤ 40)
    (h : ∀ D us c h' tk, Fr h₀ L h' m → News h₀ L h' ((D, listOf (List.toArray us) c) :: news) → (∀ p ∈ news, p.1 < D) → IntsAre us (row0 n) → Q (.ref D) { s with heap := h', toks := tk }) :
    wpAny (model prog w) A (call (.type "list") [.ref r]) Q E s := by
  subst hb
  refine call_list_range hh hr (small_two (by omega) (by omega)) (size_two n) (by omega) fun h' tk acc c hk hD hI => ?_
  have hD' : h'.get? s.heap.objs.size = some (listOf (List.toArray acc.toList) c) := by
    rw [Array.toArray_toList]
    exact hD
  refine h _ acc.toList c h' tk (F.keeps hk) (news_pushed F N hk hD' rfl) (fun p hp => Heap.lt_size (N p hp).1) ?_
  have := ints_row acc.toList 0 n (by rw [Array.length_toList]; exact hI.1) fun j v hj => by
    obtain ⟨t, ht⟩ := hI.2 j v (by rw [← hj, Array.getElem?_toList])
    exact ⟨t, by rw [ht, Nat.zero_add]⟩
  rwa [← List.range_eq_range'] at this
end
end Mine
end
section
open PySem PySem.W PyProof.Rows
namespace Mine
/-- after the exchange: x is the shorter one, none is empty -/
noncomputable def SwapP (a b x y : Str) : Prop := x.length ≤ y.length ∧ 1 ≤ x.length ∧ y.length ≤ 40 ∧ ed a.cps.toList b.cps.toList = ed x.cps.toList y.cps.toList
theorem SwapP.f1 {a b x y : Str} (h : SwapP a b x y) : x.length ≤ y.length := h.1
theorem SwapP.f2 {a b x y : Str} (h : SwapP a b x y) : 1 ≤ x.length := h.2.1
theorem SwapP.f3 {a b x y : Str} (h : SwapP a b x y) : y.length ≤ 40 := h.2.2.1
theorem SwapP.f4 {a b x y : Str} (h : SwapP a b x y) : ed a.cps.toList b.cps.toList = ed x.cps.toList y.cps.toList := h.2.2.2
theorem swapP_no {a b x y : Str} (hE : ed a.cps.toList b.cps.toList = ed x.cps.toList y.cps.toList) (h1 : x.length ≤ y.length) (h2 : 1 ≤ x.length) (h3 : y.length ≤ 40) : SwapP a b x y := ⟨h1, h2, h3, hE⟩
theorem swapP_yes {a b x y : Str} (hE : ed a.cps.toList b.cps.toList = ed y.cps.toList x.cps.toList) (h1 : x.length ≤ y.length) (h2 : 1 ≤ x.length) (h3 : y.length ≤ 40) : SwapP a b x y := ⟨h1, h2, h3, hE.trans (ed_comm _ _)⟩
/-- the distance of the first i signs of y and the first j of x -/
noncomputable def dd (x y : Str) (i j : Nat) : Int := ed (y.cps.toList.take i) (x.cps.toList.take j)
noncomputable def rowMid (x y : Str) (i j : Nat) : List Int := (List.range x.length).map fun (q : Nat) => if q < j then dd x y (i + 1) (q + 1) else dd x y i (q + 1)
noncomputable def rowAt (x y : Str) (i : Nat) : List Int := (List.range x.length).map fun (q : Nat) => dd x y i (q + 1)
theorem rowMid_zero (x y : Str) (i : Nat) : rowMid x y i 0 = rowAt x y i := by simp [rowMid, rowAt]
theorem rowMid_all (x y : Str) (i : Nat) : rowMid x y i x.length = rowAt x y (i + 1) := by
  unfold rowMid rowAt
  refine List.map_congr_left fun q hq => ?_
  rw [if_pos (List.mem_range.mp hq)]
theorem rowMid_length (x y : Str) (i j : Nat) : (rowMid x y i j).length = x.length := by simp [rowMid]
theorem rowAt_length (x y : Str) (i : Nat) : (rowAt x y i).length = x.length := by simp [rowAt]
theorem dd_zero (x y : Str) (j : Nat) (h : j ≤ x.length) : dd x y 0 j = 2 * (j : Int) := by
  unfold dd
  rw [List.take_zero, ed_nil, List.length_take, len_toList]
  omega
theorem dd_zero' (x y : Str) (i : Nat) (h : i ≤ y.length) : dd x y i 0 = 2 * (i : Int) := by
  unfold dd
  rw [List.take_zero, ed_nil', List.length_take, len_toList]
  omega
theorem rowMid_get (x y : Str) (i j : Nat) (h : j < x.length) : (rowMid x y i j).getD j 0 = dd x y i (j + 1) := by
  simp [rowMid, List.getD_eq_getElem?_getD, h]
theorem rowMid_set (x y : Str) (i j : Nat) : (rowMid x y i j).set j (dd x y (i + 1) (j + 1)) = rowMid x y i (j + 1) := by
  refine List.ext_getElem? fun q => ?_
  rw [List.getElem?_set, rowMid_length]
  by_cases hj : j = q
  · subst hj
    rw [if_pos rfl]
    by_cases hl : j < x.length
    · rw [if_pos hl]
      simp [rowMid, hl]
    · rw [if_neg hl]
      simp [rowMid, hl]
  · rw [if_neg hj]
    unfold rowMid
    simp only [List.getElem?_map]
    by_cases hl : q < x.length
    · rw [List.getElem?_range hl]
      simp only [Option.map_some]
      by_cases h1 : q < j
      · rw [if_pos h1, if_pos (by omega)]
      · rw [if_neg h1, if_neg (by omega)]
    · rw [List.getElem?_eq_none (by simp; omega)]
      rfl
/-- what result holds when j columns of row i + 1 are done -/
noncomputable def resMid (x y : Str) (i j : Nat) : Int := if j = 0 then 2 * (i : Int) else dd x y (i + 1) j
theorem min_add2 (a b : Int) : min a b + 2 = min (a + 2) (b + 2) := by omega
theorem dd_step (x y : Str) (i j : Nat) (hi : i < y.length) (hj : j < x.length) :
    dd x y (i + 1) (j + 1) = min (min (resMid x y i j) (dd x y i (j + 1)) + 2) (dd x y i j + sc (y.cps.toList.getD i 0) (x.cps.toList.getD j 0)) := by
  have hi' : i < y.cps.toList.length := by rw [len_toList]; exact hi
  have hj' : j < x.cps.toList.length := by rw [len_toList]; exact hj
  have e : dd x y (i + 1) (j + 1) = min (min (dd x y i (j + 1) + 2) (dd x y (i + 1) j + 2)) (dd x y i j + sc (y.cps.toList.getD i 0) (x.cps.toList.getD j 0)) := by
    unfold dd
    rw [List.take_succ_eq_append_getElem hi', List.take_succ_eq_append_getElem hj', ed_snoc]
    simp only [List.getD_eq_getElem?_getD, List.getElem?_eq_getElem hi', List.getElem?_eq_getElem hj', Option.getD_some]
  rw [e]
  unfold resMid
  have h2 := sc_le (y.cps.toList.getD i 0) (x.cps.toList.getD j 0)
  by_cases h0 : j = 0
  · subst h0
    rw [if_pos rfl, dd_zero' x y (i + 1) hi, dd_zero' x y i (by omega)]
    omega
  · rw [if_neg h0, min_add2, Int.min_comm (dd x y (i + 1) j + 2)]
theorem row0_eq (x y : Str) : ((List.range x.length).map fun (i : Nat) => 2 + (i : Int) * 2) = rowAt x y 0 := by
  unfold rowAt
  refine List.map_congr_left fun q hq => ?_
  rw [dd_zero x y (q + 1) (by have := List.mem_range.mp hq; omega)]
  omega
/-- the whole of a row above m: the distance too -/
theorem dd_early (x y : Str) (i : Nat) (m : Int) (hi : i < y.length) (hx : 1 ≤ x.length) (h : ∀ q, q < x.length → m < dd x y (i + 1) (q + 1)) : m < ed x.cps.toList y.cps.toList := by
  rw [ed_comm]
  have key : ∀ q, m < ed (y.cps.toList.take (i + 1)) (x.cps.toList.take q) := by
    intro q
    cases q with
    | zero =>
      have h1 := h 0 (by omega)
      have h2 := dd_step x y i 0 hi (by omega)
      have h3 : dd x y i 0 = 2 * (i : Int) := dd_zero' x y i (by omega)
      have h4 := sc_le (y.cps.toList.getD i 0) (x.cps.toList.getD 0 0)
      have h5 : dd x y (i + 1) 0 = 2 * ((i + 1 : Nat) : Int) := dd_zero' x y (i + 1) hi
      show m < dd x y (i + 1) 0
      omega
    | succ q =>
      by_cases hq : q < x.length
      · exact h q hq
      · have h1 := h (x.length - 1) (by omega)
        unfold dd at h1
        have e1 : x.cps.toList.take (x.length - 1 + 1) = x.cps.toList := List.take_of_length_le (by rw [len_toList]; omega)
        have e2 : x.cps.toList.take (q + 1) = x.cps.toList := List.take_of_length_le (by rw [len_toList]; omega)
        rw [e1] at h1
        rw [e2]
        exact h1
  have := ed_row_all m x.cps.toList (y.cps.toList.drop (i + 1)) (y.cps.toList.take (i + 1)) key
  rwa [List.take_append_drop] at this
theorem dd_whole (x y : Str) : dd x y y.length x.length = ed x.cps.toList y.cps.toList := by
  unfold dd
  rw [List.take_of_length_le (by rw [len_toList]; omega), List.take_of_length_le (by rw [len_toList]; omega), ed_comm]
end Mine
namespace Mine
noncomputable def resAt (x y : Str) (i : Nat) : Int := if i = 0 then 0 else dd x y i x.length
end Mine
end
section
open PySem PySem.W PyProof.Rows PySem.Spec PySem.Calls
set_option Elab.async false
set_option maxRecDepth 100000
set_option maxHeartbeats 8000000
set_option linter.unusedVariables false
namespace Mine
noncomputable def subC (x y : Str) : Int := if (x == y) = true then 0 else if (Txt.lower x == Txt.lower y) = true then 1 else 2
theorem sub_fn (w : World) (x y : Str) (tx ty : Tok) (hx : x.length ≤ 1) (hy : y.length ≤ 1) : FnI w 1 21 [.str x tx, .str y ty] (fun r => r = subC x y) := by
  dsimp only [FnI]
  k_fill
  k_with_none
  intros
  rename_i hret
  have cbI : CbIn 21 := CbIn.mk
  refine wpAny_call ?_
  (first | k_dflt cell_enter | ktn_no "k_call_by: the def is not entered")
  k_steps

  all_goals ((exact hret _ _ _ _ (by unfold subC; simp_all) (by k_asm) (by k_asm)))



end Mine
end
section
open PySem PySem.W PyProof.Rows
namespace Mine
theorem outer_start (x y : Str) : (row0 x.length).length = x.length ∧ row0 x.length = rowAt x y ([] : List Int).length ∧ (0 : Int) = resAt x y ([] : List Int).length := ⟨by simp [row0], row0_eq x y, rfl⟩
theorem inner_start {x y : Str} {row pre : List Int} {k M : Int} (hrow : row = rowAt x y pre.length) (hk : k = 0 + (pre.length : Int)) (hl : row.length = x.length) (hk2 : k ≤ (y.length : Int)) :
    row.length = x.length ∧ row = rowMid x y k.toNat ([] : List Int).length ∧ k * 2 = dd x y k.toNat ([] : List Int).length ∧ k * 2 = resMid x y k.toNat ([] : List Int).length ∧ ∀ q, q < ([] : List Int).length → M ≤ dd x y (k.toNat + 1) (q + 1) := by
  have e : k.toNat = pre.length := by omega
  refine ⟨hl, ?_, ?_, ?_, fun q hq => absurd hq (Nat.not_lt_zero _)⟩
  · rw [e, List.length_nil, rowMid_zero]; exact hrow
  · rw [List.length_nil, dd_zero' x y k.toNat (by omega)]; omega
  · rw [List.length_nil]; unfold resMid; rw [if_pos rfl]; omega
theorem subC_item (x y : Str) (k n : Int) (hk0 : 0 ≤ k) (hk1 : k < (y.length : Int)) (hn0 : 0 ≤ n) (hn1 : n < (x.length : Int)) : subC (Txt.item y k) (Txt.item x n) = sc (y.cps.toList.getD k.toNat 0) (x.cps.toList.getD n.toNat 0) := by
  rw [item_nonneg y k hk0 hk1, item_nonneg x n hn0 hn1]
  unfold subC sc
  simp only [beq_iff_eq, Str.mk.injEq, Array.mk.injEq, List.cons.injEq, and_true]
theorem inner_turn {x y : Str} {row pre : List Int} {dist res mn mn' k n new : Int} (h1 : row = rowMid x y k.toNat pre.length) (h2 : dist = dd x y k.toNat pre.length) (h3 : res = resMid x y k.toNat pre.length)
    (h4 : ∀ q, q < pre.length → mn ≤ dd x y (k.toNat + 1) (q + 1)) (hn : n = 0 + (pre.length : Int)) (hn1 : n < (x.length : Int)) (hk0 : 0 ≤ k) (hk1 : k < (y.length : Int))
    (hnew : new = if dist + subC (Txt.item y k) (Txt.item x n) < (if row.getD n.toNat 0 < res then row.getD n.toNat 0 else res) + 2 then dist + subC (Txt.item y k) (Txt.item x n) else (if row.getD n.toNat 0 < res then row.getD n.toNat 0 else res) + 2)
    (hm1 : mn' ≤ mn) (hm2 : mn' ≤ new) :
    (row.set n.toNat new).length = x.length ∧ row.set n.toNat new = rowMid x y k.toNat (pre ++ [n]).length ∧ row.getD n.toNat 0 = dd x y k.toNat (pre ++ [n]).length ∧ new = resMid x y k.toNat (pre ++ [n]).length ∧
      ∀ q, q < (pre ++ [n]).length → mn' ≤ dd x y (k.toNat + 1) (q + 1) := by
  have e : n.toNat = pre.length := by omega
  have hl : (pre ++ [n]).length = pre.length + 1 := by simp
  have g : row.getD n.toNat 0 = dd x y k.toNat (pre.length + 1) := by rw [h1, e]; exact rowMid_get x y _ _ (by omega)
  have hv : new = dd x y (k.toNat + 1) (pre.length + 1) := by
    rw [dd_step x y k.toNat pre.length (by omega) (by omega), hnew, g, h2, h3, subC_item x y k n hk0 hk1 (by omega) hn1, e]
    generalize resMid x y k.toNat pre.length = p
    generalize dd x y k.toNat (pre.length + 1) = r
    generalize dd x y k.toNat pre.length = u
    generalize sc _ _ = v
    have i1 : (if r < p then r else p) = min p r := by split <;> omega
    rw [i1]
    split <;> omega
  rw [hl]
  refine ⟨by rw [List.length_set, h1, rowMid_length], ?_, g, ?_, fun q hq => ?_⟩
  · rw [e, h1, hv]; exact rowMid_set x y _ _
  · unfold resMid; rw [if_neg (by omega)]; exact hv
  · by_cases hq' : q < pre.length
    · exact Int.le_trans hm1 (h4 q hq')
    · obtain rfl : q = pre.length := by omega
      rw [← hv]; exact hm2
theorem inner_turnA {x y : Str} {row pre : List Int} {dist res mn k n new : Int} (h1 : row = rowMid x y k.toNat pre.length) (h2 : dist = dd x y k.toNat pre.length) (h3 : res = resMid x y k.toNat pre.length)
    (h4 : ∀ q, q < pre.length → mn ≤ dd x y (k.toNat + 1) (q + 1)) (hn : n = 0 + (pre.length : Int)) (hn1 : n < (x.length : Int)) (hk0 : 0 ≤ k) (hk1 : k < (y.length : Int))
    (hnew : new = if dist + subC (Txt.item y k) (Txt.item x n) < (if row.getD n.toNat 0 < res then row.getD n.toNat 0 else res) + 2 then dist + subC (Txt.item y k) (Txt.item x n) else (if row.getD n.toNat 0 < res then row.getD n.toNat 0 else res) + 2)
    (hm : new < mn) :
    (row.set n.toNat new).length = x.length ∧ row.set n.toNat new = rowMid x y k.toNat (pre ++ [n]).length ∧ row.getD n.toNat 0 = dd x y k.toNat (pre ++ [n]).length ∧ new = resMid x y k.toNat (pre ++ [n]).length ∧
      ∀ q, q < (pre ++ [n]).length → new ≤ dd x y (k.toNat + 1) (q + 1) := inner_turn h1 h2 h3 h4 hn hn1 hk0 hk1 hnew (by omega) (by omega)
theorem inner_turnB {x y : Str} {row pre : List Int} {dist res mn k n new : Int} (h1 : row = rowMid x y k.toNat pre.length) (h2 : dist = dd x y k.toNat pre.length) (h3 : res = resMid x y k.toNat pre.length)
    (h4 : ∀ q, q < pre.length → mn ≤ dd x y (k.toNat + 1) (q + 1)) (hn : n = 0 + (pre.length : Int)) (hn1 : n < (x.length : Int)) (hk0 : 0 ≤ k) (hk1 : k < (y.length : Int))
    (hnew : new = if dist + subC (Txt.item y k) (Txt.item x n) < (if row.getD n.toNat 0 < res then row.getD n.toNat 0 else res) + 2 then dist + subC (Txt.item y k) (Txt.item x n) else (if row.getD n.toNat 0 < res then row.getD n.toNat 0 else res) + 2)
    (hm : ¬ new < mn) :
    (row.set n.toNat new).length = x.length ∧ row.set n.toNat new = rowMid x y k.toNat (pre ++ [n]).length ∧ row.getD n.toNat 0 = dd x y k.toNat (pre ++ [n]).length ∧ new = resMid x y k.toNat (pre ++ [n]).length ∧
      ∀ q, q < (pre ++ [n]).length → mn ≤ dd x y (k.toNat + 1) (q + 1) := inner_turn h1 h2 h3 h4 hn hn1 hk0 hk1 hnew (by omega) (by omega)
theorem ks_len (n : Nat) : (rangeKs 0 ((n : Int) - 0).toNat).length = n := by rw [rangeKs_length]; omega
theorem outer_turn {x y : Str} {row pre : List Int} {res k : Int} (h1 : row = rowMid x y k.toNat (rangeKs 0 ((x.length : Int) - 0).toNat).length) (h3 : res = resMid x y k.toNat (rangeKs 0 ((x.length : Int) - 0).toNat).length)
    (hk : k = 0 + (pre.length : Int)) (hl : row.length = x.length) (hx : 1 ≤ x.length) : row.length = x.length ∧ row = rowAt x y (pre ++ [k]).length ∧ res = resAt x y (pre ++ [k]).length := by
  have e : k.toNat = pre.length := by omega
  have hl' : (pre ++ [k]).length = pre.length + 1 := by simp
  rw [ks_len, e] at h1 h3
  refine ⟨hl, ?_, ?_⟩
  · rw [hl', h1, rowMid_all]
  · rw [hl', h3]
    unfold resMid resAt
    rw [if_neg (by omega), if_neg (by omega)]
theorem levSpec_early {a b x y : Str} {mc k mn : Int} (h : ed a.cps.toList b.cps.toList = ed x.cps.toList y.cps.toList) (h4 : ∀ q, q < (rangeKs 0 ((x.length : Int) - 0).toNat).length → mn ≤ dd x y (k.toNat + 1) (q + 1)) (hm : mc < mn)
    (hk0 : 0 ≤ k) (hk1 : k < (y.length : Int)) (hx : 1 ≤ x.length) : LevSpec a b mc (mc + 1) := by
  refine levSpec_more ?_ (by omega)
  rw [h]
  exact dd_early x y k.toNat mc (by omega) hx fun q hq => Int.lt_of_lt_of_le hm (h4 q (by rw [ks_len]; exact hq))
theorem levSpec_end {a b x y : Str} {mc r : Int} (h : ed a.cps.toList b.cps.toList = ed x.cps.toList y.cps.toList) (hr : r = resAt x y (rangeKs 0 ((y.length : Int) - 0).toNat).length) (hy : 1 ≤ y.length) : LevSpec a b mc r := by
  refine levSpec_exact ?_
  rw [hr, ks_len, h]
  unfold resAt
  rw [if_neg (by omega), dd_whole]
end Mine
end
section
open PySem PySem.W PyProof.Rows PySem.Spec PySem.Calls PyProof.V
set_option maxRecDepth 100000
set_option linter.unusedVariables false
namespace Mine
/-- the table of what is known: each pair of texts with its distance -/
noncomputable def DOk (D : List (PyData × PyData)) : Prop := ∀ (x y : Str) (dv : PyData), lookup (encTuple PyData.str [x, y]) D = some dv → dv = .int (ed x.cps.toList y.cps.toList)
theorem dOk_nil : DOk [] := fun x y dv h => by cases h
theorem dOk_put {D : List (PyData × PyData)} (h : DOk D) (x y : Str) {r : Int} (hr : r = ed x.cps.toList y.cps.toList) : DOk (putD (encTuple PyData.str [x, y]) (.int r) D) := by
  intro x' y' dv hl
  rw [lookup_putK (keyEnc_tuple keyEnc_str)] at hl
  split at hl
  · rename_i e
    cases e
    cases hl
    rw [hr]
  · exact h x' y' dv hl
noncomputable def cst : Nat → Nat
  | 0 => 1
  | n + 1 => 1 + 3 * cst n
theorem cst_mono {m n : Nat} (h : m ≤ n) : cst m ≤ cst n := by
  induction n with
  | zero => obtain rfl : m = 0 := by omega
            exact Nat.le_refl _
  | succ n ih =>
    by_cases e : m = n + 1
    · subst e; exact Nat.le_refl _
    · have := ih (by omega)
      show _ ≤ 1 + 3 * cst n
      omega
/-- the contract of _law_apart -/
noncomputable def ApartAt (w : World) (one other : Str) : Prop :=
  ∀ (t1 t2 : Tok) (mean : ExcName → Option Value) (mg mb : Str → Option Value) (news : List (Addr × Obj)) (dp un : Nat) (gd : Option (List Code)) (cn : Str) (cs : Scope) (a : Addr) (ccd : Value) (cl : List (Str × Addr)) (outer : List Env) (A₀ : Around) (base h₀ : Heap) (L : Addr) (m : Str → Option Value) (s : Shared) (Q E : Value → Shared → Prop) (d : Addr) (D : List (PyData × PyData)),
    Below A₀ base outer h₀ → Fr h₀ L s.heap m → (hd.heap_1 w.params).In h₀ → News h₀ L s.heap news →
    Top topProg lo mean mg mb h₀ → cs.kind = .function →
    dp + (one.length + other.length + 2) < recursionLimit → un + 64 * (one.length + other.length + 2) < cLine →
    TupTab (strKind PySem.Challenge.rw_oc0133_01.row.prog w) PyData.str news d D → DOk D → D.length + cst (one.length + other.length) ≤ 10000000 →
    (∀ (t : Tok) (h' : Heap) (tk' : Nat) (news' : List (Addr × Obj)) (D' : List (PyData × PyData)), Fr h₀ L h' m → News h₀ L h' news' → TupTab (strKind PySem.Challenge.rw_oc0133_01.row.prog w) PyData.str news' d D' → DOk D' →
      D'.length ≤ D.length + cst (one.length + other.length) → (∀ p ∈ news, p.1 ≠ d → p ∈ news') → Q (.int (ed one.cps.toList other.cps.toList) t) { s with heap := h', toks := tk' }) →
    wpAny (model PySem.Challenge.rw_oc0133_01.row.prog w) (ktrTop dp un gd cn cs L a ccd cl outer) (call (.ref 124) [.str one t1, .str other t2, .ref d]) Q E s
theorem use_apart {w : World} {one other : Str} (C : ApartAt w one other)
    {t1 t2 : Tok} {mean : ExcName → Option Value} {mg mb : Str → Option Value} {news : List (Addr × Obj)} {dp un : Nat} {gd : Option (List Code)} {cn : Str} {cs : Scope} {a : Addr} {ccd : Value} {cl : List (Str × Addr)} {outer : List Env} {A₀ : Around} {base h₀ : Heap} {L : Addr} {m : Str → Option Value} {s : Shared} {Q E : Value → Shared → Prop} {d : Addr} {D : List (PyData × PyData)}
    (k1 : Below A₀ base outer h₀) (k2 : Fr h₀ L s.heap m) (k3 : (hd.heap_1 w.params).In h₀) (k4 : News h₀ L s.heap news)
    (k5 : Top topProg lo mean mg mb h₀) (k6 : cs.kind = .function)
    (k7 : dp + (one.length + other.length + 2) < recursionLimit) (k8 : un + 64 * (one.length + other.length + 2) < cLine)
    (kT : TupTab (strKind PySem.Challenge.rw_oc0133_01.row.prog w) PyData.str news d D) (kD : DOk D) (kL : D.length + cst (one.length + other.length) ≤ 10000000)
    (k9 : ∀ (t : Tok) (h' : Heap) (tk' : Nat) (news' : List (Addr × Obj)) (D' : List (PyData × PyData)), Fr h₀ L h' m → News h₀ L h' news' → TupTab (strKind PySem.Challenge.rw_oc0133_01.row.prog w) PyData.str news' d D' → DOk D' →
      D'.length ≤ D.length + cst (one.length + other.length) → (∀ p ∈ news, p.1 ≠ d → p ∈ news') → Q (.int (ed one.cps.toList other.cps.toList) t) { s with heap := h', toks := tk' }) :
    wpAny (model PySem.Challenge.rw_oc0133_01.row.prog w) (ktrTop dp un gd cn cs L a ccd cl outer) (call (.ref 124) [.str one t1, .str other t2, .ref d]) Q E s :=
  C t1 t2 mean mg mb news dp un gd cn cs a ccd cl outer A₀ base h₀ L m s Q E d D k1 k2 k3 k4 k5 k6 k7 k8 kT kD kL k9
theorem ed_empty {one other : Str} (h : one.length = 0 ∨ other.length = 0) : 2 * ((one.length : Int) + other.length) = ed one.cps.toList other.cps.toList := by
  rcases h with q | q
  · have e : one.cps.toList = [] := List.eq_nil_of_length_eq_zero (by rw [len_toList]; exact q)
    rw [e, ed_nil, len_toList]; omega
  · have e : other.cps.toList = [] := List.eq_nil_of_length_eq_zero (by rw [len_toList]; exact q)
    rw [e, ed_nil', len_toList]; omega
theorem ed_str {one other : Str} (h1 : 1 ≤ one.length) (h2 : 1 ≤ other.length) :
    ed one.cps.toList other.cps.toList = min (min (ed (Txt.slice one (some 1) none).cps.toList other.cps.toList + 2) (ed one.cps.toList (Txt.slice other (some 1) none).cps.toList + 2))
      (ed (Txt.slice one (some 1) none).cps.toList (Txt.slice other (some 1) none).cps.toList + subC (Txt.item one 0) (Txt.item other 0)) := by
  rw [slice_from one 1 (by omega) (by omega), slice_from other 1 (by omega) (by omega), subC_item other one 0 0 (by omega) (by omega) (by omega) (by omega)]
  obtain ⟨⟨l⟩⟩ := one
  obtain ⟨⟨k⟩⟩ := other
  cases l with
  | nil => simp [Str.length] at h1
  | cons x l =>
    cases k with
    | nil => simp [Str.length] at h2
    | cons y k =>
      show ed (x :: l) (y :: k) = _
      rw [ed_cons]
      rfl
end Mine
namespace Mine
theorem ne_len {x : Str} (h : (x == Str.ofString "") = false) : 1 ≤ x.length := by
  by_cases e : x.length = 0
  · have : x = Str.ofString "" := by
      refine str_ext ?_
      have e1 : x.cps.toList = [] := List.eq_nil_of_length_eq_zero (by rw [len_toList]; exact e)
      rw [e1]
      decide
    rw [this] at h
    simp at h
  · omega
theorem eq_len {x : Str} (h : (x == Str.ofString "") = true) : x.length = 0 := by
  rw [beq_iff_eq.mp h]; decide
theorem ed_catL {one other : Str} (h : (one == Str.ofString "") = true) : 2 * ((one ++ other).length : Int) = ed one.cps.toList other.cps.toList := by
  rw [← ed_empty (.inl (eq_len h)), Str.length_append]; omega
theorem ed_catR {one other : Str} (h : (other == Str.ofString "") = true) : 2 * ((one ++ other).length : Int) = ed one.cps.toList other.cps.toList := by
  rw [← ed_empty (.inr (eq_len h)), Str.length_append]; omega
theorem subC_0 {x y : Str} (h : (x == y) = true) : (0 : Int) = subC x y := by unfold subC; rw [if_pos h]
theorem subC_1 {x y : Str} (h : (x == y) = false) (h2 : (Txt.lower x == Txt.lower y) = true) : (1 : Int) = subC x y := by unfold subC; rw [if_neg (by rw [h]; decide), if_pos h2]
theorem subC_2 {x y : Str} (h : (x == y) = false) (h2 : (Txt.lower x == Txt.lower y) = false) : (2 : Int) = subC x y := by unfold subC; rw [if_neg (by rw [h]; decide), if_neg (by rw [h2]; decide)]
theorem cst_step (k : Nat) (h : 1 ≤ k) : 1 + 3 * cst (k - 1) ≤ cst k := by
  obtain ⟨j, rfl⟩ : ∃ j, k = j + 1 := ⟨k - 1, by omega⟩
  exact Nat.le_refl _
section
variable {prog : Program} {w : World} {A : Around} {E : Value → Shared → Prop} {s : Shared} {h₀ : Heap} {L d a : Addr} {m : Str → Option Value} {news : List (Addr × Obj)} {D : List (PyData × PyData)} {ok : Obj} {x y : Str}
theorem item_known {value slice : PySem.Expr} {Q : Value → Shared → Prop} (hu : A.units + 1 < cLine) (N : News h₀ L s.heap news) (T : TupTab (strKind prog w) PyData.str news d D) (hO : DOk D)
    (hka : (a, ok) ∈ news) (tk : TupKeyObj (strKind prog w) [x, y] ok) (hl : (Spec.lookup (encTuple PyData.str [x, y]) D).isSome = true) (h : ∀ t, Q (.int (ed x.cps.toList y.cps.toList) t) { s with toks := s.toks + 3 })
    (hs : subscripted slice false (.ref d) (.ref a) = operate [.ref d, .ref a] (getItem (.ref d) (.ref a)) := by with_unfolding_all rfl) (hg : ∀ r, letTemporaryGo value (.ref d) r = pure () := by intro _; with_unfolding_all rfl) :
    wpAny (model prog w) A (subscriptTail value slice (.ref d) (.ref a)) Q E s := by
  obtain ⟨dv, hd⟩ := Option.isSome_iff_exists.mp hl
  refine item_tupTab same_str hu N T hka tk hd (fun v hv => ?_) hs hg
  have := hO x y dv hd
  subst this
  have r := hv s.heap
  cases r
  exact h _
end
end Mine
namespace Mine
theorem mk_of {h₀ h : Heap} {L : Addr} {q : Addr × Obj} {news : List (Addr × Obj)} (N : News h₀ L h (q :: news)) (d : Addr) : ∀ p ∈ news, p.1 ≠ d → p ∈ q :: news := fun _ hp _ => .tail _ hp
end Mine
namespace Mine
theorem slice1_len {x : Str} (h : 1 ≤ x.length) : (Txt.slice x (some 1) none).length + 1 = x.length := by
  rw [← len_toList, slice_from x 1 (by omega) (by omega), List.length_drop, len_toList]
  show x.length - 1 + 1 = x.length
  omega
end Mine
namespace Mine
theorem ed_min {one other : Str} {M c : Int} (h1 : 1 ≤ one.length) (h2 : 1 ≤ other.length) (hc : c = subC (Txt.item one 0) (Txt.item other 0))
    (ha : M = ed (Txt.slice one (some 1) none).cps.toList other.cps.toList + 2 ∨ M = ed one.cps.toList (Txt.slice other (some 1) none).cps.toList + 2 ∨ M = ed (Txt.slice one (some 1) none).cps.toList (Txt.slice other (some 1) none).cps.toList + c)
    (hb : M ≤ ed (Txt.slice one (some 1) none).cps.toList other.cps.toList + 2 ∧ M ≤ ed one.cps.toList (Txt.slice other (some 1) none).cps.toList + 2 ∧ M ≤ ed (Txt.slice one (some 1) none).cps.toList (Txt.slice other (some 1) none).cps.toList + c) :
    M = ed one.cps.toList other.cps.toList := by
  rw [ed_str h1 h2, ← hc]
  refine Int.le_antisymm (Int.le_min.mpr ⟨Int.le_min.mpr ⟨hb.1, hb.2.1⟩, hb.2.2⟩) ?_
  rcases ha with h | h | h
  · rw [h]; exact Int.le_trans (Int.min_le_left _ _) (Int.min_le_left _ _)
  · rw [h]; exact Int.le_trans (Int.min_le_left _ _) (Int.min_le_right _ _)
  · rw [h]; exact Int.min_le_right _ _
section
variable {prog : Program} {w : World} {news : List (Addr × Obj)} {d : Addr} {ks : List Str} {dv : PyData} {D : List (PyData × PyData)}
theorem known_put (T : TupTab (strKind prog w) PyData.str news d (putD (encTuple PyData.str ks) dv D)) : (Spec.lookup (encTuple PyData.str ks) (putD (encTuple PyData.str ks) dv D)).isSome = true := isSome_putT keyEnc_str _ _ _
theorem put_len (T : TupTab (strKind prog w) PyData.str news d (putD (encTuple PyData.str ks) dv D)) : (putD (encTuple PyData.str ks) dv D).length ≤ D.length + 1 := putD_length_le _ _ _
end
end Mine
end
section
open PySem PySem.W PyProof.Rows PySem.Spec PySem.Calls PyProof.V
set_option Elab.async false
set_option maxRecDepth 100000
set_option maxHeartbeats 8000000
set_option linter.unusedVariables false
namespace Mine
theorem apart_fn (w : World) (n : Nat) : ∀ (one other : Str), one.length + other.length = n → n ≤ 40 → ApartAt w one other := by
  induction n using Nat.strongRecOn with
  | ind n ih =>
  intro one other hn hn12
  dsimp only [ApartAt]
  k_fill
  k_with_none
  intro t1 t2 mean mg mb news dp un gd cn cs a ccd cl outer A₀ base h₀ L m s Q E d D B0 F0 X0 N0 T0 hk0 hroom hunits hTab hDok hDlen hret
  have cbI : CbIn 124 := CbIn.mk
  refine wpAny_call ?_
  (first | k_dflt cell_enter | ktn_no "k_call_by: the def is not entered")
  k_with "exec Assign" =>
    k_here
    goal_lacks Mine.MidI
    (with_reducible show wpAny _ _ (exec (Stmt.Assign [Expr.Name (Str.ofString "change") _] _ _) _) _ _ _)
    have hp1 : 1 ≤ one.length := ne_len (by assumption)
    have hp2 : 1 ≤ other.length := ne_len (by assumption)
    have hs1 := slice1_len hp1
    have hs2 := slice1_len hp2
    have hc := cst_step (one.length + other.length) (by omega)
    refine' cut_I (Str.ofString "change") (fun c => c = subC (Txt.item one 0) (Txt.item other 0)) ?k1 ?k2 ?_ ?_
    (case k1 => k_asm)
    (case k2 => k_asm)
    rotate_left
    intro ch tch h' tk hch F' N'
    have Mk := mk_of N' d
    (try dsimp only)
    rotate_right
  k_with "MidI" =>
    refine' midI_of ?mF ?mN ?mA ?mB ?mP
    (case mF => k_asm)
    (case mN => k_asm)
    (case mA => exact if_pos rfl)
    (case mB => (intro y hy; simp only [if_neg hy]))
    (case mP => first | exact subC_0 (by assumption) | exact subC_1 (by assumption) (by assumption) | exact subC_2 (by assumption) (by assumption))
  k_with "call ref" =>
    k_here
    k_dflt (refine' use_apart (ih _ ?zl _ _ rfl ?zn) ?z1 ?z2 ?z3 ?z4 ?z5 ?z6 ?z7 ?z8 ?zT ?zD ?zL ?_; (case zl => omega); (case zn => omega); (case z1 => k_asm); (case z2 => k_asm); (case z3 => k_asm); (case z4 => k_asm); (case z5 => k_asm); (case z6 => first | exact rfl | assumption); (case z7 => ktr_room); (case z8 => ktr_units); (case zT => tuptab_tab); (case zD => assumption); (case zL => (refine Nat.le_trans (Nat.add_le_add_left (cst_mono (n := one.length + other.length - 1) (by omega)) _) ?_; omega)))
    intro t9 h9 tk9 news9 D9 F9 N9 T9 O9 L9 M9
    have L8 := Nat.le_trans L9 (Nat.add_le_add_left (cst_mono (n := one.length + other.length - 1) (by omega)) _)
    clear L9
    have Mk : ∀ p ∈ news, p.1 ≠ d → p ∈ news9 := fun p hp hpd => M9 p (Mk p hp hpd) hpd
    clear M9
    (try dsimp only)
    (try k_fold)
  k_with "setItem ref ref" =>
    k_here
    (refine setItem_tupTab (knd := strKind _ _) (enc := PyData.str) same_str (by units_room) (PyProof.V.Flat.int _ _) (by assumption) (by assumption) (by tuptab_tab) (by tuptab_mem) (TupKeyObj.made (by tuptab_items_str)) ?_ (hsz := by (rw [sizeLine_eq]; omega)))
    intro h' news' F' N' T' M' K'
    have O' := dOk_put O9 one other (ed_min hp1 hp2 hch (by assumption) (by assumption))
    have S' := known_put T'
    have P' := put_len T'
    have Mk : ∀ p ∈ news, p.1 ≠ d → p ∈ news' := fun p hp hpd => K' p (.tail _ (.tail _ (Mk p hp hpd))) hpd
    (try dsimp only)
  k_with "subscriptTail" =>
    k_here
    (with_reducible show wpAny _ _ (subscriptTail _ _ (Value.ref _) (Value.ref _)) _ _ _)
    (refine item_known (by units_room) (by assumption) (by tuptab_tab) (by assumption) (by tuptab_mem) (TupKeyObj.made (by tuptab_items_str)) (by assumption) ?_)
    intro _
  k_steps
  all_goals (first
    | (rw [ed_catL (by assumption)]; exact hret _ _ _ _ _ (by k_asm) (by k_asm) (by tuptab_tab) (by assumption) (by omega) (by intro p hp hpd; first | exact hp | exact .tail _ hp | exact .tail _ (.tail _ hp)))
    | (rw [ed_catR (by assumption)]; exact hret _ _ _ _ _ (by k_asm) (by k_asm) (by tuptab_tab) (by assumption) (by omega) (by intro p hp hpd; first | exact hp | exact .tail _ hp | exact .tail _ (.tail _ hp)))
    | exact hret _ _ _ _ _ (by k_asm) (by k_asm) (by tuptab_tab) (by assumption) (by omega) (by intro p hp hpd; first | exact .tail _ (Mk p hp hpd) | exact Mk p hp hpd | exact .tail _ hp | exact .tail _ (.tail _ hp)))

end Mine
end
section
open PySem PySem.W PyProof.Rows PySem.Spec PySem.Calls
set_option Elab.async false
set_option maxRecDepth 100000
set_option maxHeartbeats 8000000
set_option linter.unusedVariables false
namespace Mine
/-- a word misspelt: at the place, by the way -/
noncomputable def misspelt (word : Str) (place way : Int) : Str :=
  (Txt.slice word none (some place) ++ (if way = 0 then Txt.swapcase (Txt.slice word (some place) (some (place + 1))) else if way = 1 then Str.ofString "" else if way = 2 then Txt.slice word (some place) (some (place + 1)) ++ Txt.slice word (some place) (some (place + 1))
    else if way = 3 then Str.ofString "x" else if way = 4 then Txt.slice word (some (place + 1)) (some (place + 2)) ++ Txt.slice word (some place) (some (place + 1)) else Txt.slice word (some place) (some (place + 1)))) ++
  Txt.slice word (some (place + (if way = 4 then 2 else 1))) none
theorem split6 {x : Int} (h0 : 0 ≤ x) (h1 : x ≤ 5) : x = 0 ∨ x = 1 ∨ x = 2 ∨ x = 3 ∨ x = 4 ∨ x = 5 := by
  obtain ⟨n, rfl⟩ := Int.eq_ofNat_of_zero_le h0
  have k : ∀ n : Nat, n < 6 → ((n : Int) = 0 ∨ (n : Int) = 1 ∨ (n : Int) = 2 ∨ (n : Int) = 3 ∨ (n : Int) = 4 ∨ (n : Int) = 5) := by decide
  exact k n (Nat.lt_succ_of_le (Int.ofNat_le.mp h1))
theorem misspelt_fn (w : World) (word : Str) (place way : Int) (tw tp ty : Tok) (hw : word.length ≤ 20) (hp0 : 0 ≤ place) (hp1 : place ≤ 3) (hw0 : 0 ≤ way) (hw1 : way ≤ 5) : FnS w 1 98 [.str word tw, .int place tp, .int way ty] (fun r => r = misspelt word place way) := by
  dsimp only [FnS]
  k_fill
  k_with_none
  intros
  rename_i hret
  have cbI : CbIn 98 := CbIn.mk
  refine wpAny_call ?_
  (first | k_dflt cell_enter | ktn_no "k_call_by: the def is not entered")
  k_with "subscriptTail" =>
    k_here
    (with_reducible show wpAny _ _ (subscriptTail _ _ (Value.ref _) (Value.int way _)) _ _ _)
    rcases split6 hw0 hw1 with rfl | rfl | rfl | rfl | rfl | rfl
  k_steps
  all_goals (exact hret _ _ _ _ rfl (by k_asm) (by first | k_asm | (refine' cb_drop ?cbN ?cbS; (case cbN => assumption); (case cbS => kcj_all))))

end Mine
end
section
open PySem PySem.W PyProof.Rows PySem.Spec PySem.Calls
set_option maxRecDepth 100000
set_option linter.unusedVariables false
namespace Mine
theorem slice_le_idx (x : Str) (l u : Option Int) : (Txt.slice x l u).length ≤ (Builtin.Str.strSliceIndices l u 1 x.length).length := by
  unfold Txt.slice
  split
  · rename_i h
    simp only [BEq.rfl, Bool.true_and, beq_iff_eq] at h
    omega
  · show (List.filterMap _ (Builtin.Str.strSliceIndices l u 1 x.length)).toArray.size ≤ _
    rw [List.size_toArray]
    exact List.length_filterMap_le _ _
theorem idx_to (p : Int) (n : Nat) (h : 0 ≤ p) : ((Builtin.Str.strSliceIndices none (some p) 1 n).length : Int) ≤ min p n := by
  unfold Builtin.Str.strSliceIndices sliceRange
  simp only [show (1 : Int) > 0 by decide, if_true, List.length_map, List.length_range]
  split <;> (try split) <;> (try split) <;> (try simp only [Int.ediv_one]) <;> omega
theorem idx_from (p : Int) (n : Nat) (h : 0 ≤ p) : ((Builtin.Str.strSliceIndices (some p) none 1 n).length : Int) ≤ max 0 (n - p) := by
  unfold Builtin.Str.strSliceIndices sliceRange
  simp only [show (1 : Int) > 0 by decide, if_true, List.length_map, List.length_range]
  split <;> (try split) <;> (try split) <;> (try simp only [Int.ediv_one]) <;> omega
theorem idx_both (p q : Int) (n : Nat) (h : 0 ≤ p) (h2 : p ≤ q) : ((Builtin.Str.strSliceIndices (some p) (some q) 1 n).length : Int) ≤ q - p := by
  unfold Builtin.Str.strSliceIndices sliceRange
  simp only [show (1 : Int) > 0 by decide, if_true, List.length_map, List.length_range]
  split <;> (try split) <;> (try split) <;> (try split) <;> (try simp only [Int.ediv_one]) <;> omega
theorem misspelt_len (word : Str) (place way : Int) (hp : 0 ≤ place) : (misspelt word place way).length ≤ word.length + 3 := by
  unfold misspelt
  rw [Str.length_append, Str.length_append]
  have h1 := slice_le_idx word none (some place)
  have h2 := idx_to place word.length hp
  have h3 : ∀ k : Int, 1 ≤ k → ((Txt.slice word (some (place + k)) none).length : Int) ≤ max 0 ((word.length : Int) - (place + k)) := fun k hk => by
    have a := slice_le_idx word (some (place + k)) none
    have b := idx_from (place + k) word.length (by omega)
    omega
  have h4 : (Txt.slice word (some place) (some (place + 1))).length ≤ 1 := by
    have a := slice_le_idx word (some place) (some (place + 1))
    have b := idx_both place (place + 1) word.length hp (by omega)
    omega
  have h5 : (Txt.slice word (some (place + 1)) (some (place + 2))).length ≤ 1 := by
    have a := slice_le_idx word (some (place + 1)) (some (place + 2))
    have b := idx_both (place + 1) (place + 2) word.length (by omega) (by omega)
    omega
  have h6 := len_swapcase (Txt.slice word (some place) (some (place + 1)))
  have h7 : (Str.ofString "").length = 0 := by decide
  have h8 : (Str.ofString "x").length = 1 := by decide
  have s : ∀ k : Int, 1 ≤ k → (Txt.slice word none (some place)).length + (Txt.slice word (some (place + k)) none).length ≤ word.length := fun k hk => by
    have a := h3 k hk
    have b := slice_le_idx word none (some place)
    omega
  have e1 := s 1 (by decide)
  have e2 := s 2 (by decide)
  clear s h1 h2 h3
  by_cases w4 : way = 4
  · subst w4
    simp only [show ¬ (4 : Int) = 0 by decide, show ¬ (4 : Int) = 1 by decide, show ¬ (4 : Int) = 2 by decide, show ¬ (4 : Int) = 3 by decide, if_false, if_true, Str.length_append]
    omega
  · simp only [w4, if_false]
    split
    · omega
    · split
      · omega
      · split
        · rw [Str.length_append]; omega
        · split <;> omega
/-- the word that is drawn -/
noncomputable def baseWord (k : Int) : Str := if k = 0 then Str.ofString "file" else if k = 1 then Str.ofString "link" else Str.ofString "pipe"
noncomputable def lawWord (n : Int) : Str := misspelt (misspelt (baseWord (n.fmod 3)) ((n.fdiv 18).fmod 4) ((n.fdiv 3).fmod 6)) ((n.fdiv 432).fmod 3) ((n.fdiv 72).fmod 6)
theorem baseWord_len (k : Int) : (baseWord k).length = 4 := by unfold baseWord; split <;> (try split) <;> decide
theorem lawWord_len (n : Int) : (lawWord n).length ≤ 10 := by
  unfold lawWord
  have h1 := misspelt_len (baseWord (n.fmod 3)) ((n.fdiv 18).fmod 4) ((n.fdiv 3).fmod 6) (Int.fmod_nonneg_of_pos _ (by decide))
  have h2 := misspelt_len (misspelt (baseWord (n.fmod 3)) ((n.fdiv 18).fmod 4) ((n.fdiv 3).fmod 6)) ((n.fdiv 432).fmod 3) ((n.fdiv 72).fmod 6) (Int.fmod_nonneg_of_pos _ (by decide))
  have h3 := baseWord_len (n.fmod 3)
  omega
end Mine
end
section
open PySem PySem.W PyProof.Rows PySem.Spec PySem.Calls
set_option Elab.async false
set_option maxRecDepth 100000
set_option maxHeartbeats 8000000
set_option linter.unusedVariables false
namespace Mine
theorem fm_lt (x : Int) (k : Int) (h : 0 < k) : 0 ≤ x.fmod k ∧ x.fmod k < k := ⟨Int.fmod_nonneg_of_pos _ h, Int.fmod_lt_of_pos _ h⟩
theorem base_0 {k : Int} (h : k = 0) : Str.ofString "file" = baseWord k := by subst h; rfl
theorem base_1 {k : Int} (h : k = 1) : Str.ofString "link" = baseWord k := by subst h; rfl
theorem base_2 {k : Int} (h : k = 2) : Str.ofString "pipe" = baseWord k := by subst h; rfl
theorem split3 {x : Int} (h : 0 ≤ x ∧ x < 3) : x = 0 ∨ x = 1 ∨ x = 2 := by omega
theorem word_fn (w : World) (n : Int) (tn : Tok) : FnS w 2 105 [.int n tn] (fun r => r = lawWord n) := by
  have b1 := fm_lt n 3 (by decide)
  have b2 := fm_lt (n.fdiv 18) 4 (by decide)
  have b3 := fm_lt (n.fdiv 3) 6 (by decide)
  have b4 := fm_lt (n.fdiv 432) 3 (by decide)
  have b5 := fm_lt (n.fdiv 72) 6 (by decide)
  have b6 := baseWord_len (n.fmod 3)
  have b7 := misspelt_len (baseWord (n.fmod 3)) ((n.fdiv 18).fmod 4) ((n.fdiv 3).fmod 6) b2.1
  dsimp only [FnS]
  k_fill
  k_with_none
  intros
  rename_i hret
  have cbI : CbIn 105 := CbIn.mk
  refine wpAny_call ?_
  (first | k_dflt cell_enter | ktn_no "k_call_by: the def is not entered")
  k_with "subscriptTail" =>
    k_here
    (with_reducible show wpAny _ _ (subscriptTail _ _ (Value.ref _) (Value.int (n.fmod 3) _)) _ _ _)
    rcases split3 b1 with e3 | e3 | e3 <;> rw [e3]
  k_with "call ref" =>
    k_here
    k_dflt (refine' use_FnS (misspelt_fn _ _ _ _ _ _ _ ?zw ?zp0 ?zp1 ?zw0 ?zw1) ?z1 ?z2 ?z3 ?z4 ?z5 ?z6 ?z7 ?z8 ?_; (case zw => first | decide | omega); (case zp0 => omega); (case zp1 => omega); (case zw0 => omega); (case zw1 => omega); (case z1 => k_asm); (case z2 => k_asm); (case z3 => k_asm); (case z4 => k_asm); (case z5 => k_asm); (case z6 => first | exact rfl | assumption); (case z7 => ktr_room); (case z8 => ktr_units))
    intro r9 t9 h9 tk9 hr9 F9 N9
    (try rw [base_0 e3] at hr9)
    (try rw [base_1 e3] at hr9)
    (try rw [base_2 e3] at hr9)
    subst hr9
    (try dsimp only)
    (try k_fold)
  k_steps
  all_goals (exact hret _ _ _ _ rfl (by k_asm) (by first | k_asm | (refine' cb_drop ?cbN ?cbS; (case cbN => assumption); (case cbS => kcj_all))))

end Mine
end
section
open PySem PySem.W PyProof.Rows PySem.Spec PySem.Calls PyProof.V
set_option maxRecDepth 100000
set_option linter.unusedVariables false
namespace Mine
/-- the three names with their distances, in order -/
noncomputable def ord3 (k p f : Int) : List (Int × Str) :=
  if f ≤ k then (if k ≤ p then [(f, Str.ofString "file"), (k, Str.ofString "link"), (p, Str.ofString "pipe")] else if f ≤ p then [(f, Str.ofString "file"), (p, Str.ofString "pipe"), (k, Str.ofString "link")] else [(p, Str.ofString "pipe"), (f, Str.ofString "file"), (k, Str.ofString "link")])
  else (if f ≤ p then [(k, Str.ofString "link"), (f, Str.ofString "file"), (p, Str.ofString "pipe")] else if k ≤ p then [(k, Str.ofString "link"), (p, Str.ofString "pipe"), (f, Str.ofString "file")] else [(p, Str.ofString "pipe"), (k, Str.ofString "link"), (f, Str.ofString "file")])
noncomputable def headSign (x : Int × Str) : Str := if x.2 = Str.ofString "file" then Str.ofString "-" else if x.2 = Str.ofString "link" then Str.ofString "l" else Str.ofString "p"
noncomputable def pairD (x : Int × Str) : Dat := .tuple [.int x.1, .str x.2]
noncomputable def answerOf (l : List (Int × Str)) (k p f b : Int) : Dat :=
  .list [.list (l.map pairD), (l.map pairD).headD .none, .list [.int (min k b), .int (min p b), .int (min f b)], .list [.int (min k b), .int (min p b), .int (min f b)], .str (headSign (l.headD (0, Str.ofString "")))]
/-- what both sides answer -/
noncomputable def answer (k p f b : Int) : Dat := answerOf (ord3 k p f) k p f b
theorem ord_fkp {k p f : Int} (h1 : f ≤ k) (h2 : k ≤ p) : ord3 k p f = [(f, Str.ofString "file"), (k, Str.ofString "link"), (p, Str.ofString "pipe")] := by unfold ord3; rw [if_pos h1, if_pos h2]
theorem ord_fpk {k p f : Int} (h1 : f ≤ p) (h2 : p < k) : ord3 k p f = [(f, Str.ofString "file"), (p, Str.ofString "pipe"), (k, Str.ofString "link")] := by unfold ord3; rw [if_pos (by omega), if_neg (by omega), if_pos h1]
theorem ord_pfk {k p f : Int} (h1 : p < f) (h2 : f ≤ k) : ord3 k p f = [(p, Str.ofString "pipe"), (f, Str.ofString "file"), (k, Str.ofString "link")] := by unfold ord3; rw [if_pos h2, if_neg (by omega), if_neg (by omega)]
theorem ord_kfp {k p f : Int} (h1 : k < f) (h2 : f ≤ p) : ord3 k p f = [(k, Str.ofString "link"), (f, Str.ofString "file"), (p, Str.ofString "pipe")] := by unfold ord3; rw [if_neg (by omega), if_pos h2]
theorem ord_kpf {k p f : Int} (h1 : k ≤ p) (h2 : p < f) : ord3 k p f = [(k, Str.ofString "link"), (p, Str.ofString "pipe"), (f, Str.ofString "file")] := by unfold ord3; rw [if_neg (by omega), if_neg (by omega), if_pos h1]
theorem ord_pkf {k p f : Int} (h1 : p < k) (h2 : k < f) : ord3 k p f = [(p, Str.ofString "pipe"), (k, Str.ofString "link"), (f, Str.ofString "file")] := by unfold ord3; rw [if_neg (by omega), if_neg (by omega), if_neg (by omega)]
theorem sign_f (x : Int) : headSign (x, Str.ofString "file") = Str.ofString "-" := by unfold headSign; exact if_pos rfl
theorem sign_k (x : Int) : headSign (x, Str.ofString "link") = Str.ofString "l" := by unfold headSign; rw [if_neg (show ¬ Str.ofString "link" = Str.ofString "file" by decide)]; exact if_pos rfl
theorem sign_p (x : Int) : headSign (x, Str.ofString "pipe") = Str.ofString "p" := by unfold headSign; rw [if_neg (show ¬ Str.ofString "pipe" = Str.ofString "file" by decide), if_neg (show ¬ Str.ofString "pipe" = Str.ofString "link" by decide)]
/-- the distances of the word from the three names -/
noncomputable def dK (word : Str) : Int := ed word.cps.toList (Str.ofString "link").cps.toList
noncomputable def dP (word : Str) : Int := ed word.cps.toList (Str.ofString "pipe").cps.toList
noncomputable def dF (word : Str) : Int := ed word.cps.toList (Str.ofString "file").cps.toList
/-- what the ledger of a call does not name stands as it stood, and the new ledger keeps off it -/
noncomputable def KeepsOff (h h' : Heap) (news led : List (Addr × Obj)) : Prop := ∀ b o, h.get? b = some o → (∀ q ∈ news, q.1 ≠ b) → h'.get? b = some o ∧ ∀ p ∈ led, p.1 ≠ b
theorem keepsOff_of {h g h' : Heap} {L : Addr} {m : Str → Option Value} {news led : List (Addr × Obj)} (G : ∀ b o, h.get? b = some o → (∀ q ∈ news, q.1 ≠ b) → g.get? b = some o) (F : Fr g L h' m) (N : News g L h' led) : KeepsOff h h' news led := fun b o e hb =>
  ⟨F.keep b o (G b o e hb), fun p hp z => by
    have q := (N p hp).2.2
    rw [z, G b o e hb] at q
    cases q⟩
/-- the contract of a def that hands back data -/
noncomputable abbrev FnD (w : World) (room : Nat) (f : Addr) (vs : List Value) (d : Dat) : Prop :=
  ∀ (mean : ExcName → Option Value) (mg mb : Str → Option Value) (news : List (Addr × Obj)) (dp un : Nat) (gd : Option (List Code)) (cn : Str) (cs : Scope) (a : Addr) (ccd : Value) (cl : List (Str × Addr)) (outer : List Env) (A₀ : Around) (base h₀ : Heap) (L : Addr) (m : Str → Option Value) (s : Shared) (Q E : Value → Shared → Prop),
    Below A₀ base outer h₀ → Fr h₀ L s.heap m → (hd.heap_1 w.params).In h₀ → News h₀ L s.heap news →
    Top topProg lo mean mg mb h₀ → cs.kind = .function →
    dp + room < recursionLimit → un + 64 * room < cLine →
    (∀ (v : Value) (led : List (Addr × Obj)) (h' : Heap) (tk' : Nat), DatIn led v d → KeepsOff s.heap h' news led → (∀ p ∈ news, p ∈ led) → Fr h₀ L h' m → News h₀ L h' led → Q v { s with heap := h', toks := tk' }) →
      wpAny (model PySem.Challenge.rw_oc0133_01.row.prog w) (ktrTop dp un gd cn cs L a ccd cl outer) (call (.ref f) vs) Q E s
theorem lt_of_allLt {d : Addr} : ∀ {l : List (Addr × Obj)}, AllLt d l → ∀ p ∈ l, p.1 < d
  | [], _, _, hp => nomatch hp
  | q :: l, h, p, hp => by
    rcases List.mem_cons.mp hp with rfl | hp
    · exact h.1
    · exact lt_of_allLt h.2 p hp
/-- _law_apart upon a table that is made for it -/
theorem use_apartNew {w : World} {one other : Str} {n : Nat} (hn : one.length + other.length = n) (hn14 : n ≤ 14)
    {t1 t2 : Tok} {mean : ExcName → Option Value} {mg mb : Str → Option Value} {news : List (Addr × Obj)} {dp un : Nat} {gd : Option (List Code)} {cn : Str} {cs : Scope} {a : Addr} {ccd : Value} {cl : List (Str × Addr)} {outer : List Env} {A₀ : Around} {base h₀ : Heap} {L : Addr} {m : Str → Option Value} {s : Shared} {Q E : Value → Shared → Prop} {d : Addr} {o : Obj}
    (k1 : Below A₀ base outer h₀) (k2 : Fr h₀ L s.heap m) (k3 : (hd.heap_1 w.params).In h₀) (k4 : News h₀ L s.heap ((d, o) :: news))
    (k5 : Top topProg lo mean mg mb h₀) (k6 : cs.kind = .function)
    (k7 : dp + 17 < recursionLimit) (k8 : un + 64 * 17 < cLine)
    (kT : TupTab (strKind PySem.Challenge.rw_oc0133_01.row.prog w) PyData.str ((d, o) :: news) d []) (kd : AllLt d news)
    (k9 : ∀ (t : Tok) (h' : Heap) (tk' : Nat), Fr h₀ L h' m → News h₀ L h' news → Q (.int (ed one.cps.toList other.cps.toList) t) { s with heap := h', toks := tk' }) :
    wpAny (model PySem.Challenge.rw_oc0133_01.row.prog w) (ktrTop dp un gd cn cs L a ccd cl outer) (call (.ref 124) [.str one t1, .str other t2, .ref d]) Q E s := by
  have hc : cst (one.length + other.length) ≤ 10000000 := Nat.le_trans (cst_mono (n := 14) (by omega)) (by decide)
  refine use_apart (apart_fn w n one other hn (by omega)) k1 k2 k3 k4 k5 k6 (by omega) (by omega) kT dOk_nil (by simp only [List.length_nil]; omega) fun t h' tk' news' D' F' N' T' O' L' M' => ?_
  exact k9 t h' tk' F' fun p hp => N' p (M' p (.tail _ hp) (Nat.ne_of_lt (lt_of_allLt kd p hp)))
end Mine
namespace Mine
theorem kz {P G : Prop} (p : P) (h : P → G) : G := h p
end Mine
namespace Mine
section
variable {h₀ h' : Heap} {L I C D t : Addr} {m : Str → Option Value} {s₁ : Shared} {oI oC oD ot : Obj} {S : List (Addr × Obj) → Prop} {rst : Value → List (Addr × Obj) → Prop} {y : Value} {tk : Nat} {rest : List (Addr × Obj)}
theorem compEnd_one (F : Fr h₀ L h' m) (N : News h₀ L h' ((t, ot) :: (I, oI) :: (C, oC) :: (D, oD) :: rest)) (hlt : AllLt t ((I, oI) :: (C, oC) :: (D, oD) :: rest)) (off : LCg.Off3 I C D rest) (hS : S ((t, ot) :: rest)) (r : rst y ((t, ot) :: rest)) :
    LCg.CompEnd h₀ L m s₁ I oI C oC D oD S rst y { s₁ with heap := h', toks := tk } := by
  refine LCg.CompEnd.intro F N ((t, ot) :: rest) (fun p hp => ?_) ⟨⟨Nat.ne_of_gt hlt.1, Nat.ne_of_gt hlt.2.1, Nat.ne_of_gt hlt.2.2.1⟩, off⟩ hS r
  simp only [List.mem_cons] at hp ⊢
  rcases hp with h | h | h | h | h
  · exact .inr (.inl h)
  · exact .inr (.inr (.inl h))
  · exact .inr (.inr (.inr (.inl h)))
  · exact .inl h
  · exact .inr (.inr (.inr (.inr h)))
theorem compEnd_none (F : Fr h₀ L h' m) (N : News h₀ L h' ((I, oI) :: (C, oC) :: (D, oD) :: rest)) (off : LCg.Off3 I C D rest) (hS : S rest) (r : rst y rest) :
    LCg.CompEnd h₀ L m s₁ I oI C oC D oD S rst y { s₁ with heap := h', toks := tk } := LCg.CompEnd.intro F N rest (fun p hp => hp) off hS r
end
end Mine
namespace Mine
/-- a pair's object -/
noncomputable abbrev tupO (x : Int) (n : Str) (t u : Tok) : Obj := { cls := .type "tuple", data := .seq #[.int x t, .str n u] }
section
variable {prog : Program} {w : World} {A : Around} {E : Value → Shared → Prop} {s : Shared} {h₀ : Heap} {L : Addr} {m : Str → Option Value} {led : List (Addr × Obj)}
end
end Mine
namespace Mine
theorem tri (a b : Int) : a < b ∨ a = b ∨ b < a := by omega
end Mine
end
section
open PySem PySem.W PyProof.Rows PySem.Spec PySem.Calls PyProof.V
set_option Elab.async false
set_option maxRecDepth 100000
set_option maxHeartbeats 1500000
set_option linter.unusedVariables false
namespace Mine
section
variable {prog : Program} {w : World} {A : Around} {E : Value → Shared → Prop} {s : Shared} {a c : Addr} {x y : Int} {n n' : Str} {t u t' u' : Tok} {b : Bool} {Q : Bool → Shared → Prop}
theorem pair_lt (hb : b = true) (ha : s.heap.get? a = some (tupO x n t u)) (hc : s.heap.get? c = some (tupO y n' t' u')) (hn : n ≠ n') (h : Q (if x = y then decide (n.cps.toList < n'.cps.toList) else decide (x < y)) s) :
    wpAny (model prog w) A (keyLt' (tuples' b) (.ref a) (.ref c)) Q E s := by
  subst hb
  refine kat_lt ha rfl hc rfl ?_
  show KatLex prog w A true _ Q [(.int x t, .int y t'), (.str n u, .str n' u')] 0 s
  refine kat_cons (wpAny_eqBool_int ?_)
  refine kat_go (fun e => ?_) (fun e => ?_)
  · rw [if_pos (beq_iff_eq.mp e)] at h
    refine kat_yes (kat_cons (wpAny_eqBool_str ?_))
    rw [decide_eq_false hn]
    refine kat_no ?_
    show wpAny _ _ (oneLt' false _ _) _ _ _
    exact kat_one _ _ (lt_str h)
  · rw [if_neg (by simpa using e)] at h
    refine kat_no ?_
    show wpAny _ _ (oneLt' true _ _) _ _ _
    exact oneLt_int h
end
section
variable {prog : Program} {w : World} {A : Around} {E : Value → Shared → Prop} {s : Shared} {a c : Addr} {x y : Int} {n n' : Str} {t u t' u' : Tok} {b : Bool} {Q : Bool → Shared → Prop}
theorem pair_ltF (hb : b = true) (ha : s.heap.get? a = some (tupO x n t u)) (hc : s.heap.get? c = some (tupO y n' t' u')) (hn : n ≠ n') (hl : decide (n.cps.toList < n'.cps.toList) = false) (h : Q (decide (x < y)) s) :
    wpAny (model prog w) A (keyLt' (tuples' b) (.ref a) (.ref c)) Q E s := by
  refine pair_lt hb ha hc hn ?_
  rw [hl]
  have e : (if x = y then false else decide (x < y)) = decide (x < y) := by
    split
    · exact (decide_eq_false (by omega)).symm
    · rfl
  rw [e]; exact h
theorem pair_ltT (hb : b = true) (ha : s.heap.get? a = some (tupO x n t u)) (hc : s.heap.get? c = some (tupO y n' t' u')) (hn : n ≠ n') (hl : decide (n.cps.toList < n'.cps.toList) = true) (h : Q (decide (x ≤ y)) s) :
    wpAny (model prog w) A (keyLt' (tuples' b) (.ref a) (.ref c)) Q E s := by
  refine pair_lt hb ha hc hn ?_
  rw [hl]
  have e : (if x = y then true else decide (x < y)) = decide (x ≤ y) := by
    split
    · exact (decide_eq_true (by omega)).symm
    · rw [decide_eq_decide]; omega
  rw [e]; exact h
variable {α : Type} {cmp : Nat → Nat → (Bool → Shared → Prop) → Shared → Prop} {kk : Bool → KasT α} {QQ : α → Shared → Prop}
theorem askF (hb : b = true) (ha : s.heap.get? a = some (tupO x n t u)) (hc : s.heap.get? c = some (tupO y n' t' u')) (hn : n ≠ n') (hl : decide (n.cps.toList < n'.cps.toList) = false)
    (h1 : x < y → KasNext cmp kk QQ true s) (h2 : ¬ x < y → KasNext cmp kk QQ false s) : wpAny (model prog w) A (keyLt' (tuples' b) (.ref a) (.ref c)) (KasNext cmp kk QQ) E s :=
  pair_ltF hb ha hc hn hl (kas_split (fun e => h1 (of_decide_eq_true e)) (fun e => h2 (of_decide_eq_false e)))
theorem askT (hb : b = true) (ha : s.heap.get? a = some (tupO x n t u)) (hc : s.heap.get? c = some (tupO y n' t' u')) (hn : n ≠ n') (hl : decide (n.cps.toList < n'.cps.toList) = true)
    (h1 : x ≤ y → KasNext cmp kk QQ true s) (h2 : ¬ x ≤ y → KasNext cmp kk QQ false s) : wpAny (model prog w) A (keyLt' (tuples' b) (.ref a) (.ref c)) (KasNext cmp kk QQ) E s :=
  pair_ltT hb ha hc hn hl (kas_split (fun e => h1 (of_decide_eq_true e)) (fun e => h2 (of_decide_eq_false e)))
end
section
variable {w : World} {A : Around} {E : Value → Shared → Prop} {s : Shared} {h₀ : Heap} {L l r1 r2 r3 : Addr} {m : Str → Option Value} {led : List (Addr × Obj)} {k p f : Int} {t1 u1 t2 u2 t3 u3 T1 U1 T2 U2 T3 U3 : Tok} {c : Nat} {Q : Value → Shared → Prop}
theorem sorted3 (F : Fr h₀ L s.heap m) (N : News h₀ L s.heap led) (hl : (l, ({ cls := .type "list", data := .seq (List.toArray [.ref r1, .ref r2, .ref r3]) c } : Obj)) ∈ led)
    (m1 : (r1, tupO k (Str.ofString "link") T1 U1) ∈ led) (m2 : (r2, tupO p (Str.ofString "pipe") T2 U2) ∈ led) (m3 : (r3, tupO f (Str.ofString "file") T3 U3) ∈ led)
    (h : ∀ (O a b d : Addr) (c : Nat) (x1 x2 x3 : Int) (n1 n2 n3 : Str) (t1 u1 t2 u2 t3 u3 : Tok) (h' : Heap) (tk : Nat), ord3 k p f = [(x1, n1), (x2, n2), (x3, n3)] →
      (a, tupO x1 n1 t1 u1) ∈ [(r1, tupO k (Str.ofString "link") T1 U1), (r2, tupO p (Str.ofString "pipe") T2 U2), (r3, tupO f (Str.ofString "file") T3 U3)] → (b, tupO x2 n2 t2 u2) ∈ [(r1, tupO k (Str.ofString "link") T1 U1), (r2, tupO p (Str.ofString "pipe") T2 U2), (r3, tupO f (Str.ofString "file") T3 U3)] → (d, tupO x3 n3 t3 u3) ∈ [(r1, tupO k (Str.ofString "link") T1 U1), (r2, tupO p (Str.ofString "pipe") T2 U2), (r3, tupO f (Str.ofString "file") T3 U3)] →
      Fr h₀ L h' m → News h₀ L h' ((O, listOf (List.toArray [.ref a, .ref b, .ref d]) c) :: led) → AllLt O led → Q (.ref O) { s with heap := h', toks := tk }) :
    wpAny (model PySem.Challenge.rw_oc0133_01.row.prog w) A (call (.builtin "sorted") [.ref l]) Q E s := by
  (with_unfolding_all refine' kat_sorted F N (vs := [.ref r1, .ref r2, .ref r3]) ?k3 ?k4 ?k5 ?_)
  (case k3 => exact ⟨_, N.get hl, rfl, c, rfl⟩)
  (case k4 => exact Nat.le_of_ble_eq_true rfl)
  (case k5 => exact Nat.le_of_ble_eq_true rfl)
  intro O e' h' F' N' l1
  refine kz (allLt_of l1) ?_
  intro l2
  refine kz (show (r1, tupO k (Str.ofString "link") T1 U1) ∈ (O, seqObj "list" #[] e') :: led from List.Mem.tail _ m1) ?_
  intro M1
  refine kz (show (r2, tupO p (Str.ofString "pipe") T2 U2) ∈ (O, seqObj "list" #[] e') :: led from List.Mem.tail _ m2) ?_
  intro M2
  refine kz (show (r3, tupO f (Str.ofString "file") T3 U3) ∈ (O, seqObj "list" #[] e') :: led from List.Mem.tail _ m3) ?_
  intro M3
  kat_kinds
  have G1 := N'.get M1
  have G2 := N'.get M2
  have G3 := N'.get M3
  repeat' (first
    | kat_step
    | kas_known
    | refine askF (by decide) (by first | exact G1 | exact G2 | exact G3) (by first | exact G1 | exact G2 | exact G3) (by decide) (by decide) (fun g => ?_) (fun g => ?_)
    | refine askT (by decide) (by first | exact G1 | exact G2 | exact G3) (by first | exact G1 | exact G2 | exact G3) (by decide) (by decide) (fun g => ?_) (fun g => ?_)
    | fail)
  all_goals clear M1 M2 M3 m1 m2 m3
  all_goals have m1 := List.Mem.head (a := (r1, tupO k (Str.ofString "link") T1 U1)) [(r2, tupO p (Str.ofString "pipe") T2 U2), (r3, tupO f (Str.ofString "file") T3 U3)]
  all_goals have m2 := List.Mem.tail (r1, tupO k (Str.ofString "link") T1 U1) (List.Mem.head (a := (r2, tupO p (Str.ofString "pipe") T2 U2)) [(r3, tupO f (Str.ofString "file") T3 U3)])
  all_goals have m3 := List.Mem.tail (r1, tupO k (Str.ofString "link") T1 U1) (List.Mem.tail (r2, tupO p (Str.ofString "pipe") T2 U2) (List.Mem.head (a := (r3, tupO f (Str.ofString "file") T3 U3)) []))
  all_goals first
    | (exfalso; omega)
    | (refine KasFin.intro F' N' (UpdF.head fun q hq => Nat.ne_of_lt (l1 q hq)) fun h'' c'' F'' N'' => ?_
       first
       | exact h O r3 r1 r2 c'' _ _ _ _ _ _ _ _ _ _ _ _ h'' _ (ord_fkp (by omega) (by omega)) m3 m1 m2 F'' N'' l2
       | exact h O r3 r2 r1 c'' _ _ _ _ _ _ _ _ _ _ _ _ h'' _ (ord_fpk (by omega) (by omega)) m3 m2 m1 F'' N'' l2
       | exact h O r2 r3 r1 c'' _ _ _ _ _ _ _ _ _ _ _ _ h'' _ (ord_pfk (by omega) (by omega)) m2 m3 m1 F'' N'' l2
       | exact h O r1 r3 r2 c'' _ _ _ _ _ _ _ _ _ _ _ _ h'' _ (ord_kfp (by omega) (by omega)) m1 m3 m2 F'' N'' l2
       | exact h O r1 r2 r3 c'' _ _ _ _ _ _ _ _ _ _ _ _ h'' _ (ord_kpf (by omega) (by omega)) m1 m2 m3 F'' N'' l2
       | exact h O r2 r1 r3 c'' _ _ _ _ _ _ _ _ _ _ _ _ h'' _ (ord_pkf (by omega) (by omega)) m2 m1 m3 F'' N'' l2)
end

end Mine
end
section
open PySem PySem.W PyProof.Rows PySem.Spec PySem.Calls PyProof.V
set_option Elab.async false
set_option maxRecDepth 100000
set_option maxHeartbeats 4000000
set_option linter.unusedVariables false
namespace Mine
theorem head_cases {k p f x1 x2 x3 : Int} {n1 n2 n3 : Str} (h : ord3 k p f = [(x1, n1), (x2, n2), (x3, n3)]) : n1 = Str.ofString "file" ∨ n1 = Str.ofString "link" ∨ n1 = Str.ofString "pipe" := by
  unfold ord3 at h
  split at h
  · split at h
    · injection h with h _; injection h with _ h; exact .inl h.symm
    · split at h <;> (injection h with h _; injection h with _ h)
      · exact .inl h.symm
      · exact .inr (.inr h.symm)
  · split at h
    · injection h with h _; injection h with _ h; exact .inr (.inl h.symm)
    · split at h <;> (injection h with h _; injection h with _ h)
      · exact .inr (.inl h.symm)
      · exact .inr (.inr h.symm)
theorem min_ite (a b : Int) : (if b < a then b else a) = min a b := by split <;> omega
section
variable {prog : Program} {w : World} {A : Around} {E : Value → Shared → Prop} {s : Shared} {h₀ : Heap} {L d : Addr} {o : Obj} {led : List (Addr × Obj)} {kvs : List (Str × Value)} {D : List (PyData × PyData)} {x y : Str} {t : Tok} {value slice : PySem.Expr} {Q : Value → Shared → Prop}
end
section
variable {t1 t2 t3 t4 t5 t6 : Tok}
theorem same_no {a b : Str} (h : ¬ a = b) : ¬ (Spec.same (.str a) (.str b) = true) := by rw [PyProof.V.same_str]; simpa using h
theorem same_yes (a : Str) : Spec.same (.str a) (.str a) = true := by rw [PyProof.V.same_str]; simp
theorem look_f : Spec.lookup (.str (Str.ofString "file")) (strData [(.str (Str.ofString "file") t1, .str (Str.ofString "-") t2), (.str (Str.ofString "link") t3, .str (Str.ofString "l") t4), (.str (Str.ofString "pipe") t5, .str (Str.ofString "p") t6)]) = some (.str (Str.ofString "-")) := by
  show (if Spec.same (.str (Str.ofString "file")) (.str (Str.ofString "file")) = true then _ else _) = _
  rw [if_pos (same_yes _)]
  rfl
theorem look_k : Spec.lookup (.str (Str.ofString "link")) (strData [(.str (Str.ofString "file") t1, .str (Str.ofString "-") t2), (.str (Str.ofString "link") t3, .str (Str.ofString "l") t4), (.str (Str.ofString "pipe") t5, .str (Str.ofString "p") t6)]) = some (.str (Str.ofString "l")) := by
  show (if Spec.same (.str (Str.ofString "file")) (.str (Str.ofString "link")) = true then _ else (if Spec.same (.str (Str.ofString "link")) (.str (Str.ofString "link")) = true then _ else _)) = _
  rw [if_neg (same_no (by decide)), if_pos (same_yes _)]
  rfl
theorem look_p : Spec.lookup (.str (Str.ofString "pipe")) (strData [(.str (Str.ofString "file") t1, .str (Str.ofString "-") t2), (.str (Str.ofString "link") t3, .str (Str.ofString "l") t4), (.str (Str.ofString "pipe") t5, .str (Str.ofString "p") t6)]) = some (.str (Str.ofString "p")) := by
  show (if Spec.same (.str (Str.ofString "file")) (.str (Str.ofString "pipe")) = true then _ else (if Spec.same (.str (Str.ofString "link")) (.str (Str.ofString "pipe")) = true then _ else (if Spec.same (.str (Str.ofString "pipe")) (.str (Str.ofString "pipe")) = true then _ else _))) = _
  rw [if_neg (same_no (by decide)), if_neg (same_no (by decide)), if_pos (same_yes _)]
  rfl
end
theorem look_sign {name : Str} (x : Int) {t1 t2 t3 t4 t5 t6 : Tok} (h : name = Str.ofString "file" ∨ name = Str.ofString "link" ∨ name = Str.ofString "pipe") : Spec.lookup (.str name) (strData [(.str (Str.ofString "file") t1, .str (Str.ofString "-") t2), (.str (Str.ofString "link") t3, .str (Str.ofString "l") t4), (.str (Str.ofString "pipe") t5, .str (Str.ofString "p") t6)]) = some (.str (headSign (x, name))) := by
  rcases h with rfl | rfl | rfl
  · rw [sign_f]; exact look_f
  · rw [sign_k]; exact look_k
  · rw [sign_p]; exact look_p
section
variable {prog : Program} {w : World} {A : Around} {E : Value → Shared → Prop} {s : Shared} {h₀ : Heap} {L d : Addr} {o : Obj} {led : List (Addr × Obj)} {kvs : List (Str × Value)} {D : List (PyData × PyData)} {x y : Str} {t : Tok} {Q : Value → Shared → Prop}
theorem sign_get (N : News h₀ L s.heap led) (hp : (d, o) ∈ led) (lo : (d == sysModules) = false) (hd : o.IsDictOf (strKind prog w) kvs) (hf : FlatPairs PyData.str kvs D) (hl : Spec.lookup (.str x) D = some (.str y)) (h : ∀ t, Q (.str y t) { s with toks := s.toks + 1 }) :
    wpAny (model prog w) A (getItem (.ref d) (.str x t)) Q E s :=
  getItem_tab PyProof.V.same_str (strKind_is _ _ _ _) (TabAt.ofNews N hp lo hd hf) hl (fun v hv => by
    obtain ⟨t, rfl⟩ := Flat.str_inv hv
    exact h t)
end

end Mine
end
section
open PySem PySem.W PyProof.Rows PySem.Spec PySem.Calls PyProof.V
set_option Elab.async false
set_option maxRecDepth 100000
set_option maxHeartbeats 4000000
set_option linter.unusedVariables false
namespace Mine

end Mine
end
section
open PySem PySem.W PyProof.Rows PySem.Spec PySem.Calls
set_option Elab.async false
set_option maxRecDepth 100000
set_option maxHeartbeats 8000000
set_option linter.unusedVariables false
namespace Mine
theorem lev_fn (w : World) (a b : Str) (mc : Int) (ta tb tm : Tok) (hla : a.length ≤ 40) (hlb : b.length ≤ 40) (hm0 : 0 ≤ mc) (hm1 : mc ≤ 100) :
    FnI w 2 28 [.str a ta, .str b tb, .int mc tm] (LevSpec a b mc) := by
  dsimp only [FnI]
  k_fill
  k_with_none
  intros
  rename_i hret
  have cbI : CbIn 28 := CbIn.mk
  refine wpAny_call ?_
  (first | k_dflt cell_enter | ktn_no "k_call_by: the def is not entered")
  k_with "eval Subscript" =>
    k_here
    goal_lacks Mine.MidS
    (with_reducible show wpAny _ _ (eval (Expr.Subscript (Expr.Name _ _) (Expr.Slice none (some (Expr.BoolOp _ _ _)) none _) _) _) _ _ _)
    k_dflt (refine' cut_End ?zF ?zN ?zx ?zp ?z0 ?z1 ?_ ?_; (case zF => k_asm); (case zN => k_asm); (case zx => exact rfl); (case zp => exact rfl); (case z0 => omega); (case z1 => omega))
    rotate_left
    intro t' h' tk hlen F' N'
    (try dsimp only)
    rotate_right
  k_with "subscriptTail Name Slice str ref" =>
    (with_reducible rename Fr _ _ _ _ => F')
    (with_reducible rename News _ _ _ _ => N')
    (refine slice_strN_nn (hsz := ?hsz) (s := ⟨_, _, _, _, _⟩) F' N' ?_)
    (case hsz => size_fits)
    intro _ _ _ _ _
  k_with "MidS" =>
    refine' midS_of ?mF ?mN ?mP
    (case mF => k_asm)
    (case mN => k_asm)
    (case mP => first
      | exact cutEnd_when _ _ (by omega)
      | exact cutEnd_neg _ _ (by omega) (by omega))
  k_with "exec While BoolOp cons nil" =>
    k_here
    (with_reducible show wpAny _ _ (exec (Stmt.While _ [Stmt.AugAssign (Expr.Name (Str.ofString "post") _) _ _ _] _ _) _) _ _ _)
    refine' cut_I (Str.ofString "post") (W2 (Txt.slice a (some pre) none) (Txt.slice b (some pre) none)) ?k1 ?k2 ?_ ?_
    (case k1 => k_asm)
    (case k2 => k_asm)
    rotate_left
    intro post tpost h' tk hV F' N'
    have hV1 := W2.f1 hV
    have hV2 := W2.f2 hV
    have hV3 := W2.f3 hV
    have hE := strip_ed hW hV
    (try dsimp only)
    rotate_right
    focus (k_while_given ["a", "b"] (fun (a b : Str) script post => post ≤ 0 ∧ 0 ≤ post + (a.length : Int) ∧ 0 ≤ post + (b.length : Int) ∧ a.cps.toList.drop (post + a.length).toNat = b.cps.toList.drop (post + b.length).toNat) (fun (a b : Str) script post => (post + a.length).toNat) "post")
  k_with "exec While BoolOp cons nil" =>
    k_here
    (with_reducible show wpAny _ _ (exec (Stmt.While _ [Stmt.AugAssign (Expr.Name (Str.ofString "pre") _) _ _ _] _ _) _) _ _ _)
    refine' cut_I (Str.ofString "pre") (W1 a b) ?k1 ?k2 ?_ ?_
    (case k1 => k_asm)
    (case k2 => k_asm)
    rotate_left
    intro pre tpre h' tk hW F' N'
    have hW1 := W1.f1 hW
    have hW2 := W1.f2 hW
    have hW3 := W1.f3 hW
    (try dsimp only)
    rotate_right
    focus (k_while_given ["a", "b"] (fun (a b : Str) script pre => 0 ≤ pre ∧ pre ≤ (a.length : Int) ∧ pre ≤ (b.length : Int) ∧ a.cps.toList.take pre.toNat = b.cps.toList.take pre.toNat) (fun (a b : Str) script pre => a.length - pre.toNat) "pre")
  k_with "state" => k_dflt (exact w1_step (by assumption) (by assumption) (by assumption) (by omega) (by omega))
  k_with "state" => k_dflt (exact w2_zero _ _)
  k_with "state" => k_dflt (exact w2_step (by assumption) (by assumption) (by assumption) (by omega) (by omega))
  k_with "MidI" =>
    refine' midI_of ?mF ?mN ?mA ?mB ?mP
    (case mF => k_asm)
    (case mN => k_asm)
    (case mA => exact if_pos rfl)
    (case mB => (intro y hy; simp only [if_neg hy, List.contains_nil, Bool.false_eq_true, if_false]))
    (case mP => first | exact w1_of (by assumption) (by assumption) (by assumption) (by assumption) | exact w2_of (by assumption) (by assumption) (by assumption) (by assumption))
  k_with "exec If" =>
    k_here
    goal_lacks Mine.MidSS
    (with_reducible show wpAny _ _ (exec (Stmt.If _ [Stmt.Assign [Expr.Tuple _ _ _] _ _] _ _) _) _ _ _)
    k_dflt (refine' cut_SS (Str.ofString "a") (Str.ofString "b") (SwapP a b) ?zF ?zN ?_ ?_; (case zF => k_asm); (case zN => k_asm))
    rotate_left
    intro x y tx ty h' tk hS F' N'
    have hS1 := SwapP.f1 hS
    have hS2 := SwapP.f2 hS
    have hS3 := SwapP.f3 hS
    have hS4 := SwapP.f4 hS
    (try dsimp only)
    rotate_right
  k_with "MidSS" =>
    k_dflt (refine' midSS_of ?mF ?mN ?mA ?mB ?mC ?mP; (case mF => k_asm); (case mN => first | k_asm | (refine' cb_drop ?cbN ?cbS; (case cbN => assumption); (case cbS => kcj_all))); (case mA => exact rfl); (case mB => exact rfl); (case mC => (intro y hy hz; simp only [if_neg hy, if_neg hz])); (case mP => first | exact swapP_no hE (by omega) (by omega) (by omega) | exact swapP_yes hE (by omega) (by omega) (by omega)))
  k_with "call type:list" =>
    k_here
    (with_reducible show wpAny _ _ (call (Value.type _) [Value.ref _]) _ _ _)
    (rename IsRange _ _ _ _ _ _ _ _ => rgX)
    (with_unfolding_all refine' list_row ?k0 ?k1 ?k2 ?k3 ?k4 ?k5 ?_; (case k0 => rfl); (case k1 => k_asm); (case k2 => k_asm); (case k3 => first | exact rgX | assumption); (case k4 => exact rfl); (case k5 => omega); k_whole)
    intro D' vs' c' h' tk' F' N' l1 hI'
    (try k_lt l1)
    (try k_sweep)
  k_with "call ref" =>
    k_here
    k_dflt (refine' use_FnI (sub_fn _ _ _ _ _ ?zx ?zy) ?z1 ?z2 ?z3 ?z4 ?z5 ?z6 ?z7 ?z8 ?_; (case zx => omega); (case zy => omega); (case z1 => k_asm); (case z2 => k_asm); (case z3 => k_asm); (case z4 => k_asm); (case z5 => k_asm); (case z6 => first | exact rfl | assumption); (case z7 => ktr_room); (case z8 => ktr_units))
    intro r9 t9 h9 tk9 hr9 F9 N9
    subst hr9
    (try dsimp only)
    (try k_fold)
  k_with "pyIter ref" => (k_of "bindex" => k_state_given ["a", "b"] (fun (a b : Str) pre row result => row.length = a.length ∧ row = rowAt a b pre.length ∧ result = resAt a b pre.length) "row" "result")
  k_with "pyIter ref" => (k_of "index" => k_state_given ["a", "b", "bindex"] (fun (a b : Str) (i : Int) pre row distance result minimum => row.length = a.length ∧ row = rowMid a b i.toNat pre.length ∧ distance = dd a b i.toNat pre.length ∧ result = resMid a b i.toNat pre.length ∧ (∀ q, q < pre.length → minimum ≤ dd a b (i.toNat + 1) (q + 1))) "row" "distance" "result" "minimum")
  k_with "state" => k_dflt (exact outer_start _ _)
  k_with "state" => k_dflt (exact inner_start (by assumption) (by assumption) (by assumption) (by omega))
  k_with "state" => k_dflt (exact inner_turnA (by assumption) (by assumption) (by assumption) (by assumption) (by assumption) (by omega) (by omega) (by omega) rfl (by assumption))
  k_with "state" => k_dflt (exact inner_turnB (by assumption) (by assumption) (by assumption) (by assumption) (by assumption) (by omega) (by omega) (by omega) rfl (by assumption))
  k_with "state" => k_dflt (exact outer_turn (by assumption) (by assumption) (by assumption) (by assumption) (by assumption))
  k_steps
  all_goals (exact hret _ _ _ _ (by first | exact levSpec_same (by assumption) | exact levSpec_empty hE (by omega) (by omega) | exact levSpec_far hS4 (by omega) | exact levSpec_early hS4 (by assumption) (by assumption) (by omega) (by omega) (by omega) | exact levSpec_end hS4 (by assumption) (by omega)) (by k_asm) (by first | k_asm | (refine' cb_drop ?cbN ?cbS; (case cbN => assumption); (case cbS => kcj_all))))


end Mine
end
section
open PySem PySem.W PyProof.Rows PySem.Spec PySem.Calls
set_option maxRecDepth 100000
namespace Mine
/-- the code object of the class body -/
noncomputable def codeK (tb x8 : Addr) (u t1 t2 t3 t4 : Tok) : Obj :=
  ⟨.type "code", none, .fields #[.str (Str.ofString "K") t1, .str (Str.ofString "cmp_to_key.<locals>.K") t2, .str (Str.ofString "/claim/cut.py") t3, .int 52 0, .int 0 0, .int 0 0, .int 0 0, .int 0 0, .ref x8, .bool true, .int 181 0, .ref tb,
    .none, .none, .none, .none, .int (u : Int) 0, .int 52 0, .str (Str.ofString "/claim/cut.py") t4], #[]⟩
/-- the code object of a method -/
noncomputable def codeM (name : String) (line : Int) (x8 tb x13 x14 x15 : Addr) (u t1 t2 t3 t4 : Tok) : Obj :=
  ⟨.type "code", none, .fields #[.str (Str.ofString name) t1, .str (Str.ofString ("cmp_to_key.<locals>.K." ++ name)) t2, .str (Str.ofString "/claim/cut.py") t3, .int line 0, .int 2 0, .int 0 0, .int 0 0, .int 19 0, .ref x8, .bool true, .int 181 0, .ref tb,
    .none, .ref x13, .ref x14, .ref x15, .int (u : Int) 0, .int line 0, .str (Str.ofString "/claim/cut.py") t4], #[]⟩
noncomputable def tabK (c1 c2 c3 c4 c5 c6 : Addr) : Obj :=
  { cls := .none, data := .fields #[rawInt 56, rawInt 8, .ref c1, rawInt 59, rawInt 8, .ref c2, rawInt 62, rawInt 8, .ref c3, rawInt 65, rawInt 8, .ref c4, rawInt 68, rawInt 8, .ref c5, rawInt 71, rawInt 8, .ref c6] }
/-- the class body's statements, taken from the given heap -/
noncomputable def stmtsOf : Option Obj → List Stmt
  | some ⟨_, _, .func fd, _⟩ => match fd.body with
    | .stmts b => b
    | _ => []
  | _ => []
noncomputable def clsBody : List Stmt → List Stmt
  | .ClassDef _ _ _ b _ _ _ _ _ _ _ :: _ => b
  | _ => []
noncomputable def defParts : Option Stmt → Arguments × List Stmt × Scope
  | some (.FunctionDef _ a b _ _ _ s _ _ _) => (a, b, s)
  | _ => (default, [], default)
noncomputable def partsK (w : World) (i : Nat) : Arguments × List Stmt × Scope := defParts ((clsBody (stmtsOf ((hd.heap_1 w.params).lookup 35)))[i]?)
/-- a method's function object -/
noncomputable def fnK (w : World) (i : Nat) (name : String) (cl : List (Str × Addr)) (code : Addr) (clo : Value) : Obj :=
  ⟨.type "function", none, .func (FuncData.mk (Str.ofString name) (Str.ofString ("cmp_to_key.<locals>.K." ++ name)) (partsK w i).1 (.stmts (partsK w i).2.1) (partsK w i).2.2 3 cl .none .none .none (.str (Str.ofString "law_oc0133_01") 332) none (.ref code) clo 0), #[]⟩
/-- an entry of the class's dict -/
noncomputable def de (w : World) (n : String) (t : Tok) (v : Value) : DictEntry := ⟨PyData.keyHash w.params (Str.ofString n), .str (Str.ofString n) t, v⟩
noncomputable def nsK (w : World) (tk : Nat → Tok) (sl f1 f2 f3 f4 f5 f6 sa md : Addr) : Obj :=
  ⟨.type "dict", none, .dict #[de w "__module__" (tk 0) (.str (Str.ofString "cpy313.functools") (tk 1)), de w "__firstlineno__" (tk 2) (.int 52 (tk 3)), de w "__slots__" (tk 4) (.ref sl), de w "__init__" (tk 5) (.ref f1), de w "__lt__" (tk 6) (.ref f2),
    de w "__gt__" (tk 7) (.ref f3), de w "__eq__" (tk 8) (.ref f4), de w "__le__" (tk 9) (.ref f5), de w "__ge__" (tk 10) (.ref f6), de w "__hash__" (tk 11) .none, de w "__static_attributes__" (tk 12) (.ref sa), de w "obj" (tk 13) (.ref md), de w "__doc__" (tk 14) .none] 3, #[]⟩
noncomputable def mdK (K : Addr) (t : Tok) : Obj := ⟨.type "member_descriptor", none, .fields #[.str (Str.ofString "obj") t, .ref K, .builtin "proto.slot", .builtin "proto.slot#set", .int 0 0], #[]⟩
noncomputable def clsK (K N bt : Addr) (t1 t2 : Tok) : Obj :=
  ⟨.type "type", none, .cls { name := Str.ofString "K", bases := [.type "object"], mro := [.ref K, .type "object"], ns := N, qualname := Str.ofString "cmp_to_key.<locals>.K", hasDict := false, slotNames := [Str.ofString "obj"], subclasses := [], abstract := false, collection := none, hasDel := false },
    #[some (.ref bt), none, some (.str (Str.ofString "K") t1), some (.str (Str.ofString "cmp_to_key.<locals>.K") t2), some (.builtin "object.__new__"), some (.bool false)]⟩
noncomputable def cellK (lam : Addr) : Obj := { cls := .type "cell", data := .cell (some (.ref lam)) }
end Mine
end
section
open PySem PySem.W PyProof.Rows PySem.Spec PySem.Calls PySem.W.X
set_option Elab.async false
set_option maxRecDepth 100000
set_option maxHeartbeats 0
set_option linter.unusedVariables false
namespace Mine

/-- the tree of a code, its built-ins in the library's quick form -/
noncomputable abbrev dnX (c : Code) : Sem PySem.Fin := denote XFast.tableX c
theorem dnX_eq (c : Code) : denote table c = dnX c := by rw [XFast.tableX_eq]
theorem noLimit_of {h : Heap} {o : Obj} {ep : Nat} (e : h.get? cStatics = some o) (ho : o.data = .dict #[] ep) : h.NoLimit :=
  ⟨fun _ => none, ⟨o, #[], ep, e, ho, fun e he => by simp at he, fun name => by simp [nsFind, findBy]⟩, rfl⟩
theorem freeNames_eq : @Scope.freeNames = fun scope => msortQ ((scope.names.filter (·.2 == .free)).map (·.1)) (fun a b => a.cps.toList ≤ b.cps.toList) := by
  funext scope
  show List.mergeSort _ _ = _
  rw [msortQ_eq]
theorem filter_self (i : DecidableEq Value) (a : Addr) : List.filter (fun x => @bne _ (@instBEqOfDecidableEq _ i) x (.ref a)) [.ref a, .type "object"] = [.type "object"] := by simp
theorem bor_mid {x y z : Bool} (hy : y = true) : (x || y || z) = true := by subst hy; simp
/-- the surroundings of a call, as wide as need be -/
noncomputable abbrev AA (n u : Nat) : Around := { handled := none, depth := n, frames := none, guards := none, units := u }
section
variable {α : Type} {M : Model} {A A₂ : Around} {Q : α → Shared → Prop} {E : Value → Shared → Prop} {s : Shared} {t : Sem α}
theorem wpAny_wide (hh : A.handled = A₂.handled) (hd : A.depth ≤ A₂.depth) (hf : A₂.frames = none) (hg : A₂.guards = none) (hu : A.units ≤ A₂.units) (x : wpAny M A₂ t Q E s) : wpAny M A t Q E s :=
  fun Γ p h => x Γ p ⟨h.1.trans hh, Nat.le_trans h.2.1 hd, (fun l hl => by rw [hf] at hl; cases hl), (fun l hl => by rw [hg] at hl; cases hl), Nat.le_trans h.2.2.2.2 hu⟩
end
section
variable {α : Type} {prog : Program} {w : World} {n u : Nat} {A : Around} {Q : α → Shared → Prop} {E : Value → Shared → Prop} {h : Heap} {g : Array GenState} {d : Drawn} {t : Nat} {os : OsState} {s : Shared}
theorem z_load {a : Addr} {q : Option Value} {k : Obj → Sem α} {o : Obj} (ho : h.get? a = some o) (x : wpAny (model prog w) A (k o) Q E ⟨h, g, d, t, os⟩) : wpAny (model prog w) A (.load a q k) Q E ⟨h, g, d, t, os⟩ := wpAny_bind (m := loadPart a q) (f := k) (wpAny_loadPart ho x)
theorem z_enter {Q : Unit → Shared → Prop} (hl : s.heap.NoLimit) (hd : A.depth < recursionLimit) (x : Q () s) : wpAny (model prog w) A enterFrame Q E s := wpAny_enterFrame hl hd x
theorem z_skimN (s : Shared) : ∀ (n : Nat) (t : Sem α), wpAny (model prog w) A (skim ⟨prog, w.params⟩ n t) Q E s → wpAny (model prog w) A t Q E s
  | 0, _, h => h
  | n + 1, .rule _ k, h => fun Γ p hΓ => z_skimN s n (k ()) h Γ p hΓ
  | n + 1, .at q k, h => fun Γ _ hΓ => z_skimN s n (k ()) h Γ q hΓ
  | n + 1, .point _ k, h => fun Γ p hΓ => z_skimN s n (k ()) h Γ p hΓ
  | n + 1, .ask k, h => fun Γ p hΓ => z_skimN s n (k ⟨prog, w.params⟩) h Γ p hΓ
  | _ + 1, .pure _, h => h
  | _ + 1, .raise _, h => h
  | _ + 1, .unsupported _, h => h
  | _ + 1, .finish _, h => h
  | _ + 1, .load .., h => h
  | _ + 1, .update .., h => h
  | _ + 1, .alloc .., h => h
  | _ + 1, .loadIfAlive .., h => h
  | _ + 1, .register .., h => h
  | _ + 1, .fresh _, h => h
  | _ + 1, .choose .., h => h
  | _ + 1, .os .., h => h
  | _ + 1, .call .., h => h
  | _ + 1, .handled .., h => h
  | _ + 1, .newGen .., h => h
  | _ + 1, .genState .., h => h
  | _ + 1, .resume .., h => h
  | _ + 1, .yield .., h => h
  | _ + 1, .stack _, h => h
  | _ + 1, .fork .., h => h
  | _ + 1, .thread _, h => h
  | _ + 1, .await .., h => h
theorem z_skim {T : Sem α} (x : wpAny (model prog w) A (skim ⟨prog, w.params⟩ 400 T) Q E s) : wpAny (model prog w) A T Q E s := z_skimN s 400 T x
theorem z_codeIn {c : Code} {R : Result → Shared → Prop} (hw : c.weight ≤ 4) (hu : c.cUnits ≤ 64) (x : wpAny (model prog w) (AA (n + 4) (u + 64)) (dnX c) (postC prog w (AA n u) R) (postE R) s) : codeAny (model prog w) (AA n u) c R s :=
  y_code _ _ _ _ _ _ (by rw [dnX_eq]; exact wpOwn_of_wpAny (wpAny_wide (A₂ := AA (n + 4) (u + 64)) rfl (Nat.add_le_add_left hw n) rfl rfl (Nat.add_le_add_left hu u) x))
theorem z_call {c' c₂ : Code} {hd : Option Value} {gg : Bool} {l : List Value} {k : Result → Sem α} (hc : c' = c₂) (hh : hd = none) (hw : c₂.weight ≤ 4) (hu : c₂.cUnits ≤ 64)
    (x : wpAny (model prog w) (AA (n + 4) (u + 64)) (dnX c₂) (postC prog w (AA n u) (postA prog w (AA n u) Q E k)) (postE (postA prog w (AA n u) Q E k)) s) : wpAny (model prog w) (AA n u) (.call c' hd gg l k) Q E s := by
  subst hc hh
  exact x_call (z_codeIn hw hu x) (by intro h; cases h)
theorem z_keep {vs : List Value} {m : Sem α} (x : wpAny (model prog w) A m Q E s) : wpAny (model prog w) A (m.keep vs) Q E s := fun Γ p hΓ => by rw [Sem.wp_keep]; exact x Γ p hΓ
theorem z_notMod {what : String} {a : Addr} {Q : Unit → Shared → Prop} (ha : a ≠ sysModules) (x : Q () s) : wpAny (model prog w) A (notTheModulesDict what a) Q E s := by
  unfold notTheModulesDict
  rw [if_neg (by simpa using ha)]
  exact wpAny_pure x
theorem z_builtin {id : String} {args : Args} {b : Builtin} {Q : PySem.Fin → Shared → Prop} (hb : entryFor XFast.tableX id = some b) (x : wpAny (model prog w) A (b args) Q E s) : wpAny (model prog w) A (dnX (.builtin id args)) Q E s := by
  have e : dnX (.builtin id args) = b args := by
    show (match entryFor XFast.tableX id with | some b => b args | none => _) = _
    rw [hb]
  rw [e]
  exact x
theorem z_chkLit {id id' : String} {args : Args} {Q : Unit → Shared → Prop} (hid : id = id') (x : wpAny (model prog w) A (XFast.xw10254737850608025244 id' args) Q E s) : wpAny (model prog w) A (checkBuiltinCall id args) Q E s := by subst hid; rw [XFast.xe10254737850608025244]; exact x
end
noncomputable def setL : List (Option Value) → Nat → Option Value → List (Option Value)
  | [], 0, v => [v]
  | [], n + 1, v => none :: setL [] n v
  | _ :: l, 0, v => v :: l
  | x :: l, n + 1, v => x :: setL l n v
theorem setL_eq : ∀ (l : List (Option Value)) (i : Nat) (v : Option Value), (l ++ List.replicate (i + 1 - l.length) none).set i v = setL l i v
  | [], 0, v => rfl
  | [], n + 1, v => by
    have := setL_eq [] n v
    simp only [List.nil_append, List.length_nil, Nat.sub_zero, List.replicate_succ, List.set_cons_zero, List.set_cons_succ, setL] at this ⊢
    rw [← this]
  | x :: l, 0, v => by
    simp [setL]
  | x :: l, n + 1, v => by
    have := setL_eq l n v
    simp only [List.length_cons, List.cons_append, List.set_cons_succ, setL]
    rw [← this]
    congr 4
    omega
theorem set_eq (sl : Array (Option Value)) (i : Nat) (v : Option Value) (l' : List (Option Value)) (e : setL sl.toList i v = l') : (sl ++ Array.replicate (i + 1 - sl.size) none).setIfInBounds i v = Array.mk l' := by
  obtain ⟨l⟩ := sl
  subst e
  apply Array.toList_inj.mp
  rw [Array.toList_setIfInBounds, Array.toList_append, Array.toList_replicate, ← setL_eq]
  rfl
section
variable {prog : Program} {w : World} {A : Around} {Q : Unit → Shared → Prop} {E : Value → Shared → Prop} {h h₀ : Heap} {g : Array GenState} {d : Drawn} {t : Nat} {os : OsState} {chg news news' : List (Addr × Obj)} {a : Addr}
end
theorem elem_self (i : DecidableEq Value) (a : Addr) (l : List Value) : @List.elem Value (@instBEqOfDecidableEq _ i) (.ref a) (.ref a :: l) = true := by simp [List.elem]
theorem drop_self (i : DecidableEq Value) (a : Addr) (l : List Value) : List.dropWhile (fun x => @bne _ (@instBEqOfDecidableEq _ i) x (.ref a)) (.ref a :: l) = .ref a :: l := by simp [List.dropWhile]
theorem bb1 : bootBuiltins (Str.ofString "__build_class__") = some (.builtin "__build_class__") := by decide +kernel
theorem bb2 : bootBuiltins (Str.ofString "object") = some (.type "object") := by decide +kernel
section
variable {prog : Program} {w : World} {A : Around} {E : Value → Shared → Prop} {h h₀ : Heap} {g : Array GenState} {d : Drawn} {t : Nat} {os : OsState} {chg news : List (Addr × Obj)} {mb : Str → Option Value}
theorem ns_mem (D : Mem h₀ h chg news) {b : Addr} (hw : away chg b = true) (hN : h₀.Ns b mb) : h.Ns b mb := by
  obtain ⟨o, es, ep, e, r⟩ := hN
  exact ⟨o, es, ep, D.keep b o e (by rw [hw, Bool.or_true]), r⟩
theorem z_nsB {b : Addr} {name : Str} {r : Option Value} {Q : Option Value → Shared → Prop} (D : Mem h₀ h chg news) (hN : h₀.Ns b mb) (hw : away chg b = true) (hm : mb name = r) (x : Q r ⟨h, g, d, t, os⟩) : wpAny (model prog w) A (nsGet b name) Q E ⟨h, g, d, t, os⟩ := by
  subst hm
  exact wpAny_nsGet (ns_mem D hw hN) x
end
section
variable {α : Type} {prog : Program} {w : World} {A : Around} {Q : α → Shared → Prop} {E : Value → Shared → Prop} {s : Shared} {P : Prop} [Decidable P] {m : Sem α} {k : Value → Sem α}
theorem z_iteTry (x : wpAny (model prog w) A m Q (fun _ _ => False) s) : wpAny (model prog w) A (if P then m else Sem.tryCatch m k) Q E s := by
  split
  · exact wpAny_mono x (fun _ _ h => h) (fun _ _ h => h.elim)
  · exact wpAny_tryCatch (wpAny_mono x (fun _ _ h => h) (fun _ _ h => h.elim))
end
theorem zdF {p : Prop} {i : Decidable p} (h : ¬p) : @decide p i = false := @decide_eq_false p i h
theorem zorF {a b : Bool} (x : a = false) (y : b = false) : (a || b) = false := by subst x; subst y; rfl
theorem xi0 : XFast.xw9430666877037008786 (Int.ofNat 0) 2 = some 0 := by
  unfold XFast.xw9430666877037008786
  rw [← X.ltQ_eq, ← X.leQ_eq]
  rfl
theorem xi1 : XFast.xw9430666877037008786 (Int.ofNat 1) 2 = some 1 := by
  unfold XFast.xw9430666877037008786
  rw [← X.ltQ_eq, ← X.leQ_eq]
  rfl
theorem zbF {i : DecidableEq Int} {x y : Int} (h : x ≠ y) : @BEq.beq Int (@instBEqOfDecidableEq Int i) x y = false := by simp [h]
theorem zbT {i : DecidableEq Int} {x y : Int} (h : x = y) : @BEq.beq Int (@instBEqOfDecidableEq Int i) x y = true := by simp [h]
theorem zneA {h₀ h : Heap} {chg news : List (Addr × Obj)} (D : Mem h₀ h chg news) {z : Addr} {oz : Obj} (hM : sysModules < z) {i : Nat} {a : Addr} {o : Obj} (e : news[i]? = some (a, o)) (l : news.getLast? = some (z, oz)) : a ≠ sysModules := by
  have hz : z ≤ a := by
    obtain ⟨pre, rfl⟩ : ∃ pre, news = pre ++ [(z, oz)] := List.getLast?_eq_some_iff.mp l
    have := D.ord
    rw [List.map_append, List.pairwise_append] at this
    have m := List.mem_of_getElem? e
    rcases List.mem_append.mp m with m | m
    · exact Nat.le_of_lt (this.2.2 a (List.mem_map_of_mem (f := (·.1)) m) z (by simp))
    · simp only [List.mem_singleton] at m
      cases m
      exact Nat.le_refl _
  exact Nat.ne_of_gt (Nat.lt_of_lt_of_le hM hz)
theorem zneB {h₀ h : Heap} {chg news : List (Addr × Obj)} (D : Mem h₀ h chg news) {z : Addr} {oz : Obj} (hM : sysModules < z) {i : Nat} {a : Addr} {o : Obj} (e : news[i]? = some (a, o)) (l : news.getLast? = some (z, oz)) : (a == sysModules) = false := beq_false_of_ne (zneA D hM e l)
theorem bb3 : bootBuiltins (Str.ofString "iter") = some (.builtin "iter") := by decide +kernel
theorem bb4 : bootBuiltins (Str.ofString "next") = some (.builtin "next") := by decide +kernel
section
variable {α : Type} {prog : Program} {w : World} {A : Around} {Q : α → Shared → Prop} {E : Value → Shared → Prop} {s : Shared} {b : Bool} {m : Sem α} {k : Value → Sem α}
end
theorem ent_li : entryFor XFast.tableX "list_iterator.__iter__" = XFast.tableX "dict_keyiterator.__iter__" := by kernel_rfl!
section
variable {prog : Program} {w : World} {A : Around} {E : Value → Shared → Prop} {s : Shared} {Q : Bool → Shared → Prop}
theorem z_eqInt {a b : Int} {t u : Tok} (x : Q (a == b) s) : wpAny (model prog w) A (XFast.xw13926502685295537346 (.int a t) (.int b u)) Q E s := by
  rw [← XFast.xe13926502685295537346]
  exact wpAny_eqBool_int x
theorem z_eqStr {a b : Str} {t u : Tok} (x : Q (decide (a = b)) s) : wpAny (model prog w) A (XFast.xw13926502685295537346 (.str a t) (.str b u)) Q E s := by
  rw [← XFast.xe13926502685295537346]
  exact wpAny_eqBool_str x
end
theorem zrT {p : Prop} {i : Decidable p} (h : p) : (@Decidable.rec p (fun _ => Bool) (fun h => (fun _ => false) h) (fun h => (fun _ => true) h) i) = true := @decide_eq_true p i h
theorem zrF {p : Prop} {i : Decidable p} (h : ¬ p) : ¬ (@Decidable.rec p (fun _ => Bool) (fun h => (fun _ => false) h) (fun h => (fun _ => true) h) i) = true := by
  have := @decide_eq_false p i h
  show ¬ @decide p i = true
  rw [this]; exact Bool.false_ne_true
section
variable {α β : Type} {prog : Program} {w : World} {A B : Around} {s : Shared} {v : Value}
theorem z_raise {Q : α → Shared → Prop} {E : Value → Shared → Prop} (x : E v s) : wpAny (model prog w) A (Sem.raise v) Q E s := fun _ _ _ => x
end

/-- an application that is not carried out -/
noncomputable abbrev ap {α : Type} {β : Type} (f : α → β) (a : α) : β := f a
/-- what stays through a run -/
structure Cx where
  prog : Program
  w : World
  h₀ : Heap
  g : Array GenState
  d : Drawn
  os : OsState
/-- what turns: the grown table, the new objects, the addresses to come, the token -/
structure St where
  chg : List (Addr × Obj)
  news : List (Addr × Obj)
  fut : List Addr
  tk : Nat
noncomputable def Fut : Nat → List Addr → Prop
  | _, [] => True
  | n, a :: l => a = n ∧ Fut (n + 1) l
noncomputable def nth : List (Addr × Obj) → Nat → Option (Addr × Obj)
  | [], _ => none
  | x :: _, 0 => some x
  | _ :: l, n + 1 => nth l n
theorem nth_eq : ∀ (l : List (Addr × Obj)) (i : Nat), nth l i = l[i]?
  | [], _ => rfl
  | _ :: _, 0 => rfl
  | _ :: l, n + 1 => by
    show nth l n = _
    rw [nth_eq l n]; simp
noncomputable def lastN : List (Addr × Obj) → Option (Addr × Obj)
  | [] => none
  | [x] => some x
  | _ :: y :: l => lastN (y :: l)
theorem lastN_eq : ∀ (l : List (Addr × Obj)), lastN l = l.getLast?
  | [] => rfl
  | [x] => rfl
  | x :: y :: l => by
    show lastN (y :: l) = _
    rw [lastN_eq (y :: l), List.getLast?_cons_cons]
section
variable {α : Type}
/-- the goal of a run: it holds over every heap that the state tells -/
noncomputable def Go (c : Cx) (A : Around) (st : St) (t : Sem α) (Q : α → Shared → Prop) (E : Value → Shared → Prop) : Prop :=
  ∀ h, Mem c.h₀ h st.chg st.news → Fut h.objs.size st.fut → wpAny (model c.prog c.w) A t Q E ⟨h, c.g, c.d, st.tk, c.os⟩
noncomputable abbrev sk (c : Cx) (t : Sem α) : Sem α := skim ⟨c.prog, c.w.params⟩ 400 t
variable {c : Cx} {A A' B : Around} {st : St} {chg news r : List (Addr × Obj)} {fut : List Addr} {tk n u : Nat} {β : Type} {T m m' : Sem α} {Q Q₂ : α → Shared → Prop} {E E' E₂ : Value → Shared → Prop} {a : Addr} {q : Option Value} {o o₂ : Obj} {hd : Option Value} {gg : Bool} {l : List Value}
theorem g_sk {t : Sem α} (e : sk c T = t) {h : Heap} (x : wpAny (model c.prog c.w) A t Q E ⟨h, c.g, c.d, tk, c.os⟩) : wpAny (model c.prog c.w) A T Q E ⟨h, c.g, c.d, tk, c.os⟩ := by
  subst e
  exact z_skim x
theorem g_skim (x : Go c A st (sk c T) Q E) : Go c A st T Q E := fun h D F => z_skim (x h D F)
theorem g_load {k : Obj → Sem α} (e : sk c T = .load a q k) (i : Nat) (hi : nth st.news i = some (a, o)) (x : Go c A st (ap k o) Q E) : Go c A st T Q E :=
  fun h D F => g_sk e (z_load (Mem.at D i a o ((nth_eq _ _).symm.trans hi)) (x h D F))
theorem g_chg {k : Obj → Sem α} (e : sk c T = .load a q k) (hi : nth st.chg 0 = some (a, o)) (x : Go c A st (ap k o) Q E) : Go c A st T Q E :=
  fun h D F => g_sk e (z_load (Mem.atC D 0 a o ((nth_eq _ _).symm.trans hi)) (x h D F))
theorem g_old {k : Obj → Sem α} (e : sk c T = .load a q k) (ho : c.h₀.get? a = some o) (hw : (hasCls o || away st.chg a) = true) (x : Go c A st (ap k o) Q E) : Go c A st T Q E :=
  fun h D F => g_sk e (z_load (Mem.old D a o ho hw) (x h D F))
theorem g_fresh {k : Tok → Sem α} (e : sk c T = .fresh k) (x : Go c A ⟨chg, news, fut, tk + 1⟩ (ap k tk) Q E) : Go c A ⟨chg, news, fut, tk⟩ T Q E :=
  fun h D F => g_sk e (wpAny_bind (m := fresh) (f := k) (wpAny_fresh (x h D F)))
theorem g_alloc {k : Addr → Sem α} (e : sk c T = .alloc o k) (hf : o.isFreed = false) (x : Go c A ⟨chg, (a, o) :: news, fut, tk⟩ (ap k a) Q E) : Go c A ⟨chg, news, a :: fut, tk⟩ T Q E :=
  fun h D F => g_sk e (by
    obtain ⟨rfl, F'⟩ := F
    exact wpAny_bind (m := alloc o) (f := k) (wpAny_alloc (x _ (D.alloc hf) (by
      have z : (h.push o).objs.size = h.objs.size + 1 := Array.size_push ..
      rw [z]; exact F'))))
theorem g_up {news' : List (Addr × Obj)} {f : Obj → Obj} {k : Unit → Sem α} (i : Nat) (hi : news[i]? = some (a, o)) (hn : news.set i (a, o₂) = news') (e : sk c T = .update a q f k) (ho : f o = o₂) (hf : o₂.isFreed = false)
    (x : Go c A ⟨chg, news', fut, tk⟩ (ap k ()) Q E) : Go c A ⟨chg, news, fut, tk⟩ T Q E := fun h D F => g_sk e (by
  subst ho hn
  exact wpAny_bind (m := updatePart a q f) (f := k) (wpAny_updatePart (D.at i a o hi) (x _ (D.update hi hf) (by rw [Heap.size_update]; exact F))))
theorem g_grow {f : Obj → Obj} {k : Unit → Sem α} {c₀ : Addr} {ps : Array Value} (ht : c.h₀.TableAt c₀ a ps) (more : Array Value) (e : sk c T = .update a q f k) (hw : away chg a = true) (hn : f (tableObj ps) = tableObj (ps ++ more))
    (x : Go c A ⟨(a, tableObj (ps ++ more)) :: chg, news, fut, tk⟩ (ap k ()) Q E) : Go c A ⟨chg, news, fut, tk⟩ T Q E := fun h D F => g_sk e
  (wpAny_bind (m := updatePart a q f) (f := k) (wpAny_updatePart (D.keep a _ ht.2 (by rw [hw, Bool.or_true])) (x _ (D.grow ht hw hn) (by rw [Heap.size_update]; exact F))))
theorem g_handled {k : Option Value → Sem α} (e : sk c T = .handled false k) (x : Go c (AA n u) st (ap k none) Q E) : Go c (AA n u) st T Q E := fun h D F => g_sk e (wpAny_bind (m := handled) (f := k) (wpAny_handled (x h D F)))
theorem g_call {c' c₂ : Code} {k : Result → Sem α} (e : sk c T = .call c' none gg l k) (hc : c' = c₂) (hw : c₂.weight ≤ 4) (hu : c₂.cUnits ≤ 64)
    (x : Go c (AA (n + 4) (u + 64)) st (dnX c₂) (postC c.prog c.w (AA n u) (postA c.prog c.w (AA n u) Q E k)) (postE (postA c.prog c.w (AA n u) Q E k))) : Go c (AA n u) st T Q E :=
  fun h D F => g_sk e (z_call hc rfl hw hu (x h D F))
theorem g_pureB {a : α} {f : α → Sem β} {Q' : β → Shared → Prop} (e : sk c T = .pure a) (x : Go c A' st (ap f a) Q' E') : Go c A st T (fun a s' => wpAny (model c.prog c.w) A' (f a) Q' E' s') E :=
  fun h D F => g_sk e (wpAny_pure (x h D F))
theorem g_done {T : Sem PySem.Fin} {f : Flow} {k : Result → Sem α} (e : sk c T = .pure (.done f)) (x : Go c A st (ap k (.ok f)) Q E) : Go c B st T (postC c.prog c.w A' (postA c.prog c.w A Q E k)) E' :=
  fun h D F => g_sk e (wpAny_pure (x h D F))
theorem g_again {T : Sem PySem.Fin} {c' c₂ : Code} {R : Result → Shared → Prop} (e : sk c T = .pure (.again c')) (hc : c' = c₂) (hq : c₂.quiet = true) (hw : c₂.weight ≤ 4) (hu : c₂.cUnits ≤ 64) (x : Go c (AA (n + 4) (u + 64)) st (dnX c₂) (postC c.prog c.w (AA n u) R) (postE R)) :
    Go c B st T (postC c.prog c.w (AA n u) R) E' := fun h D F => by
  subst hc
  exact g_sk e (wpAny_pure (y_again _ _ _ _ _ _ hq (z_codeIn hw hu (x h D F))))
theorem g_raiseA {v : Value} {k : Result → Sem β} {Q' : β → Shared → Prop} (e : sk c T = .raise v) (x : Go c A st (ap k (.error v)) Q' E) : Go c B st T Q (postE (postA c.prog c.w A Q' E k)) := fun h D F => g_sk e (z_raise (x h D F))
theorem g_raiseB {v : Value} {k : Value → Sem β} {Q' : β → Shared → Prop} (e : sk c T = .raise v) (x : Go c A st (ap k v) Q' E) : Go c B st T Q (fun e s' => wpAny (model c.prog c.w) A (k e) Q' E s') := fun h D F => g_sk e (z_raise (x h D F))
theorem g_bind {T : Sem β} {f : α → Sem β} {Q' : β → Shared → Prop} (e : T = Sem.bind m f) (x : Go c A st m (fun a s' => wpAny (model c.prog c.w) A (f a) Q' E s') E) : Go c A st T Q' E := by
  subst e
  exact fun h D F => wpAny_bind (x h D F)
theorem g_onRaise {k : Value → Sem Unit} (e : T = m.onRaise k) (x : Go c A st m Q (fun e s' => wpAny (model c.prog c.w) A (k e) (fun _ s'' => E e s'') E s')) : Go c A st T Q E := by
  subst e
  exact fun h D F => wpAny_onRaise (x h D F)
theorem g_tryCatch {k : Value → Sem α} (e : T = Sem.tryCatch m k) (x : Go c A st m Q (fun e s' => wpAny (model c.prog c.w) A (k e) Q E s')) : Go c A st T Q E := by
  subst e
  exact fun h D F => wpAny_tryCatch (x h D F)
theorem g_keep {vs : List Value} (e : T = m.keep vs) (x : Go c A st m Q E) : Go c A st T Q E := by
  subst e
  exact fun h D F => z_keep (x h D F)
theorem g_holding {vs : List Value} (e : T = holding vs m) (x : Go c A st m Q E) : Go c A st T Q E := by
  subst e
  exact fun h D F => wpAny_holding (x h D F)
theorem g_to (e : T = m) (x : Go c A st m Q E) : Go c A st T Q E := e ▸ x
theorem g_condT {b : Bool} (e : T = condFn (Sem α) b m m') (hb : b = true) (x : Go c A st m Q E) : Go c A st T Q E := by subst e; subst hb; exact x
theorem g_condF {b : Bool} (e : T = condFn (Sem α) b m m') (hb : b = false) (x : Go c A st m' Q E) : Go c A st T Q E := by subst e; subst hb; exact x
theorem g_iteT {P : Prop} {i : Decidable P} (e : T = if P then m else m') (hp : P) (x : Go c A st m Q E) : Go c A st T Q E := by subst e; rw [if_pos hp]; exact x
theorem g_iteF {P : Prop} {i : Decidable P} (e : T = if P then m else m') (hp : ¬ P) (x : Go c A st m' Q E) : Go c A st T Q E := by subst e; rw [if_neg hp]; exact x
theorem g_iteTry {P : Prop} {i : Decidable P} {k : Value → Sem α} (e : T = if P then m else Sem.tryCatch m k) (x : Go c A st m Q (fun _ _ => False)) : Go c A st T Q E := by
  subst e
  exact fun h D F => z_iteTry (x h D F)
theorem g_condTry {b : Bool} {k : Value → Sem α} (e : T = condFn (Sem α) b m (Sem.tryCatch m k)) (x : Go c A st m Q (fun _ _ => False)) : Go c A st T Q E := by
  subst e
  cases b
  · exact fun h D F => wpAny_tryCatch (wpAny_mono (x h D F) (fun _ _ h => h) (fun _ _ h => h.elim))
  · exact fun h D F => wpAny_mono (x h D F) (fun _ _ h => h) (fun _ _ h => h.elim)
theorem g_croom {T : Sem Unit} {what : String} {vs : List Value} {f : Unit → Sem α} (e : T = cRoomFor what vs) (hu : A.units < cLine) (x : Go c A' st (ap f ()) Q E) : Go c A st T (fun a s' => wpAny (model c.prog c.w) A' (f a) Q E s') E' := by
  subst e
  exact fun h D F => wpAny_cRoomFor hu (x h D F)
theorem g_enter {T : Sem Unit} {f : Unit → Sem α} {ep : Nat} (e : T = enterFrame) (hl : c.h₀.get? cStatics = some o) (ho : o.data = .dict #[] ep) (hw : (hasCls o || away st.chg cStatics) = true) (hd : A.depth < recursionLimit) (x : Go c A' st (ap f ()) Q E) : Go c A st T (fun a s' => wpAny (model c.prog c.w) A' (f a) Q E s') E' := by
  subst e
  exact fun h D F => z_enter (noLimit_of (Mem.old D _ _ hl hw) ho) hd (x h D F)
theorem g_notMod {T : Sem Unit} {what : String} {f : Unit → Sem α} {z : Addr} {oz : Obj} (e : T = notTheModulesDict what a) (hM : sysModules < z) (i : Nat) (hi : nth st.news i = some (a, o)) (hz : lastN st.news = some (z, oz)) (x : Go c A' st (ap f ()) Q E) : Go c A st T (fun a s' => wpAny (model c.prog c.w) A' (f a) Q E s') E' := by
  subst e
  exact fun h D F => z_notMod (zneA D hM (i := i) ((nth_eq _ _).symm.trans hi) ((lastN_eq _).symm.trans hz)) (x h D F)
theorem g_neMod {z : Addr} {oz : Obj} (hM : sysModules < z) (i : Nat) (hi : nth st.news i = some (a, o)) (hz : lastN st.news = some (z, oz)) (x : (a == sysModules) = false → Go c A st T Q E) : Go c A st T Q E :=
  fun h D F => x (zneB D hM (i := i) ((nth_eq _ _).symm.trans hi) ((lastN_eq _).symm.trans hz)) h D F
theorem g_nsB {T : Sem (Option Value)} {b : Addr} {name : Str} {mb : Str → Option Value} {v : Option Value} {f : Option Value → Sem α} (e : T = nsGet b name) (hN : c.h₀.Ns b mb) (hw : away st.chg b = true) (hm : mb name = v) (x : Go c A' st (ap f v) Q E) : Go c A st T (fun a s' => wpAny (model c.prog c.w) A' (f a) Q E s') E' := by
  subst e
  exact fun h D F => z_nsB D hN hw hm (x h D F)
theorem g_builtin {T : Sem PySem.Fin} {Q : PySem.Fin → Shared → Prop} {id : String} {args : Args} {b : Builtin} (e : T = dnX (.builtin id args)) (hb : entryFor XFast.tableX id = some b) (x : Go c A st (b args) Q E) : Go c A st T Q E := by
  subst e
  exact fun h D F => z_builtin hb (x h D F)
theorem g_chkLit {T : Sem Unit} {Q : Unit → Shared → Prop} {id id' : String} {args : Args} (e : T = checkBuiltinCall id args) (hid : id = id') (x : Go c A st (XFast.xw10254737850608025244 id' args) Q E) : Go c A st T Q E := by
  subst e
  exact fun h D F => z_chkLit hid (x h D F)
theorem g_eqInt {T : Sem Bool} {i j : Int} {t t' : Tok} {f : Bool → Sem α} (e : T = XFast.xw13926502685295537346 (.int i t) (.int j t')) (x : Go c A' st (ap f (i == j)) Q E) : Go c A st T (fun a s' => wpAny (model c.prog c.w) A' (f a) Q E s') E' := by
  subst e
  exact fun h D F => z_eqInt (x h D F)
theorem g_eqStr {T : Sem Bool} {i j : Str} {t t' : Tok} {f : Bool → Sem α} (e : T = XFast.xw13926502685295537346 (.str i t) (.str j t')) (x : Go c A' st (f (decide (i = j))) Q E) : Go c A st T (fun a s' => wpAny (model c.prog c.w) A' (f a) Q E s') E' := by
  subst e
  exact fun h D F => z_eqStr (x h D F)
theorem g_slot {T : Sem Unit} {news' : List (Addr × Obj)} {cl : Value} {dd : Option Addr} {dt : Data} {sl : Array (Option Value)} {l' : List (Option Value)} {i : Nat} {v : Option Value} {f : Unit → Sem α} (j : Nat) (hj : news[j]? = some (a, ⟨cl, dd, dt, sl⟩)) (hn : news.set j (a, ⟨cl, dd, dt, Array.mk l'⟩) = news')
    (e : T = setSlotAt a i v) (hi : Nat.blt i sizeLine = true) (hl : setL sl.toList i v = l') (hf : ∀ sl', Obj.isFreed ⟨cl, dd, dt, sl'⟩ = false) (x : Go c A' ⟨chg, news', fut, tk⟩ (ap f ()) Q E) : Go c A ⟨chg, news, fut, tk⟩ T (fun a s' => wpAny (model c.prog c.w) A' (f a) Q E s') E' := by
  subst e
  refine fun h D F => ?_
  unfold setSlotAt
  rw [if_neg (Nat.not_le.mpr (Nat.le_of_ble_eq_true hi))]
  refine wpAny_updatePart (D.at j a _ hj) (x _ ?_ (by rw [Heap.size_update]; exact F))
  have := D.update hj (f := fun (o : Obj) => { o with slots := (o.slots ++ Array.replicate (i + 1 - o.slots.size) none).setIfInBounds i v }) (hf _)
  rw [← hn, ← set_eq sl i v l' hl]
  exact this
theorem g_end {x : α} (e : sk c T = .pure x) (y : ∀ h, Mem c.h₀ h st.chg st.news → Q x ⟨h, c.g, c.d, st.tk, c.os⟩) : Go c A st T Q E := fun h D _ => g_sk e (wpAny_pure (y h D))
theorem g_up0 {f : Obj → Obj} {k : Unit → Sem α} (e : sk c T = .update a q f k) (ho : f o = o₂) (hf : o₂.isFreed = false) (x : Go c A ⟨chg, (a, o₂) :: r, fut, tk⟩ (ap k ()) Q E) : Go c A ⟨chg, (a, o) :: r, fut, tk⟩ T Q E := g_up 0 rfl rfl e ho hf x
theorem g_up1 {p0 : Addr × Obj} {f : Obj → Obj} {k : Unit → Sem α} (e : sk c T = .update a q f k) (ho : f o = o₂) (hf : o₂.isFreed = false) (x : Go c A ⟨chg, p0 :: (a, o₂) :: r, fut, tk⟩ (ap k ()) Q E) : Go c A ⟨chg, p0 :: (a, o) :: r, fut, tk⟩ T Q E := g_up 1 rfl rfl e ho hf x
theorem g_up2 {p0 p1 : Addr × Obj} {f : Obj → Obj} {k : Unit → Sem α} (e : sk c T = .update a q f k) (ho : f o = o₂) (hf : o₂.isFreed = false) (x : Go c A ⟨chg, p0 :: p1 :: (a, o₂) :: r, fut, tk⟩ (ap k ()) Q E) : Go c A ⟨chg, p0 :: p1 :: (a, o) :: r, fut, tk⟩ T Q E := g_up 2 rfl rfl e ho hf x
theorem g_up3 {p0 p1 p2 : Addr × Obj} {f : Obj → Obj} {k : Unit → Sem α} (e : sk c T = .update a q f k) (ho : f o = o₂) (hf : o₂.isFreed = false) (x : Go c A ⟨chg, p0 :: p1 :: p2 :: (a, o₂) :: r, fut, tk⟩ (ap k ()) Q E) : Go c A ⟨chg, p0 :: p1 :: p2 :: (a, o) :: r, fut, tk⟩ T Q E := g_up 3 rfl rfl e ho hf x
theorem g_up4 {p0 p1 p2 p3 : Addr × Obj} {f : Obj → Obj} {k : Unit → Sem α} (e : sk c T = .update a q f k) (ho : f o = o₂) (hf : o₂.isFreed = false) (x : Go c A ⟨chg, p0 :: p1 :: p2 :: p3 :: (a, o₂) :: r, fut, tk⟩ (ap k ()) Q E) : Go c A ⟨chg, p0 :: p1 :: p2 :: p3 :: (a, o) :: r, fut, tk⟩ T Q E := g_up 4 rfl rfl e ho hf x
theorem g_up5 {p0 p1 p2 p3 p4 : Addr × Obj} {f : Obj → Obj} {k : Unit → Sem α} (e : sk c T = .update a q f k) (ho : f o = o₂) (hf : o₂.isFreed = false) (x : Go c A ⟨chg, p0 :: p1 :: p2 :: p3 :: p4 :: (a, o₂) :: r, fut, tk⟩ (ap k ()) Q E) : Go c A ⟨chg, p0 :: p1 :: p2 :: p3 :: p4 :: (a, o) :: r, fut, tk⟩ T Q E := g_up 5 rfl rfl e ho hf x
theorem g_up7 {p0 p1 p2 p3 p4 p5 p6 : Addr × Obj} {f : Obj → Obj} {k : Unit → Sem α} (e : sk c T = .update a q f k) (ho : f o = o₂) (hf : o₂.isFreed = false) (x : Go c A ⟨chg, p0 :: p1 :: p2 :: p3 :: p4 :: p5 :: p6 :: (a, o₂) :: r, fut, tk⟩ (ap k ()) Q E) : Go c A ⟨chg, p0 :: p1 :: p2 :: p3 :: p4 :: p5 :: p6 :: (a, o) :: r, fut, tk⟩ T Q E := g_up 7 rfl rfl e ho hf x
theorem g_up9 {p0 p1 p2 p3 p4 p5 p6 p7 p8 : Addr × Obj} {f : Obj → Obj} {k : Unit → Sem α} (e : sk c T = .update a q f k) (ho : f o = o₂) (hf : o₂.isFreed = false) (x : Go c A ⟨chg, p0 :: p1 :: p2 :: p3 :: p4 :: p5 :: p6 :: p7 :: p8 :: (a, o₂) :: r, fut, tk⟩ (ap k ()) Q E) : Go c A ⟨chg, p0 :: p1 :: p2 :: p3 :: p4 :: p5 :: p6 :: p7 :: p8 :: (a, o) :: r, fut, tk⟩ T Q E := g_up 9 rfl rfl e ho hf x
theorem g_up11 {p0 p1 p2 p3 p4 p5 p6 p7 p8 p9 p10 : Addr × Obj} {f : Obj → Obj} {k : Unit → Sem α} (e : sk c T = .update a q f k) (ho : f o = o₂) (hf : o₂.isFreed = false) (x : Go c A ⟨chg, p0 :: p1 :: p2 :: p3 :: p4 :: p5 :: p6 :: p7 :: p8 :: p9 :: p10 :: (a, o₂) :: r, fut, tk⟩ (ap k ()) Q E) : Go c A ⟨chg, p0 :: p1 :: p2 :: p3 :: p4 :: p5 :: p6 :: p7 :: p8 :: p9 :: p10 :: (a, o) :: r, fut, tk⟩ T Q E := g_up 11 rfl rfl e ho hf x
theorem g_up12 {p0 p1 p2 p3 p4 p5 p6 p7 p8 p9 p10 p11 : Addr × Obj} {f : Obj → Obj} {k : Unit → Sem α} (e : sk c T = .update a q f k) (ho : f o = o₂) (hf : o₂.isFreed = false) (x : Go c A ⟨chg, p0 :: p1 :: p2 :: p3 :: p4 :: p5 :: p6 :: p7 :: p8 :: p9 :: p10 :: p11 :: (a, o₂) :: r, fut, tk⟩ (ap k ()) Q E) : Go c A ⟨chg, p0 :: p1 :: p2 :: p3 :: p4 :: p5 :: p6 :: p7 :: p8 :: p9 :: p10 :: p11 :: (a, o) :: r, fut, tk⟩ T Q E := g_up 12 rfl rfl e ho hf x
theorem g_up13 {p0 p1 p2 p3 p4 p5 p6 p7 p8 p9 p10 p11 p12 : Addr × Obj} {f : Obj → Obj} {k : Unit → Sem α} (e : sk c T = .update a q f k) (ho : f o = o₂) (hf : o₂.isFreed = false) (x : Go c A ⟨chg, p0 :: p1 :: p2 :: p3 :: p4 :: p5 :: p6 :: p7 :: p8 :: p9 :: p10 :: p11 :: p12 :: (a, o₂) :: r, fut, tk⟩ (ap k ()) Q E) : Go c A ⟨chg, p0 :: p1 :: p2 :: p3 :: p4 :: p5 :: p6 :: p7 :: p8 :: p9 :: p10 :: p11 :: p12 :: (a, o) :: r, fut, tk⟩ T Q E := g_up 13 rfl rfl e ho hf x
theorem g_up14 {p0 p1 p2 p3 p4 p5 p6 p7 p8 p9 p10 p11 p12 p13 : Addr × Obj} {f : Obj → Obj} {k : Unit → Sem α} (e : sk c T = .update a q f k) (ho : f o = o₂) (hf : o₂.isFreed = false) (x : Go c A ⟨chg, p0 :: p1 :: p2 :: p3 :: p4 :: p5 :: p6 :: p7 :: p8 :: p9 :: p10 :: p11 :: p12 :: p13 :: (a, o₂) :: r, fut, tk⟩ (ap k ()) Q E) : Go c A ⟨chg, p0 :: p1 :: p2 :: p3 :: p4 :: p5 :: p6 :: p7 :: p8 :: p9 :: p10 :: p11 :: p12 :: p13 :: (a, o) :: r, fut, tk⟩ T Q E := g_up 14 rfl rfl e ho hf x
theorem g_up17 {p0 p1 p2 p3 p4 p5 p6 p7 p8 p9 p10 p11 p12 p13 p14 p15 p16 : Addr × Obj} {f : Obj → Obj} {k : Unit → Sem α} (e : sk c T = .update a q f k) (ho : f o = o₂) (hf : o₂.isFreed = false) (x : Go c A ⟨chg, p0 :: p1 :: p2 :: p3 :: p4 :: p5 :: p6 :: p7 :: p8 :: p9 :: p10 :: p11 :: p12 :: p13 :: p14 :: p15 :: p16 :: (a, o₂) :: r, fut, tk⟩ (ap k ()) Q E) : Go c A ⟨chg, p0 :: p1 :: p2 :: p3 :: p4 :: p5 :: p6 :: p7 :: p8 :: p9 :: p10 :: p11 :: p12 :: p13 :: p14 :: p15 :: p16 :: (a, o) :: r, fut, tk⟩ T Q E := g_up 17 rfl rfl e ho hf x
theorem g_up20 {p0 p1 p2 p3 p4 p5 p6 p7 p8 p9 p10 p11 p12 p13 p14 p15 p16 p17 p18 p19 : Addr × Obj} {f : Obj → Obj} {k : Unit → Sem α} (e : sk c T = .update a q f k) (ho : f o = o₂) (hf : o₂.isFreed = false) (x : Go c A ⟨chg, p0 :: p1 :: p2 :: p3 :: p4 :: p5 :: p6 :: p7 :: p8 :: p9 :: p10 :: p11 :: p12 :: p13 :: p14 :: p15 :: p16 :: p17 :: p18 :: p19 :: (a, o₂) :: r, fut, tk⟩ (ap k ()) Q E) : Go c A ⟨chg, p0 :: p1 :: p2 :: p3 :: p4 :: p5 :: p6 :: p7 :: p8 :: p9 :: p10 :: p11 :: p12 :: p13 :: p14 :: p15 :: p16 :: p17 :: p18 :: p19 :: (a, o) :: r, fut, tk⟩ T Q E := g_up 20 rfl rfl e ho hf x
theorem g_up24 {p0 p1 p2 p3 p4 p5 p6 p7 p8 p9 p10 p11 p12 p13 p14 p15 p16 p17 p18 p19 p20 p21 p22 p23 : Addr × Obj} {f : Obj → Obj} {k : Unit → Sem α} (e : sk c T = .update a q f k) (ho : f o = o₂) (hf : o₂.isFreed = false) (x : Go c A ⟨chg, p0 :: p1 :: p2 :: p3 :: p4 :: p5 :: p6 :: p7 :: p8 :: p9 :: p10 :: p11 :: p12 :: p13 :: p14 :: p15 :: p16 :: p17 :: p18 :: p19 :: p20 :: p21 :: p22 :: p23 :: (a, o₂) :: r, fut, tk⟩ (ap k ()) Q E) : Go c A ⟨chg, p0 :: p1 :: p2 :: p3 :: p4 :: p5 :: p6 :: p7 :: p8 :: p9 :: p10 :: p11 :: p12 :: p13 :: p14 :: p15 :: p16 :: p17 :: p18 :: p19 :: p20 :: p21 :: p22 :: p23 :: (a, o) :: r, fut, tk⟩ T Q E := g_up 24 rfl rfl e ho hf x
theorem g_up25 {p0 p1 p2 p3 p4 p5 p6 p7 p8 p9 p10 p11 p12 p13 p14 p15 p16 p17 p18 p19 p20 p21 p22 p23 p24 : Addr × Obj} {f : Obj → Obj} {k : Unit → Sem α} (e : sk c T = .update a q f k) (ho : f o = o₂) (hf : o₂.isFreed = false) (x : Go c A ⟨chg, p0 :: p1 :: p2 :: p3 :: p4 :: p5 :: p6 :: p7 :: p8 :: p9 :: p10 :: p11 :: p12 :: p13 :: p14 :: p15 :: p16 :: p17 :: p18 :: p19 :: p20 :: p21 :: p22 :: p23 :: p24 :: (a, o₂) :: r, fut, tk⟩ (ap k ()) Q E) : Go c A ⟨chg, p0 :: p1 :: p2 :: p3 :: p4 :: p5 :: p6 :: p7 :: p8 :: p9 :: p10 :: p11 :: p12 :: p13 :: p14 :: p15 :: p16 :: p17 :: p18 :: p19 :: p20 :: p21 :: p22 :: p23 :: p24 :: (a, o) :: r, fut, tk⟩ T Q E := g_up 25 rfl rfl e ho hf x
theorem g_up28 {p0 p1 p2 p3 p4 p5 p6 p7 p8 p9 p10 p11 p12 p13 p14 p15 p16 p17 p18 p19 p20 p21 p22 p23 p24 p25 p26 p27 : Addr × Obj} {f : Obj → Obj} {k : Unit → Sem α} (e : sk c T = .update a q f k) (ho : f o = o₂) (hf : o₂.isFreed = false) (x : Go c A ⟨chg, p0 :: p1 :: p2 :: p3 :: p4 :: p5 :: p6 :: p7 :: p8 :: p9 :: p10 :: p11 :: p12 :: p13 :: p14 :: p15 :: p16 :: p17 :: p18 :: p19 :: p20 :: p21 :: p22 :: p23 :: p24 :: p25 :: p26 :: p27 :: (a, o₂) :: r, fut, tk⟩ (ap k ()) Q E) : Go c A ⟨chg, p0 :: p1 :: p2 :: p3 :: p4 :: p5 :: p6 :: p7 :: p8 :: p9 :: p10 :: p11 :: p12 :: p13 :: p14 :: p15 :: p16 :: p17 :: p18 :: p19 :: p20 :: p21 :: p22 :: p23 :: p24 :: p25 :: p26 :: p27 :: (a, o) :: r, fut, tk⟩ T Q E := g_up 28 rfl rfl e ho hf x
theorem g_up33 {p0 p1 p2 p3 p4 p5 p6 p7 p8 p9 p10 p11 p12 p13 p14 p15 p16 p17 p18 p19 p20 p21 p22 p23 p24 p25 p26 p27 p28 p29 p30 p31 p32 : Addr × Obj} {f : Obj → Obj} {k : Unit → Sem α} (e : sk c T = .update a q f k) (ho : f o = o₂) (hf : o₂.isFreed = false) (x : Go c A ⟨chg, p0 :: p1 :: p2 :: p3 :: p4 :: p5 :: p6 :: p7 :: p8 :: p9 :: p10 :: p11 :: p12 :: p13 :: p14 :: p15 :: p16 :: p17 :: p18 :: p19 :: p20 :: p21 :: p22 :: p23 :: p24 :: p25 :: p26 :: p27 :: p28 :: p29 :: p30 :: p31 :: p32 :: (a, o₂) :: r, fut, tk⟩ (ap k ()) Q E) : Go c A ⟨chg, p0 :: p1 :: p2 :: p3 :: p4 :: p5 :: p6 :: p7 :: p8 :: p9 :: p10 :: p11 :: p12 :: p13 :: p14 :: p15 :: p16 :: p17 :: p18 :: p19 :: p20 :: p21 :: p22 :: p23 :: p24 :: p25 :: p26 :: p27 :: p28 :: p29 :: p30 :: p31 :: p32 :: (a, o) :: r, fut, tk⟩ T Q E := g_up 33 rfl rfl e ho hf x
theorem g_up36 {p0 p1 p2 p3 p4 p5 p6 p7 p8 p9 p10 p11 p12 p13 p14 p15 p16 p17 p18 p19 p20 p21 p22 p23 p24 p25 p26 p27 p28 p29 p30 p31 p32 p33 p34 p35 : Addr × Obj} {f : Obj → Obj} {k : Unit → Sem α} (e : sk c T = .update a q f k) (ho : f o = o₂) (hf : o₂.isFreed = false) (x : Go c A ⟨chg, p0 :: p1 :: p2 :: p3 :: p4 :: p5 :: p6 :: p7 :: p8 :: p9 :: p10 :: p11 :: p12 :: p13 :: p14 :: p15 :: p16 :: p17 :: p18 :: p19 :: p20 :: p21 :: p22 :: p23 :: p24 :: p25 :: p26 :: p27 :: p28 :: p29 :: p30 :: p31 :: p32 :: p33 :: p34 :: p35 :: (a, o₂) :: r, fut, tk⟩ (ap k ()) Q E) : Go c A ⟨chg, p0 :: p1 :: p2 :: p3 :: p4 :: p5 :: p6 :: p7 :: p8 :: p9 :: p10 :: p11 :: p12 :: p13 :: p14 :: p15 :: p16 :: p17 :: p18 :: p19 :: p20 :: p21 :: p22 :: p23 :: p24 :: p25 :: p26 :: p27 :: p28 :: p29 :: p30 :: p31 :: p32 :: p33 :: p34 :: p35 :: (a, o) :: r, fut, tk⟩ T Q E := g_up 36 rfl rfl e ho hf x
theorem g_up41 {p0 p1 p2 p3 p4 p5 p6 p7 p8 p9 p10 p11 p12 p13 p14 p15 p16 p17 p18 p19 p20 p21 p22 p23 p24 p25 p26 p27 p28 p29 p30 p31 p32 p33 p34 p35 p36 p37 p38 p39 p40 : Addr × Obj} {f : Obj → Obj} {k : Unit → Sem α} (e : sk c T = .update a q f k) (ho : f o = o₂) (hf : o₂.isFreed = false) (x : Go c A ⟨chg, p0 :: p1 :: p2 :: p3 :: p4 :: p5 :: p6 :: p7 :: p8 :: p9 :: p10 :: p11 :: p12 :: p13 :: p14 :: p15 :: p16 :: p17 :: p18 :: p19 :: p20 :: p21 :: p22 :: p23 :: p24 :: p25 :: p26 :: p27 :: p28 :: p29 :: p30 :: p31 :: p32 :: p33 :: p34 :: p35 :: p36 :: p37 :: p38 :: p39 :: p40 :: (a, o₂) :: r, fut, tk⟩ (ap k ()) Q E) : Go c A ⟨chg, p0 :: p1 :: p2 :: p3 :: p4 :: p5 :: p6 :: p7 :: p8 :: p9 :: p10 :: p11 :: p12 :: p13 :: p14 :: p15 :: p16 :: p17 :: p18 :: p19 :: p20 :: p21 :: p22 :: p23 :: p24 :: p25 :: p26 :: p27 :: p28 :: p29 :: p30 :: p31 :: p32 :: p33 :: p34 :: p35 :: p36 :: p37 :: p38 :: p39 :: p40 :: (a, o) :: r, fut, tk⟩ T Q E := g_up 41 rfl rfl e ho hf x
theorem g_up44 {p0 p1 p2 p3 p4 p5 p6 p7 p8 p9 p10 p11 p12 p13 p14 p15 p16 p17 p18 p19 p20 p21 p22 p23 p24 p25 p26 p27 p28 p29 p30 p31 p32 p33 p34 p35 p36 p37 p38 p39 p40 p41 p42 p43 : Addr × Obj} {f : Obj → Obj} {k : Unit → Sem α} (e : sk c T = .update a q f k) (ho : f o = o₂) (hf : o₂.isFreed = false) (x : Go c A ⟨chg, p0 :: p1 :: p2 :: p3 :: p4 :: p5 :: p6 :: p7 :: p8 :: p9 :: p10 :: p11 :: p12 :: p13 :: p14 :: p15 :: p16 :: p17 :: p18 :: p19 :: p20 :: p21 :: p22 :: p23 :: p24 :: p25 :: p26 :: p27 :: p28 :: p29 :: p30 :: p31 :: p32 :: p33 :: p34 :: p35 :: p36 :: p37 :: p38 :: p39 :: p40 :: p41 :: p42 :: p43 :: (a, o₂) :: r, fut, tk⟩ (ap k ()) Q E) : Go c A ⟨chg, p0 :: p1 :: p2 :: p3 :: p4 :: p5 :: p6 :: p7 :: p8 :: p9 :: p10 :: p11 :: p12 :: p13 :: p14 :: p15 :: p16 :: p17 :: p18 :: p19 :: p20 :: p21 :: p22 :: p23 :: p24 :: p25 :: p26 :: p27 :: p28 :: p29 :: p30 :: p31 :: p32 :: p33 :: p34 :: p35 :: p36 :: p37 :: p38 :: p39 :: p40 :: p41 :: p42 :: p43 :: (a, o) :: r, fut, tk⟩ T Q E := g_up 44 rfl rfl e ho hf x
theorem g_up49 {p0 p1 p2 p3 p4 p5 p6 p7 p8 p9 p10 p11 p12 p13 p14 p15 p16 p17 p18 p19 p20 p21 p22 p23 p24 p25 p26 p27 p28 p29 p30 p31 p32 p33 p34 p35 p36 p37 p38 p39 p40 p41 p42 p43 p44 p45 p46 p47 p48 : Addr × Obj} {f : Obj → Obj} {k : Unit → Sem α} (e : sk c T = .update a q f k) (ho : f o = o₂) (hf : o₂.isFreed = false) (x : Go c A ⟨chg, p0 :: p1 :: p2 :: p3 :: p4 :: p5 :: p6 :: p7 :: p8 :: p9 :: p10 :: p11 :: p12 :: p13 :: p14 :: p15 :: p16 :: p17 :: p18 :: p19 :: p20 :: p21 :: p22 :: p23 :: p24 :: p25 :: p26 :: p27 :: p28 :: p29 :: p30 :: p31 :: p32 :: p33 :: p34 :: p35 :: p36 :: p37 :: p38 :: p39 :: p40 :: p41 :: p42 :: p43 :: p44 :: p45 :: p46 :: p47 :: p48 :: (a, o₂) :: r, fut, tk⟩ (ap k ()) Q E) : Go c A ⟨chg, p0 :: p1 :: p2 :: p3 :: p4 :: p5 :: p6 :: p7 :: p8 :: p9 :: p10 :: p11 :: p12 :: p13 :: p14 :: p15 :: p16 :: p17 :: p18 :: p19 :: p20 :: p21 :: p22 :: p23 :: p24 :: p25 :: p26 :: p27 :: p28 :: p29 :: p30 :: p31 :: p32 :: p33 :: p34 :: p35 :: p36 :: p37 :: p38 :: p39 :: p40 :: p41 :: p42 :: p43 :: p44 :: p45 :: p46 :: p47 :: p48 :: (a, o) :: r, fut, tk⟩ T Q E := g_up 49 rfl rfl e ho hf x
theorem g_up52 {p0 p1 p2 p3 p4 p5 p6 p7 p8 p9 p10 p11 p12 p13 p14 p15 p16 p17 p18 p19 p20 p21 p22 p23 p24 p25 p26 p27 p28 p29 p30 p31 p32 p33 p34 p35 p36 p37 p38 p39 p40 p41 p42 p43 p44 p45 p46 p47 p48 p49 p50 p51 : Addr × Obj} {f : Obj → Obj} {k : Unit → Sem α} (e : sk c T = .update a q f k) (ho : f o = o₂) (hf : o₂.isFreed = false) (x : Go c A ⟨chg, p0 :: p1 :: p2 :: p3 :: p4 :: p5 :: p6 :: p7 :: p8 :: p9 :: p10 :: p11 :: p12 :: p13 :: p14 :: p15 :: p16 :: p17 :: p18 :: p19 :: p20 :: p21 :: p22 :: p23 :: p24 :: p25 :: p26 :: p27 :: p28 :: p29 :: p30 :: p31 :: p32 :: p33 :: p34 :: p35 :: p36 :: p37 :: p38 :: p39 :: p40 :: p41 :: p42 :: p43 :: p44 :: p45 :: p46 :: p47 :: p48 :: p49 :: p50 :: p51 :: (a, o₂) :: r, fut, tk⟩ (ap k ()) Q E) : Go c A ⟨chg, p0 :: p1 :: p2 :: p3 :: p4 :: p5 :: p6 :: p7 :: p8 :: p9 :: p10 :: p11 :: p12 :: p13 :: p14 :: p15 :: p16 :: p17 :: p18 :: p19 :: p20 :: p21 :: p22 :: p23 :: p24 :: p25 :: p26 :: p27 :: p28 :: p29 :: p30 :: p31 :: p32 :: p33 :: p34 :: p35 :: p36 :: p37 :: p38 :: p39 :: p40 :: p41 :: p42 :: p43 :: p44 :: p45 :: p46 :: p47 :: p48 :: p49 :: p50 :: p51 :: (a, o) :: r, fut, tk⟩ T Q E := g_up 52 rfl rfl e ho hf x
theorem g_up53 {p0 p1 p2 p3 p4 p5 p6 p7 p8 p9 p10 p11 p12 p13 p14 p15 p16 p17 p18 p19 p20 p21 p22 p23 p24 p25 p26 p27 p28 p29 p30 p31 p32 p33 p34 p35 p36 p37 p38 p39 p40 p41 p42 p43 p44 p45 p46 p47 p48 p49 p50 p51 p52 : Addr × Obj} {f : Obj → Obj} {k : Unit → Sem α} (e : sk c T = .update a q f k) (ho : f o = o₂) (hf : o₂.isFreed = false) (x : Go c A ⟨chg, p0 :: p1 :: p2 :: p3 :: p4 :: p5 :: p6 :: p7 :: p8 :: p9 :: p10 :: p11 :: p12 :: p13 :: p14 :: p15 :: p16 :: p17 :: p18 :: p19 :: p20 :: p21 :: p22 :: p23 :: p24 :: p25 :: p26 :: p27 :: p28 :: p29 :: p30 :: p31 :: p32 :: p33 :: p34 :: p35 :: p36 :: p37 :: p38 :: p39 :: p40 :: p41 :: p42 :: p43 :: p44 :: p45 :: p46 :: p47 :: p48 :: p49 :: p50 :: p51 :: p52 :: (a, o₂) :: r, fut, tk⟩ (ap k ()) Q E) : Go c A ⟨chg, p0 :: p1 :: p2 :: p3 :: p4 :: p5 :: p6 :: p7 :: p8 :: p9 :: p10 :: p11 :: p12 :: p13 :: p14 :: p15 :: p16 :: p17 :: p18 :: p19 :: p20 :: p21 :: p22 :: p23 :: p24 :: p25 :: p26 :: p27 :: p28 :: p29 :: p30 :: p31 :: p32 :: p33 :: p34 :: p35 :: p36 :: p37 :: p38 :: p39 :: p40 :: p41 :: p42 :: p43 :: p44 :: p45 :: p46 :: p47 :: p48 :: p49 :: p50 :: p51 :: p52 :: (a, o) :: r, fut, tk⟩ T Q E := g_up 53 rfl rfl e ho hf x
theorem g_up63 {p0 p1 p2 p3 p4 p5 p6 p7 p8 p9 p10 p11 p12 p13 p14 p15 p16 p17 p18 p19 p20 p21 p22 p23 p24 p25 p26 p27 p28 p29 p30 p31 p32 p33 p34 p35 p36 p37 p38 p39 p40 p41 p42 p43 p44 p45 p46 p47 p48 p49 p50 p51 p52 p53 p54 p55 p56 p57 p58 p59 p60 p61 p62 : Addr × Obj} {f : Obj → Obj} {k : Unit → Sem α} (e : sk c T = .update a q f k) (ho : f o = o₂) (hf : o₂.isFreed = false) (x : Go c A ⟨chg, p0 :: p1 :: p2 :: p3 :: p4 :: p5 :: p6 :: p7 :: p8 :: p9 :: p10 :: p11 :: p12 :: p13 :: p14 :: p15 :: p16 :: p17 :: p18 :: p19 :: p20 :: p21 :: p22 :: p23 :: p24 :: p25 :: p26 :: p27 :: p28 :: p29 :: p30 :: p31 :: p32 :: p33 :: p34 :: p35 :: p36 :: p37 :: p38 :: p39 :: p40 :: p41 :: p42 :: p43 :: p44 :: p45 :: p46 :: p47 :: p48 :: p49 :: p50 :: p51 :: p52 :: p53 :: p54 :: p55 :: p56 :: p57 :: p58 :: p59 :: p60 :: p61 :: p62 :: (a, o₂) :: r, fut, tk⟩ (ap k ()) Q E) : Go c A ⟨chg, p0 :: p1 :: p2 :: p3 :: p4 :: p5 :: p6 :: p7 :: p8 :: p9 :: p10 :: p11 :: p12 :: p13 :: p14 :: p15 :: p16 :: p17 :: p18 :: p19 :: p20 :: p21 :: p22 :: p23 :: p24 :: p25 :: p26 :: p27 :: p28 :: p29 :: p30 :: p31 :: p32 :: p33 :: p34 :: p35 :: p36 :: p37 :: p38 :: p39 :: p40 :: p41 :: p42 :: p43 :: p44 :: p45 :: p46 :: p47 :: p48 :: p49 :: p50 :: p51 :: p52 :: p53 :: p54 :: p55 :: p56 :: p57 :: p58 :: p59 :: p60 :: p61 :: p62 :: (a, o) :: r, fut, tk⟩ T Q E := g_up 63 rfl rfl e ho hf x
theorem g_sl0 {T : Sem Unit} {cl : Value} {dd : Option Addr} {dt : Data} {sl : Array (Option Value)} {l' : List (Option Value)} {i : Nat} {v : Option Value} {f : Unit → Sem α} (e : T = setSlotAt a i v) (hi : Nat.blt i sizeLine = true) (hl : setL sl.toList i v = l') (hf : ∀ sl', Obj.isFreed ⟨cl, dd, dt, sl'⟩ = false) (x : Go c A' ⟨chg, (a, ⟨cl, dd, dt, Array.mk l'⟩) :: r, fut, tk⟩ (ap f ()) Q E) : Go c A ⟨chg, (a, ⟨cl, dd, dt, sl⟩) :: r, fut, tk⟩ T (fun a s' => wpAny (model c.prog c.w) A' (f a) Q E s') E' := g_slot 0 rfl rfl e hi hl hf x
theorem g_sl1 {p0 : Addr × Obj} {T : Sem Unit} {cl : Value} {dd : Option Addr} {dt : Data} {sl : Array (Option Value)} {l' : List (Option Value)} {i : Nat} {v : Option Value} {f : Unit → Sem α} (e : T = setSlotAt a i v) (hi : Nat.blt i sizeLine = true) (hl : setL sl.toList i v = l') (hf : ∀ sl', Obj.isFreed ⟨cl, dd, dt, sl'⟩ = false) (x : Go c A' ⟨chg, p0 :: (a, ⟨cl, dd, dt, Array.mk l'⟩) :: r, fut, tk⟩ (ap f ()) Q E) : Go c A ⟨chg, p0 :: (a, ⟨cl, dd, dt, sl⟩) :: r, fut, tk⟩ T (fun a s' => wpAny (model c.prog c.w) A' (f a) Q E s') E' := g_slot 1 rfl rfl e hi hl hf x
theorem go_fut8 {h : Heap} (D : Mem c.h₀ h chg news) (x : ∀ a0 a1 a2 a3 a4 a5 a6 a7 : Addr, Go c A ⟨chg, news, [a0, a1, a2, a3, a4, a5, a6, a7], tk⟩ T Q E) : wpAny (model c.prog c.w) A T Q E ⟨h, c.g, c.d, tk, c.os⟩ :=
  x (h.objs.size) (h.objs.size + 1) (h.objs.size + 1 + 1) (h.objs.size + 1 + 1 + 1) (h.objs.size + 1 + 1 + 1 + 1) (h.objs.size + 1 + 1 + 1 + 1 + 1) (h.objs.size + 1 + 1 + 1 + 1 + 1 + 1) (h.objs.size + 1 + 1 + 1 + 1 + 1 + 1 + 1) h D ⟨rfl, rfl, rfl, rfl, rfl, rfl, rfl, rfl, trivial⟩
theorem go_fut24 {h : Heap} (D : Mem c.h₀ h chg news) (x : ∀ a0 a1 a2 a3 a4 a5 a6 a7 a8 a9 a10 a11 a12 a13 a14 a15 a16 a17 a18 a19 a20 a21 a22 a23 : Addr, Go c A ⟨chg, news, [a0, a1, a2, a3, a4, a5, a6, a7, a8, a9, a10, a11, a12, a13, a14, a15, a16, a17, a18, a19, a20, a21, a22, a23], tk⟩ T Q E) : wpAny (model c.prog c.w) A T Q E ⟨h, c.g, c.d, tk, c.os⟩ :=
  x (h.objs.size) (h.objs.size + 1) (h.objs.size + 1 + 1) (h.objs.size + 1 + 1 + 1) (h.objs.size + 1 + 1 + 1 + 1) (h.objs.size + 1 + 1 + 1 + 1 + 1) (h.objs.size + 1 + 1 + 1 + 1 + 1 + 1) (h.objs.size + 1 + 1 + 1 + 1 + 1 + 1 + 1) (h.objs.size + 1 + 1 + 1 + 1 + 1 + 1 + 1 + 1) (h.objs.size + 1 + 1 + 1 + 1 + 1 + 1 + 1 + 1 + 1) (h.objs.size + 1 + 1 + 1 + 1 + 1 + 1 + 1 + 1 + 1 + 1) (h.objs.size + 1 + 1 + 1 + 1 + 1 + 1 + 1 + 1 + 1 + 1 + 1) (h.objs.size + 1 + 1 + 1 + 1 + 1 + 1 + 1 + 1 + 1 + 1 + 1 + 1) (h.objs.size + 1 + 1 + 1 + 1 + 1 + 1 + 1 + 1 + 1 + 1 + 1 + 1 + 1) (h.objs.size + 1 + 1 + 1 + 1 + 1 + 1 + 1 + 1 + 1 + 1 + 1 + 1 + 1 + 1) (h.objs.size + 1 + 1 + 1 + 1 + 1 + 1 + 1 + 1 + 1 + 1 + 1 + 1 + 1 + 1 + 1) (h.objs.size + 1 + 1 + 1 + 1 + 1 + 1 + 1 + 1 + 1 + 1 + 1 + 1 + 1 + 1 + 1 + 1) (h.objs.size + 1 + 1 + 1 + 1 + 1 + 1 + 1 + 1 + 1 + 1 + 1 + 1 + 1 + 1 + 1 + 1 + 1) (h.objs.size + 1 + 1 + 1 + 1 + 1 + 1 + 1 + 1 + 1 + 1 + 1 + 1 + 1 + 1 + 1 + 1 + 1 + 1) (h.objs.size + 1 + 1 + 1 + 1 + 1 + 1 + 1 + 1 + 1 + 1 + 1 + 1 + 1 + 1 + 1 + 1 + 1 + 1 + 1) (h.objs.size + 1 + 1 + 1 + 1 + 1 + 1 + 1 + 1 + 1 + 1 + 1 + 1 + 1 + 1 + 1 + 1 + 1 + 1 + 1 + 1) (h.objs.size + 1 + 1 + 1 + 1 + 1 + 1 + 1 + 1 + 1 + 1 + 1 + 1 + 1 + 1 + 1 + 1 + 1 + 1 + 1 + 1 + 1) (h.objs.size + 1 + 1 + 1 + 1 + 1 + 1 + 1 + 1 + 1 + 1 + 1 + 1 + 1 + 1 + 1 + 1 + 1 + 1 + 1 + 1 + 1 + 1) (h.objs.size + 1 + 1 + 1 + 1 + 1 + 1 + 1 + 1 + 1 + 1 + 1 + 1 + 1 + 1 + 1 + 1 + 1 + 1 + 1 + 1 + 1 + 1 + 1) h D ⟨rfl, rfl, rfl, rfl, rfl, rfl, rfl, rfl, rfl, rfl, rfl, rfl, rfl, rfl, rfl, rfl, rfl, rfl, rfl, rfl, rfl, rfl, rfl, rfl, trivial⟩
theorem go_fut72 {h : Heap} (D : Mem c.h₀ h chg news) (x : ∀ a0 a1 a2 a3 a4 a5 a6 a7 a8 a9 a10 a11 a12 a13 a14 a15 a16 a17 a18 a19 a20 a21 a22 a23 a24 a25 a26 a27 a28 a29 a30 a31 a32 a33 a34 a35 a36 a37 a38 a39 a40 a41 a42 a43 a44 a45 a46 a47 a48 a49 a50 a51 a52 a53 a54 a55 a56 a57 a58 a59 a60 a61 a62 a63 a64 a65 a66 a67 a68 a69 a70 a71 : Addr, Go c A ⟨chg, news, [a0, a1, a2, a3, a4, a5, a6, a7, a8, a9, a10, a11, a12, a13, a14, a15, a16, a17, a18, a19, a20, a21, a22, a23, a24, a25, a26, a27, a28, a29, a30, a31, a32, a33, a34, a35, a36, a37, a38, a39, a40, a41, a42, a43, a44, a45, a46, a47, a48, a49, a50, a51, a52, a53, a54, a55, a56, a57, a58, a59, a60, a61, a62, a63, a64, a65, a66, a67, a68, a69, a70, a71], tk⟩ T Q E) : wpAny (model c.prog c.w) A T Q E ⟨h, c.g, c.d, tk, c.os⟩ :=
  x (h.objs.size) (h.objs.size + 1) (h.objs.size + 1 + 1) (h.objs.size + 1 + 1 + 1) (h.objs.size + 1 + 1 + 1 + 1) (h.objs.size + 1 + 1 + 1 + 1 + 1) (h.objs.size + 1 + 1 + 1 + 1 + 1 + 1) (h.objs.size + 1 + 1 + 1 + 1 + 1 + 1 + 1) (h.objs.size + 1 + 1 + 1 + 1 + 1 + 1 + 1 + 1) (h.objs.size + 1 + 1 + 1 + 1 + 1 + 1 + 1 + 1 + 1) (h.objs.size + 1 + 1 + 1 + 1 + 1 + 1 + 1 + 1 + 1 + 1) (h.objs.size + 1 + 1 + 1 + 1 + 1 + 1 + 1 + 1 + 1 + 1 + 1) (h.objs.size + 1 + 1 + 1 + 1 + 1 + 1 + 1 + 1 + 1 + 1 + 1 + 1) (h.objs.size + 1 + 1 + 1 + 1 + 1 + 1 + 1 + 1 + 1 + 1 + 1 + 1 + 1) (h.objs.size + 1 + 1 + 1 + 1 + 1 + 1 + 1 + 1 + 1 + 1 + 1 + 1 + 1 + 1) (h.objs.size + 1 + 1 + 1 + 1 + 1 + 1 + 1 + 1 + 1 + 1 + 1 + 1 + 1 + 1 + 1) (h.objs.size + 1 + 1 + 1 + 1 + 1 + 1 + 1 + 1 + 1 + 1 + 1 + 1 + 1 + 1 + 1 + 1) (h.objs.size + 1 + 1 + 1 + 1 + 1 + 1 + 1 + 1 + 1 + 1 + 1 + 1 + 1 + 1 + 1 + 1 + 1) (h.objs.size + 1 + 1 + 1 + 1 + 1 + 1 + 1 + 1 + 1 + 1 + 1 + 1 + 1 + 1 + 1 + 1 + 1 + 1) (h.objs.size + 1 + 1 + 1 + 1 + 1 + 1 + 1 + 1 + 1 + 1 + 1 + 1 + 1 + 1 + 1 + 1 + 1 + 1 + 1) (h.objs.size + 1 + 1 + 1 + 1 + 1 + 1 + 1 + 1 + 1 + 1 + 1 + 1 + 1 + 1 + 1 + 1 + 1 + 1 + 1 + 1) (h.objs.size + 1 + 1 + 1 + 1 + 1 + 1 + 1 + 1 + 1 + 1 + 1 + 1 + 1 + 1 + 1 + 1 + 1 + 1 + 1 + 1 + 1) (h.objs.size + 1 + 1 + 1 + 1 + 1 + 1 + 1 + 1 + 1 + 1 + 1 + 1 + 1 + 1 + 1 + 1 + 1 + 1 + 1 + 1 + 1 + 1) (h.objs.size + 1 + 1 + 1 + 1 + 1 + 1 + 1 + 1 + 1 + 1 + 1 + 1 + 1 + 1 + 1 + 1 + 1 + 1 + 1 + 1 + 1 + 1 + 1) (h.objs.size + 1 + 1 + 1 + 1 + 1 + 1 + 1 + 1 + 1 + 1 + 1 + 1 + 1 + 1 + 1 + 1 + 1 + 1 + 1 + 1 + 1 + 1 + 1 + 1) (h.objs.size + 1 + 1 + 1 + 1 + 1 + 1 + 1 + 1 + 1 + 1 + 1 + 1 + 1 + 1 + 1 + 1 + 1 + 1 + 1 + 1 + 1 + 1 + 1 + 1 + 1) (h.objs.size + 1 + 1 + 1 + 1 + 1 + 1 + 1 + 1 + 1 + 1 + 1 + 1 + 1 + 1 + 1 + 1 + 1 + 1 + 1 + 1 + 1 + 1 + 1 + 1 + 1 + 1) (h.objs.size + 1 + 1 + 1 + 1 + 1 + 1 + 1 + 1 + 1 + 1 + 1 + 1 + 1 + 1 + 1 + 1 + 1 + 1 + 1 + 1 + 1 + 1 + 1 + 1 + 1 + 1 + 1) (h.objs.size + 1 + 1 + 1 + 1 + 1 + 1 + 1 + 1 + 1 + 1 + 1 + 1 + 1 + 1 + 1 + 1 + 1 + 1 + 1 + 1 + 1 + 1 + 1 + 1 + 1 + 1 + 1 + 1) (h.objs.size + 1 + 1 + 1 + 1 + 1 + 1 + 1 + 1 + 1 + 1 + 1 + 1 + 1 + 1 + 1 + 1 + 1 + 1 + 1 + 1 + 1 + 1 + 1 + 1 + 1 + 1 + 1 + 1 + 1) (h.objs.size + 1 + 1 + 1 + 1 + 1 + 1 + 1 + 1 + 1 + 1 + 1 + 1 + 1 + 1 + 1 + 1 + 1 + 1 + 1 + 1 + 1 + 1 + 1 + 1 + 1 + 1 + 1 + 1 + 1 + 1) (h.objs.size + 1 + 1 + 1 + 1 + 1 + 1 + 1 + 1 + 1 + 1 + 1 + 1 + 1 + 1 + 1 + 1 + 1 + 1 + 1 + 1 + 1 + 1 + 1 + 1 + 1 + 1 + 1 + 1 + 1 + 1 + 1) (h.objs.size + 1 + 1 + 1 + 1 + 1 + 1 + 1 + 1 + 1 + 1 + 1 + 1 + 1 + 1 + 1 + 1 + 1 + 1 + 1 + 1 + 1 + 1 + 1 + 1 + 1 + 1 + 1 + 1 + 1 + 1 + 1 + 1) (h.objs.size + 1 + 1 + 1 + 1 + 1 + 1 + 1 + 1 + 1 + 1 + 1 + 1 + 1 + 1 + 1 + 1 + 1 + 1 + 1 + 1 + 1 + 1 + 1 + 1 + 1 + 1 + 1 + 1 + 1 + 1 + 1 + 1 + 1) (h.objs.size + 1 + 1 + 1 + 1 + 1 + 1 + 1 + 1 + 1 + 1 + 1 + 1 + 1 + 1 + 1 + 1 + 1 + 1 + 1 + 1 + 1 + 1 + 1 + 1 + 1 + 1 + 1 + 1 + 1 + 1 + 1 + 1 + 1 + 1) (h.objs.size + 1 + 1 + 1 + 1 + 1 + 1 + 1 + 1 + 1 + 1 + 1 + 1 + 1 + 1 + 1 + 1 + 1 + 1 + 1 + 1 + 1 + 1 + 1 + 1 + 1 + 1 + 1 + 1 + 1 + 1 + 1 + 1 + 1 + 1 + 1) (h.objs.size + 1 + 1 + 1 + 1 + 1 + 1 + 1 + 1 + 1 + 1 + 1 + 1 + 1 + 1 + 1 + 1 + 1 + 1 + 1 + 1 + 1 + 1 + 1 + 1 + 1 + 1 + 1 + 1 + 1 + 1 + 1 + 1 + 1 + 1 + 1 + 1) (h.objs.size + 1 + 1 + 1 + 1 + 1 + 1 + 1 + 1 + 1 + 1 + 1 + 1 + 1 + 1 + 1 + 1 + 1 + 1 + 1 + 1 + 1 + 1 + 1 + 1 + 1 + 1 + 1 + 1 + 1 + 1 + 1 + 1 + 1 + 1 + 1 + 1 + 1) (h.objs.size + 1 + 1 + 1 + 1 + 1 + 1 + 1 + 1 + 1 + 1 + 1 + 1 + 1 + 1 + 1 + 1 + 1 + 1 + 1 + 1 + 1 + 1 + 1 + 1 + 1 + 1 + 1 + 1 + 1 + 1 + 1 + 1 + 1 + 1 + 1 + 1 + 1 + 1) (h.objs.size + 1 + 1 + 1 + 1 + 1 + 1 + 1 + 1 + 1 + 1 + 1 + 1 + 1 + 1 + 1 + 1 + 1 + 1 + 1 + 1 + 1 + 1 + 1 + 1 + 1 + 1 + 1 + 1 + 1 + 1 + 1 + 1 + 1 + 1 + 1 + 1 + 1 + 1 + 1) (h.objs.size + 1 + 1 + 1 + 1 + 1 + 1 + 1 + 1 + 1 + 1 + 1 + 1 + 1 + 1 + 1 + 1 + 1 + 1 + 1 + 1 + 1 + 1 + 1 + 1 + 1 + 1 + 1 + 1 + 1 + 1 + 1 + 1 + 1 + 1 + 1 + 1 + 1 + 1 + 1 + 1) (h.objs.size + 1 + 1 + 1 + 1 + 1 + 1 + 1 + 1 + 1 + 1 + 1 + 1 + 1 + 1 + 1 + 1 + 1 + 1 + 1 + 1 + 1 + 1 + 1 + 1 + 1 + 1 + 1 + 1 + 1 + 1 + 1 + 1 + 1 + 1 + 1 + 1 + 1 + 1 + 1 + 1 + 1) (h.objs.size + 1 + 1 + 1 + 1 + 1 + 1 + 1 + 1 + 1 + 1 + 1 + 1 + 1 + 1 + 1 + 1 + 1 + 1 + 1 + 1 + 1 + 1 + 1 + 1 + 1 + 1 + 1 + 1 + 1 + 1 + 1 + 1 + 1 + 1 + 1 + 1 + 1 + 1 + 1 + 1 + 1 + 1) (h.objs.size + 1 + 1 + 1 + 1 + 1 + 1 + 1 + 1 + 1 + 1 + 1 + 1 + 1 + 1 + 1 + 1 + 1 + 1 + 1 + 1 + 1 + 1 + 1 + 1 + 1 + 1 + 1 + 1 + 1 + 1 + 1 + 1 + 1 + 1 + 1 + 1 + 1 + 1 + 1 + 1 + 1 + 1 + 1) (h.objs.size + 1 + 1 + 1 + 1 + 1 + 1 + 1 + 1 + 1 + 1 + 1 + 1 + 1 + 1 + 1 + 1 + 1 + 1 + 1 + 1 + 1 + 1 + 1 + 1 + 1 + 1 + 1 + 1 + 1 + 1 + 1 + 1 + 1 + 1 + 1 + 1 + 1 + 1 + 1 + 1 + 1 + 1 + 1 + 1) (h.objs.size + 1 + 1 + 1 + 1 + 1 + 1 + 1 + 1 + 1 + 1 + 1 + 1 + 1 + 1 + 1 + 1 + 1 + 1 + 1 + 1 + 1 + 1 + 1 + 1 + 1 + 1 + 1 + 1 + 1 + 1 + 1 + 1 + 1 + 1 + 1 + 1 + 1 + 1 + 1 + 1 + 1 + 1 + 1 + 1 + 1) (h.objs.size + 1 + 1 + 1 + 1 + 1 + 1 + 1 + 1 + 1 + 1 + 1 + 1 + 1 + 1 + 1 + 1 + 1 + 1 + 1 + 1 + 1 + 1 + 1 + 1 + 1 + 1 + 1 + 1 + 1 + 1 + 1 + 1 + 1 + 1 + 1 + 1 + 1 + 1 + 1 + 1 + 1 + 1 + 1 + 1 + 1 + 1) (h.objs.size + 1 + 1 + 1 + 1 + 1 + 1 + 1 + 1 + 1 + 1 + 1 + 1 + 1 + 1 + 1 + 1 + 1 + 1 + 1 + 1 + 1 + 1 + 1 + 1 + 1 + 1 + 1 + 1 + 1 + 1 + 1 + 1 + 1 + 1 + 1 + 1 + 1 + 1 + 1 + 1 + 1 + 1 + 1 + 1 + 1 + 1 + 1) (h.objs.size + 1 + 1 + 1 + 1 + 1 + 1 + 1 + 1 + 1 + 1 + 1 + 1 + 1 + 1 + 1 + 1 + 1 + 1 + 1 + 1 + 1 + 1 + 1 + 1 + 1 + 1 + 1 + 1 + 1 + 1 + 1 + 1 + 1 + 1 + 1 + 1 + 1 + 1 + 1 + 1 + 1 + 1 + 1 + 1 + 1 + 1 + 1 + 1) (h.objs.size + 1 + 1 + 1 + 1 + 1 + 1 + 1 + 1 + 1 + 1 + 1 + 1 + 1 + 1 + 1 + 1 + 1 + 1 + 1 + 1 + 1 + 1 + 1 + 1 + 1 + 1 + 1 + 1 + 1 + 1 + 1 + 1 + 1 + 1 + 1 + 1 + 1 + 1 + 1 + 1 + 1 + 1 + 1 + 1 + 1 + 1 + 1 + 1 + 1) (h.objs.size + 1 + 1 + 1 + 1 + 1 + 1 + 1 + 1 + 1 + 1 + 1 + 1 + 1 + 1 + 1 + 1 + 1 + 1 + 1 + 1 + 1 + 1 + 1 + 1 + 1 + 1 + 1 + 1 + 1 + 1 + 1 + 1 + 1 + 1 + 1 + 1 + 1 + 1 + 1 + 1 + 1 + 1 + 1 + 1 + 1 + 1 + 1 + 1 + 1 + 1) (h.objs.size + 1 + 1 + 1 + 1 + 1 + 1 + 1 + 1 + 1 + 1 + 1 + 1 + 1 + 1 + 1 + 1 + 1 + 1 + 1 + 1 + 1 + 1 + 1 + 1 + 1 + 1 + 1 + 1 + 1 + 1 + 1 + 1 + 1 + 1 + 1 + 1 + 1 + 1 + 1 + 1 + 1 + 1 + 1 + 1 + 1 + 1 + 1 + 1 + 1 + 1 + 1) (h.objs.size + 1 + 1 + 1 + 1 + 1 + 1 + 1 + 1 + 1 + 1 + 1 + 1 + 1 + 1 + 1 + 1 + 1 + 1 + 1 + 1 + 1 + 1 + 1 + 1 + 1 + 1 + 1 + 1 + 1 + 1 + 1 + 1 + 1 + 1 + 1 + 1 + 1 + 1 + 1 + 1 + 1 + 1 + 1 + 1 + 1 + 1 + 1 + 1 + 1 + 1 + 1 + 1) (h.objs.size + 1 + 1 + 1 + 1 + 1 + 1 + 1 + 1 + 1 + 1 + 1 + 1 + 1 + 1 + 1 + 1 + 1 + 1 + 1 + 1 + 1 + 1 + 1 + 1 + 1 + 1 + 1 + 1 + 1 + 1 + 1 + 1 + 1 + 1 + 1 + 1 + 1 + 1 + 1 + 1 + 1 + 1 + 1 + 1 + 1 + 1 + 1 + 1 + 1 + 1 + 1 + 1 + 1) (h.objs.size + 1 + 1 + 1 + 1 + 1 + 1 + 1 + 1 + 1 + 1 + 1 + 1 + 1 + 1 + 1 + 1 + 1 + 1 + 1 + 1 + 1 + 1 + 1 + 1 + 1 + 1 + 1 + 1 + 1 + 1 + 1 + 1 + 1 + 1 + 1 + 1 + 1 + 1 + 1 + 1 + 1 + 1 + 1 + 1 + 1 + 1 + 1 + 1 + 1 + 1 + 1 + 1 + 1 + 1) (h.objs.size + 1 + 1 + 1 + 1 + 1 + 1 + 1 + 1 + 1 + 1 + 1 + 1 + 1 + 1 + 1 + 1 + 1 + 1 + 1 + 1 + 1 + 1 + 1 + 1 + 1 + 1 + 1 + 1 + 1 + 1 + 1 + 1 + 1 + 1 + 1 + 1 + 1 + 1 + 1 + 1 + 1 + 1 + 1 + 1 + 1 + 1 + 1 + 1 + 1 + 1 + 1 + 1 + 1 + 1 + 1) (h.objs.size + 1 + 1 + 1 + 1 + 1 + 1 + 1 + 1 + 1 + 1 + 1 + 1 + 1 + 1 + 1 + 1 + 1 + 1 + 1 + 1 + 1 + 1 + 1 + 1 + 1 + 1 + 1 + 1 + 1 + 1 + 1 + 1 + 1 + 1 + 1 + 1 + 1 + 1 + 1 + 1 + 1 + 1 + 1 + 1 + 1 + 1 + 1 + 1 + 1 + 1 + 1 + 1 + 1 + 1 + 1 + 1) (h.objs.size + 1 + 1 + 1 + 1 + 1 + 1 + 1 + 1 + 1 + 1 + 1 + 1 + 1 + 1 + 1 + 1 + 1 + 1 + 1 + 1 + 1 + 1 + 1 + 1 + 1 + 1 + 1 + 1 + 1 + 1 + 1 + 1 + 1 + 1 + 1 + 1 + 1 + 1 + 1 + 1 + 1 + 1 + 1 + 1 + 1 + 1 + 1 + 1 + 1 + 1 + 1 + 1 + 1 + 1 + 1 + 1 + 1) (h.objs.size + 1 + 1 + 1 + 1 + 1 + 1 + 1 + 1 + 1 + 1 + 1 + 1 + 1 + 1 + 1 + 1 + 1 + 1 + 1 + 1 + 1 + 1 + 1 + 1 + 1 + 1 + 1 + 1 + 1 + 1 + 1 + 1 + 1 + 1 + 1 + 1 + 1 + 1 + 1 + 1 + 1 + 1 + 1 + 1 + 1 + 1 + 1 + 1 + 1 + 1 + 1 + 1 + 1 + 1 + 1 + 1 + 1 + 1) (h.objs.size + 1 + 1 + 1 + 1 + 1 + 1 + 1 + 1 + 1 + 1 + 1 + 1 + 1 + 1 + 1 + 1 + 1 + 1 + 1 + 1 + 1 + 1 + 1 + 1 + 1 + 1 + 1 + 1 + 1 + 1 + 1 + 1 + 1 + 1 + 1 + 1 + 1 + 1 + 1 + 1 + 1 + 1 + 1 + 1 + 1 + 1 + 1 + 1 + 1 + 1 + 1 + 1 + 1 + 1 + 1 + 1 + 1 + 1 + 1) (h.objs.size + 1 + 1 + 1 + 1 + 1 + 1 + 1 + 1 + 1 + 1 + 1 + 1 + 1 + 1 + 1 + 1 + 1 + 1 + 1 + 1 + 1 + 1 + 1 + 1 + 1 + 1 + 1 + 1 + 1 + 1 + 1 + 1 + 1 + 1 + 1 + 1 + 1 + 1 + 1 + 1 + 1 + 1 + 1 + 1 + 1 + 1 + 1 + 1 + 1 + 1 + 1 + 1 + 1 + 1 + 1 + 1 + 1 + 1 + 1 + 1) (h.objs.size + 1 + 1 + 1 + 1 + 1 + 1 + 1 + 1 + 1 + 1 + 1 + 1 + 1 + 1 + 1 + 1 + 1 + 1 + 1 + 1 + 1 + 1 + 1 + 1 + 1 + 1 + 1 + 1 + 1 + 1 + 1 + 1 + 1 + 1 + 1 + 1 + 1 + 1 + 1 + 1 + 1 + 1 + 1 + 1 + 1 + 1 + 1 + 1 + 1 + 1 + 1 + 1 + 1 + 1 + 1 + 1 + 1 + 1 + 1 + 1 + 1) (h.objs.size + 1 + 1 + 1 + 1 + 1 + 1 + 1 + 1 + 1 + 1 + 1 + 1 + 1 + 1 + 1 + 1 + 1 + 1 + 1 + 1 + 1 + 1 + 1 + 1 + 1 + 1 + 1 + 1 + 1 + 1 + 1 + 1 + 1 + 1 + 1 + 1 + 1 + 1 + 1 + 1 + 1 + 1 + 1 + 1 + 1 + 1 + 1 + 1 + 1 + 1 + 1 + 1 + 1 + 1 + 1 + 1 + 1 + 1 + 1 + 1 + 1 + 1) (h.objs.size + 1 + 1 + 1 + 1 + 1 + 1 + 1 + 1 + 1 + 1 + 1 + 1 + 1 + 1 + 1 + 1 + 1 + 1 + 1 + 1 + 1 + 1 + 1 + 1 + 1 + 1 + 1 + 1 + 1 + 1 + 1 + 1 + 1 + 1 + 1 + 1 + 1 + 1 + 1 + 1 + 1 + 1 + 1 + 1 + 1 + 1 + 1 + 1 + 1 + 1 + 1 + 1 + 1 + 1 + 1 + 1 + 1 + 1 + 1 + 1 + 1 + 1 + 1) (h.objs.size + 1 + 1 + 1 + 1 + 1 + 1 + 1 + 1 + 1 + 1 + 1 + 1 + 1 + 1 + 1 + 1 + 1 + 1 + 1 + 1 + 1 + 1 + 1 + 1 + 1 + 1 + 1 + 1 + 1 + 1 + 1 + 1 + 1 + 1 + 1 + 1 + 1 + 1 + 1 + 1 + 1 + 1 + 1 + 1 + 1 + 1 + 1 + 1 + 1 + 1 + 1 + 1 + 1 + 1 + 1 + 1 + 1 + 1 + 1 + 1 + 1 + 1 + 1 + 1) (h.objs.size + 1 + 1 + 1 + 1 + 1 + 1 + 1 + 1 + 1 + 1 + 1 + 1 + 1 + 1 + 1 + 1 + 1 + 1 + 1 + 1 + 1 + 1 + 1 + 1 + 1 + 1 + 1 + 1 + 1 + 1 + 1 + 1 + 1 + 1 + 1 + 1 + 1 + 1 + 1 + 1 + 1 + 1 + 1 + 1 + 1 + 1 + 1 + 1 + 1 + 1 + 1 + 1 + 1 + 1 + 1 + 1 + 1 + 1 + 1 + 1 + 1 + 1 + 1 + 1 + 1) (h.objs.size + 1 + 1 + 1 + 1 + 1 + 1 + 1 + 1 + 1 + 1 + 1 + 1 + 1 + 1 + 1 + 1 + 1 + 1 + 1 + 1 + 1 + 1 + 1 + 1 + 1 + 1 + 1 + 1 + 1 + 1 + 1 + 1 + 1 + 1 + 1 + 1 + 1 + 1 + 1 + 1 + 1 + 1 + 1 + 1 + 1 + 1 + 1 + 1 + 1 + 1 + 1 + 1 + 1 + 1 + 1 + 1 + 1 + 1 + 1 + 1 + 1 + 1 + 1 + 1 + 1 + 1) (h.objs.size + 1 + 1 + 1 + 1 + 1 + 1 + 1 + 1 + 1 + 1 + 1 + 1 + 1 + 1 + 1 + 1 + 1 + 1 + 1 + 1 + 1 + 1 + 1 + 1 + 1 + 1 + 1 + 1 + 1 + 1 + 1 + 1 + 1 + 1 + 1 + 1 + 1 + 1 + 1 + 1 + 1 + 1 + 1 + 1 + 1 + 1 + 1 + 1 + 1 + 1 + 1 + 1 + 1 + 1 + 1 + 1 + 1 + 1 + 1 + 1 + 1 + 1 + 1 + 1 + 1 + 1 + 1) (h.objs.size + 1 + 1 + 1 + 1 + 1 + 1 + 1 + 1 + 1 + 1 + 1 + 1 + 1 + 1 + 1 + 1 + 1 + 1 + 1 + 1 + 1 + 1 + 1 + 1 + 1 + 1 + 1 + 1 + 1 + 1 + 1 + 1 + 1 + 1 + 1 + 1 + 1 + 1 + 1 + 1 + 1 + 1 + 1 + 1 + 1 + 1 + 1 + 1 + 1 + 1 + 1 + 1 + 1 + 1 + 1 + 1 + 1 + 1 + 1 + 1 + 1 + 1 + 1 + 1 + 1 + 1 + 1 + 1) (h.objs.size + 1 + 1 + 1 + 1 + 1 + 1 + 1 + 1 + 1 + 1 + 1 + 1 + 1 + 1 + 1 + 1 + 1 + 1 + 1 + 1 + 1 + 1 + 1 + 1 + 1 + 1 + 1 + 1 + 1 + 1 + 1 + 1 + 1 + 1 + 1 + 1 + 1 + 1 + 1 + 1 + 1 + 1 + 1 + 1 + 1 + 1 + 1 + 1 + 1 + 1 + 1 + 1 + 1 + 1 + 1 + 1 + 1 + 1 + 1 + 1 + 1 + 1 + 1 + 1 + 1 + 1 + 1 + 1 + 1) (h.objs.size + 1 + 1 + 1 + 1 + 1 + 1 + 1 + 1 + 1 + 1 + 1 + 1 + 1 + 1 + 1 + 1 + 1 + 1 + 1 + 1 + 1 + 1 + 1 + 1 + 1 + 1 + 1 + 1 + 1 + 1 + 1 + 1 + 1 + 1 + 1 + 1 + 1 + 1 + 1 + 1 + 1 + 1 + 1 + 1 + 1 + 1 + 1 + 1 + 1 + 1 + 1 + 1 + 1 + 1 + 1 + 1 + 1 + 1 + 1 + 1 + 1 + 1 + 1 + 1 + 1 + 1 + 1 + 1 + 1 + 1) (h.objs.size + 1 + 1 + 1 + 1 + 1 + 1 + 1 + 1 + 1 + 1 + 1 + 1 + 1 + 1 + 1 + 1 + 1 + 1 + 1 + 1 + 1 + 1 + 1 + 1 + 1 + 1 + 1 + 1 + 1 + 1 + 1 + 1 + 1 + 1 + 1 + 1 + 1 + 1 + 1 + 1 + 1 + 1 + 1 + 1 + 1 + 1 + 1 + 1 + 1 + 1 + 1 + 1 + 1 + 1 + 1 + 1 + 1 + 1 + 1 + 1 + 1 + 1 + 1 + 1 + 1 + 1 + 1 + 1 + 1 + 1 + 1) h D ⟨rfl, rfl, rfl, rfl, rfl, rfl, rfl, rfl, rfl, rfl, rfl, rfl, rfl, rfl, rfl, rfl, rfl, rfl, rfl, rfl, rfl, rfl, rfl, rfl, rfl, rfl, rfl, rfl, rfl, rfl, rfl, rfl, rfl, rfl, rfl, rfl, rfl, rfl, rfl, rfl, rfl, rfl, rfl, rfl, rfl, rfl, rfl, rfl, rfl, rfl, rfl, rfl, rfl, rfl, rfl, rfl, rfl, rfl, rfl, rfl, rfl, rfl, rfl, rfl, rfl, rfl, rfl, rfl, rfl, rfl, rfl, rfl, trivial⟩
end
end Mine
end
section
open PySem PySem.W PyProof.Rows PySem.Spec PySem.Calls PySem.W.X
set_option Elab.async false
set_option maxRecDepth 100000
set_option linter.unusedVariables false
namespace Mine
theorem xid_obj : XFast.xw10133417225327028743 (Str.ofString "obj") = some true := by decide +kernel
theorem g_optS {α β : Type} {c : Cx} {A : Around} {st : St} {T n : Sem α} {s : β → Sem α} {o : Option β} {v : β} {Q : α → Shared → Prop} {E : Value → Shared → Prop} (e : T = @Option.rec β (fun _ => Sem α) n s o) (ho : o = some v) (x : Go c A st (s v) Q E) : Go c A st T Q E := by subst e; subst ho; exact x
theorem band_r {x y : Bool} (hy : y = false) : (x && y) = false := by subst hy; exact Bool.and_false x
theorem mem_dropn {p : Addr × Obj} {l r : List (Addr × Obj)} (k : Nat) (h : l.drop k = r) (m : p ∈ r) : p ∈ l := by subst h; exact List.mem_of_mem_drop m
theorem g_loadR {α : Type} {c : Cx} {A : Around} {st : St} {T : Sem α} {q : Option Value} {a : Addr} {o : Obj} {r : List (Addr × Obj)} {Q : α → Shared → Prop} {E : Value → Shared → Prop} {k : Obj → Sem α} (e : sk c T = .load a q k) (n : Nat) (hd : st.news.drop n = r) (hm : (a, o) ∈ r) (x : Go c A st (k o) Q E) : Go c A st T Q E :=
  fun h D F => g_sk e (z_load (Mem.nw D _ (mem_dropn n hd hm)).1 (x h D F))
theorem mem_nth {p : Addr × Obj} {l : List (Addr × Obj)} (i : Nat) (h : nth l i = some p) : p ∈ l := List.mem_of_getElem? ((nth_eq l i).symm.trans h)
theorem bnot_t {x : Bool} (h : x = true) : (!x) = false := by subst h; rfl
theorem zneT {i : DecidableEq Int} {x y : Int} (h : x ≠ y) : @bne Int (@instBEqOfDecidableEq Int i) x y = true := by simp [bne, h]
theorem zneF {i : DecidableEq Int} {x y : Int} (h : x = y) : ¬ @bne Int (@instBEqOfDecidableEq Int i) x y = true := by simp [bne, h]
theorem or_r {x y : Bool} (h : y = true) : (x || y) = true := by subst h; exact Bool.or_true x
theorem g_st {α : Type} {c : Cx} {A : Around} {st st' : St} {T : Sem α} {Q : α → Shared → Prop} {E : Value → Shared → Prop} (e : st = st') (x : Go c A st' T Q E) : Go c A st T Q E := e ▸ x
end Mine
end
section
open PySem PySem.W PyProof.Rows PySem.Spec PySem.Calls PySem.W.X PySem.W.XRun
set_option Elab.async false
set_option maxRecDepth 100000
set_option maxHeartbeats 0
set_option linter.unusedVariables false
namespace Mine
noncomputable abbrev PG := PySem.Challenge.rw_oc0133_01.row.prog
noncomputable abbrev instK (K d p : Addr) : Obj := { cls := .ref K, dict := some d, slots := #[some (.ref p)] }
noncomputable def lamOf : Option Stmt → Arguments × Expr × Scope
  | some (.Assign _ (.Call _ _ [⟨_, .Call _ [.Lambda p b sc _] _ _, _⟩] _) _) => (p, b, sc)
  | _ => (default, default, default)
/-- the comparison's lambda, taken from the given heap -/
noncomputable def lamP (w : World) : Arguments × Expr × Scope := lamOf ((stmtsOf ((hd.heap_1 w.params).lookup 117))[3]?)
/-- by the distance, then by the name -/
noncomputable def pairLt (x : Int) (n1 : Str) (y : Int) (n2 : Str) : Bool := if x = y then decide (n1.cps.toList < n2.cps.toList) else decide (x < y)
theorem decD {p q : Prop} {i : Decidable p} {j : Decidable q} (h : p ↔ q) : @decide p i = @decide q j := by
  by_cases hp : p
  · rw [@decide_eq_true p i hp, @decide_eq_true q j (h.mp hp)]
  · rw [@decide_eq_false p i hp, @decide_eq_false q j (fun x => hp (h.mpr x))]
theorem eqEnd {b1 b2 c1 c2 : Bool} {i : Decidable (condFn Int b1 1 0 - condFn Int b2 1 0 < 0)} (e1 : b1 = c1) (e2 : b2 = c2) (h : c1 = !c2) : @decide _ i = c2 := by
  subst e1; subst e2; subst h
  cases b2
  · exact @decide_eq_false _ i (by show ¬ ((1 : Int) - 0 < 0); decide)
  · exact @decide_eq_true _ i (by show ((0 : Int) - 1 < 0); decide)
theorem key_lt (w : World) (s : Shared) (Q : Bool → Shared → Prop) (E : Value → Shared → Prop) (K N bt md sl f1 f2 f3 f4 f5 f6 sa ci p1 p2 o1 o2 d1 d2 cl2 clo cell lam cc : Addr) (ts : Nat → Tok) (t1 t2 t3 v1 v2 : Tok) (x y : Int) (n1 n2 : Str) (u1 u2 : Tok) (ct : Value) (qual : Str)
   (X₀ : (hd.heap_1 w.params).In s.heap) (sl4 : Array (Option Value)) (z1 z2 z3 z4 z5 : Addr) (q1 q2 q3 q4 q5 : Tok) (cK cO cD : Value) (dO : Option Addr) (lO : List Value) (tO : Tok) (sO : Array (Option Value))
   (hK₀ : s.heap.get? K = some (clsK K N bt t1 t2)) (hN₀ : s.heap.get? N = some (nsK w ts sl f1 f2 f3 f4 f5 f6 sa md)) (h2₀ : s.heap.get? f2 = some (fnK w 3 "__lt__" [(Str.ofString "mycmp", cell)] cl2 (.ref clo))) (hm₀ : s.heap.get? md = some (mdK K t3))
   (hp1₀ : s.heap.get? p1 = some (tupO x n1 u1 v1)) (hp2₀ : s.heap.get? p2 = some (tupO y n2 u2 v2)) (ho1₀ : s.heap.get? o1 = some (instK K d1 p1)) (ho2₀ : s.heap.get? o2 = some (instK K d2 p2)) (hcell₀ : s.heap.get? cell = some (cellK lam))
   (hci₀ : s.heap.get? cl2 = some (codeM "__lt__" 59 z1 z2 z3 z4 z5 q1 q2 q3 q4 q5)) (h4₀ : s.heap.get? 4 = some ⟨.type "module", some builtinsNs, .plain, sl4⟩)
   (hlam₀ : s.heap.get? lam = some (PySem.W.kla_obj (Str.ofString "<lambda>") qual (lamP w).1 (lamP w).2.1 (lamP w).2.2 [] cK cc ct)) (hcc₀ : s.heap.get? cc = some ⟨cO, dO, .fields ⟨cD :: .str qual tO :: lO⟩, sO⟩)
   (hd1₀ : s.heap.get? d1 = some { cls := .type "dict", data := .dict #[] }) (hd2₀ : s.heap.get? d2 = some { cls := .type "dict", data := .dict #[] }) (hclo₀ : s.heap.get? clo = some { cls := .type "tuple", data := .seq #[.ref cell] })
   (hn : decide (n2.cps.toList < n1.cps.toList) = !decide (n1.cps.toList < n2.cps.toList))
   (hq₀ : ∀ (b : Bool) (h' : Heap) (tk' : Nat) (news : List (Addr × Obj)), b = pairLt x n1 y n2 → Mem s.heap h' [] news → Q b { s with heap := h', toks := tk' }) :
    wpAny (model PG w) (AA 500 3000) (keyLt' oneType' (.ref o1) (.ref o2)) Q E s := by
  obtain ⟨h₀, g, d, tk, os⟩ := s
  have X : (hd.heap_1 w.params).In h₀ := X₀
  have hK : h₀.get? K = some (clsK K N bt t1 t2) := hK₀
  have hN : h₀.get? N = some (nsK w ts sl f1 f2 f3 f4 f5 f6 sa md) := hN₀
  have h2 : h₀.get? f2 = some (fnK w 3 "__lt__" [(Str.ofString "mycmp", cell)] cl2 (.ref clo)) := h2₀
  have hm : h₀.get? md = some (mdK K t3) := hm₀
  have hp1 : h₀.get? p1 = some (tupO x n1 u1 v1) := hp1₀
  have hp2 : h₀.get? p2 = some (tupO y n2 u2 v2) := hp2₀
  have ho1 : h₀.get? o1 = some (instK K d1 p1) := ho1₀
  have ho2 : h₀.get? o2 = some (instK K d2 p2) := ho2₀
  have hcell : h₀.get? cell = some (cellK lam) := hcell₀
  have hci : h₀.get? cl2 = some (codeM "__lt__" 59 z1 z2 z3 z4 z5 q1 q2 q3 q4 q5) := hci₀
  have h4 : h₀.get? 4 = some ⟨.type "module", some builtinsNs, .plain, sl4⟩ := h4₀
  have hlam : h₀.get? lam = some (PySem.W.kla_obj (Str.ofString "<lambda>") qual (lamP w).1 (lamP w).2.1 (lamP w).2.2 [] cK cc ct) := hlam₀
  have hcc : h₀.get? cc = some ⟨cO, dO, .fields ⟨cD :: .str qual tO :: lO⟩, sO⟩ := hcc₀
  have hd1 : h₀.get? d1 = some { cls := .type "dict", data := .dict #[] } := hd1₀
  have hd2 : h₀.get? d2 = some { cls := .type "dict", data := .dict #[] } := hd2₀
  have hclo : h₀.get? clo = some { cls := .type "tuple", data := .seq #[.ref cell] } := hclo₀
  have hq : ∀ (b : Bool) (h' : Heap) (tk' : Nat) (news : List (Addr × Obj)), b = pairLt x n1 y n2 → Mem h₀ h' [] news → Q b ⟨h', g, d, tk', os⟩ := hq₀
  clear hq₀ X₀ hK₀ hN₀ h2₀ hm₀ hp1₀ hp2₀ ho1₀ ho2₀ hcell₀ hci₀ h4₀ hlam₀ hcc₀ hd1₀ hd2₀ hclo₀
  suffices H : ∀ h, Mem h₀ h [] [] → wpAny (model PG w) (AA 500 3000) (keyLt' oneType' (.ref o1) (.ref o2)) Q E ⟨h, g, d, tk, os⟩ from H h₀ (Mem.start h₀)
  intro h D
  rw [keyLt'_oneType, oneLt'_eq]
  refine go_fut24 (c := ⟨PG, w, h₀, g, d, os⟩) D ?_
  intro a0 a1 a2 a3 a4 a5 a6 a7 a8 a9 a10 a11 a12 a13 a14 a15 a16 a17 a18 a19 a20 a21 a22 a23
  clear D
  have hL : lamP w = lamP w := rfl
  conv at hL => rhs; whnf
  rw [hL] at hlam
  dsimp only at hlam
  have hP : partsK w 3 = partsK w 3 := rfl
  conv at hP => rhs; whnf
  unfold fnK at h2
  rw [hP] at h2
  dsimp only at h2
  k_with_none
  k_with "z0" => (refine' g_bind ?e ?_; (case e => exact rfl))
  k_with "z1" => (refine' g_croom ?e ?u ?_; (case e => exact rfl); (case u => exact Nat.le_of_ble_eq_true rfl))
  k_with "z2" => (refine' g_old ?e ?h ?w ?_; (case e => exact rfl); (case h => exact ho1); (case w => exact rfl))
  k_with "z3" => (refine' g_keep ?e ?_; (case e => exact rfl))
  k_with "z4" => (refine' g_old ?e ?h ?w ?_; (case e => exact rfl); (case h => exact hK); (case w => exact rfl))
  k_with "z5" => (refine' g_old ?e ?h ?w ?_; (case e => exact rfl); (case h => exact hN); (case w => exact rfl))
  k_with "z6" => (refine' g_pureB ?e ?_; (case e => exact rfl))
  k_with "z7" => (refine' g_iteTry ?e ?_; (case e => exact rfl))
  k_with "z8" => (refine' g_old ?e ?h ?w ?_; (case e => exact rfl); (case h => exact h2); (case w => exact rfl))
  k_with "z9" => (refine' g_call ?e ?c ?w ?u ?_; (case e => exact rfl); (case c => (conv => lhs; whnf) <;> exact rfl); (case w => exact Nat.le_of_ble_eq_true rfl); (case u => exact Nat.le_of_ble_eq_true rfl))
  k_with "z10" => ((refine g_skim ?_); (conv => enter [4]; whnf); (refine' g_pureB ?e ?_; (case e => exact rfl)))
  k_with "z11" => (refine' g_alloc ?e ?f ?_; (case e => exact rfl); (case f => exact rfl))
  k_with "z12" => (refine' g_fresh ?e ?_; (case e => exact rfl))
  k_with "z13" => (refine' g_load ?e 0 ?h ?_; (case e => exact rfl); (case h => exact rfl))
  k_with "z14" => (refine' g_up0 ?e ?o ?f ?_; (case e => exact rfl); (case o => (conv => lhs; whnf; arg 3; whnf; (try (arg 1; whnf; (try (arg 1; whnf; (try (arg 2; whnf; (try (arg 2; whnf; (try (arg 2; whnf; (try (arg 2; whnf; (try (arg 2; whnf; (try (arg 2; whnf; (try (arg 2; whnf; (try (arg 2; whnf; (try (arg 2; whnf; (try (arg 2; whnf; (try (arg 2; whnf; (try (arg 2; whnf; (try (arg 2; whnf; (try (arg 2; whnf; (try (arg 2; whnf; (try (arg 2; whnf; (try (arg 2; whnf; (try (arg 2; whnf))))))))))))))))))))))))))))))))))))))))) <;> exact rfl); (case f => exact rfl))
  k_with "z15" => (refine' g_enter ?e ?l ?o ?w ?d ?_; (case e => exact rfl); (case l => exact X _ _ rfl); (case o => rfl); (case w => exact rfl); (case d => exact Nat.le_of_ble_eq_true rfl))
  k_with "z16" => (refine' g_again ?e ?c ?q ?w ?u ?_; (case e => exact rfl); (case c => (conv => lhs; whnf) <;> exact rfl); (case q => rfl); (case w => exact Nat.le_of_ble_eq_true rfl); (case u => exact Nat.le_of_ble_eq_true rfl))
  k_with "z17" => (refine' g_onRaise ?e ?_; (case e => exact rfl))
  k_with "z18" => ((refine g_skim ?_); (conv => enter [4]; whnf); (refine' g_call ?e ?c ?w ?u ?_; (case e => exact rfl); (case c => (conv => lhs; whnf) <;> exact rfl); (case w => exact Nat.le_of_ble_eq_true rfl); (case u => exact Nat.le_of_ble_eq_true rfl)))
  k_with "z19" => (refine' g_builtin ?e ?b ?_; (case e => exact rfl); (case b => exact rfl))
  k_with "z20" => (refine' g_old ?e ?h ?w ?_; (case e => exact rfl); (case h => exact hm); (case w => exact rfl))
  k_with "z21" => (refine' g_chkLit ?e ?b ?_; (case e => exact rfl); (case b => (refine Eq.trans (b := "member_descriptor.__get__") ?_ rfl; decide +kernel)))
  k_with "z22" => (refine' g_again ?e ?c ?q ?w ?u ?_; (case e => exact rfl); (case c => (conv => lhs; whnf) <;> exact rfl); (case q => kernel_rfl); (case w => exact Nat.le_of_ble_eq_true rfl); (case u => exact Nat.le_of_ble_eq_true rfl))
  k_with "z23" => (refine' g_condF ?e ?b ?_; (case e => exact rfl); (case b => exact bnot_t (elem_self _ _ _)))
  k_with "z24" => (refine' g_done ?e ?_; (case e => exact rfl))
  k_with "z25" => (refine' g_old ?e ?h ?w ?_; (case e => exact rfl); (case h => exact ho2); (case w => exact rfl))
  k_with "z26" => (refine' g_old ?e ?h ?w ?_; (case e => exact rfl); (case h => exact hlam); (case w => exact rfl))
  k_with "z27" => (refine' g_old ?e ?h ?w ?_; (case e => exact rfl); (case h => exact hp1); (case w => exact rfl))
  k_with "z28" => (refine' g_chkLit ?e ?b ?_; (case e => exact rfl); (case b => (refine Eq.trans (b := "tuple.__getitem__") ?_ rfl; decide +kernel)))
  k_with "z29" => (refine' g_condF ?e ?b ?_; (case e => exact rfl); (case b => decide))
  k_with "z30" => (refine' g_condF ?e ?b ?_; (case e => exact rfl); (case b => exact zorF (zdF (by decide)) (zdF (by decide))))
  k_with "z31" => (conv => enter [4]; pattern XFast.xw9430666877037008786 _ _; tactic => (first | (refine Eq.trans (b := some 0) ?_ rfl; exact xi0) | (refine Eq.trans (b := some 1) ?_ rfl; exact xi1)))
  k_with "z32" => (refine' g_old ?e ?h ?w ?_; (case e => exact rfl); (case h => exact hp2); (case w => exact rfl))
  k_with "z33" => (refine' g_holding ?e ?_; (case e => exact rfl))
  k_with "z34" => (refine' g_holding ?e ?_; (case e => unfold PySem.compareOp; exact rfl))
  k_with "z35" => (refine' g_iteF ?e ?b ?_; (case e => exact rfl); (case b => decide))
  k_with "z36" => (refine' g_old ?e ?h ?w ?_; (case e => exact rfl); (case h => exact hp1); (case w => exact Bool.or_true _))
  k_with "z37" => (refine' g_chkLit ?e ?b ?_; (case e => exact rfl); (case b => (refine Eq.trans (b := "int.__sub__") ?_ rfl; decide +kernel)))
  k_with "z38" => (refine' g_chkLit ?e ?b ?_; (case e => exact rfl); (case b => (refine Eq.trans (b := "int.__lt__") ?_ rfl; decide +kernel)))
  k_with "z39" => (conv => enter [4]; unfold PySem.truthOfDropped)
  k_with "z40" => (conv => enter [4]; unfold PySem.truthy)
  (refine' g_iteT ?e ?b ?_; (case e => exact rfl); (case b => decide))
  k_extra "z0"
  k_extra "z1"
  k_extra "z2"
  k_extra "z0"
  k_extra "z3"
  k_extra "z4"
  k_extra "z4"
  k_extra "z5"
  k_extra "z0"
  k_extra "z0"
  k_extra "z6"
  k_extra "z0"
  k_extra "z6"
  k_extra "z7"
  k_extra "z8"
  k_extra "z6"
  k_extra "z9"
  k_extra "z8"
  (refine' g_old ?e ?h ?w ?_; (case e => exact rfl); (case h => exact hci); (case w => exact rfl))
  k_extra "z0"
  k_extra "z6"
  k_extra "z0"
  k_extra "z6"
  k_extra "z0"
  k_extra "z10"
  k_extra "z11"
  k_extra "z12"
  k_extra "z13"
  k_extra "z14"
  k_extra "z12"
  k_extra "z13"
  k_extra "z14"
  k_extra "z0"
  k_extra "z6"
  k_extra "z0"
  k_extra "z15"
  k_extra "z16"
  k_extra "z0"
  k_extra "z6"
  k_extra "z0"
  ((refine g_skim ?_); (conv => enter [4]; whnf); (refine' g_old ?e ?h ?w ?_; (case e => exact rfl); (case h => exact hcell); (case w => exact rfl)))
  k_extra "z17"
  k_extra "z0"
  k_extra "z0"
  ((refine g_skim ?_); (conv => enter [4]; whnf); (refine' g_load ?e 0 ?h ?_; (case e => exact rfl); (case h => exact rfl)))
  k_extra "z0"
  k_extra "z0"
  k_extra "z3"
  k_extra "z12"
  k_extra "z0"
  k_extra "z0"
  k_extra "z0"
  k_extra "z3"
  k_extra "z2"
  k_extra "z3"
  k_extra "z4"
  k_extra "z4"
  k_extra "z5"
  k_extra "z18"
  k_extra "z19"
  k_extra "z2"
  k_extra "z4"
  k_extra "z4"
  k_extra "z5"
  k_extra "z20"
  k_extra "z20"
  k_extra "z4"
  k_extra "z4"
  k_extra "z5"
  k_extra "z9"
  k_extra "z0"
  k_extra "z21"
  k_extra "z20"
  k_extra "z6"
  k_extra "z22"
  k_extra "z19"
  k_extra "z20"
  k_extra "z20"
  k_extra "z2"
  k_extra "z4"
  k_extra "z0"
  k_extra "z0"
  k_extra "z6"
  k_extra "z23"
  k_extra "z6"
  k_extra "z20"
  k_extra "z20"
  k_extra "z22"
  k_extra "z19"
  k_extra "z20"
  k_extra "z20"
  k_extra "z2"
  k_extra "z4"
  k_extra "z2"
  k_extra "z24"
  k_extra "z0"
  k_extra "z3"
  k_extra "z6"
  k_extra "z24"
  k_extra "z6"
  k_extra "z6"
  k_extra "z13"
  k_extra "z0"
  k_extra "z3"
  k_extra "z12"
  k_extra "z0"
  k_extra "z0"
  k_extra "z3"
  k_extra "z25"
  k_extra "z3"
  k_extra "z4"
  k_extra "z4"
  k_extra "z5"
  k_extra "z18"
  k_extra "z19"
  k_extra "z25"
  k_extra "z4"
  k_extra "z4"
  k_extra "z5"
  k_extra "z20"
  k_extra "z20"
  k_extra "z4"
  k_extra "z4"
  k_extra "z5"
  k_extra "z9"
  k_extra "z0"
  k_extra "z21"
  k_extra "z20"
  k_extra "z6"
  k_extra "z22"
  k_extra "z19"
  k_extra "z20"
  k_extra "z20"
  k_extra "z25"
  k_extra "z4"
  k_extra "z0"
  k_extra "z0"
  k_extra "z6"
  k_extra "z23"
  k_extra "z6"
  k_extra "z20"
  k_extra "z20"
  k_extra "z22"
  k_extra "z19"
  k_extra "z20"
  k_extra "z20"
  k_extra "z25"
  k_extra "z4"
  k_extra "z25"
  k_extra "z24"
  k_extra "z0"
  k_extra "z3"
  k_extra "z6"
  k_extra "z24"
  k_extra "z6"
  k_extra "z6"
  k_extra "z6"
  k_extra "z6"
  k_extra "z6"
  k_extra "z26"
  k_extra "z0"
  k_extra "z6"
  (refine' g_iteF ?e ?b ?_; (case e => exact rfl); (case b => exact of_decide_eq_false rfl))
  k_extra "z0"
  k_extra "z3"
  k_extra "z9"
  k_extra "z26"
  (refine' g_old ?e ?h ?w ?_; (case e => exact rfl); (case h => exact hcc); (case w => exact Bool.or_true _))
  k_extra "z0"
  k_extra "z6"
  k_extra "z0"
  k_extra "z6"
  k_extra "z0"
  k_extra "z10"
  k_extra "z11"
  k_extra "z12"
  k_extra "z13"
  k_extra "z14"
  k_extra "z12"
  k_extra "z13"
  k_extra "z14"
  k_extra "z0"
  k_extra "z6"
  k_extra "z0"
  k_extra "z15"
  k_extra "z16"
  k_extra "z13"
  k_extra "z12"
  k_extra "z0"
  k_extra "z17"
  k_extra "z0"
  k_extra "z0"
  k_extra "z0"
  k_extra "z3"
  k_extra "z6"
  k_extra "z27"
  k_extra "z27"
  k_extra "z0"
  k_extra "z0"
  k_extra "z3"
  k_extra "z3"
  k_extra "z27"
  k_extra "z9"
  k_extra "z0"
  k_extra "z28"
  k_extra "z27"
  k_extra "z6"
  k_extra "z22"
  k_extra "z19"
  k_extra "z27"
  k_extra "z0"
  k_extra "z6"
  k_extra "z0"
  k_extra "z6"
  k_extra "z29"
  k_extra "z0"
  k_extra "z6"
  k_extra "z29"
  k_extra "z0"
  k_extra "z6"
  k_extra "z30"
  k_extra "z31"
  k_extra "z24"
  k_extra "z0"
  k_extra "z3"
  k_extra "z6"
  k_extra "z6"
  k_extra "z6"
  k_extra "z6"
  k_extra "z13"
  k_extra "z12"
  k_extra "z0"
  k_extra "z0"
  k_extra "z3"
  k_extra "z6"
  k_extra "z32"
  (refine' g_old ?e ?h ?w ?_; (case e => exact rfl); (case h => exact hp2); (case w => exact Bool.or_true _))
  k_extra "z0"
  k_extra "z0"
  k_extra "z3"
  k_extra "z3"
  k_extra "z32"
  k_extra "z9"
  k_extra "z0"
  k_extra "z28"
  k_extra "z32"
  k_extra "z6"
  k_extra "z22"
  k_extra "z19"
  k_extra "z32"
  k_extra "z0"
  k_extra "z6"
  k_extra "z0"
  k_extra "z6"
  k_extra "z29"
  k_extra "z0"
  k_extra "z6"
  k_extra "z29"
  k_extra "z0"
  k_extra "z6"
  k_extra "z30"
  k_extra "z31"
  k_extra "z24"
  k_extra "z0"
  k_extra "z3"
  k_extra "z6"
  k_extra "z6"
  k_extra "z6"
  k_extra "z6"
  k_extra "z0"
  k_extra "z6"
  k_extra "z0"
  k_extra "z0"
  k_extra "z33"
  k_extra "z34"
  k_extra "z0"
  k_extra "z1"
  k_extra "z0"
  k_extra "z6"
  k_extra "z0"
  k_extra "z6"
  k_extra "z35"
  k_extra "z0"
  k_extra "z6"
  k_extra "z35"
  k_extra "z0"
  k_extra "z0"
  k_extra "z33"
  k_extra "z0"
  k_extra "z0"
  k_extra "z6"
  k_extra "z0"
  k_extra "z6"
  k_extra "z7"
  k_extra "z6"
  k_extra "z9"
  k_extra "z0"
  (refine' g_chkLit ?e ?b ?_; (case e => exact rfl); (case b => (refine Eq.trans (b := "int.__ne__") ?_ rfl; decide +kernel)))
  k_extra "z6"
  k_extra "z22"
  k_extra "z19"
  k_extra "z24"
  k_extra "z6"
  k_extra "z6"
  k_extra "z6"
  k_extra "z6"
  k_extra "z6"
  by_cases hxy : x = y
  ·
    (refine' g_iteF ?e ?b ?_; (case e => exact rfl); (case b => exact zneF hxy))
    k_extra "z13"
    k_extra "z12"
    k_extra "z0"
    k_extra "z0"
    k_extra "z0"
    k_extra "z3"
    k_extra "z6"
    k_extra "z27"
    k_extra "z36"
    k_extra "z0"
    k_extra "z0"
    k_extra "z3"
    k_extra "z3"
    k_extra "z27"
    k_extra "z9"
    k_extra "z0"
    k_extra "z28"
    k_extra "z27"
    k_extra "z6"
    k_extra "z22"
    k_extra "z19"
    k_extra "z27"
    k_extra "z0"
    k_extra "z6"
    k_extra "z0"
    k_extra "z6"
    k_extra "z29"
    k_extra "z0"
    k_extra "z6"
    k_extra "z29"
    k_extra "z0"
    k_extra "z6"
    k_extra "z30"
    k_extra "z31"
    k_extra "z24"
    k_extra "z0"
    k_extra "z3"
    k_extra "z6"
    k_extra "z6"
    k_extra "z6"
    k_extra "z6"
    k_extra "z13"
    k_extra "z12"
    k_extra "z0"
    k_extra "z0"
    k_extra "z3"
    k_extra "z6"
    k_extra "z32"
    k_extra "z32"
    k_extra "z0"
    k_extra "z0"
    k_extra "z3"
    k_extra "z3"
    k_extra "z32"
    k_extra "z9"
    k_extra "z0"
    k_extra "z28"
    k_extra "z32"
    k_extra "z6"
    k_extra "z22"
    k_extra "z19"
    k_extra "z32"
    k_extra "z0"
    k_extra "z6"
    k_extra "z0"
    k_extra "z6"
    k_extra "z29"
    k_extra "z0"
    k_extra "z6"
    k_extra "z29"
    k_extra "z0"
    k_extra "z6"
    k_extra "z30"
    k_extra "z31"
    k_extra "z24"
    k_extra "z0"
    k_extra "z3"
    k_extra "z6"
    k_extra "z6"
    k_extra "z6"
    k_extra "z6"
    k_extra "z0"
    k_extra "z6"
    k_extra "z0"
    k_extra "z33"
    k_extra "z34"
    k_extra "z0"
    k_extra "z1"
    k_extra "z0"
    k_extra "z6"
    k_extra "z0"
    k_extra "z6"
    k_extra "z35"
    k_extra "z0"
    k_extra "z6"
    k_extra "z35"
    k_extra "z0"
    k_extra "z0"
    k_extra "z33"
    k_extra "z0"
    k_extra "z0"
    k_extra "z10"
    k_extra "z0"
    k_extra "z6"
    k_extra "z7"
    k_extra "z6"
    k_extra "z9"
    k_extra "z0"
    (refine' g_chkLit ?e ?b ?_; (case e => exact rfl); (case b => (refine Eq.trans (b := "str.__gt__") ?_ rfl; decide +kernel)))
    k_extra "z6"
    k_extra "z22"
    k_extra "z19"
    k_extra "z24"
    k_extra "z6"
    k_extra "z6"
    k_extra "z6"
    k_extra "z6"
    k_extra "z13"
    k_extra "z12"
    k_extra "z0"
    k_extra "z0"
    k_extra "z0"
    k_extra "z3"
    k_extra "z6"
    k_extra "z27"
    k_extra "z36"
    k_extra "z0"
    k_extra "z0"
    k_extra "z3"
    k_extra "z3"
    k_extra "z27"
    k_extra "z9"
    k_extra "z0"
    k_extra "z28"
    k_extra "z27"
    k_extra "z6"
    k_extra "z22"
    k_extra "z19"
    k_extra "z27"
    k_extra "z0"
    k_extra "z6"
    k_extra "z0"
    k_extra "z6"
    k_extra "z29"
    k_extra "z0"
    k_extra "z6"
    k_extra "z29"
    k_extra "z0"
    k_extra "z6"
    k_extra "z30"
    k_extra "z31"
    k_extra "z24"
    k_extra "z0"
    k_extra "z3"
    k_extra "z6"
    k_extra "z6"
    k_extra "z6"
    k_extra "z6"
    k_extra "z13"
    k_extra "z12"
    k_extra "z0"
    k_extra "z0"
    k_extra "z3"
    k_extra "z6"
    k_extra "z32"
    k_extra "z32"
    k_extra "z0"
    k_extra "z0"
    k_extra "z3"
    k_extra "z3"
    k_extra "z32"
    k_extra "z9"
    k_extra "z0"
    k_extra "z28"
    k_extra "z32"
    k_extra "z6"
    k_extra "z22"
    k_extra "z19"
    k_extra "z32"
    k_extra "z0"
    k_extra "z6"
    k_extra "z0"
    k_extra "z6"
    k_extra "z29"
    k_extra "z0"
    k_extra "z6"
    k_extra "z29"
    k_extra "z0"
    k_extra "z6"
    k_extra "z30"
    k_extra "z31"
    k_extra "z24"
    k_extra "z0"
    k_extra "z3"
    k_extra "z6"
    k_extra "z6"
    k_extra "z6"
    k_extra "z6"
    k_extra "z0"
    k_extra "z6"
    k_extra "z0"
    k_extra "z33"
    k_extra "z34"
    k_extra "z0"
    k_extra "z1"
    k_extra "z0"
    k_extra "z6"
    k_extra "z0"
    k_extra "z6"
    k_extra "z35"
    k_extra "z0"
    k_extra "z6"
    k_extra "z35"
    k_extra "z0"
    k_extra "z0"
    k_extra "z33"
    k_extra "z0"
    k_extra "z0"
    k_extra "z10"
    k_extra "z0"
    k_extra "z6"
    k_extra "z7"
    k_extra "z6"
    k_extra "z9"
    k_extra "z0"
    (refine' g_chkLit ?e ?b ?_; (case e => exact rfl); (case b => (refine Eq.trans (b := "str.__lt__") ?_ rfl; decide +kernel)))
    k_extra "z6"
    k_extra "z22"
    k_extra "z19"
    k_extra "z24"
    k_extra "z6"
    k_extra "z6"
    k_extra "z6"
    k_extra "z6"
    k_extra "z18"
    k_extra "z0"
    k_extra "z37"
    k_extra "z6"
    k_extra "z22"
    k_extra "z19"
    k_extra "z12"
    k_extra "z24"
    k_extra "z6"
    k_extra "z24"
    k_extra "z6"
    k_extra "z6"
    k_extra "z12"
    k_extra "z0"
    k_extra "z6"
    k_extra "z0"
    k_extra "z6"
    k_extra "z0"
    k_extra "z33"
    k_extra "z34"
    k_extra "z0"
    k_extra "z1"
    k_extra "z0"
    k_extra "z6"
    k_extra "z0"
    k_extra "z6"
    k_extra "z35"
    k_extra "z0"
    k_extra "z6"
    k_extra "z35"
    k_extra "z0"
    k_extra "z0"
    k_extra "z33"
    k_extra "z0"
    k_extra "z0"
    k_extra "z6"
    k_extra "z0"
    k_extra "z6"
    k_extra "z7"
    k_extra "z6"
    k_extra "z9"
    k_extra "z0"
    k_extra "z38"
    k_extra "z6"
    k_extra "z22"
    k_extra "z19"
    k_extra "z24"
    k_extra "z6"
    k_extra "z6"
    k_extra "z6"
    k_extra "z6"
    k_extra "z6"
    k_extra "z6"
    k_extra "z24"
    k_extra "z6"
    k_extra "z39"
    k_extra "z40"
    refine g_end (e := by exact rfl) fun h D => ?_
    refine hq _ _ _ _ ?_ D
    refine Eq.trans ?_ (if_pos hxy).symm
    exact eqEnd (decD Iff.rfl) (decD Iff.rfl) hn
  ·
    (refine' g_iteT ?e ?b ?_; (case e => exact rfl); (case b => exact zneT hxy))
    k_extra "z13"
    k_extra "z12"
    k_extra "z0"
    k_extra "z0"
    k_extra "z3"
    k_extra "z6"
    k_extra "z27"
    k_extra "z36"
    k_extra "z0"
    k_extra "z0"
    k_extra "z3"
    k_extra "z3"
    k_extra "z27"
    k_extra "z9"
    k_extra "z0"
    k_extra "z28"
    k_extra "z27"
    k_extra "z6"
    k_extra "z22"
    k_extra "z19"
    k_extra "z27"
    k_extra "z0"
    k_extra "z6"
    k_extra "z0"
    k_extra "z6"
    k_extra "z29"
    k_extra "z0"
    k_extra "z6"
    k_extra "z29"
    k_extra "z0"
    k_extra "z6"
    k_extra "z30"
    k_extra "z31"
    k_extra "z24"
    k_extra "z0"
    k_extra "z3"
    k_extra "z6"
    k_extra "z6"
    k_extra "z6"
    k_extra "z6"
    k_extra "z13"
    k_extra "z12"
    k_extra "z0"
    k_extra "z0"
    k_extra "z3"
    k_extra "z6"
    k_extra "z32"
    k_extra "z32"
    k_extra "z0"
    k_extra "z0"
    k_extra "z3"
    k_extra "z3"
    k_extra "z32"
    k_extra "z9"
    k_extra "z0"
    k_extra "z28"
    k_extra "z32"
    k_extra "z6"
    k_extra "z22"
    k_extra "z19"
    k_extra "z32"
    k_extra "z0"
    k_extra "z6"
    k_extra "z0"
    k_extra "z6"
    k_extra "z29"
    k_extra "z0"
    k_extra "z6"
    k_extra "z29"
    k_extra "z0"
    k_extra "z6"
    k_extra "z30"
    k_extra "z31"
    k_extra "z24"
    k_extra "z0"
    k_extra "z3"
    k_extra "z6"
    k_extra "z6"
    k_extra "z6"
    k_extra "z6"
    k_extra "z9"
    k_extra "z0"
    k_extra "z37"
    k_extra "z6"
    k_extra "z22"
    k_extra "z19"
    k_extra "z12"
    k_extra "z24"
    k_extra "z6"
    k_extra "z24"
    k_extra "z6"
    k_extra "z6"
    k_extra "z12"
    k_extra "z0"
    k_extra "z6"
    k_extra "z0"
    k_extra "z6"
    k_extra "z0"
    k_extra "z33"
    k_extra "z34"
    k_extra "z0"
    k_extra "z1"
    k_extra "z0"
    k_extra "z6"
    k_extra "z0"
    k_extra "z6"
    k_extra "z35"
    k_extra "z0"
    k_extra "z6"
    k_extra "z35"
    k_extra "z0"
    k_extra "z0"
    k_extra "z33"
    k_extra "z0"
    k_extra "z0"
    k_extra "z6"
    k_extra "z0"
    k_extra "z6"
    k_extra "z7"
    k_extra "z6"
    k_extra "z9"
    k_extra "z0"
    k_extra "z38"
    k_extra "z6"
    k_extra "z22"
    k_extra "z19"
    k_extra "z24"
    k_extra "z6"
    k_extra "z6"
    k_extra "z6"
    k_extra "z6"
    k_extra "z6"
    k_extra "z6"
    k_extra "z24"
    k_extra "z6"
    k_extra "z39"
    k_extra "z40"
    refine g_end (e := by exact rfl) fun h D => ?_
    refine hq _ _ _ _ ?_ D
    refine Eq.trans ?_ (if_neg hxy).symm
    exact decD ⟨fun l => Int.lt_of_sub_neg l, fun l => Int.sub_neg_of_lt l⟩
end Mine
end
section
open PySem PySem.W PyProof.Rows PySem.Spec PySem.Calls PySem.W.X PySem.W.XRun
set_option Elab.async false
set_option maxRecDepth 100000
set_option maxHeartbeats 0
set_option linter.unusedVariables false
namespace Mine
/-- what a new key leaves -/
noncomputable def KmQ (s : Shared) (K p : Addr) (Q : Value → Shared → Prop) : Prop := ∀ (o d : Addr) (h' : Heap) (tk' : Nat) (fr : Addr × Obj), Mem s.heap h' [] [fr, (o, instK K d p), (d, { cls := .type "dict", data := .dict #[] })] → Q (.ref o) { s with heap := h', toks := tk' }
theorem key_mk (w : World) (s : Shared) (Q : Value → Shared → Prop) (E : Value → Shared → Prop) (K N bt md sl f1 f2 f3 f4 f5 f6 sa ci p : Addr) (ts : Nat → Tok) (t1 t2 t3 tsl : Tok) (x : Int) (n : Str) (u1 u2 : Tok) (z1 z2 z3 z4 z5 : Addr) (q1 q2 q3 q4 q5 : Tok)
   (X : (hd.heap_1 w.params).In s.heap) (sl4 : Array (Option Value))
   (hK : s.heap.get? K = some (clsK K N bt t1 t2)) (hN : s.heap.get? N = some (nsK w ts sl f1 f2 f3 f4 f5 f6 sa md)) (h1 : s.heap.get? f1 = some (fnK w 2 "__init__" [] ci .none)) (hm : s.heap.get? md = some (mdK K t3)) (hp : s.heap.get? p = some (tupO x n u1 u2))
   (hci : s.heap.get? ci = some (codeM "__init__" 56 z1 z2 z3 z4 z5 q1 q2 q3 q4 q5)) (h4 : s.heap.get? 4 = some ⟨.type "module", some builtinsNs, .plain, sl4⟩) (hbt : s.heap.get? bt = some { cls := .type "tuple", data := .seq #[.type "object"] }) (hsl : s.heap.get? sl = some { cls := .type "list", data := .seq #[.str (Str.ofString "obj") tsl] })
   (hC : s.heap.get? 2 = some { cls := .none, data := .dict #[] })
   (hq : KmQ s K p Q) :
    wpAny (model PG w) (AA 500 3000) (call (.ref K) [.ref p]) Q E s := by
  obtain ⟨h₀, g, d, tk, os⟩ := s
  dsimp only at X hK hN h1 hm hp hci h4 hbt hsl hC
  refine go_fut8 (c := ⟨PG, w, h₀, g, d, os⟩) (Mem.start h₀) ?_
  intro a0 a1 a2 a3 a4 a5 a6 a7
  have hP : partsK w 2 = partsK w 2 := rfl
  conv at hP => rhs; whnf
  unfold fnK at h1
  rw [hP] at h1
  dsimp only at h1
  k_with_none
  k_with "z0" => (refine' g_call ?e ?c ?w ?u ?_; (case e => exact rfl); (case c => (conv => lhs; whnf) <;> exact rfl); (case w => exact Nat.le_of_ble_eq_true rfl); (case u => exact Nat.le_of_ble_eq_true rfl))
  k_with "z1" => (refine' g_old ?e ?h ?w ?_; (case e => exact rfl); (case h => exact hK); (case w => exact rfl))
  k_with "z2" => (refine' g_again ?e ?c ?q ?w ?u ?_; (case e => exact rfl); (case c => (conv => lhs; whnf) <;> exact rfl); (case q => rfl); (case w => exact Nat.le_of_ble_eq_true rfl); (case u => exact Nat.le_of_ble_eq_true rfl))
  k_with "z3" => (refine' g_bind ?e ?_; (case e => exact rfl))
  k_with "z4" => (refine' g_pureB ?e ?_; (case e => exact rfl))
  k_with "z5" => (refine' g_again ?e ?c ?q ?w ?u ?_; (case e => exact rfl); (case c => (conv => lhs; whnf) <;> exact rfl); (case q => kernel_rfl); (case w => exact Nat.le_of_ble_eq_true rfl); (case u => exact Nat.le_of_ble_eq_true rfl))
  k_with "z6" => (refine' g_builtin ?e ?b ?_; (case e => exact rfl); (case b => exact rfl))
  k_with "z7" => ((refine g_skim ?_); (conv => enter [4]; whnf); (refine' g_old ?e ?h ?w ?_; (case e => exact rfl); (case h => exact hK); (case w => exact rfl)))
  k_with "z8" => ((refine g_skim ?_); (conv => enter [4]; whnf); (refine' g_pureB ?e ?_; (case e => exact rfl)))
  k_with "z9" => (refine' g_old ?e ?h ?w ?_; (case e => exact rfl); (case h => exact hN); (case w => exact rfl))
  k_with "z10" => (refine' g_alloc ?e ?f ?_; (case e => exact rfl); (case f => exact rfl))
  k_with "z11" => (refine' g_done ?e ?_; (case e => exact rfl))
  k_with "z12" => (refine' g_load ?e 0 ?h ?_; (case e => exact rfl); (case h => exact rfl))
  k_with "z13" => (refine' g_condF ?e ?b ?_; (case e => exact rfl); (case b => exact bnot_t (elem_self _ _ _)))
  k_with "z14" => (refine' g_keep ?e ?_; (case e => exact rfl))
  k_with "z15" => (refine' g_old ?e ?h ?w ?_; (case e => exact rfl); (case h => exact h1); (case w => exact rfl))
  k_with "z16" => (refine' g_fresh ?e ?_; (case e => exact rfl))
  k_with "z17" => (refine' g_up0 ?e ?o ?f ?_; (case e => exact rfl); (case o => (conv => lhs; whnf; arg 3; whnf; (try (arg 1; whnf; (try (arg 1; whnf; (try (arg 2; whnf; (try (arg 2; whnf; (try (arg 2; whnf; (try (arg 2; whnf; (try (arg 2; whnf; (try (arg 2; whnf; (try (arg 2; whnf; (try (arg 2; whnf; (try (arg 2; whnf; (try (arg 2; whnf; (try (arg 2; whnf; (try (arg 2; whnf; (try (arg 2; whnf; (try (arg 2; whnf; (try (arg 2; whnf; (try (arg 2; whnf; (try (arg 2; whnf; (try (arg 2; whnf))))))))))))))))))))))))))))))))))))))))) <;> exact rfl); (case f => exact rfl))
  k_with "z18" => (refine' g_load ?e 1 ?h ?_; (case e => exact rfl); (case h => exact rfl))
  k_with "z19" => (refine' g_old ?e ?h ?w ?_; (case e => exact rfl); (case h => exact hm); (case w => exact rfl))
  k_extra "z0"
  k_extra "z1"
  k_extra "z1"
  k_extra "z2"
  k_extra "z3"
  (refine' g_chkLit ?e ?b ?_; (case e => exact rfl); (case b => (refine Eq.trans (b := "type.__call__") ?_ rfl; decide +kernel)))
  k_extra "z1"
  k_extra "z4"
  k_extra "z5"
  k_extra "z6"
  k_extra "z1"
  k_extra "z1"
  k_extra "z1"
  k_extra "z0"
  (refine' g_old ?e ?h ?w ?_; (case e => exact rfl); (case h => exact hK); (case w => exact Bool.or_true _))
  k_extra "z1"
  k_extra "z1"
  k_extra "z1"
  k_extra "z7"
  k_extra "z7"
  k_extra "z1"
  k_extra "z3"
  k_extra "z8"
  k_extra "z5"
  k_extra "z6"
  k_extra "z1"
  k_extra "z1"
  k_extra "z1"
  k_extra "z7"
  k_extra "z7"
  k_extra "z1"
  k_extra "z1"
  k_extra "z1"
  k_extra "z1"
  k_extra "z1"
  k_extra "z9"
  k_extra "z1"
  k_extra "z10"
  k_extra "z10"
  k_extra "z1"
  k_extra "z11"
  k_extra "z12"
  k_extra "z1"
  k_extra "z3"
  k_extra "z4"
  k_extra "z13"
  k_extra "z12"
  k_extra "z3"
  k_extra "z14"
  k_extra "z1"
  k_extra "z1"
  k_extra "z9"
  k_extra "z15"
  k_extra "z14"
  k_extra "z0"
  k_extra "z15"
  (refine' g_old ?e ?h ?w ?_; (case e => exact rfl); (case h => exact hci); (case w => exact rfl))
  k_extra "z3"
  k_extra "z4"
  k_extra "z3"
  k_extra "z4"
  k_extra "z3"
  k_extra "z8"
  k_extra "z10"
  k_extra "z16"
  k_extra "z12"
  k_extra "z17"
  k_extra "z16"
  k_extra "z12"
  k_extra "z17"
  k_extra "z3"
  k_extra "z4"
  k_extra "z3"
  (refine' g_enter ?e ?l ?o ?w ?d ?_; (case e => exact rfl); (case l => exact X _ _ rfl); (case o => rfl); (case w => exact rfl); (case d => exact Nat.le_of_ble_eq_true rfl))
  k_extra "z2"
  k_extra "z12"
  ((refine g_skim ?_); (conv => enter [4]; whnf); (refine' g_load ?e 0 ?h ?_; (case e => exact rfl); (case h => exact rfl)))
  k_extra "z3"
  (refine' g_onRaise ?e ?_; (case e => exact rfl))
  k_extra "z3"
  k_extra "z3"
  k_extra "z3"
  k_extra "z14"
  k_extra "z4"
  k_extra "z16"
  k_extra "z3"
  k_extra "z14"
  k_extra "z18"
  k_extra "z1"
  k_extra "z1"
  k_extra "z9"
  ((refine g_skim ?_); (conv => enter [4]; whnf); (refine' g_call ?e ?c ?w ?u ?_; (case e => exact rfl); (case c => (conv => lhs; whnf) <;> exact rfl); (case w => exact Nat.le_of_ble_eq_true rfl); (case u => exact Nat.le_of_ble_eq_true rfl)))
  k_extra "z3"
  (refine' g_chkLit ?e ?b ?_; (case e => exact rfl); (case b => (refine Eq.trans (b := "object.__setattr__") ?_ rfl; decide +kernel)))
  k_extra "z18"
  k_extra "z1"
  k_extra "z4"
  k_extra "z5"
  k_extra "z6"
  k_extra "z18"
  k_extra "z1"
  k_extra "z18"
  k_extra "z1"
  k_extra "z1"
  k_extra "z9"
  k_extra "z19"
  k_extra "z19"
  k_extra "z3"
  k_extra "z14"
  k_extra "z0"
  k_extra "z3"
  (refine' g_chkLit ?e ?b ?_; (case e => exact rfl); (case b => (refine Eq.trans (b := "member_descriptor.__set__") ?_ rfl; decide +kernel)))
  k_extra "z19"
  k_extra "z4"
  k_extra "z5"
  k_extra "z6"
  k_extra "z19"
  k_extra "z19"
  k_extra "z18"
  k_extra "z1"
  k_extra "z3"
  k_extra "z3"
  k_extra "z4"
  k_extra "z13"
  k_extra "z4"
  k_extra "z19"
  k_extra "z19"
  k_extra "z5"
  k_extra "z6"
  k_extra "z19"
  k_extra "z19"
  k_extra "z18"
  k_extra "z1"
  k_extra "z3"
  k_extra "z4"
  k_extra "z3"
  (refine' g_sl1 ?e ?i ?l ?f ?_; (case e => exact rfl); (case i => exact rfl); (case l => (conv => lhs; whnf; (try (arg 2; whnf; (try (arg 2; whnf; (try (arg 2; whnf; (try (arg 2; whnf; (try (arg 2; whnf; (try (arg 2; whnf; (try (arg 2; whnf; (try (arg 2; whnf; (try (arg 2; whnf; (try (arg 2; whnf; (try (arg 2; whnf; (try (arg 2; whnf; (try (arg 2; whnf; (try (arg 2; whnf; (try (arg 2; whnf; (try (arg 2; whnf; (try (arg 2; whnf; (try (arg 2; whnf))))))))))))))))))))))))))))))))))))) <;> exact rfl); (case f => exact fun _ => rfl))
  k_extra "z11"
  k_extra "z14"
  k_extra "z4"
  k_extra "z11"
  k_extra "z3"
  k_extra "z14"
  k_extra "z4"
  k_extra "z4"
  k_extra "z4"
  k_extra "z4"
  k_extra "z4"
  k_extra "z11"
  k_extra "z4"
  k_extra "z11"
  k_extra "z3"
  k_extra "z4"
  exact g_end (e := by exact rfl) fun h D => hq _ _ _ _ _ D
end Mine
end
section
open PySem PySem.W PyProof.Rows PySem.Spec PySem.Calls PySem.W.X PySem.W.XRun
set_option maxRecDepth 100000
namespace Mine
/-- the code objects that the first call leaves -/
structure CodeD where
  c : Addr
  tb : Addr
  y8 : Addr
  c1 : Addr
  c2 : Addr
  c3 : Addr
  c4 : Addr
  c5 : Addr
  c6 : Addr
  y : Nat → Addr
  t : Nat → Tok
noncomputable def CodesP (P : Addr → Obj → Prop) (k : CodeD) : Prop :=
  P k.c (codeK k.tb k.y8 (k.t 0) (k.t 1) (k.t 2) (k.t 3) (k.t 4)) ∧ P k.tb (tabK k.c1 k.c2 k.c3 k.c4 k.c5 k.c6) ∧
  P k.c1 (codeM "__init__" 56 (k.y 11) (k.y 12) (k.y 13) (k.y 14) (k.y 15) (k.t 10) (k.t 11) (k.t 12) (k.t 13) (k.t 14)) ∧
  P k.c2 (codeM "__lt__" 59 (k.y 21) (k.y 22) (k.y 23) (k.y 24) (k.y 25) (k.t 20) (k.t 21) (k.t 22) (k.t 23) (k.t 24)) ∧
  P k.c3 (codeM "__gt__" 62 (k.y 31) (k.y 32) (k.y 33) (k.y 34) (k.y 35) (k.t 30) (k.t 31) (k.t 32) (k.t 33) (k.t 34)) ∧
  P k.c4 (codeM "__eq__" 65 (k.y 41) (k.y 42) (k.y 43) (k.y 44) (k.y 45) (k.t 40) (k.t 41) (k.t 42) (k.t 43) (k.t 44)) ∧
  P k.c5 (codeM "__le__" 68 (k.y 51) (k.y 52) (k.y 53) (k.y 54) (k.y 55) (k.t 50) (k.t 51) (k.t 52) (k.t 53) (k.t 54)) ∧
  P k.c6 (codeM "__ge__" 71 (k.y 61) (k.y 62) (k.y 63) (k.y 64) (k.y 65) (k.t 60) (k.t 61) (k.t 62) (k.t 63) (k.t 64))
/-- the class K -/
noncomputable def ClassP (w : World) (P : Addr → Obj → Prop) (ci cl2 K lam : Addr) : Prop :=
  ∃ (N bt md sl f1 f2 f3 f4 f5 f6 sa clo cell : Addr) (ts : Nat → Tok) (t1 t2 t3 tsl : Tok),
    P K (clsK K N bt t1 t2) ∧ P N (nsK w ts sl f1 f2 f3 f4 f5 f6 sa md) ∧ P f1 (fnK w 2 "__init__" [] ci .none) ∧ P f2 (fnK w 3 "__lt__" [(Str.ofString "mycmp", cell)] cl2 (.ref clo)) ∧ P md (mdK K t3) ∧
    P bt { cls := .type "tuple", data := .seq #[.type "object"] } ∧ P sl { cls := .type "list", data := .seq #[.str (Str.ofString "obj") tsl] } ∧ P clo { cls := .type "tuple", data := .seq #[.ref cell] } ∧ P cell (cellK lam)
/-- an entry as the run makes it -/
noncomputable def deX (w : World) (n : String) (t : Tok) (v : Value) : DictEntry := ⟨XFast.xw12210062019545310541 (w.params.strHash (Str.ofString n).cps), .str (Str.ofString n) t, v⟩
theorem deX_eq {w : World} {n : String} {t : Tok} {v : Value} (h : ¬ (Str.ofString n).cps.isEmpty = true) : deX w n t v = de w n t v := by
  unfold deX de PyData.keyHash
  rw [if_neg h, XFast.xe12210062019545310541]
noncomputable def nsX (w : World) (tk : Nat → Tok) (sl f1 f2 f3 f4 f5 f6 sa md : Addr) : Obj :=
  ⟨.type "dict", none, .dict #[de w "__module__" (tk 0) (.str (Str.ofString "cpy313.functools") (tk 1)), de w "__firstlineno__" (tk 2) (.int 52 (tk 3)), de w "__slots__" (tk 4) (.ref sl), de w "__init__" (tk 5) (.ref f1), de w "__lt__" (tk 6) (.ref f2),
    de w "__gt__" (tk 7) (.ref f3), de w "__eq__" (tk 8) (.ref f4), de w "__le__" (tk 9) (.ref f5), de w "__ge__" (tk 10) (.ref f6), de w "__hash__" (tk 11) .none, de w "__static_attributes__" (tk 12) (.ref sa), deX w "obj" (tk 13) (.ref md), deX w "__doc__" (tk 14) .none] 3, #[]⟩
theorem nsX_eq {w : World} {tk : Nat → Tok} {sl f1 f2 f3 f4 f5 f6 sa md : Addr} : nsX w tk sl f1 f2 f3 f4 f5 f6 sa md = nsK w tk sl f1 f2 f3 f4 f5 f6 sa md := by
  unfold nsX nsK
  rw [deX_eq (by decide +kernel), deX_eq (by decide +kernel)]
noncomputable def NewIn (h₀ h : Heap) (a : Addr) (o : Obj) : Prop := h.get? a = some o ∧ h₀.get? a = none
theorem memChg {h₀ h : Heap} {chg chg' news : List (Addr × Obj)} (D : Mem h₀ h chg news) (e : chg = chg') : Mem h₀ h chg' news := e ▸ D
theorem at_new {h₀ h : Heap} {chg news : List (Addr × Obj)} (D : Mem h₀ h chg news) {i : Nat} {a : Addr} {o o' : Obj} (e : news[i]? = some (a, o')) (k : o' = o) : NewIn h₀ h a o := by
  subst k
  have := D.nw _ (List.mem_of_getElem? e)
  exact this
/-- the namespace before the class is made -/
noncomputable def nsP (w : World) (ts : Nat → Tok) (sl f1 f2 f3 f4 f5 f6 sa : Addr) : Obj :=
  ⟨.type "dict", none, .dict #[de w "__module__" (ts 0) (.str (Str.ofString "cpy313.functools") (ts 1)), de w "__qualname__" (ts 2) (.str (Str.ofString "cmp_to_key.<locals>.K") (ts 3)), de w "__firstlineno__" (ts 4) (.int 52 (ts 5)), de w "__slots__" (ts 6) (.ref sl), de w "__init__" (ts 7) (.ref f1), de w "__lt__" (ts 8) (.ref f2),
    de w "__gt__" (ts 9) (.ref f3), de w "__eq__" (ts 10) (.ref f4), de w "__le__" (ts 11) (.ref f5), de w "__ge__" (ts 12) (.ref f6), de w "__hash__" (ts 13) .none, de w "__static_attributes__" (ts 14) (.ref sa)] 12, #[]⟩
noncomputable def fnO (d : FuncData) : Obj := ⟨.type "function", none, .func d, #[]⟩
end Mine
end
section
open PySem PySem.W PyProof.Rows PySem.Spec PySem.Calls PySem.W.X PyProof.V
set_option Elab.async false
set_option maxRecDepth 100000
set_option maxHeartbeats 4000000
set_option linter.unusedVariables false
namespace Mine
/-- class, codes and comparison -/
noncomputable def LamP (w : World) (P : Addr → Obj → Prop) (lam : Addr) : Prop :=
  ∃ (cc : Addr) (qual : Str) (pm ct : Value) (oc : Obj) (vs : Array Value) (t : Tok), P lam (kla_obj (Str.ofString "<lambda>") qual (lamP w).1 (lamP w).2.1 (lamP w).2.2 [] pm cc ct) ∧ P cc oc ∧ oc.data = .fields vs ∧ vs[1]? = some (.str qual t)
theorem CodesP.mono {P R : Addr → Obj → Prop} {k : CodeD} (h : CodesP P k) (f : ∀ a o, P a o → R a o) : CodesP R k := by
  obtain ⟨a, b, c, d, e, g, i, j⟩ := h
  exact ⟨f _ _ a, f _ _ b, f _ _ c, f _ _ d, f _ _ e, f _ _ g, f _ _ i, f _ _ j⟩
theorem ClassP.mono {w : World} {P R : Addr → Obj → Prop} {ci cl2 K lam : Addr} (h : ClassP w P ci cl2 K lam) (f : ∀ a o, P a o → R a o) : ClassP w R ci cl2 K lam := by
  obtain ⟨N, bt, md, sl, f1, f2, f3, f4, f5, f6, sa, clo, cell, ts, t1, t2, t3, tsl, a1, a2, a3, a4, a5, a6, a7, a8, a9⟩ := h
  exact ⟨N, bt, md, sl, f1, f2, f3, f4, f5, f6, sa, clo, cell, ts, t1, t2, t3, tsl, f _ _ a1, f _ _ a2, f _ _ a3, f _ _ a4, f _ _ a5, f _ _ a6, f _ _ a7, f _ _ a8, f _ _ a9⟩
theorem LamP.mono {w : World} {P R : Addr → Obj → Prop} {lam : Addr} (h : LamP w P lam) (f : ∀ a o, P a o → R a o) : LamP w R lam := by
  obtain ⟨cc, qual, pm, ct, oc, vs, t, a, b, r⟩ := h
  exact ⟨cc, qual, pm, ct, oc, vs, t, f _ _ a, f _ _ b, r⟩
noncomputable def AllK (w : World) (P : Addr → Obj → Prop) (k : CodeD) (K lam : Addr) : Prop := ClassP w P k.c1 k.c2 K lam ∧ CodesP P k ∧ LamP w P lam
theorem AllK.mono {w : World} {P R : Addr → Obj → Prop} {k : CodeD} {K lam : Addr} (h : AllK w P k K lam) (f : ∀ a o, P a o → R a o) : AllK w R k K lam := ⟨h.1.mono f, h.2.1.mono f, h.2.2.mono f⟩
/-- what the keys need of the ground -/
structure EnvK (w : World) (h : Heap) : Prop where
  X : (hd.heap_1 w.params).In h
  m4 : ∃ sl4, h.get? 4 = some ⟨.type "module", some builtinsNs, .plain, sl4⟩
  nb : ∃ mb, h.Ns builtinsNs mb ∧ ∀ x : Str, x ≠ "__name__" → mb x = bootBuiltins x
theorem EnvK.keeps {w : World} {h h' : Heap} (V : EnvK w h) (k : ∀ b o, h.get? b = some o → h'.get? b = some o) : EnvK w h' :=
  ⟨V.X.keeps k, let ⟨s, e⟩ := V.m4; ⟨s, k _ _ e⟩, let ⟨mb, a, b⟩ := V.nb; ⟨mb, a.keeps k, b⟩⟩
theorem main_builtins (w : World) : ∃ o es ep, (hd.heap_1 w.params).lookup 3 = some o ∧ o.data = .dict es ep ∧ nsFind es (Str.ofString "__builtins__") = some (.ref 4) := ⟨_, _, _, rfl, rfl, by kernel_rfl!⟩
theorem envK_of_top {w : World} {mean : ExcName → Option Value} {mg mb : Str → Option Value} {h : Heap} (X : (hd.heap_1 w.params).In h) (T : Top topProg lo mean mg mb h) : EnvK w h := by
  refine ⟨X, ?_, ⟨mb, T.b, T.builtins⟩⟩
  · obtain ⟨bm, ob, e1, e2, e3, e4, e5, e6⟩ := T.bmain
    obtain ⟨o, es, ep, q1, q2, q3⟩ := main_builtins w
    obtain ⟨o', es', ep', r1, r2, r3, r4⟩ := T.g
    have q1' := X _ _ q1
    have : some o = some o' := q1'.symm.trans r1
    cases this
    rw [q2] at r2
    cases r2
    have z := (r4 (Str.ofString "__builtins__")).symm.trans q3
    rw [show mg (Str.ofString "__builtins__") = some (.ref bm) from e1] at z
    cases z
    obtain ⟨c, d, dt, sl⟩ := ob
    simp only at e4 e5 e6
    subst e4; subst e5; subst e6
    exact ⟨sl, e3⟩
noncomputable abbrev PR := PySem.Challenge.rw_oc0133_01.row.prog
section
variable {w : World} {A : Around} {s : Shared} {k : CodeD} {K lam : Addr}
theorem mk_key {p : Addr} {x : Int} {n : Str} {u1 u2 : Tok} {Q E : Value → Shared → Prop} (hA : A.handled = none) (hdp : A.depth ≤ 500) (hun : A.units ≤ 3000) (V : EnvK w s.heap) (H : AllK w (fun a o => s.heap.get? a = some o) k K lam) (hp : s.heap.get? p = some (tupO x n u1 u2))
    (hq : ∀ (o d : Addr) (h' : Heap) (tk' : Nat), (∀ b o, s.heap.get? b = some o → h'.get? b = some o) → NewIn s.heap h' o (instK K d p) → NewIn s.heap h' d { cls := .type "dict", data := .dict #[] } → Q (.ref o) { s with heap := h', toks := tk' }) :
    wpAny (model PR w) A (call (.ref K) [.ref p]) Q E s := by
  obtain ⟨⟨N, bt, md, sl, f1, f2, f3, f4, f5, f6, sa, clo, cell, ts, t1, t2, t3, tsl, a1, a2, a3, a4, a5, a6, a7, a8, a9⟩, ⟨c1, c2, c3, c4, c5, c6, c7, c8⟩, HL⟩ := H
  obtain ⟨sl4, h4⟩ := V.m4
  refine wpAny_wide (A₂ := AA 500 3000) hA hdp rfl rfl hun ?_
  exact key_mk w s Q E K N bt md sl f1 f2 f3 f4 f5 f6 sa k.c1 p ts t1 t2 t3 tsl x n u1 u2 _ _ _ _ _ _ _ _ _ _ V.X sl4 a1 a2 a3 a5 hp c3 h4 a6 a7 (V.X 2 _ rfl)
    fun o d h' tk' fr D => hq o d h' tk' (fun b o e => D.keep b o e (by rw [show away [] b = true from rfl, Bool.or_true])) (D.nw _ (.tail _ (.head _))) (D.nw _ (.tail _ (.tail _ (.head _))))
theorem lt_key {p1 p2 o1 o2 d1 d2 : Addr} {x y : Int} {n1 n2 : Str} {v1 v2 u1 u2 : Tok} {Q : Bool → Shared → Prop} {E : Value → Shared → Prop} (hA : A.handled = none) (hdp : A.depth ≤ 500) (hun : A.units ≤ 3000) (V : EnvK w s.heap) (H : AllK w (fun a o => s.heap.get? a = some o) k K lam)
    (hp1 : s.heap.get? p1 = some (tupO x n1 u1 v1)) (hp2 : s.heap.get? p2 = some (tupO y n2 u2 v2)) (ho1 : s.heap.get? o1 = some (instK K d1 p1)) (ho2 : s.heap.get? o2 = some (instK K d2 p2))
    (hd1 : s.heap.get? d1 = some { cls := .type "dict", data := .dict #[] }) (hd2 : s.heap.get? d2 = some { cls := .type "dict", data := .dict #[] })
    (hn : decide (n2.cps.toList < n1.cps.toList) = !decide (n1.cps.toList < n2.cps.toList))
    (hq : ∀ (h' : Heap) (tk' : Nat), (∀ b o, s.heap.get? b = some o → h'.get? b = some o) → Q (pairLt x n1 y n2) { s with heap := h', toks := tk' }) :
    wpAny (model PR w) A (keyLt' oneType' (.ref o1) (.ref o2)) Q E s := by
  obtain ⟨⟨N, bt, md, sl, f1, f2, f3, f4, f5, f6, sa, clo, cell, ts, t1, t2, t3, tsl, a1, a2, a3, a4, a5, a6, a7, a8, a9⟩, ⟨c1, c2, c3, c4, c5, c6, c7, c8⟩, HL⟩ := H
  obtain ⟨cc, qual, pm, ct, oc, vs, t, b1, b2, b3, b4⟩ := HL
  obtain ⟨oC, oD, dt, osl⟩ := oc
  simp only at b3
  subst b3
  obtain ⟨l⟩ := vs
  obtain ⟨cD, l', rfl⟩ : ∃ a l', l = a :: .str qual t :: l' := by
    match l, b4 with
    | a :: b :: l', b4 => exact ⟨a, l', by have : b = .str qual t := by simpa using b4
                                           rw [this]⟩
  obtain ⟨sl4, h4⟩ := V.m4
  refine wpAny_wide (A₂ := AA 500 3000) hA hdp rfl rfl hun ?_
  exact key_lt w s Q E K N bt md sl f1 f2 f3 f4 f5 f6 sa k.c1 p1 p2 o1 o2 d1 d2 k.c2 clo cell lam cc ts t1 t2 t3 v1 v2 x y n1 n2 u1 u2 ct qual V.X sl4 _ _ _ _ _ _ _ _ _ _ pm oC cD oD l' t osl a1 a2 a4 a5 hp1 hp2 ho1 ho2 a9 c4 h4 b1 b2 hd1 hd2 a8 hn
    fun b h' tk' news e D => by
      subst e
      exact hq h' tk' (fun b o e => D.keep b o e (by rw [show away [] b = true from rfl, Bool.or_true]))
end
end Mine
end
section
open PySem PySem.W PyProof.Rows PySem.Spec PySem.Calls PySem.W.X PySem.W.XRun
set_option Elab.async false
set_option maxRecDepth 100000
set_option maxHeartbeats 0
set_option linter.unusedVariables false
namespace Mine
theorem ckB {α : Type} {A' : Around} {E' : Value → Shared → Prop} {w : World} {h₀ : Heap} {g : Array GenState} {d : Drawn} {os : OsState} (X : (hd.heap_1 w.params).In h₀) {chg r : List (Addr × Obj)} (hw : away chg 2 = true) {fut : List Addr} {tk tK tsl tsa : Tok} (ts : Nat → Tok) (N bt sl f1 f2 f3 f4 f5 f6 sa : Addr) {b0 b1 b2 b3 b4 b5 : Addr} {d1 d2 d3 d4 d5 d6 : FuncData} {k : Value → Sem α} {Q : α → Shared → Prop} {E : Value → Shared → Prop}
    (hNM : (N == sysModules) = false) (hN : (N, nsP w ts sl f1 f2 f3 f4 f5 f6 sa) ∈ r) (hbt : (bt, ({ cls := .type "tuple", data := .seq #[.type "object"] } : Obj)) ∈ r) (hsl : (sl, ({ cls := .type "list", data := .seq #[.str (Str.ofString "obj") tsl] } : Obj)) ∈ r) (hsa : (sa, ({ cls := .type "tuple", data := .seq #[.str (Str.ofString "obj") tsa] } : Obj)) ∈ r)
    (hf1 : (f1, fnO d1) ∈ r) (hf2 : (f2, fnO d2) ∈ r) (hf3 : (f3, fnO d3) ∈ r) (hf4 : (f4, fnO d4) ∈ r) (hf5 : (f5, fnO d5) ∈ r) (hf6 : (f6, fnO d6) ∈ r)
    (x : ∀ (t1 t2 t3 : Tok) (tt : Nat → Tok) (o4 o5 o0 : Obj) (tk' : Nat), Go ⟨PG, w, h₀, g, d, os⟩ A' ⟨chg, (b5, o5) :: (b4, o4) :: (b3, mdK b2 t3) :: (b2, clsK b2 b1 bt t1 t2) :: (b1, nsK w tt sl f1 f2 f3 f4 f5 f6 sa b3) :: (b0, o0) :: r, fut, tk'⟩ (k (.ref b2)) Q E') :
    Go ⟨PG, w, h₀, g, d, os⟩ (AA 504 3064) ⟨chg, r, b0 :: b1 :: b2 :: b3 :: b4 :: b5 :: fut, tk⟩ (call (.type "type") [.str (Str.ofString "K") tK, .ref bt, .ref N] []) (fun a s' => wpAny (model PG w) A' (k a) Q E' s') E := by
  k_with_none
  k_with "z0" => (refine' g_call ?e ?c ?w ?u ?_; (case e => exact rfl); (case c => (conv => lhs; whnf) <;> exact rfl); (case w => exact Nat.le_of_ble_eq_true rfl); (case u => exact Nat.le_of_ble_eq_true rfl))
  k_with "z1" => (refine' g_again ?e ?c ?q ?w ?u ?_; (case e => exact rfl); (case c => (conv => lhs; whnf) <;> exact rfl); (case q => kernel_rfl); (case w => exact Nat.le_of_ble_eq_true rfl); (case u => exact Nat.le_of_ble_eq_true rfl))
  k_with "z2" => (refine' g_builtin ?e ?b ?_; (case e => exact rfl); (case b => exact rfl))
  k_with "z3" => (refine' g_condT ?e ?b ?_; (case e => exact rfl); (case b => decide))
  k_with "z4" => (refine' g_condF ?e ?b ?_; (case e => exact rfl); (case b => exact rfl))
  k_with "z5" => (refine' g_condF ?e ?b ?_; (case e => exact rfl); (case b => decide))
  k_with "z6" => (refine' g_bind ?e ?_; (case e => exact rfl))
  k_with "z7" => (refine' g_pureB ?e ?_; (case e => exact rfl))
  k_with "z8" => (refine' g_condF ?e ?b ?_; (case e => exact rfl); (case b => decide +kernel))
  k_with "z9" => (conv => enter [4]; unfold PySem.W.XFast.xw10254737850608025244)
  k_with "z10" => (refine' g_loadR ?e 0 ?q hbt ?_; (case e => exact rfl); (case q => exact rfl))
  k_with "z11" => (refine' g_loadR ?e 0 ?q hN ?_; (case e => exact rfl); (case q => exact rfl))
  k_with "z12" => (refine' g_iteF ?e ?b ?_; (case e => exact rfl); (case b => decide))
  k_with "z13" => (refine' g_alloc ?e ?f ?_; (case e => exact rfl); (case f => exact rfl))
  k_with "z14" => (refine' g_loadR ?e 1 ?q hsl ?_; (case e => exact rfl); (case q => exact rfl))
  k_with "z15" => (refine' g_load ?e 0 ?h ?_; (case e => exact rfl); (case h => exact rfl))
  k_with "z16" => (refine' g_up0 ?e ?o ?f ?_; (case e => exact rfl); (case o => (conv => lhs; whnf; arg 3; whnf; (try (arg 1; whnf; (try (arg 1; whnf; (try (arg 2; whnf; (try (arg 2; whnf; (try (arg 2; whnf; (try (arg 2; whnf; (try (arg 2; whnf; (try (arg 2; whnf; (try (arg 2; whnf; (try (arg 2; whnf; (try (arg 2; whnf; (try (arg 2; whnf; (try (arg 2; whnf; (try (arg 2; whnf; (try (arg 2; whnf; (try (arg 2; whnf; (try (arg 2; whnf; (try (arg 2; whnf; (try (arg 2; whnf; (try (arg 2; whnf))))))))))))))))))))))))))))))))))))))))) <;> exact rfl); (case f => exact rfl))
  k_with "z17" => (refine' g_done ?e ?_; (case e => exact rfl))
  k_with "z18" => (refine' g_condF ?e ?b ?_; (case e => exact rfl); (case b => kernel_rfl!))
  k_with "z19" => (refine' g_sl0 ?e ?i ?l ?f ?_; (case e => exact rfl); (case i => exact rfl); (case l => (conv => lhs; whnf; (try (arg 2; whnf; (try (arg 2; whnf; (try (arg 2; whnf; (try (arg 2; whnf; (try (arg 2; whnf; (try (arg 2; whnf; (try (arg 2; whnf; (try (arg 2; whnf; (try (arg 2; whnf; (try (arg 2; whnf; (try (arg 2; whnf; (try (arg 2; whnf; (try (arg 2; whnf; (try (arg 2; whnf; (try (arg 2; whnf; (try (arg 2; whnf; (try (arg 2; whnf; (try (arg 2; whnf))))))))))))))))))))))))))))))))))))) <;> exact rfl); (case f => exact fun _ => rfl))
  k_with "z20" => (refine' g_load ?e 1 ?h ?_; (case e => exact rfl); (case h => exact rfl))
  k_with "z21" => (refine' g_up1 ?e ?o ?f ?_; (case e => exact rfl); (case o => (conv => lhs; whnf; arg 3; whnf; (try (arg 1; whnf; (try (arg 1; whnf; (try (arg 2; whnf; (try (arg 2; whnf; (try (arg 2; whnf; (try (arg 2; whnf; (try (arg 2; whnf; (try (arg 2; whnf; (try (arg 2; whnf; (try (arg 2; whnf; (try (arg 2; whnf; (try (arg 2; whnf; (try (arg 2; whnf; (try (arg 2; whnf; (try (arg 2; whnf; (try (arg 2; whnf; (try (arg 2; whnf; (try (arg 2; whnf; (try (arg 2; whnf; (try (arg 2; whnf))))))))))))))))))))))))))))))))))))))))) <;> exact rfl); (case f => exact rfl))
  k_with "z22" => (refine' g_fresh ?e ?_; (case e => exact rfl))
  k_with "z23" => (refine' g_load ?e 2 ?h ?_; (case e => exact rfl); (case h => exact rfl))
  k_with "z24" => (refine' g_up2 ?e ?o ?f ?_; (case e => exact rfl); (case o => (conv => lhs; whnf; arg 3; whnf; (try (arg 1; whnf; (try (arg 1; whnf; (try (arg 2; whnf; (try (arg 2; whnf; (try (arg 2; whnf; (try (arg 2; whnf; (try (arg 2; whnf; (try (arg 2; whnf; (try (arg 2; whnf; (try (arg 2; whnf; (try (arg 2; whnf; (try (arg 2; whnf; (try (arg 2; whnf; (try (arg 2; whnf; (try (arg 2; whnf; (try (arg 2; whnf; (try (arg 2; whnf; (try (arg 2; whnf; (try (arg 2; whnf; (try (arg 2; whnf))))))))))))))))))))))))))))))))))))))))) <;> exact rfl); (case f => exact rfl))
  k_with "z25" => (refine' g_keep ?e ?_; (case e => exact rfl))
  k_with "z26" => ((refine g_skim ?_); (conv => enter [4]; whnf); (refine' g_load ?e 3 ?h ?_; (case e => exact rfl); (case h => exact rfl)))
  k_with "z27" => (refine' g_load ?e 3 ?h ?_; (case e => exact rfl); (case h => exact rfl))
  k_extra "z0"
  k_extra "z1"
  k_extra "z2"
  (conv => enter [4]; unfold PySem.W.XFast.xw215932591028220647)
  k_extra "z3"
  k_extra "z4"
  k_extra "z4"
  k_extra "z5"
  k_extra "z6"
  k_extra "z7"
  k_extra "z6"
  k_extra "z7"
  k_extra "z5"
  k_extra "z6"
  k_extra "z6"
  k_extra "z7"
  k_extra "z6"
  k_extra "z6"
  k_extra "z6"
  k_extra "z7"
  k_extra "z8"
  k_extra "z7"
  k_extra "z7"
  k_extra "z7"
  k_extra "z0"
  k_extra "z6"
  (refine' g_chkLit ?e ?b ?_; (case e => exact rfl); (case b => (refine Eq.trans (b := "type.__new__") ?_ rfl; decide +kernel)))
  k_extra "z9"
  k_extra "z3"
  k_extra "z6"
  k_extra "z7"
  k_extra "z5"
  k_extra "z6"
  k_extra "z7"
  k_extra "z5"
  k_extra "z5"
  k_extra "z6"
  k_extra "z6"
  k_extra "z7"
  k_extra "z6"
  k_extra "z6"
  k_extra "z6"
  k_extra "z6"
  k_extra "z7"
  k_extra "z6"
  k_extra "z6"
  k_extra "z6"
  k_extra "z7"
  k_extra "z8"
  k_extra "z7"
  k_extra "z7"
  k_extra "z7"
  k_extra "z7"
  k_extra "z7"
  k_extra "z7"
  k_extra "z6"
  k_extra "z6"
  k_extra "z7"
  k_extra "z6"
  k_extra "z6"
  k_extra "z6"
  k_extra "z7"
  k_extra "z8"
  k_extra "z7"
  k_extra "z7"
  k_extra "z7"
  k_extra "z7"
  k_extra "z1"
  k_extra "z2"
  k_extra "z10"
  k_extra "z11"
  k_extra "z10"
  k_extra "z6"
  k_extra "z7"
  k_extra "z12"
  k_extra "z6"
  k_extra "z7"
  k_extra "z6"
  k_extra "z7"
  k_extra "z5"
  k_extra "z6"
  k_extra "z7"
  k_extra "z6"
  k_extra "z7"
  (refine' g_condF ?e ?b ?_; (case e => exact rfl); (case b => exact hNM))
  k_extra "z11"
  k_extra "z11"
  (refine' g_loadR ?e 0 ?q hsl ?_; (case e => exact rfl); (case q => exact rfl))
  k_extra "z0"
  k_extra "z2"
  k_extra "z13"
  k_extra "z1"
  k_extra "z2"
  k_extra "z14"
  k_extra "z6"
  k_extra "z7"
  (refine' g_condT ?e ?b ?_; (case e => exact rfl); (case b => exact bor_mid rfl))
  k_extra "z14"
  k_extra "z15"
  k_extra "z15"
  k_extra "z16"
  k_extra "z15"
  k_extra "z17"
  k_extra "z15"
  k_extra "z6"
  k_extra "z6"
  k_extra "z7"
  (refine' g_condT ?e ?b ?_; (case e => exact rfl); (case b => exact rfl))
  k_extra "z6"
  k_extra "z7"
  k_extra "z5"
  k_extra "z6"
  k_extra "z6"
  k_extra "z6"
  k_extra "z7"
  k_extra "z6"
  k_extra "z7"
  (conv => enter [4]; unfold PySem.Builtin.Slots.read.match_8)
  (refine' g_optS ?e ?o ?_; (case e => exact rfl); (case o => exact xid_obj))
  k_extra "z7"
  k_extra "z7"
  k_extra "z6"
  k_extra "z6"
  k_extra "z12"
  k_extra "z18"
  k_extra "z7"
  k_extra "z7"
  k_extra "z7"
  k_extra "z13"
  k_extra "z6"
  k_extra "z7"
  k_extra "z18"
  k_extra "z6"
  k_extra "z8"
  k_extra "z7"
  k_extra "z8"
  k_extra "z15"
  k_extra "z15"
  k_extra "z15"
  k_extra "z13"
  k_extra "z6"
  k_extra "z7"
  k_extra "z3"
  k_extra "z6"
  k_extra "z19"
  k_extra "z6"
  k_extra "z19"
  k_extra "z6"
  k_extra "z19"
  k_extra "z20"
  k_extra "z21"
  k_extra "z20"
  k_extra "z20"
  k_extra "z20"
  k_extra "z20"
  k_extra "z20"
  k_extra "z6"
  k_extra "z7"
  k_extra "z6"
  k_extra "z7"
  k_extra "z6"
  k_extra "z7"
  k_extra "z6"
  k_extra "z7"
  k_extra "z6"
  (conv => enter [4]; pattern List.filter _ _; tactic => (refine Eq.trans (filter_self _ _) rfl))
  k_extra "z7"
  k_extra "z15"
  k_extra "z16"
  k_extra "z15"
  k_extra "z6"
  k_extra "z7"
  k_extra "z6"
  k_extra "z6"
  k_extra "z7"
  k_extra "z6"
  k_extra "z6"
  k_extra "z6"
  k_extra "z7"
  k_extra "z8"
  k_extra "z7"
  k_extra "z7"
  k_extra "z7"
  k_extra "z6"
  k_extra "z19"
  k_extra "z15"
  k_extra "z15"
  k_extra "z15"
  k_extra "z20"
  k_extra "z6"
  k_extra "z6"
  k_extra "z7"
  k_extra "z8"
  k_extra "z7"
  k_extra "z20"
  k_extra "z22"
  k_extra "z13"
  k_extra "z23"
  k_extra "z22"
  k_extra "z23"
  k_extra "z24"
  k_extra "z20"
  k_extra "z21"
  k_extra "z20"
  k_extra "z6"
  k_extra "z7"
  k_extra "z6"
  k_extra "z7"
  k_extra "z6"
  (refine' g_sl1 ?e ?i ?l ?f ?_; (case e => exact rfl); (case i => exact rfl); (case l => (conv => lhs; whnf; (try (arg 2; whnf; (try (arg 2; whnf; (try (arg 2; whnf; (try (arg 2; whnf; (try (arg 2; whnf; (try (arg 2; whnf; (try (arg 2; whnf; (try (arg 2; whnf; (try (arg 2; whnf; (try (arg 2; whnf; (try (arg 2; whnf; (try (arg 2; whnf; (try (arg 2; whnf; (try (arg 2; whnf; (try (arg 2; whnf; (try (arg 2; whnf; (try (arg 2; whnf; (try (arg 2; whnf))))))))))))))))))))))))))))))))))))) <;> exact rfl); (case f => exact fun _ => rfl))
  k_extra "z23"
  k_extra "z22"
  k_extra "z23"
  k_extra "z24"
  k_extra "z23"
  k_extra "z23"
  k_extra "z23"
  k_extra "z6"
  (refine' g_tryCatch ?e ?_; (case e => exact rfl))
  k_extra "z25"
  k_extra "z6"
  k_extra "z7"
  k_extra "z6"
  ((refine g_skim ?_); (conv => enter [4]; whnf); (refine' g_pureB ?e ?_; (case e => exact rfl)))
  k_extra "z23"
  ((refine g_skim ?_); (conv => enter [4]; whnf); (refine' g_loadR ?e 4 ?q hsl ?_; (case e => exact rfl); (case q => exact rfl)))
  ((refine g_skim ?_); (conv => enter [4]; whnf); (refine' g_loadR ?e 4 ?q hf1 ?_; (case e => exact rfl); (case q => exact rfl)))
  ((refine g_skim ?_); (conv => enter [4]; whnf); (refine' g_loadR ?e 4 ?q hf2 ?_; (case e => exact rfl); (case q => exact rfl)))
  ((refine g_skim ?_); (conv => enter [4]; whnf); (refine' g_loadR ?e 4 ?q hf3 ?_; (case e => exact rfl); (case q => exact rfl)))
  ((refine g_skim ?_); (conv => enter [4]; whnf); (refine' g_loadR ?e 4 ?q hf4 ?_; (case e => exact rfl); (case q => exact rfl)))
  ((refine g_skim ?_); (conv => enter [4]; whnf); (refine' g_loadR ?e 4 ?q hf5 ?_; (case e => exact rfl); (case q => exact rfl)))
  ((refine g_skim ?_); (conv => enter [4]; whnf); (refine' g_loadR ?e 4 ?q hf6 ?_; (case e => exact rfl); (case q => exact rfl)))
  ((refine g_skim ?_); (conv => enter [4]; whnf); (refine' g_loadR ?e 4 ?q hsa ?_; (case e => exact rfl); (case q => exact rfl)))
  ((refine g_skim ?_); (conv => enter [4]; whnf); (refine' g_load ?e 0 ?h ?_; (case e => exact rfl); (case h => exact rfl)))
  ((refine g_skim ?_); (conv => enter [4]; whnf); (refine' g_call ?e ?c ?w ?u ?_; (case e => exact rfl); (case c => (conv => lhs; whnf) <;> exact rfl); (case w => exact Nat.le_of_ble_eq_true rfl); (case u => exact Nat.le_of_ble_eq_true rfl)))
  k_extra "z1"
  k_extra "z2"
  k_extra "z20"
  k_extra "z6"
  k_extra "z7"
  k_extra "z6"
  k_extra "z7"
  k_extra "z5"
  k_extra "z6"
  k_extra "z6"
  k_extra "z7"
  k_extra "z6"
  k_extra "z6"
  k_extra "z6"
  k_extra "z7"
  k_extra "z8"
  k_extra "z7"
  k_extra "z7"
  k_extra "z7"
  k_extra "z0"
  k_extra "z6"
  (refine' g_chkLit ?e ?b ?_; (case e => exact rfl); (case b => (refine Eq.trans (b := "super.__new__") ?_ rfl; decide +kernel)))
  k_extra "z9"
  k_extra "z3"
  k_extra "z6"
  k_extra "z7"
  k_extra "z5"
  k_extra "z6"
  k_extra "z7"
  k_extra "z5"
  k_extra "z5"
  k_extra "z6"
  k_extra "z6"
  k_extra "z7"
  k_extra "z6"
  k_extra "z6"
  k_extra "z6"
  k_extra "z6"
  k_extra "z7"
  k_extra "z6"
  k_extra "z6"
  k_extra "z6"
  k_extra "z7"
  k_extra "z8"
  k_extra "z7"
  k_extra "z7"
  k_extra "z7"
  k_extra "z7"
  k_extra "z7"
  k_extra "z7"
  k_extra "z6"
  k_extra "z6"
  k_extra "z7"
  k_extra "z6"
  k_extra "z6"
  k_extra "z6"
  k_extra "z7"
  k_extra "z8"
  k_extra "z7"
  k_extra "z7"
  k_extra "z7"
  k_extra "z7"
  k_extra "z1"
  k_extra "z2"
  k_extra "z13"
  k_extra "z17"
  k_extra "z15"
  k_extra "z15"
  k_extra "z6"
  k_extra "z25"
  k_extra "z0"
  k_extra "z6"
  (refine' g_chkLit ?e ?b ?_; (case e => exact rfl); (case b => (refine Eq.trans (b := "super.__init__") ?_ rfl; decide +kernel)))
  k_extra "z15"
  k_extra "z7"
  k_extra "z1"
  k_extra "z2"
  k_extra "z23"
  k_extra "z23"
  k_extra "z23"
  k_extra "z6"
  k_extra "z6"
  k_extra "z7"
  (refine' g_condT ?e ?b ?_; (case e => exact rfl); (case b => exact elem_self _ _ _))
  k_extra "z7"
  k_extra "z15"
  k_extra "z16"
  k_extra "z15"
  k_extra "z16"
  k_extra "z15"
  k_extra "z16"
  k_extra "z17"
  k_extra "z25"
  k_extra "z7"
  k_extra "z17"
  k_extra "z22"
  k_extra "z6"
  k_extra "z25"
  k_extra "z15"
  k_extra "z25"
  k_extra "z0"
  k_extra "z6"
  (refine' g_chkLit ?e ?b ?_; (case e => exact rfl); (case b => (refine Eq.trans (b := "super.__getattribute__") ?_ rfl; decide +kernel)))
  k_extra "z15"
  k_extra "z7"
  k_extra "z1"
  k_extra "z2"
  k_extra "z15"
  k_extra "z15"
  k_extra "z15"
  k_extra "z6"
  k_extra "z7"
  k_extra "z4"
  k_extra "z6"
  k_extra "z6"
  k_extra "z6"
  k_extra "z6"
  k_extra "z6"
  (refine' g_old ?e ?h ?w ?_; (case e => exact rfl); (case h => exact X _ _ rfl); (case w => exact or_r hw))
  k_extra "z7"
  k_extra "z7"
  k_extra "z7"
  k_extra "z7"
  k_extra "z7"
  k_extra "z23"
  k_extra "z6"
  k_extra "z7"
  k_extra "z6"
  (conv => enter [4]; pattern List.dropWhile _ _; tactic => (refine Eq.trans (drop_self _ _ _) rfl))
  k_extra "z0"
  k_extra "z6"
  (refine' g_chkLit ?e ?b ?_; (case e => exact rfl); (case b => (refine Eq.trans (b := "classmethod_descriptor.__get__") ?_ rfl; decide +kernel)))
  k_extra "z7"
  k_extra "z1"
  k_extra "z2"
  k_extra "z6"
  (refine' g_condF ?e ?b ?_; (case e => exact rfl); (case b => exact band_r (by kernel_rfl!)))
  k_extra "z7"
  k_extra "z23"
  k_extra "z23"
  k_extra "z13"
  k_extra "z17"
  k_extra "z7"
  k_extra "z17"
  k_extra "z7"
  k_extra "z0"
  k_extra "z15"
  k_extra "z26"
  k_extra "z26"
  k_extra "z27"
  k_extra "z27"
  k_extra "z1"
  k_extra "z2"
  k_extra "z17"
  k_extra "z7"
  k_extra "z17"
  k_extra "z27"
  k_extra "z27"
  k_extra "z6"
  k_extra "z25"
  k_extra "z0"
  k_extra "z6"
  (refine' g_chkLit ?e ?b ?_; (case e => exact rfl); (case b => (refine Eq.trans (b := "type.__init__") ?_ rfl; decide +kernel)))
  k_extra "z27"
  k_extra "z7"
  k_extra "z1"
  k_extra "z2"
  k_extra "z17"
  k_extra "z25"
  k_extra "z7"
  k_extra "z17"
  k_extra "z7"
  have y := x tK (ts 3) tk (fun n => ([ts 0, ts 1, ts 4, ts 5, ts 6, ts 7, ts 8, ts 9, ts 10, ts 11, ts 12, ts 13, ts 14, tk + 1, tk + 2] : List Tok).getD n 0) { cls := .type "super", data := .fields #[.ref b2, .ref b2, .ref b2] } { cls := .type "builtin_function_or_method", data := .fields #[.builtin "object.__init_subclass__", .ref b2] } { cls := .type "list", data := .seq #[.str (Str.ofString "obj") tsl] 1 } (tk + 4)
  rw [← nsX_eq] at y
  refine g_st ?_ y
  kernel_rfl!
end Mine
end
section
open PySem PySem.W PyProof.Rows PySem.Spec PySem.Calls PySem.W.X PySem.W.XRun
set_option Elab.async false
set_option maxRecDepth 100000
set_option maxHeartbeats 0
set_option linter.unusedVariables false
namespace Mine
theorem ctk1 (w : World) (h₀ h : Heap) (g : Array GenState) (d : Drawn) (tk : Nat) (os : OsState) (Q : Value → Shared → Prop) (E : Value → Shared → Prop) (lam : Addr) (X : (hd.heap_1 w.params).In h₀) (mb : Str → Option Value) (hNB : h₀.Ns builtinsNs mb) (hMB : ∀ x : Str, x ≠ "__name__" → mb x = bootBuiltins x) (sl4 : Array (Option Value)) (h4 : h₀.get? 4 = some ⟨.type "module", some builtinsNs, .plain, sl4⟩) (hT : h₀.TableAt 34 30 #[]) (oL : Obj) (hM : sysModules < lam) (hq : ∀ (K : Addr) (k : CodeD) (h' : Heap) (tk' : Nat) (news : List (Addr × Obj)), news.getLast? = some (lam, oL) → Mem h₀ h' [(30, tableObj #[rawInt 52, rawInt 4, .ref k.c])] news → CodesP (NewIn h₀ h') k → ClassP w (NewIn h₀ h') k.c1 k.c2 K lam → Q (.ref K) ⟨h', g, d, tk', os⟩) (D : Mem h₀ h [] [(lam, oL)]) :
    wpAny (model PG w) (AA 500 3000) (call (.ref 35) [.ref lam]) Q E ⟨h, g, d, tk, os⟩ := by
  refine go_fut72 (c := ⟨PG, w, h₀, g, d, os⟩) D ?_
  intro a0 a1 a2 a3 a4 a5 a6 a7 a8 a9 a10 a11 a12 a13 a14 a15 a16 a17 a18 a19 a20 a21 a22 a23 a24 a25 a26 a27 a28 a29 a30 a31 a32 a33 a34 a35 a36 a37 a38 a39 a40 a41 a42 a43 a44 a45 a46 a47 a48 a49 a50 a51 a52 a53 a54 a55 a56 a57 a58 a59 a60 a61 a62 a63 a64 a65 a66 a67 a68 a69 a70 a71
  k_with_none
  k_with "z0" => (refine' g_call ?e ?c ?w ?u ?_; (case e => exact rfl); (case c => (conv => lhs; whnf) <;> exact rfl); (case w => exact Nat.le_of_ble_eq_true rfl); (case u => exact Nat.le_of_ble_eq_true rfl))
  k_with "z1" => (refine' g_old ?e ?h ?w ?_; (case e => exact rfl); (case h => exact X _ _ rfl); (case w => exact rfl))
  k_with "z2" => (refine' g_alloc ?e ?f ?_; (case e => exact rfl); (case f => exact rfl))
  k_with "z3" => (refine' g_load ?e 0 ?h ?_; (case e => exact rfl); (case h => exact rfl))
  k_with "z4" => (refine' g_bind ?e ?_; (case e => exact rfl))
  k_with "z5" => (refine' g_pureB ?e ?_; (case e => exact rfl))
  k_with "z6" => (refine' g_enter ?e ?l ?o ?w ?d ?_; (case e => exact rfl); (case l => exact X _ _ rfl); (case o => rfl); (case w => exact rfl); (case d => exact Nat.le_of_ble_eq_true rfl))
  k_with "z7" => (refine' g_onRaise ?e ?_; (case e => exact rfl))
  k_with "z8" => (refine' g_holding ?e ?_; (case e => exact rfl))
  k_with "z9" => (refine' g_fresh ?e ?_; (case e => exact rfl))
  k_with "z10" => (refine' g_keep ?e ?_; (case e => exact rfl))
  k_with "z11" => (refine' g_again ?e ?c ?q ?w ?u ?_; (case e => exact rfl); (case c => (conv => lhs; whnf) <;> exact rfl); (case q => kernel_rfl); (case w => exact Nat.le_of_ble_eq_true rfl); (case u => exact Nat.le_of_ble_eq_true rfl))
  k_with "z12" => (refine' g_builtin ?e ?b ?_; (case e => exact rfl); (case b => exact rfl))
  k_with "z13" => (refine' g_done ?e ?_; (case e => exact rfl))
  k_with "z14" => (refine' g_old ?e ?h ?w ?_; (case e => exact rfl); (case h => exact hT.2); (case w => exact rfl))
  k_with "z15" => (rw [freeNames_eq]; dsimp only)
  k_with "z16" => (refine' g_old ?e ?h ?w ?_; (case e => exact rfl); (case h => exact h4); (case w => exact rfl))
  k_with "z17" => (refine' g_load ?e 4 ?h ?_; (case e => exact rfl); (case h => exact rfl))
  k_with "z18" => (refine' g_up4 ?e ?o ?f ?_; (case e => exact rfl); (case o => (conv => lhs; whnf; arg 3; whnf; (try (arg 1; whnf; (try (arg 1; whnf; (try (arg 2; whnf; (try (arg 2; whnf; (try (arg 2; whnf; (try (arg 2; whnf; (try (arg 2; whnf; (try (arg 2; whnf; (try (arg 2; whnf; (try (arg 2; whnf; (try (arg 2; whnf; (try (arg 2; whnf; (try (arg 2; whnf; (try (arg 2; whnf; (try (arg 2; whnf; (try (arg 2; whnf; (try (arg 2; whnf; (try (arg 2; whnf; (try (arg 2; whnf; (try (arg 2; whnf))))))))))))))))))))))))))))))))))))))))) <;> exact rfl); (case f => exact rfl))
  k_with "z19" => (refine' g_load ?e 5 ?h ?_; (case e => exact rfl); (case h => exact rfl))
  k_with "z20" => (refine' g_to (exec_def _ _ _ _ _ _ _) ?_)
  k_with "z21" => (refine' g_load ?e 9 ?h ?_; (case e => exact rfl); (case h => exact rfl))
  k_with "z22" => (refine' g_load ?e 12 ?h ?_; (case e => exact rfl); (case h => exact rfl))
  k_with "z23" => (refine' g_load ?e 17 ?h ?_; (case e => exact rfl); (case h => exact rfl))
  k_with "z24" => (refine' g_load ?e 20 ?h ?_; (case e => exact rfl); (case h => exact rfl))
  k_with "z25" => (refine' g_load ?e 25 ?h ?_; (case e => exact rfl); (case h => exact rfl))
  k_with "z26" => (refine' g_load ?e 28 ?h ?_; (case e => exact rfl); (case h => exact rfl))
  k_with "z27" => (refine' g_load ?e 33 ?h ?_; (case e => exact rfl); (case h => exact rfl))
  k_with "z28" => (refine' g_load ?e 36 ?h ?_; (case e => exact rfl); (case h => exact rfl))
  k_with "z29" => (refine' g_load ?e 41 ?h ?_; (case e => exact rfl); (case h => exact rfl))
  k_with "z30" => (refine' g_load ?e 44 ?h ?_; (case e => exact rfl); (case h => exact rfl))
  k_with "z31" => (refine' g_load ?e 49 ?h ?_; (case e => exact rfl); (case h => exact rfl))
  k_with "z32" => (refine' g_load ?e 52 ?h ?_; (case e => exact rfl); (case h => exact rfl))
  k_with "z33" => (refine' g_up52 ?e ?o ?f ?_; (case e => exact rfl); (case o => (conv => lhs; whnf; arg 3; whnf; (try (arg 1; whnf; (try (arg 1; whnf; (try (arg 2; whnf; (try (arg 2; whnf; (try (arg 2; whnf; (try (arg 2; whnf; (try (arg 2; whnf; (try (arg 2; whnf; (try (arg 2; whnf; (try (arg 2; whnf; (try (arg 2; whnf; (try (arg 2; whnf; (try (arg 2; whnf; (try (arg 2; whnf; (try (arg 2; whnf; (try (arg 2; whnf; (try (arg 2; whnf; (try (arg 2; whnf; (try (arg 2; whnf; (try (arg 2; whnf))))))))))))))))))))))))))))))))))))))))) <;> exact rfl); (case f => exact rfl))
  k_with "z34" => (refine' g_load ?e 53 ?h ?_; (case e => exact rfl); (case h => exact rfl))
  k_with "z35" => (refine' g_load ?e 63 ?h ?_; (case e => exact rfl); (case h => exact rfl))
  k_extra "z0"
  k_extra "z1"
  k_extra "z1"
  k_extra "z2"
  k_extra "z2"
  k_extra "z3"
  (refine' g_up0 ?e ?o ?f ?_; (case e => exact rfl); (case o => (conv => lhs; whnf; arg 3; whnf; (try (arg 1; whnf; (try (arg 1; whnf; (try (arg 2; whnf; (try (arg 2; whnf; (try (arg 2; whnf; (try (arg 2; whnf; (try (arg 2; whnf; (try (arg 2; whnf; (try (arg 2; whnf; (try (arg 2; whnf; (try (arg 2; whnf; (try (arg 2; whnf; (try (arg 2; whnf; (try (arg 2; whnf; (try (arg 2; whnf; (try (arg 2; whnf; (try (arg 2; whnf; (try (arg 2; whnf; (try (arg 2; whnf; (try (arg 2; whnf))))))))))))))))))))))))))))))))))))))))) <;> exact rfl); (case f => exact rfl))
  k_extra "z4"
  k_extra "z5"
  k_extra "z4"
  k_extra "z6"
  (refine' g_again ?e ?c ?q ?w ?u ?_; (case e => exact rfl); (case c => (conv => lhs; whnf) <;> exact rfl); (case q => rfl); (case w => exact Nat.le_of_ble_eq_true rfl); (case u => exact Nat.le_of_ble_eq_true rfl))
  k_extra "z4"
  k_extra "z5"
  k_extra "z4"
  k_extra "z7"
  k_extra "z4"
  k_extra "z4"
  k_extra "z5"
  k_extra "z4"
  k_extra "z5"
  k_extra "z4"
  k_extra "z4"
  (refine' g_nsB ?e hNB ?w ?m ?_; (case e => exact rfl); (case w => rfl); (case m => exact (hMB _ (by decide)).trans bb1))
  k_extra "z5"
  k_extra "z1"
  k_extra "z4"
  k_extra "z4"
  k_extra "z4"
  k_extra "z4"
  k_extra "z4"
  k_extra "z5"
  k_extra "z4"
  (refine' g_nsB ?e hNB ?w ?m ?_; (case e => exact rfl); (case w => rfl); (case m => exact (hMB _ (by decide)).trans bb2))
  k_extra "z5"
  k_extra "z5"
  k_extra "z5"
  k_extra "z4"
  k_extra "z5"
  k_extra "z8"
  (conv => enter [4]; unfold PySem.buildClass)
  k_extra "z4"
  k_extra "z2"
  k_extra "z5"
  k_extra "z9"
  k_extra "z9"
  k_extra "z10"
  k_extra "z0"
  k_extra "z4"
  (refine' g_chkLit ?e ?b ?_; (case e => exact rfl); (case b => (refine Eq.trans (b := "type.__getattribute__") ?_ rfl; decide +kernel)))
  k_extra "z5"
  k_extra "z11"
  k_extra "z12"
  k_extra "z0"
  k_extra "z4"
  (refine' g_chkLit ?e ?b ?_; (case e => exact rfl); (case b => (refine Eq.trans (b := "classmethod_descriptor.__get__") ?_ rfl; decide +kernel)))
  k_extra "z5"
  k_extra "z11"
  k_extra "z12"
  k_extra "z2"
  k_extra "z13"
  k_extra "z13"
  k_extra "z0"
  k_extra "z3"
  k_extra "z11"
  k_extra "z12"
  k_extra "z2"
  k_extra "z13"
  k_extra "z4"
  k_extra "z5"
  k_extra "z4"
  (refine' g_notMod ?e hM 0 ?h ?z ?_; (case e => exact rfl); (case h => exact rfl); (case z => exact rfl))
  k_extra "z3"
  k_extra "z1"
  k_extra "z10"
  k_extra "z14"
  k_extra "z9"
  k_extra "z9"
  k_extra "z9"
  k_extra "z4"
  k_extra "z4"
  k_extra "z4"
  k_extra "z5"
  k_extra "z4"
  k_extra "z15"
  k_extra "z9"
  k_extra "z5"
  k_extra "z2"
  k_extra "z2"
  k_extra "z9"
  k_extra "z9"
  k_extra "z2"
  k_extra "z5"
  k_extra "z14"
  (refine' g_grow hT #[rawInt 52, rawInt 4, .ref _] ?e ?w ?n ?_; (case e => exact rfl); (case w => exact rfl); (case n => rfl))
  (refine' g_chg ?e ?h ?_; (case e => exact rfl); (case h => exact rfl))
  k_extra "z5"
  k_extra "z1"
  k_extra "z16"
  k_extra "z1"
  k_extra "z2"
  k_extra "z4"
  k_extra "z5"
  k_extra "z4"
  k_extra "z5"
  k_extra "z8"
  k_extra "z4"
  k_extra "z6"
  k_extra "z17"
  k_extra "z17"
  k_extra "z1"
  k_extra "z17"
  k_extra "z9"
  k_extra "z17"
  k_extra "z18"
  k_extra "z9"
  k_extra "z17"
  k_extra "z9"
  k_extra "z17"
  k_extra "z18"
  k_extra "z9"
  k_extra "z17"
  k_extra "z9"
  k_extra "z17"
  k_extra "z18"
  k_extra "z0"
  k_extra "z9"
  k_extra "z17"
  k_extra "z9"
  k_extra "z17"
  k_extra "z18"
  k_extra "z9"
  k_extra "z2"
  k_extra "z19"
  k_extra "z9"
  k_extra "z19"
  (refine' g_up5 ?e ?o ?f ?_; (case e => exact rfl); (case o => (conv => lhs; whnf; arg 3; whnf; (try (arg 1; whnf; (try (arg 1; whnf; (try (arg 2; whnf; (try (arg 2; whnf; (try (arg 2; whnf; (try (arg 2; whnf; (try (arg 2; whnf; (try (arg 2; whnf; (try (arg 2; whnf; (try (arg 2; whnf; (try (arg 2; whnf; (try (arg 2; whnf; (try (arg 2; whnf; (try (arg 2; whnf; (try (arg 2; whnf; (try (arg 2; whnf; (try (arg 2; whnf; (try (arg 2; whnf; (try (arg 2; whnf; (try (arg 2; whnf))))))))))))))))))))))))))))))))))))))))) <;> exact rfl); (case f => exact rfl))
  k_extra "z4"
  k_extra "z7"
  k_extra "z4"
  k_extra "z5"
  k_extra "z4"
  k_extra "z20"
  (refine' g_load ?e 2 ?h ?_; (case e => exact rfl); (case h => exact rfl))
  (refine' g_load ?e 3 ?h ?_; (case e => exact rfl); (case h => exact rfl))
  k_extra "z9"
  k_extra "z9"
  k_extra "z9"
  k_extra "z4"
  k_extra "z4"
  k_extra "z4"
  k_extra "z4"
  k_extra "z5"
  k_extra "z4"
  k_extra "z15"
  k_extra "z5"
  k_extra "z2"
  k_extra "z2"
  k_extra "z9"
  k_extra "z9"
  k_extra "z2"
  k_extra "z2"
  k_extra "z2"
  k_extra "z9"
  k_extra "z9"
  k_extra "z2"
  k_extra "z5"
  k_extra "z21"
  (refine' g_up9 ?e ?o ?f ?_; (case e => exact rfl); (case o => (conv => lhs; whnf; arg 3; whnf; (try (arg 1; whnf; (try (arg 1; whnf; (try (arg 2; whnf; (try (arg 2; whnf; (try (arg 2; whnf; (try (arg 2; whnf; (try (arg 2; whnf; (try (arg 2; whnf; (try (arg 2; whnf; (try (arg 2; whnf; (try (arg 2; whnf; (try (arg 2; whnf; (try (arg 2; whnf; (try (arg 2; whnf; (try (arg 2; whnf; (try (arg 2; whnf; (try (arg 2; whnf; (try (arg 2; whnf; (try (arg 2; whnf; (try (arg 2; whnf))))))))))))))))))))))))))))))))))))))))) <;> exact rfl); (case f => exact rfl))
  k_extra "z21"
  k_extra "z5"
  k_extra "z1"
  k_extra "z16"
  k_extra "z1"
  k_extra "z2"
  k_extra "z5"
  k_extra "z22"
  k_extra "z9"
  k_extra "z22"
  (refine' g_up12 ?e ?o ?f ?_; (case e => exact rfl); (case o => (conv => lhs; whnf; arg 3; whnf; (try (arg 1; whnf; (try (arg 1; whnf; (try (arg 2; whnf; (try (arg 2; whnf; (try (arg 2; whnf; (try (arg 2; whnf; (try (arg 2; whnf; (try (arg 2; whnf; (try (arg 2; whnf; (try (arg 2; whnf; (try (arg 2; whnf; (try (arg 2; whnf; (try (arg 2; whnf; (try (arg 2; whnf; (try (arg 2; whnf; (try (arg 2; whnf; (try (arg 2; whnf; (try (arg 2; whnf; (try (arg 2; whnf; (try (arg 2; whnf))))))))))))))))))))))))))))))))))))))))) <;> exact rfl); (case f => exact rfl))
  k_extra "z5"
  k_extra "z4"
  k_extra "z20"
  k_extra "z2"
  (refine' g_load ?e 10 ?h ?_; (case e => exact rfl); (case h => exact rfl))
  (refine' g_load ?e 11 ?h ?_; (case e => exact rfl); (case h => exact rfl))
  k_extra "z9"
  k_extra "z9"
  k_extra "z9"
  k_extra "z4"
  k_extra "z4"
  k_extra "z4"
  k_extra "z4"
  k_extra "z5"
  k_extra "z4"
  k_extra "z15"
  k_extra "z9"
  k_extra "z5"
  k_extra "z2"
  k_extra "z2"
  k_extra "z9"
  k_extra "z9"
  k_extra "z2"
  k_extra "z2"
  k_extra "z2"
  k_extra "z9"
  k_extra "z9"
  k_extra "z2"
  k_extra "z5"
  k_extra "z23"
  (refine' g_up17 ?e ?o ?f ?_; (case e => exact rfl); (case o => (conv => lhs; whnf; arg 3; whnf; (try (arg 1; whnf; (try (arg 1; whnf; (try (arg 2; whnf; (try (arg 2; whnf; (try (arg 2; whnf; (try (arg 2; whnf; (try (arg 2; whnf; (try (arg 2; whnf; (try (arg 2; whnf; (try (arg 2; whnf; (try (arg 2; whnf; (try (arg 2; whnf; (try (arg 2; whnf; (try (arg 2; whnf; (try (arg 2; whnf; (try (arg 2; whnf; (try (arg 2; whnf; (try (arg 2; whnf; (try (arg 2; whnf; (try (arg 2; whnf))))))))))))))))))))))))))))))))))))))))) <;> exact rfl); (case f => exact rfl))
  k_extra "z23"
  k_extra "z5"
  k_extra "z1"
  k_extra "z16"
  k_extra "z1"
  k_extra "z2"
  k_extra "z5"
  k_extra "z24"
  k_extra "z9"
  k_extra "z24"
  (refine' g_up20 ?e ?o ?f ?_; (case e => exact rfl); (case o => (conv => lhs; whnf; arg 3; whnf; (try (arg 1; whnf; (try (arg 1; whnf; (try (arg 2; whnf; (try (arg 2; whnf; (try (arg 2; whnf; (try (arg 2; whnf; (try (arg 2; whnf; (try (arg 2; whnf; (try (arg 2; whnf; (try (arg 2; whnf; (try (arg 2; whnf; (try (arg 2; whnf; (try (arg 2; whnf; (try (arg 2; whnf; (try (arg 2; whnf; (try (arg 2; whnf; (try (arg 2; whnf; (try (arg 2; whnf; (try (arg 2; whnf; (try (arg 2; whnf))))))))))))))))))))))))))))))))))))))))) <;> exact rfl); (case f => exact rfl))
  k_extra "z5"
  k_extra "z4"
  k_extra "z20"
  k_extra "z2"
  (refine' g_load ?e 18 ?h ?_; (case e => exact rfl); (case h => exact rfl))
  (refine' g_load ?e 19 ?h ?_; (case e => exact rfl); (case h => exact rfl))
  k_extra "z9"
  k_extra "z9"
  k_extra "z9"
  k_extra "z4"
  k_extra "z4"
  k_extra "z4"
  k_extra "z4"
  k_extra "z5"
  k_extra "z4"
  k_extra "z15"
  k_extra "z9"
  k_extra "z5"
  k_extra "z2"
  k_extra "z2"
  k_extra "z9"
  k_extra "z9"
  k_extra "z2"
  k_extra "z2"
  k_extra "z2"
  k_extra "z9"
  k_extra "z9"
  k_extra "z2"
  k_extra "z5"
  k_extra "z25"
  (refine' g_up25 ?e ?o ?f ?_; (case e => exact rfl); (case o => (conv => lhs; whnf; arg 3; whnf; (try (arg 1; whnf; (try (arg 1; whnf; (try (arg 2; whnf; (try (arg 2; whnf; (try (arg 2; whnf; (try (arg 2; whnf; (try (arg 2; whnf; (try (arg 2; whnf; (try (arg 2; whnf; (try (arg 2; whnf; (try (arg 2; whnf; (try (arg 2; whnf; (try (arg 2; whnf; (try (arg 2; whnf; (try (arg 2; whnf; (try (arg 2; whnf; (try (arg 2; whnf; (try (arg 2; whnf; (try (arg 2; whnf; (try (arg 2; whnf))))))))))))))))))))))))))))))))))))))))) <;> exact rfl); (case f => exact rfl))
  k_extra "z25"
  k_extra "z5"
  k_extra "z1"
  k_extra "z16"
  k_extra "z1"
  k_extra "z2"
  k_extra "z5"
  k_extra "z26"
  k_extra "z9"
  k_extra "z26"
  (refine' g_up28 ?e ?o ?f ?_; (case e => exact rfl); (case o => (conv => lhs; whnf; arg 3; whnf; (try (arg 1; whnf; (try (arg 1; whnf; (try (arg 2; whnf; (try (arg 2; whnf; (try (arg 2; whnf; (try (arg 2; whnf; (try (arg 2; whnf; (try (arg 2; whnf; (try (arg 2; whnf; (try (arg 2; whnf; (try (arg 2; whnf; (try (arg 2; whnf; (try (arg 2; whnf; (try (arg 2; whnf; (try (arg 2; whnf; (try (arg 2; whnf; (try (arg 2; whnf; (try (arg 2; whnf; (try (arg 2; whnf; (try (arg 2; whnf))))))))))))))))))))))))))))))))))))))))) <;> exact rfl); (case f => exact rfl))
  k_extra "z5"
  k_extra "z4"
  k_extra "z20"
  k_extra "z2"
  (refine' g_load ?e 26 ?h ?_; (case e => exact rfl); (case h => exact rfl))
  (refine' g_load ?e 27 ?h ?_; (case e => exact rfl); (case h => exact rfl))
  k_extra "z9"
  k_extra "z9"
  k_extra "z9"
  k_extra "z4"
  k_extra "z4"
  k_extra "z4"
  k_extra "z4"
  k_extra "z5"
  k_extra "z4"
  k_extra "z15"
  k_extra "z9"
  k_extra "z5"
  k_extra "z2"
  k_extra "z2"
  k_extra "z9"
  k_extra "z9"
  k_extra "z2"
  k_extra "z2"
  k_extra "z2"
  k_extra "z9"
  k_extra "z9"
  k_extra "z2"
  k_extra "z5"
  k_extra "z27"
  (refine' g_up33 ?e ?o ?f ?_; (case e => exact rfl); (case o => (conv => lhs; whnf; arg 3; whnf; (try (arg 1; whnf; (try (arg 1; whnf; (try (arg 2; whnf; (try (arg 2; whnf; (try (arg 2; whnf; (try (arg 2; whnf; (try (arg 2; whnf; (try (arg 2; whnf; (try (arg 2; whnf; (try (arg 2; whnf; (try (arg 2; whnf; (try (arg 2; whnf; (try (arg 2; whnf; (try (arg 2; whnf; (try (arg 2; whnf; (try (arg 2; whnf; (try (arg 2; whnf; (try (arg 2; whnf; (try (arg 2; whnf; (try (arg 2; whnf))))))))))))))))))))))))))))))))))))))))) <;> exact rfl); (case f => exact rfl))
  k_extra "z27"
  k_extra "z5"
  k_extra "z1"
  k_extra "z16"
  k_extra "z1"
  k_extra "z2"
  k_extra "z5"
  k_extra "z28"
  k_extra "z9"
  k_extra "z28"
  (refine' g_up36 ?e ?o ?f ?_; (case e => exact rfl); (case o => (conv => lhs; whnf; arg 3; whnf; (try (arg 1; whnf; (try (arg 1; whnf; (try (arg 2; whnf; (try (arg 2; whnf; (try (arg 2; whnf; (try (arg 2; whnf; (try (arg 2; whnf; (try (arg 2; whnf; (try (arg 2; whnf; (try (arg 2; whnf; (try (arg 2; whnf; (try (arg 2; whnf; (try (arg 2; whnf; (try (arg 2; whnf; (try (arg 2; whnf; (try (arg 2; whnf; (try (arg 2; whnf; (try (arg 2; whnf; (try (arg 2; whnf; (try (arg 2; whnf))))))))))))))))))))))))))))))))))))))))) <;> exact rfl); (case f => exact rfl))
  k_extra "z5"
  k_extra "z4"
  k_extra "z20"
  k_extra "z2"
  (refine' g_load ?e 34 ?h ?_; (case e => exact rfl); (case h => exact rfl))
  (refine' g_load ?e 35 ?h ?_; (case e => exact rfl); (case h => exact rfl))
  k_extra "z9"
  k_extra "z9"
  k_extra "z9"
  k_extra "z4"
  k_extra "z4"
  k_extra "z4"
  k_extra "z4"
  k_extra "z5"
  k_extra "z4"
  k_extra "z15"
  k_extra "z9"
  k_extra "z5"
  k_extra "z2"
  k_extra "z2"
  k_extra "z9"
  k_extra "z9"
  k_extra "z2"
  k_extra "z2"
  k_extra "z2"
  k_extra "z9"
  k_extra "z9"
  k_extra "z2"
  k_extra "z5"
  k_extra "z29"
  (refine' g_up41 ?e ?o ?f ?_; (case e => exact rfl); (case o => (conv => lhs; whnf; arg 3; whnf; (try (arg 1; whnf; (try (arg 1; whnf; (try (arg 2; whnf; (try (arg 2; whnf; (try (arg 2; whnf; (try (arg 2; whnf; (try (arg 2; whnf; (try (arg 2; whnf; (try (arg 2; whnf; (try (arg 2; whnf; (try (arg 2; whnf; (try (arg 2; whnf; (try (arg 2; whnf; (try (arg 2; whnf; (try (arg 2; whnf; (try (arg 2; whnf; (try (arg 2; whnf; (try (arg 2; whnf; (try (arg 2; whnf; (try (arg 2; whnf))))))))))))))))))))))))))))))))))))))))) <;> exact rfl); (case f => exact rfl))
  k_extra "z29"
  k_extra "z5"
  k_extra "z1"
  k_extra "z16"
  k_extra "z1"
  k_extra "z2"
  k_extra "z5"
  k_extra "z30"
  k_extra "z9"
  k_extra "z30"
  (refine' g_up44 ?e ?o ?f ?_; (case e => exact rfl); (case o => (conv => lhs; whnf; arg 3; whnf; (try (arg 1; whnf; (try (arg 1; whnf; (try (arg 2; whnf; (try (arg 2; whnf; (try (arg 2; whnf; (try (arg 2; whnf; (try (arg 2; whnf; (try (arg 2; whnf; (try (arg 2; whnf; (try (arg 2; whnf; (try (arg 2; whnf; (try (arg 2; whnf; (try (arg 2; whnf; (try (arg 2; whnf; (try (arg 2; whnf; (try (arg 2; whnf; (try (arg 2; whnf; (try (arg 2; whnf; (try (arg 2; whnf; (try (arg 2; whnf))))))))))))))))))))))))))))))))))))))))) <;> exact rfl); (case f => exact rfl))
  k_extra "z5"
  k_extra "z4"
  k_extra "z20"
  k_extra "z2"
  (refine' g_load ?e 42 ?h ?_; (case e => exact rfl); (case h => exact rfl))
  (refine' g_load ?e 43 ?h ?_; (case e => exact rfl); (case h => exact rfl))
  k_extra "z9"
  k_extra "z9"
  k_extra "z9"
  k_extra "z4"
  k_extra "z4"
  k_extra "z4"
  k_extra "z4"
  k_extra "z5"
  k_extra "z4"
  k_extra "z15"
  k_extra "z9"
  k_extra "z5"
  k_extra "z2"
  k_extra "z2"
  k_extra "z9"
  k_extra "z9"
  k_extra "z2"
  k_extra "z2"
  k_extra "z2"
  k_extra "z9"
  k_extra "z9"
  k_extra "z2"
  k_extra "z5"
  k_extra "z31"
  (refine' g_up49 ?e ?o ?f ?_; (case e => exact rfl); (case o => (conv => lhs; whnf; arg 3; whnf; (try (arg 1; whnf; (try (arg 1; whnf; (try (arg 2; whnf; (try (arg 2; whnf; (try (arg 2; whnf; (try (arg 2; whnf; (try (arg 2; whnf; (try (arg 2; whnf; (try (arg 2; whnf; (try (arg 2; whnf; (try (arg 2; whnf; (try (arg 2; whnf; (try (arg 2; whnf; (try (arg 2; whnf; (try (arg 2; whnf; (try (arg 2; whnf; (try (arg 2; whnf; (try (arg 2; whnf; (try (arg 2; whnf; (try (arg 2; whnf))))))))))))))))))))))))))))))))))))))))) <;> exact rfl); (case f => exact rfl))
  k_extra "z31"
  k_extra "z5"
  k_extra "z1"
  k_extra "z16"
  k_extra "z1"
  k_extra "z2"
  k_extra "z5"
  k_extra "z32"
  k_extra "z9"
  k_extra "z32"
  k_extra "z33"
  k_extra "z5"
  k_extra "z32"
  k_extra "z9"
  k_extra "z32"
  k_extra "z33"
  k_extra "z5"
  k_extra "z13"
  k_extra "z9"
  k_extra "z2"
  k_extra "z34"
  k_extra "z9"
  k_extra "z34"
  (refine' g_up53 ?e ?o ?f ?_; (case e => exact rfl); (case o => (conv => lhs; whnf; arg 3; whnf; (try (arg 1; whnf; (try (arg 1; whnf; (try (arg 2; whnf; (try (arg 2; whnf; (try (arg 2; whnf; (try (arg 2; whnf; (try (arg 2; whnf; (try (arg 2; whnf; (try (arg 2; whnf; (try (arg 2; whnf; (try (arg 2; whnf; (try (arg 2; whnf; (try (arg 2; whnf; (try (arg 2; whnf; (try (arg 2; whnf; (try (arg 2; whnf; (try (arg 2; whnf; (try (arg 2; whnf; (try (arg 2; whnf; (try (arg 2; whnf))))))))))))))))))))))))))))))))))))))))) <;> exact rfl); (case f => exact rfl))
  k_extra "z4"
  k_extra "z5"
  (refine' g_iteF ?e ?b ?_; (case e => exact rfl); (case b => decide))
  k_extra "z4"
  (refine g_neMod hM 53 (by exact rfl) (by exact rfl) ?_)
  (intro hNM)
  (refine' g_to (m := call (.type "type") [.str (Str.ofString "K") tk, .ref a2, .ref a4] []) ?e ?_; (case e => kernel_rfl!))
  (refine' ckB X ?hw (fun n => tk + ([8,13,10,9,12,11,16,24,33,42,51,60,69,70,72] : List Nat).getD n 0) a4 a2 a9 a16 a24 a32 a40 a48 a56 a57 hNM ?hN ?hbt ?hsl ?hsa ?h1 ?h2 ?h3 ?h4 ?h5 ?h6 ?_; (case hw => exact rfl); (case hN => exact mem_nth 53 (by kernel_rfl!)); (case hbt => exact mem_nth 55 (by kernel_rfl!)); (case hsl => exact mem_nth 48 (by exact rfl)); (case hsa => exact mem_nth 0 (by exact rfl)); (case h1 => exact mem_nth 41 (by exact rfl)); (case h2 => exact mem_nth 33 (by exact rfl)); (case h3 => exact mem_nth 25 (by exact rfl)); (case h4 => exact mem_nth 17 (by exact rfl)); (case h5 => exact mem_nth 9 (by exact rfl)); (case h6 => exact mem_nth 1 (by exact rfl)))
  (intro t1 t2 t3 tt o4 o5 o0 tk')
  k_extra "z5"
  k_extra "z9"
  k_extra "z35"
  (refine' g_up63 ?e ?o ?f ?_; (case e => exact rfl); (case o => (conv => lhs; whnf; arg 3; whnf; (try (arg 1; whnf; (try (arg 1; whnf; (try (arg 2; whnf; (try (arg 2; whnf; (try (arg 2; whnf; (try (arg 2; whnf; (try (arg 2; whnf; (try (arg 2; whnf; (try (arg 2; whnf; (try (arg 2; whnf; (try (arg 2; whnf; (try (arg 2; whnf; (try (arg 2; whnf; (try (arg 2; whnf; (try (arg 2; whnf; (try (arg 2; whnf; (try (arg 2; whnf; (try (arg 2; whnf; (try (arg 2; whnf; (try (arg 2; whnf))))))))))))))))))))))))))))))))))))))))) <;> exact rfl); (case f => exact rfl))
  k_extra "z5"
  k_extra "z35"
  k_extra "z5"
  k_extra "z13"
  k_extra "z4"
  k_extra "z5"
  refine g_end (e := by exact rfl) fun h D => ?_
  have hk : CodesP (NewIn h₀ h) ⟨a7, a6, a5, a15, a23, a31, a39, a47, a55, (fun n => ([0, 0, 0, 0, 0, 0, 0, 0, 0, 0, 0, a10, a11, a12, a13, a14, 0, 0, 0, 0, 0, a18, a19, a20, a21, a22, 0, 0, 0, 0, 0, a26, a27, a28, a29, a30, 0, 0, 0, 0, 0, a34, a35, a36, a37, a38, 0, 0, 0, 0, 0, a42, a43, a44, a45, a46, 0, 0, 0, 0, 0, a50, a51, a52, a53, a54] : List Addr).getD n 0), (fun n => ([(tk + 6), (tk + 2), (tk + 3), (tk + 4), (tk + 7), 0, 0, 0, 0, 0, (tk + 22), (tk + 17), (tk + 18), (tk + 19), (tk + 23), 0, 0, 0, 0, 0, (tk + 31), (tk + 25), (tk + 26), (tk + 27), (tk + 32), 0, 0, 0, 0, 0, (tk + 40), (tk + 34), (tk + 35), (tk + 36), (tk + 41), 0, 0, 0, 0, 0, (tk + 49), (tk + 43), (tk + 44), (tk + 45), (tk + 50), 0, 0, 0, 0, 0, (tk + 58), (tk + 52), (tk + 53), (tk + 54), (tk + 59), 0, 0, 0, 0, 0, (tk + 67), (tk + 61), (tk + 62), (tk + 63), (tk + 68)] : List Tok).getD n 0)⟩ := ⟨at_new D (i := 56) rfl (by kernel_rfl!), at_new D (i := 57) rfl (by kernel_rfl!), at_new D (i := 48) rfl (by kernel_rfl!), at_new D (i := 40) rfl (by kernel_rfl!), at_new D (i := 32) rfl (by kernel_rfl!), at_new D (i := 24) rfl (by kernel_rfl!), at_new D (i := 16) rfl (by kernel_rfl!), at_new D (i := 8) rfl (by kernel_rfl!)⟩
  have hc : ClassP w (NewIn h₀ h) a15 a23 a60 lam := ⟨a59, a2, a61, a9, a16, a24, a32, a40, a48, a56, a57, a17, a1, tt, t1, t2, t3, (tk + 15), at_new D (i := 3) rfl (by kernel_rfl!), at_new D (i := 4) rfl rfl, at_new D (i := 47) rfl (by kernel_rfl!), at_new D (i := 39) rfl (by kernel_rfl!), at_new D (i := 2) rfl (by kernel_rfl!), at_new D (i := 61) rfl (by kernel_rfl!), at_new D (i := 54) rfl (by kernel_rfl!), at_new D (i := 46) rfl (by kernel_rfl!), at_new D (i := 62) rfl (by kernel_rfl!)⟩
  generalize hkk : (⟨a7, a6, a5, a15, a23, a31, a39, a47, a55, (fun n => ([0, 0, 0, 0, 0, 0, 0, 0, 0, 0, 0, a10, a11, a12, a13, a14, 0, 0, 0, 0, 0, a18, a19, a20, a21, a22, 0, 0, 0, 0, 0, a26, a27, a28, a29, a30, 0, 0, 0, 0, 0, a34, a35, a36, a37, a38, 0, 0, 0, 0, 0, a42, a43, a44, a45, a46, 0, 0, 0, 0, 0, a50, a51, a52, a53, a54] : List Addr).getD n 0), (fun n => ([(tk + 6), (tk + 2), (tk + 3), (tk + 4), (tk + 7), 0, 0, 0, 0, 0, (tk + 22), (tk + 17), (tk + 18), (tk + 19), (tk + 23), 0, 0, 0, 0, 0, (tk + 31), (tk + 25), (tk + 26), (tk + 27), (tk + 32), 0, 0, 0, 0, 0, (tk + 40), (tk + 34), (tk + 35), (tk + 36), (tk + 41), 0, 0, 0, 0, 0, (tk + 49), (tk + 43), (tk + 44), (tk + 45), (tk + 50), 0, 0, 0, 0, 0, (tk + 58), (tk + 52), (tk + 53), (tk + 54), (tk + 59), 0, 0, 0, 0, 0, (tk + 67), (tk + 61), (tk + 62), (tk + 63), (tk + 68)] : List Tok).getD n 0)⟩ : CodeD) = k at hk
  have hc' : ClassP w (NewIn h₀ h) k.c1 k.c2 a60 lam := by rw [← hkk]; exact hc
  have D' : Mem h₀ h [(30, tableObj #[rawInt 52, rawInt 4, .ref k.c])] _ := memChg D (by rw [← hkk]; kernel_rfl!)
  exact hq a60 k h _ _ rfl D' hk hc'
end Mine
end
section
open PySem PySem.W PyProof.Rows PySem.Spec PySem.Calls PySem.W.X PySem.W.XRun
set_option Elab.async false
set_option maxRecDepth 100000
set_option maxHeartbeats 0
set_option linter.unusedVariables false
namespace Mine
theorem ctk2 (w : World) (h₀ h : Heap) (g : Array GenState) (d : Drawn) (tk : Nat) (os : OsState) (Q : Value → Shared → Prop) (E : Value → Shared → Prop) (lam : Addr) (X : (hd.heap_1 w.params).In h₀) (mb : Str → Option Value) (hNB : h₀.Ns builtinsNs mb) (hMB : ∀ x : Str, x ≠ "__name__" → mb x = bootBuiltins x) (sl4 : Array (Option Value)) (h4 : h₀.get? 4 = some ⟨.type "module", some builtinsNs, .plain, sl4⟩) (c tb y8 : Addr) (q0 q1 q2 q3 q4 : Tok) (hC : h₀.get? c = some (codeK tb y8 q0 q1 q2 q3 q4)) (c1 c2 c3 c4 c5 c6 : Addr) (hTb : h₀.get? tb = some (tabK c1 c2 c3 c4 c5 c6)) (y11 y12 y13 y14 y15 : Addr) (q10 q11 q12 q13 q14 : Tok) (hc1 : h₀.get? c1 = some (codeM "__init__" 56 y11 y12 y13 y14 y15 q10 q11 q12 q13 q14)) (y21 y22 y23 y24 y25 : Addr) (q20 q21 q22 q23 q24 : Tok) (hc2 : h₀.get? c2 = some (codeM "__lt__" 59 y21 y22 y23 y24 y25 q20 q21 q22 q23 q24)) (y31 y32 y33 y34 y35 : Addr) (q30 q31 q32 q33 q34 : Tok) (hc3 : h₀.get? c3 = some (codeM "__gt__" 62 y31 y32 y33 y34 y35 q30 q31 q32 q33 q34)) (y41 y42 y43 y44 y45 : Addr) (q40 q41 q42 q43 q44 : Tok) (hc4 : h₀.get? c4 = some (codeM "__eq__" 65 y41 y42 y43 y44 y45 q40 q41 q42 q43 q44)) (y51 y52 y53 y54 y55 : Addr) (q50 q51 q52 q53 q54 : Tok) (hc5 : h₀.get? c5 = some (codeM "__le__" 68 y51 y52 y53 y54 y55 q50 q51 q52 q53 q54)) (y61 y62 y63 y64 y65 : Addr) (q60 q61 q62 q63 q64 : Tok) (hc6 : h₀.get? c6 = some (codeM "__ge__" 71 y61 y62 y63 y64 y65 q60 q61 q62 q63 q64)) (hT : h₀.TableAt 34 30 #[rawInt 52, rawInt 4, .ref c]) (oL : Obj) (hM : sysModules < lam) (hq : ∀ (K : Addr) (h' : Heap) (tk' : Nat) (news : List (Addr × Obj)), news.getLast? = some (lam, oL) → Mem h₀ h' [] news → ClassP w (NewIn h₀ h') c1 c2 K lam → Q (.ref K) ⟨h', g, d, tk', os⟩) (D : Mem h₀ h [] [(lam, oL)]) :
    wpAny (model PG w) (AA 500 3000) (call (.ref 35) [.ref lam]) Q E ⟨h, g, d, tk, os⟩ := by
  refine go_fut72 (c := ⟨PG, w, h₀, g, d, os⟩) D ?_
  intro a0 a1 a2 a3 a4 a5 a6 a7 a8 a9 a10 a11 a12 a13 a14 a15 a16 a17 a18 a19 a20 a21 a22 a23 a24 a25 a26 a27 a28 a29 a30 a31 a32 a33 a34 a35 a36 a37 a38 a39 a40 a41 a42 a43 a44 a45 a46 a47 a48 a49 a50 a51 a52 a53 a54 a55 a56 a57 a58 a59 a60 a61 a62 a63 a64 a65 a66 a67 a68 a69 a70 a71
  k_with_none
  k_with "z0" => (refine' g_call ?e ?c ?w ?u ?_; (case e => exact rfl); (case c => (conv => lhs; whnf) <;> exact rfl); (case w => exact Nat.le_of_ble_eq_true rfl); (case u => exact Nat.le_of_ble_eq_true rfl))
  k_with "z1" => (refine' g_old ?e ?h ?w ?_; (case e => exact rfl); (case h => exact X _ _ rfl); (case w => exact rfl))
  k_with "z2" => (refine' g_alloc ?e ?f ?_; (case e => exact rfl); (case f => exact rfl))
  k_with "z3" => (refine' g_load ?e 0 ?h ?_; (case e => exact rfl); (case h => exact rfl))
  k_with "z4" => (refine' g_bind ?e ?_; (case e => exact rfl))
  k_with "z5" => (refine' g_pureB ?e ?_; (case e => exact rfl))
  k_with "z6" => (refine' g_enter ?e ?l ?o ?w ?d ?_; (case e => exact rfl); (case l => exact X _ _ rfl); (case o => rfl); (case w => exact rfl); (case d => exact Nat.le_of_ble_eq_true rfl))
  k_with "z7" => (refine' g_onRaise ?e ?_; (case e => exact rfl))
  k_with "z8" => (refine' g_holding ?e ?_; (case e => exact rfl))
  k_with "z9" => ((refine g_skim ?_); (conv => enter [4]; whnf); (refine' g_fresh ?e ?_; (case e => exact rfl)))
  k_with "z10" => (refine' g_fresh ?e ?_; (case e => exact rfl))
  k_with "z11" => (refine' g_keep ?e ?_; (case e => exact rfl))
  k_with "z12" => ((refine g_skim ?_); (conv => enter [4]; whnf); (refine' g_call ?e ?c ?w ?u ?_; (case e => exact rfl); (case c => (conv => lhs; whnf) <;> exact rfl); (case w => exact Nat.le_of_ble_eq_true rfl); (case u => exact Nat.le_of_ble_eq_true rfl)))
  k_with "z13" => (refine' g_again ?e ?c ?q ?w ?u ?_; (case e => exact rfl); (case c => (conv => lhs; whnf) <;> exact rfl); (case q => kernel_rfl); (case w => exact Nat.le_of_ble_eq_true rfl); (case u => exact Nat.le_of_ble_eq_true rfl))
  k_with "z14" => (refine' g_builtin ?e ?b ?_; (case e => exact rfl); (case b => exact rfl))
  k_with "z15" => (refine' g_done ?e ?_; (case e => exact rfl))
  k_with "z16" => (refine' g_old ?e ?h ?w ?_; (case e => exact rfl); (case h => exact h4); (case w => exact rfl))
  k_with "z17" => (refine' g_load ?e 1 ?h ?_; (case e => exact rfl); (case h => exact rfl))
  k_with "z18" => (refine' g_up1 ?e ?o ?f ?_; (case e => exact rfl); (case o => (conv => lhs; whnf; arg 3; whnf; (try (arg 1; whnf; (try (arg 1; whnf; (try (arg 2; whnf; (try (arg 2; whnf; (try (arg 2; whnf; (try (arg 2; whnf; (try (arg 2; whnf; (try (arg 2; whnf; (try (arg 2; whnf; (try (arg 2; whnf; (try (arg 2; whnf; (try (arg 2; whnf; (try (arg 2; whnf; (try (arg 2; whnf; (try (arg 2; whnf; (try (arg 2; whnf; (try (arg 2; whnf; (try (arg 2; whnf; (try (arg 2; whnf; (try (arg 2; whnf))))))))))))))))))))))))))))))))))))))))) <;> exact rfl); (case f => exact rfl))
  k_with "z19" => (refine' g_to (exec_def _ _ _ _ _ _ _) ?_)
  k_with "z20" => (refine' g_old ?e ?h ?w ?_; (case e => exact rfl); (case h => exact hTb); (case w => exact rfl))
  k_with "z21" => (refine' g_load ?e 3 ?h ?_; (case e => exact rfl); (case h => exact rfl))
  k_with "z22" => ((refine g_skim ?_); (conv => enter [4]; whnf); (refine' g_alloc ?e ?f ?_; (case e => exact rfl); (case f => exact rfl)))
  k_with "z23" => (refine' g_old ?e ?h ?w ?_; (case e => exact rfl); (case h => exact hC); (case w => exact rfl))
  k_with "z24" => (refine' g_load ?e 5 ?h ?_; (case e => exact rfl); (case h => exact rfl))
  k_with "z25" => (refine' g_load ?e 7 ?h ?_; (case e => exact rfl); (case h => exact rfl))
  k_with "z26" => (refine' g_load ?e 9 ?h ?_; (case e => exact rfl); (case h => exact rfl))
  k_with "z27" => (refine' g_load ?e 11 ?h ?_; (case e => exact rfl); (case h => exact rfl))
  k_with "z28" => (refine' g_load ?e 13 ?h ?_; (case e => exact rfl); (case h => exact rfl))
  k_with "z29" => (refine' g_up13 ?e ?o ?f ?_; (case e => exact rfl); (case o => (conv => lhs; whnf; arg 3; whnf; (try (arg 1; whnf; (try (arg 1; whnf; (try (arg 2; whnf; (try (arg 2; whnf; (try (arg 2; whnf; (try (arg 2; whnf; (try (arg 2; whnf; (try (arg 2; whnf; (try (arg 2; whnf; (try (arg 2; whnf; (try (arg 2; whnf; (try (arg 2; whnf; (try (arg 2; whnf; (try (arg 2; whnf; (try (arg 2; whnf; (try (arg 2; whnf; (try (arg 2; whnf; (try (arg 2; whnf; (try (arg 2; whnf; (try (arg 2; whnf))))))))))))))))))))))))))))))))))))))))) <;> exact rfl); (case f => exact rfl))
  k_with "z30" => (refine' g_load ?e 14 ?h ?_; (case e => exact rfl); (case h => exact rfl))
  k_with "z31" => (refine' g_load ?e 24 ?h ?_; (case e => exact rfl); (case h => exact rfl))
  k_extra "z0"
  k_extra "z1"
  k_extra "z1"
  k_extra "z2"
  k_extra "z2"
  k_extra "z3"
  (refine' g_up0 ?e ?o ?f ?_; (case e => exact rfl); (case o => (conv => lhs; whnf; arg 3; whnf; (try (arg 1; whnf; (try (arg 1; whnf; (try (arg 2; whnf; (try (arg 2; whnf; (try (arg 2; whnf; (try (arg 2; whnf; (try (arg 2; whnf; (try (arg 2; whnf; (try (arg 2; whnf; (try (arg 2; whnf; (try (arg 2; whnf; (try (arg 2; whnf; (try (arg 2; whnf; (try (arg 2; whnf; (try (arg 2; whnf; (try (arg 2; whnf; (try (arg 2; whnf; (try (arg 2; whnf; (try (arg 2; whnf; (try (arg 2; whnf))))))))))))))))))))))))))))))))))))))))) <;> exact rfl); (case f => exact rfl))
  k_extra "z4"
  k_extra "z5"
  k_extra "z4"
  k_extra "z6"
  (refine' g_again ?e ?c ?q ?w ?u ?_; (case e => exact rfl); (case c => (conv => lhs; whnf) <;> exact rfl); (case q => rfl); (case w => exact Nat.le_of_ble_eq_true rfl); (case u => exact Nat.le_of_ble_eq_true rfl))
  k_extra "z4"
  k_extra "z5"
  k_extra "z4"
  k_extra "z7"
  k_extra "z4"
  k_extra "z4"
  k_extra "z5"
  k_extra "z4"
  k_extra "z5"
  k_extra "z4"
  k_extra "z4"
  (refine' g_nsB ?e hNB ?w ?m ?_; (case e => exact rfl); (case w => rfl); (case m => exact (hMB _ (by decide)).trans bb1))
  k_extra "z5"
  k_extra "z1"
  k_extra "z4"
  k_extra "z4"
  k_extra "z4"
  k_extra "z4"
  k_extra "z4"
  k_extra "z5"
  k_extra "z4"
  (refine' g_nsB ?e hNB ?w ?m ?_; (case e => exact rfl); (case w => rfl); (case m => exact (hMB _ (by decide)).trans bb2))
  k_extra "z5"
  k_extra "z5"
  k_extra "z5"
  k_extra "z4"
  k_extra "z5"
  k_extra "z8"
  (conv => enter [4]; unfold PySem.buildClass)
  k_extra "z4"
  k_extra "z2"
  k_extra "z5"
  k_extra "z9"
  k_extra "z10"
  k_extra "z11"
  k_extra "z12"
  k_extra "z4"
  (refine' g_chkLit ?e ?b ?_; (case e => exact rfl); (case b => (refine Eq.trans (b := "type.__getattribute__") ?_ rfl; decide +kernel)))
  ((refine g_skim ?_); (conv => enter [4]; whnf); (refine' g_pureB ?e ?_; (case e => exact rfl)))
  k_extra "z13"
  k_extra "z14"
  k_extra "z12"
  k_extra "z4"
  (refine' g_chkLit ?e ?b ?_; (case e => exact rfl); (case b => (refine Eq.trans (b := "classmethod_descriptor.__get__") ?_ rfl; decide +kernel)))
  k_extra "z5"
  k_extra "z13"
  k_extra "z14"
  k_extra "z2"
  k_extra "z15"
  k_extra "z15"
  k_extra "z0"
  k_extra "z3"
  ((refine g_skim ?_); (conv => enter [4]; whnf); (refine' g_again ?e ?c ?q ?w ?u ?_; (case e => exact rfl); (case c => (conv => lhs; whnf) <;> exact rfl); (case q => kernel_rfl); (case w => exact Nat.le_of_ble_eq_true rfl); (case u => exact Nat.le_of_ble_eq_true rfl)))
  k_extra "z14"
  k_extra "z2"
  k_extra "z15"
  k_extra "z4"
  k_extra "z5"
  k_extra "z4"
  (refine' g_notMod ?e hM 0 ?h ?z ?_; (case e => exact rfl); (case h => exact rfl); (case z => exact rfl))
  k_extra "z3"
  k_extra "z1"
  k_extra "z11"
  (refine' g_old ?e ?h ?w ?_; (case e => exact rfl); (case h => exact hT.2); (case w => exact rfl))
  k_extra "z1"
  k_extra "z16"
  k_extra "z1"
  k_extra "z2"
  k_extra "z4"
  k_extra "z5"
  k_extra "z4"
  k_extra "z5"
  k_extra "z8"
  k_extra "z4"
  k_extra "z6"
  k_extra "z17"
  k_extra "z17"
  k_extra "z1"
  k_extra "z17"
  k_extra "z10"
  k_extra "z17"
  k_extra "z18"
  k_extra "z10"
  k_extra "z17"
  k_extra "z10"
  k_extra "z17"
  k_extra "z18"
  k_extra "z10"
  k_extra "z17"
  k_extra "z10"
  k_extra "z17"
  k_extra "z18"
  k_extra "z0"
  k_extra "z9"
  k_extra "z4"
  k_extra "z7"
  k_extra "z4"
  ((refine g_skim ?_); (conv => enter [4]; whnf); (refine' g_load ?e 1 ?h ?_; (case e => exact rfl); (case h => exact rfl)))
  k_extra "z10"
  k_extra "z17"
  k_extra "z18"
  k_extra "z5"
  k_extra "z10"
  k_extra "z2"
  k_extra "z4"
  ((refine g_skim ?_); (conv => enter [4]; whnf); (refine' g_load ?e 2 ?h ?_; (case e => exact rfl); (case h => exact rfl)))
  k_extra "z10"
  (refine' g_load ?e 2 ?h ?_; (case e => exact rfl); (case h => exact rfl))
  (refine' g_up2 ?e ?o ?f ?_; (case e => exact rfl); (case o => (conv => lhs; whnf; arg 3; whnf; (try (arg 1; whnf; (try (arg 1; whnf; (try (arg 2; whnf; (try (arg 2; whnf; (try (arg 2; whnf; (try (arg 2; whnf; (try (arg 2; whnf; (try (arg 2; whnf; (try (arg 2; whnf; (try (arg 2; whnf; (try (arg 2; whnf; (try (arg 2; whnf; (try (arg 2; whnf; (try (arg 2; whnf; (try (arg 2; whnf; (try (arg 2; whnf; (try (arg 2; whnf; (try (arg 2; whnf; (try (arg 2; whnf; (try (arg 2; whnf))))))))))))))))))))))))))))))))))))))))) <;> exact rfl); (case f => exact rfl))
  k_extra "z5"
  k_extra "z4"
  k_extra "z19"
  ((refine g_skim ?_); (conv => enter [4]; whnf); (refine' g_old ?e ?h ?w ?_; (case e => exact rfl); (case h => exact hC); (case w => exact rfl)))
  k_extra "z20"
  k_extra "z1"
  k_extra "z16"
  k_extra "z1"
  k_extra "z2"
  k_extra "z21"
  k_extra "z10"
  k_extra "z21"
  (refine' g_up3 ?e ?o ?f ?_; (case e => exact rfl); (case o => (conv => lhs; whnf; arg 3; whnf; (try (arg 1; whnf; (try (arg 1; whnf; (try (arg 2; whnf; (try (arg 2; whnf; (try (arg 2; whnf; (try (arg 2; whnf; (try (arg 2; whnf; (try (arg 2; whnf; (try (arg 2; whnf; (try (arg 2; whnf; (try (arg 2; whnf; (try (arg 2; whnf; (try (arg 2; whnf; (try (arg 2; whnf; (try (arg 2; whnf; (try (arg 2; whnf; (try (arg 2; whnf; (try (arg 2; whnf; (try (arg 2; whnf; (try (arg 2; whnf))))))))))))))))))))))))))))))))))))))))) <;> exact rfl); (case f => exact rfl))
  k_extra "z5"
  k_extra "z4"
  k_extra "z19"
  k_extra "z4"
  k_extra "z5"
  k_extra "z4"
  k_extra "z22"
  k_extra "z23"
  k_extra "z20"
  k_extra "z1"
  k_extra "z16"
  k_extra "z1"
  k_extra "z2"
  k_extra "z5"
  k_extra "z24"
  k_extra "z10"
  k_extra "z24"
  (refine' g_up5 ?e ?o ?f ?_; (case e => exact rfl); (case o => (conv => lhs; whnf; arg 3; whnf; (try (arg 1; whnf; (try (arg 1; whnf; (try (arg 2; whnf; (try (arg 2; whnf; (try (arg 2; whnf; (try (arg 2; whnf; (try (arg 2; whnf; (try (arg 2; whnf; (try (arg 2; whnf; (try (arg 2; whnf; (try (arg 2; whnf; (try (arg 2; whnf; (try (arg 2; whnf; (try (arg 2; whnf; (try (arg 2; whnf; (try (arg 2; whnf; (try (arg 2; whnf; (try (arg 2; whnf; (try (arg 2; whnf; (try (arg 2; whnf))))))))))))))))))))))))))))))))))))))))) <;> exact rfl); (case f => exact rfl))
  k_extra "z5"
  k_extra "z4"
  k_extra "z19"
  k_extra "z22"
  k_extra "z23"
  k_extra "z20"
  k_extra "z1"
  k_extra "z16"
  k_extra "z1"
  k_extra "z2"
  k_extra "z25"
  k_extra "z10"
  k_extra "z25"
  (refine' g_up7 ?e ?o ?f ?_; (case e => exact rfl); (case o => (conv => lhs; whnf; arg 3; whnf; (try (arg 1; whnf; (try (arg 1; whnf; (try (arg 2; whnf; (try (arg 2; whnf; (try (arg 2; whnf; (try (arg 2; whnf; (try (arg 2; whnf; (try (arg 2; whnf; (try (arg 2; whnf; (try (arg 2; whnf; (try (arg 2; whnf; (try (arg 2; whnf; (try (arg 2; whnf; (try (arg 2; whnf; (try (arg 2; whnf; (try (arg 2; whnf; (try (arg 2; whnf; (try (arg 2; whnf; (try (arg 2; whnf; (try (arg 2; whnf))))))))))))))))))))))))))))))))))))))))) <;> exact rfl); (case f => exact rfl))
  k_extra "z5"
  k_extra "z4"
  k_extra "z19"
  k_extra "z22"
  k_extra "z23"
  k_extra "z20"
  k_extra "z1"
  k_extra "z16"
  k_extra "z1"
  k_extra "z2"
  k_extra "z26"
  k_extra "z10"
  k_extra "z26"
  (refine' g_up9 ?e ?o ?f ?_; (case e => exact rfl); (case o => (conv => lhs; whnf; arg 3; whnf; (try (arg 1; whnf; (try (arg 1; whnf; (try (arg 2; whnf; (try (arg 2; whnf; (try (arg 2; whnf; (try (arg 2; whnf; (try (arg 2; whnf; (try (arg 2; whnf; (try (arg 2; whnf; (try (arg 2; whnf; (try (arg 2; whnf; (try (arg 2; whnf; (try (arg 2; whnf; (try (arg 2; whnf; (try (arg 2; whnf; (try (arg 2; whnf; (try (arg 2; whnf; (try (arg 2; whnf; (try (arg 2; whnf; (try (arg 2; whnf))))))))))))))))))))))))))))))))))))))))) <;> exact rfl); (case f => exact rfl))
  k_extra "z5"
  k_extra "z4"
  k_extra "z19"
  k_extra "z22"
  k_extra "z23"
  k_extra "z20"
  k_extra "z1"
  k_extra "z16"
  k_extra "z1"
  k_extra "z2"
  k_extra "z27"
  k_extra "z10"
  k_extra "z27"
  (refine' g_up11 ?e ?o ?f ?_; (case e => exact rfl); (case o => (conv => lhs; whnf; arg 3; whnf; (try (arg 1; whnf; (try (arg 1; whnf; (try (arg 2; whnf; (try (arg 2; whnf; (try (arg 2; whnf; (try (arg 2; whnf; (try (arg 2; whnf; (try (arg 2; whnf; (try (arg 2; whnf; (try (arg 2; whnf; (try (arg 2; whnf; (try (arg 2; whnf; (try (arg 2; whnf; (try (arg 2; whnf; (try (arg 2; whnf; (try (arg 2; whnf; (try (arg 2; whnf; (try (arg 2; whnf; (try (arg 2; whnf; (try (arg 2; whnf))))))))))))))))))))))))))))))))))))))))) <;> exact rfl); (case f => exact rfl))
  k_extra "z5"
  k_extra "z4"
  k_extra "z19"
  k_extra "z22"
  k_extra "z23"
  k_extra "z20"
  k_extra "z1"
  k_extra "z16"
  k_extra "z1"
  k_extra "z2"
  k_extra "z28"
  k_extra "z10"
  k_extra "z28"
  k_extra "z29"
  k_extra "z5"
  ((refine g_skim ?_); (conv => enter [4]; whnf); (refine' g_load ?e 13 ?h ?_; (case e => exact rfl); (case h => exact rfl)))
  k_extra "z10"
  k_extra "z28"
  k_extra "z29"
  k_extra "z5"
  k_extra "z15"
  k_extra "z10"
  k_extra "z2"
  k_extra "z30"
  k_extra "z10"
  k_extra "z30"
  (refine' g_up14 ?e ?o ?f ?_; (case e => exact rfl); (case o => (conv => lhs; whnf; arg 3; whnf; (try (arg 1; whnf; (try (arg 1; whnf; (try (arg 2; whnf; (try (arg 2; whnf; (try (arg 2; whnf; (try (arg 2; whnf; (try (arg 2; whnf; (try (arg 2; whnf; (try (arg 2; whnf; (try (arg 2; whnf; (try (arg 2; whnf; (try (arg 2; whnf; (try (arg 2; whnf; (try (arg 2; whnf; (try (arg 2; whnf; (try (arg 2; whnf; (try (arg 2; whnf; (try (arg 2; whnf; (try (arg 2; whnf; (try (arg 2; whnf))))))))))))))))))))))))))))))))))))))))) <;> exact rfl); (case f => exact rfl))
  k_extra "z4"
  k_extra "z5"
  (refine' g_iteF ?e ?b ?_; (case e => exact rfl); (case b => decide))
  k_extra "z4"
  (refine g_neMod hM 14 (by exact rfl) (by exact rfl) ?_)
  (intro hNM)
  (refine' g_to (m := call (.type "type") [.str (Str.ofString "K") tk, .ref a2, .ref a4] []) ?e ?_; (case e => kernel_rfl!))
  (refine' ckB X ?hw (fun n => tk + ([2,7,4,3,6,5,10,11,12,13,14,15,16,17,19] : List Nat).getD n 0) a4 a2 a6 a7 a9 a11 a13 a15 a17 a18 hNM ?hN ?hbt ?hsl ?hsa ?h1 ?h2 ?h3 ?h4 ?h5 ?h6 ?_; (case hw => exact rfl); (case hN => exact mem_nth 14 (by kernel_rfl!)); (case hbt => exact mem_nth 16 (by kernel_rfl!)); (case hsl => exact mem_nth 12 (by exact rfl)); (case hsa => exact mem_nth 0 (by exact rfl)); (case h1 => exact mem_nth 11 (by exact rfl)); (case h2 => exact mem_nth 9 (by exact rfl)); (case h3 => exact mem_nth 7 (by exact rfl)); (case h4 => exact mem_nth 5 (by exact rfl)); (case h5 => exact mem_nth 3 (by exact rfl)); (case h6 => exact mem_nth 1 (by exact rfl)))
  (intro t1 t2 t3 tt o4 o5 o0 tk')
  k_extra "z5"
  k_extra "z10"
  k_extra "z31"
  (refine' g_up24 ?e ?o ?f ?_; (case e => exact rfl); (case o => (conv => lhs; whnf; arg 3; whnf; (try (arg 1; whnf; (try (arg 1; whnf; (try (arg 2; whnf; (try (arg 2; whnf; (try (arg 2; whnf; (try (arg 2; whnf; (try (arg 2; whnf; (try (arg 2; whnf; (try (arg 2; whnf; (try (arg 2; whnf; (try (arg 2; whnf; (try (arg 2; whnf; (try (arg 2; whnf; (try (arg 2; whnf; (try (arg 2; whnf; (try (arg 2; whnf; (try (arg 2; whnf; (try (arg 2; whnf; (try (arg 2; whnf; (try (arg 2; whnf))))))))))))))))))))))))))))))))))))))))) <;> exact rfl); (case f => exact rfl))
  k_extra "z5"
  k_extra "z31"
  k_extra "z5"
  k_extra "z15"
  k_extra "z4"
  k_extra "z5"
  refine g_end (e := by exact rfl) fun h D => ?_
  have hc : ClassP w (NewIn h₀ h) c1 c2 a21 lam := ⟨a20, a2, a22, a6, a7, a9, a11, a13, a15, a17, a18, a8, a1, tt, t1, t2, t3, (tk + 9), at_new D (i := 3) rfl (by kernel_rfl!), at_new D (i := 4) rfl rfl, at_new D (i := 17) rfl (by kernel_rfl!), at_new D (i := 15) rfl (by kernel_rfl!), at_new D (i := 2) rfl (by kernel_rfl!), at_new D (i := 22) rfl (by kernel_rfl!), at_new D (i := 18) rfl (by kernel_rfl!), at_new D (i := 16) rfl (by kernel_rfl!), at_new D (i := 23) rfl (by kernel_rfl!)⟩
  exact hq a21 h _ _ rfl D hc
end Mine
end
section
open PySem PySem.W PyProof.Rows PySem.Spec PySem.Calls PySem.W.X PyProof.V
set_option Elab.async false
set_option maxRecDepth 100000
set_option maxHeartbeats 4000000
set_option linter.unusedVariables false
namespace Mine
/-- a heap with one place emptied -/
noncomputable def without (h : Heap) (a : Addr) : Heap := h.update a (fun o => { o with data := .freed })
theorem without_self (h : Heap) (a : Addr) : (without h a).get? a = none := by
  obtain ⟨objs, l⟩ := h
  unfold without Heap.update Heap.get?
  rw [Array.getElem?_modify, if_pos rfl]
  cases objs[a]? <;> rfl
theorem without_ne {h : Heap} {a b : Addr} (e : b ≠ a) : (without h a).get? b = h.get? b := Heap.get?_update_ne h b a _ e
theorem without_le {h : Heap} {a b : Addr} {o : Obj} (e : (without h a).get? b = some o) : h.get? b = some o ∧ b ≠ a := by
  by_cases z : b = a
  · rw [z, without_self] at e; cases e
  · rw [without_ne z] at e; exact ⟨e, z⟩
/-- an element of the ledger -/
noncomputable def InN (h₀ : Heap) (L : Addr) (h : Heap) (a : Addr) (o : Obj) : Prop := h.get? a = some o ∧ a ≠ L ∧ h₀.get? a = none
theorem ClassP.list {w : World} {h₀ h : Heap} {L ci cl2 K lam : Addr} (H : ClassP w (InN h₀ L h) ci cl2 K lam) : ∃ l, News h₀ L h l ∧ ClassP w (fun a o => (a, o) ∈ l) ci cl2 K lam := by
  obtain ⟨N, bt, md, sl, f1, f2, f3, f4, f5, f6, sa, clo, cell, ts, t1, t2, t3, tsl, a1, a2, a3, a4, a5, a6, a7, a8, a9⟩ := H
  refine ⟨[(K, _), (N, _), (f1, _), (f2, _), (md, _), (bt, _), (sl, _), (clo, _), (cell, _)], ?_, ⟨N, bt, md, sl, f1, f2, f3, f4, f5, f6, sa, clo, cell, ts, t1, t2, t3, tsl, .head _, .tail _ (.head _), .tail _ (.tail _ (.head _)), .tail _ (.tail _ (.tail _ (.head _))), .tail _ (.tail _ (.tail _ (.tail _ (.head _)))), .tail _ (.tail _ (.tail _ (.tail _ (.tail _ (.head _))))), .tail _ (.tail _ (.tail _ (.tail _ (.tail _ (.tail _ (.head _)))))), .tail _ (.tail _ (.tail _ (.tail _ (.tail _ (.tail _ (.tail _ (.head _))))))), .tail _ (.tail _ (.tail _ (.tail _ (.tail _ (.tail _ (.tail _ (.tail _ (.head _))))))))⟩⟩
  intro p hp
  simp only [List.mem_cons, List.not_mem_nil, or_false] at hp
  rcases hp with rfl | rfl | rfl | rfl | rfl | rfl | rfl | rfl | rfl
  · exact a1
  · exact a2
  · exact a3
  · exact a4
  · exact a5
  · exact a6
  · exact a7
  · exact a8
  · exact a9
theorem CodesP.list {h₀ h : Heap} {L : Addr} {k : CodeD} (H : CodesP (InN h₀ L h) k) : ∃ l, News h₀ L h l ∧ CodesP (fun a o => (a, o) ∈ l) k := by
  obtain ⟨a1, a2, a3, a4, a5, a6, a7, a8⟩ := H
  refine ⟨[(k.c, _), (k.tb, _), (k.c1, _), (k.c2, _), (k.c3, _), (k.c4, _), (k.c5, _), (k.c6, _)], ?_, ⟨.head _, .tail _ (.head _), .tail _ (.tail _ (.head _)), .tail _ (.tail _ (.tail _ (.head _))), .tail _ (.tail _ (.tail _ (.tail _ (.head _)))), .tail _ (.tail _ (.tail _ (.tail _ (.tail _ (.head _))))), .tail _ (.tail _ (.tail _ (.tail _ (.tail _ (.tail _ (.head _)))))), .tail _ (.tail _ (.tail _ (.tail _ (.tail _ (.tail _ (.tail _ (.head _)))))))⟩⟩
  intro p hp
  simp only [List.mem_cons, List.not_mem_nil, or_false] at hp
  rcases hp with rfl | rfl | rfl | rfl | rfl | rfl | rfl | rfl
  · exact a1
  · exact a2
  · exact a3
  · exact a4
  · exact a5
  · exact a6
  · exact a7
  · exact a8
section
variable {w : World} {A : Around} {s : Shared} {h₀ : Heap} {L lam : Addr} {m : Str → Option Value} {led : List (Addr × Obj)} {oL : Obj} {Q E : Value → Shared → Prop}
theorem above_last {h₀ h : Heap} {chg news : List (Addr × Obj)} (D : Mem h₀ h chg news) {z : Addr} {oz : Obj} (l : news.getLast? = some (z, oz)) : h.get? z = some oz := by
  obtain ⟨pre, rfl⟩ : ∃ pre, news = pre ++ [(z, oz)] := List.getLast?_eq_some_iff.mp l
  exact (D.nw (z, oz) (by simp)).1
theorem start_without (h : h₀.get? lam = some oL) : Mem (without h₀ lam) h₀ [] [(lam, oL)] :=
  ⟨fun b o e _ => (without_le e).1, fun _ hp => (nomatch hp), List.nodup_nil, fun p hp => by
    rcases List.mem_singleton.mp hp with rfl
    exact ⟨h, without_self _ _⟩, by simp⟩
/-- what a run over the emptied heap keeps -/
theorem kept_all {h h' : Heap} {chg news : List (Addr × Obj)} (D : Mem (without h lam) h' chg news) (l : news.getLast? = some (lam, oL)) (e : h.get? lam = some oL) {b : Addr} {o : Obj} (hb : h.get? b = some o) (hw : away chg b = true) : h'.get? b = some o := by
  by_cases z : b = lam
  · subst z
    rw [e] at hb
    cases hb
    exact above_last D l
  · exact D.keep b o (by rw [without_ne z]; exact hb) (by rw [hw, Bool.or_true])
theorem tableAt_of {h : Heap} {ps : Array Value} (C : CodeHd h 34 30) (e : h.get? 30 = some (tabObj ps)) : h.TableAt 34 30 ps := C.tab e
theorem envK_without {h : Heap} (V : EnvK w h₀) (k : ∀ b o, h₀.get? b = some o → h.get? b = some o) (hn : h₀.get? lam = none) : EnvK w (without h lam) :=
  V.keeps fun b o e => by
    have z : b ≠ lam := fun z => by rw [z, hn] at e; cases e
    rw [without_ne z]; exact k b o e
theorem inN_of {h h' : Heap} (F : Fr h₀ L h m) (hn : h₀.get? lam = none) (hL : lam ≠ L) {a : Addr} {o : Obj} (n : NewIn (without h lam) h' a o) : InN h₀ L h' a o := by
  by_cases z : a = lam
  · exact ⟨n.1, z ▸ hL, z ▸ hn⟩
  obtain ⟨oo, _, _, e, _⟩ := F.ns
  have q : h.get? a = none := (without_ne z).symm.trans n.2
  refine ⟨n.1, fun y => ?_, ?_⟩
  · rw [y, e] at q; cases q
  · cases x : h₀.get? a with
    | none => rfl
    | some o' => rw [F.keep _ _ x] at q; cases q
theorem ctk_first (hA : A.handled = none) (hdp : A.depth ≤ 500) (hun : A.units ≤ 3000) (F : Fr h₀ L s.heap m) (V : EnvK w h₀) (C : CodeHd h₀ 34 30) (N : News h₀ L s.heap led) (h30 : (30, tabObj #[]) ∈ led) (hl : (lam, oL) ∈ led) (h1 : 30 < lam)
    (hq : ∀ (K : Addr) (k : CodeD) (h' : Heap) (tk' : Nat), Fr h₀ L h' m → (∀ p ∈ led, p.1 ≠ 30 → h'.get? p.1 = some p.2) → InN h₀ L h' 30 (tabObj #[rawInt 52, rawInt 4, .ref k.c]) → CodesP (InN h₀ L h') k → ClassP w (InN h₀ L h') k.c1 k.c2 K lam → Q (.ref K) { s with heap := h', toks := tk' }) :
    wpAny (model PR w) A (call (.ref 35) [.ref lam]) Q E s := by
  obtain ⟨h, g, d, tk, os⟩ := s
  have n30 := N _ h30
  have nl := N _ hl
  have V' : EnvK w (without h lam) := envK_without V F.keep nl.2.2
  obtain ⟨sl4, h4⟩ := V'.m4
  obtain ⟨mb, hNB, hMB⟩ := V'.nb
  have kC : ∀ b o, h₀.get? b = some o → (without h lam).get? b = some o := fun b o e => by
    have z : b ≠ lam := fun z => by rw [z, nl.2.2] at e; cases e
    rw [without_ne z]; exact F.keep b o e
  refine wpAny_wide (A₂ := AA 500 3000) hA hdp rfl rfl hun ?_
  refine ctk1 w (without h lam) h g d tk os Q E lam V'.X mb hNB hMB sl4 h4 (tableAt_of (C.keeps kC) (by rw [without_ne (Nat.ne_of_lt h1)]; exact n30.1)) oL (Nat.lt_trans (by decide) h1) (fun K k h' tk' news hl' D hk hc => ?_) (start_without nl.1)
  have keep : ∀ {b o}, h.get? b = some o → b ≠ 30 → h'.get? b = some o := fun {b o} e z => kept_all D hl' nl.1 e (by
    show (!(Nat.beq 30 b) && true) = true
    cases hb : Nat.beq 30 b with
    | false => rfl
    | true => exact absurd (Nat.eq_of_beq_eq_true hb).symm z)
  have e30 : h'.get? 30 = some (tabObj #[rawInt 52, rawInt 4, .ref k.c]) := (D.ch _ (.head _)).1
  refine hq K k h' tk' ⟨F.ns.at fun o e => keep e (fun q => n30.2.1 q.symm), fun b o e => keep (F.keep b o e) (fun q => by rw [q, n30.2.2] at e; cases e), F.above⟩ (fun p hp z => keep (N p hp).1 z) ⟨e30, n30.2.1, n30.2.2⟩ (hk.mono fun a o n => inN_of F nl.2.2 nl.2.1 n) (hc.mono fun a o n => inN_of F nl.2.2 nl.2.1 n)
theorem ctk_later (hA : A.handled = none) (hdp : A.depth ≤ 500) (hun : A.units ≤ 3000) (F : Fr h₀ L s.heap m) (V : EnvK w h₀) (C : CodeHd h₀ 34 30) (N : News h₀ L s.heap led) (k : CodeD) (h30 : (30, tabObj #[rawInt 52, rawInt 4, .ref k.c]) ∈ led) (hk : CodesP (fun a o => (a, o) ∈ led) k) (hne : CodesP (fun a _ => a ≠ lam) k) (hl : (lam, oL) ∈ led) (h1 : 30 < lam)
    (hq : ∀ (K : Addr) (h' : Heap) (tk' : Nat), Fr h₀ L h' m → (∀ p ∈ led, h'.get? p.1 = some p.2) → ClassP w (InN h₀ L h') k.c1 k.c2 K lam → Q (.ref K) { s with heap := h', toks := tk' }) :
    wpAny (model PR w) A (call (.ref 35) [.ref lam]) Q E s := by
  obtain ⟨h, g, d, tk, os⟩ := s
  have n30 := N _ h30
  have nl := N _ hl
  have V' : EnvK w (without h lam) := envK_without V F.keep nl.2.2
  obtain ⟨sl4, h4⟩ := V'.m4
  obtain ⟨mb, hNB, hMB⟩ := V'.nb
  have kC : ∀ b o, h₀.get? b = some o → (without h lam).get? b = some o := fun b o e => by
    have z : b ≠ lam := fun z => by rw [z, nl.2.2] at e; cases e
    rw [without_ne z]; exact F.keep b o e
  have kN : ∀ {a o}, (a, o) ∈ led → a ≠ lam → (without h lam).get? a = some o := fun {a o} e z => by rw [without_ne z]; exact (N _ e).1
  obtain ⟨b1, b2, b3, b4, b5, b6, b7, b8⟩ := hk
  obtain ⟨c1, c2, c3, c4, c5, c6, c7, c8⟩ := hne
  refine wpAny_wide (A₂ := AA 500 3000) hA hdp rfl rfl hun ?_
  refine ctk2 w (without h lam) h g d tk os Q E lam V'.X mb hNB hMB sl4 h4 k.c k.tb k.y8 _ _ _ _ _ (kN b1 c1) k.c1 k.c2 k.c3 k.c4 k.c5 k.c6 (kN b2 c2) _ _ _ _ _ _ _ _ _ _ (kN b3 c3) _ _ _ _ _ _ _ _ _ _ (kN b4 c4) _ _ _ _ _ _ _ _ _ _ (kN b5 c5) _ _ _ _ _ _ _ _ _ _ (kN b6 c6) _ _ _ _ _ _ _ _ _ _ (kN b7 c7) _ _ _ _ _ _ _ _ _ _ (kN b8 c8)
    (tableAt_of (C.keeps kC) (by rw [without_ne (Nat.ne_of_lt h1)]; exact n30.1)) oL (Nat.lt_trans (by decide) h1) (fun K h' tk' news hl' D hc => ?_) (start_without nl.1)
  have keep : ∀ {b o}, h.get? b = some o → h'.get? b = some o := fun {b o} e => kept_all D hl' nl.1 e rfl
  exact hq K h' tk' ⟨F.ns.at fun o e => keep e, fun b o e => keep (F.keep b o e), F.above⟩ (fun p hp => keep (N p hp).1) (hc.mono fun a o n => inN_of F nl.2.2 nl.2.1 n)
end
end Mine
end
section
open PySem PySem.W PyProof.Rows PySem.Spec PySem.Calls PySem.W.X PyProof.V
set_option Elab.async false
set_option maxRecDepth 100000
set_option maxHeartbeats 4000000
set_option linter.unusedVariables false
namespace Mine
noncomputable abbrev dE : Obj := { cls := .type "dict", data := .dict #[] }
section
variable {w : World} {A : Around} {s : Shared} {h₀ : Heap} {L lam K : Addr} {m : Str → Option Value} {led rest : List (Addr × Obj)} {k : CodeD}
theorem key_step {kS p : Addr} {ks : List Value} {e : Nat} {x : Int} {n : Str} {u1 u2 : Tok} {C : Value → Nat → Shared → Prop} (hA : A.handled = none) (hdp : A.depth ≤ 500) (hun : A.units ≤ 3000) (F : Fr h₀ L s.heap m)
    (N : News h₀ L s.heap ((kS, seqObj "list" (List.toArray ks) e) :: rest)) (hr : ∀ q ∈ rest, q.1 ≠ kS) (V : EnvK w h₀) (H : AllK w (fun a o => (a, o) ∈ rest) k K lam) (hp : (p, tupO x n u1 u2) ∈ rest)
    (h : ∀ (o d : Addr) (h' : Heap) (tk' c : Nat), Fr h₀ L h' m → News h₀ L h' ((kS, seqObj "list" (List.toArray (ks ++ [.ref o])) c) :: (o, instK K d p) :: (d, dE) :: rest) → (∀ q ∈ (o, instK K d p) :: (d, dE) :: rest, q.1 ≠ kS) → C (.ref o) c { s with heap := h', toks := tk' }) :
    wpAny (model PR w) A (call (.ref K) [.ref p]) (KatBack h₀ L m kS ks e C) (fun _ _ => False) s := by
  refine mk_key hA hdp hun (V.keeps F.keep) (H.mono fun a o q => (N _ (.tail _ q)).1) (N _ (.tail _ hp)).1 fun o d h' tk' kp no nd => ?_
  have hS := (N _ (.head _)).1
  have fresh : ∀ {a : Addr} {ob : Obj}, NewIn s.heap h' a ob → h'.get? a = some ob ∧ a ≠ L ∧ h₀.get? a = none := fun {a ob} n => by
    obtain ⟨oo, _, _, e, _⟩ := F.ns
    refine ⟨n.1, fun y => ?_, ?_⟩
    · have := n.2; rw [y, e] at this; cases this
    · cases x : h₀.get? a with
      | none => rfl
      | some o' => have := n.2; rw [F.keep _ _ x] at this; cases this
  have ne : ∀ {a : Addr} {ob : Obj}, NewIn s.heap h' a ob → a ≠ kS := fun {a ob} n z => by
    have := n.2; rw [z, hS] at this; cases this
  have hne : ∀ q ∈ (o, instK K d p) :: (d, dE) :: rest, q.1 ≠ kS := fun q hq => by
    rcases List.mem_cons.mp hq with rfl | hq
    · exact ne no
    rcases List.mem_cons.mp hq with rfl | hq
    · exact ne nd
    · exact hr q hq
  have N' : News h₀ L h' ((kS, seqObj "list" (List.toArray ks) e) :: (o, instK K d p) :: (d, dE) :: rest) := fun q hq => by
    rcases List.mem_cons.mp hq with rfl | hq
    · exact News.keepsAll N kp _ (.head _)
    rcases List.mem_cons.mp hq with rfl | hq
    · exact fresh no
    rcases List.mem_cons.mp hq with rfl | hq
    · exact fresh nd
    · exact News.keepsAll N kp _ (.tail _ hq)
  exact KatBack.intro (F.keeps kp) N' (UpdF.head hne) fun h'' c F'' N'' => h o d h'' tk' c F'' N'' hne
/-- the state between two questions -/
noncomputable def InvK (h₀ : Heap) (L : Addr) (m : Str → Option Value) (led : List (Addr × Obj)) (s s' : Shared) : Prop := Fr h₀ L s'.heap m ∧ News h₀ L s'.heap led ∧ ∃ h tk, s' = { s with heap := h, toks := tk }
variable {α : Type} {cmp : Nat → Nat → (Bool → Shared → Prop) → Shared → Prop} {kk : Bool → KasT α} {QQ : α → Shared → Prop} {E : Value → Shared → Prop} {s' : Shared} {p1 p2 o1 o2 d1 d2 : Addr} {x y : Int} {n1 n2 : Str} {v1 v2 u1 u2 : Tok}
theorem askK (hA : A.handled = none) (hdp : A.depth ≤ 500) (hun : A.units ≤ 3000) (V : EnvK w h₀) (H : AllK w (fun a o => (a, o) ∈ led) k K lam) (I : InvK h₀ L m led s s')
    (ho1 : (o1, instK K d1 p1) ∈ led) (ho2 : (o2, instK K d2 p2) ∈ led) (hd1 : (d1, dE) ∈ led) (hd2 : (d2, dE) ∈ led) (hp1 : (p1, tupO x n1 u1 v1) ∈ led) (hp2 : (p2, tupO y n2 u2 v2) ∈ led)
    (hn : decide (n2.cps.toList < n1.cps.toList) = !decide (n1.cps.toList < n2.cps.toList))
    (h1 : ∀ s'', InvK h₀ L m led s s'' → pairLt x n1 y n2 = true → KasNext cmp kk QQ true s'') (h2 : ∀ s'', InvK h₀ L m led s s'' → pairLt x n1 y n2 = false → KasNext cmp kk QQ false s'') :
    wpAny (model PR w) A (keyLt' oneType' (.ref o1) (.ref o2)) (KasNext cmp kk QQ) E s' := by
  obtain ⟨F, N, h, tk, rfl⟩ := I
  refine lt_key hA hdp hun (V.keeps F.keep) (H.mono fun a o q => (N _ q).1) (N _ hp1).1 (N _ hp2).1 (N _ ho1).1 (N _ ho2).1 (N _ hd1).1 (N _ hd2).1 hn fun h' tk' kp => ?_
  have I' : InvK h₀ L m led s { s with heap := h', toks := tk' } := ⟨F.keeps kp, News.keepsAll N kp, h', tk', rfl⟩
  exact kas_split (fun e => h1 _ I' e) (fun e => h2 _ I' e)
end
theorem looks_cls {M : Model} {h : Heap} {a : Addr} {o : Obj} (e : h.get? a = some o) : Looks M h (typeOf (.ref a)) o.cls :=
  fun A Q E s k q => wpAny_bind (wpAny_loadPart (k _ _ e) (wpAny_pure q))
theorem pairLt_F {x y : Int} {n1 n2 : Str} (hl : decide (n1.cps.toList < n2.cps.toList) = false) : pairLt x n1 y n2 = decide (x < y) := by
  unfold pairLt
  rw [hl]
  split
  · exact (decide_eq_false (by omega)).symm
  · rfl
theorem pairLt_T {x y : Int} {n1 n2 : Str} (hl : decide (n1.cps.toList < n2.cps.toList) = true) : pairLt x n1 y n2 = decide (x ≤ y) := by
  unfold pairLt
  rw [hl]
  split
  · exact (decide_eq_true (by omega)).symm
  · rw [decide_eq_decide]; omega
section
variable {w : World} {A : Around} {E : Value → Shared → Prop} {s : Shared} {h₀ : Heap} {L l r1 r2 r3 lam K : Addr} {m : Str → Option Value} {led : List (Addr × Obj)} {kc : CodeD} {k p f : Int} {T1 U1 T2 U2 T3 U3 : Tok} {c : Nat} {Q : Value → Shared → Prop}
theorem sortedK3 (hA : A.handled = none) (hdp : A.depth ≤ 500) (hun : A.units ≤ 2990) (F : Fr h₀ L s.heap m) (N : News h₀ L s.heap led) (V : EnvK w h₀) (H : AllK w (fun a o => (a, o) ∈ led) kc K lam)
    (hl : (l, ({ cls := .type "list", data := .seq (List.toArray [.ref r1, .ref r2, .ref r3]) c } : Obj)) ∈ led)
    (m1 : (r1, tupO k (Str.ofString "link") T1 U1) ∈ led) (m2 : (r2, tupO p (Str.ofString "pipe") T2 U2) ∈ led) (m3 : (r3, tupO f (Str.ofString "file") T3 U3) ∈ led)
    (h : ∀ (O a b d : Addr) (c : Nat) (x1 x2 x3 : Int) (n1 n2 n3 : Str) (t1 u1 t2 u2 t3 u3 : Tok) (h' : Heap) (tk : Nat), ord3 k p f = [(x1, n1), (x2, n2), (x3, n3)] →
      (a, tupO x1 n1 t1 u1) ∈ [(r1, tupO k (Str.ofString "link") T1 U1), (r2, tupO p (Str.ofString "pipe") T2 U2), (r3, tupO f (Str.ofString "file") T3 U3)] → (b, tupO x2 n2 t2 u2) ∈ [(r1, tupO k (Str.ofString "link") T1 U1), (r2, tupO p (Str.ofString "pipe") T2 U2), (r3, tupO f (Str.ofString "file") T3 U3)] → (d, tupO x3 n3 t3 u3) ∈ [(r1, tupO k (Str.ofString "link") T1 U1), (r2, tupO p (Str.ofString "pipe") T2 U2), (r3, tupO f (Str.ofString "file") T3 U3)] →
      Fr h₀ L h' m → News h₀ L h' ((O, listOf (List.toArray [.ref a, .ref b, .ref d]) c) :: led) → AllLt O led → Q (.ref O) { s with heap := h', toks := tk }) :
    wpAny (model PR w) A (call (.builtin "sorted") [.ref l] [(Str.ofString "key", .ref K)]) Q E s := by
  (with_unfolding_all refine' kat_sortedK F N (vs := [.ref r1, .ref r2, .ref r3]) ?k3 ?k4 ?k5 ?a1 ?a2 ?a3 ?_)
  (case k3 => exact ⟨_, N.get hl, rfl, c, rfl⟩)
  (case k4 => exact Nat.le_of_ble_eq_true rfl)
  (case k5 => exact Nat.le_of_ble_eq_true rfl)
  (case a1 => ksk_a1)
  (case a2 => (intro _; ksk_a2))
  (case a3 => (intro _; ksk_a3))
  intro O kS e' h' F' N' l0 l1
  refine kz (allLt_of l1) ?_
  intro l2
  have hB : A.in1.in1.handled = none := hA
  have hdB : A.in1.in1.depth ≤ 500 := hdp
  have huB : A.in1.in1.units ≤ 3000 := by show A.units + 1 + 1 ≤ 3000; omega
  generalize A.in1.in1 = B at hB hdB huB ⊢
  have up : ∀ {q}, q ∈ led → q ∈ (O, seqObj "list" #[] e') :: led := fun q => .tail _ q
  have H0 := H.mono (R := fun a o => (a, o) ∈ (O, seqObj "list" #[] e') :: led) fun a o q => up q
  refine KatKeys.cons (key_step hB hdB huB F' N' (fun q hq => by
    rcases List.mem_cons.mp hq with rfl | hq
    · exact Nat.ne_of_lt l0
    · exact Nat.ne_of_lt (Nat.lt_trans (l1 q hq) l0)) V H0 (up m1) fun o1 d1 h1 tk1 c1 F1 N1 ne1 => ?_)
  have H1 := H0.mono (R := fun a o => (a, o) ∈ (o1, instK K d1 r1) :: (d1, dE) :: (O, seqObj "list" #[] e') :: led) fun a o q => .tail _ (.tail _ q)
  simp only [List.nil_append, List.cons_append] at N1 ⊢
  refine KatKeys.cons (key_step hB hdB huB F1 N1 ne1 V H1 (.tail _ (.tail _ (up m2))) fun o2 d2 h2 tk2 c2 F2 N2 ne2 => ?_)
  have H2 := H1.mono (R := fun a o => (a, o) ∈ (o2, instK K d2 r2) :: (d2, dE) :: (o1, instK K d1 r1) :: (d1, dE) :: (O, seqObj "list" #[] e') :: led) fun a o q => .tail _ (.tail _ q)
  simp only [List.nil_append, List.cons_append] at N2 ⊢
  refine KatKeys.cons (key_step hB hdB huB F2 N2 ne2 V H2 (.tail _ (.tail _ (.tail _ (.tail _ (up m3))))) fun o3 d3 h3 tk3 c3 F3 N3 ne3 => ?_)
  have H3 := H2.mono (R := fun a o => (a, o) ∈ (kS, seqObj "list" (List.toArray [.ref o1, .ref o2, .ref o3]) c3) :: (o3, instK K d3 r3) :: (d3, dE) :: (o2, instK K d2 r2) :: (d2, dE) :: (o1, instK K d1 r1) :: (d1, dE) :: (O, seqObj "list" #[] e') :: led) fun a o q => .tail _ (.tail _ (.tail _ q))
  simp only [List.nil_append, List.cons_append] at N3 ⊢
  refine KatKeys.nil ?_
  generalize hLED : (kS, seqObj "list" (List.toArray [Value.ref o1, .ref o2, .ref o3]) c3) :: (o3, instK K d3 r3) :: (d3, dE) :: (o2, instK K d2 r2) :: (d2, dE) :: (o1, instK K d1 r1) :: (d1, dE) :: (O, seqObj "list" #[] e') :: led = LED at N3 H3
  have G1 : (r1, tupO k (Str.ofString "link") T1 U1) ∈ LED := by subst hLED; exact .tail _ (.tail _ (.tail _ (.tail _ (.tail _ (.tail _ (.tail _ (up m1)))))))
  have G2 : (r2, tupO p (Str.ofString "pipe") T2 U2) ∈ LED := by subst hLED; exact .tail _ (.tail _ (.tail _ (.tail _ (.tail _ (.tail _ (.tail _ (up m2)))))))
  have G3 : (r3, tupO f (Str.ofString "file") T3 U3) ∈ LED := by subst hLED; exact .tail _ (.tail _ (.tail _ (.tail _ (.tail _ (.tail _ (.tail _ (up m3)))))))
  have J1 : (o1, instK K d1 r1) ∈ LED := by subst hLED; exact .tail _ (.tail _ (.tail _ (.tail _ (.tail _ (.head _)))))
  have J2 : (o2, instK K d2 r2) ∈ LED := by subst hLED; exact .tail _ (.tail _ (.tail _ (.head _)))
  have J3 : (o3, instK K d3 r3) ∈ LED := by subst hLED; exact .tail _ (.head _)
  have D1 : (d1, dE) ∈ LED := by subst hLED; exact .tail _ (.tail _ (.tail _ (.tail _ (.tail _ (.tail _ (.head _))))))
  have D2 : (d2, dE) ∈ LED := by subst hLED; exact .tail _ (.tail _ (.tail _ (.tail _ (.head _))))
  have D3 : (d3, dE) ∈ LED := by subst hLED; exact .tail _ (.tail _ (.head _))
  have fin : ∀ {s'' : Shared} (a b d : Addr) (x1 x2 x3 : Int) (n1 n2 n3 : Str) (t1 u1 t2 u2 t3 u3 : Tok), InvK h₀ L m LED s s'' → ord3 k p f = [(x1, n1), (x2, n2), (x3, n3)] →
      (a, tupO x1 n1 t1 u1) ∈ [(r1, tupO k (Str.ofString "link") T1 U1), (r2, tupO p (Str.ofString "pipe") T2 U2), (r3, tupO f (Str.ofString "file") T3 U3)] → (b, tupO x2 n2 t2 u2) ∈ [(r1, tupO k (Str.ofString "link") T1 U1), (r2, tupO p (Str.ofString "pipe") T2 U2), (r3, tupO f (Str.ofString "file") T3 U3)] → (d, tupO x3 n3 t3 u3) ∈ [(r1, tupO k (Str.ofString "link") T1 U1), (r2, tupO p (Str.ofString "pipe") T2 U2), (r3, tupO f (Str.ofString "file") T3 U3)] →
      KatFin h₀ L m kS O [.ref o1, .ref o2, .ref o3] c3 e' [.ref a, .ref b, .ref d] (fun s4 => Q (.ref O) s4) s'' := fun {s''} a b d x1 x2 x3 n1 n2 n3 t1 u1 t2 u2 t3 u3 I ho q1 q2 q3 => by
    obtain ⟨FI, NI, hI, tkI, rfl⟩ := I
    subst hLED
    refine KatFin.intro FI NI (UpdF.head ne3) fun h4 c4 F4 N4 => ?_
    have N5 : News h₀ L h4 ((O, seqObj "list" #[] e') :: led) := fun q hq => N4 q (.tail _ (.tail _ (.tail _ (.tail _ (.tail _ (.tail _ (.tail _ hq)))))))
    exact KasFin.intro F4 N5 (UpdF.head fun q hq => Nat.ne_of_lt (l1 q hq)) fun h6 c6 F6 N6 => h O a b d c6 x1 x2 x3 n1 n2 n3 t1 u1 t2 u2 t3 u3 h6 _ ho q1 q2 q3 F6 N6 l2
  have I0 : InvK h₀ L m LED s { s with heap := h3, toks := tk3 } := ⟨F3, N3, h3, tk3, rfl⟩
  refine kas_kind (T := .ref K) (vs := [.ref o1, .ref o2, .ref o3]) (Nat.le_of_ble_eq_true rfl) (fun v hv => ?_) rfl (by simp) ?_
  · simp only [List.mem_cons, List.not_mem_nil, or_false] at hv
    rcases hv with rfl | rfl | rfl
    · exact looks_cls (N3 _ J1).1
    · exact looks_cls (N3 _ J2).1
    · exact looks_cls (N3 _ J3).1
  · repeat' (first
      | kat_step
      | kas_known
      | (rename InvK _ _ _ _ _ _ => II; refine askK hB hdB huB V H3 II (by first | exact J1 | exact J2 | exact J3) (by first | exact J1 | exact J2 | exact J3) (by first | exact D1 | exact D2 | exact D3) (by first | exact D1 | exact D2 | exact D3) (by first | exact G1 | exact G2 | exact G3) (by first | exact G1 | exact G2 | exact G3) (by decide) (fun s1 I1 g => ?_) (fun s1 I1 g => ?_) <;> (first | rw [pairLt_F (by decide)] at g | rw [pairLt_T (by decide)] at g) <;> (first | replace g := of_decide_eq_true g | replace g := of_decide_eq_false g) <;> clear II)
      | fail)
    all_goals clear m1 m2 m3
    all_goals have m1 := List.Mem.head (a := (r1, tupO k (Str.ofString "link") T1 U1)) [(r2, tupO p (Str.ofString "pipe") T2 U2), (r3, tupO f (Str.ofString "file") T3 U3)]
    all_goals have m2 := List.Mem.tail (r1, tupO k (Str.ofString "link") T1 U1) (List.Mem.head (a := (r2, tupO p (Str.ofString "pipe") T2 U2)) [(r3, tupO f (Str.ofString "file") T3 U3)])
    all_goals have m3 := List.Mem.tail (r1, tupO k (Str.ofString "link") T1 U1) (List.Mem.tail (r2, tupO p (Str.ofString "pipe") T2 U2) (List.Mem.head (a := (r3, tupO f (Str.ofString "file") T3 U3)) []))
    all_goals first
      | (exfalso; omega)
      | (rename InvK _ _ _ _ _ _ => II
         first
         | exact fin r3 r1 r2 _ _ _ _ _ _ _ _ _ _ _ _ II (ord_fkp (by omega) (by omega)) m3 m1 m2
         | exact fin r3 r2 r1 _ _ _ _ _ _ _ _ _ _ _ _ II (ord_fpk (by omega) (by omega)) m3 m2 m1
         | exact fin r2 r3 r1 _ _ _ _ _ _ _ _ _ _ _ _ II (ord_pfk (by omega) (by omega)) m2 m3 m1
         | exact fin r1 r3 r2 _ _ _ _ _ _ _ _ _ _ _ _ II (ord_kfp (by omega) (by omega)) m1 m3 m2
         | exact fin r1 r2 r3 _ _ _ _ _ _ _ _ _ _ _ _ II (ord_kpf (by omega) (by omega)) m1 m2 m3
         | exact fin r2 r1 r3 _ _ _ _ _ _ _ _ _ _ _ _ II (ord_pkf (by omega) (by omega)) m2 m1 m3)
end
end Mine
end
section
open PySem PySem.W PyProof.Rows PySem.Spec PySem.Calls PySem.W.X PyProof.V
set_option Elab.async false
set_option maxRecDepth 100000
set_option maxHeartbeats 4000000
set_option linter.unusedVariables false
namespace Mine
/-- a ledger whose tail is tl: what stands ahead has a class (so it is no code table) -/
inductive TailF (tl : List (Addr × Obj)) : List (Addr × Obj) → (List (Addr × Obj) → List (Addr × Obj)) → Prop
  | here : TailF tl tl (fun t => t)
  | cons {p r g} : (hasCls p.2 = true ∨ 114 < p.1) → TailF tl r g → TailF tl (p :: r) (fun t => p :: g t)
theorem TailF.split {tl : List (Addr × Obj)} : ∀ {l : List (Addr × Obj)} {g : List (Addr × Obj) → List (Addr × Obj)}, TailF tl l g → ∃ pre, l = pre ++ tl ∧ (∀ t, g t = pre ++ t) ∧ ∀ p ∈ pre, hasCls p.2 = true ∨ 114 < p.1
  | _, _, .here => ⟨[], rfl, fun _ => rfl, fun _ hp => nomatch hp⟩
  | _, _, .cons (p := p) h r =>
    let ⟨pre, e, q, k⟩ := r.split
    ⟨p :: pre, by rw [e]; rfl, fun t => by show p :: _ = _; rw [q]; rfl, fun x hx => by
      rcases List.mem_cons.mp hx with rfl | hx
      · exact h
      · exact k x hx⟩
/-- the lambdas' qualified name -/
noncomputable abbrev qL : Str := (Str.ofString "_law_told" ++ (".<locals>." : Str)) ++ ("<lambda>" : Str)
noncomputable def LamC (tl : List (Addr × Obj)) (c : Addr) : Prop := ∃ (oc : Obj) (vs : Array Value) (t : Tok), (c, oc) ∈ tl ∧ oc.data = .fields vs ∧ vs[1]? = some (.str qL t)
theorem LamC.mono {tl tl' : List (Addr × Obj)} {c : Addr} (h : LamC tl c) (hk : ∀ p ∈ tl, p.1 ≠ 114 → p ∈ tl') (ht : ∀ ps, (114, tabObj ps) ∈ tl → True) (hc : c ≠ 114) : LamC tl' c := by
  obtain ⟨oc, vs, t, a, b⟩ := h
  exact ⟨oc, vs, t, hk _ a hc, b⟩
/-- a tail without a place -/
noncomputable def drop (b : Addr) (tl : List (Addr × Obj)) : List (Addr × Obj) := tl.filter fun p => !(p.1 == b)
theorem mem_drop {b : Addr} {tl : List (Addr × Obj)} {p : Addr × Obj} : p ∈ drop b tl ↔ p ∈ tl ∧ p.1 ≠ b := by
  unfold drop
  rw [List.mem_filter]
  simp
section
variable {w : World} {prog : Program} {A : Around} {s : Shared} {h₀ : Heap} {L a : Addr} {m mg mb : Str → Option Value} {tl led : List (Addr × Obj)} {g : List (Addr × Obj) → List (Addr × Obj)} {p : Program} {loose : List Str} {mean : ExcName → Option Value}
  {cs scope : Scope} {cl : List (Str × Addr)} {params : Arguments} {body : Expr} {pos : Pos} {ps : Array Value} {Q E : Value → Shared → Prop} {clos : List (Str × Addr)}
theorem pre_ne {h : Heap} {pre : List (Addr × Obj)} {b : Addr} {ps : Array Value} (N : News h₀ L h (pre ++ tl)) (hm : (b, tabObj ps) ∈ tl) (hb : b ≤ 114) (hp : ∀ p ∈ pre, hasCls p.2 = true ∨ 114 < p.1) : ∀ p ∈ pre, p.1 ≠ b := fun p h1 z => by
  have e1 := (N p (List.mem_append_left _ h1)).1
  have e2 := (N _ (List.mem_append_right _ hm)).1
  rw [z, e2] at e1
  have e3 := Option.some.inj e1
  rcases hp p h1 with this | this
  · rw [← e3] at this
    exact Bool.false_ne_true this
  · rw [z] at this
    exact absurd hb (Nat.not_le_of_lt this)
theorem lam_new (F : Fr h₀ L s.heap m) (N : News h₀ L s.heap led) (T : Top p loose mean mg mb h₀) (C : CodeHd h₀ 116 114) (TF : TailF tl led g) (hm : (114, tabObj ps) ∈ tl) (ht : TriplesOk ps.toList) (hnf : codeAmong pos ps.toList = none)
    (hdef : defaultsOf params (envX (Str.ofString "_law_told") cs L a (.ref 116) cl) = ([], [])) (hcl : closureFor scope (envX (Str.ofString "_law_told") cs L a (.ref 116) cl) = pure clos)
    (h : ∀ (f c' : Addr) (pm ct : Value) (tl' : List (Addr × Obj)) (h' : Heap) (tk : Nat), Fr h₀ L h' m → News h₀ L h' ((f, kla_obj (Str.ofString "<lambda>") qL params body scope clos pm c' ct) :: g tl') → (∀ q ∈ led, q.1 < f) → (∀ q ∈ g tl', q.1 < f) → (∀ q ∈ tl, q.1 ≠ 114 → q ∈ tl') →
      (114, tabObj (ps ++ #[rawInt pos.line, rawInt pos.col, .ref c'])) ∈ tl' → LamC tl' c' → (∀ q ∈ tl, q.1 < c') → Q (.ref f) { s with heap := h', toks := tk }) :
    wpAny (model prog w) A (eval (.Lambda params body scope pos) (envX (Str.ofString "_law_told") cs L a (.ref 116) cl)) Q E s := by
  obtain ⟨pre, rfl, hg, hp⟩ := TF.split
  have hne := pre_ne N hm (by decide) hp
  refine kla_eval hdef ?_
  have N0 : News h₀ L s.heap ((114, tabObj ps) :: drop 114 (pre ++ tl)) := fun q hq => by
    rcases List.mem_cons.mp hq with rfl | hq
    · exact N _ (List.mem_append_right _ hm)
    · exact N q (mem_drop.mp hq).1
  refine kla_nest (ccd := .ref 116) F N0 T C rfl (UpdF.head fun q hq => (mem_drop.mp hq).2) ht hnf hcl fun f c' oc vs t ctv h' tk F' N' e1 e2 lt1 lt2 => ?_
  have hlt : ∀ q ∈ pre ++ tl, q.1 < c' := fun q hq => by
    by_cases z : q.1 = 114
    · rw [z]; exact lt1 _ (.head _)
    · exact lt1 q (.tail _ (mem_drop.mpr ⟨hq, z⟩))
  have N2 : News h₀ L h' ((f, kla_obj (Str.ofString "<lambda>") qL params body scope clos ((mg "__name__").getD .none) c' ctv) :: g ((c', oc) :: (114, tabObj (ps ++ #[rawInt pos.line, rawInt pos.col, .ref c'])) :: drop 114 tl)) := by
    intro q hq
    rw [hg] at hq
    rcases List.mem_cons.mp hq with rfl | hq
    · exact N' _ (.head _)
    rcases List.mem_append.mp hq with hq | hq
    · exact N' q (.tail _ (.tail _ (.tail _ (mem_drop.mpr ⟨List.mem_append_left _ hq, hne q hq⟩))))
    rcases List.mem_cons.mp hq with rfl | hq
    · exact N' _ (.tail _ (.head _))
    rcases List.mem_cons.mp hq with rfl | hq
    · exact N' _ (.tail _ (.tail _ (.head _)))
    · exact N' q (.tail _ (.tail _ (.tail _ (mem_drop.mpr ⟨List.mem_append_right _ (mem_drop.mp hq).1, (mem_drop.mp hq).2⟩))))
  have lt3 : ∀ q ∈ g ((c', oc) :: (114, tabObj (ps ++ #[rawInt pos.line, rawInt pos.col, .ref c'])) :: drop 114 tl), q.1 < f := by
    intro q hq
    rw [hg] at hq
    rcases List.mem_append.mp hq with hq | hq
    · exact Nat.lt_trans (hlt q (List.mem_append_left _ hq)) lt2
    rcases List.mem_cons.mp hq with rfl | hq
    · exact lt2
    rcases List.mem_cons.mp hq with rfl | hq
    · exact Nat.lt_trans (lt1 (114, tabObj ps) (.head _)) lt2
    · exact Nat.lt_trans (hlt q (List.mem_append_right _ (mem_drop.mp hq).1)) lt2
  exact h f c' _ ctv _ h' tk F' N2 (fun q hq => Nat.lt_trans (hlt q hq) lt2) lt3 (fun q hq z => .tail _ (.tail _ (mem_drop.mpr ⟨hq, z⟩))) (.tail _ (.head _)) ⟨oc, vs, t, .head _, e1, e2⟩ (fun q hq => hlt q (List.mem_append_right _ hq))
theorem lam_hit {c' : Addr} (F : Fr h₀ L s.heap m) (N : News h₀ L s.heap led) (T : Top p loose mean mg mb h₀) (C : CodeHd h₀ 116 114) (TF : TailF tl led g) (hm : (114, tabObj ps) ∈ tl) (ht : TriplesOk ps.toList) (hf : codeAmong pos ps.toList = some (.ref c'))
    (hdef : defaultsOf params (envX (Str.ofString "_law_told") cs L a (.ref 116) cl) = ([], [])) (hcl : closureFor scope (envX (Str.ofString "_law_told") cs L a (.ref 116) cl) = pure clos)
    (h : ∀ (f : Addr) (pm ct : Value) (h' : Heap) (tk : Nat), Fr h₀ L h' m → News h₀ L h' ((f, kla_obj (Str.ofString "<lambda>") qL params body scope clos pm c' ct) :: g tl) → (∀ q ∈ g tl, q.1 < f) → Q (.ref f) { s with heap := h', toks := tk }) :
    wpAny (model prog w) A (eval (.Lambda params body scope pos) (envX (Str.ofString "_law_told") cs L a (.ref 116) cl)) Q E s := by
  obtain ⟨pre, rfl, hg, hp⟩ := TF.split
  refine kla_eval hdef ?_
  refine kla_hit (ccd := .ref 116) F N T C rfl (List.mem_append_right _ hm) ht hf hcl fun f ctv h' tk F' N' lt1 => ?_
  rw [hg] at h
  exact h f _ ctv h' tk F' N' lt1
end
end Mine
end
section
open PySem PySem.W PyProof.Rows PySem.Spec PySem.Calls PySem.W.X PyProof.V
set_option Elab.async false
set_option maxRecDepth 100000
set_option maxHeartbeats 4000000
set_option linter.unusedVariables false
namespace Mine
theorem CodesP.imp {P R : Addr → Obj → Prop} {k : CodeD} (h : CodesP P k) (f : ∀ a o, (o.cls = .type "code" ∨ ∃ c1 c2 c3 c4 c5 c6, o = tabK c1 c2 c3 c4 c5 c6) → P a o → R a o) : CodesP R k := by
  obtain ⟨a, b, c, d, e, g, i, j⟩ := h
  exact ⟨f _ _ (.inl rfl) a, f _ _ (.inr ⟨_, _, _, _, _, _, rfl⟩) b, f _ _ (.inl rfl) c, f _ _ (.inl rfl) d, f _ _ (.inl rfl) e, f _ _ (.inl rfl) g, f _ _ (.inl rfl) i, f _ _ (.inl rfl) j⟩
/-- the state of cmp_to_key's table -/
noncomputable def S30f (tl : List (Addr × Obj)) (k : CodeD) : Prop := (30, tabObj #[rawInt 52, rawInt 4, .ref k.c]) ∈ tl ∧ CodesP (fun a o => (a, o) ∈ tl) k
noncomputable def S30 (tl : List (Addr × Obj)) : Prop := (30, tabObj #[]) ∈ tl ∨ ∃ k, S30f tl k
noncomputable abbrev ps1 (c1 : Addr) : Array Value := #[rawInt 142, rawInt 40, .ref c1]
noncomputable abbrev ps2 (c1 c2 : Addr) : Array Value := #[rawInt 142, rawInt 40, .ref c1, rawInt 143, rawInt 18, .ref c2]
/-- the states of _law_told's table -/
noncomputable def Z114 (tl : List (Addr × Obj)) : Prop := (114, tabObj #[]) ∈ tl
noncomputable def O114 (tl : List (Addr × Obj)) (c1 : Addr) : Prop := (114, tabObj (ps1 c1)) ∈ tl ∧ LamC tl c1
noncomputable def W114 (tl : List (Addr × Obj)) (c1 c2 : Addr) : Prop := (114, tabObj (ps2 c1 c2)) ∈ tl ∧ LamC tl c1 ∧ LamC tl c2
section
variable {h₀ h : Heap} {L : Addr} {tl tl' led : List (Addr × Obj)} {k : CodeD} {b : Addr}
theorem same_obj (N : News h₀ L h led) {a : Addr} {o o' : Obj} (h1 : (a, o) ∈ led) (h2 : (a, o') ∈ led) : o = o' := Option.some.inj ((N _ h1).1.symm.trans (N _ h2).1)
theorem codes_ne (N : News h₀ L h tl) (H : CodesP (fun a o => (a, o) ∈ tl) k) {ob : Obj} (hb : (b, ob) ∈ tl) (h1 : ob.cls ≠ .type "code") (h2 : ∀ c1 c2 c3 c4 c5 c6, ob ≠ tabK c1 c2 c3 c4 c5 c6) : CodesP (fun a _ => a ≠ b) k :=
  H.imp fun a o hc ho z => by
    subst z
    have := same_obj N ho hb
    subst this
    rcases hc with hc | ⟨c1, c2, c3, c4, c5, c6, hc⟩
    · exact h1 hc
    · exact h2 _ _ _ _ _ _ hc
theorem tab_ne {ps : Array Value} (hs : ps.size ≠ 18) : ∀ c1 c2 c3 c4 c5 c6, tabObj ps ≠ tabK c1 c2 c3 c4 c5 c6 := fun c1 c2 c3 c4 c5 c6 e => by
  have q : Data.fields ps = _ := congrArg Obj.data e
  injection q with q
  rw [q] at hs
  exact hs rfl
theorem codes_both (P : Addr → Obj → Prop) {R T : Addr → Obj → Prop} (h1 : CodesP P k) (h2 : CodesP R k) (f : ∀ a o, P a o → R a o → T a o) : CodesP T k := by
  obtain ⟨a, b, c, d, e, g, i, j⟩ := h1
  obtain ⟨a', b', c', d', e', g', i', j'⟩ := h2
  exact ⟨f _ _ a a', f _ _ b b', f _ _ c c', f _ _ d d', f _ _ e e', f _ _ g g', f _ _ i i', f _ _ j j'⟩
theorem codes_keep (N : News h₀ L h tl) (H : CodesP (fun a o => (a, o) ∈ tl) k) {ps : Array Value} (hb : (b, tabObj ps) ∈ tl) (hs : ps.size ≠ 18) (hk : ∀ q ∈ tl, q.1 ≠ b → q ∈ tl') : CodesP (fun a o => (a, o) ∈ tl') k :=
  codes_both _ H (codes_ne N H hb (by intro q; cases q) (tab_ne hs)) fun a o h1 h2 => hk _ h1 h2
theorem S30.keep (N : News h₀ L h tl) (H : S30 tl) {ps : Array Value} (hb : (114, tabObj ps) ∈ tl) (hs : ps.size ≠ 18) (hk : ∀ q ∈ tl, q.1 ≠ 114 → q ∈ tl') : S30 tl' := by
  rcases H with H | ⟨k, H1, H2⟩
  · exact .inl (hk _ H (by decide))
  · exact .inr ⟨k, hk _ H1 (show (30 : Nat) ≠ 114 by decide), codes_keep N H2 hb hs hk⟩
theorem LamC.keep {c : Addr} (N : News h₀ L h tl) (H : LamC tl c) {ps : Array Value} (hb : (b, tabObj ps) ∈ tl) (hs : ∀ t, ps[1]? ≠ some (.str qL t)) (hk : ∀ q ∈ tl, q.1 ≠ b → q ∈ tl') : LamC tl' c := by
  obtain ⟨oc, vs, t, a, e1, e2⟩ := H
  refine ⟨oc, vs, t, hk _ a fun z => ?_, e1, e2⟩
  subst z
  have := same_obj N a hb
  subst this
  have q : ps = vs := by injection e1
  rw [q] at hs
  exact hs t e2
theorem ps_nostr0 : ∀ t, (#[] : Array Value)[1]? ≠ some (.str qL t) := fun t q => by cases q
theorem ps_nostr1 {x : Int} {v : List Value} {u : Value} : ∀ t, (⟨u :: rawInt x :: v⟩ : Array Value)[1]? ≠ some (.str qL t) := fun t q => by
  have : some (rawInt x) = some (Value.str qL t) := q
  cases this
theorem O114.keep30 {c1 : Addr} (N : News h₀ L h tl) (H : O114 tl c1) {ps : Array Value} (hb : (30, tabObj ps) ∈ tl) (hs : ∀ t, ps[1]? ≠ some (.str qL t)) (hk : ∀ q ∈ tl, q.1 ≠ 30 → q ∈ tl') : O114 tl' c1 :=
  ⟨hk _ H.1 (show (114 : Nat) ≠ 30 by decide), H.2.keep N hb hs hk⟩
theorem W114.keep30 {c1 c2 : Addr} (N : News h₀ L h tl) (H : W114 tl c1 c2) {ps : Array Value} (hb : (30, tabObj ps) ∈ tl) (hs : ∀ t, ps[1]? ≠ some (.str qL t)) (hk : ∀ q ∈ tl, q.1 ≠ 30 → q ∈ tl') : W114 tl' c1 c2 :=
  ⟨hk _ H.1 (show (114 : Nat) ≠ 30 by decide), H.2.1.keep N hb hs hk, H.2.2.keep N hb hs hk⟩
end
section
variable {w : World} {A : Around} {s : Shared} {h₀ : Heap} {L a lam : Addr} {m mg mb : Str → Option Value} {tl led : List (Addr × Obj)} {g : List (Addr × Obj) → List (Addr × Obj)} {mean : ExcName → Option Value} {cs scope : Scope} {cl : List (Str × Addr)} {params : Arguments} {body : Expr} {Q E : Value → Shared → Prop}
noncomputable abbrev env117 (cs : Scope) (L a : Addr) (cl : List (Str × Addr)) : Env := envX (Str.ofString "_law_told") cs L a (.ref 116) cl
theorem news_tail {h : Heap} (N : News h₀ L h led) (TF : TailF tl led g) : News h₀ L h tl := by
  obtain ⟨pre, rfl, _, _⟩ := TF.split
  exact fun q hq => N q (List.mem_append_right _ hq)
/-- the comparison's lambda is made -/
theorem lam1_T {r2 r3 : Nat} (F : Fr h₀ L s.heap m) (N : News h₀ L s.heap led) (T : Top topProg lo mean mg mb h₀) (C : CodeHd h₀ 116 114) (TF : TailF tl led g) (S : Z114 tl ∨ ∃ c1 c2, W114 tl c1 c2) (S' : S30 tl)
    (hdef : defaultsOf params (env117 cs L a cl) = ([], [])) (hcl : closureFor scope (env117 cs L a cl) = pure []) (e1 : params = (lamP w).1) (e2 : body = (lamP w).2.1) (e3 : scope = (lamP w).2.2)
    (h : ∀ (f c' : Addr) (pm ct : Value) (tl' : List (Addr × Obj)) (h' : Heap) (tk : Nat), Fr h₀ L h' m → News h₀ L h' ((f, kla_obj (Str.ofString "<lambda>") qL (lamP w).1 (lamP w).2.1 (lamP w).2.2 [] pm c' ct) :: g tl') → (∀ q ∈ g tl', q.1 < f) → (∀ q ∈ tl, q.1 ≠ 114 → q ∈ tl') →
      (O114 tl' c' ∨ ∃ c2, W114 tl' c' c2) → S30 tl' → Q (.ref f) { s with heap := h', toks := tk }) :
    wpAny (model PR w) A (eval (.Lambda params body scope ⟨142, 40, r2, r3⟩) (env117 cs L a cl)) Q E s := by
  have Nt := news_tail N TF
  rw [← e1, ← e2, ← e3] at h
  rcases S with S | ⟨c1, c2, S1, S2, S3⟩
  · refine lam_new F N T C TF S (by kn_triples) (by kn_among) hdef hcl fun f c' pm ct tl' h' tk F' N' l1 l2 hk hm hc lt => ?_
    exact h f c' pm ct tl' h' tk F' N' l2 hk (.inl ⟨hm, hc⟩) (S'.keep Nt S (by decide) hk)
  · refine lam_hit F N T C TF S1 (by kn_triples) (c' := c1) (by kn_hit) hdef hcl fun f pm ct h' tk F' N' l2 => ?_
    exact h f c1 pm ct tl h' tk F' N' l2 (fun q hq _ => hq) (.inr ⟨c2, S1, S2, S3⟩) S'
/-- the lambda of reduce is made -/
theorem lam2_T {c1 : Addr} {r2 r3 : Nat} (F : Fr h₀ L s.heap m) (N : News h₀ L s.heap led) (T : Top topProg lo mean mg mb h₀) (C : CodeHd h₀ 116 114) (TF : TailF tl led g) (S : O114 tl c1 ∨ ∃ c2, W114 tl c1 c2) (S' : S30 tl)
    (hdef : defaultsOf params (env117 cs L a cl) = ([], [])) (hcl : closureFor scope (env117 cs L a cl) = pure [])
    (h : ∀ (f c' : Addr) (pm ct : Value) (tl' : List (Addr × Obj)) (h' : Heap) (tk : Nat), Fr h₀ L h' m → News h₀ L h' ((f, kla_obj (Str.ofString "<lambda>") qL params body scope [] pm c' ct) :: g tl') → (∀ q ∈ g tl', q.1 < f) → (∀ q ∈ tl, q.1 ≠ 114 → q ∈ tl') →
      W114 tl' c1 c' → S30 tl' → Q (.ref f) { s with heap := h', toks := tk }) :
    wpAny (model PR w) A (eval (.Lambda params body scope ⟨143, 18, r2, r3⟩) (env117 cs L a cl)) Q E s := by
  have Nt := news_tail N TF
  rcases S with ⟨S1, S2⟩ | ⟨c2, S1, S2, S3⟩
  · refine lam_new F N T C TF S1 (by kn_triples) (by kn_among) hdef hcl fun f c' pm ct tl' h' tk F' N' l1 l2 hk hm hc lt => ?_
    exact h f c' pm ct tl' h' tk F' N' l2 hk ⟨hm, S2.keep Nt S1 ps_nostr1 hk, hc⟩ (S'.keep Nt S1 (show (3 : Nat) ≠ 18 by decide) hk)
  · refine lam_hit F N T C TF S1 (by kn_triples) (c' := c2) (by kn_hit) hdef hcl fun f pm ct h' tk F' N' l2 => ?_
    exact h f c2 pm ct tl h' tk F' N' l2 (fun q hq _ => hq) ⟨S1, S2, S3⟩ S'
/-- cmp_to_key -/
theorem ctk_T {c' : Addr} {oL : Obj} (hA : A.handled = none) (hdp : A.depth ≤ 500) (hun : A.units ≤ 3000) (F : Fr h₀ L s.heap m) (N : News h₀ L s.heap led) (V : EnvK w h₀) (C : CodeHd h₀ 34 30) (TF : TailF tl led g) (S : S30 tl) (S1 : O114 tl c' ∨ ∃ c2, W114 tl c' c2) (hl : (lam, oL) ∈ led) (hc : hasCls oL = true) (hlt : ∀ q ∈ tl, q.1 < lam)
    (h : ∀ (K : Addr) (k : CodeD) (tl' : List (Addr × Obj)) (h' : Heap) (tk : Nat), Fr h₀ L h' m → News h₀ L h' (g tl') → (∀ q ∈ tl, q.1 ≠ 30 → q ∈ tl') → S30f tl' k → (O114 tl' c' ∨ ∃ c2, W114 tl' c' c2) → ClassP w (fun a o => (a, o) ∈ tl') k.c1 k.c2 K lam → Q (.ref K) { s with heap := h', toks := tk }) :
    wpAny (model PR w) A (call (.ref 35) [.ref lam]) Q E s := by
  have Nt := news_tail N TF
  obtain ⟨pre, rfl, hg, hp⟩ := TF.split
  rcases S with S | ⟨k, S2, S3⟩
  · have hne := pre_ne N S (by decide) hp
    refine ctk_first hA hdp hun F V C N (List.mem_append_right _ S) hl (hlt _ S) fun K k h' tk' F' hk h30 hcd hcl => ?_
    obtain ⟨l1, N1, D1⟩ := hcd.list
    obtain ⟨l2, N2, D2⟩ := hcl.list
    have hkt : ∀ q ∈ tl, q.1 ≠ 30 → q ∈ (30, tabObj #[rawInt 52, rawInt 4, .ref k.c]) :: (drop 30 tl ++ (l1 ++ l2)) := fun q hq z => .tail _ (List.mem_append_left _ (mem_drop.mpr ⟨hq, z⟩))
    refine h K k ((30, tabObj #[rawInt 52, rawInt 4, .ref k.c]) :: (drop 30 tl ++ (l1 ++ l2))) h' tk' F' ?_ hkt ⟨.head _, D1.mono fun a o q => .tail _ (List.mem_append_right _ (List.mem_append_left _ q))⟩ ?_ (D2.mono fun a o q => .tail _ (List.mem_append_right _ (List.mem_append_right _ q)))
    · intro q hq
      rw [hg] at hq
      rcases List.mem_append.mp hq with hq | hq
      · have nq := N q (List.mem_append_left _ hq)
        exact ⟨hk q (List.mem_append_left _ hq) (hne q hq), nq.2⟩
      rcases List.mem_cons.mp hq with rfl | hq
      · exact h30
      rcases List.mem_append.mp hq with hq | hq
      · have q1 := (mem_drop.mp hq).1
        have nq := N q (List.mem_append_right _ q1)
        exact ⟨hk q (List.mem_append_right _ q1) (mem_drop.mp hq).2, nq.2⟩
      rcases List.mem_append.mp hq with hq | hq
      · exact N1 q hq
      · exact N2 q hq
    · rcases S1 with S1 | ⟨c2, S1⟩
      · exact .inl (S1.keep30 Nt S ps_nostr0 hkt)
      · exact .inr ⟨c2, S1.keep30 Nt S ps_nostr0 hkt⟩
  · refine ctk_later hA hdp hun F V C N k (List.mem_append_right _ S2) (S3.mono fun a o q => List.mem_append_right _ q) (S3.mono fun a o q => Nat.ne_of_lt (hlt _ q)) hl (hlt _ S2) fun K h' tk' F' hk hcl => ?_
    obtain ⟨l2, N2, D2⟩ := hcl.list
    refine h K k (tl ++ l2) h' tk' F' ?_ (fun q hq _ => List.mem_append_left _ hq) ⟨List.mem_append_left _ S2, S3.mono fun a o q => List.mem_append_left _ q⟩ ?_ (D2.mono fun a o q => List.mem_append_right _ q)
    · intro q hq
      rw [hg] at hq
      rcases List.mem_append.mp hq with hq | hq
      · exact ⟨hk q (List.mem_append_left _ hq), (N q (List.mem_append_left _ hq)).2⟩
      rcases List.mem_append.mp hq with hq | hq
      · exact ⟨hk q (List.mem_append_right _ hq), (N q (List.mem_append_right _ hq)).2⟩
      · exact N2 q hq
    · rcases S1 with ⟨q1, q2⟩ | ⟨c2, q1, q2, q3⟩
      · exact .inl ⟨List.mem_append_left _ q1, by obtain ⟨oc, vs, t, x, y⟩ := q2; exact ⟨oc, vs, t, List.mem_append_left _ x, y⟩⟩
      · exact .inr ⟨c2, List.mem_append_left _ q1, by obtain ⟨oc, vs, t, x, y⟩ := q2; exact ⟨oc, vs, t, List.mem_append_left _ x, y⟩, by obtain ⟨oc, vs, t, x, y⟩ := q3; exact ⟨oc, vs, t, List.mem_append_left _ x, y⟩⟩
theorem t114_lt {x : Addr} (S : Z114 tl ∨ ∃ c1 c2, W114 tl c1 c2) (h : ∀ q ∈ tl, q.1 < x) : 114 < x := by
  rcases S with S | ⟨_, _, S, _⟩
  · exact h _ S
  · exact h _ S
theorem lamC_of {tl : List (Addr × Obj)} {c' : Addr} (S1 : O114 tl c' ∨ ∃ c2, W114 tl c' c2) : LamC tl c' := by
  rcases S1 with ⟨_, q⟩ | ⟨_, _, q, _⟩ <;> exact q
theorem allK_of {k : CodeD} {K c' : Addr} {pm ct : Value} (TF : TailF tl led g) (H1 : ClassP w (fun a o => (a, o) ∈ tl) k.c1 k.c2 K lam) (H2 : S30f tl k) (H3 : O114 tl c' ∨ ∃ c2, W114 tl c' c2)
    (hl : (lam, kla_obj (Str.ofString "<lambda>") qL (lamP w).1 (lamP w).2.1 (lamP w).2.2 [] pm c' ct) ∈ led) : AllK w (fun a o => (a, o) ∈ led) k K lam := by
  obtain ⟨pre, rfl, _, _⟩ := TF.split
  obtain ⟨oc, vs, t, b1, b2, b3⟩ := lamC_of H3
  exact ⟨H1.mono fun a o q => List.mem_append_right _ q, H2.2.mono fun a o q => List.mem_append_right _ q, c', qL, pm, ct, oc, vs, t, hl, List.mem_append_right _ b1, b2, b3⟩
end
end Mine
end
section
open PySem PySem.W PyProof.Rows PySem.Spec PySem.Calls PySem.W.X
set_option maxRecDepth 100000
set_option linter.unusedVariables false
namespace Mine
noncomputable def lamOf2 : Option Stmt → Arguments × Expr × Scope
  | some (.Assign _ (.Call _ [.Lambda p b sc _, _] _ _) _) => (p, b, sc)
  | _ => (default, default, default)
/-- the lambda of reduce, taken from the given heap -/
noncomputable def lamP2 (w : World) : Arguments × Expr × Scope := lamOf2 ((stmtsOf ((hd.heap_1 w.params).lookup 117))[4]?)
theorem zlt (a b : Int) : a < b ∨ a = b ∨ b < a := by omega
end Mine
end
section
open PySem PySem.W PyProof.Rows PySem.Spec PySem.Calls PySem.W.X PySem.W.XRun
set_option Elab.async false
set_option maxRecDepth 100000
set_option maxHeartbeats 0
set_option linter.unusedVariables false
namespace Mine
theorem lamCall {α : Type} {A' : Around} {E' : Value → Shared → Prop} {w : World} {h₀ : Heap} {g : Array GenState} {d : Drawn} {os : OsState} (X : (hd.heap_1 w.params).In h₀) {mb : Str → Option Value} (hNB : h₀.Ns builtinsNs mb) (hMB : ∀ x : Str, x ≠ "__name__" → mb x = bootBuiltins x) {sl4 : Array (Option Value)} (h4 : h₀.get? 4 = some ⟨.type "module", some builtinsNs, .plain, sl4⟩)
   {lam cc ra rb b0 res : Addr} {x y : Int} {na nb : Str} {ua va ub vb : Tok} {cK ct : Value} {qual : Str} {cO cD : Value} {dO : Option Addr} {lO : List Value} {tO : Tok} {sO : Array (Option Value)} {r : List (Addr × Obj)} {fut : List Addr} {tk : Tok} {k : Value → Sem α} {Q : α → Shared → Prop} {E : Value → Shared → Prop}
   (hlam : h₀.get? lam = some (PySem.W.kla_obj (Str.ofString "<lambda>") qual (lamP2 w).1 (lamP2 w).2.1 (lamP2 w).2.2 [] cK cc ct)) (hcc : h₀.get? cc = some ⟨cO, dO, .fields ⟨cD :: .str qual tO :: lO⟩, sO⟩)
   (hpa : h₀.get? ra = some (tupO x na ua va)) (hpb : h₀.get? rb = some (tupO y nb ub vb)) (hnn : ¬ nb = na) (hres : (res = rb ∧ (y < x ∨ (y = x ∧ nb.cps.toList < na.cps.toList))) ∨ (res = ra ∧ (x < y ∨ (y = x ∧ ¬ nb.cps.toList < na.cps.toList)))) 
   (HX : ∀ (o0 : Obj) (tk' : Tok), Go ⟨PG, w, h₀, g, d, os⟩ A' ⟨[], (b0, o0) :: r, fut, tk'⟩ (k (.ref res)) Q E') :
    Go ⟨PG, w, h₀, g, d, os⟩ (AA 508 3128) ⟨[], r, b0 :: fut, tk⟩ (call (.ref lam) [.ref ra, .ref rb] []) (fun a s' => wpAny (model PG w) A' (k a) Q E' s') E := by
  have hL : lamP2 w = lamP2 w := rfl
  conv at hL => rhs; whnf
  rw [hL] at hlam
  dsimp only at hlam
  k_with_none
  k_with "y0" => (refine' g_call ?e ?c ?w ?u ?_; (case e => exact rfl); (case c => (conv => lhs; whnf) <;> exact rfl); (case w => exact Nat.le_of_ble_eq_true rfl); (case u => exact Nat.le_of_ble_eq_true rfl))
  k_with "y1" => (refine' g_fresh ?e ?_; (case e => exact rfl))
  k_with "y2" => (refine' g_load ?e 0 ?h ?_; (case e => exact rfl); (case h => exact rfl))
  k_with "y3" => (refine' g_up0 ?e ?o ?f ?_; (case e => exact rfl); (case o => (conv => lhs; whnf; arg 3; whnf; (try (arg 1; whnf; (try (arg 1; whnf; (try (arg 2; whnf; (try (arg 2; whnf; (try (arg 2; whnf; (try (arg 2; whnf; (try (arg 2; whnf; (try (arg 2; whnf; (try (arg 2; whnf; (try (arg 2; whnf; (try (arg 2; whnf; (try (arg 2; whnf; (try (arg 2; whnf; (try (arg 2; whnf; (try (arg 2; whnf; (try (arg 2; whnf; (try (arg 2; whnf; (try (arg 2; whnf; (try (arg 2; whnf; (try (arg 2; whnf))))))))))))))))))))))))))))))))))))))))) <;> exact rfl); (case f => exact rfl))
  k_with "y4" => (refine' g_bind ?e ?_; (case e => exact rfl))
  k_with "y5" => (refine' g_pureB ?e ?_; (case e => exact rfl))
  k_with "y6" => (refine' g_keep ?e ?_; (case e => exact rfl))
  k_with "y7" => (refine' g_holding ?e ?_; (case e => exact rfl))
  k_with "y8" => (refine' g_old ?e ?h ?w ?_; (case e => exact rfl); (case h => exact hpb); (case w => exact rfl))
  k_with "y9" => (refine' g_old ?e ?h ?w ?_; (case e => exact rfl); (case h => exact hpa); (case w => exact rfl))
  k_with "y10" => (refine' g_again ?e ?c ?q ?w ?u ?_; (case e => exact rfl); (case c => (conv => lhs; whnf) <;> exact rfl); (case q => kernel_rfl); (case w => exact Nat.le_of_ble_eq_true rfl); (case u => exact Nat.le_of_ble_eq_true rfl))
  k_with "y11" => (refine' g_builtin ?e ?b ?_; (case e => exact rfl); (case b => exact rfl))
  k_with "y12" => (refine' g_condF ?e ?b ?_; (case e => exact rfl); (case b => decide))
  k_with "y13" => (refine' g_condTry ?e ?_; (case e => exact rfl))
  k_with "y14" => (refine' g_chkLit ?e ?b ?_; (case e => exact rfl); (case b => (refine Eq.trans (b := "int.__lt__") ?_ rfl; decide +kernel)))
  k_with "y15" => (refine' g_done ?e ?_; (case e => exact rfl))
  k_with "y16" => (refine' g_condF ?e ?b ?_; (case e => exact rfl); (case b => (rw [zbT hxy]; rfl)))
  k_with "y17" => (refine' g_eqStr ?e ?_; (case e => exact rfl))
  k_with "y18" => (refine' g_condT ?e ?b ?_; (case e => exact rfl); (case b => (rw [zdF hnn]; rfl)))
  k_with "y19" => (refine' g_chkLit ?e ?b ?_; (case e => exact rfl); (case b => (refine Eq.trans (b := "str.__lt__") ?_ rfl; decide +kernel)))
  k_extra "y0"
  (refine' g_old ?e ?h ?w ?_; (case e => exact rfl); (case h => exact hlam); (case w => exact rfl))
  (refine' g_old ?e ?h ?w ?_; (case e => exact rfl); (case h => exact hcc); (case w => exact Bool.or_true _))
  (refine' g_alloc ?e ?f ?_; (case e => exact rfl); (case f => exact rfl))
  k_extra "y1"
  k_extra "y2"
  k_extra "y3"
  k_extra "y1"
  k_extra "y2"
  k_extra "y3"
  k_extra "y4"
  k_extra "y5"
  k_extra "y4"
  (refine' g_enter ?e ?l ?o ?w ?d ?_; (case e => exact rfl); (case l => exact X _ _ rfl); (case o => rfl); (case w => exact rfl); (case d => exact Nat.le_of_ble_eq_true rfl))
  (refine' g_again ?e ?c ?q ?w ?u ?_; (case e => exact rfl); (case c => (conv => lhs; whnf) <;> exact rfl); (case q => rfl); (case w => exact Nat.le_of_ble_eq_true rfl); (case u => exact Nat.le_of_ble_eq_true rfl))
  k_extra "y2"
  k_extra "y2"
  k_extra "y4"
  (refine' g_onRaise ?e ?_; (case e => exact rfl))
  k_extra "y4"
  k_extra "y4"
  k_extra "y6"
  k_extra "y5"
  k_extra "y4"
  k_extra "y5"
  k_extra "y4"
  k_extra "y4"
  k_extra "y7"
  (refine' g_holding ?e ?_; (case e => unfold PySem.compareOp; exact rfl))
  k_extra "y4"
  (refine' g_croom ?e ?u ?_; (case e => exact rfl); (case u => exact Nat.le_of_ble_eq_true rfl))
  k_extra "y8"
  k_extra "y9"
  k_extra "y8"
  k_extra "y4"
  k_extra "y4"
  k_extra "y6"
  k_extra "y4"
  k_extra "y4"
  k_extra "y5"
  k_extra "y4"
  k_extra "y5"
  (refine' g_iteTry ?e ?_; (case e => exact rfl))
  k_extra "y5"
  k_extra "y0"
  k_extra "y4"
  (refine' g_chkLit ?e ?b ?_; (case e => exact rfl); (case b => (refine Eq.trans (b := "tuple.__lt__") ?_ rfl; decide +kernel)))
  k_extra "y8"
  k_extra "y5"
  k_extra "y10"
  k_extra "y11"
  k_extra "y9"
  k_extra "y8"
  k_extra "y9"
  k_extra "y4"
  k_extra "y5"
  k_extra "y4"
  k_extra "y4"
  k_extra "y4"
  (refine' g_eqInt ?e ?_; (case e => exact rfl))
  rcases hres with ⟨rfl, hxy | ⟨hxy, hb2⟩⟩ | ⟨rfl, hxy | ⟨hxy, hb2⟩⟩
  ·
    (refine' g_condT ?e ?b ?_; (case e => exact rfl); (case b => first | (rw [zbF (Int.ne_of_lt hxy)]; rfl) | exact zdT hxy))
    k_extra "y4"
    k_extra "y5"
    k_extra "y4"
    k_extra "y7"
    k_extra "y4"
    k_extra "y5"
    k_extra "y4"
    k_extra "y5"
    k_extra "y4"
    k_extra "y5"
    k_extra "y12"
    k_extra "y4"
    k_extra "y5"
    k_extra "y12"
    k_extra "y4"
    k_extra "y4"
    k_extra "y7"
    k_extra "y4"
    k_extra "y4"
    k_extra "y5"
    k_extra "y4"
    k_extra "y5"
    k_extra "y13"
    k_extra "y5"
    k_extra "y0"
    k_extra "y4"
    k_extra "y14"
    k_extra "y5"
    k_extra "y10"
    k_extra "y11"
    k_extra "y15"
    k_extra "y5"
    k_extra "y5"
    k_extra "y5"
    k_extra "y5"
    k_extra "y5"
    k_extra "y15"
    k_extra "y5"
    k_extra "y5"
    k_extra "y5"
    k_extra "y5"
    k_extra "y5"
    (refine' g_iteT ?e ?b ?_; (case e => exact rfl); (case b => exact zrT hxy))
    k_extra "y2"
    k_extra "y5"
    k_extra "y15"
    k_extra "y5"
    exact HX _ _
  ·
    k_extra "y16"
    k_extra "y5"
    k_extra "y4"
    k_extra "y4"
    k_extra "y17"
    k_extra "y18"
    k_extra "y4"
    k_extra "y5"
    k_extra "y4"
    k_extra "y7"
    k_extra "y4"
    k_extra "y5"
    k_extra "y4"
    k_extra "y5"
    k_extra "y4"
    k_extra "y5"
    k_extra "y12"
    k_extra "y4"
    k_extra "y5"
    k_extra "y12"
    k_extra "y4"
    k_extra "y4"
    k_extra "y7"
    k_extra "y4"
    k_extra "y4"
    k_extra "y5"
    k_extra "y4"
    k_extra "y5"
    k_extra "y13"
    k_extra "y5"
    k_extra "y0"
    k_extra "y4"
    k_extra "y19"
    k_extra "y5"
    k_extra "y10"
    k_extra "y11"
    k_extra "y15"
    k_extra "y5"
    k_extra "y5"
    k_extra "y5"
    k_extra "y5"
    k_extra "y5"
    k_extra "y15"
    k_extra "y5"
    k_extra "y5"
    k_extra "y5"
    k_extra "y5"
    k_extra "y5"
    (refine' g_iteT ?e ?b ?_; (case e => exact rfl); (case b => exact zrT hb2))
    k_extra "y2"
    k_extra "y5"
    k_extra "y15"
    k_extra "y5"
    exact HX _ _
  ·
    (refine' g_condT ?e ?b ?_; (case e => exact rfl); (case b => first | (rw [zbF (Int.ne_of_gt hxy)]; rfl) | exact zdF (Int.not_lt.mpr (Int.le_of_lt hxy))))
    k_extra "y4"
    k_extra "y5"
    k_extra "y4"
    k_extra "y7"
    k_extra "y4"
    k_extra "y5"
    k_extra "y4"
    k_extra "y5"
    k_extra "y4"
    k_extra "y5"
    k_extra "y12"
    k_extra "y4"
    k_extra "y5"
    k_extra "y12"
    k_extra "y4"
    k_extra "y4"
    k_extra "y7"
    k_extra "y4"
    k_extra "y4"
    k_extra "y5"
    k_extra "y4"
    k_extra "y5"
    k_extra "y13"
    k_extra "y5"
    k_extra "y0"
    k_extra "y4"
    k_extra "y14"
    k_extra "y5"
    k_extra "y10"
    k_extra "y11"
    k_extra "y15"
    k_extra "y5"
    k_extra "y5"
    k_extra "y5"
    k_extra "y5"
    k_extra "y5"
    k_extra "y15"
    k_extra "y5"
    k_extra "y5"
    k_extra "y5"
    k_extra "y5"
    k_extra "y5"
    (refine' g_iteF ?e ?b ?_; (case e => exact rfl); (case b => exact zrF (Int.not_lt.mpr (Int.le_of_lt hxy))))
    k_extra "y2"
    k_extra "y5"
    k_extra "y15"
    k_extra "y5"
    exact HX _ _
  ·
    k_extra "y16"
    k_extra "y5"
    k_extra "y4"
    k_extra "y4"
    k_extra "y17"
    k_extra "y18"
    k_extra "y4"
    k_extra "y5"
    k_extra "y4"
    k_extra "y7"
    k_extra "y4"
    k_extra "y5"
    k_extra "y4"
    k_extra "y5"
    k_extra "y4"
    k_extra "y5"
    k_extra "y12"
    k_extra "y4"
    k_extra "y5"
    k_extra "y12"
    k_extra "y4"
    k_extra "y4"
    k_extra "y7"
    k_extra "y4"
    k_extra "y4"
    k_extra "y5"
    k_extra "y4"
    k_extra "y5"
    k_extra "y13"
    k_extra "y5"
    k_extra "y0"
    k_extra "y4"
    k_extra "y19"
    k_extra "y5"
    k_extra "y10"
    k_extra "y11"
    k_extra "y15"
    k_extra "y5"
    k_extra "y5"
    k_extra "y5"
    k_extra "y5"
    k_extra "y5"
    k_extra "y15"
    k_extra "y5"
    k_extra "y5"
    k_extra "y5"
    k_extra "y5"
    k_extra "y5"
    (refine' g_iteF ?e ?b ?_; (case e => exact rfl); (case b => exact zrF hb2))
    k_extra "y2"
    k_extra "y5"
    k_extra "y15"
    k_extra "y5"
    exact HX _ _
theorem red (w : World) (h₀ h : Heap) (g : Array GenState) (d : Drawn) (tk : Nat) (os : OsState) (D : Mem h₀ h [] []) (Q : Value → Shared → Prop) (E : Value → Shared → Prop) (lam cc nr r1 r2 r3 : Addr) (x y z : Int) (u1 v1 u2 v2 u3 v3 : Tok) (c : Nat) (cK ct : Value) (qual : Str)
   (X : (hd.heap_1 w.params).In h₀) (mb : Str → Option Value) (hNB : h₀.Ns builtinsNs mb) (hMB : ∀ x : Str, x ≠ "__name__" → mb x = bootBuiltins x) (sl4 : Array (Option Value)) (h4 : h₀.get? 4 = some ⟨.type "module", some builtinsNs, .plain, sl4⟩) (cO cD : Value) (dO : Option Addr) (lO : List Value) (tO : Tok) (sO : Array (Option Value))
   (hlam : h₀.get? lam = some (PySem.W.kla_obj (Str.ofString "<lambda>") qual (lamP2 w).1 (lamP2 w).2.1 (lamP2 w).2.2 [] cK cc ct)) (hcc : h₀.get? cc = some ⟨cO, dO, .fields ⟨cD :: .str qual tO :: lO⟩, sO⟩)
   (hnear : h₀.get? nr = some { cls := .type "list", data := .seq #[.ref r1, .ref r2, .ref r3] c }) (hp1 : h₀.get? r1 = some (tupO x (Str.ofString "link") u1 v1)) (hp2 : h₀.get? r2 = some (tupO y (Str.ofString "pipe") u2 v2)) (hp3 : h₀.get? r3 = some (tupO z (Str.ofString "file") u3 v3))
   (hq : ∀ (r : Addr) (h' : Heap) (tk' : Nat) (news : List (Addr × Obj)), r = (if y < x then (if z ≤ y then r3 else r2) else (if z ≤ x then r3 else r1)) → Mem h₀ h' [] news → Q (.ref r) ⟨h', g, d, tk', os⟩) :
    wpAny (model PG w) (AA 500 3000) (call (.ref 44) [.ref lam, .ref nr]) Q E ⟨h, g, d, tk, os⟩ := by
  obtain ⟨kr, kx, kn, ku, kv, hk, hres1, hkn, hkl, hkv⟩ : ∃ (kr : Addr) (kx : Int) (kn : Str) (ku kv : Tok), h₀.get? kr = some (tupO kx kn ku kv) ∧ ((kr = r2 ∧ (y < x ∨ (y = x ∧ (Str.ofString "pipe").cps.toList < (Str.ofString "link").cps.toList))) ∨ (kr = r1 ∧ (x < y ∨ (y = x ∧ ¬ (Str.ofString "pipe").cps.toList < (Str.ofString "link").cps.toList)))) ∧ ¬ Str.ofString "file" = kn ∧ (Str.ofString "file").cps.toList < kn.cps.toList ∧ ((y < x ∧ kr = r2 ∧ kx = y) ∨ (¬ y < x ∧ kr = r1 ∧ kx = x)) := by
    rcases zlt y x with h | h | h
    · exact ⟨r2, y, _, _, _, hp2, .inl ⟨rfl, .inl h⟩, by decide, by decide, .inl ⟨h, rfl, rfl⟩⟩
    · exact ⟨r1, x, _, _, _, hp1, .inr ⟨rfl, .inr ⟨h, by decide⟩⟩, by decide, by decide, .inr ⟨by omega, rfl, rfl⟩⟩
    · exact ⟨r1, x, _, _, _, hp1, .inr ⟨rfl, .inl h⟩, by decide, by decide, .inr ⟨by omega, rfl, rfl⟩⟩
  obtain ⟨fr, hres2, hfr⟩ : ∃ fr : Addr, ((fr = r3 ∧ (z < kx ∨ (z = kx ∧ (Str.ofString "file").cps.toList < kn.cps.toList))) ∨ (fr = kr ∧ (kx < z ∨ (z = kx ∧ ¬ (Str.ofString "file").cps.toList < kn.cps.toList)))) ∧ fr = (if z ≤ kx then r3 else kr) := by
    rcases zlt z kx with h | h | h
    · exact ⟨r3, .inl ⟨rfl, .inl h⟩, (if_pos (Int.le_of_lt h)).symm⟩
    · exact ⟨r3, .inl ⟨rfl, .inr ⟨h, hkl⟩⟩, (if_pos (Int.le_of_eq h)).symm⟩
    · exact ⟨kr, .inr ⟨rfl, .inl h⟩, (if_neg (Int.not_le.mpr h)).symm⟩
  refine go_fut24 (c := ⟨PG, w, h₀, g, d, os⟩) D ?_
  intro a0 a1 a2 a3 a4 a5 a6 a7 a8 a9 a10 a11 a12 a13 a14 a15 a16 a17 a18 a19 a20 a21 a22 a23
  clear D
  k_with_none
  k_with "z0" => (refine' g_call ?e ?c ?w ?u ?_; (case e => exact rfl); (case c => (conv => lhs; whnf) <;> exact rfl); (case w => exact Nat.le_of_ble_eq_true rfl); (case u => exact Nat.le_of_ble_eq_true rfl))
  k_with "z1" => (refine' g_old ?e ?h ?w ?_; (case e => exact rfl); (case h => exact X _ _ rfl); (case w => exact rfl))
  k_with "z2" => (refine' g_alloc ?e ?f ?_; (case e => exact rfl); (case f => exact rfl))
  k_with "z3" => (refine' g_fresh ?e ?_; (case e => exact rfl))
  k_with "z4" => (refine' g_load ?e 0 ?h ?_; (case e => exact rfl); (case h => exact rfl))
  k_with "z5" => (refine' g_up0 ?e ?o ?f ?_; (case e => exact rfl); (case o => (conv => lhs; whnf; arg 3; whnf; (try (arg 1; whnf; (try (arg 1; whnf; (try (arg 2; whnf; (try (arg 2; whnf; (try (arg 2; whnf; (try (arg 2; whnf; (try (arg 2; whnf; (try (arg 2; whnf; (try (arg 2; whnf; (try (arg 2; whnf; (try (arg 2; whnf; (try (arg 2; whnf; (try (arg 2; whnf; (try (arg 2; whnf; (try (arg 2; whnf; (try (arg 2; whnf; (try (arg 2; whnf; (try (arg 2; whnf; (try (arg 2; whnf; (try (arg 2; whnf))))))))))))))))))))))))))))))))))))))))) <;> exact rfl); (case f => exact rfl))
  k_with "z6" => (refine' g_bind ?e ?_; (case e => exact rfl))
  k_with "z7" => (refine' g_pureB ?e ?_; (case e => exact rfl))
  k_with "z8" => (refine' g_again ?e ?c ?q ?w ?u ?_; (case e => exact rfl); (case c => (conv => lhs; whnf) <;> exact rfl); (case q => rfl); (case w => exact Nat.le_of_ble_eq_true rfl); (case u => exact Nat.le_of_ble_eq_true rfl))
  k_with "z9" => (refine' g_onRaise ?e ?_; (case e => exact rfl))
  k_with "z10" => (refine' g_builtin ?e ?b ?_; (case e => exact rfl); (case b => exact rfl))
  k_with "z11" => (refine' g_old ?e ?h ?w ?_; (case e => exact rfl); (case h => exact hnear); (case w => exact rfl))
  k_with "z12" => (refine' g_keep ?e ?_; (case e => exact rfl))
  k_with "z13" => (refine' g_again ?e ?c ?q ?w ?u ?_; (case e => exact rfl); (case c => (conv => lhs; whnf) <;> exact rfl); (case q => kernel_rfl); (case w => exact Nat.le_of_ble_eq_true rfl); (case u => exact Nat.le_of_ble_eq_true rfl))
  k_with "z14" => (refine' g_done ?e ?_; (case e => exact rfl))
  k_with "z15" => (refine' g_load ?e 1 ?h ?_; (case e => exact rfl); (case h => exact rfl))
  k_with "z16" => (refine' g_up1 ?e ?o ?f ?_; (case e => exact rfl); (case o => (conv => lhs; whnf; arg 3; whnf; (try (arg 1; whnf; (try (arg 1; whnf; (try (arg 2; whnf; (try (arg 2; whnf; (try (arg 2; whnf; (try (arg 2; whnf; (try (arg 2; whnf; (try (arg 2; whnf; (try (arg 2; whnf; (try (arg 2; whnf; (try (arg 2; whnf; (try (arg 2; whnf; (try (arg 2; whnf; (try (arg 2; whnf; (try (arg 2; whnf; (try (arg 2; whnf; (try (arg 2; whnf; (try (arg 2; whnf; (try (arg 2; whnf; (try (arg 2; whnf))))))))))))))))))))))))))))))))))))))))) <;> exact rfl); (case f => exact rfl))
  k_with "z17" => (refine' g_tryCatch ?e ?_; (case e => exact rfl))
  k_with "z18" => (refine' g_chkLit ?e ?b ?_; (case e => exact rfl); (case b => (refine Eq.trans (b := "list_iterator.__next__") ?_ rfl; decide +kernel)))
  k_with "z19" => (refine' g_old ?e ?h ?w ?_; (case e => exact rfl); (case h => exact hlam); (case w => exact rfl))
  k_with "z20" => (refine' g_iteF ?e ?b ?_; (case e => exact rfl); (case b => exact of_decide_eq_false rfl))
  k_with "z21" => (refine' g_load ?e 2 ?h ?_; (case e => exact rfl); (case h => exact rfl))
  k_with "z22" => (refine' g_up2 ?e ?o ?f ?_; (case e => exact rfl); (case o => (conv => lhs; whnf; arg 3; whnf; (try (arg 1; whnf; (try (arg 1; whnf; (try (arg 2; whnf; (try (arg 2; whnf; (try (arg 2; whnf; (try (arg 2; whnf; (try (arg 2; whnf; (try (arg 2; whnf; (try (arg 2; whnf; (try (arg 2; whnf; (try (arg 2; whnf; (try (arg 2; whnf; (try (arg 2; whnf; (try (arg 2; whnf; (try (arg 2; whnf; (try (arg 2; whnf; (try (arg 2; whnf; (try (arg 2; whnf; (try (arg 2; whnf; (try (arg 2; whnf))))))))))))))))))))))))))))))))))))))))) <;> exact rfl); (case f => exact rfl))
  k_extra "z0"
  k_extra "z1"
  k_extra "z1"
  k_extra "z1"
  k_extra "z2"
  k_extra "z3"
  k_extra "z4"
  k_extra "z5"
  k_extra "z3"
  k_extra "z4"
  k_extra "z5"
  k_extra "z3"
  k_extra "z4"
  k_extra "z5"
  k_extra "z6"
  k_extra "z7"
  k_extra "z6"
  (refine' g_enter ?e ?l ?o ?w ?d ?_; (case e => exact rfl); (case l => exact X _ _ rfl); (case o => rfl); (case w => exact rfl); (case d => exact Nat.le_of_ble_eq_true rfl))
  k_extra "z8"
  k_extra "z1"
  k_extra "z6"
  k_extra "z9"
  k_extra "z6"
  k_extra "z6"
  k_extra "z6"
  k_extra "z6"
  k_extra "z7"
  k_extra "z6"
  (refine' g_nsB ?e hNB ?w ?m ?_; (case e => exact rfl); (case w => rfl); (case m => exact (hMB _ (by decide)).trans bb3))
  k_extra "z7"
  k_extra "z4"
  k_extra "z0"
  k_extra "z8"
  k_extra "z10"
  k_extra "z11"
  k_extra "z11"
  k_extra "z6"
  k_extra "z6"
  k_extra "z12"
  k_extra "z6"
  k_extra "z6"
  k_extra "z7"
  k_extra "z6"
  k_extra "z7"
  (refine' g_condTry ?e ?_; (case e => exact rfl))
  k_extra "z7"
  k_extra "z0"
  k_extra "z6"
  (refine' g_chkLit ?e ?b ?_; (case e => exact rfl); (case b => (refine Eq.trans (b := "list.__iter__") ?_ rfl; decide +kernel)))
  k_extra "z11"
  k_extra "z7"
  k_extra "z13"
  k_extra "z10"
  k_extra "z2"
  k_extra "z14"
  k_extra "z7"
  k_extra "z4"
  k_extra "z7"
  k_extra "z14"
  k_extra "z7"
  k_extra "z3"
  k_extra "z15"
  k_extra "z16"
  k_extra "z7"
  k_extra "z15"
  k_extra "z1"
  k_extra "z6"
  k_extra "z6"
  k_extra "z6"
  k_extra "z12"
  k_extra "z7"
  k_extra "z7"
  (refine' g_iteT ?e ?b ?_; (case e => exact rfl); (case b => decide))
  k_extra "z6"
  ((refine g_skim ?_); (conv => enter [4]; whnf); (refine' g_old ?e ?h ?w ?_; (case e => exact rfl); (case h => exact X _ _ rfl); (case w => exact rfl)))
  k_extra "z6"
  k_extra "z17"
  k_extra "z6"
  k_extra "z6"
  k_extra "z6"
  k_extra "z6"
  k_extra "z6"
  k_extra "z7"
  k_extra "z6"
  (refine' g_nsB ?e hNB ?w ?m ?_; (case e => exact rfl); (case w => rfl); (case m => exact (hMB _ (by decide)).trans bb4))
  k_extra "z7"
  k_extra "z15"
  k_extra "z0"
  k_extra "z8"
  k_extra "z10"
  k_extra "z4"
  k_extra "z4"
  k_extra "z0"
  k_extra "z6"
  k_extra "z18"
  k_extra "z4"
  k_extra "z7"
  k_extra "z13"
  k_extra "z10"
  k_extra "z4"
  k_extra "z4"
  k_extra "z11"
  k_extra "z4"
  k_extra "z5"
  k_extra "z14"
  k_extra "z6"
  k_extra "z12"
  k_extra "z7"
  k_extra "z14"
  k_extra "z7"
  k_extra "z3"
  k_extra "z15"
  k_extra "z16"
  k_extra "z7"
  k_extra "z7"
  k_extra "z7"
  k_extra "z7"
  k_extra "z7"
  k_extra "z15"
  k_extra "z4"
  k_extra "z6"
  k_extra "z6"
  k_extra "z12"
  k_extra "z4"
  k_extra "z6"
  k_extra "z12"
  k_extra "z6"
  k_extra "z6"
  k_extra "z7"
  k_extra "z6"
  k_extra "z7"
  (refine' g_iteTry ?e ?_; (case e => exact rfl))
  k_extra "z7"
  k_extra "z0"
  k_extra "z6"
  (refine' g_chkLit ?e ?b ?_; (case e => exact rfl); (case b => (refine Eq.trans (b := "list_iterator.__iter__") ?_ rfl; decide +kernel)))
  k_extra "z4"
  k_extra "z7"
  k_extra "z13"
  (refine' g_builtin ?e ?b ?_; (case e => exact rfl); (case b => exact Eq.trans ent_li rfl))
  k_extra "z14"
  k_extra "z7"
  k_extra "z4"
  k_extra "z7"
  k_extra "z0"
  k_extra "z4"
  k_extra "z0"
  k_extra "z6"
  k_extra "z18"
  k_extra "z4"
  k_extra "z7"
  k_extra "z13"
  k_extra "z10"
  k_extra "z4"
  k_extra "z4"
  k_extra "z11"
  k_extra "z4"
  k_extra "z5"
  k_extra "z14"
  k_extra "z9"
  k_extra "z6"
  k_extra "z9"
  k_extra "z6"
  k_extra "z17"
  k_extra "z6"
  k_extra "z12"
  k_extra "z7"
  k_extra "z7"
  k_extra "z7"
  k_extra "z3"
  k_extra "z15"
  k_extra "z16"
  k_extra "z15"
  ((refine g_skim ?_); (conv => enter [4]; whnf); (refine' g_load ?e 1 ?h ?_; (case e => exact rfl); (case h => exact rfl)))
  k_extra "z6"
  k_extra "z6"
  k_extra "z6"
  k_extra "z6"
  k_extra "z12"
  k_extra "z15"
  k_extra "z6"
  k_extra "z6"
  k_extra "z12"
  k_extra "z7"
  k_extra "z7"
  k_extra "z7"
  k_extra "z19"
  k_extra "z6"
  k_extra "z7"
  k_extra "z20"
  k_extra "z6"
  k_extra "z12"
  ((refine' g_to (m := call (.ref lam) [.ref r1, .ref r2] []) ?e ?_; (case e => kernel_rfl!)); (refine' lamCall X hNB hMB h4 hlam hcc hp1 hp2 (by decide) hres1 ?_; intro oA tA))
  k_extra "z7"
  k_extra "z3"
  k_extra "z21"
  k_extra "z22"
  k_extra "z7"
  k_extra "z7"
  k_extra "z8"
  k_extra "z15"
  ((refine g_skim ?_); (conv => enter [4]; whnf); (refine' g_call ?e ?c ?w ?u ?_; (case e => exact rfl); (case c => (conv => lhs; whnf) <;> exact rfl); (case w => exact Nat.le_of_ble_eq_true rfl); (case u => exact Nat.le_of_ble_eq_true rfl)))
  k_extra "z6"
  k_extra "z18"
  k_extra "z15"
  k_extra "z7"
  k_extra "z13"
  k_extra "z10"
  k_extra "z15"
  k_extra "z15"
  k_extra "z11"
  k_extra "z15"
  k_extra "z16"
  k_extra "z14"
  k_extra "z9"
  k_extra "z6"
  k_extra "z9"
  k_extra "z6"
  k_extra "z17"
  k_extra "z6"
  k_extra "z12"
  k_extra "z7"
  k_extra "z7"
  k_extra "z7"
  k_extra "z3"
  k_extra "z21"
  k_extra "z22"
  k_extra "z21"
  ((refine g_skim ?_); (conv => enter [4]; whnf); (refine' g_load ?e 2 ?h ?_; (case e => exact rfl); (case h => exact rfl)))
  k_extra "z6"
  k_extra "z6"
  k_extra "z6"
  k_extra "z6"
  k_extra "z12"
  k_extra "z21"
  k_extra "z6"
  k_extra "z6"
  k_extra "z12"
  k_extra "z7"
  k_extra "z7"
  k_extra "z7"
  k_extra "z19"
  k_extra "z6"
  k_extra "z7"
  k_extra "z20"
  k_extra "z6"
  k_extra "z12"
  ((refine' g_to (m := call (.ref lam) [.ref kr, .ref r3] []) ?e ?_; (case e => kernel_rfl!)); (refine' lamCall X hNB hMB h4 hlam hcc hk hp3 hkn hres2 ?_; intro oB tB))
  k_extra "z7"
  k_extra "z3"
  (refine' g_load ?e 3 ?h ?_; (case e => exact rfl); (case h => exact rfl))
  (refine' g_up3 ?e ?o ?f ?_; (case e => exact rfl); (case o => (conv => lhs; whnf; arg 3; whnf; (try (arg 1; whnf; (try (arg 1; whnf; (try (arg 2; whnf; (try (arg 2; whnf; (try (arg 2; whnf; (try (arg 2; whnf; (try (arg 2; whnf; (try (arg 2; whnf; (try (arg 2; whnf; (try (arg 2; whnf; (try (arg 2; whnf; (try (arg 2; whnf; (try (arg 2; whnf; (try (arg 2; whnf; (try (arg 2; whnf; (try (arg 2; whnf; (try (arg 2; whnf; (try (arg 2; whnf; (try (arg 2; whnf; (try (arg 2; whnf))))))))))))))))))))))))))))))))))))))))) <;> exact rfl); (case f => exact rfl))
  k_extra "z7"
  k_extra "z7"
  k_extra "z8"
  k_extra "z21"
  k_extra "z0"
  k_extra "z6"
  k_extra "z18"
  k_extra "z21"
  k_extra "z7"
  k_extra "z13"
  k_extra "z10"
  k_extra "z21"
  k_extra "z21"
  k_extra "z11"
  k_extra "z21"
  k_extra "z22"
  k_extra "z2"
  k_extra "z2"
  (refine' g_handled ?e ?_; (case e => exact rfl))
  (refine' g_raiseA ?e ?_; (case e => exact rfl))
  k_extra "z9"
  k_extra "z6"
  k_extra "z9"
  k_extra "z6"
  k_extra "z17"
  k_extra "z6"
  k_extra "z12"
  (refine' g_raiseB ?e ?_; (case e => exact rfl))
  k_extra "z7"
  k_extra "z4"
  k_extra "z7"
  k_extra "z8"
  k_extra "z14"
  k_extra "z7"
  (refine' g_load ?e 5 ?h ?_; (case e => exact rfl); (case h => exact rfl))
  k_extra "z7"
  k_extra "z14"
  k_extra "z6"
  k_extra "z7"
  refine g_end (e := by exact rfl) fun h D => hq _ _ _ _ ?_ D
  rw [hfr]
  rcases hkv with ⟨h, rfl, rfl⟩ | ⟨h, rfl, rfl⟩
  · rw [if_pos h]
  · rw [if_neg h]
end Mine
end
section
open PySem PySem.W PyProof.Rows PySem.Spec PySem.Calls PySem.W.X PyProof.V
set_option Elab.async false
set_option maxRecDepth 100000
set_option maxHeartbeats 4000000
set_option linter.unusedVariables false
namespace Mine
section
variable {w : World} {A : Around} {s : Shared} {h₀ : Heap} {L lam cc nr r1 r2 r3 : Addr} {m : Str → Option Value} {tl led : List (Addr × Obj)} {g : List (Addr × Obj) → List (Addr × Obj)} {x y z : Int} {u1 v1 u2 v2 u3 v3 : Tok} {c : Nat} {cK ct : Value} {params : Arguments} {body : Expr} {scope : Scope} {Q E : Value → Shared → Prop}
/-- the place of the least pair is its own head's -/
theorem head_red {k p f : Int} {n1 n2 n3 : Str} {x1 x2 x3 : Int} (h : ord3 k p f = [(x1, n1), (x2, n2), (x3, n3)]) {r1 r2 r3 r : Addr} {led : List (Addr × Obj)} {u1 v1 u2 v2 u3 v3 : Tok}
    (m1 : (r1, tupO k (Str.ofString "link") u1 v1) ∈ led) (m2 : (r2, tupO p (Str.ofString "pipe") u2 v2) ∈ led) (m3 : (r3, tupO f (Str.ofString "file") u3 v3) ∈ led)
    (hr : r = (if p < k then (if f ≤ p then r3 else r2) else (if f ≤ k then r3 else r1))) : ∃ u v, (r, tupO x1 n1 u v) ∈ led := by
  unfold ord3 at h
  subst hr
  split at h
  · split at h
    · injection h with h _; injection h with h1 h2; subst h1 h2
      rw [if_neg (by omega), if_pos (by omega)]; exact ⟨_, _, m3⟩
    · split at h <;> (injection h with h _; injection h with h1 h2; subst h1 h2)
      · rw [if_pos (by omega), if_pos (by omega)]; exact ⟨_, _, m3⟩
      · rw [if_pos (by omega), if_neg (by omega)]; exact ⟨_, _, m2⟩
  · split at h
    · injection h with h _; injection h with h1 h2; subst h1 h2
      rw [if_neg (by omega), if_neg (by omega)]; exact ⟨_, _, m1⟩
    · split at h <;> (injection h with h _; injection h with h1 h2; subst h1 h2)
      · rw [if_neg (by omega), if_neg (by omega)]; exact ⟨_, _, m1⟩
      · rw [if_pos (by omega), if_neg (by omega)]; exact ⟨_, _, m2⟩
theorem red_T (hA : A.handled = none) (hdp : A.depth ≤ 500) (hun : A.units ≤ 3000) (F : Fr h₀ L s.heap m) (N : News h₀ L s.heap led) (V : EnvK w h₀) (TF : TailF tl led g) (hW : ∃ c1, W114 tl c1 cc) (e1 : params = (lamP2 w).1) (e2 : body = (lamP2 w).2.1) (e3 : scope = (lamP2 w).2.2)
    (hl : (lam, kla_obj (Str.ofString "<lambda>") qL params body scope [] cK cc ct) ∈ led) (hn : (nr, ({ cls := .type "list", data := .seq (List.toArray [.ref r1, .ref r2, .ref r3]) c } : Obj)) ∈ led)
    (m1 : (r1, tupO x (Str.ofString "link") u1 v1) ∈ led) (m2 : (r2, tupO y (Str.ofString "pipe") u2 v2) ∈ led) (m3 : (r3, tupO z (Str.ofString "file") u3 v3) ∈ led)
    {x1 x2 x3 : Int} {n1 n2 n3 : Str} (hO : ord3 x y z = [(x1, n1), (x2, n2), (x3, n3)])
    (h : ∀ (r : Addr) (u v : Tok) (h' : Heap) (tk : Nat), (r, tupO x1 n1 u v) ∈ [(r1, tupO x (Str.ofString "link") u1 v1), (r2, tupO y (Str.ofString "pipe") u2 v2), (r3, tupO z (Str.ofString "file") u3 v3)] → Fr h₀ L h' m → News h₀ L h' led → Q (.ref r) { s with heap := h', toks := tk }) :
    wpAny (model PR w) A (call (.ref 44) [.ref lam, .ref nr]) Q E s := by
  subst e1 e2 e3
  obtain ⟨h0, g0, d0, tk, os⟩ := s
  obtain ⟨c1, _, _, oc, vs, t, b1, b2, b3⟩ := hW
  have b1' : (cc, oc) ∈ led := by
    obtain ⟨pre, rfl, _, _⟩ := TF.split
    exact List.mem_append_right _ b1
  have V' : EnvK w h0 := V.keeps F.keep
  obtain ⟨sl4, h4⟩ := V'.m4
  obtain ⟨mb, hNB, hMB⟩ := V'.nb
  obtain ⟨oc1, oc2, oc3, oc4⟩ := oc
  subst b2
  obtain ⟨⟨⟩ | ⟨q1, ⟨⟩ | ⟨q2, q3⟩⟩⟩ := vs
  · cases b3
  · cases b3
  obtain rfl : q2 = .str qL t := Option.some.inj b3
  refine wpAny_wide (A₂ := AA 500 3000) hA hdp rfl rfl hun ?_
  refine red w h0 h0 g0 d0 tk os (Mem.start _) Q E lam cc nr r1 r2 r3 x y z u1 v1 u2 v2 u3 v3 c cK ct qL V'.X mb hNB hMB sl4 h4 _ _ _ _ _ _ (N _ hl).1 (N _ b1').1 (N _ hn).1 (N _ m1).1 (N _ m2).1 (N _ m3).1 fun r h' tk' news hr D => ?_
  have k : ∀ b o, h0.get? b = some o → h'.get? b = some o := fun b o e => D.keep b o e (Bool.or_true _)
  obtain ⟨u, v, hm⟩ := head_red (led := [(r1, tupO x (Str.ofString "link") u1 v1), (r2, tupO y (Str.ofString "pipe") u2 v2), (r3, tupO z (Str.ofString "file") u3 v3)]) hO (.head _) (.tail _ (.head _)) (.tail _ (.tail _ (.head _))) hr
  exact h r u v h' tk' hm (F.keeps k) (N.keepsAll k)
end
end Mine
end
section
open PySem PySem.W PyProof.Rows PySem.Spec PySem.Calls
set_option Elab.async false
set_option maxRecDepth 100000
set_option maxHeartbeats 8000000
set_option linter.unusedVariables false
namespace Mine
theorem and_all : ∀ k : Fin 512, Builtin.bitAnd (32768 + (k.val : Int)) 61440 = 32768 ∧ Builtin.bitAnd (40960 + (k.val : Int)) 61440 = 40960 ∧ Builtin.bitAnd (4096 + (k.val : Int)) 61440 = 4096 := by decide +kernel
theorem ifmt_and {kind k : Int} (hk : kind = 32768 ∨ kind = 40960 ∨ kind = 4096) (h0 : 0 ≤ k) (h1 : k < 512) : Builtin.bitAnd (kind + k) 61440 = kind := by
  obtain ⟨n, rfl⟩ := Int.eq_ofNat_of_zero_le h0
  have h := and_all ⟨n, by omega⟩
  rcases hk with rfl | rfl | rfl
  · exact h.1
  · exact h.2.1
  · exact h.2.2
theorem ifmt_fn (w : World) (kind k : Int) (tm : Tok) (hk : kind = 32768 ∨ kind = 40960 ∨ kind = 4096) (h0 : 0 ≤ k) (h1 : k < 512) : FnI w 1 51 [.int (kind + k) tm] (fun r => r = kind) := by
  dsimp only [FnI]
  k_fill
  k_with_none
  intros
  rename_i hret
  have cbI : CbIn 51 := CbIn.mk
  refine wpAny_call ?_
  (first | k_dflt cell_enter | ktn_no "k_call_by: the def is not entered")
  k_steps
  all_goals ((exact hret _ _ _ _ (ifmt_and hk h0 h1) (by k_asm) (by k_asm)))
end Mine
end
section
open PySem PySem.W PyProof.Rows PySem.Spec PySem.Calls
set_option Elab.async false
set_option maxRecDepth 100000
set_option linter.unusedVariables false
namespace Mine
/-- a turn's end within a loop over a tuple -/
noncomputable def StepT (h₀ : Heap) (L : Addr) (q : Addr × Obj) (Jn : (Str → Option Value) → List (Addr × Obj) → Prop) (s₁ : Shared) (Q : Flow → Shared → Prop) (f : Flow) (s₃ : Shared) : Prop :=
  match f with
  | .ret v => Q (.ret v) s₃
  | .brk => Q .next s₃
  | _ => ∃ h' tk m' news', s₃ = { s₁ with heap := h', toks := tk } ∧ Fr h₀ L h' m' ∧ News h₀ L h' (q :: news') ∧ Jn m' news'
section
variable {prog : Program} {w : World} {A : Around} {E : Value → Shared → Prop} {s : Shared} {env : Env} {h₀ : Heap} {target iter : Expr} {body orelse : List Stmt} {pos : Pos} {Q : Flow → Shared → Prop} {m : Str → Option Value} {news : List (Addr × Obj)} {T : Addr} {items : Array Value}
theorem fr_but {L I : Addr} {h h' : Heap} (hL : I ≠ L) (hI : h₀.get? I = none) (F : Fr h₀ L h m) (k : ∀ b o, b ≠ I → h.get? b = some o → h'.get? b = some o) : Fr h₀ L h' m :=
  ⟨F.ns.at' fun o e => k _ o (Ne.symm hL) e, fun b o e => k b o (fun z => by rw [z, hI] at e; cases e) (F.keep b o e), F.above⟩
/-- a loop over a tuple that stood ahead of the call, with an else -/
theorem forT (hh : A.handled = none) (F : Fr h₀ env.locals s.heap m) (N : News h₀ env.locals s.heap news) (hT : IsTup h₀ T items)
    (he : wpAny (model prog w) A (eval iter env) (fun xv s₁ => xv = .ref T ∧ ∃ h' tk, s₁ = { s with heap := h', toks := tk } ∧ Fr h₀ env.locals h' m ∧ News h₀ env.locals h' news) E s) (J : Nat → (Str → Option Value) → List (Addr × Obj) → Prop) (h0 : J 0 m news) (hJk : ∀ i m₁ n₁, J i m₁ n₁ → n₁.map (·.1) = news.map (·.1))
    (step : ∀ i v m₁ news₁ h₁ tk₁ I o, items[i]? = some v → J i m₁ news₁ → o.cls = .type "tuple_iterator" → (∀ p ∈ news, p.1 < I) → Fr h₀ env.locals h₁ m₁ → News h₀ env.locals h₁ ((I, o) :: news₁) →
      wpAny (model prog w) A (assign target env v) (fun _ s₂ => wpAny (model prog w) A (execs body env) (StepT h₀ env.locals (I, o) (J (i + 1)) { s with heap := h₁, toks := tk₁ } Q) E s₂) E { s with heap := h₁, toks := tk₁ })
    (last : ∀ m₁ news₁ h₁ tk₁, J items.size m₁ news₁ → Fr h₀ env.locals h₁ m₁ → News h₀ env.locals h₁ news₁ → wpAny (model prog w) A (execs orelse env) Q E { s with heap := h₁, toks := tk₁ })
    (hs : ∀ x, foldedSetIterable iter env x = pure x := by intro _; rfl) (hE : PassesOwn (model prog w) A env E := by passes_own) :
    wpAny (model prog w) A (exec (.For target iter body orelse pos) env) Q E s := by
  refine wpAny_For (wpAny_mono he (fun xv s₁ h₁ => ?_) fun _ _ e => e) hs
  obtain ⟨rfl, hp, tk0, rfl, F, N⟩ := h₁
  have hTup : Heap.IsTuple hp T items := by obtain ⟨o, ho, r⟩ := hT; exact ⟨o, F.keep _ _ ho, r⟩
  refine wpAny_pyIter_tuple hTup ?_
  have hTn : T ≠ hp.objs.size := by obtain ⟨o, ho, _⟩ := hTup; exact Nat.ne_of_lt (Heap.lt_size ho)
  have hIn : h₀.get? hp.objs.size = none := next_is_new F
  have hLI : hp.objs.size ≠ env.locals := Ne.symm (Nat.ne_of_lt F.ns.lt)
  have hnI : ∀ p ∈ news, p.1 < hp.objs.size := fun p q => Heap.lt_size (N p q).1
  generalize hI : hp.objs.size = I at hTn hIn hLI hnI ⊢
  have hIt : Heap.IsTupleIter (hp.push { cls := .type "tuple_iterator", data := .fields #[.ref T, .int 0 0] }) I T 0 := ⟨_, hI ▸ Heap.get?_push_size _ rfl, rfl, rfl⟩
  have F0 := F.push (L := env.locals) { cls := .type "tuple_iterator", data := .fields #[.ref T, .int 0 0] }
  have N0 : News h₀ env.locals (hp.push { cls := .type "tuple_iterator", data := .fields #[.ref T, .int 0 0] }) news := fun p q => ⟨Heap.get?_push_of_some _ (N p q).1, (N p q).2⟩
  refine codeAny_forLoop_any (fun k s' => ∃ h' tk m' news' i, s' = { s with heap := h', toks := tk } ∧ h'.IsTupleIter I T i ∧ Fr h₀ env.locals h' m' ∧ News h₀ env.locals h' news' ∧ (∀ p ∈ news', p.1 ≠ I) ∧ J i m' news' ∧ i ≤ items.size ∧ k = items.size - i) ?_ (items.size)
    ⟨_, _, m, news, 0, rfl, hIt, F0, N0, fun p q => Nat.ne_of_lt (hnI p q), h0, Nat.zero_le _, rfl⟩
  rintro k s' ⟨h', tk, m', news', i, rfl, hit', F', N', hn', hJ, hi, rfl⟩
  have hTup' : Heap.IsTuple h' T items := by obtain ⟨o, ho, r⟩ := hT; exact ⟨o, F'.keep _ _ ho, r⟩
  by_cases hlt : i < items.size
  · refine wpAny_pyNext_tuple_item hit' hTup' (x := items[i]) (by simp [hlt]) fun h₁ hit₁ hsb => ?_
    refine letGo_tupleiter hit₁ ?_
    obtain ⟨o, ho, hc, hd⟩ := hit₁
    have F₁ : Fr h₀ env.locals h₁ m' := fr_but hLI hIn F' fun b ob z e => (hsb.2 b z).trans e
    have N₁ : News h₀ env.locals h₁ ((I, o) :: news') := fun p hp => by
      rcases List.mem_cons.mp hp with rfl | hp
      · exact ⟨ho, hLI, hIn⟩
      · exact ⟨(hsb.2 _ (hn' p hp)).trans (N' p hp).1, (N' p hp).2⟩
    have fin : ∀ s₃, (∃ h' tk₃ m' news', s₃ = { ({ s with heap := h₁, toks := tk } : Shared) with heap := h', toks := tk₃ } ∧ Fr h₀ env.locals h' m' ∧ News h₀ env.locals h' ((I, o) :: news') ∧ J (i + 1) m' news') →
        ∃ k', k' < items.size - i ∧ ∃ h' tk m' news' i, s₃ = { s with heap := h', toks := tk } ∧ h'.IsTupleIter I T i ∧ Fr h₀ env.locals h' m' ∧ News h₀ env.locals h' news' ∧ (∀ p ∈ news', p.1 ≠ I) ∧ J i m' news' ∧ i ≤ items.size ∧ k' = items.size - i := by
      rintro s₃ ⟨h₃, tk₃, m₃, n₃, rfl, F₃, N₃, J₃⟩
      refine ⟨items.size - (i + 1), by omega, h₃, tk₃, m₃, n₃, i + 1, rfl, ⟨o, (N₃ _ (.head _)).1, hc, hd⟩, F₃, fun p hp => N₃ p (.tail _ hp), fun p hp => ?_, J₃, hlt, rfl⟩
      have q : p.1 ∈ n₃.map (·.1) := List.mem_map_of_mem hp
      rw [hJk _ _ _ J₃] at q
      obtain ⟨r, hr, e⟩ := List.mem_map.mp q
      exact Nat.ne_of_lt (e ▸ hnI r hr)
    refine wpAny_mono (step i items[i] m' news' h₁ tk I o (by simp [hlt]) hJ hc hnI F₁ N₁) (fun _ s₂ h₂ => wpAny_mono (wpAny_passesOwn hE h₂) (fun f s₃ h₃ => ?_) fun _ _ e => e) hE
    cases f with
    | ret v => exact h₃
    | brk => exact h₃
    | cont => exact fin _ h₃
    | next => exact fin _ h₃
  · have hin : i = items.size := by omega
    subst hin
    refine wpAny_pyNext_tuple_end hh hit' hTup' (by simp) fun h₁ hx => ?_
    have F₁ : Fr h₀ env.locals h₁ m' := fr_but hLI hIn F' fun b ob z e => (hx b ob z e)
    exact wpAny_passesOwn hE (last m' news' h₁ tk hJ F₁ fun p hp => ⟨hx _ _ (hn' p hp) (N' p hp).1, (N' p hp).2⟩)
end
end Mine
end
section
open PySem PySem.W PyProof.Rows PySem.Spec PySem.Calls PySem.AutoSeq1
set_option Elab.async false
set_option maxRecDepth 100000
set_option linter.unusedVariables false
namespace Mine
section
variable {prog : Program} {w : World} {A : Around} {E : Value → Shared → Prop} {s : Shared}
/-- the next item of a tuple's iterator -/
theorem nextOf_tup {it t : Addr} {i : Nat} {items : Array Value} {x : Value} {Q : Value → Shared → Prop} (hit : s.heap.IsTupleIter it t i) (ht : s.heap.IsTuple t items) (hx : items[i]? = some x)
    (hQ : ∀ h', h'.IsTupleIter it t (i + 1) → Heap.SameBut it s.heap h' → Q x { s with heap := h' }) : wpAny (model prog w) A (Builtin.SmallTypes.nextOf (.ref it)) Q E s := by
  obtain ⟨o, ho, hc, hd⟩ := id hit
  obtain ⟨ol, hol, _, nl, hdl⟩ := ht
  unfold Builtin.SmallTypes.nextOf
  refine wpAny_bind (wpAny_callSpecial?_slot (name := Str.ofString "__next__") hit.typeIs F.slot_tuple_iterator_next (wpAny_call_entry F.slot_tuple_iterator_next hit.typeIs F.entry_tuple_iterator_next ?_ (F.args_tuple_iterator_next_1 _)))
  show wpAny _ _ (field (.ref it) 0 >>= _) _ _ s
  refine wpAny_bind (wpAny_field ho hd (x := .ref t) rfl ?_)
  show wpAny _ _ (if (Value.ref t == Value.none) = true then _ else _) _ _ s
  rw [if_neg (show ¬ ((Value.ref t == Value.none) = true) from Bool.false_ne_true)]
  show wpAny _ _ (field (.ref it) 1 >>= _) _ _ s
  refine wpAny_bind (wpAny_field ho hd (x := .int i 0) rfl ?_)
  show wpAny _ _ (seqItems? (.ref t) >>= _) _ _ s
  refine wpAny_bind (wpAny_seqItems hol hdl ?_)
  simp only [Int.toNat_natCast, hx]
  refine wpAny_bind (wpAny_setField ho hd (by simp) (wpAny_pure ⟨x, rfl, wpAny_pure (hQ _ ?_ (Heap.SameBut.update ..))⟩))
  exact ⟨_, Heap.get?_update_self _ ho (Obj.isFreed_of_fields (Obj.data_mapFields hd _)), (Obj.cls_mapFields ..).trans hc, by rw [Obj.data_mapFields hd]; simp [rawInt]⟩
theorem nextOf_tupEnd {it t : Addr} {i : Nat} {items : Array Value} {Q : Value → Shared → Prop} (hh : A.handled = none) (hit : s.heap.IsTupleIter it t i) (ht : s.heap.IsTuple t items) (hx : items[i]? = none)
    (hE : ∀ h' e, Heap.ExtBut it s.heap h' → (∃ o, h'.get? e = some o ∧ o.cls = .type "StopIteration") → E (.ref e) { s with heap := h' }) : wpAny (model prog w) A (Builtin.SmallTypes.nextOf (.ref it)) Q E s := by
  obtain ⟨o, ho, hc, hd⟩ := id hit
  obtain ⟨ol, hol, _, nl, hdl⟩ := ht
  unfold Builtin.SmallTypes.nextOf
  refine wpAny_bind (wpAny_callSpecial?_slot (name := Str.ofString "__next__") hit.typeIs F.slot_tuple_iterator_next (wpAny_call_entry F.slot_tuple_iterator_next hit.typeIs F.entry_tuple_iterator_next ?_ (F.args_tuple_iterator_next_1 _)))
  show wpAny _ _ (field (.ref it) 0 >>= _) _ _ s
  refine wpAny_bind (wpAny_field ho hd (x := .ref t) rfl ?_)
  show wpAny _ _ (if (Value.ref t == Value.none) = true then _ else _) _ _ s
  rw [if_neg (show ¬ ((Value.ref t == Value.none) = true) from Bool.false_ne_true)]
  show wpAny _ _ (field (.ref it) 1 >>= _) _ _ s
  refine wpAny_bind (wpAny_field ho hd (x := .int i 0) rfl ?_)
  show wpAny _ _ (seqItems? (.ref t) >>= _) _ _ s
  refine wpAny_bind (wpAny_seqItems hol hdl ?_)
  simp only [Int.toNat_natCast, hx]
  refine wpAny_bind (wpAny_rule (wpAny_bind (wpAny_setField ho hd (by simp) ?_)))
  show wpAny _ _ (newExc (.type "StopIteration") [] >>= _) _ _ _
  refine wpAny_bind ?_
  simp only [newExc, newTuple]
  refine wpAny_bind (wpAny_newObj_type ?_ (by size_fits))
  refine wpAny_bind (m := firstArgMember _ _) (wpAny_of_eq (a := Value.none) (by first | rfl | (simp only [firstArgMember]; rfl)) ?_)
  refine wpAny_newObj_type ?_ (by size_fits)
  simp only [raiseNew]
  refine wpAny_bind (wpAny_handled ?_)
  first | rw [show A.in1.handled = none from hh] | rw [hh]
  refine wpAny_bind (wpAny_pure (wpAny_throw ?_))
  exact hE _ _ (((Heap.SameBut.update ..).extBut.push _).push _) ⟨_, Heap.get?_push_size _ rfl, rfl⟩
end
theorem drawsT {prog : Program} {w : World} {A : Around} (hh : A.handled = none) (it t : Addr) (hne : t ≠ it) (items : Array Value) :
    Draws prog w A it [it, t] items.size (fun i v => items[i]? = some v) (fun i h => h.IsTupleIter it t i ∧ h.IsTuple t items) where
  live := fun _ _ st => let ⟨o, ho, _⟩ := st.1; ⟨o, ho⟩
  frame := fun _ _ _ st hk => ⟨st.1.at fun o e => hk it (by simp) o e, let ⟨o, ho, r⟩ := st.2; ⟨o, hk t (by simp) o ho, r⟩⟩
  item := fun i s Q E hi st hQ => nextOf_tup st.1 st.2 (x := items[i]) (by simp [hi]) fun h' hit' hs' => hQ _ h' s.toks (by simp [hi]) ⟨hit', st.2.extBut hs'.extBut hne⟩ hs'
  done := fun s Q E st hE => nextOf_tupEnd hh st.1 st.2 (by simp) hE
noncomputable abbrev itT (l : Addr) : Obj := { cls := .type "tuple_iterator", data := .fields #[.ref l, .int 0 0] }
noncomputable abbrev enT (i : Addr) : Obj := { cls := .type "enumerate", data := .fields #[.none, .bool false, .ref i, rawInt 0, .none, .none] }
/-- enumerate makes its pair of iterators over a tuple -/
theorem meets_enumT (l : Addr) (items : Array Value) (n : Nat) (dct : Option Addr) (sl : Array (Option Value)) :
    Meets (Builtin.«enumerate.__new__» ⟨[.type "enumerate", .ref l], []⟩) (fun _ R s => s.heap.get? l = some { cls := .type "tuple", dict := dct, data := .seq items n, slots := sl } ∧
      R (.ok (.ret (.ref (s.heap.push (itT l)).objs.size))) { s with heap := (s.heap.push (itT l)).push (enT s.heap.objs.size) }) :=
  .of_wp fun prog w A R s h => by
    obtain ⟨hp, g, d, tk, os⟩ := s; obtain ⟨hl, h⟩ := h
    have hsub := sub_enumerate
    have hT : Heap.IsTuple (Shared.heap ⟨hp, g, d, tk, os⟩) l items := ⟨_, hl, rfl, n, rfl⟩
    wp_walk using wpAny_loadPart' hl
    refine wpAny_stack_any fun st => wpAny_pure ?_
    split
    · rename_i c _ _ _ _ _
      cases (c == Value.type "enumerate")
      · wp_walk using wpAny_loadPart' hl, wpAny_pyIter_tuple hT
        exact ⟨_, rfl, h⟩
      · wp_walk using wpAny_loadPart' hl, wpAny_pyIter_tuple hT
        exact ⟨_, rfl, h⟩
    · wp_walk using wpAny_loadPart' hl, wpAny_pyIter_tuple hT
      exact ⟨_, rfl, h⟩
/-- a turn's end within the loop over enumerate -/
noncomputable def StepN (h₀ : Heap) (L : Addr) (q1 q2 : Addr × Obj) (Jn : (Str → Option Value) → List (Addr × Obj) → Prop) (s₁ : Shared) (Q : Flow → Shared → Prop) (f : Flow) (s₃ : Shared) : Prop :=
  match f with
  | .ret v => Q (.ret v) s₃
  | .brk => Q .next s₃
  | _ => ∃ h' tk m' news', s₃ = { s₁ with heap := h', toks := tk } ∧ Fr h₀ L h' m' ∧ News h₀ L h' (q1 :: q2 :: news') ∧ Jn m' news'
section
variable {prog : Program} {w : World} {A : Around} {E : Value → Shared → Prop} {s : Shared} {env : Env} {h₀ : Heap} {iter : Expr} {elts : List Expr} {kk : Nat} {tpos : Pos} {body : List Stmt} {pos : Pos} {Q : Flow → Shared → Prop} {m : Str → Option Value} {news : List (Addr × Obj)} {T : Addr} {items : Array Value}
theorem call_enumT {l : Addr} {n : Nat} {dct : Option Addr} {sl : Array (Option Value)} {Q : Value → Shared → Prop} (hl : s.heap.get? l = some { cls := .type "tuple", dict := dct, data := .seq items n, slots := sl })
    (h : Q (.ref (s.heap.objs.size + 1)) { s with heap := (s.heap.push (itT l)).push (enT s.heap.objs.size) }) : wpAny (model prog w) A (call (.type "enumerate") [.ref l]) Q E s := by
  refine callType_new F.called_enumerate (by decide) (F.typeCall_enumerate_1 _) (F.newCall_enumerate_1 _) (fun obj => F.args_object_init_2 obj _) F.entry_enumerate_new (meets_enumT l items n dct sl) ⟨hl, ?_⟩
  have hz : (s.heap.push (itT l)).objs.size = s.heap.objs.size + 1 := Heap.size_push ..
  show _ ∧ _
  rw [hz]
  have := Heap.get?_push_size (s.heap.push (itT l)) (o := enT s.heap.objs.size) rfl
  rw [hz] at this
  exact ⟨⟨_, this, rfl⟩, h⟩
/-- what enumerate of a tuple leaves -/
noncomputable def EnumP (h₀ : Heap) (L : Addr) (m : Str → Option Value) (news : List (Addr × Obj)) (T : Addr) (s : Shared) (xv : Value) (s₁ : Shared) : Prop :=
  ∃ hp tk, xv = .ref (hp.objs.size + 1) ∧ s₁ = { s with heap := (hp.push (itT T)).push (enT hp.objs.size), toks := tk } ∧ Fr h₀ L hp m ∧ News h₀ L hp news
theorem forN (hh : A.handled = none) (hT : IsTup h₀ T items) (he : wpAny (model prog w) A (eval iter env) (EnumP h₀ env.locals m news T s) E s) (J : Nat → (Str → Option Value) → List (Addr × Obj) → Prop) (h0 : J 0 m news) (hJk : ∀ i m₁ n₁, J i m₁ n₁ → n₁.map (·.1) = news.map (·.1))
    (step : ∀ i x t Tp m₁ news₁ h₁ tk₁ e oe I oi, items[i]? = some x → J i m₁ news₁ → IsTup h₁ Tp #[.int (i : Nat) t, x] → oe.cls = .type "enumerate" → oi.cls = .type "tuple_iterator" → (∀ p ∈ news, p.1 < I) → I < e → Fr h₀ env.locals h₁ m₁ → News h₀ env.locals h₁ ((e, oe) :: (I, oi) :: news₁) →
      wpAny (model prog w) A (assign (.Tuple elts kk tpos) env (.ref Tp)) (fun _ s₂ => wpAny (model prog w) A (execs body env) (StepN h₀ env.locals (e, oe) (I, oi) (J (i + 1)) { s with heap := h₁, toks := tk₁ } Q) E s₂) E { s with heap := h₁, toks := tk₁ })
    (last : ∀ m₁ news₁ h₁ tk₁, J items.size m₁ news₁ → Fr h₀ env.locals h₁ m₁ → News h₀ env.locals h₁ news₁ → Q .next { s with heap := h₁, toks := tk₁ })
    (hs : ∀ x, foldedSetIterable iter env x = pure x := by intro _; rfl) (hE : PassesOwn (model prog w) A env E := by passes_own) :
    wpAny (model prog w) A (exec (.For (.Tuple elts kk tpos) iter body [] pos) env) Q E s := by
  refine wpAny_For (wpAny_mono he (fun xv s₁ h₁ => ?_) fun _ _ e => e) hs
  obtain ⟨hp, tk0, rfl, rfl, F, N⟩ := h₁
  have hTup : Heap.IsTuple hp T items := by obtain ⟨o, ho, r⟩ := hT; exact ⟨o, F.keep _ _ ho, r⟩
  have hz : (hp.push (itT T)).objs.size = hp.objs.size + 1 := Heap.size_push ..
  have hTI : T ≠ hp.objs.size := by obtain ⟨o, ho, _⟩ := hTup; exact Nat.ne_of_lt (Heap.lt_size ho)
  have hTe : T ≠ hp.objs.size + 1 := by obtain ⟨o, ho, _⟩ := hTup; exact Nat.ne_of_lt (Nat.lt_succ_of_lt (Heap.lt_size ho))
  have hIn : h₀.get? hp.objs.size = none := next_is_new F
  have hen : h₀.get? (hp.objs.size + 1) = none := by
    cases q : h₀.get? (hp.objs.size + 1) with
    | none => rfl
    | some o => exact absurd (Heap.lt_size (F.keep _ _ q)) (Nat.not_lt.mpr (Nat.le_succ _))
  have hLI : hp.objs.size ≠ env.locals := Ne.symm (Nat.ne_of_lt F.ns.lt)
  have hLe : hp.objs.size + 1 ≠ env.locals := Ne.symm (Nat.ne_of_lt (Nat.lt_succ_of_lt F.ns.lt))
  have hnI : ∀ p ∈ news, p.1 < hp.objs.size := fun p q => Heap.lt_size (N p q).1
  have E0 : IsEnum ((hp.push (itT T)).push (enT hp.objs.size)) (hp.objs.size + 1) hp.objs.size 0 .none := by
    have := Heap.get?_push_size (hp.push (itT T)) (o := enT hp.objs.size) rfl
    rw [hz] at this; exact this
  have I0 : Heap.IsTupleIter ((hp.push (itT T)).push (enT hp.objs.size)) hp.objs.size T 0 := ⟨_, Heap.get?_push_of_some _ (Heap.get?_push_size _ rfl), rfl, rfl⟩
  have F0 : Fr h₀ env.locals ((hp.push (itT T)).push (enT hp.objs.size)) m := (F.push _).push _
  have N0 : News h₀ env.locals ((hp.push (itT T)).push (enT hp.objs.size)) news := fun p q => ⟨Heap.get?_push_of_some _ (Heap.get?_push_of_some _ (N p q).1), (N p q).2⟩
  refine wpAny_pyIter_enum E0 ?_
  generalize hp.objs.size = I at hTI hTe hIn hen hLI hLe hnI E0 I0 F0 N0 ⊢
  generalize (hp.push (itT T)).push (enT I) = hq at E0 I0 F0 N0 ⊢
  have D := drawsT (prog := prog) (w := w) (A := A.in1) hh I T hTI items
  refine codeAny_forLoop_any (fun k s' => ∃ h' tk m' news' i old, s' = { s with heap := h', toks := tk } ∧ IsEnum h' (I + 1) I (i : Nat) old ∧ h'.IsTupleIter I T i ∧ Fr h₀ env.locals h' m' ∧ News h₀ env.locals h' news' ∧ (∀ p ∈ news', p.1 < I) ∧ J i m' news' ∧ i ≤ items.size ∧ k = items.size - i) ?_ (items.size)
    ⟨_, _, m, news, 0, _, rfl, E0, I0, F0, N0, hnI, h0, Nat.zero_le _, rfl⟩
  rintro k s' ⟨h', tk, m', news', i, old, rfl, hen', hit', F', N', hn', hJ, hi, rfl⟩
  have hTup' : Heap.IsTuple h' T items := by obtain ⟨o, ho, r⟩ := hT; exact ⟨o, F'.keep _ _ ho, r⟩
  have keep : ∀ h₁ : Heap, (∀ b o, b ≠ I + 1 → b ≠ I → h'.get? b = some o → h₁.get? b = some o) → Fr h₀ env.locals h₁ m' ∧ News h₀ env.locals h₁ news' := fun h₁ q =>
    ⟨⟨F'.ns.at' fun o e => q _ o (Ne.symm hLe) (Ne.symm hLI) e, fun b o e => q b o (fun z => by rw [z, hen] at e; cases e) (fun z => by rw [z, hIn] at e; cases e) (F'.keep b o e), F'.above⟩,
      fun p hp => ⟨q _ _ (Nat.ne_of_lt (Nat.lt_succ_of_lt (hn' p hp))) (Nat.ne_of_lt (hn' p hp)) (N' p hp).1, (N' p hp).2⟩⟩
  by_cases hlt : i < items.size
  · refine wpAny_pyNext_enum_itemD D hen' ⟨hit', hTup'⟩ hlt (Nat.succ_ne_self I) (by simp only [List.mem_cons, List.not_mem_nil, or_false, not_or]; exact ⟨Nat.succ_ne_self I, Ne.symm hTe⟩) fun x h₁ tk₁ hx ho hst hTp hsz hk => ?_
    have hIp : ∀ a o, h'.get? a = some o → a < h'.objs.size := fun a o e => Heap.lt_size e
    refine wpAny_letOwnedTupleGo_enum ho fun h₂ ho₂ hsb => ?_
    have hIe : (h'.objs.size : Nat) ≠ I + 1 := Nat.ne_of_gt (Heap.lt_size hen')
    have it₂ : Heap.IsTupleIter h₂ I T (i + 1) := by obtain ⟨o, q, r⟩ := hst.1; exact ⟨o, (hsb.2 _ (Ne.symm (Nat.succ_ne_self I))).trans q, r⟩
    have tp₂ : IsTup h₂ h'.objs.size #[.int (i : Nat) tk₁, x] := ⟨_, (hsb.2 _ hIe).trans hTp, rfl, 0, rfl⟩
    obtain ⟨F₂, N₂⟩ := keep h₂ fun b o z1 z2 q => (hsb.2 b z1).trans (hk b o z1 z2 q)
    obtain ⟨oi, q1, q2, q3⟩ := id it₂
    have N₃ : News h₀ env.locals h₂ ((I + 1, { cls := .type "enumerate", dict := none, data := .fields #[.none, .bool false, .ref I, rawInt ((i : Int) + 1), .none, x], slots := #[] }) :: (I, oi) :: news') := fun p hp => by
      rcases List.mem_cons.mp hp with rfl | hp
      · exact ⟨ho₂, hLe, hen⟩
      rcases List.mem_cons.mp hp with rfl | hp
      · exact ⟨q1, hLI, hIn⟩
      · exact N₂ p hp
    have fin : ∀ s₃, (∃ h' tk₃ m' news', s₃ = { ({ s with heap := h₂, toks := tk₁ + 1 } : Shared) with heap := h', toks := tk₃ } ∧ Fr h₀ env.locals h' m' ∧ News h₀ env.locals h' ((I + 1, { cls := .type "enumerate", dict := none, data := .fields #[.none, .bool false, .ref I, rawInt ((i : Int) + 1), .none, x], slots := #[] }) :: (I, oi) :: news') ∧ J (i + 1) m' news') →
        ∃ k', k' < items.size - i ∧ ∃ h' tk m' news' i old, s₃ = { s with heap := h', toks := tk } ∧ IsEnum h' (I + 1) I (i : Nat) old ∧ h'.IsTupleIter I T i ∧ Fr h₀ env.locals h' m' ∧ News h₀ env.locals h' news' ∧ (∀ p ∈ news', p.1 < I) ∧ J i m' news' ∧ i ≤ items.size ∧ k' = items.size - i := by
      rintro s₃ ⟨h₃, tk₃, m₃, n₃, rfl, F₃, N₃, J₃⟩
      refine ⟨items.size - (i + 1), by omega, h₃, tk₃, m₃, n₃, i + 1, x, rfl, (N₃ _ (.head _)).1, ⟨oi, (N₃ _ (.tail _ (.head _))).1, q2, q3⟩, F₃, fun p hp => N₃ p (.tail _ (.tail _ hp)), fun p hp => ?_, J₃, hlt, rfl⟩
      have q : p.1 ∈ n₃.map (·.1) := List.mem_map_of_mem hp
      rw [hJk _ _ _ J₃] at q
      obtain ⟨r, hr, e⟩ := List.mem_map.mp q
      exact e ▸ hnI r hr
    refine wpAny_mono (step i x tk₁ h'.objs.size m' news' h₂ (tk₁ + 1) (I + 1) _ I oi hx hJ tp₂ rfl q2 hnI (Nat.lt_succ_self I) F₂ N₃) (fun _ s₂ h₂ => wpAny_mono (wpAny_passesOwn hE h₂) (fun f s₃ h₃ => ?_) fun _ _ e => e) hE
    cases f with
    | ret v => exact h₃
    | brk => exact h₃
    | cont => exact fin _ h₃
    | next => exact fin _ h₃
  · have hin : i = items.size := by omega
    subst hin
    refine wpAny_pyNext_enum_endD D hen' ⟨hit', hTup'⟩ fun h₁ hx => ?_
    obtain ⟨F₁, N₁⟩ := keep h₁ fun b o _ z q => hx b o z q
    exact wpAny_execs_nil (last m' news' h₁ tk hJ F₁ N₁)
end
end Mine
end
section
open PySem PySem.W PyProof.Rows PySem.Spec PySem.Calls PyProof.V
set_option Elab.async false
set_option maxRecDepth 100000
set_option maxHeartbeats 8000000
set_option linter.unusedVariables false
namespace Mine
noncomputable def chars (cs : List (Str × Tok)) : List Value := cs.map fun c => .str c.1 c.2
noncomputable abbrev lsO (cs : List (Str × Tok)) (ep : Nat) : Obj := listOf (List.toArray (chars cs)) ep
noncomputable def sgn (kind : Int) : Str := if kind = 40960 then Str.ofString "l" else if kind = 32768 then Str.ofString "-" else Str.ofString "p"
noncomputable abbrev nI : Str := Str.ofString "index"
noncomputable abbrev nT : Str := Str.ofString "table"
noncomputable abbrev nB : Str := Str.ofString "bit"
noncomputable abbrev nC : Str := Str.ofString "char"
theorem map2_of {m m' : Str → Option Value} {x y : Str} (h : ∀ z, z ≠ x → z ≠ y → m' z = m z) : m' = fun z => if z = x then m' x else if z = y then m' y else m z := funext fun z => by
  by_cases h1 : z = x
  · rw [if_pos h1, h1]
  rw [if_neg h1]
  by_cases h2 : z = y
  · rw [if_pos h2, h2]
  rw [if_neg h2]
  exact h z h1 h2
theorem map4_of {m m' : Str → Option Value} {x y u v : Str} (h : ∀ z, z ≠ x → z ≠ y → z ≠ u → z ≠ v → m' z = m z) : m' = fun z => if z = x then m' x else if z = y then m' y else if z = u then m' u else if z = v then m' v else m z := funext fun z => by
  by_cases h1 : z = x
  · rw [if_pos h1, h1]
  rw [if_neg h1]
  by_cases h2 : z = y
  · rw [if_pos h2, h2]
  rw [if_neg h2]
  by_cases h3 : z = u
  · rw [if_pos h3, h3]
  rw [if_neg h3]
  by_cases h4 : z = v
  · rw [if_pos h4, h4]
  rw [if_neg h4]
  exact h z h1 h2 h3 h4
section
variable {prog : Program} {w : World} {A : Around} {E : Value → Shared → Prop} {s : Shared} {env : Env} {h₀ : Heap} {iter : Expr} {target : Expr} {elts : List Expr} {kk : Nat} {tpos : Pos} {body orelse : List Stmt} {pos : Pos} {Q : Flow → Shared → Prop} {m : Str → Option Value} {pre base : List (Addr × Obj)} {T P : Addr} {cs : List (Str × Tok)} {ep : Nat} {items : Array Value}
/-- the inner loop's end: one more sign -/
noncomputable def MidP (h₀ : Heap) (L : Addr) (m : Str → Option Value) (pre base : List (Addr × Obj)) (P : Addr) (cs : List (Str × Tok)) (good : Str → Prop) (s : Shared) (f : Flow) (s' : Shared) : Prop :=
  f = .next ∧ ∃ c t h' tk ep m', s' = { s with heap := h', toks := tk } ∧ c.length = 1 ∧ good c ∧ (∀ y, y ≠ nB → y ≠ nC → m' y = m y) ∧ Fr h₀ L h' m' ∧ News h₀ L h' (pre ++ (P, lsO (cs ++ [(c, t)]) ep) :: base)
/-- the inner loop's turn -/
noncomputable def StepI (h₀ : Heap) (L : Addr) (m : Str → Option Value) (pre base : List (Addr × Obj)) (P : Addr) (cs : List (Str × Tok)) (ep : Nat) (good : Str → Prop) (V : Prop) (q : Addr × Obj) (s₁ : Shared) (f : Flow) (s₃ : Shared) : Prop :=
  match f with
  | .ret _ => False
  | .brk => ∃ c t h' tk ep' m', s₃ = { s₁ with heap := h', toks := tk } ∧ c.length = 1 ∧ good c ∧ (∀ y, y ≠ nB → y ≠ nC → m' y = m y) ∧ Fr h₀ L h' m' ∧ News h₀ L h' (q :: (pre ++ (P, lsO (cs ++ [(c, t)]) ep') :: base))
  | _ => V ∧ ∃ h' tk m', s₃ = { s₁ with heap := h', toks := tk } ∧ (∀ y, y ≠ nB → y ≠ nC → m' y = m y) ∧ Fr h₀ L h' m' ∧ News h₀ L h' (q :: (pre ++ (P, lsO cs ep) :: base))
theorem forT_P (ps : List (Addr × Int × Str)) (good : Str → Prop) (V : Int → Prop) (hh : A.handled = none) (F : Fr h₀ env.locals s.heap m) (N : News h₀ env.locals s.heap (pre ++ (P, lsO cs ep) :: base)) (hT : IsTup h₀ T (List.toArray (ps.map fun p => Value.ref p.1)))
    (he : wpAny (model prog w) A (eval iter env) (fun xv s₁ => xv = .ref T ∧ ∃ h' tk, s₁ = { s with heap := h', toks := tk } ∧ Fr h₀ env.locals h' m ∧ News h₀ env.locals h' (pre ++ (P, lsO cs ep) :: base)) E s)
    (step : ∀ q b c v1 v2 h₁ tk₁ I o, (q, b, c) ∈ ps → o.cls = .type "tuple_iterator" → (∀ p ∈ pre ++ (P, lsO cs ep) :: base, p.1 < I) → Fr h₀ env.locals h₁ (fun z => if z = nB then v1 else if z = nC then v2 else m z) → News h₀ env.locals h₁ ((I, o) :: (pre ++ (P, lsO cs ep) :: base)) →
      wpAny (model prog w) A (assign target env (.ref q)) (fun _ s₂ => wpAny (model prog w) A (execs body env) (StepI h₀ env.locals m pre base P cs ep good (V b) (I, o) { s with heap := h₁, toks := tk₁ }) E s₂) E { s with heap := h₁, toks := tk₁ })
    (last : ∀ v1 v2 h₁ tk₁, (∀ p ∈ ps, V p.2.1) → Fr h₀ env.locals h₁ (fun z => if z = nB then v1 else if z = nC then v2 else m z) → News h₀ env.locals h₁ (pre ++ (P, lsO cs ep) :: base) → wpAny (model prog w) A (execs orelse env) (MidP h₀ env.locals m pre base P cs good s) E { s with heap := h₁, toks := tk₁ })
    (hQ : ∀ c t h' tk ep' v1 v2, c.length = 1 → good c → Fr h₀ env.locals h' (fun z => if z = nB then v1 else if z = nC then v2 else m z) → News h₀ env.locals h' (pre ++ (P, lsO (cs ++ [(c, t)]) ep') :: base) → Q .next { s with heap := h', toks := tk })
    (hs : ∀ x, foldedSetIterable iter env x = pure x := by intro _; rfl) (hE : PassesOwn (model prog w) A env E := by passes_own) :
    wpAny (model prog w) A (exec (.For target iter body orelse pos) env) Q E s := by
  refine wpAny_mono (forT (Q := MidP h₀ env.locals m pre base P cs good s) hh F N hT he
    (fun j m' n' => (∀ y, y ≠ nB → y ≠ nC → m' y = m y) ∧ n' = pre ++ (P, lsO cs ep) :: base ∧ ∀ p ∈ ps.take j, V p.2.1) ⟨fun _ _ _ => rfl, rfl, fun p hp => by simp at hp⟩ (fun j m' n' hJ => by rw [hJ.2.1]) ?_ ?_ hs hE) (fun f s' hm => ?_) fun _ _ e => e
  · intro i v m₁ news₁ h₁ tk₁ I o hv hJ hc hI F₁ N₁
    obtain ⟨hm, rfl, hV⟩ := hJ
    rw [map2_of hm] at F₁
    have hv' : (ps.map fun p => Value.ref p.1)[i]? = some v := by simpa using hv
    rw [List.getElem?_map] at hv'
    obtain ⟨⟨q, b, c⟩, hq, rfl⟩ := Option.map_eq_some_iff.mp hv'
    refine wpAny_mono (step q b c _ _ h₁ tk₁ I o (List.mem_of_getElem? hq) hc hI F₁ N₁) (fun _ s₂ h₂ => wpAny_mono h₂ (fun f s₃ h₃ => ?_) fun _ _ e => e) fun _ _ e => e
    have nx : (V b ∧ ∃ h' tk m', s₃ = { ({ s with heap := h₁, toks := tk₁ } : Shared) with heap := h', toks := tk } ∧ (∀ y, y ≠ nB → y ≠ nC → m' y = m y) ∧ Fr h₀ env.locals h' m' ∧ News h₀ env.locals h' ((I, o) :: (pre ++ (P, lsO cs ep) :: base))) →
        ∃ h' tk m' news', s₃ = { ({ s with heap := h₁, toks := tk₁ } : Shared) with heap := h', toks := tk } ∧ Fr h₀ env.locals h' m' ∧ News h₀ env.locals h' ((I, o) :: news') ∧ (∀ y, y ≠ nB → y ≠ nC → m' y = m y) ∧ news' = pre ++ (P, lsO cs ep) :: base ∧ ∀ p ∈ ps.take (i + 1), V p.2.1 := by
      rintro ⟨hVb, h', tk, m', rfl, hm', F', N'⟩
      refine ⟨h', tk, m', _, rfl, F', N', hm', rfl, fun p hp => ?_⟩
      rw [List.take_add_one, hq] at hp
      rcases List.mem_append.mp hp with hp | hp
      · exact hV p hp
      · have : p = (q, b, c) := by simpa using hp
        rw [this]; exact hVb
    cases f with
    | ret v => exact h₃.elim
    | brk =>
      obtain ⟨c', t', h', tk, ep', m', rfl, q1, q2, q3, F', N'⟩ := h₃
      exact ⟨rfl, c', t', h', tk, ep', m', rfl, q1, q2, q3, F', fun p hp => N' p (.tail _ hp)⟩
    | cont => exact nx h₃
    | next => exact nx h₃
  · intro m₁ news₁ h₁ tk₁ hJ F₁ N₁
    obtain ⟨hm, rfl, hV⟩ := hJ
    rw [map2_of hm] at F₁
    refine last _ _ h₁ tk₁ (fun p hp => hV p ?_) F₁ N₁
    rw [List.take_of_length_le (by simp)]; exact hp
  · obtain ⟨rfl, c, t, h', tk, ep', m', rfl, q1, q2, q3, F', N'⟩ := hm
    rw [map2_of q3] at F'
    exact hQ c t h' tk ep' _ _ q1 q2 F' N'
/-- the outer loop's turn -/
noncomputable def StepO (h₀ : Heap) (L : Addr) (m : Str → Option Value) (q1 q2 : Addr × Obj) (P : Addr) (base : List (Addr × Obj)) (n : Nat) (s0 : Str) (s₁ : Shared) (f : Flow) (s₃ : Shared) : Prop :=
  f = .next ∧ ∃ h' tk cs ep m', s₃ = { s₁ with heap := h', toks := tk } ∧ cs.length = n ∧ (∀ c ∈ cs, c.1.length = 1) ∧ (∀ c, cs.head? = some c → c.1 = s0) ∧ (∀ y, y ≠ nI → y ≠ nT → y ≠ nB → y ≠ nC → m' y = m y) ∧ Fr h₀ L h' m' ∧ News h₀ L h' (q1 :: q2 :: (P, lsO cs ep) :: base)
theorem forN_P (s0 : Str) (hh : A.handled = none) (F₀ : Fr h₀ env.locals s.heap m) (N₀ : News h₀ env.locals s.heap ((P, listOf #[] 0) :: base)) (hT : IsTup h₀ T items) (he : wpAny (model prog w) A (eval iter env) (EnumP h₀ env.locals m ((P, lsO [] 0) :: base) T s) E s)
    (step : ∀ i x t Tp cs ep v1 v2 v3 v4 h₁ tk₁ e oe I oi, items[i]? = some x → cs.length = i → (∀ c ∈ cs, c.1.length = 1) → (∀ c, cs.head? = some c → c.1 = s0) → IsTup h₁ Tp #[.int (i : Nat) t, x] → oe.cls = .type "enumerate" → oi.cls = .type "tuple_iterator" → (∀ p ∈ (P, lsO [] 0) :: base, p.1 < I) → I < e →
      Fr h₀ env.locals h₁ (fun z => if z = nI then v1 else if z = nT then v2 else if z = nB then v3 else if z = nC then v4 else m z) → News h₀ env.locals h₁ ((e, oe) :: (I, oi) :: (P, lsO cs ep) :: base) →
      wpAny (model prog w) A (assign (.Tuple elts kk tpos) env (.ref Tp)) (fun _ s₂ => wpAny (model prog w) A (execs body env) (StepO h₀ env.locals m (e, oe) (I, oi) P base (i + 1) s0 { s with heap := h₁, toks := tk₁ }) E s₂) E { s with heap := h₁, toks := tk₁ })
    (last : ∀ cs ep v1 v2 v3 v4 h₁ tk₁, cs.length = items.size → (∀ c ∈ cs, c.1.length = 1) → (∀ c, cs.head? = some c → c.1 = s0) → Fr h₀ env.locals h₁ (fun z => if z = nI then v1 else if z = nT then v2 else if z = nB then v3 else if z = nC then v4 else m z) → News h₀ env.locals h₁ ((P, lsO cs ep) :: base) → Q .next { s with heap := h₁, toks := tk₁ })
    (hs : ∀ x, foldedSetIterable iter env x = pure x := by intro _; rfl) (hE : PassesOwn (model prog w) A env E := by passes_own) :
    wpAny (model prog w) A (exec (.For (.Tuple elts kk tpos) iter body [] pos) env) Q E s := by
  refine forN hh hT he (fun i m' n' => ∃ cs ep, n' = (P, lsO cs ep) :: base ∧ cs.length = i ∧ (∀ c ∈ cs, c.1.length = 1) ∧ (∀ c, cs.head? = some c → c.1 = s0) ∧ ∀ y, y ≠ nI → y ≠ nT → y ≠ nB → y ≠ nC → m' y = m y)
    ⟨[], 0, rfl, rfl, (fun c hc => nomatch hc), (fun c hc => by cases hc), fun _ _ _ _ _ => rfl⟩ (fun i m₁ n₁ hJ => by obtain ⟨cs, ep, rfl, _⟩ := hJ; rfl) ?_ ?_ hs hE
  · intro i x t Tp m₁ news₁ h₁ tk₁ e oe I oi hx hJ hTp hc1 hc2 hI hIe F₁ N₁
    obtain ⟨cs, ep, rfl, j1, j2, j3, j4⟩ := hJ
    rw [map4_of j4] at F₁
    refine wpAny_mono (step i x t Tp cs ep _ _ _ _ h₁ tk₁ e oe I oi hx j1 j2 j3 hTp hc1 hc2 hI hIe F₁ N₁) (fun _ s₂ h₂ => wpAny_mono h₂ (fun f s₃ h₃ => ?_) fun _ _ e => e) fun _ _ e => e
    obtain ⟨rfl, h', tk, cs', ep', m', rfl, k1, k2, k3, k4, F', N'⟩ := h₃
    exact ⟨h', tk, m', _, rfl, F', N', cs', ep', rfl, k1, k2, k3, k4⟩
  · intro m₁ news₁ h₁ tk₁ hJ F₁ N₁
    obtain ⟨cs, ep, rfl, j1, j2, j3, j4⟩ := hJ
    rw [map4_of j4] at F₁
    exact last cs ep _ _ _ _ h₁ tk₁ j1 j2 j3 F₁ N₁
theorem append_lsO {D : Addr} {c : Str} {t : Tok} {Q : Value → Shared → Prop} {news news' : List (Addr × Obj)} (F : Fr h₀ D s.heap m) (N : News h₀ D s.heap news) (U : Upd P (lsO cs ep) (lsO (cs ++ [(c, t)]) (ep + 1)) news news') (hl : cs.length ≤ 100)
    (h : ∀ h', Fr h₀ D h' m → News h₀ D h' news' → Q .none { s with heap := h' }) : wpAny (model prog w) A (call (.builtin "list.append") [.ref P, .str c t]) Q E s := by
  refine append_K F N (its := List.toArray (chars cs)) (n := ep) ?_ h (by simp only [chars, List.size_toArray, List.length_map]; exact Nat.le_trans hl (Nat.le_of_ble_eq_true rfl))
  have e : (List.toArray (chars cs)).push (.str c t) = List.toArray (chars (cs ++ [(c, t)])) := by simp [chars]
  rw [e]; exact U
end
end Mine
end
section
open PySem PySem.W PyProof.Rows PySem.Spec PySem.Calls PyProof.V
set_option Elab.async false
set_option maxRecDepth 100000
set_option maxHeartbeats 8000000
set_option linter.unusedVariables false
namespace Mine
/-- the pairs of a table, as they stand -/
noncomputable def PsOk (h : Heap) (ps : List (Addr × Int × Str)) : Prop := ∀ q b c, (q, b, c) ∈ ps → c.length = 1 ∧ ∃ t u, IsTup h q #[.int b t, .str c u]
noncomputable def TabI (h : Heap) (T : Addr) (ps : List (Addr × Int × Str)) : Prop := IsTup h T (List.toArray (ps.map fun p => Value.ref p.1)) ∧ PsOk h ps
noncomputable abbrev s1 (n : Nat) : Str := ⟨#[n]⟩
noncomputable def ps0 : List (Addr × Int × Str) := [(52, 40960, s1 108), (53, 49152, s1 115), (54, 32768, s1 45), (55, 24576, s1 98), (56, 16384, s1 100), (57, 8192, s1 99), (58, 4096, s1 112)]
theorem psOk_nil (h : Heap) : PsOk h [] := fun _ _ _ hp => nomatch hp
theorem psOk_cons {h : Heap} {q : Addr} {b : Int} {c : Str} {t u : Tok} {ps : List (Addr × Int × Str)} (hl : c.length = 1) (e : IsTup h q #[.int b t, .str c u]) (r : PsOk h ps) : PsOk h ((q, b, c) :: ps) := fun q' b' c' hp => by
  rcases List.mem_cons.mp hp with e' | hp
  · cases e'; exact ⟨hl, _, _, e⟩
  · exact r _ _ _ hp
theorem tup_of {h : Heap} {q : Addr} {o : Obj} {vs : Array Value} (e : h.get? q = some o) (hc : o.cls = .type "tuple") (hd : o.data = .seq vs 0) : IsTup h q vs := ⟨o, e, hc, 0, hd⟩
theorem tab_items {h : Heap} {w : World} (X : (hd.heap_1 w.params).In h) : IsTup h 84 #[.ref 59, .ref 61, .ref 63, .ref 67, .ref 69, .ref 71, .ref 75, .ref 77, .ref 79, .ref 83] := tup_of (X 84 _ rfl) rfl rfl
theorem tab_0 {h : Heap} {w : World} (X : (hd.heap_1 w.params).In h) : TabI h 59 ps0 :=
  ⟨tup_of (X 59 _ rfl) rfl rfl, psOk_cons rfl (tup_of (X 52 _ rfl) rfl rfl) <| psOk_cons rfl (tup_of (X 53 _ rfl) rfl rfl) <| psOk_cons rfl (tup_of (X 54 _ rfl) rfl rfl) <| psOk_cons rfl (tup_of (X 55 _ rfl) rfl rfl) <| psOk_cons rfl (tup_of (X 56 _ rfl) rfl rfl) <| psOk_cons rfl (tup_of (X 57 _ rfl) rfl rfl) <| psOk_cons rfl (tup_of (X 58 _ rfl) rfl rfl) <| psOk_nil h⟩
theorem tab_s {h : Heap} {w : World} (X : (hd.heap_1 w.params).In h) {i : Nat} {x : Value} (hx : (#[.ref 59, .ref 61, .ref 63, .ref 67, .ref 69, .ref 71, .ref 75, .ref 77, .ref 79, .ref 83] : Array Value)[i + 1]? = some x) : ∃ T ps, x = .ref T ∧ TabI h T ps := by
  match i, hx with
  | 0, hx => cases hx; exact ⟨61, [(60, 256, s1 114)], rfl, tup_of (X 61 _ rfl) rfl rfl, psOk_cons rfl (tup_of (X 60 _ rfl) rfl rfl) (psOk_nil h)⟩
  | 1, hx => cases hx; exact ⟨63, [(62, 128, s1 119)], rfl, tup_of (X 63 _ rfl) rfl rfl, psOk_cons rfl (tup_of (X 62 _ rfl) rfl rfl) (psOk_nil h)⟩
  | 2, hx => cases hx; exact ⟨67, [(64, 2112, s1 115), (65, 2048, s1 83), (66, 64, s1 120)], rfl, tup_of (X 67 _ rfl) rfl rfl, psOk_cons rfl (tup_of (X 64 _ rfl) rfl rfl) <| psOk_cons rfl (tup_of (X 65 _ rfl) rfl rfl) <| psOk_cons rfl (tup_of (X 66 _ rfl) rfl rfl) (psOk_nil h)⟩
  | 3, hx => cases hx; exact ⟨69, [(68, 32, s1 114)], rfl, tup_of (X 69 _ rfl) rfl rfl, psOk_cons rfl (tup_of (X 68 _ rfl) rfl rfl) (psOk_nil h)⟩
  | 4, hx => cases hx; exact ⟨71, [(70, 16, s1 119)], rfl, tup_of (X 71 _ rfl) rfl rfl, psOk_cons rfl (tup_of (X 70 _ rfl) rfl rfl) (psOk_nil h)⟩
  | 5, hx => cases hx; exact ⟨75, [(72, 1032, s1 115), (73, 1024, s1 83), (74, 8, s1 120)], rfl, tup_of (X 75 _ rfl) rfl rfl, psOk_cons rfl (tup_of (X 72 _ rfl) rfl rfl) <| psOk_cons rfl (tup_of (X 73 _ rfl) rfl rfl) <| psOk_cons rfl (tup_of (X 74 _ rfl) rfl rfl) (psOk_nil h)⟩
  | 6, hx => cases hx; exact ⟨77, [(76, 4, s1 114)], rfl, tup_of (X 77 _ rfl) rfl rfl, psOk_cons rfl (tup_of (X 76 _ rfl) rfl rfl) (psOk_nil h)⟩
  | 7, hx => cases hx; exact ⟨79, [(78, 2, s1 119)], rfl, tup_of (X 79 _ rfl) rfl rfl, psOk_cons rfl (tup_of (X 78 _ rfl) rfl rfl) (psOk_nil h)⟩
  | 8, hx => cases hx; exact ⟨83, [(80, 513, s1 116), (81, 512, s1 84), (82, 1, s1 120)], rfl, tup_of (X 83 _ rfl) rfl rfl, psOk_cons rfl (tup_of (X 80 _ rfl) rfl rfl) <| psOk_cons rfl (tup_of (X 81 _ rfl) rfl rfl) <| psOk_cons rfl (tup_of (X 82 _ rfl) rfl rfl) (psOk_nil h)⟩
  | n + 9, hx => simp at hx
end Mine
end
section
open PySem PySem.W PyProof.Rows PySem.Spec PySem.Calls PyProof.V
set_option Elab.async false
set_option maxRecDepth 100000
set_option maxHeartbeats 8000000
set_option linter.unusedVariables false
namespace Mine
theorem tab_any {h : Heap} {w : World} (X : (hd.heap_1 w.params).In h) {i : Nat} {x : Value} (hx : (#[.ref 59, .ref 61, .ref 63, .ref 67, .ref 69, .ref 71, .ref 75, .ref 77, .ref 79, .ref 83] : Array Value)[i]? = some x) :
    i < 10 ∧ ((i = 0 ∧ x = .ref 59 ∧ TabI h 59 ps0) ∨ ∃ j T ps, i = j + 1 ∧ x = .ref T ∧ TabI h T ps) := by
  refine ⟨by simpa using (Array.getElem?_eq_some_iff.mp hx).1, ?_⟩
  cases i with
  | zero =>
    obtain rfl : x = .ref 59 := by simpa using hx.symm
    exact .inl ⟨rfl, rfl, tab_0 X⟩
  | succ j =>
    obtain ⟨T, ps, e, t⟩ := tab_s X hx
    exact .inr ⟨j, T, ps, rfl, e, t⟩
theorem rel0 {kind : Int} (hk : kind = 32768 ∨ kind = 40960 ∨ kind = 4096) {q : Addr} {b : Int} {c : Str} (h : (q, b, c) ∈ ps0) (e : kind = b) : c = sgn kind := by
  subst e
  simp only [ps0, List.mem_cons, List.not_mem_nil, or_false, Prod.mk.injEq] at h
  rcases hk with rfl | rfl | rfl <;> simp at h <;> obtain ⟨_, rfl⟩ := h <;> decide
theorem none0 {kind : Int} (hk : kind = 32768 ∨ kind = 40960 ∨ kind = 4096) (h : ∀ p ∈ ps0, p.2.1 ≠ kind) : False := by
  rcases hk with rfl | rfl | rfl
  · exact h (54, 32768, s1 45) (by simp [ps0]) rfl
  · exact h (52, 40960, s1 108) (by simp [ps0]) rfl
  · exact h (58, 4096, s1 112) (by simp [ps0]) rfl
theorem isTup_keep {h₀ h : Heap} {L q : Addr} {m : Str → Option Value} {vs : Array Value} (F : Fr h₀ L h m) (e : IsTup h₀ q vs) : IsTup h q vs := by
  obtain ⟨o, ho, r⟩ := e
  exact ⟨o, F.keep _ _ ho, r⟩
theorem head_app0 {cs : List (Str × Tok)} {c : Str} {t : Tok} {s0 : Str} (hl : cs.length = 0) (e : c = s0) : ∀ d, (cs ++ [(c, t)]).head? = some d → d.1 = s0 := by
  have : cs = [] := List.eq_nil_of_length_eq_zero hl
  subst this
  intro d hd
  cases hd
  exact e
theorem head_appS {cs : List (Str × Tok)} {c : Str} {t : Tok} {s0 : Str} {i : Nat} (hl : cs.length = i + 1) (h : ∀ d, cs.head? = some d → d.1 = s0) : ∀ d, (cs ++ [(c, t)]).head? = some d → d.1 = s0 := by
  match cs, hl with
  | x :: r, _ => exact fun d hd => h d hd
theorem len_app {cs : List (Str × Tok)} {c : Str} {t : Tok} (h : ∀ d ∈ cs, d.1.length = 1) (hc : c.length = 1) : ∀ d ∈ cs ++ [(c, t)], d.1.length = 1 := fun d hd => by
  rcases List.mem_append.mp hd with hd | hd
  · exact h d hd
  · rw [List.mem_singleton.mp hd]; exact hc
theorem join_head {c : Str} {rest : List Str} (hc : c.length = 1) (hl : 0 < (Txt.join (Str.ofString "") (c :: rest)).length) : Txt.item (Txt.join (Str.ofString "") (c :: rest)) 0 = c := by
  rw [item_nonneg _ 0 (Int.le_refl 0) (by omega)]
  obtain ⟨⟨l⟩⟩ := c
  have hl1 : l.length = 1 := hc
  match l, hl1 with
  | [x], _ =>
    have e : (Txt.join (Str.ofString "") ((⟨#[x]⟩ : Str) :: rest)).cps.toList.getD 0 0 = x := by
      show (Builtin.Str.glued (Str.ofString "") _).cps.toList.getD 0 0 = x
      rw [StrLaws.glued_eq_join]
      cases rest with
      | nil => rfl
      | cons y r =>
        show (((⟨#[x]⟩ : Str) ++ Str.ofString "") ++ Str.join (Str.ofString "") (y :: r)).cps.toList.getD 0 0 = x
        have : (((⟨#[x]⟩ : Str) ++ Str.ofString "") ++ Str.join (Str.ofString "") (y :: r)).cps.toList = x :: (Str.join (Str.ofString "") (y :: r)).cps.toList := by
          show (((#[x] : Array Nat) ++ (Str.ofString "").cps) ++ (Str.join (Str.ofString "") (y :: r)).cps).toList = _
          have e0 : (Str.ofString "").cps = #[] := by decide
          rw [e0]; simp
        rw [this]; rfl
    show (⟨#[(Txt.join (Str.ofString "") ((⟨#[x]⟩ : Str) :: rest)).cps.toList.getD 0 0]⟩ : Str) = _
    rw [e]
theorem strsAre_chars : ∀ cs : List (Str × Tok), StrsAre (chars cs) (cs.map (·.1))
  | [] => .nil
  | (c, t) :: r => .cons c t (strsAre_chars r)
theorem join_end {cs : List (Str × Tok)} {s0 : Str} (hl : cs.length = 10) (h1 : ∀ c ∈ cs, c.1.length = 1) (h2 : ∀ c, cs.head? = some c → c.1 = s0) :
    Txt.item (Txt.join (Str.ofString "") (cs.map (·.1))) 0 = s0 ∧ (Txt.join (Str.ofString "") (cs.map (·.1))).length = 10 := by
  have e : (Txt.join (Str.ofString "") (cs.map (·.1))).length = 10 := by
    rw [KT.join_ones _ (fun a ha => by obtain ⟨c, hc, rfl⟩ := List.mem_map.mp ha; exact h1 c hc), List.length_map, hl]
  refine ⟨?_, e⟩
  obtain ⟨c, r, rfl⟩ : ∃ c r, cs = c :: r := by
    cases cs with
    | nil => cases hl
    | cons c r => exact ⟨c, r, rfl⟩
  have := h2 c rfl
  subst this
  exact join_head (h1 c (.head _)) (by
    have : (Txt.join (Str.ofString "") ((c :: r).map (·.1))).length = 10 := e
    show 0 < (Txt.join (Str.ofString "") ((c :: r).map (·.1))).length
    omega)
section
variable {prog : Program} {w : World} {A : Around} {E : Value → Shared → Prop} {s : Shared} {h₀ : Heap} {L D : Addr} {cs : List (Str × Tok)} {ep : Nat} {news : List (Addr × Obj)} {t : Tok} {Q : Value → Shared → Prop}
theorem join_lsO (N : News h₀ L s.heap ((D, lsO cs ep) :: news)) (hl : cs.length = 10) (h1 : ∀ c ∈ cs, c.1.length = 1) (h : ∀ t' k, Q (.str (Txt.join (Str.ofString "") (cs.map (·.1))) t') { s with toks := k }) :
    wpAny (model prog w) A (call (.builtin "str.join") [.str (Str.ofString "") t, .ref D]) Q E s := by
  refine join_listW (items := List.toArray (chars cs)) ⟨_, (N _ (.head _)).1, rfl, ep, rfl⟩ (by simpa using strsAre_chars cs) (by decide) ?_ h
  have : ((cs.map (·.1)).map (·.length)).sum ≤ cs.length := by
    clear hl N h
    induction cs with
    | nil => exact Nat.le_refl _
    | cons c r ih =>
      have := ih (fun d hd => h1 d (.tail _ hd))
      have q := h1 c (.head _)
      simp only [List.map_cons, List.sum_cons, List.length_cons] at this ⊢
      omega
  rw [List.length_map, hl]
  omega
end
theorem updB {base : List (Addr × Obj)} {l I e : Addr} {oi oe o o' : Obj} (l9 : ∀ p ∈ base, p.1 < l) (hI : l < I) (hIe : I < e) : Upd l o o' ((e, oe) :: (I, oi) :: (l, o) :: base) ((e, oe) :: (I, oi) :: (l, o') :: base) :=
  .tail (Nat.ne_of_gt (Nat.lt_trans hI hIe)) (.tail (Nat.ne_of_gt hI) (.head fun p hp => Nat.ne_of_lt (l9 p hp)))
theorem stepI_brk {h₀ : Heap} {L : Addr} {m m' : Str → Option Value} {pre base : List (Addr × Obj)} {P : Addr} {cs : List (Str × Tok)} {ep ep' : Nat} {good : Str → Prop} {V : Prop} {q : Addr × Obj} {s₁ : Shared} {c : Str} {t : Tok} {h' : Heap} {tk : Nat}
    (hc : c.length = 1) (hg : good c) (hm : ∀ y, y ≠ nB → y ≠ nC → m' y = m y) (F : Fr h₀ L h' m') (N : News h₀ L h' (q :: (pre ++ (P, lsO (cs ++ [(c, t)]) ep') :: base))) :
    StepI h₀ L m pre base P cs ep good V q s₁ .brk { s₁ with heap := h', toks := tk } := ⟨c, t, h', tk, ep', m', rfl, hc, hg, hm, F, N⟩
theorem stepI_nx {h₀ : Heap} {L : Addr} {m m' : Str → Option Value} {pre base : List (Addr × Obj)} {P : Addr} {cs : List (Str × Tok)} {ep : Nat} {good : Str → Prop} {V : Prop} {q : Addr × Obj} {s₁ : Shared} {h' : Heap} {tk : Nat}
    (hV : V) (hm : ∀ y, y ≠ nB → y ≠ nC → m' y = m y) (F : Fr h₀ L h' m') (N : News h₀ L h' (q :: (pre ++ (P, lsO cs ep) :: base))) :
    StepI h₀ L m pre base P cs ep good V q s₁ .next { s₁ with heap := h', toks := tk } := ⟨hV, h', tk, m', rfl, hm, F, N⟩
theorem midP_ok {h₀ : Heap} {L : Addr} {m m' : Str → Option Value} {pre base : List (Addr × Obj)} {P : Addr} {cs : List (Str × Tok)} {ep' : Nat} {good : Str → Prop} {s₁ : Shared} {c : Str} {t : Tok} {h' : Heap} {tk : Nat}
    (hc : c.length = 1) (hg : good c) (hm : ∀ y, y ≠ nB → y ≠ nC → m' y = m y) (F : Fr h₀ L h' m') (N : News h₀ L h' (pre ++ (P, lsO (cs ++ [(c, t)]) ep') :: base)) :
    MidP h₀ L m pre base P cs good s₁ .next { s₁ with heap := h', toks := tk } := ⟨rfl, c, t, h', tk, ep', m', rfl, hc, hg, hm, F, N⟩
theorem stepO_ok {h₀ : Heap} {L : Addr} {m m' : Str → Option Value} {q1 q2 : Addr × Obj} {P : Addr} {base : List (Addr × Obj)} {n : Nat} {s0 : Str} {s₁ : Shared} {cs : List (Str × Tok)} {ep : Nat} {h' : Heap} {tk : Nat}
    (e : cs.length = n) (h1 : ∀ c ∈ cs, c.1.length = 1) (h2 : ∀ c, cs.head? = some c → c.1 = s0) (hm : ∀ y, y ≠ nI → y ≠ nT → y ≠ nB → y ≠ nC → m' y = m y) (F : Fr h₀ L h' m') (N : News h₀ L h' (q1 :: q2 :: (P, lsO cs ep) :: base)) :
    StepO h₀ L m q1 q2 P base n s0 s₁ .next { s₁ with heap := h', toks := tk } := ⟨rfl, h', tk, cs, ep, m', rfl, e, h1, h2, hm, F, N⟩
theorem filemode_fn (w : World) (kind k : Int) (tm : Tok) (hk : kind = 32768 ∨ kind = 40960 ∨ kind = 4096) (h0 : 0 ≤ k) (h1 : k < 512) : FnS w 3 91 [.int (kind + k) tm] (fun r => Txt.item r 0 = sgn kind ∧ r.length = 10) := by
  dsimp only [FnS]
  k_fill
  k_with_none
  intros
  rename_i hret
  have cbI : CbIn 91 := CbIn.mk
  refine wpAny_call ?_
  (first | k_dflt cell_enter | ktn_no "k_call_by: the def is not entered")
  k_with "exec For Tuple Call cons nil" =>
    k_here
    k_dflt (
    (rename Fr _ _ _ _ => F9)
    (rename News _ _ _ ((_, listOf #[] 0) :: _) => N9)
    (rename (∀ (p : Addr × Obj), p ∈ _ → p.1 < _) => l9)
    (rename (hd.heap_1 w.params).In _ => X9)
    refine' forN_P (sgn kind) ?hh F9 N9 ?hT ?he ?st ?la
    (case hh => exact rfl)
    (case hT => exact tab_items X9)
    case' st => (
      intro i x t8 Tp cs8 ep8 v1 v2 v3 v4 h8 tk8 e8 oe8 I8 oi8 hx8 hcs hc1 hgood hTp hoe hoi hI8 hIe F8 N8
      (dsimp only [nI, nT, nB, nC] at F8)
      obtain ⟨hi10, hx9⟩ := tab_any X9 hx8
      have hlen : cs8.length ≤ 100 := Nat.le_trans (Nat.le_of_eq hcs) (Nat.le_trans (Nat.le_of_lt hi10) (Nat.le_of_ble_eq_true rfl))
      clear hx8
      rcases hx9 with ⟨rfl, rfl, hT9, hps⟩ | ⟨i, T9, ps9, rfl, rfl, hT9, hps⟩
      all_goals try obtain ⟨z9, hz9, hTp⟩ : ∃ z : Int, (z == 0) = false ∧ IsTup h8 Tp #[.int z t8, .ref T9] := ⟨_, beq_eq_false_iff_ne.mpr (by omega), hTp⟩)
    case' la =>
      intro cs8 ep8 v1 v2 v3 v4 h8 tk8 hcs hc1 hgood F8 N8
      (dsimp only [nI, nT, nB, nC] at F8))
  k_with "call type:enumerate" =>
    k_here
    (with_reducible show wpAny _ _ (call (Value.type _) [Value.ref _]) (EnumP _ _ _ _ _ _) _ _)
    (rename Fr _ _ _ _ => F8)
    (rename News _ _ _ _ => N8)
    (rename (hd.heap_1 w.params).In _ => X8)
    exact call_enumT (F8.keep _ _ (X8 84 _ rfl)) ⟨_, _, rfl, rfl, F8, N8⟩
  k_with "exec For Tuple Name" =>
    k_here
    k_dflt (
    (rename Fr _ _ _ _ => F7)
    (rename News _ _ _ _ => N7)
    first
    | (refine' forT_P (pre := [(e8, oe8), (I8, oi8)]) ps0 (fun c => c = sgn kind) (fun b => b ≠ kind) ?iaHh F7 N7 hT9 ?iaHe ?iaSt ?iaLa ?iaHQ
       (case iaHh => exact rfl)
       (case' iaLa =>
          intro v1 v2 h7 tk7 hV F6 N6
          exact (none0 hk hV).elim)
       (case' iaSt =>
          intro q b c v1 v2 h7 tk7 I7 o7 hq ho7 hI7 F6 N6
          (dsimp only [nB, nC, List.cons_append, List.nil_append] at F6 N6)
          obtain ⟨hcl, t7, u7, hq7⟩ := hps _ _ _ hq
          have hq6 := isTup_keep F6 hq7
          clear hq7
          have hIP := hI7 _ (.tail _ (.tail _ (.head _))))
       (case' iaHQ =>
          intro c t7 h7 tk7 ep7 v1 v2 hcl hcg F6 N6
          (dsimp only [nB, nC, List.cons_append, List.nil_append] at F6 N6)))
    | (refine' forT_P (pre := [(e8, oe8), (I8, oi8)]) ps9 (fun _ => True) (fun _ => True) ?ibHh F7 N7 hT9 ?ibHe ?ibSt ?ibLa ?ibHQ
       (case ibHh => exact rfl)
       (case' ibLa =>
          intro v1 v2 h7 tk7 hV F6 N6
          (dsimp only [nB, nC, List.cons_append, List.nil_append] at F6 N6))
       (case' ibSt =>
          intro q b c v1 v2 h7 tk7 I7 o7 hq ho7 hI7 F6 N6
          (dsimp only [nB, nC, List.cons_append, List.nil_append] at F6 N6)
          obtain ⟨hcl, t7, u7, hq7⟩ := hps _ _ _ hq
          have hq6 := isTup_keep F6 hq7
          clear hq7
          have hIP := hI7 _ (.tail _ (.tail _ (.head _))))
       (case' ibHQ =>
          intro c t7 h7 tk7 ep7 v1 v2 hcl hcg F6 N6
          (dsimp only [nB, nC, List.cons_append, List.nil_append] at F6 N6))))
  k_with "call ref" =>
    k_here
    k_dflt (refine' use_FnI (ifmt_fn w _ _ _ ?ka ?kb ?kc) ?z1 ?z2 ?z3 ?z4 ?z5 ?z6 ?z7 ?z8 ?_; (case ka => assumption); (case kb => assumption); (case kc => assumption); (case z1 => k_asm); (case z2 => k_asm); (case z3 => k_asm); (case z4 => k_asm); (case z5 => k_asm); (case z6 => first | exact rfl | assumption); (case z7 => ktr_room); (case z8 => ktr_units))
    intro r9 t9 h9 tk9 hr9 F9 N9
    subst hr9
    (try dsimp only)
    (try k_fold)
  k_with "call builtin:str.join" =>
    k_here
    k_dflt (refine' join_lsO ?N ?l ?h1 ?_; (case N => k_asm); (case l => assumption); (case h1 => assumption))
    intro t7 k7
  k_with "call builtin:list.append" =>
    k_here
    k_dflt (
    (rename Fr _ _ _ _ => F4)
    (rename News _ _ _ _ => N4)
    first
    | (refine' append_lsO (cs := cs8) F4 N4 ?aU hlen ?_
       (case aU => exact .tail (Nat.ne_of_gt hIP) (updB l9 (hI8 _ (.head _)) hIe)))
    | (refine' append_lsO (cs := cs8) F4 N4 ?aV hlen ?_
       (case aV => exact updB l9 (hI8 _ (.head _)) hIe))
    intro h5 F5 N5)
  k_steps
  case iaHQ => exact stepO_ok (by simp [hcs]) (len_app hc1 hcl) (head_app0 hcs hcg) (fun y a b c d => by simp only [nI, nT, nB, nC] at a b c d; simp only [if_neg a, if_neg b, if_neg c, if_neg d]) F6 N6
  case ibHQ => exact stepO_ok (by simp [hcs]) (len_app hc1 hcl) (head_appS hcs hgood) (fun y a b c d => by simp only [nI, nT, nB, nC] at a b c d; simp only [if_neg a, if_neg b, if_neg c, if_neg d]) F6 N6
  all_goals try first | exact F7 | exact N7
  all_goals try (rename_i kF kN _ _; exact hret _ _ _ _ (join_end hcs hc1 hgood) kF fun p hp => kN p (.tail _ hp))
  all_goals (
    (rename Fr _ _ _ _ => F4)
    (rename News _ _ _ _ => N4)
    first
    | exact stepI_brk hcl trivial (fun y a b => by simp only [nB, nC] at a b; simp only [if_neg a, if_neg b]) F4 N4
    | (rename_i hne; exact stepI_nx (Ne.symm hne) (fun y a b => by simp only [nB, nC] at a b; simp only [if_neg a, if_neg b]) F4 N4)
    | exact stepI_nx trivial (fun y a b => by simp only [nB, nC] at a b; simp only [if_neg a, if_neg b]) F4 N4
    | exact midP_ok rfl trivial (fun y a b => by simp only [nB, nC] at a b; simp only [if_neg a, if_neg b]) F4 N4
    | exact stepI_brk hcl (rel0 hk hq (by assumption)) (fun y a b => by simp only [nB, nC] at a b; simp only [if_neg a, if_neg b]) F4 N4
    | fail "no end")
end Mine
end
section
open PySem PySem.W PyProof.Rows PySem.Spec PySem.Calls PyProof.V
set_option Elab.async false
set_option maxRecDepth 100000
set_option maxHeartbeats 4000000
set_option linter.unusedVariables false
namespace Mine
set_option compiler.extract_closed false in
local macro_rules | `(tactic| walk_at $s:str) => do `(tactic| k_extra $(Lean.Syntax.mkStrLit ("!" ++ s.getString)))
noncomputable def kindOf (name : Str) : Int := if name = Str.ofString "file" then 32768 else if name = Str.ofString "link" then 40960 else 4096
noncomputable def isName (name : Str) : Prop := name = Str.ofString "file" ∨ name = Str.ofString "link" ∨ name = Str.ofString "pipe"
theorem kindOf_any (name : Str) : kindOf name = 32768 ∨ kindOf name = 40960 ∨ kindOf name = 4096 := by
  unfold kindOf
  split
  · exact .inl rfl
  · split
    · exact .inr (.inl rfl)
    · exact .inr (.inr rfl)
theorem sgn_kind {name : Str} (h : isName name) (x : Int) : sgn (kindOf name) = headSign (x, name) := by
  rcases h with rfl | rfl | rfl
  · rw [sign_f]; decide
  · rw [sign_k]; decide
  · rw [sign_p]; decide
section
variable {prog : Program} {w : World} {A : Around} {E : Value → Shared → Prop} {s : Shared} {h₀ : Heap} {L d : Addr} {o : Obj} {led : List (Addr × Obj)} {kvs : List (Str × Value)} {D : List (PyData × PyData)} {x : Str} {y : Int} {t : Tok} {Q : Value → Shared → Prop} {t1 t2 t3 t4 t5 t6 : Tok}
theorem kind_get (N : News h₀ L s.heap led) (hp : (d, o) ∈ led) (lo : (d == sysModules) = false) (hd : o.IsDictOf (strKind prog w) kvs) (hf : FlatPairs PyData.str kvs D) (hl : Spec.lookup (.str x) D = some (.int y)) (h : ∀ t, Q (.int y t) { s with toks := s.toks + 1 }) :
    wpAny (model prog w) A (getItem (.ref d) (.str x t)) Q E s :=
  getItem_tab PyProof.V.same_str (strKind_is _ _ _ _) (TabAt.ofNews N hp lo hd hf) hl (fun v hv => by
    obtain ⟨t, rfl⟩ := Flat.int_inv hv
    exact h t)
theorem look_kind {name : Str} (h : isName name) : Spec.lookup (.str name) (strData [(.str (Str.ofString "file") t1, Value.int 32768 t2), (.str (Str.ofString "link") t3, Value.int 40960 t4), (.str (Str.ofString "pipe") t5, Value.int 4096 t6)]) = some (.int (kindOf name)) := by
  show (if Spec.same (.str (Str.ofString "file")) (.str name) = true then some (PyData.int 32768) else (if Spec.same (.str (Str.ofString "link")) (.str name) = true then some (PyData.int 40960) else (if Spec.same (.str (Str.ofString "pipe")) (.str name) = true then some (PyData.int 4096) else none))) = _
  rcases h with rfl | rfl | rfl
  · rw [if_pos (same_yes _)]; rfl
  · rw [if_neg (same_no (by decide)), if_pos (same_yes _)]; rfl
  · rw [if_neg (same_no (by decide)), if_neg (same_no (by decide)), if_pos (same_yes _)]; rfl
end
theorem kind_fn (w : World) (name : Str) (n : Int) (tw tn : Tok) (hn : isName name) : FnI w 2 112 [.str name tw, .int n tn] (fun r => r = kindOf name + n.fmod 512) := by
  have b1 := fm_lt n 512 (by decide)
  have b2 := kindOf_any name
  dsimp only [FnI]
  k_fill
  k_with_none
  k_with "!getItem ref str" =>
    (k_here; k_dflt (refine' kind_get ?zN ?zp ?zl ?zd ?zf (look_kind (by assumption)) ?_; (case zN => k_asm); (case zp => k_mem); (case zl => assumption); (case zd => assumption); (case zf => assumption)); intro _)
  intros
  rename_i hret
  have cbI : CbIn 112 := CbIn.mk
  refine wpAny_call ?_
  (first | k_dflt cell_enter | ktn_no "k_call_by: the def is not entered")
  k_steps
  all_goals (exact hret _ _ _ _ rfl (by k_asm) (by first | k_asm | (refine' cb_drop ?cbN ?cbS; (case cbN => assumption); (case cbS => kcj_all))))
end Mine
end
section
open PySem PySem.W PyProof.Rows PySem.Spec PySem.Calls PyProof.V
set_option Elab.async false
set_option maxRecDepth 100000
set_option maxHeartbeats 4000000
set_option linter.unusedVariables false
namespace Mine
theorem told_data {led : List (Addr × Obj)} {R O Bd Td r1 r2 r3 rB : Addr} {k p f b x1 x2 x3 i1 i2 i3 j1 j2 j3 : Int} {n1 n2 n3 sg : Str} {t1 u1 t2 u2 t3 u3 uB vB a1 a2 a3 e1 e2 e3 ts : Tok} {c c0 : Nat}
    (hOrd : ord3 k p f = [(x1, n1), (x2, n2), (x3, n3)]) (hR : (R, listOf (List.toArray [.ref O, .ref rB, .ref Bd, .ref Td, .str sg ts]) c0) ∈ led) (hB : (Bd, LCg.lst [.int i1 a1, .int i2 a2, .int i3 a3]) ∈ led) (hT : (Td, LCg.lst [.int j1 e1, .int j2 e2, .int j3 e3]) ∈ led)
    (hO : (O, listOf (List.toArray [.ref r1, .ref r2, .ref r3]) c) ∈ led) (hm1 : (r1, tupO x1 n1 t1 u1) ∈ led) (hm2 : (r2, tupO x2 n2 t2 u2) ∈ led) (hm3 : (r3, tupO x3 n3 t3 u3) ∈ led) (hmB : (rB, tupO x1 n1 uB vB) ∈ led)
    (q1 : i1 = min k b) (q2 : i2 = min p b) (q3 : i3 = min f b) (q4 : j1 = min k b) (q5 : j2 = min p b) (q6 : j3 = min f b) (hs : sg = headSign (x1, n1)) : DatIn led (.ref R) (answer k p f b) := by
  unfold answer answerOf
  rw [hOrd]
  subst q1 q2 q3 q4 q5 q6 hs
  have d1 := DatIn.tuple hm1 (.cons (.int x1 t1) (.cons (.str n1 u1) .nil))
  have d2 := DatIn.tuple hm2 (.cons (.int x2 t2) (.cons (.str n2 u2) .nil))
  have d3 := DatIn.tuple hm3 (.cons (.int x3 t3) (.cons (.str n3 u3) .nil))
  have dB := DatIn.tuple hmB (.cons (.int x1 uB) (.cons (.str n1 vB) .nil))
  have lB := DatIn.list hB (.cons (.int (min k b) a1) (.cons (.int (min p b) a2) (.cons (.int (min f b) a3) .nil)))
  have lT := DatIn.list hT (.cons (.int (min k b) e1) (.cons (.int (min p b) e2) (.cons (.int (min f b) e3) .nil)))
  exact DatIn.list hR (.cons (.list hO (.cons d1 (.cons d2 (.cons d3 .nil)))) (.cons dB (.cons lB (.cons lT (.cons (.str _ ts) .nil)))))

theorem in3 {p a b c : Addr × Obj} {led : List (Addr × Obj)} (h : p ∈ [a, b, c]) (ha : a ∈ led) (hb : b ∈ led) (hc : c ∈ led) : p ∈ led := by
  simp only [List.mem_cons, List.not_mem_nil, or_false] at h
  rcases h with rfl | rfl | rfl <;> assumption
/-- the answer's data, told by a ledger of their own -/
theorem answer_data {h₀ h : Heap} {L : Addr} {led : List (Addr × Obj)} {R O Bd Td a1 a2 a3 r1 r2 r3 rB : Addr} {k p f b x1 x2 x3 i1 i2 i3 j1 j2 j3 : Int} {n1 n2 n3 sg : Str} {t1 u1 t2 u2 t3 u3 uB vB T1 U1 T2 U2 T3 U3 c1 c2 c3 e1 e2 e3 ts : Tok} {c c0 : Nat}
    (N : News h₀ L h led) (hOrd : ord3 k p f = [(x1, n1), (x2, n2), (x3, n3)]) (hR : (R, listOf (List.toArray [.ref O, .ref rB, .ref Bd, .ref Td, .str sg ts]) c0) ∈ led) (hB : (Bd, LCg.lst [.int i1 c1, .int i2 c2, .int i3 c3]) ∈ led) (hT : (Td, LCg.lst [.int j1 e1, .int j2 e2, .int j3 e3]) ∈ led)
    (hO : (O, listOf (List.toArray [.ref a1, .ref a2, .ref a3]) c) ∈ led) (w1 : (r1, tupO k (Str.ofString "link") T1 U1) ∈ led) (w2 : (r2, tupO p (Str.ofString "pipe") T2 U2) ∈ led) (w3 : (r3, tupO f (Str.ofString "file") T3 U3) ∈ led)
    (hm1 : (a1, tupO x1 n1 t1 u1) ∈ [(r1, tupO k (Str.ofString "link") T1 U1), (r2, tupO p (Str.ofString "pipe") T2 U2), (r3, tupO f (Str.ofString "file") T3 U3)]) (hm2 : (a2, tupO x2 n2 t2 u2) ∈ [(r1, tupO k (Str.ofString "link") T1 U1), (r2, tupO p (Str.ofString "pipe") T2 U2), (r3, tupO f (Str.ofString "file") T3 U3)])
    (hm3 : (a3, tupO x3 n3 t3 u3) ∈ [(r1, tupO k (Str.ofString "link") T1 U1), (r2, tupO p (Str.ofString "pipe") T2 U2), (r3, tupO f (Str.ofString "file") T3 U3)]) (hmB : (rB, tupO x1 n1 uB vB) ∈ [(r1, tupO k (Str.ofString "link") T1 U1), (r2, tupO p (Str.ofString "pipe") T2 U2), (r3, tupO f (Str.ofString "file") T3 U3)])
    (q1 : i1 = min k b) (q2 : i2 = min p b) (q3 : i3 = min f b) (q4 : j1 = min k b) (q5 : j2 = min p b) (q6 : j3 = min f b) (hs : sg = headSign (x1, n1)) : DatIn led (.ref R) (answer k p f b) :=
  told_data hOrd hR hB hT hO (in3 hm1 w1 w2 w3) (in3 hm2 w1 w2 w3) (in3 hm3 w1 w2 w3) (in3 hmB w1 w2 w3) q1 q2 q3 q4 q5 q6 hs
section
variable {prog : Program} {w : World} {A₀ A : Around} {s : Shared} {base h₀ : Heap} {outer : List Env} {L : Addr} {m mg mb : Str → Option Value} {env : Env} {news : List (Addr × Obj)} {K : Frag} {p : Program} {loose : List Str} {mean : ExcName → Option Value}
  {R : Result → Shared → Prop} {name qual : Str} {params : Arguments} {body : List Stmt} {scope : Scope} {dV kV doc pm cdv ct oc : Value} {an od : Option Addr} {osl : Array (Option Value)} {f : Addr} {args : Args} {binds : List (Str × Value)}
/-- a def is entered; what the ledger does not name stands in the callee's own ground -/
theorem code_dG (B : Below A₀ base outer h₀) (F : Fr h₀ L s.heap m) (X₀ : K.In h₀) (N : News h₀ L s.heap news) (T : Top p loose mean mg mb h₀) (hA : A.frames = some (env :: outer)) (hf : env.frame = some L) (hke : env.scope.kind = .function)
    (ho : K.lookup f = some ⟨oc, od, .func (fnOf name qual params body scope dV kV doc pm an cdv ct), osl⟩) (hcd : codeIn K cdv qual = true) (hroom : A.depth < recursionLimit)
    (hbind : BindsTo s (fnOf name qual params body scope dV kV doc pm an cdv ct) args binds) (hkind : (binds.all fun y => scope.names.lookup y.1 == some .local || scope.names.lookup y.1 == some .cell) = true)
    (hnd : ((cellsFrom 0 scope.names []).map (·.1)).Nodup)
    (h : ∀ g L' h₁ tk cells, Fr h₀ L g m → Fr g L' h₁ (bindL (envOfC qual scope L' f cdv).kindOf binds fun _ => none) → News g L' h₁ (cells ++ news) →
      CellsAre (bindC (envOfC qual scope L' f cdv).kindOf binds fun _ => none) (cellsFrom (L' + 1) scope.names []) cells → Below A base (env :: outer) g → K.In g → Top p loose mean mg mb g → (∀ p ∈ news, p.1 < L') →
      (∀ b o, s.heap.get? b = some o → (∀ q ∈ news, q.1 ≠ b) → g.get? b = some o) →
      wpAny (model prog w) (A.deeper (envOfC qual scope L' f cdv)) (execs body (envOfC qual scope L' f cdv))
        (fun fl s' => LeaveK h₀ L m g R (match fl with | .ret v => v | _ => .none) s')
        (fun e s' => wpAny (model prog w) (A.deeper (envOfC qual scope L' f cdv)) (leaving (envOfC qual scope L' f cdv) e) (fun _ s'' => R (.error e) s'') (fun e' s'' => R (.error e') s'') s')
        { s with heap := h₁, toks := tk })
    (hco : scope.isCoroutine = false) (hgen : scope.isGenerator = false) (hk : scope.kind = .function) : codeAny (model prog w) A (.call (.ref f) args) R s := by
  have X := X₀.keeps F.keep
  obtain ⟨FG, BG, st, lv⟩ := groundX (R := R) B F N hA hf hke
  have sub : ∀ b o, s.heap.get? b = some o → (∀ q ∈ news, q.1 ≠ b) → (hideAll s.heap (news.map (·.1))).get? b = some o := fun b o e z => hideAll_get _ e fun q => by
    obtain ⟨x, hx, y⟩ := List.mem_map.mp q
    exact z x hx y
  refine codeAny_call_function hroom (X _ _ ho) rfl hco hgen rfl (codeRec_of X hcd) (hbind _ _ _ _ ?_)
  refine wpAny_newFunctionEnv_cells hk (kindsX hkind _) fun env' he s' x => ?_
  subst he
  refine ⟨(T.nolimit.keeps F.keep).keeps x.toInCall.keep, codeAny_func ?_⟩
  obtain ⟨h₁, tk, rfl, _⟩ := x.done
  have hk₁ := x.toInCall.keep
  obtain ⟨cells, NC, Y⟩ := Cl.news (h₀ := s.heap) (Nat.le_refl _) fun n c hm => ⟨x.cell n c (lookup_of_mem_nodup (cellsFrom_names scope.names 0 (s.heap.objs.size + 1) [] [] rfl ▸ hnd) hm), x.above n c hm⟩
  have lt : ∀ q ∈ news, q.1 < s.heap.objs.size := fun q hq => Heap.lt_size (N q hq).1
  have NN : News (hideAll s.heap (news.map (·.1))) s.heap.objs.size h₁ (cells ++ news) := fun q hq => by
    rcases List.mem_append.mp hq with hq | hq
    · refine ⟨(NC q hq).1, (NC q hq).2.1, ?_⟩
      cases z : (hideAll s.heap (news.map (·.1))).get? q.1 with
      | none => rfl
      | some o =>
        have y := of_hideAll _ z
        rw [(NC q hq).2.2] at y; cases y
    · exact ⟨hk₁ _ _ (N q hq).1, Nat.ne_of_lt (lt q hq), hideAll_none _ (List.mem_map_of_mem hq)⟩
  exact wpAny_mono (h _ _ h₁ tk cells FG ⟨x.toInCall.ns, fun b o e => hk₁ b o (of_hideAll _ e), Nat.le_of_eq (hideAll_size _ _)⟩ NN Y BG (X₀.keeps st) (T.keeps st) lt sub) (fun fl s' hl => lv _ _ hl) fun _ _ y => y
end
end Mine
end
section
open PySem PySem.W PyProof.Rows PySem.Spec PySem.Calls PySem.W.X PyProof.V
set_option Elab.async false
set_option maxRecDepth 100000
set_option maxHeartbeats 4000000
set_option linter.unusedVariables false
namespace Mine
section
variable {w : World} {A : Around} {s : Shared} {h₀ h : Heap} {L a b : Addr} {m mg mb : Str → Option Value} {tl tl' led news : List (Addr × Obj)} {g : List (Addr × Obj) → List (Addr × Obj)} {mean : ExcName → Option Value} {cs scope : Scope} {cl : List (Str × Addr)} {params : Arguments} {body : Expr} {k : CodeD} {Q E : Value → Shared → Prop}
theorem S30f.keep (N : News h₀ L h tl) (H : S30f tl k) {ps : Array Value} (hb : (114, tabObj ps) ∈ tl) (hs : ps.size ≠ 18) (hk : ∀ q ∈ tl, q.1 ≠ 114 → q ∈ tl') : S30f tl' k :=
  ⟨hk _ H.1 (show (30 : Nat) ≠ 114 by decide), codes_keep N H.2 hb hs hk⟩
/-- the lambda of reduce is made, cmp_to_key's table being filled -/
theorem lam3_T {c1 : Addr} {r2 r3 : Nat} (F : Fr h₀ L s.heap m) (N : News h₀ L s.heap led) (T : Top topProg lo mean mg mb h₀) (C : CodeHd h₀ 116 114) (TF : TailF tl led g) (S : O114 tl c1 ∨ ∃ c2, W114 tl c1 c2) (S' : S30f tl k)
    (hdef : defaultsOf params (env117 cs L a cl) = ([], [])) (hcl : closureFor scope (env117 cs L a cl) = pure [])
    (h : ∀ (f c' : Addr) (pm ct : Value) (tl' : List (Addr × Obj)) (h' : Heap) (tk : Nat), Fr h₀ L h' m → News h₀ L h' ((f, kla_obj (Str.ofString "<lambda>") qL params body scope [] pm c' ct) :: g tl') → (∀ q ∈ g tl', q.1 < f) → (∀ q ∈ tl, q.1 ≠ 114 → q ∈ tl') →
      W114 tl' c1 c' → S30f tl' k → Q (.ref f) { s with heap := h', toks := tk }) :
    wpAny (model PR w) A (eval (.Lambda params body scope ⟨143, 18, r2, r3⟩) (env117 cs L a cl)) Q E s := by
  have Nt := news_tail N TF
  rcases S with ⟨S1, S2⟩ | ⟨c2, S1, S2, S3⟩
  · refine lam_new F N T C TF S1 (by kn_triples) (by kn_among) hdef hcl fun f c' pm ct tl' h' tk F' N' l1 l2 hk hm hc lt => ?_
    exact h f c' pm ct tl' h' tk F' N' l2 hk ⟨hm, S2.keep Nt S1 ps_nostr1 hk, hc⟩ (S'.keep Nt S1 (show (3 : Nat) ≠ 18 by decide) hk)
  · refine lam_hit F N T C TF S1 (by kn_triples) (c' := c2) (by kn_hit) hdef hcl fun f pm ct h' tk F' N' l2 => ?_
    exact h f c2 pm ct tl h' tk F' N' l2 (fun q hq _ => hq) ⟨S1, S2, S3⟩ S'
end
/-- the state of both tables -/
noncomputable def TState (led : List (Addr × Obj)) : Prop := (Z114 led ∨ ∃ c1 c2, W114 led c1 c2) ∧ S30 led
noncomputable def TState2 (led : List (Addr × Obj)) : Prop := (∃ c1 c2, W114 led c1 c2) ∧ ∃ k, S30f led k
theorem W114.mono {tl led : List (Addr × Obj)} {c1 c2 : Addr} (H : W114 tl c1 c2) (hk : ∀ q ∈ tl, q ∈ led) : W114 led c1 c2 := by
  obtain ⟨q1, ⟨oc, vs, t, x, y⟩, ⟨oc', vs', t', x', y'⟩⟩ := H
  exact ⟨hk _ q1, ⟨oc, vs, t, hk _ x, y⟩, ⟨oc', vs', t', hk _ x', y'⟩⟩
theorem told_keep {news t1 t2 t3 led : List (Addr × Obj)} {g : List (Addr × Obj) → List (Addr × Obj)} {c1 c2 : Addr} {k : CodeD} (TF : TailF t3 led g) (k1 : ∀ q ∈ news, q.1 ≠ 114 → q ∈ t1) (k2 : ∀ q ∈ t1, q.1 ≠ 30 → q ∈ t2) (k3 : ∀ q ∈ t2, q.1 ≠ 114 → q ∈ t3)
    (S1 : W114 t3 c1 c2) (S2 : S30f t3 k) : (∀ p ∈ news, p.1 ≠ 30 → p.1 ≠ 114 → p ∈ led) ∧ TState2 led := by
  obtain ⟨pre, rfl, _, _⟩ := TF.split
  have hk : ∀ q ∈ t3, q ∈ pre ++ t3 := fun q hq => List.mem_append_right _ hq
  exact ⟨fun p hp z1 z2 => hk _ (k3 _ (k2 _ (k1 _ hp z2) z1) z2), ⟨c1, c2, S1.mono hk⟩, k, hk _ S2.1, S2.2.mono fun a o q => hk _ q⟩
end Mine
end
section
open PySem PySem.W PyProof.Rows PySem.Spec PySem.Calls PyProof.V PySem.W.X
set_option Elab.async false
set_option maxRecDepth 100000
set_option maxHeartbeats 4000000
set_option linter.unusedVariables false
namespace Mine
set_option compiler.extract_closed false in
local macro_rules | `(tactic| walk_at $s:str) => do `(tactic| k_extra $(Lean.Syntax.mkStrLit ("!" ++ s.getString)))
set_option compiler.extract_closed false in
local macro_rules | `(tactic| k_all) => `(tactic| k_extra "k_all")
theorem lev_100 {a b : Str} {r : Int} (h : LevSpec a b 100 r) (ha : a.length ≤ 10) (hb : b.length ≤ 10) : r = ed a.cps.toList b.cps.toList := by
  have := ed_le a.cps.toList b.cps.toList
  rw [len_toList, len_toList] at this
  exact h.1 (by omega)
theorem lev_min {a b : Str} {m r : Int} (h : LevSpec a b m r) : min r (m + 1) = min (ed a.cps.toList b.cps.toList) (m + 1) := by
  by_cases q : ed a.cps.toList b.cps.toList ≤ m
  · rw [h.1 q]
  · have := h.2 (by omega); omega
theorem lev_min' {a b : Str} {m r : Int} (h : LevSpec a b m r) : min r (m + 1) = min (ed b.cps.toList a.cps.toList) (m + 1) := by rw [lev_min h, ed_comm]
theorem ne_tail {x d : Addr} {news : List (Addr × Obj)} (h : ∀ p ∈ news, p.1 < x) (hx : x ≤ d) : ∀ p ∈ news, p.1 ≠ d := fun p hp => Nat.ne_of_lt (Nat.lt_of_lt_of_le (h p hp) hx)
theorem ne_cons {x d : Addr} {o : Obj} {r : List (Addr × Obj)} (h : x ≠ d) (t : ∀ p ∈ r, p.1 ≠ d) : ∀ p ∈ (x, o) :: r, p.1 ≠ d := fun p hp => by
  rcases List.mem_cons.mp hp with rfl | hp
  · exact h
  · exact t p hp
theorem tail_lt_of {tl led : List (Addr × Obj)} {g : List (Addr × Obj) → List (Addr × Obj)} {f : Addr} (h : ∀ q ∈ led, q.1 < f) (TF : TailF tl led g) : ∀ q ∈ tl, q.1 < f := by
  obtain ⟨pre, rfl, _, _⟩ := TF.split
  exact fun q hq => h q (List.mem_append_right _ hq)
noncomputable abbrev FnT (w : World) (vs : List Value) (d : Dat) : Prop :=
  ∀ (mean : ExcName → Option Value) (mg mb : Str → Option Value) (news : List (Addr × Obj)) (dp un : Nat) (gd : Option (List Code)) (cn : Str) (cs : Scope) (a : Addr) (ccd : Value) (cl : List (Str × Addr)) (outer : List Env) (A₀ : Around) (base h₀ : Heap) (L : Addr) (m : Str → Option Value) (s : Shared) (Q E : Value → Shared → Prop),
    Below A₀ base outer h₀ → Fr h₀ L s.heap m → (hd.heap_1 w.params).In h₀ → News h₀ L s.heap news →
    Top topProg lo mean mg mb h₀ → cs.kind = .function →
    dp + 20 < 480 → un + 64 * 20 < 2900 → TState news →
    (∀ (v : Value) (led : List (Addr × Obj)) (h' : Heap) (tk' : Nat), DatIn led v d → KeepsOff s.heap h' news led → (∀ p ∈ news, p.1 ≠ 30 → p.1 ≠ 114 → p ∈ led) → TState2 led → Fr h₀ L h' m → News h₀ L h' led → Q v { s with heap := h', toks := tk' }) →
      wpAny (model PySem.Challenge.rw_oc0133_01.row.prog w) (ktrTop dp un gd cn cs L a ccd cl outer) (call (.ref 117) vs) Q E s
theorem mem_all {p : Addr × Obj} {l l2 : List (Addr × Obj)} (h : p ∈ l) (k : ∀ q ∈ l, q ∈ l2) : p ∈ l2 := k p h
theorem told_fn (w : World) (word : Str) (n : Int) (tw tn : Tok) (hw : word.length ≤ 10) : FnT w [.str word tw, .int n tn] (answer (dK word) (dP word) (dF word) (n.fmod 9 + 1)) := by
  have b1 := fm_lt n 9 (by decide)
  have b2 := fm_lt n 512 (by decide)
  dsimp only [FnT]
  k_fill
  k_with_none
  k_with "!CompSrc" =>
    (k_here; k_dflt (refine LCg.CompSrc.ledger (by rfl) (by k_asm) (by k_asm) (by k_mem) (by first | size_fits | exact Nat.le_of_ble_eq_true rfl) ?_; intro gC; lcg_lit))
  k_with "!newList" =>
    (k_here; k_dflt (refine' newList_K ?zF ?zN ?_ ?zz; (case zF => k_asm); (case zN => k_asm); (case zz => exact Nat.le_of_ble_eq_true rfl)); intro l' h' F' N' l0; refine kz (allLt_of l0) ?_; intro l1; (try simp only [AllLt, and_true] at l1); clear l0; (try k_sweep))
  k_with "!CompEnd" =>
    k_dflt (first
      | ((rename _ ∧ _ => lz); refine' compEnd_one ?eF ?eN ?e1 ?eO ?eS ?_; (case eF => k_asm); (case eN => k_asm); (case e1 => exact lz); (case eO => assumption); (case eS => lcg_src))
      | (refine' compEnd_none ?eF ?eN ?eO ?eS ?_; (case eF => k_asm); (case eN => k_asm); (case eO => assumption); (case eS => lcg_src)))
  k_with "!newTuple" =>
    (k_here; k_dflt (refine' kup_newTuple ?zF ?zN ?_ ?zz; (case zF => k_asm); (case zN => k_asm); (case zz => kmk_size)); intro D' h' F' N' l0; refine kz (allLt_of l0) ?_; intro l1; (try simp only [AllLt, and_true] at l1); clear l0; (try k_sweep))
  k_with "tail_f" =>
    first
      | exact TailF.here
      | (refine' TailF.cons ?tk ?tr; (case tk => first | exact Or.inl rfl | exact Or.inr (by assumption) | exact Or.inr (Nat.lt_succ_of_lt (by assumption)) | exact Or.inr (Nat.lt_succ_of_lt (Nat.lt_succ_of_lt (by assumption)))); (case tr => k_extra "tail_f"))
  k_with "tail_lt" =>
    (refine' tail_lt_of ?th ?tTF; (case th => assumption); (case tTF => k_extra "tail_f"))
  k_with "!eval Lambda" =>
    (k_here; k_dflt (first
      | (refine' lam1_T ?zF ?zN ?zT ?zC ?zTF ?zS ?zS2 ?zd ?zc ?ze1 ?ze2 ?ze3 ?_; (case zF => k_asm); (case zN => k_asm); (case zT => k_asm); (case zC => assumption); (case zS => assumption); (case zS2 => assumption); (case zTF => k_extra "tail_f"); (case zd => exact rfl); (case zc => exact rfl); (case ze1 => kernel_rfl!); (case ze2 => kernel_rfl!); (case ze3 => kernel_rfl!))
      | (refine' lam3_T ?zF ?zN ?zT ?zC ?zTF ?zS ?zS2 ?zd ?zc ?_; (case zF => k_asm); (case zN => k_asm); (case zT => k_asm); (case zC => assumption); (case zS => assumption); (case zS2 => assumption); (case zTF => k_extra "tail_f"); (case zd => exact rfl); (case zc => exact rfl))); intro f' c' pm' ct' tl' h' tk' F' N' l1 hk' S1' S2'; (try dsimp only at N' l1); refine kz (allLt_of l1) ?_; intro l2; (try simp only [AllLt, and_true] at l2))
  k_with "k_all" =>
    first
      | exact ne_tail (by assumption) (by first | exact Nat.le_refl _ | exact Nat.le_succ _ | exact Nat.le_succ_of_le (Nat.le_succ _) | exact Nat.le_succ_of_le (Nat.le_succ_of_le (Nat.le_succ _)) | omega)
      | (refine' ne_cons ?na ?nb; (case na => first | exact Nat.ne_of_lt (Nat.lt_succ_self _) | exact Nat.ne_of_gt (Nat.lt_succ_self _) | omega | k_ne); (case nb => k_all))
  intro mean mg mb news dp un gd cn cs a ccd cl outer A₀ base h₀ L m s Q E B0 F0 X0 N0 T0 hk0 hroom0 hunits0 S0 hret
  have hroom : dp + 20 < recursionLimit := Nat.lt_trans hroom0 (by decide)
  have hunits : un + 64 * 20 < cLine := Nat.lt_trans hunits0 (by decide)
  obtain ⟨S01, S02⟩ := S0
  have cbI : CbIn 117 := CbIn.mk
  refine wpAny_call ?_
  k_dflt (refine' code_dG ?k1 ?k2 ?k3 ?k4 ?k5 ?kA ?kF ?kK ?k6 ?k7 ?k8 ?k9 ?kB ?kD ?_ ?c2 ?c3 ?c4; (case kA => exact rfl); (case kF => exact rfl); (case kK => assumption); (case k1 => k_asm); (case k2 => k_asm); (case k3 => k_asm); (case k4 => k_asm); (case k5 => k_asm); (case k6 => k_is); (case k7 => k_is); (case k8 => ktr_room); (case k9 => exact BindsTo.of_eq rfl); (case kB => exact rfl); (case kD => decide +kernel); (case c2 => exact rfl); (case c3 => exact rfl); (case c4 => exact rfl); k_whole)
  intro g' L' h' tk' cells' FG' F' N' Y' B' X' T' l1 hG
  (try k_lt l1)
  k_cells Y'
  (try simp only [List.cons_append, List.nil_append] at N')
  (try dsimp only)
  (try k_lift B')
  (try k_fold)
  refine kz (t114_lt S01 (by assumption)) ?_
  intro hL114
  refine kz (codeHd_of_K (c := 116) (P := 114) X' (by kernel_rfl)) ?_
  intro C116
  refine kz (codeHd_of_K (c := 34) (P := 30) X' (by kernel_rfl)) ?_
  intro C34
  refine kz (envK_of_top X' T') ?_
  intro V117
  k_with "!call builtin:sorted" =>
    k_here
    k_dflt (refine' sortedK3 ?hA ?hdp ?hun ?zF ?zN ?zV ?zH ?hl ?m1 ?m2 ?m3 ?_; (case hA => exact rfl); (case hdp => simp only [ktrTop, Around.deeper]; omega); (case hun => simp only [ktrTop, Around.deeper]; omega); (case zF => k_asm); (case zN => k_asm); (case zV => assumption); (case zH => refine' allK_of ?zTF ?z1 ?z2 ?z3 ?z4; (case z2 => assumption); (case z1 => assumption); (case z3 => assumption); (case zTF => k_extra "tail_f"); (case z4 => k_mem)); (case hl => k_mem); (case m1 => k_mem); (case m2 => k_mem); (case m3 => k_mem))
    intro O8 a8 b8 d8 c8 x1 x2 x3 n1 n2 n3 t1 u1 t2 u2 t3 u3 h8 tk8 hO8 ma8 mb8 md8 F8 N8 l8
    (try dsimp only)
    (try k_fold)
  k_with "call ref" =>
    k_here
    first
    | ((with_reducible show wpAny _ _ (call (Value.ref 28) _) _ _ _)
       k_dflt (refine' use_FnI (lev_fn w _ _ _ _ _ _ ?la ?lb ?m0 ?m1) ?z1 ?z2 ?z3 ?z4 ?z5 ?z6 ?z7 ?z8 ?_; (case la => first | decide | omega); (case lb => first | decide | omega); (case m0 => first | decide | omega); (case m1 => first | decide | omega); (case z1 => k_asm); (case z2 => k_asm); (case z3 => k_asm); (case z4 => k_asm); (case z5 => k_asm); (case z6 => first | exact rfl | assumption); (case z7 => ktr_room); (case z8 => ktr_units))
       intro r9 t9 h9 tk9 hr9 F9 N9
       (try (rename LevSpec _ _ 100 _ => hr8; have hr7 := lev_100 hr8 (by first | decide | omega) (by first | decide | omega); subst hr7; clear hr8))
       (try dsimp only)
       (try k_fold))
    | ((with_reducible show wpAny _ _ (call (Value.ref 35) _) _ _ _)
       k_dflt (refine' ctk_T ?hA ?hdp ?hun ?zF ?zN ?zV ?zC ?zTF ?zS ?zS1 ?hl ?hc ?hlt ?_; (case hA => exact rfl); (case hdp => simp only [ktrTop, Around.deeper]; omega); (case hun => simp only [ktrTop, Around.deeper]; omega); (case zF => k_asm); (case zN => k_asm); (case zV => assumption); (case zC => assumption); (case zS => assumption); (case zS1 => assumption); (case zTF => k_extra "tail_f"); (case hl => k_mem); (case hc => exact rfl); (case hlt => k_extra "tail_lt"))
       intro K9 k9 tl9 h9 tk9 F9 N9 hk9 S9 S91 H9
       (try dsimp only at N9)
       (try dsimp only)
       (try k_fold))
    | ((with_reducible show wpAny _ _ (call (Value.ref 112) _) _ _ _)
       k_dflt (refine' use_FnI (kind_fn w _ _ _ _ (head_cases hO8)) ?z1 ?z2 ?z3 ?z4 ?z5 ?z6 ?z7 ?z8 ?_; (case z1 => k_asm); (case z2 => k_asm); (case z3 => k_asm); (case z4 => k_asm); (case z5 => k_asm); (case z6 => first | exact rfl | assumption); (case z7 => ktr_room); (case z8 => ktr_units))
       intro i9 t9 h9 tk9 hi9 F9 N9
       subst hi9
       (try dsimp only)
       (try k_fold))
    | ((with_reducible show wpAny _ _ (call (Value.ref 91) _) _ _ _)
       k_dflt (refine' use_FnS (filemode_fn w _ _ _ (kindOf_any _) b2.1 b2.2) ?z1 ?z2 ?z3 ?z4 ?z5 ?z6 ?z7 ?z8 ?_; (case z1 => k_asm); (case z2 => k_asm); (case z3 => k_asm); (case z4 => k_asm); (case z5 => k_asm); (case z6 => first | exact rfl | assumption); (case z7 => ktr_room); (case z8 => ktr_units))
       intro y9 t9 h9 tk9 hy9 F9 N9
       obtain ⟨hyi9, hyl9⟩ := hy9
       (try dsimp only)
       (try k_fold))
    | ((with_reducible show wpAny _ _ (call (Value.ref 44) _) _ _ _)
       k_dflt (refine' red_T ?hA ?hdp ?hun ?zF ?zN ?zV ?zTF ?zW ?e1 ?e2 ?e3 ?zl ?zn ?m1 ?m2 ?m3 hO8 ?_; (case hA => exact rfl); (case hdp => simp only [ktrTop, Around.deeper]; omega); (case hun => simp only [ktrTop, Around.deeper]; omega); (case zF => k_asm); (case zN => k_asm); (case zV => assumption); (case zl => k_mem); (case zW => exact ⟨_, by assumption⟩); (case zTF => k_extra "tail_f"); (case e1 => kernel_rfl!); (case e2 => kernel_rfl!); (case e3 => kernel_rfl!); (case zn => k_mem); (case m1 => k_mem); (case m2 => k_mem); (case m3 => k_mem))
       intro rB urB vrB h9 tk9 hmB F9 N9
       (try dsimp only)
       (try k_fold))
  k_with "!subscriptTail Name Constant ref int" =>
    k_here
    (with_reducible show wpAny _ _ (subscriptTail _ _ (Value.ref rB) (Value.int _ _)) _ _ _)
    k_dflt (refine' item_tupleT ?zt ?za ?zb ?zc ?zd ?_; (case zt => exact News.isTup (by k_asm) (in3 hmB (by k_mem) (by k_mem) (by k_mem))); (case za => decide); (case zb => decide); (case zc => rfl); (case zd => rfl))
  k_steps
  rename_i kF kN _ _
  (rename Fr g' _ _ _ => eF)
  (rename News g' _ _ _ => eN)
  refine' hret _ _ _ _ (answer_data kN hO8 (.head _) ?hB ?hT ?hO ?w1 ?w2 ?w3 ma8 mb8 md8 hmB ?q1 ?q2 ?q3 ?j1 ?j2 ?j3 (hyi9.trans (sgn_kind (head_cases hO8) x1))) (keepsOff_of hG eF eN) ?k1 ?k2 kF kN
  case k1 =>
    refine' (told_keep ?tqf ?tqa ?tqb ?tqc ?tq1 ?tq2).1
    (case tq1 => assumption)
    (case tq2 => assumption)
    (case tqc => assumption)
    (case tqb => assumption)
    (case tqa => assumption)
    (case tqf => k_extra "tail_f")
  case k2 =>
    refine' (told_keep ?tqf ?tqa ?tqb ?tqc ?tq1 ?tq2).2
    (case tq1 => assumption)
    (case tq2 => assumption)
    (case tqc => assumption)
    (case tqb => assumption)
    (case tqa => assumption)
    (case tqf => k_extra "tail_f")
  (case hB => repeat (first | exact .head _ | apply List.Mem.tail))
  (case hT => repeat (first | exact .head _ | apply List.Mem.tail))
  (case hO => repeat (first | exact .head _ | apply List.Mem.tail))
  (case w1 => repeat (first | exact .head _ | apply List.Mem.tail))
  (case w2 => repeat (first | exact .head _ | apply List.Mem.tail))
  (case w3 => repeat (first | exact .head _ | apply List.Mem.tail))
  (case q1 => exact (min_ite _ _).trans (lev_min (by assumption)))
  (case q2 => exact (min_ite _ _).trans (lev_min (by assumption)))
  (case q3 => exact (min_ite _ _).trans (lev_min (by assumption)))
  (case j1 => exact (min_ite _ _).trans (lev_min' (by assumption)))
  (case j2 => exact (min_ite _ _).trans (lev_min' (by assumption)))
  (case j3 => exact (min_ite _ _).trans (lev_min' (by assumption)))

end Mine
end
section
open PySem PySem.W PyProof.Rows PySem.Spec PySem.Calls PyProof.V
set_option Elab.async false
set_option maxRecDepth 100000
set_option maxHeartbeats 4000000
set_option linter.unusedVariables false
namespace Mine
set_option compiler.extract_closed false in
local macro_rules | `(tactic| walk_at $s:str) => do `(tactic| k_extra $(Lean.Syntax.mkStrLit ("!" ++ s.getString)))
theorem due_fn (w : World) (word : Str) (n : Int) (tw tn : Tok) (hw : word.length ≤ 10) : FnD w 20 129 [.str word tw, .int n tn] (answer (dK word) (dP word) (dF word) (n.fmod 9 + 1)) := by
  have b1 := fm_lt n 9 (by decide)
  have l1 : (Str.ofString "link").length = 4 := by decide
  have l2 : (Str.ofString "pipe").length = 4 := by decide
  have l3 : (Str.ofString "file").length = 4 := by decide
  dsimp only [FnD]
  k_fill
  k_with_none
  k_with "!CompSrc" =>
    (k_here; k_dflt (refine LCg.CompSrc.ledger (by rfl) (by k_asm) (by k_asm) (by k_mem) (by first | size_fits | exact Nat.le_of_ble_eq_true rfl) ?_; intro gC; lcg_lit))
  k_with "memN" => first | exact mem_nth 0 rfl | exact mem_nth 1 rfl | exact mem_nth 2 rfl | exact mem_nth 3 rfl | exact mem_nth 4 rfl | exact mem_nth 5 rfl | exact mem_nth 6 rfl | exact mem_nth 7 rfl | exact mem_nth 8 rfl | exact mem_nth 9 rfl | exact mem_nth 10 rfl | exact mem_nth 11 rfl | exact mem_nth 12 rfl | exact mem_nth 13 rfl | exact mem_nth 14 rfl | exact mem_nth 15 rfl | exact mem_nth 16 rfl | exact mem_nth 17 rfl | exact mem_nth 18 rfl | exact mem_nth 19 rfl | exact mem_nth 20 rfl | exact mem_nth 21 rfl | exact mem_nth 22 rfl | exact mem_nth 23 rfl | exact mem_nth 24 rfl | exact mem_nth 25 rfl | exact mem_nth 26 rfl | exact mem_nth 27 rfl | exact mem_nth 28 rfl | exact mem_nth 29 rfl | exact mem_nth 30 rfl | exact mem_nth 31 rfl | exact mem_nth 32 rfl | exact mem_nth 33 rfl | exact mem_nth 34 rfl | exact mem_nth 35 rfl | exact mem_nth 36 rfl | exact mem_nth 37 rfl | exact mem_nth 38 rfl | exact mem_nth 39 rfl | exact mem_nth 40 rfl | exact mem_nth 41 rfl | exact mem_nth 42 rfl | exact mem_nth 43 rfl | exact mem_nth 44 rfl | exact mem_nth 45 rfl | exact mem_nth 46 rfl | exact mem_nth 47 rfl | exact mem_nth 48 rfl | exact mem_nth 49 rfl | exact mem_nth 50 rfl | exact mem_nth 51 rfl | exact mem_nth 52 rfl | exact mem_nth 53 rfl | exact mem_nth 54 rfl | exact mem_nth 55 rfl | exact mem_nth 56 rfl | exact mem_nth 57 rfl | exact mem_nth 58 rfl | exact mem_nth 59 rfl | exact mem_nth 60 rfl | exact mem_nth 61 rfl | exact mem_nth 62 rfl | exact mem_nth 63 rfl | exact mem_nth 64 rfl | exact mem_nth 65 rfl | exact mem_nth 66 rfl | exact mem_nth 67 rfl | exact mem_nth 68 rfl | exact mem_nth 69 rfl | exact mem_nth 70 rfl | exact mem_nth 71 rfl | exact mem_nth 72 rfl | exact mem_nth 73 rfl | exact mem_nth 74 rfl | exact mem_nth 75 rfl | exact mem_nth 76 rfl | exact mem_nth 77 rfl | exact mem_nth 78 rfl | exact mem_nth 79 rfl | exact mem_nth 80 rfl | exact mem_nth 81 rfl | exact mem_nth 82 rfl | exact mem_nth 83 rfl | exact mem_nth 84 rfl | exact mem_nth 85 rfl | exact mem_nth 86 rfl | exact mem_nth 87 rfl | exact mem_nth 88 rfl | exact mem_nth 89 rfl
  k_with "!newList" =>
    (k_here; k_dflt (refine' newList_K ?zF ?zN ?_ ?zz; (case zF => k_asm); (case zN => k_asm); (case zz => exact Nat.le_of_ble_eq_true rfl)); intro l' h' F' N' l0; refine kz (allLt_of l0) ?_; intro l1; (try simp only [AllLt, and_true] at l1); clear l0; (try k_sweep))
  k_with "!getItem ref str" =>
    (k_here; (rename ord3 _ _ _ = _ => hO9); k_dflt (refine' sign_get ?zN ?zp ?zl ?zd ?zf (look_sign x1 (head_cases hO9)) ?_; (case zN => k_asm); (case zp => k_mem); (case zl => assumption); (case zd => assumption); (case zf => assumption)); intro _)
  k_with "!CompEnd" =>
    k_dflt (first
      | ((rename _ ∧ _ => lz); refine' compEnd_one ?eF ?eN ?e1 ?eO ?eS ?_; (case eF => k_asm); (case eN => k_asm); (case e1 => exact lz); (case eO => assumption); (case eS => lcg_src))
      | (refine' compEnd_none ?eF ?eN ?eO ?eS ?_; (case eF => k_asm); (case eN => k_asm); (case eO => assumption); (case eS => lcg_src)))
  k_with "!newTuple" =>
    (k_here; k_dflt (refine' kup_newTuple ?zF ?zN ?_ ?zz; (case zF => k_asm); (case zN => k_asm); (case zz => kmk_size)); intro D' h' F' N' l0; refine kz (allLt_of l0) ?_; intro l1; (try simp only [AllLt, and_true] at l1); clear l0; (try k_sweep))
  intro mean mg mb news dp un gd cn cs a ccd cl outer A₀ base h₀ L m s Q E B0 F0 X0 N0 T0 hk0 hroom hunits hret
  have cbI : CbIn 129 := CbIn.mk
  refine wpAny_call ?_
  k_dflt (refine' code_dG ?k1 ?k2 ?k3 ?k4 ?k5 ?kA ?kF ?kK ?k6 ?k7 ?k8 ?k9 ?kB ?kD ?_ ?c2 ?c3 ?c4; (case kA => exact rfl); (case kF => exact rfl); (case kK => assumption); (case k1 => k_asm); (case k2 => k_asm); (case k3 => k_asm); (case k4 => k_asm); (case k5 => k_asm); (case k6 => k_is); (case k7 => k_is); (case k8 => ktr_room); (case k9 => exact BindsTo.of_eq rfl); (case kB => exact rfl); (case kD => decide +kernel); (case c2 => exact rfl); (case c3 => exact rfl); (case c4 => exact rfl); k_whole)
  intro g' L' h' tk' cells' FG' F' N' Y' B' X' T' l1 hG
  (try k_lt l1)
  k_cells Y'
  (try simp only [List.cons_append, List.nil_append] at N')
  (try dsimp only)
  (try k_lift B')
  (try k_fold)
  k_with "!call builtin:sorted" =>
    k_here
    (with_reducible show wpAny _ _ (call (Value.builtin _) [Value.ref _]) _ _ _)
    k_dflt (refine' sorted3 ?zF ?zN ?zl ?z1 ?z2 ?z3 ?_; (case zF => k_asm); (case zN => k_asm); (case zl => k_mem); (case z1 => k_mem); (case z2 => k_mem); (case z3 => k_mem))
    intro O r1 r2 r3 c x1 x2 x3 n1 n2 n3 t1 u1 t2 u2 t3 u3 h' tk hOrd hm1 hm2 hm3 F' N' hlt
    (try simp only [AllLt, and_true] at hlt)
  k_with "subscriptTail" =>
    k_here
    (with_reducible show wpAny _ _ (subscriptTail _ _ (Value.ref r1) (Value.int _ _)) _ _ _)
    k_dflt (refine' item_tupleT ?zt ?za ?zb ?zc ?zd ?_; (case zt => exact News.isTup (by k_asm) (in3 hm1 (by k_mem) (by k_mem) (by k_mem))); (case za => decide); (case zb => decide); (case zc => rfl); (case zd => rfl))
  k_with "!subscriptTail Name Constant ref int" =>
    k_here
    (with_reducible show wpAny _ _ (subscriptTail _ _ (Value.ref O) (Value.int _ _)) _ _ _)
    k_dflt (refine' item_list (x := Value.ref r1) ?zl ?za ?zb ?zx ?_; (case zl => exact News.isList (by k_asm) (by k_mem)); (case za => decide); (case zb => decide); (case zx => exact rfl))
  k_with "call ref" =>
    k_here
    (rename _ ∧ _ => lz)
    k_dflt (refine' use_apartNew rfl ?zn ?z1 ?z2 ?z3 ?z4 ?z5 ?z6 ?z7 ?z8 ?zT ?zd ?_; (case zn => omega); (case z1 => k_asm); (case z2 => k_asm); (case z3 => k_asm); (case z4 => k_asm); (case z5 => k_asm); (case z6 => first | exact rfl | assumption); (case z7 => ktr_room); (case z8 => ktr_units); (case zT => tuptab_tab); (case zd => exact lz))
    intro t9 h9 tk9 F9 N9
    (repeat ((rename FlatPairs _ _ _ => fz9); clear fz9))
    (repeat ((rename Obj.IsDictOf _ _ [] => fz9); clear fz9))
    (try dsimp only)
    (try k_fold)
  k_steps
  all_goals (
    rename_i kF kN _ _
    (rename Fr g' _ _ _ => eF)
    (rename News g' _ _ _ => eN)
    refine' hret _ _ _ _ (answer_data kN (by assumption) (.head _) ?hB ?hT ?hO ?w1 ?w2 ?w3 hm1 hm2 hm3 hm1 (min_ite _ _) (min_ite _ _) (min_ite _ _) (min_ite _ _) (min_ite _ _) (min_ite _ _) rfl) (keepsOff_of hG eF eN) ?kp kF kN
    (case hB => k_extra "memN")
    (case hT => k_extra "memN")
    (case hO => k_extra "memN")
    (case w1 => k_extra "memN")
    (case w2 => k_extra "memN")
    (case w3 => k_extra "memN")
    (case kp => intro q hq; repeat (first | exact hq | apply List.Mem.tail)))
end Mine
end
section
open PySem PySem.W PyProof.Rows PySem.Spec PySem.Calls PyProof.V PySem.W.X
open LCg
set_option Elab.async false
set_option maxRecDepth 100000
set_option maxHeartbeats 4000000
set_option linter.unusedVariables false
namespace Mine
/-- the entries that have a class -/
noncomputable def clsOf (l : List (Addr × Obj)) : List (Addr × Obj) := l.filter fun p => hasCls p.2
theorem mem_cls {l : List (Addr × Obj)} {p : Addr × Obj} : p ∈ clsOf l ↔ p ∈ l ∧ hasCls p.2 = true := List.mem_filter
mutual
theorem datIn_cls {l : List (Addr × Obj)} : ∀ {v : Value} {d : Dat}, DatIn l v d → DatIn (clsOf l) v d
  | _, _, .none => .none
  | _, _, .bool b => .bool b
  | _, _, .int i t => .int i t
  | _, _, .str x t => .str x t
  | _, _, .bytes b t => .bytes b t
  | _, _, .tuple h r => .tuple (mem_cls.mpr ⟨h, rfl⟩) (datAll_cls r)
  | _, _, .list h r => .list (mem_cls.mpr ⟨h, rfl⟩) (datAll_cls r)
theorem datAll_cls {l : List (Addr × Obj)} : ∀ {vs : List Value} {ds : List Dat}, DatAll l vs ds → DatAll (clsOf l) vs ds
  | _, _, .nil => .nil
  | _, _, .cons h r => .cons (datIn_cls h) (datAll_cls r)
end
/-- all that has a class is kept -/
noncomputable def Kept (l l' : List (Addr × Obj)) : Prop := ∀ p ∈ l, hasCls p.2 = true → p ∈ l'
theorem kept_dat {l l' : List (Addr × Obj)} (k : Kept l l') {vs : List Value} {ds : List Dat} (h : DatAll l vs ds) : DatAll l' vs ds :=
  (datAll_cls h).mono fun p hp => k p (mem_cls.mp hp).1 (mem_cls.mp hp).2
section
variable {prog : Program} {w : World} {A : Around} {E : Value → Shared → Prop} {s : Shared} {h₀ : Heap} {L ax : Addr} {m : Str → Option Value} {env : Env} {elt : PySem.Expr} {x : Str} {scope : Scope} {cl : List (Str × Addr)} {ws : List Value} {ns : List Int} {news : List (Addr × Obj)} {Fin : List Value → List (Addr × Obj) → Prop} {Ans : Int → Dat} {T : List (Addr × Obj) → Prop}
theorem src_kept {its : Array Value} {l l' : List (Addr × Obj)} (k : Kept l l') (h : SrcAt h₀ ax its l) : SrcAt h₀ ax its l' := by
  rcases h with h | ⟨o, hm, hc, r⟩
  · exact .inl h
  · exact .inr ⟨o, k _ hm (by unfold hasCls; rw [hc]), hc, r⟩
/-- a comprehension over ints whose items are data -/
theorem comp_dat (hI : IntsAre ws ns) (hS : SrcAt h₀ ax ws.toArray news) (hT : T news)
    (step : ∀ k t I oI C oC D m₂ h tk (E' : Value → Shared → Prop) ys l, k ∈ ns → NsObj oC m₂ → m₂ x = some (.int k t) → Fr h₀ L h m → News h₀ L h ((I, oI) :: (C, oC) :: (D, lst ys) :: l) → Off3 I C D l → T l → SrcAt h₀ ax ws.toArray l →
      wpAny (model prog w) A (eval elt (compEnvC scope cl C env)) (CompEnd h₀ L m { s with heap := h, toks := tk } I oI C oC D (lst ys) (SrcAt h₀ ax ws.toArray) (fun y l' => DatIn l' y (Ans k) ∧ Kept l l' ∧ T l')) E' { s with heap := h, toks := tk })
    (fin : ∀ ys l, DatAll l ys (ns.map Ans) → T l → SrcAt h₀ ax ws.toArray l → Fin ys l) :
    CompRest prog w A h₀ L m env elt x scope cl s (SrcAt h₀ ax ws.toArray) (fun i v => ws.toArray[i]? = some v) Fin ws.toArray.size 0 [] news := by
  have hlen : ws.length = ns.length := hI.length
  have key : ∀ k i, i + k = ns.length → ∀ ys l, DatAll l ys ((ns.take i).map Ans) → T l → SrcAt h₀ ax ws.toArray l → CompRest prog w A h₀ L m env elt x scope cl s (SrcAt h₀ ax ws.toArray) (fun i v => ws.toArray[i]? = some v) Fin k i ys l := by
    intro k
    induction k with
    | zero =>
      intro i hi ys l hd hT hS
      have : i = ns.length := hi
      subst this
      rw [List.take_length] at hd
      exact CompRest.zero (fin ys l hd hT hS)
    | succ k ih =>
      intro i hi ys l hd hT hS
      refine CompRest.succ fun v I oI C oC D m₂ h tk E' hv hC hx F N off ne => ?_
      have hv' : ws[i]? = some v := by simpa using hv
      obtain ⟨n, t, rfl, hn⟩ := hI.at i v hv'
      refine wpAny_mono (step n t I oI C oC D m₂ h tk E' ys l (List.mem_of_getElem? hn) hC hx F N off hT hS) (fun y s₂ hend => ?_) (fun _ _ e => e)
      obtain ⟨h', tk', l', rfl, F', N', off', hS', hd', hk', hT'⟩ := hend
      refine ⟨h', tk', l', rfl, F', N', off', hS', ih (i + 1) (by omega) (ys ++ [y]) l' ?_ hT' hS'⟩
      rw [List.take_add_one, hn, List.map_append]
      exact (kept_dat hk' hd).append (.one hd')
  have := key ns.length 0 (Nat.zero_add _) [] news .nil hT hS
  rw [List.size_toArray, hlen]
  exact this
theorem comp_dat2 (hI : IntsAre ws ns) (hS : SrcAt h₀ ax ws.toArray news)
    (step : ∀ k t I oI C oC D m₂ h tk (E' : Value → Shared → Prop) ys l, k ∈ ns → NsObj oC m₂ → m₂ x = some (.int k t) → Fr h₀ L h m → News h₀ L h ((I, oI) :: (C, oC) :: (D, lst ys) :: l) → Off3 I C D l → (∀ p ∈ news, p ∈ l) → SrcAt h₀ ax ws.toArray l →
      wpAny (model prog w) A (eval elt (compEnvC scope cl C env)) (CompEnd h₀ L m { s with heap := h, toks := tk } I oI C oC D (lst ys) (SrcAt h₀ ax ws.toArray) (fun y l' => DatIn l' y (Ans k) ∧ Kept l l' ∧ ∀ p ∈ news, p ∈ l')) E' { s with heap := h, toks := tk })
    (fin : ∀ ys l, DatAll l ys (ns.map Ans) → (∀ p ∈ news, p ∈ l) → SrcAt h₀ ax ws.toArray l → Fin ys l) :
    CompRest prog w A h₀ L m env elt x scope cl s (SrcAt h₀ ax ws.toArray) (fun i v => ws.toArray[i]? = some v) Fin ws.toArray.size 0 [] news := comp_dat (T := fun l => ∀ p ∈ news, p ∈ l) hI hS (fun p hp => hp) step fin
theorem src_cons {its : Array Value} {p : Addr × Obj} {l : List (Addr × Obj)} (h : SrcAt h₀ ax its l) : SrcAt h₀ ax its (p :: l) := by
  rcases h with h | ⟨o, hm, r⟩
  · exact .inl h
  · exact .inr ⟨o, .tail _ hm, r⟩
theorem compSrc_at {its : Array Value} {Fin : Shared → List Value → List (Addr × Obj) → Prop} (hh : A.handled = none) (F : Fr h₀ L s.heap m) (N : News h₀ L s.heap news) (S : SrcAt h₀ ax its news) (hsz : its.size ≤ sizeLine)
    (h : ∀ g, CompRest prog w A h₀ L m env elt x scope cl { s with heap := g } (SrcAt h₀ ax its) (fun i v => its[i]? = some v) (Fin { s with heap := g }) its.size 0 [] news) :
    CompSrc prog w A h₀ L m env elt x scope cl Fin (.ref ax) s := .inl ⟨ax, its, news, rfl, hh, F, N, S, hsz, fun _ ⟨g, e⟩ => e ▸ h g⟩
theorem comp_end {h h' : Heap} {I C D : Addr} {oI oC oD : Obj} {l led : List (Addr × Obj)} {S : List (Addr × Obj) → Prop} {rst : Value → List (Addr × Obj) → Prop} {y : Value} {tk : Nat} (N : News h₀ L h ((I, oI) :: (C, oC) :: (D, oD) :: l)) (off : Off3 I C D l)
    (K : KeepsOff h h' l led) (F' : Fr h₀ L h' m) (N' : News h₀ L h' led) (hS : S led) (r : rst y led) : CompEnd h₀ L m s I oI C oC D oD S rst y { s with heap := h', toks := tk } := by
  have o := off.mem
  have kI := K I oI (N _ (.head _)).1 fun q hq => (o q hq).1
  have kC := K C oC (N _ (.tail _ (.head _))).1 fun q hq => (o q hq).2.1
  have kD := K D oD (N _ (.tail _ (.tail _ (.head _)))).1 fun q hq => (o q hq).2.2
  refine ⟨h', tk, led, rfl, F', fun p hp => ?_, Off3.of fun p hp => ⟨kI.2 p hp, kC.2 p hp, kD.2 p hp⟩, hS, r⟩
  rcases List.mem_cons.mp hp with rfl | hp
  · exact ⟨kI.1, (N _ (.head _)).2⟩
  rcases List.mem_cons.mp hp with rfl | hp
  · exact ⟨kC.1, (N _ (.tail _ (.head _))).2⟩
  rcases List.mem_cons.mp hp with rfl | hp
  · exact ⟨kD.1, (N _ (.tail _ (.tail _ (.head _)))).2⟩
  · exact N' p hp
theorem kqd_same {a b : Addr} {oa ob : Obj} {xs ys : List Value} {ka kb : Nat} {ds : List Dat} {n₁ n₂ : List (Addr × Obj)} {Q : Value → Shared → Prop} (N : News h₀ L s.heap news) (ma : (a, oa) ∈ news) (ca : oa.cls = .type "list") (da : oa.data = .seq xs.toArray ka) (Da : DatAll n₁ xs ds) (sa : ∀ p ∈ n₁, p ∈ news)
    (mb : (b, ob) ∈ news) (cb : ob.cls = .type "list") (db : ob.data = .seq ys.toArray kb) (Db : DatAll n₂ ys ds) (sb : ∀ p ∈ n₂, p ∈ news) (ha : ∀ d ∈ ds, kqdOk 8 d = true) (hu : A.units + 64 < cLine) (h : Q (.bool true) s) :
    wpAny (model prog w) A (compareOp .Eq (.ref a) (.ref b)) Q E s :=
  kqd_eq N ma ca da Da sa mb cb db Db sb ha ha hu (by simp only [eq_self, decide_true]; exact h)
end
theorem str_ok : PyData.strOk (Str.ofString "link") = true ∧ PyData.strOk (Str.ofString "pipe") = true ∧ PyData.strOk (Str.ofString "file") = true ∧ PyData.strOk (Str.ofString "l") = true ∧ PyData.strOk (Str.ofString "p") = true ∧ PyData.strOk (Str.ofString "-") = true := by decide +kernel
theorem answer_ok (k p f b : Int) : kqdOk 8 (answer k p f b) = true := by
  obtain ⟨h1, h2, h3, h4, h5, h6⟩ := str_ok
  unfold answer ord3
  split <;> split <;> (try split) <;> simp only [answerOf, pairD, List.map_cons, List.map_nil, List.headD_cons, kqdOk, List.all_cons, List.all_nil, Bool.and_true, h1, h2, h3, sign_f, sign_k, sign_p, h4, h5, h6]
/-- what both sides answer of one number -/
noncomputable def ansN (n : Int) : Dat := answer (dK (lawWord n)) (dP (lawWord n)) (dF (lawWord n)) (n.fmod 9 + 1)
theorem ansN_ok (ns : List Int) : ∀ d ∈ ns.map ansN, kqdOk 8 d = true := fun d hd => by
  obtain ⟨n, _, rfl⟩ := List.mem_map.mp hd
  exact answer_ok _ _ _ _
theorem size4 {ws : List Value} {l : List Int} (h : IntsAre ws ([3, 32] ++ List.take 2 l)) : ws.toArray.size ≤ sizeLine := by
  have := h.length
  rw [List.size_toArray, this, List.length_append, List.length_take]
  exact Nat.le_trans (Nat.add_le_add_left (Nat.min_le_left _ _) _) (Nat.le_of_ble_eq_true rfl)
theorem tab_kept {h₀ h : Heap} {L : Addr} {l led : List (Addr × Obj)} (N : News h₀ L h l) (T : TState l) (k : ∀ p ∈ l, p.1 ≠ 30 → p.1 ≠ 114 → p ∈ led) : Kept l led := fun p hp hc => by
  have t30 : ∃ ps, (30, tabObj ps) ∈ l := by
    rcases T.2 with q | ⟨_, q, _⟩
    · exact ⟨_, q⟩
    · exact ⟨_, q⟩
  have t114 : ∃ ps, (114, tabObj ps) ∈ l := by
    rcases T.1 with q | ⟨_, _, q, _⟩
    · exact ⟨_, q⟩
    · exact ⟨_, q⟩
  obtain ⟨ps, q⟩ := t30
  obtain ⟨ps', q'⟩ := t114
  refine k p hp (fun z => ?_) fun z => ?_
  · obtain ⟨a, o⟩ := p
    obtain rfl : a = 30 := z
    rw [same_obj N hp q] at hc
    exact Bool.false_ne_true hc
  · obtain ⟨a, o⟩ := p
    obtain rfl : a = 114 := z
    rw [same_obj N hp q'] at hc
    exact Bool.false_ne_true hc
section
variable {w : World} {word : Str} {n : Int} {tw tn : Tok} {mean : ExcName → Option Value} {mg mb : Str → Option Value} {news : List (Addr × Obj)} {dp un : Nat} {gd : Option (List Code)} {cn : Str} {cs : Scope} {a : Addr} {ccd : Value} {cl : List (Str × Addr)} {outer : List Env} {A₀ : Around} {base h₀ : Heap} {L : Addr} {m : Str → Option Value} {s : Shared} {Q E : Value → Shared → Prop}
theorem use_told (hw : word.length ≤ 10) (k1 : Below A₀ base outer h₀) (k2 : Fr h₀ L s.heap m) (k3 : (hd.heap_1 w.params).In h₀) (k4 : News h₀ L s.heap news) (k5 : Top topProg lo mean mg mb h₀) (k6 : cs.kind = .function) (k7 : dp + 20 < 480) (k8 : un + 64 * 20 < 2900) (k9 : TState news)
    (k : ∀ (v : Value) (led : List (Addr × Obj)) (h' : Heap) (tk' : Nat), DatIn led v (answer (dK word) (dP word) (dF word) (n.fmod 9 + 1)) → KeepsOff s.heap h' news led → (∀ p ∈ news, p.1 ≠ 30 → p.1 ≠ 114 → p ∈ led) → TState2 led → Fr h₀ L h' m → News h₀ L h' led → Q v { s with heap := h', toks := tk' }) :
    wpAny (model PySem.Challenge.rw_oc0133_01.row.prog w) (ktrTop dp un gd cn cs L a ccd cl outer) (call (.ref 117) [.str word tw, .int n tn]) Q E s :=
  told_fn w word n tw tn hw mean mg mb news dp un gd cn cs a ccd cl outer A₀ base h₀ L m s Q E k1 k2 k3 k4 k5 k6 k7 k8 k9 k
theorem use_due (hw : word.length ≤ 10) (k1 : Below A₀ base outer h₀) (k2 : Fr h₀ L s.heap m) (k3 : (hd.heap_1 w.params).In h₀) (k4 : News h₀ L s.heap news) (k5 : Top topProg lo mean mg mb h₀) (k6 : cs.kind = .function) (k7 : dp + 20 < recursionLimit) (k8 : un + 64 * 20 < cLine)
    (k : ∀ (v : Value) (led : List (Addr × Obj)) (h' : Heap) (tk' : Nat), DatIn led v (answer (dK word) (dP word) (dF word) (n.fmod 9 + 1)) → KeepsOff s.heap h' news led → (∀ p ∈ news, p ∈ led) → Fr h₀ L h' m → News h₀ L h' led → Q v { s with heap := h', toks := tk' }) :
    wpAny (model PySem.Challenge.rw_oc0133_01.row.prog w) (ktrTop dp un gd cn cs L a ccd cl outer) (call (.ref 129) [.str word tw, .int n tn]) Q E s :=
  due_fn w word n tw tn hw mean mg mb news dp un gd cn cs a ccd cl outer A₀ base h₀ L m s Q E k1 k2 k3 k4 k5 k6 k7 k8 k
end
theorem tstate_of {l : List (Addr × Obj)} (h : TState2 l) : TState l := ⟨.inr h.1, .inr h.2⟩
theorem told_end {h₀ h h' : Heap} {L ax I C D : Addr} {m : Str → Option Value} {s : Shared} {its : Array Value} {oI oC oD : Obj} {l led : List (Addr × Obj)} {y : Value} {d : Dat} {tk : Nat} (N : News h₀ L h ((I, oI) :: (C, oC) :: (D, oD) :: l)) (off : Off3 I C D l)
    (K : KeepsOff h h' l led) (F' : Fr h₀ L h' m) (N' : News h₀ L h' led) (hS : SrcAt h₀ ax its l) (hd : DatIn led y d) (T : TState l) (k : ∀ p ∈ l, p.1 ≠ 30 → p.1 ≠ 114 → p ∈ led) (T' : TState2 led) :
    CompEnd h₀ L m s I oI C oC D oD (SrcAt h₀ ax its) (fun y l' => DatIn l' y d ∧ Kept l l' ∧ TState l') y { s with heap := h', toks := tk } :=
  have kp := tab_kept (fun p hp => N p (.tail _ (.tail _ (.tail _ hp)))) T k
  comp_end N off K F' N' (src_kept kp hS) ⟨hd, kp, tstate_of T'⟩
theorem grown_law {h₀ h : Heap} {L : Addr} {l8 l6 : List (Addr × Obj)} {p q : Addr × Obj} (N : News h₀ L h (q :: l6)) (T : TState l8) (k : ∀ x ∈ p :: l8, x ∈ l6) : GrownAll [(34, 30), (116, 114)] h := by
  refine ⟨?_, ?_, trivial⟩
  · rcases T.2 with e | ⟨_, e, _⟩
    · exact ⟨_, (N _ (.tail _ (k _ (.tail _ e)))).1⟩
    · exact ⟨_, (N _ (.tail _ (k _ (.tail _ e)))).1⟩
  · rcases T.1 with e | ⟨_, _, e, _⟩
    · exact ⟨_, (N _ (.tail _ (k _ (.tail _ e)))).1⟩
    · exact ⟨_, (N _ (.tail _ (k _ (.tail _ e)))).1⟩
end Mine
end
section
open PySem PySem.W PyProof.Rows PySem.Spec PySem.Calls PyProof.V PySem.W.X
open LCg
set_option Elab.async false
set_option maxRecDepth 100000
set_option maxHeartbeats 4000000
set_option linter.unusedVariables false
namespace Mine
set_option compiler.extract_closed false in
local macro_rules | `(tactic| walk_at $s:str) => do `(tactic| k_extra $(Lean.Syntax.mkStrLit ("!" ++ s.getString)))
theorem law_holds : PySem.Challenge.rw_oc0133_01.Holds := hd (by
  k_go0
  k_with_none
  k_with "!CompSrc" =>
    (k_here; k_dflt (refine compSrc_at (by rfl) (by k_asm) (by k_asm) (by first | exact .inr ⟨_, by k_mem, rfl, _, rfl⟩ | exact src_cons (by assumption)) (size4 (by assumption)) ?_; intro g'; k_extra "comp_law"))
  k_with "!compareOp Eq ref ref" =>
    (k_here; k_extra "eq_law")
  k_with "!GrownAll" =>
    k_extra "grown_law"
  (all_goals try k_fold)
  k_with "comp_law" =>
    first
    | (refine' comp_dat (Ans := ansN) (T := TState) ?hI ?hS ?hT ?st ?fin
       (case hI => assumption)
       (case hS => exact .inr ⟨_, by k_mem, rfl, _, rfl⟩)
       (case hT => exact ⟨.inl (by k_mem), .inl (by k_mem)⟩)
       (case' st => intro k9 t9 I9 oI9 C9 oC9 D9 m9 h9 tk9 E9 ys9 l9 hk9 hC9 hx9 F9 N9 off9 hT9 hS9)
       (case' fin => intro ys8 l8 hd8 hT8 hS8))
    | (refine' comp_dat2 (Ans := ansN) ?gI ?gS ?gst ?gfin
       (case gI => assumption)
       (case gS => exact src_cons hS8)
       (case' gst => intro k7 t7 I7 oI7 C7 oC7 D7 m7 h7 tk7 E7 ys7 l7 hk7 hC7 hx7 F7 N7 off7 hT7 hS7)
       (case' gfin => intro ys6 l6 hd6 hT6 hS6))
  k_with "call ref" =>
    k_here
    first
    | ((with_reducible show wpAny _ _ (call (Value.ref 105) _) _ _ _)
       k_dflt (refine' use_FnS (word_fn _ _ _) ?z1 ?z2 ?z3 ?z4 ?z5 ?z6 ?z7 ?z8 ?_; (case z1 => k_asm); (case z2 => k_asm); (case z3 => k_asm); (case z4 => k_asm); (case z5 => k_asm); (case z6 => first | exact rfl | assumption); (case z7 => ktr_room); (case z8 => ktr_units))
       intro r5 t5 h5 tk5 hr5 F5 N5
       subst hr5
       (try dsimp only)
       (try k_fold))
    | ((with_reducible show wpAny _ _ (call (Value.ref 117) _) _ _ _)
       k_dflt (refine' use_told (lawWord_len _) ?z1 ?z2 ?z3 ?z4 ?z5 ?z6 ?z7 ?z8 hT9 ?_; (case z1 => k_asm); (case z2 => k_asm); (case z3 => k_asm); (case z4 => exact fun p hp => N5 p (.tail _ (.tail _ (.tail _ hp)))); (case z5 => k_asm); (case z6 => first | exact rfl | assumption); (case z7 => decide); (case z8 => decide))
       intro v4 led4 h4 tk4 hd4 hO4 hk4 hT4 F4 N4
       k_dflt (exact told_end N5 off9 hO4 F4 N4 hS9 hd4 hT9 hk4 hT4))
    | ((with_reducible show wpAny _ _ (call (Value.ref 129) _) _ _ _)
       k_dflt (refine' use_due (lawWord_len _) ?z1 ?z2 ?z3 ?z4 ?z5 ?z6 ?z7 ?z8 ?_; (case z1 => k_asm); (case z2 => k_asm); (case z3 => k_asm); (case z4 => exact fun p hp => N5 p (.tail _ (.tail _ (.tail _ hp)))); (case z5 => k_asm); (case z6 => first | exact rfl | assumption); (case z7 => ktr_room); (case z8 => ktr_units))
       intro v4 led4 h4 tk4 hd4 hO4 hk4 F4 N4
       k_dflt (exact comp_end N5 off7 hO4 F4 N4 (src_kept (fun p hp _ => hk4 p hp) hS7) ⟨hd4, fun p hp _ => hk4 p hp, fun p hp => hk4 p (hT7 p hp)⟩))
  k_with "eq_law" =>
    k_dflt (
    (rename News _ _ _ _ => N3)
    refine' kqd_same N3 (.tail _ (hT6 _ (.head _))) rfl rfl (datAll_cls hd8) (fun p hp => .tail _ (hT6 p (.tail _ (mem_cls.mp hp).1))) (.head _) rfl rfl hd6 (fun p hp => .tail _ hp) (ansN_ok _) ?hu ?_
    (case hu => ke_room))
  k_with "grown_law" =>
    (rename News _ _ _ _ => N2)
    exact grown_law N2 hT8 hT6
  k_steps
  skip)
end Mine
end
theorem PySem.Challenge.cw_oc0133_01_holds : PySem.Challenge.rw_oc0133_01.Holds := by
  exact Mine.law_holds
