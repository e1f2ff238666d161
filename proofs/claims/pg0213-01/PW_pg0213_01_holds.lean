import PyProof.Rows.All
import Wide.All
import OpenK.AllK
import Wide.FinOn
import PySem.Challenge.RW_pg0213_01
open PySem PySem.W PyProof.Rows
set_option Elab.async false
set_option linter.unusedVariables false
set_option linter.all false
set_option compiler.extract_closed false
section
namespace Mine
theorem ltK {a b c k : Nat} (h : a < b) (e : Nat.ble (b + k) c = true) : a + k < c := Nat.lt_of_lt_of_le (Nat.add_lt_add_right h k) (Nat.le_of_ble_eq_true e)
theorem ltK2 {a b c k l : Nat} (h : a < b) (e : Nat.ble (b + k + l) c = true) : a + k + l < c := Nat.lt_of_lt_of_le (Nat.add_lt_add_right (Nat.add_lt_add_right h k) l) (Nat.le_of_ble_eq_true e)
theorem ltK0 {a b c : Nat} (h : a < b) (e : Nat.ble b c = true) : a < c := Nat.lt_of_lt_of_le h (Nat.le_of_ble_eq_true e)
theorem ltK1 {a b c : Nat} (h : a ≤ b) (e : Nat.ble (b + 1) c = true) : a < c := Nat.lt_of_le_of_lt h (Nat.le_of_ble_eq_true e)
theorem leK {a b c : Nat} (h : a < b) (e : Nat.ble b (c + 1) = true) : a ≤ c := Nat.le_of_lt_succ (Nat.lt_of_lt_of_le h (Nat.le_of_ble_eq_true e))
theorem leK1 {a b c : Nat} (h : a ≤ b) (e : Nat.ble b c = true) : a ≤ c := Nat.le_trans h (Nat.le_of_ble_eq_true e)
theorem leKS {a b c k : Nat} (h : a < b) (e : Nat.ble (b + k) (c + 1) = true) : a + k ≤ c := Nat.le_of_lt_succ (ltK h e)
theorem geK {a b c : Nat} (h : b ≤ a) (e : Nat.ble c b = true) : c ≤ a := Nat.le_trans (Nat.le_of_ble_eq_true e) h
theorem gtK {a b c : Nat} (h : b ≤ a) (e : Nat.ble (c + 1) b = true) : c < a := Nat.lt_of_lt_of_le (Nat.le_of_ble_eq_true e) h
theorem ltE {a b c d : Nat} (h : a = b) (g : b < c) (e : Nat.ble c d = true) : a < d := h ▸ ltK0 g e
theorem leE {a b c d : Nat} (h : a = b) (g : b < c) (e : Nat.ble c (d + 1) = true) : a ≤ d := h ▸ leK g e
theorem leE1 {a b c d : Nat} (h : a = b) (g : b ≤ c) (e : Nat.ble c d = true) : a ≤ d := h ▸ leK1 g e
theorem ltL {a b c : Nat} (h : a = b) (g : b < c) : a < c := h ▸ g
theorem ltL' {a b c : Nat} (h : b = a) (g : b < c) : a < c := h ▸ g
theorem ltR {a b c : Nat} (g : a < b) (h : b = c) : a < c := h ▸ g
theorem ltR' {a b c : Nat} (g : a < b) (h : c = b) : a < c := h ▸ g
theorem leR {a b c : Nat} (g : a ≤ b) (h : b = c) : a ≤ c := h ▸ g
theorem leR' {a b c : Nat} (g : a ≤ b) (h : c = b) : a ≤ c := h ▸ g
theorem leL {a b c : Nat} (h : a = b) (g : b ≤ c) : a ≤ c := h ▸ g
theorem eqT {a b c : Nat} (h : a = b) (g : b = c) : a = c := h.trans g
theorem eqT' {a b c : Nat} (h : a = b) (g : c = b) : a = c := h.trans g.symm
theorem leB {n m : Nat} (h : Nat.ble n m = true) : n ≤ m := Nat.le_of_ble_eq_true h
theorem ltB {n m : Nat} (h : Nat.ble (n + 1) m = true) : n < m := Nat.le_of_ble_eq_true h
theorem neAdd {x i j : Nat} (h : Nat.beq i j = false) : x + i ≠ x + j := fun e => Nat.ne_of_beq_eq_false h (Nat.add_left_cancel e)
theorem neU1 {x : Nat} : x + 1 ≠ x := by omega
theorem neU2 {x : Nat} : x + 1 + 1 ≠ x := by omega
theorem neU3 {x : Nat} : x + 1 + 1 + 1 ≠ x := by omega
theorem neU4 {x : Nat} : x + 1 + 1 + 1 + 1 ≠ x := by omega
theorem neU5 {x : Nat} : x + 1 + 1 + 1 + 1 + 1 ≠ x := by omega
theorem neU6 {x : Nat} : x + 1 + 1 + 1 + 1 + 1 + 1 ≠ x := by omega
theorem neU7 {x : Nat} : x + 1 + 1 + 1 + 1 + 1 + 1 + 1 ≠ x := by omega
theorem neUK {x k : Nat} (h : Nat.beq k 0 = false) : x + k ≠ x := fun e => Nat.ne_of_beq_eq_false h (by omega)
theorem castNn {x : Nat} : (0 : Int) ≤ (x : Int) := Int.natCast_nonneg x
theorem allC {α : Type} {p : α → Prop} {a : α} {l : List α} (h : p a) (t : ∀ x ∈ l, p x) : ∀ x ∈ a :: l, p x := List.forall_mem_cons.mpr ⟨h, t⟩
theorem subSplit {l m r : Nat} (h1 : l ≤ m) (h2 : m ≤ r) : r - l = (m - l) + (r - m) := by
  obtain ⟨a, rfl⟩ := Nat.le.dest h1
  obtain ⟨b, rfl⟩ := Nat.le.dest h2
  rw [Nat.add_sub_cancel_left, Nat.add_sub_cancel_left, Nat.add_assoc, Nat.add_sub_cancel_left]
theorem addSub {l m : Nat} (h : l ≤ m) : l + (m - l) = m := Nat.add_sub_of_le h
theorem ltOfNe {l r : Nat} (h : l < r) (g : ((l + 1 : Nat) : Int) ≠ ((r : Nat) : Int)) : l + 1 < r := Nat.lt_of_le_of_ne h fun e => g (by rw [e])
theorem halvesEq {l k : Nat} : (l + (l + k)) / 2 = l + k / 2 := by
  rw [← Nat.add_assoc, ← Nat.two_mul, Nat.mul_add_div (by decide)]
theorem midK {l r : Nat} (g : l + 1 < r) : ∃ k, r = l + k ∧ 0 < k / 2 ∧ k / 2 < k := by
  obtain ⟨k, rfl⟩ := Nat.le.dest g
  exact ⟨2 + k, Nat.add_assoc _ 2 k, Nat.div_pos (Nat.le_add_right 2 k) (by decide), Nat.div_lt_self (Nat.add_pos_left (by decide) k) (by decide)⟩
theorem halves {l r d : Nat} (h : r - l ≤ d + 1) (g : l + 1 < r) : (l + r) / 2 - l ≤ d ∧ r - (l + r) / 2 ≤ d := by
  obtain ⟨k, rfl, p, q⟩ := midK g
  rw [Nat.add_sub_cancel_left] at h
  rw [halvesEq, Nat.add_sub_cancel_left, Nat.add_sub_add_left]
  exact ⟨Nat.le_of_lt_succ (Nat.lt_of_lt_of_le q h), Nat.le_of_lt_succ (Nat.lt_of_lt_of_le (Nat.sub_lt (Nat.lt_trans p q) p) h)⟩
theorem midLR {l r : Nat} (g : l + 1 < r) : l < (l + r) / 2 ∧ (l + r) / 2 < r := by
  obtain ⟨k, rfl, p, q⟩ := midK g
  rw [halvesEq]
  exact ⟨Nat.lt_add_of_pos_right p, Nat.add_lt_add_left q l⟩
theorem midP {l r f : Nat} (h : l < r) (h3 : r - l ≤ f + 1) : l ≤ (l + r) / 2 ∧ (l + r) / 2 < r ∧ (l + r) / 2 - l ≤ f ∧ r - ((l + r) / 2 + 1) ≤ f := by
  obtain ⟨k, rfl⟩ := Nat.le.dest (Nat.le_of_lt h)
  have hk : 0 < k := Nat.pos_of_lt_add_right h
  have q : k / 2 < k := Nat.div_lt_self hk (by decide)
  rw [Nat.add_sub_cancel_left] at h3
  rw [halvesEq, Nat.add_sub_cancel_left, Nat.add_assoc, Nat.add_sub_add_left]
  exact ⟨Nat.le_add_right _ _, Nat.add_lt_add_left q l, Nat.le_of_lt_succ (Nat.lt_of_lt_of_le q h3), Nat.le_of_lt_succ (Nat.lt_of_lt_of_le (Nat.sub_lt hk (Nat.succ_pos _)) h3)⟩
theorem un34 {un d : Nat} (h : un + 4 * (d + 1) < 9000) : un + 3 < 9000 ∧ un + 3 + 4 * d < 9000 := by omega
theorem dp1 {dp d : Nat} (h : dp + (d + 1) < 900) : dp + 1 < 900 ∧ dp + 1 + d < 900 :=
  ⟨Nat.lt_of_le_of_lt (Nat.add_le_add_left (Nat.succ_le_succ (Nat.zero_le d)) dp) h, by rw [Nat.add_assoc, Nat.add_comm 1 d]; exact h⟩
theorem mid5 {l r v : Nat} (h : l < r) (hr : r ≤ v) (h5 : v ≤ 5) : l < v ∧ l < 1000000 ∧ l ≤ (l + r) / 2 ∧ (l + r) / 2 ≤ r ∧ (l + r) / 2 ≤ v ∧ (l + r) / 2 - l < 1000000000 ∧ (l + r) / 2 - l ≤ 5 ∧ r - (l + r) / 2 ≤ 5 ∧ r - l ≤ 5 := by
  obtain ⟨a, b, -, -⟩ := midP h (Nat.le_succ _)
  have c : (l + r) / 2 ≤ 5 := Nat.le_trans (Nat.le_of_lt b) (Nat.le_trans hr h5)
  have e : (l + r) / 2 - l ≤ 5 := Nat.le_trans (Nat.sub_le _ _) c
  have r5 : r ≤ 5 := Nat.le_trans hr h5
  exact ⟨Nat.lt_of_lt_of_le h hr, Nat.lt_of_lt_of_le (Nat.lt_of_lt_of_le h r5) (by decide), a, Nat.le_of_lt b, Nat.le_trans (Nat.le_of_lt b) hr, Nat.lt_of_le_of_lt e (by decide), e, Nat.le_trans (Nat.sub_le _ _) r5, Nat.le_trans (Nat.sub_le _ _) r5⟩
theorem lt64 {x y : Int} {a b : Nat} (h : x < y) (ha : a < 64) : x * 64 + (a : Int) < y * 64 + (b : Int) := by
  refine Int.lt_of_lt_of_le (Int.add_lt_add_left (Int.ofNat_lt.mpr ha) _) ?_
  refine Int.le_trans (Int.le_of_eq (b := (x + 1) * 64) (by rw [Int.add_mul]; rfl)) ?_
  exact Int.le_trans (Int.mul_le_mul_of_nonneg_right h (by decide)) (Int.le_add_of_nonneg_right (Int.natCast_nonneg b))
theorem le64 {x y : Int} {a b : Nat} (hb : b < 64) (h : x * 64 + (a : Int) < y * 64 + (b : Int)) : x ≤ y :=
  Int.not_lt.mp fun g => Int.lt_irrefl _ (Int.lt_trans h (lt64 g hb))
theorem lex64 {x y : Int} {a b : Nat} (ha : a < 64) (hb : b < 64) : (x < y ∨ x = y ∧ (a : Int) < (b : Int)) ↔ x * 64 + (a : Int) < y * 64 + (b : Int) := by
  constructor
  · rintro (h | ⟨rfl, h⟩)
    · exact lt64 h ha
    · exact Int.add_lt_add_left h _
  · intro h
    rcases Int.lt_or_eq_of_le (le64 hb h) with g | rfl
    · exact .inl g
    · exact .inr ⟨rfl, Int.lt_of_add_lt_add_left h⟩
theorem up64 {x y : Int} {a b : Nat} (hxy : x = y) (h : x * 64 + (a : Int) < y * 64 + (b : Int)) : a < b := by
  subst hxy; exact Int.ofNat_lt.mp (Int.lt_of_add_lt_add_left h)
theorem subs1 {K i : Nat} : K - (i + 1) = K - 1 - i := by rw [Nat.sub_sub, Nat.add_comm 1 i]
theorem subs2 {K i : Nat} (h : i < K) : K - 1 - i + 1 = K - i := by
  rw [← subs1, ← Nat.sub_sub]
  exact Nat.sub_add_cancel (Nat.sub_pos_of_lt h)
end Mine
end
section
open PySem PySem.W PyProof.Rows
namespace Mine
set_option maxRecDepth 100000
theorem said0 : (PySem.Challenge.rw_pg0213_01 : OpenLaw).wellSaid = true := by decide +kernel
/-- the rows of a text that are kept -/
def pickS : List Bool → List Stmt → List Stmt
  | b :: bs, x :: xs => match b with
    | true => x :: pickS bs xs
    | false => pickS bs xs
  | _, _ => []
/-- the text's defs and data that the head keeps in view -/
def view : Program := { PySem.Challenge.pw_pg0213_01 with main := { (PySem.Challenge.pw_pg0213_01).main with body := pickS [false, true, true, true, true, true, true, true, false, false, false, false, true, false, true, true, true, true] (PySem.Challenge.pw_pg0213_01).main.body } }
local macro_rules | `(tactic| o_law) => `(tactic| refine holds_law said0 fun said => ?_)
/-- the head, but for what the heap's part says: the top is run at once -/
theorem headOf (H : Hook) {d : DefRec} {kwd : List (Str × Expr)}
    (left : LeftO (OpenLaw.row PySem.Challenge.rw_pg0213_01).prog view [Str.ofString "insort_right", Str.ofString "bisect_right"] (fun s => xlAt view [] s && recOk (RowW.records (OpenRow.toRowW (OpenLaw.row PySem.Challenge.rw_pg0213_01))) s) (Hook.obs H) (Hook.val H) 1668)
    (hdef : defOf view (OpenLaw.row PySem.Challenge.rw_pg0213_01).name = some (d, kwd)) (hp : (OpenLaw.row PySem.Challenge.rw_pg0213_01).prog.theDef (OpenLaw.row PySem.Challenge.rw_pg0213_01).name = some (d.params, d.body, d.scope)) (hk : kwWritten? d.params.kwonlyargs d.params.kw_defaults = some kwd)
    (k1 : (OpenLaw.row PySem.Challenge.rw_pg0213_01).wellSaid = true) (hw : (OpenRow.toRowW (OpenLaw.row PySem.Challenge.rw_pg0213_01)).promised)
    (call : WalkO view [Str.ofString "insort_right", Str.ofString "bisect_right"] (XL view []) (Hook.says H) (OpenRow.toRowW (OpenLaw.row PySem.Challenge.rw_pg0213_01)) d kwd fun f vs => PySem.call f vs) : (OpenLaw.row PySem.Challenge.rw_pg0213_01).Holds :=
  holds_open left (Hook.of H) (Hook.keeps H) (fun s e => xl_of s (Bool.and_eq_true_iff.mp e).1) XL.keeps hdef hp hk (fun s e => recFacts_of (Bool.and_eq_true_iff.mp e).2) (by rfl) k1 (by decide +kernel) ⟨rfl, rfl, rfl, rfl, rfl, by decide +kernel⟩ hw call
local macro_rules | `(tactic| o_head $H) => `(tactic| (refine headOf $H ?hl (by rfl) (by rfl) (by rfl) (by assumption) ?hw ?hc; (case hl => exact fun w => by kernel_rfl)))
set_option maxHeartbeats 8000000 in
open_top hd for PySem.Challenge.rw_pg0213_01
end Mine
end
theorem Mine.top_off : True := by
  w_top off
  trivial
theorem Mine.fill_all : Mine.hd.heap_1 = Mine.hd.heap_1 ∧ PySem.Challenge.rw_pg0213_01 = PySem.Challenge.rw_pg0213_01 := by
  k_fill
  exact ⟨rfl, rfl⟩
section
open PySem PySem.W PyProof.Rows PySem.Calls PySem.Spec
namespace Mine
/-- the entry at a place -/
@[reducible] def nthO {α : Type} : List α → Nat → Option α
  | [], _ => none
  | x :: _, 0 => some x
  | _ :: xs, n + 1 => nthO xs n
/-- the list behind so many entries -/
@[reducible] def dropO {α : Type} : Nat → List α → List α
  | 0, xs => xs
  | _ + 1, [] => []
  | n + 1, _ :: xs => dropO n xs
theorem memAt {α : Type} {y : α} : ∀ {xs : List α} (i : Nat), nthO xs i = some y → y ∈ xs
  | [], _, e => by cases e
  | x :: xs, 0, e => by cases e; exact .head _
  | x :: xs, i + 1, e => .tail _ (memAt i e)
theorem memDrop {α : Type} {y : α} : ∀ {xs : List α} (i : Nat), y ∈ dropO i xs → y ∈ xs
  | _, 0, h => h
  | [], _ + 1, h => h
  | _ :: _, i + 1, h => .tail _ (memDrop i h)
def MemX (y : Addr × Obj) (xs : List (Addr × Obj)) : Prop := y ∈ xs
theorem memIff {y : Addr × Obj} {xs : List (Addr × Obj)} : (y ∈ xs) = MemX y xs := rfl
theorem iteF {a b : Prop} {i : Decidable (false = true)} (h : b) : @ite _ (false = true) i a b := by rw [if_neg (fun z => Bool.noConfusion z)]; exact h
theorem iteT {a b : Prop} {i : Decidable (true = true)} (h : a) : @ite _ (true = true) i a b := by rw [if_pos rfl]; exact h
/-- where a walk is to stop -/
structure Halt (P : Prop) : Prop where
  out : P
theorem memR {α : Type} {y : α} {a b : List α} (h : y ∈ b) : y ∈ a ++ b := List.mem_append_right _ h
/-- the kind of an object's data -/
def kindD (o : Obj) : Nat := match o.data with
  | .plain => 0 | .seq _ _ => 1 | .dict _ _ => 2 | .cell _ => 3 | .func _ => 4 | .fields _ => 5 | _ => 6
theorem apart {h : Heap} {a b : Addr} {o o' : Obj} (x : h.get? a = some o) (y : h.get? b = some o') (k : Nat.beq (kindD o) (kindD o') = false) : a ≠ b := fun z => by
  subst z
  rw [Option.some.inj (x.symm.trans y)] at k
  exact Nat.ne_of_beq_eq_false k rfl
/-- one ledger lies in another -/
def Sub (ys xs : List (Addr × Obj)) : Prop := ∀ q, q ∈ ys → q ∈ xs
theorem subM {q : Addr × Obj} {ys xs : List (Addr × Obj)} (S : Sub ys xs) (h : q ∈ ys) : q ∈ xs := S q h
theorem subAt {ys xs : List (Addr × Obj)} (i : Nat) (e : dropO i xs = ys) : Sub ys xs := fun _ h => memDrop i (e ▸ h)
theorem subNil {xs : List (Addr × Obj)} : Sub [] xs := fun _ h => nomatch h
theorem subCons {y : Addr × Obj} {ys xs : List (Addr × Obj)} (i : Nat) (e : nthO xs i = some y) (S : Sub ys xs) : Sub (y :: ys) xs := fun q h => by
  cases h with
  | head => exact memAt i e
  | tail _ h => exact S q h
theorem subConsM {y : Addr × Obj} {ys xs : List (Addr × Obj)} (m : y ∈ xs) (S : Sub ys xs) : Sub (y :: ys) xs := fun q h => by
  cases h with
  | head => exact m
  | tail _ h => exact S q h
theorem subApp {a b xs : List (Addr × Obj)} (S : Sub a xs) (T : Sub b xs) : Sub (a ++ b) xs := fun q h => by
  rcases List.mem_append.mp h with h | h
  · exact S q h
  · exact T q h
theorem subTail {x : Addr × Obj} {ys xs : List (Addr × Obj)} (S : Sub ys xs) : Sub ys (x :: xs) := fun q h => .tail _ (S q h)
theorem subR {ys a b : List (Addr × Obj)} (S : Sub ys b) : Sub ys (a ++ b) := fun q h => List.mem_append_right _ (S q h)
theorem subL {ys a b : List (Addr × Obj)} (S : Sub ys a) : Sub ys (a ++ b) := fun q h => List.mem_append_left _ (S q h)
theorem subRefl {ys : List (Addr × Obj)} : Sub ys ys := fun _ h => h
end Mine
end
section
open PySem PySem.W PyProof.Rows PySem.Calls PySem.Spec Mine
local macro_rules | `(tactic| walk_at "zb") => `(tactic| ((fail_if_success (fail_if_success decide)); with_unfolding_all exact rfl))
local macro_rules | `(tactic| omega) => `(tactic| first | (k_whole; with_reducible (first | ((show @Ne Nat _ _); first | assumption | exact Nat.ne_of_gt (by assumption) | exact Nat.ne_of_lt (by assumption) | exact Nat.ne_of_gt (And.left (by assumption)) | exact Nat.ne_of_lt (And.left (by assumption)) | exact Nat.ne_of_gt (And.left (And.right (by assumption))) | exact Nat.ne_of_lt (And.left (And.right (by assumption))) | exact Nat.ne_of_gt (And.right (by assumption)) | exact Nat.ne_of_lt (And.right (by assumption)) | exact Nat.ne_of_gt (And.left (And.right (And.right (by assumption)))) | exact Nat.ne_of_lt (And.left (And.right (And.right (by assumption)))) | exact Nat.ne_of_gt (And.right (And.right (by assumption))) | exact Nat.ne_of_lt (And.right (And.right (by assumption))) | exact Nat.ne_of_gt (And.left (And.right (And.right (And.right (by assumption))))) | exact Nat.ne_of_lt (And.left (And.right (And.right (And.right (by assumption))))) | exact Nat.ne_of_gt (And.right (And.right (And.right (by assumption)))) | exact Nat.ne_of_lt (And.right (And.right (And.right (by assumption)))) | exact Ne.symm (by assumption) | exact neU1 | exact neU1.symm | exact neU2 | exact neU2.symm | exact neU3 | exact neU3.symm | exact neU4 | exact neU4.symm | exact neU5 | exact neU5.symm | exact neU6 | exact neU6.symm | exact neU7 | exact neU7.symm | exact neAdd (by rfl) | exact neUK (by rfl) | exact (neUK (by rfl)).symm | fail) | ((show @LT.lt Nat _ _ _); first | assumption | exact ltK0 (by assumption) (by walk_at "zb") | exact ltK (by assumption) (by walk_at "zb") | exact ltB (by walk_at "zb") | exact ltK2 (by assumption) (by walk_at "zb") | exact ltK1 (by assumption) (by walk_at "zb") | exact gtK (by assumption) (by walk_at "zb") | exact ltE (by assumption) (by assumption) (by walk_at "zb") | exact ltR (by assumption) (by assumption) | exact ltR' (by assumption) (by assumption) | exact ltL (by assumption) (by assumption) | exact Nat.lt_trans (by assumption) (by assumption) | exact Nat.lt_of_lt_of_le (by assumption) (by assumption) | fail) | ((show @LE.le Nat _ _ _); first | assumption | exact leB (by walk_at "zb") | exact leK1 (by assumption) (by walk_at "zb") | exact leK (by assumption) (by walk_at "zb") | exact leKS (by assumption) (by walk_at "zb") | exact geK (by assumption) (by walk_at "zb") | exact leE (by assumption) (by assumption) (by walk_at "zb") | exact leE1 (by assumption) (by assumption) (by walk_at "zb") | exact leR (by assumption) (by assumption) | exact leR' (by assumption) (by assumption) | exact leL (by assumption) (by assumption) | fail) | ((show @Eq Nat _ _); first | assumption | exact Nat.zero_add _ | exact eqT (by assumption) (by assumption) | exact eqT' (by assumption) (by assumption) | fail) | fail)) | fail)
local macro_rules | `(tactic| k_mem) => `(tactic| ((fail_if_success (fail_if_success (rewrite [memIff]))); first | exact memAt 0 rfl | exact memAt 1 rfl | exact memAt 2 rfl | exact memAt 3 rfl | exact memAt 4 rfl | exact memAt 5 rfl | exact memAt 6 rfl | exact memAt 7 rfl | exact memAt 8 rfl | exact memAt 9 rfl | exact memAt 10 rfl | exact memAt 11 rfl | exact memAt 12 rfl | exact memAt 13 rfl | exact memAt 14 rfl | exact memAt 15 rfl | exact memAt 16 rfl | exact memAt 17 rfl | exact memAt 18 rfl | exact memAt 19 rfl | exact memAt 20 rfl | exact memAt 21 rfl | exact memAt 22 rfl | exact memAt 23 rfl))
local macro_rules | `(tactic| walk_at "mem") => `(tactic| first | exact memAt 0 rfl | exact memAt 1 rfl | exact memAt 2 rfl | exact memAt 3 rfl | exact memAt 4 rfl | exact memAt 5 rfl | exact memAt 6 rfl | exact memAt 7 rfl | exact memAt 8 rfl | exact memAt 9 rfl | exact memAt 10 rfl | exact memAt 11 rfl | exact memAt 12 rfl | exact memAt 13 rfl | exact memAt 14 rfl | exact memAt 15 rfl | exact memAt 16 rfl | exact memAt 17 rfl | exact memAt 18 rfl | exact memAt 19 rfl | exact memAt 20 rfl | exact memAt 21 rfl | exact memAt 22 rfl | exact memAt 23 rfl | exact memAt 24 rfl | exact memAt 25 rfl | (with_reducible assumption) | ((repeat (refine List.Mem.tail _ ?_)); first | (with_reducible assumption) | (refine List.mem_append_left _ ?_; with_reducible assumption) | (refine memR ?_; walk_at "mem")))
local macro_rules | `(tactic| walk_at "sub") => `(tactic| first | exact subNil | exact subAt 0 rfl | exact subAt 1 rfl | exact subAt 2 rfl | exact subAt 3 rfl | exact subAt 4 rfl | exact subAt 5 rfl | exact subAt 6 rfl | exact subAt 7 rfl | exact subAt 8 rfl | exact subAt 9 rfl | exact subAt 10 rfl | exact subAt 11 rfl | exact subAt 12 rfl | exact subAt 13 rfl | exact subAt 14 rfl | exact subAt 15 rfl | exact subAt 16 rfl | exact subAt 17 rfl | exact subAt 18 rfl | exact subAt 19 rfl | exact subAt 20 rfl | exact subAt 21 rfl | (refine subConsM ?_ ?_; (focus (walk_at "mem"; done)); (walk_at "sub")) | (refine subApp ?_ ?_; (focus (walk_at "sub"; done)); (walk_at "sub")) | ((repeat (refine subTail ?_)); first | exact subL subRefl | (refine subR ?_; walk_at "sub")))
local macro_rules | `(tactic| walk_at "ite") => `(tactic| with_reducible (first | refine iteF ?_ | refine iteT ?_))
section
open PySem PySem.W PyProof.Rows PySem.Calls PySem.Spec
namespace Mine
abbrev PR := PySem.Challenge.pw_pg0213_01
theorem fill : hd.heap_1 = hd.heap_1 ∧ PySem.Challenge.rw_pg0213_01 = PySem.Challenge.rw_pg0213_01 := by
  k_fill
  exact ⟨rfl, rfl⟩

/-- a fact kept out of the arithmetic's sight -/
structure Hid (P : Prop) : Prop where
  out : P
/-- all of h outside S stands in h' -/
def Keeps (S : List Addr) (h h' : Heap) : Prop := ∀ b o, h.get? b = some o → b ∉ S → h'.get? b = some o
theorem Keeps.refl (S : List Addr) (h : Heap) : Keeps S h h := fun _ _ e _ => e
theorem Keeps.trans {S : List Addr} {h h' h'' : Heap} (a : Keeps S h h') (b : Keeps S h' h'') : Keeps S h h'' := fun x o e n => b x o (a x o e n) n
theorem Keeps.mono {S S' : List Addr} {h h' : Heap} (a : Keeps S h h') (k : ∀ x ∈ S, x ∈ S') : Keeps S' h h' := fun x o e n => a x o e fun q => n (k x q)

/-- the state s with another heap and another count of tokens -/
abbrev St (s : Shared) (h : Heap) (t : Nat) : Shared := { s with heap := h, toks := t }

abbrev Ar (dp un : Nat) (fr : Option (List Env)) (gd : Option (List Code)) : Around := { handled := none, depth := dp, frames := fr, guards := gd, units := un }

section
variable {prog : Program} {w : World} {A : Around} {s : Shared} {G : Heap} {K : Frag} {p : Program} {loose : List Str} {mean : ExcName → Option Value} {mg mb : Str → Option Value}
  {R : Result → Shared → Prop} {name qual : Str} {params : Arguments} {body : List Stmt} {scope : Scope} {dV kV doc pm cdv ct oc : Value} {an od : Option Addr} {osl : Array (Option Value)} {f : Addr} {args : Args} {binds : List (Str × Value)} {cl : List (Str × Addr)} {fo : Obj}

theorem fp_out {fp : List (Addr × Obj)} (hfp : ∀ q ∈ fp, s.heap.get? q.1 = some q.2 ∧ G.get? q.1 = none) {b : Addr} {o : Obj} (e : G.get? b = some o) : b ∉ fp.map (·.1) := fun q => by
  obtain ⟨r, hr, rfl⟩ := List.mem_map.mp q
  rw [(hfp r hr).2] at e; cases e

theorem enterX (fp : List (Addr × Obj)) (hG : G.StaysIn s.heap) (hfp : ∀ q ∈ fp, s.heap.get? q.1 = some q.2 ∧ G.get? q.1 = none)
    (X : K.In G) (T : Top p loose mean mg mb G)
    (ho : s.heap.get? f = some fo) (hd : fo.data = .func (fnX name qual params body scope cl dV kV doc pm an cdv ct)) (hcd : s.heap.CodeRec cdv qual) (hroom : A.depth < recursionLimit)
    (hbind : BindsTo s (fnX name qual params body scope cl dV kV doc pm an cdv ct) args binds) (hloc : ∀ y ∈ binds, scope.names.lookup y.1 = some .local)
    (h : ∀ g L' h₁, G.StaysIn g → K.In g → Top p loose mean mg mb g → (∀ b o, s.heap.get? b = some o → b ∉ fp.map (·.1) → g.get? b = some o) → Fr g L' h₁ (fun y => binds.reverse.lookup y) → News g L' h₁ fp → (∀ q ∈ fp, q.1 < L') → (∀ q ∈ fp, g.get? q.1 = none) →
      wpAny (model prog w) (A.deeper (envX qual scope L' f cdv cl)) (execs body (envX qual scope L' f cdv cl))
        (fun fl s' => R (.ok (.ret (match fl with | .ret v => v | _ => .none))) s') (fun _ _ => False)
        { s with heap := h₁, toks := s.toks + binds.length })
    (hcell : ∀ x ∈ scope.names, x.2 ≠ .cell) (hco : scope.isCoroutine = false := by rfl) (hgen : scope.isGenerator = false := by rfl) (hk : scope.kind = .function := by rfl) : codeAny (model prog w) A (.call (.ref f) args) R s := by
  have Gg : G.StaysIn (hideAll s.heap (fp.map (·.1))) := fun b o e => hideAll_get _ (hG b o e) (fp_out hfp e)
  refine codeAny_call_def (fd := fnX name qual params body scope cl dV kV doc pm an cdv ct) (body := body) (binds := binds) hroom ho hd (T.nolimit.keeps hG) hcd rfl hbind hcell hloc (fun h₁ hns hk₁ => ?_) hco hgen hk
  refine wpAny_mono (h (hideAll s.heap (fp.map (·.1))) s.heap.objs.size h₁ Gg (X.keeps fun b o e => Gg b o e) (T.keeps fun b o e => Gg b o e) (fun b o e n => hideAll_get _ e n) ⟨hns, fun b o e => hk₁ b o (of_hideAll _ e), Nat.le_of_eq (hideAll_size _ _)⟩
    (fun q hq => ⟨hk₁ _ _ (hfp q hq).1, Nat.ne_of_lt (Heap.lt_size (hfp q hq).1), hideAll_none _ (List.mem_map_of_mem hq)⟩) (fun q hq => Heap.lt_size (hfp q hq).1) (fun q hq => hideAll_none _ (List.mem_map_of_mem hq))) (fun _ _ x => x) fun _ _ x => x.elim

theorem enterK (fp : List (Addr × Obj)) (hG : G.StaysIn s.heap) (hfp : ∀ q ∈ fp, s.heap.get? q.1 = some q.2 ∧ G.get? q.1 = none)
    (X : K.In G) (T : Top p loose mean mg mb G)
    (ho : K.lookup f = some ⟨oc, od, .func (fnX name qual params body scope [] dV kV doc pm an cdv ct), osl⟩) (hcd : codeIn K cdv qual = true) (hroom : A.depth < recursionLimit)
    (hbind : BindsTo s (fnX name qual params body scope [] dV kV doc pm an cdv ct) args binds) (hloc : ∀ y ∈ binds, scope.names.lookup y.1 = some .local)
    (h : ∀ g L' h₁, G.StaysIn g → K.In g → Top p loose mean mg mb g → (∀ b o, s.heap.get? b = some o → b ∉ fp.map (·.1) → g.get? b = some o) → Fr g L' h₁ (fun y => binds.reverse.lookup y) → News g L' h₁ fp → (∀ q ∈ fp, q.1 < L') → (∀ q ∈ fp, g.get? q.1 = none) →
      wpAny (model prog w) (A.deeper (envX qual scope L' f cdv [])) (execs body (envX qual scope L' f cdv []))
        (fun fl s' => R (.ok (.ret (match fl with | .ret v => v | _ => .none))) s') (fun _ _ => False)
        { s with heap := h₁, toks := s.toks + binds.length })
    (hcell : ∀ x ∈ scope.names, x.2 ≠ .cell) (hco : scope.isCoroutine = false) (hgen : scope.isGenerator = false) (hk : scope.kind = .function) : codeAny (model prog w) A (.call (.ref f) args) R s :=
  enterX fp hG hfp X T (hG _ _ (X _ _ ho)) rfl (codeRec_of (X.keeps fun b o e => hG b o e) hcd) hroom hbind hloc h hcell hco hgen hk
end
section
variable {prog : Program} {w : World} {A : Around} {s : Shared} {G : Heap} {K : Frag} {p : Program} {loose : List Str} {mean : ExcName → Option Value} {mg mb : Str → Option Value}
  {R : Result → Shared → Prop} {name qual : Str} {params : Arguments} {body : List Stmt} {scope : Scope} {dV kV doc pm cdv ct oc : Value} {an od : Option Addr} {osl : Array (Option Value)} {f : Addr} {args : Args} {binds : List (Str × Value)}
theorem enterC (fp : List (Addr × Obj)) (hG : G.StaysIn s.heap) (hfp : ∀ q ∈ fp, s.heap.get? q.1 = some q.2 ∧ G.get? q.1 = none)
    (X : K.In G) (T : Top p loose mean mg mb G)
    (ho : K.lookup f = some ⟨oc, od, .func (fnX name qual params body scope [] dV kV doc pm an cdv ct), osl⟩) (hcd : codeIn K cdv qual = true) (hroom : A.depth < recursionLimit)
    (hbind : BindsTo s (fnX name qual params body scope [] dV kV doc pm an cdv ct) args binds) (hkind : (binds.all fun y => scope.names.lookup y.1 == some .local || scope.names.lookup y.1 == some .cell) = true)
    (hnd : ((cellsFrom 0 scope.names []).map (·.1)).Nodup)
    (h : ∀ g L' h₁ tk cells, G.StaysIn g → K.In g → Top p loose mean mg mb g → (∀ b o, s.heap.get? b = some o → b ∉ fp.map (·.1) → g.get? b = some o) → Fr g L' h₁ (bindL (envOfC qual scope L' f cdv).kindOf binds fun _ => none) → News g L' h₁ (cells ++ fp) →
      CellsAre (bindC (envOfC qual scope L' f cdv).kindOf binds fun _ => none) (cellsFrom (L' + 1) scope.names []) cells → (∀ q ∈ fp, q.1 < L') → (∀ q ∈ fp, g.get? q.1 = none) →
      wpAny (model prog w) (A.deeper (envOfC qual scope L' f cdv)) (execs body (envOfC qual scope L' f cdv))
        (fun fl s' => R (.ok (.ret (match fl with | .ret v => v | _ => .none))) s') (fun _ _ => False)
        { s with heap := h₁, toks := tk })
    (hco : scope.isCoroutine = false) (hgen : scope.isGenerator = false) (hk : scope.kind = .function) : codeAny (model prog w) A (.call (.ref f) args) R s := by
  have Gg : G.StaysIn (hideAll s.heap (fp.map (·.1))) := fun b o e => hideAll_get _ (hG b o e) (fp_out hfp e)
  refine codeAny_call_function hroom (hG _ _ (X _ _ ho)) rfl hco hgen rfl (codeRec_of (X.keeps fun b o e => hG b o e) hcd) (hbind _ _ _ _ ?_)
  refine wpAny_newFunctionEnv_cells hk (kindsX hkind _) fun env' he s' x => ?_
  subst he
  refine ⟨(T.nolimit.keeps hG).keeps x.toInCall.keep, codeAny_func ?_⟩
  obtain ⟨h₁, tk, rfl, _⟩ := x.done
  have hk₁ := x.toInCall.keep
  obtain ⟨cells, NC, Y⟩ := Cl.news (h₀ := s.heap) (Nat.le_refl _) fun n c hm => ⟨x.cell n c (lookup_of_mem_nodup (cellsFrom_names scope.names 0 (s.heap.objs.size + 1) [] [] rfl ▸ hnd) hm), x.above n c hm⟩
  refine wpAny_mono (h (hideAll s.heap (fp.map (·.1))) s.heap.objs.size h₁ tk cells Gg (X.keeps fun b o e => Gg b o e) (T.keeps fun b o e => Gg b o e) (fun b o e n => hideAll_get _ e n) ⟨x.toInCall.ns, fun b o e => hk₁ b o (of_hideAll _ e), Nat.le_of_eq (hideAll_size _ _)⟩
    (fun q hq => ?_) Y (fun q hq => Heap.lt_size (hfp q hq).1) (fun q hq => hideAll_none _ (List.mem_map_of_mem hq))) (fun _ _ x => x) fun _ _ x => x.elim
  rcases List.mem_append.mp hq with hq | hq
  · refine ⟨(NC q hq).1, (NC q hq).2.1, ?_⟩
    cases z : (hideAll s.heap (fp.map (·.1))).get? q.1 with
    | none => rfl
    | some o => have := of_hideAll _ z; rw [(NC q hq).2.2] at this; cases this
  · exact ⟨hk₁ _ _ (hfp q hq).1, Nat.ne_of_lt (Heap.lt_size (hfp q hq).1), hideAll_none _ (List.mem_map_of_mem hq)⟩
end
/-- the table of inner code objects: empty, or with the one entry -/
inductive TabLed (P : Addr) (pos : Pos) (qual : Str) : List (Addr × Obj) → Prop
  | nil : TabLed P pos qual [(P, tabObj #[])]
  | one {c' : Addr} {oc : Obj} {vs : Array Value} {t : Tok} : oc.data = .fields vs → vs[1]? = some (.str qual t) → @Ne Nat c' P → TabLed P pos qual [(P, tabObj #[rawInt pos.line, rawInt pos.col, .ref c']), (c', oc)]
section
variable {M : Model} {A : Around} {E : Value → Shared → Prop} {s : Shared} {h₀ : Heap} {L a c P : Addr} {m mg mb : Str → Option Value} {cn : Str} {cs : Scope} {ccd : Value} {cl : List (Str × Addr)} {tl rest : List (Addr × Obj)}
  {p : Program} {loose : List Str} {mean : ExcName → Option Value} {name qual : Str} {params : Arguments} {body : List Stmt} {scope : Scope} {pos : Pos} {clos : List (Str × Addr)}
end
section
variable {h g h' : Heap} {L : Addr} {m : Str → Option Value} {fp news : List (Addr × Obj)} {q : Addr} {o : Obj}
theorem kp_keeps (kp : ∀ b o, h.get? b = some o → b ∉ fp.map (·.1) → g.get? b = some o) (F : Fr g L h' m) : Keeps (fp.map (·.1)) h h' := fun b o e n => F.keep b o (kp b o e n)
theorem kp_fresh (kp : ∀ b o, h.get? b = some o → b ∉ fp.map (·.1) → g.get? b = some o) (N : News g L h' news) (hm : (q, o) ∈ news) (hn : q ∉ fp.map (·.1)) : h.get? q = none := by
  cases e : h.get? q with
  | none => rfl
  | some o' => exact absurd (kp q o' e hn) (by rw [N.fresh hm]; exact nofun)
/-- behind a call by contract: the frame and the ledger of the caller -/
theorem after_fr {S : List Addr} (F : Fr g L h m) (k : Keeps S h h') (hS : ∀ a ∈ S, a ≠ L ∧ g.get? a = none) : Fr g L h' m := by
  obtain ⟨oL, es, ep, hL, r⟩ := F.ns
  exact ⟨⟨oL, es, ep, k _ _ hL (fun q => (hS _ q).1 rfl), r⟩, fun b o e => k b o (F.keep b o e) (fun q => by rw [(hS _ q).2] at e; cases e), F.above⟩
theorem after_old {S : List Addr} (N : News g L h news) (k : Keeps S h h') {a : Addr} (hm : (a, o) ∈ news) (hn : a ∉ S) : h'.get? a = some o ∧ a ≠ L ∧ g.get? a = none :=
  let x := N _ hm; ⟨k _ _ x.1 hn, x.2⟩
theorem after_set (N : News g L h news) {a : Addr} {o' : Obj} (hm : (a, o) ∈ news) (e : h'.get? a = some o') : h'.get? a = some o' ∧ a ≠ L ∧ g.get? a = none :=
  let x := N _ hm; ⟨e, x.2⟩
theorem after_new (F : Fr g L h m) {a : Addr} {o' : Obj} (hn : h.get? a = none) (e : h'.get? a = some o') : h'.get? a = some o' ∧ a ≠ L ∧ g.get? a = none := by
  refine ⟨e, fun q => ?_, ?_⟩
  · obtain ⟨oL, es, ep, hL, r⟩ := F.ns
    rw [q, hL] at hn; cases hn
  · cases z : g.get? a with
    | none => rfl
    | some x => rw [F.keep a x z] at hn; cases hn
theorem fresh_ne (N : News g L h news) {a : Addr} (hn : h.get? a = none) : ∀ p ∈ news, p.1 ≠ a := fun p hp q => by
  have := (N p hp).1
  rw [q, hn] at this; cases this
theorem news_cons {p : Addr × Obj} (a : h.get? p.1 = some p.2 ∧ p.1 ≠ L ∧ g.get? p.1 = none) (N : News g L h news) : News g L h (p :: news) := fun q hq => by
  rcases List.mem_cons.mp hq with rfl | hq
  · exact a
  · exact N q hq
end
section
variable {h g h' : Heap} {L a : Addr} {m : Str → Option Value} {news rest : List (Addr × Obj)} {o o' : Obj}
theorem news_upd1 (N : News g L h ((a, o) :: rest)) (k : Keeps [a] h h') (e : h'.get? a = some o') (ne : ∀ p ∈ rest, p.1 ≠ a) : News g L h' ((a, o') :: rest) := fun q hq => by
  rcases List.mem_cons.mp hq with rfl | hq
  · exact ⟨e, (N _ (.head _)).2⟩
  · have x := N q (.tail _ hq)
    exact ⟨k _ _ x.1 (fun z => ne q hq (List.mem_singleton.mp z)), x.2⟩
theorem fr_upd1 (F : Fr g L h m) (N : News g L h ((a, o) :: rest)) (k : Keeps [a] h h') : Fr g L h' m :=
  after_fr F k fun b hb => by rw [List.mem_singleton.mp hb]; exact (N _ (.head _)).2
end
section
variable {h g h' : Heap} {L a : Addr} {m : Str → Option Value} {news news' : List (Addr × Obj)} {o o' : Obj}
theorem news_updU (N : News g L h news) (U : Upd a o o' news news') (k : Keeps [a] h h') (e : h'.get? a = some o') : News g L h' news' := by
  obtain ⟨pre, post, rfl, rfl, a1, a2⟩ := U.split
  intro q hq
  rcases List.mem_append.mp hq with hq | hq
  · have x := N q (List.mem_append_left _ hq)
    exact ⟨k _ _ x.1 (fun z => a1 q hq (List.mem_singleton.mp z)), x.2⟩
  · rcases List.mem_cons.mp hq with rfl | hq
    · exact ⟨e, (N (a, o) (List.mem_append_right _ (.head _))).2⟩
    · have x := N q (List.mem_append_right _ (.tail _ hq))
      exact ⟨k _ _ x.1 (fun z => a2 q hq (List.mem_singleton.mp z)), x.2⟩
theorem fr_updU (F : Fr g L h m) (N : News g L h news) (hm : (a, o) ∈ news) (k : Keeps [a] h h') : Fr g L h' m :=
  after_fr F k fun b hb => by rw [List.mem_singleton.mp hb]; exact (N _ hm).2
end
theorem g_none {G g : Heap} (Gg : G.StaysIn g) {a : Addr} (e : g.get? a = none) : G.get? a = none := by
  cases z : G.get? a with
  | none => rfl
  | some o => rw [Gg a o z] at e; cases e
theorem tab_done {h G : Heap} {P : Addr} {pos : Pos} {qual : Str} {c' : Addr} {oc : Obj} {vs : Array Value} {t : Tok} (tP : h.get? P = some (tabObj #[rawInt pos.line, rawInt pos.col, .ref c'])) (hc : h.get? c' = some oc) (d1 : oc.data = .fields vs)
    (d2 : vs[1]? = some (.str qual t)) (ne : @Ne Nat c' P) (gP : G.get? P = none) (gc : G.get? c' = none) : ∃ tl', TabLed P pos qual tl' ∧ ∀ q ∈ tl', h.get? q.1 = some q.2 ∧ G.get? q.1 = none :=
  ⟨_, .one d1 d2 ne, allC ⟨tP, gP⟩ (allC ⟨hc, gc⟩ (List.forall_mem_nil _))⟩
section
variable {h g h' : Heap} {L a : Addr} {m : Str → Option Value} {news fp : List (Addr × Obj)}
theorem kp_same (kp : ∀ b o, h.get? b = some o → b ∉ fp.map (·.1) → g.get? b = some o) (F : Fr g L h' m) (N : News g L h' fp) (hr : ∀ p ∈ fp, h.get? p.1 = some p.2) : Keeps [] h h' := fun b o e nb => by
  by_cases hb : b ∈ fp.map (·.1)
  · obtain ⟨p, hp, rfl⟩ := List.mem_map.mp hb
    rw [hr p hp] at e
    cases e
    exact (N p hp).1
  · exact F.keep b o (kp b o e hb)
theorem news_same (N : News g L h news) (k : Keeps [] h h') : News g L h' news := fun q hq => ⟨k _ _ (N q hq).1 List.not_mem_nil, (N q hq).2⟩
end
section
variable {h g h' : Heap} {L a : Addr} {m : Str → Option Value} {news fp : List (Addr × Obj)} {S : List Addr}
theorem kp_on (kp : ∀ b o, h.get? b = some o → b ∉ fp.map (·.1) → g.get? b = some o) (F : Fr g L h' m) (hr : ∀ p ∈ fp, p.1 ∈ S ∨ (h.get? p.1 = some p.2 ∧ h'.get? p.1 = some p.2)) : Keeps S h h' := fun b o e nb => by
  by_cases hb : b ∈ fp.map (·.1)
  · obtain ⟨p, hp, rfl⟩ := List.mem_map.mp hb
    rcases hr p hp with h1 | ⟨h1, h2⟩
    · exact absurd h1 nb
    · rw [h1] at e; cases e; exact h2
  · exact F.keep b o (kp b o e hb)
end
def AllNe (d : Nat) : List (Addr × Obj) → Prop
  | [] => True
  | p :: r => @Ne Nat p.1 d ∧ AllNe d r
def innerAt (i : Nat) (b : List Stmt) : Option (Arguments × List Stmt × Scope) := match b[i]? with
  | some (.FunctionDef _ a b _ _ _ sc _ _ _) => some (a, b, sc)
  | _ => none
def bodyAt (K : Frag) (f : Addr) : List Stmt := match K.lookup f with
  | some ⟨_, _, .func fd, _⟩ => (match fd.body with | .stmts b => b | _ => [])
  | _ => []
theorem with_look {K : Frag} {name qual : Str} {params : Arguments} {body : List Stmt} {scope : Scope} {dV kV doc pm cdv ct oc : Value} {an od : Option Addr} {osl : Array (Option Value)} {f : Addr} {goal : Prop}
    (ho : K.lookup f = some ⟨oc, od, .func (fnX name qual params body scope [] dV kV doc pm an cdv ct), osl⟩) (h : bodyAt K f = body → goal) : goal := h (by unfold bodyAt; rw [ho])
end Mine
end
section
open PySem PySem.W PyProof.Rows PySem.Calls PySem.Spec
namespace Mine
section
variable {prog : Program} {w : World} {A : Around} {E : Value → Shared → Prop} {s : Shared} {t u : Tok} {Q : Value → Shared → Prop}
theorem n_add {a b : Nat} (h : Q (.int ((a + b : Nat) : Int) s.toks) { s with toks := s.toks + 1 }) : wpAny (model prog w) A (binaryOp .Add (.int a t) (.int b u)) Q E s :=
  PyProof.Rows.add_int (by rw [← Int.natCast_add]; exact h)
theorem n_add1 {a : Nat} (h : Q (.int ((a + 1 : Nat) : Int) s.toks) { s with toks := s.toks + 1 }) : wpAny (model prog w) A (binaryOp .Add (.int a t) (.int 1 u)) Q E s :=
  n_add (a := a) (b := 1) h
theorem n_sub {a b : Nat} (hb : b ≤ a) (h : Q (.int ((a - b : Nat) : Int) s.toks) { s with toks := s.toks + 1 }) : wpAny (model prog w) A (binaryOp .Sub (.int a t) (.int b u)) Q E s :=
  PyProof.Rows.sub_int (by rw [← Int.ofNat_sub hb]; exact h)
theorem n_mul {a b : Nat} (ha : a < 1000000000) (h : Q (.int ((a * b : Nat) : Int) s.toks) { s with toks := s.toks + 1 }) : wpAny (model prog w) A (binaryOp .Mult (.int a t) (.int b u)) Q E s :=
  PyProof.Rows.mul_int (by rw [← Int.natCast_mul]; exact h) (.of_left (intBits_le_64 (by omega) (by omega)))
theorem n_shr {a b : Nat} (h : Q (.int ((a / 2 ^ b : Nat) : Int) s.toks) { s with toks := s.toks + 1 }) : wpAny (model prog w) A (binaryOp .RShift (.int a t) (.int b u)) Q E s := by
  refine PyProof.Rows.rshift_int (by omega) ?_
  have e : (a : Int).fdiv (2 ^ (b : Int).toNat) = ((a / 2 ^ b : Nat) : Int) := by
    rw [Int.toNat_natCast, Int.fdiv_eq_ediv_of_nonneg _ (by exact Int.le_of_lt (Int.pow_pos (by decide)))]
    push_cast
    rfl
  rw [e]; exact h
theorem n_half {a : Nat} (h : Q (.int ((a / 2 : Nat) : Int) s.toks) { s with toks := s.toks + 1 }) : wpAny (model prog w) A (binaryOp .RShift (.int a t) (.int 1 u)) Q E s :=
  n_shr (a := a) (b := 1) (by rw [Nat.pow_one]; exact h)
theorem n_shl {a b : Nat} (ha : a < 1000000000) (hb : b ≤ 1000000) (h : Q (.int ((a * 2 ^ b : Nat) : Int) s.toks) { s with toks := s.toks + 1 }) : wpAny (model prog w) A (binaryOp .LShift (.int a t) (.int b u)) Q E s := by
  refine PyProof.Rows.lshift_int_small (by omega) (by omega) (by omega) ?_
  have e : (a : Int) * 2 ^ (b : Int).toNat = ((a * 2 ^ b : Nat) : Int) := by
    rw [Int.toNat_natCast]; push_cast; rfl
  rw [e]; exact h
theorem and_high (x k : Nat) : x &&& (x / 2 ^ k * 2 ^ k) = x / 2 ^ k * 2 ^ k := by
  rw [← Nat.shiftRight_eq_div_pow, ← Nat.shiftLeft_eq]
  apply Nat.eq_of_testBit_eq
  intro i
  rw [Nat.testBit_and, Nat.testBit_shiftLeft]
  by_cases h : k ≤ i
  · rw [Nat.testBit_shiftRight, show k + (i - k) = i by omega]; simp [h]
  · simp [h]
theorem bitXor_low (x k : Nat) : Builtin.bitXor (x : Int) ((x / 2 ^ k * 2 ^ k : Nat) : Int) = ((x % 2 ^ k : Nat) : Int) := by
  rw [bitXor_and]
  have e : Builtin.bitAnd (x : Int) ((x / 2 ^ k * 2 ^ k : Nat) : Int) = ((x &&& (x / 2 ^ k * 2 ^ k) : Nat) : Int) := by
    unfold Builtin.bitAnd
    rw [decide_eq_true (by omega : (0 : Int) ≤ x), decide_eq_true (by omega : (0 : Int) ≤ ((x / 2 ^ k * 2 ^ k : Nat) : Int))]
    simp only [Int.toNat_natCast]
  rw [e, and_high]
  have := Nat.div_add_mod x (2 ^ k)
  rw [Nat.mul_comm] at this
  omega
theorem n_xorLow {x k : Nat} (h : Q (.int ((x % 2 ^ k : Nat) : Int) s.toks) { s with toks := s.toks + 1 }) : wpAny (model prog w) A (binaryOp .BitXor (.int x t) (.int ((x / 2 ^ k * 2 ^ k : Nat) : Int) u)) Q E s :=
  PyProof.Rows.xor_int (by rw [bitXor_low]; exact h)
end
section
variable {prog : Program} {w : World} {A : Around} {E : Value → Shared → Prop} {s : Shared} {h₀ : Heap} {L D : Addr} {m : Str → Option Value} {news news' : List (Addr × Obj)} {n : Nat}
theorem n_set {vs : List Value} {k : Nat} {t : Tok} {v : Value} {Q : Unit → Shared → Prop} (F : Fr h₀ L s.heap m) (N : News h₀ L s.heap news) (hk : k < vs.length) (hs : vs.length < 2 ^ 62) (U : Upd D (listOf vs.toArray n) (listOf (vs.set k v).toArray n) news news')
    (h : ∀ h', Fr h₀ L h' m → News h₀ L h' news' → Q () { s with heap := h' }) : wpAny (model prog w) A (setItem (.ref D) (.int k t) v) Q E s := by
  obtain ⟨pre, post, rfl, rfl, a, b⟩ := U.split
  have z := N (D, listOf vs.toArray n) (List.mem_append.mpr (.inr (.head _)))
  refine ki_setAt z.1 (by omega) (by omega) (by simpa using hk) (h _ (F.change (Heap.SameBut.update ..) z.2.1 z.2.2) (ki_turn _ N a b ?_ ?_))
  · show vs.toArray.setIfInBounds (k : Int).toNat v = (vs.set k v).toArray
    simp
  · simp
theorem n_len {l : Addr} {vs : List Value} {k0 : Nat} {Q : Value → Shared → Prop} (N : News h₀ L s.heap news) (hm : (l, listOf vs.toArray k0) ∈ news) (hl : vs.length < 100000)
    (h : Q (.int ((vs.length : Nat) : Int) (s.toks + 1)) { s with toks := s.toks + 1 + 1 }) : wpAny (model prog w) A (call (.builtin "len") [.ref l]) Q E s :=
  len_list (News.isList N hm) (by simp; omega) (by simpa using h)
theorem n_item {value slice : Expr} {l : Addr} {vs : List Value} {k0 k : Nat} {u : Tok} {x : Value} {Q : Value → Shared → Prop} (N : News h₀ L s.heap news) (hm : (l, listOf vs.toArray k0) ∈ news) (hx : vs[k]? = some x) (hk : k < 1000000) (h : Q x s)
    (hs : subscripted slice false (.ref l) (.int k u) = operate [.ref l, .int k u] (getItem (.ref l) (.int k u)) := by with_unfolding_all rfl) (hg : ∀ r, letTemporaryGo value (.ref l) r = pure () := by intro _; with_unfolding_all rfl) :
    wpAny (model prog w) A (subscriptTail value slice (.ref l) (.int k u)) Q E s :=
  item_listL (News.isList N hm) (by omega) (by omega) (by simpa using hx) h hs hg
theorem rep_fold (v : Value) (K : Nat) : ∀ (a : Array Value), List.foldl (fun x1 x2 => x1 ++ x2) a (List.replicate K #[v]) = a ++ (List.replicate K v).toArray := by
  induction K with
  | zero => intro a; simp
  | succ K ih => intro a; rw [List.replicate_succ, List.foldl_cons, ih, List.replicate_succ]; apply Array.toList_inj.mp; simp
theorem n_rep {l : Addr} {v : Value} {k0 K : Nat} {x : Int} {u : Tok} {Q : Value → Shared → Prop} (F : Fr h₀ L s.heap m) (N : News h₀ L s.heap news) (hm : (l, listOf #[v] k0) ∈ news) (hx : x = (K : Int)) (hK : K < 1000)
    (h : ∀ l2 h', Fr h₀ L h' m → News h₀ L h' ((l2, listOf (List.replicate K v).toArray 0) :: news) → (∀ p ∈ news, p.1 < l2) → Q (.ref l2) { s with heap := h' }) : wpAny (model prog w) A (binaryOp .Mult (.ref l) (.int x u)) Q E s := by
  subst hx
  refine mul_list F N (N.get hm) (by omega) (by omega) (by simp; omega) fun h' F' N' => ?_
  have e : List.foldl (fun x1 x2 => x1 ++ x2) #[] (List.replicate (if (#[v] : Array Value).isEmpty = true then 0 else (K : Int).toNat) #[v]) = (List.replicate K v).toArray := by
    rw [if_neg (by simp), Int.toNat_natCast, rep_fold]; simp
  rw [e] at N'
  exact h _ h' F' N' fun p hp => Heap.lt_size (N p hp).1
theorem bits_lt (a : Nat) : a < 2 ^ Builtin.Int.intBits (a : Int) := by
  have := (PySem.intBits_le_iff (m := Builtin.Int.intBits (a : Int)) (x := (a : Int))).mp (Nat.le_refl _)
  simpa using this
theorem bits_le {a m : Nat} (h : a < 2 ^ m) : Builtin.Int.intBits (a : Int) ≤ m := PySem.intBits_le_iff.mpr (by simpa using h)
theorem bits_pos {a : Nat} (h : a ≠ 0) : 1 ≤ Builtin.Int.intBits (a : Int) := by
  have := bits_lt a
  cases e : Builtin.Int.intBits (a : Int) with
  | zero => rw [e] at this; omega
  | succ k => omega
end
end Mine
end
section
open PySem PySem.W PyProof.Rows PySem.Calls PySem.Spec
namespace Mine
section
variable {h g h' : Heap} {L a : Addr} {m : Str → Option Value} {rest : List (Addr × Obj)} {o0 o1 : Obj}
theorem kp_keeps1 (kp : ∀ b o, h.get? b = some o → b ∉ ((a, o0) :: rest).map (·.1) → g.get? b = some o) (F : Fr g L h' m) (N : News g L h' ((a, o1) :: rest)) (hr : ∀ p ∈ rest, h.get? p.1 = some p.2) : Keeps [a] h h' := fun b o e nb => by
  by_cases hb : b ∈ rest.map (·.1)
  · obtain ⟨p, hp, rfl⟩ := List.mem_map.mp hb
    rw [hr p hp] at e
    cases e
    exact (N p (.tail _ hp)).1
  · refine F.keep b o (kp b o e fun q => ?_)
    rcases List.mem_cons.mp q with q | q
    · exact nb (List.mem_singleton.mpr q)
    · exact hb q
end
/-- the digits of x stand in the places from l to r -/
def DigSet (vs vs' : List Value) (l r n x : Nat) : Prop :=
  vs'.length = vs.length ∧ ∀ i, (l ≤ i → i < r → ∃ t, vs'[i]? = some (.int ((x / 2 ^ (n * (i - l)) % 2 ^ n : Nat) : Int) t)) ∧ ((i < l ∨ r ≤ i) → vs'[i]? = vs[i]?)
theorem dig_one {vs : List Value} {l r n x : Nat} {t : Tok} (h : l + 1 = r) (hl : l < vs.length) (hx : x < 2 ^ (n * (r - l))) : DigSet vs (vs.set l (.int x t)) l r n x := by
  refine ⟨by simp, fun i => ⟨fun h1 h2 => ⟨t, ?_⟩, fun h1 => ?_⟩⟩
  · have : i = l := Nat.le_antisymm (Nat.le_of_lt_succ (Nat.lt_of_lt_of_eq h2 h.symm)) h1
    subst this
    rw [List.getElem?_set_self hl]
    have e : r - i = 1 := by rw [← h, Nat.add_sub_cancel_left]
    rw [e, Nat.mul_one] at hx
    rw [Nat.sub_self, Nat.mul_zero, Nat.pow_zero, Nat.div_one, Nat.mod_eq_of_lt hx]
  · rw [List.getElem?_set_ne (by omega)]
theorem low_lt {x l m n : Nat} : x % 2 ^ ((m - l) * n) < 2 ^ (n * (m - l)) := by
  rw [Nat.mul_comm n]; exact Nat.mod_lt _ (Nat.pow_pos (by decide))
theorem high_lt {x l m r n : Nat} (hx : x < 2 ^ (n * (r - l))) (h1 : l ≤ m) (h2 : m ≤ r) : x / 2 ^ ((m - l) * n) < 2 ^ (n * (r - m)) := by
  apply Nat.div_lt_of_lt_mul
  rw [← Nat.pow_add, Nat.mul_comm (m - l) n, ← Nat.mul_add]
  rw [← subSplit h1 h2]; exact hx
theorem dig_two {vs vs2 vs3 : List Value} {l m r n x : Nat} (h1 : l < m) (h2 : m < r) (d1 : DigSet vs vs2 l m n (x % 2 ^ ((m - l) * n))) (d2 : DigSet vs2 vs3 m r n (x / 2 ^ ((m - l) * n))) : DigSet vs vs3 l r n x := by
  refine ⟨d2.1.trans d1.1, fun i => ⟨fun a b => ?_, fun a => ?_⟩⟩
  · by_cases hi : i < m
    · obtain ⟨t, e⟩ := (d1.2 i).1 a hi
      refine ⟨t, ?_⟩
      rw [(d2.2 i).2 (.inl hi), e]
      congr 3
      -- (x % 2^(K)) / 2^a % 2^n = x / 2^a % 2^n, a + n ≤ K
      have hK : (m - l) * n = n * (i - l) + (n + n * (m - 1 - i)) := by
        have : m - l = (i - l) + (1 + (m - 1 - i)) := (subSplit a (Nat.le_of_lt hi)).trans (by rw [Nat.add_comm 1, subs2 hi])
        rw [this, Nat.mul_comm, Nat.mul_add, Nat.mul_add, Nat.mul_one]
      rw [hK, Nat.pow_add, Nat.mod_mul_right_div_self, Nat.pow_add, Nat.mod_mul_right_mod]
    · obtain ⟨t, e⟩ := (d2.2 i).1 (by omega) b
      refine ⟨t, ?_⟩
      rw [e]
      congr 3
      rw [Nat.div_div_eq_div_mul, ← Nat.pow_add]
      congr 3
      have : i - l = (m - l) + (i - m) := subSplit (Nat.le_of_lt h1) (by omega)
      rw [this, Nat.mul_add, Nat.mul_comm (m - l) n]
  · rw [(d2.2 i).2 (by omega), (d1.2 i).2 (by omega)]
end Mine
end
section
open PySem PySem.W PyProof.Rows PySem.Calls PySem.Spec
namespace Mine
/-- the number whose figures to the base 2^n are D l, D (l+1), .., k of them -/
def valD (D : Nat → Nat) (n : Nat) : Nat → Nat → Nat
  | _, 0 => 0
  | l, k + 1 => D l + 2 ^ n * valD D n (l + 1) k
theorem valD_add (D : Nat → Nat) (n : Nat) : ∀ (j l k : Nat), valD D n l (j + k) = valD D n l j + 2 ^ (n * j) * valD D n (l + j) k
  | 0, l, k => by simp [valD]
  | j + 1, l, k => by
    rw [show j + 1 + k = (j + k) + 1 by omega, valD, valD, valD_add D n j (l + 1) k]
    rw [show l + 1 + j = l + (j + 1) by omega, Nat.mul_add, ← Nat.mul_assoc, ← Nat.pow_add, Nat.add_assoc, show n + n * j = n * (j + 1) by rw [Nat.mul_add]; omega]
theorem valD_lt (D : Nat → Nat) (n : Nat) : ∀ (k l : Nat), (∀ i, l ≤ i → i < l + k → D i < 2 ^ n) → valD D n l k < 2 ^ (n * k)
  | 0, l, h => by simp [valD]
  | k + 1, l, h => by
    have h1 := h l (Nat.le_refl _) (by omega)
    have h2 := valD_lt D n k (l + 1) (fun i a b => h i (by omega) (by omega))
    rw [valD, show n * (k + 1) = n + n * k by rw [Nat.mul_add]; omega, Nat.pow_add]
    have h3 : valD D n (l + 1) k + 1 ≤ 2 ^ (n * k) := h2
    calc D l + 2 ^ n * valD D n (l + 1) k < 2 ^ n + 2 ^ n * valD D n (l + 1) k := by omega
      _ = 2 ^ n * (valD D n (l + 1) k + 1) := by rw [Nat.mul_add]; omega
      _ ≤ 2 ^ n * 2 ^ (n * k) := Nat.mul_le_mul_left _ h3
theorem valD_two {D : Nat → Nat} {n l m r : Nat} (h1 : l < m) (h2 : m < r) : valD D n m (r - m) * 2 ^ ((m - l) * n) + valD D n l (m - l) = valD D n l (r - l) := by
  rw [subSplit (Nat.le_of_lt h1) (Nat.le_of_lt h2), valD_add, addSub (Nat.le_of_lt h1), Nat.mul_comm (m - l) n, Nat.mul_comm _ (2 ^ _)]
  omega
theorem valD_one {D : Nat → Nat} {n l r : Nat} (h : l + 1 = r) : valD D n l (r - l) = D l := by
  rw [show r - l = 0 + 1 by omega]; simp [valD]
theorem valD_small {D : Nat → Nat} {n l r : Nat} (hn : n ≤ 4) (h : r - l ≤ 5) (hD : ∀ i, D i < 2 ^ n) : valD D n l (r - l) < 1048576 := by
  have h1 := valD_lt D n (r - l) l (fun i _ _ => hD i)
  exact Nat.lt_of_lt_of_le h1 (Nat.le_trans (Nat.pow_le_pow_right (by decide) (Nat.mul_le_mul hn h)) (by decide))
end Mine
end
section
open PySem PySem.W PyProof.Rows PySem.Calls PySem.Spec
namespace Mine
/-- an iterator at the address it: n items; the i-th is told by P; Ob tells its object ahead of the i-th -/
structure Itr (prog : Program) (w : World) (it : Addr) (n : Nat) (P : Nat → Value → Prop) (Ob : Nat → Obj → Prop) (side : Heap → Prop) : Prop where
  item : ∀ (A : Around), A.handled = none → ∀ (i : Nat) (s : Shared) (Q : Option Value → Shared → Prop) (E : Value → Shared → Prop) (o : Obj), i < n → Ob i o → s.heap.get? it = some o → side s.heap →
    (∀ v h' tk' o', P i v → Ob (i + 1) o' → h'.get? it = some o' → Keeps [it] s.heap h' → Q (some v) (St s h' tk')) → wpAny (model prog w) A (pyNext (.ref it)) Q E s
  done : ∀ (A : Around), A.handled = none → ∀ (s : Shared) (Q : Option Value → Shared → Prop) (E : Value → Shared → Prop) (o : Obj), Ob n o → s.heap.get? it = some o → side s.heap →
    (∀ h' tk', Keeps [it] s.heap h' → Q none (St s h' tk')) → wpAny (model prog w) A (pyNext (.ref it)) Q E s
theorem keeps_same {a : Addr} {h h' : Heap} (k : Heap.SameBut a h h') : Keeps [a] h h' := fun b o e nb => (k.2 b fun q => nb (List.mem_singleton.mpr q)).trans e
theorem keeps_ext {a : Addr} {h h' : Heap} (k : Heap.ExtBut a h h') : Keeps [a] h h' := fun b o e nb => k b o (fun q => nb (List.mem_singleton.mpr q)) e
def ListIt (l : Addr) (i : Nat) (o : Obj) : Prop := o.cls = .type "list_iterator" ∧ o.data = .fields #[.ref l, .int i 0]
theorem Itr.list {prog : Program} {w : World} {it l : Addr} (vs : List Value) : Itr prog w it vs.length (fun i v => vs[i]? = some v) (ListIt l) (fun h => h.IsList l vs.toArray) where
  item A hA i s Q E o hi hO ho hs h := by
    have hx : vs.toArray[i]? = some vs[i] := by simp [hi]
    refine wpAny_pyNext_list_item ⟨o, ho, hO⟩ hs hx fun h' hit hb => ?_
    obtain ⟨o', ho', hc, hd⟩ := hit
    exact h _ h' s.toks o' (by simp [hi]) ⟨hc, hd⟩ ho' (keeps_same hb)
  done A hA s Q E o hO ho hs h := wpAny_pyNext_list_end hA ⟨o, ho, hO⟩ hs (by simp) fun h' k => h h' s.toks (keeps_ext k)
def RevIt (l : Addr) (n i : Nat) (o : Obj) : Prop := o.cls = .type "list_reverseiterator" ∧ o.data = .fields #[.ref l, rawInt ((n : Int) - 1 - i)]
theorem Itr.rev {prog : Program} {w : World} {it l : Addr} (vs : List Value) : Itr prog w it vs.length (fun i v => vs[vs.length - 1 - i]? = some v) (RevIt l vs.length) (fun h => h.IsList l vs.toArray) where
  item A hA i s Q E o hi hO ho hs h := by
    have hx : vs.toArray[vs.length - 1 - i]? = some (vs[vs.length - 1 - i]'(by omega)) := by
      rw [List.getElem?_toArray, List.getElem?_eq_getElem]
    have e1 : ((vs.length : Int) - 1 - i) = ((vs.length - 1 - i : Nat) : Int) := by omega
    refine wpAny_pyNext_rev_item (i := vs.length - 1 - i) ⟨o, ho, hO.1, by rw [← e1]; exact hO.2⟩ hs hx fun h' hit hb => ?_
    obtain ⟨o', ho', hc, hd⟩ := hit
    refine h _ h' s.toks o' (by rw [List.getElem?_eq_getElem]) ⟨hc, ?_⟩ ho' (keeps_same hb)
    rw [hd]
    have e2 : ((vs.length - 1 - i : Nat) : Int) - 1 = (vs.length : Int) - 1 - ((i + 1 : Nat) : Int) := by omega
    rw [e2]
  done A hA s Q E o hO ho hs h := by
    refine wpAny_pyNext_rev_end (l := l) hA ⟨o, ho, hO.1, ?_⟩ fun h' k => h h' s.toks (keeps_ext k)
    have e1 : ((vs.length : Int) - 1 - (vs.length : Nat)) = -1 := by omega
    have := hO.2
    rw [e1] at this; exact this

section
variable {prog : Program} {w : World} {A : Around} {E : Value → Shared → Prop} {s : Shared} {env : Env} {g : Heap} {target : Expr} {body : List Stmt} {Q : Flow → Shared → Prop}
/-- a turn's end, closed to the walk -/
structure TurnEnd (P : Prop) : Prop where
  out : P
def noE : Value → Shared → Prop := fun _ _ => False
/-- what a for asks once its iterator stands -/
def LoopOk (prog : Program) (w : World) (A : Around) (env : Env) (target : Expr) (body : List Stmt) (Q : Flow → Shared → Prop) (it : Value) (s : Shared) : Prop :=
  ∃ (I : Nat → Shared → Prop) (n : Nat), I n s ∧ ∀ n s, I n s → wpAny (model prog w) A (pyNext it) (fun r s₁ => match r with
      | none => Q .next s₁
      | some v => wpAny (model prog w) A (assign target env v) (fun _ s₂ => wpAny (model prog w) A (execs body env) (fun f s₃ => match f with
          | .next | .cont => ∃ m, m < n ∧ I m s₃
          | .brk => Q .next s₃
          | .ret v => Q (.ret v) s₃) noE s₂) noE s₁) noE s
theorem forR {iter : Expr} {pos : Pos} (h : wpAny (model prog w) A (eval iter env) (fun x s₁ => wpAny (model prog w) A (pyIter x) (fun it s₂ => LoopOk prog w A env target body Q it s₂) E s₁) E s)
    (hs : ∀ x, foldedSetIterable iter env x = pure x := by intro _; rfl) (ht : ∀ it v, letOwnedTupleGo target it v = pure () := by intro _ _; rfl) :
    wpAny (model prog w) A (exec (.For target iter body [] pos) env) Q E s := by
  refine wpAny_For (wpAny_mono h (fun x s₁ h₁ => wpAny_mono h₁ (fun it s₂ h₂ => ?_) fun _ _ e => e) fun _ _ e => e) hs
  obtain ⟨I, n, hI, turn⟩ := h₂
  refine codeAny_forLoop I (fun n s hn => ?_) n hI (ht it)
  refine wpAny_mono (turn n s hn) (fun r s₁ h₁ => ?_) fun _ _ e => e.elim
  cases r with
  | none => exact wpAny_execs_nil h₁
  | some v =>
    refine wpAny_mono h₁ (fun _ s₂ h₂ => wpAny_mono h₂ (fun f s₃ h₃ => ?_) fun _ _ e => e.elim) fun _ _ e => e.elim
    cases f <;> exact h₃

/-- a loop by an invariant over the frame's names and the ledger -/
theorem loopInv {it : Addr} {n : Nat} {P : Nat → Value → Prop} {Ob : Nat → Obj → Prop} {side : Heap → Prop} (hA : A.handled = none) (W : Itr prog w it n P Ob side)
    (Inv : Nat → (Str → Option Value) → List (Addr × Obj) → Prop) {m₀ : Str → Option Value} {news₀ : List (Addr × Obj)} {o₀ : Obj}
    (hside : ∀ i m news h, Inv i m news → Fr g env.locals h m → News g env.locals h news → side h)
    (F : Fr g env.locals s.heap m₀) (N : News g env.locals s.heap ((it, o₀) :: news₀)) (hO : Ob 0 o₀) (hne : ∀ p ∈ news₀, p.1 ≠ it) (h0 : Inv 0 m₀ news₀)
    (turn : ∀ i v m news h tk o, i < n → P i v → Inv i m news → Fr g env.locals h m → News g env.locals h ((it, o) :: news) → (∀ p ∈ news, p.1 ≠ it) → ∀ J : Shared → Prop, (∀ m' news' h' tk', Fr g env.locals h' m' → News g env.locals h' ((it, o) :: news') → (∀ p ∈ news', p.1 ≠ it) → Inv (i + 1) m' news' → J (St s h' tk')) →
      wpAny (model prog w) A (assign target env v) (fun _ s₂ => wpAny (model prog w) A (execs body env) (fun f s₃ => match f with
          | .next | .cont => TurnEnd (J s₃)
          | .brk => Q .next s₃
          | .ret v => Q (.ret v) s₃) noE s₂) noE (St s h tk))
    (done : ∀ m news h tk, Inv n m news → Fr g env.locals h m → News g env.locals h news → Q .next (St s h tk)) :
    LoopOk prog w A env target body Q (.ref it) s := by
  refine ⟨fun k s' => ∃ i m news h tk o, s' = St s h tk ∧ i + k = n ∧ Fr g env.locals h m ∧ News g env.locals h ((it, o) :: news) ∧ Ob i o ∧ (∀ p ∈ news, p.1 ≠ it) ∧ Inv i m news,
    n, ⟨0, m₀, news₀, s.heap, s.toks, o₀, rfl, by omega, F, N, hO, hne, h0⟩, ?_⟩
  rintro k s' ⟨i, m, news, h, tk, o, rfl, hik, F, N, hO, hne, hi⟩
  have hit := N (it, o) (.head _)
  have hsd := hside i m news h hi F (fun q hq => N q (.tail _ hq))
  cases k with
  | zero =>
    have e : i = n := by omega
    subst e
    refine W.done A hA _ _ _ o hO hit.1 hsd fun h' tk' kp => ?_
    refine done m news h' tk' hi (fr_updU F N (.head _) kp) fun q hq => ?_
    exact ⟨kp _ _ (N q (.tail _ hq)).1 (fun z => hne q hq (List.mem_singleton.mp z)), (N q (.tail _ hq)).2⟩
  | succ k =>
    refine W.item A hA i _ _ _ o (by omega) hO hit.1 hsd fun v h' tk' o' hP hO' ho' kp => ?_
    have F' := fr_updU F N (.head _) kp
    have N' := news_upd1 N kp ho' hne
    refine wpAny_mono (turn i v m news h' tk' o' (by omega) hP hi F' N' hne (fun s₃ => ∃ m' news' h' tk', s₃ = St s h' tk' ∧ Fr g env.locals h' m' ∧ News g env.locals h' ((it, o') :: news') ∧ (∀ p ∈ news', p.1 ≠ it) ∧ Inv (i + 1) m' news') fun m' news' h' tk' a b c d => ⟨m', news', h', tk', rfl, a, b, c, d⟩) (fun _ s₂ h₂ => wpAny_mono h₂ (fun f s₃ h₃ => ?_) fun _ _ e => e) fun _ _ e => e
    have step : (∃ m' news' h'' tk'', s₃ = St s h'' tk'' ∧ Fr g env.locals h'' m' ∧ News g env.locals h'' ((it, o') :: news') ∧ (∀ p ∈ news', p.1 ≠ it) ∧ Inv (i + 1) m' news') →
        ∃ m, m < k + 1 ∧ ∃ i m_1 news h tk o, s₃ = St s h tk ∧ i + m = n ∧ Fr g env.locals h m_1 ∧ News g env.locals h ((it, o) :: news) ∧ Ob i o ∧ (∀ p ∈ news, p.1 ≠ it) ∧ Inv i m_1 news := by
      rintro ⟨m', news', h'', tk'', e, F2, N2, hne2, hI2⟩
      exact ⟨k, by omega, i + 1, m', news', h'', tk'', o', e, by omega, F2, N2, hO', hne2, hI2⟩
    cases f with
    | next => exact step h₃.out
    | cont => exact step h₃.out
    | brk => exact h₃
    | ret v => exact h₃
end
theorem lookup_in {y : Str} {v : Value} : ∀ {l : List (Str × Value)}, List.lookup y l = some v → (y, v) ∈ l
  | [], e => by cases e
  | (z, u) :: r, e => by
    rw [List.lookup_cons] at e
    cases hz : (y == z) with
    | true => rw [hz] at e; cases e; rw [eq_of_beq hz]; exact .head _
    | false => rw [hz] at e; exact .tail _ (lookup_in e)
/-- a frame whose map is known at some names, these names written out -/
theorem fr_explicit {g h : Heap} {L : Addr} {m : Str → Option Value} (l : List (Str × Value)) (F : Fr g L h m) (hl : ∀ p ∈ l, m p.1 = some p.2) :
    Fr g L h (fun y => match List.lookup y l with | some v => some v | none => m y) := by
  have e : (fun y => match List.lookup y l with | some v => some v | none => m y) = m := by
    funext y
    cases q : List.lookup y l with
    | none => rfl
    | some v => exact (hl _ (lookup_in q)).symm
  rw [e]; exact F
end Mine
end
section
open PySem PySem.W PyProof.Rows PySem.Calls PySem.Spec Mine
local macro_rules | `(tactic| k_room) => `(tactic| ((try simp only [depth_under_make, depth_under_kw, depth_in1, depth_deeper, depth_caller]); (simp only [recursionLimit]); omega))
local macro_rules | `(tactic| walk_at "fp") => `(tactic| ((repeat (refine allC ⟨by assumption, by assumption⟩ ?_)); exact List.forall_mem_nil _))
local macro_rules | `(tactic| walk_at "exec For Name Name cons nil") => `(tactic| k_dflt (refine forR ?_))
local macro_rules | `(tactic| walk_at "exec For Name Call cons nil") => `(tactic| k_dflt (refine forR ?_))
local macro_rules | `(tactic| walk_at "exec For Name BinOp cons nil") => `(tactic| k_dflt (refine forR ?_))
section
open PySem PySem.W PyProof.Rows PySem.Calls PySem.Spec
namespace Mine
section
variable {w : World} {p : Program} {loose : List Str} {mean : ExcName → Option Value} {mg mb : Str → Option Value} {G : Heap} {s : Shared} {dp un : Nat} {fr : Option (List Env)} {gd : Option (List Code)} {Q E : Value → Shared → Prop}


local macro_rules | `(tactic| walk_at "binaryOp Add int int") => `(tactic| first | with_reducible refine n_add ?_ | with_reducible refine n_add1 ?_)
local macro_rules | `(tactic| walk_at "binaryOp Sub int int") => `(tactic| (with_reducible refine n_sub (by omega) ?_))
local macro_rules | `(tactic| walk_at "binaryOp Mult int int") => `(tactic| (with_reducible refine n_mul (by omega) ?_))
local macro_rules | `(tactic| walk_at "binaryOp RShift int int") => `(tactic| with_reducible refine n_shr ?_)
local macro_rules | `(tactic| walk_at "binaryOp RShift int int") => `(tactic| (with_reducible refine n_half ?_))
local macro_rules | `(tactic| walk_at "binaryOp LShift int int") => `(tactic| k_dflt (refine n_shl (Nat.lt_of_le_of_lt (Nat.div_le_self _ _) (by omega)) (Nat.le_trans (Nat.mul_le_mul (by omega : _ ≤ 5) (by assumption : _ ≤ 4)) (by decide)) ?_))
local macro_rules | `(tactic| walk_at "binaryOp BitXor int int") => `(tactic| (with_reducible refine n_xorLow ?_))
local macro_rules | `(tactic| walk_at "setItem ref int int") => `(tactic| (k_dflt (refine' n_set ?F ?N ?hk ?hs ?U ?_; (case F => k_asm); (case N => k_asm); (case hk => omega); (case hs => omega); (case U => k_upd)); intro h' F' N'; (try k_sweep)))
set_option maxRecDepth 100000 in
set_option maxHeartbeats 8000000 in
theorem c_i2d_inner (d : Nat) : ∀ {s : Shared} {dp un : Nat} {fr : Option (List Env)} {gd : Option (List Code)} {Q E : Value → Shared → Prop} {G : Heap} {vs : List Value} {k : Nat} {x l r : Nat} {tx tl tr : Tok},
   r - l ≤ d → ∀ (hG : G.StaysIn s.heap) (X : (hd.heap_1 w.params).In G) (T : Top p loose mean mg mb G) (hdp : dp < 900) (hun : un < 9000)
   (C : CodeHd G 34 30)
   {params : Arguments} {body : List Stmt} {scope : Scope} (hb : innerAt 1 (bodyAt (hd.heap_1 w.params) 35) = some (params, body, scope))
   {f c' ca ci cn ad : Addr} {doc pm ctv : Value} {oc oca oci ocn : Obj} {tn : Tok} {vcode : Array Value} {tq : Tok} {n : Nat}
   (hf : s.heap.get? f = some (fnMade (Str.ofString "inner") (Str.ofString "_int2digits.<locals>.inner") params body scope [(Str.ofString "n", cn), (Str.ofString "inner", ci), (Str.ofString "a_digits", ca)] doc pm c' ctv))
   (hc : s.heap.get? c' = some oc) (hcd : oc.data = .fields vcode) (hcq : vcode[1]? = some (.str (Str.ofString "_int2digits.<locals>.inner") tq))
   (hca : s.heap.get? ca = some oca) (hci : s.heap.get? ci = some oci) (hcn : s.heap.get? cn = some ocn)
   (dca : oca.data = .cell (some (.ref ad))) (dci : oci.data = .cell (some (.ref f))) (dcn : ocn.data = .cell (some (.int n tn)))
   (had : s.heap.get? ad = some (listOf vs.toArray k)) 
   (gf : G.get? f = none) (gc : G.get? c' = none) (gca : G.get? ca = none) (gci : G.get? ci = none) (gcn : G.get? cn = none) (gad : G.get? ad = none)
   (ne1 : @Ne Nat ad f) (ne2 : @Ne Nat ad c') (ne3 : @Ne Nat ad ca) (ne4 : @Ne Nat ad ci) (ne5 : @Ne Nat ad cn)
   (hn1 : 2 ≤ n) (hn2 : n ≤ 4) (hx1 : x < 2 ^ (n * (r - l))) (hlr : l < r) (hr : r ≤ vs.length) (hlen : vs.length ≤ 5) (hdp2 : dp + d < 900) (hun2 : un + 4 * d < 9000)
   (ret : ∀ (h' : Heap) (tk' : Nat) (vs' : List Value) (k' : Nat), Keeps [ad] s.heap h' → h'.get? ad = some (listOf vs'.toArray k') → DigSet vs vs' l r n x → Q .none (St s h' tk')),
   wpAny (model PR w) (Ar dp un fr gd) (call (.ref f) [.int x tx, .int l tl, .int r tr]) Q E s := by
  induction d with
  | zero => intros; exact absurd (Nat.sub_eq_zero_iff_le.mp (Nat.le_zero.mp (by assumption))) (Nat.not_le_of_lt (by assumption))
  | succ d ih =>
  intro s dp un fr gd Q E G vs k x l r tx tl tr hrl hG X T hdp hun C params body scope hb f c' ca ci cn ad doc pm ctv oc oca oci ocn tn vcode tq n hf hc hcd hcq hca hci hcn dca dci dcn had gf gc gca gci gcn gad ne1 ne2 ne3 ne4 ne5 hn1 hn2 hx1 hlr hr hlen hdp2 hun2 ret
  obtain ⟨hz0, hz1, hz2, hz3, hz4, hz5, hz6, hz7, hz8⟩ := mid5 hlr hr hlen
  obtain ⟨hz9, hz10⟩ := un34 hun2
  obtain ⟨hz11, hz12⟩ := dp1 hdp2
  have hb' := hb
  have hfp : ∀ q ∈ ([(ad, listOf vs.toArray k), (ca, oca), (ci, oci), (cn, ocn), (f, fnMade (Str.ofString "inner") (Str.ofString "_int2digits.<locals>.inner") params body scope [(Str.ofString "n", cn), (Str.ofString "inner", ci), (Str.ofString "a_digits", ca)] doc pm c' ctv), (c', oc)] : List (Addr × Obj)), s.heap.get? q.1 = some q.2 ∧ G.get? q.1 = none := by walk_at "fp"
  refine with_look (K := hd.heap_1 w.params) (f := 35) (by k_dflt k_is) fun eb => ?_
  rw [eb] at hb
  simp only [innerAt, List.getElem?_cons_succ, List.getElem?_cons_zero, Option.some.injEq, Prod.mk.injEq] at hb
  obtain ⟨rfl, rfl, rfl⟩ := hb
  clear eb
  refine wpAny_call ?_
  refine enterX (binds := [((Str.ofString "x"), .int x tx), ((Str.ofString "L"), .int l tl), ((Str.ofString "R"), .int r tr)]) _ hG hfp X T hf rfl ⟨c', oc, vcode, tq, rfl, hc, hcd, hcq⟩ (by simp only [recursionLimit]; omega) (BindsTo.of_eq rfl) (locs rfl) ?_ (by decide) rfl rfl rfl
  intro g L hh Gg Xg Tg kp F N l1 ng
  replace F : Fr g L hh (fun y => List.lookup y [((Str.ofString "R"), .int r tr), ((Str.ofString "L"), .int l tl), ((Str.ofString "x"), .int x tx)]) := F
  clear X T
  (try k_lt l1)
  (try dsimp only)
  (try k_fold)
  have hx2 : x < 1048576 := by
    have a1 : n * (r - l) ≤ 4 * 5 := Nat.mul_le_mul hn2 (by omega)
    have a2 : 2 ^ (n * (r - l)) ≤ 2 ^ (4 * 5) := Nat.pow_le_pow_right (by decide) a1
    exact Nat.lt_of_lt_of_le hx1 (Nat.le_trans a2 (by decide))
  replace hx1 := Hid.mk hx1
  k_steps
  · (with_reducible rename Fr _ _ _ _ => F1); (with_reducible rename News _ _ _ _ => N1)
    exact ret _ _ (vs.set l (.int x tx)) _ (kp_keeps1 kp F1 N1 fun q hq => (hfp q (.tail _ hq)).1) (N1.get (by k_mem)) (dig_one (by omega) (by omega) hx1.out)
  · (with_reducible rename Fr _ _ _ _ => F1); (with_reducible rename News _ _ _ _ => N1)
    have hlr2 : l + 1 < r := ltOfNe (by assumption) (by assumption)
    obtain ⟨hm1, hm2⟩ := midLR hlr2
    have hq : (l + r) / 2 - l ≤ d ∧ r - (l + r) / 2 ≤ d := halves (by omega) hlr2
    obtain ⟨hq1, hq2⟩ := hq
    refine ih (G := g) (vs := vs) (k := k) (dp := dp + 1) (un := un + 3) (by omega) (fun b o e => F1.keep b o e) Xg Tg (by omega) (by omega) (C.keeps fun b o e => Gg b o e) hb' (N1.get (by k_mem)) (N1.get (by k_mem)) hcd hcq (N1.get (by k_mem)) (N1.get (by k_mem)) (N1.get (by k_mem)) dca dci dcn (N1.get (by k_mem))
      (N1.fresh (by k_mem)) (N1.fresh (by k_mem)) (N1.fresh (by k_mem)) (N1.fresh (by k_mem)) (N1.fresh (by k_mem)) (N1.fresh (by k_mem)) ne1 ne2 ne3 ne4 ne5 hn1 hn2 low_lt (by omega) (by omega) hlen (by omega) (by omega) ?_
    intro h2 tk2 vs2 k2 kp2 e2 D2
    have F2 := fr_upd1 F1 N1 kp2
    have N2 := news_upd1 N1 kp2 e2 (by k_all)
    clear F1 N1
    k_steps
    (with_reducible rename Fr _ _ _ _ => F1); (with_reducible rename News _ _ _ _ => N1)
    have hlen2 : vs2.length = vs.length := D2.1
    refine ih (G := g) (vs := vs2) (k := k2) (dp := dp + 1) (un := un + 3) (by omega) (fun b o e => F1.keep b o e) Xg Tg (by omega) (by omega) (C.keeps fun b o e => Gg b o e) hb' (N1.get (by k_mem)) (N1.get (by k_mem)) hcd hcq (N1.get (by k_mem)) (N1.get (by k_mem)) (N1.get (by k_mem)) dca dci dcn (N1.get (by k_mem))
      (N1.fresh (by k_mem)) (N1.fresh (by k_mem)) (N1.fresh (by k_mem)) (N1.fresh (by k_mem)) (N1.fresh (by k_mem)) (N1.fresh (by k_mem)) ne1 ne2 ne3 ne4 ne5 hn1 hn2 (high_lt hx1.out (by omega) (by omega)) (by omega) (by omega) (by omega) (by omega) (by omega) ?_
    intro h3 tk3 vs3 k3 kp3 e3 D3
    have F3 := fr_upd1 F1 N1 kp3
    have N3 := news_upd1 N1 kp3 e3 (by k_all)
    clear F1 N1
    k_steps
    (with_reducible rename Fr _ _ _ _ => F1); (with_reducible rename News _ _ _ _ => N1)
    exact ret _ _ vs3 _ (kp_keeps1 kp F1 N1 fun q hq => (hfp q (.tail _ hq)).1) (N1.get (by k_mem)) (dig_two (by omega) (by omega) D2 D3)
end
end Mine
end
section
open PySem PySem.W PyProof.Rows PySem.Calls PySem.Spec
namespace Mine
section
variable {w : World} {p : Program} {loose : List Str} {mean : ExcName → Option Value} {mg mb : Str → Option Value} {G : Heap} {s : Shared} {dp un : Nat} {fr : Option (List Env)} {gd : Option (List Code)} {Q E : Value → Shared → Prop}
set_option maxRecDepth 100000 in
set_option maxHeartbeats 8000000 in
theorem c_int2digits (hG : G.StaysIn s.heap) (X : (hd.heap_1 w.params).In G) (T : Top p loose mean mg mb G) (hdp : dp < 800) (hun : un < 8000)
   (C : CodeHd G 34 30) {tl : List (Addr × Obj)} (Tl : TabLed 30 ⟨32, 4, 41, 28⟩ (Str.ofString "_int2digits.<locals>.inner") tl) (htl : ∀ q ∈ tl, s.heap.get? q.1 = some q.2 ∧ G.get? q.1 = none)
   {a n : Nat} {ta tn : Tok} (ha : a < 512) (hn1 : 2 ≤ n) (hn2 : n ≤ 4)
   (ret : ∀ (h' : Heap) (tk' : Nat) (ad : Addr) (vs' : List Value) (k' : Nat) (tl' : List (Addr × Obj)), Keeps [30] s.heap h' → s.heap.get? ad = none → h'.get? ad = some (listOf vs'.toArray k') → TabLed 30 ⟨32, 4, 41, 28⟩ (Str.ofString "_int2digits.<locals>.inner") tl' → (∀ q ∈ tl', h'.get? q.1 = some q.2 ∧ G.get? q.1 = none) →
      vs'.length ≤ 5 → a < 2 ^ (n * vs'.length) → (∀ i, i < vs'.length → ∃ t, vs'[i]? = some (.int ((a / 2 ^ (n * i) % 2 ^ n : Nat) : Int) t)) → Q (.ref ad) (St s h' tk')) :
   wpAny (model PR w) (Ar dp un fr gd) (call (.ref 35) [.int a ta, .int n tn]) Q E s := by
  have hb9 := bits_le (a := a) (m := 9) ha
  have hbn : ∀ bb : Nat, ((bb : Int) + n - 1) = ((bb + n - 1 : Nat) : Int) := fun bb => (Int.ofNat_sub (Nat.le_trans (by decide : 1 ≤ 2) (Nat.le_trans hn1 (Nat.le_add_left _ _)))).symm
  have hba := bits_lt a
  have hbp : a ≠ 0 → 1 ≤ Builtin.Int.intBits (a : Int) := bits_pos
  have hb0 : a = 0 → Builtin.Int.intBits (a : Int) = 0 := fun e => by subst e; rfl
  generalize hbb : Builtin.Int.intBits (a : Int) = bb at hb9 hba hbp hb0
  obtain ⟨K, hKe⟩ : ∃ K, K = (bb + n - 1) / n := ⟨_, rfl⟩
  have hK5 : K ≤ 5 := by rw [hKe]; exact Nat.div_le_of_le_mul (by omega)
  have hKn : bb ≤ n * K := by
    have h1 := Nat.div_add_mod (bb + n - 1) n
    have h2 := Nat.mod_lt (bb + n - 1) (show 0 < n by omega)
    rw [← hKe] at h1
    omega
  have hK1 : a ≠ 0 → 1 ≤ K := fun h => by
    have := hbp h
    cases K with
    | zero => omega
    | succ k => omega
  have hK0 : a = 0 → K = 0 := fun h => by
    rw [hKe, hb0 h]; exact Nat.div_eq_of_lt (by omega)
  have hKa : Hid (a < 2 ^ (n * K)) := ⟨Nat.lt_of_lt_of_le hba (Nat.pow_le_pow_right (by decide) hKn)⟩
  replace hba := Hid.mk hba
  replace hKn := Hid.mk hKn
  refine wpAny_call ?_
  cases Tl with
  | nil =>
    k_dflt (refine' enterC (binds := [((Str.ofString "a"), .int a ta), ((Str.ofString "n"), .int n tn)]) [(30, tabObj #[])] hG htl X T ?k6 ?k7 ?k8 ?k9 ?kB ?kD ?m ?c2 ?c3 ?c4; (case k6 => k_is); (case k7 => k_is); (case k8 => (simp only [recursionLimit]; omega)); (case k9 => exact BindsTo.of_eq rfl); (case kB => exact rfl); (case kD => decide); (case c2 => exact rfl); (case c3 => exact rfl); (case c4 => exact rfl))
    intro g L hh tk cells Gg Xg Tg kp F N Y l1 ng
    clear X T
    have hY := CellsAre.three Y
    obtain ⟨o1, o2, o3, hE, d1, d2, d3⟩ := hY
    subst hE
    clear Y
    (try k_lt l1)
    (try dsimp only [List.nil_append, List.cons_append] at N)
    (try dsimp only)
    (try k_fold)
    have Cg : CodeHd g 34 30 := C.keeps fun b o e => Gg b o e
    k_steps
    (with_reducible rename Fr _ _ _ _ => F1); (with_reducible rename News _ _ _ _ => N1)
    refine n_rep (K := K) F1 N1 (by k_mem) ?_ ?_ ?_
    · rw [hbb, hKe, Int.fdiv_eq_ediv_of_nonneg _ (by omega)]
      rw [hbn]
      rfl
    · omega
    intro l2 h2 F2 N2 m2
    k_lt m2
    clear F1 N1
    k_steps
    · (with_reducible rename Fr _ _ _ _ => F1); (with_reducible rename News _ _ _ _ => N1)
      refine n_len N1 (by k_mem) ?_ ?_
      · simp; omega
      k_steps
      (with_reducible rename Fr _ _ _ _ => F1); (with_reducible rename News _ _ _ _ => N1)
      refine c_i2d_inner 5 (l := 0) (r := (List.replicate K _).length) (G := g) (dp := dp + 1) (un := un + 3) ?_ (fun b o e => F1.keep b o e) Xg Tg (by omega) (by omega) Cg (body := _) rfl (N1.get (by k_mem)) (N1.get (by k_mem)) (by assumption) (by assumption) (N1.get (by k_mem)) (N1.get (by k_mem)) (N1.get (by k_mem)) (by assumption) (by assumption) (by assumption) (N1.get (by k_mem))
        (N1.fresh (by k_mem)) (N1.fresh (by k_mem)) (N1.fresh (by k_mem)) (N1.fresh (by k_mem)) (N1.fresh (by k_mem)) (N1.fresh (by k_mem)) (by k_ne) (by k_ne) (by k_ne) (by k_ne) (by k_ne) hn1 hn2 ?_ ?_ ?_ ?_ ?_ ?_ ?_
      · simp; omega
      · simpa using hKa.out
      · have := hK1 (by omega)
        simp; omega
      · exact Nat.le_refl _
      · simp; omega
      · omega
      · omega
      intro h3 tk3 vs3 k3 kp3 e3 D3
      have F3 := fr_updU F1 N1 (by k_mem) kp3
      have N3 := news_updU N1 (by k_upd) kp3 e3
      clear F1 N1
      k_steps
      (with_reducible rename Fr _ _ _ _ => F1); (with_reducible rename News _ _ _ _ => N1)
      have t30 := N1.get (a := 30) (by k_mem)
      rw [Array.empty_append] at t30
      have D1 := D3.1
      rw [List.length_replicate] at D1
      obtain ⟨tl', Tl', htl'⟩ := tab_done (pos := ⟨32, 4, 41, 28⟩) t30 (N1.get (by k_mem)) (by assumption) (by assumption) (by k_ne) (htl _ (.head _)).2 (g_none Gg (N1.fresh (by k_mem)))
      exact ret _ _ l2 vs3 k3 _ (kp_keeps kp F1) (kp_fresh kp N1 (by k_mem) (fun q => absurd (List.mem_singleton.mp q) (by k_ne))) (N1.get (by k_mem)) Tl' htl' (by omega) (by rw [D1]; exact hKa.out) (fun i hi => (D3.2 i).1 (Nat.zero_le _) (by rw [List.length_replicate]; omega))
    · (with_reducible rename Fr _ _ _ _ => F1); (with_reducible rename News _ _ _ _ => N1)
      have t30 := N1.get (a := 30) (by k_mem)
      rw [Array.empty_append] at t30
      have a0 : a = 0 := by omega
      obtain ⟨tl', Tl', htl'⟩ := tab_done (pos := ⟨32, 4, 41, 28⟩) t30 (N1.get (by k_mem)) (by assumption) (by assumption) (by k_ne) (htl _ (.head _)).2 (g_none Gg (N1.fresh (by k_mem)))
      exact ret _ _ l2 (List.replicate K _) 0 _ (kp_keeps kp F1) (kp_fresh kp N1 (by k_mem) (fun q => absurd (List.mem_singleton.mp q) (by k_ne))) (N1.get (by k_mem)) Tl' htl' (by simp; omega) (by simpa using hKa.out) (fun i hi => by rw [List.length_replicate, hK0 a0] at hi; omega)
  | @one c' oc vcode tq dc1 dc2 nec =>
    k_dflt (refine' enterC (binds := [((Str.ofString "a"), .int a ta), ((Str.ofString "n"), .int n tn)]) _ hG htl X T ?zk6 ?zk7 ?zk8 ?zk9 ?zkB ?zkD ?zm ?zc2 ?zc3 ?zc4; (case zk6 => k_is); (case zk7 => k_is); (case zk8 => (simp only [recursionLimit]; omega)); (case zk9 => exact BindsTo.of_eq rfl); (case zkB => exact rfl); (case zkD => decide); (case zc2 => exact rfl); (case zc3 => exact rfl); (case zc4 => exact rfl))
    intro g L hh tk cells Gg Xg Tg kp F N Y l1 ng
    clear X T
    have hY := CellsAre.three Y
    obtain ⟨o1, o2, o3, hE, d1, d2, d3⟩ := hY
    subst hE
    clear Y
    (try k_lt l1)
    (try dsimp only [List.nil_append, List.cons_append] at N)
    (try dsimp only)
    (try k_fold)
    have Cg : CodeHd g 34 30 := C.keeps fun b o e => Gg b o e
    k_steps
    (with_reducible rename Fr _ _ _ _ => F1); (with_reducible rename News _ _ _ _ => N1)
    refine n_rep (K := K) F1 N1 (by k_mem) ?_ ?_ ?_
    · rw [hbb, hKe, Int.fdiv_eq_ediv_of_nonneg _ (by omega)]
      rw [hbn]
      rfl
    · omega
    intro l2 h2 F2 N2 m2
    k_lt m2
    clear F1 N1
    k_steps
    · (with_reducible rename Fr _ _ _ _ => F1); (with_reducible rename News _ _ _ _ => N1)
      refine n_len N1 (by k_mem) ?_ ?_
      · simp; omega
      k_steps
      (with_reducible rename Fr _ _ _ _ => F1); (with_reducible rename News _ _ _ _ => N1)
      refine c_i2d_inner 5 (l := 0) (r := (List.replicate K _).length) (G := g) (dp := dp + 1) (un := un + 3) ?_ (fun b o e => F1.keep b o e) Xg Tg (by omega) (by omega) Cg (body := _) rfl (N1.get (by k_mem)) (N1.get (by k_mem)) (by assumption) (by assumption) (N1.get (by k_mem)) (N1.get (by k_mem)) (N1.get (by k_mem)) (by assumption) (by assumption) (by assumption) (N1.get (by k_mem))
        (N1.fresh (by k_mem)) (N1.fresh (by k_mem)) (N1.fresh (by k_mem)) (N1.fresh (by k_mem)) (N1.fresh (by k_mem)) (N1.fresh (by k_mem)) (by k_ne) (by k_ne) (by k_ne) (by k_ne) (by k_ne) hn1 hn2 ?_ ?_ ?_ ?_ ?_ ?_ ?_
      · simp; omega
      · simpa using hKa.out
      · have := hK1 (by omega)
        simp; omega
      · exact Nat.le_refl _
      · simp; omega
      · omega
      · omega
      intro h3 tk3 vs3 k3 kp3 e3 D3
      have F3 := fr_updU F1 N1 (by k_mem) kp3
      have N3 := news_updU N1 (by k_upd) kp3 e3
      clear F1 N1
      k_steps
      (with_reducible rename Fr _ _ _ _ => F1); (with_reducible rename News _ _ _ _ => N1)
      have t30 := N1.get (a := 30) (by k_mem)
      have D1 := D3.1
      rw [List.length_replicate] at D1
      obtain ⟨tl', Tl', htl'⟩ := tab_done (pos := ⟨32, 4, 41, 28⟩) t30 (N1.get (by k_mem)) (by assumption) (by assumption) (by k_ne) (htl _ (.head _)).2 (g_none Gg (N1.fresh (by k_mem)))
      exact ret _ _ l2 vs3 k3 _ (kp_keeps1 kp F1 (allC (N1 _ (by k_mem)) (allC (N1 _ (by k_mem)) (List.forall_mem_nil _))) (fun q hq => (htl q (.tail _ hq)).1)) (kp_fresh kp N1 (by k_mem) (fun q => (List.mem_cons.mp q).elim (fun q => absurd q (by k_ne)) fun q => absurd (List.mem_singleton.mp q) (by k_ne))) (N1.get (by k_mem)) Tl' htl' (by omega) (by rw [D1]; exact hKa.out) (fun i hi => (D3.2 i).1 (Nat.zero_le _) (by rw [List.length_replicate]; omega))
    · (with_reducible rename Fr _ _ _ _ => F1); (with_reducible rename News _ _ _ _ => N1)
      have t30 := N1.get (a := 30) (by k_mem)
      have a0 : a = 0 := by omega
      obtain ⟨tl', Tl', htl'⟩ := tab_done (pos := ⟨32, 4, 41, 28⟩) t30 (N1.get (by k_mem)) (by assumption) (by assumption) (by k_ne) (htl _ (.head _)).2 (g_none Gg (N1.fresh (by k_mem)))
      exact ret _ _ l2 (List.replicate K _) 0 _ (kp_keeps1 kp F1 (allC (N1 _ (by k_mem)) (allC (N1 _ (by k_mem)) (List.forall_mem_nil _))) (fun q hq => (htl q (.tail _ hq)).1)) (kp_fresh kp N1 (by k_mem) (fun q => (List.mem_cons.mp q).elim (fun q => absurd q (by k_ne)) fun q => absurd (List.mem_singleton.mp q) (by k_ne))) (N1.get (by k_mem)) Tl' htl' (by simp; omega) (by simpa using hKa.out) (fun i hi => by rw [List.length_replicate, hK0 a0] at hi; omega)
end
end Mine
end
section
open PySem PySem.W PyProof.Rows PySem.Calls PySem.Spec
namespace Mine
section
variable {w : World} {p : Program} {loose : List Str} {mean : ExcName → Option Value} {mg mb : Str → Option Value} {G : Heap} {s : Shared} {dp un : Nat} {fr : Option (List Env)} {gd : Option (List Code)} {Q E : Value → Shared → Prop}

local macro_rules | `(tactic| walk_at "binaryOp Add int int") => `(tactic| first | with_reducible refine n_add ?_ | with_reducible refine n_add1 ?_)
local macro_rules | `(tactic| walk_at "binaryOp Sub int int") => `(tactic| (with_reducible refine n_sub (by omega) ?_))
local macro_rules | `(tactic| walk_at "binaryOp Mult int int") => `(tactic| (with_reducible refine n_mul (by omega) ?_))
local macro_rules | `(tactic| walk_at "binaryOp RShift int int") => `(tactic| (with_reducible refine n_half ?_))
local macro_rules | `(tactic| walk_at "binaryOp LShift int int") => `(tactic| (with_reducible refine n_shl (by omega) (Nat.le_trans (Nat.mul_le_mul (by omega : _ ≤ 5) (by assumption : _ ≤ 4)) (by decide)) ?_))
local macro_rules | `(tactic| walk_at "subscriptTail") => `(tactic| (refine Halt.out ?_))
set_option maxRecDepth 100000 in
set_option maxHeartbeats 8000000 in
theorem c_d2i_inner (d : Nat) : ∀ {s : Shared} {dp un : Nat} {fr : Option (List Env)} {gd : Option (List Code)} {Q E : Value → Shared → Prop} {G : Heap} {l r : Nat} {tl tr : Tok},
   r - l ≤ d → ∀ (hG : G.StaysIn s.heap) (X : (hd.heap_1 w.params).In G) (T : Top p loose mean mg mb G) (hdp : dp < 900) (hun : un < 9000)
   (C : CodeHd G 41 37)
   {params : Arguments} {body : List Stmt} {scope : Scope} (hb : innerAt 0 (bodyAt (hd.heap_1 w.params) 42) = some (params, body, scope))
   {f c' ca ci cn ad : Addr} {doc pm ctv : Value} {oc oca oci ocn : Obj} {tn : Tok} {vcode : Array Value} {tq : Tok} {n : Nat} {vs : List Value} {k : Nat} {D : Nat → Nat}
   (hf : s.heap.get? f = some (fnMade (Str.ofString "inner") (Str.ofString "_digits2int.<locals>.inner") params body scope [(Str.ofString "n", cn), (Str.ofString "inner", ci), (Str.ofString "digits", ca)] doc pm c' ctv))
   (hc : s.heap.get? c' = some oc) (hcd : oc.data = .fields vcode) (hcq : vcode[1]? = some (.str (Str.ofString "_digits2int.<locals>.inner") tq))
   (hca : s.heap.get? ca = some oca) (hci : s.heap.get? ci = some oci) (hcn : s.heap.get? cn = some ocn)
   (dca : oca.data = .cell (some (.ref ad))) (dci : oci.data = .cell (some (.ref f))) (dcn : ocn.data = .cell (some (.int n tn)))
   (had : s.heap.get? ad = some (listOf vs.toArray k)) 
   (gf : G.get? f = none) (gc : G.get? c' = none) (gca : G.get? ca = none) (gci : G.get? ci = none) (gcn : G.get? cn = none) (gad : G.get? ad = none)
   (hn1 : 2 ≤ n) (hn2 : n ≤ 4) (hvs : ∀ i, i < vs.length → ∃ t, vs[i]? = some (.int (D i : Nat) t)) (hD : ∀ i, D i < 2 ^ n) (hlr : l < r) (hr : r ≤ vs.length) (hlen : vs.length ≤ 5) (hdp2 : dp + d < 900) (hun2 : un + 4 * d < 9000)
   (ret : ∀ (h' : Heap) (tk' : Nat) (t : Tok), Keeps [] s.heap h' → Q (.int (valD D n l (r - l) : Nat) t) (St s h' tk')),
   wpAny (model PR w) (Ar dp un fr gd) (call (.ref f) [.int l tl, .int r tr]) Q E s := by
  induction d with
  | zero => intros; exact absurd (Nat.sub_eq_zero_iff_le.mp (Nat.le_zero.mp (by assumption))) (Nat.not_le_of_lt (by assumption))
  | succ d ih =>
  intro s dp un fr gd Q E G l r tl tr hrl hG X T hdp hun C params body scope hb f c' ca ci cn ad doc pm ctv oc oca oci ocn tn vcode tq n vs k D hf hc hcd hcq hca hci hcn dca dci dcn had gf gc gca gci gcn gad hn1 hn2 hvs hD hlr hr hlen hdp2 hun2 ret
  replace hD := Hid.mk hD
  obtain ⟨hz0, hz1, hz2, hz3, hz4, hz5, hz6, hz7, hz8⟩ := mid5 hlr hr hlen
  obtain ⟨hz9, hz10⟩ := un34 hun2
  obtain ⟨hz11, hz12⟩ := dp1 hdp2
  have hb' := hb
  have hfp : ∀ q ∈ ([(ad, listOf vs.toArray k), (ca, oca), (ci, oci), (cn, ocn), (f, fnMade (Str.ofString "inner") (Str.ofString "_digits2int.<locals>.inner") params body scope [(Str.ofString "n", cn), (Str.ofString "inner", ci), (Str.ofString "digits", ca)] doc pm c' ctv), (c', oc)] : List (Addr × Obj)), s.heap.get? q.1 = some q.2 ∧ G.get? q.1 = none := by walk_at "fp"
  refine with_look (K := hd.heap_1 w.params) (f := 42) (by k_dflt k_is) fun eb => ?_
  rw [eb] at hb
  simp only [innerAt, List.getElem?_cons_zero, Option.some.injEq, Prod.mk.injEq] at hb
  obtain ⟨rfl, rfl, rfl⟩ := hb
  clear eb
  refine wpAny_call ?_
  refine enterX (binds := [((Str.ofString "L"), .int l tl), ((Str.ofString "R"), .int r tr)]) _ hG hfp X T hf rfl ⟨c', oc, vcode, tq, rfl, hc, hcd, hcq⟩ (by simp only [recursionLimit]; omega) (BindsTo.of_eq rfl) (locs rfl) ?_ (by decide) rfl rfl rfl
  intro g L hh Gg Xg Tg kp F N l1 ng
  replace F : Fr g L hh (fun y => List.lookup y [((Str.ofString "R"), .int r tr), ((Str.ofString "L"), .int l tl)]) := F
  clear X T
  (try k_lt l1)
  (try dsimp only)
  (try k_fold)
  k_steps
  · (with_reducible rename Fr _ _ _ _ => F1); (with_reducible rename News _ _ _ _ => N1)
    obtain ⟨t, et⟩ := hvs l (by omega)
    refine ⟨?_⟩
    refine n_item N1 (by k_mem) et (by omega) ?_
    k_steps
    have kk : Keeps [] s.heap _ := kp_same kp F1 N1 fun q hq => (hfp q hq).1
    have e : l + 1 = r := Int.ofNat.inj (by assumption)
    rw [← valD_one (D := D) (n := n) e]
    exact ret _ _ t kk
  · (with_reducible rename Fr _ _ _ _ => F1); (with_reducible rename News _ _ _ _ => N1)
    have hlr2 : l + 1 < r := ltOfNe (by assumption) (by assumption)
    obtain ⟨hm1, hm2⟩ := midLR hlr2
    have hq : (l + r) / 2 - l ≤ d ∧ r - (l + r) / 2 ≤ d := halves (by omega) hlr2
    obtain ⟨hq1, hq2⟩ := hq
    refine ih (G := g) (dp := dp + 1) (un := un + 3) (by omega) (fun b o e => F1.keep b o e) Xg Tg (by omega) (by omega) (C.keeps fun b o e => Gg b o e) hb' (N1.get (by k_mem)) (N1.get (by k_mem)) hcd hcq (N1.get (by k_mem)) (N1.get (by k_mem)) (N1.get (by k_mem)) dca dci dcn (N1.get (by k_mem))
      (N1.fresh (by k_mem)) (N1.fresh (by k_mem)) (N1.fresh (by k_mem)) (N1.fresh (by k_mem)) (N1.fresh (by k_mem)) (N1.fresh (by k_mem)) hn1 hn2 hvs hD.out (by omega) (by omega) hlen (by omega) (by omega) ?_
    intro h2 tk2 t2 kp2
    have F2 := after_fr F1 kp2 (List.forall_mem_nil _)
    have N2 := news_same N1 kp2
    have hv := valD_small (D := D) (n := n) (l := (l + r) / 2) (r := r) hn2 (by omega) hD.out
    obtain ⟨v1, hv1⟩ : ∃ v, v = valD D n ((l + r) / 2) (r - (l + r) / 2) := ⟨_, rfl⟩
    rw [← hv1] at hv ⊢
    clear F1 N1
    k_steps
    (with_reducible rename Fr _ _ _ _ => F1); (with_reducible rename News _ _ _ _ => N1)
    refine ih (G := g) (dp := dp + 1) (un := un + 3) (by omega) (fun b o e => F1.keep b o e) Xg Tg (by omega) (by omega) (C.keeps fun b o e => Gg b o e) hb' (N1.get (by k_mem)) (N1.get (by k_mem)) hcd hcq (N1.get (by k_mem)) (N1.get (by k_mem)) (N1.get (by k_mem)) dca dci dcn (N1.get (by k_mem))
      (N1.fresh (by k_mem)) (N1.fresh (by k_mem)) (N1.fresh (by k_mem)) (N1.fresh (by k_mem)) (N1.fresh (by k_mem)) (N1.fresh (by k_mem)) hn1 hn2 hvs hD.out (by omega) (by omega) hlen (by omega) (by omega) ?_
    intro h3 tk3 t3 kp3
    have F3 := after_fr F1 kp3 (List.forall_mem_nil _)
    have N3 := news_same N1 kp3
    clear F1 N1
    k_steps
    (with_reducible rename Fr _ _ _ _ => F1); (with_reducible rename News _ _ _ _ => N1)
    have kk : Keeps [] s.heap _ := kp_same kp F1 N1 fun q hq => (hfp q hq).1
    rw [hv1, valD_two (by omega) (by omega)]
    exact ret _ _ _ kk
end
end Mine
end
section
open PySem PySem.W PyProof.Rows PySem.Calls PySem.Spec
namespace Mine
section
variable {w : World} {p : Program} {loose : List Str} {mean : ExcName → Option Value} {mg mb : Str → Option Value} {G : Heap} {s : Shared} {dp un : Nat} {fr : Option (List Env)} {gd : Option (List Code)} {Q E : Value → Shared → Prop}
set_option maxRecDepth 100000 in
set_option maxHeartbeats 8000000 in
theorem c_digits2int (hG : G.StaysIn s.heap) (X : (hd.heap_1 w.params).In G) (T : Top p loose mean mg mb G) (hdp : dp < 800) (hun : un < 8000)
   (C : CodeHd G 41 37) {tl : List (Addr × Obj)} (Tl : TabLed 37 ⟨47, 4, 52, 55⟩ (Str.ofString "_digits2int.<locals>.inner") tl) (htl : ∀ q ∈ tl, s.heap.get? q.1 = some q.2 ∧ G.get? q.1 = none)
   {ad : Addr} {vs : List Value} {k n : Nat} {tn : Tok} {D : Nat → Nat} (had : s.heap.get? ad = some (listOf vs.toArray k)) (gad : G.get? ad = none) (hat : ∀ q ∈ tl, q.1 ≠ ad)
   (hn1 : 2 ≤ n) (hn2 : n ≤ 4) (hvs : ∀ i, i < vs.length → ∃ t, vs[i]? = some (.int (D i : Nat) t)) (hD : ∀ i, D i < 2 ^ n) (hlen : vs.length ≤ 5)
   (ret : ∀ (h' : Heap) (tk' : Nat) (t : Tok) (tl' : List (Addr × Obj)), Keeps [37] s.heap h' → TabLed 37 ⟨47, 4, 52, 55⟩ (Str.ofString "_digits2int.<locals>.inner") tl' → (∀ q ∈ tl', h'.get? q.1 = some q.2 ∧ G.get? q.1 = none) →
      Q (.int (valD D n 0 vs.length : Nat) t) (St s h' tk')) :
   wpAny (model PR w) (Ar dp un fr gd) (call (.ref 42) [.ref ad, .int n tn]) Q E s := by
  replace hD := Hid.mk hD
  refine wpAny_call ?_
  cases Tl with
  | nil =>
    have hfp : ∀ q ∈ ([(ad, listOf vs.toArray k), (37, tabObj #[])] : List (Addr × Obj)), s.heap.get? q.1 = some q.2 ∧ G.get? q.1 = none := allC ⟨had, gad⟩ htl
    have na : @Ne Nat 37 ad := hat _ (.head _)
    k_dflt (refine' enterC (binds := [((Str.ofString "digits"), .ref ad), ((Str.ofString "n"), .int n tn)]) _ hG hfp X T ?k6 ?k7 ?k8 ?k9 ?kB ?kD ?km ?kc2 ?kc3 ?kc4; (case k6 => k_is); (case k7 => k_is); (case k8 => (simp only [recursionLimit]; omega)); (case k9 => exact BindsTo.of_eq rfl); (case kB => exact rfl); (case kD => decide); (case kc2 => exact rfl); (case kc3 => exact rfl); (case kc4 => exact rfl))
    intro g L hh tk cells Gg Xg Tg kp F N Y l1 ng
    clear X T
    have hY := CellsAre.three Y
    obtain ⟨o1, o2, o3, hE, d1, d2, d3⟩ := hY
    subst hE
    clear Y
    (try k_lt l1)
    (try dsimp only [List.nil_append, List.cons_append] at N)
    (try dsimp only)
    (try k_fold)
    have Cg : CodeHd g 41 37 := C.keeps fun b o e => Gg b o e
    k_steps
    · (with_reducible rename Fr _ _ _ _ => F1); (with_reducible rename News _ _ _ _ => N1)
      have v0 : vs.length = 0 := by simpa using (by assumption : vs.isEmpty = true)
      have t37 := N1.get (a := 37) (by k_mem)
      (try rw [Array.empty_append] at t37)
      obtain ⟨tl', Tl', htl'⟩ := tab_done (pos := ⟨47, 4, 52, 55⟩) t37 (N1.get (by k_mem)) (by assumption) (by assumption) (by k_ne) (htl _ (.head _)).2 (g_none Gg (N1.fresh (by k_mem)))
      have kk : Keeps [37] s.heap _ := kp_on kp F1 (allC (.inr ⟨had, N1.get (by k_mem)⟩) (allC (.inl (.head _)) (List.forall_mem_nil _)))
      rw [v0] at ret
      exact ret _ _ _ tl' kk Tl' htl'
    · (with_reducible rename Fr _ _ _ _ => F1); (with_reducible rename News _ _ _ _ => N1)
      have v0 : 0 < vs.length := by
        have : vs ≠ [] := by simpa using (by assumption : vs.isEmpty = false)
        exact List.length_pos_iff.mpr this
      refine n_len N1 (by k_mem) (by omega) ?_
      k_steps
      refine c_d2i_inner 5 (l := 0) (r := vs.length) (G := g) (dp := dp + 1) (un := un + 3) (by omega) (fun b o e => F1.keep b o e) Xg Tg (by omega) (by omega) Cg (body := _) rfl (N1.get (by k_mem)) (N1.get (by k_mem)) (by assumption) (by assumption) (N1.get (by k_mem)) (N1.get (by k_mem)) (N1.get (by k_mem)) (by assumption) (by assumption) (by assumption) (N1.get (by k_mem))
        (N1.fresh (by k_mem)) (N1.fresh (by k_mem)) (N1.fresh (by k_mem)) (N1.fresh (by k_mem)) (N1.fresh (by k_mem)) (N1.fresh (by k_mem)) hn1 hn2 hvs hD.out v0 (Nat.le_refl _) hlen (by omega) (by omega) ?_
      intro h3 tk3 t3 kp3
      have F3 := after_fr F1 kp3 (List.forall_mem_nil _)
      have N3 := news_same N1 kp3
      clear F1 N1
      k_steps
      (with_reducible rename Fr _ _ _ _ => F1); (with_reducible rename News _ _ _ _ => N1)
      have t37 := N1.get (a := 37) (by k_mem)
      (try rw [Array.empty_append] at t37)
      obtain ⟨tl', Tl', htl'⟩ := tab_done (pos := ⟨47, 4, 52, 55⟩) t37 (N1.get (by k_mem)) (by assumption) (by assumption) (by k_ne) (htl _ (.head _)).2 (g_none Gg (N1.fresh (by k_mem)))
      have kk : Keeps [37] s.heap _ := kp_on kp F1 (allC (.inr ⟨had, N1.get (by k_mem)⟩) (allC (.inl (.head _)) (List.forall_mem_nil _)))
      exact ret _ _ _ tl' kk Tl' htl'
  | @one c' oc vcode tq dc1 dc2 nec =>
    have hfp : ∀ q ∈ ([(ad, listOf vs.toArray k), (37, tabObj #[rawInt ((⟨47, 4, 52, 55⟩ : Pos).line), rawInt ((⟨47, 4, 52, 55⟩ : Pos).col), .ref c']), (c', oc)] : List (Addr × Obj)), s.heap.get? q.1 = some q.2 ∧ G.get? q.1 = none := allC ⟨had, gad⟩ htl
    have na : @Ne Nat 37 ad := hat _ (.head _)
    have na2 : @Ne Nat c' ad := hat _ (.tail _ (.head _))
    k_dflt (refine' enterC (binds := [((Str.ofString "digits"), .ref ad), ((Str.ofString "n"), .int n tn)]) _ hG hfp X T ?z6 ?z7 ?z8 ?z9 ?zB ?zD ?zm ?zc2 ?zc3 ?zc4; (case z6 => k_is); (case z7 => k_is); (case z8 => (simp only [recursionLimit]; omega)); (case z9 => exact BindsTo.of_eq rfl); (case zB => exact rfl); (case zD => decide); (case zc2 => exact rfl); (case zc3 => exact rfl); (case zc4 => exact rfl))
    intro g L hh tk cells Gg Xg Tg kp F N Y l1 ng
    clear X T
    have hY := CellsAre.three Y
    obtain ⟨o1, o2, o3, hE, d1, d2, d3⟩ := hY
    subst hE
    clear Y
    (try k_lt l1)
    (try dsimp only [List.nil_append, List.cons_append] at N)
    (try dsimp only)
    (try k_fold)
    have Cg : CodeHd g 41 37 := C.keeps fun b o e => Gg b o e
    k_steps
    · (with_reducible rename Fr _ _ _ _ => F1); (with_reducible rename News _ _ _ _ => N1)
      have v0 : vs.length = 0 := by simpa using (by assumption : vs.isEmpty = true)
      have t37 := N1.get (a := 37) (by k_mem)
      (try rw [Array.empty_append] at t37)
      obtain ⟨tl', Tl', htl'⟩ := tab_done (pos := ⟨47, 4, 52, 55⟩) t37 (N1.get (by k_mem)) (by assumption) (by assumption) (by k_ne) (htl _ (.head _)).2 (g_none Gg (N1.fresh (by k_mem)))
      have kk : Keeps [37] s.heap _ := kp_on kp F1 (allC (.inr ⟨had, N1.get (by k_mem)⟩) (allC (.inl (.head _)) (allC (.inr ⟨(htl _ (.tail _ (.head _))).1, N1.get (by k_mem)⟩) (List.forall_mem_nil _))))
      rw [v0] at ret
      exact ret _ _ _ tl' kk Tl' htl'
    · (with_reducible rename Fr _ _ _ _ => F1); (with_reducible rename News _ _ _ _ => N1)
      have v0 : 0 < vs.length := by
        have : vs ≠ [] := by simpa using (by assumption : vs.isEmpty = false)
        exact List.length_pos_iff.mpr this
      refine n_len N1 (by k_mem) (by omega) ?_
      k_steps
      refine c_d2i_inner 5 (l := 0) (r := vs.length) (G := g) (dp := dp + 1) (un := un + 3) (by omega) (fun b o e => F1.keep b o e) Xg Tg (by omega) (by omega) Cg (body := _) rfl (N1.get (by k_mem)) (N1.get (by k_mem)) (by assumption) (by assumption) (N1.get (by k_mem)) (N1.get (by k_mem)) (N1.get (by k_mem)) (by assumption) (by assumption) (by assumption) (N1.get (by k_mem))
        (N1.fresh (by k_mem)) (N1.fresh (by k_mem)) (N1.fresh (by k_mem)) (N1.fresh (by k_mem)) (N1.fresh (by k_mem)) (N1.fresh (by k_mem)) hn1 hn2 hvs hD.out v0 (Nat.le_refl _) hlen (by omega) (by omega) ?_
      intro h3 tk3 t3 kp3
      have F3 := after_fr F1 kp3 (List.forall_mem_nil _)
      have N3 := news_same N1 kp3
      clear F1 N1
      k_steps
      (with_reducible rename Fr _ _ _ _ => F1); (with_reducible rename News _ _ _ _ => N1)
      have t37 := N1.get (a := 37) (by k_mem)
      (try rw [Array.empty_append] at t37)
      obtain ⟨tl', Tl', htl'⟩ := tab_done (pos := ⟨47, 4, 52, 55⟩) t37 (N1.get (by k_mem)) (by assumption) (by assumption) (by k_ne) (htl _ (.head _)).2 (g_none Gg (N1.fresh (by k_mem)))
      have kk : Keeps [37] s.heap _ := kp_on kp F1 (allC (.inr ⟨had, N1.get (by k_mem)⟩) (allC (.inl (.head _)) (allC (.inr ⟨(htl _ (.tail _ (.head _))).1, N1.get (by k_mem)⟩) (List.forall_mem_nil _))))
      exact ret _ _ _ tl' kk Tl' htl'
end
end Mine
end
section
open PySem PySem.W PyProof.Rows PySem.Calls PySem.Spec
namespace Mine
def TabOk (P : Addr) (pos : Pos) (qual : Str) (G h : Heap) : Prop := ∃ tl, TabLed P pos qual tl ∧ ∀ q ∈ tl, h.get? q.1 = some q.2 ∧ G.get? q.1 = none
theorem TabLed.fields {P : Addr} {pos : Pos} {qual : Str} {tl : List (Addr × Obj)} (T : TabLed P pos qual tl) : ∀ q ∈ tl, ∃ vs, q.2.data = .fields vs ∧ (q.1 = P → ∀ x t, vs[1]? ≠ some (.str x t)) ∧ (q.1 ≠ P → ∃ x t, vs[1]? = some (.str x t)) := by
  cases T with
  | nil => exact allC ⟨#[], rfl, fun _ x t e => by simp at e, fun n => absurd rfl n⟩ (List.forall_mem_nil _)
  | one d1 d2 ne =>
    refine allC ⟨_, rfl, fun _ x t e => ?_, fun n => absurd rfl n⟩ (allC ⟨_, d1, fun e => absurd e ne, fun _ => ⟨_, _, d2⟩⟩ (List.forall_mem_nil _))
    simp [rawInt] at e
theorem TabLed.mem {P : Addr} {pos : Pos} {qual : Str} {tl : List (Addr × Obj)} (T : TabLed P pos qual tl) : ∃ o, (P, o) ∈ tl := by
  cases T with
  | nil => exact ⟨_, .head _⟩
  | one => exact ⟨_, .head _⟩
/-- the two entries of a table in a ledger -/
def Tab2 (P : Addr) (pos : Pos) (qual : Str) (oP : Obj) (c : Addr) (oc : Obj) : Prop :=
  (oP = tabObj #[] ∧ c = P ∧ oc = oP) ∨ (oP = tabObj #[rawInt pos.line, rawInt pos.col, .ref c] ∧ (∃ (vs : Array Value) (t : Tok), oc.data = .fields vs ∧ vs[1]? = some (.str qual t)) ∧ @Ne Nat c P)
theorem fields_ne_L {g h : Heap} {L a : Addr} {m : Str → Option Value} {o : Obj} {vs : Array Value} (F : Fr g L h m) (e : h.get? a = some o) (d : o.data = .fields vs) : a ≠ L := fun z => by
  obtain ⟨oL, es, ep, hL, hd, _⟩ := F.ns
  rw [z, hL] at e
  cases e
  rw [hd] at d; cases d
abbrev T1 := TabOk 30 ⟨32, 4, 41, 28⟩ (Str.ofString "_int2digits.<locals>.inner")
abbrev T2 := TabOk 37 ⟨47, 4, 52, 55⟩ (Str.ofString "_digits2int.<locals>.inner")
section
variable {w : World} {p : Program} {loose : List Str} {mean : ExcName → Option Value} {mg mb : Str → Option Value} {G : Heap} {s : Shared} {dp un : Nat} {fr : Option (List Env)} {gd : Option (List Code)} {Q E : Value → Shared → Prop}
end
end Mine
end
section
open PySem PySem.W PyProof.Rows PySem.Calls PySem.Spec
namespace Mine
/-- what is asked of the objects of one table -/
structure TabBase (P : Addr) (tl : List (Addr × Obj)) : Prop where
  mem : ∃ o, (P, o) ∈ tl
  fields : ∀ q ∈ tl, ∃ vs, q.2.data = .fields vs ∧ (q.1 = P → ∀ x t, vs[1]? ≠ some (.str x t)) ∧ (q.1 ≠ P → ∃ x t, vs[1]? = some (.str x t))
  kind : ∀ q ∈ tl, ∃ vs, q.2.data = .fields vs ∧ (q.2.cls = .none ∨ ∃ x t, vs[1]? = some (.str x t))
theorem TabLed.kind {P : Addr} {pos : Pos} {qual : Str} {tl : List (Addr × Obj)} (T : TabLed P pos qual tl) : ∀ q ∈ tl, ∃ vs, q.2.data = .fields vs ∧ (q.2.cls = .none ∨ ∃ x t, vs[1]? = some (.str x t)) := by
  cases T with
  | nil => exact allC ⟨_, rfl, .inl rfl⟩ (List.forall_mem_nil _)
  | one d1 d2 ne => exact allC ⟨_, rfl, .inl rfl⟩ (allC ⟨_, d1, .inr ⟨_, _, d2⟩⟩ (List.forall_mem_nil _))
theorem TabLed.base {P : Addr} {pos : Pos} {qual : Str} {tl : List (Addr × Obj)} (T : TabLed P pos qual tl) : TabBase P tl := ⟨T.mem, T.fields, T.kind⟩
abbrev LQ : Str := Str.ofString "_law_stream.<locals>.<lambda>"
/-- the table of _law_stream: empty, or with its two entries -/
inductive TabTwo : List (Addr × Obj) → Prop
  | nil : TabTwo [(118, tabObj #[])]
  | two {c1 c2 : Addr} {o1 o2 : Obj} {v1 v2 : Array Value} {t1 t2 : Tok} : o1.data = .fields v1 → v1[1]? = some (.str (Str.ofString "_law_stream.<locals>.<lambda>") t1) → @Ne Nat c1 118 → o2.data = .fields v2 → v2[1]? = some (.str (Str.ofString "_law_stream.<locals>.<lambda>") t2) → @Ne Nat c2 118 →
      TabTwo [(118, tabObj #[rawInt 149, rawInt 13, .ref c1, rawInt 150, rawInt 18, .ref c2]), (c1, o1), (c2, o2)]
theorem TabTwo.base {tl : List (Addr × Obj)} (T : TabTwo tl) : TabBase 118 tl := by
  cases T with
  | nil => exact ⟨⟨_, .head _⟩, allC ⟨#[], rfl, fun _ x t e => by simp at e, fun n => absurd rfl n⟩ (List.forall_mem_nil _), allC ⟨_, rfl, .inl rfl⟩ (List.forall_mem_nil _)⟩
  | two d1 d2 n1 e1 e2 n2 =>
    refine ⟨⟨_, .head _⟩, allC ⟨_, rfl, fun _ x t e => ?_, fun n => absurd rfl n⟩ (allC ⟨_, d1, fun e => absurd e n1, fun _ => ⟨_, _, d2⟩⟩ (allC ⟨_, e1, fun e => absurd e n2, fun _ => ⟨_, _, e2⟩⟩ (List.forall_mem_nil _))),
      allC ⟨_, rfl, .inl rfl⟩ (allC ⟨_, d1, .inr ⟨_, _, d2⟩⟩ (allC ⟨_, e1, .inr ⟨_, _, e2⟩⟩ (List.forall_mem_nil _)))⟩
    simp [rawInt] at e
/-- entries of one table lie away from the address of another -/
theorem TabBase.away {P P' : Addr} {tl tl' : List (Addr × Obj)} {h : Heap} (T : TabBase P tl) (T' : TabBase P' tl') (ne : P ≠ P') (e : ∀ q ∈ tl, h.get? q.1 = some q.2) (e' : ∀ q ∈ tl', h.get? q.1 = some q.2) : ∀ q ∈ tl, q.1 ≠ P' := fun q hq z => by
  obtain ⟨o, ho⟩ := T'.mem
  obtain ⟨vs, d, _, f2⟩ := T.fields q hq
  obtain ⟨vs', d', f1', _⟩ := T'.fields _ ho
  have e1 := e q hq
  have e2 := e' _ ho
  rw [z] at e1
  rw [e2] at e1
  have eo : o = q.2 := Option.some.inj e1
  simp only at d'
  rw [eo, d] at d'
  have ev : vs = vs' := by injection d'
  obtain ⟨x, t, hx⟩ := f2 (by rw [z]; exact ne.symm)
  exact f1' rfl x t (ev ▸ hx)
/-- the objects of the tables of inner code, all in one list -/
structure Rest (rest : List (Addr × Obj)) : Prop where
  t1 : ∃ tl, TabLed 30 ⟨32, 4, 41, 28⟩ (Str.ofString "_int2digits.<locals>.inner") tl ∧ ∀ q ∈ tl, q ∈ rest
  t2 : ∃ tl, TabLed 37 ⟨47, 4, 52, 55⟩ (Str.ofString "_digits2int.<locals>.inner") tl ∧ ∀ q ∈ tl, q ∈ rest
  t3 : ∃ tl, TabTwo tl ∧ ∀ q ∈ tl, q ∈ rest
  kinds : ∀ q ∈ rest, ∃ vs, q.2.data = .fields vs ∧ (q.2.cls = .none ∨ ∃ x t, vs[1]? = some (.str x t))
/-- every address of the one list is one of the other -/
structure SubR (rest rest' : List (Addr × Obj)) : Prop where
  addr : ∀ a ∈ rest.map (·.1), a ∈ rest'.map (·.1)
  same : ∀ q ∈ rest, q.1 ≠ 30 → q.1 ≠ 37 → q.1 ≠ 118 → q ∈ rest'
theorem SubR.refl (a : List (Addr × Obj)) : SubR a a := ⟨fun _ h => h, fun _ h _ _ _ => h⟩
theorem SubR.trans {a b c : List (Addr × Obj)} (x : SubR a b) (y : SubR b c) : SubR a c := ⟨fun q hq => y.addr q (x.addr q hq), fun q hq n1 n2 n3 => y.same q (x.same q hq n1 n2 n3) n1 n2 n3⟩
theorem SubR.keeps {a b : List (Addr × Obj)} (x : SubR a b) {h h' : Heap} (k : Keeps (a.map (·.1)) h h') : Keeps (b.map (·.1)) h h' := k.mono x.addr
theorem subR_filter {rest tl : List (Addr × Obj)} {P : Addr} (hP : ∃ o, (P, o) ∈ tl) (h3 : P = 30 ∨ P = 37 ∨ P = 118) : SubR rest (tl ++ rest.filter (fun q => q.1 != P)) := ⟨fun a ha => by
  obtain ⟨q, hq, rfl⟩ := List.mem_map.mp ha
  by_cases e : q.1 = P
  · obtain ⟨o, ho⟩ := hP
    exact List.mem_map.mpr ⟨_, List.mem_append_left _ ho, e.symm⟩
  · exact List.mem_map.mpr ⟨q, List.mem_append_right _ (List.mem_filter.mpr ⟨hq, by simpa using e⟩), rfl⟩, fun q hq n1 n2 n3 => by
  refine List.mem_append_right _ (List.mem_filter.mpr ⟨hq, ?_⟩)
  have : q.1 ≠ P := fun z => by rcases h3 with h | h | h <;> (rw [h] at z) <;> first | exact n1 z | exact n2 z | exact n3 z
  simpa using this⟩
theorem allLt_notin {d : Addr} : ∀ {l : List (Addr × Obj)}, AllLt d l → d ∉ l.map (·.1)
  | [], _ => List.not_mem_nil
  | p :: r, h => fun q => by
    rcases List.mem_cons.mp q with q | q
    · exact absurd h.1 (by rw [q]; exact Nat.lt_irrefl _)
    · exact allLt_notin h.2 q
def NotRest (o : Obj) : Prop := ∀ vs, o.data = .fields vs → o.cls ≠ .none ∧ ∀ x t, vs[1]? ≠ some (.str x t)
theorem notRest_of {o : Obj} (h : ∀ vs, o.data ≠ .fields vs) : NotRest o := fun vs e => absurd e (h vs)
theorem notRest_seq {c : Value} {d : Option Addr} {its : Array Value} {n : Nat} {sl : Array (Option Value)} : NotRest ⟨c, d, .seq its n, sl⟩ := notRest_of fun vs e => by cases e
theorem notRest_dict {c : Value} {d : Option Addr} {es : Array DictEntry} {n : Nat} {sl : Array (Option Value)} : NotRest ⟨c, d, .dict es n, sl⟩ := notRest_of fun vs e => by cases e
theorem notRest_plain {c : Value} {d : Option Addr} {sl : Array (Option Value)} : NotRest ⟨c, d, .plain, sl⟩ := notRest_of fun vs e => by cases e
theorem notRest_func {c : Value} {d : Option Addr} {f : FuncData} {sl : Array (Option Value)} : NotRest ⟨c, d, .func f, sl⟩ := notRest_of fun vs e => by cases e
theorem notRest_cell {o : Obj} {v : Option Value} (h : o.data = .cell v) : NotRest o := notRest_of fun vs e => by rw [h] at e; cases e
section
variable {g h h' : Heap} {L : Addr} {m : Str → Option Value} {ex rest rest' news : List (Addr × Obj)}
theorem Rest.out (R : Rest rest) (hr : ∀ q ∈ rest, h.get? q.1 = some q.2) {a : Addr} {o : Obj} (e : h.get? a = some o) (ho : NotRest o) : a ∉ rest.map (·.1) := fun q => by
  obtain ⟨p, hp, rfl⟩ := List.mem_map.mp q
  rw [hr p hp] at e
  cases e
  obtain ⟨vs, d, k⟩ := R.kinds p hp
  obtain ⟨h1, h2⟩ := ho vs d
  rcases k with k | ⟨x, t, k⟩
  · exact h1 k
  · exact h2 x t k
theorem Rest.ne (R : Rest rest) (N : News g L h news) (hr : ∀ q ∈ rest, q ∈ news) {a : Addr} {o : Obj} (hm : (a, o) ∈ news) (ho : NotRest o) : ∀ p ∈ rest, p.1 ≠ a := fun p hp q =>
  R.out (fun q hq => (N q (hr q hq)).1) (N.get hm) ho (List.mem_map.mpr ⟨p, hp, q⟩)
theorem Rest.neL (R : Rest rest) (F : Fr g L h m) (hr : ∀ q ∈ rest, h.get? q.1 = some q.2) : ∀ p ∈ rest, p.1 ≠ L := fun p hp => by
  obtain ⟨vs, d, _⟩ := R.kinds p hp
  exact fields_ne_L F (hr p hp) d
theorem fr_rest (F : Fr g L h m) (N : News g L h (ex ++ rest)) (k : Keeps (rest.map (·.1)) h h') : Fr g L h' m :=
  after_fr F k fun a ha => by
    obtain ⟨p, hp, rfl⟩ := List.mem_map.mp ha
    exact (N p (List.mem_append_right _ hp)).2
theorem news_rest (F : Fr g L h' m) (N : News g L h (ex ++ rest)) (R : Rest rest) (hx : ∀ p ∈ ex, NotRest p.2) (k : Keeps (rest.map (·.1)) h h') (R' : Rest rest') (hr' : ∀ q ∈ rest', h'.get? q.1 = some q.2 ∧ g.get? q.1 = none) :
    News g L h' (ex ++ rest') := fun q hq => by
  rcases List.mem_append.mp hq with hq | hq
  · have x := N q (List.mem_append_left _ hq)
    exact ⟨k _ _ x.1 (R.out (fun q hq => (N q (List.mem_append_right _ hq)).1) x.1 (hx q hq)), x.2⟩
  · exact ⟨(hr' q hq).1, R'.neL F (fun q hq => (hr' q hq).1) q hq, (hr' q hq).2⟩
end
theorem Rest.step1 {rest tl tl' : List (Addr × Obj)} {h : Heap} (R : Rest rest) (Tl : TabLed 30 ⟨32, 4, 41, 28⟩ (Str.ofString "_int2digits.<locals>.inner") tl) (htl : ∀ q ∈ tl, q ∈ rest) (hr : ∀ q ∈ rest, h.get? q.1 = some q.2) (Tl' : TabLed 30 ⟨32, 4, 41, 28⟩ (Str.ofString "_int2digits.<locals>.inner") tl') : Rest (tl' ++ rest.filter (fun q => q.1 != 30)) := by
  obtain ⟨tl2, Tl2, h2⟩ := R.t2
  obtain ⟨tl3, Tl3, h3⟩ := R.t3
  refine ⟨⟨tl', Tl', fun q hq => List.mem_append_left _ hq⟩, ⟨tl2, Tl2, fun q hq => List.mem_append_right _ (List.mem_filter.mpr ⟨h2 q hq, by simpa using Tl2.base.away Tl.base (by decide) (fun q hq => hr q (h2 q hq)) (fun q hq => hr q (htl q hq)) q hq⟩)⟩, ⟨tl3, Tl3, fun q hq => List.mem_append_right _ (List.mem_filter.mpr ⟨h3 q hq, by simpa using Tl3.base.away Tl.base (by decide) (fun q hq => hr q (h3 q hq)) (fun q hq => hr q (htl q hq)) q hq⟩)⟩, fun q hq => ?_⟩
  rcases List.mem_append.mp hq with hq | hq
  · exact Tl'.base.kind q hq
  · exact R.kinds q (List.mem_filter.mp hq).1
theorem Rest.step2 {rest tl tl' : List (Addr × Obj)} {h : Heap} (R : Rest rest) (Tl : TabLed 37 ⟨47, 4, 52, 55⟩ (Str.ofString "_digits2int.<locals>.inner") tl) (htl : ∀ q ∈ tl, q ∈ rest) (hr : ∀ q ∈ rest, h.get? q.1 = some q.2) (Tl' : TabLed 37 ⟨47, 4, 52, 55⟩ (Str.ofString "_digits2int.<locals>.inner") tl') : Rest (tl' ++ rest.filter (fun q => q.1 != 37)) := by
  obtain ⟨tl1, Tl1, h1⟩ := R.t1
  obtain ⟨tl3, Tl3, h3⟩ := R.t3
  refine ⟨⟨tl1, Tl1, fun q hq => List.mem_append_right _ (List.mem_filter.mpr ⟨h1 q hq, by simpa using Tl1.base.away Tl.base (by decide) (fun q hq => hr q (h1 q hq)) (fun q hq => hr q (htl q hq)) q hq⟩)⟩, ⟨tl', Tl', fun q hq => List.mem_append_left _ hq⟩, ⟨tl3, Tl3, fun q hq => List.mem_append_right _ (List.mem_filter.mpr ⟨h3 q hq, by simpa using Tl3.base.away Tl.base (by decide) (fun q hq => hr q (h3 q hq)) (fun q hq => hr q (htl q hq)) q hq⟩)⟩, fun q hq => ?_⟩
  rcases List.mem_append.mp hq with hq | hq
  · exact Tl'.base.kind q hq
  · exact R.kinds q (List.mem_filter.mp hq).1
theorem Rest.step3 {rest tl tl' : List (Addr × Obj)} {h : Heap} (R : Rest rest) (Tl : TabTwo tl) (htl : ∀ q ∈ tl, q ∈ rest) (hr : ∀ q ∈ rest, h.get? q.1 = some q.2) (Tl' : TabTwo tl') : Rest (tl' ++ rest.filter (fun q => q.1 != 118)) := by
  obtain ⟨tl1, Tl1, h1⟩ := R.t1
  obtain ⟨tl2, Tl2, h2⟩ := R.t2
  refine ⟨⟨tl1, Tl1, fun q hq => List.mem_append_right _ (List.mem_filter.mpr ⟨h1 q hq, by simpa using Tl1.base.away Tl.base (by decide) (fun q hq => hr q (h1 q hq)) (fun q hq => hr q (htl q hq)) q hq⟩)⟩, ⟨tl2, Tl2, fun q hq => List.mem_append_right _ (List.mem_filter.mpr ⟨h2 q hq, by simpa using Tl2.base.away Tl.base (by decide) (fun q hq => hr q (h2 q hq)) (fun q hq => hr q (htl q hq)) q hq⟩)⟩, ⟨tl', Tl', fun q hq => List.mem_append_left _ hq⟩, fun q hq => ?_⟩
  rcases List.mem_append.mp hq with hq | hq
  · exact Tl'.base.kind q hq
  · exact R.kinds q (List.mem_filter.mp hq).1
theorem rest_after {rest tl' : List (Addr × Obj)} {P : Addr} {G h h' : Heap} (k : Keeps [P] h h') (hr : ∀ q ∈ rest, h.get? q.1 = some q.2 ∧ G.get? q.1 = none) (e : ∀ q ∈ tl', h'.get? q.1 = some q.2 ∧ G.get? q.1 = none) :
    ∀ q ∈ tl' ++ rest.filter (fun q => q.1 != P), h'.get? q.1 = some q.2 ∧ G.get? q.1 = none := fun q hq => by
  rcases List.mem_append.mp hq with hq | hq
  · exact e q hq
  · obtain ⟨h1, h2⟩ := List.mem_filter.mp hq
    exact ⟨k _ _ (hr q h1).1 (fun z => by rw [List.mem_singleton.mp z] at h2; simp at h2), (hr q h1).2⟩
section
variable {w : World} {p : Program} {loose : List Str} {mean : ExcName → Option Value} {mg mb : Str → Option Value} {G : Heap} {s : Shared} {dp un : Nat} {fr : Option (List Env)} {gd : Option (List Code)} {Q E : Value → Shared → Prop} {rest : List (Addr × Obj)}
theorem keep_of_one {h h' : Heap} {P : Addr} (k : Keeps [P] h h') (hP : P ∈ rest.map (·.1)) : Keeps (rest.map (·.1)) h h' := k.mono fun x hx => by rw [List.mem_singleton.mp hx]; exact hP
theorem r_int2digits (hG : G.StaysIn s.heap) (X : (hd.heap_1 w.params).In G) (T : Top p loose mean mg mb G) (hdp : dp < 800) (hun : un < 8000)
   (C : CodeHd G 34 30) (R : Rest rest) (hr : ∀ q ∈ rest, s.heap.get? q.1 = some q.2 ∧ G.get? q.1 = none) {a n : Nat} {ta tn : Tok} (ha : a < 512) (hn1 : 2 ≤ n) (hn2 : n ≤ 4)
   (ret : ∀ (h' : Heap) (tk' : Nat) (ad : Addr) (vs' : List Value) (k' : Nat) (rest' : List (Addr × Obj)), Keeps (rest.map (·.1)) s.heap h' → s.heap.get? ad = none → h'.get? ad = some (listOf vs'.toArray k') → Rest rest' → SubR rest rest' → (∀ q ∈ rest', h'.get? q.1 = some q.2 ∧ G.get? q.1 = none) →
      vs'.length ≤ 5 → a < 2 ^ (n * vs'.length) → (∀ i, i < vs'.length → ∃ t, vs'[i]? = some (.int ((a / 2 ^ (n * i) % 2 ^ n : Nat) : Int) t)) → Q (.ref ad) (St s h' tk')) :
   wpAny (model PR w) (Ar dp un fr gd) (call (.ref 35) [.int a ta, .int n tn]) Q E s := by
  obtain ⟨tl, Tl, htl⟩ := R.t1
  obtain ⟨o, ho⟩ := Tl.mem
  refine c_int2digits hG X T hdp hun C Tl (fun q hq => hr q (htl q hq)) ha hn1 hn2 fun h' tk' ad vs' k' tl' k1 k2 k3 k4 k5 k6 k7 k8 =>
    ret h' tk' ad vs' k' (tl' ++ rest.filter (fun q => q.1 != 30)) (keep_of_one k1 (List.mem_map.mpr ⟨_, htl _ ho, rfl⟩)) k2 k3 (R.step1 Tl htl (fun q hq => (hr q hq).1) k4) (subR_filter k4.mem (.inl rfl)) (rest_after k1 hr k5) k6 k7 k8
theorem r_digits2int (hG : G.StaysIn s.heap) (X : (hd.heap_1 w.params).In G) (T : Top p loose mean mg mb G) (hdp : dp < 800) (hun : un < 8000)
   (C : CodeHd G 41 37) (R : Rest rest) (hr : ∀ q ∈ rest, s.heap.get? q.1 = some q.2 ∧ G.get? q.1 = none)
   {ad : Addr} {vs : List Value} {k n : Nat} {tn : Tok} {D : Nat → Nat} (had : s.heap.get? ad = some (listOf vs.toArray k)) (gad : G.get? ad = none)
   (hn1 : 2 ≤ n) (hn2 : n ≤ 4) (hvs : ∀ i, i < vs.length → ∃ t, vs[i]? = some (.int (D i : Nat) t)) (hD : ∀ i, D i < 2 ^ n) (hlen : vs.length ≤ 5)
   (ret : ∀ (h' : Heap) (tk' : Nat) (t : Tok) (rest' : List (Addr × Obj)), Keeps (rest.map (·.1)) s.heap h' → Rest rest' → SubR rest rest' → (∀ q ∈ rest', h'.get? q.1 = some q.2 ∧ G.get? q.1 = none) → Q (.int (valD D n 0 vs.length : Nat) t) (St s h' tk')) :
   wpAny (model PR w) (Ar dp un fr gd) (call (.ref 42) [.ref ad, .int n tn]) Q E s := by
  obtain ⟨tl, Tl, htl⟩ := R.t2
  obtain ⟨o, ho⟩ := Tl.mem
  refine c_digits2int hG X T hdp hun C Tl (fun q hq => hr q (htl q hq)) had gad (fun q hq z => ?_) hn1 hn2 hvs hD hlen fun h' tk' t tl' k1 k2 k3 =>
    ret h' tk' t (tl' ++ rest.filter (fun q => q.1 != 37)) (keep_of_one k1 (List.mem_map.mpr ⟨_, htl _ ho, rfl⟩)) (R.step2 Tl htl (fun q hq => (hr q hq).1) k2) (subR_filter k2.mem (.inr (.inl rfl))) (rest_after k1 hr k3)
  obtain ⟨vs, d, _⟩ := Tl.fields q hq
  have e1 := (hr q (htl q hq)).1
  rw [z, had] at e1
  rw [← Option.some.inj e1] at d
  cases d
end
end Mine
end
section
open PySem PySem.W PyProof.Rows PySem.Calls PySem.Spec
open Builtin Builtin.ObjectAttr
set_option maxRecDepth 100000
namespace Mine
theorem slot_fn_setattr : Slot "function" "__setattr__" "object.__setattr__" :=
  .of (owner := "object") (n := "__setattr__") (by rw [typeLookup_type, builtinLookup_eq_fast]; kernel_rfl) (by decide +kernel) (by decide +kernel) (by decide +kernel)
    (by first | exact .inl (by decide +kernel) | exact .inr (by decide +kernel)) (by rw [isSubtype_type]; kernel_rfl)
theorem fn_noread : typeLookup (.type "function") (Str.ofString "read") = pure none := by rw [typeLookup_type, builtinLookup_eq_fast]; kernel_rfl
theorem fn_mro : mroOf (.type "function") = pure [.type "function", .type "object"] := by kernel_rfl
theorem fn_loop (self : Value) : refuseLoop self "__setattr__" [.type "function", .type "object"] = pure () := by kernel_rfl
section
variable {prog : Program} {w : World} {A : Around} {E : Value → Shared → Prop} {s : Shared} {Q : Unit → Shared → Prop}
theorem fn_setRead {f : Addr} {fd : FuncData} {sl : Array (Option Value)} {v : Value} (ho : s.heap.get? f = some ⟨.type "function", none, .func fd, sl⟩)
   (h : ∀ h' tk' D, s.heap.get? D = none → (∀ b o, s.heap.get? b = some o → b < D) → h'.get? f = some ⟨.type "function", some D, .func fd, sl⟩ → h'.Ns1 D (fun y => if y = Str.ofString "read" then some v else none) →
     Keeps [f] s.heap h' → Q () (St s h' tk')) :
   wpAny (model prog w) A (setAttr (.ref f) (Str.ofString "read") v) Q E s := by
  have f3 := slot_fn_setattr.bind (.ref f)
  obtain ⟨hp, g, d, t, os⟩ := s
  unfold setAttr callSpecial? specialOf
  repeat (any_goals (first | assumption | (with_reducible refine wpAny_loadPart_at ho ?_) | (rw [slot_fn_setattr.lookup]) | wp_step))
  refine codeAny_call_builtin slot_fn_setattr.plain PySem.F.store_object.entry (slot_fn_setattr.check _ _ _ _ _ _ _ _ ⟨_, ho, rfl⟩ (PySem.F.store_object.args _ _ _) ?_)
  rw [show [Value.ref f] ++ [Value.str (Str.ofString "read") t, v] = [Value.ref f, Value.str (Str.ofString "read") t, v] from rfl, osa_eq, refuse_eq]
  have hx : hp.get? f = some ⟨.type "function", none, .func fd, sl⟩ := ho
  have hx₁ : (hp.push { cls := .type "dict", data := .dict #[] }).get? f = some ⟨.type "function", none, .func fd, sl⟩ := Heap.get?_push_of_some _ hx
  have hxs : f ≠ hp.objs.size := Nat.ne_of_lt (Heap.lt_size hx)
  have hgd : ((hp.push { cls := .type "dict", data := .dict #[] }).update f fun o => { o with dict := some hp.objs.size }).get? hp.objs.size
          = some { cls := .type "dict", data := .dict #[] } :=
        (Heap.get?_update_ne _ _ _ _ hxs.symm).trans (Heap.get?_push_at rfl rfl)
  have hnd : ((hp.push { cls := .type "dict", data := .dict #[] }).update f fun o => { o with dict := some hp.objs.size }).Ns1 hp.objs.size (fun _ => none) :=
        Heap.Ns1.of_empty ⟨_, #[], _, hgd, rfl, fun e he => absurd he (by simp), fun _ => rfl⟩
  repeat (any_goals (first | assumption | (with_reducible refine wpAny_loadPart_at ho ?_) | (rw [fn_noread]) | (rw [fn_mro]) | (rw [fn_loop]) | (with_reducible refine wpAny_update' hx₁ ?_) | (fail_if_success (with_reducible show wpAny _ _ (nsSet _ _ _) _ _ _)); wp_step))
  refine wpAny_nsSet1 hnd fun h' hn' hs => ?_
  obtain ⟨oD, esD, epD, hoD, hdD, hcD⟩ := hn'.count (Within.cons (Str.ofString "read") v Within.nil)
  refine wpAny_bind (wpAny_lookBehind hoD (by rw [hdD]; exact pastItsLine_dict (Nat.le_trans hcD (by rw [List.length_cons, List.length_nil, sizeLine_eq]; omega))) ?_)
  repeat (any_goals (first | assumption | wp_step))
  refine h h' _ hp.objs.size (Heap.get?_none_of_le (Nat.le_refl _)) (fun b o e => Heap.lt_size e) ?_ hn' (fun b o e nb => ?_)
  · exact (hs.2 f hxs).trans (Heap.get?_update_self _ hx₁ rfl)
  · exact (hs.2 b (Nat.ne_of_lt (Heap.lt_size e))).trans ((Heap.get?_update_ne _ _ _ _ (fun q => nb (List.mem_singleton.mpr q))).trans (Heap.get?_push_of_some _ e))

theorem slot_fn_ga : Slot "function" "__getattribute__" "object.__getattribute__" :=
  .of (owner := "object") (n := "__getattribute__") (by rw [typeLookup_type, builtinLookup_eq_fast]; kernel_rfl) (by decide +kernel) (by decide +kernel) (by decide +kernel)
    (by first | exact .inl (by decide +kernel) | exact .inr (by decide +kernel)) (by rw [isSubtype_type]; kernel_rfl)
theorem fn_nogetattr : typeLookup (.type "function") "__getattr__" = pure none := by rw [typeLookup_type, builtinLookup_eq_fast]; kernel_rfl
theorem canon_ga : (Manifest.canonical "object.__getattribute__" != "object.__getattribute__") = false := by decide +kernel
theorem args_ga (a b : Value) : argsOk "object.__getattribute__" ⟨[a, b], []⟩ := by
  unfold argsOk; rw [signature?_of (id := "object.__getattribute__") (n := ['_', '_', 'e', 't', 'u', 'b', 'i', 'r', 't', 't', 'a', 't', 'e', 'g', '_', '_']) (o := ['t', 'c', 'e', 'j', 'b', 'o']) (by kernel_rfl) PySem.F.owner_object]; kernel_rfl
theorem fn_read_entry {f D : Addr} {fd : FuncData} {sl : Array (Option Value)} {v : Value} {h : Heap} {g : Array GenState} {d : Drawn} {t : Nat} {os : OsState} {tk : Tok} {Q : Fin → Shared → Prop} (ho : h.get? f = some ⟨.type "function", some D, .func fd, sl⟩)
   (hD : h.Ns D (fun y => if y = Str.ofString "read" then some v else none)) 
    (hq : Q (.done (.ret v)) ⟨h, g, d, t, os⟩) : wpAny (model prog w) A (Builtin.«object.__getattribute__» ⟨[.ref f, .str (Str.ofString "read") tk], []⟩) Q E ⟨h, g, d, t, os⟩ := by
  have hT : (⟨h, g, d, t, os⟩ : Shared).TypeIs (.ref f) "function" := ⟨_, ho, rfl⟩
  have f5 := fn_noread
  have hv : (fun y => if y = Str.ofString "read" then some v else none) (Str.ofString "read") = some v := if_pos rfl
  repeat (any_goals (first | assumption | (with_reducible refine wpAny_nsGet (name := Str.ofString "read") hD ?_; rw [if_pos rfl]) | (with_reducible refine wpAny_loadPart_at ho ?_) | wp_step))
theorem fn_getRead {f D : Addr} {fd : FuncData} {sl : Array (Option Value)} {v : Value} {pl : Sem Bool} {Q : Value × List Value → Shared → Prop} (ho : s.heap.get? f = some ⟨.type "function", some D, .func fd, sl⟩)
   (hD : s.heap.Ns D (fun y => if y = Str.ofString "read" then some v else none)) (hh : handedOut v = pure v) (h : ∀ tk', Q (v, []) (St s s.heap tk')) :
   wpAny (model prog w) A (getMethod (.ref f) (Str.ofString "read") pl) Q E s := by
  obtain ⟨hp, g, d, t, os⟩ := s
  have hM := ho
  have hT : (⟨hp, g, d, t, os⟩ : Shared).TypeIs (.ref f) "function" := ⟨_, ho, rfl⟩
  have hT1 : (⟨hp, g, d, t + 1, os⟩ : Shared).TypeIs (.ref f) "function" := ⟨_, ho, rfl⟩
  have f1 := slot_fn_ga.lookup
  have f2 := fn_nogetattr
  have f5 := fn_noread
  have f4 := slot_fn_ga.bind (.ref f)
  unfold getMethod
  refine wpAny_bind (wpAny_specialOf hT f1 ?_)
  show wpAny _ A (if (Manifest.canonical "object.__getattribute__" != "object.__getattribute__") = true then _ else _) Q E _
  rw [canon_ga, if_neg (by decide)]
  repeat (any_goals (first | assumption | wp_step))
  refine codeAny_call_builtin slot_fn_ga.plain PySem.F.entry_object_getattribute (slot_fn_ga.check _ _ _ _ _ _ _ _ hT1 (args_ga _ _) (fn_read_entry ho hD ?_))
  repeat (any_goals (first | assumption | wp_step))
  exact h _
end
end Mine
end
section
open PySem PySem.W PyProof.Rows PySem.Calls PySem.Spec
namespace Mine
def lamAt (i : Nat) (b : List Stmt) : Option (Arguments × Expr × Scope) := match b[i]? with
  | some (.Assign _ (.Lambda a e sc _) _) => some (a, e, sc)
  | _ => none
section
variable {prog : Program} {w : World} {A : Around} {s : Shared} {G : Heap} {K : Frag} {p : Program} {loose : List Str} {mean : ExcName → Option Value} {mg mb : Str → Option Value}
  {R : Result → Shared → Prop} {name qual : Str} {params : Arguments} {body : Expr} {scope : Scope} {pm ctv : Value} {c' : Addr} {f : Addr} {args : Args} {binds : List (Str × Value)} {cl : List (Str × Addr)}
theorem enterL (fp : List (Addr × Obj)) (hG : G.StaysIn s.heap) (hfp : ∀ q ∈ fp, s.heap.get? q.1 = some q.2 ∧ G.get? q.1 = none)
    (X : K.In G) (T : Top p loose mean mg mb G)
    (ho : s.heap.get? f = some (kla_obj name qual params body scope cl pm c' ctv)) (hcd : s.heap.CodeRec (.ref c') qual) (hroom : A.depth < recursionLimit)
    (hbind : bindArgs (kla_fn name qual params body scope cl pm (.ref c') ctv) args = pure binds) (hloc : ∀ y ∈ binds, scope.names.lookup y.1 = some .local)
    (h : ∀ g L' h₁, G.StaysIn g → K.In g → Top p loose mean mg mb g → (∀ b o, s.heap.get? b = some o → b ∉ fp.map (·.1) → g.get? b = some o) → Fr g L' h₁ (fun y => binds.reverse.lookup y) → News g L' h₁ fp → (∀ q ∈ fp, q.1 < L') → (∀ q ∈ fp, g.get? q.1 = none) →
      wpAny (model prog w) (A.deeper (envX qual scope L' f (.ref c') cl)) (eval body (envX qual scope L' f (.ref c') cl))
        (fun v s' => R (.ok (.ret v)) s') (fun _ _ => False)
        { s with heap := h₁, toks := s.toks + binds.length })
    (hcell : ∀ x ∈ scope.names, x.2 ≠ .cell) (hco : scope.isCoroutine = false) (hgen : scope.isGenerator = false) (hk : scope.kind = .function) : codeAny (model prog w) A (.call (.ref f) args) R s := by
  have Gg : G.StaysIn (hideAll s.heap (fp.map (·.1))) := fun b o e => hideAll_get _ (hG b o e) (fp_out hfp e)
  refine kla_callFunE hroom ho rfl hco hgen rfl hcd ?_
  rw [hbind]
  refine wpAny_pure (wpAny_newFunctionEnv hcell hloc (fun h₁ hns hsb => ⟨((T.nolimit).keeps hG).fresh _ hsb, ?_⟩) hk)
  show codeAny _ _ (.expr body (envX qual scope s.heap.objs.size f (.ref c') cl)) _ _
  have hk₁ : ∀ b o, s.heap.get? b = some o → h₁.get? b = some o := fun b o e => hsb.extBut b o (Nat.ne_of_lt (Heap.lt_size e)) (Heap.get?_push_of_some _ e)
  refine kla_codeExpr (wpAny_mono (h (hideAll s.heap (fp.map (·.1))) s.heap.objs.size h₁ Gg (X.keeps fun b o e => Gg b o e) (T.keeps fun b o e => Gg b o e) (fun b o e n => hideAll_get _ e n) ⟨hns, fun b o e => hk₁ b o (of_hideAll _ e), Nat.le_of_eq (hideAll_size _ _)⟩
    (fun q hq => ⟨hk₁ _ _ (hfp q hq).1, Nat.ne_of_lt (Heap.lt_size (hfp q hq).1), hideAll_none _ (List.mem_map_of_mem hq)⟩) (fun q hq => Heap.lt_size (hfp q hq).1) (fun q hq => hideAll_none _ (List.mem_map_of_mem hq))) (fun _ _ x => x) fun _ _ x => x.elim)
end
end Mine
end
section
open PySem PySem.W PyProof.Rows PySem.Calls PySem.Spec Mine
local macro_rules | `(tactic| walk_at "al0") => `(tactic| (k_dflt (refine' append_K ?k1 ?k2 ?k3 ?_ ?z; (case k1 => k_asm); (case k2 => k_asm); (case k3 => k_upd); (case z => (rw [sizeLine_eq]; simp only [List.size_toArray]; omega)); k_whole); intro h' F' N'; (try k_sweep)))
section
open PySem PySem.W PyProof.Rows PySem.Calls PySem.Spec
namespace Mine
section
variable {w : World} {p : Program} {loose : List Str} {mean : ExcName → Option Value} {mg mb : Str → Option Value} {G : Heap} {s : Shared} {dp un : Nat} {fr : Option (List Env)} {gd : Option (List Code)} {Q E : Value → Shared → Prop}
local macro_rules | `(tactic| walk_at "call builtin:list.append") => `(tactic| walk_at "al0")
/-- what of a lexer's dictionary never changes -/
structure LexH where
  a1 : Int
  a2 : Int
  a3 : Int
  a4 : Int
  u1 : Tok
  u2 : Tok
  u3 : Tok
  u4 : Tok
abbrev lexD (lxh : LexH) (ln : Value) (fp : Addr) (ws : Value) (pb : Addr) (n : Nat) : Obj :=
  dictOf [⟨lxh.a1, .str (Str.ofString "lineno") lxh.u1, ln⟩, ⟨lxh.a2, .str (Str.ofString "instream") lxh.u2, .ref fp⟩, ⟨lxh.a3, .str (Str.ofString "whitespace") lxh.u3, ws⟩, ⟨lxh.a4, .str (Str.ofString "pushback") lxh.u4, .ref pb⟩] n
set_option maxRecDepth 100000 in
set_option maxHeartbeats 8000000 in
theorem c_push (hG : G.StaysIn s.heap) (X : (hd.heap_1 w.params).In G) (T : Top p loose mean mg mb G) (hdp : dp < 800) (hun : un < 8000)
   {x dx pb : Addr} {vs : List Value} {n : Nat} {v : Value} {lxh : LexH} {ln ws : Value} {fs : Addr} {k : Nat}
   (hx : s.heap.get? x = some (instObj 112 dx)) (hdx : s.heap.get? dx = some (lexD lxh ln fs ws pb k)) (hpb : s.heap.get? pb = some (listOf vs.toArray n)) (gx : G.get? x = none) (gdx : G.get? dx = none) (gpb : G.get? pb = none) (hlen : vs.length < 100000)
   (ret : ∀ h' tk' n', Keeps [pb] s.heap h' → h'.get? pb = some (listOf (vs ++ [v]).toArray n') → Q .none (St s h' tk')) :
   wpAny (model PR w) (Ar dp un fr gd) (call (.ref 109) [.ref x, v]) Q E s := by
  have d1 : @Ne Nat x dx := apart hx hdx rfl
  have d2 : @Ne Nat x pb := apart hx hpb rfl
  have d3 : @Ne Nat dx pb := apart hdx hpb rfl
  have hr : ∀ q ∈ ([(x, instObj 112 dx), (dx, lexD lxh ln fs ws pb k), (pb, listOf vs.toArray n)] : List (Addr × Obj)), s.heap.get? q.1 = some q.2 ∧ G.get? q.1 = none := by walk_at "fp"
  refine wpAny_call ?_
  k_dflt (refine' enterK (binds := [((Str.ofString "self"), .ref x), ((Str.ofString "token"), v)]) [(x, instObj 112 dx), (dx, lexD lxh ln fs ws pb k), (pb, listOf vs.toArray n)] hG hr X T ?k6 ?k7 ?k8 ?k9 ?kB ?m ?c5 ?c2 ?c3 ?c4; (case k6 => k_is); (case k7 => k_is); (case k8 => (simp only [recursionLimit]; omega)); (case k9 => exact BindsTo.of_eq rfl); (case c5 => decide); (case kB => exact locs rfl); (case c2 => exact rfl); (case c3 => exact rfl); (case c4 => exact rfl))
  intro g L hh Gg Xg Tg kp F N l1 ng
  replace F : Fr g L hh (fun y => List.lookup y [((Str.ofString "token"), v), ((Str.ofString "self"), .ref x)]) := F
  clear X T l1
  (try dsimp only)
  (try k_fold)
  k_steps
  (with_reducible rename Fr _ _ _ _ => F1); (with_reducible rename News _ _ _ _ => N1)
  rw [List.push_toArray] at N1
  refine ret _ _ _ (kp_on kp F1 (allC (.inr ⟨hx, N1.get (by k_mem)⟩) (allC (.inr ⟨hdx, N1.get (by k_mem)⟩) (allC (.inl (.head _)) (List.forall_mem_nil _))))) (N1.get (by k_mem))
end
end Mine
end
section
open PySem PySem.W PyProof.Rows PySem.Calls PySem.Spec
namespace Mine
section
variable {w : World} {p : Program} {loose : List Str} {mean : ExcName → Option Value} {mg mb : Str → Option Value} {G : Heap} {s : Shared} {dp un : Nat} {fr : Option (List Env)} {gd : Option (List Code)} {Q E : Value → Shared → Prop}
theorem kl_last_app (cs : List Value) (x : Value) : kl_last (cs ++ [x]) = some (cs, x) := by
  cases e : kl_last (cs ++ [x]) with
  | none => exact absurd (kl_last_none e) (by simp)
  | some r =>
    have := kl_last_spec (p := r.1) (y := r.2) e
    obtain ⟨h1, h2⟩ := List.append_inj' this rfl
    cases h2
    rw [h1]

local macro_rules | `(tactic| walk_at "call builtin:list.pop") => `(tactic| (k_here; k_dflt (refine' kl_pop (p := cs) (y := x) ?F ?N ?e ?U ?z ?_; (case F => k_asm); (case N => k_asm); (case e => exact kl_last_app cs x); (case U => k_upd); (case z => (simp only [List.length_append, List.length_singleton]; rw [sizeLine_eq]; omega)); k_whole); intro h' F' N'))
local macro_rules | `(tactic| walk_at "eval Name") => `(tactic| (k_here; k_dflt (refine' nameX_F ?N ?c ?m ?d ?_ ?a ?b; (case a => rfl); (case b => rfl); (case N => k_asm); (case c => rfl); (case m => k_mem); (case d => k_asm); k_whole)))
set_option maxRecDepth 100000 in
set_option maxHeartbeats 8000000 in
theorem c_readN (hG : G.StaysIn s.heap) (X : (hd.heap_1 w.params).In G) (T : Top p loose mean mg mb G) (hdp : dp < 800) (hun : un < 8000)
   {lam c' cell sg : Addr} {oc o1 : Obj} {vs : Array Value} {cs : List Value} {k : Nat} {t tn : Tok} {params : Arguments} {body : Expr} {scope : Scope} {pm ctv x : Value}
   (hb : lamAt 1 (bodyAt (hd.heap_1 w.params) 123) = some (params, body, scope))
   (hlam : s.heap.get? lam = some (kla_obj (Str.ofString "<lambda>") (Str.ofString "_law_stream.<locals>.<lambda>") params body scope [(Str.ofString "signs", cell)] pm c' ctv)) (glam : G.get? lam = none)
   (hcell : s.heap.get? cell = some o1) (gcell : G.get? cell = none) (dcell : o1.data = .cell (some (.ref sg)))
   (hsg : s.heap.get? sg = some (listOf #[] k)) (gsg : G.get? sg = none)
   (hoc : s.heap.get? c' = some oc) (goc : G.get? c' = none) (d1 : oc.data = .fields vs) (d2 : vs[1]? = some (.str (Str.ofString "_law_stream.<locals>.<lambda>") tn)) (nec : @Ne Nat c' sg)
   
   (ret : ∀ h' tk' t', Keeps [] s.heap h' → Q (.str (Str.ofString "") t') (St s h' tk')) :
   wpAny (model PR w) (Ar dp un fr gd) (call (.ref lam) [.int 1 t]) Q E s := by
  refine wpAny_call ?_
  have ne1 : @Ne Nat lam sg := apart hlam hsg rfl
  have ne2 : @Ne Nat cell sg := fun q => by rw [q, hsg] at hcell; cases hcell; cases dcell
  have hfp : ∀ q ∈ ([(sg, listOf #[] k), (cell, o1), (lam, kla_obj (Str.ofString "<lambda>") (Str.ofString "_law_stream.<locals>.<lambda>") params body scope [(Str.ofString "signs", cell)] pm c' ctv), (c', oc)] : List (Addr × Obj)), s.heap.get? q.1 = some q.2 ∧ G.get? q.1 = none := by walk_at "fp"
  refine with_look (K := hd.heap_1 w.params) (f := 123) (by k_dflt k_is) fun eb => ?_
  rw [eb] at hb
  simp only [lamAt, List.getElem?_cons_succ, List.getElem?_cons_zero, Option.some.injEq, Prod.mk.injEq] at hb
  obtain ⟨rfl, rfl, rfl⟩ := hb
  clear eb
  k_dflt (refine' enterL (binds := [((Str.ofString "size"), .int 1 t)]) _ hG hfp X T ?k6 ?k7 ?k8 ?k9 ?kB ?m ?c5 ?c2 ?c3 ?c4; (case k6 => exact hlam); (case k7 => exact ⟨_, _, _, _, rfl, hoc, d1, d2⟩); (case k8 => (simp only [recursionLimit]; omega)); (case k9 => exact rfl); (case c5 => decide); (case kB => exact locs rfl); (case c2 => exact rfl); (case c3 => exact rfl); (case c4 => exact rfl))
  intro g L hh Gg Xg Tg kp F N l1 ng
  clear X T
  (try k_lt l1)
  replace F : Fr g L hh (fun y => List.lookup y [((Str.ofString "size"), .int 1 t)]) := F
  (try dsimp only)
  (try k_fold)
  k_steps
  exact ret _ _ _ (kp_same kp F N (fun q hq => (hfp q hq).1))
set_option maxRecDepth 100000 in
set_option maxHeartbeats 8000000 in
theorem c_readS (hG : G.StaysIn s.heap) (X : (hd.heap_1 w.params).In G) (T : Top p loose mean mg mb G) (hdp : dp < 800) (hun : un < 8000)
   {lam c' cell sg : Addr} {oc o1 : Obj} {vs : Array Value} {cs : List Value} {k : Nat} {t tn : Tok} {params : Arguments} {body : Expr} {scope : Scope} {pm ctv x : Value}
   (hb : lamAt 1 (bodyAt (hd.heap_1 w.params) 123) = some (params, body, scope))
   (hlam : s.heap.get? lam = some (kla_obj (Str.ofString "<lambda>") (Str.ofString "_law_stream.<locals>.<lambda>") params body scope [(Str.ofString "signs", cell)] pm c' ctv)) (glam : G.get? lam = none)
   (hcell : s.heap.get? cell = some o1) (gcell : G.get? cell = none) (dcell : o1.data = .cell (some (.ref sg)))
   (hsg : s.heap.get? sg = some (listOf (cs ++ [x]).toArray k)) (gsg : G.get? sg = none)
   (hoc : s.heap.get? c' = some oc) (goc : G.get? c' = none) (d1 : oc.data = .fields vs) (d2 : vs[1]? = some (.str (Str.ofString "_law_stream.<locals>.<lambda>") tn)) (nec : @Ne Nat c' sg)
   (hlen : cs.length < 100000)
   (ret : ∀ h' tk' k', Keeps [sg] s.heap h' → h'.get? sg = some (listOf cs.toArray k') → Q x (St s h' tk')) :
   wpAny (model PR w) (Ar dp un fr gd) (call (.ref lam) [.int 1 t]) Q E s := by
  refine wpAny_call ?_
  have ne1 : @Ne Nat lam sg := apart hlam hsg rfl
  have ne2 : @Ne Nat cell sg := fun q => by rw [q, hsg] at hcell; cases hcell; cases dcell
  have hfp : ∀ q ∈ ([(sg, listOf (cs ++ [x]).toArray k), (cell, o1), (lam, kla_obj (Str.ofString "<lambda>") (Str.ofString "_law_stream.<locals>.<lambda>") params body scope [(Str.ofString "signs", cell)] pm c' ctv), (c', oc)] : List (Addr × Obj)), s.heap.get? q.1 = some q.2 ∧ G.get? q.1 = none := by walk_at "fp"
  refine with_look (K := hd.heap_1 w.params) (f := 123) (by k_dflt k_is) fun eb => ?_
  rw [eb] at hb
  simp only [lamAt, List.getElem?_cons_succ, List.getElem?_cons_zero, Option.some.injEq, Prod.mk.injEq] at hb
  obtain ⟨rfl, rfl, rfl⟩ := hb
  clear eb
  k_dflt (refine' enterL (binds := [((Str.ofString "size"), .int 1 t)]) _ hG hfp X T ?k6 ?k7 ?k8 ?k9 ?kB ?m ?c5 ?c2 ?c3 ?c4; (case k6 => exact hlam); (case k7 => exact ⟨_, _, _, _, rfl, hoc, d1, d2⟩); (case k8 => (simp only [recursionLimit]; omega)); (case k9 => exact rfl); (case c5 => decide); (case kB => exact locs rfl); (case c2 => exact rfl); (case c3 => exact rfl); (case c4 => exact rfl))
  intro g L hh Gg Xg Tg kp F N l1 ng
  clear X T
  (try k_lt l1)
  replace F : Fr g L hh (fun y => List.lookup y [((Str.ofString "size"), .int 1 t)]) := F
  (try dsimp only)
  (try k_fold)
  k_steps
  refine wpAny_truthy_list (News.isList N (by k_mem)) (by simp; omega) ?_
  rw [show (!(cs ++ [x]).toArray.isEmpty) = true by simp]
  k_steps
  dsimp only
  refine kl_pop (its := (cs ++ [x]).toArray) (p := cs) (y := x) F N (kl_last_app cs x) (.head (by k_all)) (by simp only [List.length_append, List.length_singleton]; rw [sizeLine_eq]; omega) ?_
  intro h2 F2 N2
  refine ret _ _ _ (kp_on kp F2 (fun p hp => ?_)) (N2.get (by k_mem))
  rcases List.mem_cons.mp hp with rfl | hp
  · exact .inl (.head _)
  · exact .inr ⟨(hfp _ (.tail _ hp)).1, (N2 _ (.tail _ hp)).1⟩
end
end Mine
end
section
open PySem PySem.W PyProof.Rows PySem.Calls PySem.Spec
namespace Mine
section
variable {w : World} {p : Program} {loose : List Str} {mean : ExcName → Option Value} {mg mb : Str → Option Value} {G : Heap} {s : Shared} {dp un : Nat} {fr : Option (List Env)} {gd : Option (List Code)} {Q E : Value → Shared → Prop} {rest : List (Addr × Obj)}
structure IsStream (K : Frag) (rest : List (Addr × Obj)) (sg fs D lam cell : Addr) (of od ol oc : Obj) : Prop where
  f : ∃ fd sl, of = ⟨.type "function", some D, .func fd, sl⟩
  d : ∀ h : Heap, h.get? D = some od → h.Ns D (fun y => if y = Str.ofString "read" then some (.ref lam) else none)
  dd : ∃ es ep, od.data = .dict es ep
  l : ∃ params body scope pm c' ctv ocd vs t, lamAt 1 (bodyAt K 123) = some (params, body, scope) ∧ ol = kla_obj (Str.ofString "<lambda>") (Str.ofString "_law_stream.<locals>.<lambda>") params body scope [(Str.ofString "signs", cell)] pm c' ctv ∧
     (c', ocd) ∈ rest ∧ ocd.data = .fields vs ∧ vs[1]? = some (.str (Str.ofString "_law_stream.<locals>.<lambda>") t) ∧ @Ne Nat c' 30 ∧ @Ne Nat c' 37 ∧ @Ne Nat c' 118
  c : oc.data = .cell (some (.ref sg))
theorem nin3 {q a b c : Addr} {x y z : Obj} (h1 : @Ne Nat q a) (h2 : @Ne Nat q b) (h3 : @Ne Nat q c) : q ∉ ([(a, x), (b, y), (c, z)] : List (Addr × Obj)).map (·.1) := by
  simp only [List.map_cons, List.map_nil, List.mem_cons, List.not_mem_nil, or_false]
  rintro (h | h | h)
  · exact h1 h
  · exact h2 h
  · exact h3 h
theorem ns_of1 {h : Heap} {D : Addr} {m : Str → Option Value} (x : h.Ns1 D m) : ∃ od, h.get? D = some od ∧ (∃ es ep, od.data = .dict es ep) ∧ ∀ h' : Heap, h'.get? D = some od → h'.Ns D m := by
  obtain ⟨o, es, ep, ho, hd, hk, hu, hm⟩ := x
  exact ⟨o, ho, ⟨es, ep, hd⟩, fun h' e => ⟨o, es, ep, e, hd, hk, hm⟩⟩
set_option maxRecDepth 100000 in
set_option maxHeartbeats 8000000 in
theorem r_stream (hG : G.StaysIn s.heap) (X : (hd.heap_1 w.params).In G) (T : Top p loose mean mg mb G) (hdp : dp < 800) (hun : un < 8000) (C : CodeHd G 122 118) (R : Rest rest)
   {sg : Addr} (hr0 : ∀ q ∈ rest, s.heap.get? q.1 = some q.2 ∧ G.get? q.1 = none)
   (ret : ∀ (h' : Heap) (tk' : Nat) (fs D lam cell : Addr) (of od ol oc : Obj) (rest' : List (Addr × Obj)), Keeps (rest.map (·.1)) s.heap h' → IsStream (hd.heap_1 w.params) rest' sg fs D lam cell of od ol oc → (∀ q ∈ [(fs, of), (D, od), (lam, ol), (cell, oc)], s.heap.get? q.1 = none ∧ h'.get? q.1 = some q.2) → Rest rest' → SubR rest rest' → (∀ q ∈ rest', h'.get? q.1 = some q.2 ∧ G.get? q.1 = none) → Q (.ref fs) (St s h' tk')) :
   wpAny (model PR w) (Ar dp un fr gd) (call (.ref 123) [.ref sg]) Q E s := by
  obtain ⟨tl, Tl, htl⟩ := R.t3
  have hr : ∀ q ∈ tl, s.heap.get? q.1 = some q.2 ∧ G.get? q.1 = none := fun q hq => hr0 q (htl q hq)
  refine with_look (K := hd.heap_1 w.params) (f := 123) (by k_dflt k_is) fun eb => ?_
  replace eb := Hid.mk eb
  refine wpAny_call ?_
  cases Tl with
  | nil =>
    k_dflt (refine' enterC (binds := [((Str.ofString "signs"), .ref sg)]) _ hG hr X T ?k6 ?k7 ?k8 ?k9 ?kB ?kD ?m ?c2 ?c3 ?c4; (case k6 => k_is); (case k7 => k_is); (case k8 => (simp only [recursionLimit]; omega)); (case k9 => exact BindsTo.of_eq rfl); (case kB => exact rfl); (case kD => decide); (case c2 => exact rfl); (case c3 => exact rfl); (case c4 => exact rfl))
    intro g L hh tk cells Gg Xg Tg kp F N Y l1 ng
    clear X T
    obtain ⟨o1, hE, d1⟩ := CellsAre.one Y
    subst hE
    clear Y
    (try k_lt l1)
    (try dsimp only [List.nil_append, List.cons_append] at N)
    (try dsimp only)
    (try k_fold)
    have Cg : CodeHd g 122 118 := C.keeps fun b o e => Gg b o e
    k_steps
    (with_reducible rename Fr _ _ _ _ => F1); (with_reducible rename News _ _ _ _ => N1)
    refine fn_setRead (N1.get (by k_mem)) ?_
    intro h3 tk3 D fr3 lt3 e3 ns3 kp3
    obtain ⟨od, hod, hdd, hns⟩ := ns_of1 ns3
    rename_i f1 c1 oc1 vs1 t1 ct1 ha tka da1 da2 lA lB hb FA NA f2 c2 oc2 vs2 t2 ct2 hc tkc db1 db2 lC lD
    have hlt : ∀ q ∈ ([f1, f2, c1, c2, L + 1, 118] : List Addr), @LT.lt Nat _ q D := by
      refine allC (lt3 _ _ (N1.get (by k_mem))) (allC (lt3 _ _ (N1.get (by k_mem))) (allC (lt3 _ _ (N1.get (by k_mem))) (allC (lt3 _ _ (N1.get (by k_mem))) (allC (lt3 _ _ (N1.get (by k_mem))) (allC (lt3 _ _ (N1.get (by k_mem))) (List.forall_mem_nil _))))))
    have hfD := hlt f1 (.head _)
    have N3 := news_cons (p := (D, od)) (after_new F1 fr3 hod) <| news_cons (p := (f1, _)) (after_set N1 (by k_mem) e3) <| news_cons (p := (f2, _)) (after_old N1 kp3 (by k_mem) (fun z => (by omega : @Ne Nat f2 f1) (List.mem_singleton.mp z))) <| news_cons (p := (c2, _)) (after_old N1 kp3 (by k_mem) (fun z => (by omega : @Ne Nat c2 f1) (List.mem_singleton.mp z))) <| news_cons (p := (c1, _)) (after_old N1 kp3 (by k_mem) (fun z => (by omega : @Ne Nat c1 f1) (List.mem_singleton.mp z))) <| news_cons (p := ((L + 1), _)) (after_old N1 kp3 (by k_mem) (fun z => (by omega : @Ne Nat (L + 1) f1) (List.mem_singleton.mp z))) <| news_cons (p := (118, _)) (after_old N1 kp3 (by k_mem) (fun z => (by omega : @Ne Nat 118 f1) (List.mem_singleton.mp z))) <| (News.nil)
    have F3 := fr_updU F1 N1 (by k_mem) kp3
    clear F1 N1 FA NA
    k_steps
    (with_reducible rename Fr _ _ _ _ => F1); (with_reducible rename News _ _ _ _ => N1)
    dsimp only
    have tab : h3.get? 118 = some (tabObj #[rawInt 149, rawInt 13, .ref c1, rawInt 150, rawInt 18, .ref c2]) := N1.get (by k_mem)
    have T3 : TabTwo [(118, tabObj #[rawInt 149, rawInt 13, .ref c1, rawInt 150, rawInt 18, .ref c2]), (c1, oc1), (c2, oc2)] := .two da1 da2 (by omega) db1 db2 (by omega)
    have e3' : ∀ q ∈ [(118, tabObj #[rawInt 149, rawInt 13, .ref c1, rawInt 150, rawInt 18, .ref c2]), (c1, oc1), (c2, oc2)], h3.get? q.1 = some q.2 ∧ G.get? q.1 = none :=
      allC ⟨tab, (hr _ (.head _)).2⟩ (allC ⟨N1.get (by k_mem), g_none Gg (N1.fresh (by k_mem))⟩ (allC ⟨N1.get (by k_mem), g_none Gg (N1.fresh (by k_mem))⟩ (List.forall_mem_nil _)))
    have kq : Keeps [118] s.heap h3 := kp_keeps kp F1
    exact ret h3 _ f1 D f2 (L + 1) _ od _ o1 _ (keep_of_one kq (List.mem_map.mpr ⟨_, htl _ (.head _), rfl⟩))
      ⟨⟨_, _, rfl⟩, hns, hdd, ⟨_, _, _, _, c2, _, oc2, _, _, (by rw [eb.out]; rfl), rfl, List.mem_append_left _ (.tail _ (.tail _ (.head _))), db1, db2, by omega, by omega, by omega⟩, d1⟩
      (allC ⟨kp_fresh kp N1 (by k_mem) (fun z => (by omega : @Ne Nat f1 118) (List.mem_singleton.mp z)), N1.get (by k_mem)⟩ (allC ⟨kp_fresh kp N1 (by k_mem) (fun z => (by omega : @Ne Nat D 118) (List.mem_singleton.mp z)), N1.get (by k_mem)⟩ (allC ⟨kp_fresh kp N1 (by k_mem) (fun z => (by omega : @Ne Nat f2 118) (List.mem_singleton.mp z)), N1.get (by k_mem)⟩ (allC ⟨kp_fresh kp N1 (by k_mem) (fun z => (by omega : @Ne Nat (L + 1) 118) (List.mem_singleton.mp z)), N1.get (by k_mem)⟩ (List.forall_mem_nil _)))))
      (R.step3 .nil htl (fun q hq => (hr0 q hq).1) T3) (subR_filter T3.base.mem (.inr (.inr rfl))) (rest_after kq hr0 e3')

  | @two c1 c2 oc1 oc2 vs1 vs2 t1 t2 da1 da2 na db1 db2 nb =>
    have T0 : TabTwo [(118, tabObj #[rawInt 149, rawInt 13, .ref c1, rawInt 150, rawInt 18, .ref c2]), (c1, oc1), (c2, oc2)] := .two da1 da2 na db1 db2 nb
    have n30 : @Ne Nat c2 30 := by
      obtain ⟨tl1, Tl1, h1⟩ := R.t1
      exact T0.base.away Tl1.base (by decide) (fun q hq => (hr q hq).1) (fun q hq => (hr0 q (h1 q hq)).1) (c2, oc2) (.tail _ (.tail _ (.head _)))
    have n37 : @Ne Nat c2 37 := by
      obtain ⟨tl1, Tl1, h1⟩ := R.t2
      exact T0.base.away Tl1.base (by decide) (fun q hq => (hr q hq).1) (fun q hq => (hr0 q (h1 q hq)).1) (c2, oc2) (.tail _ (.tail _ (.head _)))
    k_dflt (refine' enterC (binds := [((Str.ofString "signs"), .ref sg)]) _ hG hr X T ?zk6 ?zk7 ?zk8 ?zk9 ?zkB ?zkD ?zm ?zc2 ?zc3 ?zc4; (case zk6 => k_is); (case zk7 => k_is); (case zk8 => (simp only [recursionLimit]; omega)); (case zk9 => exact BindsTo.of_eq rfl); (case zkB => exact rfl); (case zkD => decide); (case zc2 => exact rfl); (case zc3 => exact rfl); (case zc4 => exact rfl))
    intro g L hh tk cells Gg Xg Tg kp F N Y l1 ng
    clear X T
    obtain ⟨o1, hE, d1⟩ := CellsAre.one Y
    subst hE
    clear Y
    (try k_lt l1)
    (try dsimp only [List.nil_append, List.cons_append] at N)
    (try dsimp only)
    (try k_fold)
    have Cg : CodeHd g 122 118 := C.keeps fun b o e => Gg b o e
    k_steps
    (with_reducible rename Fr _ _ _ _ => F1); (with_reducible rename News _ _ _ _ => N1)
    refine fn_setRead (N1.get (by k_mem)) ?_
    intro h3 tk3 D fr3 lt3 e3 ns3 kp3
    obtain ⟨od, hod, hdd, hns⟩ := ns_of1 ns3
    rename_i f1 ct1 ha tka lA hb FA NA f2 ct2 hc tkc lC
    have hlt : ∀ q ∈ ([f1, f2, c1, c2, L + 1, 118] : List Addr), @LT.lt Nat _ q D := by
      refine allC (lt3 _ _ (N1.get (by k_mem))) (allC (lt3 _ _ (N1.get (by k_mem))) (allC (lt3 _ _ (N1.get (by k_mem))) (allC (lt3 _ _ (N1.get (by k_mem))) (allC (lt3 _ _ (N1.get (by k_mem))) (allC (lt3 _ _ (N1.get (by k_mem))) (List.forall_mem_nil _))))))
    have hfD := hlt f1 (.head _)
    have N3 := news_cons (p := (D, od)) (after_new F1 fr3 hod) <| news_cons (p := (f1, _)) (after_set N1 (by k_mem) e3) <| news_cons (p := (f2, _)) (after_old N1 kp3 (by k_mem) (fun z => (by omega : @Ne Nat f2 f1) (List.mem_singleton.mp z))) <| news_cons (p := (c2, _)) (after_old N1 kp3 (by k_mem) (fun z => (by omega : @Ne Nat c2 f1) (List.mem_singleton.mp z))) <| news_cons (p := (c1, _)) (after_old N1 kp3 (by k_mem) (fun z => (by omega : @Ne Nat c1 f1) (List.mem_singleton.mp z))) <| news_cons (p := ((L + 1), _)) (after_old N1 kp3 (by k_mem) (fun z => (by omega : @Ne Nat (L + 1) f1) (List.mem_singleton.mp z))) <| news_cons (p := (118, _)) (after_old N1 kp3 (by k_mem) (fun z => (by omega : @Ne Nat 118 f1) (List.mem_singleton.mp z))) <| (News.nil)
    have F3 := fr_updU F1 N1 (by k_mem) kp3
    clear F1 N1 FA NA
    k_steps
    (with_reducible rename Fr _ _ _ _ => F1); (with_reducible rename News _ _ _ _ => N1)
    dsimp only
    have tab : h3.get? 118 = some (tabObj #[rawInt 149, rawInt 13, .ref c1, rawInt 150, rawInt 18, .ref c2]) := N1.get (by k_mem)
    have T3 : TabTwo [(118, tabObj #[rawInt 149, rawInt 13, .ref c1, rawInt 150, rawInt 18, .ref c2]), (c1, oc1), (c2, oc2)] := .two da1 da2 na db1 db2 nb
    have e3' : ∀ q ∈ [(118, tabObj #[rawInt 149, rawInt 13, .ref c1, rawInt 150, rawInt 18, .ref c2]), (c1, oc1), (c2, oc2)], h3.get? q.1 = some q.2 ∧ G.get? q.1 = none :=
      allC ⟨tab, (hr _ (.head _)).2⟩ (allC ⟨N1.get (by k_mem), g_none Gg (N1.fresh (by k_mem))⟩ (allC ⟨N1.get (by k_mem), g_none Gg (N1.fresh (by k_mem))⟩ (List.forall_mem_nil _)))
    have kq : Keeps [118] s.heap h3 := kp_on kp F1 (allC (.inl (.head _)) (allC (.inr ⟨(hr _ (.tail _ (.head _))).1, N1.get (by k_mem)⟩) (allC (.inr ⟨(hr _ (.tail _ (.tail _ (.head _)))).1, N1.get (by k_mem)⟩) (List.forall_mem_nil _))))
    exact ret h3 _ f1 D f2 (L + 1) _ od _ o1 _ (keep_of_one kq (List.mem_map.mpr ⟨_, htl _ (.head _), rfl⟩))
      ⟨⟨_, _, rfl⟩, hns, hdd, ⟨_, _, _, _, c2, _, oc2, _, _, (by rw [eb.out]; rfl), rfl, List.mem_append_left _ (.tail _ (.tail _ (.head _))), db1, db2, by omega, by omega, by omega⟩, d1⟩
      (allC ⟨kp_fresh kp N1 (by k_mem) (nin3 (by omega) (by omega) (by omega)), N1.get (by k_mem)⟩ (allC ⟨kp_fresh kp N1 (by k_mem) (nin3 (by omega) (by omega) (by omega)), N1.get (by k_mem)⟩ (allC ⟨kp_fresh kp N1 (by k_mem) (nin3 (by omega) (by omega) (by omega)), N1.get (by k_mem)⟩ (allC ⟨kp_fresh kp N1 (by k_mem) (nin3 (by omega) (by omega) (by omega)), N1.get (by k_mem)⟩ (List.forall_mem_nil _)))))
      (R.step3 T3 htl (fun q hq => (hr0 q hq).1) T3) (subR_filter T3.base.mem (.inr (.inr rfl))) (rest_after kq hr0 e3')
end
end Mine
end
section
open PySem PySem.W PyProof.Rows PySem.Calls PySem.Spec Mine
local macro_rules | `(tactic| walk_at "al1") => `(tactic| (k_here; k_dflt (refine' set_dict ?k1 ?k2 ?k3 ?k4 ?k5 ?k6 ?k7 ?k8 ?k9 ?k10 ?k11 ?k12 ?k13 ?_; (case k1 => k_asm); (case k2 => k_asm); (case k3 => k_asm); (case k4 => k_inst); (case k5 => exact rfl); (case k6 => k_is); (case k7 => k_is); (case k8 => k_is); (case k9 => k_is); (case k10 => k_get); (case k11 => exact rfl); (case k12 => k_upd); (case k13 => exact Nat.le_of_ble_eq_true rfl); k_whole; intro h' F' N'; (try k_sweep))))
section
open PySem PySem.W PyProof.Rows PySem.Calls PySem.Spec
namespace Mine
section
variable {w : World} {p : Program} {loose : List Str} {mean : ExcName → Option Value} {mg mb : Str → Option Value} {G : Heap} {s : Shared} {dp un : Nat} {fr : Option (List Env)} {gd : Option (List Code)} {Q E : Value → Shared → Prop} {rest : List (Addr × Obj)}

theorem lex_ne {h : Heap} {dx pb fs : Addr} {k : Nat} {lxh : LexH} {ln ws v : Value} (hdx : h.get? dx = some (lexD lxh ln fs ws pb k)) (e : h.Ns dx (fun y => if y = Str.ofString "read" then some v else none)) : False := by
  obtain ⟨o, es, ep, ho, hd, hk, hm⟩ := e
  rw [hdx] at ho
  cases ho
  cases hd
  have := hm (Str.ofString "lineno")
  dsimp only at this
  rw [if_neg (by decide)] at this
  revert this
  simp [nsFind, findBy, Value.isStr]
local macro_rules | `(tactic| walk_at "setAttr ref") => `(tactic| walk_at "al1")
local macro_rules | `(tactic| walk_at "getMethod ref") => `(tactic| (refine Halt.out ?_))
set_option maxRecDepth 100000 in
set_option maxHeartbeats 8000000 in
theorem c_rcS (hG : G.StaysIn s.heap) (X : (hd.heap_1 w.params).In G) (T : Top p loose mean mg mb G) (hdp : dp < 780) (hun : un < 7800)
   {x dx pb : Addr} {n k : Nat} {lxh : LexH} {ln : Int} {tl tc : Tok} {ws : Value} {fs D lam cell sg : Addr} {of od ol oc : Obj} {cs : List Value} {ch : Str}
   (I : IsStream (hd.heap_1 w.params) rest sg fs D lam cell of od ol oc) (hrest : ∀ q ∈ rest, s.heap.get? q.1 = some q.2 ∧ G.get? q.1 = none)
   (hx : s.heap.get? x = some (instObj 112 dx)) (hdx : s.heap.get? dx = some (lexD lxh (.int ln tl) fs ws pb k)) (gx : G.get? x = none) (gdx : G.get? dx = none)
   (hf : s.heap.get? fs = some of) (gf : G.get? fs = none) (hD : s.heap.get? D = some od) (gD : G.get? D = none) (hl : s.heap.get? lam = some ol) (gl : G.get? lam = none) (hc : s.heap.get? cell = some oc) (gc : G.get? cell = none)
   (hsg : s.heap.get? sg = some (listOf (cs ++ [Value.str ch tc]).toArray n)) (gsg : G.get? sg = none) (hlen : cs.length < 100000) (hln : 0 ≤ ln) (hln2 : ln < 100000)
   (ret : ∀ h' tk' n' tl', Keeps [sg, dx] s.heap h' → h'.get? sg = some (listOf cs.toArray n') → h'.get? dx = some (lexD lxh (.int (if ch = Str.ofString "\n" then ln + 1 else ln) tl') fs ws pb k) → Q (.str ch tc) (St s h' tk')) :
   codeAny (model PR w) (Ar dp un fr gd) (.call (.ref 95) ⟨[.ref x], []⟩) (fun r s' => match r with | .ok (.ret v) => Q v s' | .ok _ => False | .error e => E e s') s := by
  obtain ⟨⟨fd, sl, rfl⟩, hns, ⟨es, ep, hdd⟩, ⟨params, body, scope, pm, c2, ctv, ocd, vs, t, hb, rfl, hoc, e1, e2, n1, n2, n3⟩, d1⟩ := I
  have hc2 := (hrest _ hoc).1
  have gc2 := (hrest _ hoc).2
  replace hb := Hid.mk hb
  have m1 : @Ne Nat x dx := apart hx hdx rfl
  have m2 : @Ne Nat dx sg := apart hdx hsg rfl
  have m3 : @Ne Nat fs dx := apart hf hdx rfl
  have m4 : @Ne Nat D dx := fun q => by rw [q] at hD hns; exact lex_ne hdx (hns _ hD)
  have m5 : @Ne Nat lam dx := apart hl hdx rfl
  have m6 : @Ne Nat cell dx := fun q => by rw [q, hdx] at hc; cases hc; cases d1
  have m7 : @Ne Nat c2 dx := fun q => by rw [q, hdx] at hc2; cases hc2; cases e1
  have o1 : @Ne Nat x sg := apart hx hsg rfl
  have o3 : @Ne Nat fs sg := apart hf hsg rfl
  have o4 : @Ne Nat D sg := fun q => by rw [q, hsg] at hD; rw [← Option.some.inj hD] at hdd; cases hdd
  have o5 : @Ne Nat lam sg := apart hl hsg rfl
  have o6 : @Ne Nat cell sg := fun q => by rw [q, hsg] at hc; cases hc; cases d1
  have o7 : @Ne Nat c2 sg := fun q => by rw [q, hsg] at hc2; cases hc2; cases e1
  have hr : ∀ q ∈ ([(x, instObj 112 dx), (dx, lexD lxh (.int ln tl) fs ws pb k), (fs, ⟨.type "function", some D, .func fd, sl⟩), (D, od), (lam, kla_obj (Str.ofString "<lambda>") (Str.ofString "_law_stream.<locals>.<lambda>") params body scope [(Str.ofString "signs", cell)] pm c2 ctv), (cell, oc), (c2, ocd), (sg, listOf (cs ++ [Value.str ch tc]).toArray n)] : List (Addr × Obj)), s.heap.get? q.1 = some q.2 ∧ G.get? q.1 = none := by walk_at "fp"
  k_dflt (refine' enterK (binds := [((Str.ofString "self"), .ref x)]) [(x, instObj 112 dx), (dx, lexD lxh (.int ln tl) fs ws pb k), (fs, ⟨.type "function", some D, .func fd, sl⟩), (D, od), (lam, kla_obj (Str.ofString "<lambda>") (Str.ofString "_law_stream.<locals>.<lambda>") params body scope [(Str.ofString "signs", cell)] pm c2 ctv), (cell, oc), (c2, ocd), (sg, listOf (cs ++ [Value.str ch tc]).toArray n)] hG hr X T ?k6 ?k7 ?k8 ?k9 ?kB ?m ?c5 ?c2 ?c3 ?c4; (case k6 => k_is); (case k7 => k_is); (case k8 => (simp only [recursionLimit]; omega)); (case k9 => exact BindsTo.of_eq rfl); (case c5 => decide); (case kB => exact locs rfl); (case c2 => exact rfl); (case c3 => exact rfl); (case c4 => exact rfl))
  intro g L hh Gg Xg Tg kp F N l1 ng
  replace F : Fr g L hh (fun y => List.lookup y [((Str.ofString "self"), .ref x)]) := F
  clear X T l1
  (try dsimp only)
  (try k_fold)
  k_steps
  refine ⟨?_⟩
  (with_reducible rename Fr _ _ _ _ => F1); (with_reducible rename News _ _ _ _ => N1)
  refine fn_getRead (N1.get (by k_mem)) (hns _ (N1.get (by k_mem))) rfl ?_
  intro tk2
  dsimp only
  refine callWith_F (FnAt.of N1 (by k_mem)) ?_
  k_steps
  (with_reducible rename Fr _ _ _ _ => F1); (with_reducible rename News _ _ _ _ => N1)
  refine c_readS (G := g) (dp := dp + 1) (un := un + 3) (fun b o e => F1.keep b o e) Xg Tg (by omega) (by omega) hb.out (N1.get (by k_mem)) (N1.fresh (by k_mem)) (N1.get (by k_mem)) (N1.fresh (by k_mem)) d1 (N1.get (by k_mem)) (N1.fresh (by k_mem)) (N1.get (by k_mem)) (N1.fresh (by k_mem)) e1 e2 o7 hlen ?_
  intro h3 tk3 k3 kp3 e3
  have N3 := news_cons (p := (x, _)) (after_old N1 kp3 (by k_mem) (fun z => o1 (List.mem_singleton.mp z))) <| news_cons (p := (dx, _)) (after_old N1 kp3 (by k_mem) (fun z => m2 (List.mem_singleton.mp z))) <| news_cons (p := (fs, _)) (after_old N1 kp3 (by k_mem) (fun z => o3 (List.mem_singleton.mp z))) <| news_cons (p := (D, _)) (after_old N1 kp3 (by k_mem) (fun z => o4 (List.mem_singleton.mp z))) <| news_cons (p := (lam, _)) (after_old N1 kp3 (by k_mem) (fun z => o5 (List.mem_singleton.mp z))) <| news_cons (p := (cell, _)) (after_old N1 kp3 (by k_mem) (fun z => o6 (List.mem_singleton.mp z))) <| news_cons (p := (c2, _)) (after_old N1 kp3 (by k_mem) (fun z => o7 (List.mem_singleton.mp z))) <| news_cons (p := (sg, _)) (after_set N1 (by k_mem) e3) News.nil
  have F3 := fr_updU F1 N1 (by k_mem) kp3
  clear F1 N1
  k_steps
  all_goals dsimp only
  all_goals (with_reducible rename Fr _ _ _ _ => F1); (with_reducible rename News _ _ _ _ => N1)
  · refine' ret _ _ _ ?tq (kp_on kp F1 (allC (.inr ⟨hx, N1.get (by k_mem)⟩) (allC (.inl (.tail _ (.head _))) (allC (.inr ⟨hf, N1.get (by k_mem)⟩) (allC (.inr ⟨hD, N1.get (by k_mem)⟩) (allC (.inr ⟨hl, N1.get (by k_mem)⟩) (allC (.inr ⟨hc, N1.get (by k_mem)⟩) (allC (.inr ⟨hc2, N1.get (by k_mem)⟩) (allC (.inl (.head _)) (List.forall_mem_nil _)))))))))) (N1.get (by k_mem)) ?fi
    case fi =>
      rw [if_pos (eq_of_beq (by assumption))]
      exact N1.get (by k_mem)
  · refine ret _ _ _ tl (kp_on kp F1 (allC (.inr ⟨hx, N1.get (by k_mem)⟩) (allC (.inl (.tail _ (.head _))) (allC (.inr ⟨hf, N1.get (by k_mem)⟩) (allC (.inr ⟨hD, N1.get (by k_mem)⟩) (allC (.inr ⟨hl, N1.get (by k_mem)⟩) (allC (.inr ⟨hc, N1.get (by k_mem)⟩) (allC (.inr ⟨hc2, N1.get (by k_mem)⟩) (allC (.inl (.head _)) (List.forall_mem_nil _)))))))))) (N1.get (by k_mem)) ?_
    rw [if_neg (ne_of_beq_false (by assumption))]
    exact N1.get (by k_mem)
end
end Mine
end
section
open PySem PySem.W PyProof.Rows PySem.Calls PySem.Spec
namespace Mine
section
variable {w : World} {p : Program} {loose : List Str} {mean : ExcName → Option Value} {mg mb : Str → Option Value} {G : Heap} {s : Shared} {dp un : Nat} {fr : Option (List Env)} {gd : Option (List Code)} {Q E : Value → Shared → Prop} {rest : List (Addr × Obj)}
local macro_rules | `(tactic| walk_at "getMethod ref") => `(tactic| (refine Halt.out ?_))
set_option maxRecDepth 100000 in
set_option maxHeartbeats 8000000 in
theorem c_rcN (hG : G.StaysIn s.heap) (X : (hd.heap_1 w.params).In G) (T : Top p loose mean mg mb G) (hdp : dp < 780) (hun : un < 7800)
   {x dx pb : Addr} {n k : Nat} {lxh : LexH} {ln : Int} {tl : Tok} {ws : Value} {fs D lam cell sg : Addr} {of od ol oc : Obj} 
   (I : IsStream (hd.heap_1 w.params) rest sg fs D lam cell of od ol oc) (hrest : ∀ q ∈ rest, s.heap.get? q.1 = some q.2 ∧ G.get? q.1 = none)
   (hx : s.heap.get? x = some (instObj 112 dx)) (hdx : s.heap.get? dx = some (lexD lxh (.int ln tl) fs ws pb k)) (gx : G.get? x = none) (gdx : G.get? dx = none)
   (hf : s.heap.get? fs = some of) (gf : G.get? fs = none) (hD : s.heap.get? D = some od) (gD : G.get? D = none) (hl : s.heap.get? lam = some ol) (gl : G.get? lam = none) (hc : s.heap.get? cell = some oc) (gc : G.get? cell = none)
   (hsg : s.heap.get? sg = some (listOf #[] n)) (gsg : G.get? sg = none)
   (ret : ∀ h' tk' t', Keeps [] s.heap h' → Q (.str (Str.ofString "") t') (St s h' tk')) :
   codeAny (model PR w) (Ar dp un fr gd) (.call (.ref 95) ⟨[.ref x], []⟩) (fun r s' => match r with | .ok (.ret v) => Q v s' | .ok _ => False | .error e => E e s') s := by
  obtain ⟨⟨fd, sl, rfl⟩, hns, ⟨es, ep, hdd⟩, ⟨params, body, scope, pm, c2, ctv, ocd, vs, t, hb, rfl, hoc, e1, e2, n1, n2, n3⟩, d1⟩ := I
  have hc2 := (hrest _ hoc).1
  have gc2 := (hrest _ hoc).2
  replace hb := Hid.mk hb
  have m1 : @Ne Nat x dx := apart hx hdx rfl
  have m2 : @Ne Nat dx sg := apart hdx hsg rfl
  have m3 : @Ne Nat fs dx := apart hf hdx rfl
  have m4 : @Ne Nat D dx := fun q => by rw [q] at hD hns; exact lex_ne hdx (hns _ hD)
  have m5 : @Ne Nat lam dx := apart hl hdx rfl
  have m6 : @Ne Nat cell dx := fun q => by rw [q, hdx] at hc; cases hc; cases d1
  have m7 : @Ne Nat c2 dx := fun q => by rw [q, hdx] at hc2; cases hc2; cases e1
  have o1 : @Ne Nat x sg := apart hx hsg rfl
  have o3 : @Ne Nat fs sg := apart hf hsg rfl
  have o4 : @Ne Nat D sg := fun q => by rw [q, hsg] at hD; rw [← Option.some.inj hD] at hdd; cases hdd
  have o5 : @Ne Nat lam sg := apart hl hsg rfl
  have o6 : @Ne Nat cell sg := fun q => by rw [q, hsg] at hc; cases hc; cases d1
  have o7 : @Ne Nat c2 sg := fun q => by rw [q, hsg] at hc2; cases hc2; cases e1
  have hr : ∀ q ∈ ([(x, instObj 112 dx), (dx, lexD lxh (.int ln tl) fs ws pb k), (fs, ⟨.type "function", some D, .func fd, sl⟩), (D, od), (lam, kla_obj (Str.ofString "<lambda>") (Str.ofString "_law_stream.<locals>.<lambda>") params body scope [(Str.ofString "signs", cell)] pm c2 ctv), (cell, oc), (c2, ocd), (sg, listOf #[] n)] : List (Addr × Obj)), s.heap.get? q.1 = some q.2 ∧ G.get? q.1 = none := by walk_at "fp"
  k_dflt (refine' enterK (binds := [((Str.ofString "self"), .ref x)]) [(x, instObj 112 dx), (dx, lexD lxh (.int ln tl) fs ws pb k), (fs, ⟨.type "function", some D, .func fd, sl⟩), (D, od), (lam, kla_obj (Str.ofString "<lambda>") (Str.ofString "_law_stream.<locals>.<lambda>") params body scope [(Str.ofString "signs", cell)] pm c2 ctv), (cell, oc), (c2, ocd), (sg, listOf #[] n)] hG hr X T ?k6 ?k7 ?k8 ?k9 ?kB ?m ?c5 ?c2 ?c3 ?c4; (case k6 => k_is); (case k7 => k_is); (case k8 => (simp only [recursionLimit]; omega)); (case k9 => exact BindsTo.of_eq rfl); (case c5 => decide); (case kB => exact locs rfl); (case c2 => exact rfl); (case c3 => exact rfl); (case c4 => exact rfl))
  intro g L hh Gg Xg Tg kp F N l1 ng
  replace F : Fr g L hh (fun y => List.lookup y [((Str.ofString "self"), .ref x)]) := F
  clear X T l1
  (try dsimp only)
  (try k_fold)
  k_steps
  refine ⟨?_⟩
  (with_reducible rename Fr _ _ _ _ => F1); (with_reducible rename News _ _ _ _ => N1)
  refine fn_getRead (N1.get (by k_mem)) (hns _ (N1.get (by k_mem))) rfl ?_
  intro tk2
  dsimp only
  refine callWith_F (FnAt.of N1 (by k_mem)) ?_
  k_steps
  (with_reducible rename Fr _ _ _ _ => F1); (with_reducible rename News _ _ _ _ => N1)
  refine c_readN (cs := []) (x := .none) (G := g) (dp := dp + 1) (un := un + 3) (fun b o e => F1.keep b o e) Xg Tg (by omega) (by omega) hb.out (N1.get (by k_mem)) (N1.fresh (by k_mem)) (N1.get (by k_mem)) (N1.fresh (by k_mem)) d1 (N1.get (by k_mem)) (N1.fresh (by k_mem)) (N1.get (by k_mem)) (N1.fresh (by k_mem)) e1 e2 o7 ?_
  intro h3 tk3 t3 kp3
  have N3 := news_same N1 kp3
  have F3 := after_fr (S := []) F1 kp3 (fun _ h => nomatch h)
  clear F1 N1
  k_steps
  all_goals dsimp only
  all_goals (with_reducible rename Fr _ _ _ _ => F1); (with_reducible rename News _ _ _ _ => N1)
  exact ret _ _ _ (kp_same kp F1 N1 (fun q hq => (hr q hq).1))
end
end Mine
end
section
open PySem PySem.W PyProof.Rows PySem.Calls PySem.Spec
open Builtin
set_option maxRecDepth 100000
namespace Mine
theorem slot_ci_next : Slot "callable_iterator" "__next__" "callable_iterator.__next__" :=
  .of (owner := "callable_iterator") (n := "__next__") (by rw [typeLookup_type, builtinLookup_eq_fast]; kernel_rfl) (by decide +kernel) (by decide +kernel) (by decide +kernel)
    (by first | exact .inl (by decide +kernel) | exact .inr (by decide +kernel)) (by rw [isSubtype_type]; kernel_rfl)
theorem entry_ci_next : entryFor table "callable_iterator.__next__" = some Builtin.«callable_iterator.__next__» := entryFor_of_fast (by kernel_rfl)
theorem args_ci_next (a : Value) : argsOk "callable_iterator.__next__" ⟨[a], []⟩ := by
  unfold argsOk
  rw [signature?_of (id := "callable_iterator.__next__") (n := ['_', '_', 't', 'x', 'e', 'n', '_', '_']) (o := ['r', 'o', 't', 'a', 'r', 'e', 't', 'i', '_', 'e', 'l', 'b', 'a', 'l', 'l', 'a', 'c']) (rows := Manifest.sig_callable_iterator) (by kernel_rfl) (by kernel_rfl)]
  kernel_rfl
section
variable {prog : Program} {w : World} {M : Model} {A : Around} {E : Value → Shared → Prop} {s : Shared}
theorem wpAny_callBorrowed {f : Value} {pos : List Value} {Q : Value → Shared → Prop}
    (hc : codeAny M A (.call f ⟨pos, []⟩) (fun r s' => match r with | .ok (.ret v) => Q v s' | .ok _ => False | .error e => E e s') s) :
    wpAny M A (callBorrowed f pos) Q E s := fun Γ p hΓ => by
  have h := hc _ p rfl (hΓ.enter (.call f ⟨pos, []⟩) none p (by intro x; cases x))
  unfold callBorrowed
  rw [Sem.wp_call]
  refine wpCode_mono (fun r s' hr => ?_) h
  cases r with
  | error e => exact hr
  | ok fl => cases fl <;> exact hr
abbrev ciObj (mo : Addr) (t0 : Tok) : Obj := { cls := .type "callable_iterator", data := .fields #[.ref mo, .str (Str.ofString "") t0, .bool false] }
abbrev ciEnd : Obj := { cls := .type "callable_iterator", data := .fields #[.none, .none, .bool true] }
theorem borrows_m {mo f : Addr} {x : Value} {fo : Obj} {fd : FuncData} {Q : Bool → Shared → Prop} (hmo : s.heap.get? mo = some (methodObj (.ref f) x)) (hf : s.heap.get? f = some fo) (hfd : fo.data = .func fd) (h : Q true s) :
    wpAny M A (borrowsExactly (.ref mo)) Q E s := by
  unfold borrowsExactly
  refine wpAny_bind (wpAny_load hmo ?_)
  show wpAny M A (if (Value.type "method" == Value.type "method") = true then _ else _) Q E s
  rw [if_pos (by decide)]
  refine wpAny_bind (wpAny_load hf ?_)
  rw [hfd]
  exact wpAny_pure h
/-- what comes back from the method of a callable iterator -/
def CiBack (it mo : Addr) (t0 : Tok) (f : Addr) (x : Value) (Q : Option Value → Shared → Prop) (v : Value) (s' : Shared) : Prop :=
  ∃ ch t, v = .str ch t ∧ s'.heap.get? it = some (ciObj mo t0) ∧ s'.heap.get? mo = some (methodObj (.ref f) x) ∧ (∃ fo fd, s'.heap.get? f = some fo ∧ fo.data = .func fd) ∧
    (if ch = Str.ofString "" then ∀ h', Heap.ExtBut it s'.heap h' → h'.get? it = some ciEnd → Q none { s' with heap := h' } else Q (some v) s')
theorem next_ci (hh : A.handled = none) {it mo f : Addr} {t0 : Tok} {x : Value} {fo : Obj} {fd : FuncData} {Q : Option Value → Shared → Prop} (hit : s.heap.get? it = some (ciObj mo t0))
    (hmo : s.heap.get? mo = some (methodObj (.ref f) x)) (hf : s.heap.get? f = some fo) (hfd : fo.data = .func fd)
    (h : codeAny (model prog w) A.in1 (.call (.ref f) ⟨[x], []⟩) (fun r s' => match r with | .ok (.ret v) => CiBack it mo t0 f x Q v s' | .ok _ => False | .error _ => False) s) :
    wpAny (model prog w) A (pyNext (.ref it)) Q E s := by
  have hT : s.TypeIs (.ref it) "callable_iterator" := ⟨_, hit, rfl⟩
  unfold pyNext
  refine wpAny_bind (wpAny_attempt (wpAny_callSpecial?_slot (name := Str.ofString "__next__") hT slot_ci_next
    (wpAny_call_entry slot_ci_next hT entry_ci_next ?_ (args_ci_next _))))
  unfold Builtin.«callable_iterator.__next__»
  refine wpAny_bind (wpAny_pure ?_)
  refine wpAny_bind (wpAny_field hit rfl (i := 2) (x := .bool false) rfl ?_)
  rw [if_neg (by decide)]
  refine wpAny_bind (wpAny_field hit rfl (i := 0) (x := .ref mo) rfl ?_)
  refine wpAny_bind (wpAny_attempt ?_)
  unfold callOutOfASlot
  refine wpAny_bind (borrows_m hmo hf hfd ?_)
  rw [if_pos rfl]
  refine wpAny_callBorrowed (method_call hmo (codeAny_mono h fun r s' hr => ?_))
  cases r with
  | error e => exact hr.elim
  | ok fl =>
  cases fl with
  | ret v =>
    obtain ⟨ch, t, rfl, hit', hmo', ⟨fo', fd', hf', hfd'⟩, hq⟩ := hr
    dsimp only
    refine wpAny_bind (wpAny_field hit' rfl (i := 2) (x := .bool false) rfl ?_)
    rw [if_neg (by decide)]
    refine wpAny_bind (wpAny_field hit' rfl (i := 1) (x := .str (Str.ofString "") t0) rfl ?_)
    refine wpAny_bind (wpAny_holding (eqBool_str ?_))
    by_cases e : ch = Str.ofString ""
    · rw [if_pos e] at hq
      rw [e, if_neg (by decide)]
      repeat (any_goals (first | (with_reducible refine wpAny_bind (wpAny_field hit' rfl rfl ?_)) | wp_step))
      rw [hfd']
      refine wpAny_pure ?_
      dsimp only
      rw [if_pos rfl]
      refine wpAny_pure ?_
      refine wpAny_bind (wpAny_setField (vs := #[.ref mo, .str (Str.ofString "") t0, .bool false]) hit' rfl (by simp) ?_)
      have g1 := Heap.get?_update_self (Obj.mapFields (·.setIfInBounds 0 .none)) hit' rfl
      refine wpAny_bind (wpAny_setField (vs := #[.none, .str (Str.ofString "") t0, .bool false]) g1 rfl (by simp) ?_)
      have g2 := Heap.get?_update_self (Obj.mapFields (·.setIfInBounds 1 .none)) g1 rfl
      refine wpAny_setField (vs := #[.none, .none, .bool false]) g2 rfl (by simp) ?_
      show wpAny _ _ (newExc (.type "StopIteration") [] >>= _) _ _ _
      refine wpAny_bind ?_
      simp only [newExc, newTuple]
      refine wpAny_bind (wpAny_newObj_type ?_ (by size_fits))
      refine wpAny_bind (m := firstArgMember _ _) (wpAny_of_eq (a := Value.none) (by first | rfl | (simp only [firstArgMember]; rfl)) ?_)
      refine wpAny_newObj_type ?_ (by size_fits)
      simp only [raiseNew]
      refine wpAny_bind (wpAny_handled ?_)
      rw [show A.in1.handled = none from hh]
      refine wpAny_bind (wpAny_pure (wpAny_throw ?_))
      refine wpAny_bind (wpAny_isInstance (T := "StopIteration") (b := true) ⟨_, Heap.get?_push_size _ rfl, rfl⟩ isSubtype_stop ?_)
      refine wpAny_pure (hq _ ?_ ?_)
      · intro b o nb eb
        refine Heap.get?_push_of_some _ (Heap.get?_push_of_some _ ?_)
        rw [Heap.get?_update_ne _ _ _ _ nb, Heap.get?_update_ne _ _ _ _ nb, Heap.get?_update_ne _ _ _ _ nb]
        exact eb
      · refine Heap.get?_push_of_some _ (Heap.get?_push_of_some _ ?_)
        exact Heap.get?_update_self (Obj.mapFields (·.setIfInBounds 2 (.bool true))) g2 rfl
    · rw [if_neg e] at hq
      rw [if_pos (by simpa using fun q => e q.symm)]
      exact wpAny_pure ⟨_, rfl, wpAny_pure hq⟩
  | next => exact hr.elim
  | brk => exact hr.elim
  | cont => exact hr.elim
theorem next_ciEnd (hh : A.handled = none) {it : Addr} {Q : Option Value → Shared → Prop} (hit : s.heap.get? it = some ciEnd) (h : ∀ h', (∀ b o, s.heap.get? b = some o → h'.get? b = some o) → Q none { s with heap := h' }) :
    wpAny (model prog w) A (pyNext (.ref it)) Q E s := by
  have hT : s.TypeIs (.ref it) "callable_iterator" := ⟨_, hit, rfl⟩
  unfold pyNext
  refine wpAny_bind (wpAny_attempt (wpAny_callSpecial?_slot (name := Str.ofString "__next__") hT slot_ci_next
    (wpAny_call_entry slot_ci_next hT entry_ci_next ?_ (args_ci_next _))))
  unfold Builtin.«callable_iterator.__next__»
  refine wpAny_bind (wpAny_pure ?_)
  refine wpAny_bind (wpAny_field hit rfl (i := 2) (x := .bool true) rfl ?_)
  rw [if_pos (by decide)]
  refine wpAny_bind (wpAny_rule ?_)
  show wpAny _ _ ((newExc (.type "StopIteration") [] >>= _) >>= _) _ _ _
  refine wpAny_bind (wpAny_bind ?_)
  simp only [newExc, newTuple]
  refine wpAny_bind (wpAny_newObj_type ?_ (by size_fits))
  refine wpAny_bind (m := firstArgMember _ _) (wpAny_of_eq (a := Value.none) (by first | rfl | (simp only [firstArgMember]; rfl)) ?_)
  refine wpAny_newObj_type ?_ (by size_fits)
  simp only [raiseNew]
  refine wpAny_bind (wpAny_handled ?_)
  rw [show A.in1.handled = none from hh]
  refine wpAny_bind (wpAny_pure (wpAny_throw ?_))
  refine wpAny_bind (wpAny_isInstance (T := "StopIteration") (b := true) ⟨_, Heap.get?_push_size _ rfl, rfl⟩ isSubtype_stop ?_)
  refine wpAny_pure (h _ ?_)
  intro b o eb
  exact Heap.get?_push_of_some _ (Heap.get?_push_of_some _ eb)
end
theorem meth_callable : typeLookup (.type "method") (Str.ofString "__call__") = pure (some (.builtin "method.__call__")) := by rw [typeLookup_type, builtinLookup_eq_fast]; kernel_rfl
theorem args_iter2 (a b : Value) : argsOk "iter" ⟨[a, b], []⟩ := by unfold argsOk; kernel_rfl
section
variable {prog : Program} {w : World} {M : Model} {A : Around} {E : Value → Shared → Prop} {s : Shared} {h₀ : Heap} {L : Addr} {m : Str → Option Value} {news : List (Addr × Obj)}
theorem call_iter2 {mo : Addr} {f x : Value} {t0 : Tok} {Q : Value → Shared → Prop} (F : Fr h₀ L s.heap m) (N : News h₀ L s.heap news) (hm : (mo, methodObj f x) ∈ news)
    (h : ∀ q h', Fr h₀ L h' m → News h₀ L h' ((q, ciObj mo t0) :: news) → (∀ p ∈ news, p.1 < q) → Q (.ref q) { s with heap := h' }) :
    wpAny (model prog w) A (call (.builtin "iter") [.ref mo, .str (Str.ofString "") t0]) Q E s := by
  have hT : s.TypeIs (.ref mo) "method" := ⟨_, (N _ hm).1, rfl⟩
  refine call_function_entry (by decide +kernel) (by decide +kernel) kdk_entry_iter (args_iter2 _ _) ?_
  unfold Builtin.«iter»
  refine wpAny_bind (wpAny_of_eq (a := [.ref mo, .str (Str.ofString "") t0]) (by first | rfl | kernel_rfl) ?_)
  dsimp only
  refine wpAny_bind (wpAny_specialOf hT meth_callable ?_)
  rw [if_neg (by simp)]
  refine wpAny_bind (wpAny_rule ?_)
  refine wpAny_bind ?_
  refine wpAny_newObj_type ?_
  exact wpAny_pure ⟨_, rfl, h _ _ (F.push _) (N.push F _) fun p hp => Heap.lt_size (N p hp).1⟩
end
theorem slot_ci_iter : Slot "callable_iterator" "__iter__" "callable_iterator.__iter__" :=
  .of (owner := "callable_iterator") (n := "__iter__") (by rw [typeLookup_type, builtinLookup_eq_fast]; kernel_rfl) (by decide +kernel) (by decide +kernel) (by decide +kernel)
    (by first | exact .inl (by decide +kernel) | exact .inr (by decide +kernel)) (by rw [isSubtype_type]; kernel_rfl)
theorem entry_ci_iter : entryFor table "callable_iterator.__iter__" = some Builtin.«dict_keyiterator.__iter__» :=
  entryFor_alias (id' := "dict_keyiterator.__iter__") (by kernel_rfl) rfl (by decide +kernel) (by kernel_rfl)
theorem args_ci_iter (a : Value) : argsOk "callable_iterator.__iter__" ⟨[a], []⟩ := by
  unfold argsOk
  rw [signature?_of (id := "callable_iterator.__iter__") (n := ['_', '_', 'r', 'e', 't', 'i', '_', '_']) (o := ['r', 'o', 't', 'a', 'r', 'e', 't', 'i', '_', 'e', 'l', 'b', 'a', 'l', 'l', 'a', 'c']) (rows := Manifest.sig_callable_iterator) (by kernel_rfl) (by kernel_rfl)]
  kernel_rfl
theorem iter_ci {prog : Program} {w : World} {A : Around} {E : Value → Shared → Prop} {s : Shared} {it mo : Addr} {t0 : Tok} {Q : Value → Shared → Prop} (hit : s.heap.get? it = some (ciObj mo t0)) (h : Q (.ref it) s) : wpAny (model prog w) A (pyIter (.ref it)) Q E s := by
  have hT : s.TypeIs (.ref it) "callable_iterator" := ⟨_, hit, rfl⟩
  refine wpAny_pyIter_slot hT slot_ci_iter (wpAny_call_entry slot_ci_iter hT entry_ci_iter ?_ (args_ci_iter _))
  show wpAny _ _ (ret (.ref it)) _ _ s
  exact wpAny_pure ⟨_, rfl, "callable_iterator", _, hT, slot_ci_next.lookup, h⟩
end Mine
end
section
open PySem PySem.W PyProof.Rows PySem.Calls PySem.Spec
namespace Mine
/-- the text of these signs -/
def S (l : List Nat) : Str := ⟨l.toArray⟩
theorem S_app (a b : List Nat) : S a ++ S b = S (a ++ b) := by
  show Str.mk (a.toArray ++ b.toArray) = Str.mk (a ++ b).toArray
  simp
theorem S_len (a : List Nat) : (S a).length = a.length := by show a.toArray.size = _; simp
theorem S_inj {a b : List Nat} (h : S a = S b) : a = b := by
  have : a.toArray = b.toArray := congrArg Str.cps h
  simpa using this
theorem S_of (x : Str) : S x.cps.toList = x := by cases x; simp [S]
/-- two lists, item by item -/
inductive All2 {α β : Type} (R : α → β → Prop) : List α → List β → Prop
  | nil : All2 R [] []
  | cons {a : α} {b : β} {as : List α} {bs : List β} : R a b → All2 R as bs → All2 R (a :: as) (b :: bs)
namespace All2
variable {α β : Type} {R : α → β → Prop}
theorem length {as : List α} {bs : List β} (h : All2 R as bs) : as.length = bs.length := by
  induction h with
  | nil => rfl
  | cons _ _ ih => simp [ih]
theorem append {as as' : List α} {bs bs' : List β} (h : All2 R as bs) (h' : All2 R as' bs') : All2 R (as ++ as') (bs ++ bs') := by
  induction h with
  | nil => exact h'
  | cons r _ ih => exact .cons r ih
theorem snoc {as : List α} {bs : List β} {a : α} {b : β} (h : All2 R as bs) (r : R a b) : All2 R (as ++ [a]) (bs ++ [b]) := h.append (.cons r .nil)
theorem rev {as : List α} {bs : List β} (h : All2 R as bs) : All2 R as.reverse bs.reverse := by
  induction h with
  | nil => exact .nil
  | cons r _ ih => rw [List.reverse_cons, List.reverse_cons]; exact ih.snoc r
theorem get {as : List α} {bs : List β} (h : All2 R as bs) : ∀ {i : Nat} {b : β}, bs[i]? = some b → ∃ a, as[i]? = some a ∧ R a b := by
  induction h with
  | nil => intro i b e; simp at e
  | cons r _ ih =>
    intro i b e
    cases i with
    | zero => simp at e; exact ⟨_, by simp, e ▸ r⟩
    | succ i => simpa using ih (by simpa using e)
theorem getL {as : List α} {bs : List β} (h : All2 R as bs) : ∀ {i : Nat} {a : α}, as[i]? = some a → ∃ b, bs[i]? = some b ∧ R a b := by
  induction h with
  | nil => intro i b e; simp at e
  | cons r _ ih =>
    intro i b e
    cases i with
    | zero => simp at e; exact ⟨_, by simp, e ▸ r⟩
    | succ i => simpa using ih (by simpa using e)
theorem mono {R' : α → β → Prop} {as : List α} {bs : List β} (h : All2 R as bs) (k : ∀ a b, R a b → R' a b) : All2 R' as bs := by
  induction h with
  | nil => exact .nil
  | cons r _ ih => exact .cons (k _ _ r) ih
end All2
/-- the stack of the signs r, the next one last -/
def IsStk (vs : List Value) (r : List Nat) : Prop := All2 (fun v c => ∃ t, v = .str (S [c]) t) vs.reverse r
theorem IsStk.nil {vs : List Value} (h : IsStk vs []) : vs = [] := by
  unfold IsStk at h
  generalize e : vs.reverse = u at h
  cases h
  simpa using e
theorem IsStk.cons {vs : List Value} {c : Nat} {r : List Nat} (h : IsStk vs (c :: r)) : ∃ vs' t, vs = vs' ++ [.str (S [c]) t] ∧ IsStk vs' r := by
  unfold IsStk at h
  generalize e : vs.reverse = u at h
  cases h with
  | @cons a _ l _ h1 h2 =>
    obtain ⟨t, rfl⟩ := h1
    refine ⟨l.reverse, t, ?_, ?_⟩
    · have := congrArg List.reverse e
      simpa using this
    · unfold IsStk; simpa using h2
theorem IsStk.length {vs : List Value} {r : List Nat} (h : IsStk vs r) : vs.length = r.length := by
  have := All2.length h
  simpa using this
def esc : List Nat → List Nat
  | [] => []
  | c :: cs => 92 :: c :: esc cs
def qt : List Nat → List Nat
  | [] => []
  | c :: cs => if c = 34 ∨ c = 92 then 92 :: c :: qt cs else c :: qt cs
/-- the line ends -/
def nl : List Nat → Int
  | [] => 0
  | c :: cs => (if c = 10 then 1 else 0) + nl cs
theorem nl_nonneg : ∀ l, 0 ≤ nl l
  | [] => Int.le_refl _
  | c :: cs => by have := nl_nonneg cs; unfold nl; split <;> omega
theorem nl_app : ∀ a b, nl (a ++ b) = nl a + nl b
  | [], b => by simp [nl]
  | c :: cs, b => by rw [List.cons_append, nl, nl, nl_app cs b]; omega
/-- what a token is read from -/
inductive Tk : List Nat → List Nat → List Nat → Prop
  | quo (cs r : List Nat) : Tk (34 :: (qt cs ++ 34 :: r)) cs r
  | bare (c : Nat) (cs : List Nat) (sep : Nat) (r : List Nat) : sep = 10 ∨ sep = 9 → Tk (92 :: c :: (esc cs ++ sep :: r)) (c :: cs) r
  | z : Tk [122] [122] []
  | eof : Tk [] [] []
end Mine
end
section
open PySem PySem.W PyProof.Rows PySem.Calls PySem.Spec
open PyProof.Rows.LCg
namespace Mine
section
variable {prog : Program} {w : World} {A : Around} {E : Value → Shared → Prop} {s : Shared} {h₀ : Heap} {L : Addr} {m : Str → Option Value} {env : Env}
theorem compEnd_mono {s₁ s₂ : Shared} {I C D : Addr} {oI oC oD : Obj} {S : List (Addr × Obj) → Prop} {r r' : Value → List (Addr × Obj) → Prop} {y : Value} (h : CompEnd h₀ L m s₁ I oI C oC D oD S r y s₂) (k : ∀ y nw, r y nw → r' y nw) : CompEnd h₀ L m s₁ I oI C oC D oD S r' y s₂ := by
  obtain ⟨h', tk, news', e, F, N, off, hS, hr⟩ := h
  exact ⟨h', tk, news', e, F, N, off, hS, k _ _ hr⟩
theorem compRest_ind {elt : Expr} {x : Str} {scope : Scope} {cl : List (Str × Addr)} {S : List (Addr × Obj) → Prop} {P : Nat → Value → Prop} {Fin : List Value → List (Addr × Obj) → Prop} (Inv : Nat → List Value → List (Addr × Obj) → Prop) (n : Nat)
   (step : ∀ i ys news, i < n → Inv i ys news → ∀ v I oI C oC D m₂ h tk (E' : Value → Shared → Prop), P i v → NsObj oC m₂ → m₂ x = some v → Fr h₀ L h m → News h₀ L h ((I, oI) :: (C, oC) :: (D, lst ys) :: news) → Off3 I C D news → ((@Ne Nat I C) ∧ (@Ne Nat I D) ∧ (@Ne Nat C D)) → ∀ J : Value → List (Addr × Obj) → Prop, (∀ y news', Inv (i + 1) (ys ++ [y]) news' → J y news') →
      wpAny (model prog w) A (eval elt (compEnvC scope cl C env)) (CompEnd h₀ L m { s with heap := h, toks := tk } I oI C oC D (lst ys) S J) E' { s with heap := h, toks := tk })
   (fin : ∀ ys news, Inv n ys news → Fin ys news) : ∀ k i ys news, i + k = n → Inv i ys news → CompRest prog w A h₀ L m env elt x scope cl s S P Fin k i ys news
  | 0, i, ys, news, e, hi => by
    have : i = n := by omega
    subst this
    exact fin _ _ hi
  | k + 1, i, ys, news, e, hi => by
    refine CompRest.succ fun v I oI C oC D m₂ h tk E' hP hC hx F N off ne => ?_
    exact wpAny_mono (step i ys news (by omega) hi v I oI C oC D m₂ h tk E' hP hC hx F N off ne (fun y news' => Inv (i + 1) (ys ++ [y]) news') fun _ _ e => e) (fun y s₂ hy => compEnd_mono hy fun y nw hr => compRest_ind Inv n step fin k (i + 1) _ _ (by omega) hr) fun _ _ e => e

/-- a text as the source of a comprehension -/
def SrcS (prog : Program) (w : World) (A : Around) (h₀ : Heap) (L : Addr) (m : Str → Option Value) (env : Env) (elt : Expr) (x : Str) (scope : Scope) (cl : List (Str × Addr)) (Fin : Shared → List Value → List (Addr × Obj) → Prop) (xv : Value) (s₁ : Shared) : Prop :=
  ∃ X t news, xv = .str X t ∧ A.handled = none ∧ Fr h₀ L s₁.heap m ∧ News h₀ L s₁.heap news ∧ X.cps.size ≤ sizeLine ∧
        ∀ s₂ : Shared, (∃ h, s₂ = { s₁ with heap := h }) → CompRest prog w A h₀ L m env elt x scope cl s₂ (fun _ => True) (SignAt X) (Fin s₂) X.cps.size 0 [] news
/-- a comprehension over a text -/
theorem ListComp_S {elt iter : Expr} {x : Str} {px : Pos} {scope : Scope} {cl : List (Str × Addr)} {pos : Pos} {Q : Value → Shared → Prop} (_F₀ : Fr h₀ L s.heap m)
    (hclos : closureFor scope env = pure cl) (hcell : ∀ y ∈ scope.names, y.2 ≠ .cell) (hkind : scope.kind = .function)
    (hnames : ∀ y ∈ scope.names, y.2 = .local → scope.names.lookup y.1 = some .local) (hx : scope.names.lookup x = some .local)
    (h : wpAny (model prog w) A (eval iter env) (SrcS prog w A h₀ L m env elt x scope cl (fun s₂ => FinE h₀ L m s₂ Q)) E s)
    (hs : ∀ x, foldedSetIterable iter env x = pure x := by intro _; rfl) :
    wpAny (model prog w) A (eval (.ListComp elt [⟨.Name x px, iter, [], 0⟩] scope pos) env) Q E s := by
  rw [eval_ListComp]
  refine wpAny_comprehension_free (use := none) rfl hs hclos hkind hnames (wpAny_mono h (fun xv s₁ h₁ => ?_) fun _ _ e => e)
  obtain ⟨X, t, news, rfl, hh, F, N, hsz, R⟩ := h₁
  have fin : ∀ (s₂ : Shared), FinE h₀ L m s₂ Q = FinE h₀ L m s₂ Q := fun _ => rfl
  cases ha : X.cps.all (· < 128)
  · refine wpAny_pyIter_wide ha ?_
    have up : ∀ o, ∀ b o', s₁.heap.get? b = some o' → (s₁.heap.push o).get? b = some o' := fun o b o' e => Heap.get?_push_of_some _ e
    refine block_U (Walks.strWide hh s₁.heap.objs.size X t) hsz (fun i h st => by obtain ⟨o, e, _⟩ := st; exact ⟨o, e⟩)
      (fun i h h' o nw st e e' _ _ _ => (Walks.strWide (prog := prog) (w := w) hh s₁.heap.objs.size X t).frame i h h' st fun b hb o2 e2 => by rw [List.mem_singleton.mp hb] at e2 ⊢; rw [e] at e2; rw [e', e2]) hcell hkind hx ⟨_, Heap.get?_push_size _ rfl, rfl, rfl⟩ (fun b hb => ?_)
      (F.keeps (up _)) (N.grown (up _)) (Nat.ne_of_lt F.ns.lt) (next_is_new F) (fun p hp => Nat.ne_of_lt (Heap.lt_size (N p hp).1)) trivial (R _ ⟨_, rfl⟩) ?_
    · rw [List.mem_singleton.mp hb]; show s₁.heap.objs.size < (s₁.heap.push _).objs.size; rw [Heap.size_push]; exact Nat.lt_succ_self _
    · intro D C h tk m' ys news' F' N' o1 hn hC₀ hD₀ hCL hDL hCD offC fin
      refine ⟨m', hn, fun h'' hs'' => fin D h'' tk (F'.change hs'' hCL hC₀) (fun p hp => ?_) o1⟩
      refine ⟨hs''.extBut _ _ ?_ (N' p hp).1, (N' p hp).2⟩
      rcases List.mem_cons.mp hp with rfl | hp
      · exact Ne.symm hCD
      · exact offC p hp
  · refine wpAny_pyIter_ascii ha ?_
    have up : ∀ o, ∀ b o', s₁.heap.get? b = some o' → (s₁.heap.push o).get? b = some o' := fun o b o' e => Heap.get?_push_of_some _ e
    refine block_U (Walks.strAscii hh s₁.heap.objs.size X t) hsz (fun i h st => by obtain ⟨o, e, _⟩ := st; exact ⟨o, e⟩)
      (fun i h h' o nw st e e' _ _ _ => (Walks.strAscii (prog := prog) (w := w) hh s₁.heap.objs.size X t).frame i h h' st fun b hb o2 e2 => by rw [List.mem_singleton.mp hb] at e2 ⊢; rw [e] at e2; rw [e', e2]) hcell hkind hx ⟨_, Heap.get?_push_size _ rfl, rfl, rfl⟩ (fun b hb => ?_)
      (F.keeps (up _)) (N.grown (up _)) (Nat.ne_of_lt F.ns.lt) (next_is_new F) (fun p hp => Nat.ne_of_lt (Heap.lt_size (N p hp).1)) trivial (R _ ⟨_, rfl⟩) ?_
    · rw [List.mem_singleton.mp hb]; show s₁.heap.objs.size < (s₁.heap.push _).objs.size; rw [Heap.size_push]; exact Nat.lt_succ_self _
    · intro D C h tk m' ys news' F' N' o1 hn hC₀ hD₀ hCL hDL hCD offC fin
      refine ⟨m', hn, fun h'' hs'' => fin D h'' tk (F'.change hs'' hCL hC₀) (fun p hp => ?_) o1⟩
      refine ⟨hs''.extBut _ _ ?_ (N' p hp).1, (N' p hp).2⟩
      rcases List.mem_cons.mp hp with rfl | hp
      · exact Ne.symm hCD
      · exact offC p hp
/-- a comprehension over a text, its list bound to a name of the frame -/
theorem Assign_ListComp_S {elt iter : Expr} {x y : Str} {px py : Pos} {scope : Scope} {cl : List (Str × Addr)} {pos spos : Pos} {Q : Flow → Shared → Prop} (_F₀ : Fr h₀ L s.heap m) (hLe : env.locals = L)
    (hsw : swapsWith (.ListComp elt [⟨.Name x px, iter, [], 0⟩] scope pos) (some (.Name y py)) spos.line env = pure true)
    (hclos : closureFor scope env = pure cl) (hcell : ∀ z ∈ scope.names, z.2 ≠ .cell) (hkind : scope.kind = .function)
    (hnames : ∀ z ∈ scope.names, z.2 = .local → scope.names.lookup z.1 = some .local) (hx : scope.names.lookup x = some .local)
    (hy : env.kindOf y = some .local) (hp : (env.scope.kind == .class || (env.scope.kind == .module && env.locals != env.globals)) = false)
    (h : wpAny (model prog w) A (eval iter env) (SrcS prog w A h₀ L m env elt x scope cl (fun s₂ => FinA h₀ L m s₂ y Q)) E s)
    (hs : ∀ x, foldedSetIterable iter env x = pure x := by intro _; rfl) :
    wpAny (model prog w) A (exec (.Assign [.Name y py] (.ListComp elt [⟨.Name x px, iter, [], 0⟩] scope pos) spos) env) Q E s := by
  subst hLe
  rw [exec_Assign_Name_used _ _ _ _ hsw]
  refine wpAny_bind (wpAny_standAt (wpAny_bind ?_))
  show wpAny _ A (do let _ ← comprehension (.ListComp elt [⟨.Name x px, iter, [], 0⟩] scope pos) scope env _ (newList []) false (eval iter env) (some (assign (.Name y py) env))) _ _ s
  refine wpAny_bind (wpAny_mono (wpAny_comprehension_free (use := some (assign (.Name y py) env)) (Q := fun _ s' => Q .next s') rfl hs hclos hkind hnames
    (wpAny_mono h (fun xv s₁ h₁ => ?_) fun _ _ e => e)) (fun _ s' hq => wpAny_pure (wpAny_pure hq)) fun _ _ e => e)
  obtain ⟨X, t, news, rfl, hh, F, N, hsz, R⟩ := h₁
  have up : ∀ o, ∀ b o', s₁.heap.get? b = some o' → (s₁.heap.push o).get? b = some o' := fun o b o' e => Heap.get?_push_of_some _ e
  have fin : ∀ (s₂ : Shared) (D C : Addr) (h : Heap) (tk : Nat) (m' : Str → Option Value) (ys : List Value) (news' : List (Addr × Obj)), Fr h₀ env.locals h m → News h₀ env.locals h ((D, lst ys) :: news') → Off1 D news' → h.Ns C m' → h₀.get? C = none → C ≠ env.locals → C ≠ D → (∀ p ∈ news', p.1 ≠ C) →
      FinA h₀ env.locals m s₂ y Q ys news' → compPost (model prog w) A E (some (assign (.Name y py) env)) (fun _ s' => Q .next s') (.ref D) C (.ok .next) { s₂ with heap := h, toks := tk } := by
    intro s₂ D C h tk m' ys news' F' N' o1 hn hC₀ hCL hCD offC fin
    show wpAny _ A (assign (.Name y py) env (.ref D)) _ _ _
    refine wpAny_assign_Name (wpAny_storeName_local hy F'.ns (fun h₂ hn₂ hs₂ => ?_) hp)
    have hL₀ : h₀.get? env.locals = none := Heap.get?_none_of_le F'.above
    have F₂ : Fr h₀ env.locals h₂ (fun z => if z = y then some (.ref D) else m z) := ⟨hn₂, fun b o e => hs₂.extBut b o (fun q => by rw [q, hL₀] at e; cases e) (F'.keep b o e), F'.above⟩
    refine ⟨m', hn.sameBut hs₂ hCL, fun h'' hs'' => fin D h'' _ (F₂.change hs'' hCL hC₀) (fun p hp => ?_) o1⟩
    have z : h₂.get? p.1 = some p.2 := hs₂.extBut _ _ (N' p hp).2.1 (N' p hp).1
    refine ⟨hs''.extBut _ _ ?_ z, (N' p hp).2⟩
    rcases List.mem_cons.mp hp with rfl | hp
    · exact Ne.symm hCD
    · exact offC p hp
  cases ha : X.cps.all (· < 128)
  · refine wpAny_pyIter_wide ha ?_
    refine block_U (Walks.strWide hh s₁.heap.objs.size X t) hsz (fun i h st => by obtain ⟨o, e, _⟩ := st; exact ⟨o, e⟩)
      (fun i h h' o nw st e e' _ _ _ => (Walks.strWide (prog := prog) (w := w) hh s₁.heap.objs.size X t).frame i h h' st fun b hb o2 e2 => by rw [List.mem_singleton.mp hb] at e2 ⊢; rw [e] at e2; rw [e', e2]) hcell hkind hx ⟨_, Heap.get?_push_size _ rfl, rfl, rfl⟩ (fun b hb => ?_)
      (F.keeps (up _)) (N.grown (up _)) (Nat.ne_of_lt F.ns.lt) (next_is_new F) (fun p hp => Nat.ne_of_lt (Heap.lt_size (N p hp).1)) trivial (R _ ⟨_, rfl⟩) ?_
    · rw [List.mem_singleton.mp hb]; show s₁.heap.objs.size < (s₁.heap.push _).objs.size; rw [Heap.size_push]; exact Nat.lt_succ_self _
    · intro D C h tk m' ys news' F' N' o1 hn hC₀ hD₀ hCL hDL hCD offC f
      exact fin _ D C h tk m' ys news' F' N' o1 hn hC₀ hCL hCD offC f
  · refine wpAny_pyIter_ascii ha ?_
    refine block_U (Walks.strAscii hh s₁.heap.objs.size X t) hsz (fun i h st => by obtain ⟨o, e, _⟩ := st; exact ⟨o, e⟩)
      (fun i h h' o nw st e e' _ _ _ => (Walks.strAscii (prog := prog) (w := w) hh s₁.heap.objs.size X t).frame i h h' st fun b hb o2 e2 => by rw [List.mem_singleton.mp hb] at e2 ⊢; rw [e] at e2; rw [e', e2]) hcell hkind hx ⟨_, Heap.get?_push_size _ rfl, rfl, rfl⟩ (fun b hb => ?_)
      (F.keeps (up _)) (N.grown (up _)) (Nat.ne_of_lt F.ns.lt) (next_is_new F) (fun p hp => Nat.ne_of_lt (Heap.lt_size (N p hp).1)) trivial (R _ ⟨_, rfl⟩) ?_
    · rw [List.mem_singleton.mp hb]; show s₁.heap.objs.size < (s₁.heap.push _).objs.size; rw [Heap.size_push]; exact Nat.lt_succ_self _
    · intro D C h tk m' ys news' F' N' o1 hn hC₀ hD₀ hCL hDL hCD offC f
      exact fin _ D C h tk m' ys news' F' N' o1 hn hC₀ hCL hCD offC f
end
section
variable {M : Model} {A : Around} {E : Value → Shared → Prop} {s : Shared} {h₀ : Heap} {L C c : Addr} {news : List (Addr × Obj)} {scope : Scope} {cl : List (Str × Addr)} {env : Env} {x : Str} {pos : Pos} {v : Value} {o : Obj} {Q : Value → Shared → Prop}
theorem ld_cell (N : News h₀ L s.heap news) (hc : cl.lookup x = some c) (hm : (c, o) ∈ news) (hd : o.data = .cell (some v)) (h : Q v s)
    (hk : (compEnvC scope cl C env).scope.kind = .function := by rfl) (hx : (compEnvC scope cl C env).kindOf x = some .cell := by rfl) (hb : (x == ("__debug__" : Str)) = false := by decide) :
    wpAny M A (eval (.Name x pos) (compEnvC scope cl C env)) Q E s := wpAny_Name (wpAny_loadName_cell hk hx hc ⟨o, N.get hm, hd⟩ h) hb
theorem ld_free (N : News h₀ L s.heap news) (hc : cl.lookup x = some c) (hm : (c, o) ∈ news) (hd : o.data = .cell (some v)) (h : Q v s)
    (hk : (compEnvC scope cl C env).scope.kind = .function := by rfl) (hx : (compEnvC scope cl C env).kindOf x = some .free := by rfl) (hb : (x == ("__debug__" : Str)) = false := by decide) (hn : (x == ("__classdict__" : Str)) = false := by decide) :
    wpAny M A (eval (.Name x pos) (compEnvC scope cl C env)) Q E s := wpAny_Name (wpAny_loadName_free hk hx hc ⟨o, N.get hm, hd⟩ h hn) hb
end
end Mine
end
section
open PySem PySem.W PyProof.Rows PySem.Calls PySem.Spec
namespace Mine
section
variable {w : World} {p : Program} {loose : List Str} {mean : ExcName → Option Value} {mg mb : Str → Option Value} {G : Heap} {s : Shared} {dp un : Nat} {fr : Option (List Env)} {gd : Option (List Code)} {Q E : Value → Shared → Prop} {rest : List (Addr × Obj)}
local macro_rules | `(tactic| walk_at "eval ListComp") => `(tactic| (k_here; k_dflt (refine ListComp_S (by k_asm) (by rfl) (by decide) (by rfl) (by decide) (by rfl) ?_)))
local macro_rules | `(tactic| walk_at "compareOp In str str") => `(tactic| first | refine ink (b := false) (by assumption) ?_ | refine ink (b := true) (by assumption) ?_)
theorem ink {prog : Program} {w : World} {A : Around} {E Q : Value → Shared → Prop} {s : Shared} {x y : Str} {t u : Tok} {b : Bool} (e : (!(Builtin.Str.occurrences y x 0 y.length 1).isEmpty) = b) (h : Q (.bool b) s) : wpAny (model prog w) A (compareOp .In (.str x t) (.str y u)) Q E s := PyProof.Rows.in_str (by rw [e]; exact h)
theorem in_q (c : Nat) : (!(Builtin.Str.occurrences (Str.ofString "\"\\") (S [c]) 0 (Str.ofString "\"\\").length 1).isEmpty) = decide (c = 34 ∨ c = 92) := by
  rw [show S [c] = (⟨#[c]⟩ : Str) from rfl, StrLaws.found_one, show (Str.ofString "\"\\").cps.toList = [34, 92] by decide]
  simp
theorem join_flat : ∀ ls : List (List Nat), Str.join (Str.ofString "") (ls.map S) = S ls.flatten
  | [] => by decide
  | [a] => by simp [Str.join]
  | a :: b :: r => by
    have ih := join_flat (b :: r)
    show S a ++ Str.ofString "" ++ Str.join (Str.ofString "") ((b :: r).map S) = _
    rw [ih, show Str.ofString "" = S [] by decide, S_app, S_app]
    simp
theorem strs_snoc {vs : List Value} {ys : List Str} (h : StrsAre vs ys) (y : Str) (t : Tok) : StrsAre (vs ++ [.str y t]) (ys ++ [y]) := h.append' (.cons y t .nil)
theorem esc_flat (cs : List Nat) : (cs.map fun c => [92, c]).flatten = esc cs := by
  induction cs with
  | nil => rfl
  | cons c cs ih => rw [List.map_cons, List.flatten_cons, ih]; rfl
theorem qt_flat (cs : List Nat) : (cs.map fun c => if c = 34 ∨ c = 92 then [92, c] else [c]).flatten = qt cs := by
  induction cs with
  | nil => rfl
  | cons c cs ih => rw [List.map_cons, List.flatten_cons, ih, qt]; split <;> rfl
theorem sum_le2 : ∀ ls : List (List Nat), (∀ a ∈ ls, a.length ≤ 2) → ((ls.map S).map (·.length)).sum ≤ 2 * ls.length
  | [], _ => by simp
  | a :: r, h => by
    have h1 := h a (.head _)
    have h2 := sum_le2 r (fun b hb => h b (.tail _ hb))
    simp only [List.map_cons, List.sum_cons, List.length_cons, S_len] at h2 ⊢
    omega
theorem qt_len : ∀ cs, (qt cs).length ≤ 2 * cs.length
  | [] => by simp [qt]
  | c :: cs => by have := qt_len cs; unfold qt; split <;> simp <;> omega
theorem esc_len : ∀ cs, (esc cs).length = 2 * cs.length
  | [] => by simp [esc]
  | c :: cs => by have := esc_len cs; unfold esc; simp; omega
theorem take_snoc {α : Type} {l : List α} {i : Nat} {c : α} (h : l[i]? = some c) : l.take (i + 1) = l.take i ++ [c] := by
  rw [List.take_add_one, h]; rfl
def written (b : Int) (cs : List Nat) : List Nat := if b ≠ 0 ∧ cs ≠ [] then esc cs else 34 :: (qt cs ++ [34])
theorem haltAdd {prog : Program} {w : World} {A : Around} {E Q : Value → Shared → Prop} {s : Shared} {x : List Nat} {y : Str} {t u : Tok} (h : Halt (wpAny (model prog w) A (binaryOp .Add (.str (S x) t) (.str y u)) Q E s)) : wpAny (model prog w) A (binaryOp .Add (.str (S x) t) (.str y u)) Q E s := h.out
local macro_rules | `(tactic| walk_at "binaryOp Add str str") => `(tactic| with_reducible refine haltAdd ?_)
local macro_rules | `(tactic| walk_at "call builtin:str.join") => `(tactic| (refine Halt.out ?_))
set_option maxRecDepth 100000 in
set_option maxHeartbeats 8000000 in
theorem k_written (hG : G.StaysIn s.heap) (X : (hd.heap_1 w.params).In G) (T : Top p loose mean mg mb G) (hdp : dp < 780) (hun : un < 7800)
   {cs : List Nat} {b : Int} {t tb : Tok} (hlen : cs.length < 100)
   (ret : ∀ h' tk' t', Keeps [] s.heap h' → Q (.str (S (written b cs)) t') (St s h' tk')) :
   codeAny (model PR w) (Ar dp un fr gd) (.call (.ref 128) ⟨[.str (S cs) t, .int b tb], []⟩) (fun r s' => match r with | .ok (.ret v) => Q v s' | .ok _ => False | .error e => E e s') s := by
  have hr : ∀ q ∈ ([] : List (Addr × Obj)), s.heap.get? q.1 = some q.2 ∧ G.get? q.1 = none := fun _ h => nomatch h
  k_dflt (refine' enterK (binds := [((Str.ofString "word"), .str (S cs) t), ((Str.ofString "bare"), .int b tb)]) [] hG hr X T ?k6 ?k7 ?k8 ?k9 ?kB ?m ?c5 ?c2 ?c3 ?c4; (case k6 => k_is); (case k7 => k_is); (case k8 => (simp only [recursionLimit]; omega)); (case k9 => exact BindsTo.of_eq rfl); (case c5 => decide); (case kB => exact locs rfl); (case c2 => exact rfl); (case c3 => exact rfl); (case c4 => exact rfl))
  intro g L hh Gg Xg Tg kp F N l1 ng
  replace F : Fr g L hh (fun y => List.lookup y [((Str.ofString "bare"), .int b tb), ((Str.ofString "word"), .str (S cs) t)]) := F
  clear X T l1
  (try dsimp only)
  (try k_fold)
  k_steps
  rotate_left
  · refine ⟨S cs, _, _, rfl, rfl, F, N, by show (S cs).length ≤ _; rw [S_len, sizeLine_eq]; omega, ?_⟩
    rintro s₂ ⟨hpx, rfl⟩
    refine compRest_ind (fun i ys news => news = [] ∧ StrsAre ys (((cs.map fun c => if c = 34 ∨ c = 92 then [92, c] else [c]).take i).map S)) (S cs).cps.size ?_ ?_ _ 0 [] _ (by omega) ⟨rfl, .nil⟩
    · rintro i ys news hi ⟨rfl, hys⟩ v I oI C oC D m₂ h tk E' ⟨c, u, hc, rfl⟩ hC hx F2 N2 off ne J hJ
      have hcs : cs[i]? = some c := by simpa [S] using hc
      have hmp : (cs.map fun c => if c = 34 ∨ c = 92 then [92, c] else [c])[i]? = some (if c = 34 ∨ c = 92 then [92, c] else [c]) := by rw [List.getElem?_map, hcs]; rfl
      have hin := in_q c
      rw [show (⟨#[c]⟩ : Str) = S [c] from rfl] at hx
      by_cases hq : c = 34 ∨ c = 92
      · rw [decide_eq_true hq] at hin
        k_steps
        refine hJ _ _ ⟨rfl, ?_⟩
        rw [take_snoc hmp, if_pos hq, List.map_append, show Str.ofString "\\" = S [92] by decide, S_app]
        exact strs_snoc hys _ _
      · rw [decide_eq_false hq] at hin
        k_steps
        refine hJ _ _ ⟨rfl, ?_⟩
        rw [take_snoc hmp, if_neg hq, List.map_append]
        exact strs_snoc hys _ _
    · rintro ys news ⟨rfl, hys⟩ D h3 tk3 F3 N3 o3
      rw [List.take_of_length_le (by simp [S])] at hys
      k_steps
      refine ⟨?_⟩
      refine join_listC (x := Str.ofString "") (News.isList N3 (.head _)) (by rw [List.toList_toArray]; exact hys) (by decide) ?_ ?_
      · have h2 := sum_le2 (cs.map fun c => if c = 34 ∨ c = 92 then [92, c] else [c]) (fun a ha => by obtain ⟨c, _, rfl⟩ := List.mem_map.mp ha; split <;> simp)
        simp only [List.length_map] at h2 ⊢
        omega
      intro t4 k4
      rw [show Txt.join (Str.ofString "") ((cs.map fun c => if c = 34 ∨ c = 92 then [92, c] else [c]).map S) = S (qt cs) by rw [← qt_flat]; exact (StrLaws.glued_eq_join _ _).trans (join_flat _)]
      rw [show Str.ofString "\"" = S [34] by decide]
      have hql := qt_len cs
      refine PyProof.Rows.add_str (x := S [34]) (y := S (qt cs)) ?_ (by rw [S_len, S_len, sizeLine_eq]; simp only [List.length_singleton]; omega)
      intro t5 k5
      rw [S_app]
      k_steps
      refine ⟨?_⟩
      refine PyProof.Rows.add_str (x := S ([34] ++ qt cs)) (y := S [34]) ?_ (by rw [S_len, S_len, sizeLine_eq]; simp only [List.length_singleton, List.length_append]; omega)
      intro t6 k6
      rw [S_app]
      k_steps
      have ew : [34] ++ qt cs ++ [34] = written b cs := by unfold written; rw [if_neg (fun z => z.1 (by assumption))]; simp
      rw [ew]
      (try dsimp only)
      exact ret _ _ _ (kp_same kp F3 (fun _ h => nomatch h) (fun _ h => nomatch h))
  rename_i hb
  refine PySem.P.truthy_str (by rw [S_len]; omega) ?_
  by_cases hne : cs = []
  · rw [show (((S cs).length : Int) != 0) = false by rw [hne]; decide]
    k_steps
    · refine ⟨S cs, _, _, rfl, rfl, F, N, by show (S cs).length ≤ _; rw [S_len, sizeLine_eq]; omega, ?_⟩
      rintro s₂ ⟨hpx, rfl⟩
      refine compRest_ind (fun i ys news => news = [] ∧ StrsAre ys (((cs.map fun c => if c = 34 ∨ c = 92 then [92, c] else [c]).take i).map S)) (S cs).cps.size ?_ ?_ _ 0 [] _ (by omega) ⟨rfl, .nil⟩
      · rintro i ys news hi ⟨rfl, hys⟩ v I oI C oC D m₂ h tk E' ⟨c, u, hc, rfl⟩ hC hx F2 N2 off ne J hJ
        have hcs : cs[i]? = some c := by simpa [S] using hc
        have hmp : (cs.map fun c => if c = 34 ∨ c = 92 then [92, c] else [c])[i]? = some (if c = 34 ∨ c = 92 then [92, c] else [c]) := by rw [List.getElem?_map, hcs]; rfl
        have hin := in_q c
        rw [show (⟨#[c]⟩ : Str) = S [c] from rfl] at hx
        by_cases hq : c = 34 ∨ c = 92
        · rw [decide_eq_true hq] at hin
          k_steps
          refine hJ _ _ ⟨rfl, ?_⟩
          rw [take_snoc hmp, if_pos hq, List.map_append, show Str.ofString "\\" = S [92] by decide, S_app]
          exact strs_snoc hys _ _
        · rw [decide_eq_false hq] at hin
          k_steps
          refine hJ _ _ ⟨rfl, ?_⟩
          rw [take_snoc hmp, if_neg hq, List.map_append]
          exact strs_snoc hys _ _
      · rintro ys news ⟨rfl, hys⟩ D h3 tk3 F3 N3 o3
        rw [List.take_of_length_le (by simp [S])] at hys
        k_steps
        refine ⟨?_⟩
        refine join_listC (x := Str.ofString "") (News.isList N3 (.head _)) (by rw [List.toList_toArray]; exact hys) (by decide) ?_ ?_
        · have h2 := sum_le2 (cs.map fun c => if c = 34 ∨ c = 92 then [92, c] else [c]) (fun a ha => by obtain ⟨c, _, rfl⟩ := List.mem_map.mp ha; split <;> simp)
          simp only [List.length_map] at h2 ⊢
          omega
        intro t4 k4
        rw [show Txt.join (Str.ofString "") ((cs.map fun c => if c = 34 ∨ c = 92 then [92, c] else [c]).map S) = S (qt cs) by rw [← qt_flat]; exact (StrLaws.glued_eq_join _ _).trans (join_flat _)]
        rw [show Str.ofString "\"" = S [34] by decide]
        have hql := qt_len cs
        refine PyProof.Rows.add_str (x := S [34]) (y := S (qt cs)) ?_ (by rw [S_len, S_len, sizeLine_eq]; simp only [List.length_singleton]; omega)
        intro t5 k5
        rw [S_app]
        k_steps
        refine ⟨?_⟩
        refine PyProof.Rows.add_str (x := S ([34] ++ qt cs)) (y := S [34]) ?_ (by rw [S_len, S_len, sizeLine_eq]; simp only [List.length_singleton, List.length_append]; omega)
        intro t6 k6
        rw [S_app]
        k_steps
        have ew : [34] ++ qt cs ++ [34] = written b cs := by unfold written; rw [if_neg (fun z => z.2 hne)]; simp
        rw [ew]
        (try dsimp only)
        exact ret _ _ _ (kp_same kp F3 (fun _ h => nomatch h) (fun _ h => nomatch h))
  · rw [show (((S cs).length : Int) != 0) = true by rw [S_len]; have := List.length_pos_iff.mpr hne; simp; omega]
    k_steps
    · refine ⟨S cs, _, _, rfl, rfl, F, N, by show (S cs).length ≤ _; rw [S_len, sizeLine_eq]; omega, ?_⟩
      rintro s₂ ⟨hpx, rfl⟩
      refine compRest_ind (fun i ys news => news = [] ∧ StrsAre ys (((cs.map fun c => [92, c]).take i).map S)) (S cs).cps.size ?_ ?_ _ 0 [] _ (by omega) ⟨rfl, .nil⟩
      · rintro i ys news hi ⟨rfl, hys⟩ v I oI C oC D m₂ h tk E' ⟨c, u, hc, rfl⟩ hC hx F2 N2 off ne J hJ
        have hcs : cs[i]? = some c := by simpa [S] using hc
        have hmp : (cs.map fun c => [92, c])[i]? = some [92, c] := by rw [List.getElem?_map, hcs]; rfl
        rw [show (⟨#[c]⟩ : Str) = S [c] from rfl] at hx
        k_steps
        refine hJ _ _ ⟨rfl, ?_⟩
        rw [take_snoc hmp, List.map_append, show Str.ofString "\\" = S [92] by decide, S_app]
        exact strs_snoc hys _ _
      · rintro ys news ⟨rfl, hys⟩ D h3 tk3 F3 N3 o3
        rw [List.take_of_length_le (by simp [S])] at hys
        k_steps
        refine ⟨?_⟩
        refine join_listC (x := Str.ofString "") (News.isList N3 (.head _)) (by rw [List.toList_toArray]; exact hys) (by decide) ?_ ?_
        · have h2 := sum_le2 (cs.map fun c => [92, c]) (fun a ha => by obtain ⟨c, _, rfl⟩ := List.mem_map.mp ha; simp)
          simp only [List.length_map] at h2 ⊢
          omega
        intro t4 k4
        rw [show Txt.join (Str.ofString "") ((cs.map fun c => [92, c]).map S) = S (esc cs) by rw [← esc_flat]; exact (StrLaws.glued_eq_join _ _).trans (join_flat _)]
        k_steps
        have ew : esc cs = written b cs := by unfold written; rw [if_pos ⟨hb, hne⟩]
        rw [ew]
        (try dsimp only)
        exact ret _ _ _ (kp_same kp F3 (fun _ h => nomatch h) (fun _ h => nomatch h))
end
end Mine
end
section
open PySem PySem.W PyProof.Rows PySem.Calls PySem.Spec
namespace Mine
section
variable {w : World} {p : Program} {loose : List Str} {mean : ExcName → Option Value} {mg mb : Str → Option Value} {G : Heap} {s : Shared} {dp un : Nat} {fr : Option (List Env)} {gd : Option (List Code)} {Q E : Value → Shared → Prop} {rest : List (Addr × Obj)}
/-- what a while asks -/
def WhileOk (prog : Program) (w : World) (A : Around) (env : Env) (test : Expr) (body : List Stmt) (Q : Flow → Shared → Prop) (s : Shared) : Prop :=
  ∃ (I : Nat → Shared → Prop) (n : Nat), I n s ∧ ∀ n s (J : Shared → Prop), (∀ s₃ m, m < n → I m s₃ → J s₃) → I n s → wpAny (model prog w) A (isTrue test env (eval test env)) (fun b s₂ => if b = true then wpAny (model prog w) A (execs body env) (fun f s₃ => match f with
          | .next | .cont => TurnEnd (J s₃)
          | .brk => Q .next s₃
          | .ret v => Q (.ret v) s₃) noE s₂ else Q .next s₂) noE s
theorem whileR {prog : Program} {w : World} {A : Around} {E : Value → Shared → Prop} {env : Env} {test : Expr} {body : List Stmt} {pos : Pos} {Q : Flow → Shared → Prop} {s : Shared} (h : WhileOk prog w A env test body Q s) : wpAny (model prog w) A (exec (.While test body [] pos) env) Q E s := by
  obtain ⟨I, n, hI, turn⟩ := h
  refine wpAny_While (codeAny_whileLoop I (fun n s hn => wpAny_mono (turn n s (fun s₃ => ∃ m, m < n ∧ I m s₃) (fun _ m a b => ⟨m, a, b⟩) hn) (fun b s₂ h => ?_) fun _ _ e => e.elim) n hI)
  cases b with
  | true =>
    rw [if_pos rfl] at h ⊢
    refine wpAny_mono h (fun f s₃ h => ?_) fun _ _ e => e.elim
    cases f with
    | next => exact h.out
    | cont => exact h.out
    | brk => exact h
    | ret v => exact h
  | false =>
    rw [if_neg (by decide)] at h ⊢
    exact wpAny_execs_nil h
local macro_rules | `(tactic| walk_at "exec While Compare cons nil") => `(tactic| k_dflt (refine whileR ?_))
set_option maxRecDepth 100000 in
set_option maxHeartbeats 8000000 in
theorem k_first (hG : G.StaysIn s.heap) (X : (hd.heap_1 w.params).In G) (T : Top p loose mean mg mb G) (hdp : dp < 800) (hun : un < 8000)
   {a : Addr} {v0 v1 : Value} {n : Nat} (ha : s.heap.get? a = some (listOf #[v0, v1] n)) (ga : G.get? a = none)
   (ret : ∀ h' tk', Keeps [] s.heap h' → Q v0 (St s h' tk')) :
   codeAny (model PR w) (Ar dp un fr gd) (.call (.ref 135) ⟨[.ref a], []⟩) (fun r s' => match r with | .ok (.ret v) => Q v s' | .ok _ => False | .error e => E e s') s := by
  have hr : ∀ q ∈ ([(a, listOf #[v0, v1] n)] : List (Addr × Obj)), s.heap.get? q.1 = some q.2 ∧ G.get? q.1 = none := by walk_at "fp"
  k_dflt (refine' enterK (binds := [((Str.ofString "pair"), .ref a)]) [(a, listOf #[v0, v1] n)] hG hr X T ?k6 ?k7 ?k8 ?k9 ?kB ?m ?c5 ?c2 ?c3 ?c4; (case k6 => k_is); (case k7 => k_is); (case k8 => (simp only [recursionLimit]; omega)); (case k9 => exact BindsTo.of_eq rfl); (case c5 => decide); (case kB => exact locs rfl); (case c2 => exact rfl); (case c3 => exact rfl); (case c4 => exact rfl))
  intro g L hh Gg Xg Tg kp F N l1 ng
  replace F : Fr g L hh (fun y => List.lookup y [((Str.ofString "pair"), .ref a)]) := F
  clear X T l1
  (try dsimp only)
  (try k_fold)
  k_steps
  exact ret _ _ (kp_same kp F N (fun q hq => (hr q hq).1))
local macro_rules | `(tactic| walk_at "subscriptTail") => `(tactic| (refine Halt.out ?_))
set_option maxRecDepth 100000 in
set_option maxHeartbeats 8000000 in
theorem k_bisect (hG : G.StaysIn s.heap) (X : (hd.heap_1 w.params).In G) (T : Top p loose mean mg mb G) (hdp : dp < 780) (hun : un < 7800)
   {a : Addr} {vs : List Value} {prs : List (Addr × Obj)} {n : Nat} {kx : Int} {tx t0 : Tok} {kf : Nat → Int}
   (hr : ∀ q ∈ (a, listOf vs.toArray n) :: prs, s.heap.get? q.1 = some q.2 ∧ G.get? q.1 = none) (hlen : vs.length < 1000)
   (hv : ∀ i, i < vs.length → ∃ p t v1 n, vs[i]? = some (.ref p) ∧ (p, listOf #[.int (kf i) t, v1] n) ∈ prs) (hs : ∀ i j, i ≤ j → j < vs.length → kf i ≤ kf j)
   (ret : ∀ h' tk' lo t, Keeps [] s.heap h' → lo ≤ vs.length → (∀ i, i < lo → kf i ≤ kx) → (∀ i, lo ≤ i → i < vs.length → kx < kf i) → Q (.int (lo : Nat) t) (St s h' tk')) :
   codeAny (model PR w) (Ar dp un fr gd) (.call (.ref 74) ⟨[.ref a, .int kx tx, .int 0 t0, .none], [(Str.ofString "key", .ref 135)]⟩) (fun r s' => match r with | .ok (.ret v) => Q v s' | .ok _ => False | .error e => E e s') s := by
  k_dflt (refine' enterK (binds := [((Str.ofString "a"), .ref a), ((Str.ofString "x"), .int kx tx), ((Str.ofString "lo"), .int 0 t0), ((Str.ofString "hi"), .none), ((Str.ofString "key"), .ref 135)]) ((a, listOf vs.toArray n) :: prs) hG hr X T ?k6 ?k7 ?k8 ?k9 ?kB ?m ?c5 ?c2 ?c3 ?c4; (case k6 => k_is); (case k7 => k_is); (case k8 => (simp only [recursionLimit]; omega)); (case k9 => exact binds_K (X.keeps fun b o e => hG b o e) rfl (by k_is) rfl rfl rfl); (case c5 => decide); (case kB => exact locs rfl); (case c2 => exact rfl); (case c3 => exact rfl); (case c4 => exact rfl))
  intro g L hh Gg Xg Tg kp F N l1 ng
  replace F : Fr g L hh (fun y => List.lookup y [((Str.ofString "key"), .ref 135), ((Str.ofString "hi"), .none), ((Str.ofString "lo"), .int 0 t0), ((Str.ofString "x"), .int kx tx), ((Str.ofString "a"), .ref a)]) := F
  clear X T l1
  (try dsimp only)
  (try k_fold)
  k_steps
  refine n_len N (by k_mem) (by omega) ?_
  k_steps
  rename_i hw FW NW
  refine ⟨fun nn s' => ∀ C : Prop, (∀ h tk m lo hi t1 t2, (nn = hi - lo) → (lo ≤ hi) → (hi ≤ vs.length) → (s' = St s h tk) → (Fr g L h m) → (News g L h ((a, listOf vs.toArray n) :: prs)) → ((∀ i, i < lo → kf i ≤ kx)) → ((∀ i, hi ≤ i → i < vs.length → kx < kf i)) → (m (Str.ofString "key") = some (.ref 135)) → (m (Str.ofString "hi") = some (.int (hi : Nat) t2)) → (m (Str.ofString "lo") = some (.int (lo : Nat) t1)) → (m (Str.ofString "x") = some (.int kx tx)) → (m (Str.ofString "a") = some (.ref a)) → C) → C,
    vs.length - 0, (fun _ k => k hw tk _ 0 vs.length _ _ rfl (Nat.zero_le _) (Nat.le_refl _) rfl FW NW (fun i h => absurd h (Nat.not_lt_zero i)) (fun i h1 h2 => absurd h2 (Nat.not_lt.mpr h1)) rfl rfl rfl rfl rfl), ?_⟩
  clear FW NW
  intro nn s2 J hJ hI0
  refine hI0 _ ?_
  clear hI0
  rintro h2 tk2 m2 lo hi t1 t2 rfl hlh hhl rfl F0 N0 hA hB m3 m4 m5 m6 m7
  have F2 := fr_explicit [(Str.ofString "key", .ref 135), (Str.ofString "hi", .int (hi : Nat) t2), (Str.ofString "lo", .int (lo : Nat) t1), (Str.ofString "x", .int kx tx), (Str.ofString "a", .ref a)] F0 (allC m3 (allC m4 (allC m5 (allC m6 (allC m7 (List.forall_mem_nil _))))))
  clear F0
  k_steps
  · (with_reducible rename Fr _ _ _ _ => F1); (with_reducible rename News _ _ _ _ => N1)
    rename_i hlt _
    have em : ((lo : Int) + (hi : Int)).fdiv 2 = (((lo + hi) / 2 : Nat) : Int) := by rw [Int.fdiv_eq_ediv_of_nonneg _ (by decide)]; exact (Int.natCast_ediv (lo + hi) 2).symm
    rw [em] at F1 ⊢
    obtain ⟨q1, q2, -, -⟩ := midP (Int.ofNat_lt.mp hlt) (Nat.le_succ _)
    generalize (lo + hi) / 2 = mid at F1 q1 q2 ⊢
    have q3 : mid < vs.length := Nat.lt_of_lt_of_le q2 hhl
    have q4 : mid < 1000000 := Nat.lt_trans q3 (Nat.lt_trans hlen (by decide))
    obtain ⟨p1, t3, v1, n1, hi1, hm1⟩ := hv mid q3
    refine ⟨?_⟩
    refine n_item N1 (by k_mem) hi1 (by omega) ?_
    k_steps
    refine wpAny_call (k_first (G := g) (dp := dp + 1) (un := un + 3) (fun b o e => F1.keep b o e) Xg Tg (by omega) (by omega) (N1.get (.tail _ hm1)) (N1.fresh (.tail _ hm1)) ?_)
    intro h3 tk3 kp3
    have N3 := news_same N1 kp3
    have F3 := after_fr (S := []) F1 kp3 (fun _ h => nomatch h)
    clear F1 N1
    k_steps
    · (with_reducible rename Fr _ _ _ _ => F5); (with_reducible rename News _ _ _ _ => N5)
      exact TurnEnd.mk <| hJ _ (mid - lo) (Nat.sub_lt_sub_right q1 q2) (fun _ k => k _ _ _ lo mid _ _ rfl q1 (Nat.le_of_lt q3) rfl F5 N5 hA (fun i h1 h2 => Int.lt_of_lt_of_le (by assumption) (hs _ _ h1 h2)) rfl rfl rfl rfl rfl)
    · (with_reducible rename Fr _ _ _ _ => F5); (with_reducible rename News _ _ _ _ => N5)
      exact TurnEnd.mk <| hJ _ (hi - (mid + 1)) (Nat.sub_lt_sub_left (Nat.lt_of_le_of_lt q1 q2) (Nat.lt_succ_of_le q1)) (fun _ k => k _ _ _ (mid + 1) hi _ _ rfl q2 hhl rfl F5 N5 (fun i h1 => Int.le_trans (hs _ _ (Nat.le_of_lt_succ h1) q3) (Int.not_lt.mp (by assumption))) hB rfl rfl rfl rfl rfl)
  · rename_i hlt
    (try dsimp only)
    exact ret _ _ _ _ (kp_same kp F2 N0 (fun q hq => (hr q hq).1)) (by omega) hA (fun i h1 h2 => hB i (by omega) h2)
set_option maxRecDepth 100000 in
set_option maxHeartbeats 8000000 in
theorem k_insort (hG : G.StaysIn s.heap) (X : (hd.heap_1 w.params).In G) (T : Top p loose mean mg mb G) (hdp : dp < 770) (hun : un < 7700)
   {a x : Addr} {vs : List Value} {prs : List (Addr × Obj)} {n nx : Nat} {kx : Int} {tx : Tok} {vx : Value} {kf : Nat → Int}
   (hr : ∀ q ∈ (a, listOf vs.toArray n) :: (x, listOf #[.int kx tx, vx] nx) :: prs, s.heap.get? q.1 = some q.2 ∧ G.get? q.1 = none) (hlen : vs.length < 1000) (hna : ∀ q ∈ (x, listOf #[.int kx tx, vx] nx) :: prs, q.1 ≠ a)
   (hv : ∀ i, i < vs.length → ∃ p t v1 n, vs[i]? = some (.ref p) ∧ (p, listOf #[.int (kf i) t, v1] n) ∈ prs) (hs : ∀ i j, i ≤ j → j < vs.length → kf i ≤ kf j)
   (ret : ∀ h' tk' lo n', Keeps [a] s.heap h' → lo ≤ vs.length → (∀ i, i < lo → kf i ≤ kx) → (∀ i, lo ≤ i → i < vs.length → kx < kf i) → h'.get? a = some (listOf (vs.take lo ++ .ref x :: vs.drop lo).toArray n') → Q .none (St s h' tk')) :
   codeAny (model PR w) (Ar dp un fr gd) (.call (.ref 65) ⟨[.ref a, .ref x], [(Str.ofString "key", .ref 135)]⟩) (fun r s' => match r with | .ok (.ret v) => Q v s' | .ok _ => False | .error e => E e s') s := by
  k_dflt (refine' enterK (binds := [((Str.ofString "a"), .ref a), ((Str.ofString "x"), .ref x), ((Str.ofString "lo"), .int 0 271), ((Str.ofString "hi"), .none), ((Str.ofString "key"), .ref 135)]) ((a, listOf vs.toArray n) :: (x, listOf #[.int kx tx, vx] nx) :: prs) hG hr X T ?k6 ?k7 ?k8 ?k9 ?kB ?m ?c5 ?c2 ?c3 ?c4; (case k6 => k_is); (case k7 => k_is); (case k8 => (simp only [recursionLimit]; omega)); (case k9 => exact binds_K (X.keeps fun b o e => hG b o e) rfl (by k_is) rfl rfl rfl); (case c5 => decide); (case kB => exact locs rfl); (case c2 => exact rfl); (case c3 => exact rfl); (case c4 => exact rfl))
  intro g L hh Gg Xg Tg kp F N l1 ng
  replace F : Fr g L hh (fun y => List.lookup y [((Str.ofString "key"), .ref 135), ((Str.ofString "hi"), .none), ((Str.ofString "lo"), .int 0 271), ((Str.ofString "x"), .ref x), ((Str.ofString "a"), .ref a)]) := F
  clear X T l1
  (try dsimp only)
  (try k_fold)
  k_steps
  refine wpAny_call (k_first (G := g) (dp := dp + 1) (un := un + 3) (fun b o e => F.keep b o e) Xg Tg (by omega) (by omega) (N.get (.tail _ (.head _))) (N.fresh (.tail _ (.head _))) ?_)
  intro h3 tk3 kp3
  have N3 := news_same N kp3
  have F3 := after_fr (S := []) F kp3 (fun _ h => nomatch h)
  clear F N
  k_steps
  refine wpAny_call (k_bisect (G := g) (dp := dp + 1) (un := un + 3) (prs := (x, listOf #[.int kx tx, vx] nx) :: prs) (kf := kf) (fun b o e => F3.keep b o e) Xg Tg (by omega) (by omega) (fun q hq => ⟨(N3 q hq).1, (N3 q hq).2.2⟩) hlen (fun i hi => by obtain ⟨p, t, v1, n, e1, e2⟩ := hv i hi; exact ⟨p, t, v1, n, e1, .tail _ e2⟩) hs ?_)
  intro h4 tk4 lo tlo kp4 hlo hA hB
  have N4 := news_same N3 kp4
  have F4 := after_fr (S := []) F3 kp4 (fun _ h => nomatch h)
  clear F3 N3
  k_steps
  (with_reducible rename Fr _ _ _ _ => F1); (with_reducible rename News _ _ _ _ => N1)
  refine kl_insert (l := vs.take lo ++ .ref x :: vs.drop lo) F1 N1 ?f ?e (.head hna) ?z ?_
  case f => simp [Builtin.List.listFitsIndex]; omega
  case e => unfold kl_ins; rw [if_neg (by omega), Int.toNat_natCast, List.toList_toArray, Nat.min_eq_left hlo]
  case z => simp; rw [sizeLine_eq]; omega
  intro h5 F5 N5
  dsimp only
  k_steps
  (try dsimp only)
  exact ret _ _ lo _ (kp_on kp F5 (allC (.inl (.head _)) (fun q hq => .inr ⟨(hr q (.tail _ hq)).1, (N5 q (.tail _ hq)).1⟩))) hlo hA hB (N5.get (.head _))
end
end Mine
end
section
open PySem PySem.W PyProof.Rows PySem.Calls PySem.Spec
namespace Mine
section
variable {w : World} {p : Program} {loose : List Str} {mean : ExcName → Option Value} {mg mb : Str → Option Value} {G : Heap} {s : Shared} {dp un : Nat} {fr : Option (List Env)} {gd : Option (List Code)} {Q E : Value → Shared → Prop} {rest : List (Addr × Obj)}
local macro_rules | `(tactic| walk_at "setAttr ref") => `(tactic| walk_at "al1")
theorem nin2b {q a b : Addr} {o1 o2 : Obj} (h1 : @Ne Nat q a) (h2 : @Ne Nat q b) : q ∉ ([(a, o1), (b, o2)] : List (Addr × Obj)).map (·.1) := fun z => by
  rcases List.mem_cons.mp z with z | z
  · exact h1 z
  · exact h2 (List.mem_singleton.mp z)
set_option maxRecDepth 100000 in
set_option maxHeartbeats 8000000 in
theorem c_init (hG : G.StaysIn s.heap) (X : (hd.heap_1 w.params).In G) (T : Top p loose mean mg mb G) (hdp : dp < 800) (hun : un < 8000)
   {x dx fs : Addr} (hx : s.heap.get? x = some (instObj 112 dx)) (hdx : s.heap.get? dx = some emptyDict) (gx : G.get? x = none) (gdx : G.get? dx = none)
   (ret : ∀ h' tk' pb n lxh tl tw k, Keeps [dx] s.heap h' → s.heap.get? pb = none → h'.get? dx = some (lexD lxh (.int 1 tl) fs (.str (Str.ofString "\n\t\r ") tw) pb k) → h'.get? pb = some (listOf #[] n) → Q .none (St s h' tk')) :
   codeAny (model PR w) (Ar dp un fr gd) (.call (.ref 88) ⟨[.ref x, .ref fs], []⟩) (fun r s' => match r with | .ok (.ret v) => Q v s' | .ok _ => False | .error e => E e s') s := by
  have d1 : @Ne Nat x dx := apart hx hdx rfl
  have hr : ∀ q ∈ ([(x, instObj 112 dx), (dx, emptyDict)] : List (Addr × Obj)), s.heap.get? q.1 = some q.2 ∧ G.get? q.1 = none := by walk_at "fp"
  k_dflt (refine' enterK (binds := [((Str.ofString "self"), .ref x), ((Str.ofString "fp"), .ref fs)]) [(x, instObj 112 dx), (dx, emptyDict)] hG hr X T ?k6 ?k7 ?k8 ?k9 ?kB ?m ?c5 ?c2 ?c3 ?c4; (case k6 => k_is); (case k7 => k_is); (case k8 => (simp only [recursionLimit]; omega)); (case k9 => exact BindsTo.of_eq rfl); (case c5 => decide); (case kB => exact locs rfl); (case c2 => exact rfl); (case c3 => exact rfl); (case c4 => exact rfl))
  intro g L hh Gg Xg Tg kp F N l1 ng
  replace F : Fr g L hh (fun y => List.lookup y [((Str.ofString "fp"), .ref fs), ((Str.ofString "self"), .ref x)]) := F
  clear X T l1
  (try dsimp only)
  (try k_fold)
  k_steps
  rename_i ha hb hc lp hd2 ll he F1 N1
  have e2 := N1.get (.tail _ (.tail _ (.head _)))
  refine' ret _ _ lp _ ⟨_, _, _, _, _, _, _, _⟩ _ _ _ (kp_on kp F1 (allC (.inr ⟨hx, N1.get (.tail _ (.head _))⟩) (allC (.inl (.head _)) (List.forall_mem_nil _)))) (kp_fresh kp N1 (.head _) (nin2b (Nat.ne_of_gt ll.1) (Nat.ne_of_gt ll.2))) e2 (N1.get (.head _))
set_option maxRecDepth 100000 in
set_option maxHeartbeats 8000000 in
theorem c_new (hG : G.StaysIn s.heap) (X : (hd.heap_1 w.params).In G) (T : Top p loose mean mg mb G) (hdp : dp < 780) (hun : un < 7800)
   {fs : Addr}
   (ret : ∀ h' tk' x dx pb n lxh tl tw k, (∀ b o, s.heap.get? b = some o → h'.get? b = some o) → s.heap.get? x = none → s.heap.get? dx = none → s.heap.get? pb = none → @Ne Nat x pb → @Ne Nat dx pb → @Ne Nat x dx → h'.get? x = some (instObj 112 dx) → h'.get? dx = some (lexD lxh (.int 1 tl) fs (.str (Str.ofString "\n\t\r ") tw) pb k) → h'.get? pb = some (listOf #[] n) → Q (.ref x) (St s h' tk')) :
   wpAny (model PR w) (Ar dp un fr gd) (call (.ref 112) [.ref fs]) Q E s := by
  refine wpAny_call ?_
  have Xs : (hd.heap_1 w.params).In s.heap := X.keeps fun b o e => hG b o e
  obtain ⟨hh, g, d, t, os⟩ := s
  refine make_core (makes_of Xs (by k_dflt k_is)) (looks_findIn Xs (by k_dflt k_is : findIn (hd.heap_1 w.params) (.ref 112) "__init__" = some (some (.ref 88)))) (fun self => bind_fn Xs self (by k_dflt k_is)) (.inl rfl) ?_
  change codeAny _ (Ar (dp + 1) (un + 1) _ _) _ _ _
  have nx : hh.get? (hh.objs.size + 1) = none := Heap.get?_none_of_le (Nat.le_succ _)
  have nd : hh.get? hh.objs.size = none := Heap.get?_none_of_le (Nat.le_refl _)
  have up : ∀ b o, hh.get? b = some o → ((hh.push emptyDict).push (instObj 112 hh.objs.size)).get? b = some o := fun b o e => Heap.get?_push_of_some _ (Heap.get?_push_of_some _ e)
  have gn : ∀ a, hh.get? a = none → G.get? a = none := fun a e => by
    cases z : G.get? a with
    | none => rfl
    | some o => have := hG a o z; rw [show Shared.heap ⟨hh, g, d, t, os⟩ = hh from rfl, e] at this; cases this
  have ex : ((hh.push emptyDict).push (instObj 112 hh.objs.size)).get? (hh.objs.size + 1) = some (instObj 112 hh.objs.size) := by heap_get
  have ed : ((hh.push emptyDict).push (instObj 112 hh.objs.size)).get? hh.objs.size = some emptyDict := by heap_get
  refine codeAny_mono (c_init (x := hh.objs.size + 1) (dx := hh.objs.size) (fs := fs) (G := G) (Q := fun v s' => v = .none ∧ Q (.ref (hh.objs.size + 1)) s') (E := E) (fun b o e => up b o (hG b o e)) X T (by omega) (by omega) ex ed (gn _ nx) (gn _ nd) ?_) ?_
  · intro h' tk' pb n lxh tl tw k kp fp ed' ep'
    have ex' := kp _ _ ex (fun z => Nat.succ_ne_self _ (List.mem_singleton.mp z))
    have np : hh.get? pb = none := by
      cases z : hh.get? pb with
      | none => rfl
      | some o => have := up _ _ z; rw [fp] at this; cases this
    refine ⟨rfl, ret h' tk' _ _ pb n lxh tl tw k (fun b o e => kp b o (up b o e) (fun z => by rw [List.mem_singleton.mp z] at e; rw [show Shared.heap ⟨hh, g, d, t, os⟩ = hh from rfl, nd] at e; cases e)) nx nd np (fun q => ?_) (fun q => ?_) (Nat.succ_ne_self _) ex' ed' ep'⟩
    · rw [← q, ex'] at ep'; simp at ep'
    · rw [← q, ed'] at ep'; simp at ep'
  · intro r s' z
    rcases r with e | (v | _ | _ | _) <;> first | exact z | exact z.elim
end
end Mine
end
section
open PySem PySem.W PyProof.Rows PySem.Calls PySem.Spec
namespace Mine
section
variable {w : World} {p : Program} {loose : List Str} {mean : ExcName → Option Value} {mg mb : Str → Option Value} {G : Heap} {s : Shared} {dp un : Nat} {fr : Option (List Env)} {gd : Option (List Code)} {Q E : Value → Shared → Prop}
set_option maxRecDepth 100000 in
set_option maxHeartbeats 8000000 in
theorem c_getP (hG : G.StaysIn s.heap) (X : (hd.heap_1 w.params).In G) (T : Top p loose mean mg mb G) (hdp : dp < 800) (hun : un < 8000)
   {x dx pb : Addr} {vs : List Value} {n : Nat} {v : Value} {lxh : LexH} {ln ws : Value} {fs : Addr} {k : Nat}
   (hx : s.heap.get? x = some (instObj 112 dx)) (hdx : s.heap.get? dx = some (lexD lxh ln fs ws pb k)) (hpb : s.heap.get? pb = some (listOf (v :: vs).toArray n)) (gx : G.get? x = none) (gdx : G.get? dx = none) (gpb : G.get? pb = none) (hlen : vs.length < 100000)
   (ret : ∀ h' tk' n', Keeps [pb] s.heap h' → h'.get? pb = some (listOf vs.toArray n') → Q v (St s h' tk')) :
   wpAny (model PR w) (Ar dp un fr gd) (call (.ref 102) [.ref x]) Q E s := by
  have d1 : @Ne Nat x dx := apart hx hdx rfl
  have d2 : @Ne Nat x pb := apart hx hpb rfl
  have d3 : @Ne Nat dx pb := apart hdx hpb rfl
  have hr : ∀ q ∈ ([(x, instObj 112 dx), (dx, lexD lxh ln fs ws pb k), (pb, listOf (v :: vs).toArray n)] : List (Addr × Obj)), s.heap.get? q.1 = some q.2 ∧ G.get? q.1 = none := by walk_at "fp"
  refine wpAny_call ?_
  k_dflt (refine' enterK (binds := [((Str.ofString "self"), .ref x)]) [(x, instObj 112 dx), (dx, lexD lxh ln fs ws pb k), (pb, listOf (v :: vs).toArray n)] hG hr X T ?k6 ?k7 ?k8 ?k9 ?kB ?m ?c5 ?c2 ?c3 ?c4; (case k6 => k_is); (case k7 => k_is); (case k8 => (simp only [recursionLimit]; omega)); (case k9 => exact BindsTo.of_eq rfl); (case c5 => decide); (case kB => exact locs rfl); (case c2 => exact rfl); (case c3 => exact rfl); (case c4 => exact rfl))
  intro g L hh Gg Xg Tg kp F N l1 ng
  replace F : Fr g L hh (fun y => List.lookup y [((Str.ofString "self"), .ref x)]) := F
  clear X T l1
  (try dsimp only)
  (try k_fold)
  k_steps
  (with_reducible rename Fr _ _ _ _ => F1); (with_reducible rename News _ _ _ _ => N1)
  refine wpAny_truthy_list (News.isList N1 (by k_mem)) (by simp; omega) ?_
  rw [show (!(v :: vs).toArray.isEmpty) = true by simp]
  k_steps
  refine kl_popAt (k := 0) (p := []) (q := vs) (y := v) F1 N1 (by decide) ?e ?c (.tail (by assumption) (.tail (by assumption) (.head (List.forall_mem_nil _)))) (by simp only [List.size_toArray, List.length_cons]; rw [sizeLine_eq]; omega) ?_
  case e => simp [seqIndex?]
  case c => rfl
  intro h2 F2 N2
  refine ret _ _ _ (kp_on kp F2 (allC (.inr ⟨hx, N2.get (by k_mem)⟩) (allC (.inr ⟨hdx, N2.get (by k_mem)⟩) (allC (.inl (.head _)) (List.forall_mem_nil _))))) (N2.get (by k_mem))
end
end Mine
end
section
open PySem PySem.W PyProof.Rows PySem.Calls PySem.Spec
namespace Mine
section
variable {w : World} {p : Program} {loose : List Str} {mean : ExcName → Option Value} {mg mb : Str → Option Value} {G : Heap} {s : Shared} {dp un : Nat} {fr : Option (List Env)} {gd : Option (List Code)} {Q E : Value → Shared → Prop} {rest : List (Addr × Obj)}

theorem lexTail {g h h' : Heap} {L : Addr} {sg dx : Addr} {vs : List Value} {n k : Nat} {lxh : LexH} {tl : Tok} {ln : Int} {ws : Value} {fs pb : Addr} (R : Rest rest) (N : News g L h rest) (e1 : h.get? sg = some (listOf vs.toArray n)) (e2 : h.get? dx = some (lexD lxh (.int ln tl) fs ws pb k)) (kp : Keeps [sg, dx] h h') : News g L h' rest := fun q hq => by
  refine ⟨kp _ _ (N q hq).1 (fun z => ?_), (N q hq).2⟩
  rcases List.mem_cons.mp z with z | z
  · exact R.out (fun q hq => (N q hq).1) e1 notRest_seq (List.mem_map.mpr ⟨q, hq, z⟩)
  · exact R.out (fun q hq => (N q hq).1) e2 notRest_dict (List.mem_map.mpr ⟨q, hq, List.mem_singleton.mp z⟩)
theorem nin2 {q a b : Addr} (h1 : @Ne Nat q a) (h2 : @Ne Nat q b) : q ∉ [a, b] := fun z => by
  rcases List.mem_cons.mp z with z | z
  · exact h1 z
  · exact h2 (List.mem_singleton.mp z)
/-- the four objects of a stream and a dict, a list: apart -/
theorem str_ne {K : Frag} {h : Heap} {sg fs D lam cell : Addr} {of od ol oc : Obj} (I : IsStream K rest sg fs D lam cell of od ol oc) {dx pb : Addr} {k n : Nat} {lxh : LexH} {ln ws : Value} {vs : Array Value} (hdx : h.get? dx = some (lexD lxh ln fs ws pb k)) (hsg : h.get? sg = some (listOf vs n))
   (hf : h.get? fs = some of) (hD : h.get? D = some od) (hl : h.get? lam = some ol) (hc : h.get? cell = some oc) : @Ne Nat fs dx ∧ @Ne Nat D dx ∧ @Ne Nat lam dx ∧ @Ne Nat cell dx ∧ @Ne Nat fs sg ∧ @Ne Nat D sg ∧ @Ne Nat lam sg ∧ @Ne Nat cell sg := by
  obtain ⟨⟨fd, sl, rfl⟩, hns, ⟨es, ep, hdd⟩, ⟨params, body, scope, pm, c2, ctv, ocd, vs, t, hb, rfl, hoc, e1, e2, n1, n2, n3⟩, d1⟩ := I
  refine ⟨(apart hf hdx rfl), (fun q => ?_), (apart hl hdx rfl), (fun q => by rw [q, hdx] at hc; cases hc; cases d1),
    (apart hf hsg rfl), (fun q => by rw [q, hsg] at hD; rw [← Option.some.inj hD] at hdd; cases hdd), (apart hl hsg rfl), (fun q => by rw [q, hsg] at hc; cases hc; cases d1)⟩
  rw [q] at hD hns
  exact lex_ne hdx (hns _ hD)
set_option maxRecDepth 100000 in
set_option maxHeartbeats 8000000 in
theorem lex_read {x dx pb fs D lam cell sg : Addr} {lxh : LexH} {tw : Tok} {k npb : Nat} {of od ol oc : Obj} {g : Heap} {L it mo : Addr} {t0 tl : Tok} {m : Str → Option Value} {c n : Nat} {r : List Nat} {vs : List Value} {T : Int}
   (Xg : (hd.heap_1 w.params).In g) (Tg : Top p loose mean mg mb g) (hdp : dp < 780) (hun : un < 7800) (I : IsStream (hd.heap_1 w.params) rest sg fs D lam cell of od ol oc) (R : Rest rest) (hps : @Ne Nat pb sg) (hv : IsStk vs (c :: r)) (hlen : r.length < 100000) (hT : 0 ≤ T - nl (c :: r)) (hT2 : T < 100000)
   (F : Fr g L s.heap m) (N : News g L s.heap ((it, ciObj mo t0) :: (mo, methodObj (.ref 95) (.ref x)) :: (x, instObj 112 dx) :: (dx, lexD lxh (.int (T - nl (c :: r)) tl) fs (.str (Str.ofString "\n\t\r ") tw) pb k) :: (pb, listOf #[] npb) :: (fs, of) :: (D, od) :: (lam, ol) :: (cell, oc) :: (sg, listOf vs.toArray n) :: rest))
   (ret : ∀ h' tk' t vs' n' tl', IsStk vs' r → Fr g L h' m → News g L h' ((it, ciObj mo t0) :: (mo, methodObj (.ref 95) (.ref x)) :: (x, instObj 112 dx) :: (dx, lexD lxh (.int (T - nl r) tl') fs (.str (Str.ofString "\n\t\r ") tw) pb k) :: (pb, listOf #[] npb) :: (fs, of) :: (D, od) :: (lam, ol) :: (cell, oc) :: (sg, listOf vs'.toArray n') :: rest) → Q (.str (S [c]) t) (St s h' tk')) :
   codeAny (model PR w) (Ar dp un fr gd) (.call (.ref 95) ⟨[.ref x], []⟩) (fun r s' => match r with | .ok (.ret v) => Q v s' | .ok _ => False | .error e => E e s') s := by
  obtain ⟨vs', t, rfl, hv'⟩ := hv.cons
  have hx := N.get (a := x) (by k_mem); have hdx := N.get (a := dx) (by k_mem); have hsg := N.get (a := sg) (by k_mem)
  have hf := N.get (a := fs) (by k_mem); have hD := N.get (a := D) (by k_mem); have hl := N.get (a := lam) (by k_mem); have hc := N.get (a := cell) (by k_mem)
  have hpb := N.get (a := pb) (by k_mem); have hit := N.get (a := it) (by k_mem); have hmo := N.get (a := mo) (by k_mem)
  obtain ⟨a1, a2, a3, a4, b1, b2, b3, b4⟩ := str_ne I hdx hsg hf hD hl hc
  have Nr : News g L s.heap rest := fun q hq => N q (.tail _ (.tail _ (.tail _ (.tail _ (.tail _ (.tail _ (.tail _ (.tail _ (.tail _ (.tail _ hq))))))))))
  have c1 : @Ne Nat x dx := apart hx hdx rfl
  have c2 : @Ne Nat x sg := apart hx hsg rfl
  have c3 : @Ne Nat dx sg := apart hdx hsg rfl
  have c4 : @Ne Nat pb dx := apart hpb hdx rfl
  have c5 : @Ne Nat it dx := apart hit hdx rfl
  have c6 : @Ne Nat it sg := apart hit hsg rfl
  have c7 : @Ne Nat mo dx := apart hmo hdx rfl
  have c8 : @Ne Nat mo sg := apart hmo hsg rfl
  refine c_rcS (G := g) (fun b o e => F.keep b o e) Xg Tg hdp hun I (fun q hq => ⟨(Nr q hq).1, (Nr q hq).2.2⟩) hx hdx (N.fresh (by k_mem)) (N.fresh (by k_mem)) hf (N.fresh (by k_mem)) hD (N.fresh (by k_mem)) hl (N.fresh (by k_mem)) hc (N.fresh (by k_mem)) hsg (N.fresh (by k_mem)) (by rw [hv'.length]; omega) hT (by have := nl_nonneg (c :: r); omega) ?_
  intro hp tk3 n3 tl3 kp e3 d3
  refine ret hp tk3 t vs' n3 tl3 hv' (after_fr F kp fun a ha => ?_) ?_
  · rcases List.mem_cons.mp ha with rfl | ha
    · exact (N _ (by k_mem : (a, _) ∈ _)).2
    · rw [List.mem_singleton.mp ha]; exact (N _ (by k_mem : (dx, _) ∈ _)).2
  · refine news_cons (p := (it, _)) (after_old N kp (by k_mem) (nin2 c6 c5)) <| news_cons (p := (mo, _)) (after_old N kp (by k_mem) (nin2 c8 c7)) <| news_cons (p := (x, _)) (after_old N kp (by k_mem) (nin2 c2 c1)) <| news_cons (p := (dx, _)) (after_set (o' := lexD lxh (.int (T - nl r) tl3) fs (.str (Str.ofString "\n\t\r ") tw) pb k) N (by k_mem) ?_) <| news_cons (p := (pb, _)) (after_old N kp (by k_mem) (nin2 hps c4)) <| news_cons (p := (fs, _)) (after_old N kp (by k_mem) (nin2 b1 a1)) <| news_cons (p := (D, _)) (after_old N kp (by k_mem) (nin2 b2 a2)) <| news_cons (p := (lam, _)) (after_old N kp (by k_mem) (nin2 b3 a3)) <| news_cons (p := (cell, _)) (after_old N kp (by k_mem) (nin2 b4 a4)) <| news_cons (p := (sg, _)) (after_set N (by k_mem) e3) (lexTail R Nr hsg hdx kp)
    rw [d3]
    have e : (if S [c] = Str.ofString "\n" then T - nl (c :: r) + 1 else T - nl (c :: r)) = T - nl r := by
      by_cases hc : c = 10
      · subst hc; rw [if_pos (by decide)]; simp only [nl, if_pos]; omega
      · rw [if_neg (fun z => hc (by have := S_inj (a := [c]) (b := [10]) (by rw [z]; decide); simpa using this))]; simp only [nl, if_neg hc]; omega
    rw [e]
set_option maxRecDepth 100000 in
set_option maxHeartbeats 8000000 in
theorem lex_next {x dx pb fs D lam cell sg : Addr} {lxh : LexH} {tw : Tok} {k npb : Nat} {of od ol oc : Obj} {g : Heap} {L it mo : Addr} {t0 tl : Tok} {m : Str → Option Value} {c n : Nat} {r : List Nat} {vs : List Value} {T : Int} {Q : Option Value → Shared → Prop}
   (Xg : (hd.heap_1 w.params).In g) (Tg : Top p loose mean mg mb g) (hdp : dp < 780) (hun : un < 7700) (I : IsStream (hd.heap_1 w.params) rest sg fs D lam cell of od ol oc) (R : Rest rest) (hps : @Ne Nat pb sg) (hv : IsStk vs (c :: r)) (hlen : r.length < 100000) (hT : 0 ≤ T - nl (c :: r)) (hT2 : T < 100000)
   (F : Fr g L s.heap m) (N : News g L s.heap ((it, ciObj mo t0) :: (mo, methodObj (.ref 95) (.ref x)) :: (x, instObj 112 dx) :: (dx, lexD lxh (.int (T - nl (c :: r)) tl) fs (.str (Str.ofString "\n\t\r ") tw) pb k) :: (pb, listOf #[] npb) :: (fs, of) :: (D, od) :: (lam, ol) :: (cell, oc) :: (sg, listOf vs.toArray n) :: rest))
   (ret : ∀ h' tk' t vs' n' tl', IsStk vs' r → Fr g L h' m → News g L h' ((it, ciObj mo t0) :: (mo, methodObj (.ref 95) (.ref x)) :: (x, instObj 112 dx) :: (dx, lexD lxh (.int (T - nl r) tl') fs (.str (Str.ofString "\n\t\r ") tw) pb k) :: (pb, listOf #[] npb) :: (fs, of) :: (D, od) :: (lam, ol) :: (cell, oc) :: (sg, listOf vs'.toArray n') :: rest) → Q (some (.str (S [c]) t)) (St s h' tk')) :
   wpAny (model PR w) (Ar dp un fr gd) (pyNext (.ref it)) Q E s := by
  obtain ⟨fo, fd, e95, d95⟩ : ∃ fo fd, g.get? 95 = some fo ∧ fo.data = .func fd := ⟨_, _, Xg _ _ (by k_dflt k_is), rfl⟩
  refine next_ci rfl (N.get (by k_mem)) (N.get (a := mo) (by k_mem)) (F.keep _ _ e95) d95 ?_
  refine lex_read (un := un + 1) (E := fun _ _ => False) Xg Tg hdp (by omega) I R hps hv hlen hT hT2 F N ?_
  intro h' tk' t vs' n' tl' hv' F' N'
  refine ⟨S [c], t, rfl, N'.get (by k_mem), N'.get (by k_mem), ⟨fo, fd, F'.keep _ _ e95, d95⟩, ?_⟩
  rw [if_neg (fun z => by have := S_inj (a := [c]) (b := []) (by rw [z]; decide); simp at this)]
  exact ret h' tk' t vs' n' tl' hv' F' N'
set_option maxRecDepth 100000 in
set_option maxHeartbeats 8000000 in
theorem lex_stop {x dx pb fs D lam cell sg : Addr} {lxh : LexH} {tw : Tok} {k npb : Nat} {of od ol oc : Obj} {g : Heap} {L it mo : Addr} {t0 tl : Tok} {m : Str → Option Value} {n : Nat} {T : Int} {vs : List Value} {Q : Option Value → Shared → Prop}
   (Xg : (hd.heap_1 w.params).In g) (Tg : Top p loose mean mg mb g) (hdp : dp < 780) (hun : un < 7700) (I : IsStream (hd.heap_1 w.params) rest sg fs D lam cell of od ol oc) (R : Rest rest) (hps : @Ne Nat pb sg) (hn : ∀ q ∈ ((mo, methodObj (.ref 95) (.ref x)) :: (x, instObj 112 dx) :: (dx, lexD lxh (.int T tl) fs (.str (Str.ofString "\n\t\r ") tw) pb k) :: (pb, listOf #[] npb) :: (fs, of) :: (D, od) :: (lam, ol) :: (cell, oc) :: (sg, listOf vs.toArray n) :: rest), q.1 ≠ it)
   (hv : IsStk vs []) (F : Fr g L s.heap m) (N : News g L s.heap ((it, ciObj mo t0) :: (mo, methodObj (.ref 95) (.ref x)) :: (x, instObj 112 dx) :: (dx, lexD lxh (.int T tl) fs (.str (Str.ofString "\n\t\r ") tw) pb k) :: (pb, listOf #[] npb) :: (fs, of) :: (D, od) :: (lam, ol) :: (cell, oc) :: (sg, listOf vs.toArray n) :: rest))
   (ret : ∀ h' tk', Fr g L h' m → News g L h' ((it, ciEnd) :: (mo, methodObj (.ref 95) (.ref x)) :: (x, instObj 112 dx) :: (dx, lexD lxh (.int T tl) fs (.str (Str.ofString "\n\t\r ") tw) pb k) :: (pb, listOf #[] npb) :: (fs, of) :: (D, od) :: (lam, ol) :: (cell, oc) :: (sg, listOf vs.toArray n) :: rest) → Q none (St s h' tk')) :
   wpAny (model PR w) (Ar dp un fr gd) (pyNext (.ref it)) Q E s := by
  obtain rfl := hv.nil
  obtain ⟨fo, fd, e95, d95⟩ : ∃ fo fd, g.get? 95 = some fo ∧ fo.data = .func fd := ⟨_, _, Xg _ _ (by k_dflt k_is), rfl⟩
  have Nr : News g L s.heap rest := fun q hq => N q (.tail _ (.tail _ (.tail _ (.tail _ (.tail _ (.tail _ (.tail _ (.tail _ (.tail _ (.tail _ hq))))))))))
  refine next_ci rfl (N.get (by k_mem)) (N.get (a := mo) (by k_mem)) (F.keep _ _ e95) d95 ?_
  refine c_rcN (G := g) (un := un + 1) (E := fun _ _ => False) (fun b o e => F.keep b o e) Xg Tg hdp (by omega) I (fun q hq => ⟨(Nr q hq).1, (Nr q hq).2.2⟩) (N.get (a := x) (by k_mem)) (N.get (a := dx) (by k_mem)) (N.fresh (a := x) (by k_mem)) (N.fresh (a := dx) (by k_mem)) (N.get (a := fs) (by k_mem)) (N.fresh (a := fs) (by k_mem)) (N.get (a := D) (by k_mem)) (N.fresh (a := D) (by k_mem)) (N.get (a := lam) (by k_mem)) (N.fresh (a := lam) (by k_mem)) (N.get (a := cell) (by k_mem)) (N.fresh (a := cell) (by k_mem)) (N.get (a := sg) (by k_mem)) (N.fresh (a := sg) (by k_mem)) ?_
  intro h' tk' t' kp
  have N' := news_same N kp
  have F' := after_fr (S := []) F kp (fun _ h => nomatch h)
  refine ⟨Str.ofString "", t', rfl, N'.get (by k_mem), N'.get (by k_mem), ⟨fo, fd, F'.keep _ _ e95, d95⟩, ?_⟩
  rw [if_pos rfl]
  intro hq ex ei
  have kp2 : Keeps [it] h' hq := keeps_ext ex
  refine ret hq tk' (after_fr F' kp2 fun a ha => by rw [List.mem_singleton.mp ha]; exact (N' _ (by k_mem : (it, _) ∈ _)).2) ?_
  exact news_upd1 N' kp2 ei hn
end
end Mine
end
section
open PySem PySem.W PyProof.Rows PySem.Calls PySem.Spec Mine
local macro_rules | `(tactic| walk_at "al2") => `(tactic| exact Rest.ne (by assumption) (by assumption) (by assumption) (by k_mem) (by first | exact notRest_seq | exact notRest_dict | exact notRest_plain | exact notRest_func | exact notRest_cell (by assumption)))
section
open PySem PySem.W PyProof.Rows PySem.Calls PySem.Spec
namespace Mine
section
variable {w : World} {p : Program} {loose : List Str} {mean : ExcName → Option Value} {mg mb : Str → Option Value} {G : Heap} {s : Shared} {dp un : Nat} {fr : Option (List Env)} {gd : Option (List Code)} {Q E : Value → Shared → Prop} {rest : List (Addr × Obj)}
local macro_rules | `(tactic| k_all) => `(tactic| walk_at "al2")
local macro_rules | `(tactic| walk_at "call builtin:iter") => `(tactic| (k_dflt (refine' call_iter2 ?k1 ?k2 ?k3 ?_; (case k1 => k_asm); (case k2 => k_asm); (case k3 => k_mem); k_whole); intro q' h' F' N' l1; (try k_lt l1); (try k_sweep)))
local macro_rules | `(tactic| walk_at "pyIter ref") => `(tactic| (k_dflt (refine iter_ci (News.get (by assumption) (by k_mem)) ?_)))
theorem eqk {prog : Program} {w : World} {A : Around} {E Q : Value → Shared → Prop} {s : Shared} {x y : Str} {t u : Tok} {b : Bool} (e : (x == y) = b) (h : Q (.bool b) s) : wpAny (model prog w) A (compareOp .Eq (.str x t) (.str y u)) Q E s := PyProof.Rows.eq_str (by rw [e]; exact h)
theorem inkL {prog : Program} {w : World} {A : Around} {E Q : Value → Shared → Prop} {s : Shared} {x y : Str} {t u : Tok} {b : Bool} (e : (!(Builtin.Str.occurrences y x 0 y.length 1).isEmpty) = b) (h : Q (.bool b) s) : wpAny (model prog w) A (compareOp .In (.str x t) (.str y u)) Q E s := PyProof.Rows.in_str (by rw [e]; exact h)
local macro_rules | `(tactic| walk_at "compareOp Eq str str") => `(tactic| first | refine eqk (b := false) (by assumption) ?_ | refine eqk (b := true) (by decide) ?_ | refine eqk (b := false) (by decide) ?_)
local macro_rules | `(tactic| walk_at "compareOp In str str") => `(tactic| first | refine inkL (b := false) (by assumption) ?_ | refine inkL (b := true) (by decide +kernel) ?_ | refine inkL (b := false) (by decide +kernel) ?_)
local macro_rules | `(tactic| walk_at "inplaceOp Add str str") => `(tactic| (refine PyProof.Rows.iadd_str ?_ (by rw [S_len, S_len, sizeLine_eq]; simp only [List.length_singleton, List.length_cons, List.length_nil]; omega); intro tq tkq))
theorem nlTail {T : Int} {c : Nat} {cs : List Nat} (h : 0 ≤ T - nl (c :: cs)) : 0 ≤ T - nl cs := by
  unfold nl at h
  have g : (0 : Int) ≤ if c = 10 then 1 else 0 := by split <;> decide
  exact Int.le_trans h (Int.sub_le_sub_left (Int.le_add_of_nonneg_left g) T)
theorem loopW {prog : Program} {w : World} {A : Around} {env : Env} {target : Expr} {body : List Stmt} {Q : Flow → Shared → Prop} {it : Value} {s : Shared} (I : Nat → Shared → Prop) (n : Nat) (hI : I n s)
   (turn : ∀ n s (J : Shared → Prop), (∀ s₃ m, m < n → I m s₃ → J s₃) → I n s → wpAny (model prog w) A (pyNext it) (fun r s₁ => match r with
      | none => Q .next s₁
      | some v => wpAny (model prog w) A (assign target env v) (fun _ s₂ => wpAny (model prog w) A (execs body env) (fun f s₃ => match f with
          | .next | .cont => TurnEnd (J s₃)
          | .brk => Q .next s₃
          | .ret v => Q (.ret v) s₃) noE s₂) noE s₁) noE s) : LoopOk prog w A env target body Q it s := by
  refine ⟨I, n, hI, fun n s hn => wpAny_mono (turn n s (fun s₃ => ∃ m, m < n ∧ I m s₃) (fun _ m a b => ⟨m, a, b⟩) hn) (fun r s₁ h => ?_) fun _ _ e => e⟩
  cases r with
  | none => exact h
  | some v =>
    refine wpAny_mono h (fun _ s₂ h => wpAny_mono h (fun f s₃ h => ?_) fun _ _ e => e) fun _ _ e => e
    cases f with
    | next => exact h.out
    | cont => exact h.out
    | brk => exact h
    | ret v => exact h
set_option maxRecDepth 100000 in
set_option maxHeartbeats 8000000 in
theorem c_getL (hG : G.StaysIn s.heap) (X : (hd.heap_1 w.params).In G) (T : Top p loose mean mg mb G) (hdp : dp < 740) (hun : un < 7400) {x dx pb fs D lam cell sg : Addr} {lxh : LexH} {tw : Tok} {k npb : Nat} {of od ol oc : Obj} {tl : Tok} {n : Nat} {rd ws ch cs r : List Nat} {vs : List Value} {TL : Int}
   (I : IsStream (hd.heap_1 w.params) rest sg fs D lam cell of od ol oc) (R : Rest rest) (hps : @Ne Nat pb sg) (hr : ∀ q ∈ ((x, instObj 112 dx) :: (dx, lexD lxh (.int (TL - nl rd) tl) fs (.str (Str.ofString "\n\t\r ") tw) pb k) :: (pb, listOf #[] npb) :: (fs, of) :: (D, od) :: (lam, ol) :: (cell, oc) :: (sg, listOf vs.toArray n) :: rest), s.heap.get? q.1 = some q.2 ∧ G.get? q.1 = none)
   (hv : IsStk vs rd) (hrd : rd = ws ++ ch) (hws : ∀ c ∈ ws, c = 10 ∨ c = 9) (hk : Tk ch cs r) (hlen : rd.length < 100000) (hcs : cs.length < 1000) (hT : 0 ≤ TL - nl rd) (hT2 : TL < 100000)
   (ret : ∀ h' tk' t vs' n' tl', Keeps [sg, dx] s.heap h' → IsStk vs' r → h'.get? sg = some (listOf vs'.toArray n') → h'.get? dx = some (lexD lxh (.int (TL - nl r) tl') fs (.str (Str.ofString "\n\t\r ") tw) pb k) → Q (.str (S cs) t) (St s h' tk')) :
   wpAny (model PR w) (Ar dp un fr gd) (call (.ref 102) [.ref x]) Q E s := by
  refine wpAny_call ?_
  k_dflt (refine' enterK (binds := [((Str.ofString "self"), .ref x)]) ((x, instObj 112 dx) :: (dx, lexD lxh (.int (TL - nl rd) tl) fs (.str (Str.ofString "\n\t\r ") tw) pb k) :: (pb, listOf #[] npb) :: (fs, of) :: (D, od) :: (lam, ol) :: (cell, oc) :: (sg, listOf vs.toArray n) :: rest) hG hr X T ?k6 ?k7 ?k8 ?k9 ?kB ?m ?c5 ?c2 ?c3 ?c4; (case k6 => k_is); (case k7 => k_is); (case k8 => (simp only [recursionLimit]; omega)); (case k9 => exact BindsTo.of_eq rfl); (case c5 => decide); (case kB => exact locs rfl); (case c2 => exact rfl); (case c3 => exact rfl); (case c4 => exact rfl))
  intro g L hh Gg Xg Tg kp F N l1 ng
  replace F : Fr g L hh (fun y => List.lookup y [((Str.ofString "self"), .ref x)]) := F
  clear X T l1
  (try k_fold)
  k_steps
  rename_i tk0 hq3 mo hq2 lm it hq1 li h0 F1 N1
  generalize tk0 + 1 + 1 + 1 = t0 at N1
  have hlr : ∀ q ∈ rest, q.1 ≠ it := fun q hq z => allLt_notin li.2.2.2.2.2.2.2.2.2 (List.mem_map.mpr ⟨q, hq, z⟩)
  refine loopW (fun n s' => ∀ C : Prop, (∀ ws', (n = ws'.length + 1) → ((∀ c ∈ ws', c = 10 ∨ c = 9)) → ((ws' ++ ch).length < 100000) → (0 ≤ TL - nl (ws' ++ ch)) → ∀ h tk m n vs tl tt, (s' = St s h tk) → (Fr g L h m) → (News g L h ((it, ciObj mo t0) :: (mo, methodObj (.ref 95) (.ref x)) :: (x, instObj 112 dx) :: (dx, lexD lxh (.int (TL - nl (ws' ++ ch)) tl) fs (.str (Str.ofString "\n\t\r ") tw) pb k) :: (pb, listOf #[] npb) :: (fs, of) :: (D, od) :: (lam, ol) :: (cell, oc) :: (sg, listOf vs.toArray n) :: rest)) → (IsStk vs (ws' ++ ch)) → (m (Str.ofString "self") = some (.ref x)) → (m (Str.ofString "token") = some (.str (S []) tt)) → (m (Str.ofString "fiter") = some (.ref it)) → C) → ((n = 0) → (cs = [122]) → (r = []) → ∀ h tk m n vs tl tt, (s' = St s h tk) → (Fr g L h m) → (News g L h ((it, ciEnd) :: (mo, methodObj (.ref 95) (.ref x)) :: (x, instObj 112 dx) :: (dx, lexD lxh (.int (TL - nl []) tl) fs (.str (Str.ofString "\n\t\r ") tw) pb k) :: (pb, listOf #[] npb) :: (fs, of) :: (D, od) :: (lam, ol) :: (cell, oc) :: (sg, listOf vs.toArray n) :: rest)) → (IsStk vs []) → (m (Str.ofString "self") = some (.ref x)) → (m (Str.ofString "token") = some (.str (S [122]) tt)) → (m (Str.ofString "fiter") = some (.ref it)) → C) → C) (ws.length + 1) (fun _ k _ => k ws rfl hws (hrd ▸ hlen) (hrd ▸ hT) h0 tk _ n vs tl _ rfl F1 (hrd ▸ N1) (hrd ▸ hv) rfl rfl rfl) ?_
  clear F1 N1
  intro n2 s2 J hJ hI0
  refine hI0 _ ?_ ?_
  rotate_left
  · clear hI0
    rintro rfl rfl rfl h2' tk2 m2' n3 vs2 tl2 tt rfl F0 N0 hv2 m1 m2 m3
    refine next_ciEnd rfl (N0.get (by k_mem)) ?_
    intro h3 kp3
    have F3 := F0.keeps kp3
    have N3 := N0.grown kp3
    have F2 := fr_explicit [(Str.ofString "self", .ref x), (Str.ofString "token", .str (S [122]) tt), (Str.ofString "fiter", .ref it)] F3 (allC m1 (allC m2 (allC m3 (List.forall_mem_nil _))))
    clear F3 F0 N0
    k_steps
    (with_reducible rename Fr _ _ _ _ => F1); (with_reducible rename News _ _ _ _ => N1)
    refine ret _ _ _ _ _ _ (kp_on kp F1 (allC (.inr ⟨(hr _ (by k_mem : (x, _) ∈ _)).1, N1.get (by k_mem)⟩) (allC (.inl (by simp)) (allC (.inr ⟨(hr _ (by k_mem : (pb, _) ∈ _)).1, N1.get (by k_mem)⟩) (allC (.inr ⟨(hr _ (by k_mem : (fs, _) ∈ _)).1, N1.get (by k_mem)⟩) (allC (.inr ⟨(hr _ (by k_mem : (D, _) ∈ _)).1, N1.get (by k_mem)⟩) (allC (.inr ⟨(hr _ (by k_mem : (lam, _) ∈ _)).1, N1.get (by k_mem)⟩) (allC (.inr ⟨(hr _ (by k_mem : (cell, _) ∈ _)).1, N1.get (by k_mem)⟩) (allC (.inl (by simp)) (fun q hq => .inr ⟨(hr q (.tail _ (.tail _ (.tail _ (.tail _ (.tail _ (.tail _ (.tail _ (.tail _ hq))))))))).1, (N1 q (.tail _ (.tail _ (.tail _ (.tail _ (.tail _ (.tail _ (.tail _ (.tail _ (.tail _ (.tail _ hq))))))))))).1⟩)))))))))) hv2 (N1.get (by k_mem)) (N1.get (by k_mem))
  clear hI0
  rintro ws2 rfl hws2 hl2 hT3 h2' tk2 m2' n3 vs2 tl2 tt rfl F0 N0 hv2 m1 m2 m3
  cases ws2 with
  | cons c ws2 =>
    have hc := hws2 c (.head _)
    rw [List.cons_append] at hv2 N0 hT3 hl2
    refine lex_next (T := TL) (un := un + 3) (dp := dp + 1) Xg Tg (by omega) (by omega) I R hps hv2 (by simp at hl2 ⊢; omega) (by omega) hT2 F0 N0 ?_
    intro h' tk' tc vs' n' tl' hv3 F' N'
    have F2 := fr_explicit [(Str.ofString "self", .ref x), (Str.ofString "token", .str (S []) tt), (Str.ofString "fiter", .ref it)] F' (allC m1 (allC m2 (allC m3 (List.forall_mem_nil _))))
    clear F' F0 N0
    rcases hc with rfl | rfl
    · rw [show S [10] = Str.ofString "\n" by decide]
      k_steps
      (with_reducible rename Fr _ _ _ _ => F1); (with_reducible rename News _ _ _ _ => N1)
      (apply TurnEnd.mk; exact hJ _ (ws2.length + 1) (by simp) (fun _ k _ => k ws2 rfl (fun c hc => hws2 c (.tail _ hc)) (by simp at hl2 ⊢; omega) (by simp only [nl] at hT3; omega) _ _ _ _ _ _ _ rfl F1 N1 hv3 rfl rfl rfl))
    · rw [show S [9] = Str.ofString "\t" by decide]
      k_steps
      (with_reducible rename Fr _ _ _ _ => F1); (with_reducible rename News _ _ _ _ => N1)
      (apply TurnEnd.mk; exact hJ _ (ws2.length + 1) (by simp) (fun _ k _ => k ws2 rfl (fun c hc => hws2 c (.tail _ hc)) (by simp at hl2 ⊢; omega) (by simp only [nl] at hT3; omega) _ _ _ _ _ _ _ rfl F1 N1 hv3 rfl rfl rfl))
  | nil =>
    rw [List.nil_append] at hv2 N0 hT3 hl2
    cases hk with
    | eof =>
      refine lex_stop (T := TL - nl []) (un := un + 3) (dp := dp + 1) Xg Tg (by omega) (by omega) I R hps (allC (by show @Ne Nat _ _; omega) (allC (by show @Ne Nat _ _; omega) (allC (by show @Ne Nat _ _; omega) (allC (by show @Ne Nat _ _; omega) (allC (by show @Ne Nat _ _; omega) (allC (by show @Ne Nat _ _; omega) (allC (by show @Ne Nat _ _; omega) (allC (by show @Ne Nat _ _; omega) (allC (by show @Ne Nat _ _; omega) hlr))))))))) hv2 F0 N0 ?_
      intro h' tk' F' N'
      have F2 := fr_explicit [(Str.ofString "self", .ref x), (Str.ofString "token", .str (S []) tt), (Str.ofString "fiter", .ref it)] F' (allC m1 (allC m2 (allC m3 (List.forall_mem_nil _))))
      clear F' F0 N0
      k_steps
      (with_reducible rename Fr _ _ _ _ => F1); (with_reducible rename News _ _ _ _ => N1)
      refine ret _ _ _ _ _ _ (kp_on kp F1 (allC (.inr ⟨(hr _ (by k_mem : (x, _) ∈ _)).1, N1.get (by k_mem)⟩) (allC (.inl (by simp)) (allC (.inr ⟨(hr _ (by k_mem : (pb, _) ∈ _)).1, N1.get (by k_mem)⟩) (allC (.inr ⟨(hr _ (by k_mem : (fs, _) ∈ _)).1, N1.get (by k_mem)⟩) (allC (.inr ⟨(hr _ (by k_mem : (D, _) ∈ _)).1, N1.get (by k_mem)⟩) (allC (.inr ⟨(hr _ (by k_mem : (lam, _) ∈ _)).1, N1.get (by k_mem)⟩) (allC (.inr ⟨(hr _ (by k_mem : (cell, _) ∈ _)).1, N1.get (by k_mem)⟩) (allC (.inl (by simp)) (fun q hq => .inr ⟨(hr q (.tail _ (.tail _ (.tail _ (.tail _ (.tail _ (.tail _ (.tail _ (.tail _ hq))))))))).1, (N1 q (.tail _ (.tail _ (.tail _ (.tail _ (.tail _ (.tail _ (.tail _ (.tail _ (.tail _ (.tail _ hq))))))))))).1⟩)))))))))) hv2 (N1.get (by k_mem)) (N1.get (by k_mem))
    | z =>
      refine lex_next (T := TL) (un := un + 3) (dp := dp + 1) Xg Tg (by omega) (by omega) I R hps hv2 (by simp) (by omega) hT2 F0 N0 ?_
      intro h' tk' tc vs' n' tl' hv3 F' N'
      have F2 := fr_explicit [(Str.ofString "self", .ref x), (Str.ofString "token", .str (S []) tt), (Str.ofString "fiter", .ref it)] F' (allC m1 (allC m2 (allC m3 (List.forall_mem_nil _))))
      clear F' F0 N0
      rw [show S [122] = Str.ofString "z" by decide]
      k_steps
      (with_reducible rename Fr _ _ _ _ => F1); (with_reducible rename News _ _ _ _ => N1)
      refine loopW (fun n s' => ∀ C : Prop, ((n = 0) → ∀ h tk m n vs tl tt, (s' = St s h tk) → (Fr g L h m) → (News g L h ((it, ciObj mo t0) :: (mo, methodObj (.ref 95) (.ref x)) :: (x, instObj 112 dx) :: (dx, lexD lxh (.int (TL - nl []) tl) fs (.str (Str.ofString "\n\t\r ") tw) pb k) :: (pb, listOf #[] npb) :: (fs, of) :: (D, od) :: (lam, ol) :: (cell, oc) :: (sg, listOf vs.toArray n) :: rest)) → (IsStk vs []) → (m (Str.ofString "self") = some (.ref x)) → (m (Str.ofString "token") = some (.str (S [122]) tt)) → (m (Str.ofString "fiter") = some (.ref it)) → C) → C) 0 (fun _ k => k rfl _ _ _ _ _ _ _ rfl F1 N1 hv3 rfl rfl rfl) ?_
      clear F1 N1
      intro n2 s2 J2 hJ2 hI0
      refine hI0 _ ?_
      clear hI0
      rintro rfl h2' tk2 m2' n3 vs2 tl2 tt rfl F0 N0 hv2 m1 m2 m3
      refine lex_stop (T := TL - nl []) (un := un + 3) (dp := dp + 1) Xg Tg (by omega) (by omega) I R hps (allC (by show @Ne Nat _ _; omega) (allC (by show @Ne Nat _ _; omega) (allC (by show @Ne Nat _ _; omega) (allC (by show @Ne Nat _ _; omega) (allC (by show @Ne Nat _ _; omega) (allC (by show @Ne Nat _ _; omega) (allC (by show @Ne Nat _ _; omega) (allC (by show @Ne Nat _ _; omega) (allC (by show @Ne Nat _ _; omega) hlr))))))))) hv2 F0 N0 ?_
      intro h' tk' F' N'
      have F2 := fr_explicit [(Str.ofString "self", .ref x), (Str.ofString "token", .str (S [122]) tt), (Str.ofString "fiter", .ref it)] F' (allC m1 (allC m2 (allC m3 (List.forall_mem_nil _))))
      clear F' F0 N0
      k_steps
      (with_reducible rename Fr _ _ _ _ => F1); (with_reducible rename News _ _ _ _ => N1)
      (apply TurnEnd.mk; exact hJ _ 0 (by simp) (fun _ _ k => k rfl rfl rfl _ _ _ _ _ _ _ rfl F1 N1 hv2 rfl rfl rfl))
    | quo cs r =>
      refine lex_next (T := TL) (un := un + 3) (dp := dp + 1) Xg Tg (by omega) (by omega) I R hps hv2 (by simp at hl2 ⊢; omega) (by omega) hT2 F0 N0 ?_
      intro h' tk' tc vs' n' tl' hv3 F' N'
      have F2 := fr_explicit [(Str.ofString "self", .ref x), (Str.ofString "token", .str (S []) tt), (Str.ofString "fiter", .ref it)] F' (allC m1 (allC m2 (allC m3 (List.forall_mem_nil _))))
      clear F' F0 N0
      rw [show S [34] = Str.ofString "\"" by decide]
      k_steps
      (with_reducible rename Fr _ _ _ _ => F1); (with_reducible rename News _ _ _ _ => N1)
      refine loopW (fun n s' => ∀ C : Prop, (∀ done rem, (n = rem.length) → (done ++ rem = cs) → ((qt rem ++ 34 :: r).length < 100000) → (0 ≤ TL - nl (qt rem ++ 34 :: r)) → ∀ h tk m n vs tl tt, (s' = St s h tk) → (Fr g L h m) → (News g L h ((it, ciObj mo t0) :: (mo, methodObj (.ref 95) (.ref x)) :: (x, instObj 112 dx) :: (dx, lexD lxh (.int (TL - nl (qt rem ++ 34 :: r)) tl) fs (.str (Str.ofString "\n\t\r ") tw) pb k) :: (pb, listOf #[] npb) :: (fs, of) :: (D, od) :: (lam, ol) :: (cell, oc) :: (sg, listOf vs.toArray n) :: rest)) → (IsStk vs (qt rem ++ 34 :: r)) → (m (Str.ofString "self") = some (.ref x)) → (m (Str.ofString "token") = some (.str (S done) tt)) → (m (Str.ofString "fiter") = some (.ref it)) → C) → C) cs.length (fun _ k => k [] cs rfl rfl (by simp at hl2 ⊢; omega) (by first | with_reducible exact nlTail hT3 | with_reducible exact nlTail (nlTail hT3) | exact nlTail hT3 | exact nlTail (nlTail hT3) | (have := hT3; simp only [nl] at this; omega)) _ _ _ _ _ _ _ rfl F1 N1 hv3 rfl rfl rfl) ?_
      clear F1 N1
      intro n2 s2 J2 hJ2 hI0
      refine hI0 _ ?_
      clear hI0
      rintro done rem rfl hdr hl4 hT4 h2' tk2 m2' n3 vs2 tl2 tt rfl F0 N0 hv2 m1 m2 m3
      have hdn : done.length < 100000 := by have := congrArg List.length hdr; simp at this; omega
      cases rem with
      | nil =>
        rw [show qt [] ++ 34 :: r = 34 :: r from rfl] at hv2 N0 hT4 hl4
        refine lex_next (T := TL) (un := un + 3) (dp := dp + 1) Xg Tg (by omega) (by omega) I R hps hv2 (by simp at hl4 ⊢; omega) (by omega) hT2 F0 N0 ?_
        intro h' tk' tc vs' n' tl' hv4 F' N'
        have F2 := fr_explicit [(Str.ofString "self", .ref x), (Str.ofString "token", .str (S done) tt), (Str.ofString "fiter", .ref it)] F' (allC m1 (allC m2 (allC m3 (List.forall_mem_nil _))))
        clear F' F0 N0
        rw [show S [34] = Str.ofString "\"" by decide]
        k_steps
        (with_reducible rename Fr _ _ _ _ => F1); (with_reducible rename News _ _ _ _ => N1)
        rw [List.append_nil] at hdr
        subst hdr
        refine ret _ _ _ _ _ _ (kp_on kp F1 (allC (.inr ⟨(hr _ (by k_mem : (x, _) ∈ _)).1, N1.get (by k_mem)⟩) (allC (.inl (by simp)) (allC (.inr ⟨(hr _ (by k_mem : (pb, _) ∈ _)).1, N1.get (by k_mem)⟩) (allC (.inr ⟨(hr _ (by k_mem : (fs, _) ∈ _)).1, N1.get (by k_mem)⟩) (allC (.inr ⟨(hr _ (by k_mem : (D, _) ∈ _)).1, N1.get (by k_mem)⟩) (allC (.inr ⟨(hr _ (by k_mem : (lam, _) ∈ _)).1, N1.get (by k_mem)⟩) (allC (.inr ⟨(hr _ (by k_mem : (cell, _) ∈ _)).1, N1.get (by k_mem)⟩) (allC (.inl (by simp)) (fun q hq => .inr ⟨(hr q (.tail _ (.tail _ (.tail _ (.tail _ (.tail _ (.tail _ (.tail _ (.tail _ hq))))))))).1, (N1 q (.tail _ (.tail _ (.tail _ (.tail _ (.tail _ (.tail _ (.tail _ (.tail _ (.tail _ (.tail _ hq))))))))))).1⟩)))))))))) hv4 (N1.get (by k_mem)) (N1.get (by k_mem))
      | cons c rem =>
        by_cases hc : c = 34 ∨ c = 92
        · rw [show qt (c :: rem) ++ 34 :: r = 92 :: c :: (qt rem ++ 34 :: r) by simp only [qt, if_pos hc]; rfl] at hv2 N0 hT4 hl4
          refine lex_next (T := TL) (un := un + 3) (dp := dp + 1) Xg Tg (by omega) (by omega) I R hps hv2 (by simp at hl4 ⊢; omega) (by omega) hT2 F0 N0 ?_
          intro h' tk' tc vs' n' tl' hv4 F' N'
          have F2 := fr_explicit [(Str.ofString "self", .ref x), (Str.ofString "token", .str (S done) tt), (Str.ofString "fiter", .ref it)] F' (allC m1 (allC m2 (allC m3 (List.forall_mem_nil _))))
          clear F' F0 N0
          rw [show S [92] = Str.ofString "\\" by decide]
          k_steps
          (with_reducible rename Fr _ _ _ _ => F1); (with_reducible rename News _ _ _ _ => N1)
          refine wpAny_call (lex_read (T := TL) (un := un + 3) (dp := dp + 1) Xg Tg (by omega) (by omega) I R hps hv4 (by simp at hl4 ⊢; omega) (by first | with_reducible exact nlTail hT4 | with_reducible exact nlTail (nlTail hT4) | exact nlTail hT4 | exact nlTail (nlTail hT4) | (have := hT4; simp only [nl] at this ⊢; omega)) hT2 F1 N1 ?_)
          intro h5 tk5 tc5 vs5 n5 tl5 hv5 F5 N5
          clear F1 N1

          k_steps
          (with_reducible rename Fr _ _ _ _ => F1); (with_reducible rename News _ _ _ _ => N1)
          (apply TurnEnd.mk; exact hJ2 _ rem.length (by simp) (fun _ k => k (done ++ [c]) rem rfl (by rw [List.append_assoc]; exact hdr) (by simp at hl4 ⊢; omega) (by first | with_reducible exact nlTail hT4 | with_reducible exact nlTail (nlTail hT4) | exact nlTail hT4 | exact nlTail (nlTail hT4) | (have := hT4; simp only [nl] at this; omega)) _ _ _ _ _ _ _ rfl F1 N1 hv5 rfl (by rw [← S_app]; rfl) rfl))
        · have e1 : (S [c] == Str.ofString "\"") = false := beq_false_of_ne fun z => hc (.inl (by have := S_inj (a := [c]) (b := [34]) (by rw [z]; decide); simpa using this))
          have e2 : (S [c] == Str.ofString "\\") = false := beq_false_of_ne fun z => hc (.inr (by have := S_inj (a := [c]) (b := [92]) (by rw [z]; decide); simpa using this))
          rw [show qt (c :: rem) ++ 34 :: r = c :: (qt rem ++ 34 :: r) by simp only [qt, if_neg hc]; rfl] at hv2 N0 hT4 hl4
          refine lex_next (T := TL) (un := un + 3) (dp := dp + 1) Xg Tg (by omega) (by omega) I R hps hv2 (by simp at hl4 ⊢; omega) (by omega) hT2 F0 N0 ?_
          intro h' tk' tc vs' n' tl' hv4 F' N'
          have F2 := fr_explicit [(Str.ofString "self", .ref x), (Str.ofString "token", .str (S done) tt), (Str.ofString "fiter", .ref it)] F' (allC m1 (allC m2 (allC m3 (List.forall_mem_nil _))))
          clear F' F0 N0
          k_steps
          (with_reducible rename Fr _ _ _ _ => F1); (with_reducible rename News _ _ _ _ => N1)
          (apply TurnEnd.mk; exact hJ2 _ rem.length (by simp) (fun _ k => k (done ++ [c]) rem rfl (by rw [List.append_assoc]; exact hdr) (by simp at hl4 ⊢; omega) (by first | with_reducible exact nlTail hT4 | with_reducible exact nlTail (nlTail hT4) | exact nlTail hT4 | exact nlTail (nlTail hT4) | (have := hT4; simp only [nl] at this; omega)) _ _ _ _ _ _ _ rfl F1 N1 hv4 rfl (by rw [← S_app]; rfl) rfl))
    | bare c cs sep r hsep =>
      refine lex_next (T := TL) (un := un + 3) (dp := dp + 1) Xg Tg (by omega) (by omega) I R hps hv2 (by simp at hl2 ⊢; omega) (by omega) hT2 F0 N0 ?_
      intro h' tk' tc vs' n' tl' hv3 F' N'
      have F2 := fr_explicit [(Str.ofString "self", .ref x), (Str.ofString "token", .str (S []) tt), (Str.ofString "fiter", .ref it)] F' (allC m1 (allC m2 (allC m3 (List.forall_mem_nil _))))
      clear F' F0 N0
      rw [show S [92] = Str.ofString "\\" by decide]
      k_steps
      (with_reducible rename Fr _ _ _ _ => F1); (with_reducible rename News _ _ _ _ => N1)
      refine wpAny_call (lex_read (T := TL) (un := un + 3) (dp := dp + 1) Xg Tg (by omega) (by omega) I R hps hv3 (by simp at hl2 ⊢; omega) (by first | with_reducible exact nlTail hT3 | with_reducible exact nlTail (nlTail hT3) | exact nlTail hT3 | exact nlTail (nlTail hT3) | (have := hT3; simp only [nl] at this ⊢; omega)) hT2 F1 N1 ?_)
      intro h5 tk5 tc5 vs5 n5 tl5 hv5 F5 N5
      clear F1 N1

      k_steps
      (with_reducible rename Fr _ _ _ _ => F1); (with_reducible rename News _ _ _ _ => N1)
      refine loopW (fun n s' => ∀ C : Prop, (∀ done rem, (n = rem.length) → (done ++ rem = c :: cs) → ((esc rem ++ sep :: r).length < 100000) → (0 ≤ TL - nl (esc rem ++ sep :: r)) → ∀ h tk m n vs tl tt, (s' = St s h tk) → (Fr g L h m) → (News g L h ((it, ciObj mo t0) :: (mo, methodObj (.ref 95) (.ref x)) :: (x, instObj 112 dx) :: (dx, lexD lxh (.int (TL - nl (esc rem ++ sep :: r)) tl) fs (.str (Str.ofString "\n\t\r ") tw) pb k) :: (pb, listOf #[] npb) :: (fs, of) :: (D, od) :: (lam, ol) :: (cell, oc) :: (sg, listOf vs.toArray n) :: rest)) → (IsStk vs (esc rem ++ sep :: r)) → (m (Str.ofString "self") = some (.ref x)) → (m (Str.ofString "token") = some (.str (S done) tt)) → (m (Str.ofString "fiter") = some (.ref it)) → C) → C) cs.length (fun _ k => k [c] cs rfl rfl (by simp at hl2 ⊢; omega) (by first | with_reducible exact nlTail hT3 | with_reducible exact nlTail (nlTail hT3) | exact nlTail hT3 | exact nlTail (nlTail hT3) | (have := hT3; simp only [nl] at this; omega)) _ _ _ _ _ _ _ rfl F1 N1 hv5 rfl rfl rfl) ?_
      clear F1 N1
      intro n2 s2 J2 hJ2 hI0
      refine hI0 _ ?_
      clear hI0
      rintro done rem rfl hdr hl4 hT4 h2' tk2 m2' n3 vs2 tl2 tt rfl F0 N0 hv2 m1 m2 m3
      have hdn : done.length < 100000 := by have := congrArg List.length hdr; simp at this hcs; omega
      cases rem with
      | nil =>
        rw [show esc [] ++ sep :: r = sep :: r from rfl] at hv2 N0 hT4 hl4
        refine lex_next (T := TL) (un := un + 3) (dp := dp + 1) Xg Tg (by omega) (by omega) I R hps hv2 (by simp at hl4 ⊢; omega) (by omega) hT2 F0 N0 ?_
        intro h' tk' tc vs' n' tl' hv4 F' N'
        have F2 := fr_explicit [(Str.ofString "self", .ref x), (Str.ofString "token", .str (S done) tt), (Str.ofString "fiter", .ref it)] F' (allC m1 (allC m2 (allC m3 (List.forall_mem_nil _))))
        clear F' F0 N0
        rcases hsep with rfl | rfl
        · rw [show S [10] = Str.ofString "\n" by decide]
          k_steps
          (with_reducible rename Fr _ _ _ _ => F1); (with_reducible rename News _ _ _ _ => N1)
          rw [List.append_nil] at hdr
          rw [← hdr] at ret
          refine ret _ _ _ _ _ _ (kp_on kp F1 (allC (.inr ⟨(hr _ (by k_mem : (x, _) ∈ _)).1, N1.get (by k_mem)⟩) (allC (.inl (by simp)) (allC (.inr ⟨(hr _ (by k_mem : (pb, _) ∈ _)).1, N1.get (by k_mem)⟩) (allC (.inr ⟨(hr _ (by k_mem : (fs, _) ∈ _)).1, N1.get (by k_mem)⟩) (allC (.inr ⟨(hr _ (by k_mem : (D, _) ∈ _)).1, N1.get (by k_mem)⟩) (allC (.inr ⟨(hr _ (by k_mem : (lam, _) ∈ _)).1, N1.get (by k_mem)⟩) (allC (.inr ⟨(hr _ (by k_mem : (cell, _) ∈ _)).1, N1.get (by k_mem)⟩) (allC (.inl (by simp)) (fun q hq => .inr ⟨(hr q (.tail _ (.tail _ (.tail _ (.tail _ (.tail _ (.tail _ (.tail _ (.tail _ hq))))))))).1, (N1 q (.tail _ (.tail _ (.tail _ (.tail _ (.tail _ (.tail _ (.tail _ (.tail _ (.tail _ (.tail _ hq))))))))))).1⟩)))))))))) hv4 (N1.get (by k_mem)) (N1.get (by k_mem))
        · rw [show S [9] = Str.ofString "\t" by decide]
          k_steps
          (with_reducible rename Fr _ _ _ _ => F1); (with_reducible rename News _ _ _ _ => N1)
          rw [List.append_nil] at hdr
          rw [← hdr] at ret
          refine ret _ _ _ _ _ _ (kp_on kp F1 (allC (.inr ⟨(hr _ (by k_mem : (x, _) ∈ _)).1, N1.get (by k_mem)⟩) (allC (.inl (by simp)) (allC (.inr ⟨(hr _ (by k_mem : (pb, _) ∈ _)).1, N1.get (by k_mem)⟩) (allC (.inr ⟨(hr _ (by k_mem : (fs, _) ∈ _)).1, N1.get (by k_mem)⟩) (allC (.inr ⟨(hr _ (by k_mem : (D, _) ∈ _)).1, N1.get (by k_mem)⟩) (allC (.inr ⟨(hr _ (by k_mem : (lam, _) ∈ _)).1, N1.get (by k_mem)⟩) (allC (.inr ⟨(hr _ (by k_mem : (cell, _) ∈ _)).1, N1.get (by k_mem)⟩) (allC (.inl (by simp)) (fun q hq => .inr ⟨(hr q (.tail _ (.tail _ (.tail _ (.tail _ (.tail _ (.tail _ (.tail _ (.tail _ hq))))))))).1, (N1 q (.tail _ (.tail _ (.tail _ (.tail _ (.tail _ (.tail _ (.tail _ (.tail _ (.tail _ (.tail _ hq))))))))))).1⟩)))))))))) hv4 (N1.get (by k_mem)) (N1.get (by k_mem))
      | cons c2 rem =>
        rw [show esc (c2 :: rem) ++ sep :: r = 92 :: c2 :: (esc rem ++ sep :: r) by simp only [esc]; rfl] at hv2 N0 hT4 hl4
        refine lex_next (T := TL) (un := un + 3) (dp := dp + 1) Xg Tg (by omega) (by omega) I R hps hv2 (by simp at hl4 ⊢; omega) (by omega) hT2 F0 N0 ?_
        intro h' tk' tc vs' n' tl' hv4 F' N'
        have F2 := fr_explicit [(Str.ofString "self", .ref x), (Str.ofString "token", .str (S done) tt), (Str.ofString "fiter", .ref it)] F' (allC m1 (allC m2 (allC m3 (List.forall_mem_nil _))))
        clear F' F0 N0
        rw [show S [92] = Str.ofString "\\" by decide]
        k_steps
        (with_reducible rename Fr _ _ _ _ => F1); (with_reducible rename News _ _ _ _ => N1)
        refine wpAny_call (lex_read (T := TL) (un := un + 3) (dp := dp + 1) Xg Tg (by omega) (by omega) I R hps hv4 (by simp at hl4 ⊢; omega) (by first | with_reducible exact nlTail hT4 | with_reducible exact nlTail (nlTail hT4) | exact nlTail hT4 | exact nlTail (nlTail hT4) | (have := hT4; simp only [nl] at this ⊢; omega)) hT2 F1 N1 ?_)
        intro h5 tk5 tc5 vs5 n5 tl5 hv5 F5 N5
        clear F1 N1

        k_steps
        (with_reducible rename Fr _ _ _ _ => F1); (with_reducible rename News _ _ _ _ => N1)
        (apply TurnEnd.mk; exact hJ2 _ rem.length (by simp) (fun _ k => k (done ++ [c2]) rem rfl (by rw [List.append_assoc]; exact hdr) (by simp at hl4 ⊢; omega) (by first | with_reducible exact nlTail hT4 | with_reducible exact nlTail (nlTail hT4) | exact nlTail hT4 | exact nlTail (nlTail hT4) | (have := hT4; simp only [nl] at this; omega)) _ _ _ _ _ _ _ rfl F1 N1 hv5 rfl (by rw [← S_app]; rfl) rfl))
end
end Mine
end
section
open PySem PySem.W PyProof.Rows PySem.Calls PySem.Spec
namespace Mine
local macro_rules | `(tactic| walk_at "fp") => `(tactic| (intro q hq; first | (cases hq; done) | ( (simp only [List.mem_cons, List.not_mem_nil, or_false, or_self] at hq); (repeat' (rcases hq with hq | hq)) <;> (first | (subst hq; exact ⟨by assumption, by assumption⟩) | exact hq.elim))))
section
variable {w : World} {p : Program} {loose : List Str} {mean : ExcName → Option Value} {mg mb : Str → Option Value} {G : Heap} {s : Shared} {dp un : Nat} {fr : Option (List Env)} {gd : Option (List Code)} {Q E : Value → Shared → Prop}
set_option maxRecDepth 100000 in
set_option maxHeartbeats 8000000 in
theorem c_div2n1n (hG : G.StaysIn s.heap) (X : (hd.heap_1 w.params).In G) (T : Top p loose mean mg mb G) (hdp : dp < 900) (hun : un < 9000)
   {a b c : Int} {ta tb tc : Tok}
   (h1 : 0 ≤ a) (h2 : a < 2 ^ 60) (h3 : 2 ≤ b) (h4 : b ≤ 8) (h5 : 0 ≤ c)
   (ret : ∀ q h' tk' t1 t2, Keeps [] s.heap h' → s.heap.get? q = none → h'.get? q = some { cls := .type "tuple", data := .seq #[.int (a.fdiv b) t1, .int (a.fmod b) t2] } → Q (.ref q) (St s h' tk')) :
   wpAny (model PR w) (Ar dp un fr gd) (call (.ref 21) [.int a ta, .int b tb, .int c tc]) Q E s := by
  refine wpAny_call ?_
  have hfp : ∀ q ∈ ([] : List (Addr × Obj)), s.heap.get? q.1 = some q.2 ∧ G.get? q.1 = none := by walk_at "fp"
  k_dflt (refine' enterK (binds := [((Str.ofString "a"), .int a ta), ((Str.ofString "b"), .int b tb), ((Str.ofString "n"), .int c tc)]) [] hG hfp X T ?k6 ?k7 ?k8 ?k9 ?kB ?m ?c5 ?c2 ?c3 ?c4; (case k6 => k_is); (case k7 => k_is); (case k8 => (simp only [recursionLimit]; omega)); (case k9 => exact BindsTo.of_eq rfl); (case c5 => decide); (case kB => exact locs rfl); (case c2 => exact rfl); (case c3 => exact rfl); (case c4 => exact rfl))
  intro g L hh Gg Xg Tg kp F N l1 ng
  clear X T
  (try k_lt l1)
  replace F : Fr g L hh (fun y => List.lookup y [((Str.ofString "n"), .int c tc), ((Str.ofString "b"), .int b tb), ((Str.ofString "a"), .int a ta)]) := F
  (try dsimp only)
  (try k_fold)
  have hbl : (Builtin.Int.intBits a : Int) ≤ 64 := by exact_mod_cast intBits_le_64 (by omega) (by omega)
  k_steps
  (with_reducible rename Fr _ _ _ _ => fE); (with_reducible rename News _ _ _ _ => nE)
  exact ret _ _ _ _ _ (kp_keeps kp fE) (kp_fresh kp nE (by k_mem) (by simp)) (nE.get (by k_mem))

theorem k_div2n1n (hG : G.StaysIn s.heap) (X : (hd.heap_1 w.params).In G) (T : Top p loose mean mg mb G) (hdp : dp < 900) (hun : un < 9000)
   {a b c : Nat} {ta tb tc : Tok} (h2 : a < 1000000000) (h3 : 2 ≤ b) (h4 : b ≤ 8)
   (ret : ∀ q h' tk' t1 t2, Keeps [] s.heap h' → s.heap.get? q = none → h'.get? q = some { cls := .type "tuple", data := .seq #[.int (a / b : Nat) t1, .int (a % b : Nat) t2] } → Q (.ref q) (St s h' tk')) :
   wpAny (model PR w) (Ar dp un fr gd) (call (.ref 21) [.int a ta, .int b tb, .int c tc]) Q E s := by
  refine c_div2n1n hG X T hdp hun (by omega) (by omega) (by omega) (by omega) (by omega) fun q h' tk' t1 t2 k1 k2 k3 => ret q h' tk' t1 t2 k1 k2 ?_
  rw [k3]
  have e1 : ((a : Int).fdiv b) = ((a / b : Nat) : Int) := by rw [Int.fdiv_eq_ediv_of_nonneg _ (by omega)]; rfl
  have e2 : ((a : Int).fmod b) = ((a % b : Nat) : Int) := by rw [Int.fmod_eq_emod_of_nonneg _ (by omega)]; rfl
  rw [e1, e2]
end
end Mine
end
section
open PySem PySem.W PyProof.Rows PySem.Calls PySem.Spec
namespace Mine
/-- the values of the quotient's digits, the highest first -/
def QDigs (a b n K : Nat) (i : Nat) (qs : List Value) : Prop := qs.length = i ∧ ∀ j, j < i → ∃ t, qs[j]? = some (.int ((a / 2 ^ (n * (K - (j + 1))) / b % 2 ^ n : Nat) : Int) t)
theorem QDigs.push {a b n K i : Nat} {qs : List Value} (h : QDigs a b n K i qs) {x : Nat} {t : Tok} (hx : x = a / 2 ^ (n * (K - (i + 1))) / b % 2 ^ n) : QDigs a b n K (i + 1) (qs ++ [.int (x : Int) t]) := by
  obtain ⟨h1, h2⟩ := h
  refine ⟨by simp [h1], fun j hj => ?_⟩
  by_cases e : j < i
  · obtain ⟨t', e'⟩ := h2 j e
    exact ⟨t', by rw [List.getElem?_append_left (by omega)]; exact e'⟩
  · have : j = i := by omega
    subst this
    exact ⟨t, by rw [List.getElem?_append_right (by omega), h1]; simp [hx]⟩
/-- one step of the long division -/
theorem long_step {a b n j : Nat} (hb : 0 < b) (hbn : b < 2 ^ n) : let A := a / 2 ^ (n * (j + 1)); let d := a / 2 ^ (n * j) % 2 ^ n
    (A % b * 2 ^ n + d) / b = a / 2 ^ (n * j) / b % 2 ^ n ∧ (A % b * 2 ^ n + d) % b = a / 2 ^ (n * j) % b := by
  intro A d
  have hA : a / 2 ^ (n * j) = A * 2 ^ n + d := by
    have e : A = a / 2 ^ (n * j) / 2 ^ n := by
      show a / 2 ^ (n * (j + 1)) = _
      rw [Nat.div_div_eq_div_mul, ← Nat.pow_add, Nat.mul_add, Nat.mul_one]
    rw [e, Nat.mul_comm (a / 2 ^ (n * j) / 2 ^ n)]; exact (Nat.div_add_mod _ _).symm
  have hd : d < 2 ^ n := Nat.mod_lt _ (Nat.pow_pos (by decide))
  have hr : A % b < b := Nat.mod_lt _ hb
  have hAb := Nat.div_add_mod A b
  have hlt : A % b * 2 ^ n + d < b * 2 ^ n := by
    have : (A % b + 1) * 2 ^ n ≤ b * 2 ^ n := Nat.mul_le_mul_right _ hr
    rw [Nat.add_mul, Nat.one_mul] at this
    omega
  have hsum : A * 2 ^ n + d = b * (A / b * 2 ^ n) + (A % b * 2 ^ n + d) := by
    rw [← Nat.add_assoc, ← Nat.mul_assoc, ← Nat.add_mul, hAb]
  have q : (A * 2 ^ n + d) / b = A / b * 2 ^ n + (A % b * 2 ^ n + d) / b := by rw [hsum, Nat.mul_add_div hb]
  constructor
  · rw [hA, q, Nat.mul_comm (A / b), Nat.mul_add_mod, Nat.mod_eq_of_lt (Nat.div_lt_of_lt_mul hlt)]
  · rw [hA, hsum, Nat.mul_add_mod]
theorem long_step' {a b n K i R dd : Nat} (hb : 0 < b) (hbn : b < 2 ^ n) (hi : i < K) (hR : R = a / 2 ^ (n * (K - i)) % b) (hd : dd = a / 2 ^ (n * (K - 1 - i)) % 2 ^ n) :
    (R * 2 ^ n + dd) / b = a / 2 ^ (n * (K - (i + 1))) / b % 2 ^ n ∧ (R * 2 ^ n + dd) % b = a / 2 ^ (n * (K - (i + 1))) % b := by
  have := long_step (a := a) (b := b) (n := n) (j := K - 1 - i) hb hbn
  rw [subs2 hi] at this
  rw [hR, hd, subs1 (K := K) (i := i)]
  exact this
theorem valD_digits (X n : Nat) : ∀ K, valD (fun j => X / 2 ^ (n * j) % 2 ^ n) n 0 K = X % 2 ^ (n * K)
  | 0 => by simp [valD, Nat.mod_one]
  | K + 1 => by
    rw [valD_add _ n K 0 1, valD_digits X n K, Nat.zero_add]
    simp only [valD, Nat.mul_zero, Nat.add_zero]
    rw [show n * (K + 1) = n * K + n by rw [Nat.mul_add, Nat.mul_one], Nat.pow_add, Nat.mod_mul]
theorem qdigs_rev {a b n K : Nat} {qs : List Value} (h : QDigs a b n K K qs) : ∀ i, i < qs.reverse.length → ∃ t, qs.reverse[i]? = some (.int ((a / b / 2 ^ (n * i) % 2 ^ n : Nat) : Int) t) := by
  intro i hi
  rw [List.length_reverse, h.1] at hi
  obtain ⟨t, e⟩ := h.2 (K - 1 - i) (by show K - 1 - i + 1 ≤ K; rw [subs2 hi]; exact Nat.sub_le K i)
  refine ⟨t, ?_⟩
  rw [List.getElem?_reverse (by rw [h.1]; exact hi), h.1, e]
  rw [subs2 hi, Nat.sub_sub_self (Nat.le_of_lt hi), Nat.div_div_eq_div_mul, Nat.mul_comm, ← Nat.div_div_eq_div_mul]
end Mine
end
section
open PySem PySem.W PyProof.Rows PySem.Calls PySem.Spec
namespace Mine
section
variable {w : World} {p : Program} {loose : List Str} {mean : ExcName → Option Value} {mg mb : Str → Option Value} {G : Heap} {s : Shared} {dp un : Nat} {fr : Option (List Env)} {gd : Option (List Code)} {Q E : Value → Shared → Prop} {rest : List (Addr × Obj)}

local macro_rules | `(tactic| walk_at "call builtin:list.append") => `(tactic| walk_at "al0")
local macro_rules | `(tactic| k_all) => `(tactic| walk_at "al2")
theorem inv_nat {o : Option Value} {t : Tok} {k k' : Nat} (h : o = some (.int (k : Int) t)) (e : k = k') : o = some (.int (k' : Int) t) := by rw [← e]; exact h
theorem inv0 {o : Option Value} {t : Tok} {k : Nat} (h : o = some (.int 0 t)) (e : k = 0) : o = some (.int (k : Int) t) := by rw [e]; exact h
local macro_rules | `(tactic| walk_at "binaryOp Add int int") => `(tactic| (with_reducible refine n_add ?_))
local macro_rules | `(tactic| walk_at "binaryOp LShift int int") => `(tactic| (with_reducible refine n_shl (by omega) (by omega) ?_))
local macro_rules | `(tactic| walk_at "call builtin:list.reverse") => `(tactic| (refine Halt.out ?_))
set_option maxRecDepth 100000 in
set_option maxHeartbeats 8000000 in
theorem c_divmod_pos (hG : G.StaysIn s.heap) (X : (hd.heap_1 w.params).In G) (T : Top p loose mean mg mb G) (hdp : dp < 700) (hun : un < 7000) (C1 : CodeHd G 34 30) (C2 : CodeHd G 41 37) (R : Rest rest) (hr : ∀ q ∈ rest, s.heap.get? q.1 = some q.2 ∧ G.get? q.1 = none)
   {a b : Nat} {ta tb : Tok} (ha : a < 512) (hb1 : 2 ≤ b) (hb2 : b ≤ 8)
   (ret : ∀ (h' : Heap) (tk' : Nat) (q : Addr) (k' : Nat) (x y : Tok) (rest' : List (Addr × Obj)), Keeps (rest.map (·.1)) s.heap h' → s.heap.get? q = none → h'.get? q = some { cls := .type "tuple", data := .seq #[.int (a / b : Nat) x, .int (a % b : Nat) y] } → Rest rest' → SubR rest rest' → (∀ q ∈ rest', h'.get? q.1 = some q.2 ∧ G.get? q.1 = none) → Q (.ref q) (St s h' tk')) :
   wpAny (model PR w) (Ar dp un fr gd) (call (.ref 49) [.int a ta, .int b tb]) Q E s := by
  have hbb1 := bits_lt b
  have hbb2 := bits_le (a := b) (m := 4) (by omega)
  have hbb3 : 2 ≤ Builtin.Int.intBits (b : Int) := by
    cases e : Builtin.Int.intBits (b : Int) with
    | zero => rw [e] at hbb1; simp at hbb1; omega
    | succ k => cases k with
      | zero => rw [e] at hbb1; simp at hbb1; omega
      | succ k => omega
  generalize hbe : Builtin.Int.intBits (b : Int) = n at hbb1 hbb2 hbb3
  replace hbb1 := Hid.mk hbb1
  refine wpAny_call ?_
  k_dflt (refine' enterK (binds := [((Str.ofString "a"), .int a ta), ((Str.ofString "b"), .int b tb)]) rest hG hr X T ?k6 ?k7 ?k8 ?k9 ?kB ?m ?c5 ?c2 ?c3 ?c4; (case k6 => k_is); (case k7 => k_is); (case k8 => (simp only [recursionLimit]; omega)); (case k9 => exact BindsTo.of_eq rfl); (case c5 => decide); (case kB => exact locs rfl); (case c2 => exact rfl); (case c3 => exact rfl); (case c4 => exact rfl))
  intro g L hh Gg Xg Tg kp F N l1 ng
  replace F : Fr g L hh (fun y => List.lookup y [((Str.ofString "b"), .int b tb), ((Str.ofString "a"), .int a ta)]) := F
  clear X T l1
  (try dsimp only)
  (try k_fold)
  have Cg1 : CodeHd g 34 30 := C1.keeps fun b o e => Gg b o e
  have Cg2 : CodeHd g 41 37 := C2.keeps fun b o e => Gg b o e
  k_steps
  (with_reducible rename Fr _ _ _ _ => F1); (with_reducible rename News _ _ _ _ => N1)
  simp only [hbe] at F1
  rw [hbe]
  refine r_int2digits (G := g) (dp := dp + 1) (un := un + 3) (fun b o e => F1.keep b o e) Xg Tg (by omega) (by omega) Cg1 R (fun q hq => ⟨(N1 q hq).1, (N1 q hq).2.2⟩) ha hbb3 hbb2 ?_
  intro h2 tk2 ad vs k' rest2 kp2 fr2 e2 R2 sb2 hr2 hl5 ha2 hvs
  have F2 := fr_rest (ex := []) F1 N1 kp2
  have N2 : News g L h2 ((ad, listOf vs.toArray k') :: rest2) := news_cons (after_new F1 fr2 e2) (news_rest (ex := []) F2 N1 R (List.forall_mem_nil _) kp2 R2 hr2)
  have rin : ∀ q ∈ rest2, q ∈ (ad, listOf vs.toArray k') :: rest2 := fun q hq => .tail _ hq
  clear F1 N1
  k_steps
  (with_reducible rename Fr _ _ _ _ => F1); (with_reducible rename News _ _ _ _ => N1)
  rename_i lq xh2 hlt1 xh1 it xh0 hlt2
  have h0r : a / 2 ^ (n * (vs.length - 0)) % b = 0 := by
    rw [Nat.sub_zero, Nat.div_eq_of_lt ha2, Nat.zero_mod]
  replace ha2 := Hid.mk ha2
  replace hvs := Hid.mk hvs
  replace hlt1 := hlt1.1
  replace hlt2 := hlt2.1
  refine wpAny_pyIter_revIter (l := ad) ⟨_, N1.get (.head _), rfl, rfl⟩ ?_
  have neit : ∀ p ∈ rest2, p.1 ≠ it := R2.ne N1 (fun q hq => .tail _ (.tail _ (.tail _ hq))) (.head _) (fun vs e => by cases e; exact ⟨nofun, by simp [rawInt]⟩)
  refine loopInv (g := g) rfl (Itr.rev (l := ad) vs) (fun i m news => ∀ C : Prop, (∀ qs k tr tn, (m (Str.ofString "b") = some (.int b tb)) → (m (Str.ofString "n") = some (.int n tn)) → (m (Str.ofString "r") = some (.int ((a / 2 ^ (n * (vs.length - i)) % b : Nat)) tr)) → (m (Str.ofString "q_digits") = some (.ref lq)) → (news = (lq, listOf qs.toArray k) :: (ad, listOf vs.toArray k') :: rest2) → (QDigs a b n vs.length i qs) → C) → C) ?_ F1 N1 ⟨rfl, ?_⟩ ?_ (fun _ k => k [] 0 _ _ rfl rfl (inv0 rfl h0r) rfl rfl ⟨rfl, fun j hj => absurd hj (Nat.not_lt_zero _)⟩) ?_ ?_
  · rintro i m news h hI0
    refine hI0 _ ?_
    clear hI0
    rintro qs k tr tn e1 e2 e3 e4 rfl e6 F N
    exact News.isList N (by k_mem)
  · have q0 : (vs.length : Int) - 1 - ((0 : Nat) : Int) = vs.length - 1 := by omega
    rw [q0]
    rfl
  · exact allC (by k_ne) (allC (by k_ne) neit)
  · rintro i v m news h tk o hi hP hI0
    refine hI0 _ ?_
    clear hI0
    rintro qs k tr tn e1 e2 e3 e4 rfl e6 F2 N2 hne J hJ
    obtain ⟨td, ed⟩ := hvs.out (vs.length - 1 - i) (by omega)
    rw [ed] at hP
    cases hP
    obtain ⟨R', hR⟩ : ∃ R, R = a / 2 ^ (n * (vs.length - i)) % b := ⟨_, rfl⟩
    have hRb : R' < b := by rw [hR]; exact Nat.mod_lt _ (by omega)
    obtain ⟨dd, hdd⟩ : ∃ d, d = a / 2 ^ (n * (vs.length - 1 - i)) % 2 ^ n := ⟨_, rfl⟩
    have hd16 : dd < 16 := by
      rw [hdd]
      exact Nat.lt_of_lt_of_le (Nat.mod_lt _ (Nat.pow_pos (by decide))) (Nat.pow_le_pow_right (by decide) hbb2)
    have h16 : (2 : Nat) ^ n ≤ 16 := Nat.pow_le_pow_right (by decide) hbb2
    have hsm : R' * 2 ^ n ≤ 8 * 16 := Nat.mul_le_mul (by omega) h16
    rw [← hR] at e3
    rw [← hdd]
    replace hR := Hid.mk hR
    replace hdd := Hid.mk hdd
    have F3 := fr_explicit [(Str.ofString "b", .int b tb), (Str.ofString "n", .int n tn), (Str.ofString "r", .int (R' : Nat) tr), (Str.ofString "q_digits", .ref lq)] F2 (allC e1 (allC e2 (allC e3 (allC e4 (List.forall_mem_nil _)))))
    clear F2 F1 N1
    refine wpAny_assign_Name ?_
    k_steps
    (with_reducible rename Fr _ _ _ _ => F1); (with_reducible rename News _ _ _ _ => N1)
    refine k_div2n1n (G := g) (dp := dp + 1) (un := un + 3) (fun b o e => F1.keep b o e) Xg Tg (by omega) (by omega) ?_ hb1 hb2 ?_
    · omega
    intro q h4 tk4 u1 u2 kp4 fr4 e4'
    have F4 := after_fr F1 kp4 (List.forall_mem_nil _)
    have N4 := news_cons (p := (q, _)) (after_new F1 fr4 e4') (news_same N1 kp4)
    have ne4 : @Ne Nat it q ∧ @Ne Nat lq q ∧ @Ne Nat ad q := ⟨fresh_ne N1 fr4 _ (.head _), fresh_ne N1 fr4 _ (.tail _ (.head _)), fresh_ne N1 fr4 _ (.tail _ (.tail _ (.head _)))⟩
    have hql := e6.1
    have rin4 : ∀ p ∈ rest2, p ∈ (q, { cls := .type "tuple", data := .seq #[.int ((R' * 2 ^ n + dd) / b : Nat) u1, .int ((R' * 2 ^ n + dd) % b : Nat) u2] }) :: (it, o) :: (lq, listOf qs.toArray k) :: (ad, listOf vs.toArray k') :: rest2 := fun p hp => .tail _ (.tail _ (.tail _ (.tail _ hp)))
    clear F1 N1
    k_steps
    (with_reducible rename Fr _ _ _ _ => F1); (with_reducible rename News _ _ _ _ => N1)
    rw [List.push_toArray] at N1
    have ls := long_step' (a := a) (b := b) (n := n) (K := vs.length) (i := i) (by omega) hbb1.out hi hR.out hdd.out
    refine TurnEnd.mk <| hJ _ _ _ _ F1 (fun p hp => N1 p (.tail _ hp)) (allC (by k_ne) (allC (by k_ne) neit)) (fun _ k => k _ _ _ _ rfl rfl (inv_nat rfl ls.2) rfl rfl (e6.push ls.1))
  · rintro m news h tk hI0
    refine hI0 _ ?_
    clear hI0
    rintro qs k tr tn e1 e2 e3 e4 rfl e6 F2 N2
    have F3 := fr_explicit [(Str.ofString "b", .int b tb), (Str.ofString "n", .int n tn), (Str.ofString "r", .int ((a / 2 ^ (n * (vs.length - vs.length)) % b : Nat)) tr), (Str.ofString "q_digits", .ref lq)] F2 (allC e1 (allC e2 (allC e3 (allC e4 (List.forall_mem_nil _)))))
    clear F2 F1 N1
    k_steps
    (with_reducible rename Fr _ _ _ _ => F1); (with_reducible rename News _ _ _ _ => N1)
    refine ⟨?_⟩
    refine kl_reverse (its := qs.toArray) (l := qs.reverse) F1 N1 (by simp) (.head (allC (by k_ne) (R2.ne N1 (fun q hq => .tail _ (.tail _ hq)) (.head _) notRest_seq))) (by rw [sizeLine_eq]; simp only; have := e6.1; omega) ?_
    intro h5 F5 N5
    clear F1 N1
    k_steps
    (with_reducible rename Fr _ _ _ _ => F1); (with_reducible rename News _ _ _ _ => N1)
    have hqr := qdigs_rev e6
    have hX : a / b < 2 ^ (n * vs.length) := Nat.lt_of_le_of_lt (Nat.div_le_self _ _) ha2.out
    replace hX := Hid.mk hX
    refine r_digits2int (G := g) (D := fun i => a / b / 2 ^ (n * i) % 2 ^ n) (dp := dp + 1) (un := un + 3) (fun b o e => F1.keep b o e) Xg Tg (by omega) (by omega) Cg2 R2 (fun q hq => ⟨(N1 q (.tail _ (.tail _ hq))).1, (N1 q (.tail _ (.tail _ hq))).2.2⟩) (N1.get (by k_mem)) (N1.fresh (by k_mem)) hbb3 hbb2 hqr (fun i => Nat.mod_lt _ (Nat.pow_pos (by decide))) (by rw [List.length_reverse]; have := e6.1; omega) ?_
    intro h6 tk6 t6 rest3 kp6 R3 sb3 hr3
    have N1r : News g L _ ([] ++ rest2) := fun q hq => N1 q (.tail _ (.tail _ hq))
    have F6 := fr_rest F1 N1r kp6
    have N6 : News g L h6 rest3 := news_rest (ex := []) F6 N1r R2 (List.forall_mem_nil _) kp6 R3 hr3
    clear F1 N1 N1r
    rw [valD_digits, List.length_reverse, e6.1, Nat.mod_eq_of_lt hX.out]
    k_steps
    (with_reducible rename Fr _ _ _ _ => F1); (with_reducible rename News _ _ _ _ => N1)
    rw [Nat.sub_self, Nat.mul_zero, Nat.pow_zero, Nat.div_one] at N1
    rename_i hlt9
    exact ret _ _ _ 0 _ _ rest3 (kp_keeps kp F1) (kp_fresh kp N1 (by k_mem) (fun z => allLt_notin (allLt_of hlt9) ((sb2.trans sb3).addr _ z))) (N1.get (by k_mem)) R3 (sb2.trans sb3) (fun q hq => ⟨(N1 q (.tail _ hq)).1, g_none Gg (N1 q (.tail _ hq)).2.2⟩)
end
end Mine
end
section
open PySem PySem.W PyProof.Rows PySem.Calls PySem.Spec
namespace Mine
section
variable {w : World} {p : Program} {loose : List Str} {mean : ExcName → Option Value} {mg mb : Str → Option Value} {G : Heap} {s : Shared} {dp un : Nat} {fr : Option (List Env)} {gd : Option (List Code)} {Q E : Value → Shared → Prop} {rest : List (Addr × Obj)}
local macro_rules | `(tactic| k_all) => `(tactic| walk_at "al2")

theorem bn0 (x : Int) : Builtin.bitNot x = -x - 1 := by unfold Builtin.bitNot; omega
theorem bn (a : Nat) : Builtin.bitNot (-(a : Int) - 1) = (a : Int) := by rw [bn0]; omega
theorem fl (a b : Nat) (h : 0 < b) : (-(a : Int) - 1) / (b : Int) = -((a / b : Nat) : Int) - 1 ∧ (-(a : Int) - 1) % (b : Int) = (b : Int) + (-((a % b : Nat) : Int) - 1) := by
  have h1 := Nat.div_add_mod a b
  have h2 := Nat.mod_lt a h
  have h3 : (a : Int) = b * (a / b : Nat) + (a % b : Nat) := by exact_mod_cast h1.symm
  have e : (-(a : Int) - 1) = ((b : Int) + (-((a % b : Nat) : Int) - 1)) + b * (-((a / b : Nat) : Int) - 1) := by rw [Int.mul_sub, Int.mul_neg]; omega
  have h5 : ((b : Int) + (-((a % b : Nat) : Int) - 1)) % b = (b : Int) + (-((a % b : Nat) : Int) - 1) := Int.emod_eq_of_lt (by omega) (by omega)
  have h6 : ((b : Int) + (-((a % b : Nat) : Int) - 1)) / b = 0 := Int.ediv_eq_zero_of_lt (by omega) (by omega)
  constructor
  · rw [e, Int.add_mul_ediv_left _ _ (by omega), h6]; omega
  · rw [e, Int.add_mul_emod_self_left, h5]
set_option maxRecDepth 100000 in
set_option maxHeartbeats 8000000 in
theorem c_idm0 (hG : G.StaysIn s.heap) (X : (hd.heap_1 w.params).In G) (T : Top p loose mean mg mb G) (hdp : dp < 690) (hun : un < 6900) (C1 : CodeHd G 34 30) (C2 : CodeHd G 41 37) (R : Rest rest) (hr : ∀ q ∈ rest, s.heap.get? q.1 = some q.2 ∧ G.get? q.1 = none)
   {a b : Nat} {ta tb : Tok} (ha : a < 512) (hb1 : 2 ≤ b) (hb2 : b ≤ 8)
   (ret : ∀ (h' : Heap) (tk' : Nat) (q : Addr) (x y : Tok) (rest' : List (Addr × Obj)), Keeps (rest.map (·.1)) s.heap h' → s.heap.get? q = none → h'.get? q = some { cls := .type "tuple", data := .seq #[.int ((a / b : Nat)) x, .int ((a % b : Nat)) y] } → Rest rest' → SubR rest rest' → (∀ q ∈ rest', h'.get? q.1 = some q.2 ∧ G.get? q.1 = none) → Q (.ref q) (St s h' tk')) :
   wpAny (model PR w) (Ar dp un fr gd) (call (.ref 56) [.int a ta, .int b tb]) Q E s := by
  refine wpAny_call ?_
  k_dflt (refine' enterK (binds := [((Str.ofString "a"), .int a ta), ((Str.ofString "b"), .int b tb)]) rest hG hr X T ?k6 ?k7 ?k8 ?k9 ?kB ?m ?c5 ?c2 ?c3 ?c4; (case k6 => k_is); (case k7 => k_is); (case k8 => (simp only [recursionLimit]; omega)); (case k9 => exact BindsTo.of_eq rfl); (case c5 => decide); (case kB => exact locs rfl); (case c2 => exact rfl); (case c3 => exact rfl); (case c4 => exact rfl))
  intro g L hh Gg Xg Tg kp F N l1 ng
  replace F : Fr g L hh (fun y => List.lookup y [((Str.ofString "b"), .int b tb), ((Str.ofString "a"), .int a ta)]) := F
  clear X T l1
  (try dsimp only)
  (try k_fold)
  have Cg1 : CodeHd g 34 30 := C1.keeps fun b o e => Gg b o e
  have Cg2 : CodeHd g 41 37 := C2.keeps fun b o e => Gg b o e
  k_steps
  · exfalso; omega
  (with_reducible rename Fr _ _ _ _ => F1); (with_reducible rename News _ _ _ _ => N1)
  refine c_divmod_pos (G := g) (dp := dp + 1) (un := un + 3) (fun b o e => F1.keep b o e) Xg Tg (by omega) (by omega) Cg1 Cg2 R (fun q hq => ⟨(N1 q hq).1, (N1 q hq).2.2⟩) ha hb1 hb2 ?_
  intro h2 tk2 q k' tx ty rest2 kp2 fr2 e2 R2 sb2 hr2
  have F2 := fr_rest (ex := []) F1 N1 kp2
  have N2 : News g L h2 ((q, _) :: rest2) := news_cons (p := (q, _)) (after_new F1 fr2 e2) (news_rest (ex := []) F2 N1 R (List.forall_mem_nil _) kp2 R2 hr2)
  have rin : ∀ p ∈ rest2, p ∈ (q, { cls := .type "tuple", data := .seq #[.int ((a / b : Nat)) tx, .int ((a % b : Nat)) ty] }) :: rest2 := fun q hq => .tail _ hq
  have hqn : q ∉ rest.map (·.1) := fun z => by
    obtain ⟨p, hp, e⟩ := List.mem_map.mp z
    exact fresh_ne N1 fr2 p hp e
  clear F1 N1
  k_steps
  (with_reducible rename Fr _ _ _ _ => F1); (with_reducible rename News _ _ _ _ => N1)
  exact ret _ _ _ _ _ rest2 (kp_keeps kp F1) (kp_fresh kp N1 (by k_mem) hqn) (N1.get (by k_mem)) R2 sb2 (fun q hq => ⟨(N1 q (.tail _ hq)).1, g_none Gg (N1 q (.tail _ hq)).2.2⟩)
set_option maxRecDepth 100000 in
set_option maxHeartbeats 8000000 in
theorem c_idm1 (hG : G.StaysIn s.heap) (X : (hd.heap_1 w.params).In G) (T : Top p loose mean mg mb G) (hdp : dp < 680) (hun : un < 6800) (C1 : CodeHd G 34 30) (C2 : CodeHd G 41 37) (R : Rest rest) (hr : ∀ q ∈ rest, s.heap.get? q.1 = some q.2 ∧ G.get? q.1 = none)
   {a : Int} {b : Nat} {ta tb : Tok} (ha1 : -512 ≤ a) (ha2 : a < 512) (hb1 : 2 ≤ b) (hb2 : b ≤ 8)
   (ret : ∀ (h' : Heap) (tk' : Nat) (q : Addr) (x y : Tok) (rest' : List (Addr × Obj)), Keeps (rest.map (·.1)) s.heap h' → s.heap.get? q = none → h'.get? q = some { cls := .type "tuple", data := .seq #[.int (a / (b : Int)) x, .int (a % (b : Int)) y] } → Rest rest' → SubR rest rest' → (∀ q ∈ rest', h'.get? q.1 = some q.2 ∧ G.get? q.1 = none) → Q (.ref q) (St s h' tk')) :
   wpAny (model PR w) (Ar dp un fr gd) (call (.ref 56) [.int a ta, .int b tb]) Q E s := by
  by_cases hneg : 0 ≤ a
  · obtain ⟨a', rfl⟩ : ∃ a' : Nat, a = a' := ⟨a.toNat, by omega⟩
    exact c_idm0 hG X T (by omega) (by omega) C1 C2 R hr (by omega) hb1 hb2 ret
  obtain ⟨a', rfl⟩ : ∃ a' : Nat, a = -(a' : Int) - 1 := ⟨(-a - 1).toNat, by omega⟩
  refine wpAny_call ?_
  k_dflt (refine' enterK (binds := [((Str.ofString "a"), (.int (-(a' : Int) - 1) ta)), ((Str.ofString "b"), .int b tb)]) rest hG hr X T ?k6 ?k7 ?k8 ?k9 ?kB ?m ?c5 ?c2 ?c3 ?c4; (case k6 => k_is); (case k7 => k_is); (case k8 => (simp only [recursionLimit]; omega)); (case k9 => exact BindsTo.of_eq rfl); (case c5 => decide); (case kB => exact locs rfl); (case c2 => exact rfl); (case c3 => exact rfl); (case c4 => exact rfl))
  intro g L hh Gg Xg Tg kp F N l1 ng
  replace F : Fr g L hh (fun y => List.lookup y [((Str.ofString "b"), .int b tb), ((Str.ofString "a"), (.int (-(a' : Int) - 1) ta))]) := F
  clear X T l1
  (try dsimp only)
  (try k_fold)
  have Cg1 : CodeHd g 34 30 := C1.keeps fun b o e => Gg b o e
  have Cg2 : CodeHd g 41 37 := C2.keeps fun b o e => Gg b o e
  k_steps
  · exfalso; omega
  (with_reducible rename Fr _ _ _ _ => F1); (with_reducible rename News _ _ _ _ => N1)
  rw [bn]
  refine c_idm0 (G := g) (dp := dp + 1) (un := un + 3) (a := a') (b := b) (fun b o e => F1.keep b o e) Xg Tg (by omega) (by omega) Cg1 Cg2 R (fun q hq => ⟨(N1 q hq).1, (N1 q hq).2.2⟩) (by omega) hb1 hb2 ?_
  intro h2 tk2 q  tx ty rest2 kp2 fr2 e2 R2 sb2 hr2
  have F2 := fr_rest (ex := []) F1 N1 kp2
  have N2 : News g L h2 ((q, _) :: rest2) := news_cons (p := (q, _)) (after_new F1 fr2 e2) (news_rest (ex := []) F2 N1 R (List.forall_mem_nil _) kp2 R2 hr2)
  have rin : ∀ p ∈ rest2, p ∈ (q, { cls := .type "tuple", data := .seq #[.int ((a' / b : Nat)) tx, .int ((a' % b : Nat)) ty] }) :: rest2 := fun q hq => .tail _ hq
  have hqn : q ∉ rest.map (·.1) := fun z => by
    obtain ⟨p, hp, e⟩ := List.mem_map.mp z
    exact fresh_ne N1 fr2 p hp e
  clear F1 N1
  k_steps
  (with_reducible rename Fr _ _ _ _ => F1); (with_reducible rename News _ _ _ _ => N1)
  rename_i l9
  simp only [bn0] at N1
  have e1 : (-(a' : Int) - 1) / (b : Int) = -((a' / b : Nat) : Int) - 1 := (fl a' b (by omega)).1
  have e2 : (-(a' : Int) - 1) % (b : Int) = (b : Int) + (-((a' % b : Nat) : Int) - 1) := (fl a' b (by omega)).2
  rw [e1, e2] at ret
  exact ret _ _ _ _ _ rest2 (kp_keeps kp F1) (kp_fresh kp N1 (by k_mem) (fun z => allLt_notin l9.2 (sb2.addr _ z))) (N1.get (by k_mem)) R2 sb2 (fun q hq => ⟨(N1 q (.tail _ <| .tail _ hq)).1, g_none Gg (N1 q (.tail _ <| .tail _ hq)).2.2⟩)

set_option maxRecDepth 100000 in
set_option maxHeartbeats 8000000 in
theorem c_idm (hG : G.StaysIn s.heap) (X : (hd.heap_1 w.params).In G) (T : Top p loose mean mg mb G) (hdp : dp < 670) (hun : un < 6700) (C1 : CodeHd G 34 30) (C2 : CodeHd G 41 37) (R : Rest rest) (hr : ∀ q ∈ rest, s.heap.get? q.1 = some q.2 ∧ G.get? q.1 = none)
   {a : Int} {b : Nat} {ta tb : Tok} (ha1 : -500 ≤ a) (ha2 : a < 500) (hb1 : 2 ≤ b) (hb2 : b ≤ 8)
   (ret : ∀ (h' : Heap) (tk' : Nat) (q : Addr) (x y : Tok) (rest' : List (Addr × Obj)), Keeps (rest.map (·.1)) s.heap h' → s.heap.get? q = none → h'.get? q = some { cls := .type "tuple", data := .seq #[.int (-a / (b : Int)) x, .int (-(-a % (b : Int))) y] } → Rest rest' → SubR rest rest' → (∀ q ∈ rest', h'.get? q.1 = some q.2 ∧ G.get? q.1 = none) → Q (.ref q) (St s h' tk')) :
   wpAny (model PR w) (Ar dp un fr gd) (call (.ref 56) [.int a ta, .int (-(b : Int)) tb]) Q E s := by
  refine wpAny_call ?_
  k_dflt (refine' enterK (binds := [((Str.ofString "a"), (.int a ta)), ((Str.ofString "b"), (.int (-(b : Int)) tb))]) rest hG hr X T ?k6 ?k7 ?k8 ?k9 ?kB ?m ?c5 ?c2 ?c3 ?c4; (case k6 => k_is); (case k7 => k_is); (case k8 => (simp only [recursionLimit]; omega)); (case k9 => exact BindsTo.of_eq rfl); (case c5 => decide); (case kB => exact locs rfl); (case c2 => exact rfl); (case c3 => exact rfl); (case c4 => exact rfl))
  intro g L hh Gg Xg Tg kp F N l1 ng
  replace F : Fr g L hh (fun y => List.lookup y [((Str.ofString "b"), (.int (-(b : Int)) tb)), ((Str.ofString "a"), (.int a ta))]) := F
  clear X T l1
  (try dsimp only)
  (try k_fold)
  have Cg1 : CodeHd g 34 30 := C1.keeps fun b o e => Gg b o e
  have Cg2 : CodeHd g 41 37 := C2.keeps fun b o e => Gg b o e
  k_steps
  · exfalso; omega
  (with_reducible rename Fr _ _ _ _ => F1); (with_reducible rename News _ _ _ _ => N1)
  rw [Int.neg_neg]
  refine c_idm1 (G := g) (dp := dp + 1) (un := un + 3) (a := -a) (b := b) (fun b o e => F1.keep b o e) Xg Tg (by omega) (by omega) Cg1 Cg2 R (fun q hq => ⟨(N1 q hq).1, (N1 q hq).2.2⟩) (by omega) (by omega) hb1 hb2 ?_
  intro h2 tk2 q  tx ty rest2 kp2 fr2 e2 R2 sb2 hr2
  have F2 := fr_rest (ex := []) F1 N1 kp2
  have N2 : News g L h2 ((q, _) :: rest2) := news_cons (p := (q, _)) (after_new F1 fr2 e2) (news_rest (ex := []) F2 N1 R (List.forall_mem_nil _) kp2 R2 hr2)
  have rin : ∀ p ∈ rest2, p ∈ (q, { cls := .type "tuple", data := .seq #[.int (-a / (b : Int)) tx, .int (-a % (b : Int)) ty] }) :: rest2 := fun q hq => .tail _ hq
  have hqn : q ∉ rest.map (·.1) := fun z => by
    obtain ⟨p, hp, e⟩ := List.mem_map.mp z
    exact fresh_ne N1 fr2 p hp e
  clear F1 N1
  k_steps
  (with_reducible rename Fr _ _ _ _ => F1); (with_reducible rename News _ _ _ _ => N1)
  rename_i l9
  exact ret _ _ _ _ _ rest2 (kp_keeps kp F1) (kp_fresh kp N1 (by k_mem) (fun z => allLt_notin l9.2 (sb2.addr _ z))) (N1.get (by k_mem)) R2 sb2 (fun q hq => ⟨(N1 q (.tail _ <| .tail _ hq)).1, g_none Gg (N1 q (.tail _ <| .tail _ hq)).2.2⟩)

end
end Mine
end
section
open PySem PySem.W PyProof.Rows PySem.Calls PySem.Spec
namespace Mine
def scopeAt (K : Frag) (f : Addr) : Option Scope := match K.lookup f with
  | some ⟨_, _, .func fd, _⟩ => some fd.scope
  | _ => none
theorem with_look2 {K : Frag} {name qual : Str} {params : Arguments} {body : List Stmt} {scope : Scope} {dV kV doc pm cdv ct oc : Value} {an od : Option Addr} {osl : Array (Option Value)} {f : Addr} {goal : Prop}
    (ho : K.lookup f = some ⟨oc, od, .func (fnX name qual params body scope [] dV kV doc pm an cdv ct), osl⟩) (h : bodyAt K f = body → scopeAt K f = some scope → goal) : goal := h (by unfold bodyAt; rw [ho]) (by unfold scopeAt; rw [ho])
/-- the body of a for -/
def forBody (o : Option Stmt) : List Stmt := match o with
  | some (.For _ _ b _ _) => b
  | _ => []
def RngOb (n i : Nat) (o : Obj) : Prop := o = { cls := .type "range_iterator", data := .fields #[rawInt (i : Int), rawInt ((n : Int) - (i : Nat)), rawInt 1] }
theorem Itr.range (prog : Program) (w : World) (it : Addr) (n : Nat) : Itr prog w it n (fun i v => ∃ t, v = .int (i : Int) t) (RngOb n) (fun _ => True) where
  item A hA i s Q E o hi hO ho hs h := by
    subst hO
    refine wpAny_pyNext_range_item (it := it) (x := i) (left := (n : Int) - (i : Nat)) (step := 1) ho (by omega) fun h' hit hb => ?_
    refine h _ h' _ _ ⟨_, rfl⟩ rfl ?_ (keeps_same hb)
    have e1 : ((i : Int) + 1) = ((i + 1 : Nat) : Int) := by omega
    have e2 : ((n : Int) - (i : Nat) - 1) = (n : Int) - ((i + 1 : Nat) : Nat) := by omega
    rw [e1, e2] at hit
    exact hit
  done A hA s Q E o hO ho hs h := by
    subst hO
    exact wpAny_pyNext_range_end hA ho (by omega) fun h' k => h h' s.toks (keeps_ext k)
section
variable {prog : Program} {w : World} {A : Around} {E : Value → Shared → Prop} {s : Shared} {g : Heap} {L : Addr} {m : Str → Option Value} {news : List (Addr × Obj)} {Q : Value → Shared → Prop}
theorem small_of {n : Nat} (h : n < 100000) : Builtin.Range.small 0 (n : Int) 1 = true ∧ Builtin.Range.rangeSize 0 (n : Int) 1 = (n : Int) := by
  have e : Builtin.Range.rangeSize 0 (n : Int) 1 = (n : Int) := by
    unfold Builtin.Range.rangeSize
    simp
    omega
  refine ⟨?_, e⟩
  unfold Builtin.Range.small
  rw [e]
  simp [Builtin.Range.rangeFitsLong]
  omega
theorem iter_range {r : Addr} {b : Int} {t u v : Tok} (n : Nat) (hn : b = (n : Int)) (hlt : n < 100000) (hr : IsRange s.heap r 0 b 1 t u v) (F : Fr g L s.heap m) (N : News g L s.heap news)
   (h : ∀ it o h', RngOb n 0 o → Fr g L h' m → News g L h' ((it, o) :: news) → (∀ p ∈ news, p.1 < it) → Q (.ref it) { s with heap := h' }) : wpAny (model prog w) A (pyIter (.ref r)) Q E s := by
  subst hn
  refine wpAny_pyIter_range hr (small_of hlt).1 ?_
  exact h _ _ _ (by rw [(small_of hlt).2]; unfold RngOb; simp) (F.push _) (N.push F _) fun p hp => Heap.lt_size (N p hp).1
theorem item_eq {cs : List Nat} {k c : Nat} (hk : cs[k]? = some c) : Txt.item (S cs) (k : Int) = S [c] := by
  have hlt : k < cs.length := by
    rcases Nat.lt_or_ge k cs.length with h | h
    · exact h
    · simp [List.getElem?_eq_none h] at hk
  have e1 : seqIndex? (k : Int) (S cs).length = some k := by
    have hn : ¬ ((k : Int) < 0) := by omega
    simp [seqIndex?, S_len, hn, hlt]
  have e2 : (S cs).cps[k]? = some c := by simpa [S] using hk
  unfold Txt.item Txt.charAt
  rw [e1, Option.bind_some, e2]
  rfl
end
end Mine
end
section
open PySem PySem.W PyProof.Rows PySem.Calls PySem.Spec
namespace Mine
def lets : List Nat := [97, 32, 92, 34, 10, 98, 9, 35]
theorem lets_str : S lets = Str.ofString "a \\\"\nb\t#" := by decide
def fig (x : Int) (pl : Nat) : Nat := (x / (4 * 8 ^ pl) % 8).toNat
theorem fig_lt (x : Int) (pl : Nat) : fig x pl < 8 := by
  unfold fig
  have := Int.emod_lt_of_pos (x / (4 * 8 ^ pl)) (show (0 : Int) < 8 by decide)
  have := Int.emod_nonneg (x / (4 * 8 ^ pl)) (show (8 : Int) ≠ 0 by decide)
  omega
theorem fig_int (x : Int) (pl : Nat) : (x / (4 * 8 ^ pl) % 8) = (fig x pl : Int) := by
  unfold fig
  have := Int.emod_nonneg (x / (4 * 8 ^ pl)) (show (8 : Int) ≠ 0 by decide)
  omega
def letOf (k : Nat) : Nat := lets.getD k 0
theorem lets_at {k : Nat} (h : k < 8) : lets[k]? = some (letOf k) := by
  unfold letOf
  rcases k with _ | _ | _ | _ | _ | _ | _ | _ | k <;> first | rfl | omega
def wordN (x : Int) : Nat → List Nat
  | 0 => []
  | i + 1 => wordN x i ++ [letOf (fig x i)]
def valueN (x : Int) : Nat → Int
  | 0 => 56
  | i + 1 => valueN x i - (fig x i : Int) * 8 ^ i
def len4 (x : Int) : Nat := (x % 4).toNat
theorem len4_lt (x : Int) : len4 x < 4 := by unfold len4; omega
def wordOf (x : Int) : List Nat := wordN x (len4 x)
def valueOf (x : Int) : Int := valueN x (len4 x)
def sepOf (x : Int) : Nat := if x / 4096 % 2 = 0 then 10 else 9
def textOf (x : Int) : List Nat := written (x / 2048 % 2) (wordOf x) ++ [sepOf x]
theorem wordN_len (x : Int) : ∀ i, (wordN x i).length = i
  | 0 => rfl
  | i + 1 => by rw [wordN, List.length_append, wordN_len x i]; rfl
theorem wordOf_len (x : Int) : (wordOf x).length < 4 := by unfold wordOf; rw [wordN_len]; exact len4_lt x
/-- two maps agree outside these names -/
def Same (ns : List Str) (m m' : Str → Option Value) : Prop := ∀ y, y ∉ ns → m' y = m y
theorem Same.refl (ns : List Str) (m : Str → Option Value) : Same ns m m := fun _ _ => rfl
theorem Same.trans {ns : List Str} {m m' m'' : Str → Option Value} (a : Same ns m m') (b : Same ns m' m'') : Same ns m m'' := fun y h => (b y h).trans (a y h)
theorem Same.mono {ns ns' : List Str} {m m' : Str → Option Value} (a : Same ns m m') (k : ∀ y ∈ ns, y ∈ ns') : Same ns' m m' := fun y h => a y fun z => h (k y z)
theorem Same.at {ns : List Str} {m m' : Str → Option Value} {y : Str} {v : Value} (a : Same ns m m') (h : m y = some v) (hn : y ∉ ns) : m' y = some v := (a y hn).trans h
theorem explicit_eq {m : Str → Option Value} (l : List (Str × Value)) (hl : ∀ p ∈ l, m p.1 = some p.2) : (fun y => match List.lookup y l with | some v => some v | none => m y) = m := by
  funext y
  cases q : List.lookup y l with
  | none => rfl
  | some v => exact (hl _ (lookup_in q)).symm
theorem written_len (b : Int) (cs : List Nat) : (written b cs).length ≤ 2 * cs.length + 2 := by
  unfold written
  have := qt_len cs
  split
  · rw [esc_len]; omega
  · simp; omega
end Mine
end
section
open PySem PySem.W PyProof.Rows PySem.Calls PySem.Spec Mine
local macro_rules | `(tactic| walk_at "al3") => `(tactic| first | assumption | exact Rest.ne (by assumption) (by assumption) (by assumption) (by k_mem) (by first | exact notRest_seq | exact notRest_dict | exact notRest_plain | exact notRest_func | exact notRest_cell (by assumption)))
section
open PySem PySem.W PyProof.Rows PySem.Calls PySem.Spec
namespace Mine
local macro_rules | `(tactic| walk_at "zz") => `(tactic| skip)
section
variable {w : World} {p : Program} {loose : List Str} {mean : ExcName → Option Value} {mg mb : Str → Option Value} {g : Heap} {s : Shared} {dp un : Nat} {fr : Option (List Env)} {gd : Option (List Code)} {Q : Flow → Shared → Prop} {E : Value → Shared → Prop} {rest : List (Addr × Obj)}
local macro_rules | `(tactic| k_all) => `(tactic| walk_at "al3")
set_option maxRecDepth 100000 in
set_option maxHeartbeats 8000000 in
theorem a1_inner (Xg : (hd.heap_1 w.params).In g) (Tg : Top p loose mean mg mb g) (hdp : dp < 600) (hun : un < 6000) {L fa : Addr} {cd : Value} {scope : Scope} (hsc : scopeAt (hd.heap_1 w.params) 140 = some scope) {b : List Stmt} (hb : b = forBody ((forBody (bodyAt (hd.heap_1 w.params) 140)[5]?)[2]?))
   {x : Int} {tx tl tp t1 t2 : Tok} {i : Nat} {oL : Obj} {m : Str → Option Value} (hL : oL.data = .cell (some (.str (S lets) tl))) (hi : i < 3)
   (F : Fr g L s.heap m) (N : News g L s.heap ((L + 1, oL) :: rest)) (mx : m (Str.ofString "x") = some (.int x tx)) (mp : m (Str.ofString "place") = some (.int (i : Int) tp)) (mw : m (Str.ofString "word") = some (.str (S (wordN x i)) t1)) (mv : m (Str.ofString "value") = some (.int (valueN x i) t2))
   (ret : ∀ h' tk' m' t1' t2', Fr g L h' m' → News g L h' ((L + 1, oL) :: rest) → Same [(Str.ofString "figure"), (Str.ofString "word"), (Str.ofString "value")] m m' → m' (Str.ofString "word") = some (.str (S (wordN x (i + 1))) t1') → m' (Str.ofString "value") = some (.int (valueN x (i + 1)) t2') → Q .next (St s h' tk')) :
   wpAny (model PR w) (Ar dp un fr gd) (execs b (envOfC (Str.ofString "law") scope L fa cd)) Q E s := by
  refine with_look2 (K := hd.heap_1 w.params) (f := 140) (by k_dflt k_is) fun eb es => ?_
  rw [es] at hsc
  rw [eb] at hb
  dsimp only [List.getElem?_cons_succ, List.getElem?_cons_zero, forBody, List.drop_succ_cons, List.drop_zero, List.take_succ_cons, List.take_zero] at hb hsc
  (try replace hb := Option.some.inj hb)
  replace hsc := Option.some.inj hsc
  subst hb
  subst hsc
  clear eb es
  have he := explicit_eq [((Str.ofString "x"), .int x tx), ((Str.ofString "place"), .int (i : Int) tp), ((Str.ofString "word"), .str (S (wordN x i)) t1), ((Str.ofString "value"), .int (valueN x i) t2)] (allC mx (allC mp (allC mw (allC mv (List.forall_mem_nil _)))))
  rw [← he] at F
  have h4 : i = 0 ∨ i = 1 ∨ i = 2 := by omega
  rcases h4 with rfl | rfl | rfl
  · rw [show ((0 : Nat) : Int) = 0 from rfl] at F
    rw [show ((0 : Nat) : Int) = 0 from rfl] at he
    k_steps
    (with_reducible rename Fr _ _ _ _ => F1); (with_reducible rename News _ _ _ _ => N1)
    have ef : (x.fdiv (4 * 8 ^ Int.toNat 0)).fmod 8 = (fig x 0 : Int) := by rw [Int.fdiv_eq_ediv_of_nonneg _ (by decide), Int.fmod_eq_emod_of_nonneg _ (by decide), ← fig_int]; rfl
    rw [ef, item_eq (lets_at (fig_lt x 0)), S_app] at F1
    exact ret _ _ _ _ _ F1 N1 (fun y hy => by simp only [List.mem_cons, List.not_mem_nil, or_false, not_or] at hy; simp only [hy, if_false]; exact congrFun he y) rfl rfl
  · rw [show ((1 : Nat) : Int) = 1 from rfl] at F
    rw [show ((1 : Nat) : Int) = 1 from rfl] at he
    k_steps
    (with_reducible rename Fr _ _ _ _ => F1); (with_reducible rename News _ _ _ _ => N1)
    have ef : (x.fdiv (4 * 8 ^ Int.toNat 1)).fmod 8 = (fig x 1 : Int) := by rw [Int.fdiv_eq_ediv_of_nonneg _ (by decide), Int.fmod_eq_emod_of_nonneg _ (by decide), ← fig_int]; rfl
    rw [ef, item_eq (lets_at (fig_lt x 1)), S_app] at F1
    exact ret _ _ _ _ _ F1 N1 (fun y hy => by simp only [List.mem_cons, List.not_mem_nil, or_false, not_or] at hy; simp only [hy, if_false]; exact congrFun he y) rfl rfl
  · rw [show ((2 : Nat) : Int) = 2 from rfl] at F
    rw [show ((2 : Nat) : Int) = 2 from rfl] at he
    k_steps
    (with_reducible rename Fr _ _ _ _ => F1); (with_reducible rename News _ _ _ _ => N1)
    have ef : (x.fdiv (4 * 8 ^ Int.toNat 2)).fmod 8 = (fig x 2 : Int) := by rw [Int.fdiv_eq_ediv_of_nonneg _ (by decide), Int.fmod_eq_emod_of_nonneg _ (by decide), ← fig_int]; rfl
    rw [ef, item_eq (lets_at (fig_lt x 2)), S_app] at F1
    exact ret _ _ _ _ _ F1 N1 (fun y hy => by simp only [List.mem_cons, List.not_mem_nil, or_false, not_or] at hy; simp only [hy, if_false]; exact congrFun he y) rfl rfl
end
end Mine
end
section
open PySem PySem.W PyProof.Rows PySem.Calls PySem.Spec
namespace Mine
section
variable {w : World} {p : Program} {loose : List Str} {mean : ExcName → Option Value} {mg mb : Str → Option Value} {g : Heap} {s : Shared} {dp un : Nat} {fr : Option (List Env)} {gd : Option (List Code)} {Q : Flow → Shared → Prop} {E : Value → Shared → Prop} {rest : List (Addr × Obj)}
local macro_rules | `(tactic| k_all) => `(tactic| walk_at "al3")
local macro_rules | `(tactic| walk_at "call builtin:list.append") => `(tactic| walk_at "al0")
local macro_rules | `(tactic| walk_at "binaryOp Add str str") => `(tactic| (refine Halt.out ?_))
set_option maxRecDepth 100000 in
set_option maxHeartbeats 8000000 in
theorem a2_body (Xg : (hd.heap_1 w.params).In g) (Tg : Top p loose mean mg mb g) (hdp : dp < 600) (hun : un < 6000) {L fa : Addr} {cd : Value} {scope : Scope} (hsc : scopeAt (hd.heap_1 w.params) 140 = some scope) {b : List Stmt} (hb : b = forBody (bodyAt (hd.heap_1 w.params) 140)[5]?)
   {x : Int} {tx tl tt : Tok} {oL oW oV : Obj} {m : Str → Option Value} {wA vA : Addr} {ws vs : List Value} {nw nv : Nat} {T : List Nat} (hL : oL.data = .cell (some (.str (S lets) tl))) (hW : oW.data = .cell (some (.ref wA))) (hV : oV.data = .cell (some (.ref vA)))
   (hlw : ws.length < 1000) (hlv : vs.length < 1000) (hT : T.length < 10000) (l1 : @LT.lt Nat _ (L + 7) wA) (l2 : @LT.lt Nat _ wA vA) (hrw : ∀ q ∈ rest, q.1 ≠ wA) (hrv : ∀ q ∈ rest, q.1 ≠ vA)
   (F : Fr g L s.heap m) (N : News g L s.heap ((wA, listOf ws.toArray nw) :: (vA, listOf vs.toArray nv) :: (L + 1, oL) :: (L + 2, oW) :: (L + 3, oV) :: rest)) (mx : m (Str.ofString "x") = some (.int x tx)) (mt : m (Str.ofString "text") = some (.str (S T) tt))
   (ret : ∀ h' tk' m' t1 t2 t3 nw' nv', Fr g L h' m' → News g L h' ((wA, listOf (ws ++ [Value.str (S (wordOf x)) t1]).toArray nw') :: (vA, listOf (vs ++ [Value.int (valueOf x) t2]).toArray nv') :: (L + 1, oL) :: (L + 2, oW) :: (L + 3, oV) :: rest) → Same [(Str.ofString "word"), (Str.ofString "value"), (Str.ofString "place"), (Str.ofString "figure"), (Str.ofString "text")] m m' → m' (Str.ofString "text") = some (.str (S (T ++ textOf x)) t3) → Q .next (St s h' tk')) :
   wpAny (model PR w) (Ar dp un fr gd) (execs b (envOfC (Str.ofString "law") scope L fa cd)) Q E s := by
  have hb0 := hb
  have hsc0 := hsc
  refine with_look2 (K := hd.heap_1 w.params) (f := 140) (by k_dflt k_is) fun eb es => ?_
  rw [es] at hsc
  rw [eb] at hb
  dsimp only [List.getElem?_cons_succ, List.getElem?_cons_zero, forBody, List.drop_succ_cons, List.drop_zero, List.take_succ_cons, List.take_zero] at hb hsc
  (try replace hb := Option.some.inj hb)
  replace hsc := Option.some.inj hsc
  subst hb
  subst hsc
  clear eb es
  have he := explicit_eq [((Str.ofString "x"), .int x tx), ((Str.ofString "text"), .str (S T) tt)] (allC mx (allC mt (List.forall_mem_nil _)))
  rw [← he] at F
  k_steps
  rename_i hrg FA NA up
  refine iter_range (b := x.fmod 4) (len4 x) (by unfold len4; rw [Int.fmod_eq_emod_of_nonneg _ (by decide)]; exact (Int.toNat_of_nonneg (Int.emod_nonneg _ (by decide))).symm) (by have := len4_lt x; omega) hrg FA NA ?_
  intro it o h1 hO F1 N1 hit
  refine loopInv rfl (Itr.range PR w it (len4 x)) (fun i m' news' => ∀ C : Prop, ((news' = ((wA, listOf ws.toArray nw) :: (vA, listOf vs.toArray nv) :: (L + 1, oL) :: (L + 2, oW) :: (L + 3, oV) :: rest)) → (Same [(Str.ofString "word"), (Str.ofString "value"), (Str.ofString "place"), (Str.ofString "figure"), (Str.ofString "text")] m m') → ((m' (Str.ofString "text") = some (.str (S T) tt))) → ((∃ t1, m' (Str.ofString "word") = some (.str (S (wordN x i)) t1))) → ((∃ t2, m' (Str.ofString "value") = some (.int (valueN x i) t2))) → C) → C) (fun _ _ _ _ _ _ _ => trivial) F1 N1 hO (fun q hq => Nat.ne_of_lt (hit q hq)) (fun _ k => k rfl (fun y hy => by simp only [List.mem_cons, List.not_mem_nil, or_false, not_or] at hy; simp only [hy, if_false]; exact congrFun he y) rfl ⟨_, rfl⟩ ⟨_, rfl⟩) ?_ ?_
  · rintro i v m1 news1 h tk o1 hi ⟨tp, rfl⟩ hI0
    refine hI0 _ ?_
    clear hI0
    rintro rfl hs mt1 ⟨t1, mw⟩ ⟨t2, mv⟩ F2 N2 hne J hJ
    walk1
    walk1
    (with_reducible rename Fr _ _ _ _ => F3); (with_reducible rename News _ _ _ _ => N3)
    refine a1_inner (rest := (it, o1) :: (wA, listOf ws.toArray nw) :: (vA, listOf vs.toArray nv) :: (L + 2, oW) :: (L + 3, oV) :: rest) Xg Tg hdp hun hsc0 (by rw [← hb0]; rfl) hL (by have := len4_lt x; omega) F3 (fun q hq => N3 q (subM (by (walk_at "sub"; done)) hq)) (hs.at mx (by decide)) rfl mw mv ?_
    intro h4 tk4 m4 t1' t2' F4 N4 hs4 mw4 mv4
    refine TurnEnd.mk <| hJ m4 _ h4 tk4 F4 (fun q hq => N4 q (subM (by (walk_at "sub"; done)) hq)) hne (fun _ k => k rfl ((hs.trans fun y hy => ?_).trans (hs4.mono (by decide))) ((hs4 _ (by decide)).trans mt1) ⟨_, mw4⟩ ⟨_, mv4⟩)
    exact if_neg fun z => hy (by rw [z]; decide)
  · rintro m1 news1 h tk hI0
    refine hI0 _ ?_
    clear hI0
    rintro rfl hs mt1 ⟨t1, mw⟩ ⟨t2, mv⟩ F2 N2
    have mx1 := hs.at mx (by decide)
    have he2 := explicit_eq [((Str.ofString "x"), .int x tx), ((Str.ofString "text"), .str (S T) tt), ((Str.ofString "word"), .str (S (wordN x (len4 x))) t1), ((Str.ofString "value"), .int (valueN x (len4 x)) t2)] (allC mx1 (allC mt1 (allC mw (allC mv (List.forall_mem_nil _)))))
    rw [← he2] at F2
    k_steps
    (with_reducible rename Fr _ _ _ _ => F3); (with_reducible rename News _ _ _ _ => N3)
    refine wpAny_call (k_written (G := g) (cs := wordN x (len4 x)) (fun b o e => F3.keep b o e) Xg Tg (by omega) (by omega) (by rw [wordN_len]; have := len4_lt x; omega) ?_)
    intro h5 tk5 t5 kp5
    have N5 := news_same N3 kp5
    have F5 := after_fr (S := []) F3 kp5 (fun _ h => nomatch h)
    clear F3 N3
    have ew : (x.fdiv 2048).fmod 2 = x / 2048 % 2 := by rw [Int.fdiv_eq_ediv_of_nonneg _ (by decide), Int.fmod_eq_emod_of_nonneg _ (by decide)]
    have es : (x.fdiv 4096).fmod 2 = x / 4096 % 2 := by rw [Int.fdiv_eq_ediv_of_nonneg _ (by decide), Int.fmod_eq_emod_of_nonneg _ (by decide)]
    have hwl := written_len (x / 2048 % 2) (wordN x (len4 x))
    rw [wordN_len] at hwl
    have hl4 := len4_lt x
    rw [ew]
    refine PyProof.Rows.add_str (x := S T) (y := S (written (x / 2048 % 2) (wordN x (len4 x)))) ?_ (by rw [S_len, S_len, sizeLine_eq]; exact Nat.le_trans (Nat.add_le_add (Nat.le_of_lt hT) (Nat.le_trans hwl (Nat.add_le_add_right (Nat.mul_le_mul_left 2 (Nat.le_of_lt hl4)) 2))) (by decide))
    intro t6 k6
    rw [S_app]
    dsimp only
    k_steps
    dsimp only
    have ei : Txt.item (Str.ofString "\n\t") ((x.fdiv 4096).fmod 2) = S [sepOf x] := by
      rw [es]
      unfold sepOf
      rcases Int.emod_two_eq (x / 4096) with h | h
      · rw [h, if_pos rfl]; exact item_eq (cs := [10, 9]) (k := 0) rfl
      · rw [h, if_neg (by decide)]; exact item_eq (cs := [10, 9]) (k := 1) rfl
    rw [ei]
    refine ⟨?_⟩
    refine PyProof.Rows.add_str (x := S (T ++ written (x / 2048 % 2) (wordN x (len4 x)))) (y := S [sepOf x]) ?_ (by rw [S_len, S_len, sizeLine_eq]; simp only [List.length_append, List.length_singleton]; omega)
    intro t7 k7
    rw [S_app]
    dsimp only
    k_steps
    (try dsimp only)
    (with_reducible rename Fr _ _ _ _ => F1); (with_reducible rename News _ _ _ _ => N1)
    refine ret _ _ _ t1 t2 _ _ _ F1 (by rw [List.push_toArray, List.push_toArray] at N1; exact N1) (hs.trans fun y hy => ?_) (congrArg (fun z => some (Value.str (S z) _)) (List.append_assoc _ _ _))
    simp only [List.mem_cons, List.not_mem_nil, or_false, not_or] at hy
    simp only [hy, if_false]
    exact congrFun he2 y
end
end Mine
end
section
open PySem PySem.W PyProof.Rows PySem.Calls PySem.Spec
namespace Mine
section
variable {w : World} {p : Program} {loose : List Str} {mean : ExcName → Option Value} {mg mb : Str → Option Value} {g : Heap} {s : Shared} {dp un : Nat} {fr : Option (List Env)} {gd : Option (List Code)} {Q : Flow → Shared → Prop} {E : Value → Shared → Prop} {rest : List (Addr × Obj)}
def textsOf (xs : List Int) : List Nat := (xs.map textOf).flatten
theorem textsOf_snoc (xs : List Int) (x : Int) : textsOf (xs ++ [x]) = textsOf xs ++ textOf x := by unfold textsOf; simp
theorem textOf_len (x : Int) : (textOf x).length ≤ 9 := by
  unfold textOf
  have := written_len (x / 2048 % 2) (wordOf x)
  have := wordOf_len x
  simp; omega
theorem textsOf_len : ∀ xs : List Int, (textsOf xs).length ≤ 9 * xs.length
  | [] => by simp [textsOf]
  | x :: xs => by
    have := textsOf_len xs
    have := textOf_len x
    unfold textsOf at *
    simp at *
    rw [Nat.mul_succ, Nat.add_comm]
    exact Nat.add_le_add (by assumption) (by assumption)
theorem ints_snoc {vs : List Value} {ys : List Int} (h : IntsAre vs ys) (y : Int) (t : Tok) : IntsAre (vs ++ [.int y t]) (ys ++ [y]) := h.append (.cons y t .nil)
set_option maxRecDepth 100000 in
set_option maxHeartbeats 8000000 in
theorem a3_loop (Xg : (hd.heap_1 w.params).In g) (Tg : Top p loose mean mg mb g) (hdp : dp < 600) (hun : un < 6000) {L fa : Addr} {cd : Value} {scope : Scope} (hsc : scopeAt (hd.heap_1 w.params) 140 = some scope) {b : List Stmt} (hb : b = forBody (bodyAt (hd.heap_1 w.params) 140)[5]?)
   {tl tt : Tok} {oL oW oV : Obj} {m : Str → Option Value} {xA wA vA : Addr} {xv : List Value} {xs : List Int} {nx nw nv : Nat} {px : Pos} (hL : oL.data = .cell (some (.str (S lets) tl))) (hW : oW.data = .cell (some (.ref wA))) (hV : oV.data = .cell (some (.ref vA)))
   (hx : IntsAre xv xs) (hlen : xs.length < 100) (l1 : @LT.lt Nat _ (L + 7) wA) (l2 : @LT.lt Nat _ wA vA) (l3 : @LT.lt Nat _ vA xA) (hrw : ∀ q ∈ rest, q.1 ≠ wA) (hrv : ∀ q ∈ rest, q.1 ≠ vA)
   (F : Fr g L s.heap m) (N : News g L s.heap ((xA, listOf xv.toArray nx) :: (wA, listOf ([] : List Value).toArray nw) :: (vA, listOf ([] : List Value).toArray nv) :: (L + 1, oL) :: (L + 2, oW) :: (L + 3, oV) :: rest)) (mt : m (Str.ofString "text") = some (.str (S []) tt))
   (ret : ∀ h' tk' m' ws vs t3 nw' nv', Fr g L h' m' → News g L h' ((xA, listOf xv.toArray nx) :: (wA, listOf ws.toArray nw') :: (vA, listOf vs.toArray nv') :: (L + 1, oL) :: (L + 2, oW) :: (L + 3, oV) :: rest) → StrsAre ws (xs.map fun x => S (wordOf x)) → IntsAre vs (xs.map valueOf) → Same [(Str.ofString "word"), (Str.ofString "value"), (Str.ofString "place"), (Str.ofString "figure"), (Str.ofString "text"), (Str.ofString "x")] m m' → m' (Str.ofString "text") = some (.str (S (textsOf xs)) t3) → Q .next (St s h' tk')) :
   wpAny (model PR w) (Ar dp un fr gd) (pyIter (.ref xA)) (fun it s₂ => LoopOk PR w (Ar dp un fr gd) (envOfC (Str.ofString "law") scope L fa cd) (.Name (Str.ofString "x") px) b Q it s₂) E s := by
  have hxl := hx.length
  have hb0 := hb
  have hsc0 := hsc
  refine with_look2 (K := hd.heap_1 w.params) (f := 140) (by k_dflt k_is) fun eb es => ?_
  rw [es] at hsc
  rw [eb] at hb
  dsimp only [List.getElem?_cons_succ, List.getElem?_cons_zero, forBody, List.drop_succ_cons, List.drop_zero, List.take_succ_cons, List.take_zero] at hb hsc
  (try replace hb := Option.some.inj hb)
  replace hsc := Option.some.inj hsc
  subst hb
  subst hsc
  clear eb es
  refine wpAny_pyIter_list (N.isList (.head _)) ?_
  have F1 := F.push ({ cls := .type "list_iterator", data := .fields #[.ref xA, .int 0 0] } : Obj)
  have N1 := N.push F ({ cls := .type "list_iterator", data := .fields #[.ref xA, .int 0 0] } : Obj)
  have hlt : ∀ q ∈ ((xA, listOf xv.toArray nx) :: (wA, listOf ([] : List Value).toArray nw) :: (vA, listOf ([] : List Value).toArray nv) :: (L + 1, oL) :: (L + 2, oW) :: (L + 3, oV) :: rest), @LT.lt Nat _ q.1 s.heap.objs.size := fun q hq => Heap.lt_size (N q hq).1
  generalize s.heap.objs.size = it at *
  refine loopInv rfl (Itr.list (prog := PR) (w := w) (it := it) (l := xA) xv) (fun i m' news' => ∀ C : Prop, (∀ ws vs t3 nw' nv', (news' = ((xA, listOf xv.toArray nx) :: (wA, listOf ws.toArray nw') :: (vA, listOf vs.toArray nv') :: (L + 1, oL) :: (L + 2, oW) :: (L + 3, oV) :: rest)) → (StrsAre ws ((xs.take i).map fun x => S (wordOf x))) → (IntsAre vs ((xs.take i).map valueOf)) → (Same [(Str.ofString "word"), (Str.ofString "value"), (Str.ofString "place"), (Str.ofString "figure"), (Str.ofString "text"), (Str.ofString "x")] m m') → (m' (Str.ofString "text") = some (.str (S (textsOf (xs.take i))) t3)) → C) → C)
    (fun i m' news' h hI0 _ N => hI0 _ fun ws vs t3 nw' nv' e _ _ _ _ => by rw [e] at N; exact N.isList (.head _)) F1 N1 ⟨rfl, rfl⟩ (fun q hq => Nat.ne_of_lt (hlt q hq)) (fun _ k => k [] [] tt nw nv rfl .nil .nil (Same.refl _ _) mt) ?_ ?_
  · rintro i v m1 news1 h tk o1 hi hP hI0
    refine hI0 _ ?_
    clear hI0
    rintro ws vs t3 nw' nv' rfl hws hvs hs mt1 F2 N2 hne J hJ
    obtain ⟨x, tx, rfl, hxi⟩ := hx.at i v hP
    have hw1 := hws.len_eq
    have hv1 := hvs.length
    simp only [List.length_map, List.length_take] at hw1 hv1
    have hm : min i xs.length < 100 := Nat.lt_of_le_of_lt (Nat.min_le_right _ _) hlen
    have hm9 : 9 * min i xs.length < 10000 := Nat.lt_of_le_of_lt (Nat.mul_le_mul_left 9 (Nat.le_of_lt hm)) (by decide)
    walk1
    walk1
    (with_reducible rename Fr _ _ _ _ => F3); (with_reducible rename News _ _ _ _ => N3)
    have n1 : @Ne Nat wA it := hne (wA, _) (.tail _ (.head _))
    have n2 : @Ne Nat vA it := hne (vA, _) (.tail _ (.tail _ (.head _)))
    refine a2_body (ws := ws) (vs := vs) (nw := nw') (nv := nv') (T := textsOf (xs.take i)) (rest := (it, o1) :: (xA, listOf xv.toArray nx) :: rest) Xg Tg hdp hun hsc0 hb0 hL hW hV (hw1 ▸ Nat.lt_trans hm (by decide)) (hv1 ▸ Nat.lt_trans hm (by decide)) (Nat.lt_of_le_of_lt (textsOf_len (xs.take i)) (by rw [List.length_take]; exact hm9)) l1 l2 (allC n1.symm (allC (by show @Ne Nat _ _; omega) hrw)) (allC n2.symm (allC (by show @Ne Nat _ _; omega) hrv)) F3 (fun q hq => N3 q (subM (by (walk_at "sub"; done)) hq)) rfl mt1 ?_
    intro h4 tk4 m4 t1 t2 t4 nw4 nv4 F4 N4 hs4 mt4
    have ex : xs.take (i + 1) = xs.take i ++ [x] := take_snoc hxi
    refine TurnEnd.mk <| hJ m4 _ h4 tk4 F4 (fun q hq => N4 q (subM (by (walk_at "sub"; done)) hq)) ?_ (fun _ k => k (ws ++ [Value.str (S (wordOf x)) t1]) (vs ++ [Value.int (valueOf x) t2]) t4 nw4 nv4 rfl ?_ ?_ ((hs.trans fun y hy => ?_).trans (hs4.mono (by decide))) ?_)
    · have hne' := hne
      intro q hq
      simp only [List.mem_cons] at hq hne'
      rcases hq with rfl | rfl | rfl | hq
      · exact hne' (xA, _) (.inl rfl)
      · exact n1
      · exact n2
      · exact hne' q (.inr (.inr (.inr hq)))
    · rw [ex, List.map_append]; exact strs_snoc hws _ _
    · rw [ex, List.map_append]; exact ints_snoc hvs _ _
    · exact if_neg fun z => hy (by rw [z]; decide)
    · rw [ex, textsOf_snoc]; exact mt4
  · rintro m1 news1 h tk hI0
    refine hI0 _ ?_
    clear hI0
    rintro ws vs t3 nw' nv' rfl hws hvs hs mt1 F2 N2
    rw [List.take_of_length_le (Nat.le_of_eq hxl.symm)] at hws hvs mt1
    exact ret _ _ _ ws vs t3 nw' nv' F2 N2 hws hvs hs mt1
end
end Mine
end
section
open PySem PySem.W PyProof.Rows PySem.Calls PySem.Spec
namespace Mine
section
variable {w : World} {p : Program} {loose : List Str} {mean : ExcName → Option Value} {mg mb : Str → Option Value} {g : Heap} {s : Shared} {dp un : Nat} {fr : Option (List Env)} {gd : Option (List Code)} {Q : Flow → Shared → Prop} {E : Value → Shared → Prop} {rest : List (Addr × Obj)}
theorem off1_ne {D : Addr} : ∀ {l : List (Addr × Obj)}, LCg.Off1 D l → ∀ p ∈ l, p.1 ≠ D
  | [], _, _, h => nomatch h
  | _ :: _, x, p, h => by
    rcases List.mem_cons.mp h with rfl | h
    · exact x.1
    · exact off1_ne x.2 p h
local macro_rules | `(tactic| walk_at "exec Assign cons ListComp") => `(tactic| (k_here; k_dflt (refine Assign_ListComp_S (by k_asm) (by rfl) (by with_unfolding_all rfl) (by rfl) (by decide) (by rfl) (by decide) (by rfl) (by rfl) (by rfl) ?_)))
set_option maxRecDepth 100000 in
set_option maxHeartbeats 8000000 in
theorem b7_signs (Xg : (hd.heap_1 w.params).In g) (Tg : Top p loose mean mg mb g) (hdp : dp < 600) (hun : un < 6000) {L fa : Addr} {cd : Value} {scope : Scope} (hsc : scopeAt (hd.heap_1 w.params) 140 = some scope) {st : Stmt} (hb : (bodyAt (hd.heap_1 w.params) 140)[7]? = some st)
   {tt : Tok} {m : Str → Option Value} {T : List Nat} {news : List (Addr × Obj)} (hT : T.length < 10000)
   (F : Fr g L s.heap m) (N : News g L s.heap news) (mt : m (Str.ofString "text") = some (.str (S T) tt))
   (ret : ∀ h' tk' D ys, Fr g L h' (fun z => if z = (Str.ofString "signs") then some (.ref D) else m z) → News g L h' ((D, listOf ys.toArray ys.length) :: news) → (∀ p ∈ news, p.1 ≠ D) → StrsAre ys (T.map fun c => S [c]) → Q .next (St s h' tk')) :
   wpAny (model PR w) (Ar dp un fr gd) (exec st (envOfC (Str.ofString "law") scope L fa cd)) Q E s := by
  refine with_look2 (K := hd.heap_1 w.params) (f := 140) (by k_dflt k_is) fun eb es => ?_
  rw [es] at hsc
  rw [eb] at hb
  dsimp only [List.getElem?_cons_succ, List.getElem?_cons_zero, forBody, List.drop_succ_cons, List.drop_zero, List.take_succ_cons, List.take_zero] at hb hsc
  (try replace hb := Option.some.inj hb)
  replace hsc := Option.some.inj hsc
  subst hb
  subst hsc
  clear eb es
  have he := explicit_eq [((Str.ofString "text"), .str (S T) tt)] (allC mt (List.forall_mem_nil _))
  rw [← he] at F
  k_steps
  rw [he] at F ⊢
  refine ⟨S T, _, _, rfl, rfl, F, N, by show (S T).length ≤ _; rw [S_len, sizeLine_eq]; omega, ?_⟩
  rintro s₂ ⟨hpx, rfl⟩
  refine compRest_ind (fun i ys nw => nw = news ∧ StrsAre ys ((T.take i).map fun c => S [c])) (S T).cps.size ?_ ?_ _ 0 [] _ (by omega) ⟨rfl, .nil⟩
  · rintro i ys nw hi ⟨rfl, hys⟩ v I oI C oC D m₂ h tk E' ⟨c, u, hc, rfl⟩ hC hx F2 N2 off ne J hJ
    have hcs : T[i]? = some c := by simpa [S] using hc
    rw [show (⟨#[c]⟩ : Str) = S [c] from rfl] at hx
    k_steps
    refine LCg.CompEnd.intro F2 N2 nw (fun p hp => hp) off trivial (hJ _ _ ⟨rfl, ?_⟩)
    rw [take_snoc hcs, List.map_append]
    exact strs_snoc hys _ _
  · rintro ys nw ⟨rfl, hys⟩ D h3 tk3 F3 N3 o3
    rw [List.take_of_length_le (by simp [S])] at hys
    exact ret _ _ D ys F3 N3 (off1_ne o3) hys
end
end Mine
end
section
open PySem PySem.W PyProof.Rows PySem.Calls PySem.Spec
namespace Mine
local macro_rules | `(tactic| walk_at "zz") => `(tactic| skip)
section
variable {w : World} {p : Program} {loose : List Str} {mean : ExcName → Option Value} {mg mb : Str → Option Value} {g : Heap} {s : Shared} {dp un : Nat} {fr : Option (List Env)} {gd : Option (List Code)} {Q : Flow → Shared → Prop} {E : Value → Shared → Prop} {rest : List (Addr × Obj)}
local macro_rules | `(tactic| k_all) => `(tactic| walk_at "al3")
set_option maxRecDepth 100000 in
set_option maxHeartbeats 8000000 in
theorem b9_reader (Xg : (hd.heap_1 w.params).In g) (Tg : Top p loose mean mg mb g) (hdp : dp < 600) (hun : un < 6000) {L fa : Addr} {cd : Value} {scope : Scope} (hsc : scopeAt (hd.heap_1 w.params) 140 = some scope) {st : Stmt} (hb : (bodyAt (hd.heap_1 w.params) 140)[9]? = some st)
   {oR : Obj} {v0 : Option Value} {m : Str → Option Value} {ex : List (Addr × Obj)} {sg : Addr} (C : CodeHd g 122 118) (R : Rest rest) (hR : oR.data = .cell v0) (hex : ∀ q ∈ ex, NotRest q.2) (hx4 : ∀ q ∈ ex, q.1 ≠ L + 4)
   (F : Fr g L s.heap m) (N : News g L s.heap ((L + 4, oR) :: (ex ++ rest))) (ms : m (Str.ofString "signs") = some (.ref sg))
   (ret : ∀ h' tk' rest' oR' x dx pb fs D lam cell npb k lxh tl tw of od ol oc, Fr g L h' m → News g L h' ((L + 4, oR') :: (pb, listOf #[] npb) :: (dx, lexD lxh (.int 1 tl) fs (.str (Str.ofString "\n\t\r ") tw) pb k) :: (x, instObj 112 dx) :: (fs, of) :: (D, od) :: (lam, ol) :: (cell, oc) :: (ex ++ rest')) → oR'.data = .cell (some (.ref x)) → Rest rest' → IsStream (hd.heap_1 w.params) rest' sg fs D lam cell of od ol oc →
      (∀ a ∈ [x, dx, pb, fs, D, lam, cell], s.heap.get? a = none) → (∀ q ∈ ex ++ rest', ∀ a ∈ [pb, dx], q.1 ≠ a) → @Ne Nat pb dx → @Ne Nat pb x → @Ne Nat pb fs → Q .next (St s h' tk')) :
   wpAny (model PR w) (Ar dp un fr gd) (exec st (envOfC (Str.ofString "law") scope L fa cd)) Q E s := by
  refine with_look2 (K := hd.heap_1 w.params) (f := 140) (by k_dflt k_is) fun eb es => ?_
  rw [es] at hsc
  rw [eb] at hb
  dsimp only [List.getElem?_cons_succ, List.getElem?_cons_zero, forBody, List.drop_succ_cons, List.drop_zero, List.take_succ_cons, List.take_zero] at hb hsc
  (try replace hb := Option.some.inj hb)
  replace hsc := Option.some.inj hsc
  subst hb
  subst hsc
  clear eb es
  have he := explicit_eq [((Str.ofString "signs"), .ref sg)] (allC ms (List.forall_mem_nil _))
  rw [← he] at F
  k_steps
  have Nr : News g L s.heap rest := fun q hq => N q (.tail _ (List.mem_append_right _ hq))
  refine r_stream (G := g) (fun b o e => F.keep b o e) Xg Tg (by omega) (by omega) C R (fun q hq => ⟨(Nr q hq).1, (Nr q hq).2.2⟩) ?_
  intro h2 tk2 fs D lam cell of od ol oc rest2 kp2 I2 fr2 R2 sb2 hr2
  have F2 := fr_rest (ex := (L + 4, oR) :: ex) F N kp2
  have N2 : News g L h2 ((L + 4, oR) :: (ex ++ rest2)) := news_rest (ex := (L + 4, oR) :: ex) F2 N R (allC (notRest_cell hR) hex) kp2 R2 hr2
  obtain ⟨f1, f2, f3, f4⟩ : (s.heap.get? fs = none ∧ h2.get? fs = some of) ∧ (s.heap.get? D = none ∧ h2.get? D = some od) ∧ (s.heap.get? lam = none ∧ h2.get? lam = some ol) ∧ (s.heap.get? cell = none ∧ h2.get? cell = some oc) :=
    ⟨fr2 _ (.head _), fr2 _ (.tail _ (.head _)), fr2 _ (.tail _ (.tail _ (.head _))), fr2 _ (.tail _ (.tail _ (.tail _ (.head _))))⟩
  have a1 : @Ne Nat fs (L + 4) := fun z => fresh_ne N f1.1 _ (.head _) z.symm
  have a2 : @Ne Nat D (L + 4) := fun z => fresh_ne N f2.1 _ (.head _) z.symm
  have a3 : @Ne Nat lam (L + 4) := fun z => fresh_ne N f3.1 _ (.head _) z.symm
  have a4 : @Ne Nat cell (L + 4) := fun z => fresh_ne N f4.1 _ (.head _) z.symm
  have N3 : News g L h2 ((fs, of) :: (D, od) :: (lam, ol) :: (cell, oc) :: (L + 4, oR) :: (ex ++ rest2)) := news_cons (p := (fs, of)) (after_new F f1.1 f1.2) <| news_cons (p := (D, od)) (after_new F f2.1 f2.2) <| news_cons (p := (lam, ol)) (after_new F f3.1 f3.2) <| news_cons (p := (cell, oc)) (after_new F f4.1 f4.2) N2
  have hx4' : ∀ q ∈ ex ++ rest2, q.1 ≠ L + 4 := fun q hq => by
    rcases List.mem_append.mp hq with h | h
    · exact hx4 q h
    · exact Rest.ne R2 N2 (fun q hq => .tail _ (List.mem_append_right _ hq)) (.head _) (notRest_cell hR) q h
  clear F N Nr N2
  k_steps
  (with_reducible rename Fr _ _ _ _ => F4); (with_reducible rename News _ _ _ _ => N4)
  refine c_new (G := g) (fun b o e => F4.keep b o e) Xg Tg (by omega) (by omega) ?_
  intro h3 tk3 x dx pb npb lxh tl tw k up nx nd np n1 n2 n3 ex' ed' ep'
  have F5 := F4.keeps up
  have N5 := N4.grown up
  have N6 : News g L h3 ((pb, _) :: (dx, _) :: (x, _) :: _) := news_cons (p := (pb, _)) (after_new F4 np ep') <| news_cons (p := (dx, _)) (after_new F4 nd ed') <| news_cons (p := (x, _)) (after_new F4 nx ex') N5
  have b1 : @Ne Nat x (L + 4) := fun z => fresh_ne N4 nx (L + 4, oR) (by first | (walk_at "mem"; done) | simp) z.symm
  have b2 : @Ne Nat dx (L + 4) := fun z => fresh_ne N4 nd (L + 4, oR) (by first | (walk_at "mem"; done) | simp) z.symm
  have b3 : @Ne Nat pb (L + 4) := fun z => fresh_ne N4 np (L + 4, oR) (by first | (walk_at "mem"; done) | simp) z.symm
  have hof := fresh_ne N4 np
  have hod := fresh_ne N4 nd
  have hsn : ∀ a, h2.get? a = none → s.heap.get? a = none := fun a e => by
    cases z : s.heap.get? a with
    | none => rfl
    | some o =>
      by_cases hm : a ∈ rest.map (·.1)
      · obtain ⟨o2, ho2⟩ := List.mem_map.mp (sb2.addr a hm)
        have := (hr2 o2 ho2.1).1
        rw [ho2.2, e] at this; cases this
      · rw [kp2 a o z hm] at e; cases e
  clear F4 N4 N5
  k_steps
  rename_i hq oq F7 N7 dq
  rw [he] at F7
  refine ret _ _ rest2 oq x dx pb fs D lam cell npb k lxh tl tw of od ol oc F7 (fun q hq => N7 q (subM (by (walk_at "sub"; done)) hq)) dq R2 I2 (allC (hsn _ nx) (allC (hsn _ nd) (allC (hsn _ np) (allC f1.1 (allC f2.1 (allC f3.1 (allC f4.1 (List.forall_mem_nil _)))))))) ?_ n2.symm n1.symm (fun z => hof (fs, of) (.head _) z.symm)
  intro q hq
  have hq2 : q ∈ (fs, of) :: (D, od) :: (lam, ol) :: (cell, oc) :: (L + 4, oR) :: (ex ++ rest2) := .tail _ (.tail _ (.tail _ (.tail _ (.tail _ hq))))
  exact (allC (hof q hq2) (allC (hod q hq2) (List.forall_mem_nil _)))
end
end Mine
end
section
open PySem PySem.W PyProof.Rows PySem.Calls PySem.Spec Mine
local macro_rules | `(tactic| walk_at "al4") => `(tactic| (k_here; k_dflt (refine LCg.Assign_ListComp_U (F₀ := by k_asm) (by rfl) (by with_unfolding_all rfl) (by rfl) (by decide) (by rfl) (by decide) (by rfl) (by rfl) (by rfl) ?_)))
section
open PySem PySem.W PyProof.Rows PySem.Calls PySem.Spec Mine
local macro_rules | `(tactic| walk_at "al5") => `(tactic| (k_here; (with_reducible show wpAny _ _ (eval (Expr.Name _ _) (compEnvC _ _ _ _)) _ _ _); k_dflt (first | (refine' ld_cell ?N ?c ?m ?d ?_ ?k ?x; (case k => rfl); (case x => rfl); (case N => k_asm); (case c => rfl); (case m => k_mem); (case d => k_asm)) | (refine' ld_free ?N ?c ?m ?d ?_ ?k ?x; (case k => rfl); (case x => rfl); (case N => k_asm); (case c => rfl); (case m => k_mem); (case d => k_asm)))))
section
open PySem PySem.W PyProof.Rows PySem.Calls PySem.Spec
namespace Mine
section
variable {w : World} {p : Program} {loose : List Str} {mean : ExcName → Option Value} {mg mb : Str → Option Value} {g : Heap} {s : Shared} {dp un : Nat} {fr : Option (List Env)} {gd : Option (List Code)} {Q : Flow → Shared → Prop} {E : Value → Shared → Prop} {rest : List (Addr × Obj)}
/-- these tokens are read from the signs r, rf is left -/
inductive Toks : List Nat → List (List Nat) → List Nat → Prop
  | nil (r : List Nat) : Toks r [] r
  | cons {ws ch cs r : List Nat} {css : List (List Nat)} {rf : List Nat} : (∀ c ∈ ws, c = 10 ∨ c = 9) → Tk ch cs r → Toks r css rf → Toks (ws ++ ch) (cs :: css) rf
theorem news_keep {g h h' : Heap} {L : Addr} {S : List Addr} {A : List (Addr × Obj)} (N : News g L h A) (kp : Keeps S h h') (hS : ∀ q ∈ A, q.1 ∉ S) : News g L h' A := fun q hq => ⟨kp _ _ (N q hq).1 (hS q hq), (N q hq).2⟩
theorem Toks.len {r : List Nat} {css : List (List Nat)} {rf : List Nat} (h : Toks r css rf) : rf.length ≤ r.length := by
  induction h with
  | nil => exact Nat.le_refl _
  | cons _ hk _ ih => cases hk <;> simp only [List.length_append, List.length_cons, List.length_nil] at * <;> omega
theorem Toks.nl_le {r : List Nat} {css : List (List Nat)} {rf : List Nat} (h : Toks r css rf) : nl rf ≤ nl r := by
  induction h with
  | nil => exact Int.le_refl _
  | @cons ws ch cs r css rf _ hk _ ih =>
    rw [nl_app]
    have h1 := nl_nonneg ws
    have h2 : nl r ≤ nl ch := by
      cases hk with
      | quo cs r => have := nl_nonneg (qt cs); simp only [nl, nl_app]; split <;> omega
      | bare c cs sep r _ => have := nl_nonneg (esc cs); simp only [nl, nl_app]; split <;> split <;> omega
      | z => decide
      | eof => decide
    omega
local macro_rules | `(tactic| walk_at "exec Assign cons ListComp") => `(tactic| walk_at "al4")
local macro_rules | `(tactic| walk_at "eval Name") => `(tactic| walk_at "al5")
set_option maxRecDepth 100000 in
set_option maxHeartbeats 8000000 in
theorem b10_told (Xg : (hd.heap_1 w.params).In g) (Tg : Top p loose mean mg mb g) (hdp : dp < 600) (hun : un < 6000) {L fa : Addr} {cd : Value} {scope : Scope} (hsc : scopeAt (hd.heap_1 w.params) 140 = some scope) {st : Stmt} (hb : (bodyAt (hd.heap_1 w.params) 140)[10]? = some st) {x dx pb fs D lam cell sg : Addr} {lxh : LexH} {tw : Tok} {k npb : Nat} {of od ol oc : Obj}
   {oW oR : Obj} {m : Str → Option Value} {ex : List (Addr × Obj)} {wA : Addr} {wv vs : List Value} {nw n : Nat} {words : List (List Nat)} {r rf : List Nat} {tl : Tok} {TL : Int} (R : Rest rest) (I : IsStream (hd.heap_1 w.params) rest sg fs D lam cell of od ol oc)
   (hW : oW.data = .cell (some (.ref wA))) (hR : oR.data = .cell (some (.ref x))) (hps : @Ne Nat pb sg) (hws : @Ne Nat wA sg) (hex : ∀ q ∈ ex ++ rest, q.1 ∉ [sg, dx])
   (hw : StrsAre wv (words.map S)) (hwl : words.length < 100) (hcs : ∀ cs ∈ words, cs.length < 1000) (hv : IsStk vs r) (ht : Toks r words rf) (hlen : r.length < 100000) (hT : 0 ≤ TL - nl r) (hT2 : TL < 100000)
   (F : Fr g L s.heap m) (N : News g L s.heap ((dx, lexD lxh (.int (TL - nl r) tl) fs (.str (Str.ofString "\n\t\r ") tw) pb k) :: (sg, listOf vs.toArray n) :: (wA, listOf wv.toArray nw) :: (L + 2, oW) :: (L + 4, oR) :: (x, instObj 112 dx) :: (pb, listOf #[] npb) :: (fs, of) :: (D, od) :: (lam, ol) :: (cell, oc) :: (ex ++ rest)))
   (ret : ∀ h' tk' tA ys vs' n' tl', Fr g L h' (fun z => if z = (Str.ofString "told") then some (.ref tA) else m z) → News g L h' ((tA, listOf ys.toArray ys.length) :: ((dx, lexD lxh (.int (TL - nl rf) tl') fs (.str (Str.ofString "\n\t\r ") tw) pb k) :: (sg, listOf vs'.toArray n') :: (wA, listOf wv.toArray nw) :: (L + 2, oW) :: (L + 4, oR) :: (x, instObj 112 dx) :: (pb, listOf #[] npb) :: (fs, of) :: (D, od) :: (lam, ol) :: (cell, oc) :: (ex ++ rest))) → (∀ q ∈ ((dx, lexD lxh (.int (TL - nl rf) tl') fs (.str (Str.ofString "\n\t\r ") tw) pb k) :: (sg, listOf vs'.toArray n') :: (wA, listOf wv.toArray nw) :: (L + 2, oW) :: (L + 4, oR) :: (x, instObj 112 dx) :: (pb, listOf #[] npb) :: (fs, of) :: (D, od) :: (lam, ol) :: (cell, oc) :: (ex ++ rest)), q.1 ≠ tA) → StrsAre ys (words.map S) → IsStk vs' rf → Q .next (St s h' tk')) :
   wpAny (model PR w) (Ar dp un fr gd) (exec st (envOfC (Str.ofString "law") scope L fa cd)) Q E s := by
  refine with_look2 (K := hd.heap_1 w.params) (f := 140) (by k_dflt k_is) fun eb es => ?_
  rw [es] at hsc
  rw [eb] at hb
  dsimp only [List.getElem?_cons_succ, List.getElem?_cons_zero, forBody, List.drop_succ_cons, List.drop_zero, List.take_succ_cons, List.take_zero] at hb hsc
  (try replace hb := Option.some.inj hb)
  replace hsc := Option.some.inj hsc
  subst hb
  subst hsc
  clear eb es
  k_steps
  have hwlen := hw.len_eq
  rw [List.length_map] at hwlen
  refine LCg.CompSrc.ledger rfl F N (ax := wA) (its := wv.toArray) (k := nw) (.tail _ (.tail _ (.head _))) (by rw [List.size_toArray, sizeLine_eq]; omega) ?_
  intro g'
  refine compRest_ind (fun i ys nws => ∀ C : Prop, (∀ r tl vs n, (nws = ((dx, lexD lxh (.int (TL - nl r) tl) fs (.str (Str.ofString "\n\t\r ") tw) pb k) :: (sg, listOf vs.toArray n) :: (wA, listOf wv.toArray nw) :: (L + 2, oW) :: (L + 4, oR) :: (x, instObj 112 dx) :: (pb, listOf #[] npb) :: (fs, of) :: (D, od) :: (lam, ol) :: (cell, oc) :: (ex ++ rest))) → (Toks r (words.drop i) rf) → (IsStk vs r) → (StrsAre ys ((words.take i).map S)) → (r.length < 100000) → (0 ≤ TL - nl r) → C) → C) wv.toArray.size ?_ ?_ _ 0 [] _ (by omega) (fun _ kC => kC r tl vs n rfl ht hv .nil hlen hT)
  · rintro i ys nws hi hI0
    refine hI0 _ ?_
    clear hI0
    rintro r tl vs n rfl ht hv hys hlen hT v I' oI C oC Dl m₂ h tk E' hPv hC hx F2 N2 off ne J hJ
    rw [List.size_toArray] at hi
    k_steps
    show wpAny _ _ (call (.ref 102) [.ref x]) _ _ _
    obtain ⟨cs, hcsi⟩ : ∃ cs, words[i]? = some cs := ⟨_, List.getElem?_eq_getElem (by omega)⟩
    have hdi : words.drop i = cs :: words.drop (i + 1) := by
      rw [List.drop_eq_getElem_cons (by omega)]
      congr 1
      exact Option.some.inj ((List.getElem?_eq_getElem _).symm.trans hcsi)
    rw [hdi] at ht
    have hrr : ∃ r0, r = r0 := ⟨r, rfl⟩
    generalize hcc : cs :: words.drop (i + 1) = css at ht
    cases ht with
    | nil => cases hcc
    | @cons ws ch cs' r' css' _ hwsp hk htr =>
    cases hcc
    have hsg := N2.get (a := sg) (.tail _ (.tail _ (.tail _ (.tail _ (.head _)))))
    have hdx := N2.get (a := dx) (.tail _ (.tail _ (.tail _ (.head _))))
    have msg := N2 (sg, _) (.tail _ (.tail _ (.tail _ (.tail _ (.head _)))))
    have mdx := N2 (dx, _) (.tail _ (.tail _ (.tail _ (.head _))))
    have hfp : ∀ q ∈ ((x, instObj 112 dx) :: (dx, lexD lxh (.int (TL - nl (ws ++ ch)) tl) fs (.str (Str.ofString "\n\t\r ") tw) pb k) :: (pb, listOf #[] npb) :: (fs, of) :: (D, od) :: (lam, ol) :: (cell, oc) :: (sg, listOf vs.toArray n) :: rest), q ∈ (I', oI) :: (C, oC) :: (Dl, LCg.lst ys) :: ((dx, lexD lxh (.int (TL - nl (ws ++ ch)) tl) fs (.str (Str.ofString "\n\t\r ") tw) pb k) :: (sg, listOf vs.toArray n) :: (wA, listOf wv.toArray nw) :: (L + 2, oW) :: (L + 4, oR) :: (x, instObj 112 dx) :: (pb, listOf #[] npb) :: (fs, of) :: (D, od) :: (lam, ol) :: (cell, oc) :: (ex ++ rest)) := fun q hq => subM (by (walk_at "sub"; done)) hq
    refine c_getL (G := g) (rd := ws ++ ch) (TL := TL) (fun b o e => F2.keep b o e) Xg Tg (by omega) (by omega) I R hps (fun q hq => ⟨(N2 q (hfp q hq)).1, (N2 q (hfp q hq)).2.2⟩) hv rfl hwsp hk hlen (hcs cs (List.mem_of_getElem? hcsi)) hT hT2 ?_
    intro h6 tk6 t6 vs6 n6 tl6 kp hv6 esg edx
    have F3 := after_fr F2 kp (fun a ha => by
      rcases List.mem_cons.mp ha with rfl | ha
      · exact msg.2
      · rw [List.mem_singleton.mp ha]; exact mdx.2)
    have om := off.mem
    have hlx := N2.get (a := x) (by k_mem); have hlpb := N2.get (a := pb) (by k_mem); have hlf := N2.get (a := fs) (by k_mem); have hlD := N2.get (a := D) (by k_mem); have hll := N2.get (a := lam) (by k_mem); have hlc := N2.get (a := cell) (by k_mem)
    have hlw := N2.get (a := wA) (by k_mem); have hl2 := N2.get (a := L + 2) (by k_mem); have hl4 := N2.get (a := L + 4) (by k_mem)
    obtain ⟨a1, a2, a3, a4, b1, b2, b3, b4⟩ := str_ne I hdx hsg hlf hlD hll hlc
    have c1 : @Ne Nat x dx := apart hlx hdx rfl
    have c2 : @Ne Nat x sg := apart hlx hsg rfl
    have c4 : @Ne Nat pb dx := apart hlpb hdx rfl
    have c5 : @Ne Nat wA dx := apart hlw hdx rfl
    have c6 : @Ne Nat (L + 2) dx := fun q => by rw [q, hdx] at hl2; cases hl2; cases hW
    have c7 : @Ne Nat (L + 2) sg := fun q => by rw [q, hsg] at hl2; cases hl2; cases hW
    have c8 : @Ne Nat (L + 4) dx := fun q => by rw [q, hdx] at hl4; cases hl4; cases hR
    have c9 : @Ne Nat (L + 4) sg := fun q => by rw [q, hsg] at hl4; cases hl4; cases hR
    have d1 := om (sg, _) (.tail _ (.head _))
    have d2 := om (dx, _) (.head _)
    have N3 : News g L h6 ((I', oI) :: (C, oC) :: (Dl, LCg.lst ys) :: (wA, listOf wv.toArray nw) :: (L + 2, oW) :: (L + 4, oR) :: (x, instObj 112 dx) :: (pb, listOf #[] npb) :: (fs, of) :: (D, od) :: (lam, ol) :: (cell, oc) :: (ex ++ rest)) := news_keep (fun q hq => N2 q (subM (by (walk_at "sub"; done)) hq)) kp (by
      refine (allC (nin2 d1.1.symm d2.1.symm) (allC (nin2 d1.2.1.symm d2.2.1.symm) (allC (nin2 d1.2.2.symm d2.2.2.symm) (allC (nin2 hws c5) (allC (nin2 c7 c6) (allC (nin2 c9 c8) (allC (nin2 c2 c1) (allC (nin2 hps c4) (allC (nin2 b1 a1) (allC (nin2 b2 a2) (allC (nin2 b3 a3) (allC (nin2 b4 a4) hex)))))))))))))
    have N4 : News g L h6 ((I', oI) :: (C, oC) :: (Dl, LCg.lst ys) :: ((dx, lexD lxh (.int (TL - nl r') tl6) fs (.str (Str.ofString "\n\t\r ") tw) pb k) :: (sg, listOf vs6.toArray n6) :: (wA, listOf wv.toArray nw) :: (L + 2, oW) :: (L + 4, oR) :: (x, instObj 112 dx) :: (pb, listOf #[] npb) :: (fs, of) :: (D, od) :: (lam, ol) :: (cell, oc) :: (ex ++ rest))) := fun q hq => by
      simp only [List.mem_cons] at hq
      rcases hq with h | h | h | rfl | rfl | h
      · exact N3 q (by simp only [List.mem_cons]; exact .inl h)
      · exact N3 q (by simp only [List.mem_cons]; exact .inr (.inl h))
      · exact N3 q (by simp only [List.mem_cons]; exact .inr (.inr (.inl h)))
      · exact ⟨edx, mdx.2⟩
      · exact ⟨esg, msg.2⟩
      · exact N3 q (by simp only [List.mem_cons]; exact .inr (.inr (.inr h)))
    have hnl : 0 ≤ TL - nl r' := by
      have h1 := (Toks.cons hwsp hk (Toks.nil r')).nl_le
      omega
    have hln : r'.length < 100000 := by
      have h1 := (Toks.cons hwsp hk (Toks.nil r')).len
      omega
    refine LCg.CompEnd.intro F3 N4 ((dx, lexD lxh (.int (TL - nl r') tl6) fs (.str (Str.ofString "\n\t\r ") tw) pb k) :: (sg, listOf vs6.toArray n6) :: (wA, listOf wv.toArray nw) :: (L + 2, oW) :: (L + 4, oR) :: (x, instObj 112 dx) :: (pb, listOf #[] npb) :: (fs, of) :: (D, od) :: (lam, ol) :: (cell, oc) :: (ex ++ rest)) (fun p hp => hp) (LCg.Off3.of fun p hp => ?_) (.inr ⟨_, .tail _ (.tail _ (.head _)), rfl, _, rfl⟩) (hJ _ _ (fun _ kC => kC r' tl6 vs6 n6 rfl htr hv6 ?_ hln hnl))
    · simp only [List.mem_cons] at hp
      rcases hp with rfl | rfl | hp
      · exact d2
      · exact d1
      · exact om p (by simp only [List.mem_cons]; exact .inr (.inr hp))
    · rw [take_snoc hcsi, List.map_append]
      exact strs_snoc hys _ _
  · rintro ys nws hI0
    refine hI0 _ ?_
    clear hI0
    rintro r2 tl2 vs2 n2 rfl ht hv hys _ _ D2 hh tk2 F3 N3 o3
    rw [List.size_toArray, hwlen] at hys ht
    rw [List.take_length] at hys
    rw [List.drop_length] at ht
    cases ht
    exact ret _ _ D2 ys vs2 n2 tl2 F3 N3 (off1_ne o3) hys hv
end
end Mine
end
section
open PySem PySem.W PyProof.Rows PySem.Calls PySem.Spec
namespace Mine
section
variable {w : World} {p : Program} {loose : List Str} {mean : ExcName → Option Value} {mg mb : Str → Option Value} {g : Heap} {s : Shared} {dp un : Nat} {fr : Option (List Env)} {gd : Option (List Code)} {Q : Flow → Shared → Prop} {E : Value → Shared → Prop} {rest : List (Addr × Obj)}
theorem strOk_S {cs : List Nat} (h : ∀ c ∈ cs, c < 1000) : PyData.strOk (S cs) = true := by
  unfold PyData.strOk
  have e : (S cs).cps = cs.toArray := rfl
  rw [e, List.all_toArray, List.all_eq_true]
  intro c hc
  exact decide_eq_true (Nat.lt_trans (h c hc) (by decide))
theorem datAll_strs {news : List (Addr × Obj)} {vs : List Value} {ys : List Str} (h : StrsAre vs ys) : DatAll news vs (ys.map Dat.str) := by
  induction h with
  | nil => exact .nil
  | cons y t _ ih => exact .cons (.str y t) ih
theorem datAll_ints {news : List (Addr × Obj)} {vs : List Value} {ys : List Int} (h : IntsAre vs ys) : DatAll news vs (ys.map Dat.int) := by
  induction h with
  | nil => exact .nil
  | cons y t _ ih => exact .cons (.int y t) ih
theorem ok_strs {css : List (List Nat)} (h : ∀ cs ∈ css, ∀ c ∈ cs, c < 1000) : ∀ d ∈ (css.map S).map Dat.str, kqdOk 8 d = true := fun d hd => by
  obtain ⟨y, hy, rfl⟩ := List.mem_map.mp hd
  obtain ⟨cs, hcs, rfl⟩ := List.mem_map.mp hy
  exact strOk_S (h cs hcs)
theorem ok_ints (ys : List Int) : ∀ d ∈ ys.map Dat.int, kqdOk 8 d = true := fun d hd => by
  obtain ⟨y, _, rfl⟩ := List.mem_map.mp hd
  rfl
open Classical in
theorem ne_dat {prog : Program} {w : World} {A : Around} {E : Value → Shared → Prop} {s : Shared} {h₀ : Heap} {L a b : Addr} {news : List (Addr × Obj)} {xs ys : List Value} {ka kb : Nat} {ds : List Dat} {Q : Value → Shared → Prop}
    (N : News h₀ L s.heap news) (ma : (a, listOf xs.toArray ka) ∈ news) (Da : DatAll news xs ds) (mb : (b, listOf ys.toArray kb) ∈ news) (Db : DatAll news ys ds) (ha : ∀ d ∈ ds, kqdOk 8 d = true) (hu : A.units + 64 < cLine) (h : Q (.bool false) s) :
    wpAny (model prog w) A (compareOp .NotEq (.ref a) (.ref b)) Q E s :=
  kqd_ne N ma rfl rfl Da (fun _ h => h) mb rfl rfl Db (fun _ h => h) ha ha hu (by simpa using h)
local macro_rules | `(tactic| walk_at "compareOp NotEq ref ref") => `(tactic| (refine Halt.out ?_))
set_option maxRecDepth 100000 in
set_option maxHeartbeats 8000000 in
theorem b11_if (Xg : (hd.heap_1 w.params).In g) (Tg : Top p loose mean mg mb g) (hdp : dp < 600) (hun : un < 6000) {L fa : Addr} {cd : Value} {scope : Scope} (hsc : scopeAt (hd.heap_1 w.params) 140 = some scope) {st : Stmt} (hb : (bodyAt (hd.heap_1 w.params) 140)[11]? = some st)
   {oW : Obj} {m : Str → Option Value} {wA tA : Addr} {wv tv : List Value} {nw nt : Nat} {words : List (List Nat)} (hW : oW.data = .cell (some (.ref wA))) (hw : StrsAre wv (words.map S)) (ht : StrsAre tv (words.map S)) (hok : ∀ cs ∈ words, ∀ c ∈ cs, c < 1000)
   (F : Fr g L s.heap m) (N : News g L s.heap ((tA, listOf tv.toArray nt) :: (wA, listOf wv.toArray nw) :: (L + 2, oW) :: rest)) (mt : m (Str.ofString "told") = some (.ref tA))
   (ret : ∀ tk', Q .next (St s s.heap tk')) :
   wpAny (model PR w) (Ar dp un fr gd) (exec st (envOfC (Str.ofString "law") scope L fa cd)) Q E s := by
  refine with_look2 (K := hd.heap_1 w.params) (f := 140) (by k_dflt k_is) fun eb es => ?_
  rw [es] at hsc
  rw [eb] at hb
  dsimp only [List.getElem?_cons_succ, List.getElem?_cons_zero, forBody, List.drop_succ_cons, List.drop_zero, List.take_succ_cons, List.take_zero] at hb hsc
  (try replace hb := Option.some.inj hb)
  replace hsc := Option.some.inj hsc
  subst hb
  subst hsc
  clear eb es
  have he := explicit_eq [((Str.ofString "told"), .ref tA)] (allC mt (List.forall_mem_nil _))
  rw [← he] at F
  k_steps
  refine ⟨?_⟩
  refine ne_dat N (.head _) (datAll_strs ht) (.tail _ (.head _)) (datAll_strs hw) (ok_strs hok) (by rw [cLine_is]; show un + 64 < 9900; omega) ?_
  k_steps
  exact ret _
end
end Mine
end
section
open PySem PySem.W PyProof.Rows PySem.Calls PySem.Spec
namespace Mine
section
variable {K : Type} [DecidableEq K]
theorem valueAt_nil (k : K) : valueAt ([] : List (K × Value)) k = none := rfl
theorem valueAt_cons (kv : K × Value) (r : List (K × Value)) (k : K) : valueAt (kv :: r) k = if kv.1 = k then some kv.2 else valueAt r k := by
  unfold valueAt
  rw [List.find?_cons]
  by_cases h : kv.1 = k
  · simp [h]
  · simp [h]
theorem valueAt_app (a b : List (K × Value)) (k : K) : valueAt (a ++ b) k = (valueAt a k).or (valueAt b k) := by
  induction a with
  | nil => simp [valueAt_nil]
  | cons kv r ih =>
    rw [List.cons_append, valueAt_cons, valueAt_cons, ih]
    by_cases h : kv.1 = k
    · simp [h]
    · simp [h]
theorem valueAt_map (kvs : List (K × Value)) (k : K) (v : Value) (k' : K) : valueAt (kvs.map fun kv => if kv.1 = k then (kv.1, v) else kv) k' = if k' = k then (valueAt kvs k').map (fun _ => v) else valueAt kvs k' := by
  induction kvs with
  | nil => simp [valueAt_nil]
  | cons kv r ih =>
    rw [List.map_cons, valueAt_cons, valueAt_cons, ih]
    by_cases h1 : kv.1 = k
    · rw [if_pos h1]
      by_cases h2 : k' = k
      · subst h2; simp [h1]
      · rw [if_neg h2, if_neg h2, if_neg (fun z => h2 (z.symm.trans h1)), if_neg (fun z => h2 (z.symm.trans h1))]
    · rw [if_neg h1]
      by_cases h2 : k' = k
      · subst h2; simp [h1]
      · rw [if_neg h2, if_neg h2]
theorem valueAt_none {kvs : List (K × Value)} {k : K} (h : ¬ (kvs.any fun kv => kv.1 = k) = true) : valueAt kvs k = none := by
  induction kvs with
  | nil => rfl
  | cons kv r ih =>
    rw [List.any_cons] at h
    simp only [Bool.or_eq_true, decide_eq_true_eq, not_or] at h
    rw [valueAt_cons, if_neg h.1]
    exact ih (by simpa using h.2)
theorem valueAt_some {kvs : List (K × Value)} {k : K} (h : (kvs.any fun kv => kv.1 = k) = true) : ∃ v, valueAt kvs k = some v := by
  induction kvs with
  | nil => simp at h
  | cons kv r ih =>
    rw [valueAt_cons]
    by_cases h1 : kv.1 = k
    · exact ⟨_, if_pos h1⟩
    · rw [if_neg h1]
      refine ih ?_
      rw [List.any_cons] at h
      simpa [h1] using h
theorem valueAt_stored (kvs : List (K × Value)) (k : K) (v : Value) : valueAt (stored kvs k v) k = some v := by
  unfold stored
  by_cases h : (kvs.any fun kv => kv.1 = k) = true
  · rw [if_pos h, valueAt_map, if_pos rfl]
    obtain ⟨u, e⟩ := valueAt_some h
    rw [e]; rfl
  · rw [if_neg h, valueAt_app, valueAt_none h, valueAt_cons]; simp
theorem valueAt_stored_ne (kvs : List (K × Value)) {k k' : K} (v : Value) (hne : k' ≠ k) : valueAt (stored kvs k v) k' = valueAt kvs k' := by
  unfold stored
  by_cases h : (kvs.any fun kv => kv.1 = k) = true
  · rw [if_pos h, valueAt_map, if_neg hne]
  · rw [if_neg h, valueAt_app, valueAt_cons, if_neg (Ne.symm hne)]; simp [valueAt_nil]
theorem stored_keys (kvs : List (K × Value)) (k : K) (v : Value) : (stored kvs k v).map (·.1) = if (kvs.any fun kv => kv.1 = k) = true then kvs.map (·.1) else kvs.map (·.1) ++ [k] := by
  unfold stored
  by_cases h : (kvs.any fun kv => kv.1 = k) = true
  · rw [if_pos h, if_pos h, List.map_map]
    congr 1
    funext kv
    simp only [Function.comp]
    split <;> rfl
  · rw [if_neg h, if_neg h]; simp
end
end Mine
end
section
open PySem PySem.W PyProof.Rows PySem.Calls PySem.Spec
namespace Mine
section
variable {w : World} {p : Program} {loose : List Str} {mean : ExcName → Option Value} {mg mb : Str → Option Value} {g : Heap} {s : Shared} {dp un : Nat} {fr : Option (List Env)} {gd : Option (List Code)} {Q : Flow → Shared → Prop} {E : Value → Shared → Prop} {rest : List (Addr × Obj)}
/-- the place of a sign among the letters -/
def idxOf (c : Nat) : Nat := if c = 97 then 0 else if c = 32 then 1 else if c = 92 then 2 else if c = 34 then 3 else if c = 10 then 4 else if c = 98 then 5 else if c = 9 then 6 else 7
theorem idx_letOf {k : Nat} (h : k < 8) : idxOf (letOf k) = k := by
  rcases k with _ | _ | _ | _ | _ | _ | _ | _ | k <;> first | rfl | omega
theorem idxOf_lt (c : Nat) : idxOf c < 8 := by unfold idxOf; repeat' split <;> try omega
theorem occ_idx {c : Nat} (h : c ∈ lets) : Builtin.Str.occurrences (S lets) (S [c]) 0 (S lets).length 1 = idxOf c :: [] := by
  simp only [lets, List.mem_cons, List.not_mem_nil, or_false] at h
  rcases h with rfl | rfl | rfl | rfl | rfl | rfl | rfl | rfl <;> decide +kernel
/-- the number of a word -/
def numOf (cs : List Nat) : Int := 56 - (valD (fun i => idxOf (cs.getD i 0)) 3 0 cs.length : Nat)
local macro_rules | `(tactic| walk_at "eval ListComp") => `(tactic| (k_here; k_dflt (refine ListComp_S (by k_asm) (by rfl) (by decide) (by rfl) (by decide) (by rfl) ?_)))
local macro_rules | `(tactic| walk_at "eval Name") => `(tactic| walk_at "al5")
local macro_rules | `(tactic| walk_at "call builtin:str.index") => `(tactic| (refine Halt.out ?_))
local macro_rules | `(tactic| walk_at "subscriptTail") => `(tactic| (refine Halt.out ?_))
local macro_rules | `(tactic| walk_at "setItem ref str") => `(tactic| (refine Halt.out ?_))
set_option maxRecDepth 100000 in
set_option maxHeartbeats 8000000 in
theorem c15_body (Xg : (hd.heap_1 w.params).In g) (Tg : Top p loose mean mg mb g) (hdp : dp < 600) (hun : un < 6000) {L fa : Addr} {cd : Value} {scope : Scope} (hsc : scopeAt (hd.heap_1 w.params) 140 = some scope) {b : List Stmt} (hb : b = forBody (bodyAt (hd.heap_1 w.params) 140)[15]?)
   {x dx pb : Addr} {lxh : LexH} {fs : Addr} {k : Nat} {ln ws : Value} {oL oR oC oN oF : Obj} {m : Str → Option Value} {ex : List (Addr × Obj)} {nA lA : Addr} {pv : List Value} {npb : Nat} {cs : List Nat} {kn kl : List (Str × Value)} {tl tc : Tok} (C2 : CodeHd g 41 37) (R : Rest rest) (hex : ∀ q ∈ ex, NotRest q.2)
   (hL : oL.data = .cell (some (.str (S lets) tl))) (hR : oR.data = .cell (some (.ref x))) (hC : oC.data = .cell (some (.ref nA))) (hN : oN.IsDictOf (PySem.strKind PR w) kn) (hF : oF.IsDictOf (PySem.strKind PR w) kl)
   (hpl : pv.length < 1000) (hcl : cs.length < 4) (hcs : ∀ c ∈ cs, c ∈ lets) (hkn : kn.length < 1000) (hkl : kl.length < 1000) (hap : ∀ q ∈ ex ++ rest, ∀ a ∈ [pb, nA, lA], q.1 ≠ a) (e1 : @Ne Nat pb nA) (e2 : @Ne Nat pb lA) (e3 : @Ne Nat nA lA) (e4 : @Ne Nat dx nA) (e5 : @Ne Nat dx lA)
   (F : Fr g L s.heap m) (N : News g L s.heap ((pb, listOf pv.toArray npb) :: (nA, oN) :: (lA, oF) :: (x, instObj 112 dx) :: (dx, lexD lxh ln fs ws pb k) :: (L + 1, oL) :: (L + 4, oR) :: (L + 5, oC) :: (ex ++ rest))) (mw : m (Str.ofString "word") = some (.str (S cs) tc)) (ml : m (Str.ofString "left") = some (.ref lA))
   (ret : ∀ h' tk' rest' npb' oN' oF' v t5 t6, Fr g L h' m → News g L h' ((pb, listOf (pv ++ [v]).toArray npb') :: (nA, oN') :: (lA, oF') :: (x, instObj 112 dx) :: (dx, lexD lxh ln fs ws pb k) :: (L + 1, oL) :: (L + 4, oR) :: (L + 5, oC) :: (ex ++ rest')) → Rest rest' → SubR rest rest' → (∀ q ∈ rest', ∀ a ∈ [pb, nA, lA], q.1 ≠ a) → v = .str (S cs) tc → oN'.IsDictOf (PySem.strKind PR w) (stored kn (S cs) (.int (numOf cs) t5)) → oF'.IsDictOf (PySem.strKind PR w) (stored kl (S cs) (.int (numOf cs) t6)) → Q .next (St s h' tk')) :
   wpAny (model PR w) (Ar dp un fr gd) (execs b (envOfC (Str.ofString "law") scope L fa cd)) Q E s := by
  refine with_look2 (K := hd.heap_1 w.params) (f := 140) (by k_dflt k_is) fun eb es => ?_
  rw [es] at hsc
  rw [eb] at hb
  dsimp only [List.getElem?_cons_succ, List.getElem?_cons_zero, forBody] at hb hsc
  (try replace hb := Option.some.inj hb)
  replace hsc := Option.some.inj hsc
  subst hb
  subst hsc
  clear eb es
  have he := explicit_eq [((Str.ofString "word"), .str (S cs) tc), ((Str.ofString "left"), .ref lA)] (allC mw (allC ml (List.forall_mem_nil _)))
  rw [← he] at F
  k_steps
  have hx := N.get (a := x) (by k_mem); have hdx := N.get (a := dx) (by k_mem); have hpb := N.get (a := pb) (by k_mem)
  have h1' := N.get (a := L + 1) (by k_mem); have h4' := N.get (a := L + 4) (by k_mem); have h5' := N.get (a := L + 5) (by k_mem); have hn' := N.get (a := nA) (by k_mem); have hl' := N.get (a := lA) (by k_mem)
  obtain ⟨eN, pN, xN, dN, _⟩ := id hN
  obtain ⟨eF, pF, xF, dF, _⟩ := id hF
  have a1 : @Ne Nat x pb := apart hx hpb rfl
  have a2 : @Ne Nat dx pb := apart hdx hpb rfl
  have a3 : @Ne Nat (L + 1) pb := fun q => by rw [q, hpb] at h1'; cases h1'; cases hL
  have a4 : @Ne Nat (L + 4) pb := fun q => by rw [q, hpb] at h4'; cases h4'; cases hR
  have a5 : @Ne Nat (L + 5) pb := fun q => by rw [q, hpb] at h5'; cases h5'; cases hC
  have b1 : @Ne Nat x nA := fun q => by rw [q, hn'] at hx; cases hx; cases dN
  have b3 : @Ne Nat (L + 1) nA := fun q => by rw [q, hn'] at h1'; cases h1'; rw [hL] at dN; cases dN
  have b4 : @Ne Nat (L + 4) nA := fun q => by rw [q, hn'] at h4'; cases h4'; rw [hR] at dN; cases dN
  have b5 : @Ne Nat (L + 5) nA := fun q => by rw [q, hn'] at h5'; cases h5'; rw [hC] at dN; cases dN
  have c1 : @Ne Nat x lA := fun q => by rw [q, hl'] at hx; cases hx; cases dF
  have c3 : @Ne Nat (L + 1) lA := fun q => by rw [q, hl'] at h1'; cases h1'; rw [hL] at dF; cases dF
  have c4 : @Ne Nat (L + 4) lA := fun q => by rw [q, hl'] at h4'; cases h4'; rw [hR] at dF; cases dF
  have c5 : @Ne Nat (L + 5) lA := fun q => by rw [q, hl'] at h5'; cases h5'; rw [hC] at dF; cases dF
  refine c_push (G := g) (fun b o e => F.keep b o e) Xg Tg (by omega) (by omega) hx hdx hpb (N.fresh (by k_mem)) (N.fresh (by k_mem)) (N.fresh (by k_mem)) (by omega) ?_
  intro hp2 tk2 n2 kp e2'
  have F2 := fr_upd1 F N kp
  have N2 := news_upd1 N kp e2' (allC e1.symm (allC e2.symm (allC a1 (allC a2 (allC a3 (allC a4 (allC a5 (fun q hq => hap q hq pb (.head _)))))))))
  clear F N hx hdx hpb h1' h4' h5' hn' hl'
  have hap1 : ∀ q ∈ ex ++ rest, q.1 ≠ nA := fun q hq => hap q hq nA (.tail _ (.head _))
  have hap2 : ∀ q ∈ ex ++ rest, q.1 ≠ lA := fun q hq => hap q hq lA (.tail _ (.tail _ (.head _)))
  have hap0 : ∀ q ∈ ex ++ rest, q.1 ≠ pb := fun q hq => hap q hq pb (.head _)
  k_steps
  rw [he] at F2 ⊢
  refine ⟨S cs, _, _, rfl, rfl, F2, N2, by show (S cs).length ≤ _; rw [S_len, sizeLine_eq]; omega, ?_⟩
  rintro s₂ ⟨hpx, rfl⟩
  refine compRest_ind (fun i ys nws => nws = ((pb, listOf (pv ++ [Value.str (S cs) tc]).toArray n2) :: (nA, oN) :: (lA, oF) :: (x, instObj 112 dx) :: (dx, lexD lxh ln fs ws pb k) :: (L + 1, oL) :: (L + 4, oR) :: (L + 5, oC) :: (ex ++ rest)) ∧ IntsAre ys ((cs.take i).map fun c => (idxOf c : Int))) (S cs).cps.size ?_ ?_ _ 0 [] _ (by omega) ⟨rfl, .nil⟩
  · rintro i ys nws hi ⟨rfl, hys⟩ v I oI C oC D m₂ h tk E' ⟨c, u, hc, rfl⟩ hCC hx F3 N3 off ne J hJ
    have hci : cs[i]? = some c := by simpa [S] using hc
    rw [show (⟨#[c]⟩ : Str) = S [c] from rfl] at hx
    k_steps
    refine ⟨?_⟩
    refine SC.index (occ_idx (hcs c (List.mem_of_getElem? hci))) ?_
    refine LCg.CompEnd.intro F3 N3 _ (fun p hp => hp) off trivial (hJ _ _ ⟨rfl, ?_⟩)
    rw [take_snoc hci, List.map_append]
    exact ints_snoc hys _ _
  · rintro ys nws ⟨rfl, hys⟩ D hp3 tk3 F3 N3 o3
    rw [List.take_of_length_le (by simp [S])] at hys
    have hyl := hys.length
    rw [List.length_map] at hyl
    k_steps
    have mr : ∀ q ∈ rest, q ∈ (D, LCg.lst ys) :: ((pb, listOf (pv ++ [Value.str (S cs) tc]).toArray n2) :: (nA, oN) :: (lA, oF) :: (x, instObj 112 dx) :: (dx, lexD lxh ln fs ws pb k) :: (L + 1, oL) :: (L + 4, oR) :: (L + 5, oC) :: (ex ++ rest)) := fun q hq => subM (by (walk_at "sub"; done)) hq
    refine r_digits2int (G := g) (n := 3) (D := fun i => idxOf (cs.getD i 0)) (k := ys.length) (vs := ys) (fun b o e => F3.keep b o e) Xg Tg (by omega) (by omega) C2 R (fun q hq => ⟨(N3 q (mr q hq)).1, (N3 q (mr q hq)).2.2⟩) (N3.get (.head _)) (N3.fresh (.head _)) (by omega) (by omega) (fun i hi => ?_) (fun i => idxOf_lt _) (by omega) ?_
    · obtain ⟨t, e⟩ := hys.get i (idxOf (cs.getD i 0) : Int) (by rw [List.getElem?_map, List.getD_eq_getElem?_getD, List.getElem?_eq_getElem (by omega)]; rfl)
      exact ⟨t, e⟩
    intro h4' tk4 t9 rest2 kp4 R2 sb2 hr2
    have F4 := fr_rest (ex := (D, LCg.lst ys) :: ((pb, listOf (pv ++ [Value.str (S cs) tc]).toArray n2) :: (nA, oN) :: (lA, oF) :: (x, instObj 112 dx) :: (dx, lexD lxh ln fs ws pb k) :: (L + 1, oL) :: (L + 4, oR) :: (L + 5, oC) :: ex)) F3 N3 kp4
    have N4 := news_rest (ex := (D, LCg.lst ys) :: ((pb, listOf (pv ++ [Value.str (S cs) tc]).toArray n2) :: (nA, oN) :: (lA, oF) :: (x, instObj 112 dx) :: (dx, lexD lxh ln fs ws pb k) :: (L + 1, oL) :: (L + 4, oR) :: (L + 5, oC) :: ex)) F4 N3 R (allC notRest_seq (allC notRest_seq (allC (notRest_of fun vs e => by rw [dN] at e; cases e) (allC (notRest_of fun vs e => by rw [dF] at e; cases e) (allC notRest_plain (allC notRest_dict (allC (notRest_cell hL) (allC (notRest_cell hR) (allC (notRest_cell hC) hex))))))))) kp4 R2 hr2
    simp only [List.cons_append] at N4
    have hnum : (56 - (valD (fun i => idxOf (cs.getD i 0)) 3 0 ys.length : Nat) : Int) = numOf cs := by unfold numOf; rw [hyl]
    have hr2' : ∀ o : Obj, NotRest o → ∀ a, h4'.get? a = some o → ∀ q ∈ rest2, q.1 ≠ a := fun o ho a e q hq z => R2.out (fun q hq => (hr2 q hq).1) e ho (List.mem_map.mpr ⟨q, hq, z⟩)
    have r0 := hr2' _ notRest_seq pb (N4.get (by k_mem))
    have r1 := hr2' _ (notRest_of fun vs e => by rw [dN] at e; cases e) nA (N4.get (by k_mem))
    have r2 := hr2' _ (notRest_of fun vs e => by rw [dF] at e; cases e) lA (N4.get (by k_mem))
    have hap3 : ∀ q ∈ ex ++ rest2, q.1 ≠ nA := fun q hq => (List.mem_append.mp hq).elim (fun h => hap1 q (List.mem_append_left _ h)) (r1 q)
    have hap4 : ∀ q ∈ ex ++ rest2, q.1 ≠ lA := fun q hq => (List.mem_append.mp hq).elim (fun h => hap2 q (List.mem_append_left _ h)) (r2 q)
    clear F3 N3
    rw [← he] at F4
    (try dsimp only)
    k_steps
    rw [hnum]
    (with_reducible rename Fr _ _ _ _ => F5); (with_reducible rename News _ _ _ _ => N5)
    have N6 : News g L h4' ((nA, oN) :: (D, LCg.lst ys) :: (pb, listOf (pv ++ [Value.str (S cs) tc]).toArray n2) :: (lA, oF) :: (x, instObj 112 dx) :: (dx, lexD lxh ln fs ws pb k) :: (L + 1, oL) :: (L + 4, oR) :: (L + 5, oC) :: (ex ++ rest2)) := fun q hq => N5 q (subM (by (walk_at "sub"; done)) hq)
    have dn : @Ne Nat D nA := o3.2.1.symm
    have dl : @Ne Nat D lA := o3.2.2.1.symm
    have dp0 : @Ne Nat D pb := o3.1.symm
    refine ⟨?_⟩
    refine kda_set F5 N6 (.head (allC dn (allC e1 (allC e3.symm (allC b1 (allC e4 (allC b3 (allC b4 (allC b5 hap3))))))))) hN (strKind_is PR w (S cs) tc) (by rw [sizeLine_eq]; omega) ?_
    intro h7 oN' F7 N7 hN'
    obtain ⟨eN', pN', xN', dN', _⟩ := id hN'
    clear F5 N5 N6
    k_steps
    (with_reducible rename Fr _ _ _ _ => F8); (with_reducible rename News _ _ _ _ => N8)
    refine ⟨?_⟩
    refine kda_item N8 (.head _) hN' (strKind_is PR w (S cs) tc) (valueAt_stored _ _ _) ?_
    k_steps
    have hl9 := N8.get (a := lA) (by k_mem)
    have N9 : News g L h7 ((lA, oF) :: (nA, oN') :: (D, LCg.lst ys) :: (pb, listOf (pv ++ [Value.str (S cs) tc]).toArray n2) :: (x, instObj 112 dx) :: (dx, lexD lxh ln fs ws pb k) :: (L + 1, oL) :: (L + 4, oR) :: (L + 5, oC) :: (ex ++ rest2)) := fun q hq => N8 q (subM (by (walk_at "sub"; done)) hq)
    refine ⟨?_⟩
    refine kda_set F8 N9 (.head (allC e3 (allC dl (allC e2 (allC c1 (allC e5 (allC c3 (allC c4 (allC c5 hap4))))))))) hF (strKind_is PR w (S cs) tc) (by rw [sizeLine_eq]; omega) ?_
    intro h8 oF' F10 N10 hF'
    k_steps
    rw [he] at F10
    exact ret _ _ rest2 n2 oN' oF' _ _ _ F10 (fun q hq => N10 q (subM (by (walk_at "sub"; done)) hq)) R2 sb2 (fun q hq => (allC (r0 q hq) (allC (r1 q hq) (allC (r2 q hq) (List.forall_mem_nil _))))) rfl hN' hF'
end
end Mine
end
section
open PySem PySem.W PyProof.Rows PySem.Calls PySem.Spec
namespace Mine
section
variable {prog : Program} {w : World} {A : Around} {E : Value → Shared → Prop} {s : Shared} {env : Env} {g : Heap} {target : Expr} {body : List Stmt} {Q : Flow → Shared → Prop}
/-- a loop by an invariant over the frame's names and the ledger -/
theorem loopInv2 {it : Addr} {n : Nat} {P : Nat → Value → Prop} {Ob : Nat → Obj → Prop} {side : Heap → Prop} (hA : A.handled = none) (W : Itr prog w it n P Ob side)
    (Inv : Nat → (Str → Option Value) → List (Addr × Obj) → Prop) {m₀ : Str → Option Value} {news₀ : List (Addr × Obj)} {o₀ : Obj}
    (hside : ∀ i m news h, Inv i m news → Fr g env.locals h m → News g env.locals h news → side h)
    (F : Fr g env.locals s.heap m₀) (N : News g env.locals s.heap ((it, o₀) :: news₀)) (hO : Ob 0 o₀) (hne : ∀ p ∈ news₀, p.1 ≠ it) (h0 : Inv 0 m₀ news₀)
    (turn : ∀ i v m news h tk o, i < n → P i v → Inv i m news → Fr g env.locals h m → News g env.locals h ((it, o) :: news) → (∀ p ∈ news, p.1 ≠ it) → Ob (i + 1) o → ∀ J : Shared → Prop, (∀ m' news' h' tk', Fr g env.locals h' m' → News g env.locals h' ((it, o) :: news') → (∀ p ∈ news', p.1 ≠ it) → Inv (i + 1) m' news' → J (St s h' tk')) →
      wpAny (model prog w) A (assign target env v) (fun _ s₂ => wpAny (model prog w) A (execs body env) (fun f s₃ => match f with
          | .next | .cont => TurnEnd (J s₃)
          | .brk => Q .next s₃
          | .ret v => Q (.ret v) s₃) noE s₂) noE (St s h tk))
    (done : ∀ m news h tk, Inv n m news → Fr g env.locals h m → News g env.locals h news → Q .next (St s h tk)) :
    LoopOk prog w A env target body Q (.ref it) s := by
  refine ⟨fun k s' => ∃ i m news h tk o, s' = St s h tk ∧ i + k = n ∧ Fr g env.locals h m ∧ News g env.locals h ((it, o) :: news) ∧ Ob i o ∧ (∀ p ∈ news, p.1 ≠ it) ∧ Inv i m news,
    n, ⟨0, m₀, news₀, s.heap, s.toks, o₀, rfl, by omega, F, N, hO, hne, h0⟩, ?_⟩
  rintro k s' ⟨i, m, news, h, tk, o, rfl, hik, F, N, hO, hne, hi⟩
  have hit := N (it, o) (.head _)
  have hsd := hside i m news h hi F (fun q hq => N q (.tail _ hq))
  cases k with
  | zero =>
    have e : i = n := by omega
    subst e
    refine W.done A hA _ _ _ o hO hit.1 hsd fun h' tk' kp => ?_
    refine done m news h' tk' hi (fr_updU F N (.head _) kp) fun q hq => ?_
    exact ⟨kp _ _ (N q (.tail _ hq)).1 (fun z => hne q hq (List.mem_singleton.mp z)), (N q (.tail _ hq)).2⟩
  | succ k =>
    refine W.item A hA i _ _ _ o (by omega) hO hit.1 hsd fun v h' tk' o' hP hO' ho' kp => ?_
    have F' := fr_updU F N (.head _) kp
    have N' := news_upd1 N kp ho' hne
    refine wpAny_mono (turn i v m news h' tk' o' (by omega) hP hi F' N' hne hO' (fun s₃ => ∃ m' news' h' tk', s₃ = St s h' tk' ∧ Fr g env.locals h' m' ∧ News g env.locals h' ((it, o') :: news') ∧ (∀ p ∈ news', p.1 ≠ it) ∧ Inv (i + 1) m' news') fun m' news' h' tk' a b c d => ⟨m', news', h', tk', rfl, a, b, c, d⟩) (fun _ s₂ h₂ => wpAny_mono h₂ (fun f s₃ h₃ => ?_) fun _ _ e => e) fun _ _ e => e
    have step : (∃ m' news' h'' tk'', s₃ = St s h'' tk'' ∧ Fr g env.locals h'' m' ∧ News g env.locals h'' ((it, o') :: news') ∧ (∀ p ∈ news', p.1 ≠ it) ∧ Inv (i + 1) m' news') →
        ∃ m, m < k + 1 ∧ ∃ i m_1 news h tk o, s₃ = St s h tk ∧ i + m = n ∧ Fr g env.locals h m_1 ∧ News g env.locals h ((it, o) :: news) ∧ Ob i o ∧ (∀ p ∈ news, p.1 ≠ it) ∧ Inv i m_1 news := by
      rintro ⟨m', news', h'', tk'', e, F2, N2, hne2, hI2⟩
      exact ⟨k, by omega, i + 1, m', news', h'', tk'', o', e, by omega, F2, N2, hO', hne2, hI2⟩
    cases f with
    | next => exact step h₃.out
    | cont => exact step h₃.out
    | brk => exact h₃
    | ret v => exact h₃
end
theorem notRest_listIt {l : Addr} {i : Nat} {o : Obj} (h : ListIt l i o) : NotRest o := fun vs e => by
  obtain ⟨hc, hd⟩ := h
  rw [hd] at e
  cases e
  exact ⟨by rw [hc]; exact nofun, fun x t z => by simp at z⟩
theorem notRest_rng {n i : Nat} {o : Obj} (h : RngOb n i o) : NotRest o := fun vs e => by
  unfold RngOb at h
  subst h
  cases e
  exact ⟨nofun, fun x t z => by simp [rawInt] at z⟩
end Mine
end
section
open PySem PySem.W PyProof.Rows PySem.Calls PySem.Spec
namespace Mine
section
variable {w : World} {p : Program} {loose : List Str} {mean : ExcName → Option Value} {mg mb : Str → Option Value} {g : Heap} {s : Shared} {dp un : Nat} {fr : Option (List Env)} {gd : Option (List Code)} {Q : Flow → Shared → Prop} {E : Value → Shared → Prop} {rest : List (Addr × Obj)}
/-- a dict that tells each of these words its number -/
structure NumD (kvs : List (Str × Value)) (ws : List (List Nat)) (f : List Nat → Int) : Prop where
  val : ∀ cs ∈ ws, ∃ t, valueAt kvs (S cs) = some (.int (f cs) t)
  key : ∀ kv ∈ kvs, ∃ cs ∈ ws, kv.1 = S cs
  len : kvs.length ≤ ws.length
theorem NumD.nil (f : List Nat → Int) : NumD [] [] f := ⟨(fun _ h => nomatch h), (fun _ h => nomatch h), Nat.le_refl _⟩
theorem NumD.step {kvs : List (Str × Value)} {ws : List (List Nat)} {f : List Nat → Int} (h : NumD kvs ws f) (cs : List Nat) (t : Tok) : NumD (stored kvs (S cs) (.int (f cs) t)) (ws ++ [cs]) f := by
  refine ⟨fun c hc => ?_, fun kv hkv => ?_, ?_⟩
  · by_cases e : c = cs
    · subst e; exact ⟨t, valueAt_stored _ _ _⟩
    · rw [valueAt_stored_ne _ _ (fun z => e (S_inj z))]
      rcases List.mem_append.mp hc with hc | hc
      · exact h.val c hc
      · exact absurd (List.mem_singleton.mp hc) e
  · have hk : kv.1 ∈ (stored kvs (S cs) (.int (f cs) t)).map (·.1) := List.mem_map.mpr ⟨_, hkv, rfl⟩
    rw [stored_keys] at hk
    have old : kv.1 ∈ kvs.map (·.1) → ∃ c ∈ ws ++ [cs], kv.1 = S c := fun z => by
      obtain ⟨q, hq, e⟩ := List.mem_map.mp z
      obtain ⟨c, hc, e2⟩ := h.key q hq
      exact ⟨c, List.mem_append_left _ hc, e ▸ e2⟩
    split at hk
    · exact old hk
    · rcases List.mem_append.mp hk with hk | hk
      · exact old hk
      · exact ⟨cs, List.mem_append_right _ (.head _), List.mem_singleton.mp hk⟩
  · rw [List.length_append]
    exact Nat.le_trans (stored_length_le kvs (S cs) (.int (f cs) t)) (Nat.succ_le_succ h.len)
set_option maxRecDepth 100000 in
set_option maxHeartbeats 8000000 in
theorem c15_loop (Xg : (hd.heap_1 w.params).In g) (Tg : Top p loose mean mg mb g) (hdp : dp < 600) (hun : un < 6000) {L fa : Addr} {cd : Value} {scope : Scope} (hsc : scopeAt (hd.heap_1 w.params) 140 = some scope) {b : List Stmt} (hb : b = forBody (bodyAt (hd.heap_1 w.params) 140)[15]?)
   {x dx pb : Addr} {lxh : LexH} {fs : Addr} {k : Nat} {ln ws : Value} {oL oR oC oN oF : Obj} {m : Str → Option Value} {ex : List (Addr × Obj)} {nA lA tA : Addr} {npb nt : Nat} {tv : List Value} {words : List (List Nat)} {tl : Tok} {px : Pos} (C2 : CodeHd g 41 37) (R : Rest rest) (hex : ∀ q ∈ ex, NotRest q.2)
   (hL : oL.data = .cell (some (.str (S lets) tl))) (hR : oR.data = .cell (some (.ref x))) (hC : oC.data = .cell (some (.ref nA))) (hN : oN.IsDictOf (PySem.strKind PR w) ([] : List (Str × Value))) (hF : oF.IsDictOf (PySem.strKind PR w) ([] : List (Str × Value)))
   (ht : StrsAre tv (words.map S)) (hwl : words.length < 100) (hcl : ∀ cs ∈ words, cs.length < 4) (hcs : ∀ cs ∈ words, ∀ c ∈ cs, c ∈ lets) (hap : ∀ q ∈ (tA, listOf tv.toArray nt) :: (ex ++ rest), ∀ a ∈ [pb, nA, lA], q.1 ≠ a) (e1 : @Ne Nat pb nA) (e2 : @Ne Nat pb lA) (e3 : @Ne Nat nA lA) (e4 : @Ne Nat dx nA) (e5 : @Ne Nat dx lA)
   (F : Fr g L s.heap m) (N : News g L s.heap ((tA, listOf tv.toArray nt) :: ((pb, listOf ([] : List Value).toArray npb) :: (nA, oN) :: (lA, oF) :: (x, instObj 112 dx) :: (dx, lexD lxh ln fs ws pb k) :: (L + 1, oL) :: (L + 4, oR) :: (L + 5, oC) :: (ex ++ rest)))) (ml : m (Str.ofString "left") = some (.ref lA))
   (ret : ∀ h' tk' m' rest' npb' oN' oF' pv kn kl, Fr g L h' m' → News g L h' ((tA, listOf tv.toArray nt) :: ((pb, listOf pv.toArray npb') :: (nA, oN') :: (lA, oF') :: (x, instObj 112 dx) :: (dx, lexD lxh ln fs ws pb k) :: (L + 1, oL) :: (L + 4, oR) :: (L + 5, oC) :: (ex ++ rest'))) → Rest rest' → SubR rest rest' → (∀ q ∈ rest', ∀ a ∈ [pb, nA, lA], q.1 ≠ a) → StrsAre pv (words.map S) → oN'.IsDictOf (PySem.strKind PR w) kn → oF'.IsDictOf (PySem.strKind PR w) kl → NumD kn words numOf → NumD kl words numOf → Same [(Str.ofString "word")] m m' → Q .next (St s h' tk')) :
   wpAny (model PR w) (Ar dp un fr gd) (pyIter (.ref tA)) (fun it s₂ => LoopOk PR w (Ar dp un fr gd) (envOfC (Str.ofString "law") scope L fa cd) (.Name (Str.ofString "word") px) b Q it s₂) E s := by
  have htl := ht.len_eq
  rw [List.length_map] at htl
  have hb0 := hb
  have hsc0 := hsc
  refine with_look2 (K := hd.heap_1 w.params) (f := 140) (by k_dflt k_is) fun eb es => ?_
  rw [es] at hsc
  rw [eb] at hb
  dsimp only [List.getElem?_cons_succ, List.getElem?_cons_zero, forBody] at hb hsc
  (try replace hb := Option.some.inj hb)
  replace hsc := Option.some.inj hsc
  subst hb
  subst hsc
  clear eb es
  refine wpAny_pyIter_list (N.isList (.head _)) ?_
  have F1 := F.push ({ cls := .type "list_iterator", data := .fields #[.ref tA, .int 0 0] } : Obj)
  have N1 := N.push F ({ cls := .type "list_iterator", data := .fields #[.ref tA, .int 0 0] } : Obj)
  have hlt : ∀ q ∈ (tA, listOf tv.toArray nt) :: ((pb, listOf ([] : List Value).toArray npb) :: (nA, oN) :: (lA, oF) :: (x, instObj 112 dx) :: (dx, lexD lxh ln fs ws pb k) :: (L + 1, oL) :: (L + 4, oR) :: (L + 5, oC) :: (ex ++ rest)), @LT.lt Nat _ q.1 s.heap.objs.size := fun q hq => Heap.lt_size (N q hq).1
  generalize s.heap.objs.size = it at *
  refine loopInv2 rfl (Itr.list (prog := PR) (w := w) (it := it) (l := tA) tv) (fun i m' news' => ∀ C : Prop, (∀ rest' npb' oN' oF' pv kn kl, (news' = (tA, listOf tv.toArray nt) :: ((pb, listOf pv.toArray npb') :: (nA, oN') :: (lA, oF') :: (x, instObj 112 dx) :: (dx, lexD lxh ln fs ws pb k) :: (L + 1, oL) :: (L + 4, oR) :: (L + 5, oC) :: (ex ++ rest'))) → (Rest rest') → (SubR rest rest') → ((∀ q ∈ rest', ∀ a ∈ [pb, nA, lA], q.1 ≠ a)) → (StrsAre pv ((words.take i).map S)) → (oN'.IsDictOf (PySem.strKind PR w) kn) → (oF'.IsDictOf (PySem.strKind PR w) kl) → (NumD kn (words.take i) numOf) → (NumD kl (words.take i) numOf) → (Same [(Str.ofString "word")] m m') → C) → C)
    (fun i m' news' h hI0 _ N => hI0 _ fun rest' npb' oN' oF' pv kn kl e _ _ _ _ _ _ _ _ _ => by rw [e] at N; exact N.isList (.head _)) F1 N1 ⟨rfl, rfl⟩ (fun q hq => Nat.ne_of_lt (hlt q hq)) (fun _ k => k rest npb oN oF [] [] [] rfl R (SubR.refl _) (fun q hq => hap q (.tail _ (List.mem_append_right _ hq))) .nil hN hF (NumD.nil _) (NumD.nil _) (Same.refl _ _)) ?_ ?_
  · rintro i v m1 news1 h tk o1 hi hP hI0
    refine hI0 _ ?_
    clear hI0
    rintro rest1 npb1 oN1 oF1 pv kn kl rfl R1 S1 hr1 hpv hN1 hF1 hkn hkl hs F2 N2 hne hO J hJ
    obtain ⟨y, ty, rfl, hyi⟩ := ht.item i v hP
    obtain ⟨cs, hcsi, rfl⟩ : ∃ cs, words[i]? = some cs ∧ y = S cs := by
      rw [List.getElem?_map] at hyi
      cases e : words[i]? with
      | none => rw [e] at hyi; cases hyi
      | some cs => rw [e] at hyi; exact ⟨cs, rfl, (Option.some.inj hyi).symm⟩
    have hmem := List.mem_of_getElem? hcsi
    have hpl := hpv.len_eq
    have hk1 := hkn.len
    have hk2 := hkl.len
    simp only [List.length_map, List.length_take] at hpl hk1 hk2
    walk1
    walk1
    (with_reducible rename Fr _ _ _ _ => F3); (with_reducible rename News _ _ _ _ => N3)
    have hit : ∀ a ∈ [pb, nA, lA], it ≠ a := fun a ha => by
      simp only [List.mem_cons, List.not_mem_nil, or_false] at ha
      rcases ha with rfl | rfl | rfl
      · exact (hne (a, _) (.tail _ (.head _))).symm
      · exact (hne (a, _) (.tail _ (.tail _ (.head _)))).symm
      · exact (hne (a, _) (.tail _ (.tail _ (.tail _ (.head _))))).symm
    have hN3 : News g L _ ((pb, listOf pv.toArray npb1) :: (nA, oN1) :: (lA, oF1) :: (x, instObj 112 dx) :: (dx, lexD lxh ln fs ws pb k) :: (L + 1, oL) :: (L + 4, oR) :: (L + 5, oC) :: (((it, o1) :: (tA, listOf tv.toArray nt) :: ex) ++ rest1)) := fun q hq => N3 q (subM (by (walk_at "sub"; done)) hq)
    refine c15_body (ex := (it, o1) :: (tA, listOf tv.toArray nt) :: ex) (rest := rest1) (pv := pv) (npb := npb1) (oN := oN1) (oF := oF1) (kn := kn) (kl := kl) (cs := cs) Xg Tg hdp hun hsc0 hb0 C2 R1 (allC (notRest_listIt hO) (allC notRest_seq hex)) hL hR hC hN1 hF1 (by omega) (hcl cs hmem) (hcs cs hmem) (by omega) (by omega) (fun q hq => ?_) e1 e2 e3 e4 e5 F3 hN3 rfl ((hs _ (by decide)).trans ml) ?_
    · rcases List.mem_append.mp hq with hq | hq
      · rcases List.mem_cons.mp hq with rfl | hq
        · exact hit
        · rcases List.mem_cons.mp hq with rfl | hq
          · exact hap _ (.head _)
          · exact hap q (.tail _ (List.mem_append_left _ hq))
      · exact hr1 q hq
    intro h4' tk4 rest2 npb2 oN2 oF2 v5 t5 t6 F4 N4 R2 S2 hr2 hv5 hN2 hF2
    subst hv5
    have ex1 : words.take (i + 1) = words.take i ++ [cs] := take_snoc hcsi
    refine TurnEnd.mk <| hJ _ _ h4' tk4 F4 (fun q hq => N4 q (subM (by (walk_at "sub"; done)) hq)) ?_ (fun _ k => k rest2 npb2 oN2 oF2 (pv ++ [.str (S cs) ty]) _ _ rfl R2 (S1.trans S2) hr2 ?_ hN2 hF2 ?_ ?_ (hs.trans fun y hy => ?_))
    · intro q hq
      have hr9 := Rest.ne R2 N4 (fun q hq => subM (by (walk_at "sub"; done)) hq) (a := it) (o := o1) (by first | (walk_at "mem"; done) | simp) (notRest_listIt hO)
      by_cases h : q ∈ rest2
      · exact hr9 q h
      · have hne2 : ∀ a ∈ [tA, pb, nA, lA, x, dx, L + 1, L + 4, L + 5], a ≠ it := by
          refine (allC (hne (tA, _) (.head _)) (allC (hne (pb, _) (.tail _ (.head _))) (allC (hne (nA, _) (.tail _ (.tail _ (.head _)))) (allC (hne (lA, _) (.tail _ (.tail _ (.tail _ (.head _))))) (allC (hne (x, _) (.tail _ (.tail _ (.tail _ (.tail _ (.head _)))))) (allC (hne (dx, _) (.tail _ (.tail _ (.tail _ (.tail _ (.tail _ (.head _))))))) (allC (hne (L + 1, _) (.tail _ (.tail _ (.tail _ (.tail _ (.tail _ (.tail _ (.head _)))))))) (allC (hne (L + 4, _) (.tail _ (.tail _ (.tail _ (.tail _ (.tail _ (.tail _ (.tail _ (.head _))))))))) (allC (hne (L + 5, _) (.tail _ (.tail _ (.tail _ (.tail _ (.tail _ (.tail _ (.tail _ (.tail _ (.head _)))))))))) (List.forall_mem_nil _))))))))))
        simp only [List.mem_cons, List.mem_append] at hq
        rcases hq with rfl | rfl | rfl | rfl | rfl | rfl | rfl | rfl | rfl | hq | hq
        · exact hne2 _ (.head _)
        · exact hne2 _ (.tail _ (.head _))
        · exact hne2 _ (.tail _ (.tail _ (.head _)))
        · exact hne2 _ (.tail _ (.tail _ (.tail _ (.head _))))
        · exact hne2 _ (.tail _ (.tail _ (.tail _ (.tail _ (.head _)))))
        · exact hne2 _ (.tail _ (.tail _ (.tail _ (.tail _ (.tail _ (.head _))))))
        · exact hne2 _ (.tail _ (.tail _ (.tail _ (.tail _ (.tail _ (.tail _ (.head _)))))))
        · exact hne2 _ (.tail _ (.tail _ (.tail _ (.tail _ (.tail _ (.tail _ (.tail _ (.head _))))))))
        · exact hne2 _ (.tail _ (.tail _ (.tail _ (.tail _ (.tail _ (.tail _ (.tail _ (.tail _ (.head _)))))))))
        · exact hne q (by first | (walk_at "mem"; done) | (simp only [List.mem_cons, List.mem_append]; grind))
        · exact absurd hq h
    · rw [ex1, List.map_append]; exact strs_snoc hpv _ _
    · rw [ex1]; exact hkn.step cs t5
    · rw [ex1]; exact hkl.step cs t6
    · exact if_neg fun z => hy (by rw [z]; decide)
  · rintro m1 news1 h tk hI0
    refine hI0 _ ?_
    clear hI0
    rintro rest1 npb1 oN1 oF1 pv kn kl rfl R1 S1 hr1 hpv hN1 hF1 hkn hkl hs F2 N2
    rw [List.take_of_length_le (by omega)] at hpv hkn hkl
    exact ret _ _ _ rest1 npb1 oN1 oF1 pv kn kl F2 N2 R1 S1 hr1 hpv hN1 hF1 hkn hkl hs
end
end Mine
end
section
open PySem PySem.W PyProof.Rows PySem.Calls PySem.Spec
namespace Mine
section
variable {w : World} {p : Program} {loose : List Str} {mean : ExcName → Option Value} {mg mb : Str → Option Value} {g : Heap} {s : Shared} {dp un : Nat} {fr : Option (List Env)} {gd : Option (List Code)} {Q : Flow → Shared → Prop} {E : Value → Shared → Prop} {rest : List (Addr × Obj)}
local macro_rules | `(tactic| walk_at "eval ListComp") => `(tactic| (k_here; k_dflt (refine LCg.ListComp_U (F₀ := by k_asm) (by rfl) (by decide) (by rfl) (by decide) (by rfl) ?_)))
local macro_rules | `(tactic| walk_at "eval Name") => `(tactic| walk_at "al5")
local macro_rules | `(tactic| walk_at "compareOp NotEq ref ref") => `(tactic| (refine Halt.out ?_))
set_option maxRecDepth 100000 in
set_option maxHeartbeats 8000000 in
theorem b16_if (Xg : (hd.heap_1 w.params).In g) (Tg : Top p loose mean mg mb g) (hdp : dp < 600) (hun : un < 6000) {L fa : Addr} {cd : Value} {scope : Scope} (hsc : scopeAt (hd.heap_1 w.params) 140 = some scope) {st : Stmt} (hb : (bodyAt (hd.heap_1 w.params) 140)[16]? = some st)
   {oV oC oN : Obj} {m : Str → Option Value} {tA vA nA : Addr} {tv vv : List Value} {nt nv : Nat} {kn : List (Str × Value)} {words : List (List Nat)} (hV : oV.data = .cell (some (.ref vA))) (hC : oC.data = .cell (some (.ref nA))) (hN : oN.IsDictOf (PySem.strKind PR w) kn) (hkn : NumD kn words numOf)
   (ht : StrsAre tv (words.map S)) (hv : IntsAre vv (words.map numOf)) (hwl : words.length < 100)
   (F : Fr g L s.heap m) (N : News g L s.heap ((tA, listOf tv.toArray nt) :: (vA, listOf vv.toArray nv) :: (nA, oN) :: (L + 3, oV) :: (L + 5, oC) :: rest)) (mt : m (Str.ofString "told") = some (.ref tA))
   (ret : ∀ h' tk', Fr g L h' m → News g L h' ((tA, listOf tv.toArray nt) :: (vA, listOf vv.toArray nv) :: (nA, oN) :: (L + 3, oV) :: (L + 5, oC) :: rest) → Q .next (St s h' tk')) :
   wpAny (model PR w) (Ar dp un fr gd) (exec st (envOfC (Str.ofString "law") scope L fa cd)) Q E s := by
  refine with_look2 (K := hd.heap_1 w.params) (f := 140) (by k_dflt k_is) fun eb es => ?_
  rw [es] at hsc
  rw [eb] at hb
  dsimp only [List.getElem?_cons_succ, List.getElem?_cons_zero, forBody] at hb hsc
  (try replace hb := Option.some.inj hb)
  replace hsc := Option.some.inj hsc
  subst hb
  subst hsc
  clear eb es
  have he := explicit_eq [((Str.ofString "told"), .ref tA)] (allC mt (List.forall_mem_nil _))
  rw [← he] at F
  have htl := ht.len_eq
  rw [List.length_map] at htl
  k_steps
  rw [he] at F ⊢
  refine LCg.CompSrc.ledger rfl F N (ax := tA) (its := tv.toArray) (k := nt) (.head _) (by rw [List.size_toArray, sizeLine_eq]; omega) ?_
  intro g'
  refine compRest_ind (fun i ys nws => nws = ((tA, listOf tv.toArray nt) :: (vA, listOf vv.toArray nv) :: (nA, oN) :: (L + 3, oV) :: (L + 5, oC) :: rest) ∧ IntsAre ys ((words.take i).map numOf)) tv.toArray.size ?_ ?_ _ 0 [] _ (by omega) ⟨rfl, .nil⟩
  · rintro i ys nws hi ⟨rfl, hys⟩ v I oI C oC2 D m₂ h tk E' hPv hCC hx F2 N2 off ne J hJ
    obtain ⟨y, ty, rfl, hyi⟩ := ht.item i v (by simpa using hPv)
    obtain ⟨cs, hcsi, rfl⟩ : ∃ cs, words[i]? = some cs ∧ y = S cs := by
      rw [List.getElem?_map] at hyi
      cases e : words[i]? with
      | none => rw [e] at hyi; cases hyi
      | some cs => rw [e] at hyi; exact ⟨cs, rfl, (Option.some.inj hyi).symm⟩
    obtain ⟨tq, hq⟩ := hkn.val cs (List.mem_of_getElem? hcsi)
    k_steps
    refine kda_item N2 (d := nA) (by first | (walk_at "mem"; done) | simp) hN (strKind_is PR w (S cs) ty) hq ?_
    refine LCg.CompEnd.intro F2 N2 _ (fun p hp => hp) off (.inr ⟨_, .head _, rfl, _, rfl⟩) (hJ _ _ ⟨rfl, ?_⟩)
    rw [take_snoc hcsi, List.map_append]
    exact ints_snoc hys _ _
  · rintro ys nws ⟨rfl, hys⟩ D h3 tk3 F3 N3 o3
    rw [List.size_toArray, htl, List.take_length] at hys
    k_steps
    refine ⟨?_⟩
    refine ne_dat N3 (.head _) (datAll_ints hys) (.tail _ (.tail _ (.head _))) (datAll_ints hv) (ok_ints _) (by rw [cLine_is]; show un + 64 < 9900; omega) ?_
    k_steps
    exact ret _ _ F3 (fun q hq => N3 q (.tail _ hq))
end
end Mine
end
section
open PySem PySem.W PyProof.Rows PySem.Calls PySem.Spec
namespace Mine
section
variable {w : World} {p : Program} {loose : List Str} {mean : ExcName → Option Value} {mg mb : Str → Option Value} {g : Heap} {s : Shared} {dp un : Nat} {fr : Option (List Env)} {gd : Option (List Code)} {Q : Flow → Shared → Prop} {E : Value → Shared → Prop} {rest : List (Addr × Obj)}
theorem isStr_of {prog : Program} {w : World} {k : Str} {v : Value} (h : (PySem.strKind prog w).is k v = true) : ∃ t, v = .str k t := by
  cases v with
  | str x t => simp [PySem.strKind, Value.isStrOf] at h; exact ⟨t, by rw [h]⟩
  | _ => simp [PySem.strKind, Value.isStrOf] at h
def KeyOb (d : Addr) (n ep i : Nat) (o : Obj) : Prop := o.cls = .type "dict_keyiterator" ∧ o.data = .fields #[.ref d, .int i 0, .int n 0, .int ep 0]
theorem Itr.keys {prog : Program} {w : World} {it d : Addr} {od : Obj} {kvs : List (Str × Value)} {es : Array DictEntry} {ep : Nat} (h1 : od.ExactDict) (h2 : od.data = .dict es ep) (h3 : PySem.KeysOf (PySem.strKind prog w) es) (h4 : Pairs (PySem.strKind prog w) es.toList kvs) (h5 : (kvs.map (·.1)).Nodup) :
   Itr prog w it kvs.length (fun i v => ∃ k u t, kvs[i]? = some (k, u) ∧ v = .str k t) (KeyOb d kvs.length ep) (fun h => h.get? d = some od) where
  item A hA i s Q E o hi hO ho hs h := by
    obtain ⟨k, u, e⟩ : ∃ k u, kvs[i]? = some (k, u) := ⟨_, _, List.getElem?_eq_getElem hi⟩
    refine wpAny_pyNext_dict_item (knd := PySem.strKind prog w) (d := d) (ep := ep) ⟨o, ho, hO⟩ ⟨od, es, hs, h1, h2, h3, h4, h5⟩ e fun key h' hk hit hb => ?_
    obtain ⟨t, rfl⟩ := isStr_of hk
    obtain ⟨o', ho', hO'⟩ := hit
    exact h _ h' s.toks o' ⟨k, u, t, e, rfl⟩ hO' ho' (keeps_same hb)
  done A hA s Q E o hO ho hs h := by
    refine wpAny_pyNext_dict_end (knd := PySem.strKind prog w) (d := d) (ep := ep) (kvs := kvs) (i := kvs.length) hA ⟨o, ho, hO⟩ ⟨od, es, hs, h1, h2, h3, h4, h5⟩ (by first | (walk_at "mem"; done) | simp) fun h' k => h h' s.toks (keeps_ext k)
theorem notRest_key {d : Addr} {n ep i : Nat} {o : Obj} (h : KeyOb d n ep i o) : NotRest o := fun vs e => by
  obtain ⟨hc, hd⟩ := h
  rw [hd] at e
  cases e
  exact ⟨by rw [hc]; exact nofun, fun x t z => by simp at z⟩
set_option maxRecDepth 100000 in
set_option maxHeartbeats 8000000 in
theorem d1_body (Xg : (hd.heap_1 w.params).In g) (Tg : Top p loose mean mg mb g) (hdp : dp < 600) (hun : un < 6000) {L fa : Addr} {cd : Value} {scope : Scope} (hsc : scopeAt (hd.heap_1 w.params) 140 = some scope) {bd : List Stmt} (hb : bd = forBody ((forBody (bodyAt (hd.heap_1 w.params) 140)[21]?)[1]?))
   {oF oG : Obj} {m : Str → Option Value} {ex : List (Addr × Obj)} {lA rA : Addr} {cs : List Nat} {kl kr : List (Str × Value)} {tc ta tb : Tok} {a : Int} {b : Nat} (C1 : CodeHd g 34 30) (C2 : CodeHd g 41 37) (R : Rest rest) (hex : ∀ q ∈ ex, NotRest q.2)
   (hF : oF.IsDictOf (PySem.strKind PR w) kl) (hG : oG.IsDictOf (PySem.strKind PR w) kr) (hkl : kl.length < 1000) (hkr : kr.length < 1000) (ha : valueAt kl (S cs) = some (.int a ta)) (ha1 : -500 ≤ a) (ha2 : a < 500) (hb1 : 2 ≤ b) (hb2 : b ≤ 8)
   (hap : ∀ q ∈ ex ++ rest, ∀ a ∈ [lA, rA], q.1 ≠ a) (e1 : @Ne Nat lA rA)
   (F : Fr g L s.heap m) (N : News g L s.heap ((lA, oF) :: (rA, oG) :: (ex ++ rest))) (mw : m (Str.ofString "word") = some (.str (S cs) tc)) (ml : m (Str.ofString "left") = some (.ref lA)) (mr : m (Str.ofString "rest") = some (.ref rA)) (mb : m (Str.ofString "base") = some (.int (b : Nat) tb))
   (ret : ∀ h' tk' m' rest' oF' oG' t5 t6, Fr g L h' m' → News g L h' ((lA, oF') :: (rA, oG') :: (ex ++ rest')) → Same [(Str.ofString "pair")] m m' → Rest rest' → SubR rest rest' → (∀ q ∈ rest', ∀ a ∈ [lA, rA], q.1 ≠ a) → oF'.IsDictOf (PySem.strKind PR w) (stored kl (S cs) (.int (-a / (b : Int)) t5)) → oG'.IsDictOf (PySem.strKind PR w) (stored kr (S cs) (.int (-(-a % (b : Int))) t6)) → Q .next (St s h' tk')) :
   wpAny (model PR w) (Ar dp un fr gd) (execs bd (envOfC (Str.ofString "law") scope L fa cd)) Q E s := by
  refine with_look2 (K := hd.heap_1 w.params) (f := 140) (by k_dflt k_is) fun eb es => ?_
  rw [es] at hsc
  rw [eb] at hb
  dsimp only [List.getElem?_cons_succ, List.getElem?_cons_zero, forBody] at hb hsc
  (try replace hb := Option.some.inj hb)
  replace hsc := Option.some.inj hsc
  subst hb
  subst hsc
  clear eb es
  have he := explicit_eq [((Str.ofString "word"), .str (S cs) tc), ((Str.ofString "left"), .ref lA), ((Str.ofString "rest"), .ref rA), ((Str.ofString "base"), .int (b : Nat) tb)] (allC mw (allC ml (allC mr (allC mb (List.forall_mem_nil _)))))
  rw [← he] at F
  obtain ⟨eF, pF, xF, dF, _⟩ := id hF
  obtain ⟨eG, pG, xG, dG, _⟩ := id hG
  have hap1 : ∀ q ∈ ex ++ rest, q.1 ≠ lA := fun q hq => hap q hq lA (.head _)
  have hap2 : ∀ q ∈ ex ++ rest, q.1 ≠ rA := fun q hq => hap q hq rA (.tail _ (.head _))
  k_steps
  refine kda_item N (d := lA) (.head _) hF (strKind_is PR w (S cs) tc) ha ?_
  k_steps
  have mr0 : ∀ q ∈ rest, q ∈ ((lA, oF) :: (rA, oG) :: (ex ++ rest)) := fun q hq => subM (by (walk_at "sub"; done)) hq
  refine c_idm (G := g) (b := b) ?hG Xg Tg ?hd ?hu C1 C2 R ?hr ha1 ha2 hb1 hb2 ?_
  case hG => exact fun b o e => F.keep b o e
  case hd => omega
  case hu => omega
  case hr => exact fun q hq => ⟨(N q (mr0 q hq)).1, (N q (mr0 q hq)).2.2⟩
  intro hp2 tk2 tq x y rest2 kp2 fq eq R2 sb2 hr2
  have F2 := fr_rest (ex := (lA, oF) :: (rA, oG) :: ex) F N kp2
  have hnr : ∀ q ∈ (lA, oF) :: (rA, oG) :: ex, NotRest q.2 := (allC (notRest_of fun vs e => by rw [dF] at e; cases e) (allC (notRest_of fun vs e => by rw [dG] at e; cases e) hex))
  have N2 : News g L hp2 ((lA, oF) :: (rA, oG) :: (ex ++ rest2)) := news_rest (ex := (lA, oF) :: (rA, oG) :: ex) F2 N R hnr kp2 R2 hr2
  have hr2' : ∀ o : Obj, NotRest o → ∀ a, hp2.get? a = some o → ∀ q ∈ rest2, q.1 ≠ a := fun o ho a e q hq z => R2.out (fun q hq => (hr2 q hq).1) e ho (List.mem_map.mpr ⟨q, hq, z⟩)
  have r1 := hr2' _ (hnr _ (.head _)) lA (N2.get (by k_mem))
  have r2 := hr2' _ (hnr _ (.tail _ (.head _))) rA (N2.get (by k_mem))
  have hap3 : ∀ q ∈ ex ++ rest2, q.1 ≠ lA := fun q hq => (List.mem_append.mp hq).elim (fun h => hap1 q (List.mem_append_left _ h)) (r1 q)
  have hap4 : ∀ q ∈ ex ++ rest2, q.1 ≠ rA := fun q hq => (List.mem_append.mp hq).elim (fun h => hap2 q (List.mem_append_left _ h)) (r2 q)
  have N3 : News g L hp2 ((tq, _) :: (lA, oF) :: (rA, oG) :: (ex ++ rest2)) := news_cons (p := (tq, _)) (after_new F fq eq) N2
  have u1 : @Ne Nat tq lA := fun z => fresh_ne N fq (lA, oF) (.head _) z.symm
  have u2 : @Ne Nat tq rA := fun z => fresh_ne N fq (rA, oG) (.tail _ (.head _)) z.symm
  clear F N N2
  k_steps
  (with_reducible rename Fr _ _ _ _ => F5); (with_reducible rename News _ _ _ _ => N5)
  refine kda_set F5 N5 (.tail u1 (.head (allC e1.symm hap3))) hF (strKind_is PR w (S cs) tc) (by rw [sizeLine_eq]; omega) ?_
  intro h6 oF' F6 N6 hF'
  clear F5 N5
  (try dsimp only)
  k_steps
  (with_reducible rename Fr _ _ _ _ => F7); (with_reducible rename News _ _ _ _ => N7)
  refine kda_set F7 N7 (.tail u2 (.tail e1 (.head hap4))) hG (strKind_is PR w (S cs) tc) (by rw [sizeLine_eq]; omega) ?_
  intro h8 oG' F8 N8 hG'
  clear F7 N7
  (try dsimp only)
  k_steps
  exact ret _ _ _ rest2 oF' oG' _ _ F8 (fun q hq => N8 q (.tail _ hq)) (fun y hy => by simp only [List.mem_cons, List.not_mem_nil, or_false, not_or] at hy; simp only [hy, if_false]; exact congrFun he y) R2 sb2 (fun q hq => (allC (r1 q hq) (allC (r2 q hq) (List.forall_mem_nil _)))) hF' hG'
end
end Mine
end
section
open PySem PySem.W PyProof.Rows PySem.Calls PySem.Spec
namespace Mine
section
variable {w : World} {p : Program} {loose : List Str} {mean : ExcName → Option Value} {mg mb : Str → Option Value} {g : Heap} {s : Shared} {dp un : Nat} {fr : Option (List Env)} {gd : Option (List Code)} {Q : Flow → Shared → Prop} {E : Value → Shared → Prop} {rest : List (Addr × Obj)}
theorem stored_len_old {K : Type} [DecidableEq K] {kvs : List (K × Value)} {k : K} {v0 : Value} (h : valueAt kvs k = some v0) (v : Value) : (stored kvs k v).length = kvs.length := by
  unfold stored
  by_cases e : (kvs.any fun kv => kv.1 = k) = true
  · rw [if_pos e, List.length_map]
  · rw [valueAt_none e] at h; cases h
theorem key_mem {K : Type} [DecidableEq K] {kvs : List (K × Value)} {k : K} {v0 : Value} (h : valueAt kvs k = some v0) : k ∈ kvs.map (·.1) := by
  by_cases e : (kvs.any fun kv => kv.1 = k) = true
  · obtain ⟨kv, hkv, e2⟩ := List.any_eq_true.mp e
    exact List.mem_map.mpr ⟨kv, hkv, of_decide_eq_true e2⟩
  · rw [valueAt_none e] at h; cases h
theorem nodup_take {α : Type} {l : List α} {i : Nat} {a : α} (hn : l.Nodup) (h : l[i]? = some a) : a ∉ l.take i := fun hm => by
  rw [← List.take_append_drop i l] at hn
  exact (List.nodup_append.mp hn).2.2 a hm a (List.mem_of_getElem? (i := 0) (by rw [List.getElem?_drop]; simpa using h)) rfl
theorem stored_key_in {kvs : List (Str × Value)} {ws : List (List Nat)} (h : ∀ kv ∈ kvs, ∃ cs ∈ ws, kv.1 = S cs) {cs : List Nat} (hc : cs ∈ ws) (v : Value) : ∀ kv ∈ stored kvs (S cs) v, ∃ cs ∈ ws, kv.1 = S cs := fun kv hkv => by
  have hk : kv.1 ∈ (stored kvs (S cs) v).map (·.1) := List.mem_map.mpr ⟨_, hkv, rfl⟩
  rw [stored_keys] at hk
  have old : kv.1 ∈ kvs.map (·.1) → ∃ c ∈ ws, kv.1 = S c := fun z => by
    obtain ⟨q, hq, e⟩ := List.mem_map.mp z
    obtain ⟨c, hc, e2⟩ := h q hq
    exact ⟨c, hc, e ▸ e2⟩
  split at hk
  · exact old hk
  · rcases List.mem_append.mp hk with hk | hk
    · exact old hk
    · exact ⟨cs, hc, List.mem_singleton.mp hk⟩
set_option maxRecDepth 100000 in
set_option maxHeartbeats 8000000 in
theorem d1_loop (Xg : (hd.heap_1 w.params).In g) (Tg : Top p loose mean mg mb g) (hdp : dp < 600) (hun : un < 6000) {L fa : Addr} {cd : Value} {scope : Scope} (hsc : scopeAt (hd.heap_1 w.params) 140 = some scope) {bd : List Stmt} (hb : bd = forBody ((forBody (bodyAt (hd.heap_1 w.params) 140)[21]?)[1]?))
   {oN oF oG : Obj} {m : Str → Option Value} {ex : List (Addr × Obj)} {nA lA rA : Addr} {kn kl : List (Str × Value)} {words : List (List Nat)} {f0 f : List Nat → Int} {tb : Tok} {b : Nat} {px : Pos} (C1 : CodeHd g 34 30) (C2 : CodeHd g 41 37) (R : Rest rest) (hex : ∀ q ∈ ex, NotRest q.2) (hnm : (nA == sysModules) = false)
   (hN : oN.IsDictOf (PySem.strKind PR w) kn) (hkn : NumD kn words f0) (hF : oF.IsDictOf (PySem.strKind PR w) kl) (hkl : NumD kl words f) (hG : oG.IsDictOf (PySem.strKind PR w) ([] : List (Str × Value))) (hwl : words.length < 100) (hf : ∀ cs ∈ words, -500 ≤ f cs ∧ f cs < 500) (hb1 : 2 ≤ b) (hb2 : b ≤ 8)
   (hap : ∀ q ∈ (nA, oN) :: (ex ++ rest), ∀ a ∈ [lA, rA], q.1 ≠ a) (e1 : @Ne Nat lA rA)
   (F : Fr g L s.heap m) (N : News g L s.heap ((nA, oN) :: (lA, oF) :: (rA, oG) :: (ex ++ rest))) (ml : m (Str.ofString "left") = some (.ref lA)) (mr : m (Str.ofString "rest") = some (.ref rA)) (mb : m (Str.ofString "base") = some (.int (b : Nat) tb))
   (ret : ∀ h' tk' m' rest' oF' oG' kl' kr', Fr g L h' m' → News g L h' ((nA, oN) :: (lA, oF') :: (rA, oG') :: (ex ++ rest')) → Same [(Str.ofString "word"), (Str.ofString "pair")] m m' → Rest rest' → SubR rest rest' → (∀ q ∈ rest', ∀ a ∈ [lA, rA], q.1 ≠ a) → oF'.IsDictOf (PySem.strKind PR w) kl' → oG'.IsDictOf (PySem.strKind PR w) kr' → NumD kl' words (fun cs => -f cs / (b : Int)) → NumD kr' words (fun cs => -(-f cs % (b : Int))) → Q .next (St s h' tk')) :
   wpAny (model PR w) (Ar dp un fr gd) (pyIter (.ref nA)) (fun it s₂ => LoopOk PR w (Ar dp un fr gd) (envOfC (Str.ofString "law") scope L fa cd) (.Name (Str.ofString "word") px) bd Q it s₂) E s := by
  have hb0 := hb
  have hsc0 := hsc
  refine with_look2 (K := hd.heap_1 w.params) (f := 140) (by k_dflt k_is) fun eb es => ?_
  rw [es] at hsc
  rw [eb] at hb
  dsimp only [List.getElem?_cons_succ, List.getElem?_cons_zero, forBody] at hb hsc
  (try replace hb := Option.some.inj hb)
  replace hsc := Option.some.inj hsc
  subst hb
  subst hsc
  clear eb es
  obtain ⟨eN, pN, xN, dN, kN, qN, nN⟩ := id hN
  have hgn := N.get (a := nA) (.head _)
  refine wpAny_pyIter_dict (knd := PySem.strKind PR w) hnm ⟨oN, eN, hgn, xN, dN, kN, qN, nN⟩ ?_
  have F1 := F.push ({ cls := .type "dict_keyiterator", data := .fields #[.ref nA, .int 0 0, .int kn.length 0, .int pN 0] } : Obj)
  have N1 := N.push F ({ cls := .type "dict_keyiterator", data := .fields #[.ref nA, .int 0 0, .int kn.length 0, .int pN 0] } : Obj)
  have hlt : ∀ q ∈ ((nA, oN) :: (lA, oF) :: (rA, oG) :: (ex ++ rest)), @LT.lt Nat _ q.1 s.heap.objs.size := fun q hq => Heap.lt_size (N q hq).1
  generalize s.heap.objs.size = it at *
  refine loopInv2 rfl (Itr.keys (prog := PR) (w := w) (it := it) (d := nA) xN dN kN qN nN) (fun i m' news' => ∀ C : Prop, (∀ rest' oF' oG' kl' kr', (news' = ((nA, oN) :: (lA, oF') :: (rA, oG') :: (ex ++ rest'))) → (Rest rest') → (SubR rest rest') → ((∀ q ∈ rest', ∀ a ∈ [lA, rA], q.1 ≠ a)) → (oF'.IsDictOf (PySem.strKind PR w) kl') → (oG'.IsDictOf (PySem.strKind PR w) kr') → ((∀ cs ∈ words, ∃ t, valueAt kl' (S cs) = some (.int (if S cs ∈ (kn.map (·.1)).take i then -f cs / (b : Int) else f cs) t))) → ((∀ cs ∈ words, S cs ∈ (kn.map (·.1)).take i → ∃ t, valueAt kr' (S cs) = some (.int (-(-f cs % (b : Int))) t))) → ((∀ kv ∈ kl', ∃ cs ∈ words, kv.1 = S cs)) → ((∀ kv ∈ kr', ∃ cs ∈ words, kv.1 = S cs)) → (kl'.length ≤ words.length) → (kr'.length ≤ i) → (Same [(Str.ofString "word"), (Str.ofString "pair")] m m') → C) → C)
    (fun i m' news' h hI0 _ N => hI0 _ fun rest' oF' oG' kl' kr' e _ _ _ _ _ _ _ _ _ _ _ _ => by rw [e] at N; exact N.get (.head _)) F1 N1 ⟨rfl, rfl⟩ (fun q hq => Nat.ne_of_lt (hlt q hq)) (fun _ k => k rest oF oG kl [] rfl R (SubR.refl _) (fun q hq => hap q (.tail _ (List.mem_append_right _ hq))) hF hG (fun cs hc => by simpa using hkl.val cs hc) (fun cs _ h => by simp at h) hkl.key (fun _ h => nomatch h) hkl.len (Nat.le_refl _) (Same.refl _ _)) ?_ ?_
  · rintro i v m1 news1 h tk o1 hi ⟨ky, u, t, hki, rfl⟩ hI0
    refine hI0 _ ?_
    clear hI0
    rintro rest1 oF1 oG1 kl1 kr1 rfl R1 S1 hr1 hF1 hG1 hv1 hv2 hk1 hk2 hl1 hl2 hs F2 N2 hne hO J hJ
    obtain ⟨cs, hcw, hky⟩ := hkn.key _ (List.mem_of_getElem? hki)
    simp only at hky
    subst hky
    have hkm : (kn.map (·.1))[i]? = some (S cs) := by rw [List.getElem?_map, hki]; rfl
    have hnt := nodup_take nN hkm
    have ex1 := take_snoc hkm
    obtain ⟨ta, hva⟩ := hv1 cs hcw
    rw [if_neg hnt] at hva
    have hknl := hkn.len
    walk1
    walk1
    (with_reducible rename Fr _ _ _ _ => F3); (with_reducible rename News _ _ _ _ => N3)
    have hN3 : News g L _ ((lA, oF1) :: (rA, oG1) :: (((it, o1) :: (nA, oN) :: ex) ++ rest1)) := fun q hq => N3 q (subM (by (walk_at "sub"; done)) hq)
    refine d1_body (ex := (it, o1) :: (nA, oN) :: ex) (rest := rest1) (oF := oF1) (oG := oG1) (kl := kl1) (kr := kr1) (cs := cs) Xg Tg hdp hun hsc0 hb0 C1 C2 R1 (allC (notRest_key hO) (allC (notRest_of fun vs e => by rw [dN] at e; cases e) hex)) hF1 hG1 (by omega) (by omega) hva (hf cs hcw).1 (hf cs hcw).2 hb1 hb2 (fun q hq => ?_) e1 F3 hN3 rfl ((hs _ (by decide)).trans ml) ((hs _ (by decide)).trans mr) ((hs _ (by decide)).trans mb) ?_
    · rcases List.mem_append.mp hq with hq | hq
      · rcases List.mem_cons.mp hq with rfl | hq
        · exact (allC ((hne (lA, _) (.tail _ (.head _))).symm) (allC ((hne (rA, _) (.tail _ (.tail _ (.head _)))).symm) (List.forall_mem_nil _)))
        · rcases List.mem_cons.mp hq with rfl | hq
          · exact hap _ (.head _)
          · exact hap q (.tail _ (List.mem_append_left _ hq))
      · exact hr1 q hq
    intro h4' tk4 m4 rest2 oF2 oG2 t5 t6 F4 N4 hs4 R2 S2 hr2 hF2 hG2
    refine TurnEnd.mk <| hJ m4 _ h4' tk4 F4 (fun q hq => N4 q (subM (by (walk_at "sub"; done)) hq)) ?_ (fun _ k => k rest2 oF2 oG2 _ _ rfl R2 (S1.trans S2) hr2 hF2 hG2 (fun c hc => ?_) (fun c hc hm => ?_) (stored_key_in hk1 hcw _) (stored_key_in hk2 hcw _) ?_ ?_ ((hs.trans fun y hy => ?_).trans (hs4.mono (by decide))))
    · intro q hq
      have hr9 := Rest.ne R2 N4 (fun q hq => subM (by (walk_at "sub"; done)) hq) (a := it) (o := o1) (by first | (walk_at "mem"; done) | simp) (notRest_key hO)
      simp only [List.mem_cons, List.mem_append] at hq
      rcases hq with rfl | rfl | rfl | hq | hq
      · exact hne (nA, _) (.head _)
      · exact hne (lA, oF1) (.tail _ (.head _))
      · exact hne (rA, oG1) (.tail _ (.tail _ (.head _)))
      · exact hne q (by first | (walk_at "mem"; done) | (simp only [List.mem_cons, List.mem_append]; grind))
      · exact hr9 q hq
    · by_cases e : c = cs
      · subst e
        rw [ex1, if_pos (List.mem_append_right _ (.head _))]
        exact ⟨t5, valueAt_stored _ _ _⟩
      · rw [valueAt_stored_ne _ _ (fun z => e (S_inj z))]
        obtain ⟨t', h'⟩ := hv1 c hc
        refine ⟨t', h'.trans ?_⟩
        have : (S c ∈ (kn.map (·.1)).take (i + 1)) = (S c ∈ (kn.map (·.1)).take i) := by
          rw [ex1, List.mem_append, List.mem_singleton]
          exact propext ⟨fun z => z.resolve_right fun z => e (S_inj z), .inl⟩
        simp only [this]
    · by_cases e : c = cs
      · subst e; exact ⟨t6, valueAt_stored _ _ _⟩
      · rw [valueAt_stored_ne _ _ (fun z => e (S_inj z))]
        rw [ex1] at hm
        exact hv2 c hc ((List.mem_append.mp hm).resolve_right fun z => e (S_inj (List.mem_singleton.mp z)))
    · rw [stored_len_old hva]; exact hl1
    · have := stored_length_le kr1 (S cs) (.int (-(-f cs % (b : Int))) t6); omega
    · exact if_neg fun z => hy (by rw [z]; decide)
  · rintro m1 news1 h tk hI0
    refine hI0 _ ?_
    clear hI0
    rintro rest1 oF1 oG1 kl1 kr1 rfl R1 S1 hr1 hF1 hG1 hv1 hv2 hk1 hk2 hl1 hl2 hs F2 N2
    have hall : ∀ cs ∈ words, S cs ∈ (kn.map (·.1)).take kn.length := fun cs hc => by
      rw [List.take_of_length_le (by first | (walk_at "mem"; done) | simp)]
      obtain ⟨t, e⟩ := hkn.val cs hc
      exact key_mem e
    refine ret _ _ _ rest1 oF1 oG1 kl1 kr1 F2 N2 hs R1 S1 hr1 hF1 hG1 ⟨fun cs hc => ?_, hk1, hl1⟩ ⟨fun cs hc => hv2 cs hc (hall cs hc), hk2, Nat.le_trans hl2 hkn.len⟩
    obtain ⟨t, e⟩ := hv1 cs hc
    rw [if_pos (hall cs hc)] at e
    exact ⟨t, e⟩
end
end Mine
end
section
open PySem PySem.W PyProof.Rows PySem.Calls PySem.Spec
namespace Mine
section
variable {w : World} {p : Program} {loose : List Str} {mean : ExcName → Option Value} {mg mb : Str → Option Value} {G : Heap} {s : Shared} {dp un : Nat} {fr : Option (List Env)} {gd : Option (List Code)} {Q E : Value → Shared → Prop} {rest : List (Addr × Obj)}
set_option maxRecDepth 100000 in
set_option maxHeartbeats 8000000 in
theorem r_stream2 (hG : G.StaysIn s.heap) (X : (hd.heap_1 w.params).In G) (T : Top p loose mean mg mb G) (hdp : dp < 800) (hun : un < 8000) (C : CodeHd G 122 118) (R : Rest rest)
   {sg : Addr} (hr0 : ∀ q ∈ rest, s.heap.get? q.1 = some q.2 ∧ G.get? q.1 = none)
   (ret : ∀ (h' : Heap) (tk' : Nat) (fs D lam cell : Addr) (of od ol oc : Obj) (rest' : List (Addr × Obj)), Keeps (rest.map (·.1)) s.heap h' → IsStream (hd.heap_1 w.params) rest' sg fs D lam cell of od ol oc → (∀ q ∈ [(fs, of), (D, od), (lam, ol), (cell, oc)], s.heap.get? q.1 = none ∧ h'.get? q.1 = some q.2) → Rest rest' → SubR rest rest' → (∀ q ∈ rest', h'.get? q.1 = some q.2 ∧ G.get? q.1 = none) → (∀ q ∈ rest', q.1 ∈ rest.map (·.1) ∨ s.heap.get? q.1 = none) → Q (.ref fs) (St s h' tk')) :
   wpAny (model PR w) (Ar dp un fr gd) (call (.ref 123) [.ref sg]) Q E s := by
  obtain ⟨tl, Tl, htl⟩ := R.t3
  have hr : ∀ q ∈ tl, s.heap.get? q.1 = some q.2 ∧ G.get? q.1 = none := fun q hq => hr0 q (htl q hq)
  refine with_look (K := hd.heap_1 w.params) (f := 123) (by k_dflt k_is) fun eb => ?_
  replace eb := Hid.mk eb
  refine wpAny_call ?_
  cases Tl with
  | nil =>
    k_dflt (refine' enterC (binds := [((Str.ofString "signs"), .ref sg)]) _ hG hr X T ?k6 ?k7 ?k8 ?k9 ?kB ?kD ?m ?c2 ?c3 ?c4; (case k6 => k_is); (case k7 => k_is); (case k8 => (simp only [recursionLimit]; omega)); (case k9 => exact BindsTo.of_eq rfl); (case kB => exact rfl); (case kD => decide); (case c2 => exact rfl); (case c3 => exact rfl); (case c4 => exact rfl))
    intro g L hh tk cells Gg Xg Tg kp F N Y l1 ng
    clear X T
    obtain ⟨o1, hE, d1⟩ := CellsAre.one Y
    subst hE
    clear Y
    (try k_lt l1)
    (try dsimp only [List.nil_append, List.cons_append] at N)
    (try dsimp only)
    (try k_fold)
    have Cg : CodeHd g 122 118 := C.keeps fun b o e => Gg b o e
    k_steps
    (with_reducible rename Fr _ _ _ _ => F1); (with_reducible rename News _ _ _ _ => N1)
    refine fn_setRead (N1.get (by k_mem)) ?_
    intro h3 tk3 D fr3 lt3 e3 ns3 kp3
    obtain ⟨od, hod, hdd, hns⟩ := ns_of1 ns3
    rename_i f1 c1 oc1 vs1 t1 ct1 ha tka da1 da2 lA lB hb FA NA f2 c2 oc2 vs2 t2 ct2 hc tkc db1 db2 lC lD
    have hlt : ∀ q ∈ ([f1, f2, c1, c2, L + 1, 118] : List Addr), @LT.lt Nat _ q D := by
      refine allC (lt3 _ _ (N1.get (by k_mem))) (allC (lt3 _ _ (N1.get (by k_mem))) (allC (lt3 _ _ (N1.get (by k_mem))) (allC (lt3 _ _ (N1.get (by k_mem))) (allC (lt3 _ _ (N1.get (by k_mem))) (allC (lt3 _ _ (N1.get (by k_mem))) (List.forall_mem_nil _))))))
    have hfD := hlt f1 (.head _)
    have N3 := news_cons (p := (D, od)) (after_new F1 fr3 hod) <| news_cons (p := (f1, _)) (after_set N1 (by k_mem) e3) <| news_cons (p := (f2, _)) (after_old N1 kp3 (by k_mem) (fun z => (by omega : @Ne Nat f2 f1) (List.mem_singleton.mp z))) <| news_cons (p := (c2, _)) (after_old N1 kp3 (by k_mem) (fun z => (by omega : @Ne Nat c2 f1) (List.mem_singleton.mp z))) <| news_cons (p := (c1, _)) (after_old N1 kp3 (by k_mem) (fun z => (by omega : @Ne Nat c1 f1) (List.mem_singleton.mp z))) <| news_cons (p := ((L + 1), _)) (after_old N1 kp3 (by k_mem) (fun z => (by omega : @Ne Nat (L + 1) f1) (List.mem_singleton.mp z))) <| news_cons (p := (118, _)) (after_old N1 kp3 (by k_mem) (fun z => (by omega : @Ne Nat 118 f1) (List.mem_singleton.mp z))) <| (News.nil)
    have F3 := fr_updU F1 N1 (by k_mem) kp3
    clear F1 N1 FA NA
    k_steps
    (with_reducible rename Fr _ _ _ _ => F1); (with_reducible rename News _ _ _ _ => N1)
    dsimp only
    have tab : h3.get? 118 = some (tabObj #[rawInt 149, rawInt 13, .ref c1, rawInt 150, rawInt 18, .ref c2]) := N1.get (by k_mem)
    have T3 : TabTwo [(118, tabObj #[rawInt 149, rawInt 13, .ref c1, rawInt 150, rawInt 18, .ref c2]), (c1, oc1), (c2, oc2)] := .two da1 da2 (by omega) db1 db2 (by omega)
    have e3' : ∀ q ∈ [(118, tabObj #[rawInt 149, rawInt 13, .ref c1, rawInt 150, rawInt 18, .ref c2]), (c1, oc1), (c2, oc2)], h3.get? q.1 = some q.2 ∧ G.get? q.1 = none :=
      allC ⟨tab, (hr _ (.head _)).2⟩ (allC ⟨N1.get (by k_mem), g_none Gg (N1.fresh (by k_mem))⟩ (allC ⟨N1.get (by k_mem), g_none Gg (N1.fresh (by k_mem))⟩ (List.forall_mem_nil _)))
    have kq : Keeps [118] s.heap h3 := kp_keeps kp F1
    exact ret h3 _ f1 D f2 (L + 1) _ od _ o1 _ (keep_of_one kq (List.mem_map.mpr ⟨_, htl _ (.head _), rfl⟩))
      ⟨⟨_, _, rfl⟩, hns, hdd, ⟨_, _, _, _, c2, _, oc2, _, _, (by rw [eb.out]; rfl), rfl, List.mem_append_left _ (.tail _ (.tail _ (.head _))), db1, db2, by omega, by omega, by omega⟩, d1⟩
      (allC ⟨kp_fresh kp N1 (by k_mem) (fun z => (by omega : @Ne Nat f1 118) (List.mem_singleton.mp z)), N1.get (by k_mem)⟩ (allC ⟨kp_fresh kp N1 (by k_mem) (fun z => (by omega : @Ne Nat D 118) (List.mem_singleton.mp z)), N1.get (by k_mem)⟩ (allC ⟨kp_fresh kp N1 (by k_mem) (fun z => (by omega : @Ne Nat f2 118) (List.mem_singleton.mp z)), N1.get (by k_mem)⟩ (allC ⟨kp_fresh kp N1 (by k_mem) (fun z => (by omega : @Ne Nat (L + 1) 118) (List.mem_singleton.mp z)), N1.get (by k_mem)⟩ (List.forall_mem_nil _)))))
      (R.step3 .nil htl (fun q hq => (hr0 q hq).1) T3) (subR_filter T3.base.mem (.inr (.inr rfl))) (rest_after kq hr0 e3') (fun q hq => (List.mem_append.mp hq).elim (fun h => (allC (.inl (List.mem_map.mpr ⟨_, htl _ (.head _), rfl⟩)) (allC (.inr (kp_fresh kp N1 (by k_mem) (fun z => (by omega : @Ne Nat c1 118) (List.mem_singleton.mp z)))) (allC (.inr (kp_fresh kp N1 (by k_mem) (fun z => (by omega : @Ne Nat c2 118) (List.mem_singleton.mp z)))) (List.forall_mem_nil _))) : ∀ q ∈ [(118, tabObj #[rawInt 149, rawInt 13, .ref c1, rawInt 150, rawInt 18, .ref c2]), (c1, oc1), (c2, oc2)], q.1 ∈ rest.map (·.1) ∨ s.heap.get? q.1 = none) q h) (fun h => .inl (List.mem_map.mpr ⟨q, (List.mem_filter.mp h).1, rfl⟩)))

  | @two c1 c2 oc1 oc2 vs1 vs2 t1 t2 da1 da2 na db1 db2 nb =>
    have T0 : TabTwo [(118, tabObj #[rawInt 149, rawInt 13, .ref c1, rawInt 150, rawInt 18, .ref c2]), (c1, oc1), (c2, oc2)] := .two da1 da2 na db1 db2 nb
    have n30 : @Ne Nat c2 30 := by
      obtain ⟨tl1, Tl1, h1⟩ := R.t1
      exact T0.base.away Tl1.base (by decide) (fun q hq => (hr q hq).1) (fun q hq => (hr0 q (h1 q hq)).1) (c2, oc2) (.tail _ (.tail _ (.head _)))
    have n37 : @Ne Nat c2 37 := by
      obtain ⟨tl1, Tl1, h1⟩ := R.t2
      exact T0.base.away Tl1.base (by decide) (fun q hq => (hr q hq).1) (fun q hq => (hr0 q (h1 q hq)).1) (c2, oc2) (.tail _ (.tail _ (.head _)))
    k_dflt (refine' enterC (binds := [((Str.ofString "signs"), .ref sg)]) _ hG hr X T ?zk6 ?zk7 ?zk8 ?zk9 ?zkB ?zkD ?zm ?zc2 ?zc3 ?zc4; (case zk6 => k_is); (case zk7 => k_is); (case zk8 => (simp only [recursionLimit]; omega)); (case zk9 => exact BindsTo.of_eq rfl); (case zkB => exact rfl); (case zkD => decide); (case zc2 => exact rfl); (case zc3 => exact rfl); (case zc4 => exact rfl))
    intro g L hh tk cells Gg Xg Tg kp F N Y l1 ng
    clear X T
    obtain ⟨o1, hE, d1⟩ := CellsAre.one Y
    subst hE
    clear Y
    (try k_lt l1)
    (try dsimp only [List.nil_append, List.cons_append] at N)
    (try dsimp only)
    (try k_fold)
    have Cg : CodeHd g 122 118 := C.keeps fun b o e => Gg b o e
    k_steps
    (with_reducible rename Fr _ _ _ _ => F1); (with_reducible rename News _ _ _ _ => N1)
    refine fn_setRead (N1.get (by k_mem)) ?_
    intro h3 tk3 D fr3 lt3 e3 ns3 kp3
    obtain ⟨od, hod, hdd, hns⟩ := ns_of1 ns3
    rename_i f1 ct1 ha tka lA hb FA NA f2 ct2 hc tkc lC
    have hlt : ∀ q ∈ ([f1, f2, c1, c2, L + 1, 118] : List Addr), @LT.lt Nat _ q D := by
      refine allC (lt3 _ _ (N1.get (by k_mem))) (allC (lt3 _ _ (N1.get (by k_mem))) (allC (lt3 _ _ (N1.get (by k_mem))) (allC (lt3 _ _ (N1.get (by k_mem))) (allC (lt3 _ _ (N1.get (by k_mem))) (allC (lt3 _ _ (N1.get (by k_mem))) (List.forall_mem_nil _))))))
    have hfD := hlt f1 (.head _)
    have N3 := news_cons (p := (D, od)) (after_new F1 fr3 hod) <| news_cons (p := (f1, _)) (after_set N1 (by k_mem) e3) <| news_cons (p := (f2, _)) (after_old N1 kp3 (by k_mem) (fun z => (by omega : @Ne Nat f2 f1) (List.mem_singleton.mp z))) <| news_cons (p := (c2, _)) (after_old N1 kp3 (by k_mem) (fun z => (by omega : @Ne Nat c2 f1) (List.mem_singleton.mp z))) <| news_cons (p := (c1, _)) (after_old N1 kp3 (by k_mem) (fun z => (by omega : @Ne Nat c1 f1) (List.mem_singleton.mp z))) <| news_cons (p := ((L + 1), _)) (after_old N1 kp3 (by k_mem) (fun z => (by omega : @Ne Nat (L + 1) f1) (List.mem_singleton.mp z))) <| news_cons (p := (118, _)) (after_old N1 kp3 (by k_mem) (fun z => (by omega : @Ne Nat 118 f1) (List.mem_singleton.mp z))) <| (News.nil)
    have F3 := fr_updU F1 N1 (by k_mem) kp3
    clear F1 N1 FA NA
    k_steps
    (with_reducible rename Fr _ _ _ _ => F1); (with_reducible rename News _ _ _ _ => N1)
    dsimp only
    have tab : h3.get? 118 = some (tabObj #[rawInt 149, rawInt 13, .ref c1, rawInt 150, rawInt 18, .ref c2]) := N1.get (by k_mem)
    have T3 : TabTwo [(118, tabObj #[rawInt 149, rawInt 13, .ref c1, rawInt 150, rawInt 18, .ref c2]), (c1, oc1), (c2, oc2)] := .two da1 da2 na db1 db2 nb
    have e3' : ∀ q ∈ [(118, tabObj #[rawInt 149, rawInt 13, .ref c1, rawInt 150, rawInt 18, .ref c2]), (c1, oc1), (c2, oc2)], h3.get? q.1 = some q.2 ∧ G.get? q.1 = none :=
      allC ⟨tab, (hr _ (.head _)).2⟩ (allC ⟨N1.get (by k_mem), g_none Gg (N1.fresh (by k_mem))⟩ (allC ⟨N1.get (by k_mem), g_none Gg (N1.fresh (by k_mem))⟩ (List.forall_mem_nil _)))
    have kq : Keeps [118] s.heap h3 := kp_on kp F1 (allC (.inl (.head _)) (allC (.inr ⟨(hr _ (.tail _ (.head _))).1, N1.get (by k_mem)⟩) (allC (.inr ⟨(hr _ (.tail _ (.tail _ (.head _)))).1, N1.get (by k_mem)⟩) (List.forall_mem_nil _))))
    exact ret h3 _ f1 D f2 (L + 1) _ od _ o1 _ (keep_of_one kq (List.mem_map.mpr ⟨_, htl _ (.head _), rfl⟩))
      ⟨⟨_, _, rfl⟩, hns, hdd, ⟨_, _, _, _, c2, _, oc2, _, _, (by rw [eb.out]; rfl), rfl, List.mem_append_left _ (.tail _ (.tail _ (.head _))), db1, db2, by omega, by omega, by omega⟩, d1⟩
      (allC ⟨kp_fresh kp N1 (by k_mem) (nin3 (by omega) (by omega) (by omega)), N1.get (by k_mem)⟩ (allC ⟨kp_fresh kp N1 (by k_mem) (nin3 (by omega) (by omega) (by omega)), N1.get (by k_mem)⟩ (allC ⟨kp_fresh kp N1 (by k_mem) (nin3 (by omega) (by omega) (by omega)), N1.get (by k_mem)⟩ (allC ⟨kp_fresh kp N1 (by k_mem) (nin3 (by omega) (by omega) (by omega)), N1.get (by k_mem)⟩ (List.forall_mem_nil _)))))
      (R.step3 T3 htl (fun q hq => (hr0 q hq).1) T3) (subR_filter T3.base.mem (.inr (.inr rfl))) (rest_after kq hr0 e3') (fun q hq => (List.mem_append.mp hq).elim (fun h => (allC (.inl (List.mem_map.mpr ⟨_, htl _ (.head _), rfl⟩)) (allC (.inl (List.mem_map.mpr ⟨_, htl _ (.tail _ (.head _)), rfl⟩)) (allC (.inl (List.mem_map.mpr ⟨_, htl _ (.tail _ (.tail _ (.head _))), rfl⟩)) (List.forall_mem_nil _))) : ∀ q ∈ [(118, tabObj #[rawInt 149, rawInt 13, .ref c1, rawInt 150, rawInt 18, .ref c2]), (c1, oc1), (c2, oc2)], q.1 ∈ rest.map (·.1) ∨ s.heap.get? q.1 = none) q h) (fun h => .inl (List.mem_map.mpr ⟨q, (List.mem_filter.mp h).1, rfl⟩)))
end
end Mine
end
section
open PySem PySem.W PyProof.Rows PySem.Calls PySem.Spec
namespace Mine
section
variable {w : World} {p : Program} {loose : List Str} {mean : ExcName → Option Value} {mg mb : Str → Option Value} {g : Heap} {s : Shared} {dp un : Nat} {fr : Option (List Env)} {gd : Option (List Code)} {Q : Flow → Shared → Prop} {E : Value → Shared → Prop} {rest : List (Addr × Obj)}
/-- a waiting line: a lexer with nothing to read -/
structure Line where
  x : Addr
  dx : Addr
  pb : Addr
  od : Obj
def Line.Ok (l : Line) : Prop := ∃ lxh ln fs ws k, l.od = lexD lxh ln fs ws l.pb k
def LinesL : List Line → List (List Value × Nat) → List (Addr × Obj)
  | l :: ls, q :: qs => (l.pb, listOf q.1.toArray q.2) :: (l.x, instObj 112 l.dx) :: (l.dx, l.od) :: LinesL ls qs
  | _, _ => []
theorem linesL_app : ∀ {ls : List Line} {qs : List (List Value × Nat)} (l : Line) (q : List Value × Nat), ls.length = qs.length → LinesL (ls ++ [l]) (qs ++ [q]) = LinesL ls qs ++ [(l.pb, listOf q.1.toArray q.2), (l.x, instObj 112 l.dx), (l.dx, l.od)]
  | [], [], _, _, _ => rfl
  | [], _ :: _, _, _, h => by simp at h
  | _ :: _, [], _, _, h => by simp at h
  | a :: ls, b :: qs, l, q, h => by
    have := linesL_app (ls := ls) (qs := qs) l q (by simpa using h)
    simp only [List.cons_append, LinesL, this]
theorem linesL_mem : ∀ {ls : List Line} {qs : List (List Value × Nat)} {p : Addr × Obj}, p ∈ LinesL ls qs → ∃ (i : Nat) (l : Line) (q : List Value × Nat), ls[i]? = some l ∧ qs[i]? = some q ∧ (p = (l.pb, listOf q.1.toArray q.2) ∨ p = (l.x, instObj 112 l.dx) ∨ p = (l.dx, l.od))
  | [], _, _, h => by simp [LinesL] at h
  | _ :: _, [], _, h => by simp [LinesL] at h
  | a :: ls, b :: qs, p, h => by
    simp only [LinesL, List.mem_cons] at h
    rcases h with h | h | h | h
    · exact ⟨0, a, b, rfl, rfl, .inl h⟩
    · exact ⟨0, a, b, rfl, rfl, .inr (.inl h)⟩
    · exact ⟨0, a, b, rfl, rfl, .inr (.inr h)⟩
    · obtain ⟨i, l, q, h1, h2, h3⟩ := linesL_mem h
      exact ⟨i + 1, l, q, by simpa using h1, by simpa using h2, h3⟩
theorem linesL_at : ∀ {ls : List Line} {qs : List (List Value × Nat)} {i : Nat} {l : Line} {q : List Value × Nat}, ls[i]? = some l → qs[i]? = some q → (l.pb, listOf q.1.toArray q.2) ∈ LinesL ls qs ∧ (l.x, instObj 112 l.dx) ∈ LinesL ls qs ∧ (l.dx, l.od) ∈ LinesL ls qs
  | [], _, _, _, _, h, _ => by simp at h
  | _ :: _, [], _, _, _, _, h => by simp at h
  | a :: ls, b :: qs, i, l, q, h1, h2 => by
    cases i with
    | zero =>
      simp at h1 h2; subst h1; subst h2
      exact ⟨.head _, .tail _ (.head _), .tail _ (.tail _ (.head _))⟩
    | succ i =>
      have := linesL_at (ls := ls) (qs := qs) (i := i) (by simpa using h1) (by simpa using h2)
      exact ⟨.tail _ (.tail _ (.tail _ this.1)), .tail _ (.tail _ (.tail _ this.2.1)), .tail _ (.tail _ (.tail _ this.2.2))⟩
theorem Line.notRest {ls : List Line} {qs : List (List Value × Nat)} (h : ∀ l ∈ ls, l.Ok) : ∀ p ∈ LinesL ls qs, NotRest p.2 := fun p hp => by
  obtain ⟨i, l, q, h1, h2, h3⟩ := linesL_mem hp
  obtain ⟨a1, c, d, e, f, ho⟩ := h l (List.mem_of_getElem? h1)
  rcases h3 with rfl | rfl | rfl
  · exact notRest_seq
  · exact notRest_plain
  · show NotRest l.od
    rw [ho]; exact notRest_dict
theorem news_repl {g h h' : Heap} {L : Addr} {X Y : List (Addr × Obj)} {a : Addr} {o o' : Obj} (N : News g L h X) (hm : (a, o) ∈ X) (kp : Keeps [a] h h') (e : h'.get? a = some o') (hY : ∀ y ∈ Y, y = (a, o') ∨ (y ∈ X ∧ y.1 ≠ a)) : News g L h' Y := fun q hq => by
  rcases hY q hq with rfl | ⟨h1, h2⟩
  · exact ⟨e, (N _ hm).2⟩
  · exact ⟨kp _ _ (N q h1).1 (fun z => h2 (List.mem_singleton.mp z)), (N q h1).2⟩
theorem news_rest2 {g h h' : Heap} {L : Addr} {m : Str → Option Value} {A rest rest' : List (Addr × Obj)} (F' : Fr g L h' m) (N : News g L h (A ++ rest)) (hA : ∀ p ∈ A, p.1 ∉ rest.map (·.1)) (k : Keeps (rest.map (·.1)) h h') (R' : Rest rest') (hr' : ∀ q ∈ rest', h'.get? q.1 = some q.2 ∧ g.get? q.1 = none) : News g L h' (A ++ rest') := fun q hq => by
  rcases List.mem_append.mp hq with hq | hq
  · have x := N q (List.mem_append_left _ hq)
    exact ⟨k _ _ x.1 (hA q hq), x.2⟩
  · exact ⟨(hr' q hq).1, R'.neL F' (fun q hq => (hr' q hq).1) q hq, (hr' q hq).2⟩
local macro_rules | `(tactic| walk_at "exec Assign cons ListComp") => `(tactic| walk_at "al4")
local macro_rules | `(tactic| walk_at "eval Name") => `(tactic| walk_at "al5")
local macro_rules | `(tactic| walk_at "CompSrc") => `(tactic| (refine Halt.out ?_))
set_option maxRecDepth 100000 in
set_option maxHeartbeats 8000000 in
theorem d2_lines (Xg : (hd.heap_1 w.params).In g) (Tg : Top p loose mean mg mb g) (hdp : dp < 600) (hun : un < 6000) {L fa : Addr} {cd : Value} {scope : Scope} (hsc : scopeAt (hd.heap_1 w.params) 140 = some scope) {st : Stmt} (hb : (forBody (bodyAt (hd.heap_1 w.params) 140)[21]?)[2]? = some st)
   {m : Str → Option Value} {ex : List (Addr × Obj)} {tb : Tok} {b : Nat} (C : CodeHd g 122 118) (R : Rest rest) (hex : ∀ q ∈ ex, NotRest q.2) (hb1 : 2 ≤ b) (hb2 : b ≤ 8)
   (F : Fr g L s.heap m) (N : News g L s.heap (ex ++ rest)) (mb : m (Str.ofString "base") = some (.int (b : Nat) tb))
   (ret : ∀ h' tk' rest' ls qs D, Fr g L h' (fun z => if z = (Str.ofString "lines") then some (.ref D) else m z) → News g L h' ((D, listOf (ls.map fun l => Value.ref l.x).toArray ls.length) :: (LinesL ls qs ++ (ex ++ rest'))) → Rest rest' → SubR rest rest' → ls.length = b → qs.length = b → (∀ l ∈ ls, l.Ok) → (∀ q ∈ qs, q.1 = []) → (ls.map (·.pb)).Nodup → (∀ q ∈ ex, ∀ l ∈ ls, q.1 ≠ l.pb) → (∀ q ∈ LinesL ls qs ++ (ex ++ rest'), q.1 ≠ D) → Q .next (St s h' tk')) :
   wpAny (model PR w) (Ar dp un fr gd) (exec st (envOfC (Str.ofString "law") scope L fa cd)) Q E s := by
  refine with_look2 (K := hd.heap_1 w.params) (f := 140) (by k_dflt k_is) fun eb es => ?_
  rw [es] at hsc
  rw [eb] at hb
  dsimp only [List.getElem?_cons_succ, List.getElem?_cons_zero, forBody] at hb hsc
  (try replace hb := Option.some.inj hb)
  replace hsc := Option.some.inj hsc
  subst hb
  subst hsc
  clear eb es
  have he := explicit_eq [((Str.ofString "base"), .int (b : Nat) tb)] (allC mb (List.forall_mem_nil _))
  rw [← he] at F
  k_steps
  refine ⟨?_⟩
  rename_i hrg FA NA up
  rw [he] at FA ⊢
  have hsm := small_of (n := b) (by omega)
  refine LCg.CompSrc.range rfl FA NA hrg hsm.1 hsm.2 (by rw [sizeLine_eq]; omega) ?_
  intro g'
  refine compRest_ind (fun i ys nws => ∀ C : Prop, (∀ rest' ls qs, (nws = LinesL ls qs ++ (ex ++ rest')) → (Rest rest') → (SubR rest rest') → (ls.length = i) → (qs.length = i) → (ys = ls.map (fun l => Value.ref l.x)) → ((∀ l ∈ ls, l.Ok)) → ((∀ q ∈ qs, q.1 = [])) → ((ls.map (·.pb)).Nodup) → ((∀ q ∈ ex, ∀ l ∈ ls, q.1 ≠ l.pb)) → C) → C) b ?_ ?_ _ 0 [] _ (by omega) (fun _ kC => kC rest [] [] rfl R (SubR.refl _) rfl rfl rfl (fun _ h => nomatch h) (fun _ h => nomatch h) .nil (fun _ _ _ h => nomatch h))
  · rintro i ys nws hi hI0
    refine hI0 _ ?_
    clear hI0
    rintro rest1 ls qs rfl R1 S1 hl1 hl2 hys hok hq hnd hxp v I oI C' oC D m₂ h tk E' ⟨tv, hv⟩ hCC hx F2 N2 off ne J hJ
    k_steps
    rename_i sgn hg FS NS lS
    have hrr : ∀ q ∈ rest1, q ∈ (sgn, listOf #[] 0) :: (I, oI) :: (C', oC) :: (D, LCg.lst ys) :: (LinesL ls qs ++ (ex ++ rest1)) := fun q hq => .tail _ (.tail _ (.tail _ (.tail _ (List.mem_append_right _ (List.mem_append_right _ hq)))))
    have om := off.mem
    have hA : ∀ p ∈ (sgn, listOf #[] 0) :: (I, oI) :: (C', oC) :: (D, LCg.lst ys) :: (LinesL ls qs ++ ex), p.1 ∉ rest1.map (·.1) := fun p hp hm => by
      obtain ⟨q, hq, e⟩ := List.mem_map.mp hm
      have h3 := om q (List.mem_append_right _ (List.mem_append_right _ hq))
      have hty : ∀ o : Obj, NotRest o → ((p.1, o) ∈ (sgn, listOf #[] 0) :: (I, oI) :: (C', oC) :: (D, LCg.lst ys) :: (LinesL ls qs ++ (ex ++ rest1))) → False := fun o ho hin => Rest.ne R1 NS hrr hin ho q hq e
      simp only [List.mem_cons, List.mem_append] at hp
      rcases hp with rfl | rfl | rfl | rfl | hp | hp
      · exact hty _ notRest_seq (.head _)
      · exact h3.1 e
      · exact h3.2.1 e
      · exact h3.2.2 e
      · exact hty p.2 (Line.notRest hok p hp) (by first | (walk_at "mem"; done) | (simp only [List.mem_cons, List.mem_append]; grind))
      · exact hty p.2 (hex p hp) (by first | (walk_at "mem"; done) | (simp only [List.mem_cons, List.mem_append]; grind))
    refine r_stream2 (G := g) ?hG Xg Tg ?hd ?hu C R1 ?hr ?_
    case hG => exact fun b o e => FS.keep b o e
    case hd => omega
    case hu => omega
    case hr => exact fun q hq => ⟨(NS q (hrr q hq)).1, (NS q (hrr q hq)).2.2⟩
    intro h4 tk4 fs D4 lam cell of od ol oc rest2 kp4 I4 fr4 R2 sb2 hr2 hr3
    have NS' : News g L hg (((sgn, listOf #[] 0) :: (I, oI) :: (C', oC) :: (D, LCg.lst ys) :: (LinesL ls qs ++ ex)) ++ rest1) := fun q hq => NS q (subM (by (walk_at "sub"; done)) hq)
    have F4 := fr_rest FS NS' kp4
    have N4 := news_rest2 F4 NS' hA kp4 R2 hr2
    have off2 : ∀ q ∈ rest2, q.1 ≠ I ∧ q.1 ≠ C' ∧ q.1 ≠ D := fun q hq => by
      rcases hr3 q hq with hm | hn
      · obtain ⟨q', hq', e⟩ := List.mem_map.mp hm
        rw [← e]
        exact om q' (List.mem_append_right _ (List.mem_append_right _ hq'))
      · have hf := fresh_ne NS hn
        exact ⟨(hf (I, oI) (.tail _ (.head _))).symm, (hf (C', oC) (.tail _ (.tail _ (.head _)))).symm, (hf (D, _) (.tail _ (.tail _ (.tail _ (.head _))))).symm⟩
    clear NS NS' FS
    k_steps
    refine c_new (G := g) ?hG Xg Tg ?hd ?hu ?_
    case hG => exact fun b o e => F4.keep b o e
    case hd => omega
    case hu => omega
    intro h5 tk5 x dx pb npb lxh tl tw k up nx nd np n1 n2 n3 ex' ed' ep'
    have F5 := F4.keeps up
    have N5 := N4.grown up
    have fx := fresh_ne N4 nx
    have fd := fresh_ne N4 nd
    have fp := fresh_ne N4 np
    have N6 : News g L h5 ((pb, listOf #[] npb) :: (x, instObj 112 dx) :: (dx, (lexD lxh (.int 1 tl) fs (.str (Str.ofString "\n\t\r ") tw) pb k)) :: (((sgn, listOf #[] 0) :: (I, oI) :: (C', oC) :: (D, LCg.lst ys) :: (LinesL ls qs ++ ex)) ++ rest2)) := news_cons (p := (pb, _)) (after_new F4 np ep') <| news_cons (p := (x, _)) (after_new F4 nx ex') <| news_cons (p := (dx, _)) (after_new F4 nd ed') N5
    have eL := linesL_app (ls := ls) (qs := qs) ⟨x, dx, pb, (lexD lxh (.int 1 tl) fs (.str (Str.ofString "\n\t\r ") tw) pb k)⟩ ([], npb) (by omega)
    have N7 : News g L h5 ((I, oI) :: (C', oC) :: (D, LCg.lst ys) :: (LinesL (ls ++ [⟨x, dx, pb, (lexD lxh (.int 1 tl) fs (.str (Str.ofString "\n\t\r ") tw) pb k)⟩]) (qs ++ [([], npb)]) ++ (ex ++ rest2))) := fun q hq => by
      rw [eL] at hq
      refine N6 q ?_
      simp only [List.mem_cons, List.mem_append, List.not_mem_nil, or_false] at hq ⊢
      rcases hq with h | h | h | (h | h | h | h) | h | h
      · exact .inr (.inr (.inr (.inl (.inr (.inl h)))))
      · exact .inr (.inr (.inr (.inl (.inr (.inr (.inl h))))))
      · exact .inr (.inr (.inr (.inl (.inr (.inr (.inr (.inl h)))))))
      · exact .inr (.inr (.inr (.inl (.inr (.inr (.inr (.inr (.inl h))))))))
      · exact .inl h
      · exact .inr (.inl h)
      · exact .inr (.inr (.inl h))
      · exact .inr (.inr (.inr (.inl (.inr (.inr (.inr (.inr (.inr h))))))))
      · exact .inr (.inr (.inr (.inr h)))
    have mI : (I, oI) ∈ ((sgn, listOf #[] 0) :: (I, oI) :: (C', oC) :: (D, LCg.lst ys) :: (LinesL ls qs ++ ex)) ++ rest2 := .tail _ (.head _)
    have mC : (C', oC) ∈ ((sgn, listOf #[] 0) :: (I, oI) :: (C', oC) :: (D, LCg.lst ys) :: (LinesL ls qs ++ ex)) ++ rest2 := .tail _ (.tail _ (.head _))
    have mD : (D, LCg.lst ys) ∈ ((sgn, listOf #[] 0) :: (I, oI) :: (C', oC) :: (D, LCg.lst ys) :: (LinesL ls qs ++ ex)) ++ rest2 := .tail _ (.tail _ (.tail _ (.head _)))
    refine LCg.CompEnd.intro F5 N7 _ (fun p hp => hp) (LCg.Off3.of fun p hp => ?_) trivial (hJ _ _ (fun _ kC => kC rest2 (ls ++ [⟨x, dx, pb, (lexD lxh (.int 1 tl) fs (.str (Str.ofString "\n\t\r ") tw) pb k)⟩]) (qs ++ [([], npb)]) rfl R2 (S1.trans sb2) (by simp; omega) (by simp; omega) (by rw [hys]; simp) (fun l hl => ?_) (fun q hqq => ?_) ?_ (fun q hqq l hl => ?_)))
    · rw [eL] at hp
      simp only [List.mem_cons, List.mem_append, List.not_mem_nil, or_false] at hp
      rcases hp with (h | rfl | rfl | rfl) | h | h
      · exact om p (List.mem_append_left _ h)
      · exact ⟨(fp _ mI).symm, (fp _ mC).symm, (fp _ mD).symm⟩
      · exact ⟨(fx _ mI).symm, (fx _ mC).symm, (fx _ mD).symm⟩
      · exact ⟨(fd _ mI).symm, (fd _ mC).symm, (fd _ mD).symm⟩
      · exact om p (List.mem_append_right _ (List.mem_append_left _ h))
      · exact off2 p h
    · rcases List.mem_append.mp hl with h | h
      · exact hok l h
      · rw [List.mem_singleton.mp h]; exact ⟨lxh, _, _, _, _, rfl⟩
    · rcases List.mem_append.mp hqq with h | h
      · exact hq q h
      · rw [List.mem_singleton.mp h]
    · rw [List.map_append, List.nodup_append]
      refine ⟨hnd, by simp, fun a ha c hc => ?_⟩
      rw [List.mem_singleton.mp hc]
      obtain ⟨l, hl, rfl⟩ := List.mem_map.mp ha
      obtain ⟨i', hi'⟩ := List.getElem?_of_mem hl
      obtain ⟨q', hq'⟩ : ∃ q', qs[i']? = some q' := ⟨_, List.getElem?_eq_getElem (by
        rcases Nat.lt_or_ge i' ls.length with h | h
        · omega
        · rw [List.getElem?_eq_none h] at hi'; cases hi')⟩
      exact fp (l.pb, _) (by simp only [List.mem_append, List.mem_cons]; exact .inl (.inr (.inr (.inr (.inr (.inl (linesL_at hi' hq').1))))))
    · rcases List.mem_append.mp hl with h | h
      · exact hxp q hqq l h
      · rw [List.mem_singleton.mp h]
        exact fp q (by simp only [List.mem_append, List.mem_cons]; grind)
  · rintro ys nws hI0
    refine hI0 _ ?_
    clear hI0
    rintro rest1 ls qs rfl R1 S1 hl1 hl2 rfl hok hq hnd hxp D h3 tk3 F3 N3 o3
    exact ret _ _ rest1 ls qs D F3 (by have := List.length_map (f := fun l : Line => Value.ref l.x) (as := ls); intro q hq; exact N3 q (by rw [show LCg.lst (ls.map fun l => Value.ref l.x) = listOf (ls.map fun l => Value.ref l.x).toArray ls.length by unfold LCg.lst; rw [this]]; exact hq)) R1 S1 hl1 hl2 hok hq hnd hxp (off1_ne o3)
end
end Mine
end
section
open PySem PySem.W PyProof.Rows PySem.Calls PySem.Spec
namespace Mine
section
variable {w : World} {p : Program} {loose : List Str} {mean : ExcName → Option Value} {mg mb : Str → Option Value} {g : Heap} {s : Shared} {dp un : Nat} {fr : Option (List Env)} {gd : Option (List Code)} {Q : Flow → Shared → Prop} {E : Value → Shared → Prop} {rest : List (Addr × Obj)}
theorem nodup_pb {ls : List Line} (hnd : (ls.map (·.pb)).Nodup) {i j : Nat} {a b : Line} (h1 : ls[i]? = some a) (h2 : ls[j]? = some b) (e : a.pb = b.pb) : i = j := by
  have n1 : (ls.map (·.pb))[i]? = some a.pb := by rw [List.getElem?_map, h1]; rfl
  have n2 : (ls.map (·.pb))[j]? = some a.pb := by rw [List.getElem?_map, h2, e]; rfl
  rcases Nat.lt_trichotomy i j with h | h | h
  · exact absurd (List.mem_of_getElem? (by rw [List.getElem?_take, if_pos h]; exact n1)) (nodup_take hnd n2)
  · exact h
  · exact absurd (List.mem_of_getElem? (by rw [List.getElem?_take, if_pos h]; exact n2)) (nodup_take hnd n1)
theorem linesL_set {ls : List Line} {qs : List (List Value × Nat)} {d : Nat} {l : Line} {q nq : List Value × Nat} (hl : ls[d]? = some l) (hq : qs[d]? = some q) (hnd : (ls.map (·.pb)).Nodup) (hne : ∀ l' ∈ ls, l'.x ≠ l.pb ∧ l'.dx ≠ l.pb) :
   ∀ y ∈ LinesL ls (qs.set d nq), y = (l.pb, listOf nq.1.toArray nq.2) ∨ (y ∈ LinesL ls qs ∧ y.1 ≠ l.pb) := fun y hy => by
  obtain ⟨i, l', q', h1, h2, h3⟩ := linesL_mem hy
  have hn := hne l' (List.mem_of_getElem? h1)
  by_cases e : i = d
  · subst e
    rw [hl] at h1; cases h1
    have hlt : i < qs.length := by
      rcases Nat.lt_or_ge i qs.length with h | h
      · exact h
      · rw [List.getElem?_eq_none h] at hq; cases hq
    rw [List.getElem?_set_self hlt] at h2; cases h2
    have ha := linesL_at hl hq
    rcases h3 with rfl | rfl | rfl
    · exact .inl rfl
    · exact .inr ⟨ha.2.1, hn.1⟩
    · exact .inr ⟨ha.2.2, hn.2⟩
  · rw [List.getElem?_set_ne (Ne.symm e)] at h2
    have ha := linesL_at h1 h2
    rcases h3 with rfl | rfl | rfl
    · exact .inr ⟨ha.1, fun z => e (nodup_pb hnd h1 hl z)⟩
    · exact .inr ⟨ha.2.1, hn.1⟩
    · exact .inr ⟨ha.2.2, hn.2⟩
/-- the objects of the lines are no lists, but their own -/
theorem lines_ne {g h : Heap} {L : Addr} {news : List (Addr × Obj)} {ls : List Line} {qs : List (List Value × Nat)} {a : Addr} {vs : Array Value} {n : Nat} (N : News g L h news) (hs : ∀ q ∈ LinesL ls qs, q ∈ news) (hlen : ls.length = qs.length) (hok : ∀ l ∈ ls, l.Ok) (ha : h.get? a = some (listOf vs n)) : ∀ l ∈ ls, l.x ≠ a ∧ l.dx ≠ a := fun l hl => by
  obtain ⟨i, hi⟩ := List.getElem?_of_mem hl
  have hlt : i < ls.length := by
    rcases Nat.lt_or_ge i ls.length with h | h
    · exact h
    · rw [List.getElem?_eq_none h] at hi; cases hi
  have hq : qs[i]? = some qs[i] := List.getElem?_eq_getElem (by omega)
  have hm := linesL_at hi hq
  refine ⟨fun z => ?_, fun z => ?_⟩
  · have h1 := (N _ (hs _ hm.2.1)).1
    exact apart h1 ha rfl z
  · have h1 := (N _ (hs _ hm.2.2)).1
    obtain ⟨_, _, _, _, _, ho⟩ := hok l hl
    simp only at h1; rw [ho] at h1; exact apart h1 ha rfl z
local macro_rules | `(tactic| walk_at "compareOp NotIn str ref") => `(tactic| (refine Halt.out ?_))
local macro_rules | `(tactic| walk_at "subscriptTail") => `(tactic| (refine Halt.out ?_))
local macro_rules | `(tactic| walk_at "setItem ref int") => `(tactic| (refine Halt.out ?_))
local macro_rules | `(tactic| walk_at "getItem ref int") => `(tactic| (refine Halt.out ?_))
set_option maxRecDepth 100000 in
set_option maxHeartbeats 8000000 in
theorem d4_body (Xg : (hd.heap_1 w.params).In g) (Tg : Top p loose mean mg mb g) (hdp : dp < 600) (hun : un < 6000) {L fa : Addr} {cd : Value} {scope : Scope} (hsc : scopeAt (hd.heap_1 w.params) 140 = some scope) {bd : List Stmt} (hb : bd = forBody ((forBody (bodyAt (hd.heap_1 w.params) 140)[21]?)[4]?))
   {x dx pb : Addr} {lxh : LexH} {fs : Addr} {k : Nat} {ln ws : Value} {oR oG : Obj} {m : Str → Option Value} {ex : List (Addr × Obj)} {cA rA lsA : Addr} {ls : List Line} {qs : List (List Value × Nat)} {pv cv : List Value} {npb nc nls : Nat} {cs : List Nat} {kr : List (Str × Value)} {tc tb tr : Tok} {b d cnt : Nat} {tcnt : Tok} {qd : List Value × Nat}
   (hR : oR.data = .cell (some (.ref x))) (hG : oG.IsDictOf (PySem.strKind PR w) kr) (hrm : (rA == sysModules) = false) (hok : ∀ l ∈ ls, l.Ok) (hll : ls.length = b) (hlq : qs.length = b) (hlc : cv.length = b) (hb1 : 2 ≤ b) (hb2 : b ≤ 8)
   (hnd : (ls.map (·.pb)).Nodup) (hx1 : ∀ q ∈ ex ++ rest, q.1 ≠ pb) (hx2 : ∀ q ∈ ex ++ rest, q.1 ≠ cA) (hx3 : ∀ q ∈ ex ++ rest, ∀ l ∈ ls, q.1 ≠ l.pb) (e1 : @Ne Nat pb cA) (e2 : @Ne Nat pb lsA) (e3 : @Ne Nat cA lsA) (hl3 : ∀ l ∈ ls, @Ne Nat l.pb pb ∧ @Ne Nat l.pb cA ∧ @Ne Nat l.pb lsA) (hdb : d < b) (hrv : valueAt kr (S cs) = some (.int (-(d : Int)) tr)) (hcd : cv[d]? = some (.int (cnt : Int) tcnt)) (hqd : qs[d]? = some qd) (hql : qd.1.length < 1000) (hpl : pv.length < 1000) (hcn : cnt < 1000)
   (F : Fr g L s.heap m) (N : News g L s.heap ((pb, listOf (Value.str (S cs) tc :: pv).toArray npb) :: (cA, listOf cv.toArray nc) :: (rA, oG) :: (lsA, listOf (ls.map fun l => Value.ref l.x).toArray nls) :: (x, instObj 112 dx) :: (dx, lexD lxh ln fs ws pb k) :: (L + 4, oR) :: (LinesL ls qs ++ (ex ++ rest)))) (mr : m (Str.ofString "rest") = some (.ref rA)) (mb : m (Str.ofString "base") = some (.int (b : Nat) tb)) (ml : m (Str.ofString "lines") = some (.ref lsA)) (mc : m (Str.ofString "counts") = some (.ref cA))
   (ret : ∀ h' tk' m' npb' nc' nq' t5, Fr g L h' m' → News g L h' ((pb, listOf pv.toArray npb') :: (cA, listOf (cv.set d (Value.int ((cnt + 1 : Nat) : Int) t5)).toArray nc') :: (rA, oG) :: (lsA, listOf (ls.map fun l => Value.ref l.x).toArray nls) :: (x, instObj 112 dx) :: (dx, lexD lxh ln fs ws pb k) :: (L + 4, oR) :: (LinesL ls (qs.set d (qd.1 ++ [Value.str (S cs) tc], nq')) ++ (ex ++ rest))) → Same [(Str.ofString "word")] m m' → Q .next (St s h' tk')) :
   wpAny (model PR w) (Ar dp un fr gd) (execs bd (envOfC (Str.ofString "law") scope L fa cd)) Q E s := by
  refine with_look2 (K := hd.heap_1 w.params) (f := 140) (by k_dflt k_is) fun eb es => ?_
  rw [es] at hsc
  rw [eb] at hb
  dsimp only [List.getElem?_cons_succ, List.getElem?_cons_zero, forBody] at hb hsc
  (try replace hb := Option.some.inj hb)
  replace hsc := Option.some.inj hsc
  subst hb
  subst hsc
  clear eb es
  have he := explicit_eq [((Str.ofString "rest"), .ref rA), ((Str.ofString "base"), .int (b : Nat) tb), ((Str.ofString "lines"), .ref lsA), ((Str.ofString "counts"), .ref cA)] (allC mr (allC mb (allC ml (allC mc (List.forall_mem_nil _)))))
  rw [← he] at F
  k_steps
  obtain ⟨eG, pG, xG, dG, _⟩ := id hG
  have hx := N.get (a := x) (by k_mem); have hdx := N.get (a := dx) (by k_mem); have hpb := N.get (a := pb) (by k_mem)
  have hrA := N.get (a := rA) (by k_mem); have hcA := N.get (a := cA) (by k_mem); have h4' := N.get (a := L + 4) (by k_mem); have hlA := N.get (a := lsA) (by k_mem)
  have a1 : @Ne Nat x pb := apart hx hpb rfl
  have a2 : @Ne Nat dx pb := apart hdx hpb rfl
  have a3 : @Ne Nat rA pb := fun q => by rw [q, hpb] at hrA; cases hrA; cases dG
  have a4 : @Ne Nat (L + 4) pb := fun q => by rw [q, hpb] at h4'; cases h4'; cases hR
  have b1 : @Ne Nat x cA := apart hx hcA rfl
  have b2 : @Ne Nat dx cA := apart hdx hcA rfl
  have b3 : @Ne Nat rA cA := fun q => by rw [q, hcA] at hrA; cases hrA; cases dG
  have b4 : @Ne Nat (L + 4) cA := fun q => by rw [q, hcA] at h4'; cases h4'; cases hR
  have hLne : ∀ a, (∀ l ∈ ls, @Ne Nat l.pb a) → (∃ vs n, s.heap.get? a = some (listOf vs n)) → ∀ q ∈ LinesL ls qs, q.1 ≠ a := fun a h1 ⟨vs, n, h2⟩ q hq z => by
    have hN := (N q (by first | (walk_at "mem"; done) | (simp only [List.mem_cons, List.mem_append]; grind))).1
    obtain ⟨i, l, q', hi1, hi2, h3⟩ := linesL_mem hq
    have hlm := List.mem_of_getElem? hi1
    rcases h3 with rfl | rfl | rfl
    · exact h1 l hlm z
    · exact apart hN h2 rfl z
    · obtain ⟨_, _, _, _, _, ho⟩ := hok l hlm
      simp only at z hN; rw [ho] at hN; exact apart hN h2 rfl z
  have hT1 : ∀ q ∈ LinesL ls qs ++ (ex ++ rest), q.1 ≠ pb := fun q hq => (List.mem_append.mp hq).elim (hLne pb (fun l hl => (hl3 l hl).1) ⟨_, _, hpb⟩ q) (hx1 q)
  have hT2 : ∀ q ∈ LinesL ls qs ++ (ex ++ rest), q.1 ≠ cA := fun q hq => (List.mem_append.mp hq).elim (hLne cA (fun l hl => (hl3 l hl).2.1) ⟨_, _, hcA⟩ q) (hx2 q)
  refine c_getP (G := g) ?hG Xg Tg ?hd ?hu hx hdx hpb ?g1 ?g2 ?g3 (by omega) ?_
  case hG => exact fun b o e => F.keep b o e
  case hd => omega
  case hu => omega
  case g1 => exact N.fresh (a := x) (by k_mem)
  case g2 => exact N.fresh (a := dx) (by k_mem)
  case g3 => exact N.fresh (a := pb) (by k_mem)
  intro hp2 tk2 n2 kp e2'
  have F2 := fr_upd1 F N kp
  have N2 := news_upd1 N kp e2' (allC e1.symm (allC a3 (allC e2.symm (allC a1 (allC a2 (allC a4 hT1))))))
  clear F N hx hdx hpb hrA hcA h4' hlA hLne
  k_steps
  (with_reducible rename Fr _ _ _ _ => F3); (with_reducible rename News _ _ _ _ => N3)
  have mrA : (rA, oG) ∈ ((pb, listOf pv.toArray n2) :: (cA, listOf cv.toArray nc) :: (rA, oG) :: (lsA, listOf (ls.map fun l => Value.ref l.x).toArray nls) :: (x, instObj 112 dx) :: (dx, lexD lxh ln fs ws pb k) :: (L + 4, oR) :: (LinesL ls qs ++ (ex ++ rest))) := .tail _ (.tail _ (.head _))
  refine ⟨?_⟩
  refine kdg_notin N3 mrA hG hrm (strKind_is PR w (S cs) tc) true (by rw [hrv]; rfl) ?_
  k_steps
  refine ⟨?_⟩
  refine kda_item N3 mrA hG (strKind_is PR w (S cs) tc) hrv ?_
  k_steps
  refine ⟨?_⟩
  refine kda_item N3 mrA hG (strKind_is PR w (S cs) tc) hrv ?_
  k_steps
  refine ⟨?_⟩
  refine kda_item N3 mrA hG (strKind_is PR w (S cs) tc) hrv ?_
  k_steps
  refine ⟨?_⟩
  rw [Int.neg_neg]
  obtain ⟨l, hl⟩ : ∃ l, ls[d]? = some l := ⟨_, List.getElem?_eq_getElem (by omega)⟩
  have hlm := List.mem_of_getElem? hl
  have hla := linesL_at hl hqd
  have hla1 := hla.1
  have hla2 := hla.2.1
  have hla3 := hla.2.2
  obtain ⟨lxg, ln', fs', ws', k', hlo⟩ := hok l hlm
  refine n_item N3 (l := lsA) (vs := (ls.map fun l => Value.ref l.x)) (k0 := nls) (k := d) (x := .ref l.x) (by k_mem) (by rw [List.getElem?_map, hl]; rfl) (by omega) ?_
  have N4 : News g L _ ((l.x, instObj 112 l.dx) :: (l.dx, lexD lxg ln' fs' ws' l.pb k') :: (l.pb, listOf qd.1.toArray qd.2) :: ((pb, listOf pv.toArray n2) :: (cA, listOf cv.toArray nc) :: (rA, oG) :: (lsA, listOf (ls.map fun l => Value.ref l.x).toArray nls) :: (x, instObj 112 dx) :: (dx, lexD lxh ln fs ws pb k) :: (L + 4, oR) :: (LinesL ls qs ++ (ex ++ rest)))) := fun q hq => by
    rcases List.mem_cons.mp hq with rfl | hq
    · exact N3 _ (by first | (walk_at "mem"; done) | (simp only [List.mem_cons, List.mem_append]; grind))
    rcases List.mem_cons.mp hq with rfl | hq
    · exact hlo ▸ N3 _ (by first | (walk_at "mem"; done) | (simp only [List.mem_cons, List.mem_append]; grind) : (l.dx, l.od) ∈ _)
    rcases List.mem_cons.mp hq with rfl | hq
    · exact N3 _ (by first | (walk_at "mem"; done) | (simp only [List.mem_cons, List.mem_append]; grind))
    · exact N3 q hq
  k_steps
  have hpl := N4.get (a := l.pb) (.tail _ (.tail _ (.head _)))
  have hml : (l.pb, listOf qd.1.toArray qd.2) ∈ ((pb, listOf pv.toArray n2) :: (cA, listOf cv.toArray nc) :: (rA, oG) :: (lsA, listOf (ls.map fun l => Value.ref l.x).toArray nls) :: (x, instObj 112 dx) :: (dx, lexD lxh ln fs ws pb k) :: (L + 4, oR) :: (LinesL ls qs ++ (ex ++ rest))) := by first | (walk_at "mem"; done) | (simp only [List.mem_cons, List.mem_append]; grind)
  have hlns := lines_ne N3 (fun q hq => subM (by (walk_at "sub"; done)) hq : ∀ q ∈ LinesL ls qs, q ∈ _) (by omega) hok hpl
  have hr5 := N3.get (a := rA) (by k_mem); have hx5 := N3.get (a := x) (by k_mem); have hd5 := N3.get (a := dx) (by k_mem); have h45 := N3.get (a := L + 4) (by k_mem)
  have hp5 := hpl
  have w1 : rA ≠ l.pb := fun z => by rw [z, hpl] at hr5; cases hr5; cases dG
  have w2 : x ≠ l.pb := apart hx5 hpl rfl
  have w3 : dx ≠ l.pb := apart hd5 hpl rfl
  have w4 : L + 4 ≠ l.pb := fun z => by rw [z, hpl] at h45; cases h45; cases hR
  have hlx4 := N4.get (a := l.x) (.head _)
  have hld4 := N4.get (a := l.dx) (.tail _ (.head _))
  refine c_push (G := g) ?hG Xg Tg ?hd ?hu hlx4 hld4 hpl ?p3 ?p4 ?p5 (by omega) ?_
  case hG => exact fun b o e => F3.keep b o e
  case hd => omega
  case hu => omega
  case p3 => exact N4.fresh (a := l.x) (.head _)
  case p4 => exact N4.fresh (a := l.dx) (.tail _ (.head _))
  case p5 => exact N4.fresh (a := l.pb) (.tail _ (.tail _ (.head _)))
  intro hp6 tk6 n6 kp6 e6
  have F6 := fr_updU F3 N3 hml kp6
  have hset := linesL_set (nq := (qd.1 ++ [Value.str (S cs) tc], n6)) hl hqd hnd hlns
  have N6 : News g L hp6 ((pb, listOf pv.toArray n2) :: (cA, listOf cv.toArray nc) :: (rA, oG) :: (lsA, listOf (ls.map fun l => Value.ref l.x).toArray nls) :: (x, instObj 112 dx) :: (dx, lexD lxh ln fs ws pb k) :: (L + 4, oR) :: (LinesL ls (qs.set d (qd.1 ++ [Value.str (S cs) tc], n6)) ++ (ex ++ rest))) := news_repl N3 hml kp6 e6 (fun y hy => by
    simp only [List.mem_cons, List.mem_append] at hy
    rcases hy with rfl | rfl | rfl | rfl | rfl | rfl | rfl | hy | hy | hy
    · exact .inr ⟨by first | (walk_at "mem"; done) | simp, (hl3 l hlm).1.symm⟩
    · exact .inr ⟨by first | (walk_at "mem"; done) | simp, (hl3 l hlm).2.1.symm⟩
    · exact .inr ⟨by first | (walk_at "mem"; done) | simp, w1⟩
    · exact .inr ⟨by first | (walk_at "mem"; done) | simp, (hl3 l hlm).2.2.symm⟩
    · exact .inr ⟨by first | (walk_at "mem"; done) | simp, w2⟩
    · exact .inr ⟨by first | (walk_at "mem"; done) | simp, w3⟩
    · exact .inr ⟨by first | (walk_at "mem"; done) | simp, w4⟩
    · rcases hset y hy with h | ⟨h1, h2⟩
      · exact .inl h
      · exact .inr ⟨by first | (walk_at "mem"; done) | (simp only [List.mem_cons, List.mem_append]; grind), h2⟩
    · exact .inr ⟨by first | (walk_at "mem"; done) | (simp only [List.mem_cons, List.mem_append]; grind), hx3 y (List.mem_append_left _ hy) l hlm⟩
    · exact .inr ⟨by first | (walk_at "mem"; done) | (simp only [List.mem_cons, List.mem_append]; grind), hx3 y (List.mem_append_right _ hy) l hlm⟩)
  have hT2' : ∀ q ∈ LinesL ls (qs.set d (qd.1 ++ [Value.str (S cs) tc], n6)) ++ (ex ++ rest), q.1 ≠ cA := fun q hq => by
    rcases List.mem_append.mp hq with hq | hq
    · rcases hset q hq with rfl | ⟨h1, h2⟩
      · exact (hl3 l hlm).2.1
      · exact hT2 q (List.mem_append_left _ h1)
    · exact hx2 q hq
  have mrA6 : (rA, oG) ∈ ((pb, listOf pv.toArray n2) :: (cA, listOf cv.toArray nc) :: (rA, oG) :: (lsA, listOf (ls.map fun l => Value.ref l.x).toArray nls) :: (x, instObj 112 dx) :: (dx, lexD lxh ln fs ws pb k) :: (L + 4, oR) :: (LinesL ls (qs.set d (qd.1 ++ [Value.str (S cs) tc], n6)) ++ (ex ++ rest))) := .tail _ (.tail _ (.head _))
  clear F3 N3 N4
  (try dsimp only)
  k_steps
  refine ⟨?_⟩
  refine kda_item N6 mrA6 hG (strKind_is PR w (S cs) tc) hrv ?_
  k_steps
  rw [Int.neg_neg]
  (with_reducible rename Fr _ _ _ _ => F7); (with_reducible rename News _ _ _ _ => N7)
  have hcl := N7.isList (.tail _ (.head _))
  refine ⟨?_⟩
  refine wpAny_getItem_list hcl (by omega) (by omega) (by simpa using hcd) ?_
  k_steps
  rw [show ((cnt : Int) + 1) = ((cnt + 1 : Nat) : Int) by omega]
  refine ⟨?_⟩
  refine n_set F7 N7 (by omega) (by omega) (.tail e1 (.head (allC b3 (allC e3.symm (allC b1 (allC b2 (allC b4 hT2'))))))) ?_
  intro h8 F8 N8
  (try dsimp only)
  k_steps
  exact ret _ _ _ _ _ _ _ F8 N8 (fun y hy => by simp only [List.mem_cons, List.not_mem_nil, or_false, not_or] at hy; simp only [hy, if_false]; exact congrFun he y)
end
end Mine
end
section
open PySem PySem.W PyProof.Rows PySem.Calls PySem.Spec
namespace Mine
section
variable {w : World} {p : Program} {loose : List Str} {mean : ExcName → Option Value} {mg mb : Str → Option Value} {g : Heap} {s : Shared} {dp un : Nat} {fr : Option (List Env)} {gd : Option (List Code)} {Q : Flow → Shared → Prop} {E : Value → Shared → Prop} {rest : List (Addr × Obj)}
theorem linesL_addr : ∀ {ls : List Line} {qs qs' : List (List Value × Nat)}, qs'.length = qs.length → ∀ q ∈ LinesL ls qs', ∃ q' ∈ LinesL ls qs, q'.1 = q.1
  | [], _, _, _, q, h => by simp [LinesL] at h
  | _ :: _, _, [], _, q, h => by simp [LinesL] at h
  | _ :: _, [], _ :: _, e, q, h => by simp at e
  | a :: ls, b :: qs, c :: qs', e, q, h => by
    simp only [LinesL, List.mem_cons] at h ⊢
    rcases h with rfl | rfl | rfl | h
    · exact ⟨_, .inl rfl, rfl⟩
    · exact ⟨_, .inr (.inl rfl), rfl⟩
    · exact ⟨_, .inr (.inr (.inl rfl)), rfl⟩
    · obtain ⟨q', h1, h2⟩ := linesL_addr (by simpa using e) q h
      exact ⟨q', .inr (.inr (.inr h1)), h2⟩
/-- the queues of the lines: each word of W waits in the line of its digit -/
def Queues (qs : List (List Value × Nat)) (b : Nat) (W : List (List Nat)) (dg : List Nat → Nat) : Prop := qs.length = b ∧ ∀ j, j < b → ∃ qv n, qs[j]? = some (qv, n) ∧ StrsAre qv ((W.filter fun cs => dg cs == j).map S)
def Counts (cv : List Value) (b : Nat) (W : List (List Nat)) (dg : List Nat → Nat) : Prop := cv.length = b ∧ ∀ j, j < b → ∃ t, cv[j]? = some (.int (((W.filter fun cs => dg cs == j).length : Nat) : Int) t)
theorem filter_snoc (W : List (List Nat)) (dg : List Nat → Nat) (cs : List Nat) (j : Nat) : (W ++ [cs]).filter (fun c => dg c == j) = W.filter (fun c => dg c == j) ++ if dg cs = j then [cs] else [] := by
  rw [List.filter_append]
  by_cases h : dg cs = j
  · simp [h]
  · simp [h]
theorem strs_drop_cons {vs : List Value} {ys : List Str} {y : Str} {r : List Str} (h : StrsAre vs ys) (e : ys = y :: r) : ∃ t vs', vs = Value.str y t :: vs' ∧ StrsAre vs' r := by
  subst e
  cases h with
  | cons y t h => exact ⟨t, _, rfl, h⟩
set_option maxRecDepth 100000 in
set_option maxHeartbeats 8000000 in
theorem d4_loop (Xg : (hd.heap_1 w.params).In g) (Tg : Top p loose mean mg mb g) (hdp : dp < 600) (hun : un < 6000) {L fa : Addr} {cd : Value} {scope : Scope} (hsc : scopeAt (hd.heap_1 w.params) 140 = some scope) {bd : List Stmt} (hb : bd = forBody ((forBody (bodyAt (hd.heap_1 w.params) 140)[21]?)[4]?))
   {x dx pb : Addr} {lxh : LexH} {fs : Addr} {k : Nat} {ln ws : Value} {oR oG : Obj} {m : Str → Option Value} {ex : List (Addr × Obj)} {cA rA lsA ra : Addr} {ls : List Line} {qs : List (List Value × Nat)} {pv cv : List Value} {npb nc nls : Nat} {kr : List (Str × Value)} {tb r1 r2 r3 : Tok} {b : Nat} {W : List (List Nat)} {dg : List Nat → Nat} {px : Pos}
   (hR : oR.data = .cell (some (.ref x))) (hG : oG.IsDictOf (PySem.strKind PR w) kr) (hrm : (rA == sysModules) = false) (hok : ∀ l ∈ ls, l.Ok) (hll : ls.length = b) (hlq : qs.length = b) (hb1 : 2 ≤ b) (hb2 : b ≤ 8)
   (hnd : (ls.map (·.pb)).Nodup) (hx1 : ∀ q ∈ ex ++ rest, q.1 ≠ pb) (hx2 : ∀ q ∈ ex ++ rest, q.1 ≠ cA) (hx3 : ∀ q ∈ ex ++ rest, ∀ l ∈ ls, q.1 ≠ l.pb) (e1 : @Ne Nat pb cA) (e2 : @Ne Nat pb lsA) (e3 : @Ne Nat cA lsA) (hl3 : ∀ l ∈ ls, @Ne Nat l.pb pb ∧ @Ne Nat l.pb cA ∧ @Ne Nat l.pb lsA) (hW : W.length < 100) (hpv : StrsAre pv (W.map S)) (hdg : ∀ cs ∈ W, dg cs < b ∧ ∃ t, valueAt kr (S cs) = some (.int (-(dg cs : Int)) t)) (hq0 : Queues qs b [] dg) (hc0 : Counts cv b [] dg)
   (hrg : IsRange s.heap ra 0 (W.length : Nat) 1 r1 r2 r3)
   (F : Fr g L s.heap m) (N : News g L s.heap ((pb, listOf pv.toArray npb) :: (cA, listOf cv.toArray nc) :: (rA, oG) :: (lsA, listOf (ls.map fun l => Value.ref l.x).toArray nls) :: (x, instObj 112 dx) :: (dx, lexD lxh ln fs ws pb k) :: (L + 4, oR) :: (LinesL ls qs ++ (ex ++ rest)))) (mr : m (Str.ofString "rest") = some (.ref rA)) (mb : m (Str.ofString "base") = some (.int (b : Nat) tb)) (ml : m (Str.ofString "lines") = some (.ref lsA)) (mc : m (Str.ofString "counts") = some (.ref cA))
   (ret : ∀ h' tk' m' npb' nc' cv' qs', Fr g L h' m' → News g L h' ((pb, listOf ([] : List Value).toArray npb') :: (cA, listOf cv'.toArray nc') :: (rA, oG) :: (lsA, listOf (ls.map fun l => Value.ref l.x).toArray nls) :: (x, instObj 112 dx) :: (dx, lexD lxh ln fs ws pb k) :: (L + 4, oR) :: (LinesL ls qs' ++ (ex ++ rest))) → Same [(Str.ofString "word"), (Str.ofString "place")] m m' → Queues qs' b W dg → Counts cv' b W dg → Q .next (St s h' tk')) :
   wpAny (model PR w) (Ar dp un fr gd) (pyIter (.ref ra)) (fun it s₂ => LoopOk PR w (Ar dp un fr gd) (envOfC (Str.ofString "law") scope L fa cd) (.Name (Str.ofString "place") px) bd Q it s₂) E s := by
  have hb0 := hb
  have hsc0 := hsc
  refine with_look2 (K := hd.heap_1 w.params) (f := 140) (by k_dflt k_is) fun eb es => ?_
  rw [es] at hsc
  rw [eb] at hb
  dsimp only [List.getElem?_cons_succ, List.getElem?_cons_zero, forBody] at hb hsc
  (try replace hb := Option.some.inj hb)
  replace hsc := Option.some.inj hsc
  subst hb
  subst hsc
  clear eb es
  refine iter_range W.length rfl (by omega) hrg F N ?_
  intro it o h1' hO F1 N1 hit
  refine loopInv rfl (Itr.range PR w it W.length) (fun i m' news' => ∀ C : Prop, (∀ pv' npb' cv' nc' qs', (news' = ((pb, listOf pv'.toArray npb') :: (cA, listOf cv'.toArray nc') :: (rA, oG) :: (lsA, listOf (ls.map fun l => Value.ref l.x).toArray nls) :: (x, instObj 112 dx) :: (dx, lexD lxh ln fs ws pb k) :: (L + 4, oR) :: (LinesL ls qs' ++ (ex ++ rest)))) → (StrsAre pv' ((W.drop i).map S)) → (Queues qs' b (W.take i) dg) → (Counts cv' b (W.take i) dg) → (Same [(Str.ofString "word"), (Str.ofString "place")] m m') → C) → C) (fun _ _ _ _ _ _ _ => trivial) F1 N1 hO (fun q hq => Nat.ne_of_lt (hit q hq)) (fun _ k => k pv npb cv nc qs rfl hpv hq0 hc0 (Same.refl _ _)) ?_ ?_
  · rintro i v m1 news1 h tk o1 hi ⟨tp, rfl⟩ hI0
    refine hI0 _ ?_
    clear hI0
    rintro pv1 npb1 cv1 nc1 qs1 rfl hpv1 ⟨hq1, hq2⟩ ⟨hc1, hc2⟩ hs F2 N2 hne J hJ
    obtain ⟨cs, hcsi⟩ : ∃ cs, W[i]? = some cs := ⟨_, List.getElem?_eq_getElem hi⟩
    have hdi : W.drop i = cs :: W.drop (i + 1) := by
      rw [List.drop_eq_getElem_cons hi]
      congr 1
      exact Option.some.inj ((List.getElem?_eq_getElem _).symm.trans hcsi)
    have hcm := List.mem_of_getElem? hcsi
    obtain ⟨hdb, tr, hrv⟩ := hdg cs hcm
    rw [hdi, List.map_cons] at hpv1
    obtain ⟨tc, pv2, rfl, hpv2⟩ := strs_drop_cons hpv1 rfl
    obtain ⟨qv, nq, hqd, hqv⟩ := hq2 _ hdb
    obtain ⟨tn, hcd⟩ := hc2 _ hdb
    have hpl := hpv2.len_eq
    have hql := hqv.len_eq
    have hfl : ((W.take i).filter fun c => dg c == dg cs).length ≤ i := Nat.le_trans (List.length_filter_le _ _) (by simp; omega)
    simp only [List.length_map, List.length_drop] at hpl hql
    walk1
    walk1
    (with_reducible rename Fr _ _ _ _ => F3); (with_reducible rename News _ _ _ _ => N3)
    have n1 : it ≠ pb := (hne (pb, _) (.head _)).symm
    have n2 : it ≠ cA := (hne (cA, _) (.tail _ (.head _))).symm
    have n3 : ∀ l ∈ ls, it ≠ l.pb := fun l hl => by
      obtain ⟨j, hj⟩ := List.getElem?_of_mem hl
      have hjl : j < ls.length := by
        rcases Nat.lt_or_ge j ls.length with h | h
        · exact h
        · rw [List.getElem?_eq_none h] at hj; cases hj
      have ha := linesL_at hj (List.getElem?_eq_getElem (by omega : j < qs1.length))
      exact (hne _ (by simp only [List.mem_cons, List.mem_append]; exact .inr (.inr (.inr (.inr (.inr (.inr (.inr (.inl ha.1)))))))) : l.pb ≠ it).symm
    have hN3 : News g L _ ((pb, listOf (Value.str (S cs) tc :: pv2).toArray npb1) :: (cA, listOf cv1.toArray nc1) :: (rA, oG) :: (lsA, listOf (ls.map fun l => Value.ref l.x).toArray nls) :: (x, instObj 112 dx) :: (dx, lexD lxh ln fs ws pb k) :: (L + 4, oR) :: (LinesL ls qs1 ++ (((it, o1) :: ex) ++ rest))) := fun q hq => N3 q (subM (by (walk_at "sub"; done)) hq)
    refine d4_body (ex := (it, o1) :: ex) (cs := cs) (kr := kr) (qs := qs1) (pv := pv2) (cv := cv1) (qd := (qv, nq)) (b := b) (d := dg cs) Xg Tg hdp hun hsc0 hb0 hR hG hrm hok hll hq1 hc1 hb1 hb2 hnd ?x1 ?x2 ?x3 e1 e2 e3 hl3 hdb hrv hcd hqd (by show qv.length < 1000; omega) (by omega) (by omega) F3 hN3 ((hs _ (by decide)).trans mr) ((hs _ (by decide)).trans mb) ((hs _ (by decide)).trans ml) ((hs _ (by decide)).trans mc) ?_
    case x1 => exact fun q hq => (List.mem_append.mp hq).elim (fun h => (List.mem_cons.mp h).elim (fun e => by rw [e]; exact n1) (fun h => hx1 q (List.mem_append_left _ h))) (fun h => hx1 q (List.mem_append_right _ h))
    case x2 => exact fun q hq => (List.mem_append.mp hq).elim (fun h => (List.mem_cons.mp h).elim (fun e => by rw [e]; exact n2) (fun h => hx2 q (List.mem_append_left _ h))) (fun h => hx2 q (List.mem_append_right _ h))
    case x3 => exact fun q hq l hl => (List.mem_append.mp hq).elim (fun h => (List.mem_cons.mp h).elim (fun e => by rw [e]; exact n3 l hl) (fun h => hx3 q (List.mem_append_left _ h) l hl)) (fun h => hx3 q (List.mem_append_right _ h) l hl)
    intro h4' tk4 m4 npb4 nc4 nq4 t5 F4 N4 hs4
    have ex1 : W.take (i + 1) = W.take i ++ [cs] := take_snoc hcsi
    refine TurnEnd.mk <| hJ m4 ((pb, listOf pv2.toArray npb4) :: (cA, listOf (cv1.set (dg cs) (Value.int (((((W.take i).filter fun c => dg c == dg cs).length + 1 : Nat)) : Int) t5)).toArray nc4) :: (rA, oG) :: (lsA, listOf (ls.map fun l => Value.ref l.x).toArray nls) :: (x, instObj 112 dx) :: (dx, lexD lxh ln fs ws pb k) :: (L + 4, oR) :: (LinesL ls (qs1.set (dg cs) (qv ++ [Value.str (S cs) tc], nq4)) ++ (ex ++ rest))) h4' tk4 F4 (fun q hq => N4 q (subM (by (walk_at "sub"; done)) hq)) ?_ (fun _ k => k pv2 npb4 _ nc4 _ rfl hpv2 ⟨by rw [List.length_set]; exact hq1, fun j hj => ?_⟩ ⟨by rw [List.length_set]; exact hc1, fun j hj => ?_⟩ ((hs.trans fun y hy => ?_).trans (hs4.mono (by decide))))
    · have hset := linesL_addr (ls := ls) (qs := qs1) (qs' := qs1.set (dg cs) (qv ++ [Value.str (S cs) tc], nq4)) (by rw [List.length_set])
      intro q hq
      simp only [List.mem_cons, List.mem_append] at hq
      rcases hq with rfl | rfl | rfl | rfl | rfl | rfl | rfl | hq | hq | hq
      · exact n1.symm
      · exact n2.symm
      · exact hne (rA, oG) (.tail _ (.tail _ (.head _)))
      · exact hne (lsA, listOf (ls.map fun l => Value.ref l.x).toArray nls) (.tail _ (.tail _ (.tail _ (.head _))))
      · exact hne (x, instObj 112 dx) (.tail _ (.tail _ (.tail _ (.tail _ (.head _)))))
      · exact hne (dx, lexD lxh ln fs ws pb k) (.tail _ (.tail _ (.tail _ (.tail _ (.tail _ (.head _))))))
      · exact hne (L + 4, oR) (.tail _ (.tail _ (.tail _ (.tail _ (.tail _ (.tail _ (.head _)))))))
      · obtain ⟨q', h1, h2⟩ := hset q hq
        rw [← h2]
        exact hne q' (by simp only [List.mem_cons, List.mem_append]; exact .inr (.inr (.inr (.inr (.inr (.inr (.inr (.inl h1))))))))
      · exact hne q (by simp only [List.mem_cons, List.mem_append]; exact .inr (.inr (.inr (.inr (.inr (.inr (.inr (.inr (.inl hq)))))))))
      · exact hne q (by simp only [List.mem_cons, List.mem_append]; exact .inr (.inr (.inr (.inr (.inr (.inr (.inr (.inr (.inr hq)))))))))
    · rw [ex1, filter_snoc]
      by_cases e : dg cs = j
      · subst e
        rw [if_pos rfl, List.map_append, List.getElem?_set_self (by omega)]
        exact ⟨_, _, rfl, strs_snoc hqv _ _⟩
      · rw [if_neg e, List.append_nil, List.getElem?_set_ne e]
        exact hq2 j hj
    · rw [ex1, filter_snoc]
      by_cases e : dg cs = j
      · subst e
        rw [if_pos rfl, List.length_append, List.getElem?_set_self (by omega)]
        exact ⟨t5, rfl⟩
      · rw [if_neg e, List.append_nil, List.getElem?_set_ne e]
        exact hc2 j hj
    · exact if_neg fun z => hy (by rw [z]; decide)
  · rintro m1 news1 h tk hI0
    refine hI0 _ ?_
    clear hI0
    rintro pv1 npb1 cv1 nc1 qs1 rfl hpv1 hq1 hc1 hs F2 N2
    rw [List.drop_length] at hpv1
    rw [List.take_length] at hq1 hc1
    cases hpv1
    exact ret _ _ _ npb1 nc1 cv1 qs1 F2 N2 hs hq1 hc1
end
end Mine
end
section
open PySem PySem.W PyProof.Rows PySem.Calls PySem.Spec
namespace Mine
section
variable {w : World} {p : Program} {loose : List Str} {mean : ExcName → Option Value} {mg mb : Str → Option Value} {g : Heap} {s : Shared} {dp un : Nat} {fr : Option (List Env)} {gd : Option (List Code)} {Q : Flow → Shared → Prop} {E : Value → Shared → Prop} {rest : List (Addr × Obj)}
local macro_rules | `(tactic| k_all) => `(tactic| walk_at "al3")
local macro_rules | `(tactic| walk_at "subscriptTail") => `(tactic| (refine Halt.out ?_))
local macro_rules | `(tactic| walk_at "call builtin:list.append") => `(tactic| walk_at "al0")
set_option maxRecDepth 100000 in
set_option maxHeartbeats 8000000 in
theorem d10_body (Xg : (hd.heap_1 w.params).In g) (Tg : Top p loose mean mg mb g) (hdp : dp < 600) (hun : un < 6000) {L fa : Addr} {cd : Value} {scope : Scope} (hsc : scopeAt (hd.heap_1 w.params) 140 = some scope) {bd : List Stmt} (hb : bd = forBody ((forBody ((forBody (bodyAt (hd.heap_1 w.params) 140)[21]?)[10]?))[0]?))
   {x dx pb : Addr} {lxh : LexH} {fs : Addr} {k : Nat} {ln ws : Value} {oR : Obj} {m : Str → Option Value} {ex : List (Addr × Obj)} {rowA lsA : Addr} {ls : List Line} {qs : List (List Value × Nat)} {pv rv qv : List Value} {npb nr nls nq : Nat} {v : Value} {j b : Nat} {tj : Tok}
   (hR : oR.data = .cell (some (.ref x))) (hok : ∀ l ∈ ls, l.Ok) (hll : ls.length = b) (hlq : qs.length = b) (hb2 : b ≤ 8)
   (hnd : (ls.map (·.pb)).Nodup) (hx1 : ∀ q ∈ ex ++ rest, q.1 ≠ pb) (hx2 : ∀ q ∈ ex ++ rest, q.1 ≠ rowA) (hx3 : ∀ q ∈ ex ++ rest, ∀ l ∈ ls, q.1 ≠ l.pb) (e1 : @Ne Nat pb rowA) (e2 : @Ne Nat pb lsA) (e3 : @Ne Nat rowA lsA) (hl3 : ∀ l ∈ ls, @Ne Nat l.pb pb ∧ @Ne Nat l.pb rowA ∧ @Ne Nat l.pb lsA) (hj : j < b) (hqd : qs[j]? = some (v :: qv, nq)) (hql : qv.length < 1000) (hpl : pv.length < 1000) (hrl : rv.length < 1000) (hv : handedIn v = true)
   (F : Fr g L s.heap m) (N : News g L s.heap ((pb, listOf pv.toArray npb) :: (rowA, listOf rv.toArray nr) :: (lsA, listOf (ls.map fun l => Value.ref l.x).toArray nls) :: (x, instObj 112 dx) :: (dx, lexD lxh ln fs ws pb k) :: (L + 4, oR) :: (LinesL ls qs ++ (ex ++ rest)))) (ml : m (Str.ofString "lines") = some (.ref lsA)) (mr : m (Str.ofString "row") = some (.ref rowA)) (mj : m (Str.ofString "line") = some (.int (j : Int) tj))
   (ret : ∀ h' tk' m' npb' nr' nq', Fr g L h' m' → News g L h' ((pb, listOf (pv ++ [v]).toArray npb') :: (rowA, listOf (rv ++ [v]).toArray nr') :: (lsA, listOf (ls.map fun l => Value.ref l.x).toArray nls) :: (x, instObj 112 dx) :: (dx, lexD lxh ln fs ws pb k) :: (L + 4, oR) :: (LinesL ls (qs.set j (qv, nq')) ++ (ex ++ rest))) → Same [(Str.ofString "word")] m m' → Q .next (St s h' tk')) :
   wpAny (model PR w) (Ar dp un fr gd) (execs bd (envOfC (Str.ofString "law") scope L fa cd)) Q E s := by
  refine with_look2 (K := hd.heap_1 w.params) (f := 140) (by k_dflt k_is) fun eb es => ?_
  rw [es] at hsc
  rw [eb] at hb
  dsimp only [List.getElem?_cons_succ, List.getElem?_cons_zero, forBody] at hb hsc
  (try replace hb := Option.some.inj hb)
  replace hsc := Option.some.inj hsc
  subst hb
  subst hsc
  clear eb es
  have he := explicit_eq [((Str.ofString "lines"), .ref lsA), ((Str.ofString "row"), .ref rowA), ((Str.ofString "line"), .int (j : Int) tj)] (allC ml (allC mr (allC mj (List.forall_mem_nil _))))
  rw [← he] at F
  k_steps
  refine ⟨?_⟩
  obtain ⟨l, hl⟩ : ∃ l, ls[j]? = some l := ⟨_, List.getElem?_eq_getElem (by omega)⟩
  have hlm := List.mem_of_getElem? hl
  have hla := linesL_at hl hqd
  have hla1 := hla.1
  have hla2 := hla.2.1
  have hla3 := hla.2.2
  obtain ⟨lxg, ln', fs', ws', k', hlo⟩ := hok l hlm
  refine n_item N (l := lsA) (vs := (ls.map fun l => Value.ref l.x)) (k0 := nls) (k := j) (x := .ref l.x) (by k_mem) (by rw [List.getElem?_map, hl]; rfl) (by omega) ?_
  have N4 : News g L _ ((l.x, instObj 112 l.dx) :: (l.dx, lexD lxg ln' fs' ws' l.pb k') :: (l.pb, listOf (v :: qv).toArray nq) :: ((pb, listOf pv.toArray npb) :: (rowA, listOf rv.toArray nr) :: (lsA, listOf (ls.map fun l => Value.ref l.x).toArray nls) :: (x, instObj 112 dx) :: (dx, lexD lxh ln fs ws pb k) :: (L + 4, oR) :: (LinesL ls qs ++ (ex ++ rest)))) := fun q hq => by
    rcases List.mem_cons.mp hq with rfl | hq
    · exact N _ (by first | (walk_at "mem"; done) | (simp only [List.mem_cons, List.mem_append]; grind))
    rcases List.mem_cons.mp hq with rfl | hq
    · exact hlo ▸ N _ (by first | (walk_at "mem"; done) | (simp only [List.mem_cons, List.mem_append]; grind) : (l.dx, l.od) ∈ _)
    rcases List.mem_cons.mp hq with rfl | hq
    · exact N _ (by first | (walk_at "mem"; done) | (simp only [List.mem_cons, List.mem_append]; grind))
    · exact N q hq
  k_steps
  have hpl4 := N4.get (a := l.pb) (.tail _ (.tail _ (.head _)))
  have hlx4 := N4.get (a := l.x) (.head _)
  have hld4 := N4.get (a := l.dx) (.tail _ (.head _))
  have hml : (l.pb, listOf (v :: qv).toArray nq) ∈ ((pb, listOf pv.toArray npb) :: (rowA, listOf rv.toArray nr) :: (lsA, listOf (ls.map fun l => Value.ref l.x).toArray nls) :: (x, instObj 112 dx) :: (dx, lexD lxh ln fs ws pb k) :: (L + 4, oR) :: (LinesL ls qs ++ (ex ++ rest))) := by first | (walk_at "mem"; done) | (simp only [List.mem_cons, List.mem_append]; grind)
  have hlns := lines_ne N (fun q hq => subM (by (walk_at "sub"; done)) hq : ∀ q ∈ LinesL ls qs, q ∈ _) (by omega) hok hpl4
  have hx5 := N.get (a := x) (by k_mem); have hd5 := N.get (a := dx) (by k_mem); have h45 := N.get (a := L + 4) (by k_mem); have hp5 := N.get (a := pb) (by k_mem); have hw5 := N.get (a := rowA) (by k_mem)
  have w2 : x ≠ l.pb := apart hx5 hpl4 rfl
  have w3 : dx ≠ l.pb := apart hd5 hpl4 rfl
  have w4 : L + 4 ≠ l.pb := fun z => by rw [z, hpl4] at h45; cases h45; cases hR
  have a1 : @Ne Nat x pb := apart hx5 hp5 rfl
  have a2 : @Ne Nat dx pb := apart hd5 hp5 rfl
  have a4 : @Ne Nat (L + 4) pb := fun q => by rw [q, hp5] at h45; cases h45; cases hR
  have b1 : @Ne Nat x rowA := apart hx5 hw5 rfl
  have b2 : @Ne Nat dx rowA := apart hd5 hw5 rfl
  have b4 : @Ne Nat (L + 4) rowA := fun q => by rw [q, hw5] at h45; cases h45; cases hR
  have hlp := lines_ne N (fun q hq => subM (by (walk_at "sub"; done)) hq : ∀ q ∈ LinesL ls qs, q ∈ _) (by omega) hok hp5
  have hlw := lines_ne N (fun q hq => subM (by (walk_at "sub"; done)) hq : ∀ q ∈ LinesL ls qs, q ∈ _) (by omega) hok hw5
  have hLn : ∀ a, (∀ l ∈ ls, l.pb ≠ a) → (∀ l ∈ ls, l.x ≠ a ∧ l.dx ≠ a) → ∀ qs, ∀ q ∈ LinesL ls qs, q.1 ≠ a := fun a y1 y2 qs q hq => by
    obtain ⟨i, l', q', z1, z2, z3⟩ := linesL_mem hq
    have hm := List.mem_of_getElem? z1
    rcases z3 with rfl | rfl | rfl
    · exact y1 l' hm
    · exact (y2 l' hm).1
    · exact (y2 l' hm).2
  refine c_getP (G := g) ?hG Xg Tg ?hd ?hu hlx4 hld4 hpl4 ?p3 ?p4 ?p5 (by omega) ?_
  case hG => exact fun b o e => N4 |> fun _ => F.keep b o e
  case hd => omega
  case hu => omega
  case p3 => exact N4.fresh (a := l.x) (.head _)
  case p4 => exact N4.fresh (a := l.dx) (.tail _ (.head _))
  case p5 => exact N4.fresh (a := l.pb) (.tail _ (.tail _ (.head _)))
  intro hp6 tk6 n6 kp6 e6
  have F6 := fr_updU F N hml kp6
  have hset := linesL_set (nq := (qv, n6)) hl hqd hnd hlns
  have N6 : News g L hp6 ((pb, listOf pv.toArray npb) :: (rowA, listOf rv.toArray nr) :: (lsA, listOf (ls.map fun l => Value.ref l.x).toArray nls) :: (x, instObj 112 dx) :: (dx, lexD lxh ln fs ws pb k) :: (L + 4, oR) :: (LinesL ls (qs.set j (qv, n6)) ++ (ex ++ rest))) := news_repl N hml kp6 e6 (fun y hy => by
    simp only [List.mem_cons, List.mem_append] at hy
    rcases hy with rfl | rfl | rfl | rfl | rfl | rfl | hy | hy | hy
    · exact .inr ⟨by first | (walk_at "mem"; done) | simp, (hl3 l hlm).1.symm⟩
    · exact .inr ⟨by first | (walk_at "mem"; done) | simp, (hl3 l hlm).2.1.symm⟩
    · exact .inr ⟨by first | (walk_at "mem"; done) | simp, (hl3 l hlm).2.2.symm⟩
    · exact .inr ⟨by first | (walk_at "mem"; done) | simp, w2⟩
    · exact .inr ⟨by first | (walk_at "mem"; done) | simp, w3⟩
    · exact .inr ⟨by first | (walk_at "mem"; done) | simp, w4⟩
    · rcases hset y hy with h | ⟨h1, h2⟩
      · exact .inl h
      · exact .inr ⟨by first | (walk_at "mem"; done) | (simp only [List.mem_cons, List.mem_append]; grind), h2⟩
    · exact .inr ⟨by first | (walk_at "mem"; done) | (simp only [List.mem_cons, List.mem_append]; grind), hx3 y (List.mem_append_left _ hy) l hlm⟩
    · exact .inr ⟨by first | (walk_at "mem"; done) | (simp only [List.mem_cons, List.mem_append]; grind), hx3 y (List.mem_append_right _ hy) l hlm⟩)
  have hT1 : ∀ q ∈ LinesL ls (qs.set j (qv, n6)) ++ (ex ++ rest), q.1 ≠ pb := fun q hq => (List.mem_append.mp hq).elim (hLn pb (fun l hl => (hl3 l hl).1) hlp _ q) (hx1 q)
  have hT2 : ∀ q ∈ LinesL ls (qs.set j (qv, n6)) ++ (ex ++ rest), q.1 ≠ rowA := fun q hq => (List.mem_append.mp hq).elim (hLn rowA (fun l hl => (hl3 l hl).2.1) hlw _ q) (hx2 q)
  clear N N4 F
  (try dsimp only)
  k_steps
  (with_reducible rename Fr _ _ _ _ => F7); (with_reducible rename News _ _ _ _ => N7)
  have hx7 := N7.get (a := x) (by k_mem); have hd7 := N7.get (a := dx) (by k_mem); have hp7 := N7.get (a := pb) (by k_mem)
  refine c_push (G := g) ?hG Xg Tg ?hd ?hu hx7 hd7 hp7 ?p3 ?p4 ?p5 (by omega) ?_
  case hG => exact fun b o e => F7.keep b o e
  case hd => omega
  case hu => omega
  case p3 => exact N7.fresh (a := x) (by k_mem)
  case p4 => exact N7.fresh (a := dx) (by k_mem)
  case p5 => exact N7.fresh (a := pb) (by k_mem)
  intro hp8 tk8 n8 kp8 e8
  have F8 := fr_upd1 F7 N7 kp8
  have N8 := news_upd1 N7 kp8 e8 (allC e1.symm (allC e2.symm (allC a1 (allC a2 (allC a4 hT1)))))
  clear F7 N7
  (try dsimp only)
  k_steps
  (with_reducible rename Fr _ _ _ _ => F9); (with_reducible rename News _ _ _ _ => N9)
  rw [List.push_toArray] at N9
  exact ret _ _ _ _ _ _ F9 N9 (fun y hy => by simp only [List.mem_cons, List.not_mem_nil, or_false, not_or] at hy; simp only [hy, if_false]; exact congrFun he y)
end
end Mine
end
section
open PySem PySem.W PyProof.Rows PySem.Calls PySem.Spec
namespace Mine
section
variable {w : World} {p : Program} {loose : List Str} {mean : ExcName → Option Value} {mg mb : Str → Option Value} {g : Heap} {s : Shared} {dp un : Nat} {fr : Option (List Env)} {gd : Option (List Code)} {Q : Flow → Shared → Prop} {E : Value → Shared → Prop} {rest : List (Addr × Obj)}
theorem set_set' {α : Type} (l : List α) (j : Nat) (a b : α) : (l.set j a).set j b = l.set j b := by simp
set_option maxRecDepth 100000 in
set_option maxHeartbeats 8000000 in
theorem d10_in (Xg : (hd.heap_1 w.params).In g) (Tg : Top p loose mean mg mb g) (hdp : dp < 600) (hun : un < 6000) {L fa : Addr} {cd : Value} {scope : Scope} (hsc : scopeAt (hd.heap_1 w.params) 140 = some scope) {bd : List Stmt} (hb : bd = forBody ((forBody ((forBody (bodyAt (hd.heap_1 w.params) 140)[21]?)[10]?))[0]?))
   {x dx pb : Addr} {lxh : LexH} {fs : Addr} {k : Nat} {ln ws : Value} {oR : Obj} {m : Str → Option Value} {ex : List (Addr × Obj)} {rowA lsA ra : Addr} {ls : List Line} {qs : List (List Value × Nat)} {pv rv qv : List Value} {npb nr nls nq : Nat} {j b : Nat} {tj r1 r2 r3 : Tok} {P Rw Wj : List (List Nat)} {px : Pos}
   (hR : oR.data = .cell (some (.ref x))) (hok : ∀ l ∈ ls, l.Ok) (hll : ls.length = b) (hlq : qs.length = b) (hb2 : b ≤ 8)
   (hnd : (ls.map (·.pb)).Nodup) (hx1 : ∀ q ∈ ex ++ rest, q.1 ≠ pb) (hx2 : ∀ q ∈ ex ++ rest, q.1 ≠ rowA) (hx3 : ∀ q ∈ ex ++ rest, ∀ l ∈ ls, q.1 ≠ l.pb) (e1 : @Ne Nat pb rowA) (e2 : @Ne Nat pb lsA) (e3 : @Ne Nat rowA lsA) (hl3 : ∀ l ∈ ls, @Ne Nat l.pb pb ∧ @Ne Nat l.pb rowA ∧ @Ne Nat l.pb lsA) (hj : j < b) (hqd : qs[j]? = some (qv, nq)) (hqv : StrsAre qv (Wj.map S)) (hpv : StrsAre pv (P.map S)) (hrv : StrsAre rv (Rw.map S)) (hPl : P.length + Wj.length < 1000) (hRl : Rw.length + Wj.length < 1000)
   (hrg : IsRange s.heap ra 0 (Wj.length : Nat) 1 r1 r2 r3)
   (F : Fr g L s.heap m) (N : News g L s.heap ((pb, listOf pv.toArray npb) :: (rowA, listOf rv.toArray nr) :: (lsA, listOf (ls.map fun l => Value.ref l.x).toArray nls) :: (x, instObj 112 dx) :: (dx, lexD lxh ln fs ws pb k) :: (L + 4, oR) :: (LinesL ls qs ++ (ex ++ rest)))) (ml : m (Str.ofString "lines") = some (.ref lsA)) (mr : m (Str.ofString "row") = some (.ref rowA)) (mj : m (Str.ofString "line") = some (.int (j : Int) tj))
   (ret : ∀ h' tk' m' npb' nr' nq' pv' rv', Fr g L h' m' → News g L h' ((pb, listOf pv'.toArray npb') :: (rowA, listOf rv'.toArray nr') :: (lsA, listOf (ls.map fun l => Value.ref l.x).toArray nls) :: (x, instObj 112 dx) :: (dx, lexD lxh ln fs ws pb k) :: (L + 4, oR) :: (LinesL ls (qs.set j ([], nq')) ++ (ex ++ rest))) → StrsAre pv' ((P ++ Wj).map S) → StrsAre rv' ((Rw ++ Wj).map S) → Same [(Str.ofString "word"), (Str.ofString "place")] m m' → Q .next (St s h' tk')) :
   wpAny (model PR w) (Ar dp un fr gd) (pyIter (.ref ra)) (fun it s₂ => LoopOk PR w (Ar dp un fr gd) (envOfC (Str.ofString "law") scope L fa cd) (.Name (Str.ofString "place") px) bd Q it s₂) E s := by
  have hb0 := hb
  have hsc0 := hsc
  refine with_look2 (K := hd.heap_1 w.params) (f := 140) (by k_dflt k_is) fun eb es => ?_
  rw [es] at hsc
  rw [eb] at hb
  dsimp only [List.getElem?_cons_succ, List.getElem?_cons_zero, forBody] at hb hsc
  (try replace hb := Option.some.inj hb)
  replace hsc := Option.some.inj hsc
  subst hb
  subst hsc
  clear eb es
  have hqset : qs.set j (qv, nq) = qs := by
    apply List.ext_getElem?
    intro i
    by_cases e : j = i
    · subst e; rw [List.getElem?_set_self (by omega)]; exact hqd.symm
    · rw [List.getElem?_set_ne e]
  refine iter_range Wj.length rfl (by omega) hrg F N ?_
  intro it o h1' hO F1 N1 hit
  refine loopInv rfl (Itr.range PR w it Wj.length) (fun i m' news' => ∀ C : Prop, (∀ pv' npb' rv' nr' qv' nq', (news' = ((pb, listOf pv'.toArray npb') :: (rowA, listOf rv'.toArray nr') :: (lsA, listOf (ls.map fun l => Value.ref l.x).toArray nls) :: (x, instObj 112 dx) :: (dx, lexD lxh ln fs ws pb k) :: (L + 4, oR) :: (LinesL ls (qs.set j (qv', nq')) ++ (ex ++ rest)))) → (StrsAre pv' ((P ++ Wj.take i).map S)) → (StrsAre rv' ((Rw ++ Wj.take i).map S)) → (StrsAre qv' ((Wj.drop i).map S)) → (Same [(Str.ofString "word"), (Str.ofString "place")] m m') → C) → C) (fun _ _ _ _ _ _ _ => trivial) F1 N1 hO (fun q hq => Nat.ne_of_lt (hit q hq)) (fun _ k => k pv npb rv nr qv nq (by rw [hqset]) (by simpa using hpv) (by simpa using hrv) hqv (Same.refl _ _)) ?_ ?_
  · rintro i v m1 news1 h tk o1 hi ⟨tp, rfl⟩ hI0
    refine hI0 _ ?_
    clear hI0
    rintro pv1 npb1 rv1 nr1 qv1 nq1 rfl hpv1 hrv1 hqv1 hs F2 N2 hne J hJ
    obtain ⟨cs, hcsi⟩ : ∃ cs, Wj[i]? = some cs := ⟨_, List.getElem?_eq_getElem hi⟩
    have hdi : Wj.drop i = cs :: Wj.drop (i + 1) := by
      rw [List.drop_eq_getElem_cons hi]
      congr 1
      exact Option.some.inj ((List.getElem?_eq_getElem _).symm.trans hcsi)
    rw [hdi, List.map_cons] at hqv1
    obtain ⟨tc, qv2, rfl, hqv2⟩ := strs_drop_cons hqv1 rfl
    have h1l := hpv1.len_eq
    have h2l := hrv1.len_eq
    have h3l := hqv2.len_eq
    simp only [List.length_map, List.length_append, List.length_take, List.length_drop] at h1l h2l h3l
    walk1
    walk1
    (with_reducible rename Fr _ _ _ _ => F3); (with_reducible rename News _ _ _ _ => N3)
    have n1 : it ≠ pb := (hne (pb, _) (.head _)).symm
    have n2 : it ≠ rowA := (hne (rowA, _) (.tail _ (.head _))).symm
    have hln : (qs.set j (Value.str (S cs) tc :: qv2, nq1)).length = b := by rw [List.length_set]; exact hlq
    have n3 : ∀ l ∈ ls, it ≠ l.pb := fun l hl => by
      obtain ⟨i', hj'⟩ := List.getElem?_of_mem hl
      have hjl : i' < ls.length := by
        rcases Nat.lt_or_ge i' ls.length with h | h
        · exact h
        · rw [List.getElem?_eq_none h] at hj'; cases hj'
      have ha := linesL_at hj' (List.getElem?_eq_getElem (by omega : i' < (qs.set j (Value.str (S cs) tc :: qv2, nq1)).length))
      exact (hne _ (by simp only [List.mem_cons, List.mem_append]; exact .inr (.inr (.inr (.inr (.inr (.inr (.inl ha.1)))))))  : l.pb ≠ it).symm
    have hN3 : News g L _ ((pb, listOf pv1.toArray npb1) :: (rowA, listOf rv1.toArray nr1) :: (lsA, listOf (ls.map fun l => Value.ref l.x).toArray nls) :: (x, instObj 112 dx) :: (dx, lexD lxh ln fs ws pb k) :: (L + 4, oR) :: (LinesL ls (qs.set j (Value.str (S cs) tc :: qv2, nq1)) ++ (((it, o1) :: ex) ++ rest))) := fun q hq => N3 q (subM (by (walk_at "sub"; done)) hq)
    refine d10_body (ex := (it, o1) :: ex) (qs := qs.set j (Value.str (S cs) tc :: qv2, nq1)) (pv := pv1) (rv := rv1) (qv := qv2) (nq := nq1) (v := Value.str (S cs) tc) (j := j) (b := b) Xg Tg hdp hun hsc0 hb0 hR hok hll hln hb2 hnd ?x1 ?x2 ?x3 e1 e2 e3 hl3 hj (by rw [List.getElem?_set_self (by omega)]) (by omega) (by omega) (by omega) rfl F3 hN3 ((hs _ (by decide)).trans ml) ((hs _ (by decide)).trans mr) ((hs _ (by decide)).trans mj) ?_
    case x1 => exact fun q hq => (List.mem_append.mp hq).elim (fun h => (List.mem_cons.mp h).elim (fun e => by rw [e]; exact n1) (fun h => hx1 q (List.mem_append_left _ h))) (fun h => hx1 q (List.mem_append_right _ h))
    case x2 => exact fun q hq => (List.mem_append.mp hq).elim (fun h => (List.mem_cons.mp h).elim (fun e => by rw [e]; exact n2) (fun h => hx2 q (List.mem_append_left _ h))) (fun h => hx2 q (List.mem_append_right _ h))
    case x3 => exact fun q hq l hl => (List.mem_append.mp hq).elim (fun h => (List.mem_cons.mp h).elim (fun e => by rw [e]; exact n3 l hl) (fun h => hx3 q (List.mem_append_left _ h) l hl)) (fun h => hx3 q (List.mem_append_right _ h) l hl)
    intro h4' tk4 m4 npb4 nr4 nq4 F4 N4 hs4
    rw [set_set'] at N4
    have ex1 : Wj.take (i + 1) = Wj.take i ++ [cs] := take_snoc hcsi
    refine TurnEnd.mk <| hJ m4 ((pb, listOf (pv1 ++ [Value.str (S cs) tc]).toArray npb4) :: (rowA, listOf (rv1 ++ [Value.str (S cs) tc]).toArray nr4) :: (lsA, listOf (ls.map fun l => Value.ref l.x).toArray nls) :: (x, instObj 112 dx) :: (dx, lexD lxh ln fs ws pb k) :: (L + 4, oR) :: (LinesL ls (qs.set j (qv2, nq4)) ++ (ex ++ rest))) h4' tk4 F4 (fun q hq => N4 q (subM (by (walk_at "sub"; done)) hq)) ?_ (fun _ k => k _ npb4 _ nr4 qv2 nq4 rfl ?_ ?_ hqv2 ((hs.trans fun y hy => ?_).trans (hs4.mono (by decide))))
    · have hset := linesL_addr (ls := ls) (qs := qs.set j (Value.str (S cs) tc :: qv2, nq1)) (qs' := qs.set j (qv2, nq4)) (by rw [List.length_set, List.length_set])
      intro q hq
      simp only [List.mem_cons, List.mem_append] at hq
      rcases hq with rfl | rfl | rfl | rfl | rfl | rfl | hq | hq | hq
      · exact n1.symm
      · exact n2.symm
      · exact hne (lsA, listOf (ls.map fun l => Value.ref l.x).toArray nls) (.tail _ (.tail _ (.head _)))
      · exact hne (x, instObj 112 dx) (.tail _ (.tail _ (.tail _ (.head _))))
      · exact hne (dx, lexD lxh ln fs ws pb k) (.tail _ (.tail _ (.tail _ (.tail _ (.head _)))))
      · exact hne (L + 4, oR) (.tail _ (.tail _ (.tail _ (.tail _ (.tail _ (.head _))))))
      · obtain ⟨q', h1, h2⟩ := hset q hq
        rw [← h2]
        exact hne q' (by simp only [List.mem_cons, List.mem_append]; exact .inr (.inr (.inr (.inr (.inr (.inr (.inl h1)))))))
      · exact hne q (by simp only [List.mem_cons, List.mem_append]; exact .inr (.inr (.inr (.inr (.inr (.inr (.inr (.inl hq))))))))
      · exact hne q (by simp only [List.mem_cons, List.mem_append]; exact .inr (.inr (.inr (.inr (.inr (.inr (.inr (.inr hq))))))))
    · rw [ex1, ← List.append_assoc, List.map_append]; exact strs_snoc hpv1 _ _
    · rw [ex1, ← List.append_assoc, List.map_append]; exact strs_snoc hrv1 _ _
    · exact if_neg fun z => hy (by rw [z]; decide)
  · rintro m1 news1 h tk hI0
    refine hI0 _ ?_
    clear hI0
    rintro pv1 npb1 rv1 nr1 qv1 nq1 rfl hpv1 hrv1 hqv1 hs F2 N2
    rw [List.drop_length] at hqv1
    rw [List.take_length] at hpv1 hrv1
    cases hqv1
    exact ret _ _ _ npb1 nr1 nq1 pv1 rv1 F2 N2 hpv1 hrv1 hs
end
end Mine
end
section
open PySem PySem.W PyProof.Rows PySem.Calls PySem.Spec
namespace Mine
section
variable {w : World} {p : Program} {loose : List Str} {mean : ExcName → Option Value} {mg mb : Str → Option Value} {g : Heap} {s : Shared} {dp un : Nat} {fr : Option (List Env)} {gd : Option (List Code)} {Q : Flow → Shared → Prop} {E : Value → Shared → Prop} {rest : List (Addr × Obj)}
/-- the words of these lines, one line after the other -/
def flatQ (W : List (List Nat)) (dg : List Nat → Nat) (l : List Nat) : List (List Nat) := (l.map fun j => W.filter fun cs => dg cs == j).flatten
theorem flatQ_snoc (W : List (List Nat)) (dg : List Nat → Nat) (l : List Nat) (j : Nat) : flatQ W dg (l ++ [j]) = flatQ W dg l ++ W.filter fun cs => dg cs == j := by unfold flatQ; simp
theorem flatQ_len (W : List (List Nat)) (dg : List Nat → Nat) : ∀ l : List Nat, (flatQ W dg l).length ≤ l.length * W.length
  | [] => by simp [flatQ]
  | j :: l => by
    have := flatQ_len W dg l
    have h2 : (W.filter fun cs => dg cs == j).length ≤ W.length := List.length_filter_le _ _
    unfold flatQ at *
    simp only [List.map_cons, List.flatten_cons, List.length_append, List.length_cons] at *
    rw [Nat.succ_mul]
    omega
local macro_rules | `(tactic| walk_at "subscriptTail") => `(tactic| (refine Halt.out ?_))
set_option maxRecDepth 100000 in
set_option maxHeartbeats 8000000 in
theorem d10_loop (Xg : (hd.heap_1 w.params).In g) (Tg : Top p loose mean mg mb g) (hdp : dp < 600) (hun : un < 6000) {L fa : Addr} {cd : Value} {scope : Scope} (hsc : scopeAt (hd.heap_1 w.params) 140 = some scope) {bd : List Stmt} (hb : bd = forBody ((forBody (bodyAt (hd.heap_1 w.params) 140)[21]?)[10]?))
   {x dx pb : Addr} {lxh : LexH} {fs : Addr} {k : Nat} {ln ws : Value} {oR : Obj} {m : Str → Option Value} {ex : List (Addr × Obj)} {rowA lsA oA cA : Addr} {ls : List Line} {qs : List (List Value × Nat)} {pv rv cv ov : List Value} {npb nr nls nc no : Nat} {b : Nat} {W : List (List Nat)} {dg : List Nat → Nat} {ord : List Nat} {px : Pos}
   (hR : oR.data = .cell (some (.ref x))) (hok : ∀ l ∈ ls, l.Ok) (hll : ls.length = b) (hlq : qs.length = b) (hb2 : b ≤ 8)
   (hnd : (ls.map (·.pb)).Nodup) (hx1 : ∀ q ∈ ((oA, listOf ov.toArray no) :: (cA, listOf cv.toArray nc) :: ex) ++ rest, q.1 ≠ pb) (hx2 : ∀ q ∈ ((oA, listOf ov.toArray no) :: (cA, listOf cv.toArray nc) :: ex) ++ rest, q.1 ≠ rowA) (hx3 : ∀ q ∈ ((oA, listOf ov.toArray no) :: (cA, listOf cv.toArray nc) :: ex) ++ rest, ∀ l ∈ ls, q.1 ≠ l.pb) (e1 : @Ne Nat pb rowA) (e2 : @Ne Nat pb lsA) (e3 : @Ne Nat rowA lsA) (hl3 : ∀ l ∈ ls, @Ne Nat l.pb pb ∧ @Ne Nat l.pb rowA ∧ @Ne Nat l.pb lsA) (hW : W.length < 100) (hq : Queues qs b W dg) (hc : Counts cv b W dg) (ho : IntsAre ov (ord.map fun j => ((j : Nat) : Int))) (hob : ∀ j ∈ ord, j < b) (hon : ord.Nodup) (hol : ord.length ≤ 8)
   (F : Fr g L s.heap m) (N : News g L s.heap ((pb, listOf ([] : List Value).toArray npb) :: (rowA, listOf ([] : List Value).toArray nr) :: (lsA, listOf (ls.map fun l => Value.ref l.x).toArray nls) :: (x, instObj 112 dx) :: (dx, lexD lxh ln fs ws pb k) :: (L + 4, oR) :: (LinesL ls qs ++ (((oA, listOf ov.toArray no) :: (cA, listOf cv.toArray nc) :: ex) ++ rest)))) (ml : m (Str.ofString "lines") = some (.ref lsA)) (mr : m (Str.ofString "row") = some (.ref rowA)) (mc : m (Str.ofString "counts") = some (.ref cA))
   (ret : ∀ h' tk' m' npb' nr' pv' rv' qs', Fr g L h' m' → News g L h' ((pb, listOf pv'.toArray npb') :: (rowA, listOf rv'.toArray nr') :: (lsA, listOf (ls.map fun l => Value.ref l.x).toArray nls) :: (x, instObj 112 dx) :: (dx, lexD lxh ln fs ws pb k) :: (L + 4, oR) :: (LinesL ls qs' ++ (((oA, listOf ov.toArray no) :: (cA, listOf cv.toArray nc) :: ex) ++ rest))) → StrsAre pv' ((flatQ W dg ord).map S) → StrsAre rv' ((flatQ W dg ord).map S) → Same [(Str.ofString "word"), (Str.ofString "place"), (Str.ofString "line")] m m' → Q .next (St s h' tk')) :
   wpAny (model PR w) (Ar dp un fr gd) (pyIter (.ref oA)) (fun it s₂ => LoopOk PR w (Ar dp un fr gd) (envOfC (Str.ofString "law") scope L fa cd) (.Name (Str.ofString "line") px) bd Q it s₂) E s := by
  have hb0 := hb
  have hsc0 := hsc
  refine with_look2 (K := hd.heap_1 w.params) (f := 140) (by k_dflt k_is) fun eb es => ?_
  rw [es] at hsc
  rw [eb] at hb
  dsimp only [List.getElem?_cons_succ, List.getElem?_cons_zero, forBody] at hb hsc
  (try replace hb := Option.some.inj hb)
  replace hsc := Option.some.inj hsc
  subst hb
  subst hsc
  clear eb es
  have moA : (oA, listOf ov.toArray no) ∈ ((pb, listOf ([] : List Value).toArray npb) :: (rowA, listOf ([] : List Value).toArray nr) :: (lsA, listOf (ls.map fun l => Value.ref l.x).toArray nls) :: (x, instObj 112 dx) :: (dx, lexD lxh ln fs ws pb k) :: (L + 4, oR) :: (LinesL ls qs ++ (((oA, listOf ov.toArray no) :: (cA, listOf cv.toArray nc) :: ex) ++ rest))) := by simp only [List.mem_cons, List.mem_append]; grind
  refine wpAny_pyIter_list (N.isList moA) ?_
  have F1 := F.push ({ cls := .type "list_iterator", data := .fields #[.ref oA, .int 0 0] } : Obj)
  have N1 := N.push F ({ cls := .type "list_iterator", data := .fields #[.ref oA, .int 0 0] } : Obj)
  have hlt : ∀ q ∈ ((pb, listOf ([] : List Value).toArray npb) :: (rowA, listOf ([] : List Value).toArray nr) :: (lsA, listOf (ls.map fun l => Value.ref l.x).toArray nls) :: (x, instObj 112 dx) :: (dx, lexD lxh ln fs ws pb k) :: (L + 4, oR) :: (LinesL ls qs ++ (((oA, listOf ov.toArray no) :: (cA, listOf cv.toArray nc) :: ex) ++ rest))), @LT.lt Nat _ q.1 s.heap.objs.size := fun q hq => Heap.lt_size (N q hq).1
  have hovl := ho.length
  rw [List.length_map] at hovl
  generalize s.heap.objs.size = it at *
  refine loopInv rfl (Itr.list (prog := PR) (w := w) (it := it) (l := oA) ov) (fun i m' news' => ∀ C : Prop, (∀ pv' npb' rv' nr' qs', (news' = ((pb, listOf pv'.toArray npb') :: (rowA, listOf rv'.toArray nr') :: (lsA, listOf (ls.map fun l => Value.ref l.x).toArray nls) :: (x, instObj 112 dx) :: (dx, lexD lxh ln fs ws pb k) :: (L + 4, oR) :: (LinesL ls qs' ++ (((oA, listOf ov.toArray no) :: (cA, listOf cv.toArray nc) :: ex) ++ rest)))) → (qs'.length = b) → (StrsAre pv' ((flatQ W dg (ord.take i)).map S)) → (StrsAre rv' ((flatQ W dg (ord.take i)).map S)) → ((∀ j, j < b → j ∉ ord.take i → ∃ qv n, qs'[j]? = some (qv, n) ∧ StrsAre qv ((W.filter fun cs => dg cs == j).map S))) → (Same [(Str.ofString "word"), (Str.ofString "place"), (Str.ofString "line")] m m') → C) → C)
    (fun i m' news' h hI0 _ N => hI0 _ fun pv' npb' rv' nr' qs' e _ _ _ _ _ => by rw [e] at N; exact N.isList (by first | (walk_at "mem"; done) | (simp only [List.mem_cons, List.mem_append]; grind) : (oA, listOf ov.toArray no) ∈ _)) F1 N1 ⟨rfl, rfl⟩ (fun q hq => Nat.ne_of_lt (hlt q hq)) (fun _ k => k [] npb [] nr qs rfl hlq .nil .nil (fun j hj _ => hq.2 j hj) (Same.refl _ _)) ?_ ?_
  · rintro i v m1 news1 h tk o1 hi hP hI0
    refine hI0 _ ?_
    clear hI0
    rintro pv1 npb1 rv1 nr1 qs1 rfl hq1 hpv1 hrv1 hqs1 hs F2 N2 hne J hJ
    obtain ⟨jz, tj, rfl, hji⟩ := ho.at i v hP
    obtain ⟨j, hjo, rfl⟩ : ∃ j, ord[i]? = some j ∧ jz = (j : Int) := by
      rw [List.getElem?_map] at hji
      cases e : ord[i]? with
      | none => rw [e] at hji; cases hji
      | some j => rw [e] at hji; exact ⟨j, rfl, (Option.some.inj hji).symm⟩
    have hjm := List.mem_of_getElem? hjo
    have hjb := hob j hjm
    have hnt := nodup_take hon hjo
    obtain ⟨qv, nq, hqd, hqv⟩ := hqs1 j hjb hnt
    obtain ⟨tc, hcj⟩ := hc.2 j hjb
    have hfl : (W.filter fun cs => dg cs == j).length ≤ W.length := List.length_filter_le _ _
    have hfq := flatQ_len W dg (ord.take i)
    have htl : (ord.take i).length ≤ 8 := by simp; omega
    have hfq2 : (flatQ W dg (ord.take i)).length ≤ 800 := Nat.le_trans hfq (Nat.le_trans (Nat.mul_le_mul htl (Nat.le_of_lt hW)) (by decide))
    walk1
    walk1
    (with_reducible rename Fr _ _ _ _ => F3); (with_reducible rename News _ _ _ _ => N3)
    have mc1 := (hs _ (by decide)).trans mc
    have he9 := explicit_eq [((Str.ofString "counts"), .ref cA)] (allC mc1 (List.forall_mem_nil _))
    rw [← he9] at F3
    k_steps
    refine ⟨?_⟩
    have mcA : (cA, listOf cv.toArray nc) ∈ (it, o1) :: ((pb, listOf pv1.toArray npb1) :: (rowA, listOf rv1.toArray nr1) :: (lsA, listOf (ls.map fun l => Value.ref l.x).toArray nls) :: (x, instObj 112 dx) :: (dx, lexD lxh ln fs ws pb k) :: (L + 4, oR) :: (LinesL ls qs1 ++ (((oA, listOf ov.toArray no) :: (cA, listOf cv.toArray nc) :: ex) ++ rest))) := by simp only [List.mem_cons, List.mem_append]; grind
    refine n_item N3 mcA hcj (by omega) ?_
    k_steps
    rename_i hrg FA NA up
    have n1 : it ≠ pb := (hne (pb, _) (.head _)).symm
    have n2 : it ≠ rowA := (hne (rowA, _) (.tail _ (.head _))).symm
    have n3 : ∀ l ∈ ls, it ≠ l.pb := fun l hl => by
      obtain ⟨i', hj'⟩ := List.getElem?_of_mem hl
      have hjl : i' < ls.length := by
        rcases Nat.lt_or_ge i' ls.length with h | h
        · exact h
        · rw [List.getElem?_eq_none h] at hj'; cases hj'
      have ha := linesL_at hj' (List.getElem?_eq_getElem (by omega : i' < qs1.length))
      exact (hne _ (by simp only [List.mem_cons, List.mem_append]; exact .inr (.inr (.inr (.inr (.inr (.inr (.inl ha.1)))))))  : l.pb ≠ it).symm
    have hN3 : News g L _ ((pb, listOf pv1.toArray npb1) :: (rowA, listOf rv1.toArray nr1) :: (lsA, listOf (ls.map fun l => Value.ref l.x).toArray nls) :: (x, instObj 112 dx) :: (dx, lexD lxh ln fs ws pb k) :: (L + 4, oR) :: (LinesL ls qs1 ++ (((it, o1) :: ((oA, listOf ov.toArray no) :: (cA, listOf cv.toArray nc) :: ex)) ++ rest))) := fun q hq => NA q (subM (by (walk_at "sub"; done)) hq)
    have hl1 : ∀ y ∈ [(Str.ofString "lines"), (Str.ofString "row")], y ≠ (Str.ofString "line") := by decide
    refine d10_in (ex := (it, o1) :: ((oA, listOf ov.toArray no) :: (cA, listOf cv.toArray nc) :: ex)) (qs := qs1) (pv := pv1) (rv := rv1) (qv := qv) (nq := nq) (j := j) (b := b) (P := flatQ W dg (ord.take i)) (Rw := flatQ W dg (ord.take i)) (Wj := W.filter fun cs => dg cs == j) (tj := tj) Xg Tg hdp hun hsc0 (by rw [← hb0]; rfl) hR hok hll hq1 hb2 hnd ?x1 ?x2 ?x3 e1 e2 e3 hl3 hjb hqd hqv hpv1 hrv1 (by omega) (by omega) hrg FA hN3 ?y1 ?y2 ?y3 ?_
    case x1 => exact fun q hq => (List.mem_append.mp hq).elim (fun h => (List.mem_cons.mp h).elim (fun e => by rw [e]; exact n1) (fun h => hx1 q (List.mem_append_left _ h))) (fun h => hx1 q (List.mem_append_right _ h))
    case x2 => exact fun q hq => (List.mem_append.mp hq).elim (fun h => (List.mem_cons.mp h).elim (fun e => by rw [e]; exact n2) (fun h => hx2 q (List.mem_append_left _ h))) (fun h => hx2 q (List.mem_append_right _ h))
    case x3 => exact fun q hq l hl => (List.mem_append.mp hq).elim (fun h => (List.mem_cons.mp h).elim (fun e => by rw [e]; exact n3 l hl) (fun h => hx3 q (List.mem_append_left _ h) l hl)) (fun h => hx3 q (List.mem_append_right _ h) l hl)
    case y1 => exact (congrFun he9 _).trans ((hs _ (by decide)).trans ml)
    case y2 => exact (congrFun he9 _).trans ((hs _ (by decide)).trans mr)
    case y3 => exact rfl
    intro h4' tk4 m4 npb4 nr4 nq4 pv4 rv4 F4 N4 hpv4 hrv4 hs4
    have ex1 : ord.take (i + 1) = ord.take i ++ [j] := take_snoc hjo
    refine wpAny_execs_nil ?_
    refine TurnEnd.mk <| hJ m4 ((pb, listOf pv4.toArray npb4) :: (rowA, listOf rv4.toArray nr4) :: (lsA, listOf (ls.map fun l => Value.ref l.x).toArray nls) :: (x, instObj 112 dx) :: (dx, lexD lxh ln fs ws pb k) :: (L + 4, oR) :: (LinesL ls (qs1.set j ([], nq4)) ++ (((oA, listOf ov.toArray no) :: (cA, listOf cv.toArray nc) :: ex) ++ rest))) h4' tk4 F4 (fun q hq => N4 q (subM (by (walk_at "sub"; done)) hq)) ?_ (fun _ k => k pv4 npb4 rv4 nr4 _ rfl (by rw [List.length_set]; exact hq1) (by rw [ex1, flatQ_snoc]; exact hpv4) (by rw [ex1, flatQ_snoc]; exact hrv4) (fun j' hj' hn' => ?_) ((hs.trans fun y hy => ?_).trans (hs4.mono (by decide))))
    · have hset := linesL_addr (ls := ls) (qs := qs1) (qs' := qs1.set j ([], nq4)) (by rw [List.length_set])
      intro q hq
      simp only [List.mem_cons, List.mem_append] at hq
      rcases hq with rfl | rfl | rfl | rfl | rfl | rfl | hq | (rfl | rfl | hq) | hq
      · exact n1.symm
      · exact n2.symm
      · exact hne (lsA, listOf (ls.map fun l => Value.ref l.x).toArray nls) (.tail _ (.tail _ (.head _)))
      · exact hne (x, instObj 112 dx) (.tail _ (.tail _ (.tail _ (.head _))))
      · exact hne (dx, lexD lxh ln fs ws pb k) (.tail _ (.tail _ (.tail _ (.tail _ (.head _)))))
      · exact hne (L + 4, oR) (.tail _ (.tail _ (.tail _ (.tail _ (.tail _ (.head _))))))
      · obtain ⟨q', h1, h2⟩ := hset q hq
        rw [← h2]
        exact hne q' (by simp only [List.mem_cons, List.mem_append]; exact .inr (.inr (.inr (.inr (.inr (.inr (.inl h1)))))))
      · exact hne (oA, listOf ov.toArray no) (by first | (walk_at "mem"; done) | (simp only [List.mem_cons, List.mem_append]; grind))
      · exact hne (cA, listOf cv.toArray nc) (by first | (walk_at "mem"; done) | (simp only [List.mem_cons, List.mem_append]; grind))
      · exact hne q (by first | (walk_at "mem"; done) | (simp only [List.mem_cons, List.mem_append]; grind))
      · exact hne q (by first | (walk_at "mem"; done) | (simp only [List.mem_cons, List.mem_append]; grind))
    · rw [ex1] at hn'
      have hjj : j ≠ j' := fun z => hn' (List.mem_append_right _ (by rw [z]; exact .head _))
      rw [List.getElem?_set_ne hjj]
      exact hqs1 j' hj' (fun z => hn' (List.mem_append_left _ z))
    · simp only [List.mem_cons, List.not_mem_nil, or_false, not_or] at hy
      simp only [hy, if_false]
      exact congrFun he9 y
  · rintro m1 news1 h tk hI0
    refine hI0 _ ?_
    clear hI0
    rintro pv1 npb1 rv1 nr1 qs1 rfl hq1 hpv1 hrv1 hqs1 hs F2 N2
    rw [List.take_of_length_le (by omega)] at hpv1 hrv1
    exact ret _ _ _ npb1 nr1 pv1 rv1 qs1 F2 N2 hpv1 hrv1 hs
end
end Mine
end
section
open PySem PySem.W PyProof.Rows PySem.Calls PySem.Spec
namespace Mine
section
variable {w : World} {p : Program} {loose : List Str} {mean : ExcName → Option Value} {mg mb : Str → Option Value} {g : Heap} {s : Shared} {dp un : Nat} {fr : Option (List Env)} {gd : Option (List Code)} {Q : Flow → Shared → Prop} {E : Value → Shared → Prop} {rest : List (Addr × Obj)}
local macro_rules | `(tactic| walk_at "exec Assign cons ListComp") => `(tactic| walk_at "al4")
local macro_rules | `(tactic| walk_at "CompSrc") => `(tactic| (refine Halt.out ?_))
set_option maxRecDepth 100000 in
set_option maxHeartbeats 8000000 in
theorem d5_order (Xg : (hd.heap_1 w.params).In g) (Tg : Top p loose mean mg mb g) (hdp : dp < 600) (hun : un < 6000) {L fa : Addr} {cd : Value} {scope : Scope} (hsc : scopeAt (hd.heap_1 w.params) 140 = some scope) {st : Stmt} (hb : (forBody (bodyAt (hd.heap_1 w.params) 140)[21]?)[5]? = some st)
   {m : Str → Option Value} {news : List (Addr × Obj)} {tb : Tok} {b : Nat} (hb2 : b ≤ 8)
   (F : Fr g L s.heap m) (N : News g L s.heap news) (mb : m (Str.ofString "base") = some (.int (b : Nat) tb))
   (ret : ∀ h' tk' D ys, Fr g L h' (fun z => if z = (Str.ofString "order") then some (.ref D) else m z) → News g L h' ((D, listOf ys.toArray ys.length) :: news) → (∀ p ∈ news, p.1 ≠ D) → IntsAre ys ((List.range b).map fun j => ((j : Nat) : Int)) → Q .next (St s h' tk')) :
   wpAny (model PR w) (Ar dp un fr gd) (exec st (envOfC (Str.ofString "law") scope L fa cd)) Q E s := by
  refine with_look2 (K := hd.heap_1 w.params) (f := 140) (by k_dflt k_is) fun eb es => ?_
  rw [es] at hsc
  rw [eb] at hb
  dsimp only [List.getElem?_cons_succ, List.getElem?_cons_zero, forBody] at hb hsc
  (try replace hb := Option.some.inj hb)
  replace hsc := Option.some.inj hsc
  subst hb
  subst hsc
  clear eb es
  have he := explicit_eq [((Str.ofString "base"), .int (b : Nat) tb)] (allC mb (List.forall_mem_nil _))
  rw [← he] at F
  k_steps
  refine ⟨?_⟩
  rename_i hrg FA NA up
  rw [he] at FA ⊢
  have hsm := small_of (n := b) (by omega)
  refine LCg.CompSrc.range rfl FA NA hrg hsm.1 hsm.2 (by rw [sizeLine_eq]; omega) ?_
  intro g'
  refine compRest_ind (fun i ys nws => nws = news ∧ IntsAre ys ((List.range i).map fun j => ((j : Nat) : Int))) b ?_ ?_ _ 0 [] _ (by omega) ⟨rfl, .nil⟩
  · rintro i ys nws hi ⟨rfl, hys⟩ v I oI C' oC D m₂ h tk E' ⟨tv, hv⟩ hCC hx F2 N2 off ne J hJ
    subst hv
    k_steps
    refine LCg.CompEnd.intro F2 N2 _ (fun p hp => hp) off trivial (hJ _ _ ⟨rfl, ?_⟩)
    rw [List.range_succ, List.map_append, Int.zero_add]
    exact ints_snoc hys _ _
  · rintro ys nws ⟨rfl, hys⟩ D h3 tk3 F3 N3 o3
    exact ret _ _ D ys F3 N3 (off1_ne o3) hys
local macro_rules | `(tactic| walk_at "call builtin:list.reverse") => `(tactic| (refine Halt.out ?_))
local macro_rules | `(tactic| k_all) => `(tactic| walk_at "al3")
theorem d6_rev (Xg : (hd.heap_1 w.params).In g) (Tg : Top p loose mean mg mb g) (hdp : dp < 600) (hun : un < 6000) {L fa : Addr} {cd : Value} {scope : Scope} (hsc : scopeAt (hd.heap_1 w.params) 140 = some scope) {st : Stmt} (hb : (forBody (bodyAt (hd.heap_1 w.params) 140)[21]?)[6]? = some st)
   {m : Str → Option Value} {news : List (Addr × Obj)} {tb tt ts tl : Tok} {b no : Nat} {oA : Addr} {ov : List Value} {turn : Nat} {low size : Int} {oLow oSize : Obj} (hb2 : b ≤ 8) (hne : turn ≠ 1) (hov : ov.length < 1000) (hlo : oLow.data = .cell (some (.int low tl))) (hsz : oSize.data = .cell (some (.int size ts))) (hs0 : 0 ≤ size) (hs1 : size < 10000) (hl0 : 0 ≤ low) (hl1 : low < 10000)
   (hn1 : ∀ q ∈ news, q.1 ≠ oA) (hn2 : ∀ q ∈ news, q.1 ≠ L + 6) (e1 : @Ne Nat oA (L + 6)) (e2 : @Ne Nat oA (L + 7))
   (F : Fr g L s.heap m) (N : News g L s.heap ((oA, listOf ov.toArray no) :: (L + 6, oLow) :: (L + 7, oSize) :: news)) (mb : m (Str.ofString "base") = some (.int (b : Nat) tb)) (mt : m (Str.ofString "turn") = some (.int (turn : Nat) tt)) (mo : m (Str.ofString "order") = some (.ref oA))
   (ret : ∀ h' tk' no' oLow' tl', Fr g L h' m → News g L h' ((oA, listOf ov.reverse.toArray no') :: (L + 6, oLow') :: (L + 7, oSize) :: news) → oLow'.data = .cell (some (.int (low + ((b : Int) - 1) * size) tl')) → Q .next (St s h' tk')) :
   wpAny (model PR w) (Ar dp un fr gd) (exec st (envOfC (Str.ofString "law") scope L fa cd)) Q E s := by
  refine with_look2 (K := hd.heap_1 w.params) (f := 140) (by k_dflt k_is) fun eb es => ?_
  rw [es] at hsc
  rw [eb] at hb
  dsimp only [List.getElem?_cons_succ, List.getElem?_cons_zero, forBody] at hb hsc
  (try replace hb := Option.some.inj hb)
  replace hsc := Option.some.inj hsc
  subst hb
  subst hsc
  clear eb es
  have he := explicit_eq [((Str.ofString "base"), .int (b : Nat) tb), ((Str.ofString "turn"), .int (turn : Nat) tt), ((Str.ofString "order"), .ref oA)] (allC mb (allC mt (allC mo (List.forall_mem_nil _))))
  rw [← he] at F
  have hne' : ((turn : Nat) : Int) ≠ 1 := by omega
  k_steps
  · refine ⟨?_⟩
    show wpAny _ _ (call (.builtin "list.reverse") [.ref oA]) _ _ _
    refine kl_reverse (l := ov.reverse) F N (by simp) (.head (allC e1.symm (allC e2.symm hn1))) (by rw [sizeLine_eq]; simp; omega) ?_
    intro h2' F2 N2
    (try dsimp only)
    have hn1' : ∀ q ∈ news, @Ne Nat q.1 oA := hn1
    have hn2' : ∀ q ∈ news, @Ne Nat q.1 (L + 6) := hn2
    have e1' : @Ne Nat oA (L + 6) := e1
    k_steps
    (with_reducible rename Fr _ _ _ _ => FZ); (with_reducible rename News _ _ _ _ => NZ)
    rw [he] at FZ
    refine ret _ _ _ _ ?tz FZ NZ ?hz
    case hz => assumption
  · exact absurd (by assumption) hne'
end
end Mine
end
section
open PySem PySem.W PyProof.Rows PySem.Calls PySem.Spec
namespace Mine
section
variable {w : World} {p : Program} {loose : List Str} {mean : ExcName → Option Value} {mg mb : Str → Option Value} {g : Heap} {s : Shared} {dp un : Nat} {fr : Option (List Env)} {gd : Option (List Code)} {Q : Flow → Shared → Prop} {E : Value → Shared → Prop} {rest : List (Addr × Obj)}
/-- the ladder's rows: a number and its word -/
def LadR (prs : List (Addr × Obj)) (v : Value) (q : Int × List Nat) : Prop := ∃ p t t' n, v = .ref p ∧ (p, listOf #[.int q.1 t, .str (S q.2) t'] n) ∈ prs
theorem LadR.mono {prs prs' : List (Addr × Obj)} (h : ∀ q ∈ prs, q ∈ prs') (v : Value) (q : Int × List Nat) : LadR prs v q → LadR prs' v q := fun ⟨p, t, t', n, e, m⟩ => ⟨p, t, t', n, e, h _ m⟩
/-- laid in behind all that is not greater -/
def insP (q : Int × List Nat) (l : List (Int × List Nat)) : List (Int × List Nat) := l.takeWhile (fun r => decide (r.1 ≤ q.1)) ++ q :: l.dropWhile (fun r => decide (r.1 ≤ q.1))
def UpP (l : List (Int × List Nat)) : Prop := ∀ (i j : Nat) (a b : Int × List Nat), i ≤ j → l[i]? = some a → l[j]? = some b → a.1 ≤ b.1
theorem while_at {l : List (Int × List Nat)} {k : Int} : ∀ {lo : Nat}, (∀ i a, i < lo → l[i]? = some a → a.1 ≤ k) → (∀ i a, lo ≤ i → l[i]? = some a → k < a.1) → l.takeWhile (fun r => decide (r.1 ≤ k)) = l.take lo ∧ l.dropWhile (fun r => decide (r.1 ≤ k)) = l.drop lo := by
  induction l with
  | nil => intro lo _ _; simp
  | cons a l ih =>
    intro lo h1 h2
    cases lo with
    | zero =>
      have := h2 0 a (Nat.le_refl _) rfl
      simp [List.takeWhile_cons, List.dropWhile_cons, show ¬ a.1 ≤ k by omega]
    | succ lo =>
      have ha := h1 0 a (Nat.succ_pos _) rfl
      have := ih (lo := lo) (fun i b hi e => h1 (i + 1) b (by omega) e) (fun i b hi e => h2 (i + 1) b (by omega) e)
      simp [List.takeWhile_cons, List.dropWhile_cons, ha, this.1, this.2]
theorem insP_at {l : List (Int × List Nat)} {q : Int × List Nat} {lo : Nat} (h1 : ∀ i a, i < lo → l[i]? = some a → a.1 ≤ q.1) (h2 : ∀ i a, lo ≤ i → l[i]? = some a → q.1 < a.1) : insP q l = l.take lo ++ q :: l.drop lo := by
  unfold insP
  rw [(while_at h1 h2).1, (while_at h1 h2).2]
theorem UpP.ins {l : List (Int × List Nat)} (q : Int × List Nat) (hl : l.Pairwise fun a b => a.1 ≤ b.1) : (insP q l).Pairwise fun a b => a.1 ≤ b.1 := by
  induction l with
  | nil => exact List.pairwise_singleton _ _
  | cons a l ih =>
    obtain ⟨ha, hl'⟩ := List.pairwise_cons.mp hl
    by_cases e : a.1 ≤ q.1
    · have : insP q (a :: l) = a :: insP q l := by simp [insP, List.takeWhile_cons, List.dropWhile_cons, e]
      rw [this]
      refine List.pairwise_cons.mpr ⟨fun b hb => ?_, ih hl'⟩
      unfold insP at hb
      rcases List.mem_append.mp hb with hb | hb
      · exact ha b ((List.takeWhile_sublist _).mem hb)
      · rcases List.mem_cons.mp hb with rfl | hb
        · exact e
        · exact ha b ((List.dropWhile_sublist _).mem hb)
    · have : insP q (a :: l) = q :: a :: l := by simp [insP, List.takeWhile_cons, List.dropWhile_cons, e]
      rw [this]
      refine List.pairwise_cons.mpr ⟨fun b hb => ?_, hl⟩
      rcases List.mem_cons.mp hb with rfl | hb
      · omega
      · have := ha b hb; omega
theorem up_at {l : List (Int × List Nat)} (hl : l.Pairwise fun a b => a.1 ≤ b.1) {i j : Nat} {a b : Int × List Nat} (hij : i ≤ j) (ha : l[i]? = some a) (hb : l[j]? = some b) : a.1 ≤ b.1 := by
  obtain ⟨hi, rfl⟩ := List.getElem?_eq_some_iff.mp ha
  obtain ⟨hj, rfl⟩ := List.getElem?_eq_some_iff.mp hb
  rcases Nat.lt_or_ge i j with h | h
  · exact List.pairwise_iff_getElem.mp hl i j hi hj h
  · have : i = j := by omega
    subst this; exact Int.le_refl _
theorem All2.take {α β : Type} {R : α → β → Prop} {as : List α} {bs : List β} (h : All2 R as bs) : ∀ n, All2 R (as.take n) (bs.take n) := by
  induction h with
  | nil => intro n; simp; exact .nil
  | cons r _ ih => intro n; cases n with
    | zero => exact .nil
    | succ n => exact .cons r (ih n)
theorem All2.drop {α β : Type} {R : α → β → Prop} {as : List α} {bs : List β} (h : All2 R as bs) : ∀ n, All2 R (as.drop n) (bs.drop n) := by
  induction h with
  | nil => intro n; simp; exact .nil
  | cons r h ih => intro n; cases n with
    | zero => exact .cons r h
    | succ n => exact ih n
theorem lad_ins {prs : List (Addr × Obj)} {vs : List Value} {lad : List (Int × List Nat)} {k : Int} {cs : List Nat} {pA : Addr} {t tc : Tok} {n lo : Nat} (hv : All2 (LadR prs) vs lad) (hA : ∀ i, i < lo → (lad.getD i (0, [])).1 ≤ k) (hB : ∀ i, lo ≤ i → i < lad.length → k < (lad.getD i (0, [])).1) : All2 (LadR ((pA, listOf #[.int k t, .str (S cs) tc] n) :: prs)) (vs.take lo ++ .ref pA :: vs.drop lo) (insP (k, cs) lad) := by
  have hpA : LadR ((pA, listOf #[.int k t, .str (S cs) tc] n) :: prs) (.ref pA) (k, cs) := ⟨pA, _, tc, n, rfl, .head _⟩
  have hv2 := hv.mono (LadR.mono (prs' := (pA, listOf #[.int k t, .str (S cs) tc] n) :: prs) fun q hq => .tail _ hq)
  rw [insP_at (lo := lo) (fun i q hi e => ?_) (fun i q hi e => ?_)]
  · exact (hv2.take lo).append (.cons hpA (hv2.drop lo))
  · have := hA i hi
    rw [List.getD_eq_getElem?_getD, e] at this
    exact this
  · have := hB i hi (by obtain ⟨hi', _⟩ := List.getElem?_eq_some_iff.mp e; exact hi')
    rw [List.getD_eq_getElem?_getD, e] at this
    exact this
local macro_rules | `(tactic| walk_at "subscriptTail") => `(tactic| (refine Halt.out ?_))
set_option maxRecDepth 100000 in
set_option maxHeartbeats 8000000 in
theorem d12_body (Xg : (hd.heap_1 w.params).In g) (Tg : Top p loose mean mg mb g) (hdp : dp < 600) (hun : un < 6000) {L fa : Addr} {cd : Value} {scope : Scope} (hsc : scopeAt (hd.heap_1 w.params) 140 = some scope) {bd : List Stmt} (hb : bd = forBody ((forBody (bodyAt (hd.heap_1 w.params) 140)[21]?)[12]?))
   {oC oN oF : Obj} {m : Str → Option Value} {ex prs : List (Addr × Obj)} {aA nA lA : Addr} {vs : List Value} {n : Nat} {cs : List Nat} {kn kl : List (Str × Value)} {lad : List (Int × List Nat)} {a b pw : Int} {tc t1 t2 tp : Tok}
   (hC : oC.data = .cell (some (.ref nA))) (hN : oN.IsDictOf (PySem.strKind PR w) kn) (hF : oF.IsDictOf (PySem.strKind PR w) kl) (va : valueAt kn (S cs) = some (.int a t1)) (vb : valueAt kl (S cs) = some (.int b t2))
   (ha1 : -500 ≤ a) (ha2 : a < 500) (hb1 : -500 ≤ b) (hb2 : b < 500) (hp1 : -600 ≤ pw) (hp2 : pw ≤ 600)
   (hv : All2 (LadR prs) vs lad) (hs : lad.Pairwise fun a b => a.1 ≤ b.1) (hl : lad.length < 100) (hna : ∀ q ∈ (nA, oN) :: (lA, oF) :: (L + 5, oC) :: (prs ++ ex), q.1 ≠ aA)
   (F : Fr g L s.heap m) (N : News g L s.heap ((aA, listOf vs.toArray n) :: (nA, oN) :: (lA, oF) :: (L + 5, oC) :: (prs ++ ex))) (mw : m (Str.ofString "word") = some (.str (S cs) tc)) (ml : m (Str.ofString "left") = some (.ref lA)) (md : m (Str.ofString "ladder") = some (.ref aA)) (mp : m (Str.ofString "power") = some (.int pw tp))
   (ret : ∀ h' tk' p o' n' vs', Fr g L h' m → News g L h' ((aA, listOf vs'.toArray n') :: (nA, oN) :: (lA, oF) :: (L + 5, oC) :: (((p, o') :: prs) ++ ex)) → (∀ q ∈ (nA, oN) :: (lA, oF) :: (L + 5, oC) :: (((p, o') :: prs) ++ ex), q.1 ≠ aA) → (∀ q ∈ prs ++ ex, q.1 ≠ p) → All2 (LadR ((p, o') :: prs)) vs' (insP (a - b * pw, cs) lad) → Q .next (St s h' tk')) :
   wpAny (model PR w) (Ar dp un fr gd) (execs bd (envOfC (Str.ofString "law") scope L fa cd)) Q E s := by
  refine with_look2 (K := hd.heap_1 w.params) (f := 140) (by k_dflt k_is) fun eb es => ?_
  rw [es] at hsc
  rw [eb] at hb
  dsimp only [List.getElem?_cons_succ, List.getElem?_cons_zero, forBody] at hb hsc
  (try replace hb := Option.some.inj hb)
  replace hsc := Option.some.inj hsc
  subst hb
  subst hsc
  clear eb es
  have he := explicit_eq [((Str.ofString "word"), .str (S cs) tc), ((Str.ofString "left"), .ref lA), ((Str.ofString "ladder"), .ref aA), ((Str.ofString "power"), .int pw tp)] (allC mw (allC ml (allC md (allC mp (List.forall_mem_nil _)))))
  rw [← he] at F
  k_steps
  refine ⟨?_⟩
  refine kda_item N (d := nA) (by k_mem) hN (strKind_is PR w (S cs) tc) va ?_
  k_steps
  refine ⟨?_⟩
  refine kda_item N (d := lA) (by k_mem) hF (strKind_is PR w (S cs) tc) vb ?_
  k_steps
  rename_i pA hrg FA NA up
  have hlen := hv.length
  have hx : ∀ q ∈ (aA, listOf vs.toArray n) :: (nA, oN) :: (lA, oF) :: (L + 5, oC) :: (prs ++ ex), q.1 ≠ pA := fun q hq => Nat.ne_of_lt (by
    obtain ⟨u1, u2, u3, u4, u5⟩ := up
    simp only [List.mem_cons] at hq
    rcases hq with rfl | rfl | rfl | rfl | hq
    · exact u1
    · exact u2
    · exact u3
    · exact u4
    · exact kst_ltOf u5 q hq)
  have mp0 : ∀ oP : Obj, ∀ q ∈ (aA, listOf vs.toArray n) :: (pA, oP) :: prs, q ∈ (pA, oP) :: (aA, listOf vs.toArray n) :: (nA, oN) :: (lA, oF) :: (L + 5, oC) :: (prs ++ ex) := fun oP q hq => subM (by (walk_at "sub"; done)) hq
  have mp1 : ∀ oP : Obj, ∀ q ∈ (aA, listOf vs.toArray n) :: (nA, oN) :: (lA, oF) :: (L + 5, oC) :: (((pA, oP) :: prs) ++ ex), q ∈ (pA, oP) :: (aA, listOf vs.toArray n) :: (nA, oN) :: (lA, oF) :: (L + 5, oC) :: (prs ++ ex) := fun oP q hq => subM (by (walk_at "sub"; done)) hq
  have hna1 : ∀ oP : Obj, ∀ q ∈ (nA, oN) :: (lA, oF) :: (L + 5, oC) :: (((pA, oP) :: prs) ++ ex), q.1 ≠ aA := fun oP q hq => (List.forall_mem_cons (a := (pA, oP))).mpr ⟨(hx _ (.head _)).symm, hna⟩ q (subM (by (walk_at "sub"; done)) hq)
  refine wpAny_call (k_insort (G := g) (prs := prs) (kx := a - b * pw) (kf := fun i => (lad.getD i (0, [])).1) (vs := vs) (n := n) ?hG Xg Tg ?hd ?hu (fun q hq => ⟨(NA q (mp0 _ q hq)).1, (NA q (mp0 _ q hq)).2.2⟩) (by omega) ?hna ?hv ?hs ?_)
  case hG => exact fun b o e => FA.keep b o e
  case hd => omega
  case hu => omega
  case hna => exact fun q hq => (List.mem_cons.mp hq).elim (fun e => by rw [e]; exact (hx _ (.head _)).symm) (fun h => hna q (by simp [h]))
  case hv =>
    intro i hi
    obtain ⟨q, hq, p, t, t', n, e, hm⟩ := hv.getL (List.getElem?_eq_getElem hi)
    refine ⟨p, t, .str (S q.2) t', n, by rw [List.getElem?_eq_getElem hi, e], ?_⟩
    rw [List.getD_eq_getElem?_getD, hq]
    exact hm
  case hs =>
    intro i j hij hj
    have h1 : lad[i]? = some (lad[i]'(by omega)) := List.getElem?_eq_getElem _
    have h2 : lad[j]? = some (lad[j]'(by omega)) := List.getElem?_eq_getElem _
    simp only [List.getD_eq_getElem?_getD, h1, h2, Option.getD_some]
    exact up_at hs hij h1 h2
  intro h2' tk2 lo n2 kp hlo hA hB e2
  have NB : News g L _ ((aA, listOf vs.toArray n) :: (nA, oN) :: (lA, oF) :: (L + 5, oC) :: (((pA, _) :: prs) ++ ex)) := fun q hq => NA q (mp1 _ q hq)
  have FZ := fr_upd1 FA NB kp
  have NZ := news_upd1 NB kp e2 (hna1 _)
  rw [he] at FZ
  k_steps
  refine ret _ _ pA _ n2 _ FZ NZ (hna1 _) (fun q hq => hx q (.tail _ (.tail _ (.tail _ (.tail _ hq))))) ?_
  exact lad_ins hv hA (fun i hi hl => hB i hi (by omega))
end
end Mine
end
section
open PySem PySem.W PyProof.Rows PySem.Calls PySem.Spec
namespace Mine
section
variable {w : World} {p : Program} {loose : List Str} {mean : ExcName → Option Value} {mg mb : Str → Option Value} {g : Heap} {s : Shared} {dp un : Nat} {fr : Option (List Env)} {gd : Option (List Code)} {Q : Flow → Shared → Prop} {E : Value → Shared → Prop} {rest : List (Addr × Obj)}
/-- the row that is made anew -/
def ladOf (key : List Nat → Int) (ws : List (List Nat)) : List (Int × List Nat) := ws.foldl (fun l cs => insP (key cs, cs) l) []
theorem ladOf_snoc (key : List Nat → Int) (ws : List (List Nat)) (cs : List Nat) : ladOf key (ws ++ [cs]) = insP (key cs, cs) (ladOf key ws) := by unfold ladOf; rw [List.foldl_append]; rfl
theorem insP_len (q : Int × List Nat) (l : List (Int × List Nat)) : (insP q l).length = l.length + 1 := by
  have := congrArg List.length (List.takeWhile_append_dropWhile (p := fun r : Int × List Nat => decide (r.1 ≤ q.1)) (l := l))
  unfold insP
  simp only [List.length_append, List.length_cons] at *
  omega
theorem snocI {α : Type} {P : List α → Prop} (h0 : P []) (h1 : ∀ l a, P l → P (l ++ [a])) : ∀ l, P l := fun l => by
  have : ∀ r : List α, P r.reverse := fun r => by
    induction r with
    | nil => exact h0
    | cons a r ih => rw [List.reverse_cons]; exact h1 _ _ ih
  have := this l.reverse
  rwa [List.reverse_reverse] at this
theorem ladOf_len (key : List Nat → Int) : ∀ ws, (ladOf key ws).length = ws.length := snocI rfl fun l a h => by rw [ladOf_snoc, insP_len, h]; simp
theorem ladOf_up (key : List Nat → Int) : ∀ ws, (ladOf key ws).Pairwise fun a b => a.1 ≤ b.1 := snocI List.Pairwise.nil fun l a h => by rw [ladOf_snoc]; exact UpP.ins _ h
set_option maxRecDepth 100000 in
set_option maxHeartbeats 8000000 in
theorem d12_loop (Xg : (hd.heap_1 w.params).In g) (Tg : Top p loose mean mg mb g) (hdp : dp < 600) (hun : un < 6000) {L fa : Addr} {cd : Value} {scope : Scope} (hsc : scopeAt (hd.heap_1 w.params) 140 = some scope) {bd : List Stmt} (hb : bd = forBody ((forBody (bodyAt (hd.heap_1 w.params) 140)[21]?)[12]?))
   {oC oN oF : Obj} {m : Str → Option Value} {ex : List (Addr × Obj)} {aA nA lA tA : Addr} {tv : List Value} {n nt : Nat} {words : List (List Nat)} {kn kl : List (Str × Value)} {fN fL : List Nat → Int} {pw : Int} {tp : Tok} {px : Pos}
   (hC : oC.data = .cell (some (.ref nA))) (hN : oN.IsDictOf (PySem.strKind PR w) kn) (hF : oF.IsDictOf (PySem.strKind PR w) kl) (hkn : NumD kn words fN) (hkl : NumD kl words fL)
   (hfn : ∀ cs ∈ words, -500 ≤ fN cs ∧ fN cs < 500) (hfl : ∀ cs ∈ words, -500 ≤ fL cs ∧ fL cs < 500) (hp1 : -600 ≤ pw) (hp2 : pw ≤ 600) (ht : StrsAre tv (words.map S)) (hwl : words.length < 100)
   (hna : ∀ q ∈ (nA, oN) :: (lA, oF) :: (L + 5, oC) :: ((tA, listOf tv.toArray nt) :: ex), q.1 ≠ aA)
   (F : Fr g L s.heap m) (N : News g L s.heap ((aA, listOf ([] : List Value).toArray n) :: (nA, oN) :: (lA, oF) :: (L + 5, oC) :: (([] : List (Addr × Obj)) ++ ((tA, listOf tv.toArray nt) :: ex)))) (ml : m (Str.ofString "left") = some (.ref lA)) (md : m (Str.ofString "ladder") = some (.ref aA)) (mp : m (Str.ofString "power") = some (.int pw tp))
   (ret : ∀ h' tk' m' vs n' prs, Fr g L h' m' → News g L h' ((aA, listOf vs.toArray n') :: (nA, oN) :: (lA, oF) :: (L + 5, oC) :: (prs ++ ((tA, listOf tv.toArray nt) :: ex))) → All2 (LadR prs) vs (ladOf (fun cs => fN cs - fL cs * pw) words) → Same [(Str.ofString "word")] m m' → Q .next (St s h' tk')) :
   wpAny (model PR w) (Ar dp un fr gd) (pyIter (.ref tA)) (fun it s₂ => LoopOk PR w (Ar dp un fr gd) (envOfC (Str.ofString "law") scope L fa cd) (.Name (Str.ofString "word") px) bd Q it s₂) E s := by
  have htl := ht.len_eq
  rw [List.length_map] at htl
  have hb0 := hb
  have hsc0 := hsc
  refine with_look2 (K := hd.heap_1 w.params) (f := 140) (by k_dflt k_is) fun eb es => ?_
  rw [es] at hsc
  rw [eb] at hb
  dsimp only [List.getElem?_cons_succ, List.getElem?_cons_zero, forBody] at hb hsc
  (try replace hb := Option.some.inj hb)
  replace hsc := Option.some.inj hsc
  subst hb
  subst hsc
  clear eb es
  refine wpAny_pyIter_list (N.isList (a := tA) (by simp : (tA, listOf tv.toArray nt) ∈ _)) ?_
  have F1 := F.push ({ cls := .type "list_iterator", data := .fields #[.ref tA, .int 0 0] } : Obj)
  have N1 := N.push F ({ cls := .type "list_iterator", data := .fields #[.ref tA, .int 0 0] } : Obj)
  have hlt : ∀ q ∈ ((aA, listOf ([] : List Value).toArray n) :: (nA, oN) :: (lA, oF) :: (L + 5, oC) :: (([] : List (Addr × Obj)) ++ ((tA, listOf tv.toArray nt) :: ex))), @LT.lt Nat _ q.1 s.heap.objs.size := fun q hq => Heap.lt_size (N q hq).1
  generalize s.heap.objs.size = it at *
  refine loopInv rfl (Itr.list (prog := PR) (w := w) (it := it) (l := tA) tv) (fun i m' news' => ∀ C : Prop, (∀ vs n' prs, (news' = ((aA, listOf vs.toArray n') :: (nA, oN) :: (lA, oF) :: (L + 5, oC) :: (prs ++ ((tA, listOf tv.toArray nt) :: ex)))) → (All2 (LadR prs) vs (ladOf (fun cs => fN cs - fL cs * pw) (words.take i))) → ((∀ q ∈ prs, q.1 ≠ aA)) → (Same [(Str.ofString "word")] m m') → C) → C)
    (fun i m' news' h hI0 _ N => hI0 _ fun vs n' prs e _ _ _ => by rw [e] at N; exact N.isList (a := tA) (by simp : (tA, listOf tv.toArray nt) ∈ _)) F1 N1 ⟨rfl, rfl⟩ (fun q hq => Nat.ne_of_lt (hlt q hq)) (fun _ k => k [] n [] rfl .nil (fun _ h => nomatch h) (Same.refl _ _)) ?_ ?_
  · rintro i v m1 news1 h tk o1 hi hP hI0
    refine hI0 _ ?_
    clear hI0
    rintro vs n1 prs rfl hvs hpr hs F2 N2 hne J hJ
    obtain ⟨y, ty, rfl, hyi⟩ := ht.item i v hP
    obtain ⟨cs, hcsi, rfl⟩ : ∃ cs, words[i]? = some cs ∧ y = S cs := by
      rw [List.getElem?_map] at hyi
      cases e : words[i]? with
      | none => rw [e] at hyi; cases hyi
      | some cs => rw [e] at hyi; exact ⟨cs, rfl, (Option.some.inj hyi).symm⟩
    have hmem := List.mem_of_getElem? hcsi
    obtain ⟨ta, hva⟩ := hkn.val cs hmem
    obtain ⟨tb, hvb⟩ := hkl.val cs hmem
    have hll := ladOf_len (fun cs => fN cs - fL cs * pw) (words.take i)
    rw [List.length_take] at hll
    walk1
    walk1
    (with_reducible rename Fr _ _ _ _ => F3); (with_reducible rename News _ _ _ _ => N3)
    have hN3 : News g L _ ((aA, listOf vs.toArray n1) :: (nA, oN) :: (lA, oF) :: (L + 5, oC) :: (prs ++ ((it, o1) :: (tA, listOf tv.toArray nt) :: ex))) := fun q hq => N3 q (subM (by (walk_at "sub"; done)) hq)
    refine d12_body (ex := (it, o1) :: (tA, listOf tv.toArray nt) :: ex) (prs := prs) (vs := vs) (n := n1) (cs := cs) (pw := pw) (lad := ladOf (fun cs => fN cs - fL cs * pw) (words.take i)) Xg Tg hdp hun hsc0 hb0 hC hN hF hva hvb (hfn cs hmem).1 (hfn cs hmem).2 (hfl cs hmem).1 (hfl cs hmem).2 hp1 hp2 hvs (ladOf_up _ _) (by omega) (fun q hq => ?_) F3 hN3 rfl ((hs _ (by decide)).trans ml) ((hs _ (by decide)).trans md) ((hs _ (by decide)).trans mp) ?_
    · exact (List.forall_mem_append.mpr ⟨hpr, (List.forall_mem_cons (a := (it, o1))).mpr ⟨(hne (aA, _) (.head _)).symm, hna⟩⟩) q (subM (by (walk_at "sub"; done)) hq)
    intro h4' tk4 p4 o4 n4 vs4 F4 N4 hn4 hp4 hv4
    have ex1 : words.take (i + 1) = words.take i ++ [cs] := take_snoc hcsi
    refine TurnEnd.mk <| hJ _ ((aA, listOf vs4.toArray n4) :: (nA, oN) :: (lA, oF) :: (L + 5, oC) :: (((p4, o4) :: prs) ++ ((tA, listOf tv.toArray nt) :: ex))) h4' tk4 F4 (fun q hq => N4 q (subM (by (walk_at "sub"; done)) hq)) ?_ (fun _ k => k vs4 n4 ((p4, o4) :: prs) rfl (by rw [ex1, ladOf_snoc]; exact hv4) (fun q hq => ?_) (hs.trans fun y hy => ?_))
    · exact fun q hq => (List.forall_mem_cons (a := (aA, listOf vs4.toArray n4))).mpr ⟨(hne (aA, listOf vs.toArray n1) (.head _) : aA ≠ it), (List.forall_mem_cons (a := (p4, o4))).mpr ⟨(hp4 (it, o1) (by first | (walk_at "mem"; done) | simp)).symm, hne⟩⟩ q (subM (by (walk_at "sub"; done)) hq)
    · exact hn4 q (by simp only [List.mem_cons, List.mem_append]; rcases List.mem_cons.mp hq with h | h <;> simp [h])
    · exact if_neg fun z => hy (by rw [z]; decide)
  · rintro m1 news1 h tk hI0
    refine hI0 _ ?_
    clear hI0
    rintro vs n1 prs rfl hvs hpr hs F2 N2
    rw [List.take_of_length_le (by omega)] at hvs
    exact ret _ _ _ vs n1 prs F2 N2 hvs hs
end
end Mine
end
section
set_option maxRecDepth 100000
set_option maxHeartbeats 4000000
namespace Mine
open PySem PySem.W PySem.Calls PyProof.Rows

/-- a tree of asks, answered by numbers -/
def OkT {α : Type} (n : Nat) (d : Nat → Int) : KasT α → (α → Prop) → Prop
  | .ret a, P => P a
  | .ask i j k, P => i < n ∧ j < n ∧ OkT n d (k (decide (d i < d j))) P
theorem OkT.bind {α β : Type} {n : Nat} {d : Nat → Int} {f : α → KasT β} {P : β → Prop} : ∀ {t : KasT α}, OkT n d t (fun a => OkT n d (f a) P) → OkT n d (t.bind f) P
  | .ret _, h => h
  | .ask _ _ _, ⟨hi, hj, h⟩ => ⟨hi, hj, OkT.bind h⟩
theorem OkT.mono {α : Type} {n : Nat} {d : Nat → Int} {P R : α → Prop} (k : ∀ a, P a → R a) : ∀ {t : KasT α}, OkT n d t P → OkT n d t R
  | .ret a, h => k a h
  | .ask _ _ _, ⟨hi, hj, h⟩ => ⟨hi, hj, OkT.mono k h⟩
theorem OkT.wp {α : Type} {n : Nat} {d : Nat → Int} {P : α → Prop} {I : Shared → Prop} {cmp : Nat → Nat → (Bool → Shared → Prop) → Shared → Prop} {Q : α → Shared → Prop}
    (hc : ∀ i j C s, i < n → j < n → I s → (∀ s', I s' → C (decide (d i < d j)) s') → cmp i j C s) (hq : ∀ a s, P a → I s → Q a s) : ∀ {t : KasT α} {s : Shared}, OkT n d t P → I s → t.kasWp cmp Q s
  | .ret a, s, h, hs => hq a s h hs
  | .ask i j k, s, ⟨hi, hj, h⟩, hs => hc i j _ s hi hj hs fun s' hs' => OkT.wp hc hq h hs'

section
variable {n : Nat} {d : Nat → Int} {p : Array Nat}
def DP (d : Nat → Int) (p : Array Nat) (k : Nat) : Int := d (p.getD k 0)
def UpTo (d : Nat → Int) (p : Array Nat) (m : Nat) : Prop := ∀ i j, i < j → j < m → DP d p i < DP d p j
def DownTo (d : Nat → Int) (p : Array Nat) (m : Nat) : Prop := ∀ i j, i < j → j < m → DP d p j < DP d p i
/-- the places of n things, in some order -/
structure PermN (n : Nat) (p : Array Nat) : Prop where
  size : p.size = n
  perm : p.toList.Perm (List.range n)
theorem PermN.getD (hp : PermN n p) {k : Nat} (hk : k < n) : ∃ h : k < p.toList.length, p.getD k 0 = p.toList[k] := by
  have hk' : k < p.size := hp.size ▸ hk
  exact ⟨by rw [Array.length_toList]; exact hk', by rw [Array.getD, dif_pos hk']; exact (Array.getElem_toList _).symm⟩
theorem PermN.lt (hp : PermN n p) (k : Nat) (hk : k < n) : p.getD k 0 < n := by
  obtain ⟨h, e⟩ := hp.getD hk
  exact e ▸ List.mem_range.mp (hp.perm.mem_iff.mp (List.getElem_mem h))
theorem PermN.inj (hp : PermN n p) (i j : Nat) (hi : i < n) (hj : j < n) (e : p.getD i 0 = p.getD j 0) : i = j := by
  obtain ⟨h1, e1⟩ := hp.getD hi
  obtain ⟨h2, e2⟩ := hp.getD hj
  exact (List.getElem_inj (hp.perm.nodup_iff.mpr List.nodup_range)).mp (e1.symm.trans (e.trans e2))
def Inj (n : Nat) (d : Nat → Int) : Prop := ∀ i j, i < n → j < n → d i = d j → i = j
theorem PermN.ne (hd : Inj n d) (hp : PermN n p) {i j : Nat} (hi : i < n) (hj : j < n) (h : i ≠ j) : DP d p i ≠ DP d p j := fun e => h (hp.inj i j hi hj (hd _ _ (hp.lt i hi) (hp.lt j hj) e))
theorem up_snoc {m : Nat} (h : UpTo d p m) (hm : 1 ≤ m) (hl : DP d p (m - 1) < DP d p m) : UpTo d p (m + 1) := fun i j hij hj => by
  rcases Nat.lt_or_ge j m with h' | h'
  · exact h i j hij h'
  · have : j = m := by omega
    subst this
    rcases Nat.lt_or_ge i (j - 1) with h2 | h2
    · exact Int.lt_trans (h i (j - 1) h2 (by omega)) hl
    · have : i = j - 1 := by omega
      rw [this]; exact hl
theorem down_snoc {m : Nat} (h : DownTo d p m) (hm : 1 ≤ m) (hl : DP d p m < DP d p (m - 1)) : DownTo d p (m + 1) := fun i j hij hj => by
  rcases Nat.lt_or_ge j m with h' | h'
  · exact h i j hij h'
  · have : j = m := by omega
    subst this
    rcases Nat.lt_or_ge i (j - 1) with h2 | h2
    · exact Int.lt_trans hl (h i (j - 1) h2 (by omega))
    · have : i = j - 1 := by omega
      rw [this]; exact hl
theorem ok_asc (hd : Inj n d) (hp : PermN n p) : ∀ (f m : Nat), m + f = n → 1 ≤ m → UpTo d p m → OkT n d (kas_asc p f m) (fun r => m ≤ r ∧ r ≤ n ∧ UpTo d p r)
  | 0, m, e, h1, hu => ⟨Nat.le_refl _, by omega, hu⟩
  | f + 1, m, e, h1, hu => by
    refine ⟨hp.lt m (by omega), hp.lt (m - 1) (by omega), ?_⟩
    by_cases c : d (p.getD m 0) < d (p.getD (m - 1) 0)
    · simp only [decide_eq_true c, if_true]
      exact ⟨Nat.le_refl _, by omega, hu⟩
    · simp only [decide_eq_false c, Bool.false_eq_true, if_false]
      have hne : DP d p m ≠ DP d p (m - 1) := hp.ne hd (by omega) (by omega) (by omega)
      have c' : ¬ DP d p m < DP d p (m - 1) := c
      exact (ok_asc hd hp f (m + 1) (by omega) (by omega) (up_snoc hu h1 (by omega))).mono fun r h => ⟨by omega, h.2⟩
theorem ok_desc (hd : Inj n d) (hp : PermN n p) : ∀ (f m : Nat), m + f = n → 1 ≤ m → DownTo d p m → OkT n d (kas_desc f p m 0) (fun r => r.1 = p ∧ r.2.2 = 0 ∧ m ≤ r.2.1 ∧ r.2.1 ≤ n ∧ DownTo d p r.2.1)
  | 0, m, e, h1, hu => ⟨rfl, rfl, Nat.le_refl _, (show m ≤ n by omega), hu⟩
  | f + 1, m, e, h1, hu => by
    refine ⟨hp.lt m (by omega), hp.lt (m - 1) (by omega), ?_⟩
    by_cases c : d (p.getD m 0) < d (p.getD (m - 1) 0)
    · simp only [decide_eq_true c, if_true, Nat.lt_irrefl, if_false, gt_iff_lt]
      exact (ok_desc hd hp f (m + 1) (by omega) (by omega) (down_snoc hu h1 c)).mono fun r h => ⟨h.1, h.2.1, by omega, h.2.2.2⟩
    · simp only [decide_eq_false c, Bool.false_eq_true, if_false]
      have hne : DP d p m ≠ DP d p (m - 1) := hp.ne hd (by omega) (by omega) (by omega)
      have c' : ¬ DP d p m < DP d p (m - 1) := c
      refine ⟨hp.lt (m - 1) (by omega), hp.lt m (by omega), ?_⟩
      have c2 : d (p.getD (m - 1) 0) < d (p.getD m 0) := by unfold DP at hne c'; omega
      simp only [decide_eq_true c2, if_true]
      exact ⟨rfl, rfl, Nat.le_refl _, (show m ≤ n by omega), hu⟩
theorem getD_of {q : Array Nat} {k : Nat} {o : Option Nat} (h : q[k]? = o) : q.getD k 0 = o.getD 0 := by
  rw [← h, Array.getD_eq_getD_getElem?]
theorem rev_getD {m : Nat} (hm : m ≤ p.size) (k : Nat) : (kas_rev p 0 m).getD k 0 = if k < m then p.getD (m - 1 - k) 0 else p.getD k 0 := by
  have h := getElem?_mirror_all (xs := p) (i := 0) (j := m) hm k
  rw [getD_of (q := kas_rev p 0 m) h]
  by_cases e : k < m
  · rw [if_pos ⟨Nat.zero_le _, e⟩, if_pos e, Array.getD_eq_getD_getElem?, Nat.zero_add]
  · rw [if_neg (fun z => e z.2), if_neg e, Array.getD_eq_getD_getElem?]
theorem PermN.rev (hp : PermN n p) {m : Nat} (hm : m ≤ n) : PermN n (kas_rev p 0 m) :=
  ⟨by rw [kas_rev_size]; exact hp.size, (Array.perm_iff_toList_perm.mp (mirror_perm p 0 m _)).trans hp.perm⟩
theorem down_rev (hs : p.size = n) {m : Nat} (hm : m ≤ n) (h : DownTo d p m) : UpTo d (kas_rev p 0 m) m := fun i j hij hj => by
  unfold DP
  rw [rev_getD (by omega), rev_getD (by omega), if_pos (by omega), if_pos hj]
  exact h (m - 1 - j) (m - 1 - i) (by omega) (by omega)
theorem ok_tail3 (hd : Inj n d) (hp : PermN n p) {m : Nat} (h1 : 1 ≤ m) (hm : m ≤ n) (h : DownTo d p m) : OkT n d (kas_tail3 m n p) (fun r => 1 ≤ r.1 ∧ r.1 ≤ n ∧ PermN n r.2 ∧ UpTo d r.2 r.1) := by
  refine OkT.bind ((ok_asc hd (hp.rev hm) (n - m) m (by omega) h1 (down_rev hp.size hm h)).mono fun r hr => ?_)
  exact ⟨by omega, hr.2.1, hp.rev hm, hr.2.2⟩
theorem ok_count (hd : Inj n d) (hp : PermN n p) (hn : 1 ≤ n) : OkT n d (kas_count n p) (fun r => 1 ≤ r.1 ∧ r.1 ≤ n ∧ PermN n r.2 ∧ UpTo d r.2 r.1) := by
  unfold kas_count
  -- the first run, going up
  have first : OkT n d (kas_asc p (n - 1) 1) (fun r => 1 ≤ r ∧ r ≤ n ∧ UpTo d p r ∧ (r < n → DP d p r < DP d p (r - 1))) := by
    have gen : ∀ (f m : Nat), m + f = n → 1 ≤ m → UpTo d p m → OkT n d (kas_asc p f m) (fun r => 1 ≤ r ∧ r ≤ n ∧ UpTo d p r ∧ (r < n → DP d p r < DP d p (r - 1))) := fun f => by
      induction f with
      | zero => intro m e h1 hu; exact ⟨h1, by omega, hu, fun z => by omega⟩
      | succ f ih =>
        intro m e h1 hu
        refine ⟨hp.lt m (by omega), hp.lt (m - 1) (by omega), ?_⟩
        by_cases c : d (p.getD m 0) < d (p.getD (m - 1) 0)
        · simp only [decide_eq_true c, if_true]
          exact ⟨h1, by omega, hu, fun _ => c⟩
        · simp only [decide_eq_false c, Bool.false_eq_true, if_false]
          have hne : DP d p m ≠ DP d p (m - 1) := hp.ne hd (by omega) (by omega) (by omega)
          have c' : ¬ DP d p m < DP d p (m - 1) := c
          exact ih (m + 1) (by omega) (by omega) (up_snoc hu h1 (by omega))
    exact gen (n - 1) 1 (by omega) (Nat.le_refl _) (fun i j h1 h2 => by omega)
  refine OkT.bind (first.mono fun r hr => ?_)
  obtain ⟨r1, r2, r3, r4⟩ := hr
  by_cases e : r = n
  · subst e
    simp only [beq_self_eq_true, if_true]
    exact ⟨r1, r2, hp, r3⟩
  · have e' : (r == n) = false := by simpa using e
    simp only [e', Bool.false_eq_true, if_false]
    by_cases g : r > 1
    · rw [if_pos g]
      refine ⟨hp.lt 0 (by omega), hp.lt (r - 1) (by omega), ?_⟩
      have c : d (p.getD 0 0) < d (p.getD (r - 1) 0) := r3 0 (r - 1) (by omega) (by omega)
      simp only [decide_eq_true c, if_true]
      exact ⟨r1, r2, hp, r3⟩
    · rw [if_neg g]
      have hr : r = 1 := by omega
      subst hr
      have hdn : DownTo d p 2 := fun i j h1 h2 => by
        have := r4 (by omega)
        have : i = 0 := by omega
        have : j = 1 := by omega
        subst i j
        assumption
      refine OkT.bind ((ok_desc hd hp (n - 2) 2 (by omega) (by omega) hdn).mono fun q hq => ?_)
      obtain ⟨q1, q2, q3, q4, q5⟩ := hq
      rw [q1, q2]
      simp only [Nat.lt_irrefl, if_false, gt_iff_lt]
      exact ok_tail3 hd hp (by omega) q4 q5
theorem ok_place (hd : Inj n d) (hp : PermN n p) {k : Nat} (hk : k < n) (hu : UpTo d p k) : ∀ (f l r : Nat), l ≤ r → r ≤ k → r - l ≤ f → (∀ i, i < l → DP d p i < DP d p k) → (∀ i, r ≤ i → i < k → DP d p k < DP d p i) →
    OkT n d (kas_place p k f l r) (fun q => q ≤ k ∧ (∀ i, i < q → DP d p i < DP d p k) ∧ (∀ i, q ≤ i → i < k → DP d p k < DP d p i))
  | 0, l, r, h1, h2, h3, hA, hB => by
    cases Nat.le_antisymm h1 (Nat.sub_eq_zero_iff_le.mp (Nat.le_zero.mp h3))
    exact ⟨h2, hA, hB⟩
  | f + 1, l, r, h1, h2, h3, hA, hB => by
    unfold kas_place
    by_cases e : l ≥ r
    · rw [if_pos e]
      cases Nat.le_antisymm h1 e
      exact ⟨h2, hA, hB⟩
    · rw [if_neg e]
      obtain ⟨m1, m2, m3, m4⟩ := midP (Nat.lt_of_not_le e) h3
      generalize (l + r) / 2 = q at m1 m2 m3 m4 ⊢
      have qk : q < k := Nat.lt_of_lt_of_le m2 h2
      refine ⟨hp.lt k hk, hp.lt _ (Nat.lt_trans qk hk), ?_⟩
      by_cases c : d (p.getD k 0) < d (p.getD q 0)
      · simp only [decide_eq_true c, if_true]
        refine ok_place hd hp hk hu f l q m1 (Nat.le_of_lt qk) m3 hA fun i hi hik => ?_
        rcases Nat.lt_or_eq_of_le hi with h | h
        · exact Int.lt_trans c (hu _ _ h hik)
        · exact h ▸ c
      · simp only [decide_eq_false c, Bool.false_eq_true, if_false]
        refine ok_place hd hp hk hu f (q + 1) r m2 h2 m4 (fun i hi => ?_) hB
        have hne : DP d p q < DP d p k := Int.lt_iff_le_and_ne.mpr ⟨Int.not_lt.mp c, (hp.ne hd hk (Nat.lt_trans qk hk) (Nat.ne_of_gt qk)).symm⟩
        rcases Nat.lt_or_eq_of_le (Nat.le_of_lt_succ hi) with h | h
        · exact Int.lt_trans (hu i q h qk) hne
        · exact h ▸ hne
theorem bub_getD {k l : Nat} (hk : k < p.size) (hl : l ≤ k) (i : Nat) : (bubble p k (k - l)).getD i 0 = if i = l then p.getD k 0 else if l < i ∧ i ≤ k then p.getD (i - 1) 0 else p.getD i 0 := by
  have h := getElem?_bubble hk (k - l) (by omega) i
  rw [show k - (k - l) = l by omega] at h
  rw [getD_of h]
  simp only [Array.getD_eq_getD_getElem?]
  repeat' split
  all_goals rfl
theorem PermN.bub (hp : PermN n p) {k l : Nat} (hk : k < n) (hl : l ≤ k) : PermN n (bubble p k (k - l)) :=
  ⟨by rw [bubble_size]; exact hp.size, (Array.perm_iff_toList_perm.mp (bubble_perm p k _)).trans hp.perm⟩
theorem bub_lt {k l : Nat} (hk : k < p.size) (hl : l ≤ k) {i : Nat} (h : i < l) : (bubble p k (k - l)).getD i 0 = p.getD i 0 := by
  rw [bub_getD hk hl, if_neg (Nat.ne_of_lt h), if_neg fun z => Nat.lt_asymm h z.1]
theorem bub_eq {k l : Nat} (hk : k < p.size) (hl : l ≤ k) : (bubble p k (k - l)).getD l 0 = p.getD k 0 := by
  rw [bub_getD hk hl, if_pos rfl]
theorem bub_gt {k l : Nat} (hk : k < p.size) (hl : l ≤ k) {i : Nat} (h : l ≤ i) (g : i < k) : (bubble p k (k - l)).getD (i + 1) 0 = p.getD i 0 := by
  rw [bub_getD hk hl, if_neg (Nat.ne_of_gt (Nat.lt_succ_of_le h)), if_pos ⟨Nat.lt_succ_of_le h, g⟩, Nat.add_sub_cancel]
theorem up_bub (hs : p.size = n) {k l : Nat} (hk : k < n) (hl : l ≤ k) (hu : UpTo d p k) (hA : ∀ i, i < l → DP d p i < DP d p k) (hB : ∀ i, l ≤ i → i < k → DP d p k < DP d p i) : UpTo d (bubble p k (k - l)) (k + 1) := fun i j hij hj => by
  have hk' : k < p.size := hs ▸ hk
  unfold DP
  unfold DP UpTo at *
  rcases Nat.lt_or_ge j (l + 1) with hjl | hjl
  · have il : i < l := Nat.lt_of_lt_of_le hij (Nat.le_of_lt_succ hjl)
    rw [bub_lt hk' hl il]
    rcases Nat.lt_or_eq_of_le (Nat.le_of_lt_succ hjl) with h | rfl
    · rw [bub_lt hk' hl h]
      exact hu _ _ hij (Nat.lt_of_lt_of_le h hl)
    · rw [bub_eq hk' hl]
      exact hA _ il
  · match j, hjl with
    | j + 1, hjl =>
      have lj : l ≤ j := Nat.le_of_succ_le_succ hjl
      have jk : j < k := Nat.lt_of_succ_lt_succ hj
      rw [bub_gt hk' hl lj jk]
      rcases Nat.lt_trichotomy i l with h | rfl | h
      · rw [bub_lt hk' hl h]
        exact hu _ _ (Nat.lt_of_lt_of_le h lj) jk
      · rw [bub_eq hk' hl]
        exact hB _ lj jk
      · match i, h with
        | i + 1, h =>
          have ij : i < j := Nat.lt_of_succ_lt_succ hij
          rw [bub_gt hk' hl (Nat.le_of_lt_succ h) (Nat.lt_trans ij jk)]
          exact hu _ _ ij jk
theorem ok_bin (hd : Inj n d) : ∀ (f : Nat) (p : Array Nat) (k : Nat), k + f = n → PermN n p → UpTo d p k → OkT n d (kas_bin f p k) (fun q => PermN n q ∧ UpTo d q n)
  | 0, p, k, e, hp, hu => by
    have : k = n := by omega
    subst this
    exact ⟨hp, hu⟩
  | f + 1, p, k, e, hp, hu => by
    refine OkT.bind ((ok_place hd hp (by omega : k < n) hu k 0 k (Nat.zero_le _) (Nat.le_refl _) (by omega) (fun _ h => absurd h (Nat.not_lt_zero _)) (fun i h1 h2 => by omega)).mono fun l hl => ?_)
    exact ok_bin hd f _ (k + 1) (by omega) (hp.bub (by omega) hl.1) (up_bub hp.size (by omega) hl.1 hu hl.2.1 hl.2.2)
theorem ok_sort (hd : Inj n d) (hn : 1 ≤ n) : OkT n d (kas_sort n) (fun q => PermN n q ∧ UpTo d q n) := by
  have hp : PermN n (List.toArray (List.range n)) := by
    exact ⟨by simp, by simp⟩
  refine OkT.bind ((ok_count hd hp hn).mono fun r hr => ?_)
  obtain ⟨r1, r2, r3, r4⟩ := hr
  by_cases e : r.1 < n
  · rw [if_pos e, show max r.1 1 = r.1 by omega]
    exact ok_bin hd _ _ _ (by omega) r3 r4
  · rw [if_neg e]
    have : r.1 = n := by omega
    rw [this] at r4
    exact ⟨r3, r4⟩
end
end Mine
end
section
set_option maxRecDepth 100000
set_option maxHeartbeats 4000000
namespace Mine
open PySem PySem.W PySem.Calls PyProof.Rows

abbrev tup2 (a : Int) (t : Tok) (i : Int) (u : Tok) : Obj := { cls := .type "tuple", data := .seq #[.int a t, .int i u] }
/-- a pair of a number and a place -/
def TupR (prs : List (Addr × Obj)) (v : Value) (a : Int) (k : Nat) : Prop := ∃ x t u, v = .ref x ∧ (x, tup2 a t (k : Int) u) ∈ prs
theorem TupR.mono {prs prs' : List (Addr × Obj)} {v : Value} {a : Int} {k : Nat} (h : TupR prs v a k) (hp : ∀ q ∈ prs, q ∈ prs') : TupR prs' v a k := by
  obtain ⟨x, t, u, e, m⟩ := h
  exact ⟨x, t, u, e, hp _ m⟩

section
variable {prog : Program} {w : World} {A : Around} {E : Value → Shared → Prop} {s : Shared} {h₀ : Heap} {L : Addr} {m : Str → Option Value} {news : List (Addr × Obj)}
theorem ltF_int {a b : Int} {t u : Tok} {Q : Bool → Shared → Prop} (h : Q (decide (a < b)) s) : wpAny (model prog w) A (oneLt' false (.int a t) (.int b u)) Q E s := by
  exact kat_one _ _ (lt_int h)
theorem ask_tup {x y : Addr} {a b i j : Int} {t u t' u' : Tok} {Q : Bool → Shared → Prop} (hx : s.heap.get? x = some (tup2 a t i u)) (hy : s.heap.get? y = some (tup2 b t' j u')) (h : Q (decide (a < b ∨ a = b ∧ i < j)) s) :
    wpAny (model prog w) A (keyLt' (tuples' true) (.ref x) (.ref y)) Q E s := by
  refine kat_lt hx rfl hy rfl ?_
  refine kat_cons (wpAny_eqBool_int ?_)
  by_cases e : a = b
  · subst e
    simp only [beq_self_eq_true]
    refine kat_yes (kat_cons (wpAny_eqBool_int ?_))
    by_cases e2 : i = j
    · subst e2
      simp only [beq_self_eq_true]
      refine kat_yes (kat_nil ?_)
      simpa using h
    · simp only [show (i == j) = false by simpa using e2]
      refine kat_no (ltF_int ?_)
      simpa using h
  · simp only [show (a == b) = false by simpa using e]
    refine kat_no (oneLt_int ?_)
    simpa [e] using h
theorem tups_of {h : Heap} {prs : List (Addr × Obj)} {f : Nat → Int} (hp : ∀ q ∈ prs, h.get? q.1 = some q.2) : ∀ {vs : List Value} {ks : List Nat}, All2 (fun v k => TupR prs v (f k) k) vs ks → ∃ fs, KatTups h vs fs ∧ fs.length = vs.length ∧ ∀ v ∈ fs, ∃ a t, v = .int a t
  | _, _, .nil => ⟨[], .nil, rfl, fun _ h => nomatch h⟩
  | _, _, .cons (b := k) ⟨x, t, u, e, hm⟩ hr => by
    obtain ⟨fs, h1, h2, h3⟩ := tups_of hp hr
    subst e
    refine ⟨.int (f k) t :: fs, KatTups.cons (hp _ hm) rfl rfl rfl h1, by simp [h2], fun v hv => ?_⟩
    rcases List.mem_cons.mp hv with rfl | hv
    · exact ⟨_, _, rfl⟩
    · exact h3 v hv
theorem sorted_pairs {l : Addr} {k : Nat} {vs : List Value} {prs : List (Addr × Obj)} {f : Nat → Int} {n : Nat} {Q : Value → Shared → Prop} (F : Fr h₀ L s.heap m) (N : News h₀ L s.heap news) (hl : (l, listOf vs.toArray k) ∈ news) (hp : ∀ q ∈ prs, q ∈ news)
    (hv : All2 (fun v k => TupR prs v (f k) k) vs (List.range n)) (h2 : 2 ≤ n) (h64 : n < 64)
    (ret : ∀ D h' c q, Fr h₀ L h' m → News h₀ L h' ((D, listOf (q.toList.map fun i => vs.getD i Value.none).toArray c) :: news) → (∀ r ∈ news, r.1 ≠ D) → PermN n q → UpTo (fun i => f i * 64 + i) q n → Q (.ref D) { s with heap := h' }) :
    wpAny (model prog w) A (call (.builtin "sorted") [.ref l]) Q E s := by
  have hlen := hv.length
  rw [List.length_range] at hlen
  refine kat_sorted F N (N.isList hl) (by omega) (by omega) ?_
  intro D e1 h' F1 N1 hD
  obtain ⟨fs, h3, h4, h5⟩ := tups_of (h := h') (fun q hq => (N1 q (.tail _ (hp q hq))).1) hv
  refine kat_kind (T := .type "int") h3 (by omega) (fun v hv => ?_) (by decide) ?_
  · obtain ⟨a, t, rfl⟩ := h5 v hv
    exact Looks.of_pure rfl
  rw [hlen]
  refine OkT.wp (n := n) (d := fun i => f i * 64 + i) (I := fun s' => s' = { s with heap := h' }) (P := fun q => PermN n q ∧ UpTo (fun i => f i * 64 + i) q n) (fun i j C s' hi hj hI hC => ?_) (fun q s' hq hI => ?_) (ok_sort (fun i j hi hj e => by omega) (by omega)) rfl
  · subst hI
    obtain ⟨v1, e1, x1, t1, u1, rfl, m1⟩ := hv.get (i := i) (b := i) (by simp [hi])
    obtain ⟨v2, e2, x2, t2, u2, rfl, m2⟩ := hv.get (i := j) (b := j) (by simp [hj])
    unfold kas_ask
    rw [List.getD_eq_getElem?_getD, List.getD_eq_getElem?_getD, e1, e2]
    refine ask_tup (N1 _ (.tail _ (hp _ m1))).1 (N1 _ (.tail _ (hp _ m2))).1 ?_
    have : decide (f i < f j ∨ f i = f j ∧ (i : Int) < (j : Int)) = decide (f i * 64 + (i : Int) < f j * 64 + (j : Int)) := by
      exact decide_eq_decide.mpr (lex64 (Nat.lt_trans hi h64) (Nat.lt_trans hj h64))
    rw [this]
    exact hC _ rfl
  · subst hI
    refine KasFin.intro (news := (D, seqObj "list" #[] e1) :: news) F1 N1 (.head fun q hq => (Nat.ne_of_lt (hD q hq))) fun h2 c F2 N2 => ?_
    exact ret D h2 c q F2 N2 (fun r hr => Nat.ne_of_lt (hD r hr)) hq.1 hq.2
end
end Mine
end
section
open PySem PySem.W PyProof.Rows PySem.Calls PySem.Spec
namespace Mine
section
variable {w : World} {p : Program} {loose : List Str} {mean : ExcName → Option Value} {mg mb : Str → Option Value} {g : Heap} {s : Shared} {dp un : Nat} {fr : Option (List Env)} {gd : Option (List Code)} {Q : Flow → Shared → Prop} {E : Value → Shared → Prop} {rest : List (Addr × Obj)}
local macro_rules | `(tactic| walk_at "eval ListComp") => `(tactic| (k_here; k_dflt (refine LCg.ListComp_U (F₀ := by k_asm) (by rfl) (by decide) (by rfl) (by decide) (by rfl) ?_)))
local macro_rules | `(tactic| walk_at "eval Name") => `(tactic| walk_at "al5")
local macro_rules | `(tactic| walk_at "CompSrc") => `(tactic| (refine Halt.out ?_))
local macro_rules | `(tactic| walk_at "call builtin:sorted") => `(tactic| (refine Halt.out ?_))
set_option maxRecDepth 100000 in
set_option maxHeartbeats 8000000 in
theorem d13_due (Xg : (hd.heap_1 w.params).In g) (Tg : Top p loose mean mg mb g) (hdp : dp < 600) (hun : un < 6000) {L fa : Addr} {cd : Value} {scope : Scope} (hsc : scopeAt (hd.heap_1 w.params) 140 = some scope) {st : Stmt} (hb : (forBody (bodyAt (hd.heap_1 w.params) 140)[21]?)[13]? = some st)
   {m : Str → Option Value} {ex : List (Addr × Obj)} {vA wA : Addr} {vv wv : List Value} {nv nw : Nat} {oW oV oLow oSize : Obj} {low size : Int} {tl ts : Tok} {vals : List Int}
   (hW : oW.data = .cell (some (.ref wA))) (hV : oV.data = .cell (some (.ref vA))) (hlo : oLow.data = .cell (some (.int low tl))) (hsz : oSize.data = .cell (some (.int size ts)))
   (hvv : IntsAre vv vals) (hwl : wv.length = vals.length) (hn2 : 2 ≤ vals.length) (hn3 : vals.length < 60) (hvb : ∀ x ∈ vals, -500 ≤ x ∧ x < 500) (hl0 : 0 ≤ low) (hl1 : low < 10000) (hs0 : 1 ≤ size) (hs1 : size < 10000)
   (F : Fr g L s.heap m) (N : News g L s.heap ((vA, listOf vv.toArray nv) :: (wA, listOf wv.toArray nw) :: (L + 2, oW) :: (L + 3, oV) :: (L + 6, oLow) :: (L + 7, oSize) :: ex))
   (ret : ∀ h' tk' D c q ys prs, Fr g L h' (fun z => if z = (Str.ofString "due") then some (.ref D) else m z) → News g L h' ((D, listOf (q.toList.map fun i => ys.getD i Value.none).toArray c) :: ((vA, listOf vv.toArray nv) :: (wA, listOf wv.toArray nw) :: (L + 2, oW) :: (L + 3, oV) :: (L + 6, oLow) :: (L + 7, oSize) :: (prs ++ ex))) → PermN wv.length q → UpTo (fun i => (vals.getD i 0 + low) % size * 64 + i) q wv.length → All2 (fun v k => TupR prs v ((vals.getD k 0 + low) % size) k) ys (List.range wv.length) → (∀ r ∈ ((vA, listOf vv.toArray nv) :: (wA, listOf wv.toArray nw) :: (L + 2, oW) :: (L + 3, oV) :: (L + 6, oLow) :: (L + 7, oSize) :: (prs ++ ex)), r.1 ≠ D) → Q .next (St s h' tk')) :
   wpAny (model PR w) (Ar dp un fr gd) (exec st (envOfC (Str.ofString "law") scope L fa cd)) Q E s := by
  refine with_look2 (K := hd.heap_1 w.params) (f := 140) (by k_dflt k_is) fun eb es => ?_
  rw [es] at hsc
  rw [eb] at hb
  dsimp only [List.getElem?_cons_succ, List.getElem?_cons_zero, forBody] at hb hsc
  (try replace hb := Option.some.inj hb)
  replace hsc := Option.some.inj hsc
  subst hb
  subst hsc
  clear eb es
  have hvl := hvv.length
  k_steps
  refine n_len N (by k_mem) (by omega) ?_
  (try dsimp only)
  k_steps
  refine ⟨?_⟩
  rename_i hrg FA NA up
  have hsm := small_of (n := wv.length) (by omega)
  refine LCg.CompSrc.range rfl FA NA hrg hsm.1 hsm.2 (by rw [sizeLine_eq]; omega) ?_
  intro g'
  have hsp : ∀ x : Int, x.fmod size = x % size := fun x => Int.fmod_eq_emod_of_nonneg x (by omega)
  refine compRest_ind (fun i ys nws => ∀ C : Prop, (∀ prs, (nws = ((vA, listOf vv.toArray nv) :: (wA, listOf wv.toArray nw) :: (L + 2, oW) :: (L + 3, oV) :: (L + 6, oLow) :: (L + 7, oSize) :: (prs ++ ex))) → (All2 (fun v k => TupR prs v ((vals.getD k 0 + low) % size) k) ys (List.range i)) → C) → C) wv.length ?_ ?_ _ 0 [] _ (by omega) (fun _ kC => kC [] rfl .nil)
  · rintro i ys nws hi hI0
    refine hI0 _ ?_
    clear hI0
    rintro prs rfl hys v I oI C' oC D m₂ h tk E' ⟨tv, hv⟩ hCC hx F2 N2 off ne J hJ
    subst hv
    k_steps
    rename_i T hT FT NT lT
    obtain ⟨l1, l2, l3, l4, l5, l6, l7, l8, l9, l10⟩ := lT
    have om := off.mem
    rw [hsp, show (0 + (i : Int)).toNat = i by omega, show (0 + (i : Int)) = i by omega] at NT
    obtain ⟨tA, tB, NT⟩ : ∃ tA tB, News g L hT ((T, tup2 ((vals.getD i 0 + low) % size) tA (i : Nat) tB) :: (I, oI) :: (C', oC) :: (D, LCg.lst ys) :: ((vA, listOf vv.toArray nv) :: (wA, listOf wv.toArray nw) :: (L + 2, oW) :: (L + 3, oV) :: (L + 6, oLow) :: (L + 7, oSize) :: (prs ++ ex))) := ⟨_, _, NT⟩
    refine LCg.CompEnd.intro FT NT ((vA, listOf vv.toArray nv) :: (wA, listOf wv.toArray nw) :: (L + 2, oW) :: (L + 3, oV) :: (L + 6, oLow) :: (L + 7, oSize) :: (((T, tup2 ((vals.getD i 0 + low) % size) tA (i : Nat) tB) :: prs) ++ ex)) (fun p hp => ?_) (LCg.Off3.of fun p hp => ?_) trivial (hJ _ _ (fun _ kC => kC ((T, tup2 ((vals.getD i 0 + low) % size) tA (i : Nat) tB) :: prs) rfl ?_))
    · exact subM (by (walk_at "sub"; done)) hp
    · exact (List.forall_mem_cons (a := (T, tup2 ((vals.getD i 0 + low) % size) tA (i : Nat) tB))).mpr ⟨⟨(Nat.ne_of_lt l1).symm, (Nat.ne_of_lt l2).symm, (Nat.ne_of_lt l3).symm⟩, om⟩ p (subM (by (walk_at "sub"; done)) hp)
    · rw [List.range_succ]
      refine (hys.mono fun v k h => h.mono fun q hq => .tail _ hq).snoc ⟨T, tA, tB, ?_, .head _⟩
      rfl
  · rintro ys nws hI0
    refine hI0 _ ?_
    clear hI0
    rintro prs rfl hys D h3 tk3 F3 N3 o3
    k_steps
    refine ⟨?_⟩
    refine sorted_pairs (l := D) (k := ys.length) (vs := ys) (prs := prs) (n := wv.length) (f := fun k => (vals.getD k 0 + low) % size) F3 N3 (.head _) (fun q hq => by simp [hq]) hys (by omega) (by omega) ?_
    intro D2 h4' c q F4 N4 hD hq1 hq2
    (try dsimp only)
    k_steps
    (with_reducible rename Fr _ _ _ _ => F5); (with_reducible rename News _ _ _ _ => N5)
    exact ret _ _ D2 c q ys prs F5 (fun r hr => N5 r (subM (by (walk_at "sub"; done)) hr)) hq1 hq2 hys (fun r hr => hD r (.tail _ hr))
end
end Mine
end
section
open PySem PySem.W PyProof.Rows PySem.Calls PySem.Spec
namespace Mine
local macro_rules | `(tactic| walk_at "zz") => `(tactic| skip)
section
variable {w : World} {p : Program} {loose : List Str} {mean : ExcName → Option Value} {mg mb : Str → Option Value} {g : Heap} {s : Shared} {dp un : Nat} {fr : Option (List Env)} {gd : Option (List Code)} {Q : Flow → Shared → Prop} {E : Value → Shared → Prop} {rest : List (Addr × Obj)}
local macro_rules | `(tactic| walk_at "eval ListComp") => `(tactic| (k_here; k_dflt (refine LCg.ListComp_U (F₀ := by k_asm) (by rfl) (by decide) (by rfl) (by decide) (by rfl) ?_)))
local macro_rules | `(tactic| walk_at "eval Name") => `(tactic| walk_at "al5")
local macro_rules | `(tactic| walk_at "compareOp NotEq ref ref") => `(tactic| (refine Halt.out ?_))
local macro_rules | `(tactic| walk_at "subscriptTail") => `(tactic| (refine Halt.out ?_))
set_option maxRecDepth 100000 in
set_option maxHeartbeats 8000000 in
theorem d14_if (Xg : (hd.heap_1 w.params).In g) (Tg : Top p loose mean mg mb g) (hdp : dp < 600) (hun : un < 6000) {L fa : Addr} {cd : Value} {scope : Scope} (hsc : scopeAt (hd.heap_1 w.params) 140 = some scope) {st : Stmt} (hb : (forBody (bodyAt (hd.heap_1 w.params) 140)[21]?)[14]? = some st)
   {m : Str → Option Value} {ex prs : List (Addr × Obj)} {rA wA D : Addr} {rv wv dv : List Value} {nr nw c : Nat} {oW : Obj} {f : Nat → Int} {ord : List Nat} {W rl : List (List Nat)}
   (hW : oW.data = .cell (some (.ref wA))) (hw : StrsAre wv (W.map S)) (hr : StrsAre rv (rl.map S)) (hdv : All2 (fun v k => TupR prs v (f k) k) dv ord) (ho : ∀ k ∈ ord, k < W.length) (hol : ord.length < 100) (hwl : W.length < 100) (hrl : rl = ord.map fun k => W.getD k []) (hok : ∀ cs ∈ rl, ∀ c ∈ cs, c < 1000)
   (F : Fr g L s.heap m) (N : News g L s.heap ((D, listOf dv.toArray c) :: (rA, listOf rv.toArray nr) :: (wA, listOf wv.toArray nw) :: (L + 2, oW) :: (prs ++ ex))) (mr : m (Str.ofString "row") = some (.ref rA)) (md : m (Str.ofString "due") = some (.ref D))
   (ret : ∀ h' tk', Fr g L h' m → News g L h' ((D, listOf dv.toArray c) :: (rA, listOf rv.toArray nr) :: (wA, listOf wv.toArray nw) :: (L + 2, oW) :: (prs ++ ex)) → Q .next (St s h' tk')) :
   wpAny (model PR w) (Ar dp un fr gd) (exec st (envOfC (Str.ofString "law") scope L fa cd)) Q E s := by
  refine with_look2 (K := hd.heap_1 w.params) (f := 140) (by k_dflt k_is) fun eb es => ?_
  rw [es] at hsc
  rw [eb] at hb
  dsimp only [List.getElem?_cons_succ, List.getElem?_cons_zero, forBody] at hb hsc
  (try replace hb := Option.some.inj hb)
  replace hsc := Option.some.inj hsc
  subst hb
  subst hsc
  clear eb es
  have he := explicit_eq [((Str.ofString "row"), .ref rA), ((Str.ofString "due"), .ref D)] (allC mr (allC md (List.forall_mem_nil _)))
  rw [← he] at F
  have hdl := hdv.length
  have hwl2 := hw.len_eq
  rw [List.length_map] at hwl2
  k_steps
  rw [he] at F ⊢
  refine LCg.CompSrc.ledger rfl F N (ax := D) (its := dv.toArray) (k := c) (.head _) (by rw [List.size_toArray, sizeLine_eq]; omega) ?_
  intro g'
  refine compRest_ind (fun i ys nws => nws = ((D, listOf dv.toArray c) :: (rA, listOf rv.toArray nr) :: (wA, listOf wv.toArray nw) :: (L + 2, oW) :: (prs ++ ex)) ∧ StrsAre ys (((ord.take i).map fun k => W.getD k []).map S)) dv.toArray.size ?_ ?_ _ 0 [] _ (by omega) ⟨rfl, .nil⟩
  · rintro i ys nws hi ⟨rfl, hys⟩ v I oI C oC2 D₂ m₂ h tk E' hPv hCC hx F2 N2 off ne J hJ
    obtain ⟨k, hk, x, t, u, rfl, hm⟩ := hdv.getL (i := i) (a := v) (by simpa using hPv)
    have hkW := ho k (List.mem_of_getElem? hk)
    have hmem : (x, tup2 (f k) t (k : Nat) u) ∈ (I, oI) :: (C, oC2) :: (D₂, LCg.lst ys) :: ((D, listOf dv.toArray c) :: (rA, listOf rv.toArray nr) :: (wA, listOf wv.toArray nw) :: (L + 2, oW) :: (prs ++ ex)) := by simp [hm]
    k_steps
    refine ⟨?_⟩
    refine item_tupleL (l := [.int (f k) t, .int (k : Nat) u]) (j := 1) (N2.isTup hmem) (by omega) (by omega) rfl rfl ?_
    k_steps
    refine ⟨?_⟩
    obtain ⟨y, hy, ty, rfl⟩ : ∃ y, wv[k]? = some y ∧ ∃ t, y = .str (S (W.getD k [])) t := by
      have h1 : (W.map S)[k]? = some (S (W.getD k [])) := by rw [List.getElem?_map, List.getD_eq_getElem?_getD, List.getElem?_eq_getElem hkW]; rfl
      obtain ⟨t, e⟩ := hw.get k _ h1
      exact ⟨_, e, t, rfl⟩
    refine n_item N2 (l := wA) (k0 := nw) (by first | (walk_at "mem"; done) | simp) hy (by omega) ?_
    (try dsimp only)
    refine LCg.CompEnd.intro F2 N2 _ (fun p hp => hp) off (.inr ⟨_, .head _, rfl, _, rfl⟩) (hJ _ _ ⟨rfl, ?_⟩)
    rw [take_snoc hk, List.map_append, List.map_append]
    exact strs_snoc hys _ _
  · rintro ys nws ⟨rfl, hys⟩ D₂ h3 tk3 F3 N3 o3
    rw [List.size_toArray, hdl, List.take_length] at hys
    k_steps
    refine ⟨?_⟩
    refine ne_dat N3 (a := rA) (by first | (walk_at "mem"; done) | simp) (datAll_strs hr) (b := D₂) (ka := nr) (.head _) (by rw [hrl]; exact datAll_strs hys) (ok_strs hok) (by rw [cLine_is]; show un + 64 < 9900; omega) ?_
    k_steps
    exact ret _ _ F3 (fun q hq => N3 q (.tail _ hq))
end
end Mine
end
section
open PySem PySem.W PyProof.Rows PySem.Calls PySem.Spec
namespace Mine
section
variable {w : World} {p : Program} {loose : List Str} {mean : ExcName → Option Value} {mg mb : Str → Option Value} {g : Heap} {s : Shared} {dp un : Nat} {fr : Option (List Env)} {gd : Option (List Code)} {Q : Flow → Shared → Prop} {E : Value → Shared → Prop} {rest : List (Addr × Obj)}
theorem datAll_lad {news prs : List (Addr × Obj)} {vs : List Value} {l : List (Int × List Nat)} (h : All2 (LadR prs) vs l) (hp : ∀ q ∈ prs, q ∈ news) : DatAll news vs (l.map fun q => Dat.list [.int q.1, .str (S q.2)]) := by
  induction h with
  | nil => exact .nil
  | cons r _ ih =>
    obtain ⟨p, t, t', n, rfl, m⟩ := r
    exact .cons (.list (vs := [_, _]) (hp _ m) (.cons (.int _ t) (.cons (.str _ t') .nil))) ih
theorem ok_lad {l : List (Int × List Nat)} (h : ∀ q ∈ l, ∀ c ∈ q.2, c < 1000) : ∀ d ∈ l.map fun q => Dat.list [.int q.1, .str (S q.2)], kqdOk 8 d = true := fun d hd => by
  obtain ⟨q, hq, rfl⟩ := List.mem_map.mp hd
  simp only [kqdOk, List.all_cons, List.all_nil, Bool.and_true, Bool.true_and]
  exact strOk_S (h q hq)
local macro_rules | `(tactic| walk_at "eval ListComp") => `(tactic| (k_here; k_dflt (refine LCg.ListComp_U (F₀ := by k_asm) (by rfl) (by decide) (by rfl) (by decide) (by rfl) ?_)))
local macro_rules | `(tactic| walk_at "eval Name") => `(tactic| walk_at "al5")
local macro_rules | `(tactic| walk_at "compareOp NotEq ref ref") => `(tactic| (refine Halt.out ?_))
local macro_rules | `(tactic| walk_at "subscriptTail") => `(tactic| (refine Halt.out ?_))
set_option maxRecDepth 100000 in
set_option maxHeartbeats 8000000 in
theorem d15_if (Xg : (hd.heap_1 w.params).In g) (Tg : Top p loose mean mg mb g) (hdp : dp < 600) (hun : un < 6000) {L fa : Addr} {cd : Value} {scope : Scope} (hsc : scopeAt (hd.heap_1 w.params) 140 = some scope) {st : Stmt} (hb : (forBody (bodyAt (hd.heap_1 w.params) 140)[21]?)[15]? = some st)
   {m : Str → Option Value} {ex prs lps : List (Addr × Obj)} {aA wA D : Addr} {lv wv dv : List Value} {nl nw c : Nat} {oW oLow : Obj} {f : Nat → Int} {ord : List Nat} {W : List (List Nat)} {lad : List (Int × List Nat)} {low : Int} {tl : Tok}
   (hW : oW.data = .cell (some (.ref wA))) (hlo : oLow.data = .cell (some (.int low tl))) (hl0 : 0 ≤ low) (hl1 : low < 10000) (hf : ∀ k, 0 ≤ f k ∧ f k < 10000) (hw : StrsAre wv (W.map S)) (hlv : All2 (LadR lps) lv lad) (hdv : All2 (fun v k => TupR prs v (f k) k) dv ord) (ho : ∀ k ∈ ord, k < W.length) (hol : ord.length < 100) (hwl : W.length < 100) (hrl : lad = ord.map fun k => (f k - low, W.getD k [])) (hok : ∀ cs ∈ W, ∀ c ∈ cs, c < 1000)
   (F : Fr g L s.heap m) (N : News g L s.heap ((D, listOf dv.toArray c) :: (aA, listOf lv.toArray nl) :: (wA, listOf wv.toArray nw) :: (L + 2, oW) :: (L + 6, oLow) :: ((prs ++ (lps ++ ex))))) (ma : m (Str.ofString "ladder") = some (.ref aA)) (md : m (Str.ofString "due") = some (.ref D))
   (ret : ∀ h' tk', Fr g L h' m → News g L h' ((D, listOf dv.toArray c) :: (aA, listOf lv.toArray nl) :: (wA, listOf wv.toArray nw) :: (L + 2, oW) :: (L + 6, oLow) :: ((prs ++ (lps ++ ex)))) → Q .next (St s h' tk')) :
   wpAny (model PR w) (Ar dp un fr gd) (exec st (envOfC (Str.ofString "law") scope L fa cd)) Q E s := by
  refine with_look2 (K := hd.heap_1 w.params) (f := 140) (by k_dflt k_is) fun eb es => ?_
  rw [es] at hsc
  rw [eb] at hb
  dsimp only [List.getElem?_cons_succ, List.getElem?_cons_zero, forBody] at hb hsc
  (try replace hb := Option.some.inj hb)
  replace hsc := Option.some.inj hsc
  subst hb
  subst hsc
  clear eb es
  have he := explicit_eq [((Str.ofString "ladder"), .ref aA), ((Str.ofString "due"), .ref D)] (allC ma (allC md (List.forall_mem_nil _)))
  rw [← he] at F
  have hdl := hdv.length
  have hwl2 := hw.len_eq
  rw [List.length_map] at hwl2
  k_steps
  rw [he] at F ⊢
  refine LCg.CompSrc.ledger rfl F N (ax := D) (its := dv.toArray) (k := c) (.head _) (by rw [List.size_toArray, sizeLine_eq]; omega) ?_
  intro g'
  refine compRest_ind (fun i ys nws => ∀ C : Prop, (∀ rws, (nws = ((D, listOf dv.toArray c) :: (aA, listOf lv.toArray nl) :: (wA, listOf wv.toArray nw) :: (L + 2, oW) :: (L + 6, oLow) :: (rws ++ (prs ++ (lps ++ ex))))) → (All2 (LadR rws) ys ((ord.take i).map fun k => (f k - low, W.getD k []))) → C) → C) dv.toArray.size ?_ ?_ _ 0 [] _ (by omega) (fun _ kC => kC [] rfl .nil)
  · rintro i ys nws hi hI0
    refine hI0 _ ?_
    clear hI0
    rintro rws rfl hys v I oI C oC2 D₂ m₂ h tk E' hPv hCC hx F2 N2 off ne J hJ
    obtain ⟨k, hk, x, t, u, rfl, hm⟩ := hdv.getL (i := i) (a := v) (by simpa using hPv)
    have hkW := ho k (List.mem_of_getElem? hk)
    have hfk := hf k
    have om := off.mem
    have hmem : (x, tup2 (f k) t (k : Nat) u) ∈ (I, oI) :: (C, oC2) :: (D₂, LCg.lst ys) :: ((D, listOf dv.toArray c) :: (aA, listOf lv.toArray nl) :: (wA, listOf wv.toArray nw) :: (L + 2, oW) :: (L + 6, oLow) :: (rws ++ (prs ++ (lps ++ ex)))) := by simp [hm]
    k_steps
    refine ⟨?_⟩
    refine item_tupleL (l := [.int (f k) t, .int (k : Nat) u]) (j := 0) (N2.isTup hmem) (by omega) (by omega) rfl rfl ?_
    k_steps
    refine ⟨?_⟩
    (with_reducible rename Fr _ _ _ _ => F3); (with_reducible rename News _ _ _ _ => N3)
    refine item_tupleL (l := [.int (f k) t, .int (k : Nat) u]) (j := 1) (N3.isTup hmem) (by omega) (by omega) rfl rfl ?_
    k_steps
    refine ⟨?_⟩
    obtain ⟨y, hy, ty, rfl⟩ : ∃ y, wv[k]? = some y ∧ ∃ t, y = .str (S (W.getD k [])) t := by
      have h1 : (W.map S)[k]? = some (S (W.getD k [])) := by rw [List.getElem?_map, List.getD_eq_getElem?_getD, List.getElem?_eq_getElem hkW]; rfl
      obtain ⟨t, e⟩ := hw.get k _ h1
      exact ⟨_, e, t, rfl⟩
    refine n_item N3 (l := wA) (k0 := nw) (by first | (walk_at "mem"; done) | simp) hy (by omega) ?_
    (try dsimp only)
    k_steps
    (with_reducible rename Fr _ _ _ _ => FT); (with_reducible rename News _ _ _ _ => NT)
    rename_i T hT lT
    obtain ⟨z1, z2, z3, z4, z5, z6, z7, z8, z9⟩ := lT
    obtain ⟨tA, NT⟩ : ∃ tA, News g L hT ((T, listOf #[.int (f k - low) tA, .str (S (W.getD k [])) ty] 0) :: (I, oI) :: (C, oC2) :: (D₂, LCg.lst ys) :: ((D, listOf dv.toArray c) :: (aA, listOf lv.toArray nl) :: (wA, listOf wv.toArray nw) :: (L + 2, oW) :: (L + 6, oLow) :: (rws ++ (prs ++ (lps ++ ex))))) := ⟨_, NT⟩
    refine LCg.CompEnd.intro FT NT ((D, listOf dv.toArray c) :: (aA, listOf lv.toArray nl) :: (wA, listOf wv.toArray nw) :: (L + 2, oW) :: (L + 6, oLow) :: (((T, listOf #[.int (f k - low) tA, .str (S (W.getD k [])) ty] 0) :: rws) ++ (prs ++ (lps ++ ex)))) (fun p hp => ?_) (LCg.Off3.of fun p hp => ?_) (.inr ⟨_, .head _, rfl, _, rfl⟩) (hJ _ _ (fun _ kC => kC ((T, listOf #[.int (f k - low) tA, .str (S (W.getD k [])) ty] 0) :: rws) rfl ?_))
    · exact subM (by (walk_at "sub"; done)) hp
    · exact (List.forall_mem_cons (a := (T, listOf #[.int (f k - low) tA, .str (S (W.getD k [])) ty] 0))).mpr ⟨⟨(Nat.ne_of_lt z1).symm, (Nat.ne_of_lt z2).symm, (Nat.ne_of_lt z3).symm⟩, om⟩ p (subM (by (walk_at "sub"; done)) hp)
    · rw [take_snoc hk, List.map_append]
      exact (hys.mono (LadR.mono (prs' := (T, listOf #[.int (f k - low) tA, .str (S (W.getD k [])) ty] 0) :: rws) fun q hq => .tail _ hq)).snoc ⟨T, tA, ty, 0, rfl, .head _⟩
  · rintro ys nws hI0
    refine hI0 _ ?_
    clear hI0
    rintro rws rfl hys D₂ h3 tk3 F3 N3 o3
    rw [List.size_toArray, hdl, List.take_length] at hys
    k_steps
    refine ⟨?_⟩
    refine ne_dat N3 (a := aA) (ka := nl) (by first | (walk_at "mem"; done) | simp) (datAll_lad hlv fun q hq => by simp [hq]) (b := D₂) (.head _) (by rw [hrl]; exact datAll_lad hys fun q hq => by simp [hq]) (ok_lad fun q hq => ?_) (by rw [cLine_is]; show un + 64 < 9900; omega) ?_
    · rw [hrl] at hq
      obtain ⟨k, hk, rfl⟩ := List.mem_map.mp hq
      have hkW := ho k hk
      refine hok _ ?_
      show W.getD k [] ∈ W
      rw [List.getD_eq_getElem?_getD, List.getElem?_eq_getElem hkW]
      exact List.getElem_mem _
    k_steps
    exact ret _ _ F3 (fun q hq => N3 q (subM (by (walk_at "sub"; done)) hq))
end
end Mine
end
section
set_option maxRecDepth 100000
set_option maxHeartbeats 4000000
namespace Mine
open PySem PySem.W PySem.Calls PyProof.Rows

/-- l is W, put in order by the keys, of like ones as they stood -/
structure StabP (key : List Nat → Int) (W l : List (List Nat)) : Prop where
  up : l.Pairwise fun a b => key a ≤ key b
  at_ : ∀ v, (l.filter fun c => key c == v) = W.filter fun c => key c == v
theorem StabP.mem {key : List Nat → Int} {W l : List (List Nat)} (h : StabP key W l) {a : List Nat} : a ∈ l ↔ a ∈ W := by
  have e := h.at_ (key a)
  have h1 : a ∈ l.filter (fun c => key c == key a) ↔ a ∈ l := by simp
  have h2 : a ∈ W.filter (fun c => key c == key a) ↔ a ∈ W := by simp
  rw [← h1, e, h2]
theorem stab_uniq {key : List Nat → Int} : ∀ {l1 l2 : List (List Nat)}, (l1.Pairwise fun a b => key a ≤ key b) → (l2.Pairwise fun a b => key a ≤ key b) → (∀ v, (l1.filter fun c => key c == v) = l2.filter fun c => key c == v) → l1 = l2
  | [], [], _, _, _ => rfl
  | [], b :: l2, _, _, h => by have := h (key b); simp at this
  | a :: l1, [], _, _, h => by have := h (key a); simp at this
  | a :: l1, b :: l2, h1, h2, h => by
    obtain ⟨p1, q1⟩ := List.pairwise_cons.mp h1
    obtain ⟨p2, q2⟩ := List.pairwise_cons.mp h2
    have ha : a ∈ b :: l2 := by
      have : a ∈ (b :: l2).filter (fun c => key c == key a) := by rw [← h]; simp
      exact (List.mem_filter.mp this).1
    have hb : b ∈ a :: l1 := by
      have : b ∈ (a :: l1).filter (fun c => key c == key b) := by rw [h]; simp
      exact (List.mem_filter.mp this).1
    have e1 : key b ≤ key a := by
      rcases List.mem_cons.mp ha with e | e
      · rw [e]; exact Int.le_refl _
      · exact p2 a e
    have e2 : key a ≤ key b := by
      rcases List.mem_cons.mp hb with e | e
      · rw [e]; exact Int.le_refl _
      · exact p1 b e
    have e3 : key a = key b := by omega
    have hk := h (key a)
    rw [List.filter_cons_of_pos (by simp), List.filter_cons_of_pos (by simp [e3])] at hk
    have hab := (List.cons.inj hk).1
    subst hab
    refine congrArg _ (stab_uniq q1 q2 fun v => ?_)
    have hv := h v
    by_cases e : key a = v
    · rw [List.filter_cons_of_pos (by simp [e]), List.filter_cons_of_pos (by simp [e])] at hv
      exact (List.cons.inj hv).2
    · rwa [List.filter_cons_of_neg (by simp [e]), List.filter_cons_of_neg (by simp [e])] at hv
theorem StabP.uniq {key : List Nat → Int} {W l l' : List (List Nat)} (h : StabP key W l) (h' : StabP key W l') : l = l' := stab_uniq h.up h'.up fun v => (h.at_ v).trans (h'.at_ v).symm
theorem flat_one {α : Type} {f : Nat → List α} {j0 : Nat} : ∀ {ord : List Nat}, ord.Nodup → j0 ∈ ord → (∀ j ∈ ord, j ≠ j0 → f j = []) → (ord.map f).flatten = f j0
  | [], _, h, _ => nomatch h
  | j :: ord, hn, h, hf => by
    obtain ⟨h1, h2⟩ := List.nodup_cons.mp hn
    rw [List.map_cons, List.flatten_cons]
    by_cases e : j = j0
    · subst e
      have : (ord.map f).flatten = [] := by
        rw [List.flatten_eq_nil_iff]
        intro l hl
        obtain ⟨i, hi, rfl⟩ := List.mem_map.mp hl
        exact hf i (.tail _ hi) (fun e => h1 (e ▸ hi))
      rw [this, List.append_nil]
    · rw [hf j (.head _) e, List.nil_append]
      exact flat_one h2 ((List.mem_cons.mp h).resolve_left fun z => e z.symm) fun i hi => hf i (.tail _ hi)
theorem flat_none {α : Type} {f : Nat → List α} {ord : List Nat} (hf : ∀ j ∈ ord, f j = []) : (ord.map f).flatten = [] := by
  rw [List.flatten_eq_nil_iff]
  intro l hl
  obtain ⟨i, hi, rfl⟩ := List.mem_map.mp hl
  exact hf i hi
theorem stab_step {key key' : List Nat → Int} {W l : List (List Nat)} {dg : List Nat → Nat} {ord : List Nat} (h : StabP key W l) (hn : ord.Nodup) (hdg : ∀ a ∈ W, dg a ∈ ord)
    (h1 : ord.Pairwise fun i j => ∀ a ∈ W, ∀ c ∈ W, dg a = i → dg c = j → key' a ≤ key' c) (h2 : ∀ a ∈ W, ∀ c ∈ W, dg a = dg c → key a ≤ key c → key' a ≤ key' c)
    (h3 : ∀ a ∈ W, ∀ c ∈ W, key' a = key' c → dg a = dg c ∧ key a = key c) : StabP key' W (flatQ l dg ord) := by
  refine ⟨?_, fun v => ?_⟩
  · unfold flatQ
    rw [List.pairwise_flatten]
    refine ⟨fun q hq => ?_, ?_⟩
    · obtain ⟨j, hj, rfl⟩ := List.mem_map.mp hq
      have hsub : (l.filter fun cs => dg cs == j).Pairwise fun a b => key a ≤ key b := h.up.sublist List.filter_sublist
      refine hsub.imp_of_mem fun {a b} ha hb hab => ?_
      have ha := List.mem_filter.mp ha
      have hb := List.mem_filter.mp hb
      exact h2 a (h.mem.mp ha.1) b (h.mem.mp hb.1) (by rw [beq_iff_eq.mp ha.2, beq_iff_eq.mp hb.2]) hab
    · rw [List.pairwise_map]
      refine h1.imp fun {i j} hij a ha b hb => ?_
      have ha := List.mem_filter.mp ha
      have hb := List.mem_filter.mp hb
      exact hij a (h.mem.mp ha.1) b (h.mem.mp hb.1) (beq_iff_eq.mp ha.2) (beq_iff_eq.mp hb.2)
  · unfold flatQ
    rw [List.filter_flatten, List.map_map]
    by_cases ex : ∃ c ∈ W, key' c = v
    · obtain ⟨c, hc, rfl⟩ := ex
      rw [flat_one (j0 := dg c) hn (hdg c hc) fun j hj hne => ?_]
      · have e := h.at_ (key c)
        have e2 := congrArg (List.filter fun a => key' a == key' c) e
        rw [List.filter_filter, List.filter_filter] at e2
        show List.filter (fun a => key' a == key' c) (List.filter (fun cs => dg cs == dg c) l) = _
        rw [List.filter_filter]
        have f1 : (l.filter fun a => key' a == key' c && dg a == dg c) = l.filter fun a => key' a == key' c && key a == key c := List.filter_congr fun a ha => by
          by_cases z : key' a = key' c
          · have := h3 a (h.mem.mp ha) c hc z
            simp [z, this.1, this.2]
          · have z' : (key' a == key' c) = false := by simpa using z
            simp only [z', Bool.false_and]
        have f2 : (W.filter fun a => key' a == key' c && key a == key c) = W.filter fun a => key' a == key' c := List.filter_congr fun a ha => by
          by_cases z : key' a = key' c
          · have := h3 a ha c hc z
            simp [z, this.2]
          · simp [z]
        rw [f1, e2, f2]
      · show List.filter (fun a => key' a == key' c) (List.filter (fun cs => dg cs == j) l) = []
        rw [List.filter_filter, List.filter_eq_nil_iff]
        intro a ha z
        simp only [Bool.and_eq_true, beq_iff_eq] at z
        exact hne ((h3 a (h.mem.mp ha) c hc z.1).1 ▸ z.2.symm)
    · have hW : (W.filter fun c => key' c == v) = [] := by
        rw [List.filter_eq_nil_iff]
        intro a ha z
        exact ex ⟨a, ha, beq_iff_eq.mp z⟩
      rw [hW]
      refine flat_none fun j hj => ?_
      show List.filter (fun a => key' a == v) (List.filter (fun cs => dg cs == j) l) = []
      rw [List.filter_filter, List.filter_eq_nil_iff]
      intro a ha z
      simp only [Bool.and_eq_true, beq_iff_eq] at z
      exact ex ⟨a, h.mem.mp ha, z.1⟩
end Mine
end
section
set_option maxRecDepth 100000
set_option maxHeartbeats 4000000
namespace Mine
open PySem PySem.W PySem.Calls PyProof.Rows

theorem up_uniq : ∀ {l1 l2 : List Nat}, l1.Pairwise (· < ·) → l2.Pairwise (· < ·) → (∀ k, k ∈ l1 ↔ k ∈ l2) → l1 = l2
  | [], [], _, _, _ => rfl
  | [], b :: l2, _, _, h => absurd ((h b).mpr (.head _)) (by simp)
  | a :: l1, [], _, _, h => absurd ((h a).mp (.head _)) (by simp)
  | a :: l1, b :: l2, h1, h2, h => by
    obtain ⟨p1, q1⟩ := List.pairwise_cons.mp h1
    obtain ⟨p2, q2⟩ := List.pairwise_cons.mp h2
    have e1 : b ≤ a := by
      rcases List.mem_cons.mp ((h a).mp (.head _)) with e | e
      · omega
      · have := p2 a e; omega
    have e2 : a ≤ b := by
      rcases List.mem_cons.mp ((h b).mpr (.head _)) with e | e
      · omega
      · have := p1 b e; omega
    have : a = b := by omega
    subst this
    refine congrArg _ (up_uniq q1 q2 fun k => ?_)
    have hk := h k
    simp only [List.mem_cons] at hk
    constructor
    · intro z
      have := p1 k z
      exact (hk.mp (.inr z)).resolve_left (by omega)
    · intro z
      have := p2 k z
      exact (hk.mpr (.inr z)).resolve_left (by omega)
theorem stab_due {key : List Nat → Int} {W : List (List Nat)} {q : Array Nat} {f : Nat → Int} {low : Int} (hf : ∀ k, k < W.length → f k = key (W.getD k []) + low) (hn : W.length < 64) (hq : PermN W.length q) (hu : UpTo (fun i => f i * 64 + i) q W.length) : StabP key W (q.toList.map fun k => W.getD k []) := by
  have hs := hq.size
  have hl : q.toList.length = W.length := by rw [Array.length_toList]; exact hs
  have hat : ∀ i (h : i < q.toList.length), q.toList[i] = q.getD i 0 := fun i h => by
    have h' : i < q.size := by omega
    simp [Array.getD, h']
  have hlt : ∀ k ∈ q.toList, k < W.length := fun k hk => List.mem_range.mp (hq.perm.mem_iff.mp hk)
  have hp : q.toList.Pairwise fun a b => f a * 64 + a < f b * 64 + b := by
    rw [List.pairwise_iff_getElem]
    intro i j hi hj hij
    rw [hat i hi, hat j hj]
    exact hu i j hij (by omega)
  refine ⟨?_, fun v => ?_⟩
  · rw [List.pairwise_map]
    refine hp.imp_of_mem fun {a b} ha hb h => ?_
    have h2 := hlt b hb
    rw [hf a (hlt a ha), hf b h2] at h
    exact Int.le_of_add_le_add_right (le64 (Nat.lt_trans h2 hn) h)
  · have hW : W = (List.range W.length).map fun k => W.getD k [] := by
      refine List.ext_getElem (by simp) fun i h1 h2 => ?_
      rw [List.getElem_map, List.getElem_range, List.getD_eq_getElem?_getD, List.getElem?_eq_getElem h1]
      rfl
    have e : (W.filter fun c => key c == v) = ((List.range W.length).map fun k => W.getD k []).filter fun c => key c == v := by rw [← hW]
    rw [e, List.filter_map, List.filter_map]
    refine congrArg _ (up_uniq ?_ (List.pairwise_lt_range.sublist List.filter_sublist) fun k => ?_)
    · refine (hp.sublist List.filter_sublist).imp_of_mem fun {a b} ha hb h => ?_
      obtain ⟨ha, va⟩ := List.mem_filter.mp ha
      obtain ⟨hb, vb⟩ := List.mem_filter.mp hb
      have h1 := hf a (hlt a ha)
      have h2 := hf b (hlt b hb)
      have va' : key (W.getD a []) = v := beq_iff_eq.mp va
      have vb' : key (W.getD b []) = v := beq_iff_eq.mp vb
      rw [h1, h2, va', vb'] at h
      exact up64 rfl h
    · rw [List.mem_filter, List.mem_filter, hq.perm.mem_iff]
theorem lad_stab (key : List Nat → Int) : ∀ W, ∃ l, ladOf key W = (l.map fun c => (key c, c)) ∧ StabP key W l := by
  refine snocI ⟨[], rfl, .nil, fun _ => rfl⟩ fun W w ⟨l, e, h⟩ => ?_
  have htd := List.takeWhile_append_dropWhile (p := fun c => decide (key c ≤ key w)) (l := l)
  refine ⟨l.takeWhile (fun c => decide (key c ≤ key w)) ++ w :: l.dropWhile (fun c => decide (key c ≤ key w)), ?_, ?_, fun v => ?_⟩
  · rw [ladOf_snoc, e]
    unfold insP
    rw [List.map_append, List.map_cons, List.takeWhile_map, List.dropWhile_map]
    rfl
  · have := ladOf_up key (W ++ [w])
    rw [ladOf_snoc, e] at this
    unfold insP at this
    rw [List.takeWhile_map, List.dropWhile_map] at this
    have h2 := List.pairwise_map (f := fun c => (key c, c)) (l := l.takeWhile (fun c => decide (key c ≤ key w)) ++ w :: l.dropWhile (fun c => decide (key c ≤ key w))) (R := fun a b : Int × List Nat => a.1 ≤ b.1)
    refine h2.mp ?_
    rw [List.map_append, List.map_cons]
    exact this
  · have hdrop : ∀ c ∈ l.dropWhile (fun c => decide (key c ≤ key w)), key w < key c := by
      have gen : ∀ l : List (List Nat), (l.Pairwise fun a b => key a ≤ key b) → ∀ c ∈ l.dropWhile (fun c => decide (key c ≤ key w)), key w < key c := fun l => by
        induction l with
        | nil => intro _ c h; simp at h
        | cons a l ih =>
          intro hp c hc
          obtain ⟨p1, p2⟩ := List.pairwise_cons.mp hp
          by_cases z : key a ≤ key w
          · rw [List.dropWhile_cons, if_pos (by simpa using z)] at hc
            exact ih p2 c hc
          · rw [List.dropWhile_cons, if_neg (by simpa using z)] at hc
            rcases List.mem_cons.mp hc with rfl | hc
            · omega
            · have := p1 c hc; omega
      exact gen l h.up
    rw [List.filter_append, List.filter_append, ← h.at_ v]
    by_cases z : key w = v
    · rw [List.filter_cons_of_pos (by simp [z]), List.filter_cons_of_pos (by simp [z])]
      have hd : (l.dropWhile (fun c => decide (key c ≤ key w))).filter (fun c => key c == v) = [] := by
        rw [List.filter_eq_nil_iff]
        intro a ha ze
        have := hdrop a ha
        have := beq_iff_eq.mp ze
        omega
      rw [hd]
      have := congrArg (List.filter fun c => key c == v) htd
      rw [List.filter_append, hd, List.append_nil] at this
      rw [this]
      rfl
    · rw [List.filter_cons_of_neg (by simp [z]), List.filter_cons_of_neg (by simp [z])]
      have := congrArg (List.filter fun c => key c == v) htd
      rw [List.filter_append] at this
      rw [this]
      simp
end Mine
end
section
set_option maxRecDepth 100000
set_option maxHeartbeats 4000000
namespace Mine
open PySem PySem.W PySem.Calls PyProof.Rows

theorem mul_gap {x y s : Int} (h : x < y) (hs : 0 < s) : x * s + s ≤ y * s := by
  have := Int.mul_le_mul_of_nonneg_right (show x + 1 ≤ y by omega) (Int.le_of_lt hs)
  rw [Int.add_mul, Int.one_mul] at this
  exact this
theorem mul_mono {x y s : Int} (h : x ≤ y) (hs : 0 < s) : x * s ≤ y * s := Int.mul_le_mul_of_nonneg_right h (Int.le_of_lt hs)
theorem gap_eq {x y s u v low : Int} (hs : 0 < s) (hu : -low ≤ u ∧ u < s - low) (hv : -low ≤ v ∧ v < s - low) (e : u - x * s = v - y * s) : x = y ∧ u = v := by
  rcases Int.lt_trichotomy x y with h | h | h
  · have := mul_gap h hs; omega
  · subst h; exact ⟨rfl, by omega⟩
  · have := mul_gap h hs; omega
theorem gapE {x y s u v low : Int} (h : y + s ≤ x) (hu : u < s - low) (hv : -low ≤ v) : u - x < v - y := by omega
theorem gapO {x y s u v low : Int} (h : x + s ≤ y) (hu : u < s - low) (hv : -low ≤ v) : u + x < v + y := by omega
theorem winE {x y s u low B : Int} (h1 : 0 ≤ x) (h2 : x ≤ y) (h3 : B = y + s) (hw : -low ≤ u ∧ u < s - low) : -(low + y) ≤ u - x ∧ u - x < B - (low + y) := by omega
theorem winO {x y s u low B : Int} (h1 : 0 ≤ x) (h2 : x ≤ y) (h3 : B = y + s) (hw : -low ≤ u ∧ u < s - low) : -low ≤ u + x ∧ u + x < B - low := by omega
theorem round_even {key key' : List Nat → Int} {W l : List (List Nat)} {dg : List Nat → Nat} {b : Nat} {s low : Int} (h : StabP key W l) (hb : 1 ≤ b) (hs : 0 < s) (hk : ∀ a ∈ W, key' a = key a - (dg a : Nat) * s) (hw : ∀ a ∈ W, -low ≤ key a ∧ key a < s - low) (hd : ∀ a ∈ W, dg a < b) :
    StabP key' W (flatQ l dg (List.range b).reverse) ∧ ∀ a ∈ W, -(low + ((b : Int) - 1) * s) ≤ key' a ∧ key' a < (b : Int) * s - (low + ((b : Int) - 1) * s) := by
  refine ⟨stab_step h (List.pairwise_reverse.mpr (List.Pairwise.imp (fun h => h.symm) List.nodup_range)) (fun a ha => by rw [List.mem_reverse, List.mem_range]; exact hd a ha) ?_ (fun a ha c hc e hac => ?_) (fun a ha c hc e => ?_), fun a ha => ?_⟩
  · rw [List.pairwise_reverse]
    refine List.pairwise_lt_range.imp fun {i j} hij a ha c hc ea ec => ?_
    have h1 := mul_gap (x := (dg c : Int)) (y := (dg a : Int)) (by omega) hs
    rw [hk a ha, hk c hc]
    exact Int.le_of_lt (gapE h1 (hw a ha).2 (hw c hc).1)
  · have := hk a ha; have := hk c hc
    rw [e] at *
    omega
  · rw [hk a ha, hk c hc] at e
    have := gap_eq hs (hw a ha) (hw c hc) e
    exact ⟨by omega, this.2⟩
  · have h1 := hd a ha
    have h2 := mul_mono (x := 0) (y := (dg a : Int)) (by omega) hs
    have h3 := mul_mono (x := (dg a : Int)) (y := (b : Int) - 1) (by omega) hs
    have h4 : (b : Int) * s = ((b : Int) - 1) * s + s := by rw [Int.sub_mul, Int.one_mul, Int.sub_add_cancel]
    rw [Int.zero_mul] at h2
    rw [hk a ha]
    exact winE h2 h3 h4 (hw a ha)
theorem round_odd {key key' : List Nat → Int} {W l : List (List Nat)} {dg : List Nat → Nat} {b : Nat} {s low : Int} (h : StabP key W l) (hb : 1 ≤ b) (hs : 0 < s) (hk : ∀ a ∈ W, key' a = key a + (dg a : Nat) * s) (hw : ∀ a ∈ W, -low ≤ key a ∧ key a < s - low) (hd : ∀ a ∈ W, dg a < b) :
    StabP key' W (flatQ l dg (List.range b)) ∧ ∀ a ∈ W, -low ≤ key' a ∧ key' a < (b : Int) * s - low := by
  refine ⟨stab_step h List.nodup_range (fun a ha => by rw [List.mem_range]; exact hd a ha) ?_ (fun a ha c hc e hac => ?_) (fun a ha c hc e => ?_), fun a ha => ?_⟩
  · refine List.pairwise_lt_range.imp fun {i j} hij a ha c hc ea ec => ?_
    have h1 := mul_gap (x := (dg a : Int)) (y := (dg c : Int)) (by omega) hs
    rw [hk a ha, hk c hc]
    exact Int.le_of_lt (gapO h1 (hw a ha).2 (hw c hc).1)
  · have := hk a ha; have := hk c hc
    rw [e] at *
    omega
  · rw [hk a ha, hk c hc] at e
    have := gap_eq (x := -(dg a : Int)) (y := -(dg c : Int)) hs (hw a ha) (hw c hc) (by rw [Int.neg_mul, Int.neg_mul]; omega)
    exact ⟨by omega, this.2⟩
  · have h1 := hd a ha
    have h2 := mul_mono (x := 0) (y := (dg a : Int)) (by omega) hs
    have h3 := mul_mono (x := (dg a : Int)) (y := (b : Int) - 1) (by omega) hs
    have h4 : (b : Int) * s = ((b : Int) - 1) * s + s := by rw [Int.sub_mul, Int.one_mul, Int.sub_add_cancel]
    rw [Int.zero_mul] at h2
    rw [hk a ha]
    exact winO h2 h3 h4 (hw a ha)

/-- the quotients, round by round -/
def lvT (b : Nat) : Nat → List Nat → Int
  | 0, cs => numOf cs
  | t + 1, cs => -(lvT b t cs) / (b : Int)
/-- the line that a word waits in -/
def dgT (b t : Nat) (cs : List Nat) : Nat := (-(lvT b t cs) % (b : Int)).toNat
def pwT (b : Nat) : Nat → Int
  | 0 => 1
  | t + 1 => -(pwT b t) * (b : Int)
def szT (b : Nat) : Nat → Int
  | 0 => 1
  | t + 1 => szT b t * (b : Int)
def lowT (b : Nat) : Nat → Int
  | 0 => 0
  | t + 1 => if t = 1 then lowT b t else lowT b t + ((b : Int) - 1) * szT b t
def ordT (b t : Nat) : List Nat := if t = 1 then List.range b else (List.range b).reverse
def keyT (b t : Nat) (cs : List Nat) : Int := numOf cs - lvT b t cs * pwT b t
def rowT (b : Nat) (W : List (List Nat)) : Nat → List (List Nat)
  | 0 => W
  | t + 1 => flatQ (rowT b W t) (dgT b t) (ordT b t)
theorem dgT_lt {b t : Nat} (hb : 1 ≤ b) (cs : List Nat) : dgT b t cs < b := by
  unfold dgT
  have := Int.emod_lt_of_pos (-(lvT b t cs)) (show (0 : Int) < b by omega)
  have := Int.emod_nonneg (-(lvT b t cs)) (show (b : Int) ≠ 0 by omega)
  omega
theorem dgT_eq {b t : Nat} (hb : 1 ≤ b) (cs : List Nat) : ((dgT b t cs : Nat) : Int) = -(lvT b t cs) % (b : Int) := by
  unfold dgT
  have := Int.emod_nonneg (-(lvT b t cs)) (show (b : Int) ≠ 0 by omega)
  omega
theorem keyT_succ {b t : Nat} (hb : 1 ≤ b) (cs : List Nat) : keyT b (t + 1) cs = keyT b t cs - (dgT b t cs : Nat) * pwT b t := by
  have h := Int.mul_ediv_add_emod (-(lvT b t cs)) b
  rw [← dgT_eq hb] at h
  have e : lvT b t cs = -((b : Int) * lvT b (t + 1) cs) - (dgT b t cs : Nat) := by
    show lvT b t cs = -((b : Int) * (-(lvT b t cs) / (b : Int))) - _
    omega
  unfold keyT
  show numOf cs - lvT b (t + 1) cs * (-(pwT b t) * (b : Int)) = numOf cs - lvT b t cs * pwT b t - _
  rw [e]
  have r1 : lvT b (t + 1) cs * (-(pwT b t) * (b : Int)) = -((b : Int) * lvT b (t + 1) cs * pwT b t) := by
    rw [Int.neg_mul, Int.mul_neg, ← Int.mul_assoc, Int.mul_comm _ (b : Int), ← Int.mul_assoc]
  rw [r1, Int.sub_mul, Int.neg_mul]
  omega
/-- what holds between the rounds -/
structure RowOk (b : Nat) (W : List (List Nat)) (t : Nat) : Prop where
  st : StabP (keyT b t) W (rowT b W t)
  win : ∀ a ∈ W, -(lowT b t) ≤ keyT b t a ∧ keyT b t a < szT b t - lowT b t
theorem rowOk0 {b : Nat} {W : List (List Nat)} : RowOk b W 0 := by
  have h0 : ∀ a, keyT b 0 a = 0 := fun a => by show numOf a - numOf a * 1 = 0; omega
  have hp : ∀ l : List (List Nat), l.Pairwise fun a c => keyT b 0 a ≤ keyT b 0 c := fun l => by
    induction l with
    | nil => exact .nil
    | cons a l ih => exact List.pairwise_cons.mpr ⟨fun c _ => by rw [h0, h0]; exact Int.le_refl _, ih⟩
  refine ⟨⟨hp W, fun v => rfl⟩, fun a _ => ?_⟩
  · rw [h0]; exact ⟨by show -(0 : Int) ≤ 0; omega, by show (0 : Int) < 1 - 0; omega⟩
theorem sz_pos {b : Nat} (hb : 1 ≤ b) : ∀ t, 0 < szT b t
  | 0 => by show (0 : Int) < 1; omega
  | t + 1 => Int.mul_pos (sz_pos hb t) (by omega)
theorem rowOk_even {b t : Nat} {W : List (List Nat)} (hb : 1 ≤ b) (ht : t ≠ 1) (hp : pwT b t = szT b t) (h : RowOk b W t) : RowOk b W (t + 1) := by
  have r := round_even (key' := keyT b (t + 1)) (dg := dgT b t) h.st hb (sz_pos hb t) (fun a _ => by rw [keyT_succ hb, hp]) h.win (fun a _ => dgT_lt hb a)
  refine ⟨?_, fun a ha => ?_⟩
  · show StabP _ W (flatQ (rowT b W t) (dgT b t) (ordT b t))
    unfold ordT
    rw [if_neg ht]
    exact r.1
  · have := r.2 a ha
    have e1 : lowT b (t + 1) = lowT b t + ((b : Int) - 1) * szT b t := by show (if t = 1 then _ else _) = _; rw [if_neg ht]
    have e2 : szT b (t + 1) = (b : Int) * szT b t := Int.mul_comm _ _
    rw [e1, e2]
    exact this
theorem rowOk_odd {b : Nat} {W : List (List Nat)} (hb : 1 ≤ b) (hp : pwT b 1 = -szT b 1) (h : RowOk b W 1) : RowOk b W 2 := by
  have r := round_odd (key' := keyT b 2) (dg := dgT b 1) h.st hb (sz_pos hb 1) (fun a _ => by rw [keyT_succ hb, hp, Int.mul_neg]; omega) h.win (fun a _ => dgT_lt hb a)
  refine ⟨r.1, fun a ha => ?_⟩
  have := r.2 a ha
  have e1 : lowT b 2 = lowT b 1 := by show (if 1 = 1 then _ else _) = _; rw [if_pos rfl]
  have e2 : szT b 2 = (b : Int) * szT b 1 := Int.mul_comm _ _
  rw [e1, e2]
  exact this
theorem rowOk {b : Nat} {W : List (List Nat)} (hb : 1 ≤ b) : RowOk b W 1 ∧ RowOk b W 2 ∧ RowOk b W 3 := by
  have p1 : pwT b 1 = -szT b 1 := by show -(1 : Int) * b = -(1 * b); omega
  have p2 : pwT b 2 = szT b 2 := by
    show -(pwT b 1) * (b : Int) = szT b 1 * b
    rw [p1, Int.neg_neg]
  have h1 := rowOk_even (t := 0) hb (by decide) rfl (rowOk0 (b := b) (W := W))
  have h2 := rowOk_odd hb p1 h1
  exact ⟨h1, h2, rowOk_even hb (by decide) p2 h2⟩
theorem pw_sz {b : Nat} : ∀ t, pwT b t = szT b t ∨ pwT b t = -szT b t
  | 0 => .inl rfl
  | t + 1 => by
    show -(pwT b t) * (b : Int) = szT b t * b ∨ -(pwT b t) * (b : Int) = -(szT b t * b)
    rcases pw_sz (b := b) t with h | h
    · right; rw [h, Int.neg_mul]
    · left; rw [h, Int.neg_neg]
/-- the window's number of a word -/
theorem due_key {b t : Nat} {W : List (List Nat)} (h : RowOk b W t) {a : List Nat} (ha : a ∈ W) : (numOf a + lowT b t) % szT b t = keyT b t a + lowT b t := by
  have hw := h.win a ha
  have e : ∃ z, numOf a + lowT b t = keyT b t a + lowT b t + szT b t * z := by
    unfold keyT
    rcases pw_sz (b := b) t with h | h
    · exact ⟨lvT b t a, by rw [h, Int.mul_comm]; omega⟩
    · exact ⟨-(lvT b t a), by rw [h, Int.mul_neg, Int.mul_neg, Int.mul_comm]; omega⟩
  obtain ⟨z, e⟩ := e
  rw [e, Int.add_mul_emod_self_left]
  exact Int.emod_eq_of_lt (by omega) (by omega)
end Mine
end
section
set_option maxRecDepth 100000
set_option maxHeartbeats 4000000
namespace Mine
open PySem PySem.W PySem.Calls PyProof.Rows

theorem toks_text : ∀ (xs : List Int) (pre : List Nat), (∀ c ∈ pre, c = 10 ∨ c = 9) → ∃ rf, Toks (pre ++ ((xs.map textOf).flatten ++ [122])) (xs.map wordOf) rf ∧ Toks rf [[122], [], []] []
  | [], pre, hp => by
    refine ⟨pre ++ [122], .nil _, .cons hp .z ?_⟩
    exact .cons (ws := []) (fun _ h => nomatch h) .eof (.cons (ws := []) (fun _ h => nomatch h) .eof (.nil _))
  | x :: xs, pre, hp => by
    have hsep : sepOf x = 10 ∨ sepOf x = 9 := by unfold sepOf; split <;> simp
    by_cases hb : x / 2048 % 2 ≠ 0 ∧ wordOf x ≠ []
    · obtain ⟨rf, h1, h2⟩ := toks_text xs [] (fun _ h => nomatch h)
      cases hw : wordOf x with
      | nil => exact absurd hw hb.2
      | cons c cs =>
        refine ⟨rf, ?_, h2⟩
        have e : (((x :: xs).map textOf).flatten ++ [122]) = 92 :: c :: (esc cs ++ sepOf x :: ((xs.map textOf).flatten ++ [122])) := by
          simp only [List.map_cons, List.flatten_cons, textOf]
          unfold written
          rw [if_pos hb, hw]
          simp [esc]
        rw [e, List.map_cons, hw]
        exact .cons hp (.bare c cs _ _ hsep) h1
    · obtain ⟨rf, h1, h2⟩ := toks_text xs [sepOf x] (fun c h => by rw [List.mem_singleton.mp h]; exact hsep)
      refine ⟨rf, ?_, h2⟩
      have e : (((x :: xs).map textOf).flatten ++ [122]) = 34 :: (qt (wordOf x) ++ 34 :: ([sepOf x] ++ ((xs.map textOf).flatten ++ [122]))) := by
        simp only [List.map_cons, List.flatten_cons, textOf]
        unfold written
        rw [if_neg hb]
        simp
      rw [e, List.map_cons]
      exact .cons hp (.quo _ _) h1
theorem letOf_mem {k : Nat} (h : k < 8) : letOf k ∈ lets := List.mem_of_getElem? (lets_at h)
theorem wordN_mem (x : Int) : ∀ i, ∀ c ∈ wordN x i, c ∈ lets
  | 0, _, h => nomatch h
  | i + 1, c, h => by
    rcases List.mem_append.mp h with h | h
    · exact wordN_mem x i c h
    · rw [List.mem_singleton.mp h]; exact letOf_mem (fig_lt x i)
theorem wordN_at (x : Int) : ∀ (i j : Nat), j < i → (wordN x i).getD j 0 = letOf (fig x j)
  | 0, _, h => absurd h (Nat.not_lt_zero _)
  | i + 1, j, h => by
    show (wordN x i ++ [letOf (fig x i)]).getD j 0 = _
    rw [List.getD_eq_getElem?_getD]
    rcases Nat.lt_or_ge j i with h' | h'
    · rw [List.getElem?_append_left (by rw [wordN_len]; exact h'), ← List.getD_eq_getElem?_getD]
      exact wordN_at x i j h'
    · have : j = i := by omega
      subst this
      rw [List.getElem?_append_right (by rw [wordN_len]; exact Nat.le_refl _), wordN_len, Nat.sub_self]
      rfl
theorem valD_cong {D D' : Nat → Nat} {n : Nat} : ∀ (k l : Nat), (∀ i, l ≤ i → i < l + k → D i = D' i) → valD D n l k = valD D' n l k
  | 0, _, _ => rfl
  | k + 1, l, h => by
    show D l + 2 ^ n * valD D n (l + 1) k = D' l + 2 ^ n * valD D' n (l + 1) k
    rw [h l (Nat.le_refl _) (by omega), valD_cong k (l + 1) (fun i h1 h2 => h i (by omega) (by omega))]
theorem valueN_eq (x : Int) : ∀ i, valueN x i = 56 - (valD (fun j => fig x j) 3 0 i : Nat)
  | 0 => rfl
  | i + 1 => by
    rw [valueN, valueN_eq x i, valD_add]
    have e : valD (fun j => fig x j) 3 (0 + i) 1 = fig x i := by show fig x (0 + i) + 2 ^ 3 * 0 = _; simp
    rw [e, Nat.pow_mul]
    have : ((2 : Nat) ^ 3) ^ i = 8 ^ i := rfl
    rw [this, Int.natCast_add, Int.natCast_mul, Int.natCast_pow]
    have := Int.mul_comm (fig x i : Int) (8 ^ i)
    show 56 - _ - (fig x i : Int) * 8 ^ i = 56 - (_ + (8 : Int) ^ i * _)
    omega
theorem numOf_word (x : Int) : numOf (wordOf x) = valueOf x := by
  unfold numOf valueOf wordOf
  rw [wordN_len, valueN_eq]
  congr 2
  exact valD_cong _ _ fun i h1 h2 => by rw [wordN_at x _ i (by omega), idx_letOf (fig_lt x i)]
theorem numOf_bound {cs : List Nat} (h : cs.length < 4) : -500 ≤ numOf cs ∧ numOf cs < 500 := by
  have h1 := valD_lt (fun i => idxOf (cs.getD i 0)) 3 cs.length 0 (fun i _ _ => idxOf_lt _)
  have h2 : (2 : Nat) ^ (3 * cs.length) ≤ 2 ^ 9 := Nat.pow_le_pow_right (by omega) (by omega)
  unfold numOf
  omega
end Mine
end
section
set_option maxRecDepth 100000
set_option maxHeartbeats 4000000
namespace Mine
open PySem PySem.W PySem.Calls PyProof.Rows

theorem sum_zero : ∀ ord : List Nat, (ord.map fun _ => 0).sum = 0
  | [] => rfl
  | _ :: ord => by rw [List.map_cons, List.sum_cons, sum_zero ord]
theorem ind_sum {k : Nat} : ∀ {ord : List Nat}, ord.Nodup → k ∈ ord → (ord.map fun j => if k = j then 1 else 0).sum = 1
  | [], _, h => nomatch h
  | j :: ord, hn, h => by
    obtain ⟨h1, h2⟩ := List.nodup_cons.mp hn
    rw [List.map_cons, List.sum_cons]
    by_cases e : k = j
    · subst e
      have : (ord.map fun j => if k = j then 1 else 0).sum = 0 := by
        have : (ord.map fun j => if k = j then 1 else 0) = ord.map fun _ => 0 := List.map_congr_left fun j hj => if_neg fun (e : k = j) => h1 (by rw [e]; exact hj)
        rw [this]; exact sum_zero ord
      rw [if_pos rfl, this]
    · rw [if_neg e, ind_sum h2 ((List.mem_cons.mp h).resolve_left e)]
theorem sum_add' {f g : Nat → Nat} : ∀ ord : List Nat, (ord.map fun j => f j + g j).sum = (ord.map f).sum + (ord.map g).sum
  | [] => rfl
  | j :: ord => by simp only [List.map_cons, List.sum_cons, sum_add' ord]; exact Nat.add_add_add_comm ..
theorem flatQ_length {dg : List Nat → Nat} {ord : List Nat} (hn : ord.Nodup) : ∀ l : List (List Nat), (∀ a ∈ l, dg a ∈ ord) → (flatQ l dg ord).length = l.length
  | [], _ => by unfold flatQ; exact congrArg List.length (flat_none (f := fun j => List.filter (fun cs => dg cs == j) ([] : List (List Nat))) fun j _ => rfl)
  | a :: l, h => by
    have ih := flatQ_length hn l fun c hc => h c (.tail _ hc)
    unfold flatQ at ih ⊢
    rw [List.length_flatten, List.map_map] at ih ⊢
    have e : (List.length ∘ fun j => (a :: l).filter fun cs => dg cs == j) = fun j => ((if dg a = j then 1 else 0) + (List.length ∘ fun j => l.filter fun cs => dg cs == j) j) := by
      funext j
      show ((a :: l).filter fun cs => dg cs == j).length = _ + (l.filter fun cs => dg cs == j).length
      by_cases z : dg a = j
      · rw [List.filter_cons_of_pos (by simp [z]), if_pos z, List.length_cons]; omega
      · rw [List.filter_cons_of_neg (by simp [z]), if_neg z]; omega
    rw [e, sum_add', ind_sum hn (h a (.head _)), ih, List.length_cons]
    omega
theorem ordT_nodup (b t : Nat) : (ordT b t).Nodup := by
  unfold ordT
  split
  · exact List.nodup_range
  · exact List.pairwise_reverse.mpr (List.Pairwise.imp (fun h => h.symm) List.nodup_range)
theorem ordT_mem {b t k : Nat} : k ∈ ordT b t ↔ k < b := by
  unfold ordT
  split
  · exact List.mem_range
  · rw [List.mem_reverse]; exact List.mem_range
theorem rowT_len {b : Nat} (hb : 1 ≤ b) (W : List (List Nat)) : ∀ t, (rowT b W t).length = W.length
  | 0 => rfl
  | t + 1 => (flatQ_length (ordT_nodup b t) _ fun a _ => ordT_mem.mpr (dgT_lt hb a)).trans (rowT_len hb W t)
theorem lvT_bound {b : Nat} (hb1 : 2 ≤ b) (hb2 : b ≤ 8) {cs : List Nat} (h : cs.length < 4) : ∀ t, -500 ≤ lvT b t cs ∧ lvT b t cs < 500
  | 0 => numOf_bound h
  | t + 1 => by
    have ih := lvT_bound hb1 hb2 h t
    show -500 ≤ -(lvT b t cs) / (b : Int) ∧ -(lvT b t cs) / (b : Int) < 500
    generalize lvT b t cs = z at ih
    have hb : (0 : Int) < (b : Int) := by omega
    exact ⟨Int.le_ediv_of_mul_le hb (by omega), Int.ediv_lt_of_lt_mul hb (by omega)⟩
end Mine
end
section
open PySem PySem.W PyProof.Rows PySem.Calls PySem.Spec
namespace Mine
section
variable {w : World} {p : Program} {loose : List Str} {mean : ExcName → Option Value} {mg mb : Str → Option Value} {g : Heap} {s : Shared} {dp un : Nat} {fr : Option (List Env)} {gd : Option (List Code)} {Q : Flow → Shared → Prop} {E : Value → Shared → Prop} {rest : List (Addr × Obj)}
local macro_rules | `(tactic| k_all) => `(tactic| walk_at "al3")
set_option maxRecDepth 100000 in
set_option maxHeartbeats 8000000 in
theorem d6_one (Xg : (hd.heap_1 w.params).In g) (Tg : Top p loose mean mg mb g) (hdp : dp < 600) (hun : un < 6000) {L fa : Addr} {cd : Value} {scope : Scope} (hsc : scopeAt (hd.heap_1 w.params) 140 = some scope) {st : Stmt} (hb : (forBody (bodyAt (hd.heap_1 w.params) 140)[21]?)[6]? = some st)
   {m : Str → Option Value} {news : List (Addr × Obj)} {tt : Tok} 
   (F : Fr g L s.heap m) (N : News g L s.heap news) (mt : m (Str.ofString "turn") = some (.int 1 tt))
   (ret : ∀ tk', Q .next (St s s.heap tk')) :
   wpAny (model PR w) (Ar dp un fr gd) (exec st (envOfC (Str.ofString "law") scope L fa cd)) Q E s := by
  refine with_look2 (K := hd.heap_1 w.params) (f := 140) (by k_dflt k_is) fun eb es => ?_
  rw [es] at hsc
  rw [eb] at hb
  dsimp only [List.getElem?_cons_succ, List.getElem?_cons_zero, forBody] at hb hsc
  (try replace hb := Option.some.inj hb)
  replace hsc := Option.some.inj hsc
  subst hb
  subst hsc
  clear eb es
  have he := explicit_eq [((Str.ofString "turn"), .int 1 tt)] (allC mt (List.forall_mem_nil _))
  rw [← he] at F
  k_steps
  exact ret _
theorem szLow {b t : Nat} (hb1 : 2 ≤ b) (hb2 : b ≤ 8) (ht : t ≤ 3) : 1 ≤ szT b t ∧ szT b t < 600 ∧ 0 ≤ lowT b t ∧ lowT b t < 600 ∧ -600 ≤ pwT b t ∧ pwT b t ≤ 600 := by
  have h : ∀ b ∈ List.range 9, 2 ≤ b → ∀ t ∈ List.range 4, 1 ≤ szT b t ∧ szT b t < 600 ∧ 0 ≤ lowT b t ∧ lowT b t < 600 ∧ -600 ≤ pwT b t ∧ pwT b t ≤ 600 := by decide
  exact h b (List.mem_range.mpr (by omega)) hb1 t (List.mem_range.mpr (by omega))
theorem intsAre_reverse : ∀ {vs : List Value} {xs : List Int}, IntsAre vs xs → IntsAre vs.reverse xs.reverse
  | _, _, .nil => .nil
  | _, _, .cons n t h => by
    rw [List.reverse_cons, List.reverse_cons]
    exact (intsAre_reverse h).append (.cons n t .nil)
theorem d6_any (Xg : (hd.heap_1 w.params).In g) (Tg : Top p loose mean mg mb g) (hdp : dp < 600) (hun : un < 6000) {L fa : Addr} {cd : Value} {scope : Scope} (hsc : scopeAt (hd.heap_1 w.params) 140 = some scope) {st : Stmt} (hb : (forBody (bodyAt (hd.heap_1 w.params) 140)[21]?)[6]? = some st)
   {m : Str → Option Value} {news : List (Addr × Obj)} {tb tt ts tl : Tok} {b no : Nat} {oA : Addr} {ov : List Value} {t : Nat} {oLow oSize : Obj} (hb1 : 2 ≤ b) (hb2 : b ≤ 8) (ht : t < 3) (hov : IntsAre ov ((List.range b).map fun j => ((j : Nat) : Int))) (hlo : oLow.data = .cell (some (.int (lowT b t) tl))) (hsz : oSize.data = .cell (some (.int (szT b t) ts)))
   (hn1 : ∀ q ∈ (L + 6, oLow) :: (L + 7, oSize) :: news, q.1 ≠ oA) (hn2 : ∀ q ∈ news, q.1 ≠ L + 6)
   (F : Fr g L s.heap m) (N : News g L s.heap ((oA, listOf ov.toArray no) :: (L + 6, oLow) :: (L + 7, oSize) :: news)) (mb : m (Str.ofString "base") = some (.int (b : Nat) tb)) (mt : m (Str.ofString "turn") = some (.int (t : Nat) tt)) (mo : m (Str.ofString "order") = some (.ref oA))
   (ret : ∀ h' tk' ov' no' oLow' tl', Fr g L h' m → News g L h' ((oA, listOf ov'.toArray no') :: (L + 6, oLow') :: (L + 7, oSize) :: news) → IntsAre ov' ((ordT b t).map fun j => ((j : Nat) : Int)) → oLow'.data = .cell (some (.int (lowT b (t + 1)) tl')) → Q .next (St s h' tk')) :
   wpAny (model PR w) (Ar dp un fr gd) (exec st (envOfC (Str.ofString "law") scope L fa cd)) Q E s := by
  obtain ⟨z1, z2, z3, z4, _⟩ := szLow hb1 hb2 (show t ≤ 3 by omega)
  have e1 : @Ne Nat oA (L + 6) := (hn1 (L + 6, oLow) (.head _)).symm
  have e2 : @Ne Nat oA (L + 7) := (hn1 (L + 7, oSize) (.tail _ (.head _))).symm
  have hlen : ov.length = b := by have := IntsAre.length hov; simpa using this
  by_cases h : t = 1
  · subst h
    refine d6_one Xg Tg hdp hun hsc hb F N mt fun tk' => ?_
    exact ret _ _ _ _ _ _ F N (by unfold ordT; rw [if_pos rfl]; exact hov) hlo
  · refine d6_rev Xg Tg hdp hun hsc hb hb2 h (by omega) hlo hsz (by omega) (by omega) z3 (by omega) (fun q hq => hn1 q (.tail _ (.tail _ hq))) hn2 e1 e2 F N mb mt mo ?_
    intro h' tk' no' oLow' tl' F' N' hl'
    refine ret _ _ _ _ _ tl' F' N' (by unfold ordT; rw [if_neg h, List.map_reverse]; exact intsAre_reverse hov) ?_
    · have e : lowT b (t + 1) = lowT b t + ((b : Int) - 1) * szT b t := by show (if t = 1 then _ else _) = _; rw [if_neg h]
      rw [e]; exact hl'
theorem d7_size (Xg : (hd.heap_1 w.params).In g) (Tg : Top p loose mean mg mb g) (hdp : dp < 600) (hun : un < 6000) {L fa : Addr} {cd : Value} {scope : Scope} (hsc : scopeAt (hd.heap_1 w.params) 140 = some scope) {st : Stmt} (hb : (forBody (bodyAt (hd.heap_1 w.params) 140)[21]?)[7]? = some st)
   {m : Str → Option Value} {news : List (Addr × Obj)} {tb ts : Tok} {b t : Nat} {oSize : Obj} (hb1 : 2 ≤ b) (hb2 : b ≤ 8) (ht : t < 3) (hsz : oSize.data = .cell (some (.int (szT b t) ts)))
   (hn : ∀ q ∈ news, q.1 ≠ L + 7)
   (F : Fr g L s.heap m) (N : News g L s.heap ((L + 7, oSize) :: news)) (mb : m (Str.ofString "base") = some (.int (b : Nat) tb))
   (ret : ∀ h' tk' oSize' ts', Fr g L h' m → News g L h' ((L + 7, oSize') :: news) → oSize'.data = .cell (some (.int (szT b (t + 1)) ts')) → Q .next (St s h' tk')) :
   wpAny (model PR w) (Ar dp un fr gd) (exec st (envOfC (Str.ofString "law") scope L fa cd)) Q E s := by
  obtain ⟨z1, z2, z3, z4, _⟩ := szLow hb1 hb2 (show t ≤ 3 by omega)
  obtain ⟨y1, y2, _⟩ := szLow hb1 hb2 (show t + 1 ≤ 3 by omega)
  have y3 : szT b t * (b : Int) = szT b (t + 1) := rfl
  refine with_look2 (K := hd.heap_1 w.params) (f := 140) (by k_dflt k_is) fun eb es => ?_
  rw [es] at hsc
  rw [eb] at hb
  dsimp only [List.getElem?_cons_succ, List.getElem?_cons_zero, forBody] at hb hsc
  (try replace hb := Option.some.inj hb)
  replace hsc := Option.some.inj hsc
  subst hb
  subst hsc
  clear eb es
  have he := explicit_eq [((Str.ofString "base"), .int (b : Nat) tb)] (allC mb (List.forall_mem_nil _))
  rw [← he] at F
  k_steps
  (with_reducible rename Fr _ _ _ _ => FZ); (with_reducible rename News _ _ _ _ => NZ)
  rw [he] at FZ
  refine ret _ _ _ ?tz FZ NZ ?hz
  case hz => assumption
theorem d8_power (Xg : (hd.heap_1 w.params).In g) (Tg : Top p loose mean mg mb g) (hdp : dp < 600) (hun : un < 6000) {L fa : Addr} {cd : Value} {scope : Scope} (hsc : scopeAt (hd.heap_1 w.params) 140 = some scope) {st : Stmt} (hb : (forBody (bodyAt (hd.heap_1 w.params) 140)[21]?)[8]? = some st)
   {m : Str → Option Value} {news : List (Addr × Obj)} {tb tp : Tok} {b t : Nat} (hb1 : 2 ≤ b) (hb2 : b ≤ 8) (ht : t < 3)
   (F : Fr g L s.heap m) (N : News g L s.heap news) (mb : m (Str.ofString "base") = some (.int (b : Nat) tb)) (mp : m (Str.ofString "power") = some (.int (pwT b t) tp))
   (ret : ∀ h' tk' tp', Fr g L h' (fun z => if z = (Str.ofString "power") then some (.int (pwT b (t + 1)) tp') else m z) → News g L h' news → Q .next (St s h' tk')) :
   wpAny (model PR w) (Ar dp un fr gd) (exec st (envOfC (Str.ofString "law") scope L fa cd)) Q E s := by
  obtain ⟨_, _, _, _, z1, z2⟩ := szLow hb1 hb2 (show t ≤ 3 by omega)
  obtain ⟨_, _, _, _, y1, y2⟩ := szLow hb1 hb2 (show t + 1 ≤ 3 by omega)
  have y3 : -(pwT b t) * (b : Int) = pwT b (t + 1) := rfl
  refine with_look2 (K := hd.heap_1 w.params) (f := 140) (by k_dflt k_is) fun eb es => ?_
  rw [es] at hsc
  rw [eb] at hb
  dsimp only [List.getElem?_cons_succ, List.getElem?_cons_zero, forBody] at hb hsc
  (try replace hb := Option.some.inj hb)
  replace hsc := Option.some.inj hsc
  subst hb
  subst hsc
  clear eb es
  have he := explicit_eq [((Str.ofString "base"), .int (b : Nat) tb), ((Str.ofString "power"), .int (pwT b t) tp)] (allC mb (allC mp (List.forall_mem_nil _)))
  rw [← he] at F
  k_steps
  (with_reducible rename Fr _ _ _ _ => FZ); (with_reducible rename News _ _ _ _ => NZ)
  rw [← he] at ret
  exact ret _ _ _ FZ NZ
end
end Mine
end
section
set_option maxRecDepth 100000
set_option maxHeartbeats 4000000
namespace Mine
open PySem PySem.W PySem.Calls PyProof.Rows

theorem getD_map0 (W : List (List Nat)) (f : List Nat → Int) {k : Nat} (h : k < W.length) : (W.map f).getD k 0 = f (W.getD k []) := by
  rw [List.getD_eq_getElem?_getD, List.getD_eq_getElem?_getD, List.getElem?_map, List.getElem?_eq_getElem h]
  rfl
/-- what a pair asks of the k-th word -/
def askT (b t : Nat) (W : List (List Nat)) (k : Nat) : Int := ((W.map numOf).getD k 0 + lowT b t) % szT b t
theorem askT_key {b t : Nat} {W : List (List Nat)} (h : RowOk b W t) {k : Nat} (hk : k < W.length) : askT b t W k = keyT b t (W.getD k []) + lowT b t := by
  unfold askT
  rw [getD_map0 W numOf hk]
  refine due_key h ?_
  rw [List.getD_eq_getElem?_getD, List.getElem?_eq_getElem hk]
  exact List.getElem_mem hk
theorem askT_pos {b t : Nat} (W : List (List Nat)) (hb : 2 ≤ b) (hb2 : b ≤ 8) (ht : t ≤ 3) (k : Nat) : 0 ≤ askT b t W k ∧ askT b t W k < 10000 := by
  obtain ⟨z1, z2, _⟩ := szLow hb hb2 ht
  unfold askT
  exact ⟨Int.emod_nonneg _ (by omega), Int.lt_trans (Int.emod_lt_of_pos _ (by omega)) (by omega)⟩
theorem due_row {b t : Nat} {W : List (List Nat)} {q : Array Nat} (h : RowOk b W t) (hn : W.length < 64) (hq : PermN W.length q) (hu : UpTo (fun i => askT b t W i * 64 + i) q W.length) : rowT b W t = q.toList.map fun k => W.getD k [] :=
  h.st.uniq (stab_due (low := lowT b t) (fun k hk => askT_key h hk) hn hq hu)
theorem PermN.ltL {n : Nat} {q : Array Nat} (hq : PermN n q) : ∀ k ∈ q.toList, k < n := fun k hk => List.mem_range.mp (hq.perm.mem_iff.mp hk)
theorem due_lad {b t : Nat} {W : List (List Nat)} {q : Array Nat} (h : RowOk b W t) (hn : W.length < 64) (hq : PermN W.length q) (hu : UpTo (fun i => askT b t W i * 64 + i) q W.length) : ladOf (keyT b t) W = q.toList.map fun k => (askT b t W k - lowT b t, W.getD k []) := by
  obtain ⟨l, e, hs⟩ := lad_stab (keyT b t) W
  have e2 : l = q.toList.map fun k => W.getD k [] := (hs.uniq h.st).trans (due_row h hn hq hu)
  rw [e, e2, List.map_map]
  refine List.map_congr_left fun k hk => ?_
  show (keyT b t (W.getD k []), W.getD k []) = _
  rw [askT_key h (hq.ltL k hk), show keyT b t (W.getD k []) + lowT b t - lowT b t = keyT b t (W.getD k []) from by omega]
theorem due_all2 {prs : List (Addr × Obj)} {f : Nat → Int} {ys : List Value} {n : Nat} (h : All2 (fun v k => TupR prs v (f k) k) ys (List.range n)) : ∀ l : List Nat, (∀ k ∈ l, k < n) → All2 (fun v k => TupR prs v (f k) k) (l.map fun i => ys.getD i Value.none) l
  | [], _ => .nil
  | k :: l, hl => by
    refine .cons ?_ (due_all2 h l fun j hj => hl j (.tail _ hj))
    obtain ⟨a, e1, e2⟩ := h.get (i := k) (b := k) (by rw [List.getElem?_range (hl k (.head _))])
    show TupR prs (ys.getD k Value.none) (f k) k
    rw [List.getD_eq_getElem?_getD, e1]
    exact e2
end Mine
end
section
open PySem PySem.W PyProof.Rows PySem.Calls PySem.Spec
namespace Mine
section
variable {w : World} {p : Program} {loose : List Str} {mean : ExcName → Option Value} {mg mb : Str → Option Value} {g : Heap} {s : Shared} {dp un : Nat} {fr : Option (List Env)} {gd : Option (List Code)} {Q : Flow → Shared → Prop} {E : Value → Shared → Prop} {rest : List (Addr × Obj)}
theorem linesL_pb {ls : List Line} {qs : List (List Value × Nat)} (e : ls.length = qs.length) : ∀ l ∈ ls, ∃ o, (l.pb, o) ∈ LinesL ls qs := fun l hl => by
  obtain ⟨i, hi⟩ := List.getElem?_of_mem hl
  have hlt : i < ls.length := by
    rcases Nat.lt_or_ge i ls.length with h | h
    · exact h
    · rw [List.getElem?_eq_none h] at hi; cases hi
  exact ⟨_, (linesL_at hi (List.getElem?_eq_getElem (by omega : i < qs.length))).1⟩
local macro_rules | `(tactic| walk_at "exec Assign cons ListComp") => `(tactic| (refine Halt.out ?_))
local macro_rules | `(tactic| walk_at "exec If") => `(tactic| (refine Halt.out ?_))
local macro_rules | `(tactic| walk_at "exec Assign cons Call") => `(tactic| (refine Halt.out ?_))
local macro_rules | `(tactic| walk_at "exec Assign cons BinOp") => `(tactic| (refine Halt.out ?_))
set_option maxRecDepth 100000 in
set_option maxHeartbeats 8000000 in
theorem t_5 (Xg : (hd.heap_1 w.params).In g) (Tg : Top p loose mean mg mb g) (hdp : dp < 600) (hun : un < 6000) {L fa : Addr} {cd : Value} {scope : Scope} (hsc : scopeAt (hd.heap_1 w.params) 140 = some scope) {bd bs : List Stmt} (hb : bd = forBody (bodyAt (hd.heap_1 w.params) 140)[21]?) (hbs : bs = bd.drop 5)
   {x dx pb : Addr} {lxh : LexH} {fs : Addr} {k : Nat} {ln ws : Value} {m : Str → Option Value} {ex : List (Addr × Obj)} {nA lA tA vA wA cA lsA : Addr} {ls : List Line} {qs : List (List Value × Nat)} {tv vv wv cv : List Value} {npb nt nv nw nc nls : Nat} {oN oF oW oV oR oC oLow oSize : Obj} {b t : Nat} {tb tt tp tl ts : Tok} {kn kl : List (Str × Value)} {words : List (List Nat)}
   (hW : oW.data = .cell (some (.ref wA))) (hV : oV.data = .cell (some (.ref vA))) (hR : oR.data = .cell (some (.ref x))) (hC : oC.data = .cell (some (.ref nA))) (hlo : oLow.data = .cell (some (.int (lowT b t) tl))) (hsz : oSize.data = .cell (some (.int (szT b t) ts)))
   (F : Fr g L s.heap m) (N : News g L s.heap ((pb, listOf ([] : List Value).toArray npb) :: (cA, listOf cv.toArray nc) :: (lsA, listOf (ls.map fun l => Value.ref l.x).toArray nls) :: (x, instObj 112 dx) :: (dx, lexD lxh ln fs ws pb k) :: (nA, oN) :: (lA, oF) :: (tA, listOf tv.toArray nt) :: (vA, listOf vv.toArray nv) :: (wA, listOf wv.toArray nw) :: (L + 2, oW) :: (L + 3, oV) :: (L + 4, oR) :: (L + 5, oC) :: (L + 6, oLow) :: (L + 7, oSize) :: (LinesL ls qs ++ (ex ++ rest)))) (mb : m (Str.ofString "base") = some (.int (b : Nat) tb)) (mt : m (Str.ofString "turn") = some (.int (t : Nat) tt)) (mpw : m (Str.ofString "power") = some (.int (pwT b t) tp)) (ml : m (Str.ofString "left") = some (.ref lA)) (mto : m (Str.ofString "told") = some (.ref tA)) (mls : m (Str.ofString "lines") = some (.ref lsA)) (mc : m (Str.ofString "counts") = some (.ref cA))
   (hN : oN.IsDictOf (PySem.strKind PR w) kn) (hkn : NumD kn words numOf) (hF : oF.IsDictOf (PySem.strKind PR w) kl) (hkl : NumD kl words (lvT b (t + 1))) (hwl : words.length < 60) (hw2 : 2 ≤ words.length) (hb1 : 2 ≤ b) (hb2 : b ≤ 8) (ht : t < 3) (hro : RowOk b words (t + 1))
   (htv : StrsAre tv (words.map S)) (hwv : StrsAre wv (words.map S)) (hvv : IntsAre vv (words.map numOf)) (hnb : ∀ cs ∈ words, -500 ≤ numOf cs ∧ numOf cs < 500) (hfb : ∀ cs ∈ words, -500 ≤ lvT b (t + 1) cs ∧ lvT b (t + 1) cs < 500) (hch : ∀ cs ∈ words, ∀ c ∈ cs, c < 1000)
   (hok : ∀ l ∈ ls, l.Ok) (hll : ls.length = b) (hlq : qs.length = b) (hnd : (ls.map (·.pb)).Nodup) (hqs : Queues qs b (rowT b words t) (dgT b t)) (hcs : Counts cv b (rowT b words t) (dgT b t))
   (a1 : ∀ a ∈ [cA, nA, lA, tA, vA, wA, L + 2, L + 3, L + 5, L + 6, L + 7], @Ne Nat a pb) (a2 : ∀ q ∈ ex ++ rest, q.1 ≠ pb) (a3 : ∀ a ∈ [cA, nA, lA, tA, vA, wA, L + 2, L + 3, L + 5, L + 6, L + 7], ∀ l ∈ ls, @Ne Nat a l.pb) (a4 : ∀ q ∈ ex ++ rest, ∀ l ∈ ls, q.1 ≠ l.pb) (hl3 : ∀ l ∈ ls, @Ne Nat l.pb pb ∧ @Ne Nat l.pb lsA) (e2 : @Ne Nat pb lsA)
   (h6 : ∀ q ∈ ((pb, listOf ([] : List Value).toArray npb) :: (cA, listOf cv.toArray nc) :: (lsA, listOf (ls.map fun l => Value.ref l.x).toArray nls) :: (x, instObj 112 dx) :: (dx, lexD lxh ln fs ws pb k) :: (nA, oN) :: (lA, oF) :: (tA, listOf tv.toArray nt) :: (vA, listOf vv.toArray nv) :: (wA, listOf wv.toArray nw) :: (L + 2, oW) :: (L + 3, oV) :: (L + 4, oR) :: (L + 5, oC) :: (LinesL ls qs ++ (ex ++ rest))), q.1 ≠ L + 6) (h7 : ∀ q ∈ ((pb, listOf ([] : List Value).toArray npb) :: (cA, listOf cv.toArray nc) :: (lsA, listOf (ls.map fun l => Value.ref l.x).toArray nls) :: (x, instObj 112 dx) :: (dx, lexD lxh ln fs ws pb k) :: (nA, oN) :: (lA, oF) :: (tA, listOf tv.toArray nt) :: (vA, listOf vv.toArray nv) :: (wA, listOf wv.toArray nw) :: (L + 2, oW) :: (L + 3, oV) :: (L + 4, oR) :: (L + 5, oC) :: (LinesL ls qs ++ (ex ++ rest))), q.1 ≠ L + 7)
   (ret : ∀ h' tk' m' npb' rA nr pv' rv' oLow' oSize' tl' ts' tp', Fr g L h' m' → News g L h' ((pb, listOf pv'.toArray npb') :: (rA, listOf rv'.toArray nr) :: (x, instObj 112 dx) :: (dx, lexD lxh ln fs ws pb k) :: (nA, oN) :: (lA, oF) :: (tA, listOf tv.toArray nt) :: (vA, listOf vv.toArray nv) :: (wA, listOf wv.toArray nw) :: (L + 2, oW) :: (L + 3, oV) :: (L + 4, oR) :: (L + 5, oC) :: (L + 6, oLow') :: (L + 7, oSize') :: (ex ++ rest)) → StrsAre pv' ((rowT b words (t + 1)).map S) → StrsAre rv' ((rowT b words (t + 1)).map S) → oLow'.data = .cell (some (.int (lowT b (t + 1)) tl')) → oSize'.data = .cell (some (.int (szT b (t + 1)) ts')) → Same [(Str.ofString "order"), (Str.ofString "power"), (Str.ofString "row"), (Str.ofString "place"), (Str.ofString "word"), (Str.ofString "line"), (Str.ofString "ladder"), (Str.ofString "due")] m m' → m' (Str.ofString "power") = some (.int (pwT b (t + 1)) tp') → m' (Str.ofString "row") = some (.ref rA) → @Ne Nat pb rA → Q .next (St s h' tk')) :
   wpAny (model PR w) (Ar dp un fr gd) (execs bs (envOfC (Str.ofString "law") scope L fa cd)) Q E s := by
  have hb0 := hb
  have hsc0 := hsc
  refine with_look2 (K := hd.heap_1 w.params) (f := 140) (by k_dflt k_is) fun eb es => ?_
  rw [es] at hsc
  rw [eb] at hb
  dsimp only [List.getElem?_cons_succ, List.getElem?_cons_zero, forBody] at hb hsc
  (try replace hb := Option.some.inj hb)
  replace hsc := Option.some.inj hsc
  subst hb
  subst hsc
  clear eb es
  subst hbs
  simp only [List.drop_succ_cons, List.drop_zero]
  k_steps
  refine ⟨?_⟩
  refine d5_order (news := ((pb, listOf ([] : List Value).toArray npb) :: (cA, listOf cv.toArray nc) :: (lsA, listOf (ls.map fun l => Value.ref l.x).toArray nls) :: (x, instObj 112 dx) :: (dx, lexD lxh ln fs ws pb k) :: (nA, oN) :: (lA, oF) :: (tA, listOf tv.toArray nt) :: (vA, listOf vv.toArray nv) :: (wA, listOf wv.toArray nw) :: (L + 2, oW) :: (L + 3, oV) :: (L + 4, oR) :: (L + 5, oC) :: (L + 6, oLow) :: (L + 7, oSize) :: (LinesL ls qs ++ (ex ++ rest)))) Xg Tg hdp hun hsc0 (by rw [← hb0]; rfl) hb2 F N mb ?_
  clear F N
  intro h1' tk1 oA ov F1 N1 hoA hov
  (try dsimp only)
  k_steps
  refine ⟨?_⟩
  have hlp := linesL_pb (ls := ls) (qs := qs) (by omega)
  have hoA6 : ∀ q ∈ (L + 6, oLow) :: (L + 7, oSize) :: ((pb, listOf ([] : List Value).toArray npb) :: (cA, listOf cv.toArray nc) :: (lsA, listOf (ls.map fun l => Value.ref l.x).toArray nls) :: (x, instObj 112 dx) :: (dx, lexD lxh ln fs ws pb k) :: (nA, oN) :: (lA, oF) :: (tA, listOf tv.toArray nt) :: (vA, listOf vv.toArray nv) :: (wA, listOf wv.toArray nw) :: (L + 2, oW) :: (L + 3, oV) :: (L + 4, oR) :: (L + 5, oC) :: (LinesL ls qs ++ (ex ++ rest))), q.1 ≠ oA := fun q hq => hoA q (subM (by (walk_at "sub"; done)) hq)
  refine d6_any (b := b) (t := t) (tb := tb) (tt := tt) (tl := tl) (ts := ts) (ov := ov) (no := ov.length) (news := ((pb, listOf ([] : List Value).toArray npb) :: (cA, listOf cv.toArray nc) :: (lsA, listOf (ls.map fun l => Value.ref l.x).toArray nls) :: (x, instObj 112 dx) :: (dx, lexD lxh ln fs ws pb k) :: (nA, oN) :: (lA, oF) :: (tA, listOf tv.toArray nt) :: (vA, listOf vv.toArray nv) :: (wA, listOf wv.toArray nw) :: (L + 2, oW) :: (L + 3, oV) :: (L + 4, oR) :: (L + 5, oC) :: (LinesL ls qs ++ (ex ++ rest)))) (oA := oA) (oLow := oLow) (oSize := oSize) Xg Tg hdp hun hsc0 (by rw [← hb0]; rfl) hb1 hb2 ht hov hlo hsz hoA6 h6 F1 (fun q hq => N1 q (subM (by (walk_at "sub"; done)) hq)) ((if_neg (by decide)).trans mb) ((if_neg (by decide)).trans mt) (if_pos rfl) ?_
  clear N1 F1 hov
  intro h2' tk2 ov2 no2 oLow2 tl2 F2 N2 hov2 hlo2
  (try dsimp only)
  k_steps
  refine ⟨?_⟩
  refine d7_size (b := b) (t := t) (tb := tb) (ts := ts) (news := (oA, listOf ov2.toArray no2) :: (L + 6, oLow2) :: ((pb, listOf ([] : List Value).toArray npb) :: (cA, listOf cv.toArray nc) :: (lsA, listOf (ls.map fun l => Value.ref l.x).toArray nls) :: (x, instObj 112 dx) :: (dx, lexD lxh ln fs ws pb k) :: (nA, oN) :: (lA, oF) :: (tA, listOf tv.toArray nt) :: (vA, listOf vv.toArray nv) :: (wA, listOf wv.toArray nw) :: (L + 2, oW) :: (L + 3, oV) :: (L + 4, oR) :: (L + 5, oC) :: (LinesL ls qs ++ (ex ++ rest)))) (oSize := oSize) Xg Tg hdp hun hsc0 (by rw [← hb0]; rfl) hb1 hb2 ht hsz (allC ((hoA6 (L + 7, oSize) (.tail _ (.head _))).symm) (allC (show @Ne Nat (L + 6) (L + 7) from by omega) h7)) F2 (fun q hq => N2 q (subM (by (walk_at "sub"; done)) hq)) ((if_neg (by decide)).trans mb) ?_
  clear N2 F2
  intro h3' tk3 oSize3 ts3 F3 N3 hsz3
  (try dsimp only)
  k_steps
  refine ⟨?_⟩
  refine d8_power (b := b) (t := t) (tb := tb) (tp := tp) Xg Tg hdp hun hsc0 (by rw [← hb0]; rfl) hb1 hb2 ht F3 N3 ((if_neg (by decide)).trans mb) ((if_neg (by decide)).trans mpw) ?_
  clear N3 F3
  intro h4' tk4 tp4 F4 N4
  (try dsimp only)
  k_steps
  rename_i rA hx5 uR hr5 F5 N5
  have hrA : ∀ q ∈ (L + 7, oSize3) :: (oA, listOf ov2.toArray no2) :: (L + 6, oLow2) :: ((pb, listOf ([] : List Value).toArray npb) :: (cA, listOf cv.toArray nc) :: (lsA, listOf (ls.map fun l => Value.ref l.x).toArray nls) :: (x, instObj 112 dx) :: (dx, lexD lxh ln fs ws pb k) :: (nA, oN) :: (lA, oF) :: (tA, listOf tv.toArray nt) :: (vA, listOf vv.toArray nv) :: (wA, listOf wv.toArray nw) :: (L + 2, oW) :: (L + 3, oV) :: (L + 4, oR) :: (L + 5, oC) :: (LinesL ls qs ++ (ex ++ rest))), q.1 ≠ rA := fun q hq => Nat.ne_of_lt (kst_ltOf (l := (L + 7, oSize3) :: (oA, listOf ov2.toArray no2) :: (L + 6, oLow2) :: ((pb, listOf ([] : List Value).toArray npb) :: (cA, listOf cv.toArray nc) :: (lsA, listOf (ls.map fun l => Value.ref l.x).toArray nls) :: (x, instObj 112 dx) :: (dx, lexD lxh ln fs ws pb k) :: (nA, oN) :: (lA, oF) :: (tA, listOf tv.toArray nt) :: (vA, listOf vv.toArray nv) :: (wA, listOf wv.toArray nw) :: (L + 2, oW) :: (L + 3, oV) :: (L + 4, oR) :: (L + 5, oC) :: (LinesL ls qs ++ (ex ++ rest)))) uR q hq)
  have N5a : News g L hr5 ((pb, listOf ([] : List Value).toArray npb) :: (rA, listOf ([] : List Value).toArray 0) :: (lsA, listOf (ls.map fun l => Value.ref l.x).toArray nls) :: (x, instObj 112 dx) :: (dx, lexD lxh ln fs ws pb k) :: (L + 4, oR) :: (LinesL ls qs ++ (((oA, listOf ov2.toArray no2) :: (cA, listOf cv.toArray nc) :: (nA, oN) :: (lA, oF) :: (tA, listOf tv.toArray nt) :: (vA, listOf vv.toArray nv) :: (wA, listOf wv.toArray nw) :: (L + 2, oW) :: (L + 3, oV) :: (L + 5, oC) :: (L + 6, oLow2) :: (L + 7, oSize3) :: ex) ++ rest))) := fun q hq => N5 q (subM (by (walk_at "sub"; done)) hq)
  clear N5
  have hlen := rowT_len (show 1 ≤ b by omega) words t
  refine d10_loop (ex := (nA, oN) :: (lA, oF) :: (tA, listOf tv.toArray nt) :: (vA, listOf vv.toArray nv) :: (wA, listOf wv.toArray nw) :: (L + 2, oW) :: (L + 3, oV) :: (L + 5, oC) :: (L + 6, oLow2) :: (L + 7, oSize3) :: ex) (rest := rest) (ls := ls) (qs := qs) (pv := ([] : List Value)) (rv := ([] : List Value)) (cv := cv) (ov := ov2) (b := b) (W := rowT b words t) (dg := dgT b t) (ord := ordT b t) Xg Tg hdp hun hsc0 (by rw [← hb0]; rfl) hR hok hll hlq hb2 hnd ?hx1 ?hx2 ?hx3 ?e1 e2 ?e3 ?hl3 (by omega) hqs hcs hov2 (fun j hj => ordT_mem.mp hj) (ordT_nodup b t) ?hol F5 N5a ?ml ?mr ?mc ?ret
  case ml => exact (if_neg (by decide)).trans ((if_neg (by decide)).trans ((if_neg (by decide)).trans mls))
  case mr => exact if_pos rfl
  case mc => exact (if_neg (by decide)).trans ((if_neg (by decide)).trans ((if_neg (by decide)).trans mc))
  case hol => unfold ordT; split <;> simp <;> omega
  case hx1 =>
    intro q hq
    simp only [List.mem_cons, List.mem_append] at hq
    rcases hq with (rfl | rfl | rfl | rfl | rfl | rfl | rfl | rfl | rfl | rfl | rfl | rfl | hq) | hq
    · exact (hoA (pb, listOf ([] : List Value).toArray npb) (.head _)).symm
    iterate 11 exact a1 _ (by first | (walk_at "mem"; done) | simp)
    · exact a2 q (List.mem_append_left _ hq)
    · exact a2 q (List.mem_append_right _ hq)
  case hx2 => exact fun q hq => (by
    obtain ⟨q', h1, h2⟩ : ∃ q' ∈ (L + 7, oSize3) :: (oA, listOf ov2.toArray no2) :: (L + 6, oLow2) :: ((pb, listOf ([] : List Value).toArray npb) :: (cA, listOf cv.toArray nc) :: (lsA, listOf (ls.map fun l => Value.ref l.x).toArray nls) :: (x, instObj 112 dx) :: (dx, lexD lxh ln fs ws pb k) :: (nA, oN) :: (lA, oF) :: (tA, listOf tv.toArray nt) :: (vA, listOf vv.toArray nv) :: (wA, listOf wv.toArray nw) :: (L + 2, oW) :: (L + 3, oV) :: (L + 4, oR) :: (L + 5, oC) :: (LinesL ls qs ++ (ex ++ rest))), q'.1 = q.1 := ⟨q, subM (by (walk_at "sub"; done)) hq, rfl⟩
    rw [← h2]; exact hrA q' h1)
  case hx3 =>
    intro q hq l hl
    simp only [List.mem_cons, List.mem_append] at hq
    rcases hq with (rfl | rfl | rfl | rfl | rfl | rfl | rfl | rfl | rfl | rfl | rfl | rfl | hq) | hq
    · obtain ⟨o, ho⟩ := hlp l hl
      exact (hoA (l.pb, o) (by first | (walk_at "mem"; done) | (simp only [List.mem_cons, List.mem_append]; grind))).symm
    iterate 11 exact a3 _ (by first | (walk_at "mem"; done) | simp) l hl
    · exact a4 q (List.mem_append_left _ hq) l hl
    · exact a4 q (List.mem_append_right _ hq) l hl
  case e1 => exact hrA (pb, listOf ([] : List Value).toArray npb) (by first | (walk_at "mem"; done) | simp)
  case e3 => exact (hrA (lsA, listOf (ls.map fun l => Value.ref l.x).toArray nls) (by first | (walk_at "mem"; done) | simp)).symm
  case hl3 =>
    intro l hl
    obtain ⟨o, ho⟩ := hlp l hl
    exact ⟨(hl3 l hl).1, hrA (l.pb, o) (by first | (walk_at "mem"; done) | (simp only [List.mem_cons, List.mem_append]; grind)), (hl3 l hl).2⟩
  clear N5a F5
  intro h6' tk6 m6 npb6 nr6 pv6 rv6 qs6 F6 N6 hpv6 hrv6 hs6
  (try dsimp only)
  have N7 : News g L h6' ((rA, listOf rv6.toArray nr6) :: (pb, listOf pv6.toArray npb6) :: (x, instObj 112 dx) :: (dx, lexD lxh ln fs ws pb k) :: (nA, oN) :: (lA, oF) :: (tA, listOf tv.toArray nt) :: (vA, listOf vv.toArray nv) :: (wA, listOf wv.toArray nw) :: (L + 2, oW) :: (L + 3, oV) :: (L + 4, oR) :: (L + 5, oC) :: (L + 6, oLow2) :: (L + 7, oSize3) :: (ex ++ rest)) := fun q hq => N6 q (subM (by (walk_at "sub"; done)) hq)
  clear N6
  have mto6 : m6 (Str.ofString "told") = some (.ref tA) := (hs6 _ (by decide)).trans ((if_neg (by decide)).trans ((if_neg (by decide)).trans ((if_neg (by decide)).trans mto)))
  have ml6 : m6 (Str.ofString "left") = some (.ref lA) := (hs6 _ (by decide)).trans ((if_neg (by decide)).trans ((if_neg (by decide)).trans ((if_neg (by decide)).trans ml)))
  have mp6 : m6 (Str.ofString "power") = some (.int (pwT b (t + 1)) tp4) := (hs6 _ (by decide)).trans ((if_neg (by decide)).trans (if_pos rfl))
  have mr6 : m6 (Str.ofString "row") = some (.ref rA) := (hs6 _ (by decide)).trans (if_pos rfl)
  have he6 := explicit_eq [((Str.ofString "told"), .ref tA), ((Str.ofString "left"), .ref lA), ((Str.ofString "power"), .int (pwT b (t + 1)) tp4), ((Str.ofString "row"), .ref rA)] (allC mto6 (allC ml6 (allC mp6 (allC mr6 (List.forall_mem_nil _)))))
  rw [← he6] at F6
  k_steps
  rename_i aA hx7 uR7 hr7 F7 N7'
  obtain ⟨z1, z2, z3, z4, z5, z6⟩ := szLow hb1 hb2 (show t + 1 ≤ 3 by omega)
  have haA : ∀ q ∈ (rA, listOf rv6.toArray nr6) :: (pb, listOf pv6.toArray npb6) :: (x, instObj 112 dx) :: (dx, lexD lxh ln fs ws pb k) :: (nA, oN) :: (lA, oF) :: (tA, listOf tv.toArray nt) :: (vA, listOf vv.toArray nv) :: (wA, listOf wv.toArray nw) :: (L + 2, oW) :: (L + 3, oV) :: (L + 4, oR) :: (L + 5, oC) :: (L + 6, oLow2) :: (L + 7, oSize3) :: (ex ++ rest), q.1 ≠ aA := fun q hq => Nat.ne_of_lt (kst_ltOf (l := (rA, listOf rv6.toArray nr6) :: (pb, listOf pv6.toArray npb6) :: (x, instObj 112 dx) :: (dx, lexD lxh ln fs ws pb k) :: (nA, oN) :: (lA, oF) :: (tA, listOf tv.toArray nt) :: (vA, listOf vv.toArray nv) :: (wA, listOf wv.toArray nw) :: (L + 2, oW) :: (L + 3, oV) :: (L + 4, oR) :: (L + 5, oC) :: (L + 6, oLow2) :: (L + 7, oSize3) :: (ex ++ rest)) uR7 q hq)
  have N7a : News g L hr7 ((aA, listOf ([] : List Value).toArray 0) :: (nA, oN) :: (lA, oF) :: (L + 5, oC) :: (([] : List (Addr × Obj)) ++ ((tA, listOf tv.toArray nt) :: (rA, listOf rv6.toArray nr6) :: (pb, listOf pv6.toArray npb6) :: (x, instObj 112 dx) :: (dx, lexD lxh ln fs ws pb k) :: (vA, listOf vv.toArray nv) :: (wA, listOf wv.toArray nw) :: (L + 2, oW) :: (L + 3, oV) :: (L + 4, oR) :: (L + 6, oLow2) :: (L + 7, oSize3) :: (ex ++ rest)))) := fun q hq => N7' q (subM (by (walk_at "sub"; done)) hq)
  refine d12_loop (ex := (rA, listOf rv6.toArray nr6) :: (pb, listOf pv6.toArray npb6) :: (x, instObj 112 dx) :: (dx, lexD lxh ln fs ws pb k) :: (vA, listOf vv.toArray nv) :: (wA, listOf wv.toArray nw) :: (L + 2, oW) :: (L + 3, oV) :: (L + 4, oR) :: (L + 6, oLow2) :: (L + 7, oSize3) :: (ex ++ rest)) (words := words) (fN := numOf) (fL := lvT b (t + 1)) (pw := pwT b (t + 1)) (tp := tp4) (kn := kn) (kl := kl) (tv := tv) Xg Tg hdp hun hsc0 (by rw [← hb0]; rfl) hC hN hF hkn hkl hnb hfb z5 z6 htv (by omega) (fun q hq => (by
    obtain ⟨q', h1, h2⟩ : ∃ q' ∈ (rA, listOf rv6.toArray nr6) :: (pb, listOf pv6.toArray npb6) :: (x, instObj 112 dx) :: (dx, lexD lxh ln fs ws pb k) :: (nA, oN) :: (lA, oF) :: (tA, listOf tv.toArray nt) :: (vA, listOf vv.toArray nv) :: (wA, listOf wv.toArray nw) :: (L + 2, oW) :: (L + 3, oV) :: (L + 4, oR) :: (L + 5, oC) :: (L + 6, oLow2) :: (L + 7, oSize3) :: (ex ++ rest), q'.1 = q.1 := ⟨q, subM (by (walk_at "sub"; done)) hq, rfl⟩
    rw [← h2]; exact haA q' h1)) F7 N7a ((if_neg (by decide)).trans ((congrFun he6 _).trans ml6)) (if_pos rfl) ((if_neg (by decide)).trans ((congrFun he6 _).trans mp6)) ?_
  clear N7' N7a F7 haA
  intro h8' tk8 m8 lv8 na8 lps F8 N8 hlv hs8
  (try dsimp only)
  k_steps
  refine ⟨?_⟩
  have hwn : wv.length = words.length := by have := hwv.len_eq; simpa using this
  refine d13_due (nv := nv) (nw := nw) (ex := (aA, listOf lv8.toArray na8) :: (rA, listOf rv6.toArray nr6) :: (pb, listOf pv6.toArray npb6) :: (x, instObj 112 dx) :: (dx, lexD lxh ln fs ws pb k) :: (nA, oN) :: (lA, oF) :: (tA, listOf tv.toArray nt) :: (L + 4, oR) :: (L + 5, oC) :: (lps ++ (ex ++ rest))) (vals := words.map numOf) (wv := wv) (vv := vv) Xg Tg hdp hun hsc0 (by rw [← hb0]; rfl) hW hV hlo2 hsz3 hvv (by rw [hwn, List.length_map]) (by rw [List.length_map]; omega) (by rw [List.length_map]; omega) (fun x hx => by obtain ⟨cs, hcs, rfl⟩ := List.mem_map.mp hx; exact hnb cs hcs) z3 (by omega) z1 (by omega) F8 (fun q hq => N8 q (subM (by (walk_at "sub"; done)) hq)) ?_
  clear N8 F8
  intro h9' tk9 D c q9 ys prs F9 N9 hpq huq hya hD9
  (try dsimp only)
  rw [hwn] at hpq huq hya
  have hrow := due_row hro (by omega) hpq huq
  have hlad := due_lad hro (by omega) hpq huq
  have hall := due_all2 hya q9.toList hpq.ltL
  have hql : q9.toList.length = words.length := by rw [Array.length_toList]; exact hpq.size
  have mr9 : m8 (Str.ofString "row") = some (.ref rA) := (hs8 _ (by decide)).trans ((if_neg (by decide)).trans ((congrFun he6 _).trans mr6))
  have ma9 : m8 (Str.ofString "ladder") = some (.ref aA) := (hs8 _ (by decide)).trans (if_pos rfl)
  have hmem : ∀ k ∈ q9.toList, words.getD k [] ∈ words := fun k hk => by
    have := hpq.ltL k hk
    rw [List.getD_eq_getElem?_getD, List.getElem?_eq_getElem this]
    exact List.getElem_mem this
  k_steps
  refine ⟨?_⟩
  refine d14_if (nr := nr6) (nw := nw) (ex := (aA, listOf lv8.toArray na8) :: (pb, listOf pv6.toArray npb6) :: (x, instObj 112 dx) :: (dx, lexD lxh ln fs ws pb k) :: (nA, oN) :: (lA, oF) :: (tA, listOf tv.toArray nt) :: (vA, listOf vv.toArray nv) :: (L + 3, oV) :: (L + 4, oR) :: (L + 5, oC) :: (L + 6, oLow2) :: (L + 7, oSize3) :: (lps ++ (ex ++ rest))) (prs := prs) (D := D) (c := c) (f := askT b (t + 1) words) (ord := q9.toList) (W := words) (rl := rowT b words (t + 1)) Xg Tg hdp hun hsc0 (by rw [← hb0]; rfl) hW hwv hrv6 hall hpq.ltL (by omega) (by omega) hrow (fun cs hcs => by rw [hrow] at hcs; obtain ⟨k, hk, rfl⟩ := List.mem_map.mp hcs; exact hch _ (hmem k hk)) F9 (fun q hq => N9 q (subM (by (walk_at "sub"; done)) hq)) ((if_neg (by decide)).trans mr9) (if_pos rfl) ?_
  clear N9 F9
  intro h10 tk10 F10 N10
  (try dsimp only)
  k_steps
  refine ⟨?_⟩
  refine d15_if (nl := na8) (nw := nw) (ex := (rA, listOf rv6.toArray nr6) :: (pb, listOf pv6.toArray npb6) :: (x, instObj 112 dx) :: (dx, lexD lxh ln fs ws pb k) :: (nA, oN) :: (lA, oF) :: (tA, listOf tv.toArray nt) :: (vA, listOf vv.toArray nv) :: (L + 3, oV) :: (L + 4, oR) :: (L + 5, oC) :: (L + 7, oSize3) :: (ex ++ rest)) (prs := prs) (lps := lps) (D := D) (c := c) (f := askT b (t + 1) words) (ord := q9.toList) (W := words) (lad := ladOf (keyT b (t + 1)) words) Xg Tg hdp hun hsc0 (by rw [← hb0]; rfl) hW hlo2 z3 (by omega) (askT_pos words hb1 hb2 (by omega)) hwv hlv hall hpq.ltL (by omega) (by omega) hlad hch F10 (fun q hq => N10 q (subM (by (walk_at "sub"; done)) hq)) ((if_neg (by decide)).trans ma9) (if_pos rfl) ?_
  clear N10 F10
  intro h11 tk11 F11 N11
  (try dsimp only)
  k_steps
  refine ret _ _ _ npb6 rA nr6 pv6 rv6 oLow2 oSize3 tl2 ts3 tp4 F11 (fun q hq => N11 q (subM (by (walk_at "sub"; done)) hq)) hpv6 hrv6 hlo2 hsz3 (fun y hy => ?_) ?_ ?_ (hrA (pb, listOf ([] : List Value).toArray npb) (by first | (walk_at "mem"; done) | simp))
  · simp only [List.mem_cons, List.not_mem_nil, or_false, not_or] at hy
    obtain ⟨n1, n2, n3, n4, n5, n6, n7, n8⟩ := hy
    exact (if_neg n8).trans ((hs8 y (by simp [n5])).trans ((if_neg n7).trans ((congrFun he6 y).trans ((hs6 y (by simp [n5, n4, n6])).trans ((if_neg n3).trans ((if_neg n2).trans (if_neg n1)))))))
  · exact (if_neg (by decide)).trans ((hs8 _ (by decide)).trans ((if_neg (by decide)).trans ((congrFun he6 _).trans mp6)))
  · exact (if_neg (by decide)).trans mr9
end
end Mine
end
section
open PySem PySem.W PyProof.Rows PySem.Calls PySem.Spec
namespace Mine
section
variable {w : World} {p : Program} {loose : List Str} {mean : ExcName → Option Value} {mg mb : Str → Option Value} {g : Heap} {s : Shared} {dp un : Nat} {fr : Option (List Env)} {gd : Option (List Code)} {Q : Flow → Shared → Prop} {E : Value → Shared → Prop} {rest : List (Addr × Obj)}
theorem news_ne_cell {g h : Heap} {L : Addr} {news : List (Addr × Obj)} (N : News g L h news) {q : Addr × Obj} (h1 : q ∈ news) {a : Addr} {o : Obj} (h2 : (a, o) ∈ news) {v : Option Value} (e : o.data = .cell v) (hq : ∀ v, q.2.data ≠ .cell v) : q.1 ≠ a := fun z => by
  have e1 := (N q h1).1
  have e2 := (N _ h2).1
  rw [z] at e1
  have e3 := Option.some.inj (e1.symm.trans e2)
  exact hq v (by rw [e3]; exact e)
theorem Line.notCell {ls : List Line} {qs : List (List Value × Nat)} (h : ∀ l ∈ ls, l.Ok) : ∀ p ∈ LinesL ls qs, ∀ v, p.2.data ≠ .cell v := fun p hp v z => by
  obtain ⟨i, l, q, h1, h2, h3⟩ := linesL_mem hp
  obtain ⟨a1, c, d, e, f, ho⟩ := h l (List.mem_of_getElem? h1)
  rcases h3 with rfl | rfl | rfl
  · cases z
  · cases z
  · simp only [ho] at z
    cases z
local macro_rules | `(tactic| walk_at "exec Assign cons ListComp") => `(tactic| (refine Halt.out ?_))
local macro_rules | `(tactic| walk_at "binaryOp Mult ref int") => `(tactic| (refine Halt.out ?_))
local macro_rules | `(tactic| walk_at "call builtin:len") => `(tactic| (refine Halt.out ?_))
set_option maxRecDepth 100000 in
set_option maxHeartbeats 8000000 in
theorem t_0 (Xg : (hd.heap_1 w.params).In g) (Tg : Top p loose mean mg mb g) (hdp : dp < 600) (hun : un < 6000) {L fa : Addr} {cd : Value} {scope : Scope} (hsc : scopeAt (hd.heap_1 w.params) 140 = some scope) {bd : List Stmt} (hb : bd = forBody (bodyAt (hd.heap_1 w.params) 140)[21]?)
   {x dx pb : Addr} {lxh : LexH} {fs : Addr} {k : Nat} {ln ws : Value} {m : Str → Option Value} {ex : List (Addr × Obj)} {nA lA tA vA wA : Addr} {pv tv vv wv : List Value} {npb nt nv nw : Nat} {oN oF oW oV oR oC oLow oSize : Obj} {b t : Nat} {tb tt tp tl ts : Tok} {kn kl : List (Str × Value)} {words : List (List Nat)}
   (hW : oW.data = .cell (some (.ref wA))) (hV : oV.data = .cell (some (.ref vA))) (hR : oR.data = .cell (some (.ref x))) (hC : oC.data = .cell (some (.ref nA))) (hlo : oLow.data = .cell (some (.int (lowT b t) tl))) (hsz : oSize.data = .cell (some (.int (szT b t) ts)))
   (C0 : CodeHd g 122 118) (C1 : CodeHd g 34 30) (C2 : CodeHd g 41 37) (R : Rest rest) (hex : ∀ q ∈ ex, NotRest q.2) (hnm : (nA == sysModules) = false)
   (hN : oN.IsDictOf (PySem.strKind PR w) kn) (hkn : NumD kn words numOf) (hF : oF.IsDictOf (PySem.strKind PR w) kl) (hkl : NumD kl words (lvT b t)) (hwl : words.length < 60) (hw2 : 2 ≤ words.length) (hw3 : ∀ cs ∈ words, cs.length < 4) (hch : ∀ cs ∈ words, ∀ c ∈ cs, c < 1000) (hb1 : 2 ≤ b) (hb2 : b ≤ 8) (ht : t < 3)
   (htv : StrsAre tv (words.map S)) (hwv : StrsAre wv (words.map S)) (hvv : IntsAre vv (words.map numOf)) (hpv : StrsAre pv ((rowT b words t).map S))
   (hpbN : ∀ a ∈ [nA, lA, tA, vA, wA, L + 2, L + 3, L + 5, L + 6, L + 7], @Ne Nat a pb) (hpbX : ∀ q ∈ ex, q.1 ≠ pb) (hlN : ∀ a ∈ [nA, pb, x, dx, tA, vA, wA, L + 2, L + 3, L + 4, L + 5, L + 6, L + 7], @Ne Nat a lA) (hlX : ∀ q ∈ ex, q.1 ≠ lA) (h6N : ∀ a ∈ [pb, x, dx, nA, lA, tA, vA, wA], @Ne Nat a (L + 6)) (h6X : ∀ q ∈ ex, q.1 ≠ L + 6) (h7N : ∀ a ∈ [pb, x, dx, nA, lA, tA, vA, wA], @Ne Nat a (L + 7)) (h7X : ∀ q ∈ ex, q.1 ≠ L + 7)
   (F : Fr g L s.heap m) (N : News g L s.heap ((pb, listOf pv.toArray npb) :: (x, instObj 112 dx) :: (dx, lexD lxh ln fs ws pb k) :: (nA, oN) :: (lA, oF) :: (tA, listOf tv.toArray nt) :: (vA, listOf vv.toArray nv) :: (wA, listOf wv.toArray nw) :: (L + 2, oW) :: (L + 3, oV) :: (L + 4, oR) :: (L + 5, oC) :: (L + 6, oLow) :: (L + 7, oSize) :: (ex ++ rest))) (mb : m (Str.ofString "base") = some (.int (b : Nat) tb)) (ml : m (Str.ofString "left") = some (.ref lA)) (mt : m (Str.ofString "turn") = some (.int (t : Nat) tt)) (mto : m (Str.ofString "told") = some (.ref tA)) (mpw : m (Str.ofString "power") = some (.int (pwT b t) tp))
   (ret : ∀ h' tk' m' rest' oF' kl' npb' rwA nr pv' rv' oLow' oSize' tl' ts' tp', Fr g L h' m' → News g L h' ((pb, listOf pv'.toArray npb') :: (rwA, listOf rv'.toArray nr) :: (x, instObj 112 dx) :: (dx, lexD lxh ln fs ws pb k) :: (nA, oN) :: (lA, oF') :: (tA, listOf tv.toArray nt) :: (vA, listOf vv.toArray nv) :: (wA, listOf wv.toArray nw) :: (L + 2, oW) :: (L + 3, oV) :: (L + 4, oR) :: (L + 5, oC) :: (L + 6, oLow') :: (L + 7, oSize') :: (ex ++ rest')) → Rest rest' → SubR rest rest' → oF'.IsDictOf (PySem.strKind PR w) kl' → NumD kl' words (lvT b (t + 1)) → StrsAre pv' ((rowT b words (t + 1)).map S) → StrsAre rv' ((rowT b words (t + 1)).map S) → oLow'.data = .cell (some (.int (lowT b (t + 1)) tl')) → oSize'.data = .cell (some (.int (szT b (t + 1)) ts')) → Same [(Str.ofString "rest"), (Str.ofString "word"), (Str.ofString "pair"), (Str.ofString "lines"), (Str.ofString "counts"), (Str.ofString "order"), (Str.ofString "power"), (Str.ofString "row"), (Str.ofString "place"), (Str.ofString "word"), (Str.ofString "line"), (Str.ofString "ladder"), (Str.ofString "due")] m m' → m' (Str.ofString "power") = some (.int (pwT b (t + 1)) tp') → m' (Str.ofString "row") = some (.ref rwA) → @Ne Nat pb rwA → Q .next (St s h' tk')) :
   wpAny (model PR w) (Ar dp un fr gd) (execs bd (envOfC (Str.ofString "law") scope L fa cd)) Q E s := by
  have hb0 := hb
  have hsc0 := hsc
  have hwn : wv.length = words.length := by have := hwv.len_eq; simpa using this
  have hro : RowOk b words t ∧ RowOk b words (t + 1) := by
    have h3 := rowOk (b := b) (W := words) (show 1 ≤ b by omega)
    rcases (show t = 0 ∨ t = 1 ∨ t = 2 by omega) with rfl | rfl | rfl
    · exact ⟨rowOk0, h3.1⟩
    · exact ⟨h3.1, h3.2.1⟩
    · exact ⟨h3.2.1, h3.2.2⟩
  have hrow := hro.1
  have hf : ∀ cs ∈ words, -500 ≤ lvT b t cs ∧ lvT b t cs < 500 := fun cs hcs => lvT_bound hb1 hb2 (hw3 cs hcs) t
  have nrd : ∀ (o : Obj) (es : Array DictEntry) (ep : Nat), o.data = .dict es ep → NotRest o := fun _ _ _ e => notRest_of fun vs z => by rw [e] at z; cases z
  have hexS : ∀ q ∈ ((pb, listOf pv.toArray npb) :: (x, instObj 112 dx) :: (dx, lexD lxh ln fs ws pb k) :: (tA, listOf tv.toArray nt) :: (vA, listOf vv.toArray nv) :: (wA, listOf wv.toArray nw) :: (L + 2, oW) :: (L + 3, oV) :: (L + 4, oR) :: (L + 5, oC) :: (L + 6, oLow) :: (L + 7, oSize) :: ex), NotRest q.2 := (allC notRest_seq (allC notRest_plain (allC notRest_dict (allC notRest_seq (allC notRest_seq (allC notRest_seq (allC (notRest_cell hW) (allC (notRest_cell hV) (allC (notRest_cell hR) (allC (notRest_cell hC) (allC (notRest_cell hlo) (allC (notRest_cell hsz) hex))))))))))))
  have hlA : ∀ q ∈ (nA, oN) :: (((pb, listOf pv.toArray npb) :: (x, instObj 112 dx) :: (dx, lexD lxh ln fs ws pb k) :: (tA, listOf tv.toArray nt) :: (vA, listOf vv.toArray nv) :: (wA, listOf wv.toArray nw) :: (L + 2, oW) :: (L + 3, oV) :: (L + 4, oR) :: (L + 5, oC) :: (L + 6, oLow) :: (L + 7, oSize) :: ex) ++ rest), q.1 ≠ lA := by
    obtain ⟨eF, pF, xF, dF, _⟩ := id hF
    have hlR := R.ne N (fun q hq => subM (by (walk_at "sub"; done)) hq) (a := lA) (o := oF) (by first | (walk_at "mem"; done) | (simp only [List.mem_cons, List.mem_append]; grind)) (nrd _ _ _ dF)
    intro q hq
    simp only [List.mem_cons, List.mem_append] at hq
    rcases hq with rfl | (rfl | rfl | rfl | rfl | rfl | rfl | rfl | rfl | rfl | rfl | rfl | rfl | hq) | hq
    iterate 13 exact hlN _ (by first | (walk_at "mem"; done) | simp)
    · exact hlX q hq
    · exact hlR q hq
  refine with_look2 (K := hd.heap_1 w.params) (f := 140) (by k_dflt k_is) fun eb es => ?_
  rw [es] at hsc
  rw [eb] at hb
  dsimp only [List.getElem?_cons_succ, List.getElem?_cons_zero, forBody] at hb hsc
  (try replace hb := Option.some.inj hb)
  replace hsc := Option.some.inj hsc
  subst hb
  subst hsc
  clear eb es
  k_steps
  rename_i rA hx1 oG hrm hG fs0 hi0 fi0 uR hr FR NR
  have hr1 : ∀ q ∈ ((pb, listOf pv.toArray npb) :: (x, instObj 112 dx) :: (dx, lexD lxh ln fs ws pb k) :: (nA, oN) :: (lA, oF) :: (tA, listOf tv.toArray nt) :: (vA, listOf vv.toArray nv) :: (wA, listOf wv.toArray nw) :: (L + 2, oW) :: (L + 3, oV) :: (L + 4, oR) :: (L + 5, oC) :: (L + 6, oLow) :: (L + 7, oSize) :: (ex ++ rest)), q.1 ≠ rA := fun q hq => Nat.ne_of_lt (kst_ltOf (l := ((pb, listOf pv.toArray npb) :: (x, instObj 112 dx) :: (dx, lexD lxh ln fs ws pb k) :: (nA, oN) :: (lA, oF) :: (tA, listOf tv.toArray nt) :: (vA, listOf vv.toArray nv) :: (wA, listOf wv.toArray nw) :: (L + 2, oW) :: (L + 3, oV) :: (L + 4, oR) :: (L + 5, oC) :: (L + 6, oLow) :: (L + 7, oSize) :: (ex ++ rest))) uR q hq)
  have N1 : News g L hr ((nA, oN) :: (lA, oF) :: (rA, oG) :: (((pb, listOf pv.toArray npb) :: (x, instObj 112 dx) :: (dx, lexD lxh ln fs ws pb k) :: (tA, listOf tv.toArray nt) :: (vA, listOf vv.toArray nv) :: (wA, listOf wv.toArray nw) :: (L + 2, oW) :: (L + 3, oV) :: (L + 4, oR) :: (L + 5, oC) :: (L + 6, oLow) :: (L + 7, oSize) :: ex) ++ rest)) := fun q hq => NR q (subM (by (walk_at "sub"; done)) hq)
  have hr2 : ∀ q ∈ (nA, oN) :: (((pb, listOf pv.toArray npb) :: (x, instObj 112 dx) :: (dx, lexD lxh ln fs ws pb k) :: (tA, listOf tv.toArray nt) :: (vA, listOf vv.toArray nv) :: (wA, listOf wv.toArray nw) :: (L + 2, oW) :: (L + 3, oV) :: (L + 4, oR) :: (L + 5, oC) :: (L + 6, oLow) :: (L + 7, oSize) :: ex) ++ rest), q.1 ≠ rA := fun q hq => hr1 q (subM (by (walk_at "sub"; done)) hq)
  have e1 : @Ne Nat lA rA := hr1 (lA, oF) (by first | (walk_at "mem"; done) | simp)
  clear NR
  refine d1_loop (ex := ((pb, listOf pv.toArray npb) :: (x, instObj 112 dx) :: (dx, lexD lxh ln fs ws pb k) :: (tA, listOf tv.toArray nt) :: (vA, listOf vv.toArray nv) :: (wA, listOf wv.toArray nw) :: (L + 2, oW) :: (L + 3, oV) :: (L + 4, oR) :: (L + 5, oC) :: (L + 6, oLow) :: (L + 7, oSize) :: ex)) (rest := rest) (oF := oF) (oG := oG) (kn := kn) (kl := kl) (words := words) (f0 := numOf) (f := lvT b t) (tb := tb) (b := b) Xg Tg hdp hun hsc0 (by rw [← hb0]; rfl) C1 C2 R hexS hnm hN hkn hF hkl hG (by omega) hf hb1 hb2 (fun q hq => (allC (hlA q hq) (allC (hr2 q hq) (List.forall_mem_nil _)))) e1 FR N1 ?_ ?_ ?_ ?_
  · exact (if_neg (by decide)).trans ml
  · exact if_pos rfl
  · exact (if_neg (by decide)).trans mb
  clear FR N1
  intro hp2 tk2 m2 rest2 oF2 oG2 kl2 kr2 F2 N2 hs2 R2 S2 hr3 hF2 hG2 hkl2 hkr2
  (try dsimp only)
  k_steps
  refine ⟨?_⟩
  obtain ⟨eN, pN, xN, dN, _⟩ := id hN
  obtain ⟨eF, pF, xF, dF, _⟩ := id hF2
  obtain ⟨eG, pG, xG, dG, _⟩ := id hG2
  have hex2 : ∀ q ∈ (nA, oN) :: (lA, oF2) :: (rA, oG2) :: ((pb, listOf pv.toArray npb) :: (x, instObj 112 dx) :: (dx, lexD lxh ln fs ws pb k) :: (tA, listOf tv.toArray nt) :: (vA, listOf vv.toArray nv) :: (wA, listOf wv.toArray nw) :: (L + 2, oW) :: (L + 3, oV) :: (L + 4, oR) :: (L + 5, oC) :: (L + 6, oLow) :: (L + 7, oSize) :: ex), NotRest q.2 := (allC (nrd _ _ _ dN) (allC (nrd _ _ _ dF) (allC (nrd _ _ _ dG) hexS)))
  have mb2 : m2 (Str.ofString "base") = some (.int (b : Nat) tb) := (hs2 _ (by decide)).trans ((if_neg (by decide)).trans mb)
  have mt2 : m2 (Str.ofString "turn") = some (.int (t : Nat) tt) := (hs2 _ (by decide)).trans ((if_neg (by decide)).trans mt)
  have mto2 : m2 (Str.ofString "told") = some (.ref tA) := (hs2 _ (by decide)).trans ((if_neg (by decide)).trans mto)
  have mpw2 : m2 (Str.ofString "power") = some (.int (pwT b t) tp) := (hs2 _ (by decide)).trans ((if_neg (by decide)).trans mpw)
  have ml2 : m2 (Str.ofString "left") = some (.ref lA) := (hs2 _ (by decide)).trans ((if_neg (by decide)).trans ml)
  have mr2 : m2 (Str.ofString "rest") = some (.ref rA) := (hs2 _ (by decide)).trans (if_pos rfl)
  have he2 := explicit_eq [((Str.ofString "base"), .int (b : Nat) tb), ((Str.ofString "turn"), .int (t : Nat) tt), ((Str.ofString "told"), .ref tA), ((Str.ofString "left"), .ref lA), ((Str.ofString "rest"), .ref rA), ((Str.ofString "power"), .int (pwT b t) tp)] (allC mb2 (allC mt2 (allC mto2 (allC ml2 (allC mr2 (allC mpw2 (List.forall_mem_nil _)))))))
  rw [← he2] at F2
  refine d2_lines (ex := (nA, oN) :: (lA, oF2) :: (rA, oG2) :: ((pb, listOf pv.toArray npb) :: (x, instObj 112 dx) :: (dx, lexD lxh ln fs ws pb k) :: (tA, listOf tv.toArray nt) :: (vA, listOf vv.toArray nv) :: (wA, listOf wv.toArray nw) :: (L + 2, oW) :: (L + 3, oV) :: (L + 4, oR) :: (L + 5, oC) :: (L + 6, oLow) :: (L + 7, oSize) :: ex)) (rest := rest2) (b := b) (tb := tb) Xg Tg hdp hun hsc0 (by rw [← hb0]; rfl) C0 R2 hex2 hb1 hb2 F2 N2 ((congrFun he2 _).trans mb2) ?_
  clear F2 N2
  intro hp3 tk3 rest3 ls qs lsA F3 N3 R3 S3 hll hlq hok hq0 hnd hxp hD3
  (try dsimp only)
  have NL : News g L hp3 ((lsA, listOf (ls.map fun l => Value.ref l.x).toArray ls.length) :: (rA, oG2) :: ((pb, listOf pv.toArray npb) :: (x, instObj 112 dx) :: (dx, lexD lxh ln fs ws pb k) :: (nA, oN) :: (lA, oF2) :: (tA, listOf tv.toArray nt) :: (vA, listOf vv.toArray nv) :: (wA, listOf wv.toArray nw) :: (L + 2, oW) :: (L + 3, oV) :: (L + 4, oR) :: (L + 5, oC) :: (L + 6, oLow) :: (L + 7, oSize) :: (ex ++ (LinesL ls qs ++ rest3)))) := fun q hq => N3 q (subM (by (walk_at "sub"; done)) hq)
  clear N3
  k_steps
  refine ⟨?_⟩
  rename_i zA hz FZ NZ uz
  refine n_rep (K := b) FZ NZ (.head _) rfl (by omega) ?_
  intro cA hp4 F4 N4 hcA
  clear FZ NZ
  (try dsimp only)
  k_steps
  refine ⟨?_⟩
  (with_reducible rename Fr _ _ _ _ => F5); (with_reducible rename News _ _ _ _ => N5)
  refine n_len N5 (l := wA) (vs := wv) (k0 := nw) (by k_mem) (by omega) ?_
  (try dsimp only)
  k_steps
  rename_i hrg FA NA up
  have hcl : ∀ q ∈ (rA, oG2) :: (lsA, listOf (ls.map fun l => Value.ref l.x).toArray ls.length) :: ((pb, listOf pv.toArray npb) :: (x, instObj 112 dx) :: (dx, lexD lxh ln fs ws pb k) :: (nA, oN) :: (lA, oF2) :: (tA, listOf tv.toArray nt) :: (vA, listOf vv.toArray nv) :: (wA, listOf wv.toArray nw) :: (L + 2, oW) :: (L + 3, oV) :: (L + 4, oR) :: (L + 5, oC) :: (L + 6, oLow) :: (L + 7, oSize) :: (ex ++ (LinesL ls qs ++ rest3))), q.1 ≠ cA := fun q hq => Nat.ne_of_lt (hcA q (subM (by (walk_at "sub"; done)) hq))
  have NB : News g L _ ((pb, listOf pv.toArray npb) :: (cA, listOf (List.replicate b (Value.int 0 tk3)).toArray 0) :: (rA, oG2) :: (lsA, listOf (ls.map fun l => Value.ref l.x).toArray ls.length) :: (x, instObj 112 dx) :: (dx, lexD lxh ln fs ws pb k) :: (L + 4, oR) :: (LinesL ls qs ++ (((nA, oN) :: (lA, oF2) :: (tA, listOf tv.toArray nt) :: (vA, listOf vv.toArray nv) :: (wA, listOf wv.toArray nw) :: (L + 2, oW) :: (L + 3, oV) :: (L + 5, oC) :: (L + 6, oLow) :: (L + 7, oSize) :: ex) ++ rest3))) := fun q hq => NA q (subM (by (walk_at "sub"; done)) hq)
  rw [hwn, ← rowT_len (show 1 ≤ b by omega) words t] at hrg
  have hrest : ∀ p ∈ ((pb, listOf pv.toArray npb) :: (LinesL ls qs ++ ((nA, oN) :: (lA, oF2) :: (tA, listOf tv.toArray nt) :: (vA, listOf vv.toArray nv) :: (wA, listOf wv.toArray nw) :: (L + 2, oW) :: (L + 3, oV) :: (L + 5, oC) :: (L + 6, oLow) :: (L + 7, oSize) :: ex))), NotRest p.2 → ∀ q ∈ rest3, q.1 ≠ p.1 := fun p hp hn => R3.ne NB (fun q hq => subM (by (walk_at "sub"; done)) hq) (a := p.1) (o := p.2) (subM (by (walk_at "sub"; done)) hp) hn
  have hlpb : ∀ l ∈ ls, ∃ o, (l.pb, o) ∈ LinesL ls qs ∧ NotRest o := fun l hl => by
    obtain ⟨o, ho⟩ := linesL_pb (ls := ls) (qs := qs) (by omega) l hl
    exact ⟨o, ho, Line.notRest hok _ ho⟩
  refine d4_loop (ex := ((nA, oN) :: (lA, oF2) :: (tA, listOf tv.toArray nt) :: (vA, listOf vv.toArray nv) :: (wA, listOf wv.toArray nw) :: (L + 2, oW) :: (L + 3, oV) :: (L + 5, oC) :: (L + 6, oLow) :: (L + 7, oSize) :: ex)) (rest := rest3) (ls := ls) (qs := qs) (pv := pv) (cv := List.replicate b (Value.int 0 tk3)) (kr := kr2) (b := b) (tb := tb) (W := rowT b words t) (dg := dgT b t) Xg Tg hdp hun hsc0 (by rw [← hb0]; rfl) hR hG2 hrm hok hll hlq hb1 hb2 hnd ?hx1 ?hx2 ?hx3 ?e1 ?e2 ?e3 ?hl3 ?hW hpv ?hdg ?hq0 ?hc0 hrg FA NB ?mr ?mb ?ml ?mc ?ret
  case mr => exact (if_neg (by decide)).trans ((if_neg (by decide)).trans ((congrFun he2 _).trans mr2))
  case mb => exact (if_neg (by decide)).trans ((if_neg (by decide)).trans ((congrFun he2 _).trans mb2))
  case ml => exact (if_neg (by decide)).trans (if_pos rfl)
  case mc => exact if_pos rfl
  case hW => rw [rowT_len (by omega)]; omega
  case hdg =>
    intro cs hcs
    refine ⟨dgT_lt (by omega) cs, ?_⟩
    rw [dgT_eq (by omega)]
    exact hkr2.val cs (hrow.st.mem.mp hcs)
  case hq0 =>
    refine ⟨hlq, fun j hj => ?_⟩
    have e1 : qs[j]? = some (qs[j]'(by omega)) := List.getElem?_eq_getElem _
    have e2 := hq0 _ (List.mem_of_getElem? e1)
    refine ⟨[], (qs[j]'(by omega)).2, by rw [e1, ← e2], .nil⟩
  case hc0 => exact ⟨List.length_replicate, fun j hj => ⟨tk3, by rw [List.getElem?_replicate, if_pos hj]; rfl⟩⟩
  case e1 => exact hcl (pb, listOf pv.toArray npb) (by first | (walk_at "mem"; done) | simp)
  case e3 => exact (hcl (lsA, listOf (ls.map fun l => Value.ref l.x).toArray ls.length) (by first | (walk_at "mem"; done) | simp)).symm
  case hx2 => exact fun q hq => hcl q (subM (by (walk_at "sub"; done)) hq)
  case e2 => exact hD3 (pb, listOf pv.toArray npb) (by first | (walk_at "mem"; done) | simp)
  case hx1 =>
    intro q hq
    simp only [List.mem_cons, List.mem_append] at hq
    rcases hq with (rfl | rfl | rfl | rfl | rfl | rfl | rfl | rfl | rfl | rfl | hq) | hq
    iterate 10 exact hpbN _ (by first | (walk_at "mem"; done) | simp)
    · exact hpbX q hq
    · exact hrest (pb, listOf pv.toArray npb) (by first | (walk_at "mem"; done) | simp) notRest_seq q hq
  case hx3 =>
    intro q hq l hl
    rcases List.mem_append.mp hq with hq | hq
    · exact hxp q (subM (by (walk_at "sub"; done)) hq) l hl
    · obtain ⟨o, ho, hn⟩ := hlpb l hl
      exact hrest (l.pb, o) (by first | (walk_at "mem"; done) | (simp only [List.mem_cons, List.mem_append]; grind)) hn q hq
  case hl3 =>
    intro l hl
    obtain ⟨o, ho, hn⟩ := hlpb l hl
    exact ⟨(hxp (pb, listOf pv.toArray npb) (by first | (walk_at "mem"; done) | simp) l hl).symm, hcl (l.pb, o) (by first | (walk_at "mem"; done) | (simp only [List.mem_cons, List.mem_append]; grind)), hD3 (l.pb, o) (by first | (walk_at "mem"; done) | (simp only [List.mem_cons, List.mem_append]; grind))⟩
  case ret =>
    intro h6' tk6 m6 npb6 nc6 cv6 qs6 F6 N6 hs6 hQ hC6
    (try dsimp only)
    have up6 : ∀ y v, m2 y = some v → y ∉ [(Str.ofString "word"), (Str.ofString "place"), (Str.ofString "counts"), (Str.ofString "lines")] → m6 y = some v := fun y v hv hy => by
      simp only [List.mem_cons, List.not_mem_nil, or_false, not_or] at hy
      obtain ⟨n1, n2, n3, n4⟩ := hy
      exact (hs6 y (by simp [n1, n2])).trans ((if_neg n3).trans ((if_neg n4).trans ((congrFun he2 y).trans hv)))
    have hcA6 : ∀ q ∈ LinesL ls qs6, ∀ v, q.2.data ≠ .cell v := Line.notCell hok
    have hcl2 : ∀ a ∈ [pb, x, dx, nA, lA, tA, vA, wA, L + 2, L + 3, L + 4, L + 5, L + 6, L + 7], @Ne Nat a cA := (allC (hcl (pb, listOf pv.toArray npb) (by first | (walk_at "mem"; done) | simp)) (allC (hcl (x, instObj 112 dx) (by first | (walk_at "mem"; done) | simp)) (allC (hcl (dx, lexD lxh ln fs ws pb k) (by first | (walk_at "mem"; done) | simp)) (allC (hcl (nA, oN) (by first | (walk_at "mem"; done) | simp)) (allC (hcl (lA, oF2) (by first | (walk_at "mem"; done) | simp)) (allC (hcl (tA, listOf tv.toArray nt) (by first | (walk_at "mem"; done) | simp)) (allC (hcl (vA, listOf vv.toArray nv) (by first | (walk_at "mem"; done) | simp)) (allC (hcl (wA, listOf wv.toArray nw) (by first | (walk_at "mem"; done) | simp)) (allC (hcl (L + 2, oW) (by first | (walk_at "mem"; done) | simp)) (allC (hcl (L + 3, oV) (by first | (walk_at "mem"; done) | simp)) (allC (hcl (L + 4, oR) (by first | (walk_at "mem"; done) | simp)) (allC (hcl (L + 5, oC) (by first | (walk_at "mem"; done) | simp)) (allC (hcl (L + 6, oLow) (by first | (walk_at "mem"; done) | simp)) (allC (hcl (L + 7, oSize) (by first | (walk_at "mem"; done) | simp)) (List.forall_mem_nil _)))))))))))))))
    have hD32 : ∀ a ∈ [pb, x, dx, nA, lA, tA, vA, wA, L + 2, L + 3, L + 4, L + 5, L + 6, L + 7], @Ne Nat a lsA := (allC (hD3 (pb, listOf pv.toArray npb) (by first | (walk_at "mem"; done) | simp)) (allC (hD3 (x, instObj 112 dx) (by first | (walk_at "mem"; done) | simp)) (allC (hD3 (dx, lexD lxh ln fs ws pb k) (by first | (walk_at "mem"; done) | simp)) (allC (hD3 (nA, oN) (by first | (walk_at "mem"; done) | simp)) (allC (hD3 (lA, oF2) (by first | (walk_at "mem"; done) | simp)) (allC (hD3 (tA, listOf tv.toArray nt) (by first | (walk_at "mem"; done) | simp)) (allC (hD3 (vA, listOf vv.toArray nv) (by first | (walk_at "mem"; done) | simp)) (allC (hD3 (wA, listOf wv.toArray nw) (by first | (walk_at "mem"; done) | simp)) (allC (hD3 (L + 2, oW) (by first | (walk_at "mem"; done) | simp)) (allC (hD3 (L + 3, oV) (by first | (walk_at "mem"; done) | simp)) (allC (hD3 (L + 4, oR) (by first | (walk_at "mem"; done) | simp)) (allC (hD3 (L + 5, oC) (by first | (walk_at "mem"; done) | simp)) (allC (hD3 (L + 6, oLow) (by first | (walk_at "mem"; done) | simp)) (allC (hD3 (L + 7, oSize) (by first | (walk_at "mem"; done) | simp)) (List.forall_mem_nil _)))))))))))))))
    refine t_5 (ex := ex) (rest := rest3) (ls := ls) (qs := qs6) (cv := cv6) (npb := npb6) (nc := nc6) (nls := ls.length) (nt := nt) (nv := nv) (nw := nw) (words := words) (kn := kn) (kl := kl2) (b := b) (t := t) (tb := tb) (tt := tt) (tp := tp) (tl := tl) (ts := ts) (oF := oF2) (cA := cA) (lsA := lsA) (lA := lA) (pb := pb) (dx := dx) (lxh := lxh) (fs := fs) (k := k) (ln := ln) (ws := ws) Xg Tg hdp hun hsc0 hb0 rfl hW hV hR hC hlo hsz F6 (fun q hq => N6 q (subM (by (walk_at "sub"; done)) hq)) (up6 _ _ mb2 (by decide)) (up6 _ _ mt2 (by decide)) (up6 _ _ mpw2 (by decide)) (up6 _ _ ml2 (by decide)) (up6 _ _ mto2 (by decide)) ((hs6 _ (by decide)).trans ((if_neg (by decide)).trans (if_pos rfl))) ((hs6 _ (by decide)).trans (if_pos rfl)) hN hkn hF2 hkl2 hwl hw2 hb1 hb2 ht hro.2 htv hwv hvv (fun cs hcs => numOf_bound (hw3 cs hcs)) (fun cs hcs => lvT_bound hb1 hb2 (hw3 cs hcs) (t + 1)) hch hok hll hQ.1 hnd hQ hC6 ?a1 ?a2 ?a3 ?a4 ?hl3 ?e2 ?h6 ?h7 ?ret
    case a1 => exact allC ((hcl2 pb (by first | (walk_at "mem"; done) | simp)).symm) hpbN
    case a2 => exact fun q hq => (List.mem_append.mp hq).elim (fun h => hpbX q h) (fun h => hrest (pb, listOf pv.toArray npb) (by first | (walk_at "mem"; done) | simp) notRest_seq q h)
    case a3 =>
      have hl2 : ∀ a ∈ [nA, lA, tA, vA, wA, L + 2, L + 3, L + 5, L + 6, L + 7], ∀ l ∈ ls, @Ne Nat a l.pb := (allC (fun l hl => hxp (nA, oN) (by first | (walk_at "mem"; done) | simp) l hl) (allC (fun l hl => hxp (lA, oF2) (by first | (walk_at "mem"; done) | simp) l hl) (allC (fun l hl => hxp (tA, listOf tv.toArray nt) (by first | (walk_at "mem"; done) | simp) l hl) (allC (fun l hl => hxp (vA, listOf vv.toArray nv) (by first | (walk_at "mem"; done) | simp) l hl) (allC (fun l hl => hxp (wA, listOf wv.toArray nw) (by first | (walk_at "mem"; done) | simp) l hl) (allC (fun l hl => hxp (L + 2, oW) (by first | (walk_at "mem"; done) | simp) l hl) (allC (fun l hl => hxp (L + 3, oV) (by first | (walk_at "mem"; done) | simp) l hl) (allC (fun l hl => hxp (L + 5, oC) (by first | (walk_at "mem"; done) | simp) l hl) (allC (fun l hl => hxp (L + 6, oLow) (by first | (walk_at "mem"; done) | simp) l hl) (allC (fun l hl => hxp (L + 7, oSize) (by first | (walk_at "mem"; done) | simp) l hl) (List.forall_mem_nil _)))))))))))
      refine allC (fun l hl => ?_) hl2
      obtain ⟨o, ho, hn⟩ := hlpb l hl
      exact (hcl (l.pb, o) (by first | (walk_at "mem"; done) | (simp only [List.mem_cons, List.mem_append]; grind))).symm
    case a4 =>
      intro q hq l hl
      rcases List.mem_append.mp hq with hq | hq
      · exact hxp q (subM (by (walk_at "sub"; done)) hq) l hl
      · obtain ⟨o, ho, hn⟩ := hlpb l hl
        exact hrest (l.pb, o) (by first | (walk_at "mem"; done) | (simp only [List.mem_cons, List.mem_append]; grind)) hn q hq
    case hl3 =>
      intro l hl
      obtain ⟨o, ho, hn⟩ := hlpb l hl
      exact ⟨(hxp (pb, listOf pv.toArray npb) (by first | (walk_at "mem"; done) | simp) l hl).symm, hD3 (l.pb, o) (by first | (walk_at "mem"; done) | (simp only [List.mem_cons, List.mem_append]; grind))⟩
    case e2 => exact hD32 pb (by first | (walk_at "mem"; done) | simp)
    case h6 =>
      intro q hq
      simp only [List.mem_cons, List.mem_append] at hq
      rcases hq with rfl | rfl | rfl | rfl | rfl | rfl | rfl | rfl | rfl | rfl | rfl | rfl | rfl | rfl | hq | hq | hq
      · exact h6N _ (by first | (walk_at "mem"; done) | simp)
      · exact (hcl2 (L + 6) (by first | (walk_at "mem"; done) | simp)).symm
      · exact (hD32 (L + 6) (by first | (walk_at "mem"; done) | simp)).symm
      iterate 7 exact h6N _ (by first | (walk_at "mem"; done) | simp)
      · show L + 2 ≠ L + 6; simp
      · show L + 3 ≠ L + 6; simp
      · show L + 4 ≠ L + 6; simp
      · show L + 5 ≠ L + 6; simp
      · exact news_ne_cell (N := N6) (h1 := by first | (walk_at "mem"; done) | (simp only [List.mem_cons, List.mem_append]; grind)) (a := L + 6) (o := oLow) (h2 := by first | (walk_at "mem"; done) | (simp only [List.mem_cons, List.mem_append]; grind)) hlo (hcA6 q hq)
      · exact h6X q hq
      · exact hrest (L + 6, oLow) (by first | (walk_at "mem"; done) | simp) (notRest_cell hlo) q hq
    case h7 =>
      intro q hq
      simp only [List.mem_cons, List.mem_append] at hq
      rcases hq with rfl | rfl | rfl | rfl | rfl | rfl | rfl | rfl | rfl | rfl | rfl | rfl | rfl | rfl | hq | hq | hq
      · exact h7N _ (by first | (walk_at "mem"; done) | simp)
      · exact (hcl2 (L + 7) (by first | (walk_at "mem"; done) | simp)).symm
      · exact (hD32 (L + 7) (by first | (walk_at "mem"; done) | simp)).symm
      iterate 7 exact h7N _ (by first | (walk_at "mem"; done) | simp)
      · show L + 2 ≠ L + 7; simp
      · show L + 3 ≠ L + 7; simp
      · show L + 4 ≠ L + 7; simp
      · show L + 5 ≠ L + 7; simp
      · exact news_ne_cell (N := N6) (h1 := by first | (walk_at "mem"; done) | (simp only [List.mem_cons, List.mem_append]; grind)) (a := L + 7) (o := oSize) (h2 := by first | (walk_at "mem"; done) | (simp only [List.mem_cons, List.mem_append]; grind)) hsz (hcA6 q hq)
      · exact h7X q hq
      · exact hrest (L + 7, oSize) (by first | (walk_at "mem"; done) | simp) (notRest_cell hsz) q hq
    case ret =>
      intro h7' tk7 m7 npb7 rwA nr7 pv7 rv7 oLow7 oSize7 tl7 ts7 tp7 F7 N7 hpv7 hrv7 hlo7 hsz7 hs7 hp7 hr7 hpr7
      refine ret h7' tk7 m7 rest3 oF2 kl2 npb7 rwA nr7 pv7 rv7 oLow7 oSize7 tl7 ts7 tp7 F7 N7 R3 (S2.trans S3) hF2 hkl2 hpv7 hrv7 hlo7 hsz7 (fun y hy => ?_) hp7 hr7 hpr7
      simp only [List.mem_cons, List.not_mem_nil, or_false, not_or] at hy
      obtain ⟨n1, n2, n3, n4, n5, n6, n7, n8, n9, n10, n11, n12, n13⟩ := hy
      exact (hs7 y (by simp [n6, n7, n8, n9, n10, n11, n12, n13])).trans ((hs6 y (by simp [n2, n9])).trans ((if_neg n5).trans ((if_neg n4).trans ((congrFun he2 y).trans ((hs2 y (by simp [n2, n3])).trans (if_neg n1))))))
end
end Mine
end
section
open PySem PySem.W PyProof.Rows PySem.Calls PySem.Spec
namespace Mine
section
variable {w : World} {p : Program} {loose : List Str} {mean : ExcName → Option Value} {mg mb : Str → Option Value} {g : Heap} {s : Shared} {dp un : Nat} {fr : Option (List Env)} {gd : Option (List Code)} {Q : Flow → Shared → Prop} {E : Value → Shared → Prop} {rest : List (Addr × Obj)}
set_option maxRecDepth 100000 in
set_option maxHeartbeats 8000000 in
theorem t_loop (Xg : (hd.heap_1 w.params).In g) (Tg : Top p loose mean mg mb g) (hdp : dp < 600) (hun : un < 6000) {L fa : Addr} {cd : Value} {scope : Scope} (hsc : scopeAt (hd.heap_1 w.params) 140 = some scope) {bd : List Stmt} (hb : bd = forBody (bodyAt (hd.heap_1 w.params) 140)[21]?)
   {x dx pb : Addr} {lxh : LexH} {fs : Addr} {k : Nat} {ln ws : Value} {m : Str → Option Value} {ex : List (Addr × Obj)} {nA lA tA vA wA rwA ra : Addr} {pv tv vv wv rv : List Value} {npb nt nv nw nr : Nat} {oN oF oW oV oR oC oLow oSize : Obj} {b : Nat} {tb tp tl ts r1 r2 r3 : Tok} {kn kl : List (Str × Value)} {words : List (List Nat)} {px : Pos}
   (hW : oW.data = .cell (some (.ref wA))) (hV : oV.data = .cell (some (.ref vA))) (hR : oR.data = .cell (some (.ref x))) (hC : oC.data = .cell (some (.ref nA))) (hlo : oLow.data = .cell (some (.int (lowT b 0) tl))) (hsz : oSize.data = .cell (some (.int (szT b 0) ts)))
   (C0 : CodeHd g 122 118) (C1 : CodeHd g 34 30) (C2 : CodeHd g 41 37) (R : Rest rest) (hex : ∀ q ∈ ex, NotRest q.2) (hnm : (nA == sysModules) = false)
   (hN : oN.IsDictOf (PySem.strKind PR w) kn) (hkn : NumD kn words numOf) (hF : oF.IsDictOf (PySem.strKind PR w) kl) (hkl : NumD kl words (lvT b 0)) (hwl : words.length < 60) (hw2 : 2 ≤ words.length) (hw3 : ∀ cs ∈ words, cs.length < 4) (hch : ∀ cs ∈ words, ∀ c ∈ cs, c < 1000) (hb1 : 2 ≤ b) (hb2 : b ≤ 8)
   (htv : StrsAre tv (words.map S)) (hwv : StrsAre wv (words.map S)) (hvv : IntsAre vv (words.map numOf)) (hpv : StrsAre pv ((rowT b words 0).map S))
   (hpbN : ∀ a ∈ [nA, lA, tA, vA, wA, L + 2, L + 3, L + 5, L + 6, L + 7], @Ne Nat a pb) (hpbX : ∀ q ∈ ex, q.1 ≠ pb) (hlN : ∀ a ∈ [nA, pb, x, dx, tA, vA, wA, L + 2, L + 3, L + 4, L + 5, L + 6, L + 7], @Ne Nat a lA) (hlX : ∀ q ∈ ex, q.1 ≠ lA) (h6N : ∀ a ∈ [pb, x, dx, nA, lA, tA, vA, wA], @Ne Nat a (L + 6)) (h6X : ∀ q ∈ ex, q.1 ≠ L + 6) (h7N : ∀ a ∈ [pb, x, dx, nA, lA, tA, vA, wA], @Ne Nat a (L + 7)) (h7X : ∀ q ∈ ex, q.1 ≠ L + 7)
   (hrg : IsRange s.heap ra 0 3 1 r1 r2 r3)
   (F : Fr g L s.heap m) (N : News g L s.heap ((pb, listOf pv.toArray npb) :: (rwA, listOf rv.toArray nr) :: (x, instObj 112 dx) :: (dx, lexD lxh ln fs ws pb k) :: (nA, oN) :: (lA, oF) :: (tA, listOf tv.toArray nt) :: (vA, listOf vv.toArray nv) :: (wA, listOf wv.toArray nw) :: (L + 2, oW) :: (L + 3, oV) :: (L + 4, oR) :: (L + 5, oC) :: (L + 6, oLow) :: (L + 7, oSize) :: (ex ++ rest))) (mb : m (Str.ofString "base") = some (.int (b : Nat) tb)) (ml : m (Str.ofString "left") = some (.ref lA)) (mto : m (Str.ofString "told") = some (.ref tA)) (mpw : m (Str.ofString "power") = some (.int (pwT b 0) tp)) (mrw : m (Str.ofString "row") = some (.ref rwA))
   (ret : ∀ h' tk' m' rest' oF' npb' rwA' nr' pv' rv' oLow' oSize', Fr g L h' m' → News g L h' ((pb, listOf pv'.toArray npb') :: (rwA', listOf rv'.toArray nr') :: (x, instObj 112 dx) :: (dx, lexD lxh ln fs ws pb k) :: (nA, oN) :: (lA, oF') :: (tA, listOf tv.toArray nt) :: (vA, listOf vv.toArray nv) :: (wA, listOf wv.toArray nw) :: (L + 2, oW) :: (L + 3, oV) :: (L + 4, oR) :: (L + 5, oC) :: (L + 6, oLow') :: (L + 7, oSize') :: (ex ++ rest')) → Rest rest' → SubR rest rest' → StrsAre pv' ((rowT b words 3).map S) → StrsAre rv' ((rowT b words 3).map S) → Same [(Str.ofString "turn"), (Str.ofString "rest"), (Str.ofString "word"), (Str.ofString "pair"), (Str.ofString "lines"), (Str.ofString "counts"), (Str.ofString "order"), (Str.ofString "power"), (Str.ofString "row"), (Str.ofString "place"), (Str.ofString "word"), (Str.ofString "line"), (Str.ofString "ladder"), (Str.ofString "due")] m m' → m' (Str.ofString "row") = some (.ref rwA') → @Ne Nat pb rwA' → Q .next (St s h' tk')) :
   wpAny (model PR w) (Ar dp un fr gd) (pyIter (.ref ra)) (fun it s₂ => LoopOk PR w (Ar dp un fr gd) (envOfC (Str.ofString "law") scope L fa cd) (.Name (Str.ofString "turn") px) bd Q it s₂) E s := by
  have hb0 := hb
  have hsc0 := hsc
  refine with_look2 (K := hd.heap_1 w.params) (f := 140) (by k_dflt k_is) fun eb es => ?_
  rw [es] at hsc
  rw [eb] at hb
  dsimp only [List.getElem?_cons_succ, List.getElem?_cons_zero, forBody] at hb hsc
  (try replace hb := Option.some.inj hb)
  replace hsc := Option.some.inj hsc
  subst hb
  subst hsc
  clear eb es
  refine iter_range 3 rfl (by omega) hrg F N ?_
  intro it o h1' hO F1 N1 hit
  refine loopInv2 rfl (Itr.range PR w it 3) (fun i m' news' => ∀ C : Prop, (∀ rest' oF' kl' npb' rwA' nr' pv' rv' oLow' oSize' tl' ts' tp', (news' = ((pb, listOf pv'.toArray npb') :: (rwA', listOf rv'.toArray nr') :: (x, instObj 112 dx) :: (dx, lexD lxh ln fs ws pb k) :: (nA, oN) :: (lA, oF') :: (tA, listOf tv.toArray nt) :: (vA, listOf vv.toArray nv) :: (wA, listOf wv.toArray nw) :: (L + 2, oW) :: (L + 3, oV) :: (L + 4, oR) :: (L + 5, oC) :: (L + 6, oLow') :: (L + 7, oSize') :: (ex ++ rest'))) → (Rest rest') → (SubR rest rest') → (oF'.IsDictOf (PySem.strKind PR w) kl') → (NumD kl' words (lvT b i)) → (StrsAre pv' ((rowT b words i).map S)) → ((0 < i → StrsAre rv' ((rowT b words i).map S) ∧ @Ne Nat pb rwA')) → (oLow'.data = .cell (some (.int (lowT b i) tl'))) → (oSize'.data = .cell (some (.int (szT b i) ts'))) → (Same [(Str.ofString "turn"), (Str.ofString "rest"), (Str.ofString "word"), (Str.ofString "pair"), (Str.ofString "lines"), (Str.ofString "counts"), (Str.ofString "order"), (Str.ofString "power"), (Str.ofString "row"), (Str.ofString "place"), (Str.ofString "word"), (Str.ofString "line"), (Str.ofString "ladder"), (Str.ofString "due")] m m') → (m' (Str.ofString "power") = some (.int (pwT b i) tp')) → (m' (Str.ofString "row") = some (.ref rwA')) → C) → C) (fun _ _ _ _ _ _ _ => trivial) F1 N1 hO (fun q hq => Nat.ne_of_lt (hit q hq)) (fun _ k => k rest oF kl npb rwA nr pv rv oLow oSize tl ts tp rfl R (SubR.refl _) hF hkl hpv (fun h => absurd h (by omega)) hlo hsz (Same.refl _ _) mpw mrw) ?_ ?_
  · rintro i v m1 news1 h tk o1 hi ⟨ti, rfl⟩ hI0
    refine hI0 _ ?_
    clear hI0
    rintro rest1 oF1 kl1 npb1 rwA1 nr1 pv1 rv1 oLow1 oSize1 tl1 ts1 tp1 rfl R1 S1 hF1 hkl1 hpv1 _ hlo1 hsz1 hs1 mp1 mr1 F2 N2 hne hO1 J hJ
    walk1
    walk1
    (with_reducible rename Fr _ _ _ _ => F3); (with_reducible rename News _ _ _ _ => N3)
    have hn0 : ∀ a ∈ [pb, x, dx, nA, lA, tA, vA, wA, L + 2, L + 3, L + 4, L + 5, L + 6, L + 7], @Ne Nat a it := (allC (hne (pb, _) (.head _)) (allC (hne (x, _) (.tail _ (.tail _ (.head _)))) (allC (hne (dx, _) (.tail _ (.tail _ (.tail _ (.head _))))) (allC (hne (nA, _) (.tail _ (.tail _ (.tail _ (.tail _ (.head _)))))) (allC (hne (lA, _) (.tail _ (.tail _ (.tail _ (.tail _ (.tail _ (.head _))))))) (allC (hne (tA, _) (.tail _ (.tail _ (.tail _ (.tail _ (.tail _ (.tail _ (.head _)))))))) (allC (hne (vA, _) (.tail _ (.tail _ (.tail _ (.tail _ (.tail _ (.tail _ (.tail _ (.head _))))))))) (allC (hne (wA, _) (.tail _ (.tail _ (.tail _ (.tail _ (.tail _ (.tail _ (.tail _ (.tail _ (.head _)))))))))) (allC (hne (L + 2, _) (.tail _ (.tail _ (.tail _ (.tail _ (.tail _ (.tail _ (.tail _ (.tail _ (.tail _ (.head _))))))))))) (allC (hne (L + 3, _) (.tail _ (.tail _ (.tail _ (.tail _ (.tail _ (.tail _ (.tail _ (.tail _ (.tail _ (.tail _ (.head _)))))))))))) (allC (hne (L + 4, _) (.tail _ (.tail _ (.tail _ (.tail _ (.tail _ (.tail _ (.tail _ (.tail _ (.tail _ (.tail _ (.tail _ (.head _))))))))))))) (allC (hne (L + 5, _) (.tail _ (.tail _ (.tail _ (.tail _ (.tail _ (.tail _ (.tail _ (.tail _ (.tail _ (.tail _ (.tail _ (.tail _ (.head _)))))))))))))) (allC (hne (L + 6, _) (.tail _ (.tail _ (.tail _ (.tail _ (.tail _ (.tail _ (.tail _ (.tail _ (.tail _ (.tail _ (.tail _ (.tail _ (.tail _ (.head _))))))))))))))) (allC (hne (L + 7, _) (.tail _ (.tail _ (.tail _ (.tail _ (.tail _ (.tail _ (.tail _ (.tail _ (.tail _ (.tail _ (.tail _ (.tail _ (.tail _ (.tail _ (.head _)))))))))))))))) (List.forall_mem_nil _)))))))))))))))
    have hx7 : ∀ a ∈ [pb, lA, L + 6, L + 7], @Ne Nat it a := (allC ((hne (pb, _) (.head _)).symm) (allC ((hne (lA, _) (.tail _ (.tail _ (.tail _ (.tail _ (.tail _ (.head _))))))).symm) (allC ((hne (L + 6, _) (.tail _ (.tail _ (.tail _ (.tail _ (.tail _ (.tail _ (.tail _ (.tail _ (.tail _ (.tail _ (.tail _ (.tail _ (.tail _ (.head _))))))))))))))).symm) (allC ((hne (L + 7, _) (.tail _ (.tail _ (.tail _ (.tail _ (.tail _ (.tail _ (.tail _ (.tail _ (.tail _ (.tail _ (.tail _ (.tail _ (.tail _ (.tail _ (.head _)))))))))))))))).symm) (List.forall_mem_nil _)))))
    refine t_0 (ex := (it, o1) :: ex) (rest := rest1) (pv := pv1) (npb := npb1) (oF := oF1) (kn := kn) (kl := kl1) (words := words) (b := b) (t := i) (tb := tb) (tt := ti) (tp := tp1) (tl := tl1) (ts := ts1) (oLow := oLow1) (oSize := oSize1) (nt := nt) (nv := nv) (nw := nw) (dx := dx) (lxh := lxh) (fs := fs) (k := k) (ln := ln) (ws := ws) Xg Tg hdp hun hsc0 hb0 hW hV hR hC hlo1 hsz1 C0 C1 C2 R1 (allC (notRest_rng hO1) hex) hnm hN hkn hF1 hkl1 hwl hw2 hw3 hch hb1 hb2 hi htv hwv hvv hpv1 hpbN (allC (hx7 pb (by first | (walk_at "mem"; done) | simp)) hpbX) hlN (allC (hx7 lA (by first | (walk_at "mem"; done) | simp)) hlX) h6N (allC (hx7 (L + 6) (by first | (walk_at "mem"; done) | simp)) h6X) h7N (allC (hx7 (L + 7) (by first | (walk_at "mem"; done) | simp)) h7X) F3 (fun q hq => N3 q (subM (by (walk_at "sub"; done)) hq)) ((hs1 _ (by decide)).trans mb) ((hs1 _ (by decide)).trans ml) rfl ((hs1 _ (by decide)).trans mto) mp1 ?_
    intro h4' tk4 m4 rest4 oF4 kl4 npb4 rwA4 nr4 pv4 rv4 oLow4 oSize4 tl4 ts4 tp4 F4 N4 R4 S4 hF4 hkl4 hpv4 hrv4 hlo4 hsz4 hs4 mp4 mr4 hpr4
    refine TurnEnd.mk <| hJ m4 _ h4' tk4 F4 (fun q hq => N4 q (subM (by (walk_at "sub"; done)) hq)) ?_ (fun _ k => k rest4 oF4 kl4 npb4 rwA4 nr4 pv4 rv4 oLow4 oSize4 tl4 ts4 tp4 rfl R4 (S1.trans S4) hF4 hkl4 hpv4 (fun _ => ⟨hrv4, hpr4⟩) hlo4 hsz4 ((hs1.trans fun y hy => ?_).trans (hs4.mono (by decide))) mp4 mr4)
    · have hr9 := Rest.ne R4 N4 (fun q hq => subM (by (walk_at "sub"; done)) hq) (a := it) (o := o1) (by first | (walk_at "mem"; done) | simp) (notRest_rng hO1)
      have hrw : @Ne Nat rwA4 it := fun z => by
        have e1 := (N4 (rwA4, listOf rv4.toArray nr4) (by first | (walk_at "mem"; done) | simp)).1
        have e2 := (N4 (it, o1) (by first | (walk_at "mem"; done) | simp)).1
        simp only [z] at e1
        have e3 := Option.some.inj (e1.symm.trans e2)
        unfold RngOb at hO1
        rw [hO1] at e3
        have e5 := congrArg Obj.data e3
        cases e5
      intro q hq
      simp only [List.mem_cons, List.mem_append] at hq
      rcases hq with rfl | rfl | rfl | rfl | rfl | rfl | rfl | rfl | rfl | rfl | rfl | rfl | rfl | rfl | rfl | hq | hq
      · exact hn0 _ (by first | (walk_at "mem"; done) | simp)
      · exact hrw
      · exact hn0 _ (by first | (walk_at "mem"; done) | simp)
      · exact hn0 _ (by first | (walk_at "mem"; done) | simp)
      · exact hn0 _ (by first | (walk_at "mem"; done) | simp)
      · exact hn0 _ (by first | (walk_at "mem"; done) | simp)
      · exact hn0 _ (by first | (walk_at "mem"; done) | simp)
      · exact hn0 _ (by first | (walk_at "mem"; done) | simp)
      · exact hn0 _ (by first | (walk_at "mem"; done) | simp)
      · exact hn0 _ (by first | (walk_at "mem"; done) | simp)
      · exact hn0 _ (by first | (walk_at "mem"; done) | simp)
      · exact hn0 _ (by first | (walk_at "mem"; done) | simp)
      · exact hn0 _ (by first | (walk_at "mem"; done) | simp)
      · exact hn0 _ (by first | (walk_at "mem"; done) | simp)
      · exact hn0 _ (by first | (walk_at "mem"; done) | simp)
      · exact hne q (by first | (walk_at "mem"; done) | (simp only [List.mem_cons, List.mem_append]; grind))
      · exact hr9 q hq
    · exact if_neg fun z => hy (by rw [z]; decide)
  · rintro m1 news1 h tk hI0
    refine hI0 _ ?_
    clear hI0
    rintro rest1 oF1 kl1 npb1 rwA1 nr1 pv1 rv1 oLow1 oSize1 tl1 ts1 tp1 rfl R1 S1 hF1 hkl1 hpv1 hrv1 hlo1 hsz1 hs1 mp1 mr1 F2 N2
    exact ret _ _ _ rest1 oF1 npb1 rwA1 nr1 pv1 rv1 oLow1 oSize1 F2 N2 R1 S1 hpv1 (hrv1 (by omega)).1 hs1 mr1 (hrv1 (by omega)).2
end
end Mine
end
section
open PySem PySem.W PyProof.Rows PySem.Calls PySem.Spec
namespace Mine
section
variable {w : World} {p : Program} {loose : List Str} {mean : ExcName → Option Value} {mg mb : Str → Option Value} {g : Heap} {s : Shared} {dp un : Nat} {fr : Option (List Env)} {gd : Option (List Code)} {Q : Flow → Shared → Prop} {E : Value → Shared → Prop} {rest : List (Addr × Obj)}
local macro_rules | `(tactic| walk_at "call builtin:len") => `(tactic| (refine Halt.out ?_))
set_option maxRecDepth 100000 in
set_option maxHeartbeats 8000000 in
theorem e22_if (Xg : (hd.heap_1 w.params).In g) (Tg : Top p loose mean mg mb g) (hdp : dp < 600) (hun : un < 6000) {L fa : Addr} {cd : Value} {scope : Scope} (hsc : scopeAt (hd.heap_1 w.params) 140 = some scope) {st : Stmt} (hb : (bodyAt (hd.heap_1 w.params) 140)[22]? = some st)
   {m : Str → Option Value} {news : List (Addr × Obj)} {sg : Addr} {vs : List Value} {n : Nat} {tu : Tok} (hl : vs.length < 100000)
   (F : Fr g L s.heap m) (N : News g L s.heap ((sg, listOf vs.toArray n) :: news)) (mg : m (Str.ofString "signs") = some (.ref sg)) (mu : m (Str.ofString "unread") = some (.int (vs.length : Nat) tu))
   (ret : ∀ tk', Q .next (St s s.heap tk')) :
   wpAny (model PR w) (Ar dp un fr gd) (exec st (envOfC (Str.ofString "law") scope L fa cd)) Q E s := by
  refine with_look2 (K := hd.heap_1 w.params) (f := 140) (by k_dflt k_is) fun eb es => ?_
  rw [es] at hsc
  rw [eb] at hb
  dsimp only [List.getElem?_cons_succ, List.getElem?_cons_zero, forBody] at hb hsc
  (try replace hb := Option.some.inj hb)
  replace hsc := Option.some.inj hsc
  subst hb
  subst hsc
  clear eb es
  have he := explicit_eq [((Str.ofString "signs"), .ref sg), ((Str.ofString "unread"), .int (vs.length : Nat) tu)] (allC mg (allC mu (List.forall_mem_nil _)))
  rw [← he] at F
  k_steps
  refine ⟨?_⟩
  refine n_len N (l := sg) (vs := vs) (k0 := n) (by k_mem) (by omega) ?_
  (try dsimp only)
  k_steps
  all_goals first | exact ret _ | (exfalso; omega) | (exfalso; simp_all; done)
local macro_rules | `(tactic| walk_at "eval ListComp") => `(tactic| (k_here; k_dflt (refine LCg.ListComp_U (F₀ := by k_asm) (by rfl) (by decide) (by rfl) (by decide) (by rfl) ?_)))
local macro_rules | `(tactic| walk_at "eval Name") => `(tactic| walk_at "al5")
local macro_rules | `(tactic| walk_at "compareOp NotEq ref ref") => `(tactic| (refine Halt.out ?_))
set_option maxRecDepth 100000 in
set_option maxHeartbeats 8000000 in
theorem e23_if (Xg : (hd.heap_1 w.params).In g) (Tg : Top p loose mean mg mb g) (hdp : dp < 600) (hun : un < 6000) {L fa : Addr} {cd : Value} {scope : Scope} (hsc : scopeAt (hd.heap_1 w.params) 140 = some scope) {st : Stmt} (hb : (bodyAt (hd.heap_1 w.params) 140)[23]? = some st)
   {x dx pb : Addr} {lxh : LexH} {fs : Addr} {k : Nat} {ln ws : Value} {m : Str → Option Value} {ex : List (Addr × Obj)} {rwA wA : Addr} {pv rv wv : List Value} {npb nr nw : Nat} {oW oR : Obj} {rl : List (List Nat)}
   (hW : oW.data = .cell (some (.ref wA))) (hR : oR.data = .cell (some (.ref x))) (hpv : StrsAre pv (rl.map S)) (hrv : StrsAre rv (rl.map S)) (hwl : wv.length = rl.length) (hrl : rl.length < 100) (hok : ∀ cs ∈ rl, ∀ c ∈ cs, c < 1000) (hap : ∀ q ∈ ((x, instObj 112 dx) :: (dx, lexD lxh ln fs ws pb k) :: (rwA, listOf rv.toArray nr) :: (wA, listOf wv.toArray nw) :: (L + 2, oW) :: (L + 4, oR) :: ex), q.1 ≠ pb)
   (F : Fr g L s.heap m) (N : News g L s.heap ((pb, listOf pv.toArray npb) :: (x, instObj 112 dx) :: (dx, lexD lxh ln fs ws pb k) :: (rwA, listOf rv.toArray nr) :: (wA, listOf wv.toArray nw) :: (L + 2, oW) :: (L + 4, oR) :: ex)) (mr : m (Str.ofString "row") = some (.ref rwA))
   (ret : ∀ h' tk' npb', Fr g L h' m → News g L h' ((pb, listOf ([] : List Value).toArray npb') :: (x, instObj 112 dx) :: (dx, lexD lxh ln fs ws pb k) :: (rwA, listOf rv.toArray nr) :: (wA, listOf wv.toArray nw) :: (L + 2, oW) :: (L + 4, oR) :: ex) → Q .next (St s h' tk')) :
   wpAny (model PR w) (Ar dp un fr gd) (exec st (envOfC (Str.ofString "law") scope L fa cd)) Q E s := by
  refine with_look2 (K := hd.heap_1 w.params) (f := 140) (by k_dflt k_is) fun eb es => ?_
  rw [es] at hsc
  rw [eb] at hb
  dsimp only [List.getElem?_cons_succ, List.getElem?_cons_zero, forBody] at hb hsc
  (try replace hb := Option.some.inj hb)
  replace hsc := Option.some.inj hsc
  subst hb
  subst hsc
  clear eb es
  have he := explicit_eq [((Str.ofString "row"), .ref rwA)] (allC mr (List.forall_mem_nil _))
  rw [← he] at F
  k_steps
  rw [he] at F ⊢
  have hpl := hpv.len_eq
  rw [List.length_map] at hpl
  refine LCg.CompSrc.ledger rfl F N (ax := wA) (its := wv.toArray) (k := nw) (.tail _ (.tail _ (.tail _ (.tail _ (.head _))))) (by rw [List.size_toArray, sizeLine_eq]; omega) ?_
  intro g'
  refine compRest_ind (fun i ys nws => ∀ C : Prop, (∀ pv n, (nws = ((pb, listOf pv.toArray n) :: (x, instObj 112 dx) :: (dx, lexD lxh ln fs ws pb k) :: (rwA, listOf rv.toArray nr) :: (wA, listOf wv.toArray nw) :: (L + 2, oW) :: (L + 4, oR) :: ex)) → (StrsAre pv ((rl.drop i).map S)) → (StrsAre ys ((rl.take i).map S)) → C) → C) wv.toArray.size ?_ ?_ _ 0 [] _ (by omega) (fun _ kC => kC pv npb rfl hpv .nil)
  · rintro i ys nws hi hI0
    refine hI0 _ ?_
    clear hI0
    rintro pv1 n1 rfl hpv1 hys v I' oI C oC Dl m₂ h tk E' hPv hC hx F2 N2 off ne J hJ
    rw [List.size_toArray] at hi
    k_steps
    show wpAny _ _ (call (.ref 102) [.ref x]) _ _ _
    obtain ⟨cs, hcsi⟩ : ∃ cs, rl[i]? = some cs := ⟨_, List.getElem?_eq_getElem (by omega)⟩
    have hdi : rl.drop i = cs :: rl.drop (i + 1) := by
      rw [List.drop_eq_getElem_cons (by omega)]
      congr 1
      exact Option.some.inj ((List.getElem?_eq_getElem _).symm.trans hcsi)
    rw [hdi, List.map_cons] at hpv1
    obtain ⟨tc, pv2, rfl, hpv2⟩ := strs_drop_cons hpv1 rfl
    have hpl2 := hpv2.len_eq
    simp only [List.length_map, List.length_drop] at hpl2
    have gx := N2 (x, instObj 112 dx) (by first | (walk_at "mem"; done) | simp)
    have gdx := N2 (dx, lexD lxh ln fs ws pb k) (by first | (walk_at "mem"; done) | simp)
    have gpb := N2 (pb, listOf (Value.str (S cs) tc :: pv2).toArray n1) (by first | (walk_at "mem"; done) | simp)
    refine c_getP (G := g) (vs := pv2) (fun b o e => F2.keep b o e) Xg Tg (by omega) (by omega) gx.1 gdx.1 gpb.1 gx.2.2 gdx.2.2 gpb.2.2 (by omega) ?_
    intro h6 tk6 n6 kp epb
    have F3 := after_fr F2 kp (fun a ha => by rw [List.mem_singleton.mp ha]; exact gpb.2)
    have om := off.mem
    have d1 := om (pb, _) (.head _)
    have N4 : News g L h6 ((I', oI) :: (C, oC) :: (Dl, LCg.lst ys) :: ((pb, listOf pv2.toArray n6) :: (x, instObj 112 dx) :: (dx, lexD lxh ln fs ws pb k) :: (rwA, listOf rv.toArray nr) :: (wA, listOf wv.toArray nw) :: (L + 2, oW) :: (L + 4, oR) :: ex)) := fun q hq => by
      by_cases hp : q.1 = pb
      · have e : q = (pb, listOf pv2.toArray n6) := by
          simp only [List.mem_cons] at hq
          rcases hq with h | h | h | h | h
          · rw [h] at hp; exact absurd hp.symm d1.1
          · rw [h] at hp; exact absurd hp.symm d1.2.1
          · rw [h] at hp; exact absurd hp.symm d1.2.2
          · exact h
          · exact absurd hp (hap q (by simp only [List.mem_cons]; exact h))
        rw [e]; exact ⟨epb, gpb.2⟩
      · have h := N2 q (by
          rcases List.mem_cons.mp hq with h | hq
          · exact h ▸ .head _
          rcases List.mem_cons.mp hq with h | hq
          · exact h ▸ .tail _ (.head _)
          rcases List.mem_cons.mp hq with h | hq
          · exact h ▸ .tail _ (.tail _ (.head _))
          rcases List.mem_cons.mp hq with h | hq
          · exact absurd (by rw [h]) hp
          · exact .tail _ (.tail _ (.tail _ (.tail _ hq))))
        exact ⟨kp _ _ h.1 (fun z => hp (List.mem_singleton.mp z)), h.2⟩
    refine LCg.CompEnd.intro F3 N4 ((pb, listOf pv2.toArray n6) :: (x, instObj 112 dx) :: (dx, lexD lxh ln fs ws pb k) :: (rwA, listOf rv.toArray nr) :: (wA, listOf wv.toArray nw) :: (L + 2, oW) :: (L + 4, oR) :: ex) (fun p hp => hp) (LCg.Off3.of fun p hp => ?_) (.inr ⟨_, .tail _ (.tail _ (.tail _ (.tail _ (.head _)))), rfl, _, rfl⟩) (hJ _ _ (fun _ kC => kC pv2 n6 rfl hpv2 ?_))
    · rcases List.mem_cons.mp hp with rfl | hp
      · exact d1
      · exact om p (.tail _ hp)
    · rw [take_snoc hcsi, List.map_append]
      exact strs_snoc hys _ _
  · rintro ys nws hI0
    refine hI0 _ ?_
    clear hI0
    rintro pv2 n2 rfl hpv2 hys D2 hh tk2 F3 N3 o3
    rw [List.size_toArray, hwl, List.take_length] at hys
    rw [List.size_toArray, hwl, List.drop_length] at hpv2
    cases hpv2
    rw [← he] at F3
    k_steps
    refine ⟨?_⟩
    refine ne_dat N3 (a := D2) (.head _) (datAll_strs hys) (b := rwA) (kb := nr) (ys := rv) (by first | (walk_at "mem"; done) | simp) (datAll_strs hrv) (ok_strs hok) (by rw [cLine_is]; show un + 64 < 9900; omega) ?_
    rw [he] at F3
    k_steps
    exact ret _ _ n2 F3 (fun q hq => N3 q (.tail _ hq))
end
end Mine
end
section
open PySem PySem.W PyProof.Rows PySem.Calls PySem.Spec
namespace Mine
local macro_rules | `(tactic| walk_at "zz") => `(tactic| skip)
section
variable {w : World} {p : Program} {loose : List Str} {mean : ExcName → Option Value} {mg mb : Str → Option Value} {g : Heap} {s : Shared} {dp un : Nat} {fr : Option (List Env)} {gd : Option (List Code)} {Q : Flow → Shared → Prop} {E : Value → Shared → Prop} {rest : List (Addr × Obj)}
local macro_rules | `(tactic| walk_at "eval ListComp") => `(tactic| (k_here; k_dflt (refine LCg.ListComp_U (F₀ := by k_asm) (by rfl) (by decide) (by rfl) (by decide) (by rfl) ?_)))
local macro_rules | `(tactic| walk_at "eval Name") => `(tactic| walk_at "al5")
local macro_rules | `(tactic| walk_at "compareOp NotEq ref ref") => `(tactic| (refine Halt.out ?_))
local macro_rules | `(tactic| walk_at "CompSrc") => `(tactic| (refine Halt.out ?_))
set_option maxRecDepth 100000 in
set_option maxHeartbeats 8000000 in
theorem e24_if (Xg : (hd.heap_1 w.params).In g) (Tg : Top p loose mean mg mb g) (hdp : dp < 600) (hun : un < 6000) {L fa : Addr} {cd : Value} {scope : Scope} (hsc : scopeAt (hd.heap_1 w.params) 140 = some scope) {st : Stmt} (hb : (bodyAt (hd.heap_1 w.params) 140)[24]? = some st) {x dx pb fs D lam cell sg : Addr} {lxh : LexH} {tw : Tok} {k npb : Nat} {of od ol oc : Obj}
   {oR : Obj} {m : Str → Option Value} {ex : List (Addr × Obj)} {vs : List Value} {n : Nat} {r : List Nat} {tl : Tok} {TL : Int} (R : Rest rest) (I : IsStream (hd.heap_1 w.params) rest sg fs D lam cell of od ol oc)
   (hR : oR.data = .cell (some (.ref x))) (hps : @Ne Nat pb sg) (hex : ∀ q ∈ ex ++ rest, q.1 ∉ [sg, dx])
   (hv : IsStk vs r) (ht : Toks r [[122], [], []] []) (hlen : r.length < 100000) (hT : 0 ≤ TL - nl r) (hT2 : TL < 100000)
   (F : Fr g L s.heap m) (N : News g L s.heap ((dx, lexD lxh (.int (TL - nl r) tl) fs (.str (Str.ofString "\n\t\r ") tw) pb k) :: (sg, listOf vs.toArray n) :: (L + 4, oR) :: (x, instObj 112 dx) :: (pb, listOf #[] npb) :: (fs, of) :: (D, od) :: (lam, ol) :: (cell, oc) :: (ex ++ rest)))
   (ret : ∀ h' tk' (vs' : List Value) n' tl', Fr g L h' m → News g L h' ((dx, lexD lxh (.int (TL - nl []) tl') fs (.str (Str.ofString "\n\t\r ") tw) pb k) :: (sg, listOf vs'.toArray n') :: (L + 4, oR) :: (x, instObj 112 dx) :: (pb, listOf #[] npb) :: (fs, of) :: (D, od) :: (lam, ol) :: (cell, oc) :: (ex ++ rest)) → Q .next (St s h' tk')) :
   wpAny (model PR w) (Ar dp un fr gd) (exec st (envOfC (Str.ofString "law") scope L fa cd)) Q E s := by
  refine with_look2 (K := hd.heap_1 w.params) (f := 140) (by k_dflt k_is) fun eb es => ?_
  rw [es] at hsc
  rw [eb] at hb
  dsimp only [List.getElem?_cons_succ, List.getElem?_cons_zero, forBody] at hb hsc
  (try replace hb := Option.some.inj hb)
  replace hsc := Option.some.inj hsc
  subst hb
  subst hsc
  clear eb es
  have hcl : ∀ cs ∈ [[122], [], ([] : List Nat)], cs.length < 1000 := by decide
  k_steps
  refine ⟨?_⟩
  rename_i hrg FA NA up
  refine LCg.CompSrc.range rfl FA NA hrg (small_of (n := 3) (by omega)).1 (small_of (n := 3) (by omega)).2 (by rw [sizeLine_eq]; omega) ?_
  intro g'
  refine compRest_ind (fun i ys nws => ∀ C : Prop, (∀ r tl vs n, (nws = ((dx, lexD lxh (.int (TL - nl r) tl) fs (.str (Str.ofString "\n\t\r ") tw) pb k) :: (sg, listOf vs.toArray n) :: (L + 4, oR) :: (x, instObj 112 dx) :: (pb, listOf #[] npb) :: (fs, of) :: (D, od) :: (lam, ol) :: (cell, oc) :: (ex ++ rest))) → (Toks r ([[122], [], []].drop i) []) → (IsStk vs r) → (StrsAre ys (([[122], [], []].take i).map S)) → (r.length < 100000) → (0 ≤ TL - nl r) → C) → C) 3 ?_ ?_ _ 0 [] _ (by omega) (fun _ kC => kC r tl vs n rfl ht hv .nil hlen hT)
  · rintro i ys nws hi hI0
    refine hI0 _ ?_
    clear hI0
    rintro r tl vs n rfl ht hv hys hlen hT v I' oI C oC Dl m₂ h tk E' hPv hC hx F2 N2 off ne J hJ
    k_steps
    show wpAny _ _ (call (.ref 102) [.ref x]) _ _ _
    obtain ⟨cs, hcsi⟩ : ∃ cs, [[122], [], ([] : List Nat)][i]? = some cs := ⟨_, List.getElem?_eq_getElem (by simpa using hi)⟩
    have hdi : [[122], [], ([] : List Nat)].drop i = cs :: [[122], [], ([] : List Nat)].drop (i + 1) := by
      rw [List.drop_eq_getElem_cons (by simpa using hi)]
      congr 1
      exact Option.some.inj ((List.getElem?_eq_getElem _).symm.trans hcsi)
    rw [hdi] at ht
    generalize hcc : cs :: [[122], [], ([] : List Nat)].drop (i + 1) = css at ht
    cases ht with
    | nil => cases hcc
    | @cons ws ch cs' r' css' _ hwsp hk htr =>
    cases hcc
    have hsg := N2.get (a := sg) (.tail _ (.tail _ (.tail _ (.tail _ (.head _)))))
    have hdx := N2.get (a := dx) (.tail _ (.tail _ (.tail _ (.head _))))
    have msg := N2 (sg, _) (.tail _ (.tail _ (.tail _ (.tail _ (.head _)))))
    have mdx := N2 (dx, _) (.tail _ (.tail _ (.tail _ (.head _))))
    have hfp : ∀ q ∈ ((x, instObj 112 dx) :: (dx, lexD lxh (.int (TL - nl (ws ++ ch)) tl) fs (.str (Str.ofString "\n\t\r ") tw) pb k) :: (pb, listOf #[] npb) :: (fs, of) :: (D, od) :: (lam, ol) :: (cell, oc) :: (sg, listOf vs.toArray n) :: rest), q ∈ (I', oI) :: (C, oC) :: (Dl, LCg.lst ys) :: ((dx, lexD lxh (.int (TL - nl (ws ++ ch)) tl) fs (.str (Str.ofString "\n\t\r ") tw) pb k) :: (sg, listOf vs.toArray n) :: (L + 4, oR) :: (x, instObj 112 dx) :: (pb, listOf #[] npb) :: (fs, of) :: (D, od) :: (lam, ol) :: (cell, oc) :: (ex ++ rest)) := fun q hq => subM (by (walk_at "sub"; done)) hq
    refine c_getL (G := g) (rd := ws ++ ch) (TL := TL) (fun b o e => F2.keep b o e) Xg Tg (by omega) (by omega) I R hps (fun q hq => ⟨(N2 q (hfp q hq)).1, (N2 q (hfp q hq)).2.2⟩) hv rfl hwsp hk hlen (hcl cs (List.mem_of_getElem? hcsi)) hT hT2 ?_
    intro h6 tk6 t6 vs6 n6 tl6 kp hv6 esg edx
    have F3 := after_fr F2 kp (fun a ha => by
      rcases List.mem_cons.mp ha with rfl | ha
      · exact msg.2
      · rw [List.mem_singleton.mp ha]; exact mdx.2)
    have om := off.mem
    have hlx := N2.get (a := x) (by k_mem); have hlpb := N2.get (a := pb) (by k_mem); have hlf := N2.get (a := fs) (by k_mem); have hlD := N2.get (a := D) (by k_mem); have hll := N2.get (a := lam) (by k_mem); have hlc := N2.get (a := cell) (by k_mem)
    have hl4 := N2.get (a := L + 4) (by k_mem)
    obtain ⟨a1, a2, a3, a4, b1, b2, b3, b4⟩ := str_ne I hdx hsg hlf hlD hll hlc
    have c1 : @Ne Nat x dx := apart hlx hdx rfl
    have c2 : @Ne Nat x sg := apart hlx hsg rfl
    have c4 : @Ne Nat pb dx := apart hlpb hdx rfl
    have c8 : @Ne Nat (L + 4) dx := fun q => by rw [q, hdx] at hl4; cases hl4; cases hR
    have c9 : @Ne Nat (L + 4) sg := fun q => by rw [q, hsg] at hl4; cases hl4; cases hR
    have d1 := om (sg, _) (.tail _ (.head _))
    have d2 := om (dx, _) (.head _)
    have N3 : News g L h6 ((I', oI) :: (C, oC) :: (Dl, LCg.lst ys) :: (L + 4, oR) :: (x, instObj 112 dx) :: (pb, listOf #[] npb) :: (fs, of) :: (D, od) :: (lam, ol) :: (cell, oc) :: (ex ++ rest)) := news_keep (fun q hq => N2 q (subM (by (walk_at "sub"; done)) hq)) kp (by
      refine (allC (nin2 d1.1.symm d2.1.symm) (allC (nin2 d1.2.1.symm d2.2.1.symm) (allC (nin2 d1.2.2.symm d2.2.2.symm) (allC (nin2 c9 c8) (allC (nin2 c2 c1) (allC (nin2 hps c4) (allC (nin2 b1 a1) (allC (nin2 b2 a2) (allC (nin2 b3 a3) (allC (nin2 b4 a4) hex)))))))))))
    have N4 : News g L h6 ((I', oI) :: (C, oC) :: (Dl, LCg.lst ys) :: ((dx, lexD lxh (.int (TL - nl r') tl6) fs (.str (Str.ofString "\n\t\r ") tw) pb k) :: (sg, listOf vs6.toArray n6) :: (L + 4, oR) :: (x, instObj 112 dx) :: (pb, listOf #[] npb) :: (fs, of) :: (D, od) :: (lam, ol) :: (cell, oc) :: (ex ++ rest))) := fun q hq => by
      simp only [List.mem_cons] at hq
      rcases hq with h | h | h | rfl | rfl | h
      · exact N3 q (by simp only [List.mem_cons]; exact .inl h)
      · exact N3 q (by simp only [List.mem_cons]; exact .inr (.inl h))
      · exact N3 q (by simp only [List.mem_cons]; exact .inr (.inr (.inl h)))
      · exact ⟨edx, mdx.2⟩
      · exact ⟨esg, msg.2⟩
      · exact N3 q (by simp only [List.mem_cons]; exact .inr (.inr (.inr h)))
    have hnl : 0 ≤ TL - nl r' := by
      have h1 := (Toks.cons hwsp hk (Toks.nil r')).nl_le
      omega
    have hln : r'.length < 100000 := by
      have h1 := (Toks.cons hwsp hk (Toks.nil r')).len
      omega
    refine LCg.CompEnd.intro F3 N4 ((dx, lexD lxh (.int (TL - nl r') tl6) fs (.str (Str.ofString "\n\t\r ") tw) pb k) :: (sg, listOf vs6.toArray n6) :: (L + 4, oR) :: (x, instObj 112 dx) :: (pb, listOf #[] npb) :: (fs, of) :: (D, od) :: (lam, ol) :: (cell, oc) :: (ex ++ rest)) (fun p hp => hp) (LCg.Off3.of fun p hp => ?_) trivial (hJ _ _ (fun _ kC => kC r' tl6 vs6 n6 rfl htr hv6 ?_ hln hnl))
    · simp only [List.mem_cons] at hp
      rcases hp with rfl | rfl | hp
      · exact d2
      · exact d1
      · exact om p (by simp only [List.mem_cons]; exact .inr (.inr hp))
    · rw [take_snoc hcsi, List.map_append]
      exact strs_snoc hys _ _
  · rintro ys nws hI0
    refine hI0 _ ?_
    clear hI0
    rintro r2 tl2 vs2 n2 rfl ht hv hys _ _ D2 hh tk2 F3 N3 o3
    cases ht
    k_steps
    refine ⟨?_⟩
    rename_i l1 hz FZ NZ uZ
    have hys' : StrsAre ys ([[122], [], []].map S) := hys
    have hyz : StrsAre [Value.str (Str.ofString "z") tk2, Value.str (Str.ofString "") (tk2 + 1), Value.str (Str.ofString "") (tk2 + 1 + 1)] ([[122], [], []].map S) := by
      have e : [[122], [], ([] : List Nat)].map S = [Str.ofString "z", Str.ofString "", Str.ofString ""] := by decide
      rw [e]
      exact .cons _ _ (.cons _ _ (.cons _ _ .nil))
    refine ne_dat NZ (a := D2) (.tail _ (.head _)) (datAll_strs hys') (b := l1) (kb := 0) (.head _) (datAll_strs hyz) (ok_strs (by decide)) (by rw [cLine_is]; show un + 64 < 9900; omega) ?_
    k_steps
    exact ret _ _ vs2 n2 tl2 FZ (fun q hq => NZ q (.tail _ (.tail _ hq)))
end
end Mine
end
section
open PySem PySem.W PyProof.Rows PySem.Calls PySem.Spec
namespace Mine
section
variable {w : World} {p : Program} {loose : List Str} {mean : ExcName → Option Value} {mg mb : Str → Option Value} {g : Heap} {s : Shared} {dp un : Nat} {fr : Option (List Env)} {gd : Option (List Code)} {Q : Flow → Shared → Prop} {E : Value → Shared → Prop} {rest : List (Addr × Obj)}
theorem cnt_nl : ∀ l : List Nat, countIn (.str ⟨#[10]⟩) (l.map fun n => PyData.str ⟨#[n]⟩) = nl l
  | [] => rfl
  | c :: l => by
    have ih := cnt_nl l
    unfold nl
    rw [← ih, List.map_cons]
    show (if same (PyData.str ⟨#[c]⟩) (.str ⟨#[10]⟩) then 1 else 0) + _ = _
    by_cases h : c = 10
    · subst h; rfl
    · have e : same (PyData.str ⟨#[c]⟩) (.str ⟨#[10]⟩) = false := by
        have : (⟨#[c]⟩ : Str) ≠ ⟨#[10]⟩ := fun z => h (by cases z; rfl)
        exact beq_eq_false_iff_ne.mpr this
      rw [e, if_neg h]
      rfl
theorem count_nl (T : List Nat) : (Txt.count (S T) (Str.ofString "\n") : Int) = nl T := by
  have e : Str.ofString "\n" = ⟨#[10]⟩ := by decide
  rw [e, count_is]
  exact cnt_nl T
theorem nl_len : ∀ l : List Nat, nl l ≤ l.length
  | [] => Int.le_refl _
  | c :: l => by
    have ih := nl_len l
    unfold nl
    rw [List.length_cons]
    split <;> omega
local macro_rules | `(tactic| walk_at "call builtin:str.count") => `(tactic| (refine Halt.out ?_))
set_option maxRecDepth 100000 in
set_option maxHeartbeats 8000000 in
theorem e25_ret (Xg : (hd.heap_1 w.params).In g) (Tg : Top p loose mean mg mb g) (hdp : dp < 600) (hun : un < 6000) {L fa : Addr} {cd : Value} {scope : Scope} (hsc : scopeAt (hd.heap_1 w.params) 140 = some scope) {st : Stmt} (hb : (bodyAt (hd.heap_1 w.params) 140)[25]? = some st) {x dx pb fs D lam cell sg : Addr} {lxh : LexH} {tw : Tok} {k npb : Nat} {of od ol oc : Obj}
   {oR : Obj} {m : Str → Option Value} {ex : List (Addr × Obj)} {vs : List Value} {n : Nat} {tl tx : Tok} {TL : Int} {T : List Nat} 
   (hR : oR.data = .cell (some (.ref x))) (hTL : TL = 1 + nl T) (hT2 : TL < 100000) (hTl : T.length < 10000)
   (F : Fr g L s.heap m) (N : News g L s.heap ((dx, lexD lxh (.int (TL - nl []) tl) fs (.str (Str.ofString "\n\t\r ") tw) pb k) :: (sg, listOf vs.toArray n) :: (L + 4, oR) :: (x, instObj 112 dx) :: (pb, listOf #[] npb) :: (fs, of) :: (D, od) :: (lam, ol) :: (cell, oc) :: (ex ++ rest))) (mx : m (Str.ofString "text") = some (.str (S T) tx))
   (ret : ∀ tk', Q (.ret (.bool true)) (St s s.heap tk')) :
   wpAny (model PR w) (Ar dp un fr gd) (exec st (envOfC (Str.ofString "law") scope L fa cd)) Q E s := by
  refine with_look2 (K := hd.heap_1 w.params) (f := 140) (by k_dflt k_is) fun eb es => ?_
  rw [es] at hsc
  rw [eb] at hb
  dsimp only [List.getElem?_cons_succ, List.getElem?_cons_zero, forBody] at hb hsc
  (try replace hb := Option.some.inj hb)
  replace hsc := Option.some.inj hsc
  subst hb
  subst hsc
  clear eb es
  have he := explicit_eq [((Str.ofString "text"), .str (S T) tx)] (allC mx (List.forall_mem_nil _))
  rw [← he] at F
  k_steps
  refine ⟨?_⟩
  refine KXw.count (count_nl T) ?_
  intro t' k'
  have hn1 := nl_len T
  have hn2 := nl_nonneg T
  have hn0 : TL - nl [] = nl T + 1 := by show TL - 0 = _; omega
  (try dsimp only)
  k_steps
  rw [hn0, beq_self_eq_true]
  exact ret _
end
end Mine
end
section
open PySem PySem.W PyProof.Rows PySem.Calls PySem.Spec
namespace Mine
local macro_rules | `(tactic| walk_at "zz") => `(tactic| skip)
section
variable {w : World} {p : Program} {loose : List Str} {mean : ExcName → Option Value} {mg mb : Str → Option Value} {g : Heap} {s : Shared} {dp un : Nat} {fr : Option (List Env)} {gd : Option (List Code)} {Q : Flow → Shared → Prop} {E : Value → Shared → Prop} {rest : List (Addr × Obj)}
local macro_rules | `(tactic| walk_at "binaryOp Add str str") => `(tactic| (refine Halt.out ?_))
set_option maxRecDepth 100000 in
set_option maxHeartbeats 8000000 in
theorem b6_text (Xg : (hd.heap_1 w.params).In g) (Tg : Top p loose mean mg mb g) (hdp : dp < 600) (hun : un < 6000) {L fa : Addr} {cd : Value} {scope : Scope} (hsc : scopeAt (hd.heap_1 w.params) 140 = some scope) {st : Stmt} (hb : (bodyAt (hd.heap_1 w.params) 140)[6]? = some st)
   {m : Str → Option Value} {news : List (Addr × Obj)} {tt : Tok} {T : List Nat} (hT : T.length < 10000)
   (F : Fr g L s.heap m) (N : News g L s.heap news) (mt : m (Str.ofString "text") = some (.str (S T) tt))
   (ret : ∀ h' tk' t, Fr g L h' (fun z => if z = (Str.ofString "text") then some (.str (S (T ++ [122])) t) else m z) → News g L h' news → Q .next (St s h' tk')) :
   wpAny (model PR w) (Ar dp un fr gd) (exec st (envOfC (Str.ofString "law") scope L fa cd)) Q E s := by
  refine with_look2 (K := hd.heap_1 w.params) (f := 140) (by k_dflt k_is) fun eb es => ?_
  rw [es] at hsc
  rw [eb] at hb
  dsimp only [List.getElem?_cons_succ, List.getElem?_cons_zero, forBody] at hb hsc
  (try replace hb := Option.some.inj hb)
  replace hsc := Option.some.inj hsc
  subst hb
  subst hsc
  clear eb es
  have he := explicit_eq [((Str.ofString "text"), .str (S T) tt)] (allC mt (List.forall_mem_nil _))
  rw [← he] at F
  k_steps
  refine ⟨?_⟩
  refine PyProof.Rows.add_str (x := S T) (y := S [122]) ?_ (by rw [S_len, S_len, sizeLine_eq]; simp only [List.length_singleton]; omega)
  intro t6 k6
  rw [S_app]
  dsimp only
  k_steps
  (with_reducible rename Fr _ _ _ _ => FZ); (with_reducible rename News _ _ _ _ => NZ)
  rw [← he] at ret
  exact ret _ _ _ FZ NZ
local macro_rules | `(tactic| walk_at "call builtin:list.reverse") => `(tactic| (refine Halt.out ?_))
set_option maxRecDepth 100000 in
set_option maxHeartbeats 8000000 in
theorem b8_rev (Xg : (hd.heap_1 w.params).In g) (Tg : Top p loose mean mg mb g) (hdp : dp < 600) (hun : un < 6000) {L fa : Addr} {cd : Value} {scope : Scope} (hsc : scopeAt (hd.heap_1 w.params) 140 = some scope) {st : Stmt} (hb : (bodyAt (hd.heap_1 w.params) 140)[8]? = some st)
   {m : Str → Option Value} {news : List (Addr × Obj)} {sg : Addr} {ys : List Value} {n : Nat} (hl : ys.length < 100000) (hn : ∀ q ∈ news, q.1 ≠ sg)
   (F : Fr g L s.heap m) (N : News g L s.heap ((sg, listOf ys.toArray n) :: news)) (mg : m (Str.ofString "signs") = some (.ref sg))
   (ret : ∀ h' tk' n', Fr g L h' m → News g L h' ((sg, listOf ys.reverse.toArray n') :: news) → Q .next (St s h' tk')) :
   wpAny (model PR w) (Ar dp un fr gd) (exec st (envOfC (Str.ofString "law") scope L fa cd)) Q E s := by
  refine with_look2 (K := hd.heap_1 w.params) (f := 140) (by k_dflt k_is) fun eb es => ?_
  rw [es] at hsc
  rw [eb] at hb
  dsimp only [List.getElem?_cons_succ, List.getElem?_cons_zero, forBody] at hb hsc
  (try replace hb := Option.some.inj hb)
  replace hsc := Option.some.inj hsc
  subst hb
  subst hsc
  clear eb es
  have he := explicit_eq [((Str.ofString "signs"), .ref sg)] (allC mg (List.forall_mem_nil _))
  rw [← he] at F
  k_steps
  refine ⟨?_⟩
  show wpAny _ _ (call (.builtin "list.reverse") [.ref sg]) _ _ _
  refine kl_reverse (l := ys.reverse) F N (by first | (walk_at "mem"; done) | simp) (.head hn) (by rw [sizeLine_eq]; simp; omega) ?_
  intro h2' F2 N2
  (try dsimp only)
  k_steps
  (with_reducible rename Fr _ _ _ _ => FZ); (with_reducible rename News _ _ _ _ => NZ)
  rw [he] at FZ
  exact ret _ _ _ FZ NZ
local macro_rules | `(tactic| k_all) => `(tactic| walk_at "al3")
local macro_rules | `(tactic| walk_at "call builtin:len") => `(tactic| (refine Halt.out ?_))
set_option maxRecDepth 100000 in
set_option maxHeartbeats 8000000 in
theorem b12_unread (Xg : (hd.heap_1 w.params).In g) (Tg : Top p loose mean mg mb g) (hdp : dp < 600) (hun : un < 6000) {L fa : Addr} {cd : Value} {scope : Scope} (hsc : scopeAt (hd.heap_1 w.params) 140 = some scope) {st : Stmt} (hb : (bodyAt (hd.heap_1 w.params) 140)[12]? = some st)
   {m : Str → Option Value} {news : List (Addr × Obj)} {sg : Addr} {vs : List Value} {n : Nat} (hl : vs.length < 100000)
   (F : Fr g L s.heap m) (N : News g L s.heap ((sg, listOf vs.toArray n) :: news)) (mg : m (Str.ofString "signs") = some (.ref sg))
   (ret : ∀ h' tk' t, Fr g L h' (fun z => if z = (Str.ofString "unread") then some (.int (vs.length : Nat) t) else m z) → News g L h' ((sg, listOf vs.toArray n) :: news) → Q .next (St s h' tk')) :
   wpAny (model PR w) (Ar dp un fr gd) (exec st (envOfC (Str.ofString "law") scope L fa cd)) Q E s := by
  refine with_look2 (K := hd.heap_1 w.params) (f := 140) (by k_dflt k_is) fun eb es => ?_
  rw [es] at hsc
  rw [eb] at hb
  dsimp only [List.getElem?_cons_succ, List.getElem?_cons_zero, forBody] at hb hsc
  (try replace hb := Option.some.inj hb)
  replace hsc := Option.some.inj hsc
  subst hb
  subst hsc
  clear eb es
  have he := explicit_eq [((Str.ofString "signs"), .ref sg)] (allC mg (List.forall_mem_nil _))
  rw [← he] at F
  k_steps
  refine ⟨?_⟩
  refine n_len N (l := sg) (vs := vs) (k0 := n) (by k_mem) (by omega) ?_
  (try dsimp only)
  k_steps
  (with_reducible rename Fr _ _ _ _ => FZ); (with_reducible rename News _ _ _ _ => NZ)
  rw [← he] at ret
  exact ret _ _ _ FZ NZ
set_option maxRecDepth 100000 in
set_option maxHeartbeats 8000000 in
theorem b13_number (Xg : (hd.heap_1 w.params).In g) (Tg : Top p loose mean mg mb g) (hdp : dp < 600) (hun : un < 6000) {L fa : Addr} {cd : Value} {scope : Scope} (hsc : scopeAt (hd.heap_1 w.params) 140 = some scope) {st : Stmt} (hb : (bodyAt (hd.heap_1 w.params) 140)[13]? = some st)
   {m : Str → Option Value} {news : List (Addr × Obj)} {oC : Obj} {v0 : Option Value} (hC : oC.data = .cell v0) (hn : ∀ q ∈ news, q.1 ≠ L + 5)
   (F : Fr g L s.heap m) (N : News g L s.heap ((L + 5, oC) :: news))
   (ret : ∀ h' tk' nA oN oC', Fr g L h' m → News g L h' ((nA, oN) :: (L + 5, oC') :: news) → oC'.data = .cell (some (.ref nA)) → oN.IsDictOf (PySem.strKind PR w) ([] : List (Str × Value)) → (nA == sysModules) = false → (∀ q ∈ (L + 5, oC) :: news, @LT.lt Nat _ q.1 nA) → Q .next (St s h' tk')) :
   wpAny (model PR w) (Ar dp un fr gd) (exec st (envOfC (Str.ofString "law") scope L fa cd)) Q E s := by
  refine with_look2 (K := hd.heap_1 w.params) (f := 140) (by k_dflt k_is) fun eb es => ?_
  rw [es] at hsc
  rw [eb] at hb
  dsimp only [List.getElem?_cons_succ, List.getElem?_cons_zero, forBody] at hb hsc
  (try replace hb := Option.some.inj hb)
  replace hsc := Option.some.inj hsc
  subst hb
  subst hsc
  clear eb es
  k_steps
  rename_i nA hx oN lo hs fs hi fi l1 hh oC2 F2 N2 d2
  exact ret _ _ nA oN oC2 F2 N2 d2 hs lo (fun q hq => kst_ltOf (l := (L + 5, oC) :: news) l1 q hq)
set_option maxRecDepth 100000 in
set_option maxHeartbeats 8000000 in
theorem b14_left (Xg : (hd.heap_1 w.params).In g) (Tg : Top p loose mean mg mb g) (hdp : dp < 600) (hun : un < 6000) {L fa : Addr} {cd : Value} {scope : Scope} (hsc : scopeAt (hd.heap_1 w.params) 140 = some scope) {st : Stmt} (hb : (bodyAt (hd.heap_1 w.params) 140)[14]? = some st)
   {m : Str → Option Value} {news : List (Addr × Obj)} 
   (F : Fr g L s.heap m) (N : News g L s.heap news)
   (ret : ∀ h' tk' lA oF, Fr g L h' (fun z => if z = (Str.ofString "left") then some (.ref lA) else m z) → News g L h' ((lA, oF) :: news) → oF.IsDictOf (PySem.strKind PR w) ([] : List (Str × Value)) → (∀ q ∈ news, @LT.lt Nat _ q.1 lA) → Q .next (St s h' tk')) :
   wpAny (model PR w) (Ar dp un fr gd) (exec st (envOfC (Str.ofString "law") scope L fa cd)) Q E s := by
  refine with_look2 (K := hd.heap_1 w.params) (f := 140) (by k_dflt k_is) fun eb es => ?_
  rw [es] at hsc
  rw [eb] at hb
  dsimp only [List.getElem?_cons_succ, List.getElem?_cons_zero, forBody] at hb hsc
  (try replace hb := Option.some.inj hb)
  replace hsc := Option.some.inj hsc
  subst hb
  subst hsc
  clear eb es
  k_steps
  rename_i lA hx oF l1 lo hs fs hi fi hh F2 N2
  exact ret _ _ lA oF F2 N2 hs l1
set_option maxRecDepth 100000 in
set_option maxHeartbeats 8000000 in
theorem b17_row (Xg : (hd.heap_1 w.params).In g) (Tg : Top p loose mean mg mb g) (hdp : dp < 600) (hun : un < 6000) {L fa : Addr} {cd : Value} {scope : Scope} (hsc : scopeAt (hd.heap_1 w.params) 140 = some scope) {st : Stmt} (hb : (bodyAt (hd.heap_1 w.params) 140)[17]? = some st)
   {m : Str → Option Value} {news : List (Addr × Obj)} 
   (F : Fr g L s.heap m) (N : News g L s.heap news)
   (ret : ∀ h' tk' rA, Fr g L h' (fun z => if z = (Str.ofString "row") then some (.ref rA) else m z) → News g L h' ((rA, listOf ([] : List Value).toArray 0) :: news) → (∀ q ∈ news, @LT.lt Nat _ q.1 rA) → Q .next (St s h' tk')) :
   wpAny (model PR w) (Ar dp un fr gd) (exec st (envOfC (Str.ofString "law") scope L fa cd)) Q E s := by
  refine with_look2 (K := hd.heap_1 w.params) (f := 140) (by k_dflt k_is) fun eb es => ?_
  rw [es] at hsc
  rw [eb] at hb
  dsimp only [List.getElem?_cons_succ, List.getElem?_cons_zero, forBody] at hb hsc
  (try replace hb := Option.some.inj hb)
  replace hsc := Option.some.inj hsc
  subst hb
  subst hsc
  clear eb es
  k_steps
  rename_i rA hx l1 hh F2 N2
  exact ret _ _ rA F2 N2 l1
set_option maxRecDepth 100000 in
set_option maxHeartbeats 8000000 in
theorem b18_low (Xg : (hd.heap_1 w.params).In g) (Tg : Top p loose mean mg mb g) (hdp : dp < 600) (hun : un < 6000) {L fa : Addr} {cd : Value} {scope : Scope} (hsc : scopeAt (hd.heap_1 w.params) 140 = some scope) {st : Stmt} (hb : (bodyAt (hd.heap_1 w.params) 140)[18]? = some st)
   {m : Str → Option Value} {news : List (Addr × Obj)} {o : Obj} {v0 : Option Value} (ho : o.data = .cell v0) (hn : ∀ q ∈ news, q.1 ≠ L + 6)
   (F : Fr g L s.heap m) (N : News g L s.heap ((L + 6, o) :: news))
   (ret : ∀ h' tk' o' t, Fr g L h' m → News g L h' ((L + 6, o') :: news) → o'.data = .cell (some (.int 0 t)) → Q .next (St s h' tk')) :
   wpAny (model PR w) (Ar dp un fr gd) (exec st (envOfC (Str.ofString "law") scope L fa cd)) Q E s := by
  refine with_look2 (K := hd.heap_1 w.params) (f := 140) (by k_dflt k_is) fun eb es => ?_
  rw [es] at hsc
  rw [eb] at hb
  dsimp only [List.getElem?_cons_succ, List.getElem?_cons_zero, forBody] at hb hsc
  (try replace hb := Option.some.inj hb)
  replace hsc := Option.some.inj hsc
  subst hb
  subst hsc
  clear eb es
  k_steps
  rename_i hh o2 F2 N2 d2
  exact ret _ _ o2 _ F2 N2 d2
set_option maxRecDepth 100000 in
set_option maxHeartbeats 8000000 in
theorem b19_size (Xg : (hd.heap_1 w.params).In g) (Tg : Top p loose mean mg mb g) (hdp : dp < 600) (hun : un < 6000) {L fa : Addr} {cd : Value} {scope : Scope} (hsc : scopeAt (hd.heap_1 w.params) 140 = some scope) {st : Stmt} (hb : (bodyAt (hd.heap_1 w.params) 140)[19]? = some st)
   {m : Str → Option Value} {news : List (Addr × Obj)} {o : Obj} {v0 : Option Value} (ho : o.data = .cell v0) (hn : ∀ q ∈ news, q.1 ≠ L + 7)
   (F : Fr g L s.heap m) (N : News g L s.heap ((L + 7, o) :: news))
   (ret : ∀ h' tk' o' t, Fr g L h' m → News g L h' ((L + 7, o') :: news) → o'.data = .cell (some (.int 1 t)) → Q .next (St s h' tk')) :
   wpAny (model PR w) (Ar dp un fr gd) (exec st (envOfC (Str.ofString "law") scope L fa cd)) Q E s := by
  refine with_look2 (K := hd.heap_1 w.params) (f := 140) (by k_dflt k_is) fun eb es => ?_
  rw [es] at hsc
  rw [eb] at hb
  dsimp only [List.getElem?_cons_succ, List.getElem?_cons_zero, forBody] at hb hsc
  (try replace hb := Option.some.inj hb)
  replace hsc := Option.some.inj hsc
  subst hb
  subst hsc
  clear eb es
  k_steps
  rename_i hh o2 F2 N2 d2
  exact ret _ _ o2 _ F2 N2 d2
set_option maxRecDepth 100000 in
set_option maxHeartbeats 8000000 in
theorem b20_power (Xg : (hd.heap_1 w.params).In g) (Tg : Top p loose mean mg mb g) (hdp : dp < 600) (hun : un < 6000) {L fa : Addr} {cd : Value} {scope : Scope} (hsc : scopeAt (hd.heap_1 w.params) 140 = some scope) {st : Stmt} (hb : (bodyAt (hd.heap_1 w.params) 140)[20]? = some st)
   {m : Str → Option Value} {news : List (Addr × Obj)} 
   (F : Fr g L s.heap m) (N : News g L s.heap news)
   (ret : ∀ h' tk' t, Fr g L h' (fun z => if z = (Str.ofString "power") then some (.int 1 t) else m z) → News g L h' news → Q .next (St s h' tk')) :
   wpAny (model PR w) (Ar dp un fr gd) (exec st (envOfC (Str.ofString "law") scope L fa cd)) Q E s := by
  refine with_look2 (K := hd.heap_1 w.params) (f := 140) (by k_dflt k_is) fun eb es => ?_
  rw [es] at hsc
  rw [eb] at hb
  dsimp only [List.getElem?_cons_succ, List.getElem?_cons_zero, forBody] at hb hsc
  (try replace hb := Option.some.inj hb)
  replace hsc := Option.some.inj hsc
  subst hb
  subst hsc
  clear eb es
  k_steps
  rename_i hh F2 N2
  exact ret _ _ _ F2 N2
end
end Mine
end
section
open PySem PySem.W PyProof.Rows PySem.Calls PySem.Spec
namespace Mine
section
variable {w : World} {p : Program} {loose : List Str} {mean : ExcName → Option Value} {mg mb : Str → Option Value} {g : Heap} {s : Shared} {dp un : Nat} {fr : Option (List Env)} {gd : Option (List Code)} {Q : Flow → Shared → Prop} {E : Value → Shared → Prop} {rest : List (Addr × Obj)}
theorem news_ne_obj {g h : Heap} {L : Addr} {news : List (Addr × Obj)} (N : News g L h news) {a b : Addr} {o o' : Obj} (h1 : (a, o) ∈ news) (h2 : (b, o') ∈ news) (hne : o ≠ o') : @Ne Nat a b := fun z => by
  have e1 := (N _ h1).1
  have e2 := (N _ h2).1
  simp only [z] at e1
  exact hne (Option.some.inj (e1.symm.trans e2))
theorem stk_of {ys : List Value} {l : List Nat} (h : StrsAre ys (l.map fun c => S [c])) : IsStk ys.reverse l := by
  unfold IsStk
  rw [List.reverse_reverse]
  revert ys
  induction l with
  | nil => intro ys h; cases h; exact .nil
  | cons c l ih =>
    intro ys h
    rw [List.map_cons] at h
    cases h with
    | cons y t h => exact .cons ⟨t, rfl⟩ (ih h)
theorem words_len (xs : List Int) : ∀ cs ∈ xs.map wordOf, cs.length < 4 := fun cs h => by
  obtain ⟨x, _, rfl⟩ := List.mem_map.mp h
  unfold wordOf
  rw [wordN_len]
  exact len4_lt x
theorem words_lets (xs : List Int) : ∀ cs ∈ xs.map wordOf, ∀ c ∈ cs, c ∈ lets := fun cs h c hc => by
  obtain ⟨x, _, rfl⟩ := List.mem_map.mp h
  exact wordN_mem x _ c hc
theorem words_ch (xs : List Int) : ∀ cs ∈ xs.map wordOf, ∀ c ∈ cs, c < 1000 := fun cs h c hc => by
  have := words_lets xs cs h c hc
  simp only [lets, List.mem_cons, List.not_mem_nil, or_false] at this
  omega
theorem strm_ne {K : Frag} {rest : List (Addr × Obj)} {sg fs D lam cell : Addr} {of od ol oc : Obj} (I : IsStream K rest sg fs D lam cell of od ol oc) {v : Array Value} {n : Nat} : od ≠ listOf v n ∧ ol ≠ listOf v n ∧ oc ≠ listOf v n := by
  obtain ⟨_, _, ⟨es, ep, hdd⟩, ⟨params, body, scope, pm, c2, ctv, ocd, vs, t, hb, rfl, hoc, e1, e2, n1, n2, n3⟩, d1⟩ := I
  exact ⟨(fun q => by rw [q] at hdd; cases hdd), (fun q => by simp at q), (fun q => by rw [q] at d1; cases d1)⟩
local macro_rules | `(tactic| walk_at "exec Expr") => `(tactic| (refine Halt.out ?_))
local macro_rules | `(tactic| walk_at "exec Assign cons BinOp") => `(tactic| (refine Halt.out ?_))
local macro_rules | `(tactic| walk_at "exec Assign cons ListComp") => `(tactic| (refine Halt.out ?_))
local macro_rules | `(tactic| walk_at "exec If") => `(tactic| (refine Halt.out ?_))
local macro_rules | `(tactic| walk_at "exec Assign cons Call") => `(tactic| (refine Halt.out ?_))
set_option maxRecDepth 100000 in
set_option maxHeartbeats 8000000 in
theorem law_6 (Xg : (hd.heap_1 w.params).In g) (Tg : Top p loose mean mg mb g) (hdp : dp < 600) (hun : un < 6000) {L fa : Addr} {cd : Value} {scope : Scope} (hsc : scopeAt (hd.heap_1 w.params) 140 = some scope) {bd bs : List Stmt} (hb : bd = bodyAt (hd.heap_1 w.params) 140) (hbs : bs = bd.drop 6)
   {m : Str → Option Value} {wA vA : Addr} {wv vv : List Value} {nw nv : Nat} {oL oW oV oR oC oLow oSize : Obj} {v0 v1 v2 v3 : Option Value} {tt tL : Tok} {xs : List Int}
   (C0 : CodeHd g 122 118) (R : Rest rest) (hL : oL.data = .cell (some (.str (S lets) tL))) (hW : oW.data = .cell (some (.ref wA))) (hV : oV.data = .cell (some (.ref vA))) (hR : oR.data = .cell v0) (hC : oC.data = .cell v1) (hlo : oLow.data = .cell v2) (hsz : oSize.data = .cell v3)
   (hlen : xs.length ≤ 12) (l1 : @LT.lt Nat _ (L + 7) wA) (l2 : @LT.lt Nat _ wA vA) (hwv : StrsAre wv ((xs.map wordOf).map S))
   (F : Fr g L s.heap m) (N : News g L s.heap ((wA, listOf wv.toArray nw) :: (vA, listOf vv.toArray nv) :: (L + 1, oL) :: (L + 2, oW) :: (L + 3, oV) :: (L + 4, oR) :: (L + 5, oC) :: (L + 6, oLow) :: (L + 7, oSize) :: rest)) (mt : m (Str.ofString "text") = some (.str (S (textsOf xs)) tt))
   (ret : ∀ h' tk' m' x dx pb fs D lam cell npb k lxh tl tw of od ol oc sg ns tA rest' oR' rf (tv sv : List Value) tx, Fr g L h' m' → News g L h' ((tA, listOf tv.toArray tv.length) :: (pb, listOf ([] : List Value).toArray npb) :: (x, instObj 112 dx) :: (dx, lexD lxh (.int (1 + nl (textsOf xs ++ [122]) - nl rf) tl) fs (.str (Str.ofString "\n\t\r ") tw) pb k) :: (sg, listOf sv.toArray ns) :: (wA, listOf wv.toArray nw) :: (vA, listOf vv.toArray nv) :: (L + 1, oL) :: (L + 2, oW) :: (L + 3, oV) :: (L + 4, oR') :: (L + 5, oC) :: (L + 6, oLow) :: (L + 7, oSize) :: (fs, of) :: (D, od) :: (lam, ol) :: (cell, oc) :: rest') → Rest rest' → IsStream (hd.heap_1 w.params) rest' sg fs D lam cell of od ol oc → oR'.data = .cell (some (.ref x)) → StrsAre tv ((xs.map wordOf).map S) → IsStk sv rf → Toks rf [[122], [], []] [] → rf.length < 100000 → 0 ≤ 1 + nl (textsOf xs ++ [122]) - nl rf → (∀ a ∈ [x, dx, fs, D, lam, cell, sg, tA, wA, vA, L + 1, L + 2, L + 3, L + 4, L + 5, L + 6, L + 7], @Ne Nat a pb) → (∀ a ∈ [pb, x, dx, fs, D, lam, cell, sg, tA, wA, vA], @Ne Nat a (L + 5) ∧ @Ne Nat a (L + 6) ∧ @Ne Nat a (L + 7)) → (∀ a ∈ [pb, x, fs, D, lam, cell, tA, wA, vA, L + 1, L + 2, L + 3, L + 4, L + 5, L + 6, L + 7], @Ne Nat a sg ∧ @Ne Nat a dx) → @Ne Nat sg dx → Same [(Str.ofString "text"), (Str.ofString "signs"), (Str.ofString "told")] m m' → m' (Str.ofString "text") = some (.str (S (textsOf xs ++ [122])) tx) → m' (Str.ofString "signs") = some (.ref sg) → m' (Str.ofString "told") = some (.ref tA) → wpAny (model PR w) (Ar dp un fr gd) (execs (bd.drop 12) (envOfC (Str.ofString "law") scope L fa cd)) Q E (St s h' tk')) :
   wpAny (model PR w) (Ar dp un fr gd) (execs bs (envOfC (Str.ofString "law") scope L fa cd)) Q E s := by
  have hb0 := hb
  have hsc0 := hsc
  refine with_look2 (K := hd.heap_1 w.params) (f := 140) (by k_dflt k_is) fun eb es => ?_
  rw [es] at hsc
  rw [eb] at hb
  replace hsc := Option.some.inj hsc
  subst hb
  subst hsc
  clear eb es
  subst hbs
  simp only [List.drop_succ_cons, List.drop_zero] at ret ⊢
  k_steps
  refine ⟨?_⟩
  have hTl : (textsOf xs).length ≤ 9 * xs.length := textsOf_len xs
  refine b6_text Xg Tg hdp hun hsc0 (by rw [← hb0]; rfl) (T := textsOf xs) (by omega) F N mt ?_
  clear F N
  intro h1' tk1 tx F1 N1
  (try dsimp only)
  k_steps
  refine ⟨?_⟩
  have hT2 : (textsOf xs ++ [122]).length < 10000 := by rw [List.length_append]; simp; omega
  refine b7_signs Xg Tg hdp hun hsc0 (by rw [← hb0]; rfl) (T := (textsOf xs ++ [122])) hT2 F1 N1 (if_pos rfl) ?_
  clear F1 N1
  intro h2' tk2 sg ys F2 N2 hsg hys
  (try dsimp only)
  k_steps
  refine ⟨?_⟩
  have hyl := hys.len_eq
  rw [List.length_map] at hyl
  refine b8_rev Xg Tg hdp hun hsc0 (by rw [← hb0]; rfl) (ys := ys) (by omega) hsg F2 N2 (if_pos rfl) ?_
  clear F2 N2
  intro h3' tk3 ns F3 N3
  (try dsimp only)
  k_steps
  refine ⟨?_⟩
  have h4L : ∀ q ∈ ((sg, listOf ys.reverse.toArray ns) :: (wA, listOf wv.toArray nw) :: (vA, listOf vv.toArray nv) :: (L + 1, oL) :: (L + 2, oW) :: (L + 3, oV) :: (L + 5, oC) :: (L + 6, oLow) :: [(L + 7, oSize)]), q.1 ≠ L + 4 := by
    refine allC ((hsg (L + 4, oR) (by first | (walk_at "mem"; done) | simp)).symm) (allC ?_ (allC ?_ ?_))
    · show @Ne Nat wA (L + 4); omega
    · show @Ne Nat vA (L + 4); omega
    · simp
  refine b9_reader (ex := ((sg, listOf ys.reverse.toArray ns) :: (wA, listOf wv.toArray nw) :: (vA, listOf vv.toArray nv) :: (L + 1, oL) :: (L + 2, oW) :: (L + 3, oV) :: (L + 5, oC) :: (L + 6, oLow) :: [(L + 7, oSize)])) (rest := rest) (oR := oR) Xg Tg hdp hun hsc0 (by rw [← hb0]; rfl) C0 R hR (allC notRest_seq (allC notRest_seq (allC notRest_seq (allC (notRest_cell hL) (allC (notRest_cell hW) (allC (notRest_cell hV) (allC (notRest_cell hC) (allC (notRest_cell hlo) (allC (notRest_cell hsz) (List.forall_mem_nil _)))))))))) h4L F3 (fun q hq => N3 q (subM (by (walk_at "sub"; done)) hq)) (if_pos rfl) ?_
  clear F3
  intro h4' tk4 rest4 oR4 x dx pb fs D lam cell npb k lxh tl tw of od ol oc F4 N4 hR4 R4 I4 hfr hpd e1 e2 e3
  (try dsimp only)
  k_steps
  refine ⟨?_⟩
  have hfr2 : ∀ a ∈ [x, dx, pb, fs, D, lam, cell], ∀ b ∈ [sg, wA, vA, L + 1, L + 2, L + 3, L + 4, L + 5, L + 6, L + 7], @Ne Nat a b := fun a ha => by
    have hf := fresh_ne N3 (hfr a ha)
    exact (allC ((hf (sg, listOf ys.reverse.toArray ns) (by first | (walk_at "mem"; done) | simp)).symm) (allC ((hf (wA, listOf wv.toArray nw) (by first | (walk_at "mem"; done) | simp)).symm) (allC ((hf (vA, listOf vv.toArray nv) (by first | (walk_at "mem"; done) | simp)).symm) (allC ((hf (L + 1, oL) (by first | (walk_at "mem"; done) | simp)).symm) (allC ((hf (L + 2, oW) (by first | (walk_at "mem"; done) | simp)).symm) (allC ((hf (L + 3, oV) (by first | (walk_at "mem"; done) | simp)).symm) (allC ((hf (L + 4, oR) (by first | (walk_at "mem"; done) | simp)).symm) (allC ((hf (L + 5, oC) (by first | (walk_at "mem"; done) | simp)).symm) (allC ((hf (L + 6, oLow) (by first | (walk_at "mem"; done) | simp)).symm) (allC ((hf (L + 7, oSize) (by first | (walk_at "mem"; done) | simp)).symm) (List.forall_mem_nil _)))))))))))
  obtain ⟨rf, hT1, hT3⟩ := toks_text xs [] (fun _ h => nomatch h)
  have hw3 : ∀ cs ∈ (xs.map wordOf), cs.length < 4 := words_len xs
  have hch : ∀ cs ∈ (xs.map wordOf), ∀ c ∈ cs, c < 1000 := words_ch xs
  rw [show (1 : Int) = 1 + nl (textsOf xs ++ [122]) - nl (textsOf xs ++ [122]) from by omega] at N4
  have hsgR := Rest.ne R4 N4 (fun q hq => subM (by (walk_at "sub"; done)) hq) (a := sg) (o := listOf ys.reverse.toArray ns) (by first | (walk_at "mem"; done) | simp) notRest_seq
  have hstk : IsStk ys.reverse (textsOf xs ++ [122]) := stk_of hys
  have hrfl : rf.length ≤ (textsOf xs ++ [122]).length := hT1.len
  have hrfn : nl rf ≤ nl (textsOf xs ++ [122]) := hT1.nl_le
  have hnl0 := nl_nonneg (textsOf xs ++ [122])
  have hnl1 := nl_len (textsOf xs ++ [122])
  have hx10 : ∀ q ∈ ((vA, listOf vv.toArray nv) :: (L + 1, oL) :: (L + 3, oV) :: (L + 5, oC) :: (L + 6, oLow) :: [(L + 7, oSize)]) ++ rest4, q.1 ∉ [sg, dx] := fun q hq z => by
    have h1 : q.1 ≠ dx := hpd q (subM (by (walk_at "sub"; done)) hq) dx (by first | (walk_at "mem"; done) | simp)
    have h2 : q.1 ≠ sg := by
      rcases List.mem_append.mp hq with hq | hq
      · exact hsg q (subM (by (walk_at "sub"; done)) hq)
      · exact hsgR q hq
    simp only [List.mem_cons, List.not_mem_nil, or_false] at z
    exact z.elim h2 h1
  refine b10_told (x := x) (dx := dx) (pb := pb) (lxh := lxh) (tw := tw) (k := k) (npb := npb) (tl := tl) (ex := ((vA, listOf vv.toArray nv) :: (L + 1, oL) :: (L + 3, oV) :: (L + 5, oC) :: (L + 6, oLow) :: [(L + 7, oSize)])) (rest := rest4) (words := (xs.map wordOf)) (r := (textsOf xs ++ [122])) (rf := rf) (TL := 1 + nl (textsOf xs ++ [122])) (wv := wv) (nw := nw) (n := ns) Xg Tg hdp hun hsc0 (by rw [← hb0]; rfl) R4 I4 hW hR4 (hfr2 pb (by first | (walk_at "mem"; done) | simp) sg (by first | (walk_at "mem"; done) | simp)) (hsg (wA, listOf wv.toArray nw) (by first | (walk_at "mem"; done) | simp)) hx10 hwv (by rw [List.length_map]; omega) (fun cs hcs => by have := hw3 cs hcs; omega) hstk hT1 (by omega) (by omega) (by omega) F4 (fun q hq => N4 q (subM (by (walk_at "sub"; done)) hq)) ?_
  clear F4
  intro h5' tk5 tA tv sv n5 tl5 F5 N5 htA htv hsv
  (try dsimp only)
  k_steps
  refine ⟨?_⟩
  refine b11_if (words := (xs.map wordOf)) (wv := wv) (tv := tv) (nw := nw) (nt := tv.length) (rest := ((dx, lexD lxh (.int (1 + nl (textsOf xs ++ [122]) - nl rf) tl5) fs (.str (Str.ofString "\n\t\r ") tw) pb k) :: (sg, listOf sv.toArray n5) :: (L + 4, oR4) :: (x, instObj 112 dx) :: (pb, listOf #[] npb) :: (fs, of) :: (D, od) :: (lam, ol) :: (cell, oc) :: (((vA, listOf vv.toArray nv) :: (L + 1, oL) :: (L + 3, oV) :: (L + 5, oC) :: (L + 6, oLow) :: [(L + 7, oSize)]) ++ rest4))) Xg Tg hdp hun hsc0 (by rw [← hb0]; rfl) hW hwv htv hch F5 (fun q hq => N5 q (subM (by (walk_at "sub"; done)) hq)) (if_pos rfl) ?_
  intro tk6
  (try dsimp only)
  have hg : ∀ {a b : Addr} {o o' : Obj}, (a, o) ∈ [(tA, listOf tv.toArray tv.length), (pb, listOf (#[] : Array Value) npb), (x, instObj 112 dx), (dx, lexD lxh (.int (1 + nl (textsOf xs ++ [122]) - nl rf) tl5) fs (.str (Str.ofString "\n\t\r ") tw) pb k), (sg, listOf sv.toArray n5), (wA, listOf wv.toArray nw), (vA, listOf vv.toArray nv), (L + 1, oL), (L + 2, oW), (L + 3, oV), (L + 4, oR4), (L + 5, oC), (L + 6, oLow), (L + 7, oSize), (fs, of), (D, od), (lam, ol), (cell, oc)] → (b, o') ∈ [(tA, listOf tv.toArray tv.length), (pb, listOf (#[] : Array Value) npb), (x, instObj 112 dx), (dx, lexD lxh (.int (1 + nl (textsOf xs ++ [122]) - nl rf) tl5) fs (.str (Str.ofString "\n\t\r ") tw) pb k), (sg, listOf sv.toArray n5), (wA, listOf wv.toArray nw), (vA, listOf vv.toArray nv), (L + 1, oL), (L + 2, oW), (L + 3, oV), (L + 4, oR4), (L + 5, oC), (L + 6, oLow), (L + 7, oSize), (fs, of), (D, od), (lam, ol), (cell, oc)] → o ≠ o' → @Ne Nat a b := fun h1 h2 hne => news_ne_obj N5 (subM (by (walk_at "sub"; done)) h1) (subM (by (walk_at "sub"; done)) h2) hne
  obtain ⟨k1, k2, k3⟩ := strm_ne I4 (v := #[]) (n := npb)
  have m1 : ∀ q ∈ [(tA, listOf tv.toArray tv.length), (pb, listOf (#[] : Array Value) npb), (x, instObj 112 dx), (dx, lexD lxh (.int (1 + nl (textsOf xs ++ [122]) - nl rf) tl5) fs (.str (Str.ofString "\n\t\r ") tw) pb k), (sg, listOf sv.toArray n5), (wA, listOf wv.toArray nw), (vA, listOf vv.toArray nv), (L + 1, oL), (L + 2, oW), (L + 3, oV), (L + 4, oR4), (L + 5, oC), (L + 6, oLow), (L + 7, oSize), (fs, of), (D, od), (lam, ol), (cell, oc)], h5'.get? q.1 = some q.2 := fun q hq => (N5 q (subM (by (walk_at "sub"; done)) hq)).1
  obtain ⟨a1, a2, a3, a4, _⟩ := str_ne I4 (m1 (dx, lexD lxh (.int (1 + nl (textsOf xs ++ [122]) - nl rf) tl5) fs (.str (Str.ofString "\n\t\r ") tw) pb k) (by first | (walk_at "mem"; done) | simp)) (m1 (sg, listOf sv.toArray n5) (by first | (walk_at "mem"; done) | simp)) (m1 (fs, of) (by first | (walk_at "mem"; done) | simp)) (m1 (D, od) (by first | (walk_at "mem"; done) | simp)) (m1 (lam, ol) (by first | (walk_at "mem"; done) | simp)) (m1 (cell, oc) (by first | (walk_at "mem"; done) | simp))
  have xd : @Ne Nat x dx := hg (o := instObj 112 dx) (o' := lexD lxh (.int (1 + nl (textsOf xs ++ [122]) - nl rf) tl5) fs (.str (Str.ofString "\n\t\r ") tw) pb k) (by first | (walk_at "mem"; done) | simp) (by first | (walk_at "mem"; done) | simp) (fun z => by have := congrArg Obj.data z; simp at this)
  have ta : ∀ q ∈ [(pb, listOf (#[] : Array Value) npb), (x, instObj 112 dx), (dx, lexD lxh (.int (1 + nl (textsOf xs ++ [122]) - nl rf) tl5) fs (.str (Str.ofString "\n\t\r ") tw) pb k), (sg, listOf sv.toArray n5), (wA, listOf wv.toArray nw), (vA, listOf vv.toArray nv), (L + 1, oL), (L + 2, oW), (L + 3, oV), (L + 4, oR4), (L + 5, oC), (L + 6, oLow), (L + 7, oSize), (fs, of), (D, od), (lam, ol), (cell, oc)], @Ne Nat tA q.1 := fun q hq => (htA q (subM (by (walk_at "sub"; done)) hq)).symm
  refine ret _ _ _ x dx pb fs D lam cell npb k lxh tl5 tw of od ol oc sg n5 tA rest4 oR4 rf tv sv tx F5 (fun q hq => N5 q (subM (by (walk_at "sub"; done)) hq)) R4 I4 hR4 htv hsv hT3 (by omega) (by omega) ?hpb ?h67 ?hsd (hfr2 dx (by first | (walk_at "mem"; done) | simp) sg (by first | (walk_at "mem"; done) | simp)).symm ?hs ?mt ?ms (if_pos rfl)
  case hpb => exact (allC e2.symm (allC e1.symm (allC e3.symm (allC (hg (o := od) (by first | (walk_at "mem"; done) | simp) (by first | (walk_at "mem"; done) | simp) k1) (allC (hg (o := ol) (by first | (walk_at "mem"; done) | simp) (by first | (walk_at "mem"; done) | simp) k2) (allC (hg (o := oc) (by first | (walk_at "mem"; done) | simp) (by first | (walk_at "mem"; done) | simp) k3) (allC ((hfr2 (pb) (by first | (walk_at "mem"; done) | simp) (sg) (by first | (walk_at "mem"; done) | simp)).symm) (allC (ta (pb, listOf (#[] : Array Value) npb) (by first | (walk_at "mem"; done) | simp)) (allC ((hfr2 (pb) (by first | (walk_at "mem"; done) | simp) (wA) (by first | (walk_at "mem"; done) | simp)).symm) (allC ((hfr2 (pb) (by first | (walk_at "mem"; done) | simp) (vA) (by first | (walk_at "mem"; done) | simp)).symm) (allC ((hfr2 (pb) (by first | (walk_at "mem"; done) | simp) (L + 1) (by first | (walk_at "mem"; done) | simp)).symm) (allC ((hfr2 (pb) (by first | (walk_at "mem"; done) | simp) (L + 2) (by first | (walk_at "mem"; done) | simp)).symm) (allC ((hfr2 (pb) (by first | (walk_at "mem"; done) | simp) (L + 3) (by first | (walk_at "mem"; done) | simp)).symm) (allC ((hfr2 (pb) (by first | (walk_at "mem"; done) | simp) (L + 4) (by first | (walk_at "mem"; done) | simp)).symm) (allC ((hfr2 (pb) (by first | (walk_at "mem"; done) | simp) (L + 5) (by first | (walk_at "mem"; done) | simp)).symm) (allC ((hfr2 (pb) (by first | (walk_at "mem"; done) | simp) (L + 6) (by first | (walk_at "mem"; done) | simp)).symm) (allC ((hfr2 (pb) (by first | (walk_at "mem"; done) | simp) (L + 7) (by first | (walk_at "mem"; done) | simp)).symm) (List.forall_mem_nil _))))))))))))))))))
  case h67 => exact (allC ⟨(hfr2 (pb) (by first | (walk_at "mem"; done) | simp) (L + 5) (by first | (walk_at "mem"; done) | simp)), (hfr2 (pb) (by first | (walk_at "mem"; done) | simp) (L + 6) (by first | (walk_at "mem"; done) | simp)), (hfr2 (pb) (by first | (walk_at "mem"; done) | simp) (L + 7) (by first | (walk_at "mem"; done) | simp))⟩ (allC ⟨(hfr2 (x) (by first | (walk_at "mem"; done) | simp) (L + 5) (by first | (walk_at "mem"; done) | simp)), (hfr2 (x) (by first | (walk_at "mem"; done) | simp) (L + 6) (by first | (walk_at "mem"; done) | simp)), (hfr2 (x) (by first | (walk_at "mem"; done) | simp) (L + 7) (by first | (walk_at "mem"; done) | simp))⟩ (allC ⟨(hfr2 (dx) (by first | (walk_at "mem"; done) | simp) (L + 5) (by first | (walk_at "mem"; done) | simp)), (hfr2 (dx) (by first | (walk_at "mem"; done) | simp) (L + 6) (by first | (walk_at "mem"; done) | simp)), (hfr2 (dx) (by first | (walk_at "mem"; done) | simp) (L + 7) (by first | (walk_at "mem"; done) | simp))⟩ (allC ⟨(hfr2 (fs) (by first | (walk_at "mem"; done) | simp) (L + 5) (by first | (walk_at "mem"; done) | simp)), (hfr2 (fs) (by first | (walk_at "mem"; done) | simp) (L + 6) (by first | (walk_at "mem"; done) | simp)), (hfr2 (fs) (by first | (walk_at "mem"; done) | simp) (L + 7) (by first | (walk_at "mem"; done) | simp))⟩ (allC ⟨(hfr2 (D) (by first | (walk_at "mem"; done) | simp) (L + 5) (by first | (walk_at "mem"; done) | simp)), (hfr2 (D) (by first | (walk_at "mem"; done) | simp) (L + 6) (by first | (walk_at "mem"; done) | simp)), (hfr2 (D) (by first | (walk_at "mem"; done) | simp) (L + 7) (by first | (walk_at "mem"; done) | simp))⟩ (allC ⟨(hfr2 (lam) (by first | (walk_at "mem"; done) | simp) (L + 5) (by first | (walk_at "mem"; done) | simp)), (hfr2 (lam) (by first | (walk_at "mem"; done) | simp) (L + 6) (by first | (walk_at "mem"; done) | simp)), (hfr2 (lam) (by first | (walk_at "mem"; done) | simp) (L + 7) (by first | (walk_at "mem"; done) | simp))⟩ (allC ⟨(hfr2 (cell) (by first | (walk_at "mem"; done) | simp) (L + 5) (by first | (walk_at "mem"; done) | simp)), (hfr2 (cell) (by first | (walk_at "mem"; done) | simp) (L + 6) (by first | (walk_at "mem"; done) | simp)), (hfr2 (cell) (by first | (walk_at "mem"; done) | simp) (L + 7) (by first | (walk_at "mem"; done) | simp))⟩ (allC ⟨(hsg (L + 5, oC) (by first | (walk_at "mem"; done) | simp)).symm, (hsg (L + 6, oLow) (by first | (walk_at "mem"; done) | simp)).symm, (hsg (L + 7, oSize) (by first | (walk_at "mem"; done) | simp)).symm⟩ (allC ⟨(ta (L + 5, oC) (by first | (walk_at "mem"; done) | simp)), (ta (L + 6, oLow) (by first | (walk_at "mem"; done) | simp)), (ta (L + 7, oSize) (by first | (walk_at "mem"; done) | simp))⟩ (allC ⟨(show @Ne Nat wA (L + 5) by omega), (show @Ne Nat wA (L + 6) by omega), (show @Ne Nat wA (L + 7) by omega)⟩ (allC ⟨(show @Ne Nat vA (L + 5) by omega), (show @Ne Nat vA (L + 6) by omega), (show @Ne Nat vA (L + 7) by omega)⟩ (List.forall_mem_nil _))))))))))))
  case hsd => exact (allC ⟨(hfr2 (pb) (by first | (walk_at "mem"; done) | simp) (sg) (by first | (walk_at "mem"; done) | simp)), e1⟩ (allC ⟨(hfr2 (x) (by first | (walk_at "mem"; done) | simp) (sg) (by first | (walk_at "mem"; done) | simp)), xd⟩ (allC ⟨(hfr2 (fs) (by first | (walk_at "mem"; done) | simp) (sg) (by first | (walk_at "mem"; done) | simp)), a1⟩ (allC ⟨(hfr2 (D) (by first | (walk_at "mem"; done) | simp) (sg) (by first | (walk_at "mem"; done) | simp)), a2⟩ (allC ⟨(hfr2 (lam) (by first | (walk_at "mem"; done) | simp) (sg) (by first | (walk_at "mem"; done) | simp)), a3⟩ (allC ⟨(hfr2 (cell) (by first | (walk_at "mem"; done) | simp) (sg) (by first | (walk_at "mem"; done) | simp)), a4⟩ (allC ⟨(ta (sg, listOf sv.toArray n5) (by first | (walk_at "mem"; done) | simp)), (ta (dx, lexD lxh (.int (1 + nl (textsOf xs ++ [122]) - nl rf) tl5) fs (.str (Str.ofString "\n\t\r ") tw) pb k) (by first | (walk_at "mem"; done) | simp))⟩ (allC ⟨(hsg (wA, listOf wv.toArray nw) (by first | (walk_at "mem"; done) | simp)), (hfr2 (dx) (by first | (walk_at "mem"; done) | simp) (wA) (by first | (walk_at "mem"; done) | simp)).symm⟩ (allC ⟨(hsg (vA, listOf vv.toArray nv) (by first | (walk_at "mem"; done) | simp)), (hfr2 (dx) (by first | (walk_at "mem"; done) | simp) (vA) (by first | (walk_at "mem"; done) | simp)).symm⟩ (allC ⟨(hsg (L + 1, oL) (by first | (walk_at "mem"; done) | simp)), (hfr2 (dx) (by first | (walk_at "mem"; done) | simp) (L + 1) (by first | (walk_at "mem"; done) | simp)).symm⟩ (allC ⟨(hsg (L + 2, oW) (by first | (walk_at "mem"; done) | simp)), (hfr2 (dx) (by first | (walk_at "mem"; done) | simp) (L + 2) (by first | (walk_at "mem"; done) | simp)).symm⟩ (allC ⟨(hsg (L + 3, oV) (by first | (walk_at "mem"; done) | simp)), (hfr2 (dx) (by first | (walk_at "mem"; done) | simp) (L + 3) (by first | (walk_at "mem"; done) | simp)).symm⟩ (allC ⟨(hsg (L + 4, oR) (by first | (walk_at "mem"; done) | simp)), (hfr2 (dx) (by first | (walk_at "mem"; done) | simp) (L + 4) (by first | (walk_at "mem"; done) | simp)).symm⟩ (allC ⟨(hsg (L + 5, oC) (by first | (walk_at "mem"; done) | simp)), (hfr2 (dx) (by first | (walk_at "mem"; done) | simp) (L + 5) (by first | (walk_at "mem"; done) | simp)).symm⟩ (allC ⟨(hsg (L + 6, oLow) (by first | (walk_at "mem"; done) | simp)), (hfr2 (dx) (by first | (walk_at "mem"; done) | simp) (L + 6) (by first | (walk_at "mem"; done) | simp)).symm⟩ (allC ⟨(hsg (L + 7, oSize) (by first | (walk_at "mem"; done) | simp)), (hfr2 (dx) (by first | (walk_at "mem"; done) | simp) (L + 7) (by first | (walk_at "mem"; done) | simp)).symm⟩ (List.forall_mem_nil _)))))))))))))))))
  case hs =>
    intro y hy
    simp only [List.mem_cons, List.not_mem_nil, or_false, not_or] at hy
    obtain ⟨n1, n2, n3⟩ := hy
    exact (if_neg n3).trans ((if_neg n2).trans (if_neg n1))
  case mt => exact (if_neg (by decide)).trans ((if_neg (by decide)).trans (if_pos rfl))
  case ms => exact (if_neg (by decide)).trans (if_pos rfl)
end
end Mine
end
section
open PySem PySem.W PyProof.Rows PySem.Calls PySem.Spec
namespace Mine
section
variable {w : World} {p : Program} {loose : List Str} {mean : ExcName → Option Value} {mg mb : Str → Option Value} {g : Heap} {s : Shared} {dp un : Nat} {fr : Option (List Env)} {gd : Option (List Code)} {Q : Flow → Shared → Prop} {E : Value → Shared → Prop} {rest : List (Addr × Obj)}
theorem words_num (xs : List Int) : (xs.map wordOf).map numOf = xs.map valueOf := by
  rw [List.map_map]
  exact List.map_congr_left fun x _ => numOf_word x
theorem strm_notRest {K : Frag} {rest : List (Addr × Obj)} {sg fs D lam cell : Addr} {of od ol oc : Obj} (I : IsStream K rest sg fs D lam cell of od ol oc) : NotRest of ∧ NotRest od ∧ NotRest ol ∧ NotRest oc := by
  obtain ⟨⟨fd, sl, rfl⟩, _, ⟨es, ep, hdd⟩, ⟨params, body, scope, pm, c2, ctv, ocd, vs, t, hb, rfl, hoc, e1, e2, n1, n2, n3⟩, d1⟩ := I
  exact ⟨notRest_func, (notRest_of fun vs e => by rw [hdd] at e; cases e), notRest_of (fun vs e => by cases e), notRest_cell d1⟩
theorem strm_mono {K : Frag} {rest rest' : List (Addr × Obj)} {sg fs D lam cell : Addr} {of od ol oc : Obj} (I : IsStream K rest sg fs D lam cell of od ol oc) (s : SubR rest rest') : IsStream K rest' sg fs D lam cell of od ol oc := by
  obtain ⟨hf, hns, hdd, ⟨params, body, scope, pm, c2, ctv, ocd, vs, t, hb, e, hoc, e1, e2, n1, n2, n3⟩, d1⟩ := I
  exact ⟨hf, hns, hdd, ⟨params, body, scope, pm, c2, ctv, ocd, vs, t, hb, e, s.same _ hoc n1 n2 n3, e1, e2, n1, n2, n3⟩, d1⟩
local macro_rules | `(tactic| walk_at "exec If") => `(tactic| (refine Halt.out ?_))
local macro_rules | `(tactic| walk_at "exec Assign cons Call") => `(tactic| (refine Halt.out ?_))
local macro_rules | `(tactic| walk_at "exec Assign cons Dict") => `(tactic| (refine Halt.out ?_))
set_option maxRecDepth 100000 in
set_option maxHeartbeats 8000000 in
theorem law_12 (Xg : (hd.heap_1 w.params).In g) (Tg : Top p loose mean mg mb g) (hdp : dp < 600) (hun : un < 6000) {L fa : Addr} {cd : Value} {scope : Scope} (hsc : scopeAt (hd.heap_1 w.params) 140 = some scope) {bd bs : List Stmt} (hb : bd = bodyAt (hd.heap_1 w.params) 140) (hbs : bs = bd.drop 12) {x dx pb fs D lam cell sg tA wA vA : Addr} {lxh : LexH} {tw tl tx : Tok} {k npb ns nt nw nv : Nat} {of od ol oc : Obj} {tv sv wv vv : List Value} {rf : List Nat} {xs : List Int} {m : Str → Option Value} {oL oW oV oR oC oLow oSize : Obj} {v2 v3 : Option Value} {tL : Tok}
   (C2 : CodeHd g 41 37) (R : Rest rest) (I : IsStream (hd.heap_1 w.params) rest sg fs D lam cell of od ol oc) (hL : oL.data = .cell (some (.str (S lets) tL))) (hW : oW.data = .cell (some (.ref wA))) (hV : oV.data = .cell (some (.ref vA))) (hR : oR.data = .cell (some (.ref x))) {v1 : Option Value} (hC : oC.data = .cell v1) (hlo : oLow.data = .cell v2) (hsz : oSize.data = .cell v3)
   (hlen : xs.length ≤ 12) (htv : StrsAre tv ((xs.map wordOf).map S)) (hvv : IntsAre vv (xs.map valueOf)) (hsv : sv.length < 100000)
   (hpb : ∀ a ∈ [x, dx, fs, D, lam, cell, sg, tA, wA, vA, L + 1, L + 2, L + 3, L + 4, L + 5, L + 6, L + 7], @Ne Nat a pb) (h67 : ∀ a ∈ [pb, x, dx, fs, D, lam, cell, sg, tA, wA, vA], @Ne Nat a (L + 5) ∧ @Ne Nat a (L + 6) ∧ @Ne Nat a (L + 7))
   (F : Fr g L s.heap m) (N : News g L s.heap ((tA, listOf tv.toArray nt) :: (pb, listOf ([] : List Value).toArray npb) :: (x, instObj 112 dx) :: (dx, lexD lxh (.int (1 + nl (textsOf xs ++ [122]) - nl rf) tl) fs (.str (Str.ofString "\n\t\r ") tw) pb k) :: (sg, listOf sv.toArray ns) :: (wA, listOf wv.toArray nw) :: (vA, listOf vv.toArray nv) :: (L + 1, oL) :: (L + 2, oW) :: (L + 3, oV) :: (L + 4, oR) :: (L + 5, oC) :: (L + 6, oLow) :: (L + 7, oSize) :: (fs, of) :: (D, od) :: (lam, ol) :: (cell, oc) :: rest)) (ms : m (Str.ofString "signs") = some (.ref sg)) (mto : m (Str.ofString "told") = some (.ref tA))
   (ret : ∀ h' tk' m' rest' npb' oC' oN oF pv kn kl nA lA tu, Fr g L h' m' → News g L h' ((tA, listOf tv.toArray nt) :: (pb, listOf pv.toArray npb') :: (x, instObj 112 dx) :: (dx, lexD lxh (.int (1 + nl (textsOf xs ++ [122]) - nl rf) tl) fs (.str (Str.ofString "\n\t\r ") tw) pb k) :: (sg, listOf sv.toArray ns) :: (nA, oN) :: (lA, oF) :: (wA, listOf wv.toArray nw) :: (vA, listOf vv.toArray nv) :: (L + 1, oL) :: (L + 2, oW) :: (L + 3, oV) :: (L + 4, oR) :: (L + 5, oC') :: (L + 6, oLow) :: (L + 7, oSize) :: (fs, of) :: (D, od) :: (lam, ol) :: (cell, oc) :: rest') → Rest rest' → SubR rest rest' → oC'.data = .cell (some (.ref nA)) → oN.IsDictOf (PySem.strKind PR w) kn → oF.IsDictOf (PySem.strKind PR w) kl → NumD kn (xs.map wordOf) numOf → NumD kl (xs.map wordOf) numOf → StrsAre pv ((xs.map wordOf).map S) → (∀ a ∈ [tA, pb, x, dx, sg, wA, vA, L + 1, L + 2, L + 3, L + 4, L + 5, L + 6, L + 7, fs, D, lam, cell], @LT.lt Nat _ a nA) → @LT.lt Nat _ nA lA → (nA == sysModules) = false → Same [(Str.ofString "unread"), (Str.ofString "left"), (Str.ofString "word")] m m' → m' (Str.ofString "unread") = some (.int (sv.length : Nat) tu) → m' (Str.ofString "left") = some (.ref lA) → wpAny (model PR w) (Ar dp un fr gd) (execs (bd.drop 17) (envOfC (Str.ofString "law") scope L fa cd)) Q E (St s h' tk')) :
   wpAny (model PR w) (Ar dp un fr gd) (execs bs (envOfC (Str.ofString "law") scope L fa cd)) Q E s := by
  have hb0 := hb
  have hsc0 := hsc
  refine with_look2 (K := hd.heap_1 w.params) (f := 140) (by k_dflt k_is) fun eb es => ?_
  rw [es] at hsc
  rw [eb] at hb
  replace hsc := Option.some.inj hsc
  subst hb
  subst hsc
  clear eb es
  subst hbs
  simp only [List.drop_succ_cons, List.drop_zero] at ret ⊢
  have hr5 : ∀ q ∈ rest, q.1 ≠ L + 5 := R.ne N (fun q hq => subM (by (walk_at "sub"; done)) hq) (a := L + 5) (o := oC) (by first | (walk_at "mem"; done) | simp) (notRest_cell hC)
  have hwlen : (xs.map wordOf).length ≤ 12 := by rw [List.length_map]; exact hlen
  k_steps
  refine ⟨?_⟩
  refine b12_unread (sg := sg) (vs := sv) (n := ns) (news := ((tA, listOf tv.toArray nt) :: (pb, listOf ([] : List Value).toArray npb) :: (x, instObj 112 dx) :: (dx, lexD lxh (.int (1 + nl (textsOf xs ++ [122]) - nl rf) tl) fs (.str (Str.ofString "\n\t\r ") tw) pb k) :: (wA, listOf wv.toArray nw) :: (vA, listOf vv.toArray nv) :: (L + 1, oL) :: (L + 2, oW) :: (L + 3, oV) :: (L + 4, oR) :: (L + 5, oC) :: (L + 6, oLow) :: (L + 7, oSize) :: (fs, of) :: (D, od) :: (lam, ol) :: (cell, oc) :: rest)) Xg Tg hdp hun hsc0 (by rw [← hb0]; rfl) hsv F (fun q hq => N q (subM (by (walk_at "sub"; done)) hq)) ms ?_
  clear F N
  intro h1' tk1 tu F1 N1
  (try dsimp only)
  k_steps
  refine ⟨?_⟩
  refine b13_number (oC := oC) (v0 := v1) (news := ((tA, listOf tv.toArray nt) :: (pb, listOf ([] : List Value).toArray npb) :: (x, instObj 112 dx) :: (dx, lexD lxh (.int (1 + nl (textsOf xs ++ [122]) - nl rf) tl) fs (.str (Str.ofString "\n\t\r ") tw) pb k) :: (sg, listOf sv.toArray ns) :: (wA, listOf wv.toArray nw) :: (vA, listOf vv.toArray nv) :: (L + 1, oL) :: (L + 2, oW) :: (L + 3, oV) :: (L + 4, oR) :: (L + 6, oLow) :: (L + 7, oSize) :: (fs, of) :: (D, od) :: (lam, ol) :: (cell, oc) :: rest)) Xg Tg hdp hun hsc0 (by rw [← hb0]; rfl) hC (allC ((h67 tA (by first | (walk_at "mem"; done) | simp)).1) (allC ((h67 pb (by first | (walk_at "mem"; done) | simp)).1) (allC ((h67 x (by first | (walk_at "mem"; done) | simp)).1) (allC ((h67 dx (by first | (walk_at "mem"; done) | simp)).1) (allC ((h67 sg (by first | (walk_at "mem"; done) | simp)).1) (allC ((h67 wA (by first | (walk_at "mem"; done) | simp)).1) (allC ((h67 vA (by first | (walk_at "mem"; done) | simp)).1) (allC (show @Ne Nat (L + 1) (L + 5) by omega) (allC (show @Ne Nat (L + 2) (L + 5) by omega) (allC (show @Ne Nat (L + 3) (L + 5) by omega) (allC (show @Ne Nat (L + 4) (L + 5) by omega) (allC (show @Ne Nat (L + 6) (L + 5) by omega) (allC (show @Ne Nat (L + 7) (L + 5) by omega) (allC ((h67 fs (by first | (walk_at "mem"; done) | simp)).1) (allC ((h67 D (by first | (walk_at "mem"; done) | simp)).1) (allC ((h67 lam (by first | (walk_at "mem"; done) | simp)).1) (allC ((h67 cell (by first | (walk_at "mem"; done) | simp)).1) hr5))))))))))))))))) F1 (fun q hq => N1 q (subM (by (walk_at "sub"; done)) hq)) ?_
  clear F1 N1
  intro h2' tk2 nA oN oC2 F2 N2 hC2 hN hnm hnA
  (try dsimp only)
  k_steps
  refine ⟨?_⟩
  refine b14_left Xg Tg hdp hun hsc0 (by rw [← hb0]; rfl) F2 N2 ?_
  clear F2
  intro h3' tk3 lA oF F3 N3 hF hlA
  (try dsimp only)
  have hltA : ∀ a ∈ [tA, pb, x, dx, sg, wA, vA, L + 1, L + 2, L + 3, L + 4, L + 5, L + 6, L + 7, fs, D, lam, cell], @LT.lt Nat _ a nA := (allC (hnA (tA, listOf tv.toArray nt) (by first | (walk_at "mem"; done) | simp)) (allC (hnA (pb, listOf ([] : List Value).toArray npb) (by first | (walk_at "mem"; done) | simp)) (allC (hnA (x, instObj 112 dx) (by first | (walk_at "mem"; done) | simp)) (allC (hnA (dx, lexD lxh (.int (1 + nl (textsOf xs ++ [122]) - nl rf) tl) fs (.str (Str.ofString "\n\t\r ") tw) pb k) (by first | (walk_at "mem"; done) | simp)) (allC (hnA (sg, listOf sv.toArray ns) (by first | (walk_at "mem"; done) | simp)) (allC (hnA (wA, listOf wv.toArray nw) (by first | (walk_at "mem"; done) | simp)) (allC (hnA (vA, listOf vv.toArray nv) (by first | (walk_at "mem"; done) | simp)) (allC (hnA (L + 1, oL) (by first | (walk_at "mem"; done) | simp)) (allC (hnA (L + 2, oW) (by first | (walk_at "mem"; done) | simp)) (allC (hnA (L + 3, oV) (by first | (walk_at "mem"; done) | simp)) (allC (hnA (L + 4, oR) (by first | (walk_at "mem"; done) | simp)) (allC (hnA (L + 5, oC) (by first | (walk_at "mem"; done) | simp)) (allC (hnA (L + 6, oLow) (by first | (walk_at "mem"; done) | simp)) (allC (hnA (L + 7, oSize) (by first | (walk_at "mem"; done) | simp)) (allC (hnA (fs, of) (by first | (walk_at "mem"; done) | simp)) (allC (hnA (D, od) (by first | (walk_at "mem"; done) | simp)) (allC (hnA (lam, ol) (by first | (walk_at "mem"; done) | simp)) (allC (hnA (cell, oc) (by first | (walk_at "mem"; done) | simp)) (List.forall_mem_nil _)))))))))))))))))))
  have hnl : @LT.lt Nat _ nA lA := hlA (nA, oN) (.head _)
  have hrl : ∀ q ∈ rest, @LT.lt Nat _ q.1 nA := fun q hq => hnA q (subM (by (walk_at "sub"; done)) hq)
  generalize hm3 : (fun z => if z = (Str.ofString "left") then some (Value.ref lA) else if z = (Str.ofString "unread") then some (Value.int (sv.length : Nat) tu) else m z) = m3 at F3
  have mto3 : m3 (Str.ofString "told") = some (.ref tA) := by rw [← hm3]; exact (if_neg (by decide)).trans ((if_neg (by decide)).trans mto)
  have ml3 : m3 (Str.ofString "left") = some (.ref lA) := by rw [← hm3]; exact if_pos rfl
  have he3 := explicit_eq [((Str.ofString "told"), .ref tA), ((Str.ofString "left"), .ref lA)] (allC mto3 (allC ml3 (List.forall_mem_nil _)))
  rw [← he3] at F3
  k_steps
  (with_reducible rename Fr _ _ _ _ => F4); (with_reducible rename News _ _ _ _ => N4)
  have hrpb : ∀ q ∈ rest, q.1 ≠ pb := R.ne N4 (fun q hq => subM (by (walk_at "sub"; done)) hq) (a := pb) (o := listOf ([] : List Value).toArray npb) (by first | (walk_at "mem"; done) | simp) notRest_seq
  have hpbL : ∀ q ∈ (tA, listOf tv.toArray nt) :: (((sg, listOf sv.toArray ns) :: (wA, listOf wv.toArray nw) :: (vA, listOf vv.toArray nv) :: (L + 2, oW) :: (L + 3, oV) :: (L + 6, oLow) :: (L + 7, oSize) :: (fs, of) :: (D, od) :: (lam, ol) :: [(cell, oc)]) ++ rest), q.1 ≠ pb := by
    intro q hq
    simp only [List.mem_cons, List.mem_append, List.not_mem_nil, or_false] at hq
    rcases hq with rfl | (rfl | rfl | rfl | rfl | rfl | rfl | rfl | rfl | rfl | rfl | rfl) | hq
    iterate 12 exact hpb _ (by first | (walk_at "mem"; done) | simp)
    exact hrpb q hq
  obtain ⟨nr1, nr2, nr3, nr4⟩ := strm_notRest I
  have hap : ∀ q ∈ (tA, listOf tv.toArray nt) :: (((sg, listOf sv.toArray ns) :: (wA, listOf wv.toArray nw) :: (vA, listOf vv.toArray nv) :: (L + 2, oW) :: (L + 3, oV) :: (L + 6, oLow) :: (L + 7, oSize) :: (fs, of) :: (D, od) :: (lam, ol) :: [(cell, oc)]) ++ rest), ∀ a ∈ [pb, nA, lA], q.1 ≠ a := fun q hq => by
    have h1 : @LT.lt Nat _ q.1 nA := hnA q (subM (by (walk_at "sub"; done)) hq)
    exact (allC (hpbL q hq) (allC (Nat.ne_of_lt h1) (allC (Nat.ne_of_lt (Nat.lt_trans h1 hnl)) (List.forall_mem_nil _))))
  have p1 : @LT.lt Nat _ pb nA := hltA pb (by first | (walk_at "mem"; done) | simp)
  have p2 : @LT.lt Nat _ dx nA := hltA dx (by first | (walk_at "mem"; done) | simp)
  refine c15_loop (ex := ((sg, listOf sv.toArray ns) :: (wA, listOf wv.toArray nw) :: (vA, listOf vv.toArray nv) :: (L + 2, oW) :: (L + 3, oV) :: (L + 6, oLow) :: (L + 7, oSize) :: (fs, of) :: (D, od) :: (lam, ol) :: [(cell, oc)])) (rest := rest) (words := (xs.map wordOf)) (tv := tv) (nt := nt) (npb := npb) (x := x) (dx := dx) (pb := pb) (lxh := lxh) (k := k) (fs := fs) (ln := .int (1 + nl (textsOf xs ++ [122]) - nl rf) tl) (ws := .str (Str.ofString "\n\t\r ") tw) Xg Tg hdp hun hsc0 (by rw [← hb0]; rfl) C2 R (allC notRest_seq (allC notRest_seq (allC notRest_seq (allC (notRest_cell hW) (allC (notRest_cell hV) (allC (notRest_cell hlo) (allC (notRest_cell hsz) (allC nr1 (allC nr2 (allC nr3 (allC nr4 (List.forall_mem_nil _)))))))))))) hL hR hC2 hN hF htv (by omega) (words_len xs) (words_lets xs) hap (Nat.ne_of_lt p1) (Nat.ne_of_lt (Nat.lt_trans p1 hnl)) (Nat.ne_of_lt hnl) (Nat.ne_of_lt p2) (Nat.ne_of_lt (Nat.lt_trans p2 hnl)) F4 (fun q hq => N4 q (subM (by (walk_at "sub"; done)) hq)) ((congrFun he3 _).trans ml3) ?_
  clear F4 N4
  intro h5' tk5 m5 rest5 npb5 oN5 oF5 pv kn kl F5 N5 R5 S5 hr5' hpv hN5 hF5 hkn hkl hs5
  (try dsimp only)
  k_steps
  refine ⟨?_⟩
  have mto5 : m5 (Str.ofString "told") = some (.ref tA) := (hs5 _ (by decide)).trans ((congrFun he3 _).trans mto3)
  have ml5 : m5 (Str.ofString "left") = some (.ref lA) := (hs5 _ (by decide)).trans ((congrFun he3 _).trans ml3)
  refine b16_if (words := (xs.map wordOf)) (tv := tv) (vv := vv) (nt := nt) (nv := nv) (kn := kn) (rest := ((lA, oF5) :: (pb, listOf pv.toArray npb5) :: (x, instObj 112 dx) :: (dx, lexD lxh (.int (1 + nl (textsOf xs ++ [122]) - nl rf) tl) fs (.str (Str.ofString "\n\t\r ") tw) pb k) :: (L + 1, oL) :: (L + 4, oR) :: ((sg, listOf sv.toArray ns) :: (wA, listOf wv.toArray nw) :: (L + 2, oW) :: (L + 6, oLow) :: (L + 7, oSize) :: (fs, of) :: (D, od) :: (lam, ol) :: (cell, oc) :: rest5))) Xg Tg hdp hun hsc0 (by rw [← hb0]; rfl) hV hC2 hN5 hkn htv (by rw [words_num]; exact hvv) (by omega) F5 (fun q hq => N5 q (subM (by (walk_at "sub"; done)) hq)) mto5 ?_
  clear F5 N5
  intro h6' tk6 F6 N6
  (try dsimp only)
  refine ret h6' tk6 m5 rest5 npb5 oC2 oN5 oF5 pv kn kl nA lA tu F6 (fun q hq => N6 q (subM (by (walk_at "sub"; done)) hq)) R5 S5 hC2 hN5 hF5 hkn hkl hpv hltA hnl hnm (fun y hy => ?_) ?_ ml5
  · simp only [List.mem_cons, List.not_mem_nil, or_false, not_or] at hy
    obtain ⟨n1, n2, n3⟩ := hy
    refine (hs5 y (by simp [n3])).trans ((congrFun he3 y).trans ?_)
    rw [← hm3]
    exact (if_neg n2).trans (if_neg n1)
  · refine (hs5 (Str.ofString "unread") (by decide)).trans ((congrFun he3 (Str.ofString "unread")).trans ?_)
    rw [← hm3]
    exact (if_neg (by decide)).trans (if_pos rfl)
end
end Mine
end
section
open PySem PySem.W PyProof.Rows PySem.Calls PySem.Spec
namespace Mine
section
variable {w : World} {p : Program} {loose : List Str} {mean : ExcName → Option Value} {mg mb : Str → Option Value} {g : Heap} {s : Shared} {dp un : Nat} {fr : Option (List Env)} {gd : Option (List Code)} {Q : Flow → Shared → Prop} {E : Value → Shared → Prop} {rest : List (Addr × Obj)}
local macro_rules | `(tactic| walk_at "exec If") => `(tactic| (refine Halt.out ?_))
local macro_rules | `(tactic| walk_at "exec Assign cons List") => `(tactic| (refine Halt.out ?_))
local macro_rules | `(tactic| walk_at "exec Assign cons Constant") => `(tactic| (refine Halt.out ?_))
local macro_rules | `(tactic| walk_at "exec Return some") => `(tactic| (refine Halt.out ?_))
set_option maxRecDepth 100000 in
set_option maxHeartbeats 8000000 in
theorem law_17 (Xg : (hd.heap_1 w.params).In g) (Tg : Top p loose mean mg mb g) (hdp : dp < 600) (hun : un < 6000) {L fa : Addr} {cd : Value} {scope : Scope} (hsc : scopeAt (hd.heap_1 w.params) 140 = some scope) {bd bs : List Stmt} (hb : bd = bodyAt (hd.heap_1 w.params) 140) (hbs : bs = bd.drop 17) {x dx pb fs D lam cell sg tA wA vA nA lA : Addr} {lxh : LexH} {tw tl tx tb tu : Tok} {k npb ns nt nw nv b : Nat} {of od ol oc : Obj} {tv sv wv vv pv : List Value} {rf T : List Nat} {words : List (List Nat)} {m : Str → Option Value} {oL oW oV oR oC oLow oSize oN oF : Obj} {kn kl : List (Str × Value)} {v1 v2 v3 : Option Value}
   (C0 : CodeHd g 122 118) (C1 : CodeHd g 34 30) (C2 : CodeHd g 41 37) (R : Rest rest) (I : IsStream (hd.heap_1 w.params) rest sg fs D lam cell of od ol oc) {tL : Tok} (hL : oL.data = .cell (some (.str (S lets) tL))) (hW : oW.data = .cell (some (.ref wA))) (hV : oV.data = .cell (some (.ref vA))) (hR : oR.data = .cell (some (.ref x))) (hC : oC.data = .cell (some (.ref nA))) (hlo : oLow.data = .cell v2) (hsz : oSize.data = .cell v3)
   (hN : oN.IsDictOf (PySem.strKind PR w) kn) (hkn : NumD kn words numOf) (hF : oF.IsDictOf (PySem.strKind PR w) kl) (hkl : NumD kl words numOf) (hnm : (nA == sysModules) = false)
   (hwl : words.length < 60) (hw2 : 2 ≤ words.length) (hw3 : ∀ cs ∈ words, cs.length < 4) (hch : ∀ cs ∈ words, ∀ c ∈ cs, c < 1000) (hb1 : 2 ≤ b) (hb2 : b ≤ 8)
   (htv : StrsAre tv (words.map S)) (hwv : StrsAre wv (words.map S)) (hvv : IntsAre vv (words.map numOf)) (hpv : StrsAre pv (words.map S)) (hsv : IsStk sv rf) (ht : Toks rf [[122], [], []] []) (hrf : rf.length < 100000) (hT : 0 ≤ 1 + nl T - nl rf) (hTl : T.length < 10000)
   (hpb : ∀ a ∈ [x, dx, fs, D, lam, cell, sg, tA, wA, vA, L + 1, L + 2, L + 3, L + 4, L + 5, L + 6, L + 7], @Ne Nat a pb) (h67 : ∀ a ∈ [pb, x, dx, fs, D, lam, cell, sg, tA, wA, vA], @Ne Nat a (L + 5) ∧ @Ne Nat a (L + 6) ∧ @Ne Nat a (L + 7)) (hsd : ∀ a ∈ [pb, x, fs, D, lam, cell, tA, wA, vA, L + 1, L + 2, L + 3, L + 4, L + 5, L + 6, L + 7], @Ne Nat a sg ∧ @Ne Nat a dx) (hsgd : @Ne Nat sg dx) (hlt : ∀ a ∈ [tA, pb, x, dx, sg, wA, vA, L + 1, L + 2, L + 3, L + 4, L + 5, L + 6, L + 7, fs, D, lam, cell], @LT.lt Nat _ a nA) (hnl : @LT.lt Nat _ nA lA)
   (F : Fr g L s.heap m) (N : News g L s.heap ((tA, listOf tv.toArray nt) :: (pb, listOf pv.toArray npb) :: (x, instObj 112 dx) :: (dx, lexD lxh (.int (1 + nl T - nl rf) tl) fs (.str (Str.ofString "\n\t\r ") tw) pb k) :: (sg, listOf sv.toArray ns) :: (nA, oN) :: (lA, oF) :: (wA, listOf wv.toArray nw) :: (vA, listOf vv.toArray nv) :: (L + 1, oL) :: (L + 2, oW) :: (L + 3, oV) :: (L + 4, oR) :: (L + 5, oC) :: (L + 6, oLow) :: (L + 7, oSize) :: (fs, of) :: (D, od) :: (lam, ol) :: (cell, oc) :: rest)) (ms : m (Str.ofString "signs") = some (.ref sg)) (mto : m (Str.ofString "told") = some (.ref tA)) (mb : m (Str.ofString "base") = some (.int (b : Nat) tb)) (ml : m (Str.ofString "left") = some (.ref lA)) (mu : m (Str.ofString "unread") = some (.int (sv.length : Nat) tu)) (mx : m (Str.ofString "text") = some (.str (S T) tx))
   (ret : ∀ h' tk' m' rest', Fr g L h' m' → Rest rest' → (∀ q ∈ rest', h'.get? q.1 = some q.2) → Q (.ret (.bool true)) (St s h' tk')) :
   wpAny (model PR w) (Ar dp un fr gd) (execs bs (envOfC (Str.ofString "law") scope L fa cd)) Q E s := by
  have hb0 := hb
  have hsc0 := hsc
  refine with_look2 (K := hd.heap_1 w.params) (f := 140) (by k_dflt k_is) fun eb es => ?_
  rw [es] at hsc
  rw [eb] at hb
  replace hsc := Option.some.inj hsc
  subst hb
  subst hsc
  clear eb es
  subst hbs
  simp only [List.drop_succ_cons, List.drop_zero]
  have hr6 : ∀ q ∈ rest, q.1 ≠ L + 6 := R.ne N (fun q hq => subM (by (walk_at "sub"; done)) hq) (a := L + 6) (o := oLow) (by first | (walk_at "mem"; done) | simp) (notRest_cell hlo)
  have hr7 : ∀ q ∈ rest, q.1 ≠ L + 7 := R.ne N (fun q hq => subM (by (walk_at "sub"; done)) hq) (a := L + 7) (o := oSize) (by first | (walk_at "mem"; done) | simp) (notRest_cell hsz)
  k_steps
  refine ⟨?_⟩
  refine b17_row Xg Tg hdp hun hsc0 (by rw [← hb0]; rfl) F N ?_
  clear F N
  intro h1' tk1 rA F1 N1 hrA
  (try dsimp only)
  k_steps
  refine ⟨?_⟩
  refine b18_low (o := oLow) (v0 := v2) (news := ((rA, listOf ([] : List Value).toArray 0) :: (tA, listOf tv.toArray nt) :: (pb, listOf pv.toArray npb) :: (x, instObj 112 dx) :: (dx, lexD lxh (.int (1 + nl T - nl rf) tl) fs (.str (Str.ofString "\n\t\r ") tw) pb k) :: (sg, listOf sv.toArray ns) :: (nA, oN) :: (lA, oF) :: (wA, listOf wv.toArray nw) :: (vA, listOf vv.toArray nv) :: (L + 1, oL) :: (L + 2, oW) :: (L + 3, oV) :: (L + 4, oR) :: (L + 5, oC) :: (L + 7, oSize) :: (fs, of) :: (D, od) :: (lam, ol) :: (cell, oc) :: rest)) Xg Tg hdp hun hsc0 (by rw [← hb0]; rfl) hlo (allC (show @Ne Nat rA (L + 6) from Nat.ne_of_gt (hrA (L + 6, oLow) (by first | (walk_at "mem"; done) | simp))) (allC ((h67 tA (by first | (walk_at "mem"; done) | simp)).2.1) (allC ((h67 pb (by first | (walk_at "mem"; done) | simp)).2.1) (allC ((h67 x (by first | (walk_at "mem"; done) | simp)).2.1) (allC ((h67 dx (by first | (walk_at "mem"; done) | simp)).2.1) (allC ((h67 sg (by first | (walk_at "mem"; done) | simp)).2.1) (allC (show @Ne Nat nA (L + 6) from Nat.ne_of_gt (hlt (L + 6) (by first | (walk_at "mem"; done) | simp))) (allC (show @Ne Nat lA (L + 6) from Nat.ne_of_gt (Nat.lt_trans (hlt (L + 6) (by first | (walk_at "mem"; done) | simp)) hnl)) (allC ((h67 wA (by first | (walk_at "mem"; done) | simp)).2.1) (allC ((h67 vA (by first | (walk_at "mem"; done) | simp)).2.1) (allC (show @Ne Nat (L + 1) (L + 6) by omega) (allC (show @Ne Nat (L + 2) (L + 6) by omega) (allC (show @Ne Nat (L + 3) (L + 6) by omega) (allC (show @Ne Nat (L + 4) (L + 6) by omega) (allC (show @Ne Nat (L + 5) (L + 6) by omega) (allC (show @Ne Nat (L + 7) (L + 6) by omega) (allC ((h67 fs (by first | (walk_at "mem"; done) | simp)).2.1) (allC ((h67 D (by first | (walk_at "mem"; done) | simp)).2.1) (allC ((h67 lam (by first | (walk_at "mem"; done) | simp)).2.1) (allC ((h67 cell (by first | (walk_at "mem"; done) | simp)).2.1) hr6)))))))))))))))))))) F1 (fun q hq => N1 q (subM (by (walk_at "sub"; done)) hq)) ?_
  clear F1 N1
  intro h2' tk2 oLow2 tl2 F2 N2 hlo2
  (try dsimp only)
  k_steps
  refine ⟨?_⟩
  refine b19_size (o := oSize) (v0 := v3) (news := ((rA, listOf ([] : List Value).toArray 0) :: (L + 6, oLow2) :: (tA, listOf tv.toArray nt) :: (pb, listOf pv.toArray npb) :: (x, instObj 112 dx) :: (dx, lexD lxh (.int (1 + nl T - nl rf) tl) fs (.str (Str.ofString "\n\t\r ") tw) pb k) :: (sg, listOf sv.toArray ns) :: (nA, oN) :: (lA, oF) :: (wA, listOf wv.toArray nw) :: (vA, listOf vv.toArray nv) :: (L + 1, oL) :: (L + 2, oW) :: (L + 3, oV) :: (L + 4, oR) :: (L + 5, oC) :: (fs, of) :: (D, od) :: (lam, ol) :: (cell, oc) :: rest)) Xg Tg hdp hun hsc0 (by rw [← hb0]; rfl) hsz (allC (show @Ne Nat rA (L + 7) from Nat.ne_of_gt (hrA (L + 7, oSize) (by first | (walk_at "mem"; done) | simp))) (allC (show @Ne Nat (L + 6) (L + 7) by omega) (allC ((h67 tA (by first | (walk_at "mem"; done) | simp)).2.2) (allC ((h67 pb (by first | (walk_at "mem"; done) | simp)).2.2) (allC ((h67 x (by first | (walk_at "mem"; done) | simp)).2.2) (allC ((h67 dx (by first | (walk_at "mem"; done) | simp)).2.2) (allC ((h67 sg (by first | (walk_at "mem"; done) | simp)).2.2) (allC (show @Ne Nat nA (L + 7) from Nat.ne_of_gt (hlt (L + 7) (by first | (walk_at "mem"; done) | simp))) (allC (show @Ne Nat lA (L + 7) from Nat.ne_of_gt (Nat.lt_trans (hlt (L + 7) (by first | (walk_at "mem"; done) | simp)) hnl)) (allC ((h67 wA (by first | (walk_at "mem"; done) | simp)).2.2) (allC ((h67 vA (by first | (walk_at "mem"; done) | simp)).2.2) (allC (show @Ne Nat (L + 1) (L + 7) by omega) (allC (show @Ne Nat (L + 2) (L + 7) by omega) (allC (show @Ne Nat (L + 3) (L + 7) by omega) (allC (show @Ne Nat (L + 4) (L + 7) by omega) (allC (show @Ne Nat (L + 5) (L + 7) by omega) (allC ((h67 fs (by first | (walk_at "mem"; done) | simp)).2.2) (allC ((h67 D (by first | (walk_at "mem"; done) | simp)).2.2) (allC ((h67 lam (by first | (walk_at "mem"; done) | simp)).2.2) (allC ((h67 cell (by first | (walk_at "mem"; done) | simp)).2.2) hr7)))))))))))))))))))) F2 (fun q hq => N2 q (subM (by (walk_at "sub"; done)) hq)) ?_
  clear F2 N2
  intro h3' tk3 oSize2 ts2 F3 N3 hsz2
  (try dsimp only)
  k_steps
  refine ⟨?_⟩
  refine b20_power Xg Tg hdp hun hsc0 (by rw [← hb0]; rfl) F3 N3 ?_
  clear F3 N3
  intro h4' tk4 tp F4 N4
  (try dsimp only)
  generalize hm4 : (fun z => if z = (Str.ofString "power") then some (Value.int 1 tp) else if z = (Str.ofString "row") then some (Value.ref rA) else m z) = m4 at F4
  have up4 : ∀ y v, m y = some v → y ≠ (Str.ofString "power") → y ≠ (Str.ofString "row") → m4 y = some v := fun y v h n1 n2 => by rw [← hm4]; exact (if_neg n1).trans ((if_neg n2).trans h)
  have mb4 := up4 _ _ mb (by decide) (by decide)
  have ml4 := up4 _ _ ml (by decide) (by decide)
  have mto4 := up4 _ _ mto (by decide) (by decide)
  have mp4 : m4 (Str.ofString "power") = some (.int 1 tp) := by rw [← hm4]; exact if_pos rfl
  have mr4 : m4 (Str.ofString "row") = some (.ref rA) := by rw [← hm4]; exact (if_neg (by decide)).trans (if_pos rfl)
  k_steps
  rename_i hrg F5 N5 up5
  obtain ⟨nr1, nr2, nr3, nr4⟩ := strm_notRest I
  refine t_loop (ex := ((sg, listOf sv.toArray ns) :: (L + 1, oL) :: (fs, of) :: (D, od) :: (lam, ol) :: [(cell, oc)])) (rest := rest) (b := b) (tb := tb) (tp := tp) (tl := tl2) (ts := ts2) (oLow := oLow2) (oSize := oSize2) (kn := kn) (kl := kl) (words := words) (pv := pv) (npb := npb) (rv := ([] : List Value)) (nr := 0) (rwA := rA) (nt := nt) (nv := nv) (nw := nw) (dx := dx) (lxh := lxh) (fs := fs) (k := k) (ln := .int (1 + nl T - nl rf) tl) (ws := .str (Str.ofString "\n\t\r ") tw) Xg Tg hdp hun hsc0 (by rw [← hb0]; rfl) hW hV hR hC hlo2 hsz2 C0 C1 C2 R (allC notRest_seq (allC (notRest_cell hL) (allC nr1 (allC nr2 (allC nr3 (allC nr4 (List.forall_mem_nil _))))))) hnm hN hkn hF hkl hwl hw2 hw3 hch hb1 hb2 htv hwv hvv hpv (allC (Nat.ne_of_gt (hlt pb (by first | (walk_at "mem"; done) | simp))) (allC (Nat.ne_of_gt (Nat.lt_trans (hlt pb (by first | (walk_at "mem"; done) | simp)) hnl)) (allC (hpb (tA) (by first | (walk_at "mem"; done) | simp)) (allC (hpb (vA) (by first | (walk_at "mem"; done) | simp)) (allC (hpb (wA) (by first | (walk_at "mem"; done) | simp)) (allC (hpb (L + 2) (by first | (walk_at "mem"; done) | simp)) (allC (hpb (L + 3) (by first | (walk_at "mem"; done) | simp)) (allC (hpb (L + 5) (by first | (walk_at "mem"; done) | simp)) (allC (hpb (L + 6) (by first | (walk_at "mem"; done) | simp)) (allC (hpb (L + 7) (by first | (walk_at "mem"; done) | simp)) (List.forall_mem_nil _))))))))))) (allC (hpb (sg) (by first | (walk_at "mem"; done) | simp)) (allC (hpb (L + 1) (by first | (walk_at "mem"; done) | simp)) (allC (hpb (fs) (by first | (walk_at "mem"; done) | simp)) (allC (hpb (D) (by first | (walk_at "mem"; done) | simp)) (allC (hpb (lam) (by first | (walk_at "mem"; done) | simp)) (allC (hpb (cell) (by first | (walk_at "mem"; done) | simp)) (List.forall_mem_nil _))))))) (allC (Nat.ne_of_lt hnl) (allC (Nat.ne_of_lt (Nat.lt_trans (hlt (pb) (by first | (walk_at "mem"; done) | simp)) hnl)) (allC (Nat.ne_of_lt (Nat.lt_trans (hlt (x) (by first | (walk_at "mem"; done) | simp)) hnl)) (allC (Nat.ne_of_lt (Nat.lt_trans (hlt (dx) (by first | (walk_at "mem"; done) | simp)) hnl)) (allC (Nat.ne_of_lt (Nat.lt_trans (hlt (tA) (by first | (walk_at "mem"; done) | simp)) hnl)) (allC (Nat.ne_of_lt (Nat.lt_trans (hlt (vA) (by first | (walk_at "mem"; done) | simp)) hnl)) (allC (Nat.ne_of_lt (Nat.lt_trans (hlt (wA) (by first | (walk_at "mem"; done) | simp)) hnl)) (allC (Nat.ne_of_lt (Nat.lt_trans (hlt (L + 2) (by first | (walk_at "mem"; done) | simp)) hnl)) (allC (Nat.ne_of_lt (Nat.lt_trans (hlt (L + 3) (by first | (walk_at "mem"; done) | simp)) hnl)) (allC (Nat.ne_of_lt (Nat.lt_trans (hlt (L + 4) (by first | (walk_at "mem"; done) | simp)) hnl)) (allC (Nat.ne_of_lt (Nat.lt_trans (hlt (L + 5) (by first | (walk_at "mem"; done) | simp)) hnl)) (allC (Nat.ne_of_lt (Nat.lt_trans (hlt (L + 6) (by first | (walk_at "mem"; done) | simp)) hnl)) (allC (Nat.ne_of_lt (Nat.lt_trans (hlt (L + 7) (by first | (walk_at "mem"; done) | simp)) hnl)) (List.forall_mem_nil _)))))))))))))) (allC (Nat.ne_of_lt (Nat.lt_trans (hlt (sg) (by first | (walk_at "mem"; done) | simp)) hnl)) (allC (Nat.ne_of_lt (Nat.lt_trans (hlt (L + 1) (by first | (walk_at "mem"; done) | simp)) hnl)) (allC (Nat.ne_of_lt (Nat.lt_trans (hlt (fs) (by first | (walk_at "mem"; done) | simp)) hnl)) (allC (Nat.ne_of_lt (Nat.lt_trans (hlt (D) (by first | (walk_at "mem"; done) | simp)) hnl)) (allC (Nat.ne_of_lt (Nat.lt_trans (hlt (lam) (by first | (walk_at "mem"; done) | simp)) hnl)) (allC (Nat.ne_of_lt (Nat.lt_trans (hlt (cell) (by first | (walk_at "mem"; done) | simp)) hnl)) (List.forall_mem_nil _))))))) (allC ((h67 pb (by first | (walk_at "mem"; done) | simp)).2.1) (allC ((h67 x (by first | (walk_at "mem"; done) | simp)).2.1) (allC ((h67 dx (by first | (walk_at "mem"; done) | simp)).2.1) (allC (Nat.ne_of_gt (hlt (L + 6) (by first | (walk_at "mem"; done) | simp))) (allC (Nat.ne_of_gt (Nat.lt_trans (hlt (L + 6) (by first | (walk_at "mem"; done) | simp)) hnl)) (allC ((h67 tA (by first | (walk_at "mem"; done) | simp)).2.1) (allC ((h67 vA (by first | (walk_at "mem"; done) | simp)).2.1) (allC ((h67 wA (by first | (walk_at "mem"; done) | simp)).2.1) (List.forall_mem_nil _))))))))) (allC ((h67 sg (by first | (walk_at "mem"; done) | simp)).2.1) (allC (show @Ne Nat (L + 1) (L + 6) by omega) (allC ((h67 fs (by first | (walk_at "mem"; done) | simp)).2.1) (allC ((h67 D (by first | (walk_at "mem"; done) | simp)).2.1) (allC ((h67 lam (by first | (walk_at "mem"; done) | simp)).2.1) (allC ((h67 cell (by first | (walk_at "mem"; done) | simp)).2.1) (List.forall_mem_nil _))))))) (allC ((h67 pb (by first | (walk_at "mem"; done) | simp)).2.2) (allC ((h67 x (by first | (walk_at "mem"; done) | simp)).2.2) (allC ((h67 dx (by first | (walk_at "mem"; done) | simp)).2.2) (allC (Nat.ne_of_gt (hlt (L + 7) (by first | (walk_at "mem"; done) | simp))) (allC (Nat.ne_of_gt (Nat.lt_trans (hlt (L + 7) (by first | (walk_at "mem"; done) | simp)) hnl)) (allC ((h67 tA (by first | (walk_at "mem"; done) | simp)).2.2) (allC ((h67 vA (by first | (walk_at "mem"; done) | simp)).2.2) (allC ((h67 wA (by first | (walk_at "mem"; done) | simp)).2.2) (List.forall_mem_nil _))))))))) (allC ((h67 sg (by first | (walk_at "mem"; done) | simp)).2.2) (allC (show @Ne Nat (L + 1) (L + 7) by omega) (allC ((h67 fs (by first | (walk_at "mem"; done) | simp)).2.2) (allC ((h67 D (by first | (walk_at "mem"; done) | simp)).2.2) (allC ((h67 lam (by first | (walk_at "mem"; done) | simp)).2.2) (allC ((h67 cell (by first | (walk_at "mem"; done) | simp)).2.2) (List.forall_mem_nil _))))))) hrg F5 (fun q hq => N5 q (subM (by (walk_at "sub"; done)) hq)) mb4 ml4 mto4 mp4 mr4 ?_
  clear F5 N5
  intro h6' tk6 m6 rest6 oF6 npb6 rw6 nr6 pv6 rv6 oLow6 oSize6 F6 N6 R6 S6 hpv6 hrv6 hs6 mr6 hpr6
  (try dsimp only)
  k_steps
  refine ⟨?_⟩
  have up6 : ∀ y v, m y = some v → y ∉ [(Str.ofString "turn"), (Str.ofString "rest"), (Str.ofString "word"), (Str.ofString "pair"), (Str.ofString "lines"), (Str.ofString "counts"), (Str.ofString "order"), (Str.ofString "power"), (Str.ofString "row"), (Str.ofString "place"), (Str.ofString "word"), (Str.ofString "line"), (Str.ofString "ladder"), (Str.ofString "due")] → m6 y = some v := fun y v h hy => (hs6 y hy).trans (up4 y v h (fun z => hy (by rw [z]; decide)) (fun z => hy (by rw [z]; decide)))
  have hsl := hsv.length
  have hTn := nl_len T
  refine e22_if (sg := sg) (vs := sv) (n := ns) (news := ((pb, listOf pv6.toArray npb6) :: (rw6, listOf rv6.toArray nr6) :: (x, instObj 112 dx) :: (dx, lexD lxh (.int (1 + nl T - nl rf) tl) fs (.str (Str.ofString "\n\t\r ") tw) pb k) :: (nA, oN) :: (lA, oF6) :: (tA, listOf tv.toArray nt) :: (vA, listOf vv.toArray nv) :: (wA, listOf wv.toArray nw) :: (L + 2, oW) :: (L + 3, oV) :: (L + 4, oR) :: (L + 5, oC) :: (L + 6, oLow6) :: (L + 7, oSize6) :: ((L + 1, oL) :: (fs, of) :: (D, od) :: (lam, ol) :: (cell, oc) :: rest6))) Xg Tg hdp hun hsc0 (by rw [← hb0]; rfl) (by omega) F6 (fun q hq => N6 q (subM (by (walk_at "sub"; done)) hq)) (up6 _ _ ms (by decide)) (up6 _ _ mu (by decide)) ?_
  intro tk7
  (try dsimp only)
  k_steps
  refine ⟨?_⟩
  have hwvl : wv.length = words.length := by have := hwv.len_eq; simpa using this
  have hro := (rowOk (b := b) (W := words) (show 1 ≤ b by omega)).2.2
  have hrl := rowT_len (show 1 ≤ b by omega) words 3
  have hr6pb : ∀ q ∈ rest6, q.1 ≠ pb := R6.ne N6 (fun q hq => subM (by (walk_at "sub"; done)) hq) (a := pb) (o := listOf pv6.toArray npb6) (by first | (walk_at "mem"; done) | simp) notRest_seq
  have hap : ∀ q ∈ ((x, instObj 112 dx) :: (dx, lexD lxh (.int (1 + nl T - nl rf) tl) fs (.str (Str.ofString "\n\t\r ") tw) pb k) :: (rw6, listOf rv6.toArray nr6) :: (wA, listOf wv.toArray nw) :: (L + 2, oW) :: (L + 4, oR) :: ((sg, listOf sv.toArray ns) :: (fs, of) :: (D, od) :: (lam, ol) :: (cell, oc) :: rest6)), q.1 ≠ pb := by
    refine (allC (hpb (x) (by first | (walk_at "mem"; done) | simp)) (allC (hpb (dx) (by first | (walk_at "mem"; done) | simp)) (allC hpr6.symm (allC (hpb (wA) (by first | (walk_at "mem"; done) | simp)) (allC (hpb (L + 2) (by first | (walk_at "mem"; done) | simp)) (allC (hpb (L + 4) (by first | (walk_at "mem"; done) | simp)) (allC (hpb (sg) (by first | (walk_at "mem"; done) | simp)) (allC (hpb (fs) (by first | (walk_at "mem"; done) | simp)) (allC (hpb (D) (by first | (walk_at "mem"; done) | simp)) (allC (hpb (lam) (by first | (walk_at "mem"; done) | simp)) (allC (hpb (cell) (by first | (walk_at "mem"; done) | simp)) hr6pb)))))))))))
  refine e23_if (ex := ((sg, listOf sv.toArray ns) :: (fs, of) :: (D, od) :: (lam, ol) :: (cell, oc) :: rest6)) (rl := rowT b words 3) (pv := pv6) (rv := rv6) (wv := wv) (npb := npb6) (nr := nr6) (nw := nw) (x := x) (dx := dx) (pb := pb) (lxh := lxh) (fs := fs) (k := k) (ln := .int (1 + nl T - nl rf) tl) (ws := .str (Str.ofString "\n\t\r ") tw) Xg Tg hdp hun hsc0 (by rw [← hb0]; rfl) hW hR hpv6 hrv6 (by omega) (by omega) (fun cs hcs => hch cs (hro.st.mem.mp hcs)) hap F6 (fun q hq => N6 q (subM (by (walk_at "sub"; done)) hq)) mr6 ?_
  clear F6 N6
  intro h8' tk8 npb8 F8 N8
  (try dsimp only)
  k_steps
  refine ⟨?_⟩
  have hrsg : ∀ q ∈ rest6, q.1 ≠ sg := R6.ne N8 (fun q hq => subM (by (walk_at "sub"; done)) hq) (a := sg) (o := listOf sv.toArray ns) (by first | (walk_at "mem"; done) | simp) notRest_seq
  have hrdx : ∀ q ∈ rest6, q.1 ≠ dx := R6.ne N8 (fun q hq => subM (by (walk_at "sub"; done)) hq) (a := dx) (o := lexD lxh (.int (1 + nl T - nl rf) tl) fs (.str (Str.ofString "\n\t\r ") tw) pb k) (by first | (walk_at "mem"; done) | simp) notRest_dict
  have I6 := strm_mono I S6
  refine e24_if (ex := []) (rest := rest6) (r := rf) (vs := sv) (n := ns) (TL := 1 + nl T) (x := x) (dx := dx) (pb := pb) (lxh := lxh) (tw := tw) (k := k) (npb := npb8) (tl := tl) Xg Tg hdp hun hsc0 (by rw [← hb0]; rfl) R6 I6 hR (hsd pb (by first | (walk_at "mem"; done) | simp)).1 (fun q hq z => by
    rw [List.nil_append] at hq
    simp only [List.mem_cons, List.not_mem_nil, or_false] at z
    exact z.elim (hrsg q hq) (hrdx q hq)) hsv ht hrf hT (by omega) F8 (fun q hq => N8 q (subM (by (walk_at "sub"; done)) hq)) ?_
  clear F8 N8
  intro h9' tk9 sv9 ns9 tl9 F9 N9
  (try dsimp only)
  k_steps
  refine ⟨?_⟩
  refine e25_ret (ex := []) (rest := rest6) (TL := 1 + nl T) (T := T) (vs := sv9) (n := ns9) (tl := tl9) (x := x) (dx := dx) (pb := pb) (lxh := lxh) (tw := tw) (k := k) (npb := npb8) (fs := fs) (D := D) (lam := lam) (cell := cell) (of := of) (od := od) (ol := ol) (oc := oc) Xg Tg hdp hun hsc0 (by rw [← hb0]; rfl) hR rfl (by omega) hTl F9 N9 (up6 _ _ mx (by decide)) ?_
  intro tk10
  (try dsimp only)
  exact ret h9' tk10 m6 rest6 F9 R6 (fun q hq => (N9 q (subM (by (walk_at "sub"; done)) hq)).1)
end
end Mine
end
section
open PySem PySem.W PyProof.Rows PySem.Calls PySem.Spec
namespace Mine
section
variable {w : World} {p : Program} {loose : List Str} {mean : ExcName → Option Value} {mg mb : Str → Option Value} {g : Heap} {s : Shared} {dp un : Nat} {fr : Option (List Env)} {gd : Option (List Code)} {Q : Flow → Shared → Prop} {E : Value → Shared → Prop} {rest : List (Addr × Obj)}
theorem s_nil : Str.ofString "" = S [] := by decide
theorem s_lets : Str.ofString "a \\\"\nb\t#" = S lets := by decide
set_option maxRecDepth 100000 in
set_option maxHeartbeats 8000000 in
theorem a3w (Xg : (hd.heap_1 w.params).In g) (Tg : Top p loose mean mg mb g) (hdp : dp < 600) (hun : un < 6000) {L fa : Addr} {cd : Value} {scope : Scope} (hsc : scopeAt (hd.heap_1 w.params) 140 = some scope) {b : List Stmt} (hb : b = forBody (bodyAt (hd.heap_1 w.params) 140)[5]?)
   {tl tt : Tok} {o1 o2 o3 o4 o5 o6 o7 oY oZ : Obj} {m : Str → Option Value} {xA wA vA yA zA : Addr} {xv : List Value} {xs : List Int} {px : Pos} (hL : o1.data = .cell (some (.str (Str.ofString "a \\\"\nb\t#") tl))) (hW : o2.data = .cell (some (.ref wA))) (hV : o3.data = .cell (some (.ref vA)))
   (hx : IntsAre xv xs) (hlen : xs.length < 100) (u1 : @LT.lt Nat _ (L + 1 + 1 + 1 + 1 + 1 + 1 + 1) wA) (u2 : @LT.lt Nat _ wA vA) (u3 : @LT.lt Nat _ vA xA) (u4 : ∀ q ∈ [((118 : Addr), tabObj #[]), (30, tabObj #[]), (37, tabObj #[])], @LT.lt Nat _ q.1 wA)
   (F : Fr g L s.heap m) (N : News g L s.heap [(xA, listOf xv.toArray 0), (yA, oY), (zA, oZ), (vA, listOf #[] 0), (wA, listOf #[] 0), (L + 1 + 1 + 1 + 1 + 1 + 1 + 1, o7), (L + 1 + 1 + 1 + 1 + 1 + 1, o6), (L + 1 + 1 + 1 + 1 + 1, o5), (L + 1 + 1 + 1 + 1, o4), (L + 1 + 1 + 1, o3), (L + 1 + 1, o2), (L + 1, o1), (118, tabObj #[]), (30, tabObj #[]), (37, tabObj #[])]) (mt : m (Str.ofString "text") = some (.str (Str.ofString "") tt))
   (ret : ∀ h' tk' m' ws vs t3 nw' nv', Fr g L h' m' → News g L h' ((wA, listOf ws.toArray nw') :: (vA, listOf vs.toArray nv') :: (L + 1, o1) :: (L + 2, o2) :: (L + 3, o3) :: (L + 4, o4) :: (L + 5, o5) :: (L + 6, o6) :: (L + 7, o7) :: [(118, tabObj #[]), (30, tabObj #[]), (37, tabObj #[])]) → StrsAre ws ((xs.map wordOf).map S) → IntsAre vs (xs.map valueOf) → Same [(Str.ofString "word"), (Str.ofString "value"), (Str.ofString "place"), (Str.ofString "figure"), (Str.ofString "text"), (Str.ofString "x")] m m' → m' (Str.ofString "text") = some (.str (S (textsOf xs)) t3) → Q .next (St s h' tk')) :
   wpAny (model PR w) (Ar dp un fr gd) (pyIter (.ref xA)) (fun it s₂ => LoopOk PR w (Ar dp un fr gd) (envOfC (Str.ofString "law") scope L fa cd) (.Name (Str.ofString "x") px) b Q it s₂) E s := by
  have l1 : @LT.lt Nat _ (L + 7) wA := u1
  have N' : News g L s.heap ((xA, listOf xv.toArray 0) :: (wA, listOf ([] : List Value).toArray 0) :: (vA, listOf ([] : List Value).toArray 0) :: (L + 1, o1) :: (L + 2, o2) :: (L + 3, o3) :: ([(L + 4, o4), (L + 5, o5), (L + 6, o6), (L + 7, o7), (118, tabObj #[]), (30, tabObj #[]), (37, tabObj #[])])) := fun q hq => N q (subM (by (walk_at "sub"; done)) hq)
  have hr : ∀ q ∈ [(L + 4, o4), (L + 5, o5), (L + 6, o6), (L + 7, o7), ((118 : Addr), tabObj #[]), (30, tabObj #[]), (37, tabObj #[])], @LT.lt Nat _ q.1 wA := by
    refine allC ?_ (allC ?_ (allC ?_ (allC ?_ u4)))
    · show @LT.lt Nat _ (L + 4) wA; omega
    · show @LT.lt Nat _ (L + 5) wA; omega
    · show @LT.lt Nat _ (L + 6) wA; omega
    · show @LT.lt Nat _ (L + 7) wA; omega
  rw [s_nil] at mt
  rw [s_lets] at hL
  refine a3_loop (rest := [(L + 4, o4), (L + 5, o5), (L + 6, o6), (L + 7, o7), (118, tabObj #[]), (30, tabObj #[]), (37, tabObj #[])]) Xg Tg hdp hun hsc hb hL hW hV hx hlen l1 u2 u3 (fun q hq => Nat.ne_of_lt (hr q hq)) (fun q hq => Nat.ne_of_lt (Nat.lt_trans (hr q hq) u2)) F N' mt ?_
  intro h' tk' m' ws vs t3 nw' nv' F1 N1 hws hvs hs ht
  exact ret h' tk' m' ws vs t3 nw' nv' F1 (fun q hq => N1 q (subM (by (walk_at "sub"; done)) hq)) (by rw [List.map_map]; exact hws) hvs hs ht
end
end Mine
end
section
open PySem PySem.W PyProof.Rows PySem.Calls PySem.Spec
namespace Mine
section
variable {w : World} {p : Program} {loose : List Str} {mean : ExcName → Option Value} {mg mb : Str → Option Value} {g : Heap} {s : Shared} {dp un : Nat} {fr : Option (List Env)} {gd : Option (List Code)} {Q : Flow → Shared → Prop} {E : Value → Shared → Prop} {rest : List (Addr × Obj)}
set_option maxRecDepth 100000 in
set_option maxHeartbeats 8000000 in
theorem law_all (Xg : (hd.heap_1 w.params).In g) (Tg : Top p loose mean mg mb g) (hdp : dp < 600) (hun : un < 6000) {L fa : Addr} {cd : Value} {scope : Scope} (hsc : scopeAt (hd.heap_1 w.params) 140 = some scope) {bd bs : List Stmt} (hb : bd = bodyAt (hd.heap_1 w.params) 140) (hbs : bs = bd.drop 6)
   {m : Str → Option Value} {wA vA : Addr} {wv vv : List Value} {nw nv b : Nat} {oL oW oV oR oC oLow oSize : Obj} {tt tL : Tok} {xs : List Int}
   (C0 : CodeHd g 122 118) (C1 : CodeHd g 34 30) (C2 : CodeHd g 41 37) (R : Rest rest) (hL : oL.data = .cell (some (.str (Str.ofString "a \\\"\nb\t#") tL))) (hW : oW.data = .cell (some (.ref wA))) (hV : oV.data = .cell (some (.ref vA))) (hR : ∃ v, oR.data = .cell v) (hC : ∃ v, oC.data = .cell v) (hlo : ∃ v, oLow.data = .cell v) (hsz : ∃ v, oSize.data = .cell v)
   (hlen : xs.length ≤ 12) (hlen2 : 2 ≤ xs.length) (hb1 : 2 ≤ b) (hb2 : b ≤ 8) (l1 : @LT.lt Nat _ (L + 7) wA) (l2 : @LT.lt Nat _ wA vA) (hwv : StrsAre wv ((xs.map wordOf).map S)) (hvv : IntsAre vv (xs.map valueOf))
   (F : Fr g L s.heap m) (N : News g L s.heap ((wA, listOf wv.toArray nw) :: (vA, listOf vv.toArray nv) :: (L + 1, oL) :: (L + 2, oW) :: (L + 3, oV) :: (L + 4, oR) :: (L + 5, oC) :: (L + 6, oLow) :: (L + 7, oSize) :: rest)) (mt : m (Str.ofString "text") = some (.str (S (textsOf xs)) tt)) (mb : ∃ tb, m (Str.ofString "base") = some (.int (b : Nat) tb))
   (ret : ∀ h' tk' m' rest', Fr g L h' m' → Rest rest' → (∀ q ∈ rest', h'.get? q.1 = some q.2) → Q (.ret (.bool true)) (St s h' tk')) :
   wpAny (model PR w) (Ar dp un fr gd) (execs bs (envOfC (Str.ofString "law") scope L fa cd)) Q E s := by
  rw [s_lets] at hL
  obtain ⟨tb, mb⟩ := mb
  obtain ⟨v0, hR⟩ := hR
  obtain ⟨v1, hC⟩ := hC
  obtain ⟨v2, hlo⟩ := hlo
  obtain ⟨v3, hsz⟩ := hsz
  have hwl : (xs.map wordOf).length = xs.length := List.length_map ..
  have hTl := textsOf_len xs
  refine law_6 (xs := xs) (nw := nw) (nv := nv) (rest := rest) Xg Tg hdp hun hsc hb hbs C0 R hL hW hV hR hC hlo hsz hlen l1 l2 hwv F N mt ?_
  intro h1' tk1 m1 x dx pb fs D lam cell npb k lxh tl tw of od ol oc sg ns tA rest1 oR1 rf tv sv tx F1 N1 R1 I1 hR1 htv hsv ht hrf hT hpb h67 hsd hsg hs1 mt1 ms1 mto1
  have hsl := hsv.length
  refine law_12 (tx := tx) (xs := xs) (m := m1) (npb := npb) (nt := tv.length) (rest := rest1) (x := x) (dx := dx) (pb := pb) (fs := fs) (D := D) (lam := lam) (cell := cell) (sg := sg) (tA := tA) (wA := wA) (vA := vA) (lxh := lxh) (tw := tw) (tl := tl) (k := k) (ns := ns) (nw := nw) (nv := nv) (of := of) (od := od) (ol := ol) (oc := oc) (tv := tv) (sv := sv) (wv := wv) (vv := vv) (rf := rf) Xg Tg hdp hun hsc hb rfl C2 R1 I1 hL hW hV hR1 hC hlo hsz hlen htv hvv (by omega) hpb h67 F1 N1 ms1 mto1 ?_
  intro h2' tk2 m2 rest2 npb2 oC2 oN oF pv kn kl nA lA tu F2 N2 R2 S2 hC2 hN hF hkn hkl hpv hlt hnl hnm hs2 mu2 ml2
  refine law_17 (v1 := v1) (words := (xs.map wordOf)) (T := textsOf xs ++ [122]) (m := m2) (npb := npb2) (nt := tv.length) (rest := rest2) (nA := nA) (lA := lA) (pv := pv) (b := b) (tb := tb) (tu := tu) (tx := tx) (x := x) (dx := dx) (pb := pb) (fs := fs) (D := D) (lam := lam) (cell := cell) (sg := sg) (tA := tA) (wA := wA) (vA := vA) (lxh := lxh) (tw := tw) (tl := tl) (k := k) (ns := ns) (nw := nw) (nv := nv) (of := of) (od := od) (ol := ol) (oc := oc) (tv := tv) (sv := sv) (wv := wv) (vv := vv) (rf := rf) Xg Tg hdp hun hsc hb rfl C0 C1 C2 R2 (strm_mono I1 S2) hL hW hV hR1 hC2 hlo hsz hN hkn hF hkl hnm (by omega) (by omega) (words_len xs) (words_ch xs) hb1 hb2 htv hwv (by rw [words_num]; exact hvv) hpv hsv ht hrf hT (by rw [List.length_append]; simp only [List.length_singleton]; omega) hpb h67 hsd hsg hlt hnl F2 N2 ((hs2 _ (by decide)).trans ms1) ((hs2 _ (by decide)).trans mto1) ((hs2 _ (by decide)).trans ((hs1 _ (by decide)).trans mb)) ml2 mu2 ((hs2 _ (by decide)).trans mt1) ?_
  intro h3' tk3 m3 rest3 F3 R3 hr3
  exact ret h3' tk3 m3 rest3 F3 R3 hr3
end
end Mine
end
section
open PySem PySem.W PyProof.Rows PySem.Calls PySem.Spec
namespace Mine
section
variable {w : World} {p : Program} {loose : List Str} {mean : ExcName → Option Value} {mg mb : Str → Option Value} {g : Heap} {s : Shared} {dp un : Nat} {fr : Option (List Env)} {gd : Option (List Code)} {Q : Flow → Shared → Prop} {E : Value → Shared → Prop} {rest : List (Addr × Obj)}
theorem rest_grown {rest : List (Addr × Obj)} {h : Heap} (R : Rest rest) (hr : ∀ q ∈ rest, h.get? q.1 = some q.2) : GrownAll [(122, 118), (34, 30), (41, 37)] h := by
  obtain ⟨⟨tl1, T1, h1⟩, ⟨tl2, T2, h2⟩, ⟨tl3, T3, h3⟩, _⟩ := R
  refine ⟨?_, ?_, ?_, trivial⟩
  · cases T3 with
    | nil => exact ⟨_, hr _ (h3 _ (.head _))⟩
    | two => exact ⟨_, hr _ (h3 _ (.head _))⟩
  · cases T1 with
    | nil => exact ⟨_, hr _ (h1 _ (.head _))⟩
    | one => exact ⟨_, hr _ (h1 _ (.head _))⟩
  · cases T2 with
    | nil => exact ⟨_, hr _ (h2 _ (.head _))⟩
    | one => exact ⟨_, hr _ (h2 _ (.head _))⟩
theorem rest0 : Rest [((118 : Addr), tabObj #[]), (30, tabObj #[]), (37, tabObj #[])] := by
  refine ⟨⟨_, .nil, fun q hq => ?_⟩, ⟨_, .nil, fun q hq => ?_⟩, ⟨_, .nil, fun q hq => ?_⟩, fun q hq => ?_⟩
  · rw [List.mem_singleton.mp hq]; exact .tail _ (.head _)
  · rw [List.mem_singleton.mp hq]; exact .tail _ (.tail _ (.head _))
  · rw [List.mem_singleton.mp hq]; exact .head _
  · simp only [List.mem_cons, List.not_mem_nil, or_false] at hq
    rcases hq with rfl | rfl | rfl <;> exact ⟨_, rfl, .inl rfl⟩
theorem base_nat (z : Int) : ∃ b : Nat, 2 ≤ b ∧ b ≤ 8 ∧ 2 + (1 + z).fmod 7 = (b : Int) := by
  have h : (1 + z).fmod 7 = (1 + z) % 7 := Int.fmod_eq_emod_of_nonneg _ (by decide)
  have h1 := Int.emod_nonneg (1 + z) (show (7 : Int) ≠ 0 by decide)
  have h2 := Int.emod_lt_of_pos (1 + z) (show (0 : Int) < 7 by decide)
  exact ⟨(2 + (1 + z).fmod 7).toNat, by omega, by omega, by omega⟩
set_option maxRecDepth 100000 in
set_option maxHeartbeats 8000000 in
theorem g1 : PySem.Challenge.rw_pg0213_01.Holds := hd (by
  k_go0
  (all_goals try k_fold)
  k_steps
  rename_i oL dL hA9 tkA tA hA8 tkB wA hA7 lt4 hA6 oW dW tkC vA hA5 lt3 hA4 oV dV hA3 lC hA2 lt2 D1 ws1 hA1 hI1 hC1 hL1 lt1 DA wsA hA FA NA hIA ltA
  rename World => ww
  rename List Int => w0
  refine with_look2 (K := hd.heap_1 ww.params) (f := 140) (by k_dflt k_is) fun eb es => ?_
  (with_reducible rename Frag.In _ _ => XF)
  (with_reducible rename CodeHd _ (Prod.fst (122, 118)) _ => cd0)
  (with_reducible rename CodeHd _ (Prod.fst (34, 30)) _ => cd1)
  (with_reducible rename CodeHd _ (Prod.fst (41, 37)) _ => cd2)
  (with_reducible rename Top topProg _ _ _ _ _ => TF)
  refine a3w (xA := DA) (wA := wA) (vA := vA) (yA := D1) (zA := lC) (xv := wsA) XF TF ?hdp ?hun es ?hb dL dW dV hIA ?hlen lt4.1 lt3.1 ltA.2.2.1 ?u4 FA NA (if_pos rfl) ?ret
  case hdp => show 302 < 600; decide
  case hun => show 7 < 6000; decide
  case hb => rw [eb]; rfl
  case hlen => rw [List.length_append, hC1]; simp only [List.length_cons, List.length_nil]; omega
  case u4 => exact allC lt4.2.2.2.2.2.2.2.1 (allC lt4.2.2.2.2.2.2.2.2.1 (allC lt4.2.2.2.2.2.2.2.2.2 (List.forall_mem_nil _)))
  intro h' tk' m' ws vs t3 nw' nv' F1 N1 hws hvs hs ht
  (try dsimp only)
  obtain ⟨b, hb1, hb2, hbe⟩ := base_nat w0.sum
  have hnl : ([46, 0, 2049, 8075, 4246] ++ List.take 7 w0).length ≤ 12 := by rw [List.length_append, hC1]; simp only [List.length_cons, List.length_nil]; omega
  have hnl2 : 2 ≤ ([46, 0, 2049, 8075, 4246] ++ List.take 7 w0).length := by rw [List.length_append, hC1]; simp only [List.length_cons, List.length_nil]; omega
  refine law_all (b := b) XF TF ?hdp2 ?hun2 es rfl ?hbs cd0 cd1 cd2 rest0 dL dW dV ?e3 ?e4 ?e5 ?e6 hnl hnl2 hb1 hb2 ?l12 lt3.1 hws hvs F1 N1 ht ?mb2 ?ret2
  case hdp2 => show 302 < 600; decide
  case hun2 => show 7 < 6000; decide
  case hbs => rw [eb]; (with_unfolding_all rfl)
  case e3 => exact ⟨_, by assumption⟩
  case e4 => exact ⟨_, by assumption⟩
  case e5 => exact ⟨_, by assumption⟩
  case e6 => exact ⟨_, by assumption⟩
  case l12 => exact lt4.1
  case mb2 =>
    rw [hs _ (by decide), ← hbe]
    exact ⟨_, (if_neg (by decide)).trans (if_pos rfl)⟩
  intro h9 tk9 m9 rest9 F9 R9 hr9
  clear eb es
  (try dsimp only)
  refine And.intro ?_ (rest_grown R9 hr9)
  k_steps)
end
end Mine
end
end
end
end
end
end
end
end
end
theorem PySem.Challenge.cw_pg0213_01_holds : PySem.Challenge.rw_pg0213_01.Holds :=
  Mine.g1
