import PyProof.Rows.All
import Wide.All
import OpenK.AllK
import Wide.FinOn
import PySem.Challenge.RW_rl0067_01
set_option Elab.async false
set_option linter.unusedVariables false
section
namespace Mine
inductive Al (c : Nat → Nat → Nat) : List Nat → List Nat → Nat → Prop
  | nil : Al c [] [] 0
  | del {x : Nat} {a b : List Nat} {n : Nat} : Al c a b n → Al c (x :: a) b (n + 2)
  | ins {y : Nat} {a b : List Nat} {n : Nat} : Al c a b n → Al c a (y :: b) (n + 2)
  | sub {x y : Nat} {a b : List Nat} {n : Nat} : Al c a b n → Al c (x :: a) (y :: b) (n + c x y)
def lev (c : Nat → Nat → Nat) : List Nat → List Nat → Nat
  | [], b => 2 * b.length
  | x :: a, [] => 2 * (x :: a).length
  | x :: a, y :: b => min (lev c a b + c x y) (min (lev c (x :: a) b) (lev c a (y :: b)) + 2)
termination_by a b => a.length + b.length
variable {c : Nat → Nat → Nat}
theorem lev_nil (b : List Nat) : lev c [] b = 2 * b.length := by rw [lev]
theorem lev_nil2 (a : List Nat) : lev c a [] = 2 * a.length := by cases a <;> rw [lev]
theorem lev_cons (x y : Nat) (a b : List Nat) : lev c (x :: a) (y :: b) = min (lev c a b + c x y) (min (lev c (x :: a) b) (lev c a (y :: b)) + 2) := by rw [lev]
theorem Al.insAll : ∀ b : List Nat, Al c [] b (2 * b.length)
  | [] => .nil
  | y :: b => by
    have := (Al.insAll b).ins (y := y)
    rw [List.length_cons, Nat.mul_add]; exact this
theorem Al.delAll : ∀ a : List Nat, Al c a [] (2 * a.length)
  | [] => .nil
  | x :: a => by
    have := (Al.delAll a).del (x := x)
    rw [List.length_cons, Nat.mul_add]; exact this
theorem al_lev : ∀ (a b : List Nat), Al c a b (lev c a b)
  | [], b => by rw [lev_nil]; exact Al.insAll b
  | x :: a, [] => by rw [lev_nil2]; exact Al.delAll _
  | x :: a, y :: b => by
    rw [lev_cons]
    by_cases h : lev c a b + c x y ≤ min (lev c (x :: a) b) (lev c a (y :: b)) + 2
    · rw [Nat.min_eq_left h]; exact (al_lev a b).sub
    · rw [Nat.min_eq_right (by omega)]
      by_cases h2 : lev c (x :: a) b ≤ lev c a (y :: b)
      · rw [Nat.min_eq_left h2]; exact (al_lev (x :: a) b).ins
      · rw [Nat.min_eq_right (by omega)]; exact (al_lev a (y :: b)).del
termination_by a b => a.length + b.length
theorem lev_insLe (a b : List Nat) (y : Nat) : lev c a (y :: b) ≤ lev c a b + 2 := by
  cases a with
  | nil => rw [lev_nil, lev_nil, List.length_cons]; omega
  | cons x a => rw [lev_cons]; omega
theorem lev_delLe (a b : List Nat) (x : Nat) : lev c (x :: a) b ≤ lev c a b + 2 := by
  cases b with
  | nil => rw [lev_nil2, lev_nil2, List.length_cons]; omega
  | cons y b => rw [lev_cons]; omega
theorem lev_le_of {a b : List Nat} {n : Nat} (h : Al c a b n) : lev c a b ≤ n := by
  induction h with
  | nil => rw [lev_nil]; exact Nat.le_refl _
  | del _ ih => exact Nat.le_trans (lev_delLe _ _ _) (by omega)
  | ins _ ih => exact Nat.le_trans (lev_insLe _ _ _) (by omega)
  | sub _ ih => rw [lev_cons]; omega
theorem Al.append {a b a' b' : List Nat} {n n' : Nat} (h : Al c a b n) (h' : Al c a' b' n') : Al c (a ++ a') (b ++ b') (n + n') := by
  induction h with
  | nil => rw [Nat.zero_add]; exact h'
  | @del x a b n _ ih => have := ih.del (x := x); rw [show n + 2 + n' = n + n' + 2 by omega]; exact this
  | @ins y a b n _ ih => have := ih.ins (y := y); rw [show n + 2 + n' = n + n' + 2 by omega]; exact this
  | @sub x y a b n _ ih => have := ih.sub (x := x) (y := y); rw [show n + c x y + n' = n + n' + c x y by omega]; exact this
theorem Al.reverse {a b : List Nat} {n : Nat} (h : Al c a b n) : Al c a.reverse b.reverse n := by
  induction h with
  | nil => exact .nil
  | @del x a b n _ ih =>
    have := ih.append ((Al.nil (c := c)).del (x := x))
    rw [List.append_nil] at this; rw [List.reverse_cons]; simpa using this
  | @ins y a b n _ ih =>
    have := ih.append ((Al.nil (c := c)).ins (y := y))
    rw [List.append_nil] at this; rw [List.reverse_cons]; simpa using this
  | @sub x y a b n _ ih =>
    have := ih.append ((Al.nil (c := c)).sub (x := x) (y := y))
    rw [List.reverse_cons, List.reverse_cons]; simpa using this
theorem Al.swap (hc : ∀ x y, c x y = c y x) {a b : List Nat} {n : Nat} (h : Al c a b n) : Al c b a n := by
  induction h with
  | nil => exact .nil
  | del _ ih => exact ih.ins
  | ins _ ih => exact ih.del
  | sub _ ih => rw [hc]; exact ih.sub
theorem lev_reverse (a b : List Nat) : lev c a.reverse b.reverse = lev c a b := by
  refine Nat.le_antisymm (lev_le_of (al_lev a b).reverse) ?_
  have := lev_le_of (al_lev (c := c) a.reverse b.reverse).reverse
  rwa [List.reverse_reverse, List.reverse_reverse] at this
theorem lev_swap (hc : ∀ x y, c x y = c y x) (a b : List Nat) : lev c a b = lev c b a :=
  Nat.le_antisymm (lev_le_of ((al_lev b a).swap hc)) (lev_le_of ((al_lev a b).swap hc))
theorem lev_tail (x : Nat) (a : List Nat) : ∀ b : List Nat, lev c a b ≤ lev c (x :: a) b + 2
  | [] => by rw [lev_nil2, lev_nil2, List.length_cons]; omega
  | y :: b => by
    have h1 := lev_insLe (c := c) a b y
    have h2 := lev_tail x a b
    rw [lev_cons]; omega
theorem lev_tail2 (y : Nat) : ∀ (a b : List Nat), lev c a b ≤ lev c a (y :: b) + 2
  | [], b => by rw [lev_nil, lev_nil, List.length_cons]; omega
  | x :: a, b => by
    have h1 := lev_delLe (c := c) a b x
    have h2 := lev_tail2 y a b
    rw [lev_cons]; omega
theorem lev_same (h0 : ∀ x, c x x = 0) (x : Nat) (a b : List Nat) : lev c (x :: a) (x :: b) = lev c a b := by
  have h1 := lev_tail (c := c) x a b
  have h2 := lev_tail2 (c := c) x a b
  rw [lev_cons, h0]; omega
theorem lev_pre (h0 : ∀ x, c x x = 0) (p a b : List Nat) : lev c (p ++ a) (p ++ b) = lev c a b := by
  induction p with
  | nil => rfl
  | cons x p ih => rw [List.cons_append, List.cons_append, lev_same h0, ih]
theorem lev_post (h0 : ∀ x, c x x = 0) (p a b : List Nat) : lev c (a ++ p) (b ++ p) = lev c a b := by
  rw [← lev_reverse, List.reverse_append, List.reverse_append, lev_pre h0, lev_reverse]
theorem lev_self (h0 : ∀ x, c x x = 0) (a : List Nat) : lev c a a = 0 := by
  have := lev_pre (c := c) h0 a [] []
  rw [List.append_nil] at this
  rw [this, lev_nil]; rfl
theorem lev_len (a b : List Nat) : 2 * b.length ≤ lev c a b + 2 * a.length := by
  have h := al_lev (c := c) a b
  generalize lev c a b = n at h
  induction h with
  | nil => exact Nat.le_refl _
  | del _ ih => rw [List.length_cons]; omega
  | ins _ ih => rw [List.length_cons]; omega
  | sub _ ih => rw [List.length_cons, List.length_cons]; omega
theorem lev_low (P F : Nat → Bool) (hF : ∀ x y, F x = true → P y = true → c x y = 2) (a b : List Nat) (hb : ∀ y ∈ b, P y = true) :
    2 * b.length + 2 * (a.countP F) ≤ lev c a b + 2 * a.length := by
  have h := al_lev (c := c) a b
  generalize lev c a b = n at h
  induction h with
  | nil => exact Nat.le_refl _
  | @del x a b n _ ih =>
    have := ih hb
    rw [List.length_cons, List.countP_cons]
    split <;> omega
  | @ins y a b n _ ih =>
    have := ih fun z hz => hb z (.tail _ hz)
    rw [List.length_cons]; omega
  | @sub x y a b n _ ih =>
    have := ih fun z hz => hb z (.tail _ hz)
    rw [List.length_cons, List.length_cons, List.countP_cons]
    split
    · rename_i hx
      rw [hF x y hx (hb y (.head _))]; omega
    · omega
def dp (c : Nat → Nat → Nat) (a b : List Nat) : Nat → Nat → Nat
  | 0, i => 2 * i
  | j + 1, 0 => 2 * (j + 1)
  | j + 1, i + 1 => min (min (dp c a b (j + 1) i) (dp c a b j (i + 1)) + 2) (dp c a b j i + c (b.getD j 0) (a.getD i 0))
theorem dp_zero (a b : List Nat) (i : Nat) : dp c a b 0 i = 2 * i := by rw [dp]
theorem dp_left (a b : List Nat) (j : Nat) : dp c a b j 0 = 2 * j := by cases j <;> rw [dp]
theorem dp_step (a b : List Nat) (j i : Nat) : dp c a b (j + 1) (i + 1) = min (min (dp c a b (j + 1) i) (dp c a b j (i + 1)) + 2) (dp c a b j i + c (b.getD j 0) (a.getD i 0)) := by rw [dp]
theorem take_rev (a : List Nat) (i : Nat) (h : i < a.length) : (a.take (i + 1)).reverse = a.getD i 0 :: (a.take i).reverse := by
  have : a.take (i + 1) = a.take i ++ [a.getD i 0] := by
    rw [List.take_add_one]; simp [h]
  rw [this, List.reverse_append]; rfl
theorem dp_lev (a b : List Nat) : ∀ (j i : Nat), j ≤ b.length → i ≤ a.length → dp c a b j i = lev c (b.take j).reverse (a.take i).reverse
  | 0, i, _, hi => by
    rw [dp_zero, List.take_zero, List.reverse_nil, lev_nil, List.length_reverse, List.length_take]; omega
  | j + 1, 0, hj, _ => by
    rw [dp_left, List.take_zero, List.reverse_nil, lev_nil2, List.length_reverse, List.length_take]; omega
  | j + 1, i + 1, hj, hi => by
    rw [dp_step, dp_lev a b (j + 1) i hj (by omega), dp_lev a b j (i + 1) (by omega) hi, dp_lev a b j i (by omega) (by omega)]
    rw [take_rev a i (by omega), take_rev b j (by omega), lev_cons, ← take_rev b j (by omega), ← take_rev a i (by omega)]
    omega
termination_by j i => j + i
theorem dp_whole (a b : List Nat) : dp c a b b.length a.length = lev c b a := by
  rw [dp_lev a b _ _ (Nat.le_refl _) (Nat.le_refl _), List.take_length, List.take_length, lev_reverse]
theorem dp_first (hc : ∀ x y, c x y ≤ 2) (a b : List Nat) (j : Nat) : dp c a b (j + 1) 1 = min (min (2 * j) (dp c a b j 1) + 2) (2 * j + c (b.getD j 0) (a.getD 0 0)) := by
  have := hc (b.getD j 0) (a.getD 0 0)
  have h := dp_step (c := c) a b j 0
  rw [dp_left, dp_left, Nat.zero_add] at h
  omega
theorem dp_down (a b : List Nat) : ∀ (j i : Nat), ∃ k, k ≤ i ∧ dp c a b j k ≤ dp c a b (j + 1) i
  | j, 0 => ⟨0, Nat.le_refl _, by rw [dp_left, dp_left]; omega⟩
  | j, i + 1 => by
    obtain ⟨k, hk, h⟩ := dp_down a b j i
    rw [dp_step]
    by_cases h1 : dp c a b j i + c (b.getD j 0) (a.getD i 0) ≤ min (dp c a b (j + 1) i) (dp c a b j (i + 1)) + 2
    · exact ⟨i, by omega, by omega⟩
    · by_cases h2 : dp c a b (j + 1) i ≤ dp c a b j (i + 1)
      · exact ⟨k, by omega, by omega⟩
      · exact ⟨i + 1, by omega, by omega⟩
theorem dp_downs (a b : List Nat) (i : Nat) : ∀ (d j : Nat), ∃ k, k ≤ i ∧ dp c a b j k ≤ dp c a b (j + d) i
  | 0, j => ⟨i, Nat.le_refl _, Nat.le_refl _⟩
  | d + 1, j => by
    obtain ⟨k, hk, h⟩ := dp_down (c := c) a b (j + d) i
    obtain ⟨k', hk', h'⟩ := dp_downs a b k d j
    exact ⟨k', by omega, by rw [← Nat.add_assoc]; omega⟩
theorem dp_row (hc : ∀ x y, c x y ≤ 2) (a b : List Nat) (ha : 0 < a.length) (j : Nat) (hj : j < b.length) : ∃ k, k < a.length ∧ dp c a b (j + 1) (k + 1) ≤ dp c a b b.length a.length := by
  obtain ⟨k, hk, h⟩ := dp_downs (c := c) a b a.length (b.length - (j + 1)) (j + 1)
  rw [show j + 1 + (b.length - (j + 1)) = b.length by omega] at h
  cases k with
  | zero =>
    refine ⟨0, ha, Nat.le_trans ?_ h⟩
    have := hc (b.getD j 0) (a.getD 0 0)
    rw [dp_step, dp_left, dp_left]; omega
  | succ k => exact ⟨k, by omega, h⟩
end Mine
end
section
open PySem PySem.W PyProof.Rows
namespace Mine
abbrev ls (x : Str) : List Nat := x.cps.toList
theorem ls_len (x : Str) : (ls x).length = x.length := by show x.cps.toList.length = x.cps.size; exact Array.length_toList
theorem ls_inj {x y : Str} (h : ls x = ls y) : x = y := by
  obtain ⟨a⟩ := x; obtain ⟨b⟩ := y
  exact congrArg Str.mk (Array.toList_inj.mp h)
theorem ls_mk (l : List Nat) : ls ⟨l.toArray⟩ = l := rfl
theorem sl_none (x : Str) : Txt.slice x none none = x := by
  unfold Txt.slice
  have e : (PySem.Builtin.Str.strSliceIndices none none 1 x.length).length = x.length := by
    unfold PySem.Builtin.Str.strSliceIndices sliceRange
    simp only [show (1 : Int) > 0 by decide, if_true, List.length_map, List.length_range]
    split <;> (try simp only [Int.ediv_one]) <;> omega
  rw [if_pos (by rw [e]; simp)]
theorem sl_from {x : Str} {k : Nat} (h : k ≤ x.length) : ls (Txt.slice x (some (k : Int)) none) = (ls x).drop k := by
  rw [slice_from_eq (b := (x.length : Int)) (by omega) (by omega) rfl]
  show ((x.cps.toList.drop (k : Int).toNat).take ((x.length : Int) - k).toNat) = _
  rw [Int.toNat_natCast, List.take_of_length_le]
  rw [List.length_drop, ls_len]; omega
theorem sl_to {x : Str} {k : Nat} (h : k ≤ x.length) : ls (Txt.slice x none (some (k : Int))) = (ls x).take k := by
  rw [beq_iff_eq.mp (slice_closes_toL (x := x) (j := (k : Int)) (by omega) (by omega))]
  show ((x.cps.toList.drop (0 : Int).toNat).take ((k : Int) - 0).toNat) = _
  simp
theorem sl_neg {x : Str} {k : Nat} (h0 : 0 < k) (h : k ≤ x.length) : ls (Txt.slice x none (some (-(k : Int)))) = (ls x).take (x.length - k) := by
  rw [beq_iff_eq.mp (slice_closes_to_neg (x := x) (j := -(k : Int)) (by omega) (by omega) rfl)]
  show ((x.cps.toList.drop (0 : Int).toNat).take (-(k : Int) + x.length - 0).toNat) = _
  rw [show (-(k : Int) + x.length - 0).toNat = x.length - k by omega]
  simp
theorem it_pos {x : Str} {k : Nat} (h : k < x.length) : Txt.item x (k : Int) = ⟨#[(ls x).getD k 0]⟩ := by
  rw [beq_iff_eq.mp (item_closes (x := x) (i := (k : Int)) ⟨by omega, by omega⟩)]
  simp [ls, Array.getD_eq_getD_getElem?, List.getD_eq_getElem?_getD]
theorem it_neg {x : Str} {k : Nat} (h0 : 0 < k) (h : k ≤ x.length) : Txt.item x (-(k : Int)) = ⟨#[(ls x).getD (x.length - k) 0]⟩ := by
  rw [beq_iff_eq.mp (item_closes_neg (x := x) (i := -(k : Int)) (by omega) (by omega) rfl)]
  rw [show (-(k : Int) + x.length).toNat = x.length - k by omega]
  simp [ls, Array.getD_eq_getD_getElem?, List.getD_eq_getElem?_getD]
end Mine
end
section
open PySem PySem.W PyProof.Rows
set_option maxRecDepth 100000
namespace Mine
set_option maxHeartbeats 8000000
theorem hl (h : PySem.Challenge.rw_rl0067_01.row.wellSaid = true → PySem.Challenge.rw_rl0067_01.row.Holds) : PySem.Challenge.rw_rl0067_01.Holds := by
  o_law
  rename_i said
  exact h said
section
local macro_rules | `(tactic| o_head $_) => `(tactic| assumption)
theorem hk (h : PySem.Challenge.rw_rl0067_01.row.Holds) : PySem.Challenge.rw_rl0067_01.row.Holds := by
  k_head
end
end Mine
end
section
open PySem PySem.W PyProof.Rows
set_option maxRecDepth 100000
namespace Mine
namespace H
noncomputable section
abbrev pW : Program := PySem.Challenge.pw_rl0067_01
def bM (p : Program) : List Stmt := behindTheImports p
def envM (p : Program) : Env := { scope := p.main.scope, locals := mainNs, globals := mainNs, cells := [], code := .ref 13, frame := some 14 }
def cdM (p : Program) : Code := .body (bM p) (envM p)
def topF : Frame := topFrame ⟨0, 0, 0, 0⟩
def pcs (p : Program) (a n : Nat) (q : Pos) : Thread := piecesOf (((bM p).drop a).take n) (envM p) (cdM p) q [topF]
def ctE (p : Program) : PySem.Expr := match (bM p).drop 2 with | (PySem.Stmt.Assign _ e _) :: _ => e | _ => default
def ctS (p : Program) : Scope := match ctE p with | PySem.Expr.ListComp _ _ s _ => s | _ => p.main.scope
def ctV (p : Program) : Env := { scope := ctS p, locals := 18, globals := mainNs, cells := [], qual := (envM p).qual, func := none, code := .ref 13, frame := some 14, builtins := (envM p).builtins }
def ctC (p : Program) : Code := .compLoop (ctE p) 0 (.ref 16) (.ref 17) (ctV p)
def ctT (den : Code → Sem Fin) (p : Program) (q : Pos) (k : Result → Sem Fin) : Thread := ⟨den (ctC p), ctC p, q, [.ret k none true [.ref 18, .ref 17] (cdM p) ⟨3, 36, 3, 46⟩ [], topF]⟩
def frC (p : Program) (a it : Nat) : Code := match (bM p).drop a with | (PySem.Stmt.For t _ b o _) :: _ => .forLoop t (.ref it) b o (envM p) | _ => cdM p
def frT (den : Code → Sem Fin) (p : Program) (a it : Nat) (q0 q : Pos) (k : Result → Sem Fin) : Thread := ⟨den (frC p a it), frC p a it, q, [.ret k none false [] (cdM p) q0 [], topF]⟩
def frK : Option (SharedT × Thread) → Result → Sem Fin
  | some (_, ⟨_, _, _, .ret k _ _ _ _ _ _ :: _⟩) => k
  | _ => fun _ => .pure (.done .next)
def bt (o : Nat → Option Obj) : Nat → Nat → Nat → BT
  | 0, _, _ => .nil
  | n + 1, a, b => match o b with
    | some v => .node v (bt o n (2 * a) (a + b)) (bt o n (2 * a) (2 * a + b))
    | none => .nil
def sh (l : List Obj) (n k : Nat) (os : OsState) : SharedT := ⟨bt (fun i => l[i]?) 8 1 0, n, {}, #[], {}, k, os⟩
def nm (P : Params) (k : Str) (t : Nat) (v : Value) : DictEntry := ⟨PyData.keyHash P k, .str k t, v⟩
def gl (P : Params) (v : Value) (es : List DictEntry) (n : Nat) : Obj := match boot_o_3 P with | ⟨c, d, .dict l _, s⟩ => ⟨c, d, .dict (nm P ⟨#[95, 95, 110, 97, 109, 101, 95, 95]⟩ 165 v :: (l.toList.drop 1 ++ es)).toArray n, s⟩ | o => o
def cFile (t : Nat) : Value := .str ⟨#[47, 99, 108, 97, 105, 109, 47, 99, 117, 116, 46, 112, 121]⟩ t
def o11 : Obj := { cls := .type "tuple", data := .seq #[] 0 }
def o13 : Obj := { cls := .type "code", data := .fields #[.str ⟨#[60, 109, 111, 100, 117, 108, 101, 62]⟩ 182, .str ⟨#[60, 109, 111, 100, 117, 108, 101, 62]⟩ 183, cFile 184, .int 1 0, .int 0 0, .int 0 0, .int 0 0, .int 0 0, .ref 11, .bool false, .int 181 0, .ref 12, .none, .none, .none, .none, .int 185 0, .int 1 0, cFile 186] }
def o14 : Obj := { cls := .type "frame", data := .plain, slots := #[some (.ref 13), some (.ref 3), some (.ref 3), none, some (.str ⟨#[95, 95, 109, 97, 105, 110, 95, 95]⟩ 164), none, some (.ref 0)] }
def ob (P : Params) (x3 x12 : Obj) : List Obj := [boot_o_0 P, boot_o_1 P, boot_o_2 P, x3, boot_o_4 P, boot_o_5 P, boot_o_6 P, boot_o_7 P, boot_o_8 P, boot_o_9 P, boot_o_10 P, o11, x12, o13, o14]
def o12 : Obj := { cls := .none, data := .fields #[] }
def vMain : Value := .str ⟨#[95, 95, 109, 97, 105, 110, 95, 95]⟩ 164
def vQuo : Value := .str ⟨#[99, 112, 121, 51, 49, 51, 46, 101, 109, 97, 105, 108, 46, 113, 117, 111, 112, 114, 105, 109, 105, 109, 101]⟩ 1229
def g1 (P : Params) : List DictEntry := [nm P ⟨#[67, 82, 76, 70]⟩ 188 (.str ⟨#[13, 10]⟩ 187), nm P ⟨#[78, 76]⟩ 190 (.str ⟨#[10]⟩ 189)]
def g2 (P : Params) : List DictEntry := g1 P ++ [nm P ⟨#[95, 81, 85, 79, 80, 82, 73, 95, 77, 65, 80]⟩ 1218 (.ref 17)]
def g9 (P : Params) : List DictEntry := g2 P ++ [nm P ⟨#[95, 81, 85, 79, 80, 82, 73, 95, 72, 69, 65, 68, 69, 82, 95, 77, 65, 80]⟩ 1219 (.ref 22), nm P ⟨#[95, 81, 85, 79, 80, 82, 73, 95, 66, 79, 68, 89, 95, 77, 65, 80]⟩ 1220 (.ref 24), nm P ⟨#[97, 115, 99, 105, 105, 95, 108, 111, 119, 101, 114, 99, 97, 115, 101]⟩ 1222 (.str ⟨#[97, 98, 99, 100, 101, 102, 103, 104, 105, 106, 107, 108, 109, 110, 111, 112, 113, 114, 115, 116, 117, 118, 119, 120, 121, 122]⟩ 1221), nm P ⟨#[97, 115, 99, 105, 105, 95, 117, 112, 112, 101, 114, 99, 97, 115, 101]⟩ 1224 (.str ⟨#[65, 66, 67, 68, 69, 70, 71, 72, 73, 74, 75, 76, 77, 78, 79, 80, 81, 82, 83, 84, 85, 86, 87, 88, 89, 90]⟩ 1223), nm P ⟨#[97, 115, 99, 105, 105, 95, 108, 101, 116, 116, 101, 114, 115]⟩ 1226 (.str ⟨#[97, 98, 99, 100, 101, 102, 103, 104, 105, 106, 107, 108, 109, 110, 111, 112, 113, 114, 115, 116, 117, 118, 119, 120, 121, 122, 65, 66, 67, 68, 69, 70, 71, 72, 73, 74, 75, 76, 77, 78, 79, 80, 81, 82, 83, 84, 85, 86, 87, 88, 89, 90]⟩ 1225), nm P ⟨#[100, 105, 103, 105, 116, 115]⟩ 1228 (.str ⟨#[48, 49, 50, 51, 52, 53, 54, 55, 56, 57]⟩ 1227)]
def gc (P : Params) (b t : Nat) : List DictEntry := g9 P ++ [nm P ⟨#[99]⟩ 1239 (.int (b : Nat) t)]
def hx (n : Nat) : Nat := if n < 10 then 48 + n else 55 + n
def hexV (i : Nat) : Value := .str ⟨#[61, hx (i / 16), hx (i % 16)]⟩ (197 + 4 * i)
def hexL : Nat → List Value
  | 0 => []
  | n + 1 => hexL n ++ [hexV n]
def lst (l : List Value) (n : Nat) : Obj := { cls := .type "list", data := .seq l.toArray n }
def rngO : Obj := { cls := .type "range", data := .fields #[.int 0 192, .int 256 191, .int 1 193] }
def rngI (j : Nat) : Obj := { cls := .type "range_iterator", data := .fields #[.int (j : Nat) 0, .int (256 - j : Nat) 0, .int 1 0] }
def stI (a : Nat) : Obj := { cls := .type "StopIteration", data := .fields #[.ref a, .none, .none, .none, .bool false, .none] }
def slO : Obj := { cls := .type "slice", data := .fields #[.none, .none, .none] }
def ctD (P : Params) : Nat → Obj
  | 0 => { cls := .type "dict", data := .dict #[] 0 }
  | i + 1 => { cls := .type "dict", data := .dict #[nm P ⟨#[99]⟩ 195 (.int (i : Nat) (194 + 4 * i))] 1 }
def SA (P : Params) (os : OsState) : SharedT := sh (ob P (boot_o_3 P) o12) 15 187 os
def S1 (P : Params) (os : OsState) : SharedT := sh (ob P (gl P vMain (g1 P) 11) o12) 15 191 os
def ctX (P : Params) (os : OsState) (j : Nat) : SharedT := sh (ob P (gl P vMain (g1 P) 11) o12 ++ [rngO, rngI j, lst (hexL j) j, ctD P j]) 19 (194 + 4 * j) os
def oc (P : Params) (x3 x12 : Obj) : List Obj := ob P x3 x12 ++ [rngO, rngI 256, lst (hexL 256) 256, { cls := .type "dict", data := .dict #[] 2 }, o11, stI 19]
def S2 (P : Params) (os : OsState) : SharedT := sh (oc P (gl P vMain (g2 P) 12) o12) 21 1219 os
def oq (P : Params) (x3 x12 a b : Obj) : List Obj := oc P x3 x12 ++ [slO, a, slO, b]
def S9 (P : Params) (os : OsState) : SharedT := sh (oq P (gl P vQuo (g9 P) 18) o12 (lst (hexL 256) 0) (lst (hexL 256) 0)) 25 1231 os
def byt (l : List Nat) (t : Nat) : Value := .bytes (l.map UInt8.ofNat).toArray t
def bI (l : List Nat) (t j : Nat) : Obj := { cls := .type "bytes_iterator", data := .fields #[byt l t, .int (j : Nat) 0] }
def bE (j : Nat) : Obj := { cls := .type "bytes_iterator", data := .fields #[.none, .int (j : Nat) 0] }
def sets (b : List Nat) (t : Nat) (l : List Value) : Nat → List Value
  | 0 => l
  | j + 1 => (sets b t l j).set (b.getD j 0) (.str ⟨#[b.getD j 0]⟩ (t + 3 * j))
def bD : List Nat := [45, 33, 42, 43, 47] ++ List.range' 97 26 ++ List.range' 65 26 ++ List.range' 48 10
def bF : List Nat := List.range' 32 29 ++ List.range' 62 65 ++ [9]
def lD (j : Nat) : List Value := sets bD 1240 (hexL 256) j
def lH : List Value := (lD 67).set 32 (.str ⟨#[95]⟩ 1439)
def lF (j : Nat) : List Value := sets bF 1445 (hexL 256) j
def frX (P : Params) (os : OsState) (j : Nat) : SharedT := sh (oq P (gl P vQuo (gc P (bD.getD (j - 1) 0) (1235 + 3 * j)) 19) o12 (lst (lD j) 0) (lst (hexL 256) 0) ++ [bI bD 1237 j]) 26 (1238 + 3 * j) os
def S10 (P : Params) (os : OsState) : SharedT := sh (oq P (gl P vQuo (gc P 57 1436) 19) o12 (lst (lD 67) 0) (lst (hexL 256) 0) ++ [bE 67, o11, stI 26]) 28 1439 os
def S11 (P : Params) (os : OsState) : SharedT := sh (oq P (gl P vQuo (gc P 57 1436) 19) o12 (lst lH 0) (lst (hexL 256) 0) ++ [bE 67, o11, stI 26]) 28 1442 os
def fsX (P : Params) (os : OsState) (j : Nat) : SharedT := sh (oq P (gl P vQuo (gc P (bF.getD (j - 1) 0) (1440 + 3 * j)) 19) o12 (lst lH 0) (lst (lF j) 0) ++ [bE 67, o11, stI 26, bI bF 1442 j]) 29 (1443 + 3 * j) os
def S12 (P : Params) (os : OsState) : SharedT := sh (oq P (gl P vQuo (gc P 9 1725) 19) o12 (lst lH 0) (lst (lF 95) 0) ++ [bE 67, o11, stI 26, bE 95, o11, stI 29]) 31 1728 os
theorem te_go : @segGoT = @PySem.W.Fast.tw10295753902157049106 := PySem.W.Fast.te10295753902157049106
theorem te_run : @segRunT = @PySem.W.Fast.tw10110043849684766642 := PySem.W.Fast.te10110043849684766642
theorem te_tb : treeTable = PySem.W.Fast.tw14364793385576792824 := PySem.W.Fast.te14364793385576792824
theorem te_den : @denote = @PySem.W.Fast.tw11892475500146522536 := PySem.W.Fast.te11892475500146522536
theorem te_p : pW = PySem.W.Fast.tw7818704963930677571 := PySem.W.Fast.te7818704963930677571
theorem te_top : @topGo = @PySem.W.Fast.tw15667345088766844465 := PySem.W.Fast.te15667345088766844465
theorem te_tr : @topRun = @PySem.W.Fast.tw14082659384304107361 := PySem.W.Fast.te14082659384304107361
theorem te_sr : @segRun = @PySem.W.Fast.tw14374325043358763698 := PySem.W.Fast.te14374325043358763698
end
end H
end Mine
end
section
open PySem PySem.W PyProof.Rows
set_option maxRecDepth 100000
namespace Mine
namespace H
noncomputable section
theorem pA (w : World) (os : OsState) : segRunT treeTable pW w 11 (some (.ref 6)) 1 19 (SA w.params os) (pcs pW 0 2 ⟨0, 0, 0, 0⟩) = some (PySem.Flow.next, S1 w.params os, cdM pW, ⟨2, 0, 2, 2⟩) := by
  rw [te_run, te_tb, te_p]
  kernel_rfl
theorem pC (w : World) (os : OsState) : segRunT treeTable pW w 11 (some (.ref 6)) 1 109 (S2 w.params os) (pcs pW 3 7 ⟨3, 0, 3, 11⟩) = some (PySem.Flow.next, S9 w.params os, cdM pW, ⟨10, 0, 10, 8⟩) := by
  rw [te_run, te_tb, te_p]
  kernel_rfl
theorem pE (w : World) (os : OsState) : segRunT treeTable pW w 11 (some (.ref 6)) 1 25 (S10 w.params os) (pcs pW 11 1 ⟨11, 9, 11, 74⟩) = some (PySem.Flow.next, S11 w.params os, cdM pW, ⟨13, 0, 13, 28⟩) := by
  rw [te_run, te_tb, te_p]
  kernel_rfl
theorem cE_false_false (w : World) (os : OsState) : segGoT treeTable pW ((w.withFollow "comprehension-iter-twice" false).withFollow "special-get-raises" false) 11 (some (.ref 6)) 1 52 (S1 ((w.withFollow "comprehension-iter-twice" false).withFollow "special-get-raises" false).params os) (pcs pW 2 1 ⟨2, 0, 2, 2⟩) = some (ctX ((w.withFollow "comprehension-iter-twice" false).withFollow "special-get-raises" false).params os 0, ctT (denote treeTable) pW ⟨3, 36, 3, 46⟩ (frK (segGoT treeTable pW ((w.withFollow "comprehension-iter-twice" false).withFollow "special-get-raises" false) 11 (some (.ref 6)) 1 52 (S1 ((w.withFollow "comprehension-iter-twice" false).withFollow "special-get-raises" false).params os) (pcs pW 2 1 ⟨2, 0, 2, 2⟩)))) := by
  rw [te_go, te_den, te_tb, te_p]
  kernel_rfl
theorem cX_false_false (w : World) (os : OsState) : segRunT treeTable pW ((w.withFollow "comprehension-iter-twice" false).withFollow "special-get-raises" false) 11 (some (.ref 6)) 1 28 (ctX ((w.withFollow "comprehension-iter-twice" false).withFollow "special-get-raises" false).params os 256) (ctT (denote treeTable) pW ⟨3, 15, 3, 26⟩ (frK (segGoT treeTable pW ((w.withFollow "comprehension-iter-twice" false).withFollow "special-get-raises" false) 11 (some (.ref 6)) 1 52 (S1 ((w.withFollow "comprehension-iter-twice" false).withFollow "special-get-raises" false).params os) (pcs pW 2 1 ⟨2, 0, 2, 2⟩)))) = some (PySem.Flow.next, S2 ((w.withFollow "comprehension-iter-twice" false).withFollow "special-get-raises" false).params os, cdM pW, ⟨3, 0, 3, 11⟩) := by
  rw [te_run, te_go, te_den, te_tb, te_p]
  kernel_rfl
theorem cE_false_true (w : World) (os : OsState) : segGoT treeTable pW ((w.withFollow "comprehension-iter-twice" false).withFollow "special-get-raises" true) 11 (some (.ref 6)) 1 52 (S1 ((w.withFollow "comprehension-iter-twice" false).withFollow "special-get-raises" true).params os) (pcs pW 2 1 ⟨2, 0, 2, 2⟩) = some (ctX ((w.withFollow "comprehension-iter-twice" false).withFollow "special-get-raises" true).params os 0, ctT (denote treeTable) pW ⟨3, 36, 3, 46⟩ (frK (segGoT treeTable pW ((w.withFollow "comprehension-iter-twice" false).withFollow "special-get-raises" true) 11 (some (.ref 6)) 1 52 (S1 ((w.withFollow "comprehension-iter-twice" false).withFollow "special-get-raises" true).params os) (pcs pW 2 1 ⟨2, 0, 2, 2⟩)))) := by
  rw [te_go, te_den, te_tb, te_p]
  kernel_rfl
theorem cX_false_true (w : World) (os : OsState) : segRunT treeTable pW ((w.withFollow "comprehension-iter-twice" false).withFollow "special-get-raises" true) 11 (some (.ref 6)) 1 28 (ctX ((w.withFollow "comprehension-iter-twice" false).withFollow "special-get-raises" true).params os 256) (ctT (denote treeTable) pW ⟨3, 15, 3, 26⟩ (frK (segGoT treeTable pW ((w.withFollow "comprehension-iter-twice" false).withFollow "special-get-raises" true) 11 (some (.ref 6)) 1 52 (S1 ((w.withFollow "comprehension-iter-twice" false).withFollow "special-get-raises" true).params os) (pcs pW 2 1 ⟨2, 0, 2, 2⟩)))) = some (PySem.Flow.next, S2 ((w.withFollow "comprehension-iter-twice" false).withFollow "special-get-raises" true).params os, cdM pW, ⟨3, 0, 3, 11⟩) := by
  rw [te_run, te_go, te_den, te_tb, te_p]
  kernel_rfl
theorem cE_true_false (w : World) (os : OsState) : segGoT treeTable pW ((w.withFollow "comprehension-iter-twice" true).withFollow "special-get-raises" false) 11 (some (.ref 6)) 1 42 (S1 ((w.withFollow "comprehension-iter-twice" true).withFollow "special-get-raises" false).params os) (pcs pW 2 1 ⟨2, 0, 2, 2⟩) = some (ctX ((w.withFollow "comprehension-iter-twice" true).withFollow "special-get-raises" false).params os 0, ctT (denote treeTable) pW ⟨3, 36, 3, 46⟩ (frK (segGoT treeTable pW ((w.withFollow "comprehension-iter-twice" true).withFollow "special-get-raises" false) 11 (some (.ref 6)) 1 42 (S1 ((w.withFollow "comprehension-iter-twice" true).withFollow "special-get-raises" false).params os) (pcs pW 2 1 ⟨2, 0, 2, 2⟩)))) := by
  rw [te_go, te_den, te_tb, te_p]
  kernel_rfl
theorem cX_true_false (w : World) (os : OsState) : segRunT treeTable pW ((w.withFollow "comprehension-iter-twice" true).withFollow "special-get-raises" false) 11 (some (.ref 6)) 1 28 (ctX ((w.withFollow "comprehension-iter-twice" true).withFollow "special-get-raises" false).params os 256) (ctT (denote treeTable) pW ⟨3, 15, 3, 26⟩ (frK (segGoT treeTable pW ((w.withFollow "comprehension-iter-twice" true).withFollow "special-get-raises" false) 11 (some (.ref 6)) 1 42 (S1 ((w.withFollow "comprehension-iter-twice" true).withFollow "special-get-raises" false).params os) (pcs pW 2 1 ⟨2, 0, 2, 2⟩)))) = some (PySem.Flow.next, S2 ((w.withFollow "comprehension-iter-twice" true).withFollow "special-get-raises" false).params os, cdM pW, ⟨3, 0, 3, 11⟩) := by
  rw [te_run, te_go, te_den, te_tb, te_p]
  kernel_rfl
theorem cE_true_true (w : World) (os : OsState) : segGoT treeTable pW ((w.withFollow "comprehension-iter-twice" true).withFollow "special-get-raises" true) 11 (some (.ref 6)) 1 42 (S1 ((w.withFollow "comprehension-iter-twice" true).withFollow "special-get-raises" true).params os) (pcs pW 2 1 ⟨2, 0, 2, 2⟩) = some (ctX ((w.withFollow "comprehension-iter-twice" true).withFollow "special-get-raises" true).params os 0, ctT (denote treeTable) pW ⟨3, 36, 3, 46⟩ (frK (segGoT treeTable pW ((w.withFollow "comprehension-iter-twice" true).withFollow "special-get-raises" true) 11 (some (.ref 6)) 1 42 (S1 ((w.withFollow "comprehension-iter-twice" true).withFollow "special-get-raises" true).params os) (pcs pW 2 1 ⟨2, 0, 2, 2⟩)))) := by
  rw [te_go, te_den, te_tb, te_p]
  kernel_rfl
theorem cX_true_true (w : World) (os : OsState) : segRunT treeTable pW ((w.withFollow "comprehension-iter-twice" true).withFollow "special-get-raises" true) 11 (some (.ref 6)) 1 28 (ctX ((w.withFollow "comprehension-iter-twice" true).withFollow "special-get-raises" true).params os 256) (ctT (denote treeTable) pW ⟨3, 15, 3, 26⟩ (frK (segGoT treeTable pW ((w.withFollow "comprehension-iter-twice" true).withFollow "special-get-raises" true) 11 (some (.ref 6)) 1 42 (S1 ((w.withFollow "comprehension-iter-twice" true).withFollow "special-get-raises" true).params os) (pcs pW 2 1 ⟨2, 0, 2, 2⟩)))) = some (PySem.Flow.next, S2 ((w.withFollow "comprehension-iter-twice" true).withFollow "special-get-raises" true).params os, cdM pW, ⟨3, 0, 3, 11⟩) := by
  rw [te_run, te_go, te_den, te_tb, te_p]
  kernel_rfl
theorem cT0_false (w : World) (os : OsState) (k : Result → Sem Fin) : segGoT treeTable pW (w.withFollow "special-get-raises" false) 11 (some (.ref 6)) 1 1184 (ctX (w.withFollow "special-get-raises" false).params os 0) (ctT (denote treeTable) pW ⟨3, 36, 3, 46⟩ k) = some (ctX (w.withFollow "special-get-raises" false).params os 32, ctT (denote treeTable) pW ⟨3, 15, 3, 26⟩ k) := by
  rw [te_go, te_den, te_tb, te_p]
  kernel_rfl
theorem cT32_false (w : World) (os : OsState) (k : Result → Sem Fin) : segGoT treeTable pW (w.withFollow "special-get-raises" false) 11 (some (.ref 6)) 1 1184 (ctX (w.withFollow "special-get-raises" false).params os 32) (ctT (denote treeTable) pW ⟨3, 15, 3, 26⟩ k) = some (ctX (w.withFollow "special-get-raises" false).params os 64, ctT (denote treeTable) pW ⟨3, 15, 3, 26⟩ k) := by
  rw [te_go, te_den, te_tb, te_p]
  kernel_rfl
theorem cT64_false (w : World) (os : OsState) (k : Result → Sem Fin) : segGoT treeTable pW (w.withFollow "special-get-raises" false) 11 (some (.ref 6)) 1 1184 (ctX (w.withFollow "special-get-raises" false).params os 64) (ctT (denote treeTable) pW ⟨3, 15, 3, 26⟩ k) = some (ctX (w.withFollow "special-get-raises" false).params os 96, ctT (denote treeTable) pW ⟨3, 15, 3, 26⟩ k) := by
  rw [te_go, te_den, te_tb, te_p]
  kernel_rfl
theorem cT96_false (w : World) (os : OsState) (k : Result → Sem Fin) : segGoT treeTable pW (w.withFollow "special-get-raises" false) 11 (some (.ref 6)) 1 1184 (ctX (w.withFollow "special-get-raises" false).params os 96) (ctT (denote treeTable) pW ⟨3, 15, 3, 26⟩ k) = some (ctX (w.withFollow "special-get-raises" false).params os 128, ctT (denote treeTable) pW ⟨3, 15, 3, 26⟩ k) := by
  rw [te_go, te_den, te_tb, te_p]
  kernel_rfl
theorem cT128_false (w : World) (os : OsState) (k : Result → Sem Fin) : segGoT treeTable pW (w.withFollow "special-get-raises" false) 11 (some (.ref 6)) 1 1184 (ctX (w.withFollow "special-get-raises" false).params os 128) (ctT (denote treeTable) pW ⟨3, 15, 3, 26⟩ k) = some (ctX (w.withFollow "special-get-raises" false).params os 160, ctT (denote treeTable) pW ⟨3, 15, 3, 26⟩ k) := by
  rw [te_go, te_den, te_tb, te_p]
  kernel_rfl
theorem cT160_false (w : World) (os : OsState) (k : Result → Sem Fin) : segGoT treeTable pW (w.withFollow "special-get-raises" false) 11 (some (.ref 6)) 1 1184 (ctX (w.withFollow "special-get-raises" false).params os 160) (ctT (denote treeTable) pW ⟨3, 15, 3, 26⟩ k) = some (ctX (w.withFollow "special-get-raises" false).params os 192, ctT (denote treeTable) pW ⟨3, 15, 3, 26⟩ k) := by
  rw [te_go, te_den, te_tb, te_p]
  kernel_rfl
theorem cT192_false (w : World) (os : OsState) (k : Result → Sem Fin) : segGoT treeTable pW (w.withFollow "special-get-raises" false) 11 (some (.ref 6)) 1 1184 (ctX (w.withFollow "special-get-raises" false).params os 192) (ctT (denote treeTable) pW ⟨3, 15, 3, 26⟩ k) = some (ctX (w.withFollow "special-get-raises" false).params os 224, ctT (denote treeTable) pW ⟨3, 15, 3, 26⟩ k) := by
  rw [te_go, te_den, te_tb, te_p]
  kernel_rfl
theorem cT224_false (w : World) (os : OsState) (k : Result → Sem Fin) : segGoT treeTable pW (w.withFollow "special-get-raises" false) 11 (some (.ref 6)) 1 1184 (ctX (w.withFollow "special-get-raises" false).params os 224) (ctT (denote treeTable) pW ⟨3, 15, 3, 26⟩ k) = some (ctX (w.withFollow "special-get-raises" false).params os 256, ctT (denote treeTable) pW ⟨3, 15, 3, 26⟩ k) := by
  rw [te_go, te_den, te_tb, te_p]
  kernel_rfl
theorem cT0_true (w : World) (os : OsState) (k : Result → Sem Fin) : segGoT treeTable pW (w.withFollow "special-get-raises" true) 11 (some (.ref 6)) 1 1184 (ctX (w.withFollow "special-get-raises" true).params os 0) (ctT (denote treeTable) pW ⟨3, 36, 3, 46⟩ k) = some (ctX (w.withFollow "special-get-raises" true).params os 32, ctT (denote treeTable) pW ⟨3, 15, 3, 26⟩ k) := by
  rw [te_go, te_den, te_tb, te_p]
  kernel_rfl
theorem cT32_true (w : World) (os : OsState) (k : Result → Sem Fin) : segGoT treeTable pW (w.withFollow "special-get-raises" true) 11 (some (.ref 6)) 1 1184 (ctX (w.withFollow "special-get-raises" true).params os 32) (ctT (denote treeTable) pW ⟨3, 15, 3, 26⟩ k) = some (ctX (w.withFollow "special-get-raises" true).params os 64, ctT (denote treeTable) pW ⟨3, 15, 3, 26⟩ k) := by
  rw [te_go, te_den, te_tb, te_p]
  kernel_rfl
theorem cT64_true (w : World) (os : OsState) (k : Result → Sem Fin) : segGoT treeTable pW (w.withFollow "special-get-raises" true) 11 (some (.ref 6)) 1 1184 (ctX (w.withFollow "special-get-raises" true).params os 64) (ctT (denote treeTable) pW ⟨3, 15, 3, 26⟩ k) = some (ctX (w.withFollow "special-get-raises" true).params os 96, ctT (denote treeTable) pW ⟨3, 15, 3, 26⟩ k) := by
  rw [te_go, te_den, te_tb, te_p]
  kernel_rfl
theorem cT96_true (w : World) (os : OsState) (k : Result → Sem Fin) : segGoT treeTable pW (w.withFollow "special-get-raises" true) 11 (some (.ref 6)) 1 1184 (ctX (w.withFollow "special-get-raises" true).params os 96) (ctT (denote treeTable) pW ⟨3, 15, 3, 26⟩ k) = some (ctX (w.withFollow "special-get-raises" true).params os 128, ctT (denote treeTable) pW ⟨3, 15, 3, 26⟩ k) := by
  rw [te_go, te_den, te_tb, te_p]
  kernel_rfl
theorem cT128_true (w : World) (os : OsState) (k : Result → Sem Fin) : segGoT treeTable pW (w.withFollow "special-get-raises" true) 11 (some (.ref 6)) 1 1184 (ctX (w.withFollow "special-get-raises" true).params os 128) (ctT (denote treeTable) pW ⟨3, 15, 3, 26⟩ k) = some (ctX (w.withFollow "special-get-raises" true).params os 160, ctT (denote treeTable) pW ⟨3, 15, 3, 26⟩ k) := by
  rw [te_go, te_den, te_tb, te_p]
  kernel_rfl
theorem cT160_true (w : World) (os : OsState) (k : Result → Sem Fin) : segGoT treeTable pW (w.withFollow "special-get-raises" true) 11 (some (.ref 6)) 1 1184 (ctX (w.withFollow "special-get-raises" true).params os 160) (ctT (denote treeTable) pW ⟨3, 15, 3, 26⟩ k) = some (ctX (w.withFollow "special-get-raises" true).params os 192, ctT (denote treeTable) pW ⟨3, 15, 3, 26⟩ k) := by
  rw [te_go, te_den, te_tb, te_p]
  kernel_rfl
theorem cT192_true (w : World) (os : OsState) (k : Result → Sem Fin) : segGoT treeTable pW (w.withFollow "special-get-raises" true) 11 (some (.ref 6)) 1 1184 (ctX (w.withFollow "special-get-raises" true).params os 192) (ctT (denote treeTable) pW ⟨3, 15, 3, 26⟩ k) = some (ctX (w.withFollow "special-get-raises" true).params os 224, ctT (denote treeTable) pW ⟨3, 15, 3, 26⟩ k) := by
  rw [te_go, te_den, te_tb, te_p]
  kernel_rfl
theorem cT224_true (w : World) (os : OsState) (k : Result → Sem Fin) : segGoT treeTable pW (w.withFollow "special-get-raises" true) 11 (some (.ref 6)) 1 1184 (ctX (w.withFollow "special-get-raises" true).params os 224) (ctT (denote treeTable) pW ⟨3, 15, 3, 26⟩ k) = some (ctX (w.withFollow "special-get-raises" true).params os 256, ctT (denote treeTable) pW ⟨3, 15, 3, 26⟩ k) := by
  rw [te_go, te_den, te_tb, te_p]
  kernel_rfl
theorem dE_false (w : World) (os : OsState) : segGoT treeTable pW (w.withFollow "special-get-raises" false) 11 (some (.ref 6)) 1 89 (S9 (w.withFollow "special-get-raises" false).params os) (pcs pW 10 1 ⟨10, 0, 10, 8⟩) = some (frX (w.withFollow "special-get-raises" false).params os 1, (frT (denote treeTable) pW 10 25 ⟨11, 9, 11, 74⟩ ⟨12, 4, 12, 25⟩ (frK (segGoT treeTable pW (w.withFollow "special-get-raises" false) 11 (some (.ref 6)) 1 89 (S9 (w.withFollow "special-get-raises" false).params os) (pcs pW 10 1 ⟨10, 0, 10, 8⟩))))) := by
  rw [te_go, te_den, te_tb, te_p]
  kernel_rfl
theorem dX_false (w : World) (os : OsState) : segRunT treeTable pW (w.withFollow "special-get-raises" false) 11 (some (.ref 6)) 1 18 (frX (w.withFollow "special-get-raises" false).params os 67) (frT (denote treeTable) pW 10 25 ⟨11, 9, 11, 74⟩ ⟨12, 4, 12, 25⟩ (frK (segGoT treeTable pW (w.withFollow "special-get-raises" false) 11 (some (.ref 6)) 1 89 (S9 (w.withFollow "special-get-raises" false).params os) (pcs pW 10 1 ⟨10, 0, 10, 8⟩)))) = some (PySem.Flow.next, S10 (w.withFollow "special-get-raises" false).params os, cdM pW, ⟨11, 9, 11, 74⟩) := by
  rw [te_run, te_go, te_den, te_tb, te_p]
  kernel_rfl
theorem dT1_false (w : World) (os : OsState) (k : Result → Sem Fin) : segGoT treeTable pW (w.withFollow "special-get-raises" false) 11 (some (.ref 6)) 1 1080 (frX (w.withFollow "special-get-raises" false).params os 1) (frT (denote treeTable) pW 10 25 ⟨11, 9, 11, 74⟩ ⟨12, 4, 12, 25⟩ k) = some (frX (w.withFollow "special-get-raises" false).params os 25, (frT (denote treeTable) pW 10 25 ⟨11, 9, 11, 74⟩ ⟨12, 4, 12, 25⟩ k)) := by
  rw [te_go, te_den, te_tb, te_p]
  kernel_rfl
theorem dT25_false (w : World) (os : OsState) (k : Result → Sem Fin) : segGoT treeTable pW (w.withFollow "special-get-raises" false) 11 (some (.ref 6)) 1 1080 (frX (w.withFollow "special-get-raises" false).params os 25) (frT (denote treeTable) pW 10 25 ⟨11, 9, 11, 74⟩ ⟨12, 4, 12, 25⟩ k) = some (frX (w.withFollow "special-get-raises" false).params os 49, (frT (denote treeTable) pW 10 25 ⟨11, 9, 11, 74⟩ ⟨12, 4, 12, 25⟩ k)) := by
  rw [te_go, te_den, te_tb, te_p]
  kernel_rfl
theorem dT49_false (w : World) (os : OsState) (k : Result → Sem Fin) : segGoT treeTable pW (w.withFollow "special-get-raises" false) 11 (some (.ref 6)) 1 810 (frX (w.withFollow "special-get-raises" false).params os 49) (frT (denote treeTable) pW 10 25 ⟨11, 9, 11, 74⟩ ⟨12, 4, 12, 25⟩ k) = some (frX (w.withFollow "special-get-raises" false).params os 67, (frT (denote treeTable) pW 10 25 ⟨11, 9, 11, 74⟩ ⟨12, 4, 12, 25⟩ k)) := by
  rw [te_go, te_den, te_tb, te_p]
  kernel_rfl
theorem dE_true (w : World) (os : OsState) : segGoT treeTable pW (w.withFollow "special-get-raises" true) 11 (some (.ref 6)) 1 89 (S9 (w.withFollow "special-get-raises" true).params os) (pcs pW 10 1 ⟨10, 0, 10, 8⟩) = some (frX (w.withFollow "special-get-raises" true).params os 1, (frT (denote treeTable) pW 10 25 ⟨11, 9, 11, 74⟩ ⟨12, 4, 12, 25⟩ (frK (segGoT treeTable pW (w.withFollow "special-get-raises" true) 11 (some (.ref 6)) 1 89 (S9 (w.withFollow "special-get-raises" true).params os) (pcs pW 10 1 ⟨10, 0, 10, 8⟩))))) := by
  rw [te_go, te_den, te_tb, te_p]
  kernel_rfl
theorem dX_true (w : World) (os : OsState) : segRunT treeTable pW (w.withFollow "special-get-raises" true) 11 (some (.ref 6)) 1 18 (frX (w.withFollow "special-get-raises" true).params os 67) (frT (denote treeTable) pW 10 25 ⟨11, 9, 11, 74⟩ ⟨12, 4, 12, 25⟩ (frK (segGoT treeTable pW (w.withFollow "special-get-raises" true) 11 (some (.ref 6)) 1 89 (S9 (w.withFollow "special-get-raises" true).params os) (pcs pW 10 1 ⟨10, 0, 10, 8⟩)))) = some (PySem.Flow.next, S10 (w.withFollow "special-get-raises" true).params os, cdM pW, ⟨11, 9, 11, 74⟩) := by
  rw [te_run, te_go, te_den, te_tb, te_p]
  kernel_rfl
theorem dT1_true (w : World) (os : OsState) (k : Result → Sem Fin) : segGoT treeTable pW (w.withFollow "special-get-raises" true) 11 (some (.ref 6)) 1 1080 (frX (w.withFollow "special-get-raises" true).params os 1) (frT (denote treeTable) pW 10 25 ⟨11, 9, 11, 74⟩ ⟨12, 4, 12, 25⟩ k) = some (frX (w.withFollow "special-get-raises" true).params os 25, (frT (denote treeTable) pW 10 25 ⟨11, 9, 11, 74⟩ ⟨12, 4, 12, 25⟩ k)) := by
  rw [te_go, te_den, te_tb, te_p]
  kernel_rfl
theorem dT25_true (w : World) (os : OsState) (k : Result → Sem Fin) : segGoT treeTable pW (w.withFollow "special-get-raises" true) 11 (some (.ref 6)) 1 1080 (frX (w.withFollow "special-get-raises" true).params os 25) (frT (denote treeTable) pW 10 25 ⟨11, 9, 11, 74⟩ ⟨12, 4, 12, 25⟩ k) = some (frX (w.withFollow "special-get-raises" true).params os 49, (frT (denote treeTable) pW 10 25 ⟨11, 9, 11, 74⟩ ⟨12, 4, 12, 25⟩ k)) := by
  rw [te_go, te_den, te_tb, te_p]
  kernel_rfl
theorem dT49_true (w : World) (os : OsState) (k : Result → Sem Fin) : segGoT treeTable pW (w.withFollow "special-get-raises" true) 11 (some (.ref 6)) 1 810 (frX (w.withFollow "special-get-raises" true).params os 49) (frT (denote treeTable) pW 10 25 ⟨11, 9, 11, 74⟩ ⟨12, 4, 12, 25⟩ k) = some (frX (w.withFollow "special-get-raises" true).params os 67, (frT (denote treeTable) pW 10 25 ⟨11, 9, 11, 74⟩ ⟨12, 4, 12, 25⟩ k)) := by
  rw [te_go, te_den, te_tb, te_p]
  kernel_rfl
theorem fE_false (w : World) (os : OsState) : segGoT treeTable pW (w.withFollow "special-get-raises" false) 11 (some (.ref 6)) 1 55 (S11 (w.withFollow "special-get-raises" false).params os) (pcs pW 12 1 ⟨13, 0, 13, 28⟩) = some (fsX (w.withFollow "special-get-raises" false).params os 1, (frT (denote treeTable) pW 12 28 ⟨14, 9, 14, 110⟩ ⟨15, 4, 15, 23⟩ (frK (segGoT treeTable pW (w.withFollow "special-get-raises" false) 11 (some (.ref 6)) 1 55 (S11 (w.withFollow "special-get-raises" false).params os) (pcs pW 12 1 ⟨13, 0, 13, 28⟩))))) := by
  rw [te_go, te_den, te_tb, te_p]
  kernel_rfl
theorem fX_false (w : World) (os : OsState) : segRunT treeTable pW (w.withFollow "special-get-raises" false) 11 (some (.ref 6)) 1 18 (fsX (w.withFollow "special-get-raises" false).params os 95) (frT (denote treeTable) pW 12 28 ⟨14, 9, 14, 110⟩ ⟨15, 4, 15, 23⟩ (frK (segGoT treeTable pW (w.withFollow "special-get-raises" false) 11 (some (.ref 6)) 1 55 (S11 (w.withFollow "special-get-raises" false).params os) (pcs pW 12 1 ⟨13, 0, 13, 28⟩)))) = some (PySem.Flow.next, S12 (w.withFollow "special-get-raises" false).params os, cdM pW, ⟨14, 9, 14, 110⟩) := by
  rw [te_run, te_go, te_den, te_tb, te_p]
  kernel_rfl
theorem fT1_false (w : World) (os : OsState) (k : Result → Sem Fin) : segGoT treeTable pW (w.withFollow "special-get-raises" false) 11 (some (.ref 6)) 1 1080 (fsX (w.withFollow "special-get-raises" false).params os 1) (frT (denote treeTable) pW 12 28 ⟨14, 9, 14, 110⟩ ⟨15, 4, 15, 23⟩ k) = some (fsX (w.withFollow "special-get-raises" false).params os 25, (frT (denote treeTable) pW 12 28 ⟨14, 9, 14, 110⟩ ⟨15, 4, 15, 23⟩ k)) := by
  rw [te_go, te_den, te_tb, te_p]
  kernel_rfl
theorem fT25_false (w : World) (os : OsState) (k : Result → Sem Fin) : segGoT treeTable pW (w.withFollow "special-get-raises" false) 11 (some (.ref 6)) 1 1080 (fsX (w.withFollow "special-get-raises" false).params os 25) (frT (denote treeTable) pW 12 28 ⟨14, 9, 14, 110⟩ ⟨15, 4, 15, 23⟩ k) = some (fsX (w.withFollow "special-get-raises" false).params os 49, (frT (denote treeTable) pW 12 28 ⟨14, 9, 14, 110⟩ ⟨15, 4, 15, 23⟩ k)) := by
  rw [te_go, te_den, te_tb, te_p]
  kernel_rfl
theorem fT49_false (w : World) (os : OsState) (k : Result → Sem Fin) : segGoT treeTable pW (w.withFollow "special-get-raises" false) 11 (some (.ref 6)) 1 1080 (fsX (w.withFollow "special-get-raises" false).params os 49) (frT (denote treeTable) pW 12 28 ⟨14, 9, 14, 110⟩ ⟨15, 4, 15, 23⟩ k) = some (fsX (w.withFollow "special-get-raises" false).params os 73, (frT (denote treeTable) pW 12 28 ⟨14, 9, 14, 110⟩ ⟨15, 4, 15, 23⟩ k)) := by
  rw [te_go, te_den, te_tb, te_p]
  kernel_rfl
theorem fT73_false (w : World) (os : OsState) (k : Result → Sem Fin) : segGoT treeTable pW (w.withFollow "special-get-raises" false) 11 (some (.ref 6)) 1 990 (fsX (w.withFollow "special-get-raises" false).params os 73) (frT (denote treeTable) pW 12 28 ⟨14, 9, 14, 110⟩ ⟨15, 4, 15, 23⟩ k) = some (fsX (w.withFollow "special-get-raises" false).params os 95, (frT (denote treeTable) pW 12 28 ⟨14, 9, 14, 110⟩ ⟨15, 4, 15, 23⟩ k)) := by
  rw [te_go, te_den, te_tb, te_p]
  kernel_rfl
theorem fE_true (w : World) (os : OsState) : segGoT treeTable pW (w.withFollow "special-get-raises" true) 11 (some (.ref 6)) 1 55 (S11 (w.withFollow "special-get-raises" true).params os) (pcs pW 12 1 ⟨13, 0, 13, 28⟩) = some (fsX (w.withFollow "special-get-raises" true).params os 1, (frT (denote treeTable) pW 12 28 ⟨14, 9, 14, 110⟩ ⟨15, 4, 15, 23⟩ (frK (segGoT treeTable pW (w.withFollow "special-get-raises" true) 11 (some (.ref 6)) 1 55 (S11 (w.withFollow "special-get-raises" true).params os) (pcs pW 12 1 ⟨13, 0, 13, 28⟩))))) := by
  rw [te_go, te_den, te_tb, te_p]
  kernel_rfl
theorem fX_true (w : World) (os : OsState) : segRunT treeTable pW (w.withFollow "special-get-raises" true) 11 (some (.ref 6)) 1 18 (fsX (w.withFollow "special-get-raises" true).params os 95) (frT (denote treeTable) pW 12 28 ⟨14, 9, 14, 110⟩ ⟨15, 4, 15, 23⟩ (frK (segGoT treeTable pW (w.withFollow "special-get-raises" true) 11 (some (.ref 6)) 1 55 (S11 (w.withFollow "special-get-raises" true).params os) (pcs pW 12 1 ⟨13, 0, 13, 28⟩)))) = some (PySem.Flow.next, S12 (w.withFollow "special-get-raises" true).params os, cdM pW, ⟨14, 9, 14, 110⟩) := by
  rw [te_run, te_go, te_den, te_tb, te_p]
  kernel_rfl
theorem fT1_true (w : World) (os : OsState) (k : Result → Sem Fin) : segGoT treeTable pW (w.withFollow "special-get-raises" true) 11 (some (.ref 6)) 1 1080 (fsX (w.withFollow "special-get-raises" true).params os 1) (frT (denote treeTable) pW 12 28 ⟨14, 9, 14, 110⟩ ⟨15, 4, 15, 23⟩ k) = some (fsX (w.withFollow "special-get-raises" true).params os 25, (frT (denote treeTable) pW 12 28 ⟨14, 9, 14, 110⟩ ⟨15, 4, 15, 23⟩ k)) := by
  rw [te_go, te_den, te_tb, te_p]
  kernel_rfl
theorem fT25_true (w : World) (os : OsState) (k : Result → Sem Fin) : segGoT treeTable pW (w.withFollow "special-get-raises" true) 11 (some (.ref 6)) 1 1080 (fsX (w.withFollow "special-get-raises" true).params os 25) (frT (denote treeTable) pW 12 28 ⟨14, 9, 14, 110⟩ ⟨15, 4, 15, 23⟩ k) = some (fsX (w.withFollow "special-get-raises" true).params os 49, (frT (denote treeTable) pW 12 28 ⟨14, 9, 14, 110⟩ ⟨15, 4, 15, 23⟩ k)) := by
  rw [te_go, te_den, te_tb, te_p]
  kernel_rfl
theorem fT49_true (w : World) (os : OsState) (k : Result → Sem Fin) : segGoT treeTable pW (w.withFollow "special-get-raises" true) 11 (some (.ref 6)) 1 1080 (fsX (w.withFollow "special-get-raises" true).params os 49) (frT (denote treeTable) pW 12 28 ⟨14, 9, 14, 110⟩ ⟨15, 4, 15, 23⟩ k) = some (fsX (w.withFollow "special-get-raises" true).params os 73, (frT (denote treeTable) pW 12 28 ⟨14, 9, 14, 110⟩ ⟨15, 4, 15, 23⟩ k)) := by
  rw [te_go, te_den, te_tb, te_p]
  kernel_rfl
theorem fT73_true (w : World) (os : OsState) (k : Result → Sem Fin) : segGoT treeTable pW (w.withFollow "special-get-raises" true) 11 (some (.ref 6)) 1 990 (fsX (w.withFollow "special-get-raises" true).params os 73) (frT (denote treeTable) pW 12 28 ⟨14, 9, 14, 110⟩ ⟨15, 4, 15, 23⟩ k) = some (fsX (w.withFollow "special-get-raises" true).params os 95, (frT (denote treeTable) pW 12 28 ⟨14, 9, 14, 110⟩ ⟨15, 4, 15, 23⟩ k)) := by
  rw [te_go, te_den, te_tb, te_p]
  kernel_rfl
end
end H
end Mine
end
section
open PySem PySem.W PyProof.Rows
set_option maxRecDepth 100000
namespace Mine
namespace H
noncomputable section
def kO (P : Params) (a : Nat) : Obj := (List.lookup a (Mine.hk.heap_1 P)).getD default
def inn (o : Obj) : Obj := match o.data with | .func f => { cls := .none, data := .func { f with globals := 0, defaults := .none, kwdefaults := .none, doc := .none, pyModule := .none, annotations := none, code := .none } } | _ => o
def e12 : Obj := { cls := .none, data := .fields (([(16, 36), (18, 44), (27, 57), (69, 64), (75, 71), (114, 78), (121, 85), (131, 90), (138, 95)] : List (Nat × Nat)).flatMap fun p => [.int (p.1 : Nat) 0, .int 0 0, .ref p.2]).toArray }
def lZ (P : Params) : List Obj := [boot_o_0 P, boot_o_1 P, kO P 2, kO P 3, boot_o_4 P, boot_o_5 P, kO P 6, boot_o_7 P, boot_o_8 P, boot_o_9 P, boot_o_10 P, o11, e12, o13, o14, rngO, rngI 256, kO P 17, { cls := .type "dict", data := .dict #[] 2 }, o11, stI 19, slO, kO P 22, slO, kO P 24, bE 67, o11, stI 26, bE 95, o11, stI 29, kO P 31, o12, kO P 33, kO P 34, inn (kO P 37), kO P 36, kO P 37, kO P 38, kO P 39, o12, kO P 41, kO P 42, inn (kO P 45), kO P 44, kO P 45, slO, kO P 47, bE 2, o11, stI 49, kO P 51, kO P 52, o12, kO P 54, kO P 55, inn (kO P 58), kO P 57, kO P 58, kO P 59, o12, kO P 61, kO P 62, inn (kO P 65), kO P 64, kO P 65, kO P 66, o12, kO P 68, kO P 69, inn (kO P 72), kO P 71, kO P 72, kO P 73, o12, kO P 75, kO P 76, inn (kO P 79), kO P 78, kO P 79, kO P 80, o12, kO P 82, kO P 83, inn (kO P 86), kO P 85, kO P 86, kO P 87, o12, inn (kO P 91), kO P 90, kO P 91, kO P 92, o12, inn (kO P 96), kO P 95, kO P 96]
def SZ (P : Params) (os : OsState) : SharedT := sh (lZ P) 97 1838 os
theorem pG_false (w : World) (os : OsState) : segRunT treeTable pW (w.withFollow "special-get-raises" false) 11 (some (.ref 6)) 1 486 (S12 (w.withFollow "special-get-raises" false).params os) (pcs pW 13 17 ⟨14, 9, 14, 110⟩) = some (PySem.Flow.next, SZ (w.withFollow "special-get-raises" false).params os, cdM pW, ⟨138, 0, 150, 62⟩) := by
  rw [te_run, te_tb, te_p]
  kernel_rfl
theorem pG_true (w : World) (os : OsState) : segRunT treeTable pW (w.withFollow "special-get-raises" true) 11 (some (.ref 6)) 1 486 (S12 (w.withFollow "special-get-raises" true).params os) (pcs pW 13 17 ⟨14, 9, 14, 110⟩) = some (PySem.Flow.next, SZ (w.withFollow "special-get-raises" true).params os, cdM pW, ⟨138, 0, 150, 62⟩) := by
  rw [te_run, te_tb, te_p]
  kernel_rfl
theorem pP (w : World) (os : OsState) : topGo treeTable pW w 11 (some (.ref 6)) 12 ⟨boot_heap w.params, #[], boot_drawn, boot_toks, os⟩ (topStub pW) = some ((SA w.params os).abs, ⟨denote treeTable (cdM pW), cdM pW, ⟨0, 0, 0, 0⟩, [topF]⟩) := by
  rw [te_top, te_den, te_tb, te_p]
  kernel_rfl
theorem pB (w : World) (os : OsState) : segRun treeTable pW w 11 (some (.ref 6)) 1 1 (SA w.params os).abs (blockOf (bM pW) (envM pW) (cdM pW) ⟨0, 0, 0, 0⟩ [topF]) = some (PySem.Flow.next, (SA w.params os).abs, cdM pW, ⟨0, 0, 0, 0⟩) := by
  rw [te_sr, te_tb, te_p]
  kernel_rfl
theorem pF (w : World) (os : OsState) : topRun treeTable pW w 11 (some (.ref 6)) 2 (SZ w.params os).abs ⟨doneF PySem.Flow.next, cdM pW, ⟨138, 0, 150, 62⟩, [topF]⟩ = some (SZ w.params os).abs := by
  rw [te_tr, te_tb, te_p]
  kernel_rfl
end
end H
end Mine
end
section
open PySem PySem.W PyProof.Rows
set_option maxRecDepth 100000
namespace Mine
namespace H
noncomputable section
theorem step_app {w : World} {a n N M : Nat} {s s' r : Shared} {q q' : Pos} (h : segRun treeTable pW w 11 (some (.ref 6)) 1 N s (pcs pW a n q) = some (PySem.Flow.next, s', cdM pW, q'))
    (k : topRun treeTable pW w 11 (some (.ref 6)) M s' (restOf ((bM pW).drop (a + n)) (envM pW) (cdM pW) q' [topF]) = some r) :
    topRun treeTable pW w 11 (some (.ref 6)) (N + M) s (restOf ((bM pW).drop a) (envM pW) (cdM pW) q [topF]) = some r := by
  have e : (bM pW).drop a = ((bM pW).drop a).take n ++ (bM pW).drop (a + n) := by
    rw [← List.drop_drop]; exact (List.take_append_drop n _).symm
  have := piece_app (rest := (bM pW).drop (a + n)) h k
  rw [← e] at this
  exact this
theorem b30 : (bM pW).drop 30 = [] := by kernel_rfl
theorem run_false_false (w : World) (os : OsState) : topRun treeTable pW ((w.withFollow "comprehension-iter-twice" false).withFollow "special-get-raises" false) 11 (some (.ref 6)) 20000 ⟨boot_heap ((w.withFollow "comprehension-iter-twice" false).withFollow "special-get-raises" false).params, #[], boot_drawn, boot_toks, os⟩ (topStub pW) = some (SZ ((w.withFollow "comprehension-iter-twice" false).withFollow "special-get-raises" false).params os).abs := by
  have c := seg_go (segGo_of (cE_false_false w os)) (seg_go (segGo_of (cT0_false (w.withFollow "comprehension-iter-twice" false) os _)) (seg_go (segGo_of (cT32_false (w.withFollow "comprehension-iter-twice" false) os _)) (seg_go (segGo_of (cT64_false (w.withFollow "comprehension-iter-twice" false) os _)) (seg_go (segGo_of (cT96_false (w.withFollow "comprehension-iter-twice" false) os _)) (seg_go (segGo_of (cT128_false (w.withFollow "comprehension-iter-twice" false) os _)) (seg_go (segGo_of (cT160_false (w.withFollow "comprehension-iter-twice" false) os _)) (seg_go (segGo_of (cT192_false (w.withFollow "comprehension-iter-twice" false) os _)) (seg_go (segGo_of (cT224_false (w.withFollow "comprehension-iter-twice" false) os _)) (segRun_of (cX_false_false w os))))))))))
  have d := seg_go (segGo_of (dE_false (w.withFollow "comprehension-iter-twice" false) os)) (seg_go (segGo_of (dT1_false (w.withFollow "comprehension-iter-twice" false) os _)) (seg_go (segGo_of (dT25_false (w.withFollow "comprehension-iter-twice" false) os _)) (seg_go (segGo_of (dT49_false (w.withFollow "comprehension-iter-twice" false) os _)) (segRun_of (dX_false (w.withFollow "comprehension-iter-twice" false) os)))))
  have f := seg_go (segGo_of (fE_false (w.withFollow "comprehension-iter-twice" false) os)) (seg_go (segGo_of (fT1_false (w.withFollow "comprehension-iter-twice" false) os _)) (seg_go (segGo_of (fT25_false (w.withFollow "comprehension-iter-twice" false) os _)) (seg_go (segGo_of (fT49_false (w.withFollow "comprehension-iter-twice" false) os _)) (seg_go (segGo_of (fT73_false (w.withFollow "comprehension-iter-twice" false) os _)) (segRun_of (fX_false (w.withFollow "comprehension-iter-twice" false) os))))))
  have z : topRun treeTable pW ((w.withFollow "comprehension-iter-twice" false).withFollow "special-get-raises" false) 11 (some (.ref 6)) 2 (SZ ((w.withFollow "comprehension-iter-twice" false).withFollow "special-get-raises" false).params os).abs (restOf ((bM pW).drop 30) (envM pW) (cdM pW) ⟨138, 0, 150, 62⟩ [topF]) = some (SZ ((w.withFollow "comprehension-iter-twice" false).withFollow "special-get-raises" false).params os).abs := by rw [b30]; exact pF ((w.withFollow "comprehension-iter-twice" false).withFollow "special-get-raises" false) os
  have r := go_top (pP ((w.withFollow "comprehension-iter-twice" false).withFollow "special-get-raises" false) os) (piece_block (pB ((w.withFollow "comprehension-iter-twice" false).withFollow "special-get-raises" false) os) (step_app (a := 0) (n := 2) (segRun_of (pA ((w.withFollow "comprehension-iter-twice" false).withFollow "special-get-raises" false) os)) (step_app (a := 2) (n := 1) c (step_app (a := 3) (n := 7) (segRun_of (pC ((w.withFollow "comprehension-iter-twice" false).withFollow "special-get-raises" false) os)) (step_app (a := 10) (n := 1) d (step_app (a := 11) (n := 1) (segRun_of (pE ((w.withFollow "comprehension-iter-twice" false).withFollow "special-get-raises" false) os)) (step_app (a := 12) (n := 1) f (step_app (a := 13) (n := 17) (segRun_of (pG_false (w.withFollow "comprehension-iter-twice" false) os)) z))))))))
  exact topRun_mono 2414 _ _ _ _ r
theorem run_false_true (w : World) (os : OsState) : topRun treeTable pW ((w.withFollow "comprehension-iter-twice" false).withFollow "special-get-raises" true) 11 (some (.ref 6)) 20000 ⟨boot_heap ((w.withFollow "comprehension-iter-twice" false).withFollow "special-get-raises" true).params, #[], boot_drawn, boot_toks, os⟩ (topStub pW) = some (SZ ((w.withFollow "comprehension-iter-twice" false).withFollow "special-get-raises" true).params os).abs := by
  have c := seg_go (segGo_of (cE_false_true w os)) (seg_go (segGo_of (cT0_true (w.withFollow "comprehension-iter-twice" false) os _)) (seg_go (segGo_of (cT32_true (w.withFollow "comprehension-iter-twice" false) os _)) (seg_go (segGo_of (cT64_true (w.withFollow "comprehension-iter-twice" false) os _)) (seg_go (segGo_of (cT96_true (w.withFollow "comprehension-iter-twice" false) os _)) (seg_go (segGo_of (cT128_true (w.withFollow "comprehension-iter-twice" false) os _)) (seg_go (segGo_of (cT160_true (w.withFollow "comprehension-iter-twice" false) os _)) (seg_go (segGo_of (cT192_true (w.withFollow "comprehension-iter-twice" false) os _)) (seg_go (segGo_of (cT224_true (w.withFollow "comprehension-iter-twice" false) os _)) (segRun_of (cX_false_true w os))))))))))
  have d := seg_go (segGo_of (dE_true (w.withFollow "comprehension-iter-twice" false) os)) (seg_go (segGo_of (dT1_true (w.withFollow "comprehension-iter-twice" false) os _)) (seg_go (segGo_of (dT25_true (w.withFollow "comprehension-iter-twice" false) os _)) (seg_go (segGo_of (dT49_true (w.withFollow "comprehension-iter-twice" false) os _)) (segRun_of (dX_true (w.withFollow "comprehension-iter-twice" false) os)))))
  have f := seg_go (segGo_of (fE_true (w.withFollow "comprehension-iter-twice" false) os)) (seg_go (segGo_of (fT1_true (w.withFollow "comprehension-iter-twice" false) os _)) (seg_go (segGo_of (fT25_true (w.withFollow "comprehension-iter-twice" false) os _)) (seg_go (segGo_of (fT49_true (w.withFollow "comprehension-iter-twice" false) os _)) (seg_go (segGo_of (fT73_true (w.withFollow "comprehension-iter-twice" false) os _)) (segRun_of (fX_true (w.withFollow "comprehension-iter-twice" false) os))))))
  have z : topRun treeTable pW ((w.withFollow "comprehension-iter-twice" false).withFollow "special-get-raises" true) 11 (some (.ref 6)) 2 (SZ ((w.withFollow "comprehension-iter-twice" false).withFollow "special-get-raises" true).params os).abs (restOf ((bM pW).drop 30) (envM pW) (cdM pW) ⟨138, 0, 150, 62⟩ [topF]) = some (SZ ((w.withFollow "comprehension-iter-twice" false).withFollow "special-get-raises" true).params os).abs := by rw [b30]; exact pF ((w.withFollow "comprehension-iter-twice" false).withFollow "special-get-raises" true) os
  have r := go_top (pP ((w.withFollow "comprehension-iter-twice" false).withFollow "special-get-raises" true) os) (piece_block (pB ((w.withFollow "comprehension-iter-twice" false).withFollow "special-get-raises" true) os) (step_app (a := 0) (n := 2) (segRun_of (pA ((w.withFollow "comprehension-iter-twice" false).withFollow "special-get-raises" true) os)) (step_app (a := 2) (n := 1) c (step_app (a := 3) (n := 7) (segRun_of (pC ((w.withFollow "comprehension-iter-twice" false).withFollow "special-get-raises" true) os)) (step_app (a := 10) (n := 1) d (step_app (a := 11) (n := 1) (segRun_of (pE ((w.withFollow "comprehension-iter-twice" false).withFollow "special-get-raises" true) os)) (step_app (a := 12) (n := 1) f (step_app (a := 13) (n := 17) (segRun_of (pG_true (w.withFollow "comprehension-iter-twice" false) os)) z))))))))
  exact topRun_mono 2414 _ _ _ _ r
theorem run_true_false (w : World) (os : OsState) : topRun treeTable pW ((w.withFollow "comprehension-iter-twice" true).withFollow "special-get-raises" false) 11 (some (.ref 6)) 20000 ⟨boot_heap ((w.withFollow "comprehension-iter-twice" true).withFollow "special-get-raises" false).params, #[], boot_drawn, boot_toks, os⟩ (topStub pW) = some (SZ ((w.withFollow "comprehension-iter-twice" true).withFollow "special-get-raises" false).params os).abs := by
  have c := seg_go (segGo_of (cE_true_false w os)) (seg_go (segGo_of (cT0_false (w.withFollow "comprehension-iter-twice" true) os _)) (seg_go (segGo_of (cT32_false (w.withFollow "comprehension-iter-twice" true) os _)) (seg_go (segGo_of (cT64_false (w.withFollow "comprehension-iter-twice" true) os _)) (seg_go (segGo_of (cT96_false (w.withFollow "comprehension-iter-twice" true) os _)) (seg_go (segGo_of (cT128_false (w.withFollow "comprehension-iter-twice" true) os _)) (seg_go (segGo_of (cT160_false (w.withFollow "comprehension-iter-twice" true) os _)) (seg_go (segGo_of (cT192_false (w.withFollow "comprehension-iter-twice" true) os _)) (seg_go (segGo_of (cT224_false (w.withFollow "comprehension-iter-twice" true) os _)) (segRun_of (cX_true_false w os))))))))))
  have d := seg_go (segGo_of (dE_false (w.withFollow "comprehension-iter-twice" true) os)) (seg_go (segGo_of (dT1_false (w.withFollow "comprehension-iter-twice" true) os _)) (seg_go (segGo_of (dT25_false (w.withFollow "comprehension-iter-twice" true) os _)) (seg_go (segGo_of (dT49_false (w.withFollow "comprehension-iter-twice" true) os _)) (segRun_of (dX_false (w.withFollow "comprehension-iter-twice" true) os)))))
  have f := seg_go (segGo_of (fE_false (w.withFollow "comprehension-iter-twice" true) os)) (seg_go (segGo_of (fT1_false (w.withFollow "comprehension-iter-twice" true) os _)) (seg_go (segGo_of (fT25_false (w.withFollow "comprehension-iter-twice" true) os _)) (seg_go (segGo_of (fT49_false (w.withFollow "comprehension-iter-twice" true) os _)) (seg_go (segGo_of (fT73_false (w.withFollow "comprehension-iter-twice" true) os _)) (segRun_of (fX_false (w.withFollow "comprehension-iter-twice" true) os))))))
  have z : topRun treeTable pW ((w.withFollow "comprehension-iter-twice" true).withFollow "special-get-raises" false) 11 (some (.ref 6)) 2 (SZ ((w.withFollow "comprehension-iter-twice" true).withFollow "special-get-raises" false).params os).abs (restOf ((bM pW).drop 30) (envM pW) (cdM pW) ⟨138, 0, 150, 62⟩ [topF]) = some (SZ ((w.withFollow "comprehension-iter-twice" true).withFollow "special-get-raises" false).params os).abs := by rw [b30]; exact pF ((w.withFollow "comprehension-iter-twice" true).withFollow "special-get-raises" false) os
  have r := go_top (pP ((w.withFollow "comprehension-iter-twice" true).withFollow "special-get-raises" false) os) (piece_block (pB ((w.withFollow "comprehension-iter-twice" true).withFollow "special-get-raises" false) os) (step_app (a := 0) (n := 2) (segRun_of (pA ((w.withFollow "comprehension-iter-twice" true).withFollow "special-get-raises" false) os)) (step_app (a := 2) (n := 1) c (step_app (a := 3) (n := 7) (segRun_of (pC ((w.withFollow "comprehension-iter-twice" true).withFollow "special-get-raises" false) os)) (step_app (a := 10) (n := 1) d (step_app (a := 11) (n := 1) (segRun_of (pE ((w.withFollow "comprehension-iter-twice" true).withFollow "special-get-raises" false) os)) (step_app (a := 12) (n := 1) f (step_app (a := 13) (n := 17) (segRun_of (pG_false (w.withFollow "comprehension-iter-twice" true) os)) z))))))))
  exact topRun_mono 2424 _ _ _ _ r
theorem run_true_true (w : World) (os : OsState) : topRun treeTable pW ((w.withFollow "comprehension-iter-twice" true).withFollow "special-get-raises" true) 11 (some (.ref 6)) 20000 ⟨boot_heap ((w.withFollow "comprehension-iter-twice" true).withFollow "special-get-raises" true).params, #[], boot_drawn, boot_toks, os⟩ (topStub pW) = some (SZ ((w.withFollow "comprehension-iter-twice" true).withFollow "special-get-raises" true).params os).abs := by
  have c := seg_go (segGo_of (cE_true_true w os)) (seg_go (segGo_of (cT0_true (w.withFollow "comprehension-iter-twice" true) os _)) (seg_go (segGo_of (cT32_true (w.withFollow "comprehension-iter-twice" true) os _)) (seg_go (segGo_of (cT64_true (w.withFollow "comprehension-iter-twice" true) os _)) (seg_go (segGo_of (cT96_true (w.withFollow "comprehension-iter-twice" true) os _)) (seg_go (segGo_of (cT128_true (w.withFollow "comprehension-iter-twice" true) os _)) (seg_go (segGo_of (cT160_true (w.withFollow "comprehension-iter-twice" true) os _)) (seg_go (segGo_of (cT192_true (w.withFollow "comprehension-iter-twice" true) os _)) (seg_go (segGo_of (cT224_true (w.withFollow "comprehension-iter-twice" true) os _)) (segRun_of (cX_true_true w os))))))))))
  have d := seg_go (segGo_of (dE_true (w.withFollow "comprehension-iter-twice" true) os)) (seg_go (segGo_of (dT1_true (w.withFollow "comprehension-iter-twice" true) os _)) (seg_go (segGo_of (dT25_true (w.withFollow "comprehension-iter-twice" true) os _)) (seg_go (segGo_of (dT49_true (w.withFollow "comprehension-iter-twice" true) os _)) (segRun_of (dX_true (w.withFollow "comprehension-iter-twice" true) os)))))
  have f := seg_go (segGo_of (fE_true (w.withFollow "comprehension-iter-twice" true) os)) (seg_go (segGo_of (fT1_true (w.withFollow "comprehension-iter-twice" true) os _)) (seg_go (segGo_of (fT25_true (w.withFollow "comprehension-iter-twice" true) os _)) (seg_go (segGo_of (fT49_true (w.withFollow "comprehension-iter-twice" true) os _)) (seg_go (segGo_of (fT73_true (w.withFollow "comprehension-iter-twice" true) os _)) (segRun_of (fX_true (w.withFollow "comprehension-iter-twice" true) os))))))
  have z : topRun treeTable pW ((w.withFollow "comprehension-iter-twice" true).withFollow "special-get-raises" true) 11 (some (.ref 6)) 2 (SZ ((w.withFollow "comprehension-iter-twice" true).withFollow "special-get-raises" true).params os).abs (restOf ((bM pW).drop 30) (envM pW) (cdM pW) ⟨138, 0, 150, 62⟩ [topF]) = some (SZ ((w.withFollow "comprehension-iter-twice" true).withFollow "special-get-raises" true).params os).abs := by rw [b30]; exact pF ((w.withFollow "comprehension-iter-twice" true).withFollow "special-get-raises" true) os
  have r := go_top (pP ((w.withFollow "comprehension-iter-twice" true).withFollow "special-get-raises" true) os) (piece_block (pB ((w.withFollow "comprehension-iter-twice" true).withFollow "special-get-raises" true) os) (step_app (a := 0) (n := 2) (segRun_of (pA ((w.withFollow "comprehension-iter-twice" true).withFollow "special-get-raises" true) os)) (step_app (a := 2) (n := 1) c (step_app (a := 3) (n := 7) (segRun_of (pC ((w.withFollow "comprehension-iter-twice" true).withFollow "special-get-raises" true) os)) (step_app (a := 10) (n := 1) d (step_app (a := 11) (n := 1) (segRun_of (pE ((w.withFollow "comprehension-iter-twice" true).withFollow "special-get-raises" true) os)) (step_app (a := 12) (n := 1) f (step_app (a := 13) (n := 17) (segRun_of (pG_true (w.withFollow "comprehension-iter-twice" true) os)) z))))))))
  exact topRun_mono 2424 _ _ _ _ r
theorem run_all : ∀ (w : World) (os : OsState), topRun treeTable pW w 11 (some (.ref 6)) 20000 ⟨boot_heap w.params, #[], boot_drawn, boot_toks, os⟩ (topStub pW) = some (SZ w.params os).abs :=
  byRow2 "special-get-raises" (P := fun w => ∀ os, topRun treeTable pW w 11 (some (.ref 6)) 20000 ⟨boot_heap w.params, #[], boot_drawn, boot_toks, os⟩ (topStub pW) = some (SZ w.params os).abs)
    (byRow2 "comprehension-iter-twice" (P := fun w => ∀ os, topRun treeTable pW (w.withFollow "special-get-raises" false) 11 (some (.ref 6)) 20000 ⟨boot_heap (w.withFollow "special-get-raises" false).params, #[], boot_drawn, boot_toks, os⟩ (topStub pW) = some (SZ (w.withFollow "special-get-raises" false).params os).abs) run_false_false run_true_false)
    (byRow2 "comprehension-iter-twice" (P := fun w => ∀ os, topRun treeTable pW (w.withFollow "special-get-raises" true) 11 (some (.ref 6)) 20000 ⟨boot_heap (w.withFollow "special-get-raises" true).params, #[], boot_drawn, boot_toks, os⟩ (topStub pW) = some (SZ (w.withFollow "special-get-raises" true).params os).abs) run_false_true run_true_true)
end
end H
end Mine
end
section
open PySem PySem.W PyProof.Rows
set_option maxRecDepth 100000
namespace Mine
namespace H
noncomputable section
def qW (p : Program) : Program := view p [0, 1, 2, 3, 4, 5, 6, 7, 8, 13, 15, 20, 21, 22, 23, 24, 26, 27, 28, 29]
def loW : List Str := [Str.ofString "_QUOPRI_MAP", Str.ofString "_QUOPRI_HEADER_MAP", Str.ofString "_QUOPRI_BODY_MAP", Str.ofString "ascii_letters", Str.ofString "header_encode", Str.ofString "_QUOPRI_BODY_ENCODE_MAP", Str.ofString "body_encode"]
def lvW : List (Str × WData) := [(Str.ofString "ascii_letters", WData.str ⟨(List.range' 97 26 ++ List.range' 65 26).toArray⟩)]
def kAs : List Addr := [2, 3, 6, 17, 22, 24, 31, 33, 34, 36, 37, 38, 39, 41, 42, 44, 45, 47, 51, 52, 54, 55, 57, 58, 59, 61, 62, 64, 65, 66, 68, 69, 71, 72, 73, 75, 76, 78, 79, 80, 82, 83, 85, 86, 87, 90, 91, 92, 95, 96]
noncomputable def HK : Hook := kHook Mine.hk.heap_1 kAs (fun _ => by kernel_rfl)
def xtW (p : Program) (s : Shared) : Bool := xlAt (qW p) lvW s && recOk (RowW.records PySem.Challenge.rw_rl0067_01.row.toRowW) s
def HZ (P : Params) : Heap := ⟨(lZ P).toArray, {}⟩
def sZ (P : Params) (os : OsState) : Shared := ⟨HZ P, #[], {}, 1838, os⟩
theorem absZ (P : Params) (os : OsState) : (SZ P os).abs = sZ P os := by kernel_rfl
theorem l1a (w : World) (os : OsState) : staticsOk (importedModules pW.main.body) (boot_heap w.params) (HZ w.params) = true := by kernel_rfl
theorem l1b (w : World) (os : OsState) : namesBound pW (HZ w.params) = true := by rw [te_p]; kernel_rfl
theorem l1c (w : World) (os : OsState) : gensDone (sZ w.params os) = true := by kernel_rfl
theorem l1d (w : World) (os : OsState) : laidKept (boot_heap w.params) (HZ w.params) = true := by kernel_rfl
theorem l3 (w : World) (os : OsState) : HK.obs (sZ w.params os) = HK.val w := by kernel_rfl
theorem imp_h (w : World) : importEnds treeTable (opening pW) w 600 (start (opening pW)).1 (start (opening pW)).2 = some ⟨boot_heap w.params, #[], boot_drawn, boot_toks, (start (opening pW)).1.os⟩ := by kernel_rfl
theorem fen (w : World) : (fun os => (fenceModules? pW ⟨boot_heap w.params, #[], boot_drawn, boot_toks, os⟩).map (fun s => (s.heap, s.gens, s.drawn, s.toks))) = fun _ => some (boot_heap w.params, #[], boot_drawn, boot_toks) := by kernel_rfl
theorem siz (w : World) : ((boot_heap w.params).isNs mainGlobals && (#[] : Array GenState).size == 0, (boot_heap w.params).objs.size, (boot_heap w.params).nsMap mainGlobals "__annotations__") = (true, 11, some (.ref 6)) := by kernel_rfl
end
end H
end Mine
end
section
open PySem PySem.W PyProof.Rows
set_option maxRecDepth 100000
namespace Mine
namespace H
noncomputable section
theorem te_os : @openSeen = @PySem.W.Fast.tw4187177175401517315 := PySem.W.Fast.te4187177175401517315
theorem l2 (w : World) (os : OsState) : openSeen (qW pW) loW (importedModules pW.main.body) (xtW pW) true (sZ w.params os) = openGood (qW pW) loW := by
  rw [te_os, te_p]
  kernel_rfl
end
end H
end Mine
end
section
open PySem PySem.W PyProof.Rows
set_option maxRecDepth 100000
namespace Mine
namespace H
theorem left : LeftO pW (qW pW) loW (xtW pW) HK.obs HK.val 20000 :=
  LeftO.of_pieces (H₀ := boot_heap) (H₁ := HZ) (gs₀ := #[]) (gs₁ := #[]) (d₀ := boot_drawn) (d₁ := {}) (k₀ := boot_toks) (k₁ := 1838) (m₀ := 11) (ann := some (.ref 6)) (M := 20000)
    (open_cut (M := 600) imp_h rfl fen) siz (fun w os => (run_all w os).trans (congrArg some (absZ w.params os))) rfl
    (fun w => funext fun os => looks_pair (look_both (look_both (look_both (l1a w os) (l1b w os)) (l1c w os)) (l1d w os)) (looks_pair (l2 w os) (l3 w os)))
end H
end Mine
end
section
open PySem PySem.W PyProof.Rows PySem.Calls
set_option maxRecDepth 100000
namespace Mine
abbrev Ar (dp un : Nat) (gd : Option (List Code)) (outer : List Env) : Around := { handled := none, depth := dp, frames := some outer, guards := gd, units := un }
structure Rdy (w : World) (dp un : Nat) (gd : Option (List Code)) (outer : List Env) (h : Heap) : Prop where
  kin : (Mine.hk.heap_1 w.params).In h
  bel : ∃ base, Below (Ar dp un gd outer) base outer h
  top : ∃ p loose mean mg mb, Top p loose mean mg mb h
  deep : dp ≤ 600
  units : un ≤ 1000
theorem Rdy.in {w : World} {dp un : Nat} {gd : Option (List Code)} {outer : List Env} {h₀ h base : Heap} {L a : Addr} {m : Str → Option Value} {name : Str} {scope : Scope} {cd : Value}
    {p : Program} {loose : List Str} {mean : ExcName → Option Value} {mg mb : Str → Option Value}
    (B : Below (Ar dp un gd outer) base outer h₀) (X : (Mine.hk.heap_1 w.params).In h₀) (T : Top p loose mean mg mb h₀) (hd : dp ≤ 599) (hu : un ≤ 997) (F : Fr h₀ L h m) (hk : scope.kind = .function) :
    Rdy w (dp + 1) (un + 3) gd (envOf name scope L a cd :: outer) h :=
  ⟨X.keeps F.keep, ⟨base, B.push (name := name) (a := a) (cd := cd) F hk⟩, ⟨p, loose, mean, mg, mb, T.keeps F.keep⟩, by omega, by omega⟩
theorem enter {prog : Program} {w : World} {dp un : Nat} {gd : Option (List Code)} {outer : List Env} {s : Shared} {Q E : Value → Shared → Prop} {name qual : Str} {params : Arguments} {body : List Stmt} {scope : Scope} {dV kV doc pm cdv ct oc : Value} {an od : Option Addr} {osl : Array (Option Value)} {f : Addr} {args : List Value} {binds : List (Str × Value)}
    (R : Rdy w dp un gd outer s.heap)
    (ho : (Mine.hk.heap_1 w.params).lookup f = some ⟨oc, od, .func (fnOf name qual params body scope dV kV doc pm an cdv ct), osl⟩) (hcd : codeIn (Mine.hk.heap_1 w.params) cdv qual = true)
    (hbind : BindsTo s (fnOf name qual params body scope dV kV doc pm an cdv ct) ⟨args, []⟩ binds) (hloc : ∀ y ∈ binds, scope.names.lookup y.1 = some .local)
    (h : ∀ base p loose mean mg mb h₁, Fr s.heap s.heap.objs.size h₁ (fun y => binds.reverse.lookup y) → News s.heap s.heap.objs.size h₁ [] → Below (Ar dp un gd outer) base outer s.heap → (Mine.hk.heap_1 w.params).In s.heap → Top p loose mean mg mb s.heap →
      wpAny (model prog w) ((Ar dp un gd outer).deeper (envOf qual scope s.heap.objs.size f cdv)) (execs body (envOf qual scope s.heap.objs.size f cdv))
        (fun fl s' => Q (match fl with | .ret v => v | _ => .none) s') (fun _ _ => False)
        { s with heap := h₁, toks := s.toks + binds.length })
    (hco : scope.isCoroutine = false) (hgen : scope.isGenerator = false) (hk : scope.kind = .function)
    (hcell : ∀ x ∈ scope.names, x.2 ≠ .cell) : wpAny (model prog w) (Ar dp un gd outer) (call (.ref f) args) Q E s := by
  obtain ⟨X, ⟨base, B⟩, ⟨p, loose, mean, mg, mb, T⟩, hd, hu⟩ := R
  refine wpAny_call ?_
  refine codeAny_call_def (fd := fnOf name qual params body scope dV kV doc pm an cdv ct) (body := body) (binds := binds) (by show dp < recursionLimit; unfold recursionLimit; omega) (X _ _ ho) rfl T.nolimit (codeRec_of X hcd) rfl hbind hcell hloc (fun h₁ hns hk₁ => ?_) hco hgen hk
  refine wpAny_mono (h base p loose mean mg mb h₁ ⟨hns, hk₁, Nat.le_refl _⟩ News.nil B X T) (fun fl s' x => x) fun _ _ x => x.elim
theorem pin {α : Type} {x : Option α} {a b : α} {G : Prop} (h : x = some b) (e : x = some a) (k : a = b → G) : G := k (by rw [e] at h; exact Option.some.inj h)
section
variable {M : Model} {A : Around} {s s₁ : Shared} {h₀ : Heap} {L : Addr} {σ : Type}
theorem fr_named {h : Heap} {m' : Str → Option Value} {ps : List (Str × Value)} (F : Fr h₀ L h m') (hk : ∀ p ∈ ps, m' p.1 = some p.2) : Fr h₀ L h (kstB m' ps) := by
  have e : kstB m' ps = m' := by
    funext y
    exact kstB_eq hk fun _ => rfl
  rw [e]; exact F
def CutN (h₀ : Heap) (L : Addr) (s : Shared) (ps : σ → List (Str × Value)) (P : σ → Prop) (fl : Flow) (s' : Shared) : Prop :=
  fl = .next ∧ ∃ (c : σ) (h' : Heap) (tk : Nat) (m' : Str → Option Value), s' = { s with heap := h', toks := tk } ∧ Fr h₀ L h' m' ∧ (∀ p ∈ ps c, m' p.1 = some p.2) ∧ P c
theorem CutN.intro {ps : σ → List (Str × Value)} {P : σ → Prop} (c : σ) {h' : Heap} {tk : Nat} {m' : Str → Option Value} (F : Fr h₀ L h' m') (hk : ∀ p ∈ ps c, m' p.1 = some p.2) (hp : P c) : CutN h₀ L s ps P .next { s with heap := h', toks := tk } :=
  ⟨rfl, c, h', tk, m', rfl, F, hk, hp⟩
theorem cut {E : Value → Shared → Prop} {st : Stmt} {rest : List Stmt} {env : Env} {Q : Flow → Shared → Prop} (ps : σ → List (Str × Value)) (P : σ → Prop)
    (h : wpAny M A (exec st env) (CutN h₀ L s ps P) E s₁)
    (k : ∀ (c : σ) (h' : Heap) (tk : Nat) (m' : Str → Option Value), P c → Fr h₀ L h' (kstB m' (ps c)) → News h₀ L h' [] → wpAny M A (execs rest env) Q E { s with heap := h', toks := tk }) :
    wpAny M A (exec st env) (fun f s' => match f with | .next => wpAny M A (execs rest env) Q E s' | f => Q f s') E s₁ := by
  refine wpAny_mono h (fun fl s' hc => ?_) fun _ _ x => x
  obtain ⟨rfl, c, h', tk, m', rfl, F, hk, hp⟩ := hc
  exact k c h' tk m' hp (fr_named F hk) News.nil
end
section
variable {M : Model} {A : Around} {s s₁ : Shared} {h₀ : Heap} {L : Addr} {σ : Type}
def CutL (h₀ : Heap) (L : Addr) (s : Shared) (ps : σ → List (Str × Value)) (led : σ → List (Addr × Obj)) (P : σ → Prop) (fl : Flow) (s' : Shared) : Prop :=
  fl = .next ∧ ∃ (c : σ) (h' : Heap) (tk : Nat) (m' : Str → Option Value), s' = { s with heap := h', toks := tk } ∧ Fr h₀ L h' m' ∧ News h₀ L h' (led c) ∧ (∀ p ∈ ps c, m' p.1 = some p.2) ∧ P c
theorem CutL.intro {ps : σ → List (Str × Value)} {led : σ → List (Addr × Obj)} {P : σ → Prop} (c : σ) {h' : Heap} {tk : Nat} {m' : Str → Option Value} (F : Fr h₀ L h' m') (N : News h₀ L h' (led c)) (hk : ∀ p ∈ ps c, m' p.1 = some p.2) (hp : P c) : CutL h₀ L s ps led P .next { s with heap := h', toks := tk } :=
  ⟨rfl, c, h', tk, m', rfl, F, N, hk, hp⟩
theorem cutL {E : Value → Shared → Prop} {st : Stmt} {rest : List Stmt} {env : Env} {Q : Flow → Shared → Prop} (ps : σ → List (Str × Value)) (led : σ → List (Addr × Obj)) (P : σ → Prop)
    (h : wpAny M A (exec st env) (CutL h₀ L s ps led P) E s₁)
    (k : ∀ (c : σ) (h' : Heap) (tk : Nat) (m' : Str → Option Value), P c → Fr h₀ L h' (kstB m' (ps c)) → News h₀ L h' (led c) → wpAny M A (execs rest env) Q E { s with heap := h', toks := tk }) :
    wpAny M A (exec st env) (fun f s' => match f with | .next => wpAny M A (execs rest env) Q E s' | f => Q f s') E s₁ := by
  refine wpAny_mono h (fun fl s' hc => ?_) fun _ _ x => x
  obtain ⟨rfl, c, h', tk, m', rfl, F, N, hk, hp⟩ := hc
  exact k c h' tk m' hp (fr_named F hk) N
end
theorem filled : (Mine.hk.heap_1 = Mine.hk.heap_1) ∧ (PySem.Challenge.rw_rl0067_01 = PySem.Challenge.rw_rl0067_01) := by
  k_fill
  exact ⟨rfl, rfl⟩
end Mine
end
section
open PySem PySem.W PyProof.Rows PySem.Calls
set_option maxRecDepth 100000
namespace Mine
def cst (c d : Nat) : Nat := if c = d then 0 else if Txt.lower ⟨#[c]⟩ = Txt.lower ⟨#[d]⟩ then 1 else 2
theorem one_beq (c d : Nat) : ((⟨#[c]⟩ : Str) == ⟨#[d]⟩) = decide (c = d) := by
  rw [Bool.eq_iff_iff, beq_iff_eq, decide_eq_true_iff]
  constructor
  · intro h; injection h with h; simpa using h
  · rintro rfl; rfl
section
local macro_rules | `(tactic| walk_at "call builtin:str.lower") => `(tactic| (k_here; (with_reducible show wpAny _ _ (call (Value.builtin "str.lower") [Value.str _ _]) _ _ _); (refine SCL.lower (by show 1 ≤ 5592405; omega) ?_); intro _))
set_option maxHeartbeats 4000000 in
theorem sub_call {prog : Program} {w : World} {dp un : Nat} {gd : Option (List Code)} {outer : List Env} {s : Shared} {Q E : Value → Shared → Prop} {c d : Nat} {t u : Tok}
    (R : Rdy w dp un gd outer s.heap)
    (hq : ∀ t h' tk, s.heap.StaysIn h' → Q (.int (cst c d : Int) t) { s with heap := h', toks := tk }) :
    wpAny (model prog w) (Ar dp un gd outer) (call (.ref 65) [.str ⟨#[c]⟩ t, .str ⟨#[d]⟩ u]) Q E s := by
  k_dflt (refine' enter (binds := [(Str.ofString "ch_a", .str ⟨#[c]⟩ t), (Str.ofString "ch_b", .str ⟨#[d]⟩ u)]) R ?k6 ?k7 ?k9 ?kB ?_ ?c2 ?c3 ?c4 ?c5; (case k6 => k_is); (case k7 => k_is); (case k9 => exact BindsTo.of_eq rfl); (case kB => exact locs rfl); (case c5 => decide); (case c2 => exact rfl); (case c3 => exact rfl); (case c4 => exact rfl))
  intro base p loose mean mg mb h₁ F N B X T
  (try dsimp only)
  (try k_fold)
  k_steps
  all_goals try dsimp only
  · rename_i h1
    have e : (cst c d : Int) = 0 := by
      rw [one_beq, decide_eq_true_iff] at h1
      unfold cst; rw [if_pos h1]; rfl
    show Q (.int 0 _) _
    rw [← e]; exact hq _ _ _ F.keep
  · rename_i h1 _ _ h2
    have e : (cst c d : Int) = 1 := by
      rw [one_beq, decide_eq_false_iff_not] at h1
      unfold cst; rw [if_neg h1, if_pos (beq_iff_eq.mp h2)]; rfl
    show Q (.int 1 _) _
    rw [← e]; exact hq _ _ _ F.keep
  · rename_i h1 _ _ h2
    have e : (cst c d : Int) = 2 := by
      rw [one_beq, decide_eq_false_iff_not] at h1
      unfold cst; rw [if_neg h1, if_neg (fun q => by rw [q] at h2; simp at h2)]; rfl
    show Q (.int 2 _) _
    rw [← e]; exact hq _ _ _ F.keep
end
end Mine
end
section
open PySem PySem.W PyProof.Rows PySem.Calls PyProof.V PySem.Spec
set_option maxRecDepth 100000
namespace Mine
theorem fitsL {i : Int} (h1 : -100000 ≤ i) (h2 : i ≤ 100000) : Builtin.Range.rangeFitsLong i = true := by
  unfold Builtin.Range.rangeFitsLong
  rw [Bool.and_eq_true, decide_eq_true_iff, decide_eq_true_iff]
  omega
theorem sub1 {α : Type} {x : α} {l l' : List α} : ∀ p ∈ x :: l, p ∈ x :: (l ++ l') := fun p hp => by
  rcases List.mem_cons.mp hp with rfl | h
  · exact .head _
  · exact .tail _ (List.mem_append_left _ h)
theorem sub2 {α : Type} {x : α} {l l' : List α} : ∀ p ∈ l', p ∈ x :: (l ++ l') := fun p hp => .tail _ (List.mem_append_right _ hp)
section
variable {prog : Program} {w : World} {A : Around} {E : Value → Shared → Prop} {s : Shared} {env : Env} {h₀ : Heap} {x : Str} {body : List Stmt} {Q : Flow → Shared → Prop} {σ : Type}
def JJ (Led : σ → List (Addr × Obj)) (ps : σ → List (Str × Value)) (P : Nat → σ → Prop) (i : Nat) (m : Str → Option Value) (nx : List (Addr × Obj)) : Prop :=
  ∃ c : σ, nx = Led c ∧ (∀ p ∈ ps c, m p.1 = some p.2) ∧ P i c
def Turned (h₀ : Heap) (L : Addr) (Led : σ → List (Addr × Obj)) (ps : σ → List (Str × Value)) (P : Nat → σ → Prop) (i : Nat) (own : List (Addr × Obj)) (adr : List Addr) (s₁ : Shared) (Q : Flow → Shared → Prop) (f : Flow) (s₂ : Shared) : Prop :=
  InvPostN h₀ L (JJ Led ps P i) own adr s₁ Q f s₂
theorem Turned.next {L : Addr} {Led : σ → List (Addr × Obj)} {ps : σ → List (Str × Value)} {P : Nat → σ → Prop} {i : Nat} {own news' : List (Addr × Obj)} {adr : List Addr} {s₁ : Shared} {h' : Heap} {tk : Nat} {m' : Str → Option Value} (c : σ)
    (F : Fr h₀ L h' m') (N : News h₀ L h' news') (hn : ∀ p ∈ Led c, p ∈ news') (ho : ∀ p ∈ own, p ∈ news') (ha : (Led c).map (·.1) = adr) (hk : ∀ p ∈ ps c, m' p.1 = some p.2) (hp : P i c) :
    Turned h₀ L Led ps P i own adr s₁ Q .next { s₁ with heap := h', toks := tk } :=
  ⟨h', tk, m', news', Led c, rfl, F, N, hn, ho, ha, c, rfl, hk, hp⟩
theorem Turned.ret {L : Addr} {Led : σ → List (Addr × Obj)} {ps : σ → List (Str × Value)} {P : Nat → σ → Prop} {i : Nat} {own : List (Addr × Obj)} {adr : List Addr} {s₁ s₂ : Shared} {v : Value} (h : Q (.ret v) s₂) : Turned h₀ L Led ps P i own adr s₁ Q (.ret v) s₂ := h
theorem for_range {r : Addr} {b : Int} {t₀ u₀ v₀ : Tok} {n : Nat} {m₀ : Str → Option Value} (Led : σ → List (Addr × Obj)) (ps : σ → List (Str × Value)) (P : Nat → σ → Prop) (c₀ : σ)
    (hh : A.handled = none) (hr : IsRange s.heap r 0 b 1 t₀ u₀ v₀) (hb : b = (n : Int)) (hn9 : n ≤ 10000) (F : Fr h₀ env.locals s.heap m₀) (N : News h₀ env.locals s.heap (Led c₀)) (hk : ∀ p ∈ ps c₀, m₀ p.1 = some p.2) (hp : P 0 c₀)
    (turn : ∀ (c : σ) (i : Nat) (t : Tok) (m' : Str → Option Value) (h : Heap) (tk : Nat) (own : List (Addr × Obj)), i < n → P i c → OwnOff own ((Led c₀).map (·.1)) → (Led c).map (·.1) = (Led c₀).map (·.1) →
      Fr h₀ env.locals h (fun y => if y = x then some (.int i t) else kstB m' (ps c) y) → News h₀ env.locals h (Led c ++ own) →
      wpAny (model prog w) A (execs body env) (Turned h₀ env.locals Led ps P (i + 1) own ((Led c₀).map (·.1)) { s with heap := h, toks := tk } Q) E { s with heap := h, toks := tk })
    (done : ∀ (c : σ) (h : Heap) (tk : Nat) (m' : Str → Option Value), P n c → Fr h₀ env.locals h (kstB m' (ps c)) → News h₀ env.locals h (Led c) → Q .next { s with heap := h, toks := tk }) :
    wpAny (model prog w) A (pyIter (.ref r)) (fun it s₂ => LoopAtV prog w A h₀ env x body Q E it s₂) E s := by
  subst hb
  have hsz : Builtin.Range.rangeSize 0 (n : Int) 1 = (n : Int) := by
    rw [rangeSize_nat]; omega
  refine wpAny_pyIter_range hr (small_one (by omega) (by omega) (by omega) (by omega)) ?_
  have W : Walks prog w A s.heap.objs.size [s.heap.objs.size] [s.heap.objs.size] n (fun i v => i < n ∧ ∃ t, v = .int (0 + i * 1) t)
      (fun i h => IsRangeIter h s.heap.objs.size (0 + (i : Nat) * 1) ((n : Int) - (i : Nat)) 1) := (Walks.range hh _ 0 1 n).bound
  refine loop_invN (fun i m nx => JJ Led ps P i m nx) W ?_ ?_ ?_ ?_ (by show IsRangeIter _ _ _ _ _; rw [hsz]; simpa using Heap.get?_push_size _ rfl) (F.push _) (fun p hp => ⟨Heap.get?_push_of_some _ (N p hp).1, (N p hp).2⟩) ⟨c₀, rfl, hk, hp⟩ ?_ ?_
  · intro hm
    exact absurd F.ns.lt ((List.mem_singleton.mp hm) ▸ Nat.lt_irrefl _)
  · intro b hb
    rw [List.mem_singleton.mp hb]
    exact next_is_new F
  · intro p hp hI
    exact absurd (Heap.lt_size (N p hp).1) ((List.mem_singleton.mp hI) ▸ Nat.lt_irrefl _)
  · intro p hp hI
    exact absurd (Heap.lt_size (N p hp).1) ((List.mem_singleton.mp hI) ▸ Nat.lt_irrefl _)
  · rintro i v m₁ nx h tk own hi ⟨_, t, rfl⟩ hadr hoff ⟨c, rfl, h1, hp'⟩ F₁ N₁
    have e1 : (0 : Int) + (i : Int) * 1 = (i : Int) := by omega
    rw [e1] at F₁
    refine turn c i t m₁ h tk own hi hp' hoff hadr ?_ N₁
    have em : kstB m₁ (ps c) = m₁ := by
      funext y
      exact kstB_eq h1 fun _ => rfl
    rw [em]
    exact F₁
  · rintro m₁ nx h tk ⟨c, rfl, h1, hp'⟩ F₁ N₁
    exact done c h tk m₁ hp' (fr_named F₁ h1) N₁
end
end Mine
end
section
open PySem PySem.W PyProof.Rows PySem.Calls
set_option maxRecDepth 100000
namespace Mine
def W1 (x y : Str) (k : Nat) : Prop := k ≤ x.length ∧ k ≤ y.length ∧ (ls x).take k = (ls y).take k
theorem W1.zero (x y : Str) : W1 x y 0 := ⟨Nat.zero_le _, Nat.zero_le _, rfl⟩
theorem W1.next {x y : Str} {k : Nat} (h : W1 x y k) (hx : k < x.length) (hy : k < y.length) (e : (Txt.item x (k : Int) == Txt.item y (k : Int)) = true) : W1 x y (k + 1) := by
  rw [it_pos hx, it_pos hy, one_beq, decide_eq_true_iff] at e
  refine ⟨hx, hy, ?_⟩
  have h1 : (ls x).take (k + 1) = (ls x).take k ++ [(ls x).getD k 0] := by
    rw [List.take_add_one, List.getD_eq_getElem?_getD, List.getElem?_eq_getElem (by rw [ls_len]; exact hx)]; rfl
  have h2 : (ls y).take (k + 1) = (ls y).take k ++ [(ls y).getD k 0] := by
    rw [List.take_add_one, List.getD_eq_getElem?_getD, List.getElem?_eq_getElem (by rw [ls_len]; exact hy)]; rfl
  rw [h1, h2, h.2.2, e]
structure Cmn (x y x' y' : Str) : Prop where
  lx : x'.length ≤ x.length
  ly : y'.length ≤ y.length
  ed : lev cst (ls x') (ls y') = lev cst (ls x) (ls y)
def W2 (x y : Str) (k : Nat) : Prop := k ≤ x.length ∧ k ≤ y.length ∧ (ls x).drop (x.length - k) = (ls y).drop (y.length - k)
theorem W2.zero (x y : Str) : W2 x y 0 := ⟨Nat.zero_le _, Nat.zero_le _, by rw [Nat.sub_zero, Nat.sub_zero, ← ls_len, ← ls_len, List.drop_length, List.drop_length]⟩
theorem W2.len {x y : Str} {k : Nat} (h : W2 x y k) : ((-(k : Int) ≠ 0 → (Txt.slice x none (some (-(k : Int)))).length = x.length - k) ∧ (Txt.slice x none none).length = x.length) ∧ (-(k : Int) ≠ 0 → (Txt.slice y none (some (-(k : Int)))).length = y.length - k) ∧ (Txt.slice y none none).length = y.length := by
  refine ⟨⟨fun h0 => ?_, by rw [sl_none]⟩, fun h0 => ?_, by rw [sl_none]⟩
  · rw [← ls_len, sl_neg (by omega) h.1, List.length_take, ls_len]; omega
  · rw [← ls_len, sl_neg (by omega) h.2.1, List.length_take, ls_len]; omega
theorem drop_back {l : List Nat} {k : Nat} (h : k < l.length) : l.drop (l.length - (k + 1)) = l.getD (l.length - (k + 1)) 0 :: l.drop (l.length - k) := by
  rw [List.drop_eq_getElem_cons (by omega), show l.length - (k + 1) + 1 = l.length - k by omega]
  simp [List.getD_eq_getElem?_getD, List.getElem?_eq_getElem (show l.length - (k + 1) < l.length by omega)]
theorem W2.next {x y : Str} {k : Nat} (h : W2 x y k) (hx : k < x.length) (hy : k < y.length) (e : (Txt.item x (-(k : Int) - 1) == Txt.item y (-(k : Int) - 1)) = true) : W2 x y (k + 1) := by
  rw [show (-(k : Int) - 1) = -((k + 1 : Nat) : Int) by omega, it_neg (by omega) (by omega), it_neg (by omega) (by omega), one_beq, decide_eq_true_iff] at e
  refine ⟨hx, hy, ?_⟩
  rw [← ls_len] at hx hy e ⊢
  rw [← ls_len y] at e ⊢
  have h3 := h.2.2
  rw [← ls_len, ← ls_len y] at h3
  rw [drop_back hx, drop_back hy, h3, e]
theorem cst_self (c : Nat) : cst c c = 0 := by unfold cst; rw [if_pos rfl]
theorem cst_le (c d : Nat) : cst c d ≤ 2 := by unfold cst; split; exact Nat.zero_le _; split <;> decide
theorem cst_comm (c d : Nat) : cst c d = cst d c := by
  unfold cst
  by_cases h : c = d
  · rw [if_pos h, if_pos h.symm]
  · rw [if_neg h, if_neg fun q : d = c => h q.symm]
    by_cases h2 : Txt.lower ⟨#[c]⟩ = Txt.lower ⟨#[d]⟩
    · rw [if_pos h2, if_pos h2.symm]
    · rw [if_neg h2, if_neg fun q => h2 q.symm]
theorem W1.cut {x y : Str} {k : Nat} (h : W1 x y k) : Cmn x y (Txt.slice x (some (k : Int)) none) (Txt.slice y (some (k : Int)) none) := by
  have ex := sl_from h.1
  have ey := sl_from h.2.1
  refine ⟨by rw [← ls_len, ex, List.length_drop, ls_len]; omega, by rw [← ls_len, ey, List.length_drop, ls_len]; omega, ?_⟩
  rw [ex, ey]
  have := lev_pre (c := cst) cst_self ((ls x).take k) ((ls x).drop k) ((ls y).drop k)
  rw [List.take_append_drop, h.2.2, List.take_append_drop] at this
  exact this.symm
theorem W2.cut {x y x2 y2 : Str} {k : Nat} (h : W2 x y k) (hx : ls x2 = (ls x).take (x.length - k)) (hy : ls y2 = (ls y).take (y.length - k)) : Cmn x y x2 y2 := by
  refine ⟨by rw [← ls_len, hx, List.length_take, ls_len]; omega, by rw [← ls_len, hy, List.length_take, ls_len]; omega, ?_⟩
  rw [hx, hy]
  have := lev_post (c := cst) cst_self ((ls x).drop (x.length - k)) ((ls x).take (x.length - k)) ((ls y).take (y.length - k))
  rw [List.take_append_drop, h.2.2, List.take_append_drop] at this
  exact this.symm
theorem Cmn.swap {x y x' y' : Str} (h : Cmn x y x' y') : lev cst (ls y') (ls x') = lev cst (ls x) (ls y) := by rw [lev_swap cst_comm, h.ed]
theorem Cmn.empty {x y x' y' : Str} (h : Cmn x y x' y') (h0 : x'.length = 0 ∨ y'.length = 0) : lev cst (ls x) (ls y) = 2 * (x'.length + y'.length) := by
  rw [← h.ed]
  rcases h0 with h0 | h0
  · have : ls x' = [] := List.length_eq_zero_iff.mp (by rw [ls_len]; exact h0)
    rw [this, lev_nil, ls_len]; omega
  · have : ls y' = [] := List.length_eq_zero_iff.mp (by rw [ls_len]; exact h0)
    rw [this, lev_nil2, ls_len]; omega
structure Cm2 (x y a b : Str) : Prop where
  ab : a.length ≤ b.length
  b40 : b.length ≤ 40
  a0 : 0 < a.length
  ed : lev cst (ls a) (ls b) = lev cst (ls x) (ls y)
structure Inn (a b : List Nat) (j i : Nat) (ns : List Int) (dist res mini : Int) : Prop where
  len : ns.length = a.length
  row : ∀ q, q < a.length → ns.getD q 0 = if q < i then (dp cst a b (j + 1) (q + 1) : Int) else (dp cst a b j (q + 1) : Int)
  dist : dist = (dp cst a b j i : Int)
  res : res = if i = 0 then 2 * (j : Int) else (dp cst a b (j + 1) i : Int)
  mini : ∀ q, q < i → mini ≤ (dp cst a b (j + 1) (q + 1) : Int)
structure Out (a b : List Nat) (j : Nat) (ns : List Int) (res : Int) : Prop where
  len : ns.length = a.length
  row : ∀ q, q < a.length → ns.getD q 0 = (dp cst a b j (q + 1) : Int)
  res : res = if j = 0 then 0 else (dp cst a b j a.length : Int)
theorem Out.start {a b : List Nat} {ns : List Int} (h : ns = (List.range a.length).map fun (i : Nat) => 2 + (i : Int) * 2) : Out a b 0 ns 0 := by
  subst h
  refine ⟨by simp, fun q hq => ?_, rfl⟩
  rw [dp_zero, List.getD_eq_getElem?_getD, List.getElem?_map, List.getElem?_range hq]
  show 2 + (q : Int) * 2 = ((2 * (q + 1) : Nat) : Int)
  omega
theorem Out.inn {a b : List Nat} {j : Nat} {ns : List Int} {r : Int} (h : Out a b j ns r) (m : Int) : Inn a b j 0 ns (j * 2) (j * 2) m := by
  refine ⟨h.len, fun q hq => ?_, ?_, ?_, fun q hq => absurd hq (Nat.not_lt_zero _)⟩
  · rw [if_neg (Nat.not_lt_zero _)]; exact h.row q hq
  · rw [dp_left]; omega
  · rw [if_pos rfl]; omega
theorem Inn.out {a b : List Nat} {j : Nat} {ns : List Int} {d r m : Int} (h : Inn a b j a.length ns d r m) (ha : 0 < a.length) : Out a b (j + 1) ns r := by
  refine ⟨h.len, fun q hq => ?_, ?_⟩
  · have := h.row q hq; rwa [if_pos hq] at this
  · have := h.res; rw [if_neg (by omega)] at this; rw [if_neg (by omega)]; exact this
theorem Inn.least {a b : List Nat} {j : Nat} {ns : List Int} {d r m : Int} (h : Inn a b j a.length ns d r m) (ha : 0 < a.length) (hj : j < b.length) : m ≤ (lev cst a b : Int) := by
  obtain ⟨k, hk, hle⟩ := dp_row (c := cst) cst_le a b ha j hj
  have := h.mini k hk
  rw [dp_whole, lev_swap cst_comm] at hle
  omega
theorem Out.done {a b : List Nat} {ns : List Int} {r : Int} (h : Out a b b.length ns r) (hb : 0 < b.length) : r = (lev cst a b : Int) := by
  have := h.res
  rw [if_neg (by omega), dp_whole, lev_swap cst_comm] at this
  exact this
theorem getD_set {ns : List Int} {i q : Nat} {x : Int} (hi : i < ns.length) : (ns.set i x).getD q 0 = if q = i then x else ns.getD q 0 := by
  rw [List.getD_eq_getElem?_getD, List.getElem?_set, List.getD_eq_getElem?_getD]
  by_cases h : i = q
  · subst h; simp [hi]
  · rw [if_neg h, if_neg fun e => h e.symm]
theorem Inn.next {a b : List Nat} {j i : Nat} {ns : List Int} {d r m : Int} (h : Inn a b j i ns d r m) (hi : i < a.length) {d' r' m' : Int} (hd : d' = ns.getD i 0)
    (hr : r' = min (min r d' + 2) (d + (cst (b.getD j 0) (a.getD i 0) : Int))) (hm1 : m' ≤ m) (hm2 : m' ≤ r') : Inn a b j (i + 1) (ns.set i r') d' r' m' := by
  have hd2 : d' = (dp cst a b j (i + 1) : Int) := by rw [hd, h.row i hi, if_neg (Nat.lt_irrefl _)]
  have hr2 : r' = (dp cst a b (j + 1) (i + 1) : Int) := by
    rw [hr, h.dist, hd2, h.res]
    by_cases h0 : i = 0
    · subst h0
      rw [if_pos rfl, Nat.zero_add, dp_first cst_le, dp_left]
      omega
    · rw [if_neg h0, dp_step]
      omega
  have hl : i < ns.length := by rw [h.len]; exact hi
  refine ⟨by rw [List.length_set]; exact h.len, fun q hq => ?_, hd2, by rw [if_neg (by omega)]; exact hr2, fun q hq => ?_⟩
  · rw [getD_set hl]
    by_cases e : q = i
    · subst e; rw [if_pos rfl, if_pos (by omega)]; exact hr2
    · rw [if_neg e, h.row q hq]
      by_cases e2 : q < i
      · rw [if_pos e2, if_pos (by omega)]
      · rw [if_neg e2, if_neg (by omega)]
  · by_cases e : q = i
    · subst e; rw [← hr2]; exact hm2
    · exact Int.le_trans hm1 (h.mini q (by omega))
end Mine
end
section
open PySem PySem.W PyProof.Rows PySem.Calls
set_option maxRecDepth 100000
namespace Mine
section
local macro_rules | `(tactic| walk_at "ite") => `(tactic| (k_here; k_openite; first | (refine ite_pos (by (try simp only [decide_eq_true_eq]); omega) ?_) | (refine ite_neg (by (try simp only [decide_eq_true_eq]); omega) ?_)))
local macro_rules | `(tactic| walk_at "subscriptTail Name Slice str ref") => `(tactic| ((with_reducible show wpAny _ _ (subscriptTail _ (Expr.Slice none (some (Expr.BoolOp _ _ _)) none _) _ _) _ _ _); (with_reducible rename Fr _ _ _ _ => F'); (with_reducible rename News _ _ _ _ => N'); refine slice_strN_nn_len (s := ⟨_, _, _, _, _⟩) F' N' ?_; intro _ _ _ _ _ _))
local macro_rules | `(tactic| walk_at "my same") => `(tactic| (intro z h2 _; (have hz := h2 _ (List.Mem.head _)); (dsimp only at hz); (simp [kstB, hz])))
local macro_rules | `(tactic| walk_at "my stop") => `(tactic| first | (with_reducible show wpAny _ _ (exec (Stmt.While _ _ _ _) _) _ _ _) | (with_reducible show wpAny _ _ (exec (Stmt.For _ _ _ _ _) _) _ _ _) | (with_reducible show wpAny _ _ (call (Value.ref _) _ _) _ _ _) | (with_reducible show wpAny _ _ (execs _ _) _ _ _) | (with_reducible show wpAny _ _ (pyIter _) _ _ _))
local macro_rules | `(tactic| walk_at "my steps") => `(tactic| repeat' (first | (k_unfold; (try dsimp only)) | ((fail_if_success (walk_at "my stop")); first | walk1 | (dsimp only; walk1))))
local macro_rules | `(tactic| walk_at "my go") => `(tactic| ((first | refine wpAny_execs_cons ?_ | (refine wpAny_execs_nil ?_; (try dsimp only))); walk_at "my steps"; (all_goals try dsimp only)))
def forBody : Stmt → List Stmt
  | .For _ _ b _ _ => b
  | _ => []
abbrev InnS : Type := List Value × List Int × Nat × Int × Tok × Int × Tok × Int × Tok
set_option maxHeartbeats 4000000 in
theorem lev_inner {prog : Program} {w : World} {dp un : Nat} {gd : Option (List Code)} {outer : List Env} {s : Shared} {a : Str} {bl : List Nat} {bc j : Nat} {ta tbc t1 t2 t3 : Tok} {mm : Int}
    {name qual : Str} {params : Arguments} {body : List Stmt} {st : Stmt} {scope : Scope} {dV kV doc pm cdv ct oc : Value} {an od : Option Addr} {osl : Array (Option Value)}
    {base h' : Heap} {p : Program} {loose : List Str} {mean : ExcName → Option Value} {mg mb m' : Str → Option Value} {tk cc : Nat} {D : Addr} {us : List Value} {ns : List Int} {own : List (Addr × Obj)} {b : Str} {mc : Int} {tb tv : Tok}
    (ho : (Mine.hk.heap_1 w.params).lookup 72 = some ⟨oc, od, .func (fnOf name qual params body scope dV kV doc pm an cdv ct), osl⟩) (hst : ((body[15]?).map forBody).bind (·[3]?) = some st)
    (B : Below (Ar dp un gd outer) base outer s.heap) (X : (Mine.hk.heap_1 w.params).In s.heap) (T : Top p loose mean mg mb s.heap) (hdp : dp ≤ 599) (hun : un ≤ 997)
    (la : a.length ≤ 40) (hbc : bc = bl.getD j 0) (hI : IntsAre us ns) (hO : Inn (ls a) bl j 0 ns (j * 2) (j * 2) mm) (hne : ∀ q ∈ own, q.1 ≠ D)
    (F : Fr s.heap s.heap.objs.size h' (kstB m' ([(Str.ofString "distance", Value.int (j * 2) t1), (Str.ofString "result", Value.int (j * 2) t2), (Str.ofString "minimum", Value.int mm t3), (Str.ofString "row", Value.ref D), (Str.ofString "a", Value.str a ta), (Str.ofString "bchar", Value.str ⟨#[bc]⟩ tbc), (Str.ofString "b", Value.str b tb), (Str.ofString "max_cost", Value.int mc tv)]))) (N : News s.heap s.heap.objs.size h' ((D, listOf us.toArray cc) :: own)) :
    wpAny (model prog w) ((Ar dp un gd outer).deeper (envOf qual scope s.heap.objs.size 72 cdv)) (exec st (envOf qual scope s.heap.objs.size 72 cdv))
      (CutL (σ := InnS) s.heap s.heap.objs.size s (fun c => [(Str.ofString "result", Value.int c.2.2.2.2.2.1 c.2.2.2.2.2.2.1), (Str.ofString "minimum", Value.int c.2.2.2.2.2.2.2.1 c.2.2.2.2.2.2.2.2), (Str.ofString "row", Value.ref D), (Str.ofString "a", Value.str a ta), (Str.ofString "b", Value.str b tb), (Str.ofString "max_cost", Value.int mc tv)])
        (fun c => (D, listOf c.1.toArray c.2.2.1) :: own) (fun c => IntsAre c.1 c.2.1 ∧ Inn (ls a) bl j a.length c.2.1 c.2.2.2.1 c.2.2.2.2.2.1 c.2.2.2.2.2.2.2.1)) (fun _ _ => False) { s with heap := h', toks := tk } := by
  refine' pin ho ?e ?_
  case e => k_is
  intro hh
  cases hh
  cases hst
  clear ho
  refine For_invVF F rfl rfl ?_
  walk_at "my steps"
  dsimp only
  rename IsRange _ _ _ _ _ _ _ _ => hR
  rename Fr _ _ _ _ => F0
  rename News _ _ _ _ => N0
  refine for_range (σ := InnS) (fun c => (D, listOf c.1.toArray c.2.2.1) :: own)
    (fun c => [(Str.ofString "distance", Value.int c.2.2.2.1 c.2.2.2.2.1), (Str.ofString "result", Value.int c.2.2.2.2.2.1 c.2.2.2.2.2.2.1), (Str.ofString "minimum", Value.int c.2.2.2.2.2.2.2.1 c.2.2.2.2.2.2.2.2), (Str.ofString "row", Value.ref D), (Str.ofString "a", Value.str a ta), (Str.ofString "bchar", Value.str ⟨#[bc]⟩ tbc), (Str.ofString "b", Value.str b tb), (Str.ofString "max_cost", Value.int mc tv)])
    (fun i c => IntsAre c.1 c.2.1 ∧ Inn (ls a) bl j i c.2.1 c.2.2.2.1 c.2.2.2.2.2.1 c.2.2.2.2.2.2.2.1) (us, ns, cc, (j * 2), t1, (j * 2), t2, mm, t3) rfl hR rfl (by omega) F0 N0 (by kst_all) ⟨hI, hO⟩ ?_ ?_
  all_goals clear hI hO F0 N0
  · rename Fr _ _ _ _ => F0
    rename News _ _ _ _ => N0
    clear F0 N0
    rintro ⟨us, ns, cc, d, td, r, tr, mn, tm⟩ i t m' h tk own' hi ⟨hI, hO⟩ hoff _ F N
    dsimp only at hI hO F N
    clear hR
    have F2 : Fr s.heap s.heap.objs.size h _ := F
    have N2 : News s.heap s.heap.objs.size h ((D, listOf us.toArray cc) :: (own ++ own')) := N
    clear F N
    have hne' : ∀ q ∈ own ++ own', q.1 ≠ D := fun q hq => (List.mem_append.mp hq).elim (hne q) fun h9 => hoff q h9 D (.head _)
    have hlen := hO.len
    rw [ls_len] at hlen
    walk_at "my go"
    rw [it_pos hi]
    refine sub_call (Rdy.in B X T hdp hun F2 rfl) ?_
    intro t9 h9 tk9 st9
    have F3 := F2.keeps st9
    have N3 := N2.grown st9
    clear F2 N2 st9
    dsimp only
    walk_at "my steps"
    walk_at "my go"
    walk_at "my go"
    walk_at "my go"
    walk_at "my go"
    rename Fr _ _ _ _ => F4
    rename News _ _ _ _ => N4
    refine ksa_set F4 N4 (Upd.head hne') hI (by omega) (by omega) (by omega) ?_
    intro h5 F5 N5 hI5 _ _
    clear F4 N4
    simp only [Int.toNat_natCast] at F5 N5 hI5
    obtain ⟨r9, hr9⟩ : ∃ r9, r9 = (if d + (cst bc ((ls a).getD i 0) : Int) < (if ns.getD i 0 < r then ns.getD i 0 else r) + 2 then d + (cst bc ((ls a).getD i 0) : Int) else (if ns.getD i 0 < r then ns.getD i 0 else r) + 2) := ⟨_, rfl⟩
    rw [← hr9] at F5 N5 hI5
    have hrm : r9 = min (min r (ns.getD i 0) + 2) (d + (cst (bl.getD j 0) ((ls a).getD i 0) : Int)) := by
      rw [hr9, hbc]; split <;> split <;> omega
    have HN := fun (m9 : Int) (q1 : m9 ≤ mn) (q2 : m9 ≤ r9) => hO.next (by rw [ls_len]; exact hi) rfl hrm q1 q2
    clear hrm hr9
    dsimp only
    walk_at "my steps"
    walk_at "my go"
    · walk_at "my go"
      walk_at "my go"
      walk_at "my go"
      refine' Turned.next (us.set i (.int r9 _), ns.set i r9, cc, ns.getD i 0, _, r9, _, r9, _) (by assumption) (by assumption) sub1 sub2 rfl ?_ ⟨hI5, HN r9 (by omega) (by omega)⟩
      rotate_left 3
      kst_all
    · walk_at "my go"
      walk_at "my go"
      refine' Turned.next (us.set i (.int r9 _), ns.set i r9, cc, ns.getD i 0, _, r9, _, mn, _) (by assumption) (by assumption) sub1 sub2 rfl ?_ ⟨hI5, HN mn (by omega) (by omega)⟩
      rotate_left 3
      kst_all
  · rintro ⟨us, ns, cc, d, td, r, tr, mn, tm⟩ h tk m' ⟨hI, hO⟩ F N
    exact CutL.intro (us, ns, cc, d, td, r, tr, mn, tm) F N (by kst_all) ⟨hI, hO⟩
end
end Mine
end
section
open PySem PySem.W PyProof.Rows PySem.Calls
set_option maxRecDepth 100000
namespace Mine
theorem list_range2 {prog : Program} {w : World} {A : Around} {E Q : Value → Shared → Prop} {s : Shared} {h₀ : Heap} {L r : Addr} {m : Str → Option Value} {n : Nat} {t₀ u₀ v₀ : Tok} {b : Int}
    (hh : A.handled = none) (F : Fr h₀ L s.heap m) (hr : IsRange s.heap r 2 b 2 t₀ u₀ v₀) (hb : b = 2 * ((n : Int) + 1)) (hn : n ≤ 40)
    (h : ∀ D us c h' tk, Fr h₀ L h' m → News h₀ L h' [(D, listOf (List.toArray us) c)] → IntsAre us ((List.range n).map fun (i : Nat) => 2 + (i : Int) * 2) → Q (.ref D) { s with heap := h', toks := tk }) :
    wpAny (model prog w) A (call (.type "list") [.ref r]) Q E s := by
  subst hb
  have hsz : Builtin.Range.rangeSize 2 (2 * ((n : Int) + 1)) 2 = (n : Int) := by
    unfold Builtin.Range.rangeSize
    rw [if_pos (by decide)]
    split <;> omega
  refine call_list_range (n := n) hh hr ?_ hsz (by omega) fun h' tk acc c hk hD hI => ?_
  · unfold Builtin.Range.small
    rw [hsz]
    rw [if_pos (by decide), fitsL (i := 2) (by decide) (by decide), fitsL (i := 2 * ((n : Int) + 1)) (by omega) (by omega), fitsL (i := (n : Int)) (by omega) (by omega), fitsL (i := 2 * ((n : Int) + 1) + (2 - 1)) (by omega) (by omega)]
    simp
  · have hD' : h'.get? s.heap.objs.size = some (listOf (List.toArray acc.toList) c) := by
      rw [Array.toArray_toList]
      exact hD
    refine h _ acc.toList c h' tk (F.keeps hk) (news_pushed F News.nil hk hD' rfl) ?_
    have hl : acc.toList.length = n := by rw [Array.length_toList]; exact hI.1
    have hg : ∀ (j : Nat) (v : Value), acc.toList[j]? = some v → ∃ t, v = Value.int (2 + (j : Int) * 2) t := fun j v hj => hI.2 j v (by rw [← hj, Array.getElem?_toList])
    revert hl hg
    generalize acc.toList = l
    intro hl hg
    subst hl
    clear hI hD hD' hsz hn hr h
    have key : ∀ (l : List Value) (k : Nat), (∀ (j : Nat) (v : Value), l[j]? = some v → ∃ t, v = Value.int (2 + ((j + k : Nat) : Int) * 2) t) → IntsAre l ((List.range l.length).map fun (i : Nat) => 2 + ((i + k : Nat) : Int) * 2) := by
      intro l
      induction l with
      | nil => intro k _; exact .nil
      | cons v r ih =>
        intro k hg
        obtain ⟨t, rfl⟩ := hg 0 v rfl
        rw [List.length_cons, List.range_succ_eq_map, List.map_cons, List.map_map]
        refine .cons _ _ ?_
        have := ih (k + 1) fun j v hj => by
          obtain ⟨t, ht⟩ := hg (j + 1) v hj
          exact ⟨t, by rw [ht, show j + 1 + k = j + (k + 1) by omega]⟩
        refine (Eq.subst (motive := fun x => IntsAre r x) ?_ this)
        apply List.map_congr_left
        intro i _
        show 2 + ((i + (k + 1) : Nat) : Int) * 2 = 2 + ((i + 1 + k : Nat) : Int) * 2
        rw [show i + (k + 1) = i + 1 + k by omega]
    exact key l 0 hg
section
local macro_rules | `(tactic| walk_at "ite") => `(tactic| (k_here; k_openite; first | (refine ite_pos (by (try simp only [decide_eq_true_eq]); omega) ?_) | (refine ite_neg (by (try simp only [decide_eq_true_eq]); omega) ?_)))
local macro_rules | `(tactic| walk_at "subscriptTail Name Slice str ref") => `(tactic| ((with_reducible show wpAny _ _ (subscriptTail _ (Expr.Slice none (some (Expr.BoolOp _ _ _)) none _) _ _) _ _ _); (with_reducible rename Fr _ _ _ _ => F'); (with_reducible rename News _ _ _ _ => N'); refine slice_strN_nn_len (s := ⟨_, _, _, _, _⟩) F' N' ?_; intro _ _ _ _ _ _))
local macro_rules | `(tactic| walk_at "my same") => `(tactic| (intro z h2 _; (have hz := h2 _ (List.Mem.head _)); (dsimp only at hz); (simp [kstB, hz])))
local macro_rules | `(tactic| walk_at "my stop") => `(tactic| first | (with_reducible show wpAny _ _ (exec (Stmt.While _ _ _ _) _) _ _ _) | (with_reducible show wpAny _ _ (exec (Stmt.For _ _ _ _ _) _) _ _ _) | (with_reducible show wpAny _ _ (call (Value.ref _) _ _) _ _ _) | (with_reducible show wpAny _ _ (execs _ _) _ _ _) | (with_reducible show wpAny _ _ (pyIter _) _ _ _))
local macro_rules | `(tactic| walk_at "my steps") => `(tactic| repeat' (first | (k_unfold; (try dsimp only)) | ((fail_if_success (walk_at "my stop")); first | walk1 | (dsimp only; walk1))))
local macro_rules | `(tactic| walk_at "my go") => `(tactic| ((first | refine wpAny_execs_cons ?_ | (refine wpAny_execs_nil ?_; (try dsimp only))); walk_at "my steps"; (all_goals try dsimp only)))
set_option maxHeartbeats 4000000 in
theorem lev_dp {prog : Program} {w : World} {dp un : Nat} {gd : Option (List Code)} {outer : List Env} {s : Shared} {Q : Flow → Shared → Prop} {a b : Str} {mc : Int} {ta tb v : Tok}
    {name qual : Str} {params : Arguments} {body rest : List Stmt} {scope : Scope} {dV kV doc pm cdv ct oc : Value} {an od : Option Addr} {osl : Array (Option Value)}
    {base h' : Heap} {p : Program} {loose : List Str} {mean : ExcName → Option Value} {mg mb m' : Str → Option Value} {tk : Nat}
    (ho : (Mine.hk.heap_1 w.params).lookup 72 = some ⟨oc, od, .func (fnOf name qual params body scope dV kV doc pm an cdv ct), osl⟩) (hr : rest = body.drop 12)
    (B : Below (Ar dp un gd outer) base outer s.heap) (X : (Mine.hk.heap_1 w.params).In s.heap) (T : Top p loose mean mg mb s.heap) (hdp : dp ≤ 599) (hun : un ≤ 997)
    (lab : a.length ≤ b.length) (lb : b.length ≤ 40) (la : 0 < a.length) (hm : (lev cst (ls a) (ls b) : Int) ≤ mc)
    (F : Fr s.heap s.heap.objs.size h' (kstB m' [(Str.ofString "a", Value.str a ta), (Str.ofString "b", Value.str b tb), (Str.ofString "max_cost", Value.int mc v)])) (N : News s.heap s.heap.objs.size h' [])
    (hq : ∀ t h' tk, s.heap.StaysIn h' → Q (.ret (.int (lev cst (ls a) (ls b) : Int) t)) { s with heap := h', toks := tk }) :
    wpAny (model prog w) ((Ar dp un gd outer).deeper (envOf qual scope s.heap.objs.size 72 cdv)) (execs rest (envOf qual scope s.heap.objs.size 72 cdv)) Q (fun _ _ => False) { s with heap := h', toks := tk } := by
  refine' pin ho ?e ?_
  case e => k_is
  intro hh
  cases hh
  subst hr
  clear ho
  dsimp only [List.drop]
  have hl := lev_len (c := cst) (ls a) (ls b)
  rw [ls_len, ls_len] at hl
  walk_at "my go"
  walk_at "my go"
  walk_at "my go"
  rename IsRange _ _ _ _ _ _ _ _ => hR
  refine list_range2 (n := a.length) rfl (by assumption) hR rfl (by omega) ?_
  intro D us cc h1 tk1 F1 N1 hI
  dsimp only
  walk_at "my steps"
  walk_at "my go"
  rename Fr _ _ _ _ => F2
  rename News _ _ _ _ => N2
  obtain ⟨m1, F3⟩ : ∃ m1, Fr s.heap s.heap.objs.size _ (kstB m1 [(Str.ofString "result", Value.int 0 _), (Str.ofString "row", Value.ref D), (Str.ofString "a", Value.str a ta), (Str.ofString "b", Value.str b tb), (Str.ofString "max_cost", Value.int mc v)]) := ⟨_, fr_named F2 (by kst_all)⟩
  clear F2 hR
  have hO := Out.start (a := ls a) (b := ls b) (ns := (List.range a.length).map fun (i : Nat) => 2 + (i : Int) * 2) (by rw [ls_len])
  refine wpAny_execs_cons ?_
  refine cutL (s := s) (h₀ := s.heap) (L := s.heap.objs.size) (σ := Int × Tok) (fun c => [(Str.ofString "result", Value.int c.1 c.2)]) (fun _ => []) (fun c => c.1 = (lev cst (ls a) (ls b) : Int)) ?_ ?_
  · refine For_invVF F3 rfl rfl ?_
    walk_at "my steps"
    dsimp only
    rename IsRange _ _ _ _ _ _ _ _ => hR
    rename Fr _ _ _ _ => F0
    rename News _ _ _ _ => N0
    refine for_range (σ := List Value × List Int × Nat × Int × Tok) (fun c => [(D, listOf c.1.toArray c.2.2.1)])
      (fun c => [(Str.ofString "result", Value.int c.2.2.2.1 c.2.2.2.2), (Str.ofString "row", Value.ref D), (Str.ofString "a", Value.str a ta), (Str.ofString "b", Value.str b tb), (Str.ofString "max_cost", Value.int mc v)])
      (fun i c => IntsAre c.1 c.2.1 ∧ Out (ls a) (ls b) i c.2.1 c.2.2.2.1) (us, _, cc, 0, _) rfl hR rfl (by omega) F0 N0 (by kst_all) ⟨hI, hO⟩ ?_ ?_
    all_goals clear hI hO F0 N0
    · rename Fr _ _ _ _ => F0
      rename News _ _ _ _ => N0
      clear F0 N0 hR
      rintro ⟨us, ns, cc, r, tr⟩ j t m' h tk own hj ⟨hI, hO⟩ hoff _ F N
      dsimp only at hI hO F N
      have F2 : Fr s.heap s.heap.objs.size h _ := F
      have N2 : News s.heap s.heap.objs.size h ((D, listOf us.toArray cc) :: own) := N
      clear F N
      have hne : ∀ q ∈ own, q.1 ≠ D := fun q h9 => hoff q h9 D (.head _)
      walk_at "my go"
      walk_at "my go"
      walk_at "my go"
      rename Fr _ _ _ _ => F2
      rename News _ _ _ _ => N2
      rw [it_pos hj] at F2
      obtain ⟨m1, F3⟩ : ∃ m1, Fr s.heap s.heap.objs.size _ (kstB m1 [(Str.ofString "distance", Value.int (j * 2) _), (Str.ofString "result", Value.int (j * 2) _), (Str.ofString "minimum", Value.int 9223372036854775807 _), (Str.ofString "row", Value.ref D), (Str.ofString "a", Value.str a ta), (Str.ofString "bchar", Value.str ⟨#[(ls b).getD j 0]⟩ _), (Str.ofString "b", Value.str b tb), (Str.ofString "max_cost", Value.int mc v)]) := ⟨_, fr_named F2 (by kst_all)⟩
      clear F2
      refine wpAny_execs_cons ?_
      refine' cutL (σ := InnS) _ _ _ (lev_inner ?ho2 ?hst2 B X T hdp hun (by omega) rfl hI (hO.inn _) hne F3 N2) ?_
      case ho2 => k_is
      case hst2 => exact rfl
      clear F3 N2 hI hO
      rintro ⟨us, ns, cc, d, td, r, tr, mn, tm⟩ h' tk m' ⟨hI, hO⟩ F N
      dsimp only at hI hO F N
      have hle := Inn.least (by rw [ls_len]; exact hO) (by rw [ls_len]; exact la) (by rw [ls_len]; exact hj)
      have hO2 := Inn.out (by rw [ls_len]; exact hO) (by rw [ls_len]; exact la)
      clear hO
      walk_at "my go"
      walk_at "my go"
      walk_at "my go"
      exact Turned.next (us, ns, cc, r, tr) F N (sub1 (l := [])) (sub2 (l := [])) rfl (by kst_all) ⟨hI, hO2⟩
    · rintro ⟨us, ns, cc, r, tr⟩ h tk m' ⟨hI, hO⟩ F N
      exact CutL.intro (r, tr) F News.nil (by kst_all) (Out.done (by rw [ls_len]; exact hO) (by rw [ls_len]; omega))
  · rintro ⟨r, tr⟩ h tk m' hr F N
    dsimp only at hr F
    subst hr
    clear F3
    walk_at "my go"
    exact hq _ _ _ F.keep
end
end Mine
end
section
open PySem PySem.W PyProof.Rows PySem.Calls
set_option maxRecDepth 100000
namespace Mine
section
local macro_rules | `(tactic| walk_at "ite") => `(tactic| (k_here; k_openite; first | (refine ite_pos (by (try simp only [decide_eq_true_eq]); omega) ?_) | (refine ite_neg (by (try simp only [decide_eq_true_eq]); omega) ?_)))
local macro_rules | `(tactic| walk_at "subscriptTail Name Slice str ref") => `(tactic| ((with_reducible show wpAny _ _ (subscriptTail _ (Expr.Slice none (some (Expr.BoolOp _ _ _)) none _) _ _) _ _ _); (with_reducible rename Fr _ _ _ _ => F'); (with_reducible rename News _ _ _ _ => N'); refine slice_strN_nn_len (s := ⟨_, _, _, _, _⟩) F' N' ?_; intro _ _ _ _ _ _))
local macro_rules | `(tactic| walk_at "my same") => `(tactic| (intro z h2 _; (have hz := h2 _ (List.Mem.head _)); (dsimp only at hz); (simp [kstB, hz])))
local macro_rules | `(tactic| walk_at "my stop") => `(tactic| first | (with_reducible show wpAny _ _ (exec (Stmt.While _ _ _ _) _) _ _ _) | (with_reducible show wpAny _ _ (exec (Stmt.For _ _ _ _ _) _) _ _ _) | (with_reducible show wpAny _ _ (call (Value.ref _) _ _) _ _ _) | (with_reducible show wpAny _ _ (execs _ _) _ _ _) | (with_reducible show wpAny _ _ (pyIter _) _ _ _))
local macro_rules | `(tactic| walk_at "my steps") => `(tactic| repeat' (first | (k_unfold; (try dsimp only)) | ((fail_if_success (walk_at "my stop")); first | walk1 | (dsimp only; walk1))))
local macro_rules | `(tactic| walk_at "my go") => `(tactic| ((first | refine wpAny_execs_cons ?_ | (refine wpAny_execs_nil ?_; (try dsimp only))); walk_at "my steps"; (all_goals try dsimp only)))
set_option maxHeartbeats 4000000 in
theorem lev_rest {prog : Program} {w : World} {dp un : Nat} {gd : Option (List Code)} {outer : List Env} {s : Shared} {Q : Flow → Shared → Prop} {x y : Str} {mc : Int} {k : Nat} {t u v pt : Tok}
    {name qual : Str} {params : Arguments} {body rest : List Stmt} {scope : Scope} {dV kV doc pm cdv ct oc : Value} {an od : Option Addr} {osl : Array (Option Value)}
    {base h' : Heap} {p : Program} {loose : List Str} {mean : ExcName → Option Value} {mg mb m' : Str → Option Value} {tk : Nat}
    (ho : (Mine.hk.heap_1 w.params).lookup 72 = some ⟨oc, od, .func (fnOf name qual params body scope dV kV doc pm an cdv ct), osl⟩) (hr : rest = body.drop 7)
    (B : Below (Ar dp un gd outer) base outer s.heap) (X : (Mine.hk.heap_1 w.params).In s.heap) (T : Top p loose mean mg mb s.heap) (hdp : dp ≤ 599) (hun : un ≤ 997)
    (hP : W2 x y k) (lx : x.length ≤ 40) (ly : y.length ≤ 40) (hm : (lev cst (ls x) (ls y) : Int) ≤ mc)
    (F : Fr s.heap s.heap.objs.size h' (kstB m' [(Str.ofString "post", Value.int (-(k : Int)) pt), (Str.ofString "a", Value.str x t), (Str.ofString "b", Value.str y u), (Str.ofString "max_cost", Value.int mc v)])) (N : News s.heap s.heap.objs.size h' [])
    (hq : ∀ t h' tk, s.heap.StaysIn h' → Q (.ret (.int (lev cst (ls x) (ls y) : Int) t)) { s with heap := h', toks := tk }) :
    wpAny (model prog w) ((Ar dp un gd outer).deeper (envOf qual scope s.heap.objs.size 72 cdv)) (execs rest (envOf qual scope s.heap.objs.size 72 cdv)) Q (fun _ _ => False) { s with heap := h', toks := tk } := by
  refine' pin ho ?e ?_
  case e => k_is
  intro hh
  cases hh
  subst hr
  clear ho
  dsimp only [List.drop]
  have p1 := hP.1
  have p2 := hP.2.1
  have p3 := hP.len
  obtain ⟨⟨p3, p4⟩, p5, p6⟩ := p3
  refine wpAny_execs_cons ?_
  refine cut (s := s) (h₀ := s.heap) (L := s.heap.objs.size) (σ := Str × Tok) (fun c => [(Str.ofString "post", Value.int (-(k : Int)) pt), (Str.ofString "a", Value.str c.1 c.2), (Str.ofString "b", Value.str y u), (Str.ofString "max_cost", Value.int mc v)]) (fun c => ls c.1 = (ls x).take (x.length - k)) ?_ ?_
  · walk_at "my steps"
    all_goals try dsimp only
    · refine' CutN.intro (Txt.slice x none (some (-(k : Int))), _) (by assumption) ?_ ?_
      rotate_left
      · kst_all
      · exact sl_neg (by omega) p1
    · refine' CutN.intro (Txt.slice x none none, _) (by assumption) ?_ ?_
      rotate_left
      · kst_all
      · show ls (Txt.slice x none none) = _
        rw [sl_none, List.take_of_length_le]; rw [ls_len]; omega
  intro c h' tk m' hx2 F N
  obtain ⟨x2, tx⟩ := c
  dsimp only at hx2 F
  refine wpAny_execs_cons ?_
  refine cut (s := s) (h₀ := s.heap) (L := s.heap.objs.size) (σ := Str × Tok) (fun c => [(Str.ofString "a", Value.str x2 tx), (Str.ofString "b", Value.str c.1 c.2), (Str.ofString "max_cost", Value.int mc v)]) (fun c => ls c.1 = (ls y).take (y.length - k)) ?_ ?_
  · walk_at "my steps"
    all_goals try dsimp only
    · refine' CutN.intro (Txt.slice y none (some (-(k : Int))), _) (by assumption) ?_ ?_
      rotate_left
      · kst_all
      · exact sl_neg (by omega) p2
    · refine' CutN.intro (Txt.slice y none none, _) (by assumption) ?_ ?_
      rotate_left
      · kst_all
      · show ls (Txt.slice y none none) = _
        rw [sl_none, List.take_of_length_le]; rw [ls_len]; omega
  intro c h' tk m' hy2 F N
  obtain ⟨y2, ty⟩ := c
  dsimp only at hy2 F
  have C := hP.cut hx2 hy2
  have l1 := C.lx
  have l2 := C.ly
  have C0 := C.empty
  have C1 := C.ed
  have C2 := C.swap
  clear hx2 hy2 hP p1 p2 p3 p4 p5 p6
  walk_at "my go"
  · walk_at "my go"
    walk_at "my go"
    walk_at "my go"
    refine wpAny_execs_cons ?_
    refine cut (s := s) (h₀ := s.heap) (L := s.heap.objs.size) (σ := Str × Tok × Str × Tok) (fun c => [(Str.ofString "a", Value.str c.1 c.2.1), (Str.ofString "b", Value.str c.2.2.1 c.2.2.2), (Str.ofString "max_cost", Value.int mc v)]) (fun c => Cm2 x y c.1 c.2.2.1) ?_ ?_
    · walk_at "my steps"
      all_goals try dsimp only
      · walk_at "my go"
        walk_at "my go"
        exact CutN.intro (y2, ty, x2, tx) (by assumption) (by kst_all) ⟨by dsimp only; omega, by dsimp only; omega, by dsimp only; omega, C2⟩
      · walk_at "my go"
        exact CutN.intro (x2, tx, y2, ty) (by assumption) (by kst_all) ⟨by dsimp only; omega, by dsimp only; omega, by dsimp only; omega, C1⟩
    · intro c h' tk m' hC2 F N
      obtain ⟨a, ta, b, tb⟩ := c
      dsimp only at hC2 F
      obtain ⟨e1, e2, e3, e4⟩ := hC2
      refine' lev_dp ?ho ?hr B X T hdp hun e1 e2 e3 ?hm F N ?hq
      case ho => k_is
      case hr => exact rfl
      case hm => rw [e4]; exact hm
      case hq => rw [e4]; exact hq
  · walk_at "my go"
    have e := C0 (.inr (by omega))
    rw [show (2 * ((x2.length : Int) + (y2.length : Int))) = (lev cst (ls x) (ls y) : Int) by omega]
    exact hq _ _ _ F.keep
  · walk_at "my go"
    have e := C0 (.inl (by omega))
    rw [show (2 * ((x2.length : Int) + (y2.length : Int))) = (lev cst (ls x) (ls y) : Int) by omega]
    exact hq _ _ _ F.keep
end
end Mine
end
section
open PySem PySem.W PyProof.Rows PySem.Calls
set_option maxRecDepth 100000
namespace Mine
section
local macro_rules | `(tactic| walk_at "ite") => `(tactic| (k_here; k_openite; first | (refine ite_pos (by (try simp only [decide_eq_true_eq]); omega) ?_) | (refine ite_neg (by (try simp only [decide_eq_true_eq]); omega) ?_)))
local macro_rules | `(tactic| walk_at "subscriptTail Name Slice str ref") => `(tactic| ((with_reducible show wpAny _ _ (subscriptTail _ (Expr.Slice none (some (Expr.BoolOp _ _ _)) none _) _ _) _ _ _); (with_reducible rename Fr _ _ _ _ => F'); (with_reducible rename News _ _ _ _ => N'); refine slice_strN_nn_len (s := ⟨_, _, _, _, _⟩) F' N' ?_; intro _ _ _ _ _ _))
local macro_rules | `(tactic| walk_at "my same") => `(tactic| (intro z h2 _; (have hz := h2 _ (List.Mem.head _)); (dsimp only at hz); (simp [kstB, hz])))
local macro_rules | `(tactic| walk_at "my stop") => `(tactic| first | (with_reducible show wpAny _ _ (exec (Stmt.While _ _ _ _) _) _ _ _) | (with_reducible show wpAny _ _ (exec (Stmt.For _ _ _ _ _) _) _ _ _) | (with_reducible show wpAny _ _ (call (Value.ref _) _ _) _ _ _) | (with_reducible show wpAny _ _ (execs _ _) _ _ _))
local macro_rules | `(tactic| walk_at "my steps") => `(tactic| repeat' (first | (k_unfold; (try dsimp only)) | ((fail_if_success (walk_at "my stop")); first | walk1 | (dsimp only; walk1))))
local macro_rules | `(tactic| walk_at "my go") => `(tactic| ((first | refine wpAny_execs_cons ?_ | (refine wpAny_execs_nil ?_; (try dsimp only))); walk_at "my steps"; (all_goals try dsimp only)))
set_option maxHeartbeats 4000000 in
theorem lev_call {prog : Program} {w : World} {dp un : Nat} {gd : Option (List Code)} {outer : List Env} {s : Shared} {Q E : Value → Shared → Prop} {x y : Str} {mc : Int} {t u v : Tok}
    (R : Rdy w dp un gd outer s.heap) (hd0 : dp ≤ 599) (hu0 : un ≤ 997) (hx : x.length ≤ 40) (hy : y.length ≤ 40) (hm : (lev cst x.cps.toList y.cps.toList : Int) ≤ mc)
    (hq : ∀ t h' tk, s.heap.StaysIn h' → Q (.int (lev cst (ls x) (ls y) : Int) t) { s with heap := h', toks := tk }) :
    wpAny (model prog w) (Ar dp un gd outer) (call (.ref 72) [.str x t, .str y u, .int mc v]) Q E s := by
  k_dflt (refine' enter (binds := [(Str.ofString "a", .str x t), (Str.ofString "b", .str y u), (Str.ofString "max_cost", .int mc v)]) R ?k6 ?k7 ?k9 ?kB ?_ ?c2 ?c3 ?c4 ?c5; (case k6 => k_is); (case k7 => k_is); (case k9 => exact BindsTo.of_eq rfl); (case kB => exact locs rfl); (case c5 => decide); (case c2 => exact rfl); (case c3 => exact rfl); (case c4 => exact rfl))
  intro base p loose mean mg mb h₁ F N B X T
  (try dsimp only)
  (try k_fold)
  walk_at "my go"
  · -- the texts are one
    rename (x == y) = true => he
    walk_at "my go"
    have e : (lev cst (ls x) (ls y) : Int) = 0 := by rw [beq_iff_eq.mp he, lev_self cst_self]; rfl
    show Q (.int 0 _) _
    rw [← e]; exact hq _ _ _ F.keep
  walk_at "my go"
  walk_at "my go"
  walk_at "my go"
  rename Fr _ _ _ _ => F2
  rename News _ _ _ _ => N2
  refine cut (s := s) (h₀ := s.heap) (L := s.heap.objs.size) (σ := Nat × Tok) (fun c => [(Str.ofString "pre", Value.int c.1 c.2), (Str.ofString "a", Value.str x t), (Str.ofString "b", Value.str y u), (Str.ofString "max_cost", Value.int mc v)]) (fun c => W1 x y c.1) ?_ ?_
  · refine' ksw_while (σ := Nat × Tok) (Led := fun _ => []) (ps := fun c => [(Str.ofString "pre", .int c.1 c.2)]) (Facts := fun _ => True) (stored := []) (P := fun c => W1 x y c.1) (μ := fun c => x.length - c.1) (0, _) F2 N2 trivial ?k1 ?k2 ?k3
    case k1 => kst_all
    case k2 => exact W1.zero x y
    case k3 =>
      clear F2 N2
      intro c u' h tk _ hP F N
      walk_at "my steps"
      all_goals try dsimp only
      · rename (Txt.item x _ == Txt.item y _) = true => he
        have h1 : c.1 < x.length := by omega
        have h2 : c.1 < y.length := by omega
        have hP' := hP.next h1 h2 he
        walk_at "my go"
        walk_at "my go"
        show KswEnd _ _ _ _ _ _ _ _ _ _ _ _
        refine' ksw_end (c.1 + 1, _) (by assumption) (by assumption) (List.forall_mem_nil _) trivial ?wa1 ?wa2 ?wa3 ?wa4
        case wa1 => kst_all
        case wa2 => walk_at "my same"
        case wa3 => exact hP'
        case wa4 => show x.length - (c.1 + 1) < x.length - c.1; omega
      all_goals exact CutN.intro c (by assumption) (by kst_all) hP
  · intro c h' tk m' hP F N
    clear F2 N2
    walk_at "my go"
    walk_at "my go"
    walk_at "my go"
    walk_at "my go"
    have hC := hP.cut
    revert hC
    generalize hx1 : Txt.slice x (some (c.1 : Int)) none = x1 at *
    generalize hy1 : Txt.slice y (some (c.1 : Int)) none = y1 at *
    intro hC
    have lx1 := hC.lx
    have ly1 := hC.ly
    clear hx1 hy1 hP
    rename Fr _ _ _ _ => F2
    rename News _ _ _ _ => N2
    refine cut (s := s) (h₀ := s.heap) (L := s.heap.objs.size) (σ := Nat × Tok × Tok × Tok) (fun c => [(Str.ofString "post", Value.int (-(c.1 : Int)) c.2.1), (Str.ofString "a", Value.str x1 c.2.2.1), (Str.ofString "b", Value.str y1 c.2.2.2), (Str.ofString "max_cost", Value.int mc v)]) (fun c => W2 x1 y1 c.1) ?_ ?_
    · refine' ksw_while (σ := Nat × Tok) (Led := fun _ => []) (ps := fun c => [(Str.ofString "post", .int (-(c.1 : Int)) c.2)]) (Facts := fun _ => True) (stored := []) (P := fun c => W2 x1 y1 c.1) (μ := fun c => x1.length - c.1) (0, _) F2 N2 trivial ?wb1 ?wb2 ?wb3
      case wb1 => kst_all
      case wb2 => exact W2.zero x1 y1
      case wb3 =>
        clear F2 N2
        intro c u' h tk _ hP F N
        have p1 := hP.1
        have p2 := hP.2.1
        have p3 := hP.len
        obtain ⟨⟨p3, p4⟩, p5, p6⟩ := p3
        walk_at "my steps"
        all_goals try dsimp only
        all_goals first | exact CutN.intro (c.1, c.2, _, _) (by assumption) (by kst_all) hP | skip
        all_goals first | (exfalso; omega) | skip
        all_goals (
          rename (Txt.item x1 _ == Txt.item y1 _) = true => he
          have h1 : c.1 < x1.length := by omega
          have h2 : c.1 < y1.length := by omega
          have hP' := hP.next h1 h2 he
          walk_at "my go"
          walk_at "my go"
          (rename Fr _ _ _ _ => F9)
          rw [show (-(c.1 : Int) - 1) = -((c.1 + 1 : Nat) : Int) by omega] at F9
          show KswEnd _ _ _ _ _ _ _ _ _ _ _ _
          refine' ksw_end (c.1 + 1, _) F9 (by assumption) (List.forall_mem_nil _) trivial ?_ ?_ ?_ ?_
          rotate_left
          · kst_all
          · walk_at "my same"
          · exact hP'
          · show x1.length - (c.1 + 1) < x1.length - c.1; omega)
    · rintro ⟨k, pt, ta, tb⟩ h' tk m' hP F N
      clear F2 N2
      dsimp only at hP F
      refine' lev_rest ?ho ?hr B X T hd0 hu0 hP (by omega) (by omega) ?hm2 F N ?hq2
      case ho => k_is
      case hr => exact rfl
      case hm2 => rw [hC.ed]; exact hm
      case hq2 => rw [hC.ed]; exact hq
end
end Mine
end
section
open PySem PySem.W PyProof.Rows PySem.Calls
open PySem.Builtin PySem.Builtin.Str
set_option maxRecDepth 100000
namespace Mine
theorem lookup_text {prog : Program} {w : World} {A : Around} {E : Value → Shared → Prop} {s : Shared} {l : Addr} {items : Array Value} {c : Nat} {y : Str} {tk : Tok} {Q : Mapped → Shared → Prop}
    (hl : s.heap.IsList l items) (hi : items[c]? = some (.str y tk)) (hc : c < 1000) (h : Q (.text y) { s with toks := s.toks + 1 }) : wpAny (model prog w) A (tableLookup (.ref l) c) Q E s := by
  unfold tableLookup
  refine wpAny_bind (wpAny_attempt (wpAny_bind (wpAny_mkInt ?_)))
  refine wpAny_getItem_list (s := { s with toks := s.toks + 1 }) hl (by omega) (by omega) (by rw [Int.toNat_natCast]; exact hi) ?_
  show wpAny (model prog w) A (pure (Mapped.text y)) Q E _
  exact wpAny_pure h
def TrI (tab : Nat → List Nat) (done : List Nat) (b : List Str × Nat × Bool × List (Nat × Option Nat) × Bool) : Prop :=
  (b.1.reverse.flatMap ls) = done.flatMap tab ∧ b.2.1 = (done.flatMap tab).length ∧ b.2.2.2.2 = false ∧ ∀ p ∈ b.2.2.2.1, ∃ e, p.2 = some e ∧ tab p.1 = [e]
theorem tooLong_of {n : Nat} (h : n ≤ 1000) : tooLong n = false := by
  unfold tooLong
  rw [sizeLine_eq]
  exact decide_eq_false (by omega)
theorem lookup_mem {k : Nat} {v : Option Nat} : ∀ {l : List (Nat × Option Nat)}, l.lookup k = some v → (k, v) ∈ l
  | [], h => nomatch h
  | (a, b) :: r, h => by
    rw [List.lookup_cons] at h
    by_cases e : (k == a) = true
    · rw [e] at h; cases h; rw [beq_iff_eq.mp e]; exact .head _
    · rw [Bool.not_eq_true] at e; rw [e] at h; exact .tail _ (lookup_mem h)
theorem meets_translate (x : Str) (t : Tok) (l : Addr) (items : Array Value) (tab : Nat → List Nat) (hi : ∀ c ∈ ls x, ∃ tk, items[c]? = some (.str ⟨(tab c).toArray⟩ tk)) (hc : ∀ c ∈ ls x, c < 1000) (hx : x.length ≤ 100) (h0 : 0 < x.length) (ht : ∀ c ∈ ls x, (tab c).length ≤ 3) :
    Meets (Builtin.«str.translate» ⟨[.str x t, .ref l], []⟩) (fun _ R s => s.heap.IsList l items ∧ ∀ tk k, R (.ok (.ret (.str ⟨((ls x).flatMap tab).toArray⟩ tk))) { s with toks := k }) :=
  .of_wp fun prog w A R s h => by
    obtain ⟨hp, g, d, tk, os⟩ := s; obtain ⟨hl, h⟩ := h
    dsimp only at hl h
    have hlen : ∀ done rest, ls x = done ++ rest → (done.flatMap tab).length ≤ 300 := by
      intro done rest e
      have h1 : (done.flatMap tab).length ≤ 3 * done.length := by
        have hm : ∀ c ∈ done, (tab c).length ≤ 3 := fun c hc' => ht c (by rw [e]; exact List.mem_append_left _ hc')
        clear e
        induction done with
        | nil => exact Nat.le_refl _
        | cons a r ih =>
          rw [List.flatMap_cons, List.length_append, List.length_cons]
          have := hm a (.head _)
          have := ih fun c hc => hm c (.tail _ hc)
          omega
      have h2 : done.length ≤ 100 := by
        have := congrArg List.length e
        rw [List.length_append, ls_len] at this
        omega
      omega
    unfold Builtin.«str.translate»
    wp_walk
    rw [if_neg (by simp; omega)]
    dsimp only
    refine wpAny_bind ?_
    refine MeetsSeq2.wpAny_forIn_array _ (fun rest b s' => (∃ k, s' = ⟨hp, g, d, k, os⟩) ∧ ∃ done, ls x = done ++ rest ∧ TrI tab done b) _ ?trT ?trF _ _ ?trS
    case trS => exact ⟨⟨_, rfl⟩, [], rfl, rfl, rfl, rfl, fun _ h => nomatch h⟩
    case trF =>
      rintro ⟨pieces, total, fast, known, ad⟩ s' ⟨⟨k, rfl⟩, done, e, h1, h2, h3, h4⟩
      rw [List.append_nil] at e
      dsimp only at h1 h2 h3 h4 ⊢
      have := hlen done [] (by rw [List.append_nil]; exact e)
      rw [tooLong_of (by omega), if_neg Bool.false_ne_true]
      have hf : (pieces.reverse.foldl (fun acc p => acc ++ p.cps) #[]) = ((ls x).flatMap tab).toArray := by
        apply Array.toList_inj.mp
        rw [e, ← h1]
        have key : ∀ (q : List Str) (acc : Array Nat), (q.foldl (fun acc p => acc ++ p.cps) acc).toList = acc.toList ++ q.flatMap ls := by
          intro q
          induction q with
          | nil => intro acc; simp
          | cons a r ih => intro acc; rw [List.foldl_cons, ih, Array.toList_append, List.flatMap_cons, List.append_assoc]
        rw [key]; rfl
      rw [hf]
      unfold retStr
      refine wpAny_bind (wpAny_mkStr ?_ ?_)
      · exact wpAny_pure ⟨_, rfl, h _ _⟩
      · show ((ls x).flatMap tab).toArray.size ≤ sizeLine
        rw [List.size_toArray, e, sizeLine_eq]; omega
    case trT =>
      rintro c rest ⟨pieces, total, fast, known, ad⟩ s' ⟨⟨k, rfl⟩, done, e, h1, h2, h3, h4⟩
      dsimp only at h1 h2 h3 h4 ⊢
      have hle := hlen done _ e
      have hmem : c ∈ ls x := by rw [e]; exact List.mem_append_right _ (.head _)
      obtain ⟨ti, hit⟩ := hi c hmem
      have hcc := hc c hmem
      rw [tooLong_of (by omega), if_neg Bool.false_ne_true]
      subst h3
      have hstep : ∀ (y : Str) (n : Nat) (f' : Bool) (kn : List (Nat × Option Nat)), ls y = tab c → n = (tab c).length → (∀ p ∈ kn, ∃ e, p.2 = some e ∧ tab p.1 = [e]) → TrI tab (done ++ [c]) (y :: pieces, total + n, f', kn, false) := by
        intro y n f' kn hy hn hk
        refine ⟨?_, ?_, rfl, hk⟩
        · show (y :: pieces).reverse.flatMap ls = _
          rw [List.reverse_cons, List.flatMap_append, h1, List.flatMap_append]
          simp [hy]
        · show total + n = _
          rw [h2, hn, List.flatMap_append, List.length_append]
          simp
      have e' : ls x = (done ++ [c]) ++ rest := by rw [e, List.append_assoc]; rfl
      have slow : ∀ (k : Nat) (kn : List (Nat × Option Nat)), (∀ p ∈ kn, ∃ e, p.2 = some e ∧ tab p.1 = [e]) → (∃ k', (⟨hp, g, d, k + 1, os⟩ : Shared) = ⟨hp, g, d, k', os⟩) ∧ ∃ done', ls x = done' ++ rest ∧ TrI tab done' ((⟨(tab c).toArray⟩ : Str) :: pieces, total + (⟨(tab c).toArray⟩ : Str).length, false, kn, false) :=
        fun k kn hk => ⟨⟨_, rfl⟩, _, e', hstep _ _ _ _ rfl (List.size_toArray ..) hk⟩
      cases fast with
      | false =>
        rw [if_neg Bool.false_ne_true, if_neg Bool.false_ne_true]
        refine wpAny_bind (lookup_text hl hit hcc ?_)
        exact wpAny_pure (slow k known h4)
      | true =>
        rw [if_pos rfl]
        cases hlk : known.lookup c with
        | some a =>
          obtain ⟨q, hq1, hq2⟩ := h4 _ (lookup_mem hlk)
          dsimp only at hq1 hq2 ⊢
          subst hq1
          refine wpAny_bind (wpAny_pure ?_)
          exact wpAny_pure ⟨⟨_, rfl⟩, _, e', hstep ⟨#[q]⟩ 1 _ _ hq2.symm (by rw [hq2]; rfl) h4⟩
        | none =>
          dsimp only
          refine wpAny_bind (lookup_text hl hit hcc ?_)
          dsimp only
          by_cases hb : (((⟨(tab c).toArray⟩ : Str).length == 1) && (tab c).toArray.all fun x => decide (x < 128)) = true
          · obtain ⟨q, hq⟩ : ∃ q, tab c = [q] := by
              rw [Bool.and_eq_true, beq_iff_eq] at hb
              have : (tab c).length = 1 := hb.1
              exact List.length_eq_one_iff.mp this
            rw [if_pos hb]
            rw [hq]
            dsimp only
            refine wpAny_bind (wpAny_pure ?_)
            refine wpAny_pure ⟨⟨_, rfl⟩, _, e', hstep ⟨#[q]⟩ 1 _ _ hq.symm (by rw [hq]; rfl) fun p hp => ?_⟩
            rcases List.mem_cons.mp hp with rfl | hp
            · exact ⟨q, rfl, hq⟩
            · exact h4 p hp
          · rw [if_neg hb]
            dsimp only
            refine wpAny_bind (wpAny_pure ?_)
            dsimp only
            refine wpAny_bind (wpAny_rule ?_)
            rw [if_neg Bool.false_ne_true]
            refine wpAny_bind (lookup_text (s := ⟨hp, g, d, k + 1, os⟩) hl hit hcc ?_)
            exact wpAny_pure (slow (k + 1) known h4)
theorem gm_translate {M : Model} {A : Around} {E : Value → Shared → Prop} {s : Shared} {x : Str} {t : Tok} {pl : Sem Bool} {Q : Value × List Value → Shared → Prop} (h : Q (.builtin "str.translate", [.str x t]) s) : wpAny M A (getMethod (.str x t) "translate" pl) Q E s := by
  with_reducible exact GM.of (.str x t) (typeIs_str _ _ _) F.slot_str_translate F.type_str_translate GM.noRef h
theorem tr_call {prog : Program} {w : World} {A : Around} {E Q : Value → Shared → Prop} {s : Shared} {x : Str} {t : Tok} {l : Addr} {items : Array Value} {tab : Nat → List Nat} (hl : s.heap.IsList l items) (hi : ∀ c ∈ ls x, ∃ tk, items[c]? = some (.str ⟨(tab c).toArray⟩ tk)) (hc : ∀ c ∈ ls x, c < 1000) (hx : x.length ≤ 100) (h0 : 0 < x.length) (ht : ∀ c ∈ ls x, (tab c).length ≤ 3)
    (h : ∀ tk k, Q (.str ⟨((ls x).flatMap tab).toArray⟩ tk) { s with toks := k }) : wpAny (model prog w) A (call (.builtin "str.translate") [.str x t, .ref l]) Q E s :=
  call_meets F.slot_str_translate (typeIs_str _ _ _) F.entry_str_translate (F.args_str_translate_2 _ _) (meets_translate x t l items tab hi hc hx h0 ht) ⟨hl, fun tk k => h tk k⟩
end Mine
end
section
open PySem PySem.W PyProof.Rows PySem.Calls
set_option maxRecDepth 100000
namespace Mine
def hexd (n : Nat) : Nat := if n < 10 then 48 + n else 55 + n
def escOf (o : Nat) : List Nat := [61, hexd (o / 16), hexd (o % 16)]
def bPlain (o : Nat) : Bool := o == 9 || (decide (32 ≤ o) && decide (o ≤ 126) && o != 61)
def bTab (o : Nat) : List Nat := if bPlain o || o == 10 || o == 13 then [o] else escOf o
def hPlain (o : Nat) : Bool := (decide (48 ≤ o) && decide (o ≤ 57)) || (decide (65 ≤ o) && decide (o ≤ 90)) || (decide (97 ≤ o) && decide (o ≤ 122)) || o == 33 || o == 42 || o == 43 || o == 45 || o == 47
def hTab (o : Nat) : List Nat := if hPlain o then [o] else if o == 32 then [95] else escOf o
def tabOk (items : Array Value) (tab : Nat → List Nat) : Bool := (List.range 256).all fun c => match items[c]? with
  | some (.str y _) => y.cps.toList == tab c
  | _ => false
theorem tabOk.at {items : Array Value} {tab : Nat → List Nat} (h : tabOk items tab = true) {c : Nat} (hc : c < 256) : ∃ tk, items[c]? = some (.str ⟨(tab c).toArray⟩ tk) := by
  have := List.all_eq_true.mp h c (List.mem_range.mpr hc)
  split at this
  · rename_i y tk hy
    refine ⟨tk, hy.trans ?_⟩
    rw [← beq_iff_eq.mp this]
  · cases this
theorem tabEx {K : Frag} {a : Addr} {items : Array Value} {n : Nat} {tab : Nat → List Nat} (e : K.lookup a = some ⟨.type "list", none, .seq items n, #[]⟩) (f : tabOk items tab = true) : ∃ items n, K.lookup a = some ⟨.type "list", none, .seq items n, #[]⟩ ∧ tabOk items tab = true := ⟨_, _, e, f⟩
theorem tab47 (P : Params) : ∃ items n, (Mine.hk.heap_1 P).lookup 47 = some ⟨.type "list", none, .seq items n, #[]⟩ ∧ tabOk items bTab = true := by
  refine' tabEx ?e ?f
  case e => k_is
  case f => decide +kernel
theorem tab22 (P : Params) : ∃ items n, (Mine.hk.heap_1 P).lookup 22 = some ⟨.type "list", none, .seq items n, #[]⟩ ∧ tabOk items hTab = true := by
  refine' tabEx ?e ?f
  case e => k_is
  case f => decide +kernel
theorem bTab_len (o : Nat) : (bTab o).length ≤ 3 := by unfold bTab; split <;> simp [escOf]
theorem hTab_len (o : Nat) : (hTab o).length ≤ 3 := by unfold hTab; split; simp; split <;> simp [escOf]
end Mine
end
section
open PySem PySem.W PyProof.Rows PySem.Calls
set_option maxRecDepth 100000
namespace Mine
def bA (c : Nat) : Bool := c == 9 || (decide (32 ≤ c) && decide (c ≤ 126))
theorem bTab_A : ∀ o, o < 256 → o ≠ 10 → o ≠ 13 → (bTab o).all bA = true := by decide +kernel
theorem bA_line : ∀ c, c < 127 → bA c = true → Unicode.isLineBreak c = false := by decide +kernel
theorem bA_lt {c : Nat} (h : bA c = true) : c < 127 := by
  unfold bA at h
  simp at h
  omega
def okO (o : Nat) : Prop := o < 256 ∧ o ≠ 10 ∧ o ≠ 13 ∧ o ≠ 95
theorem body_A {os : List Nat} (h : ∀ o ∈ os, okO o) : ∀ c ∈ os.flatMap bTab, bA c = true := by
  intro c hc
  obtain ⟨o, ho, hc⟩ := List.mem_flatMap.mp hc
  exact List.all_eq_true.mp (bTab_A o (h o ho).1 (h o ho).2.1 (h o ho).2.2.1) c hc
theorem forIn_id {s : Str} (h : ∀ i, i < s.length → Unicode.isLineBreak (s.cps.getD i 0) = false) : ∀ (m cur : Nat) (st : StrLaws.LsSt), cur + m ≤ s.length → Id.run (forIn (m := Id) (List.range' cur m) st (StrLaws.lsBody s)) = st
  | 0, _, _, _ => rfl
  | m + 1, cur, st, hm => by
    rw [List.range'_succ, List.forIn_cons]
    have : (decide (st.snd ≤ cur) && Unicode.isLineBreak (s.cps.getD cur 0)) = false := by rw [h cur (by omega), Bool.and_false]
    unfold StrLaws.lsBody
    rw [this, if_neg Bool.false_ne_true]
    exact forIn_id h m (cur + 1) st (by omega)
theorem cuts_one {x : Str} (h : ∀ c ∈ ls x, Unicode.isLineBreak c = false) (h0 : 0 < x.length) : lineCuts x = [(0, x.length)] := by
  unfold lineCuts
  rw [StrLaws.ls_eq, forIn_id (s := x) ?_ x.length 0 (#[], 0) (by omega)]
  · unfold StrLaws.lsEnd
    dsimp only
    rw [if_pos h0]
    simp
  · intro i hi
    refine h _ ?_
    have e : x.cps.getD i 0 = (ls x)[i]'(by rw [ls_len]; exact hi) := by
      have hi' : i < x.cps.size := hi
      simp [Array.getD, hi']
    rw [e]
    exact List.getElem_mem _
theorem lines_one {x : Str} (h : ∀ c ∈ ls x, Unicode.isLineBreak c = false) (h0 : 0 < x.length) : Txt.lines x = [x] := by
  unfold Txt.lines
  rw [cuts_one h h0]
  simp
theorem flat_len (tab : Nat → List Nat) (h1 : ∀ o, (tab o).length ≤ 3) (os : List Nat) : (os.flatMap tab).length ≤ 3 * os.length := by
  induction os with
  | nil => exact Nat.le_refl _
  | cons a r ih =>
    rw [List.flatMap_cons, List.length_append, List.length_cons]
    have := h1 a
    omega
end Mine
end
section
open PySem PySem.W PyProof.Rows PySem.Calls
set_option maxRecDepth 100000
set_option maxHeartbeats 1000000
namespace Mine
theorem slot_md_get : Slot "method_descriptor" "__get__" "method_descriptor.__get__" :=
  .of (owner := "method_descriptor") (n := "__get__") (by rw [typeLookup_type, builtinLookup_eq_fast]; kernel_rfl) (by decide +kernel) (by decide +kernel) (by decide +kernel)
    (by first | exact .inl (by decide +kernel) | exact .inr (by decide +kernel)) (by rw [isSubtype_type]; kernel_rfl)
theorem md_set : typeLookup (.type "method_descriptor") "__set__" = pure none := by rw [typeLookup_type, builtinLookup_eq_fast]; kernel_rfl
theorem md_del : typeLookup (.type "method_descriptor") "__delete__" = pure none := by rw [typeLookup_type, builtinLookup_eq_fast]; kernel_rfl
theorem entry_md_get : entryFor table "method_descriptor.__get__" = some Builtin.«method_descriptor.__get__» := entryFor_of_tree (by kernel_rfl)
theorem owner_md : Manifest.owners.lookup (String.ofList "rotpircsed_dohtem".toList.reverse) = some Manifest.sig_method_descriptor := by kernel_rfl
theorem args_md_get (a b c : Value) : argsOk "method_descriptor.__get__" ⟨[a, b, c], []⟩ := by
  unfold argsOk; rw [signature?_of (id := "method_descriptor.__get__") (n := "__teg__".toList) (o := "rotpircsed_dohtem".toList) (by kernel_rfl) owner_md]; kernel_rfl
theorem sub_app : isSubtype (.type "list") (.type (".".intercalate ("list.append".cutAt '.').dropLast)) = pure true := by
  rw [show (".".intercalate ("list.append".cutAt '.').dropLast) = "list" by decide +kernel, isSubtype_type]; kernel_rfl
section
variable {prog : Program} {w : World} {A : Around} {E : Value → Shared → Prop} {h : Heap} {g : Array GenState} {d : Drawn} {t : Nat} {os : OsState} {a : Addr} {o : Obj}
theorem app_get {R : Result → Shared → Prop} (hx : h.get? a = some o) (hc : o.cls = .type "list") (hq : R (.ok (.ret (.ref h.objs.size))) ⟨h.push { cls := .type "builtin_function_or_method", data := .fields #[.builtin "list.append", .ref a] }, g, d, t, os⟩) :
    codeAny (model prog w) A (.call (.builtin "method_descriptor.__get__") ⟨[.builtin "list.append", .ref a, .type "list"], []⟩) R ⟨h, g, d, t, os⟩ := by
  have hT : (⟨h, g, d, t, os⟩ : Shared).TypeIs (.ref a) "list" := ⟨_, hx, hc⟩
  have hT5 : (⟨h, g, d, t, os⟩ : Shared).TypeIs (.builtin "list.append") "method_descriptor" := F.type_list_append
  have f8 := sub_app
  refine codeAny_call_builtin slot_md_get.plain entry_md_get (slot_md_get.check _ _ _ _ _ _ _ _ hT5 (args_md_get _ _ _) ?_)
  repeat (any_goals (first | assumption | wp_step))
theorem app_entry {tk : Tok} {Q : PySem.Fin → Shared → Prop} (hx : h.get? a = some o) (hc : o.cls = .type "list") (hdn : o.dict = none) (hdat : ∃ xs n, o.data = .seq xs n) (hq : Q (.done (.ret (.ref h.objs.size))) ⟨h.push { cls := .type "builtin_function_or_method", data := .fields #[.builtin "list.append", .ref a] }, g, d, t, os⟩) :
    wpAny (model prog w) A (Builtin.«object.__getattribute__» ⟨[.ref a, .str (Str.ofString "append") tk], []⟩) Q E ⟨h, g, d, t, os⟩ := by
  obtain ⟨c, dct, dat, sl⟩ := o
  obtain ⟨xs, n, hdat⟩ := hdat
  simp only at hc hdat hdn
  subst hc hdat hdn
  have hT : (⟨h, g, d, t, os⟩ : Shared).TypeIs (.ref a) "list" := ⟨_, hx, rfl⟩
  have hT5 : (⟨h, g, d, t, os⟩ : Shared).TypeIs (.builtin "list.append") "method_descriptor" := F.type_list_append
  have f4 : typeLookup (.type "list") (Str.ofString "append") = pure (some (.builtin "list.append")) := F.slot_list_append.lookup
  have f5 := F.type_list_append
  have f6 := slot_md_get.lookup
  have f7 := md_set
  have f8 := md_del
  repeat (any_goals (first | assumption | wp_step))
  refine app_get hx rfl ?_
  exact wpAny_pure hq
theorem app_call {tk : Tok} {R : Result → Shared → Prop} (hx : h.get? a = some o) (hc : o.cls = .type "list") (hdn : o.dict = none) (hdat : ∃ xs n, o.data = .seq xs n) (hq : R (.ok (.ret (.ref h.objs.size))) ⟨h.push { cls := .type "builtin_function_or_method", data := .fields #[.builtin "list.append", .ref a] }, g, d, t, os⟩) :
    codeAny (model prog w) A (.call (.builtin "list.__getattribute__") ⟨[.ref a, .str (Str.ofString "append") tk], []⟩) R ⟨h, g, d, t, os⟩ :=
  codeAny_call_builtin F.slot_list_getattribute.plain F.entry_list_ga (F.slot_list_getattribute.check _ _ _ _ _ _ _ _ (show (⟨h, g, d, t, os⟩ : Shared).TypeIs (.ref a) "list" from ⟨_, hx, hc⟩) (F.args_list_getattribute_2 _ _) (app_entry hx hc hdn hdat hq))
theorem app_attr {Q : Value → Shared → Prop} (hx : h.get? a = some o) (hc : o.cls = .type "list") (hdn : o.dict = none) (hdat : ∃ xs n, o.data = .seq xs n) (hq : Q (.ref h.objs.size) ⟨h.push { cls := .type "builtin_function_or_method", data := .fields #[.builtin "list.append", .ref a] }, g, d, t + 1, os⟩) :
    wpAny (model prog w) A (getAttr (.ref a) (Str.ofString "append") true) Q E ⟨h, g, d, t, os⟩ := by
  obtain ⟨c, dct, dat, sl⟩ := o
  obtain ⟨xs, n, hdat⟩ := hdat
  simp only at hc hdat hdn
  subst hc hdat hdn
  have hT : ∀ t', (⟨h, g, d, t', os⟩ : Shared).TypeIs (.ref a) "list" := fun _ => ⟨_, hx, rfl⟩
  have f2 := F.slot_list_getattribute.lookup
  have f3 := F.slot_list_getattribute.bind (.ref a)
  unfold getAttr getAttrBy
  repeat (any_goals (first | assumption | exact hT _ | ((with_reducible show wpAny _ _ (call (Value.builtin "list.__getattribute__") _ _) _ _ _); refine wpAny_call (app_call hx rfl rfl ⟨xs, n, rfl⟩ ?_)) | wp_step))
end
end Mine
end
section
open PySem PySem.W PyProof.Rows PySem.Calls
set_option maxRecDepth 100000
set_option maxHeartbeats 1000000
namespace Mine
theorem sig_app : Manifest.signature? "list.append" = Manifest.sig_list.lookup "append" :=
  signature?_of (id := "list.append") (n := "dneppa".toList) (o := "tsil".toList) (by kernel_rfl) F.owner_list
theorem bound_check {prog : Program} {w : World} {A : Around} {E : Value → Shared → Prop} {s : Shared} {D : Addr} {its : Array Value} {n : Nat} {x : Value} {Q : Unit → Shared → Prop} (ho : s.heap.get? D = some { cls := .type "list", data := .seq its n }) (h : Q () s) :
    wpAny (model prog w) A (checkBoundCall "list.append" ⟨[.ref D, x], []⟩) Q E s := by
  obtain ⟨hp, g, d, tk, os⟩ := s
  have hT : (⟨hp, g, d, tk, os⟩ : Shared).TypeIs (.ref D) "list" := ⟨_, ho, rfl⟩
  have f1 : isSubtype (.type "list") (.type "module") = pure false := by rw [isSubtype_type]; kernel_rfl
  have f2 : isSubtype (.type "list") (.type "type") = pure false := by rw [isSubtype_type]; kernel_rfl
  have f3 : builtinKind "list.append" = some .method := by decide +kernel
  obtain ⟨sg, hs1, hs2⟩ : ∃ sg, Manifest.sig_list.lookup "append" = some sg ∧ ∀ a b : Value, Bind.checkArgs "list.append" { sg with full := s!"{Bind.lastOf "list"}.{Bind.lastOf "list.append"}" } ⟨[a, b], []⟩ = pure () := ⟨_, rfl, fun a b => by kernel_rfl⟩
  unfold checkBoundCall
  rw [sig_app, hs1, f3]
  dsimp only
  repeat (any_goals (first | assumption | exact wpAny_of_eq (hs2 _ _) (by assumption) | wp_step))
theorem bound_append {prog : Program} {w : World} {A : Around} {E : Value → Shared → Prop} {s : Shared} {p D : Addr} {its : Array Value} {n : Nat} {x : Value} {Q : Value → Shared → Prop}
    (hp : s.heap.get? p = some { cls := .type "builtin_function_or_method", data := .fields #[.builtin "list.append", .ref D] }) (ho : s.heap.get? D = some { cls := .type "list", data := .seq its n })
    (h : ∀ h', Heap.SameBut D s.heap h' → h'.get? D = some { cls := .type "list", data := .seq (its.push x) (n + 1) } → Q .none { s with heap := h' }) (hsz : its.size ≤ sizeLine) :
    wpAny (model prog w) A (call (.ref p) [x]) Q E s := by
  refine wpAny_call (codeAny_of_tree ?_)
  show wpAny _ _ (callAny (.ref p) _) _ _ _
  refine nd_load hp ?_
  show wpAny _ _ (checkBoundCall "list.append" ⟨[.ref D, x], []⟩ >>= fun _ => (again (.builtin "list.append" ⟨[.ref D, x], []⟩))) _ _ _
  refine wpAny_bind (bound_check ho ?_)
  refine wpAny_pure ⟨Code.quiet_builtin _ (by decide +kernel), codeAny_builtin F.entry_list_append ?_⟩
  show wpAny _ _ (updateSeq D (·.push x) >>= fun _ => ret .none) _ _ s
  refine wpAny_bind ?_
  refine wpAny_updateSeq ho rfl (wpAny_pure (h _ (Heap.SameBut.update ..) ?_))
  rw [Heap.get?_update_self _ ho (by rw [mapSeq_push]; rfl), mapSeq_push]
def BndP (q D : Addr) (h : Heap) : Prop := h.get? q = some { cls := .type "builtin_function_or_method", data := .fields #[.builtin "list.append", .ref D] }
def BndQ (q D : Addr) (h : Heap) (G : Prop) : Prop := BndP q D h ∧ G
theorem callWith_B {M : Model} {A : Around} {E : Value → Shared → Prop} {s : Shared} {env : Env} {pos : Pos} {Q : Value → Shared → Prop} {q D : Addr} {e : PySem.Expr} {rest : List PySem.Expr}
    (h : wpAny M A (spliced (backTo pos (starEach (e :: rest) env))) (fun vs s₁ => BndQ q D s₁.heap (wpAny M A (call (.ref q) ([] ++ vs)) Q E s₁)) E s)
    (he : starEach (e :: rest) env = (false, eval e env) :: starEach rest env := by rfl) (hplain : (backTo pos (starEach rest env)).any (·.1) = false := by rfl) :
    wpAny M A (callWith pos (.ref q) [] (backTo pos (starEach (e :: rest) env)) []) Q E s := by
  rw [he] at h ⊢
  refine callWith_of (P := BndP q D) (by show ((false || (backTo pos (starEach rest env)).any (·.1)) || false) = false; rw [hplain]; rfl) (fun h X => ⟨.machine, .inr (.inl rfl), (Looks.ld (part := none) X).andThen .now⟩) (evalArgs_plain h)
end Mine
end
section
open PySem PySem.W PyProof.Rows PySem.Calls PyProof.V PySem.Spec
set_option maxRecDepth 100000
namespace Mine
section
variable {prog : Program} {w : World} {A : Around} {E : Value → Shared → Prop} {s : Shared} {env : Env} {h₀ : Heap} {x : Str} {body : List Stmt} {Q : Flow → Shared → Prop} {σ : Type}
theorem for_list {l : Addr} {vs : List Value} {m₀ : Str → Option Value} (Led : σ → List (Addr × Obj)) (ps : σ → List (Str × Value)) (P : Nat → σ → Prop) (c₀ : σ)
    (hh : A.handled = none) (hl : s.heap.IsList l vs.toArray) (hL : l ≠ env.locals) (hled : ∀ q ∈ Led c₀, q.1 ≠ l) (F : Fr h₀ env.locals s.heap m₀) (N : News h₀ env.locals s.heap (Led c₀)) (hk : ∀ p ∈ ps c₀, m₀ p.1 = some p.2) (hp : P 0 c₀)
    (turn : ∀ (c : σ) (i : Nat) (v : Value) (m' : Str → Option Value) (h : Heap) (tk : Nat) (own : List (Addr × Obj)), vs[i]? = some v → P i c → OwnOff own ((Led c₀).map (·.1)) → (Led c).map (·.1) = (Led c₀).map (·.1) →
      Fr h₀ env.locals h (fun y => if y = x then some v else kstB m' (ps c) y) → News h₀ env.locals h (Led c ++ own) →
      wpAny (model prog w) A (execs body env) (Turned h₀ env.locals Led ps P (i + 1) own ((Led c₀).map (·.1)) { s with heap := h, toks := tk } Q) E { s with heap := h, toks := tk })
    (done : ∀ (c : σ) (h : Heap) (tk : Nat) (m' : Str → Option Value), P vs.length c → Fr h₀ env.locals h (kstB m' (ps c)) → News h₀ env.locals h (Led c) → Q .next { s with heap := h, toks := tk }) :
    wpAny (model prog w) A (pyIter (.ref l)) (fun it s₂ => LoopAtV prog w A h₀ env x body Q E it s₂) E s := by
  obtain ⟨ol, hol, hol2⟩ := id hl
  have hne : l ≠ s.heap.objs.size := Nat.ne_of_lt (Heap.lt_size hol)
  refine wpAny_pyIter_list hl ?_
  have W := Walks.list (prog := prog) (w := w) hh s.heap.objs.size l hne vs.toArray
  have hlen : vs.toArray.size = vs.length := List.size_toArray ..
  rw [hlen] at W
  refine loop_invN (fun i m nx => JJ Led ps P i m nx) W ?_ ?_ ?_ ?_ ⟨⟨_, Heap.get?_push_size _ rfl, rfl, rfl⟩, hl.at fun o e => Heap.get?_push_of_some _ e⟩ (F.push _) (fun p hp => ⟨Heap.get?_push_of_some _ (N p hp).1, (N p hp).2⟩) ⟨c₀, rfl, hk, hp⟩ ?_ ?_
  · intro hm
    rcases List.mem_cons.mp hm with e | hm
    · exact absurd F.ns.lt (e ▸ Nat.lt_irrefl _)
    · exact hL (List.mem_singleton.mp hm).symm
  · intro b hb
    rw [List.mem_singleton.mp hb]
    exact next_is_new F
  · intro p hp hI
    exact absurd (Heap.lt_size (N p hp).1) ((List.mem_singleton.mp hI) ▸ Nat.lt_irrefl _)
  · intro p hp hI
    rcases List.mem_cons.mp hI with e | hI
    · exact absurd (Heap.lt_size (N p hp).1) (e ▸ Nat.lt_irrefl _)
    · exact hled p hp (List.mem_singleton.mp hI)
  · rintro i v m₁ nx h tk own hi hv hadr hoff ⟨c, rfl, h1, hp'⟩ F₁ N₁
    have hv' : vs[i]? = some v := by simpa using hv
    refine turn c i v m₁ h tk own hv' hp' hoff hadr ?_ N₁
    have em : kstB m₁ (ps c) = m₁ := by
      funext y
      exact kstB_eq h1 fun _ => rfl
    rw [em]
    exact F₁
  · rintro m₁ nx h tk ⟨c, rfl, h1, hp'⟩ F₁ N₁
    exact done c h tk m₁ hp' (fr_named F₁ h1) N₁
end
end Mine
end
section
open PySem PySem.W PyProof.Rows PySem.Calls
set_option maxRecDepth 100000
namespace Mine
section
local macro_rules | `(tactic| walk_at "ite") => `(tactic| (k_here; k_openite; first | (refine ite_pos (by (try simp only [decide_eq_true_eq]); omega) ?_) | (refine ite_neg (by (try simp only [decide_eq_true_eq]); omega) ?_)))
local macro_rules | `(tactic| walk_at "my stop") => `(tactic| first | (with_reducible show wpAny _ _ (exec (Stmt.While _ _ _ _) _) _ _ _) | (with_reducible show wpAny _ _ (exec (Stmt.For _ _ _ _ _) _) _ _ _) | (with_reducible show wpAny _ _ (call (Value.ref _) _ _) _ _ _) | (with_reducible show wpAny _ _ (execs _ _) _ _ _) | (with_reducible show wpAny _ _ (pyIter _) _ _ _) | (with_reducible show wpAny _ _ (call (Value.builtin "str.splitlines") _ _) _ _ _))
local macro_rules | `(tactic| walk_at "my steps") => `(tactic| repeat' (first | (k_unfold; (try dsimp only)) | ((fail_if_success (walk_at "my stop")); first | walk1 | (dsimp only; walk1))))
local macro_rules | `(tactic| walk_at "my go") => `(tactic| ((first | refine wpAny_execs_cons ?_ | (refine wpAny_execs_nil ?_; (try dsimp only))); walk_at "my steps"; (all_goals try dsimp only)))
set_option maxHeartbeats 4000000 in
theorem body_call {prog : Program} {w : World} {dp un : Nat} {gd : Option (List Code)} {outer : List Env} {s : Shared} {Q E : Value → Shared → Prop} {x : Str} {t : Tok}
    (R : Rdy w dp un gd outer s.heap) (h0 : 0 < x.length) (hx : x.length ≤ 20) (hc : ∀ c ∈ ls x, okO c) (hlast : ∃ l, ls x = l ++ [107])
    (hq : ∀ t h' tk, s.heap.StaysIn h' → Q (.str ⟨((ls x).flatMap bTab).toArray⟩ t) { s with heap := h', toks := tk }) :
    wpAny (model prog w) (Ar dp un gd outer) (call (.ref 58) [.str x t]) Q E s := by
  have KX := R.kin
  k_dflt (refine' enter (binds := [(Str.ofString "body", .str x t), (Str.ofString "maxlinelen", .int 76 1753), (Str.ofString "eol", .str (Str.ofString "\n") 189)]) R ?k6 ?k7 ?k9 ?kB ?_ ?c2 ?c3 ?c4 ?c5; (case k6 => k_is); (case k7 => k_is); (case k9 => exact binds_K KX rfl (by k_is) rfl rfl rfl); (case kB => exact locs rfl); (case c5 => decide); (case c2 => exact rfl); (case c3 => exact rfl); (case c4 => exact rfl))
  clear KX
  intro base p loose mean mg mb h₁ F N B X T
  (try dsimp only)
  (try k_fold)
  walk_at "my go"
  walk_at "my go"
  walk_at "my go"
  walk_at "my go"
  rotate_left
  · exfalso; omega
  walk_at "my go"
  refine gm_translate ?_
  dsimp only
  walk_at "my steps"
  (try dsimp only [List.cons_append, List.nil_append])
  obtain ⟨items, n0, hK, hT⟩ := tab47 w.params
  have hL : h₁.IsList 47 items := ⟨_, F.keep _ _ (X _ _ hK), rfl, n0, rfl⟩
  refine tr_call (tab := bTab) (items := items) (by exact hL) (fun c h => tabOk.at hT (hc c h).1) (fun c h => Nat.lt_trans (hc c h).1 (by decide)) (by omega) h0 (fun c _ => bTab_len c) ?_
  intro ty ky
  clear hK hT hL
  have hA : ∀ c ∈ ls (⟨((ls x).flatMap bTab).toArray⟩ : Str), bA c = true := body_A hc
  have hy : (⟨((ls x).flatMap bTab).toArray⟩ : Str).length ≤ 60 := by
    have := flat_len bTab bTab_len (ls x)
    rw [ls_len] at this
    show ((ls x).flatMap bTab).toArray.size ≤ 60
    rw [List.size_toArray]; omega
  have hlst : ∃ l, ls (⟨((ls x).flatMap bTab).toArray⟩ : Str) = l ++ [107] := by
    obtain ⟨l, hl⟩ := hlast
    exact ⟨l.flatMap bTab, by show (ls x).flatMap bTab = _; rw [hl, List.flatMap_append]; rfl⟩
  generalize (⟨((ls x).flatMap bTab).toArray⟩ : Str) = y at *
  have hy0 : 0 < y.length := by
    obtain ⟨l, hl⟩ := hlst
    rw [← ls_len, hl, List.length_append]; exact Nat.succ_pos _
  dsimp only
  walk_at "my steps"
  walk_at "my go"
  walk_at "my go"
  walk_at "my go"
  walk_at "my go"
  rename Fr _ _ _ _ => F2
  rename News _ _ _ _ => N2
  rename Addr => lb
  refine app_attr (N2 _ (.head _)).1 rfl rfl ⟨_, _, rfl⟩ ?_
  have F3 := F2.push { cls := .type "builtin_function_or_method", data := .fields #[.builtin "list.append", .ref lb] }
  have N3 := N2.push F2 { cls := .type "builtin_function_or_method", data := .fields #[.builtin "list.append", .ref lb] }
  have hlt := Heap.lt_size (N2 _ (.head _)).1
  clear F2 N2
  walk_at "my steps"
  dsimp only
  rename Fr _ _ _ _ => F2
  rename News _ _ _ _ => N2
  revert hlt F2 N2
  generalize Array.size (Heap.objs _) = ap
  intro hlt F2 N2
  dsimp only at hlt
  obtain ⟨m1, F3⟩ : ∃ m1, Fr s.heap s.heap.objs.size _ (kstB m1 [(Str.ofString "body", Value.str y ty), (Str.ofString "maxlinelen", Value.int 76 1753), (Str.ofString "eol", Value.str (Str.ofString "\n") 189), (Str.ofString "encoded_body", Value.ref lb), (Str.ofString "append", Value.ref ap)]) := ⟨_, fr_named F2 (by kst_all)⟩
  clear F2
  refine wpAny_execs_cons ?_
  refine cutL (s := s) (h₀ := s.heap) (L := s.heap.objs.size) (σ := Tok × Nat) (fun c => [(Str.ofString "body", Value.str y ty), (Str.ofString "eol", Value.str (Str.ofString "\n") 189), (Str.ofString "encoded_body", Value.ref lb), (Str.ofString "append", Value.ref ap)]) (fun c => [(lb, listOf #[.str y c.1] c.2)]) (fun _ => True) ?_ ?_
  · refine For_invVF F3 rfl rfl ?_
    walk_at "my steps"
    (try dsimp only)
    have hbr : ∀ c ∈ ls y, Unicode.isLineBreak c = false := fun c h => bA_line c (bA_lt (hA c h)) (hA c h)
    refine splitlinesN F3 N2 ?_ (by rw [sizeLine_eq]; omega) (by rw [cuts_one hbr hy0, sizeLine_eq]; show 1 ≤ 16777216; decide)
    intro l h9 k9 hl F4 N4
    rw [lines_one hbr hy0] at hl
    obtain ⟨t9, rfl⟩ : ∃ t9, l = [(y, t9)] := by
      match l, hl with
      | [(a, t9)], hl => exact ⟨t9, by cases hl; rfl⟩
    have hls : h9.IsList _ [Value.str y t9].toArray := ⟨_, (N4 _ (.head _)).1, rfl, _, rfl⟩
    have hlL := (N4 _ (.head _)).2.1
    dsimp only
    have hit : Txt.item y (-1) = ⟨#[107]⟩ := by
      obtain ⟨l, hl⟩ := hlst
      have := it_neg (x := y) (k := 1) (by decide) hy0
      rw [show (-((1 : Nat) : Int)) = -1 by decide] at this
      rw [this, hl, ← ls_len y, hl]
      simp
    refine for_list (σ := List Value × Nat) (fun c => [(ap, { cls := .type "builtin_function_or_method", data := .fields #[.builtin "list.append", .ref lb] }), (lb, listOf c.1.toArray c.2)])
      (fun c => [(Str.ofString "body", Value.str y ty), (Str.ofString "maxlinelen", Value.int 76 1753), (Str.ofString "eol", Value.str (Str.ofString "\n") 189), (Str.ofString "encoded_body", Value.ref lb), (Str.ofString "append", Value.ref ap)])
      (fun i c => (i = 0 ∧ c.1 = []) ∨ (i = 1 ∧ ∃ t, c.1 = [Value.str y t])) ([], 0) rfl hls hlL (fun q hq => Nat.ne_of_lt (Heap.lt_size (N2 q hq).1)) F4 (fun q hq => N4 q (.tail _ hq)) (by kst_all) (.inl ⟨rfl, rfl⟩) ?_ ?_
    · rintro ⟨us, n9⟩ i v m' h tk own hv hP hoff _ F N
      clear N4 F4 hls hlL N2
      obtain ⟨rfl, rfl⟩ : i = 0 ∧ v = Value.str y t9 := by
        match i, hv with
        | 0, hv => exact ⟨rfl, by cases hv; rfl⟩
      obtain rfl : us = [] := by
        rcases hP with h | h
        · exact h.2
        · exact absurd h.1 (by decide)
      dsimp only at F N
      have F5 : Fr s.heap s.heap.objs.size h _ := F
      have N5 : News s.heap s.heap.objs.size h ((ap, { cls := .type "builtin_function_or_method", data := .fields #[.builtin "list.append", .ref lb] }) :: (lb, listOf #[] n9) :: own) := N
      clear F N F3
      walk_at "my go"
      walk_at "my go"
      walk_at "my go"
      rename Fr _ _ _ _ => F6
      rename News _ _ _ _ => N6
      refine ksw_while (σ := Unit) (Led := fun _ => (ap, { cls := .type "builtin_function_or_method", data := .fields #[.builtin "list.append", .ref lb] }) :: (lb, listOf #[] n9) :: own) (ps := fun _ => []) (Facts := fun _ => True) (stored := []) (P := fun _ => True) (μ := fun _ => 0) () F6 N6 trivial (List.forall_mem_nil _) trivial ?_
      clear F6 N6
      intro c u' h tk _ _ F N
      walk_at "my steps"
      all_goals try dsimp only
      have hocc : (Builtin.Str.occurrences (Str.ofString " \t") (Txt.item y (-1)) 0 (Str.ofString " \t").length 1).isEmpty = true := by rw [hit]; decide +kernel
      have hs0 : Txt.slice y (some 0) none = y := ls_inj (sl_from (x := y) (k := 0) (Nat.zero_le _))
      walk_at "my go"
      rotate_left
      · exfalso; omega
      walk_at "my go"
      refine callWith_B (D := lb) ?_
      walk_at "my steps"
      (try dsimp only)
      rename Fr _ _ _ _ => F6
      rename News _ _ _ _ => N6
      refine ⟨(N6 _ (.head _)).1, ?_⟩
      (try dsimp only [List.nil_append])
      refine bound_append (N6 _ (.head _)).1 (N6 _ (.tail _ (.head _))).1 ?_ (by rw [sizeLine_eq]; decide)
      intro h8 hsb hg8
      have F7 : Fr s.heap s.heap.objs.size h8 _ := F6.change hsb (N6 _ (.tail _ (.head _))).2.1 (N6 _ (.tail _ (.head _))).2.2
      have N7 : News s.heap s.heap.objs.size h8 ((ap, { cls := .type "builtin_function_or_method", data := .fields #[.builtin "list.append", .ref lb] }) :: (lb, listOf (#[].push (Value.str (Txt.slice y (some 0) none) _)) (n9 + 1)) :: own) := news_set (pre := [(ap, _)]) N6 (List.forall_mem_singleton.mpr (Nat.ne_of_gt hlt)) (fun q hq e => hoff q hq lb (.tail _ (.head _)) e) hsb hg8
      clear F6 N6
      rw [hs0] at N7
      walk_at "my steps"
      dsimp only
      walk_at "my go"
      walk_at "my go"
      exact Turned.next ([Value.str y _], n9 + 1) F7 N7 (fun q hq => List.mem_append_left own hq) (fun q hq => .tail _ (.tail _ hq)) rfl (by kst_all) (.inr ⟨rfl, _, rfl⟩)
    · rintro ⟨us, n9⟩ h tk m' hP F N
      obtain ⟨t8, rfl⟩ : ∃ t, us = [Value.str y t] := by
        rcases hP with h | h
        · exact absurd h.1 (Nat.succ_ne_zero _)
        · exact h.2
      exact CutL.intro (t8, n9) F (fun q hq => N q (.tail _ hq)) (by kst_all) trivial
  · rintro ⟨t8, n9⟩ h tk m' _ F N
    clear F3 N2
    dsimp only at F N
    have hit : Txt.item y (-1) = ⟨#[107]⟩ := by
      obtain ⟨l, hl⟩ := hlst
      have := it_neg (x := y) (k := 1) (by decide) hy0
      rw [show (-((1 : Nat) : Int)) = -1 by decide] at this
      rw [this, hl, ← ls_len y, hl]
      simp
    have hocc : (Builtin.Str.occurrences (Str.ofString "\r\n") (Txt.item y (-1)) 0 (Str.ofString "\r\n").length 1).isEmpty = true := by rw [hit]; decide +kernel
    walk_at "my go"
    walk_at "my go"
    walk_at "my go"
    rw [show Txt.join (Str.ofString "\n") [y] = y from rfl]
    exact hq _ _ _ F.keep
end
end Mine
end
section
open PySem PySem.W PyProof.Rows PySem.Calls
open PySem.Builtin
set_option maxRecDepth 100000
namespace Mine
theorem lat_run (b : Array UInt8) (id : String) (hb : b.size ≤ 1000) : _codecs.runDecoder id _codecs.latin1Decoder none true b 0 [] = pure (b.map (·.toNat), b.size) := by
  unfold _codecs.runDecoder
  dsimp only
  rw [Std.Legacy.Range.forIn_eq_forIn_range']
  generalize hf : (fun (x : Nat) (r : Nat × Array Nat × _codecs.Faults) => (_ : Sem (ForInStep (Nat × Array Nat × _codecs.Faults)))) = f
  have hstep : ∀ i (st : _codecs.Faults), i < b.size → f i (i, (b.map (·.toNat)).extract 0 i, st) = pure (.yield (i + 1, (b.map (·.toNat)).extract 0 (i + 1), st)) := by
    intro i st hi
    rw [← hf]
    dsimp only
    have h1 : ¬ ((b.map (·.toNat)).extract 0 i).size > sizeLine := by
      rw [sizeLine_eq]; simp; omega
    rw [if_neg h1, if_neg (by omega)]
    show pure (ForInStep.yield (i + 1, (b.map (·.toNat)).extract 0 i ++ #[(b.getD i 0).toNat], st)) = _
    have h2 : (b.map (·.toNat)).extract 0 i ++ #[(b.getD i 0).toNat] = (b.map (·.toNat)).extract 0 (i + 1) := by
      apply Array.toList_inj.mp
      simp [List.take_add_one, hi, Array.getD]
    rw [h2]
  have hrun : ∀ (n i : Nat) (st : _codecs.Faults), i + n = b.size → forIn (List.range' i n) (i, (b.map (·.toNat)).extract 0 i, st) f = pure (b.size, b.map (·.toNat), st) := by
    intro n
    induction n with
    | zero =>
      intro i st h
      obtain rfl : i = b.size := by omega
      have : (b.map (·.toNat)).extract 0 b.size = b.map (·.toNat) := by
        apply Array.toList_inj.mp
        simp
        exact List.take_of_length_le (by simp)
      rw [this]
      rfl
    | succ n ih =>
      intro i st h
      rw [List.range'_succ, List.forIn_cons, hstep i st (by omega)]
      exact ih (i + 1) st (by omega)
  have := hrun b.size 0 {} (by omega)
  have e0 : (b.map (·.toNat)).extract 0 0 = #[] := by simp
  rw [e0] at this
  show (forIn (List.range' 0 ((b.size - 0 + 1 - 1) / 1) 1) (0, #[], {}) f >>= _) = _
  rw [show (b.size - 0 + 1 - 1) / 1 = b.size by omega, this]
  rfl
theorem road_lat (b : Array UInt8) (id : String) : _codecs.decodeRoad id b (PySem.Str.ofString "latin1") none [] = (_codecs.runDecoder id _codecs.latin1Decoder none true b 0 [] >>= fun r => mkStr ⟨r.1⟩) := by kernel_rfl
theorem entry_lat {c : UInt8} {cs : List UInt8} {t u : Tok} : «bytes.decode» ⟨[.bytes (c :: cs).toArray t, .str (PySem.Str.ofString "latin1") u], []⟩ = (mkStr (PySem.Str.ofString "utf-8") >>= fun _ => mkStr (PySem.Str.ofString "latin1") >>= fun e => mkStr (PySem.Str.ofString "bytes.decode") >>= fun d =>
    call (.builtin "_codecs.decode.text") [.bytes (c :: cs).toArray t, e, .none, d] >>= fun v => ret v) := by kernel_rfl
theorem meets_lat {b : Array UInt8} {t t1 t2 : Tok} {d : PySem.Str} (hb : b.size ≤ 1000) :
    Meets («_codecs.decode.text» ⟨[.bytes b t, .str (PySem.Str.ofString "latin1") t1, .none, .str d t2], []⟩) (fun _ R s => R (.ok (.ret (.str ⟨b.map (·.toNat)⟩ s.toks))) { s with toks := s.toks + 1 }) := by
  refine .of_wp fun prog w A R s h => ?_
  show wpAny _ _ (Bytes.bytesLike _ (.bytes b t) >>= fun r => _) _ _ s
  refine wpAny_bind (wpAny_of_eq KBd.like_eq ?_)
  refine wpAny_bind (wpAny_of_eq KBd.held_eq ?_)
  show wpAny _ _ (_codecs.decodeRoad _ b (PySem.Str.ofString "latin1") none [] >>= fun v => _) _ _ s
  rw [road_lat, lat_run b _ hb]
  refine wpAny_bind (wpAny_bind (wpAny_pure ?_))
  exact wpAny_mkStr (wpAny_pure ⟨_, rfl, h⟩) (by show (b.map (·.toNat)).size ≤ sizeLine; rw [Array.size_map, sizeLine_eq]; omega)
theorem args_dec (a : Value) (u : Tok) : argsOk "bytes.decode" ⟨[a, .str (PySem.Str.ofString "latin1") u], []⟩ := by
  unfold argsOk; rw [signature?_of (id := "bytes.decode") (n := "edoced".toList) (o := "setyb".toList) (by kernel_rfl) FB.owner_bytes]; kernel_rfl
theorem dec_call {prog : Program} {w : World} {A : Around} {E Q : Value → Shared → Prop} {s : Shared} {c : UInt8} {cs : List UInt8} {t u : Tok} (hb : cs.length ≤ 900) (h : ∀ t' k, Q (.str ⟨(c :: cs).toArray.map (·.toNat)⟩ t') { s with toks := k }) :
    wpAny (model prog w) A (call (.builtin "bytes.decode") [.bytes (c :: cs).toArray t, .str (PySem.Str.ofString "latin1") u]) Q E s := by
  refine call_meets FB.slot_bytes_decode (typeIs_bytes _ _ _) FB.entry_bytes_decode (args_dec _ _) (S := fun _ R s => ∀ t' k, R (.ok (.ret (.str ⟨(c :: cs).toArray.map (·.toNat)⟩ t'))) { s with toks := k }) ?_ h
  refine .of_wp fun prog w A R s h => ?_
  rw [entry_lat]
  refine wpAny_bind (wpAny_mkStr ?_ (by decide))
  refine wpAny_bind (wpAny_mkStr ?_ (by decide))
  refine wpAny_bind (wpAny_mkStr ?_ (by decide))
  exact wpAny_bind (call_function_meets KBd.kind_text KBd.plain_text KBd.entry_text (KBd.args_text _ _ _ _) (meets_lat (by rw [List.size_toArray, List.length_cons]; omega)) (wpAny_pure ⟨_, rfl, h _ _⟩))
end Mine
end
section
open PySem PySem.W PyProof.Rows PySem.Calls
set_option maxRecDepth 100000
namespace Mine
section
local macro_rules | `(tactic| walk_at "ite") => `(tactic| (k_here; k_openite; first | (refine ite_pos (by (try simp only [decide_eq_true_eq]); omega) ?_) | (refine ite_neg (by (try simp only [decide_eq_true_eq]); omega) ?_)))
local macro_rules | `(tactic| walk_at "my stop") => `(tactic| first | (with_reducible show wpAny _ _ (exec (Stmt.While _ _ _ _) _) _ _ _) | (with_reducible show wpAny _ _ (exec (Stmt.For _ _ _ _ _) _) _ _ _) | (with_reducible show wpAny _ _ (call (Value.ref _) _ _) _ _ _) | (with_reducible show wpAny _ _ (execs _ _) _ _ _) | (with_reducible show wpAny _ _ (pyIter _) _ _ _) | (with_reducible show wpAny _ _ (call (Value.builtin "str.splitlines") _ _) _ _ _))
local macro_rules | `(tactic| walk_at "my steps") => `(tactic| repeat' (first | (k_unfold; (try dsimp only)) | ((fail_if_success (walk_at "my stop")); first | walk1 | (dsimp only; walk1))))
local macro_rules | `(tactic| walk_at "my go") => `(tactic| ((first | refine wpAny_execs_cons ?_ | (refine wpAny_execs_nil ?_; (try dsimp only))); walk_at "my steps"; (all_goals try dsimp only)))
theorem ls_app (a b : Str) : ls (a ++ b) = ls a ++ ls b := by
  show (a ++ b).cps.toList = _
  rw [PySem.Str.cps_append, Array.toList_append]
theorem fin_str {Q : Value → Shared → Prop} {a b : Str} {t : Tok} {s : Shared} (e : a = b) (h : Q (.str b t) s) : Q (.str a t) s := e ▸ h
set_option maxHeartbeats 4000000 in
theorem hdr_call {prog : Program} {w : World} {dp un : Nat} {gd : Option (List Code)} {outer : List Env} {s : Shared} {Q E : Value → Shared → Prop} {c : UInt8} {cs : List UInt8} {t u : Tok}
    (R : Rdy w dp un gd outer s.heap) (hx : cs.length ≤ 20)
    (hq : ∀ t h' tk, s.heap.StaysIn h' → Q (.str ⟨([61, 63, 120, 63, 113, 63] ++ ((c :: cs).map UInt8.toNat).flatMap hTab ++ [63, 61]).toArray⟩ t) { s with heap := h', toks := tk }) :
    wpAny (model prog w) (Ar dp un gd outer) (call (.ref 45) [.bytes (c :: cs).toArray t, .str (Str.ofString "x") u]) Q E s := by
  have KX := R.kin
  k_dflt (refine' enter (binds := [(Str.ofString "header_bytes", .bytes (c :: cs).toArray t), (Str.ofString "charset", .str (Str.ofString "x") u)]) R ?k6 ?k7 ?k9 ?kB ?_ ?c2 ?c3 ?c4 ?c5; (case k6 => k_is); (case k7 => k_is); (case k9 => exact binds_K KX rfl (by k_is) rfl rfl rfl); (case kB => exact locs rfl); (case c5 => decide); (case c2 => exact rfl); (case c3 => exact rfl); (case c4 => exact rfl))
  clear KX
  intro base p loose mean mg mb h₁ F N B X T
  (try dsimp only)
  (try k_fold)
  walk_at "my go"
  refine truthy_bytes (by rw [List.size_toArray, List.length_cons]; omega) ?_
  have hne : (((c :: cs).toArray.size : Int) != 0) = true := by
    rw [List.size_toArray, List.length_cons]; simp; omega
  rw [hne]
  dsimp only
  rw [if_neg (by decide)]
  walk_at "my go"
  walk_at "my go"
  refine dec_call (by omega) ?_
  intro t1 k1
  dsimp only
  walk_at "my steps"
  refine gm_translate ?_
  dsimp only
  walk_at "my steps"
  (try dsimp only [List.cons_append, List.nil_append])
  obtain ⟨items, n0, hK, hT⟩ := tab22 w.params
  have hL : h₁.IsList 22 items := ⟨_, F.keep _ _ (X _ _ hK), rfl, n0, rfl⟩
  have e1 : ls (⟨(c :: cs).toArray.map (·.toNat)⟩ : Str) = (c :: cs).map UInt8.toNat := by
    show ((c :: cs).toArray.map (·.toNat)).toList = _
    rw [Array.toList_map]
  have hl : (⟨(c :: cs).toArray.map (·.toNat)⟩ : Str).length = cs.length + 1 := by
    show ((c :: cs).toArray.map (·.toNat)).size = _
    rw [Array.size_map, List.size_toArray, List.length_cons]
  have hlt : ∀ a ∈ ls (⟨(c :: cs).toArray.map (·.toNat)⟩ : Str), a < 256 := by
    rw [e1]
    intro a ha
    obtain ⟨b, _, rfl⟩ := List.mem_map.mp ha
    exact b.toNat_lt
  refine tr_call (tab := hTab) (items := items) (by exact hL) (fun c h => tabOk.at hT (hlt c h)) (fun c h => Nat.lt_trans (hlt c h) (by decide)) (by omega) (by omega) (fun c _ => hTab_len c) ?_
  rw [e1]
  intro ty ky
  clear hK hT hL
  have hy : (⟨(((c :: cs).map UInt8.toNat).flatMap hTab).toArray⟩ : Str).length ≤ 63 := by
    have := flat_len hTab hTab_len ((c :: cs).map UInt8.toNat)
    rw [List.length_map, List.length_cons] at this
    show (((c :: cs).map UInt8.toNat).flatMap hTab).toArray.size ≤ 63
    rw [List.size_toArray]; omega
  dsimp only
  walk_at "my steps"
  walk_at "my go"
  rename Fr _ _ _ _ => F9
  show Q (Value.str _ _) _
  refine fin_str (Q := Q) ?_ (hq _ _ _ F9.keep)
  apply ls_inj
  rw [ls_app, ls_app, ls_app, ls_app, ls_app, show ls Str.empty = [] from rfl, show ls (Str.ofString "=?") = [61, 63] from by decide +kernel, show ls (Str.ofString "x") = [120] from by decide +kernel, show ls (Str.ofString "?q?") = [63, 113, 63] from by decide +kernel, show ls (Str.ofString "?=") = [63, 61] from by decide +kernel]
  rfl
end
end Mine
end
section
open PySem PySem.W PyProof.Rows PySem.Calls
set_option maxRecDepth 100000
namespace Mine
def Mk (h₂ : Heap) (bad : List Addr) (G : Value → Obj → Prop) (h : Heap) (v y : Value) : Prop :=
  ∃ T o, y = .ref T ∧ h₂.get? T = none ∧ T ∉ bad ∧ h.get? T = some o ∧ G v o
theorem Mk.keep {h₂ h h' : Heap} {bad : List Addr} {G : Value → Obj → Prop} {v y : Value} (x : Mk h₂ bad G h v y) (k : ∀ b o, b ∉ bad → h.get? b = some o → h'.get? b = some o) : Mk h₂ bad G h' v y := by
  obtain ⟨T, o, e, h1, h2, h3, h4⟩ := x
  exact ⟨T, o, e, h1, h2, k T o h2 h3, h4⟩
theorem paired_mono {α β : Type} {F F' : α → β → Prop} (k : ∀ a b, F a b → F' a b) : ∀ {l₁ : List α} {l₂ : List β}, Paired F l₁ l₂ → Paired F' l₁ l₂
  | _, _, .nil => .nil
  | _, _, .cons h t => .cons (k _ _ h) (paired_mono k t)
section
variable {prog : Program} {w : World} {A : Around} {E : Value → Shared → Prop} {env : Env}
structure QuietG (prog : Program) (w : World) (A : Around) (env : Env) (scope : Scope) (x : Str) (elt : PySem.Expr) (vs : List Value) (I : Addr) (G : Value → Obj → Prop) (s₂ : Shared) : Prop where
  elt : ∀ C v s₃ m₃ E', v ∈ vs → s₃.heap.Ns C m₃ → m₃ x = some v → (∀ b o, b ≠ I → s₂.heap.get? b = some o → s₃.heap.get? b = some o) →
    wpAny (model prog w) A (eval elt (compEnv scope C env)) (fun y s₄ => (∃ T o, y = .ref T ∧ s₃.heap.get? T = none ∧ s₄.heap.get? T = some o ∧ G v o) ∧ Keeps s₃ s₄) E' s₃
theorem block_objs {elt iter : PySem.Expr} {x : Str} {px : Pos} {scope : Scope} {pos : Pos} {s₂ : Shared} {I l : Addr} {vs : List Value} {G : Value → Obj → Prop}
    (hh : A.handled = none) (hne : l ≠ I) (hsz : vs.length ≤ sizeLine) {RR : Value → Env → Result → Shared → Prop}
    (hcell : ∀ y ∈ scope.names, y.2 ≠ .cell) (hkind : scope.kind = .function) (hx : scope.names.lookup x = some .local)
    (hst : s₂.heap.IsListIter I l 0 ∧ s₂.heap.IsList l vs.toArray) (hq : QuietG prog w A env scope x elt vs I G s₂)
    (hRR : ∀ D C h' tk m' ys, s₂.heap.get? D = none → s₂.heap.get? C = none → D ≠ C → h'.Ns C m' → h'.PlainList D ys → Paired (Mk s₂.heap [I, D, C] G h') vs ys.toList →
      (∀ b o, b ≠ I → s₂.heap.get? b = some o → h'.get? b = some o) → RR (.ref D) (compEnv scope C env) (.ok .next) { s₂ with heap := h', toks := tk }) :
    wpAny (model prog w) A (newList []) (fun acc s₃ => wpAny (model prog w) A (newFunctionEnv scope env.globals [] [] env.qual none .none (some env)) (fun cenv s₄ =>
      codeAny (model prog w) A (.compStart (.ListComp elt [⟨.Name x px, iter, [], 0⟩] scope pos) 0 (.ref I) acc { cenv with scope := scope }) (RR acc { cenv with scope := scope }) s₄) E s₃) E s₂ := by
  have W := Walks.list (prog := prog) (w := w) hh I l hne vs.toArray
  have hIlt : I < s₂.heap.objs.size := by obtain ⟨o, e, _⟩ := hst.1; exact Heap.lt_size e
  refine wpAny_newObj_type (wpAny_newFunctionEnv hcell (by intro y hy; simp at hy) (fun h₁ hns₁ hsb₁ => ?_) hkind)
  dsimp only at hns₁ hsb₁ ⊢
  generalize hH2 : s₂.heap.push { cls := .type "list", dict := none, data := .seq ([] : List Value).toArray } = H2 at hns₁ hsb₁ ⊢
  have hC : H2.objs.size = s₂.heap.objs.size + 1 := by rw [← hH2, Heap.size_push]
  generalize hCn : H2.objs.size = C at *
  generalize hDn : s₂.heap.objs.size = D at *
  have hDC : D ≠ C := by rw [hC]; exact Nat.ne_of_lt (Nat.lt_succ_self D)
  have hDC' : D ≤ C := by rw [hC]; exact Nat.le_succ D
  have fresh : ∀ a, D ≤ a → s₂.heap.get? a = none := fun a ha => by
    cases e : s₂.heap.get? a with
    | none => rfl
    | some o' => exact absurd (Heap.lt_size e) (by rw [hDn]; exact Nat.not_lt.mpr ha)
  have hlt2 : ∀ b o, s₂.heap.get? b = some o → b ≠ D ∧ b ≠ C := fun b o e => by
    constructor
    · rintro rfl; rw [fresh _ (Nat.le_refl _)] at e; cases e
    · rintro rfl; rw [fresh _ hDC'] at e; cases e
  have old : ∀ b o, s₂.heap.get? b = some o → h₁.get? b = some o := fun b o e => hsb₁.extBut b o (hlt2 b o e).2 (Heap.get?_push_of_some _ (hH2 ▸ Heap.get?_push_of_some _ e))
  have hacc : h₁.PlainList D #[] := ⟨_, hsb₁.extBut _ _ hDC (Heap.get?_push_of_some _ (hH2 ▸ hDn ▸ Heap.get?_push_size _ rfl))⟩
  have hst₁ : h₁.IsListIter I l 0 ∧ h₁.IsList l vs.toArray := W.frame _ _ _ hst fun b _ o e => old b o e
  have loop : ∀ s₃ : Shared, s₃ = { s₂ with heap := h₁, toks := s₂.toks + ([] : List (Str × Value)).length } →
      codeAny (model prog w) A (.compLoop (.ListComp elt [⟨.Name x px, iter, [], 0⟩] scope pos) 0 (.ref I) (.ref D) (compEnv scope C env))
        (RR (.ref D) (compEnv scope C env)) s₃ := by
    rintro s₃ rfl
    have hIo : ∃ o, s₂.heap.get? I = some o := by obtain ⟨o, e, _⟩ := hst.1; exact ⟨o, e⟩
    have hlo : ∃ o, s₂.heap.get? l = some o := by obtain ⟨o, e, _⟩ := hst.2; exact ⟨o, e⟩
    obtain ⟨oI, hoI⟩ := hIo
    obtain ⟨ol, hol⟩ := hlo
    have hID := hlt2 _ _ hoI
    have hlD := hlt2 _ _ hol
    refine codeAny_compLoop_list
      (fun k s' => ∃ h' tk m' ys, ∃ i : Nat, s' = { s₂ with heap := h', toks := tk } ∧ (h'.IsListIter I l i ∧ h'.IsList l vs.toArray) ∧ h'.PlainList D ys ∧ h'.Ns C m' ∧ i ≤ vs.length ∧ k = vs.length + 1 - i ∧
        Paired (Mk s₂.heap [I, D, C] G h') (vs.take i) ys.toList ∧ (∀ b o, b ≠ I → s₂.heap.get? b = some o → h'.get? b = some o)) ?_ (vs.length + 1)
      ⟨h₁, _, _, #[], 0, rfl, hst₁, hacc, hns₁, Nat.zero_le _, rfl, by simpa using Paired.nil, fun b o _ e => old b o e⟩
    rintro k s' ⟨H, tk, m', ys, i, rfl, hst', hacc', hn', hi, rfl, hF, hk⟩
    by_cases hlt : i < vs.length
    · refine W.item i _ _ _ (by simpa using hlt) hst' fun v h₂ tk₂ hPv hst₂ hk₂ => ?_
      have hv : vs[i]? = some v := by simpa using hPv
      refine wpAny_assign_Name (wpAny_storeName_local (by show scope.names.lookup x = some .local; exact hx) (hn'.at' fun o e => hk₂ _ o (fun h => hID.2 (List.mem_singleton.mp h).symm) e) (fun h₃ hn₃ hs₃ => ?_) (by simp [compEnv, hkind]))
      have up₃ : ∀ b o, b ≠ C → b ≠ I → H.get? b = some o → h₃.get? b = some o := fun b o hbC hbI e => hs₃.extBut b o hbC (hk₂ b o (fun h => hbI (List.mem_singleton.mp h)) e)
      have hst₃ : h₃.IsListIter I l (i + 1) ∧ h₃.IsList l vs.toArray := W.frame _ _ _ hst₂ fun b hb o e => hs₃.extBut b o (by
        rcases List.mem_cons.mp hb with rfl | hb
        · exact hID.2
        · rw [List.mem_singleton.mp hb]; exact hlD.2) e
      refine wpAny_mono (hq.elt C v _ _ _ (List.mem_of_getElem? hv) hn₃ (by simp) (fun b o hbI e => up₃ b o (hlt2 b o e).2 hbI (hk b o hbI e))) (fun y s₄ h₄ => ?_) fun _ _ e => e
      obtain ⟨⟨T, o, rfl, hTn, hTo, hG⟩, h₄, tk₄, rfl, hk₄⟩ := h₄
      have hacc₃ : h₃.PlainList D ys := hacc'.at fun o e => up₃ D o hDC (Ne.symm hID.1) e
      have hTC : T ≠ C := by obtain ⟨_, _, _, ho, _⟩ := hn₃; exact ne_of_none_some hTn ho
      have hTD : T ≠ D := by obtain ⟨_, ho⟩ := hacc₃; exact ne_of_none_some hTn ho
      have hTI : T ≠ I := by obtain ⟨_, ho, _⟩ := hst₃.1; exact ne_of_none_some hTn ho
      have hTs : s₂.heap.get? T = none := by
        cases e : s₂.heap.get? T with
        | none => rfl
        | some o' => exact absurd rfl (ne_of_none_some hTn (up₃ T o' hTC hTI (hk T o' hTI e)))
      have hys : ys.size ≤ sizeLine := by
        have e1 := hF.length
        rw [List.length_take] at e1
        have e4 : ys.toList.length = ys.size := by simp
        omega
      refine wpAny_list_append_plain (hsz := hys) (hacc₃.at fun o e => hk₄ _ o e) fun h₅ hl₅ hs₅ => ?_
      refine ⟨vs.length + 1 - (i + 1), by omega, h₅, tk₄, _, ys.push (.ref T), i + 1, rfl, ?_, hl₅, (hn₃.keeps hk₄).sameBut hs₅ (Ne.symm hDC), hlt, rfl, ?_, fun b o hbI e => hs₅.extBut b o (hlt2 b o e).1 (hk₄ b o (up₃ b o (hlt2 b o e).2 hbI (hk b o hbI e)))⟩
      · exact W.frame _ _ h₅ hst₃ fun b hb o e => hs₅.extBut b o (by
          rcases List.mem_cons.mp hb with rfl | hb
          · exact hID.1
          · rw [List.mem_singleton.mp hb]; exact hlD.1) (hk₄ b o e)
      · have hF₅ := paired_mono (F' := Mk s₂.heap [I, D, C] G h₅) (fun _ _ hy => hy.keep fun b o hb e => hs₅.extBut b o (fun h => hb (by simp [h])) (hk₄ b o (up₃ b o (fun h => hb (by simp [h])) (fun h => hb (by simp [h])) e))) hF
        have hy₅ : Mk s₂.heap [I, D, C] G h₅ v (.ref T) := ⟨T, o, rfl, hTs, by simp [hTI, hTD, hTC], hs₅.extBut T o hTD hTo, hG⟩
        rw [List.take_add_one, hv]
        simpa using Paired.snoc hF₅ hy₅
    · have hin : i = vs.length := by omega
      refine W.done _ _ _ (by simpa [hin] using hst') fun h₂ tk₂ hk₂ => ?_
      have k2 : ∀ b o, b ≠ I → H.get? b = some o → h₂.get? b = some o := fun b o hb e => hk₂ b o (fun h => hb (List.mem_singleton.mp h)) e
      refine hRR D C h₂ tk₂ m' ys (fresh _ (Nat.le_refl _)) (fresh _ hDC') hDC (hn'.at' fun o e => k2 _ o (Ne.symm hID.2) e) (hacc'.at fun o e => k2 _ o (Ne.symm hID.1) e) ?_ fun b o hb e => k2 b o hb (hk b o hb e)
      have := paired_mono (F' := Mk s₂.heap [I, D, C] G h₂) (fun _ _ hy => hy.keep fun b o hb e => k2 b o (fun h => hb (by simp [h])) e) hF
      rwa [hin, List.take_length] at this
  exact codeAny_compStart_list (loop _ rfl) (W.self 0 _ _ _ hst₁ (loop _ rfl))
def SrcO (prog : Program) (w : World) (A : Around) (env : Env) (scope : Scope) (x : Str) (elt : PySem.Expr) (G : Value → Obj → Prop) (y : Str) (Q : Flow → Shared → Prop) (xv : Value) (s₁ : Shared) : Prop :=
  ∃ (l : Addr) (vs : List Value) (h₀ : Heap) (m : Str → Option Value), xv = .ref l ∧ s₁.heap.IsList l vs.toArray ∧ vs.length ≤ sizeLine ∧ Fr h₀ env.locals s₁.heap m ∧
      (∀ C v s₃ m₃ E', v ∈ vs → s₃.heap.Ns C m₃ → m₃ x = some v → s₁.heap.StaysIn s₃.heap →
        wpAny (model prog w) A (eval elt (compEnv scope C env)) (fun y s₄ => (∃ T o, y = .ref T ∧ s₃.heap.get? T = none ∧ s₄.heap.get? T = some o ∧ G v o) ∧ Keeps s₃ s₄) E' s₃) ∧
      (∀ D h' tk ys, s₁.heap.get? D = none → h'.PlainList D ys → Paired (Mk s₁.heap [env.locals, D] G h') vs ys.toList → Fr h₀ env.locals h' (fun z => if z = y then some (.ref D) else m z) → (∀ b o, b ≠ env.locals → s₁.heap.get? b = some o → h'.get? b = some o) →
        Q .next { s₁ with heap := h', toks := tk })
theorem assign_objs {s : Shared} {elt iter : PySem.Expr} {x y : Str} {px py : Pos} {scope : Scope} {pos spos : Pos} {Q : Flow → Shared → Prop} (G : Value → Obj → Prop)
    (hsw : swapsWith (.ListComp elt [⟨.Name x px, iter, [], 0⟩] scope pos) (some (.Name y py)) spos.line env = pure true)
    (hfree : ∀ z ∈ scope.names, z.2 ≠ .free) (hcell : ∀ z ∈ scope.names, z.2 ≠ .cell) (hkind : scope.kind = .function)
    (hnames : ∀ z ∈ scope.names, z.2 = .local → scope.names.lookup z.1 = some .local) (hx : scope.names.lookup x = some .local)
    (hy : env.kindOf y = some .local) (hp : (env.scope.kind == .class || (env.scope.kind == .module && env.locals != env.globals)) = false)
    (hh : A.handled = none)
    (h : wpAny (model prog w) A (eval iter env) (SrcO prog w A env scope x elt G y Q) E s)
    (hs : ∀ x, foldedSetIterable iter env x = pure x) :
    wpAny (model prog w) A (exec (.Assign [.Name y py] (.ListComp elt [⟨.Name x px, iter, [], 0⟩] scope pos) spos) env) Q E s := by
  rw [exec_Assign_Name_used _ _ _ _ hsw]
  refine wpAny_bind (wpAny_standAt (wpAny_bind ?_))
  show wpAny _ A (do let _ ← comprehension (.ListComp elt [⟨.Name x px, iter, [], 0⟩] scope pos) scope env _ (newList []) false (eval iter env) (some (assign (.Name y py) env))) _ _ s
  refine wpAny_bind (wpAny_mono (wpAny_comprehension_use (Q := fun _ s' => Q .next s') rfl hs hfree hkind hnames (wpAny_mono h (fun xv s₁ h₁ => ?_) fun _ _ e => e))
    (fun _ s' hq => wpAny_pure (wpAny_pure hq)) fun _ _ e => e)
  obtain ⟨l, vs, h₀, m, rfl, hl, hsz, F, helt, hQ⟩ := h₁
  obtain ⟨ol, hol, _⟩ := id hl
  have hlI : l ≠ s₁.heap.objs.size := Nat.ne_of_lt (Heap.lt_size hol)
  have hnI : s₁.heap.get? s₁.heap.objs.size = none := by
    cases e : s₁.heap.get? s₁.heap.objs.size with
    | none => rfl
    | some o => exact absurd (Heap.lt_size e) (Nat.lt_irrefl _)
  refine wpAny_pyIter_list hl ?_
  have up : ∀ b o, s₁.heap.get? b = some o → b ≠ s₁.heap.objs.size := fun b o e => Nat.ne_of_lt (Heap.lt_size e)
  have hpush : ∀ b o, s₁.heap.get? b = some o → (s₁.heap.push { cls := .type "list_iterator", data := .fields #[.ref l, .int 0 0] }).get? b = some o := fun b o e => Heap.get?_push_of_some _ e
  refine block_objs (I := s₁.heap.objs.size) (l := l) (vs := vs) (G := G) (RR := fun acc cenv r s' => match r with
      | .ok _ => wpAny (model prog w) A (assign (.Name y py) env acc) (fun _ s'' => ∃ m, s''.heap.Ns cenv.locals m ∧ ∀ h', Heap.SameBut cenv.locals s''.heap h' → Q .next { s'' with heap := h' }) E s'
      | .error x => ∃ m, s'.heap.Ns cenv.locals m ∧ ∀ h', Heap.SameBut cenv.locals s'.heap h' → wpAny (model prog w) A (PySem.passOn "comprehension.variables-let-go" x cenv) (fun _ s' => Q .next s') E { s' with heap := h' })
    hh hlI hsz hcell hkind hx ⟨⟨_, Heap.get?_push_size _ rfl, rfl, rfl⟩, hl.at fun o e => Heap.get?_push_of_some _ e⟩ ⟨fun C v s₃ m₃ E' hv hn hm hk => helt C v s₃ m₃ E' hv hn hm fun b o e => hk b o (up b o e) (hpush b o e)⟩ ?_
  intro D C h' tk m' ys hD hC hDC hnC hplD hF hk
  have hn := F.ns
  obtain ⟨oL, _, _, hoL, _⟩ := id hn
  have hLI : env.locals ≠ s₁.heap.objs.size := up _ _ hoL
  have hLC : env.locals ≠ C := fun e => by rw [← e, hpush _ _ hoL] at hC; cases hC
  have hLD : env.locals ≠ D := fun e => by rw [← e, hpush _ _ hoL] at hD; cases hD
  have none₁ : ∀ b, (s₁.heap.push { cls := .type "list_iterator", data := .fields #[.ref l, .int 0 0] }).get? b = none → s₁.heap.get? b = none := fun b hb => by
    cases e : s₁.heap.get? b with
    | none => rfl
    | some o => rw [hpush b o e] at hb; cases hb
  refine wpAny_assign_Name (wpAny_storeName_local hy (hn.at' fun o e => hk _ o hLI (hpush _ _ e)) (fun h₂ hn₂ hs₂ => ?_) hp)
  refine ⟨m', hnC.sameBut hs₂ (Ne.symm hLC), fun h₃ hs₃ => ?_⟩
  have keep₃ : ∀ b o, b ≠ env.locals → b ≠ C → h'.get? b = some o → h₃.get? b = some o := fun b o hbL hbC e => hs₃.extBut b o hbC (hs₂.extBut b o hbL e)
  refine hQ D h₃ _ ys (none₁ D hD) (hplD.at fun o e => keep₃ D o (Ne.symm hLD) hDC e) (paired_mono (fun v z hz => ?_) hF) ⟨hn₂.sameBut hs₃ hLC, fun b o e => ?_, F.above⟩ (fun b o hbL e => ?_)
  · obtain ⟨T, o, e1, h1, h2, h3, h4⟩ := hz
    have hTC : T ≠ C := fun e => h2 (by simp [e])
    have hTD : T ≠ D := fun e => h2 (by simp [e])
    have hTL : T ≠ env.locals := fun e => by rw [e, hpush _ _ hoL] at h1; cases h1
    exact ⟨T, o, e1, none₁ T h1, by simp [hTL, hTD], keep₃ T o hTL hTC h3, h4⟩
  · have e' := F.keep b o e
    exact keep₃ b o (Nat.ne_of_lt (Nat.lt_of_lt_of_le (Heap.lt_size e) F.above)) (fun q => by rw [← q, hpush _ _ e'] at hC; cases hC) (hk b o (up _ _ e') (hpush _ _ e'))
  · exact keep₃ b o hbL (fun q => by rw [← q, hpush _ _ e] at hC; cases hC) (hk b o (up _ _ e) (hpush _ _ e))
end
end Mine
end
section
open PySem PySem.W PyProof.Rows PySem.Calls
set_option maxRecDepth 100000
namespace Mine
section
local macro_rules | `(tactic| walk_at "ite") => `(tactic| (k_here; k_openite; first | (refine ite_pos (by (try simp only [decide_eq_true_eq]); omega) ?_) | (refine ite_neg (by (try simp only [decide_eq_true_eq]); omega) ?_)))
local macro_rules | `(tactic| walk_at "my stop") => `(tactic| first | (with_reducible show wpAny _ _ (exec (Stmt.While _ _ _ _) _) _ _ _) | (with_reducible show wpAny _ _ (exec (Stmt.For _ _ _ _ _) _) _ _ _) | (with_reducible show wpAny _ _ (call (Value.ref _) _ _) _ _ _) | (with_reducible show wpAny _ _ (execs _ _) _ _ _) | (with_reducible show wpAny _ _ (pyIter _) _ _ _) | (with_reducible show wpAny _ _ (call (Value.builtin "str.splitlines") _ _) _ _ _))
local macro_rules | `(tactic| walk_at "my steps") => `(tactic| repeat' (first | (k_unfold; (try dsimp only)) | ((fail_if_success (walk_at "my stop")); first | walk1 | (dsimp only; walk1))))
local macro_rules | `(tactic| walk_at "my go") => `(tactic| ((first | refine wpAny_execs_cons ?_ | (refine wpAny_execs_nil ?_; (try dsimp only))); walk_at "my steps"; (all_goals try dsimp only)))
theorem fm_bd (a : Int) {k : Int} (hk : 0 < k) : 0 ≤ a.fmod k ∧ a.fmod k < k := ⟨Int.fmod_nonneg_of_pos a hk, Int.fmod_lt_of_pos a hk⟩
set_option maxHeartbeats 4000000 in
theorem octet_call {prog : Program} {w : World} {dp un : Nat} {gd : Option (List Code)} {outer : List Env} {s : Shared} {Q E : Value → Shared → Prop} {x : Int} {t : Tok}
    (R : Rdy w dp un gd outer s.heap)
    (hq : ∀ (o : Nat) t h' tk, okO o → s.heap.StaysIn h' → Q (.int (o : Int) t) { s with heap := h', toks := tk }) :
    wpAny (model prog w) (Ar dp un gd outer) (call (.ref 79) [.int x t]) Q E s := by
  k_dflt (refine' enter (binds := [(Str.ofString "x", .int x t)]) R ?k6 ?k7 ?k9 ?kB ?_ ?c2 ?c3 ?c4 ?c5; (case k6 => k_is); (case k7 => k_is); (case k9 => exact BindsTo.of_eq rfl); (case kB => exact locs rfl); (case c5 => decide); (case c2 => exact rfl); (case c3 => exact rfl); (case c4 => exact rfl))
  intro base p loose mean mg mb h₁ F N B X T
  (try dsimp only)
  (try k_fold)
  have b0 := fm_bd (x.fdiv 3) (k := 256) (by decide)
  have b1 := fm_bd (x.fdiv 3) (k := 95) (by decide)
  have b2 := fm_bd (x.fdiv 3) (k := 4) (by decide)
  walk_at "my go"
  refine wpAny_execs_cons ?_
  refine cut (s := s) (h₀ := s.heap) (L := s.heap.objs.size) (σ := Int × Tok) (fun c => [(Str.ofString "octet", Value.int c.1 c.2), (Str.ofString "x", Value.int x t)]) (fun c => 0 ≤ c.1 ∧ c.1 < 256) ?_ ?_
  · walk_at "my steps"
    all_goals try dsimp only
    · walk_at "my go"
      walk_at "my go"
      refine' CutN.intro (32 + (x.fdiv 3).fmod 95, _) (by assumption) ?_ (by constructor <;> dsimp only <;> omega)
      rotate_left
      kst_all
    · walk_at "my go"
      refine' CutN.intro ((x.fdiv 3).fmod 256, _) (by assumption) ?_ (by constructor <;> dsimp only <;> omega)
      rotate_left
      kst_all
  rintro ⟨v, tv⟩ h tk m' hP F N
  dsimp only at hP F
  refine wpAny_execs_cons ?_
  refine cut (s := s) (h₀ := s.heap) (L := s.heap.objs.size) (σ := Int × Tok) (fun c => [(Str.ofString "octet", Value.int c.1 c.2), (Str.ofString "x", Value.int x t)]) (fun c => 0 ≤ c.1 ∧ c.1 < 256) ?_ ?_
  · walk_at "my steps"
    all_goals try dsimp only
    · walk_at "my go"
      all_goals walk_at "my go"
      all_goals first
        | exact CutN.intro (61, _) (by assumption) (by kst_all) (by constructor <;> dsimp only <;> omega)
        | exact CutN.intro (32, _) (by assumption) (by kst_all) (by constructor <;> dsimp only <;> omega)
        | exact CutN.intro (9, _) (by assumption) (by kst_all) (by constructor <;> dsimp only <;> omega)
        | exact CutN.intro (46, _) (by assumption) (by kst_all) (by constructor <;> dsimp only <;> omega)
    · walk_at "my go"
      exact CutN.intro (v, tv) (by assumption) (by kst_all) hP
  rintro ⟨v, tv⟩ h tk m' hP F N
  dsimp only at hP F
  walk_at "my go"
  · rename_i F' _ _ _ _ _
    exact hq 61 _ _ _ (by unfold okO; decide) F'.keep
  · rename_i F' _ _ _ _ hv
    have e : ((v.toNat : Nat) : Int) = v := Int.toNat_of_nonneg hP.1
    simp only [List.any_cons, List.any_nil, Bool.or_false, Bool.or_eq_false_iff, beq_eq_false_iff_ne, ne_eq] at hv
    rw [show Value.int v tv = Value.int ((v.toNat : Nat) : Int) tv by rw [e]]
    exact hq v.toNat _ _ _ (by unfold okO; omega) F'.keep
end
end Mine
end
section
open PySem PySem.W PyProof.Rows PySem.Calls
set_option maxRecDepth 100000
namespace Mine
def lo (c : Nat) : Nat := if (65 ≤ c ∧ c ≤ 90) ∨ (192 ≤ c ∧ c ≤ 222 ∧ c ≠ 215) then c + 32 else c
theorem lower_one : ∀ c, c < 256 → Txt.lower ⟨#[c]⟩ = ⟨#[lo c]⟩ := by decide +kernel
theorem cst_two {c d : Nat} (hc : c < 256) (hd : d < 256) (h : lo c ≠ lo d) : cst c d = 2 := by
  unfold cst
  rw [if_neg (fun e => h (by rw [e])), if_neg]
  rw [lower_one c hc, lower_one d hd]
  intro e
  injection e with e
  injection e with e
  injection e with e
  exact h e
theorem lev_app (c : Nat → Nat → Nat) (a b a' b' : List Nat) : lev c (a ++ a') (b ++ b') ≤ lev c a b + lev c a' b' := lev_le_of ((al_lev a b).append (al_lev a' b'))
theorem lev_sum {A B : Nat → List Nat} {p : Nat → Nat} {F P : Nat → Bool} {D : Nat → Prop} (hF : ∀ x y, F x = true → P y = true → cst x y = 2)
    (hB : ∀ o, D o → (B o).all P = true) (h1 : ∀ o, D o → lev cst (A o) (B o) ≤ p o) (h2 : ∀ o, D o → 2 * (B o).length + 2 * (A o).countP F = 2 * (A o).length + p o)
    (os : List Nat) (hD : ∀ o ∈ os, D o) : lev cst (os.flatMap A) (os.flatMap B) = (os.map p).sum := by
  have up : lev cst (os.flatMap A) (os.flatMap B) ≤ (os.map p).sum := by
    clear h2 hB
    induction os with
    | nil => exact Nat.le_of_eq (lev_nil _)
    | cons o os ih =>
      rw [List.flatMap_cons, List.flatMap_cons, List.map_cons, List.sum_cons]
      refine Nat.le_trans (lev_app ..) (Nat.add_le_add (h1 o (hD o (List.mem_cons_self ..))) (ih fun o' ho => hD o' (List.mem_cons_of_mem _ ho)))
  have low := lev_low (c := cst) P F hF (os.flatMap A) (os.flatMap B) (by
    intro y hy
    obtain ⟨o, ho, hy⟩ := List.mem_flatMap.mp hy
    exact List.all_eq_true.mp (hB o (hD o ho)) y hy)
  have eq : 2 * (os.flatMap B).length + 2 * (os.flatMap A).countP F = 2 * (os.flatMap A).length + (os.map p).sum := by
    clear low up hB h1
    induction os with
    | nil => rfl
    | cons o os ih =>
      rw [List.flatMap_cons, List.flatMap_cons, List.map_cons, List.sum_cons, List.length_append, List.length_append, List.countP_append]
      have a := h2 o (hD o (List.mem_cons_self ..))
      have b := ih fun o' ho => hD o' (List.mem_cons_of_mem _ ho)
      omega
  omega
theorem lev_esc (o a b : Nat) : lev cst [o] [61, a, b] ≤ cst o 61 + 4 := by
  rw [lev_cons, lev_nil]
  exact Nat.le_trans (Nat.min_le_left _ _) (by simp; omega)
theorem lev_esc2 (o a b : Nat) : lev cst [o] [61, a, b] ≤ 6 := Nat.le_trans (lev_esc o a b) (by have := cst_le o 61; omega)
theorem lev_same0 (a : List Nat) : lev cst a a ≤ 0 := Nat.le_of_eq (lev_self cst_self a)
theorem lev_one (a b : Nat) : lev cst [a] [b] ≤ 2 := by
  rw [lev_cons, lev_nil]
  exact Nat.le_trans (Nat.min_le_left _ _) (by have := cst_le a b; simp; omega)
def plainP (o : Nat) : Bool := (48 ≤ o && o ≤ 57) || (65 ≤ o && o ≤ 90) || (97 ≤ o && o ≤ 122) || o == 33 || o == 42 || o == 43 || o == 45 || o == 47
def nearP (o : Nat) : Nat := if plainP o then 0 else if o = 61 then 4 else if o = 32 then 0 else if o = 9 ∨ (33 ≤ o ∧ o ≤ 126) then 0 else 6
def farP (o : Nat) : Nat := if plainP o then 0 else if o = 61 then 0 else if o = 32 then 2 else if o = 9 ∨ (33 ≤ o ∧ o ≤ 126) then 6 else 0
def oneT (o : Nat) : List Nat := [o]
theorem oneT_flat (os : List Nat) : os.flatMap oneT = os := by
  induction os with
  | nil => rfl
  | cons a r ih => rw [List.flatMap_cons, ih]; rfl
def hA (c : Nat) : Bool := hPlain c || c == 61 || c == 95
def nB (c : Nat) : Bool := decide (c < 256) && !bA c
def nH (c : Nat) : Bool := decide (c < 256) && !hA c
theorem costB : ∀ x, x < 256 → ∀ y, y < 127 → nB x = true → bA y = true → lo x ≠ lo y := by decide +kernel
theorem costH : ∀ x, x < 256 → ∀ y, y < 127 → nH x = true → hA y = true → lo x ≠ lo y := by decide +kernel
theorem hA_lt {c : Nat} (h : hA c = true) : c < 127 := by
  unfold hA hPlain at h
  simp at h
  omega
theorem costB2 (x y : Nat) (hx : nB x = true) (hy : bA y = true) : cst x y = 2 := by
  have lx : x < 256 := by unfold nB at hx; simp at hx; exact hx.1
  have ly := bA_lt hy
  exact cst_two lx (by omega) (costB x lx y ly hx hy)
theorem costH2 (x y : Nat) (hx : nH x = true) (hy : hA y = true) : cst x y = 2 := by
  have lx : x < 256 := by unfold nH at hx; simp at hx; exact hx.1
  have ly := hA_lt hy
  exact cst_two lx (by omega) (costH x lx y ly hx hy)
def stepOk (a b : List Nat) (p : Nat) : Bool := a == b || (match a, b with | [_], [_] => decide (2 ≤ p) | [o], [c, _, _] => c == 61 && (decide (6 ≤ p) || (o == 61 && decide (4 ≤ p))) | _, _ => false)
theorem stepOk.lev {a b : List Nat} {p : Nat} (h : stepOk a b p = true) : lev cst a b ≤ p := by
  unfold stepOk at h
  rw [Bool.or_eq_true] at h
  rcases h with h | h
  · rw [eq_of_beq h]; exact Nat.le_trans (lev_same0 b) (Nat.zero_le _)
  · split at h
    · exact Nat.le_trans (lev_one ..) (of_decide_eq_true h)
    · rename_i o c x y
      rw [Bool.and_eq_true, Bool.or_eq_true, Bool.and_eq_true, beq_iff_eq, beq_iff_eq, decide_eq_true_eq, decide_eq_true_eq] at h
      obtain ⟨rfl, h | ⟨rfl, h⟩⟩ := h
      · exact Nat.le_trans (lev_esc2 ..) h
      · refine Nat.le_trans (lev_esc ..) ?_
        rw [cst_self]; omega
    · exact nomatch h
def wellO (o : Nat) : Bool := o != 10 && o != 13 && o != 95
theorem near_step : ∀ o, o < 256 → wellO o = true → (stepOk (oneT o) (bTab o) (nearP o) && (bTab o).all bA && (2 * (bTab o).length + 2 * (oneT o).countP nB == 2 * (oneT o).length + nearP o)) = true := by decide +kernel
theorem far_step : ∀ o, o < 256 → wellO o = true → (stepOk (bTab o) (hTab o) (farP o) && (hTab o).all hA && (2 * (hTab o).length + 2 * (bTab o).countP nH == 2 * (bTab o).length + farP o)) = true := by decide +kernel
theorem both_step : ∀ o, o < 256 → wellO o = true → (stepOk (oneT o) (hTab o) (nearP o + farP o) && (hTab o).all hA && (2 * (hTab o).length + 2 * (oneT o).countP nH == 2 * (oneT o).length + (nearP o + farP o))) = true := by decide +kernel
theorem price_le : ∀ o, o < 256 → nearP o + farP o ≤ 6 := by decide +kernel
theorem okO.well {o : Nat} (h : okO o) : wellO o = true := by
  unfold wellO
  simp [h.2.1, h.2.2.1, h.2.2.2]
theorem lev_steps {A B : Nat → List Nat} {p : Nat → Nat} {F P : Nat → Bool} (hF : ∀ x y, F x = true → P y = true → cst x y = 2)
    (h : ∀ o, o < 256 → wellO o = true → (stepOk (A o) (B o) (p o) && (B o).all P && (2 * (B o).length + 2 * (A o).countP F == 2 * (A o).length + p o)) = true)
    (os : List Nat) (hD : ∀ o ∈ os, okO o) : lev cst (os.flatMap A) (os.flatMap B) = (os.map p).sum := by
  have h' : ∀ o, okO o → stepOk (A o) (B o) (p o) = true ∧ (B o).all P = true ∧ 2 * (B o).length + 2 * (A o).countP F = 2 * (A o).length + p o := by
    intro o ho
    have := h o ho.1 ho.well
    rw [Bool.and_eq_true, Bool.and_eq_true, beq_iff_eq] at this
    exact ⟨this.1.1, this.1.2, this.2⟩
  exact lev_sum (D := okO) hF (fun o ho => (h' o ho).2.1) (fun o ho => stepOk.lev (h' o ho).1) (fun o ho => (h' o ho).2.2) os hD
theorem lev_near (os : List Nat) (hD : ∀ o ∈ os, okO o) : lev cst os (os.flatMap bTab) = (os.map nearP).sum := by
  have := lev_steps costB2 near_step os hD
  rwa [oneT_flat] at this
theorem lev_far (os : List Nat) (hD : ∀ o ∈ os, okO o) : lev cst (os.flatMap bTab) (os.flatMap hTab) = (os.map farP).sum := lev_steps costH2 far_step os hD
theorem sum_add (f g : Nat → Nat) (os : List Nat) : (os.map fun o => f o + g o).sum = (os.map f).sum + (os.map g).sum := by
  induction os with
  | nil => rfl
  | cons a r ih => rw [List.map_cons, List.map_cons, List.map_cons, List.sum_cons, List.sum_cons, List.sum_cons, ih]; omega
theorem lev_both (os : List Nat) (hD : ∀ o ∈ os, okO o) : lev cst os (os.flatMap hTab) = (os.map nearP).sum + (os.map farP).sum := by
  have := lev_steps costH2 both_step os hD
  rwa [oneT_flat, sum_add] at this
theorem sums_le (os : List Nat) (hD : ∀ o ∈ os, okO o) : (os.map nearP).sum + (os.map farP).sum ≤ 6 * os.length := by
  rw [← sum_add]
  induction os with
  | nil => exact Nat.le_refl _
  | cons a r ih =>
    rw [List.map_cons, List.sum_cons, List.length_cons]
    have := ih fun o ho => hD o (List.mem_cons_of_mem _ ho)
    have := price_le a (hD a (List.mem_cons_self ..)).1
    omega
end Mine
end
section
open PySem PySem.W PyProof.Rows PySem.Calls
set_option maxRecDepth 100000
namespace Mine
def joinL (c : Nat) : List (List Nat) → List Nat
  | [] => []
  | [p] => p
  | p :: q :: r => p ++ c :: joinL c (q :: r)
theorem ls_append (x y : Str) : ls (x ++ y) = ls x ++ ls y := by
  show (x.cps ++ y.cps).toList = _
  exact Array.toList_append
theorem ls_join (c : Nat) : ∀ ps : List Str, ls (Str.join ⟨#[c]⟩ ps) = joinL c (ps.map ls)
  | [] => rfl
  | [p] => rfl
  | p :: q :: r => by
    show ls (p ++ ⟨#[c]⟩ ++ Str.join ⟨#[c]⟩ (q :: r)) = _
    rw [ls_append, ls_append, ls_join c (q :: r)]
    show ls p ++ [c] ++ _ = ls p ++ c :: joinL c _
    rw [List.append_assoc]; rfl
theorem cut_inj {c : Nat} : ∀ {p q A B : List Nat}, c ∉ p → c ∉ q → p ++ c :: A = q ++ c :: B → p = q ∧ A = B
  | [], [], A, B, _, _, h => ⟨rfl, by injection h⟩
  | [], b :: q, A, B, _, h2, h => by
    injection h with h _
    exact absurd (h ▸ List.mem_cons_self ..) h2
  | a :: p, [], A, B, h1, _, h => by
    injection h with h _
    exact absurd (h ▸ List.mem_cons_self ..) h1
  | a :: p, b :: q, A, B, h1, h2, h => by
    injection h with h h'
    obtain ⟨e1, e2⟩ := cut_inj (fun m => h1 (List.mem_cons_of_mem _ m)) (fun m => h2 (List.mem_cons_of_mem _ m)) h'
    exact ⟨by rw [h, e1], e2⟩
theorem join_inj {c : Nat} : ∀ {ps qs : List (List Nat)}, (∀ p ∈ ps, c ∉ p) → (∀ q ∈ qs, c ∉ q) → ps ≠ [] → qs ≠ [] → joinL c ps = joinL c qs → ps = qs
  | [], _, _, _, h, _, _ => absurd rfl h
  | _, [], _, _, _, h, _ => absurd rfl h
  | [p], [q], _, _, _, _, h => by rw [show p = q from h]
  | [p], q :: q' :: r, h1, _, _, _, h => by
    refine absurd ?_ (h1 p (List.mem_cons_self ..))
    rw [show p = q ++ c :: joinL c (q' :: r) from h]
    exact List.mem_append_right _ (List.mem_cons_self ..)
  | p :: p' :: r, [q], _, h2, _, _, h => by
    refine absurd ?_ (h2 q (List.mem_cons_self ..))
    rw [show q = p ++ c :: joinL c (p' :: r) from h.symm]
    exact List.mem_append_right _ (List.mem_cons_self ..)
  | p :: p' :: r, q :: q' :: r', h1, h2, _, _, h => by
    obtain ⟨e1, e2⟩ := cut_inj (h1 p (List.mem_cons_self ..)) (h2 q (List.mem_cons_self ..)) h
    have := join_inj (fun x m => h1 x (List.mem_cons_of_mem _ m)) (fun x m => h2 x (List.mem_cons_of_mem _ m)) (by nofun) (by nofun) e2
    rw [e1, this]
theorem split_is {x : Str} {c : Nat} {qs : List (List Nat)} (hq : ∀ q ∈ qs, c ∉ q) (h0 : qs ≠ []) (h : ls x = joinL c qs) : Txt.split x ⟨#[c]⟩ = qs.map fun q => ⟨q.toArray⟩ := by
  have e : (Txt.split x ⟨#[c]⟩).map ls = qs := by
    refine join_inj (c := c) ?_ hq ?_ h0 ?_
    · intro p hp
      obtain ⟨s, hs, rfl⟩ := List.mem_map.mp hp
      exact StrLaws.split_free x c s hs
    · intro e
      have := split_pos x ⟨#[c]⟩
      rw [← List.length_map (f := ls), e] at this
      exact absurd this (by decide)
    · rw [← ls_join, StrLaws.join_split, h]
  rw [← e, List.map_map]
  conv => lhs; rw [← List.map_id (Txt.split x ⟨#[c]⟩)]
  rfl
def HEX : Str := Str.ofString "0123456789ABCDEF"
def rdQ (q : Str) : List Int := (16 * Txt.find HEX (Txt.slice q none (some 1)) + Txt.find HEX (Txt.slice q (some 1) (some 2))) :: (ls (Txt.slice q (some 2) none)).map fun (c : Nat) => (c : Int)
def rdP : List Str → List Int
  | [] => []
  | p :: ps => (ls p).map (fun (c : Nat) => (c : Int)) ++ ps.flatMap rdQ
def toParts (T : Nat → List Nat) : List Nat → List Nat × List (List Nat)
  | [] => ([], [])
  | o :: os => match T o with
    | [c] => (c :: (toParts T os).1, (toParts T os).2)
    | _ :: t => ([], (t ++ (toParts T os).1) :: (toParts T os).2)
    | [] => toParts T os
theorem sl_mid {x : Str} {i j : Nat} (h : i ≤ j) (h' : j ≤ x.length) : ls (Txt.slice x (some (i : Int)) (some (j : Int))) = ((ls x).drop i).take (j - i) := by
  rw [beq_iff_eq.mp (slice_closesL (x := x) (i := (i : Int)) (j := (j : Int)) (by omega) (by omega) (by omega))]
  show ((x.cps.toList.drop (i : Int).toNat).take ((j : Int) - i).toNat) = _
  rw [Int.toNat_natCast, show ((j : Int) - i).toNat = j - i by omega]
theorem find_hex : ∀ k, k < 16 → Txt.find HEX ⟨#[hexd k]⟩ = (k : Int) := by decide +kernel
theorem rdQ_esc {i j : Nat} (hi : i < 16) (hj : j < 16) (r : List Nat) : rdQ ⟨(hexd i :: hexd j :: r).toArray⟩ = ((16 * i + j : Nat) : Int) :: r.map fun (c : Nat) => (c : Int) := by
  have hl : 2 ≤ (⟨(hexd i :: hexd j :: r).toArray⟩ : Str).length := by show 2 ≤ (hexd i :: hexd j :: r).toArray.size; simp
  have e1 : Txt.slice ⟨(hexd i :: hexd j :: r).toArray⟩ none (some 1) = ⟨#[hexd i]⟩ := ls_inj (sl_to (k := 1) (by omega))
  have e2 : Txt.slice ⟨(hexd i :: hexd j :: r).toArray⟩ (some 1) (some 2) = ⟨#[hexd j]⟩ := ls_inj (sl_mid (i := 1) (j := 2) (by omega) (by omega))
  have e3 : ls (Txt.slice ⟨(hexd i :: hexd j :: r).toArray⟩ (some 2) none) = r := sl_from (k := 2) (by omega)
  unfold rdQ
  rw [e1, e2, e3, find_hex i hi, find_hex j hj]
  simp
def goodT (T : Nat → List Nat) (o : Nat) : Bool := (T o == [o] && o != 61) || T o == escOf o
theorem hexd_ne : ∀ k, k < 16 → hexd k ≠ 61 := by decide
theorem toParts_ok {T : Nat → List Nat} : ∀ os : List Nat, (∀ o ∈ os, o < 256 ∧ goodT T o = true) →
    (∀ q ∈ (toParts T os).1 :: (toParts T os).2, 61 ∉ q) ∧ joinL 61 ((toParts T os).1 :: (toParts T os).2) = os.flatMap T ∧
    rdP (((toParts T os).1 :: (toParts T os).2).map fun q => ⟨q.toArray⟩) = os.map fun (o : Nat) => (o : Int)
  | [], _ => ⟨fun q hq => by simp [toParts] at hq; simp [hq], rfl, rfl⟩
  | o :: os, h => by
    obtain ⟨i1, i2, i3⟩ := toParts_ok os fun o' ho => h o' (List.mem_cons_of_mem _ ho)
    obtain ⟨ho, hg⟩ := h o (List.mem_cons_self ..)
    unfold goodT at hg
    rw [Bool.or_eq_true, Bool.and_eq_true, beq_iff_eq, beq_iff_eq, bne_iff_ne] at hg
    rcases hg with ⟨hT, hne⟩ | hT
    · have e : toParts T (o :: os) = (o :: (toParts T os).1, (toParts T os).2) := by rw [toParts, hT]
      rw [e]
      generalize toParts T os = P at i1 i2 i3
      obtain ⟨p, ps⟩ := P
      dsimp only at i1 i2 i3 ⊢
      refine ⟨?_, ?_, ?_⟩
      · intro q hq
        rcases List.mem_cons.mp hq with rfl | hq
        · intro hm
          rcases List.mem_cons.mp hm with hm | hm
          · exact hne hm.symm
          · exact i1 p (List.mem_cons_self ..) hm
        · exact i1 q (List.mem_cons_of_mem _ hq)
      · rw [List.flatMap_cons, hT, ← i2]
        cases ps <;> rfl
      · rw [List.map_cons (l := os), ← i3]
        rfl
    · have e : toParts T (o :: os) = ([], ([hexd (o / 16), hexd (o % 16)] ++ (toParts T os).1) :: (toParts T os).2) := by rw [toParts, hT]; rfl
      rw [e]
      generalize toParts T os = P at i1 i2 i3
      obtain ⟨p, ps⟩ := P
      dsimp only at i1 i2 i3 ⊢
      refine ⟨?_, ?_, ?_⟩
      · intro q hq
        rcases List.mem_cons.mp hq with rfl | hq
        · exact List.not_mem_nil
        rcases List.mem_cons.mp hq with rfl | hq
        · intro hm
          rcases List.mem_cons.mp hm with hm | hm
          · exact hexd_ne (o / 16) (by omega) hm.symm
          rcases List.mem_cons.mp hm with hm | hm
          · exact hexd_ne (o % 16) (by omega) hm.symm
          · exact i1 p (List.mem_cons_self ..) hm
        · exact i1 q (List.mem_cons_of_mem _ hq)
      · rw [List.flatMap_cons, hT, ← i2]
        cases ps <;> rfl
      · have := rdQ_esc (i := o / 16) (j := o % 16) (by omega) (by omega) p
        rw [show 16 * (o / 16) + o % 16 = o by omega] at this
        rw [List.map_cons (l := os), ← i3]
        show [] ++ (rdQ _ ++ List.flatMap rdQ _) = _
        rw [List.nil_append]
        show rdQ ⟨(hexd (o / 16) :: hexd (o % 16) :: p).toArray⟩ ++ _ = _
        rw [this]
        rfl
theorem read_back {T : Nat → List Nat} {os : List Nat} (h : ∀ o ∈ os, o < 256 ∧ goodT T o = true) : rdP (Txt.split ⟨(os.flatMap T).toArray⟩ ⟨#[61]⟩) = os.map fun (o : Nat) => (o : Int) := by
  obtain ⟨a, b, c⟩ := toParts_ok os h
  rw [split_is a (by nofun) (show ls ⟨(os.flatMap T).toArray⟩ = _ from b.symm)]
  exact c
def h2 (o : Nat) : List Nat := (hTab o).map fun c => if c = 95 then 32 else c
theorem good_b : ∀ o, o < 256 → wellO o = true → goodT bTab o = true := by decide +kernel
theorem good_h : ∀ o, o < 256 → wellO o = true → goodT h2 o = true := by decide +kernel
theorem read_body {os : List Nat} (h : ∀ o ∈ os, okO o) : rdP (Txt.split ⟨(os.flatMap bTab).toArray⟩ ⟨#[61]⟩) = os.map fun (o : Nat) => (o : Int) :=
  read_back fun o ho => ⟨(h o ho).1, good_b o (h o ho).1 (h o ho).well⟩
theorem read_h2 {os : List Nat} (h : ∀ o ∈ os, okO o) : rdP (Txt.split ⟨(os.flatMap h2).toArray⟩ ⟨#[61]⟩) = os.map fun (o : Nat) => (o : Int) :=
  read_back fun o ho => ⟨(h o ho).1, good_h o (h o ho).1 (h o ho).well⟩
theorem join_map {c d : Nat} : ∀ {ps : List (List Nat)}, (∀ p ∈ ps, c ∉ p) → joinL d ps = (joinL c ps).map fun x => if x = c then d else x := by
  have e : ∀ p : List Nat, c ∉ p → p.map (fun x => if x = c then d else x) = p := by
    intro p hp
    conv => rhs; rw [← List.map_id p]
    exact List.map_congr_left fun x hx => if_neg fun (e : x = c) => hp (e ▸ hx)
  intro ps
  induction ps with
  | nil => intro _; rfl
  | cons p ps ih =>
    intro h
    cases ps with
    | nil => exact (e p (h p (List.mem_cons_self ..))).symm
    | cons q r =>
      show p ++ d :: joinL d (q :: r) = (p ++ c :: joinL c (q :: r)).map _
      rw [List.map_append, List.map_cons, e p (h p (List.mem_cons_self ..)), ih fun x hx => h x (List.mem_cons_of_mem _ hx), if_pos rfl]
theorem replace_map (x : Str) (c d : Nat) : Txt.replace x ⟨#[c]⟩ ⟨#[d]⟩ = ⟨((ls x).map fun a => if a = c then d else a).toArray⟩ := by
  apply ls_inj
  rw [StrLaws.replace_one, ls_join, join_map (c := c), ← ls_join, StrLaws.join_split]
  intro p hp
  obtain ⟨s, hs, rfl⟩ := List.mem_map.mp hp
  exact StrLaws.split_free x c s hs
theorem read_word {os : List Nat} (h : ∀ o ∈ os, okO o) : rdP (Txt.split (Txt.replace ⟨(os.flatMap hTab).toArray⟩ ⟨#[95]⟩ ⟨#[32]⟩) ⟨#[61]⟩) = os.map fun (o : Nat) => (o : Int) := by
  rw [replace_map]
  show rdP (Txt.split ⟨((os.flatMap hTab).map _).toArray⟩ _) = _
  rw [List.map_flatMap]
  exact read_h2 h
end Mine
end
section
open PySem PySem.W PyProof.Rows PySem.Calls
set_option maxRecDepth 100000
namespace Mine
section
local macro_rules | `(tactic| walk_at "ite") => `(tactic| (k_here; k_openite; first | (refine ite_pos (by (try simp only [decide_eq_true_eq]); omega) ?_) | (refine ite_neg (by (try simp only [decide_eq_true_eq]); omega) ?_)))
local macro_rules | `(tactic| walk_at "my stop") => `(tactic| first | (with_reducible show wpAny _ _ (exec (Stmt.While _ _ _ _) _) _ _ _) | (with_reducible show wpAny _ _ (exec (Stmt.For _ _ _ _ _) _) _ _ _) | (with_reducible show wpAny _ _ (call (Value.ref _) _ _) _ _ _) | (with_reducible show wpAny _ _ (execs _ _) _ _ _) | (with_reducible show wpAny _ _ (pyIter _) _ _ _) | (with_reducible show wpAny _ _ (call (Value.builtin "str.splitlines") _ _) _ _ _))
local macro_rules | `(tactic| walk_at "my steps") => `(tactic| repeat' (first | (k_unfold; (try dsimp only)) | ((fail_if_success (walk_at "my stop")); first | walk1 | (dsimp only; walk1))))
local macro_rules | `(tactic| walk_at "my go") => `(tactic| ((first | refine wpAny_execs_cons ?_ | (refine wpAny_execs_nil ?_; (try dsimp only))); walk_at "my steps"; (all_goals try dsimp only)))
def CutR {σ : Type} (h₀ : Heap) (L : Addr) (s : Shared) (ps : σ → List (Str × Value)) (P : σ → Prop) (Q : Flow → Shared → Prop) (fl : Flow) (s' : Shared) : Prop :=
  CutN h₀ L s ps P fl s' ∨ (∃ v, fl = .ret v ∧ Q fl s')
theorem cutR {σ : Type} {M : Model} {A : Around} {s s₁ : Shared} {h₀ : Heap} {L : Addr} {E : Value → Shared → Prop} {st : Stmt} {rest : List Stmt} {env : Env} {Q : Flow → Shared → Prop} (ps : σ → List (Str × Value)) (P : σ → Prop)
    (h : wpAny M A (exec st env) (CutR h₀ L s ps P Q) E s₁)
    (k : ∀ (c : σ) (h' : Heap) (tk : Nat) (m' : Str → Option Value), P c → Fr h₀ L h' (kstB m' (ps c)) → News h₀ L h' [] → wpAny M A (execs rest env) Q E { s with heap := h', toks := tk }) :
    wpAny M A (exec st env) (fun f s' => match f with | .next => wpAny M A (execs rest env) Q E s' | f => Q f s') E s₁ := by
  refine wpAny_mono h (fun fl s' hc => ?_) fun _ _ x => x
  rcases hc with ⟨rfl, c, h', tk, m', rfl, F, hk, hp⟩ | ⟨v, rfl, hv⟩
  · exact k c h' tk m' hp (fr_named F hk) News.nil
  · exact hv
theorem pri_ret {s : Shared} {Q : Value → Shared → Prop} {o : Nat} {L D : Addr} {h' : Heap} {m : Str → Option Value} {a b : Int} {ta tb : Tok} {n tk : Nat} {rest : List (Addr × Obj)}
    (F : Fr s.heap L h' m) (N : News s.heap L h' ((D, { cls := .type "tuple", data := .seq #[.int a ta, .int b tb] n }) :: rest)) (ha : a = (nearP o : Int)) (hb : b = (farP o : Int))
    (hq : ∀ (T : Addr) ta tb n h' tk, s.heap.StaysIn h' → s.heap.get? T = none → h'.get? T = some { cls := .type "tuple", data := .seq #[.int (nearP o : Int) ta, .int (farP o : Int) tb] n } → Q (.ref T) { s with heap := h', toks := tk }) :
    Q (.ref D) { s with heap := h', toks := tk } := by
  subst ha; subst hb
  have := N _ (List.mem_cons_self ..)
  exact hq D ta tb n h' tk F.keep this.2.2 this.1
theorem plain_tr {o : Nat} (h : plainP o = true) : (0 : Int) = (nearP o : Int) ∧ (0 : Int) = (farP o : Int) := by
  unfold nearP farP; rw [if_pos h, if_pos h]; exact ⟨rfl, rfl⟩
theorem plain_or {o : Nat} : plainP o = true ↔ (48 ≤ o ∧ o ≤ 57) ∨ (65 ≤ o ∧ o ≤ 90) ∨ (97 ≤ o ∧ o ≤ 122) ∨ o = 33 ∨ o = 42 ∨ o = 43 ∨ o = 45 ∨ o = 47 := by
  unfold plainP
  simp only [Bool.or_eq_true, Bool.and_eq_true, decide_eq_true_eq, beq_iff_eq]
  omega
theorem plain_of {o : Nat} (h : (48 ≤ o ∧ o ≤ 57) ∨ (65 ≤ o ∧ o ≤ 90) ∨ (97 ≤ o ∧ o ≤ 122) ∨ o = 33 ∨ o = 42 ∨ o = 43 ∨ o = 45 ∨ o = 47) : plainP o = true := plain_or.2 h
theorem plain_any {o : Nat} (h : ([33, 42, 43, 45, 47].any fun x => x == (o : Int)) = true) : plainP o = true := by
  simp only [List.any_cons, List.any_nil, Bool.or_false, Bool.or_eq_true, beq_iff_eq] at h
  apply plain_of; omega
theorem plain_not {o : Nat} (h : ([33, 42, 43, 45, 47].any fun x => x == (o : Int)) = false) (h2 : ¬ ((48 ≤ o ∧ o ≤ 57) ∨ (65 ≤ o ∧ o ≤ 90) ∨ (97 ≤ o ∧ o ≤ 122))) : plainP o = false := by
  simp only [List.any_cons, List.any_nil, Bool.or_false, Bool.or_eq_false_iff, beq_eq_false_iff_ne, ne_eq] at h
  rw [← Bool.not_eq_true, plain_or]; omega
set_option maxHeartbeats 4000000 in
theorem prices_call {prog : Program} {w : World} {dp un : Nat} {gd : Option (List Code)} {outer : List Env} {s : Shared} {Q E : Value → Shared → Prop} {o : Nat} {t : Tok}
    (R : Rdy w dp un gd outer s.heap)
    (hq : ∀ (T : Addr) ta tb n h' tk, s.heap.StaysIn h' → s.heap.get? T = none → h'.get? T = some { cls := .type "tuple", data := .seq #[.int (nearP o : Int) ta, .int (farP o : Int) tb] n } → Q (.ref T) { s with heap := h', toks := tk }) :
    wpAny (model prog w) (Ar dp un gd outer) (call (.ref 86) [.int (o : Int) t]) Q E s := by
  k_dflt (refine' enter (binds := [(Str.ofString "octet", .int (o : Int) t)]) R ?k6 ?k7 ?k9 ?kB ?_ ?c2 ?c3 ?c4 ?c5; (case k6 => k_is); (case k7 => k_is); (case k9 => exact BindsTo.of_eq rfl); (case kB => exact locs rfl); (case c5 => decide); (case c2 => exact rfl); (case c3 => exact rfl); (case c4 => exact rfl))
  intro base p loose mean mg mb h₁ F N B X T
  (try dsimp only)
  (try k_fold)
  refine wpAny_execs_cons ?_
  refine cutR (s := s) (h₀ := s.heap) (L := s.heap.objs.size) (σ := Unit) (fun _ => [(Str.ofString "octet", Value.int (o : Int) t)]) (fun _ => plainP o = false) ?_ ?_
  · walk_at "my steps"
    all_goals try dsimp only
    all_goals walk_at "my go"
    all_goals first
      | exact Or.inl (CutN.intro () (by assumption) (by kst_all) (plain_not (by assumption) (by omega)))
      | exact Or.inr ⟨_, rfl, pri_ret (by assumption) (by assumption) (plain_tr (plain_of (by omega))).1 (plain_tr (plain_of (by omega))).2 hq⟩
      | exact Or.inr ⟨_, rfl, pri_ret (by assumption) (by assumption) (plain_tr (plain_any (by assumption))).1 (plain_tr (plain_any (by assumption))).2 hq⟩
  · rintro ⟨⟩ h tk m' hP F N
    try dsimp only at F
    have hn : (nearP o : Int) = if o = 61 then 4 else if o = 32 then 0 else if o = 9 ∨ (33 ≤ o ∧ o ≤ 126) then 0 else 6 := by
      unfold nearP; rw [hP, if_neg (by decide)]; split <;> (try split) <;> (try split) <;> rfl
    have hf : (farP o : Int) = if o = 61 then 0 else if o = 32 then 2 else if o = 9 ∨ (33 ≤ o ∧ o ≤ 126) then 6 else 0 := by
      unfold farP; rw [hP, if_neg (by decide)]; split <;> (try split) <;> (try split) <;> rfl
    walk_at "my go"
    · walk_at "my go"
      exact pri_ret (by assumption) (by assumption) (by rw [hn]; clear hn hf; split <;> (try split) <;> (try split) <;> omega) (by rw [hf]; clear hn hf; split <;> (try split) <;> (try split) <;> omega) hq
    walk_at "my go"
    walk_at "my go"
    · walk_at "my go"
      exact pri_ret (by assumption) (by assumption) (by rw [hn]; clear hn hf; split <;> (try split) <;> (try split) <;> omega) (by rw [hf]; clear hn hf; split <;> (try split) <;> (try split) <;> omega) hq
    walk_at "my go"
    walk_at "my go"
    · walk_at "my go"
      exact pri_ret (by assumption) (by assumption) (by rw [hn]; clear hn hf; split <;> (try split) <;> (try split) <;> omega) (by rw [hf]; clear hn hf; split <;> (try split) <;> (try split) <;> omega) hq
    · walk_at "my go"
      exact pri_ret (by assumption) (by assumption) (by rw [hn]; clear hn hf; split <;> (try split) <;> (try split) <;> omega) (by rw [hf]; clear hn hf; split <;> (try split) <;> (try split) <;> omega) hq
    · walk_at "my go"
      walk_at "my go"
      exact pri_ret (by assumption) (by assumption) (by rw [hn]; clear hn hf; split <;> (try split) <;> (try split) <;> omega) (by rw [hf]; clear hn hf; split <;> (try split) <;> (try split) <;> omega) hq
    · walk_at "my go"
      walk_at "my go"
      exact pri_ret (by assumption) (by assumption) (by rw [hn]; clear hn hf; split <;> (try split) <;> (try split) <;> omega) (by rw [hf]; clear hn hf; split <;> (try split) <;> (try split) <;> omega) hq
end
end Mine
end
section
open PySem PySem.W PyProof.Rows PySem.Calls
set_option maxRecDepth 100000
namespace Mine
theorem paired_imp {α β : Type} {F F' : α → β → Prop} : ∀ {l₁ : List α} {l₂ : List β}, Paired F l₁ l₂ → (∀ a b, a ∈ l₁ → F a b → F' a b) → Paired F' l₁ l₂
  | _, _, .nil, _ => .nil
  | _, _, .cons h t, k => .cons (k _ _ (List.mem_cons_self ..) h) (paired_imp t fun a b m => k a b (List.mem_cons_of_mem _ m))
theorem allF {α β : Type} {F : α → β → Prop} {l₁ : List α} {l₂ : List β} (h : Paired F (l₁.filter fun _ => true) l₂) : Paired F l₁ l₂ := by
  rwa [List.filter_eq_self.mpr fun _ _ => rfl] at h
def SignInt (f : Nat → Int) (v r : Value) : Prop := ∃ c u t, v = .str ⟨#[c]⟩ u ∧ r = .int (f c) t
theorem signs_ints {f : Nat → Int} : ∀ (l : List Nat) (vs ys : List Value), vs.length = l.length → (∀ (j : Nat) (v : Value), vs[j]? = some v → ∃ c u, l[j]? = some c ∧ v = .str ⟨#[c]⟩ u) → Paired (SignInt f) vs ys → IntsAre ys (l.map f)
  | [], [], _, _, _, .nil => .nil
  | c :: l, v :: vs, _, hlen, hP, .cons h t => by
    obtain ⟨c', u, e1, e2⟩ := hP 0 v rfl
    obtain ⟨c2, u2, t2, e3, rfl⟩ := h
    have : c' = c2 := by rw [e2] at e3; injection e3 with e3 _; injection e3 with e3; injection e3 with e3; injection e3
    have e1' : c = c' := by injection e1
    subst this; subst e1'
    exact .cons _ _ (signs_ints l vs _ (by simpa using hlen) (fun j v hv => hP (j + 1) v hv) t)
  | [], _ :: _, _, hlen, _, _ => nomatch hlen
  | _ :: _, [], _, hlen, _, _ => nomatch hlen
section
variable {prog : Program} {w : World} {A : Around} {E : Value → Shared → Prop} {env : Env} {s : Shared}
def SrcL (prog : Program) (w : World) (A : Around) (env : Env) (scope : Scope) (x : Str) (elt : PySem.Expr) (F : Value → Value → Prop) (Q : Value → Shared → Prop) (xv : Value) (s₁ : Shared) : Prop :=
  ∃ l vs, xv = .ref l ∧ s₁.heap.IsList l vs.toArray ∧ vs.length ≤ sizeLine ∧
    (∀ C v s₃ m₃ E', v ∈ vs → s₃.heap.Ns C m₃ → m₃ x = some v → s₁.heap.StaysIn s₃.heap → wpAny (model prog w) A (eval elt (compEnv scope C env)) (fun r s₄ => F v r ∧ Keeps s₃ s₄) E' s₃) ∧
    (∀ D h' tk n ys, s₁.heap.get? D = none → h'.get? D = some (listOf ys n) → Paired F vs ys.toList → s₁.heap.StaysIn h' → Q (.ref D) { s₁ with heap := h', toks := tk })
theorem comp_list {elt iter : PySem.Expr} {x : Str} {px : Pos} {scope : Scope} {pos : Pos} {Q : Value → Shared → Prop} (F : Value → Value → Prop)
    (hfree : ∀ y ∈ scope.names, y.2 ≠ .free) (hcell : ∀ y ∈ scope.names, y.2 ≠ .cell) (hkind : scope.kind = .function)
    (hnames : ∀ y ∈ scope.names, y.2 = .local → scope.names.lookup y.1 = some .local) (hx : scope.names.lookup x = some .local) (hh : A.handled = none)
    (h : wpAny (model prog w) A (eval iter env) (SrcL prog w A env scope x elt F Q) E s)
    (hs : ∀ x, foldedSetIterable iter env x = pure x) :
    wpAny (model prog w) A (eval (.ListComp elt [⟨.Name x px, iter, [], 0⟩] scope pos) env) Q E s := by
  refine ListComp_rowsP hfree hcell hkind hnames hx (wpAny_mono h (fun xv s₁ h₁ => ?_) fun _ _ e => e) hs
  obtain ⟨l, vs, rfl, hl, hsz, helt, hQ⟩ := h₁
  have hlt : l < s₁.heap.objs.size := by obtain ⟨_, e, _⟩ := hl; exact Heap.lt_size e
  refine wpAny_pyIter_list hl ?_
  refine ⟨fun _ => true, F, s₁.heap.objs.size, [s₁.heap.objs.size, l], [s₁.heap.objs.size], vs.toArray.size, _, _, rfl, Walks.list hh _ l (Nat.ne_of_lt hlt) vs.toArray, (by rw [List.size_toArray]; exact hsz),
    ⟨⟨_, Heap.get?_push_size _ rfl, rfl, rfl⟩, hl.at fun o e => Heap.get?_push_of_some _ e⟩, ?_, ⟨?_, ?_⟩, ?_⟩
  · intro b hb
    show b < (s₁.heap.push _).objs.size
    rw [Heap.size_push]
    rcases List.mem_cons.mp hb with rfl | hb
    · exact Nat.lt_succ_self _
    · rw [List.mem_singleton.mp hb]; exact Nat.lt_succ_of_lt hlt
  · intro C i v s₃ m₃ E' _ _ _ _ _
    exact wpAny_pure ⟨rfl, _, _, rfl, fun _ _ e => e⟩
  · intro C i v s₃ m₃ E' hP _ hn hm hk _
    exact helt C v s₃ m₃ E' (List.mem_of_getElem? (by simpa using hP)) hn hm fun b o e => hk b o (not_iter_of_old e) (Heap.get?_push_of_some _ e)
  · intro D h' tk ys vs' hnew hlD hplD hlen hP hF hk
    have e' : vs' = vs := by simpa using walked_is hlen hP
    subst e'
    obtain ⟨n, hn⟩ := hplD
    refine hQ D h' tk n ys ?_ hn (allF hF) fun b o e => hk b o (not_iter_of_old e) (Heap.get?_push_of_some _ e)
    cases e : s₁.heap.get? D with
    | none => rfl
    | some o' => rw [Heap.get?_push_of_some _ e] at hnew; cases hnew
def SrcS (prog : Program) (w : World) (A : Around) (env : Env) (scope : Scope) (x : Str) (elt : PySem.Expr) (f : Nat → Int) (Q : Value → Shared → Prop) (xv : Value) (s₁ : Shared) : Prop :=
  ∃ y t, xv = .str y t ∧ y.length ≤ sizeLine ∧
    (∀ C c u s₃ m₃ E', c ∈ ls y → s₃.heap.Ns C m₃ → m₃ x = some (.str ⟨#[c]⟩ u) → s₁.heap.StaysIn s₃.heap → wpAny (model prog w) A (eval elt (compEnv scope C env)) (fun r s₄ => (∃ t, r = .int (f c) t) ∧ Keeps s₃ s₄) E' s₃) ∧
    (∀ D h' tk n ys, s₁.heap.get? D = none → h'.get? D = some (listOf ys n) → IntsAre ys.toList ((ls y).map f) → s₁.heap.StaysIn h' → Q (.ref D) { s₁ with heap := h', toks := tk })
theorem comp_str {elt iter : PySem.Expr} {x : Str} {px : Pos} {scope : Scope} {pos : Pos} {Q : Value → Shared → Prop} (f : Nat → Int)
    (hfree : ∀ y ∈ scope.names, y.2 ≠ .free) (hcell : ∀ y ∈ scope.names, y.2 ≠ .cell) (hkind : scope.kind = .function)
    (hnames : ∀ y ∈ scope.names, y.2 = .local → scope.names.lookup y.1 = some .local) (hx : scope.names.lookup x = some .local) (hh : A.handled = none)
    (h : wpAny (model prog w) A (eval iter env) (SrcS prog w A env scope x elt f Q) E s)
    (hs : ∀ x, foldedSetIterable iter env x = pure x) :
    wpAny (model prog w) A (eval (.ListComp elt [⟨.Name x px, iter, [], 0⟩] scope pos) env) Q E s := by
  refine ListComp_rowsP hfree hcell hkind hnames hx (wpAny_mono h (fun xv s₁ h₁ => ?_) fun _ _ e => e) hs
  obtain ⟨y, t, rfl, hsz, helt, hQ⟩ := h₁
  refine wpAny_pyIter_str fun o St W hst => ?_
  refine ⟨fun _ => true, SignInt f, s₁.heap.objs.size, [s₁.heap.objs.size], [s₁.heap.objs.size], y.cps.size, SignAt y, St, rfl, W A hh, hsz, hst, ?_, ⟨?_, ?_⟩, ?_⟩
  · intro b hb
    show b < (s₁.heap.push o).objs.size
    rw [Heap.size_push, List.mem_singleton.mp hb]
    exact Nat.lt_succ_self _
  · intro C i v s₃ m₃ E' _ _ _ _ _
    exact wpAny_pure ⟨rfl, _, _, rfl, fun _ _ e => e⟩
  · intro C i v s₃ m₃ E' hP _ hn hm hk _
    obtain ⟨c, u, hc, rfl⟩ := hP
    have hm' : c ∈ ls y := List.mem_of_getElem? (i := i) (by simpa using hc)
    exact wpAny_mono (helt C c u s₃ m₃ E' hm' hn hm fun b o e => hk b o (not_iter_of_old e) (Heap.get?_push_of_some _ e)) (fun r s₄ h₄ => ⟨by obtain ⟨⟨t', rfl⟩, _⟩ := h₄; exact ⟨c, u, t', rfl, rfl⟩, h₄.2⟩) fun _ _ e => e
  · intro D h' tk ys vs' hnew hlD hplD hlen hP hF hk
    obtain ⟨n, hn⟩ := hplD
    refine hQ D h' tk n ys ?_ hn (signs_ints (ls y) vs' ys.toList (by rw [hlen]; simp [ls]) (fun j v hv => by obtain ⟨c, u, h1, h2⟩ := hP j v hv; exact ⟨c, u, by simpa using h1, h2⟩) (allF hF)) fun b o e => hk b o (not_iter_of_old e) (Heap.get?_push_of_some _ e)
    cases e : s₁.heap.get? D with
    | none => rfl
    | some o' => rw [Heap.get?_push_of_some _ e] at hnew; cases hnew
def SrcA (prog : Program) (w : World) (A : Around) (env : Env) (scope : Scope) (x : Str) (elt : PySem.Expr) (f : Nat → Int) (z : Str) (Q : Flow → Shared → Prop) (xv : Value) (s₁ : Shared) : Prop :=
  ∃ (y : Str) (t : Tok) (h₀ : Heap) (m : Str → Option Value) (news : List (Addr × Obj)), xv = .str y t ∧ y.length ≤ sizeLine ∧ Fr h₀ env.locals s₁.heap m ∧ News h₀ env.locals s₁.heap news ∧
    (∀ C c u s₃ m₃ E', c ∈ ls y → s₃.heap.Ns C m₃ → m₃ x = some (.str ⟨#[c]⟩ u) → s₁.heap.StaysIn s₃.heap → wpAny (model prog w) A (eval elt (compEnv scope C env)) (fun r s₄ => (∃ t, r = .int (f c) t) ∧ Keeps s₃ s₄) E' s₃) ∧
    (∀ D h' tk n ys, (∀ p ∈ news, p.1 ≠ D) → Fr h₀ env.locals h' (fun q => if q = z then some (.ref D) else m q) → News h₀ env.locals h' ((D, listOf ys n) :: news) → IntsAre ys.toList ((ls y).map f) → Q .next { s₁ with heap := h', toks := tk })
theorem assign_str {elt iter : PySem.Expr} {x z : Str} {px pz : Pos} {scope : Scope} {pos spos : Pos} {Q : Flow → Shared → Prop} (f : Nat → Int)
    (hsw : swapsWith (.ListComp elt [⟨.Name x px, iter, [], 0⟩] scope pos) (some (.Name z pz)) spos.line env = pure true)
    (hfree : ∀ y ∈ scope.names, y.2 ≠ .free) (hcell : ∀ y ∈ scope.names, y.2 ≠ .cell) (hkind : scope.kind = .function)
    (hnames : ∀ y ∈ scope.names, y.2 = .local → scope.names.lookup y.1 = some .local) (hx : scope.names.lookup x = some .local) (hh : A.handled = none)
    (hy : env.kindOf z = some .local) (hp : (env.scope.kind == .class || (env.scope.kind == .module && env.locals != env.globals)) = false)
    (h : wpAny (model prog w) A (eval iter env) (SrcA prog w A env scope x elt f z Q) E s)
    (hs : ∀ x, foldedSetIterable iter env x = pure x) :
    wpAny (model prog w) A (exec (.Assign [.Name z pz] (.ListComp elt [⟨.Name x px, iter, [], 0⟩] scope pos) spos) env) Q E s := by
  refine Assign_ListComp_rowsP hsw hfree hcell hkind hnames hx hy hp (wpAny_mono h (fun xv s₁ h₁ => ?_) fun _ _ e => e) hs
  obtain ⟨y, t, h₀, m, news, rfl, hsz, F, N, helt, hQ⟩ := h₁
  refine wpAny_pyIter_str fun o St W hst => ?_
  refine ⟨fun _ => true, SignInt f, s₁.heap.objs.size, [s₁.heap.objs.size], [s₁.heap.objs.size], y.cps.size, SignAt y, St, m, rfl, W A hh, hsz, hst, ?_, ?_, (F.push o).ns, ⟨?_, ?_⟩, ?_⟩
  · intro b hb
    show b < (s₁.heap.push o).objs.size
    rw [Heap.size_push, List.mem_singleton.mp hb]
    exact Nat.lt_succ_self _
  · intro hm
    exact absurd F.ns.lt ((List.mem_singleton.mp hm) ▸ Nat.lt_irrefl _)
  · intro C i v s₃ m₃ E' _ _ _ _ _
    exact wpAny_pure ⟨rfl, _, _, rfl, fun _ _ e => e⟩
  · intro C i v s₃ m₃ E' hP _ hn hm hk _
    obtain ⟨c, u, hc, rfl⟩ := hP
    have hm' : c ∈ ls y := List.mem_of_getElem? (i := i) (by simpa using hc)
    exact wpAny_mono (helt C c u s₃ m₃ E' hm' hn hm fun b o e => hk b o (not_iter_of_old e) (Heap.get?_push_of_some _ e)) (fun r s₄ h₄ => ⟨by obtain ⟨⟨t', rfl⟩, _⟩ := h₄; exact ⟨c, u, t', rfl, rfl⟩, h₄.2⟩) fun _ _ e => e
  · intro D h' tk ys vs' hnew hlD hplD hlen hP hF hn' hk
    obtain ⟨n, hn⟩ := hplD
    have hN : ∀ b o, s₁.heap.get? b = some o → D ≠ b := fun b o e q => by rw [q, Heap.get?_push_of_some _ e] at hnew; cases hnew
    refine hQ D h' tk n ys (fun p hp e => hN _ _ (N p hp).1 e.symm) ⟨hn', fun b o' e => hk b o' (Nat.ne_of_lt (Nat.lt_of_lt_of_le (Heap.lt_size e) F.above)) (not_iter_of_old (F.keep b o' e)) (Heap.get?_push_of_some _ (F.keep b o' e)), F.above⟩ ?_
      (signs_ints (ls y) vs' ys.toList (by rw [hlen]; simp [ls]) (fun j v hv => by obtain ⟨c, u, h1, h2⟩ := hP j v hv; exact ⟨c, u, by simpa using h1, h2⟩) (allF hF))
    intro p hp
    rcases List.mem_cons.mp hp with rfl | hp
    · refine ⟨hn, ?_, ?_⟩
      · obtain ⟨oL, _, _, ho, _⟩ := F.ns
        exact hN _ _ ho
      · cases e : h₀.get? D with
        | none => rfl
        | some o' => exact absurd rfl (hN _ _ (F.keep _ _ e))
    · exact ⟨hk _ _ (N p hp).2.1 (not_iter_of_old (N p hp).1) (Heap.get?_push_of_some _ (N p hp).1), (N p hp).2⟩
end
end Mine
end
section
open PySem PySem.W PyProof.Rows PySem.Calls
set_option maxRecDepth 100000
namespace Mine
theorem news_grow {h₀ h h' : Heap} {L D : Addr} {m : Str → Option Value} {o : Obj} {news : List (Addr × Obj)} (F : Fr h₀ L h m) (N : News h₀ L h news) (k : h.StaysIn h') (hD : h.get? D = none) (hg : h'.get? D = some o) : News h₀ L h' ((D, o) :: news) := by
  intro p hp
  rcases List.mem_cons.mp hp with rfl | hp
  · refine ⟨hg, ?_, ?_⟩
    · obtain ⟨oL, _, _, ho, _⟩ := F.ns
      exact ne_of_none_some hD ho
    · cases e : h₀.get? D with
      | none => rfl
      | some o' => exact absurd rfl (ne_of_none_some hD (F.keep _ _ e))
  · exact ⟨k _ _ (N p hp).1, (N p hp).2⟩
section
variable {M : Model} {A : Around} {E : Value → Shared → Prop} {s : Shared} {K : Frag} {C : Addr} {m mg mb : Str → Option Value} {scope : Scope} {env : Env} {p : Program} {loose : List Str} {mean : ExcName → Option Value} {x : Str} {pos : Pos} {v : Value} {Q : Value → Shared → Prop}
theorem c_own (hn : s.heap.Ns C m) (hx : m x = some v) (h : Q v s)
    (hk : (compEnv scope C env).scope.kind = .function) (hl : (compEnv scope C env).kindOf x = some .local) (hd : (x == ("__debug__" : Str)) = false) :
    wpAny M A (eval (.Name x pos) (compEnv scope C env)) Q E s := wpAny_Name (wpAny_loadName_local hk hl hn hx h) hd
theorem c_global (X : K.In s.heap) (T : Top p loose mean mg mb s.heap) (e : nsIn K mainGlobals x = some (some v)) (h : Q v s) (hg : env.globals = mainGlobals)
    (hk : (compEnv scope C env).scope.kind = .function) (hx : (compEnv scope C env).kindOf x = some .globalImplicit) (hd : (x == ("__debug__" : Str)) = false) :
    wpAny M A (eval (.Name x pos) (compEnv scope C env)) Q E s :=
  Name_function_global hk hx (loadGlobal_global (env := compEnv scope C env) (show s.heap.Ns env.globals mg from hg ▸ T.g) (mg_of X T.g e) h) hd
theorem c_built (X : K.In s.heap) (T : Top p loose mean mg mb s.heap) (e : nsIn K mainGlobals x = some none) (hv : bootBuiltins x = some v) (hn : x ≠ "__name__") (h : Q v s) (hg : env.globals = mainGlobals) (hb : env.builtins = builtinsNs)
    (hk : (compEnv scope C env).scope.kind = .function) (hx : (compEnv scope C env).kindOf x = some .globalImplicit) (hd : (x == ("__debug__" : Str)) = false) :
    wpAny M A (eval (.Name x pos) (compEnv scope C env)) Q E s :=
  Name_function_global hk hx (loadGlobal_builtin (env := compEnv scope C env) (show s.heap.Ns env.globals mg from hg ▸ T.g) (mg_none_of X T.g e) (show s.heap.Ns env.builtins mb from hb ▸ T.b) ((T.builtins x hn).trans hv) h) hd
end
end Mine
end
section
open PySem PySem.W PyProof.Rows PySem.Calls
set_option maxRecDepth 100000
namespace Mine
section
local macro_rules | `(tactic| walk_at "ite") => `(tactic| (k_here; k_openite; first | (refine ite_pos (by (try simp only [decide_eq_true_eq]); omega) ?_) | (refine ite_neg (by (try simp only [decide_eq_true_eq]); omega) ?_)))
local macro_rules | `(tactic| walk_at "my stop") => `(tactic| first | (with_reducible show wpAny _ _ (eval (Expr.ListComp _ _ _ _) _) _ _ _) | (with_reducible show wpAny _ _ (exec (Stmt.While _ _ _ _) _) _ _ _) | (with_reducible show wpAny _ _ (exec (Stmt.For _ _ _ _ _) _) _ _ _) | (with_reducible show wpAny _ _ (call (Value.ref _) _ _) _ _ _) | (with_reducible show wpAny _ _ (execs _ _) _ _ _) | (with_reducible show wpAny _ _ (pyIter _) _ _ _) | (with_reducible show wpAny _ _ (call (Value.builtin "str.splitlines") _ _) _ _ _))
local macro_rules | `(tactic| walk_at "my steps") => `(tactic| repeat' (first | (k_unfold; (try dsimp only)) | ((fail_if_success (walk_at "my stop")); first | walk1 | (dsimp only; walk1))))
local macro_rules | `(tactic| walk_at "my go") => `(tactic| ((first | refine wpAny_execs_cons ?_ | (refine wpAny_execs_nil ?_; (try dsimp only))); walk_at "my steps"; (all_goals try dsimp only)))
local macro_rules | `(tactic| walk_at "eval Name") => `(tactic| ((with_reducible show wpAny _ _ (eval (Expr.Name _ _) (compEnv _ _ _)) _ _ _); k_dflt (first
  | refine c_own (by assumption) (by assumption) ?_ rfl rfl (by decide)
  | refine c_global (by assumption) (by assumption) (by k_is) ?_ rfl rfl rfl (by decide)
  | refine c_built (by assumption) (by assumption) (by k_is) (by boot_by_name) (by decide) ?_ rfl rfl rfl rfl (by decide))))
set_option maxHeartbeats 4000000 in
theorem read_call {prog : Program} {w : World} {dp un : Nat} {gd : Option (List Code)} {outer : List Env} {s : Shared} {Q E : Value → Shared → Prop} {x : Str} {t : Tok}
    (R : Rdy w dp un gd outer s.heap) (hx : x.length ≤ 40)
    (hq : ∀ (T : Addr) items h' tk, s.heap.StaysIn h' → s.heap.get? T = none → h'.IsList T items → IntsAre items.toList (rdP (Txt.split x ⟨#[61]⟩)) → Q (.ref T) { s with heap := h', toks := tk }) :
    wpAny (model prog w) (Ar dp un gd outer) (call (.ref 91) [.str x t]) Q E s := by
  k_dflt (refine' enter (binds := [(Str.ofString "page", .str x t)]) R ?k6 ?k7 ?k9 ?kB ?_ ?c2 ?c3 ?c4 ?c5; (case k6 => k_is); (case k7 => k_is); (case k9 => exact BindsTo.of_eq rfl); (case kB => exact locs rfl); (case c5 => decide); (case c2 => exact rfl); (case c3 => exact rfl); (case c4 => exact rfl))
  intro base p loose mean mg mb h₁ F N B X T
  (try dsimp only)
  (try k_fold)
  walk_at "my go"
  rename_i l _ _ hl hst hsh _ _ F N
  obtain ⟨⟨p0, t0⟩, r, rfl⟩ : ∃ a r, l = a :: r := by
    cases l with
    | nil => exact absurd (len_of_split hl) (by decide)
    | cons a r => exact ⟨a, r, rfl⟩
  have hp0 : p0.length ≤ 40 := Nat.le_trans (hsh p0 (List.mem_cons_self ..)) hx
  have hlr := len_le_of_split hl
  (try dsimp only [List.map_cons, strValues] at *)
  generalize h₁.objs.size = D at *
  refine wpAny_execs_cons ?_
  refine assign_str (fun (c : Nat) => (c : Int)) ?sw ?fr ?ce ?ki ?na ?lx ?hh ?hy ?hp ?_ ?fs
  case sw => rfl
  case fr => decide
  case ce => decide
  case ki => rfl
  case na => decide
  case lx => rfl
  case hh => rfl
  case hy => rfl
  case hp => rfl
  case fs => intro _; rfl
  walk_at "my steps"
  rename_i hsp hl y _ hy0
  have ey : y = p0 := (Option.some.inj hy0).symm
  subst ey
  clear hy0
  dsimp only
  refine ⟨_, _, s.heap, _, _, rfl, by size_fits, by exact F, by exact N, ?el, ?_⟩
  case el =>
    intro C c u s₃ m₃ E' hc hn hm hk
    dsimp only at hk
    clear hst hsh hlr hl
    have X3 : (Mine.hk.heap_1 w.params).In s₃.heap := (X.keeps F.keep).keeps hk
    have T3 := (T.keeps F.keep).keeps hk
    clear X T F N B R
    walk_at "my steps"
    exact ⟨_, _, rfl, fun _ _ e => e⟩
  intro Dr h5 tk5 n5 ys hne F5 N5 hI
  clear F N hst
  dsimp only at F5 N5 hne ⊢
  obtain ⟨m1, F6⟩ : ∃ m1, Fr s.heap s.heap.objs.size _ (kstB m1 [(Str.ofString "octets", Value.ref Dr), (Str.ofString "parts", Value.ref D)]) := ⟨_, fr_named F5 (by kst_all)⟩
  clear F5
  refine wpAny_execs_cons ?_
  refine cutL (s := s) (h₀ := s.heap) (L := s.heap.objs.size) (σ := List Value × Nat) (fun c => [(Str.ofString "octets", Value.ref Dr)]) (fun c => [(Dr, listOf c.1.toArray c.2)]) (fun c => IntsAre c.1 (rdP (Txt.split x (Str.ofString "=")))) ?_ ?_
  · refine For_invVF F6 rfl rfl ?_
    walk_at "my steps"
    rename Fr _ _ _ _ => F7
    rename News _ _ _ _ => N7
    have hDr : Dr ≠ h5.objs.size + 1 := Nat.ne_of_lt (Nat.lt_succ_of_lt (Heap.lt_size (N5 _ (.head _)).1))
    revert hDr F7 N7
    generalize Array.size (Heap.objs _) + 1 = Ds
    intro F7 N7 hDr
    have hsl : slicePick (List.map (fun p => Value.str p.fst p.snd) ((y, t0) :: r)).toArray (some 1) none none = (r.map fun p => Value.str p.fst p.snd).toArray := slicePick_from _ 1 (by simp)
    (try dsimp only [List.map_cons] at N7 hsl)
    rw [hsl] at N7
    (try dsimp only)
    refine for_list (σ := List Value × Nat) (vs := r.map fun p => Value.str p.fst p.snd) (fun c => [(Dr, listOf c.1.toArray c.2)]) (fun _ => [(Str.ofString "octets", Value.ref Dr)])
      (fun i c => IntsAre c.1 ((ls y).map (fun (c : Nat) => (c : Int)) ++ ((r.take i).map (·.1)).flatMap rdQ) ∧ c.1.length ≤ 41 + 41 * i) (ys.toList, n5) rfl ⟨_, (N7 _ (.head _)).1, rfl, _, rfl⟩ (N7 _ (.head _)).2.1 ?ho F7 (fun q hq => N7 q (.tail _ (by rcases List.mem_singleton.mp hq with rfl; exact .head _))) (by kst_all) ?hp0 ?_ ?_
    case ho =>
      intro q hq
      rw [List.mem_singleton.mp hq]
      exact hDr
    case hp0 =>
      refine ⟨by rw [List.take_zero, List.map_nil, List.flatMap_nil, List.append_nil]; exact hI, ?_⟩
      have := hI.length
      rw [List.length_map, ls_len] at this
      show ys.toList.length ≤ _
      omega
    · rintro ⟨us, n9⟩ i v m' h tk own hv hP hoff _ F N
      clear N7 F7 N5 F6
      dsimp only at hP
      obtain ⟨⟨q, tq⟩, hr, rfl⟩ : ∃ a : Str × Tok, r[i]? = some a ∧ v = Value.str a.1 a.2 := by
        rw [List.getElem?_map, Option.map_eq_some_iff] at hv
        obtain ⟨a, h1, h2⟩ := hv
        exact ⟨a, h1, h2.symm⟩
      have hq40 : q.length ≤ 40 := Nat.le_trans (hsh q (.tail _ (List.mem_map.mpr ⟨_, List.mem_of_getElem? hr, rfl⟩))) hx
      have hi42 : i < 42 := by
        have h1 := (List.getElem?_eq_some_iff.mp hr).1
        rw [List.length_cons] at hlr
        omega
      have F5 : Fr s.heap s.heap.objs.size h _ := F
      have N5 : News s.heap s.heap.objs.size h ((Dr, listOf us.toArray n9) :: own) := N
      clear F N
      dsimp only
      walk_at "my go"
      rename Fr _ _ _ _ => F6
      rename News _ _ _ _ => N6
      dsimp only at F6 N6
      walk_at "my go"
      refine comp_str (fun (c : Nat) => (c : Int)) ?fr2 ?ce2 ?ki2 ?na2 ?lx2 ?hh2 ?_ ?fs2
      case fr2 => decide
      case ce2 => decide
      case ki2 => rfl
      case na2 => decide
      case lx2 => rfl
      case hh2 => rfl
      case fs2 => intro _; rfl
      walk_at "my steps"
      have hs2 : (Txt.slice q (some 2) none).length ≤ 40 := Nat.le_trans (by assumption) hq40
      rename Fr _ _ _ _ => F8
      rename News _ _ _ _ => N8
      skip
      dsimp only
      refine ⟨_, _, rfl, by rw [sizeLine_eq]; omega, ?el2, ?_⟩
      case el2 =>
        intro C c u s₃ m₃ E' hc hn hm hk
        dsimp only at hk
        clear hsh hlr hl
        have X3 : (Mine.hk.heap_1 w.params).In s₃.heap := (X.keeps F8.keep).keeps hk
        have T3 := (T.keeps F8.keep).keeps hk
        clear X T F8 N8 B R
        walk_at "my steps"
        exact ⟨_, _, rfl, fun _ _ e => e⟩
      intro Dx h9 tk9 n7 zs hfr hget hI9 hst9
      dsimp only at hfr hget hI9 hst9 ⊢
      have F9 := F8.keeps hst9
      have N9 := news_grow F8 N8 hst9 hfr hget
      rw [List.push_toArray] at N9
      generalize hvv : Value.int _ _ = vv at N9
      have hDx : Dx ≠ Dr := ne_of_none_some hfr (N8 _ (.head _)).1
      clear F8 N8
      walk_at "my steps"
      have hz9 : zs.size ≤ 40 := by
        have := hI9.length
        rw [List.length_map, ls_len, Array.length_toList] at this
        omega
      refine extend_in (own := [(Dx, listOf zs n7)]) (rest := own) F9 N9 (List.forall_mem_singleton.mpr hDx) (fun q hq e => hoff q hq Dr (.head _) e) (N9 _ (.head _)).1 ?_ (by rw [sizeLine_eq, List.length_append]; show us.length + 1 + zs.size ≤ 16777216; omega)
      intro h8 n8 F7 N7
      clear F9 N9
      walk_at "my steps"
      walk_at "my go"
      have hIu : IntsAre (us ++ [vv] ++ zs.toList) ((ls y).map (fun (c : Nat) => (c : Int)) ++ ((r.take (i + 1)).map (·.1)).flatMap rdQ) := by
        rw [List.take_add_one, hr, List.map_append, List.flatMap_append, ← List.append_assoc, List.append_assoc us]
        refine hP.1.append ?_
        subst hvv
        show IntsAre (Value.int _ _ :: zs.toList) ([q].flatMap rdQ)
        rw [List.flatMap_singleton]
        exact .cons _ _ hI9
      refine Turned.next (us ++ [vv] ++ zs.toList, n8) F7 N7 (fun q hq => .tail _ (by rcases List.mem_singleton.mp hq with rfl; exact .head _)) (fun q hq => .tail _ (.tail _ hq)) rfl (by kst_all) ⟨hIu, ?_⟩
      show (us ++ [vv] ++ zs.toList).length ≤ _
      rw [List.length_append, List.length_append, Array.length_toList]
      show us.length + 1 + zs.size ≤ _
      omega
    · rintro ⟨us, n9⟩ h tk m' hP F N
      dsimp only at hP
      refine CutL.intro (us, n9) F N (by kst_all) ?_
      dsimp only
      rw [← hsp]
      rw [List.length_map, List.take_length] at hP
      exact hP.1
  · rintro ⟨us, n9⟩ h tk m' hP F N
    clear F6 N5
    dsimp only at F N hP
    walk_at "my go"
    exact hq Dr us.toArray h _ F.keep (N _ (.head _)).2.2 ⟨_, (N _ (.head _)).1, rfl, _, rfl⟩ hP
end
end Mine
end
section
open PySem PySem.W PyProof.Rows PySem.Calls
set_option maxRecDepth 100000
namespace Mine
def OctIs (_ r : Value) : Prop := ∃ (o : Nat) (t : Tok), okO o ∧ r = Value.int (o : Int) t
def oz (os : List Nat) : List Int := os.map fun (o : Nat) => (o : Int)
theorem octs_of : ∀ {vs ys : List Value}, Paired OctIs vs ys → ∃ os : List Nat, os.length = vs.length ∧ (∀ o ∈ os, okO o) ∧ IntsAre ys (oz os)
  | _, _, .nil => ⟨[], rfl, by simp, .nil⟩
  | _, _, .cons h t => by
    obtain ⟨os, h1, h2, h3⟩ := octs_of t
    obtain ⟨o, tk, ho, rfl⟩ := h
    exact ⟨o :: os, by simp [h1], by simpa using ⟨ho, h2⟩, .cons _ _ h3⟩
abbrev tupO (k : Nat) (ta tb : Tok) (n : Nat) : Obj := { cls := .type "tuple", data := .seq #[.int (nearP k : Int) ta, .int (farP k : Int) tb] n }
def PriIs (v : Value) (o : Obj) : Prop := ∃ (k : Nat) (t ta tb : Tok) (n : Nat), v = Value.int (k : Int) t ∧ o = tupO k ta tb n
theorem oz_mem : ∀ {vs : List Value} {os : List Nat}, IntsAre vs (oz os) → ∀ v ∈ vs, ∃ (k : Nat) (t : Tok), k ∈ os ∧ v = Value.int (k : Int) t
  | [], _, _, v, hv => nomatch hv
  | _ :: _, [], h, _, _ => nomatch h
  | _ :: vs, o :: os, .cons _ t h, v, hv => by
    rcases List.mem_cons.mp hv with rfl | hv
    · exact ⟨o, t, .head _, rfl⟩
    · obtain ⟨k, t', h1, h2⟩ := oz_mem h v hv
      exact ⟨k, t', .tail _ h1, h2⟩
theorem oz_cons {v : Value} {vs : List Value} {o : Nat} {os : List Nat} (h : IntsAre (v :: vs) (oz (o :: os))) : ∃ t, v = Value.int (o : Int) t ∧ IntsAre vs (oz os) := by
  cases h with
  | cons _ t h => exact ⟨t, rfl, h⟩
def PrR (tup : List (Addr × Obj)) (k : Nat) (z : Value) : Prop := ∃ (T : Addr) (ta tb : Tok) (n : Nat), z = .ref T ∧ (T, tupO k ta tb n) ∈ tup
theorem PrR.more {tup tup' : List (Addr × Obj)} (hs : ∀ p ∈ tup, p ∈ tup') {k : Nat} {z : Value} (h : PrR tup k z) : PrR tup' k z := by
  obtain ⟨T, ta, tb, n, h1, h2⟩ := h
  exact ⟨T, ta, tb, n, h1, hs _ h2⟩
theorem tups_of {h' h5 : Heap} {bad : List Addr} : ∀ {vs zs : List Value} {os : List Nat}, Paired (Mk h' bad PriIs h5) vs zs → IntsAre vs (oz os) →
    ∃ tup : List (Addr × Obj), Paired (PrR tup) os zs ∧ ∀ p ∈ tup, h5.get? p.1 = some p.2 ∧ p.1 ∉ bad ∧ h'.get? p.1 = none
  | [], _, [], .nil, _ => ⟨[], .nil, fun _ h => nomatch h⟩
  | [], _, _ :: _, _, hI => nomatch hI
  | _ :: _, _, [], _, hI => nomatch hI
  | _ :: _, _, o :: os, .cons h t, hI0 => by
    obtain ⟨tk, rfl, hI⟩ := oz_cons hI0
    obtain ⟨tup, h1, h2⟩ := tups_of t hI
    obtain ⟨T, ob, rfl, e1, e2, e3, k, t0, ta, tb, n, e4, rfl⟩ := h
    have : o = k := by injection e4 with e4 _; exact Int.ofNat_inj.mp e4
    subst this
    refine ⟨(T, tupO o ta tb n) :: tup, .cons ⟨T, ta, tb, n, rfl, .head _⟩ (paired_imp h1 fun a b _ hab => hab.more fun p hp => .tail _ hp), ?_⟩
    intro p hp
    rcases List.mem_cons.mp hp with rfl | hp
    · exact ⟨e3, e2, e1⟩
    · exact h2 p hp
def PickIs (h : Heap) (j : Nat) (v r : Value) : Prop := ∃ (T : Addr) (its : Array Value) (n : Nat) (a : Int) (t t' : Tok), v = .ref T ∧ h.get? T = some { cls := .type "tuple", data := .seq its n } ∧ its[j]? = some (Value.int a t) ∧ r = Value.int a t'
theorem picks_of {h : Heap} {tup : List (Addr × Obj)} (ht : ∀ p ∈ tup, h.get? p.1 = some p.2) {j : Nat} {g : Nat → Nat} (hj : ∀ k ta tb, ∃ t, (#[Value.int (nearP k : Int) ta, Value.int (farP k : Int) tb] : Array Value)[j]? = some (Value.int (g k : Int) t)) :
    ∀ {os : List Nat} {zs ys : List Value}, Paired (PrR tup) os zs → Paired (PickIs h j) zs ys → IntsAre ys (oz (os.map g))
  | _, _, _, .nil, .nil => .nil
  | _, _, _, .cons (a := k) h1 t1, .cons h2 t2 => by
    obtain ⟨T, ta, tb, n, rfl, hm⟩ := h1
    obtain ⟨T', its, n', a, t, t', e1, e2, e3, rfl⟩ := h2
    injection e1 with e1
    subst e1
    have e4 := ht _ hm
    dsimp only at e4
    rw [e2] at e4
    injection e4 with e4
    injection e4 with _ _ e4 _
    injection e4 with e4 _
    subst e4
    obtain ⟨t0, h0⟩ := hj k ta tb
    rw [h0] at e3
    injection e3 with e3
    injection e3 with e3 _
    subst e3
    exact .cons _ _ (picks_of ht hj t1 t2)
end Mine
end
section
open PySem PySem.W PyProof.Rows PySem.Calls
set_option maxRecDepth 100000
namespace Mine
theorem paired_mem {α β : Type} {F : α → β → Prop} : ∀ {l₁ : List α} {l₂ : List β}, Paired F l₁ l₂ → ∀ y ∈ l₂, ∃ x ∈ l₁, F x y
  | _, _, .nil, _, h => nomatch h
  | _, _, .cons h t, y, hy => by
    rcases List.mem_cons.mp hy with rfl | hy
    · exact ⟨_, .head _, h⟩
    · obtain ⟨x, h1, h2⟩ := paired_mem t y hy
      exact ⟨x, .tail _ h1, h2⟩
section
local macro_rules | `(tactic| walk_at "ite") => `(tactic| (k_here; k_openite; first | (refine ite_pos (by (try simp only [decide_eq_true_eq]); omega) ?_) | (refine ite_neg (by (try simp only [decide_eq_true_eq]); omega) ?_)))
local macro_rules | `(tactic| walk_at "my stop") => `(tactic| first | (with_reducible show wpAny _ _ (eval (Expr.ListComp _ _ _ _) _) _ _ _) | (with_reducible show wpAny _ _ (exec (Stmt.Assign _ (Expr.ListComp _ _ _ _) _) _) _ _ _) | (with_reducible show wpAny _ _ (exec (Stmt.For _ _ _ _ _) _) _ _ _) | (with_reducible show wpAny _ _ (call (Value.ref _) _ _) _ _ _) | (with_reducible show wpAny _ _ (execs _ _) _ _ _) | (with_reducible show wpAny _ _ (pyIter _) _ _ _))
local macro_rules | `(tactic| walk_at "my steps") => `(tactic| repeat' (first | (k_unfold; (try dsimp only)) | ((fail_if_success (walk_at "my stop")); first | walk1 | (dsimp only; walk1))))
local macro_rules | `(tactic| walk_at "my go") => `(tactic| ((first | refine wpAny_execs_cons ?_ | (refine wpAny_execs_nil ?_; (try dsimp only))); walk_at "my steps"; (all_goals try dsimp only)))
local macro_rules | `(tactic| walk_at "eval Name") => `(tactic| ((with_reducible show wpAny _ _ (eval (Expr.Name _ _) (compEnv _ _ _)) _ _ _); k_dflt (first
  | refine c_own (by assumption) (by assumption) ?_ rfl rfl (by decide)
  | refine c_global (by assumption) (by assumption) (by k_is) ?_ rfl rfl rfl (by decide)
  | refine c_built (by assumption) (by assumption) (by k_is) (by boot_by_name) (by decide) ?_ rfl rfl rfl rfl (by decide))))
set_option maxHeartbeats 4000000 in
theorem law_sums {prog : Program} {w : World} {dp un : Nat} {gd : Option (List Code)} {outer : List Env} {s : Shared} {Q : Flow → Shared → Prop}
    {name qual : Str} {params : Arguments} {body rest : List Stmt} {scope : Scope} {dV kV doc pm cdv ct oc cd : Value} {an od : Option Addr} {osl : Array (Option Value)} {f : Addr}
    {base h' : Heap} {p : Program} {loose : List Str} {mean : ExcName → Option Value} {mg mb m' : Str → Option Value} {tk : Nat}
    {os : List Nat} {ws zs : List Value} {Do Dp : Addr} {n0 n5 : Nat} {tup : List (Addr × Obj)}
    (ho : (Mine.hk.heap_1 w.params).lookup 96 = some ⟨oc, od, .func (fnOf name qual params body scope dV kV doc pm an cdv ct), osl⟩) (hr : rest = body.drop 2)
    (B : Below (Ar dp un gd outer) base outer s.heap) (X : (Mine.hk.heap_1 w.params).In s.heap) (T : Top p loose mean mg mb s.heap) (hdp : dp ≤ 590) (hun : un ≤ 900)
    (hI : IntsAre ws (oz os)) (hlen : os.length ≤ 7) (hP : Paired (PrR tup) os zs)
    (F : Fr s.heap s.heap.objs.size h' (kstB m' [(Str.ofString "octets", Value.ref Do), (Str.ofString "prices", Value.ref Dp)]))
    (N : News s.heap s.heap.objs.size h' ((Dp, listOf zs.toArray n5) :: (Do, listOf ws.toArray n0) :: tup))
    (hk : ∀ (h' : Heap) (tk : Nat) (m' : Str → Option Value) (tn tf : Tok), Fr s.heap s.heap.objs.size h' (kstB m' [(Str.ofString "octets", Value.ref Do), (Str.ofString "near", Value.int (oz (os.map nearP)).sum tn), (Str.ofString "far", Value.int (oz (os.map farP)).sum tf)]) →
      News s.heap s.heap.objs.size h' [(Do, listOf ws.toArray n0)] →
      wpAny (model prog w) ((Ar dp un gd outer).deeper (envOf qual scope s.heap.objs.size f cd)) (execs (body.drop 4) (envOf qual scope s.heap.objs.size f cd)) Q (fun _ _ => False) { s with heap := h', toks := tk }) :
    wpAny (model prog w) ((Ar dp un gd outer).deeper (envOf qual scope s.heap.objs.size f cd)) (execs rest (envOf qual scope s.heap.objs.size f cd)) Q (fun _ _ => False) { s with heap := h', toks := tk } := by
  refine' pin ho ?e ?_
  case e => k_is
  intro hh
  cases hh
  subst hr
  clear ho
  dsimp only [List.drop]
  walk_at "my go"
  have hzl : zs.length = os.length := hP.length.symm
  refine comp_list (PickIs h' 0) ?fr1 ?ce1 ?ki1 ?na1 ?lx1 ?hh1 ?_ ?fs1
  case fr1 => decide
  case ce1 => decide
  case ki1 => rfl
  case na1 => decide
  case lx1 => rfl
  case hh1 => rfl
  case fs1 => intro _; rfl
  walk_at "my steps"
  dsimp only
  refine ⟨_, zs, rfl, ⟨_, (N _ (.head _)).1, rfl, _, rfl⟩, by rw [sizeLine_eq]; omega, ?el1, ?_⟩
  case el1 =>
    intro C v s₃ m₃ E' hv hn hm hk
    dsimp only at hk
    obtain ⟨k, _, T', ta, tb, n, rfl, hm'⟩ := paired_mem hP v hv
    have hT0 := (N _ (.tail _ (.tail _ hm'))).1
    have hT := hk _ _ hT0
    clear X T F N B
    walk_at "my steps"
    refine item_tupleT (j := 0) ⟨_, hT, rfl, n, rfl⟩ (by decide) (by decide) rfl rfl ?_ (by with_unfolding_all rfl)
    exact ⟨⟨T', _, n, _, _, _, rfl, hT0, rfl, rfl⟩, _, _, rfl, fun _ _ e => e⟩
  intro D1 h1 tk1 n1 ys1 hD1 hg1 hp1 hst1
  dsimp only at hD1 hst1 ⊢
  obtain ⟨ys1, rfl⟩ : ∃ l : List Value, ys1 = l.toArray := ⟨ys1.toList, by simp⟩
  have F1 := F.keeps hst1
  have N1 := news_grow F N hst1 hD1 hg1
  have hI1 : IntsAre ys1 (oz (os.map nearP)) := picks_of (fun p hp => (N p (.tail _ (.tail _ hp))).1) (fun k ta tb => ⟨_, rfl⟩) hP hp1
  clear F N hp1 hst1 hD1 hg1
  walk_at "my steps"
  rename Fr _ _ _ _ => F2
  rename News _ _ _ _ => N2
  have N3 := N2.perm (news' := (Dp, listOf zs.toArray n5) :: (Do, listOf ws.toArray n0) :: tup) (fun p hp => .tail _ hp)
  have F3 : Fr s.heap s.heap.objs.size _ _ := F2
  clear N2 F2 hI1
  dsimp only at N3 F3 ⊢
  rename Heap => h2
  walk_at "my go"
  refine comp_list (PickIs h2 1) ?fr2 ?ce2 ?ki2 ?na2 ?lx2 ?hh2 ?_ ?fs2
  case fr2 => decide
  case ce2 => decide
  case ki2 => rfl
  case na2 => decide
  case lx2 => rfl
  case hh2 => rfl
  case fs2 => intro _; rfl
  walk_at "my steps"
  dsimp only
  refine ⟨_, zs, rfl, ⟨_, (N3 _ (.head _)).1, rfl, _, rfl⟩, by rw [sizeLine_eq]; omega, ?el2, ?_⟩
  case el2 =>
    intro C v s₃ m₃ E' hv hn hm hk
    dsimp only at hk
    obtain ⟨k, _, T', ta, tb, n, rfl, hm'⟩ := paired_mem hP v hv
    have hT0 := (N3 _ (.tail _ (.tail _ hm'))).1
    have hT := hk _ _ hT0
    clear X T F3 N3 B
    walk_at "my steps"
    refine item_tupleT (j := 1) ⟨_, hT, rfl, n, rfl⟩ (by decide) (by decide) rfl rfl ?_ (by with_unfolding_all rfl)
    exact ⟨⟨T', _, n, _, _, _, rfl, hT0, rfl, rfl⟩, _, _, rfl, fun _ _ e => e⟩
  intro D2 h4 tk4 n4 ys2 hD2 hg2 hp2 hst2
  dsimp only at hD2 hst2 ⊢
  obtain ⟨ys2, rfl⟩ : ∃ l : List Value, ys2 = l.toArray := ⟨ys2.toList, by simp⟩
  have F4 := F3.keeps hst2
  have N4 := news_grow F3 N3 hst2 hD2 hg2
  have hI2 : IntsAre ys2 (oz (os.map farP)) := picks_of (fun p hp => (N3 p (.tail _ (.tail _ hp))).1) (fun k ta tb => ⟨_, rfl⟩) hP hp2
  clear F3 N3 hp2 hst2 hD2 hg2
  walk_at "my steps"
  rename Fr _ _ _ _ => F5
  rename News _ _ _ _ => N5
  exact hk _ _ _ _ _ (fr_named F5 (by kst_all)) (N5.perm fun p hp => by rcases List.mem_singleton.mp hp with rfl; exact .tail _ (.tail _ (.head _)))
end
end Mine
end
section
open PySem PySem.W PyProof.Rows PySem.Calls
set_option maxRecDepth 100000
namespace Mine
def ChrIs (v r : Value) : Prop := ∃ (o : Nat) (t t' : Tok), v = Value.int (o : Int) t ∧ r = Value.str ⟨#[o]⟩ t'
theorem chrs_of : ∀ {ws ys : List Value} {os : List Nat}, IntsAre ws (oz os) → Paired ChrIs ws ys → StrsAre ys (os.map fun o => ⟨#[o]⟩)
  | [], _, [], _, .nil => .nil
  | [], _, _ :: _, hI, _ => nomatch hI
  | _ :: _, _, [], hI, _ => nomatch hI
  | _ :: _, _, o :: os, hI0, .cons h t => by
    obtain ⟨tk, rfl, hI⟩ := oz_cons hI0
    obtain ⟨o', t1, t2, e, rfl⟩ := h
    have : o = o' := by injection e with e _; exact Int.ofNat_inj.mp e
    subst this
    exact .cons _ _ (chrs_of hI t)
theorem ls_nil : ls (Str.ofString "") = [] := by decide +kernel
theorem join_nil (os : List Nat) : Txt.join (Str.ofString "") (os.map fun o => (⟨#[o]⟩ : Str)) = ⟨os.toArray⟩ := by
  rw [beq_iff_eq.mp (join_plain_closes _ _)]
  apply ls_inj
  show ls _ = os
  induction os with
  | nil => rfl
  | cons o os ih =>
    cases os with
    | nil => rfl
    | cons o' os =>
      show ls ((⟨#[o]⟩ : Str) ++ Str.ofString "" ++ Str.join (Str.ofString "") (((o' :: os).map fun o => (⟨#[o]⟩ : Str)))) = _
      rw [ls_append, ls_append, ih, ls_nil]
      rfl
theorem oct_bytes : ∀ {os : List Nat}, (∀ o ∈ os, okO o) → ((oz os).map fun n => n.toNat.toUInt8).map UInt8.toNat = os
  | [], _ => rfl
  | o :: os, h => by
    have e := oct_bytes (os := os) fun o' ho => h o' (.tail _ ho)
    have ho : o < 256 := (h o (.head _)).1
    show o.toUInt8.toNat :: ((oz os).map fun n => n.toNat.toUInt8).map UInt8.toNat = o :: os
    rw [e]
    have : o.toUInt8.toNat = o := by
      show o % 256 = o
      omega
    rw [this]
theorem slice_word {y : Str} {H : List Nat} (h : ls y = [61, 63, 120, 63, 113, 63] ++ H ++ [63, 61]) : Txt.slice y (some 6) (some (-2)) = ⟨H.toArray⟩ := by
  have hl : y.length = H.length + 8 := by
    rw [← ls_len, h, List.length_append, List.length_append]
    simp only [List.length_cons, List.length_nil]; omega
  have e : Txt.slice y (some 6) (some (-2)) = Txt.slice y (some ((6 : Nat) : Int)) (some ((H.length + 6 : Nat) : Int)) := by
    show StrLaws.sliceText y _ _ = StrLaws.sliceText y _ _
    rw [StrLaws.sliceText_neg_hi y _ (by decide) (by omega), hl]
    congr 2
    omega
  rw [e]
  apply ls_inj
  rw [sl_mid (by omega) (by omega), h, ls_mk]
  show ((H ++ [63, 61]).take (H.length + 6 - 6)) = H
  rw [show H.length + 6 - 6 = H.length by omega, List.take_left]
theorem chr_sum (os : List Nat) : ((os.map fun o => (⟨#[o]⟩ : Str)).map (·.length)).sum + (os.map fun o => (⟨#[o]⟩ : Str)).length = 2 * os.length := by
  induction os with
  | nil => rfl
  | cons o os ih =>
    simp only [List.map_cons, List.sum_cons, List.length_cons] at ih ⊢
    have : (⟨#[o]⟩ : Str).length = 1 := rfl
    omega
section
local macro_rules | `(tactic| walk_at "ite") => `(tactic| (k_here; k_openite; first | (refine ite_pos (by (try simp only [decide_eq_true_eq]); omega) ?_) | (refine ite_neg (by (try simp only [decide_eq_true_eq]); omega) ?_)))
local macro_rules | `(tactic| walk_at "my stop") => `(tactic| first | (with_reducible show wpAny _ _ (eval (Expr.ListComp _ _ _ _) _) _ _ _) | (with_reducible show wpAny _ _ (exec (Stmt.Assign _ (Expr.ListComp _ _ _ _) _) _) _ _ _) | (with_reducible show wpAny _ _ (exec (Stmt.For _ _ _ _ _) _) _ _ _) | (with_reducible show wpAny _ _ (call (Value.ref _) _ _) _ _ _) | (with_reducible show wpAny _ _ (execs _ _) _ _ _) | (with_reducible show wpAny _ _ (pyIter _) _ _ _))
local macro_rules | `(tactic| walk_at "my steps") => `(tactic| repeat' (first | (k_unfold; (try dsimp only)) | ((fail_if_success (walk_at "my stop")); first | walk1 | (dsimp only; walk1))))
local macro_rules | `(tactic| walk_at "my go") => `(tactic| ((first | refine wpAny_execs_cons ?_ | (refine wpAny_execs_nil ?_; (try dsimp only))); walk_at "my steps"; (all_goals try dsimp only)))
local macro_rules | `(tactic| walk_at "eval Name") => `(tactic| ((with_reducible show wpAny _ _ (eval (Expr.Name _ _) (compEnv _ _ _)) _ _ _); k_dflt (first
  | refine c_own (by assumption) (by assumption) ?_ rfl rfl (by decide)
  | refine c_global (by assumption) (by assumption) (by k_is) ?_ rfl rfl rfl (by decide)
  | refine c_built (by assumption) (by assumption) (by k_is) (by boot_by_name) (by decide) ?_ rfl rfl rfl rfl (by decide))))
set_option maxHeartbeats 4000000 in
theorem law_text {prog : Program} {w : World} {dp un : Nat} {gd : Option (List Code)} {outer : List Env} {s : Shared} {Q : Flow → Shared → Prop}
    {name qual : Str} {params : Arguments} {body rest : List Stmt} {scope : Scope} {dV kV doc pm cdv ct oc cd : Value} {an od : Option Addr} {osl : Array (Option Value)} {f : Addr}
    {base h' : Heap} {p : Program} {loose : List Str} {mean : ExcName → Option Value} {mg mb m' : Str → Option Value} {tk : Nat}
    {os : List Nat} {ws : List Value} {Do : Addr} {n0 : Nat} {tn tf : Tok} {near far : Int}
    (ho : (Mine.hk.heap_1 w.params).lookup 96 = some ⟨oc, od, .func (fnOf name qual params body scope dV kV doc pm an cdv ct), osl⟩) (hr : rest = body.drop 4)
    (B : Below (Ar dp un gd outer) base outer s.heap) (X : (Mine.hk.heap_1 w.params).In s.heap) (T : Top p loose mean mg mb s.heap) (hdp : dp ≤ 590) (hun : un ≤ 900)
    (hI : IntsAre ws (oz os)) (hlen : os.length ≤ 7) (hok : ∀ o ∈ os, okO o) (hlast : ∃ l, os = l ++ [107])
    (F : Fr s.heap s.heap.objs.size h' (kstB m' [(Str.ofString "octets", Value.ref Do), (Str.ofString "near", Value.int near tn), (Str.ofString "far", Value.int far tf)]))
    (N : News s.heap s.heap.objs.size h' [(Do, listOf ws.toArray n0)])
    (hk : ∀ (h' : Heap) (tk : Nat) (m' : Str → Option Value) (tt tb tw : Tok), Fr s.heap s.heap.objs.size h' (kstB m' [(Str.ofString "octets", Value.ref Do), (Str.ofString "near", Value.int near tn), (Str.ofString "far", Value.int far tf), (Str.ofString "text", Value.str ⟨os.toArray⟩ tt), (Str.ofString "body", Value.str ⟨(os.flatMap bTab).toArray⟩ tb), (Str.ofString "word", Value.str ⟨(os.flatMap hTab).toArray⟩ tw)]) →
      News s.heap s.heap.objs.size h' [(Do, listOf ws.toArray n0)] → 1 ≤ tk →
      wpAny (model prog w) ((Ar dp un gd outer).deeper (envOf qual scope s.heap.objs.size f cd)) (execs (body.drop 7) (envOf qual scope s.heap.objs.size f cd)) Q (fun _ _ => False) { s with heap := h', toks := tk }) :
    wpAny (model prog w) ((Ar dp un gd outer).deeper (envOf qual scope s.heap.objs.size f cd)) (execs rest (envOf qual scope s.heap.objs.size f cd)) Q (fun _ _ => False) { s with heap := h', toks := tk } := by
  refine' pin ho ?e ?_
  case e => k_is
  intro hh
  cases hh
  subst hr
  clear ho
  dsimp only [List.drop]
  have hwl : ws.length = os.length := by rw [hI.length]; exact List.length_map ..
  walk_at "my go"
  refine comp_list ChrIs ?fr1 ?ce1 ?ki1 ?na1 ?lx1 ?hh1 ?_ ?fs1
  case fr1 => decide
  case ce1 => decide
  case ki1 => rfl
  case na1 => decide
  case lx1 => rfl
  case hh1 => rfl
  case fs1 => intro _; rfl
  walk_at "my steps"
  dsimp only
  refine ⟨_, ws, rfl, ⟨_, (N _ (.head _)).1, rfl, _, rfl⟩, by rw [sizeLine_eq]; omega, ?el1, ?_⟩
  case el1 =>
    intro C v s₃ m₃ E' hv hn hm hk
    dsimp only at hk
    obtain ⟨k, t, hk0, rfl⟩ := oz_mem hI v hv
    have hk1 := (hok k hk0).1
    have F5 := F.keeps hk
    have X3 := X.keeps F5.keep
    have T3 := T.keeps F5.keep
    clear X T F N B
    walk_at "my steps"
    · exact ⟨k, _, _, rfl, rfl⟩
    · exact ⟨_, _, rfl, fun _ _ e => e⟩
  intro D1 h1 tk1 n1 ys1 hD1 hg1 hp1 hst1
  dsimp only at hD1 hst1 ⊢
  obtain ⟨ys1, rfl⟩ : ∃ l : List Value, ys1 = l.toArray := ⟨ys1.toList, by simp⟩
  have F1 := F.keeps hst1
  have N1 := news_grow F N hst1 hD1 hg1
  have hS1 : StrsAre ys1 (os.map fun o => ⟨#[o]⟩) := chrs_of hI hp1
  clear F N hp1 hst1 hD1 hg1
  walk_at "my steps"
  refine join_listW ⟨_, (N1 _ (.head _)).1, rfl, _, rfl⟩ hS1 (by decide) (by rw [chr_sum]; omega) ?_
  intro tt tk2
  rw [join_nil]
  have N2 := N1.perm (news' := [(Do, listOf ws.toArray n0)]) (fun p hp => .tail _ hp)
  clear N1 hS1
  dsimp only
  walk_at "my steps"
  walk_at "my go"
  rename Fr _ _ _ _ => F3
  rename News _ _ _ _ => N3
  have hd5 : dp ≤ 599 := by omega
  have hu5 : un ≤ 997 := by omega
  have hos : 0 < os.length := by obtain ⟨l, rfl⟩ := hlast; simp
  refine body_call (x := ⟨os.toArray⟩) (Rdy.in (dp := dp) (un := un) B X T hd5 hu5 F3 rfl) (by show 0 < os.toArray.size; rw [List.size_toArray]; exact hos) (by show os.toArray.size ≤ 20; rw [List.size_toArray]; omega) (fun c hc => hok c hc) hlast ?_
  intro tb h4 tk4 hst4
  have F4 := F3.keeps hst4
  have N4 := N3.grown hst4
  clear F3 N3 hst4
  dsimp only at F4 N4 ⊢
  walk_at "my steps"
  walk_at "my go"
  rename Fr _ _ _ _ => F5
  rename News _ _ _ _ => N5
  have hr : ∀ n ∈ oz os, 0 ≤ n ∧ n < 256 := by
    intro n hn
    obtain ⟨o, ho, rfl⟩ := List.mem_map.mp hn
    have := (hok o ho).1
    exact ⟨by omega, by omega⟩
  refine bytes_K F5 N5 ⟨_, (N5 _ (.head _)).1, rfl, _, rfl⟩ hI hr (by rw [sizeLine_eq]; omega) rfl ?_
  intro h6 t6 k6 F6 N6 _
  clear F5 N5 hr
  have eb := oct_bytes hok
  obtain ⟨b, bs, e2, e3⟩ : ∃ b bs, ((oz os).map fun n => n.toNat.toUInt8) = b :: bs ∧ bs.length ≤ 20 := by
    have hl : ((oz os).map fun n => n.toNat.toUInt8).length = os.length := by rw [List.length_map]; exact List.length_map ..
    revert hl
    generalize ((oz os).map fun n => n.toNat.toUInt8) = l
    intro hl
    cases l with
    | nil => rw [List.length_nil] at hl; omega
    | cons b bs => exact ⟨b, bs, rfl, by rw [List.length_cons] at hl; omega⟩
  rw [e2] at eb ⊢
  clear e2
  walk_at "my steps"
  refine hdr_call (Rdy.in (dp := dp) (un := un) B X T hd5 hu5 F6 rfl) e3 ?_
  intro t7 h7 k7 hst7
  rw [eb]
  have hy : (⟨([61, 63, 120, 63, 113, 63] ++ os.flatMap hTab ++ [63, 61]).toArray⟩ : Str).length ≤ 40 := by
    have := flat_len hTab hTab_len os
    show Array.size _ ≤ _
    rw [List.size_toArray, List.length_append, List.length_append]
    simp only [List.length_cons, List.length_nil]; omega
  have hy2 : ls (⟨([61, 63, 120, 63, 113, 63] ++ os.flatMap hTab ++ [63, 61]).toArray⟩ : Str) = [61, 63, 120, 63, 113, 63] ++ os.flatMap hTab ++ [63, 61] := rfl
  revert hy hy2
  generalize (⟨([61, 63, 120, 63, 113, 63] ++ os.flatMap hTab ++ [63, 61]).toArray⟩ : Str) = y
  intro hy hy2
  have F7 := F6.keeps hst7
  have N7 := N6.grown hst7
  clear F6 N6 hst7 eb
  dsimp only at F7 N7 ⊢
  walk_at "my steps"
  rw [slice_word hy2] at *
  rename Fr _ _ _ _ => F8
  rename News _ _ _ _ => N8
  exact hk _ _ _ _ _ _ (fr_named F8 (by kst_all)) N8 (Nat.le_add_left 1 _)
end
end Mine
end
section
open PySem PySem.W PyProof.Rows PySem.Calls
set_option maxRecDepth 100000
namespace Mine
theorem oz_sum (l : List Nat) : (oz l).sum = (l.sum : Int) := by
  induction l with
  | nil => rfl
  | cons a r ih =>
    show (a : Int) + (oz r).sum = ((a :: r).sum : Int)
    rw [ih, List.sum_cons]; omega
section
local macro_rules | `(tactic| walk_at "ite") => `(tactic| (k_here; k_openite; first | (refine ite_pos (by (try simp only [decide_eq_true_eq]); omega) ?_) | (refine ite_neg (by (try simp only [decide_eq_true_eq]); omega) ?_)))
local macro_rules | `(tactic| walk_at "my stop") => `(tactic| first | (with_reducible show wpAny _ _ (eval (Expr.ListComp _ _ _ _) _) _ _ _) | (with_reducible show wpAny _ _ (exec (Stmt.Assign _ (Expr.ListComp _ _ _ _) _) _) _ _ _) | (with_reducible show wpAny _ _ (exec (Stmt.For _ _ _ _ _) _) _ _ _) | (with_reducible show wpAny _ _ (call (Value.ref _) _ _) _ _ _) | (with_reducible show wpAny _ _ (execs _ _) _ _ _) | (with_reducible show wpAny _ _ (pyIter _) _ _ _))
local macro_rules | `(tactic| walk_at "my steps") => `(tactic| repeat' (first | (k_unfold; (try dsimp only)) | ((fail_if_success (walk_at "my stop")); first | walk1 | (dsimp only; walk1))))
local macro_rules | `(tactic| walk_at "my go") => `(tactic| ((first | refine wpAny_execs_cons ?_ | (refine wpAny_execs_nil ?_; (try dsimp only))); walk_at "my steps"; (all_goals try dsimp only)))
local macro_rules | `(tactic| walk_at "eval Name") => `(tactic| ((with_reducible show wpAny _ _ (eval (Expr.Name _ _) (compEnv _ _ _)) _ _ _); k_dflt (first
  | refine c_own (by assumption) (by assumption) ?_ rfl rfl (by decide)
  | refine c_global (by assumption) (by assumption) (by k_is) ?_ rfl rfl rfl (by decide)
  | refine c_built (by assumption) (by assumption) (by k_is) (by boot_by_name) (by decide) ?_ rfl rfl rfl rfl (by decide))))
set_option maxHeartbeats 4000000 in
theorem law_last {prog : Program} {w : World} {dp un : Nat} {gd : Option (List Code)} {outer : List Env} {s : Shared} {Q : Flow → Shared → Prop}
    {name qual : Str} {params : Arguments} {body rest : List Stmt} {scope : Scope} {dV kV doc pm cdv ct oc cd : Value} {an od : Option Addr} {osl : Array (Option Value)} {f : Addr}
    {base h' : Heap} {p : Program} {loose : List Str} {mean : ExcName → Option Value} {mg mb m' : Str → Option Value} {tk : Nat}
    {ns : List Int} {ws : List Value} {Do : Addr} {n0 : Nat} {tn tf tt tb tw : Tok} {near far : Int} {x y z : Str}
    (ho : (Mine.hk.heap_1 w.params).lookup 96 = some ⟨oc, od, .func (fnOf name qual params body scope dV kV doc pm an cdv ct), osl⟩) (hr : rest = body.drop 7)
    (B : Below (Ar dp un gd outer) base outer s.heap) (X : (Mine.hk.heap_1 w.params).In s.heap) (T : Top p loose mean mg mb s.heap) (hdp : dp ≤ 590) (hun : un ≤ 900)
    (hI : IntsAre ws ns) (hx : x.length ≤ 40) (hy : y.length ≤ 40) (hz : z.length ≤ 40)
    (r1 : rdP (Txt.split y ⟨#[61]⟩) = ns) (r2 : rdP (Txt.split (Txt.replace z ⟨#[95]⟩ ⟨#[32]⟩) ⟨#[61]⟩) = ns) (hzr : (Txt.replace z ⟨#[95]⟩ ⟨#[32]⟩).length ≤ 40)
    (d1 : (lev cst (ls x) (ls y) : Int) = near) (d2 : (lev cst (ls y) (ls z) : Int) = far) (d3 : (lev cst (ls x) (ls z) : Int) = near + far) (hn0 : 0 ≤ near) (hf0 : 0 ≤ far) (hnf : near + far ≤ 36) (htk : 1 ≤ tk)
    (F : Fr s.heap s.heap.objs.size h' (kstB m' [(Str.ofString "octets", Value.ref Do), (Str.ofString "near", Value.int near tn), (Str.ofString "far", Value.int far tf), (Str.ofString "text", Value.str x tt), (Str.ofString "body", Value.str y tb), (Str.ofString "word", Value.str z tw)]))
    (N : News s.heap s.heap.objs.size h' [(Do, listOf ws.toArray n0)])
    (hq : ∀ h' tk m, Fr s.heap s.heap.objs.size h' m → Q (.ret (.bool true)) { s with heap := h', toks := tk }) :
    wpAny (model prog w) ((Ar dp un gd outer).deeper (envOf qual scope s.heap.objs.size f cd)) (execs rest (envOf qual scope s.heap.objs.size f cd)) Q (fun _ _ => False) { s with heap := h', toks := tk } := by
  refine' pin ho ?e ?_
  case e => k_is
  intro hh
  cases hh
  subst hr
  clear ho
  dsimp only [List.drop]
  have hd5 : dp ≤ 599 := by omega
  have hu5 : un ≤ 997 := by omega
  walk_at "my go"
  refine wpAny_with_toks (n := 1) htk ?_
  refine read_call (Rdy.in (dp := dp) (un := un) B X T hd5 hu5 F rfl) hy ?_
  intro T1 it1 h1 k1 hst1 hn1 hl1 hi1 htk1
  rw [r1] at hi1
  have F1 := F.keeps hst1
  have N1 := N.grown hst1
  have hT1 : T1 ≠ Do := ne_of_none_some hn1 (N _ (.head _)).1
  clear F N hst1 hn1
  dsimp only at F1 N1 htk1 ⊢
  obtain ⟨it1, rfl⟩ : ∃ l : List Value, it1 = l.toArray := ⟨it1.toList, by simp⟩
  walk_at "my steps"
  refine SC.replaceW (by show k1 ≠ 0; omega) (by show k1 + 1 ≠ 0; omega) (by show k1 ≠ k1 + 1; omega) (by decide +kernel) (by omega) (by decide +kernel) ?_
  intro t2 k2
  rw [show Str.ofString "_" = ⟨#[95]⟩ from by decide +kernel, show Str.ofString " " = ⟨#[32]⟩ from by decide +kernel]
  generalize Txt.replace z ⟨#[95]⟩ ⟨#[32]⟩ = z2 at *
  dsimp only
  walk_at "my steps"
  refine read_call (Rdy.in (dp := dp) (un := un) B X T hd5 hu5 F1 rfl) hzr ?_
  intro T2 it2 h2 k2 hst2 hn2 hl2 hi2
  rw [r2] at hi2
  have F2 := F1.keeps hst2
  have N2 := N1.grown hst2
  clear F1 N1 hst2 hn2 hl1 hi1 htk1
  dsimp only at F2 N2 ⊢
  obtain ⟨it2, rfl⟩ : ∃ l : List Value, it2 = l.toArray := ⟨it2.toList, by simp⟩
  walk_at "my steps"
  clear hl2 hi2 hI
  walk_at "my go"
  walk_at "my go"
  refine lev_call ?R2 (by show dp + 1 ≤ 599; omega) (by show un + 3 ≤ 997; omega) hx hy (by rw [d1]; omega) ?_
  case R2 => exact Rdy.in (dp := dp) (un := un) B X T hd5 hu5 F2 rfl
  rw [d1]
  intro t3 h3 k3 hst3
  have F3 := F2.keeps hst3
  have N3 := N2.grown hst3
  clear F2 N2 hst3
  dsimp only at F3 N3 ⊢
  walk_at "my steps"
  any_goals (exfalso; first | exact absurd rfl (by assumption) | omega)
  refine lev_call ?R3 (by show dp + 1 ≤ 599; omega) (by show un + 3 ≤ 997; omega) hy hz (by rw [d2]; omega) ?_
  case R3 => exact Rdy.in (dp := dp) (un := un) B X T hd5 hu5 F3 rfl
  rw [d2]
  intro t4 h4 k4 hst4
  have F4 := F3.keeps hst4
  have N4 := N3.grown hst4
  clear F3 N3 hst4
  dsimp only at F4 N4 ⊢
  walk_at "my steps"
  any_goals (exfalso; first | exact absurd rfl (by assumption) | omega)
  walk_at "my go"
  walk_at "my go"
  refine lev_call ?R4 (by show dp + 1 ≤ 599; omega) (by show un + 3 ≤ 997; omega) hx hz (by rw [d3]; omega) ?_
  case R4 => exact Rdy.in (dp := dp) (un := un) B X T hd5 hu5 F4 rfl
  rw [d3]
  intro t5 h5 k5 hst5
  have F5 := F4.keeps hst5
  have N5 := N4.grown hst5
  clear N4 hst5
  dsimp only at F5 N5 ⊢
  walk_at "my steps"
  rw [beq_self_eq_true]
  exact hq _ _ _ F5
end
end Mine
end
section
open PySem PySem.W PyProof.Rows PySem.Calls
set_option maxRecDepth 100000
namespace Mine
theorem sums_36 {l : List Nat} (hD : ∀ o ∈ l, okO o) (hl : l.length ≤ 6) : (((l ++ [107]).map nearP).sum : Int) + (((l ++ [107]).map farP).sum : Int) ≤ 36 := by
  have := sums_le l hD
  rw [List.map_append, List.map_append, List.sum_append, List.sum_append]
  have e1 : ([107].map nearP).sum = 0 := by decide
  have e2 : ([107].map farP).sum = 0 := by decide
  rw [e1, e2]
  omega
theorem law_rest {prog : Program} {w : World} {dp un : Nat} {gd : Option (List Code)} {outer : List Env} {s : Shared} {Q : Flow → Shared → Prop}
    {name qual : Str} {params : Arguments} {body rest : List Stmt} {scope : Scope} {dV kV doc pm cdv ct oc cd : Value} {an od : Option Addr} {osl : Array (Option Value)} {f : Addr}
    {base h' : Heap} {p : Program} {loose : List Str} {mean : ExcName → Option Value} {mg mb m' : Str → Option Value} {tk : Nat}
    {os : List Nat} {ws zs : List Value} {Do Dp : Addr} {n0 n5 : Nat} {tup : List (Addr × Obj)}
    (ho : (Mine.hk.heap_1 w.params).lookup 96 = some ⟨oc, od, .func (fnOf name qual params body scope dV kV doc pm an cdv ct), osl⟩) (hr : rest = body.drop 2)
    (B : Below (Ar dp un gd outer) base outer s.heap) (X : (Mine.hk.heap_1 w.params).In s.heap) (T : Top p loose mean mg mb s.heap) (hdp : dp ≤ 590) (hun : un ≤ 900)
    (hI : IntsAre ws (oz os)) (hok : ∀ o ∈ os, okO o) (hlast : ∃ l, os = l ++ [107] ∧ l.length ≤ 6) (hP : Paired (PrR tup) os zs)
    (F : Fr s.heap s.heap.objs.size h' (kstB m' [(Str.ofString "octets", Value.ref Do), (Str.ofString "prices", Value.ref Dp)]))
    (N : News s.heap s.heap.objs.size h' ((Dp, listOf zs.toArray n5) :: (Do, listOf ws.toArray n0) :: tup))
    (hq : ∀ h' tk m, Fr s.heap s.heap.objs.size h' m → Q (.ret (.bool true)) { s with heap := h', toks := tk }) :
    wpAny (model prog w) ((Ar dp un gd outer).deeper (envOf qual scope s.heap.objs.size f cd)) (execs rest (envOf qual scope s.heap.objs.size f cd)) Q (fun _ _ => False) { s with heap := h', toks := tk } := by
  obtain ⟨l, hl, hl6⟩ := hlast
  have h7 : os.length ≤ 7 := by rw [hl, List.length_append]; simp only [List.length_cons, List.length_nil]; omega
  have fb := flat_len bTab bTab_len os
  have fh := flat_len hTab hTab_len os
  have lx : (⟨os.toArray⟩ : Str).length ≤ 40 := by show os.toArray.size ≤ 40; rw [List.size_toArray]; omega
  have ly : (⟨(os.flatMap bTab).toArray⟩ : Str).length ≤ 40 := by show Array.size _ ≤ 40; rw [List.size_toArray]; omega
  have lz : (⟨(os.flatMap hTab).toArray⟩ : Str).length ≤ 40 := by show Array.size _ ≤ 40; rw [List.size_toArray]; omega
  have lr : (Txt.replace ⟨(os.flatMap hTab).toArray⟩ ⟨#[95]⟩ ⟨#[32]⟩).length ≤ 40 := by
    rw [replace_map]; show Array.size _ ≤ 40; rw [List.size_toArray, List.length_map]; exact lz
  have hnf : (oz (os.map nearP)).sum + (oz (os.map farP)).sum ≤ 36 := by
    rw [oz_sum, oz_sum, hl]
    exact sums_36 (fun o ho => hok o (by rw [hl]; exact List.mem_append_left _ ho)) hl6
  refine law_sums ho hr B X T hdp hun hI h7 hP F N fun h1 tk1 m1 tn tf F1 N1 => ?_
  refine law_text ho rfl B X T hdp hun hI h7 hok ⟨l, hl⟩ F1 N1 fun h2 tk2 m2 tt tb tw F2 N2 ht => ?_
  exact law_last ho rfl B X T hdp hun hI lx ly lz (read_body hok) (read_word hok) lr (by rw [oz_sum]; exact congrArg _ (lev_near os hok)) (by rw [oz_sum]; exact congrArg _ (lev_far os hok))
    (by rw [oz_sum, oz_sum, ← Int.natCast_add]; exact congrArg _ (lev_both os hok)) (by rw [oz_sum]; exact Int.natCast_nonneg _) (by rw [oz_sum]; exact Int.natCast_nonneg _) hnf ht F2 N2 hq
end Mine
end
section
open PySem PySem.W PyProof.Rows PySem.Calls
set_option maxRecDepth 100000
namespace Mine
section
local macro_rules | `(tactic| walk_at "ite") => `(tactic| (k_here; k_openite; first | (refine ite_pos (by (try simp only [decide_eq_true_eq]); omega) ?_) | (refine ite_neg (by (try simp only [decide_eq_true_eq]); omega) ?_)))
local macro_rules | `(tactic| walk_at "my stop") => `(tactic| first | (with_reducible show wpAny _ _ (eval (Expr.ListComp _ _ _ _) _) _ _ _) | (with_reducible show wpAny _ _ (exec (Stmt.Assign _ (Expr.ListComp _ _ _ _) _) _) _ _ _) | (with_reducible show wpAny _ _ (exec (Stmt.For _ _ _ _ _) _) _ _ _) | (with_reducible show wpAny _ _ (call (Value.ref _) _ _) _ _ _) | (with_reducible show wpAny _ _ (execs _ _) _ _ _) | (with_reducible show wpAny _ _ (pyIter _) _ _ _))
local macro_rules | `(tactic| walk_at "my steps") => `(tactic| repeat' (first | (k_unfold; (try dsimp only)) | ((fail_if_success (walk_at "my stop")); first | walk1 | (dsimp only; walk1))))
local macro_rules | `(tactic| walk_at "my go") => `(tactic| ((first | refine wpAny_execs_cons ?_ | (refine wpAny_execs_nil ?_; (try dsimp only))); walk_at "my steps"; (all_goals try dsimp only)))
local macro_rules | `(tactic| walk_at "eval Name") => `(tactic| ((with_reducible show wpAny _ _ (eval (Expr.Name _ _) (compEnv _ _ _)) _ _ _); k_dflt (first
  | refine c_own (by assumption) (by assumption) ?_ rfl rfl (by decide)
  | refine c_global (by assumption) (by assumption) (by k_is) ?_ rfl rfl rfl (by decide)
  | refine c_built (by assumption) (by assumption) (by k_is) (by boot_by_name) (by decide) ?_ rfl rfl rfl rfl (by decide))))
set_option maxHeartbeats 4000000 in
theorem law_first {prog : Program} {w : World} {dp un : Nat} {gd : Option (List Code)} {outer : List Env} {s : Shared} {Q : Flow → Shared → Prop}
    {name qual : Str} {params : Arguments} {body : List Stmt} {scope : Scope} {dV kV doc pm cdv ct oc cd : Value} {an od : Option Addr} {osl : Array (Option Value)} {f : Addr}
    {base h' : Heap} {p : Program} {loose : List Str} {mean : ExcName → Option Value} {mg mb : Str → Option Value} {tk : Nat} {l : Addr} {vs : List Value} {ns : List Int}
    (ho : (Mine.hk.heap_1 w.params).lookup 96 = some ⟨oc, od, .func (fnOf name qual params body scope dV kV doc pm an cdv ct), osl⟩)
    (B : Below (Ar dp un gd outer) base outer s.heap) (X : (Mine.hk.heap_1 w.params).In s.heap) (T : Top p loose mean mg mb s.heap) (hdp : dp ≤ 590) (hun : un ≤ 900)
    (hL : s.heap.IsList l vs.toArray) (hI : IntsAre vs ns) (hc63 : ¬ ((63 : Nat) : Int) < (ns.length : Int))
    (F : Fr s.heap s.heap.objs.size h' (fun y => [(Str.ofString "script", Value.ref l)].reverse.lookup y)) (N : News s.heap s.heap.objs.size h' [])
    (hq : ∀ h' tk m, Fr s.heap s.heap.objs.size h' m → Q (.ret (.bool true)) { s with heap := h', toks := tk }) :
    wpAny (model prog w) ((Ar dp un gd outer).deeper (envOf qual scope s.heap.objs.size f cd)) (execs body (envOf qual scope s.heap.objs.size f cd)) Q (fun _ _ => False) { s with heap := h', toks := tk } := by
  refine' pin ho ?e ?_
  case e => k_is
  intro hh
  cases hh
  clear ho
  have hd5 : dp ≤ 599 := by omega
  have hu5 : un ≤ 997 := by omega
  walk_at "my go"
  refine comp_list OctIs ?fr1 ?ce1 ?ki1 ?na1 ?lx1 ?hh1 ?_ ?fs1
  case fr1 => decide
  case ce1 => decide
  case ki1 => rfl
  case na1 => decide
  case lx1 => rfl
  case hh1 => rfl
  case fs1 => intro _; rfl
  walk_at "my steps"
  dsimp only
  rename_i ws _ F1 N1 hI1 _
  have hlen1 : ws.length ≤ 6 := by
    have := hI1.length
    rw [List.length_append, List.length_take] at this
    simp at this
    omega
  refine ⟨_, ws, rfl, ⟨_, (N1 _ (.head _)).1, rfl, _, rfl⟩, by rw [sizeLine_eq]; omega, ?el1, ?_⟩
  case el1 =>
    intro C v s₃ m₃ E' hv hn hm hk
    dsimp only at hk
    obtain ⟨n, t, rfl⟩ := hI1.all v hv
    have F3 := F1.keeps hk
    have X3 := X.keeps F3.keep
    have T3 := T.keeps F3.keep
    walk_at "my steps"
    refine octet_call (Rdy.in (dp := dp) (un := un) B X T hd5 hu5 F3 rfl) ?_
    intro o t h' tk ho hst
    exact ⟨⟨o, t, ho, rfl⟩, _, _, rfl, hst⟩
  intro Dc h2 tk2 n2 ys hD2 hg2 hp2 hst2
  dsimp only at hD2 hst2 ⊢
  obtain ⟨ys, rfl⟩ : ∃ l : List Value, ys = l.toArray := ⟨ys.toList, by simp⟩
  obtain ⟨os, ho1, ho2, ho3⟩ := octs_of hp2
  dsimp only at ho3
  rw [← ho1] at hlen1
  have F2 := F1.keeps hst2
  have N2 := news_grow F1 N1 hst2 hD2 hg2
  clear F1 N1 hp2 hI1 ho1 hst2 hD2 hg2
  have hlo : (oz os).length = os.length := List.length_map ..
  walk_at "my steps"
  rename Fr _ _ _ _ => F3
  rename News _ _ _ _ => N3
  rename IntsAre _ _ => hI3
  rename List Value => ws'
  rename Addr => Do
  have N4 := N3.perm (news' := [_]) (fun p hp => by rcases List.mem_singleton.mp hp with rfl; exact .head _)
  clear N3
  obtain ⟨os', e3, ho', hl'⟩ : ∃ os' : List Nat, oz os ++ [107] = oz os' ∧ (∀ o ∈ os', okO o) ∧ os'.length ≤ 7 ∧ ∃ l, os' = l ++ [107] ∧ l.length ≤ 6 := by
    refine ⟨os ++ [107], by simp [oz], ?_, by simp; omega, os, rfl, hlen1⟩
    intro o ho
    rcases List.mem_append.mp ho with ho | ho
    · exact ho2 o ho
    · rw [List.mem_singleton.mp ho]; unfold okO; decide
  rw [e3] at hI3
  clear e3 ho2 hlen1 hlo
  dsimp only
  refine wpAny_execs_cons ?_
  refine assign_objs PriIs ?sw4 ?fr4 ?ce4 ?ki4 ?na4 ?lx4 ?hy4 ?hp4 ?hh4 ?_ ?fs4
  case sw4 => rfl
  case fr4 => decide
  case ce4 => decide
  case ki4 => rfl
  case na4 => decide
  case lx4 => rfl
  case hh4 => rfl
  case hy4 => rfl
  case hp4 => rfl
  case fs4 => intro _; rfl
  walk_at "my steps"
  have hlw : ws'.length = os'.length := by rw [hI3.length]; exact List.length_map ..
  refine ⟨_, ws', s.heap, _, rfl, ⟨_, (N4 _ (.head _)).1, rfl, _, rfl⟩, by rw [sizeLine_eq]; omega, by exact F3, ?el4, ?_⟩
  case el4 =>
    intro C v s₃ m₃ E' hv hn hm hk
    dsimp only at hk
    obtain ⟨k, t, hk0, rfl⟩ := oz_mem hI3 v hv
    have F5 := F3.keeps hk
    have X3 := X.keeps F5.keep
    have T3 := T.keeps F5.keep
    walk_at "my steps"
    refine prices_call (Rdy.in (dp := dp) (un := un) B X T hd5 hu5 F5 rfl) ?_
    intro T' ta tb n h' tk hst hfr hgt
    exact ⟨⟨T', _, rfl, hfr, hgt, k, t, ta, tb, n, rfl, rfl⟩, _, _, rfl, hst⟩
  intro Dp h5 tk5 zs hD5 hg5 hp5 F5 hst5
  dsimp only at hD5 hst5 hp5 ⊢
  have F6 : Fr s.heap s.heap.objs.size h5 _ := F5
  have N6 : News s.heap s.heap.objs.size h5 [(Do, listOf ws'.toArray 0)] := by
    intro p hp
    rcases List.mem_singleton.mp hp with rfl
    have := N4 _ (.head _)
    exact ⟨hst5 _ _ this.2.1 this.1, this.2⟩
  obtain ⟨zs, rfl⟩ : ∃ l : List Value, zs = l.toArray := ⟨zs.toList, by simp⟩
  obtain ⟨tup, hP, hT⟩ := tups_of hp5 hI3
  obtain ⟨n5, hg6⟩ := hg5
  have N7 : News s.heap s.heap.objs.size h5 ((Dp, listOf zs.toArray n5) :: (Do, listOf ws'.toArray 0) :: tup) := by
    have hfr : ∀ D, _ → s.heap.get? D = none := fun D (hD : Heap.get? _ D = none) => by
      cases e : s.heap.get? D with
      | none => rfl
      | some o => exact absurd rfl (ne_of_none_some hD (F3.keep _ _ e))
    intro p hp
    rcases List.mem_cons.mp hp with rfl | hp
    · refine ⟨hg6, ?_, hfr _ hD5⟩
      obtain ⟨oL, _, _, hoL, _⟩ := F3.ns
      exact ne_of_none_some hD5 hoL
    rcases List.mem_cons.mp hp with rfl | hp
    · exact N6 _ (.head _)
    · obtain ⟨a, b, c⟩ := hT p hp
      exact ⟨a, fun e => b (by rw [e]; exact .head _), hfr _ c⟩
  clear F5 F3 N4 hst5 hp5 hT N6
  refine' law_rest (dp := dp) (un := un) ?hoZ ?hrZ B X T hdp hun hI3 ho' hl'.2 hP (fr_named F6 (by kst_all)) N7 hq
  case hoZ => k_is
  case hrZ => exact rfl
end
end Mine
end
section
open PySem PySem.W PyProof.Rows PySem.Calls
set_option maxRecDepth 100000
namespace Mine
def LawEnd (s₁ : Shared) (fl : Flow) (s' : Shared) : Prop := ∃ h' tk m, fl = .ret (.bool true) ∧ s' = { s₁ with heap := h', toks := tk } ∧ Fr s₁.heap s₁.heap.objs.size h' m
set_option maxHeartbeats 8000000 in
theorem law_call : PySem.Challenge.rw_rl0067_01.Holds := by
  w_on
  refine hl fun said => ?_
  refine holds_open (r := PySem.Challenge.rw_rl0067_01.row) (q := H.qW H.pW) (loose := H.loW) (Xt := H.xtW H.pW) (XP := XL (H.qW H.pW) H.lvW) (Yf := H.HK.obs) (Ya := H.HK.val) (YP := (kHook Mine.hk.heap_1 [2, 3, 6, 17, 22, 24, 31, 33, 34, 36, 37, 38, 39, 41, 42, 44, 45, 47, 51, 52, 54, 55, 57, 58, 59, 61, 62, 64, 65, 66, 68, 69, 71, 72, 73, 75, 76, 78, 79, 80, 82, 83, 85, 86, 87, 90, 91, 92, 95, 96] (fun _ => by kernel_rfl)).says) (N := 20000) H.left (Hook.of H.HK) (Hook.keeps H.HK) (fun s e => xl_of s (Bool.and_eq_true_iff.mp e).1) XL.keeps (by rfl) (by rfl) (by rfl) (fun s e => recFacts_of (Bool.and_eq_true_iff.mp e).2) (by rfl) (by assumption) (by decide +kernel) ⟨rfl, rfl, rfl, rfl, rfl, by decide +kernel⟩ ?hw ?hc
  case hw => w_witness2
  k_go0
  rename Shared => s
  rename World => w
  refine wpAny_mono (Q := LawEnd s) (E := fun _ _ => False) ?_ ?_ (fun _ _ x => x.elim)
  rotate_left
  · rintro fl s' ⟨h', tk, m, rfl, rfl, hF⟩
    dsimp only
    wrow_close
  rename Frag.In _ _ => X
  rename Top _ _ _ _ _ _ => T
  rename Below _ _ _ _ => B
  rename Heap.IsList _ _ _ => hL
  rename IntsAre _ _ => hI
  rename News _ _ _ _ => N
  rename Fr _ _ _ _ => F
  dsimp only
  generalize PySem.Challenge.rw_rl0067_01.row.prog = prog
  rw [show callerA = Ar 301 4 (some []) [] from rfl] at B ⊢
  refine' law_first (dp := 301) (un := 4) ?hoZ B X T (by decide) (by decide) hL hI (by assumption) F N ?_
  case hoZ => k_is
  intro h' tk m F
  exact ⟨h', tk, m, rfl, rfl, F⟩
end Mine
end
theorem PySem.Challenge.cw_rl0067_01_holds : PySem.Challenge.rw_rl0067_01.Holds := by
  exact Mine.law_call
