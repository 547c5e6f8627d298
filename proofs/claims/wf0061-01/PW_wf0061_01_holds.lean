import PyProof.Rows.All
import Wide.All
import OpenK.AllK
import Wide.FinOn
import Lean
import PySem.Challenge.RW_wf0061_01
set_option Elab.async false
set_option linter.unusedVariables false
namespace Mine
open PySem PySem.W PyProof.Rows
set_option maxRecDepth 100000 in
set_option maxHeartbeats 8000000 in
open_top hd1 for PySem.Challenge.rw_wf0061_01
end Mine
namespace Mine
open PySem PySem.W PySem.Calls PyProof.Rows

theorem q1 {a b c : Nat} (h : a < b) (h2 : Nat.ble b c = true) : a ≤ c := Nat.le_trans (Nat.le_of_lt h) (Nat.le_of_ble_eq_true h2)
theorem q2 {a b c : Nat} (h : a < b) (h2 : Nat.ble b c = true) : a < c := Nat.lt_of_lt_of_le h (Nat.le_of_ble_eq_true h2)
theorem q3 {a b c : Nat} (h : a ≤ b) (h2 : Nat.ble b c = true) : a ≤ c := Nat.le_trans h (Nat.le_of_ble_eq_true h2)
theorem q4 {a b c : Nat} (h : a ≤ b) (h2 : Nat.ble (b + 1) c = true) : a < c := Nat.lt_of_le_of_lt h (Nat.le_of_ble_eq_true h2)
theorem q5 {n m c : Nat} (h : n < m) (h2 : Nat.ble m c = true) : (n : Int) < (c : Int) := Int.ofNat_lt.mpr (q2 h h2)
theorem q6 {n m c : Nat} (h : n < m) (h2 : Nat.ble m c = true) : (n : Int) ≤ (c : Int) := Int.ofNat_le.mpr (q1 h h2)
theorem q7 {n m c : Nat} (h : n ≤ m) (h2 : Nat.ble (m + 1) c = true) : (n : Int) < (c : Int) := Int.ofNat_lt.mpr (q4 h h2)
theorem q8 {n m c : Nat} (h : n ≤ m) (h2 : Nat.ble m c = true) : (n : Int) ≤ (c : Int) := Int.ofNat_le.mpr (q3 h h2)
theorem q9 {n m c : Nat} (h : n < m) (h2 : Nat.ble m c = true) : ((n : Int)).natAbs < c := q2 h h2
theorem q10 {n m c : Nat} (h : n ≤ m) (h2 : Nat.ble (m + 1) c = true) : ((n : Int)).natAbs < c := q4 h h2
theorem q11 {n : Nat} (h : 0 < n) : (n : Int) ≠ 0 := Int.ofNat_ne_zero.mpr (Nat.ne_of_gt h)
theorem u1 {a b : Nat} (h : a < b) : 1 + a - 1 < b := Nat.lt_of_le_of_lt (Nat.le_of_eq (Nat.add_sub_cancel_left 1 a)) h
theorem u2 {W i n c : Nat} (e : W = i + 1) (h : i < n) (h2 : n ≤ c) : W ≤ c := Nat.le_trans (Nat.le_of_eq e) (Nat.le_trans h h2)
theorem u3 {x y b c : Nat} (e : x = y + b) (h : x ≤ c) : b ≤ c := Nat.le_trans (Nat.le_add_left b y) (Nat.le_trans (Nat.le_of_eq e.symm) h)
theorem u4 {a x k c d : Nat} (h : a + d * (k + 1) < c) (w : x ≤ d) : a + x + d * k < c := Nat.lt_of_le_of_lt (Nat.le_trans (Nat.add_le_add_right (Nat.add_le_add_left w _) _) (Nat.le_of_eq ((Nat.add_right_comm _ d _).trans (Nat.add_assoc a (d * k) d)))) h
theorem u5 {a x y k c d : Nat} (h : a + d * (k + 2) < c) (hx : x ≤ d) (hy : y ≤ d) : a + x + y + d * k < c := u4 (u4 h hx) hy
theorem u6 {x b c : Nat} (h : x + 1 + b ≤ c) : x ≤ c := Nat.le_trans (Nat.le_trans (Nat.le_add_right x 1) (Nat.le_add_right _ b)) h
theorem u7 {x y P : Nat} (h : x < P) (h3 : y ≤ 1) : 2 * x + y < P * 2 := Nat.lt_of_lt_of_le (Nat.lt_succ_of_le (Nat.add_le_add_left h3 _)) (Nat.le_trans (Nat.mul_le_mul_left 2 h) (Nat.le_of_eq (Nat.mul_comm 2 P)))
theorem u8 {f x y z w : Nat} (e : f = 8 * x + 4 * y + 2 * z + w) (hx : x ≤ 1) (hy : y ≤ 1) (hz : z ≤ 1) (hw : w ≤ 1) : f < 16 := Nat.lt_of_le_of_lt (Nat.le_of_eq e) (Nat.lt_succ_of_le (Nat.add_le_add (Nat.add_le_add (Nat.add_le_add (Nat.mul_le_mul_left 8 hx) (Nat.mul_le_mul_left 4 hy)) (Nat.mul_le_mul_left 2 hz)) hw))
theorem u9 {x i L : Nat} (h : x ≤ 9 + i * 12) (hi : i < L) (hl : L ≤ 10) : x ≤ 129 := Nat.le_trans h (Nat.add_le_add_left (Nat.mul_le_mul_right 12 (Nat.le_of_lt (Nat.lt_of_lt_of_le hi hl))) 9)
theorem u10 (x y z w : Nat) : 2 * (2 * (2 * (2 * 0 + x) + y) + z) + w = 8 * x + 4 * y + 2 * z + w := by
  rw [Nat.mul_zero, Nat.zero_add, Nat.mul_add 2 _ z, Nat.mul_add 2 _ y, Nat.mul_add 2 _ (2 * y), ← Nat.mul_assoc, ← Nat.mul_assoc, ← Nat.mul_assoc]
theorem i1 (a b : Nat) : max (a : Int) b = ((max a b : Nat) : Int) := (Nat.le_total a b).elim (fun h => (Int.max_eq_right (Int.ofNat_le.mpr h)).trans (congrArg Int.ofNat (Nat.max_eq_right h).symm)) fun h => (Int.max_eq_left (Int.ofNat_le.mpr h)).trans (congrArg Int.ofNat (Nat.max_eq_left h).symm)
theorem i4 (a b : Nat) : min (a : Int) b = ((min a b : Nat) : Int) := (Nat.le_total a b).elim (fun h => (Int.min_eq_left (Int.ofNat_le.mpr h)).trans (congrArg Int.ofNat (Nat.min_eq_left h).symm)) fun h => (Int.min_eq_right (Int.ofNat_le.mpr h)).trans (congrArg Int.ofNat (Nat.min_eq_right h).symm)
theorem i2 (n b : Nat) : max ((n : Int) - 1) b = ((max (n - 1) b : Nat) : Int) := match n with
  | 0 => (Int.max_eq_right (Int.le_trans (by decide) (Int.natCast_nonneg b))).trans (congrArg Int.ofNat (Nat.max_eq_right (Nat.zero_le b)).symm)
  | n + 1 => (congrArg (max · (b : Int)) (Int.add_sub_cancel n 1)).trans (i1 n b)
theorem i3 (n L : Nat) : max 0 (min (if (n : Int) < 0 then (n : Int) + L else n) L) = ((min n L : Nat) : Int) :=
  ((congrArg (fun x => max 0 (min x (L : Int))) (if_neg (Int.not_lt.mpr (Int.natCast_nonneg n)))).trans (congrArg (max 0) (i4 n L))).trans (Int.max_eq_right (Int.natCast_nonneg _))
theorem i6 {x y : Nat} {g : Int} (h : (x : Int) = y + g) : (y < x ↔ 0 < g) ∧ (x < y ↔ g < 0) := by
  constructor
  · rw [← Int.ofNat_lt, h]; exact ⟨fun q => Int.lt_of_add_lt_add_left (a := y) (by rw [Int.add_zero]; exact q), Int.lt_add_of_pos_right _⟩
  · rw [← Int.ofNat_lt, h]; exact ⟨fun q => Int.lt_of_add_lt_add_left (a := y) (by rw [Int.add_zero]; exact q), fun q => Int.lt_of_lt_of_le (Int.add_lt_add_left q _) (by rw [Int.add_zero]; exact Int.le_refl _)⟩

theorem nos {α : Type} {P : Prop} {x : Option α} {a : α} (h : x = none) (e : x = some a) : P := by replace e := (h) ▸ e; cases e
theorem not_app {α : Type} {a : α} {l m : List α} (h : a ∉ l ++ m) : a ∉ l ∧ a ∉ m := ⟨fun q => h (List.mem_append_left _ q), fun q => h (List.mem_append_right _ q)⟩
theorem app_not {α : Type} {a : α} {l m : List α} (h : a ∉ l ∧ a ∉ m) : a ∉ l ++ m := fun q => (List.mem_append.mp q).elim h.1 h.2
theorem not_app3 {α : Type} {a : α} {l m n : List α} (h : a ∉ l ++ (m ++ n)) : a ∉ l ∧ a ∉ m ∧ a ∉ n := ⟨(not_app h).1, not_app (not_app h).2⟩
theorem app_not3 {α : Type} {a : α} {l m n : List α} (h : a ∉ l ∧ a ∉ m ∧ a ∉ n) : a ∉ l ++ (m ++ n) := app_not ⟨h.1, app_not h.2⟩
theorem app3 {α : Type} {a : α} {l m n : List α} (h : a ∈ l ++ (m ++ n)) : a ∈ l ∨ a ∈ m ∨ a ∈ n := (List.mem_append.mp h).imp_right List.mem_append.mp
noncomputable abbrev View := Addr → Option Obj
noncomputable def Sub (g g' : View) : Prop := ∀ b o, g b = some o → g' b = some o
theorem Sub.refl (g : View) : Sub g g := fun _ _ e => e
theorem Sub.trans {a b c : View} (x : Sub a b) (y : Sub b c) : Sub a c := fun i o e => y i o (x i o e)

noncomputable def fz (O : List Addr) (h : Heap) : View := fun b => if b ∈ O then none else h.get? b
theorem fz_some {O : List Addr} {h : Heap} {b : Addr} {o : Obj} : fz O h b = some o ↔ b ∉ O ∧ h.get? b = some o := by
  unfold fz; split <;> simp_all
theorem fz_heap {O : List Addr} {h : Heap} : Sub (fz O h) h.get? := fun _ _ e => (fz_some.mp e).2
theorem fz_mono {O O' : List Addr} {h h' : Heap} (hO : ∀ b, b ∈ O' → b ∈ O ∨ h.get? b = none) (hk : ∀ b o, b ∉ O → h.get? b = some o → h'.get? b = some o) : Sub (fz O h) (fz O' h') := fun b o e => by
  obtain ⟨h1, h2⟩ := fz_some.mp e
  refine fz_some.mpr ⟨fun hb => ?_, hk b o h1 h2⟩
  rcases hO b hb with x | x
  · exact h1 x
  · replace x := (h2) ▸ x; cases x

inductive D where
  | none
  | bool (b : Bool)
  | int (i : Int)
  | str (s : Str)
  | bytes (b : Array UInt8)
  | list (ds : List D)
  | arg (ds : List D)
  | tup (ds : List D)
  | range (a b : Int)
  | inst (C : Addr) (ns : List Str) (ds : List D)
  deriving Inhabited


noncomputable def keyName (e : DictEntry) : Option Str := match e.key with
  | .str x _ => some x
  | _ => Option.none

mutual
noncomputable def Rep (g : View) : D → Value → Prop
  | .none, v => v = Value.none
  | .bool b, v => v = Value.bool b
  | .int i, v => ∃ t, v = Value.int i t
  | .str x, v => ∃ t, v = Value.str x t
  | .bytes x, v => ∃ t, v = Value.bytes x t
  | .list ds, v => ∃ a vs n, v = Value.ref a ∧ g a = some { cls := Value.type "list", dict := Option.none, data := Data.seq (List.toArray vs) n, slots := #[] } ∧ RepL g ds vs
  | .arg ds, v => ∃ a o vs n, v = Value.ref a ∧ g a = some o ∧ o.cls = Value.type "list" ∧ o.data = Data.seq (List.toArray vs) n ∧ RepL g ds vs
  | .tup ds, v => ∃ a vs n, v = Value.ref a ∧ g a = some { cls := Value.type "tuple", dict := Option.none, data := Data.seq (List.toArray vs) n, slots := #[] } ∧ RepL g ds vs
  | .range a b, v => ∃ r t u x, v = Value.ref r ∧ g r = some { cls := Value.type "range", dict := Option.none, data := Data.fields #[Value.int a t, Value.int b u, Value.int 1 x], slots := #[] }
  | .inst C ns ds, v => ∃ a d es n, v = Value.ref a ∧ g a = some (instObj C d) ∧ g d = some (dictOf es n) ∧ es.map keyName = ns.map some ∧ RepL g ds (es.map (·.val))
noncomputable def RepL (g : View) : List D → List Value → Prop
  | [], vs => vs = []
  | d :: ds, vs => ∃ v r, vs = v :: r ∧ Rep g d v ∧ RepL g ds r
end

theorem RepL.inv {g : View} {d : D} {ds : List D} {vs : List Value} (h : RepL g (d :: ds) vs) : ∃ v r, vs = v :: r ∧ Rep g d v ∧ RepL g ds r := h
theorem RepL.inv1 {g : View} {d : D} {vs : List Value} (h : RepL g [d] vs) : ∃ v, vs = [v] ∧ Rep g d v := by
  obtain ⟨v, r, h1, h2, h3⟩ := RepL.inv h
  exact ⟨v, h3 ▸ h1, h2⟩
theorem RepL.inv2 {g : View} {d e : D} {vs : List Value} (h : RepL g [d, e] vs) : ∃ v w, vs = [v, w] ∧ Rep g d v ∧ Rep g e w := by
  obtain ⟨v, r, h1, h2, h3⟩ := RepL.inv h
  obtain ⟨w, rfl, h4⟩ := RepL.inv1 h3
  exact ⟨v, w, h1, h2, h4⟩
theorem Rep.mono {g g' : View} (hg : Sub g g') {d : D} {v : Value} : Rep g d v → Rep g' d v := by
  refine D.rec (motive_1 := fun d => ∀ v, Rep g d v → Rep g' d v) (motive_2 := fun ds => ∀ vs, RepL g ds vs → RepL g' ds vs) (fun _ h => h) (fun _ _ h => h) (fun _ _ h => h) (fun _ _ h => h) (fun _ _ h => h) ?_ ?_ ?_ ?_ ?_ (fun _ h => h) ?_ d v
  · intro ds ih v h
    obtain ⟨a, vs, n, h1, h2, h5⟩ := h
    exact ⟨a, vs, n, h1, hg _ _ h2, ih _ h5⟩
  · intro ds ih v h
    obtain ⟨a, o, vs, n, h1, h2, h3, h4, h5⟩ := h
    exact ⟨a, o, vs, n, h1, hg _ _ h2, h3, h4, ih _ h5⟩
  · intro ds ih v h
    obtain ⟨a, vs, n, h1, h2, h5⟩ := h
    exact ⟨a, vs, n, h1, hg _ _ h2, ih _ h5⟩
  · intro _ _ v h
    obtain ⟨r, t, u, x, h1, h2⟩ := h
    exact ⟨r, t, u, x, h1, hg _ _ h2⟩
  · intro C ns ds ih v h
    obtain ⟨a, d, es, n, h1, h2, h3, h4, h5⟩ := h
    exact ⟨a, d, es, n, h1, hg _ _ h2, hg _ _ h3, h4, ih _ h5⟩
  · intro d ds ih1 ih2 vs h
    obtain ⟨v, r, h1, h2, h3⟩ := RepL.inv h
    exact ⟨v, r, h1, ih1 _ h2, ih2 _ h3⟩
theorem RepL.mono {g g' : View} (hg : Sub g g') {ds : List D} : ∀ {vs : List Value}, RepL g ds vs → RepL g' ds vs := by
  induction ds with
  | nil => exact fun h => h
  | cons d ds ih =>
    intro vs h
    obtain ⟨v, r, h1, h2, h3⟩ := RepL.inv h
    exact ⟨v, r, h1, Rep.mono hg h2, ih h3⟩
theorem RepL.length {g : View} : ∀ {ds : List D} {vs : List Value}, RepL g ds vs → vs.length = ds.length := by
  intro vq
  induction vq with
  | nil =>
    intro _ h
    skip; subst h; rfl
  | cons d ds ihq =>
    intro _ h
    obtain ⟨v, r, rfl, _, h3⟩ := RepL.inv h
    simp only [List.length_cons, List.length_cons, ihq h3]
theorem RepL.get {g : View} : ∀ {ds : List D} {vs : List Value}, RepL g ds vs → ∀ {i : Nat} {d : D}, ds[i]? = some d → ∃ v, vs[i]? = some v ∧ Rep g d v := by
  intro vq
  induction vq with
  | nil =>
    intro _ _ i d e
    simp at e
  | cons d ds ihq =>
    intro _ h i d' e
    obtain ⟨v, r, rfl, h2, h3⟩ := RepL.inv h
    cases i with
    | zero => simp at e; subst e; exact ⟨v, rfl, h2⟩
    | succ i => simp at e; obtain ⟨v', e', r'⟩ := ihq h3 e; exact ⟨v', by exact e', r'⟩
theorem RepL.append {g : View} : ∀ {ds ds' : List D} {vs vs' : List Value}, RepL g ds vs → RepL g ds' vs' → RepL g (ds ++ ds') (vs ++ vs') := by
  intro vq
  induction vq with
  | nil =>
    intro _ _ _ h h'
    skip; subst h; exact h'
  | cons d ds ihq =>
    intro ds' _ vs' h h'
    obtain ⟨v, r, rfl, h2, h3⟩ := RepL.inv h
    skip
    exact ⟨v, r ++ vs', rfl, h2, ihq h3 h'⟩
theorem RepL.cons {g : View} {d : D} {ds : List D} {v : Value} {vs : List Value} (h : Rep g d v) (h' : RepL g ds vs) : RepL g (d :: ds) (v :: vs) := by
  skip; exact ⟨v, vs, rfl, h, h'⟩
theorem RepL.nil {g : View} : RepL g [] [] := rfl
theorem RepL.one {g : View} {d : D} {v : Value} (h : Rep g d v) : RepL g [d] [v] := .cons h .nil
theorem RepL.set {g : View} : ∀ {ds : List D} {vs : List Value}, RepL g ds vs → ∀ {i : Nat} {d : D} {v : Value}, Rep g d v → RepL g (ds.set i d) (vs.set i v) := by
  intro vq
  induction vq with
  | nil =>
    intro _ h i d v _
    skip; subst h; exact .nil
  | cons d ds ihq =>
    intro _ h i d' v' hd
    obtain ⟨v, r, rfl, h2, h3⟩ := RepL.inv h
    cases i with
    | zero => exact .cons hd h3
    | succ i => exact .cons h2 (ihq h3 hd)
noncomputable def Flat : D → Bool
  | .none | .bool _ | .int _ | .str _ | .bytes _ => true
  | _ => false
theorem Rep.flat {g g' : View} {d : D} {v : Value} (hf : Flat d = true) (h : Rep g d v) : Rep g' d v := by
  cases d <;> first | (exact h) | cases hf
theorem RepL.flat {g g' : View} : ∀ {ds : List D} {vs : List Value}, ds.all Flat = true → RepL g ds vs → RepL g' ds vs := by
  intro vq
  induction vq with
  | nil =>
    intro _ _ h
    exact h
  | cons d ds ihq =>
    intro _ hf h
    skip
    simp only [List.all_cons, Bool.and_eq_true] at hf
    obtain ⟨v, r, h1, h2, h3⟩ := h
    exact ⟨v, r, h1, h2.flat hf.1, ihq hf.2 h3⟩
noncomputable def fieldD : List Str → List D → Str → Option D
  | n :: ns, d :: ds, x => if n = x then some d else fieldD ns ds x
  | _, _, _ => Option.none
theorem keyName_isStr {e : DictEntry} {x y : Str} (h : keyName e = some x) : e.key.isStr y = decide (x = y) := by
  unfold keyName at h
  split at h
  · rename_i z t he
    cases h
    rw [he]
    skip
    by_cases q : x = y <;> rfl
  · cases h
theorem getL_of {g : View} : ∀ {es : List DictEntry} {ns : List Str} {ds : List D} {x : Str} {d : D}, es.map keyName = ns.map some → RepL g ds (es.map (·.val)) → fieldD ns ds x = some d → ∃ v, getL x es = some (some v) ∧ Rep g d v := by
  intro vq
  induction vq with
  | nil =>
    intro ns ds x d h1 h2 h3
    cases ns with
    | nil => simp [fieldD] at h3
    | cons n ns => simp at h1
  | cons e es ihq =>
    intro ns ds x d h1 h2 h3
    cases ns with
    | nil => simp at h1
    | cons n ns =>
      cases ds with
      | nil => simp [fieldD] at h3
      | cons d' ds =>
        simp only [List.map_cons, List.cons.injEq] at h1
        simp only [List.map_cons] at h2
        obtain ⟨v, r, hv, hd, hr⟩ := h2
        simp only [List.cons.injEq] at hv
        obtain ⟨hv1, hv2⟩ := hv
        subst hv1 hv2
        skip
        unfold fieldD at h3
        unfold getL
        (refine (List.find?_cons) ▸ ?_; rw [(keyName_isStr (y := x) h1.1)])
        by_cases q : n = x
        · replace h3 := (if_pos q) ▸ h3
          cases h3
          refine (decide_eq_true q).symm ▸ ?_
          exact ⟨_, rfl, hd⟩
        · rw [if_neg q] at h3
          refine (decide_eq_false q) ▸ ?_
          obtain ⟨v', e', r'⟩ := ihq h1.2 hr h3
          refine ⟨v', ?_, r'⟩
          unfold getL at e'
          dsimp only
          split at e'
          · rename_i z; rw [z]; exact e'
          · rename_i z; split at e' <;> cases e'
end Mine
namespace Mine
open PySem PySem.W PySem.Calls PyProof.Rows

noncomputable def Room (k : Nat) (A : Around) : Prop := A.handled = Option.none ∧ A.depth + 3 * k < recursionLimit ∧ A.units + 30 * k < cLine
theorem Room.le {k j : Nat} {A : Around} (h : Room k A) (hj : j ≤ k) : Room j A := ⟨h.1, by have := h.2.1; (exact Nat.lt_of_le_of_lt (Nat.add_le_add_left (Nat.mul_le_mul_left 3 hj) _) this), by have := h.2.2; (exact Nat.lt_of_le_of_lt (Nat.add_le_add_left (Nat.mul_le_mul_left 30 hj) _) this)⟩
theorem Room.depth {k : Nat} {A : Around} (h : Room k A) : A.depth < recursionLimit := by have := h.2.1; (exact Nat.lt_of_le_of_lt (Nat.le_add_right _ _) this)
theorem Room.deeper {k : Nat} {A : Around} (h : Room (k + 1) A) (env : Env) : Room k (A.deeper env) :=
  ⟨h.1, by have := h.2.1; show A.depth + 1 + 3 * k < _; (exact u4 this (Nat.le_of_ble_eq_true rfl)), by have := h.2.2; show A.units + 3 + 30 * k < _; (exact u4 this (Nat.le_of_ble_eq_true rfl))⟩
theorem Room.in1 {k : Nat} {A : Around} (h : Room (k + 1) A) : Room k A.in1 :=
  ⟨h.1, by have := h.2.1; show A.depth + 3 * k < _; (exact Nat.lt_of_le_of_lt (Nat.add_le_add_left (Nat.mul_le_mul_left 3 (Nat.le_succ k)) _) this), by have := h.2.2; show A.units + 1 + 30 * k < _; (exact u4 this (Nat.le_of_ble_eq_true rfl))⟩

structure Step (s s' : Shared) : Prop where
  heap : Sub s.heap.get? s'.heap.get?
  gens : ∀ (i : Nat) (x : GenState), s.gens[i]? = some x → s'.gens[i]? = some x
  bare : AllBare s.gens → AllBare s'.gens
  drawn : s'.drawn = s.drawn
  os : s'.os = s.os
theorem Step.refl (s : Shared) : Step s s := ⟨Sub.refl _, fun _ _ e => e, id, rfl, rfl⟩
theorem Step.trans {a b c : Shared} (x : Step a b) (y : Step b c) : Step a c :=
  ⟨x.heap.trans y.heap, fun i g e => y.gens i g (x.gens i g e), fun h => y.bare (x.bare h), y.drawn.trans x.drawn, y.os.trans x.os⟩
theorem Step.of {s : Shared} {h' : Heap} {tk : Nat} (h : Sub s.heap.get? h'.get?) : Step s { s with heap := h', toks := tk } := ⟨h, fun _ _ e => e, id, rfl, rfl⟩
theorem Step.toks (s : Shared) (tk : Nat) : Step s { s with toks := tk } := ⟨Sub.refl _, fun _ _ e => e, id, rfl, rfl⟩
theorem Step.fz {s s' : Shared} (x : Step s s') (O : List Addr) : Sub (fz O s.heap) (fz O s'.heap) := fun b o e => by
  obtain ⟨h1, h2⟩ := fz_some.mp e
  exact fz_some.mpr ⟨h1, x.heap _ _ h2⟩
theorem push_sub (h : Heap) (o : Obj) : Sub h.get? (h.push o).get? := fun _ _ e => Heap.get?_push_of_some o e

noncomputable def Live (O : List Addr) (h : Heap) : Prop := ∀ a ∈ O, ∃ o, h.get? a = some o
theorem Live.sub {O : List Addr} {h h' : Heap} (l : Live O h) (x : Sub h.get? h'.get?) : Live O h' := fun a ha => let ⟨o, e⟩ := l a ha; ⟨o, x _ _ e⟩
theorem Live.new {O : List Addr} {h : Heap} (l : Live O h) : h.objs.size ∉ O := fun ha => by
  obtain ⟨o, e⟩ := l _ ha
  exact absurd (Heap.lt_size e) (Nat.lt_irrefl _)
theorem Live.none {O : List Addr} {h : Heap} (l : Live O h) {a : Addr} (e : h.get? a = Option.none) : a ∉ O := fun ha => by
  obtain ⟨o, e'⟩ := l _ ha
  replace e' := (e) ▸ e'; cases e'
theorem fz_push {O : List Addr} {h : Heap} (l : Live O h) (o : Obj) (hf : o.isFreed = false) : fz O (h.push o) h.objs.size = some o := fz_some.mpr ⟨l.new, Heap.get?_push_size _ hf⟩

structure At (base : Heap) (k : Nat) (A : Around) (O : List Addr) (s : Shared) : Prop where
  room : Room k A
  bare : AllBare s.gens
  base : Sub base.get? (fz O s.heap)
  live : Live O s.heap
theorem At.step {base : Heap} {k : Nat} {A : Around} {O : List Addr} {s s' : Shared} (h : At base k A O s) (x : Step s s') : At base k A O s' :=
  ⟨h.room, x.bare h.bare, h.base.trans (x.fz O), h.live.sub x.heap⟩
theorem At.le {base : Heap} {k j : Nat} {A : Around} {O : List Addr} {s : Shared} (h : At base k A O s) (hj : j ≤ k) : At base j A O s := ⟨h.room.le hj, h.bare, h.base, h.live⟩
theorem At.get {base : Heap} {k : Nat} {A : Around} {O : List Addr} {s : Shared} (h : At base k A O s) : Sub base.get? s.heap.get? := h.base.trans fz_heap

noncomputable def VarIs (env : Env) (h : Heap) (x : Str) (v : Value) : Prop :=
  (env.kindOf x = some .local ∧ ∃ m, h.Ns env.locals m ∧ m x = some v) ∨ (∃ c, env.kindOf x = some .cell ∧ env.cells.lookup x = some c ∧ h.IsCell c (some v))
theorem IsCell.sub {h h' : Heap} {c : Addr} {v : Option Value} (x : h.IsCell c v) (hs : Sub h.get? h'.get?) : h'.IsCell c v := let ⟨o, e, d⟩ := x; ⟨o, hs _ _ e, d⟩
theorem VarIs.sub {env : Env} {h h' : Heap} {x : Str} {v : Value} (y : VarIs env h x v) (hs : Sub h.get? h'.get?) : VarIs env h' x v := by
  rcases y with ⟨a, m, n, e⟩ | ⟨c, a, b, e⟩
  · exact .inl ⟨a, m, n.keeps hs, e⟩
  · exact .inr ⟨c, a, b, IsCell.sub e hs⟩

structure EnvOk (base : Heap) (env : Env) (ρ : List (Str × D)) (O : List Addr) (h : Heap) : Prop where
  loc : env.locals ∈ O
  ns : ∃ m, h.Ns env.locals m
  cl : ∀ y c, env.cells.lookup y = some c → ∃ o, h.get? c = some o
  vars : ∀ x d, ρ.lookup x = some d → ∃ v, VarIs env h x v ∧ Rep (fz O h) d v
theorem EnvOk.step {base : Heap} {env : Env} {ρ : List (Str × D)} {O : List Addr} {s s' : Shared} (h : EnvOk base env ρ O s.heap) (x : Step s s') : EnvOk base env ρ O s'.heap :=
  ⟨h.loc, let ⟨m, n⟩ := h.ns; ⟨m, n.keeps x.heap⟩, fun y c e => let ⟨o, e'⟩ := h.cl y c e; ⟨o, x.heap _ _ e'⟩, fun y d e => let ⟨v, a, b⟩ := h.vars y d e; ⟨v, a.sub x.heap, b.mono (x.fz O)⟩⟩
noncomputable abbrev WP (prog : Program) (w : World) (A : Around) {α : Type} (t : Sem α) (Q : α → Shared → Prop) (s : Shared) : Prop := wpAny (model prog w) A t Q (fun _ _ => False) s
theorem WP.mono {prog : Program} {w : World} {A : Around} {α : Type} {t : Sem α} {Q Q' : α → Shared → Prop} {E : Value → Shared → Prop} {s : Shared} (h : WP prog w A t Q s) (hQ : ∀ a s', Q a s' → Q' a s') : wpAny (model prog w) A t Q' E s :=
  wpAny_mono h hQ fun _ _ e => e.elim

structure Fn (prog : Program) (w : World) (base : Heap) (k : Nat) (t : List Value → Sem Value) (ds : List D) (d : D) : Prop where
  run : ∀ A O s vs, At base k A O s → RepL (fz O s.heap) ds vs → WP prog w A (t vs) (fun v s' => Step s s' ∧ Rep (fz O s'.heap) d v) s
structure Op2 (prog : Program) (w : World) (base : Heap) (k : Nat) (t : Value → Value → Sem Value) (d₁ d₂ d : D) : Prop where
  run : ∀ A O s a b, At base k A O s → Rep (fz O s.heap) d₁ a → Rep (fz O s.heap) d₂ b → WP prog w A (t a b) (fun v s' => Step s s' ∧ Rep (fz O s'.heap) d v) s
structure Op1 (prog : Program) (w : World) (base : Heap) (k : Nat) (t : Value → Sem Value) (d₁ d : D) : Prop where
  run : ∀ A O s a, At base k A O s → Rep (fz O s.heap) d₁ a → WP prog w A (t a) (fun v s' => Step s s' ∧ Rep (fz O s'.heap) d v) s
structure Ev (prog : Program) (w : World) (base : Heap) (k : Nat) (env : Env) (ρ : List (Str × D)) (e : Expr) (d : D) : Prop where
  run : ∀ A O s, At base k A O s → EnvOk base env ρ O s.heap → WP prog w A (eval e env) (fun v s' => Step s s' ∧ Rep (fz O s'.heap) d v) s
structure Evv (prog : Program) (w : World) (base : Heap) (k : Nat) (env : Env) (ρ : List (Str × D)) (e : Expr) (u : Value) : Prop where
  run : ∀ A O s, At base k A O s → EnvOk base env ρ O s.heap → WP prog w A (eval e env) (fun v s' => Step s s' ∧ v = u) s
structure Evs (prog : Program) (w : World) (base : Heap) (k : Nat) (env : Env) (ρ : List (Str × D)) (pos : Pos) (es : List Expr) (ds : List D) : Prop where
  run : ∀ A O s, At base k A O s → EnvOk base env ρ O s.heap → WP prog w A (spliced (backTo pos (starEach es env))) (fun vs s' => Step s s' ∧ RepL (fz O s'.heap) ds vs) s
structure Tst (prog : Program) (w : World) (base : Heap) (k : Nat) (env : Env) (ρ : List (Str × D)) (e : Expr) (b : Bool) : Prop where
  run : ∀ A O s, At base k A O s → EnvOk base env ρ O s.heap → WP prog w A (isTrue e env (eval e env)) (fun c s' => Step s s' ∧ c = b) s
structure Truthy (prog : Program) (w : World) (base : Heap) (k : Nat) (d : D) (b : Bool) : Prop where
  run : ∀ A O s v, At base k A O s → Rep (fz O s.heap) d v → WP prog w A (truthy v) (fun c s' => Step s s' ∧ c = b) s

section
variable {prog : Program} {w : World} {base : Heap} {k : Nat} {env : Env} {ρ : List (Str × D)}

theorem Ev.of_eq {e : Expr} {d d' : D} (h : Ev prog w base k env ρ e d) (hd : d = d') : Ev prog w base k env ρ e d' := hd ▸ h
theorem Tst.of_eq {e : Expr} {d d' : Bool} (h : Tst prog w base k env ρ e d) (hd : d = d') : Tst prog w base k env ρ e d' := hd ▸ h

theorem ev_int {i : Int} {kk : Nat} {pos : Pos} : Ev prog w base k env ρ (.Constant (.int i) kk pos) (.int i) := .mk fun A O s hA hE =>
  wpAny_Constant_int ⟨Step.toks s _, by skip; exact ⟨_, rfl⟩⟩
theorem ev_str {x : Str} {kk : Nat} {pos : Pos} : Ev prog w base k env ρ (.Constant (.str x) kk pos) (.str x) := .mk fun A O s hA hE => by
  skip
  exact wpAny_mkText ⟨Step.toks s _, by skip; exact ⟨_, rfl⟩⟩
theorem ev_bytes {x : List UInt8} {kk : Nat} {pos : Pos} : Ev prog w base k env ρ (.Constant (.bytes x) kk pos) (.bytes x.toArray) := .mk fun A O s hA hE => by
  skip
  exact wpAny_bind (wpAny_fresh (wpAny_pure ⟨Step.toks s _, by skip; exact ⟨_, rfl⟩⟩))
theorem ev_bool {b : Bool} {kk : Nat} {pos : Pos} : Ev prog w base k env ρ (.Constant (.bool b) kk pos) (.bool b) := .mk fun A O s hA hE =>
  wpAny_pure ⟨Step.refl s, by rfl⟩
theorem ev_name {x : Str} {pos : Pos} {d : D} (hx : ρ.lookup x = some d) (hk : env.scope.kind = .function := by rfl) (hd : (x == ("__debug__" : Str)) = false := by decide) :
    Ev prog w base k env ρ (.Name x pos) d := .mk fun A O s hA hE => by
  obtain ⟨v, hv, hr⟩ := hE.vars x d hx
  refine wpAny_Name ?_ hd
  rcases hv with ⟨a, m, n, e⟩ | ⟨c, a, b, e⟩
  · exact wpAny_loadName_local hk a n e ⟨Step.refl s, hr⟩
  · exact wpAny_loadName_cell hk a b e ⟨Step.refl s, hr⟩

theorem ev_binop {l r : Expr} {op : Operator} {pos : Pos} {d₁ d₂ d : D} (h₁ : Ev prog w base k env ρ l d₁) (h₂ : Ev prog w base k env ρ r d₂) (ho : Op2 prog w base k (binaryOp op) d₁ d₂ d) :
    Ev prog w base k env ρ (.BinOp l op r pos) d := .mk fun A O s hA hE => by
  refine wpAny_BinOp (WP.mono (h₁.run A O s hA hE) fun a s₁ ⟨st₁, r₁⟩ => ?_)
  refine WP.mono (h₂.run A O s₁ (hA.step st₁) (hE.step st₁)) fun b s₂ ⟨st₂, r₂⟩ => ?_
  refine WP.mono (ho.run A O s₂ a b (hA.step (st₁.trans st₂)) (r₁.mono (st₂.fz O)) r₂) fun v s₃ ⟨st₃, r₃⟩ => ⟨(st₁.trans st₂).trans st₃, r₃⟩
theorem ev_unop {x : Expr} {op : UnaryOp} {pos : Pos} {d₁ d : D} (h₁ : Ev prog w base k env ρ x d₁) (ho : Op1 prog w base k (unaryOp op) d₁ d) :
    Ev prog w base k env ρ (.UnaryOp op x pos) d := .mk fun A O s hA hE => by
  refine wpAny_UnaryOp (WP.mono (h₁.run A O s hA hE) fun a s₁ ⟨st₁, r₁⟩ => ?_)
  exact WP.mono (ho.run A O s₁ a (hA.step st₁) r₁) fun v s₃ ⟨st₃, r₃⟩ => ⟨st₁.trans st₃, r₃⟩
theorem ev_compare {l r : Expr} {op : CmpOp} {pos : Pos} {d₁ d₂ d : D} (h₁ : Ev prog w base k env ρ l d₁) (h₂ : Ev prog w base k env ρ r d₂) (ho : Op2 prog w base k (compareOp op) d₁ d₂ d)
    (hm : behindInMarks op r = false := by with_unfolding_all rfl) : Ev prog w base k env ρ (.Compare l [op] [r] pos) d := .mk fun A O s hA hE => by
  refine wpAny_Compare1 (WP.mono (h₁.run A O s hA hE) fun a s₁ ⟨st₁, r₁⟩ => ?_) hm
  refine WP.mono (h₂.run A O s₁ (hA.step st₁) (hE.step st₁)) fun b s₂ ⟨st₂, r₂⟩ => ?_
  refine WP.mono (ho.run A O s₂ a b (hA.step (st₁.trans st₂)) (r₁.mono (st₂.fz O)) r₂) fun v s₃ ⟨st₃, r₃⟩ => ⟨(st₁.trans st₂).trans st₃, r₃⟩
theorem tst_compare {l r : Expr} {op : CmpOp} {pos : Pos} {d₁ d₂ : D} {b : Bool} (h₁ : Ev prog w base k env ρ l d₁) (h₂ : Ev prog w base k env ρ r d₂) (ho : Op2 prog w base k (compareOp op) d₁ d₂ (.bool b))
    (hm : behindInMarks op r = false := by with_unfolding_all rfl) : Tst prog w base k env ρ (.Compare l [op] [r] pos) b := .mk fun A O s hA hE => by
  refine wpAny_isTrue_Compare1 (WP.mono (h₁.run A O s hA hE) fun a s₁ ⟨st₁, r₁⟩ => ?_) hm
  refine WP.mono (h₂.run A O s₁ (hA.step st₁) (hE.step st₁)) fun b s₂ ⟨st₂, r₂⟩ => ?_
  refine WP.mono (ho.run A O s₂ a b (hA.step (st₁.trans st₂)) (r₁.mono (st₂.fz O)) r₂) fun v s₃ ⟨st₃, r₃⟩ => ?_
  skip
  subst r₃
  exact wpAny_truthy_bool ⟨(st₁.trans st₂).trans st₃, rfl⟩
theorem evs_nil {pos : Pos} : Evs prog w base k env ρ pos [] [] := .mk fun A O s hA hE => wpAny_pure ⟨Step.refl s, .nil⟩
theorem evs_cons {pos : Pos} {e : Expr} {es : List Expr} {d : D} {ds : List D} (h : Ev prog w base k env ρ e d) (hs : Evs prog w base k env ρ pos es ds)
    (he : starEach (e :: es) env = (false, eval e env) :: starEach es env := by rfl) : Evs prog w base k env ρ pos (e :: es) (d :: ds) := .mk fun A O s hA hE => by
  refine (he) ▸ ?_
  show WP prog w A (do
    let v ← eval e env
    let here ← (pure [v] : Sem (List Value))
    return here ++ (← holding here (spliced (backTo pos (starEach es env))))) _ s
  refine wpAny_bind (WP.mono (h.run A O s hA hE) fun a s₁ ⟨st₁, r₁⟩ => ?_)
  refine wpAny_bind (wpAny_pure (wpAny_bind (wpAny_holding ?_)))
  refine WP.mono (hs.run A O s₁ (hA.step st₁) (hE.step st₁)) fun vs s₂ ⟨st₂, r₂⟩ => ?_
  exact wpAny_pure ⟨st₁.trans st₂, .cons (r₁.mono (st₂.fz O)) r₂⟩
end
end Mine
namespace Mine
open PySem PySem.W PySem.Calls PyProof.Rows PySem.Spec

theorem beq_dec {α : Type} [BEq α] [LawfulBEq α] [DecidableEq α] (a b : α) : (a == b) = decide (a = b) := by
  by_cases h : a = b <;> simp [h]
theorem bne_dec {α : Type} [BEq α] [LawfulBEq α] [DecidableEq α] (a b : α) : (a != b) = !decide (a = b) := by
  by_cases h : a = b <;> simp [h]
theorem rep_int {g : View} {i : Int} {v : Value} (h : Rep g (.int i) v) : ∃ t, v = .int i t := h
theorem rep_str {g : View} {x : Str} {v : Value} (h : Rep g (.str x) v) : ∃ t, v = .str x t := h
theorem rep_bool {g : View} {x : Bool} {v : Value} (h : Rep g (.bool x) v) : v = .bool x := h
theorem rep_bytes {g : View} {x : Array UInt8} {v : Value} (h : Rep g (.bytes x) v) : ∃ t, v = .bytes x t := h
inductive SeqAt' (T : String) (g : View) (ds : List D) (v : Value) : Prop
  | mk (a : Addr) (vs : List Value) (n : Nat) (e : v = Value.ref a) (h : g a = some { cls := Value.type T, dict := Option.none, data := Data.seq (List.toArray vs) n, slots := #[] }) (h' : RepL g ds vs)
theorem rep_list {g : View} {ds : List D} {v : Value} (h : Rep g (.list ds) v) : SeqAt' "list" g ds v := by obtain ⟨a, vs, n, e, h1, h2⟩ := h; exact ⟨a, vs, n, e, h1, h2⟩
theorem rep_tup {g : View} {ds : List D} {v : Value} (h : Rep g (.tup ds) v) : SeqAt' "tuple" g ds v := by obtain ⟨a, vs, n, e, h1, h2⟩ := h; exact ⟨a, vs, n, e, h1, h2⟩
theorem of_int {g : View} {i : Int} {t : Tok} : Rep g (.int i) (.int i t) := by skip; exact ⟨t, rfl⟩
theorem of_str {g : View} {i : Str} {t : Tok} : Rep g (.str i) (.str i t) := by skip; exact ⟨t, rfl⟩
theorem of_bytes {g : View} {i : Array UInt8} {t : Tok} : Rep g (.bytes i) (.bytes i t) := by skip; exact ⟨t, rfl⟩
theorem of_bool {g : View} {i : Bool} : Rep g (.bool i) (.bool i) := rfl
theorem of_list {g : View} {ds : List D} {a : Addr} {vs : List Value} {n : Nat} (h : g a = some { cls := Value.type "list", dict := Option.none, data := Data.seq (List.toArray vs) n, slots := #[] }) (h' : RepL g ds vs) : Rep g (.list ds) (.ref a) := by
  skip; exact ⟨a, vs, n, rfl, h, h'⟩
theorem of_tup {g : View} {ds : List D} {a : Addr} {vs : List Value} {n : Nat} (h : g a = some { cls := Value.type "tuple", dict := Option.none, data := Data.seq (List.toArray vs) n, slots := #[] }) (h' : RepL g ds vs) : Rep g (.tup ds) (.ref a) := by
  skip; exact ⟨a, vs, n, rfl, h, h'⟩

section
variable {prog : Program} {w : World} {base : Heap} {k : Nat}

theorem op_add {a b : Int} : Op2 prog w base k (binaryOp .Add) (.int a) (.int b) (.int (a + b)) := .mk fun A O s x y hA h₁ h₂ => by
  obtain ⟨t, rfl⟩ := rep_int h₁; obtain ⟨u, rfl⟩ := rep_int h₂
  with_reducible refine P.add_int ?_
  exact ⟨Step.toks s _, of_int⟩
theorem op_sub {a b : Int} : Op2 prog w base k (binaryOp .Sub) (.int a) (.int b) (.int (a - b)) := .mk fun A O s x y hA h₁ h₂ => by
  obtain ⟨t, rfl⟩ := rep_int h₁; obtain ⟨u, rfl⟩ := rep_int h₂
  with_reducible refine P.sub_int ?_
  exact ⟨Step.toks s _, of_int⟩
theorem op_iadd {a b : Int} : Op2 prog w base k (inplaceOp .Add) (.int a) (.int b) (.int (a + b)) := .mk fun A O s x y hA h₁ h₂ => by
  obtain ⟨t, rfl⟩ := rep_int h₁; obtain ⟨u, rfl⟩ := rep_int h₂
  with_reducible refine P.iadd_int ?_
  exact ⟨Step.toks s _, of_int⟩
theorem op_isub {a b : Int} : Op2 prog w base k (inplaceOp .Sub) (.int a) (.int b) (.int (a - b)) := .mk fun A O s x y hA h₁ h₂ => by
  obtain ⟨t, rfl⟩ := rep_int h₁; obtain ⟨u, rfl⟩ := rep_int h₂
  with_reducible refine P.isub_int ?_
  exact ⟨Step.toks s _, of_int⟩
theorem mulOk_small {a b : Int} (ha : a.natAbs < 2 ^ 60) : IntMulOk a b := by
  unfold IntMulOk
  have h : Builtin.Int.intBits a ≤ 64 := intBits_le_64 (by exact Int.neg_lt_of_neg_lt (Int.lt_of_le_of_lt Int.le_natAbs (q5 (c := 2 ^ 64) ((Int.natAbs_neg a).symm ▸ ha) rfl))) (by exact Int.lt_of_le_of_lt Int.le_natAbs (q5 (c := 2 ^ 64) ha rfl))
  skip
  simp [(by unfold shortFactorBits; (simp [*]) : ¬ (Builtin.Int.intBits a > shortFactorBits))]
theorem op_mul {a b : Int} (ha : a.natAbs < 2 ^ 60) : Op2 prog w base k (binaryOp .Mult) (.int a) (.int b) (.int (a * b)) := .mk fun A O s x y hA h₁ h₂ => by
  obtain ⟨t, rfl⟩ := rep_int h₁; obtain ⟨u, rfl⟩ := rep_int h₂
  exact P.mul_int (hm := mulOk_small ha) ⟨Step.toks s _, of_int⟩
theorem op_floordiv {a b : Int} (hb : b ≠ 0) (hs : b.natAbs < 1073741824) : Op2 prog w base k (binaryOp .FloorDiv) (.int a) (.int b) (.int (a.fdiv b)) := .mk fun A O s x y hA h₁ h₂ => by
  obtain ⟨t, rfl⟩ := rep_int h₁; obtain ⟨u, rfl⟩ := rep_int h₂
  exact floordiv_int hb ⟨Step.toks s _, of_int⟩ (.inl (PyProof.noPylong_small hs))
theorem op_mod {a b : Int} (hb : b ≠ 0) : Op2 prog w base k (binaryOp .Mod) (.int a) (.int b) (.int (a.fmod b)) := .mk fun A O s x y hA h₁ h₂ => by
  obtain ⟨t, rfl⟩ := rep_int h₁; obtain ⟨u, rfl⟩ := rep_int h₂
  exact mod_int' hb ⟨Step.toks s _, of_int⟩
theorem op_pow2 {n : Int} (hn : 0 ≤ n) (hs : n ≤ 1000) : Op2 prog w base k (binaryOp .Pow) (.int 2) (.int n) (.int (2 ^ n.toNat)) := .mk fun A O s x y hA h₁ h₂ => by
  obtain ⟨t, rfl⟩ := rep_int h₁; obtain ⟨u, rfl⟩ := rep_int h₂
  refine pow_int hn ?_ ⟨Step.toks s _, of_int⟩
  have : Builtin.Int.intBits 2 = 2 := by decide +kernel
  refine (this) ▸ ?_; (exact Int.le_trans (Int.mul_le_mul_of_nonneg_left hs (by decide)) (by decide))
theorem op_and {a b : Int} : Op2 prog w base k (binaryOp .BitAnd) (.int a) (.int b) (.int (Builtin.bitAnd a b)) := .mk fun A O s x y hA h₁ h₂ => by
  obtain ⟨t, rfl⟩ := rep_int h₁; obtain ⟨u, rfl⟩ := rep_int h₂
  with_reducible refine and_int ?_
  exact ⟨Step.toks s _, of_int⟩
theorem op_ixor {a b : Int} : Op2 prog w base k (inplaceOp .BitXor) (.int a) (.int b) (.int (Builtin.bitXor a b)) := .mk fun A O s x y hA h₁ h₂ => by
  obtain ⟨t, rfl⟩ := rep_int h₁; obtain ⟨u, rfl⟩ := rep_int h₂
  with_reducible refine ixor_int ?_
  exact ⟨Step.toks s _, of_int⟩
theorem op_lshift1 {n : Int} (hn : 0 ≤ n) (hs : n ≤ 1000) : Op2 prog w base k (binaryOp .LShift) (.int 1) (.int n) (.int (2 ^ n.toNat)) := .mk fun A O s x y hA h₁ h₂ => by
  obtain ⟨t, rfl⟩ := rep_int h₁; obtain ⟨u, rfl⟩ := rep_int h₂
  exact lshift_int_small hn (by (lia)) (Nat.le_of_ble_eq_true rfl) ⟨Step.toks s _, by simp only [Int.one_mul]; exact of_int⟩
theorem op_neg {a : Int} : Op1 prog w base k (unaryOp .USub) (.int a) (.int (-a)) := .mk fun A O s x hA h₁ => by
  obtain ⟨t, rfl⟩ := rep_int h₁
  with_reducible refine P.neg_int ?_
  exact ⟨Step.toks s _, of_int⟩
theorem op_eq {a b : Int} : Op2 prog w base k (compareOp .Eq) (.int a) (.int b) (.bool (decide (a = b))) := .mk fun A O s x y hA h₁ h₂ => by
  obtain ⟨t, rfl⟩ := rep_int h₁; obtain ⟨u, rfl⟩ := rep_int h₂
  with_reducible refine P.eq_int ?_
  exact ⟨Step.refl s, by rfl⟩
theorem op_ne {a b : Int} : Op2 prog w base k (compareOp .NotEq) (.int a) (.int b) (.bool (!decide (a = b))) := .mk fun A O s x y hA h₁ h₂ => by
  obtain ⟨t, rfl⟩ := rep_int h₁; obtain ⟨u, rfl⟩ := rep_int h₂
  with_reducible refine P.ne_int ?_
  exact ⟨Step.refl s, by rfl⟩
theorem op_lt {a b : Int} : Op2 prog w base k (compareOp .Lt) (.int a) (.int b) (.bool (decide (a < b))) := .mk fun A O s x y hA h₁ h₂ => by
  obtain ⟨t, rfl⟩ := rep_int h₁; obtain ⟨u, rfl⟩ := rep_int h₂
  with_reducible refine P.lt_int ?_
  exact ⟨Step.refl s, of_bool⟩
theorem op_le {a b : Int} : Op2 prog w base k (compareOp .LtE) (.int a) (.int b) (.bool (decide (a ≤ b))) := .mk fun A O s x y hA h₁ h₂ => by
  obtain ⟨t, rfl⟩ := rep_int h₁; obtain ⟨u, rfl⟩ := rep_int h₂
  with_reducible refine P.le_int ?_
  exact ⟨Step.refl s, of_bool⟩
theorem op_gt {a b : Int} : Op2 prog w base k (compareOp .Gt) (.int a) (.int b) (.bool (decide (b < a))) := .mk fun A O s x y hA h₁ h₂ => by
  obtain ⟨t, rfl⟩ := rep_int h₁; obtain ⟨u, rfl⟩ := rep_int h₂
  with_reducible refine P.gt_int ?_
  exact ⟨Step.refl s, of_bool⟩
theorem op_ge {a b : Int} : Op2 prog w base k (compareOp .GtE) (.int a) (.int b) (.bool (decide (b ≤ a))) := .mk fun A O s x y hA h₁ h₂ => by
  obtain ⟨t, rfl⟩ := rep_int h₁; obtain ⟨u, rfl⟩ := rep_int h₂
  with_reducible refine P.ge_int ?_
  exact ⟨Step.refl s, of_bool⟩
theorem op_isNot {a b : Bool} : Op2 prog w base k (compareOp .IsNot) (.bool a) (.bool b) (.bool (a != b)) := .mk fun A O s x y hA h₁ h₂ => by
  have e₁ := rep_bool h₁; have e₂ := rep_bool h₂; subst e₁ e₂
  refine wpAny_isNot_plain rfl ⟨Step.refl s, ?_⟩
  skip; cases a <;> cases b <;> rfl
theorem op_addStr {x y : Str} (hl : x.length + y.length ≤ sizeLine) : Op2 prog w base k (binaryOp .Add) (.str x) (.str y) (.str (x ++ y)) := .mk fun A O s a b hA h₁ h₂ => by
  obtain ⟨t, rfl⟩ := rep_str h₁; obtain ⟨u, rfl⟩ := rep_str h₂
  exact add_str (hsz := hl) fun t' tk => ⟨Step.toks s _, of_str⟩
theorem op_eqStr {x y : Str} : Op2 prog w base k (compareOp .Eq) (.str x) (.str y) (.bool (decide (x = y))) := .mk fun A O s a b hA h₁ h₂ => by
  obtain ⟨t, rfl⟩ := rep_str h₁; obtain ⟨u, rfl⟩ := rep_str h₂
  with_reducible refine eq_str ?_
  exact ⟨Step.refl s, by rfl⟩
theorem op_neStr {x y : Str} : Op2 prog w base k (compareOp .NotEq) (.str x) (.str y) (.bool (!decide (x = y))) := .mk fun A O s a b hA h₁ h₂ => by
  obtain ⟨t, rfl⟩ := rep_str h₁; obtain ⟨u, rfl⟩ := rep_str h₂
  with_reducible refine ne_str ?_
  exact ⟨Step.refl s, by rfl⟩
theorem op_mulStr {x : Str} {n : Int} (hm : MulOk x n) : Op2 prog w base k (binaryOp .Mult) (.str x) (.int n) (.str (Txt.mul x n)) := .mk fun A O s a b hA h₁ h₂ => by
  obtain ⟨t, rfl⟩ := rep_str h₁; obtain ⟨u, rfl⟩ := rep_int h₂
  exact SB.mul hm fun t' tk => ⟨Step.toks s _, of_str⟩
theorem op_eqBytes {x y : Array UInt8} : Op2 prog w base k (compareOp .Eq) (.bytes x) (.bytes y) (.bool (decide (x.toList = y.toList))) := .mk fun A O s a b hA h₁ h₂ => by
  obtain ⟨t, rfl⟩ := rep_bytes h₁; obtain ⟨u, rfl⟩ := rep_bytes h₂
  with_reducible refine eq_bytes ?_
  exact ⟨Step.refl s, by exact congrArg Value.bool (beq_dec ..)⟩

theorem op_addList {xs ys : List D} (hl : xs.length + ys.length ≤ sizeLine) : Op2 prog w base k (binaryOp .Add) (.list xs) (.list ys) (.list (xs ++ ys)) := .mk fun A O s a b hA h₁ h₂ => by
  obtain ⟨p, vs, n, rfl, hp, hr⟩ := rep_list h₁; obtain ⟨q, us, m, rfl, hq, hr'⟩ := rep_list h₂
  have e₁ := hr.length; have e₂ := hr'.length
  refine P.add_list (hsz := by skip; (simp [*])) (fz_heap _ _ hp) (fz_heap _ _ hq) ⟨Step.of (push_sub _ _), ?_⟩
  skip
  refine ((by simp : (vs.toArray ++ us.toArray) = (vs ++ us).toArray)) ▸ ?_
  exact of_list (fz_push hA.live _ rfl) ((hr.append hr').mono ((Step.of (s := s) (tk := 0) (push_sub _ _)).fz O))

end
end Mine
namespace Mine
open PySem PySem.W PySem.Calls PyProof.Rows PySem.Spec

noncomputable def Gl (base : Heap) (x : Str) (v : Value) : Prop :=
  ∃ mg mb, base.Ns mainGlobals mg ∧ base.Ns builtinsNs mb ∧ (mg x = some v ∨ (mg x = Option.none ∧ mb x = some v))
noncomputable def KeepOk (prog : Program) (w : World) (base : Heap) (f : Value) : Prop :=
  ∀ h : Heap, Sub base.get? h.get? → ∃ k, (k = Keeper.frame ∨ k = Keeper.machine ∨ k = Keeper.boundFrame) ∧ Looks (model prog w) h (keeperOf f) k
noncomputable def Typed (T : String) (d : D) : Prop := ∀ (O : List Addr) (s : Shared) (v : Value), Rep (fz O s.heap) d v → s.TypeIs v T ∧ (∀ a, v = .ref a → ∃ ob, s.heap.get? a = some ob ∧ ob.dict = Option.none)
theorem typed_str {x : Str} : Typed "str" (.str x) := fun O s v h => by obtain ⟨t, rfl⟩ := rep_str h; exact ⟨typeIs_str s x t, fun a e => by cases e⟩
theorem typed_list {x : List D} : Typed "list" (.list x) := fun O s v h => by obtain ⟨a, vs, n, rfl, ha, _⟩ := rep_list h; exact ⟨⟨_, fz_heap _ _ ha, rfl⟩, fun b e => by cases e; exact ⟨_, fz_heap _ _ ha, rfl⟩⟩

section
variable {prog : Program} {w : World} {base : Heap} {k : Nat} {env : Env} {ρ : List (Str × D)}

theorem keep_builtin {id : String} : KeepOk prog w base (.builtin id) := fun h _ => ⟨.machine, .inr (.inl rfl), Looks.of_pure rfl⟩
theorem keep_type {id : String} : KeepOk prog w base (.type id) := fun h _ => ⟨.machine, .inr (.inl rfl), Looks.of_pure rfl⟩
theorem evv_glob {x : Str} {pos : Pos} {v : Value} (hg : Gl base x v) (hk : env.scope.kind = .function := by rfl) (hx : env.kindOf x = some .globalImplicit := by rfl)
    (h1 : env.globals = mainGlobals := by rfl) (h2 : env.builtins = builtinsNs := by rfl) (hd : (x == ("__debug__" : Str)) = false := by decide) :
    Evv prog w base k env ρ (.Name x pos) v := .mk fun A O s hA hE => by
  obtain ⟨mg, mb, n1, n2, h⟩ := hg
  have g1 : s.heap.Ns env.globals mg := h1 ▸ n1.keeps hA.get
  skip
  refine Name_function_global hk hx ?_ hd
  rcases h with h | ⟨h, h'⟩
  · exact loadGlobal_global g1 h ⟨Step.refl s, rfl⟩
  · exact loadGlobal_builtin g1 h (h2 ▸ n2.keeps hA.get : s.heap.Ns env.builtins mb) h' ⟨Step.refl s, rfl⟩

theorem callWith_go {A : Around} {O : List Addr} {s : Shared} {pos : Pos} {f : Value} {first : List Value} {d₀ ds : List D} {d : D} {e : Expr} {es : List Expr} (hk : KeepOk prog w base f) (ha : Evs prog w base k env ρ pos (e :: es) ds)
    (hc : Fn prog w base k (fun vs => call f vs) (d₀ ++ ds) d) (hA : At base k A O s) (hE : EnvOk base env ρ O s.heap) (hf : RepL (fz O s.heap) d₀ first)
    (he : starEach (e :: es) env = (false, eval e env) :: starEach es env) (hp : (backTo pos (starEach es env)).any (·.1) = false) :
    WP prog w A (callWith pos f first (backTo pos (starEach (e :: es) env)) []) (fun v s' => Step s s' ∧ Rep (fz O s'.heap) d v) s := by
  have ha' := ha.run A O s hA hE
  rw [he] at ha' ⊢
  skip
  refine callWith_of (P := fun h => Sub base.get? h.get?) (by show ((false || (backTo pos (starEach es env)).any (·.1)) || false) = false; refine (hp).symm ▸ ?_; rfl) hk ?_
  refine evalArgs_plain (WP.mono ha' fun vs s₁ ⟨st₁, r₁⟩ => ⟨(hA.step st₁).get, ?_⟩)
  exact WP.mono (hc.run A O s₁ (first ++ vs) (hA.step st₁) ((hf.mono (st₁.fz O)).append r₁)) fun v s₂ ⟨st₂, r₂⟩ => ⟨st₁.trans st₂, r₂⟩
theorem callWith_go0 {A : Around} {O : List Addr} {s : Shared} {pos : Pos} {f : Value} {first : List Value} {d₀ : List D} {d : D} (hk : KeepOk prog w base f)
    (hc : Fn prog w base k (fun vs => call f vs) d₀ d) (hA : At base k A O s) (hf : RepL (fz O s.heap) d₀ first) :
    WP prog w A (callWith pos f first (backTo pos (starEach [] env)) []) (fun v s' => Step s s' ∧ Rep (fz O s'.heap) d v) s := by
  refine callWith_of (P := fun h => Sub base.get? h.get?) rfl hk ?_
  refine evalArgs_nil3 ⟨hA.get, ?_⟩
  rw [List.append_nil]
  exact hc.run A O s first hA hf

theorem ev_call {x : Str} {px pos : Pos} {e : Expr} {es : List Expr} {f : Value} {ds : List D} {d : D} (hf : Evv prog w base k env ρ (.Name x px) f) (hk : KeepOk prog w base f)
    (ha : Evs prog w base k env ρ pos (e :: es) ds) (hc : Fn prog w base k (fun vs => call f vs) ds d)
    (he : starEach (e :: es) env = (false, eval e env) :: starEach es env := by rfl) (hp : (backTo pos (starEach es env)).any (·.1) = false := by rfl) :
    Ev prog w base k env ρ (.Call (.Name x px) (e :: es) [] pos) d := .mk fun A O s hA hE => by
  skip
  refine wpAny_bind (WP.mono (hf.run A O s hA hE) fun v s₁ ⟨st₁, e₁⟩ => ?_)
  subst e₁
  exact WP.mono (callWith_go (first := []) (d₀ := []) hk ha hc (hA.step st₁) (hE.step st₁) .nil he hp) fun v s₂ ⟨st₂, r₂⟩ => ⟨st₁.trans st₂, r₂⟩

theorem ev_method {o : Expr} {name : Str} {apos pos : Pos} {e : Expr} {es : List Expr} {T id : String} {pl : Sem Bool} {d₀ d : D} {ds : List D} (ho : Ev prog w base k env ρ o d₀) (hT : Typed T d₀) (pa : PlainAttrs T) (slot : Slot T name id)
    (hty : typeOf (.builtin id) = pure (.type "method_descriptor")) (ha : Evs prog w base k env ρ pos (e :: es) ds) (hc : Fn prog w base k (fun vs => call (.builtin id) vs) (d₀ :: ds) d)
    (hm : eval (.Call (.Attribute o name apos) (e :: es) [] pos) env = (do
      let ov ← eval o env
      standAt apos.atName
      let (f, first) ← holding [ov] (getMethod ov name pl)
      callWith pos f first (backTo pos (starEach (e :: es) env)) (backToKw pos (keywordEach [] env))) := by rfl)
    (he : starEach (e :: es) env = (false, eval e env) :: starEach es env := by rfl) (hp : (backTo pos (starEach es env)).any (·.1) = false := by rfl) :
    Ev prog w base k env ρ (.Call (.Attribute o name apos) (e :: es) [] pos) d := .mk fun A O s hA hE => by
  refine methodCall_KW (pl := pl) ?_ hm
  refine WP.mono (ho.run A O s hA hE) fun v s₁ ⟨st₁, r₁⟩ => ?_
  have hq0 := hT O s₁ v r₁
  have ht := hq0.1
  have hd := hq0.2
  refine getMethod_builtin ht pa slot hty hd ?_
  exact WP.mono (callWith_go (first := [v]) (d₀ := [d₀]) keep_builtin ha hc (hA.step st₁) (hE.step st₁) (.one r₁) he hp) fun v s₂ ⟨st₂, r₂⟩ => ⟨st₁.trans st₂, r₂⟩

theorem ev_list {es : List Expr} {pos : Pos} {ds : List D} (ha : Evs prog w base k env ρ pos es ds) (hl : ds.length ≤ sizeLine := by decide) : Ev prog w base k env ρ (.List es pos) (.list ds) := .mk fun A O s hA hE => by
  refine List_ (WP.mono (ha.run A O s hA hE) fun vs s₁ ⟨st₁, r₁⟩ => ?_)
  refine wpAny_newList (hsz := by refine (r₁.length) ▸ ?_; exact hl) ⟨st₁.trans (Step.of (push_sub _ _)), ?_⟩
  exact of_list (fz_push (hA.step st₁).live _ rfl) (r₁.mono ((Step.of (s := s₁) (tk := 0) (push_sub _ _)).fz O))
theorem ev_tuple {es : List Expr} {kk : Nat} {pos : Pos} {ds : List D} (ha : Evs prog w base k env ρ pos es ds) (hl : ds.length ≤ sizeLine := by decide) : Ev prog w base k env ρ (.Tuple es kk pos) (.tup ds) := .mk fun A O s hA hE => by
  refine Tuple_ (WP.mono (ha.run A O s hA hE) fun vs s₁ ⟨st₁, r₁⟩ => ?_)
  refine wpAny_newTuple (hsz := by refine (r₁.length) ▸ ?_; exact hl) ⟨st₁.trans (Step.of (push_sub _ _)), ?_⟩
  exact of_tup (fz_push (hA.step st₁).live _ rfl) (r₁.mono ((Step.of (s := s₁) (tk := 0) (push_sub _ _)).fz O))
end
end Mine
namespace Mine
open PySem PySem.W PySem.Calls PyProof.Rows PySem.Spec

inductive ItAt (prog : Program) (w : World) (O : List Addr) (s : Shared) (items : List D) (it : Value) (s' : Shared) : Prop
  | mk (I : Addr) (fp wr : List Addr) (P : Nat → Value → Prop) (St : Nat → Heap → Prop) (e : it = .ref I)
    (walks : ∀ A' : Around, A'.handled = Option.none → Walks prog w A' I fp wr items.length P St) (start : St 0 s'.heap) (lives : ∀ i h, St i h → ∀ b ∈ fp, ∃ o, h.get? b = some o) (out : ∀ b ∈ fp, b ∉ O) (new : ∀ b ∈ wr, s.heap.get? b = Option.none)
    (item : ∀ i v, P i v → ∃ d', items[i]? = some d' ∧ Rep (fz O s.heap) d' v)
structure Iter (prog : Program) (w : World) (base : Heap) (k : Nat) (d : D) (items : List D) : Prop where
  run : ∀ A O s v, At base k A O s → Rep (fz O s.heap) d v → WP prog w A (pyIter v) (fun it s' => Step s s' ∧ ItAt prog w O s items it s') s

noncomputable def sgn (c : Nat) : D := .str ⟨#[c]⟩
noncomputable def rangeD (a b : Int) : List D := (List.range (b - a).toNat).map fun (i : Nat) => .int (a + i)
section
variable {prog : Program} {w : World} {base : Heap} {k : Nat}
theorem new_none (s : Shared) : s.heap.get? s.heap.objs.size = Option.none := by
  cases e : s.heap.get? s.heap.objs.size with
  | none => rfl
  | some o => exact absurd (Heap.lt_size e) (Nat.lt_irrefl _)

theorem seq_item {g : View} {ds : List D} {vs : List Value} (hL : RepL g ds vs) (i : Nat) (v : Value) (hv : vs.toArray[i]? = some v) : ∃ d', ds[i]? = some d' ∧ Rep g d' v := by
  have hi : vs[i]? = some v := by simpa using hv
  have hlt : i < ds.length := by
    have := (List.getElem?_eq_some_iff.mp hi).1
    simp only [hL.length] at this; exact this
  obtain ⟨v', e', r'⟩ := hL.get (List.getElem?_eq_getElem hlt)
  replace e' := (hi) ▸ e'; cases e'
  exact ⟨_, List.getElem?_eq_getElem hlt, r'⟩
theorem walks_lt {A : Around} {I : Addr} {fp wr : List Addr} {n : Nat} {P : Nat → Value → Prop} {St : Nat → Heap → Prop} (W : Walks prog w A I fp wr n P St) : Walks prog w A I fp wr n (fun i v => i < n ∧ P i v) St where
  sub := W.sub
  frame := W.frame
  item := fun i s Q E hi st hQ => W.item i s Q E hi st fun v h' tk p => hQ v h' tk ⟨hi, p⟩
  done := W.done
  self := W.self
theorem iter_list {ds : List D} : Iter prog w base k (.list ds) ds := .mk fun A O s v hA hr => by
  obtain ⟨a, vs, n, rfl, ha, hL⟩ := rep_list hr
  obtain ⟨haO, hah⟩ := fz_some.mp ha
  have hl : s.heap.IsList a vs.toArray := ⟨_, hah, rfl, n, rfl⟩
  refine wpAny_pyIter_list hl ⟨Step.of (push_sub _ _), s.heap.objs.size, [s.heap.objs.size, a], [s.heap.objs.size], (fun i v => vs.toArray[i]? = some v), (fun i h => h.IsListIter s.heap.objs.size a i ∧ h.IsList a vs.toArray), rfl,
    fun A' h' => by refine ( hL.length) ▸ ?_; exact Walks.list h' s.heap.objs.size a (Nat.ne_of_lt (Heap.lt_size hah)) vs.toArray, ⟨⟨_, Heap.get?_push_size _ rfl, rfl, rfl⟩, hl.push _⟩, ?_, ?_, ?_, ?_⟩
  · rintro i h ⟨⟨o, e, _⟩, ⟨o', e', _⟩⟩ b hb
    simp at hb
    rcases hb with rfl | rfl
    · exact ⟨_, e⟩
    · exact ⟨_, e'⟩
  · intro b hb
    simp at hb
    rcases hb with rfl | rfl
    · exact hA.live.new
    · exact haO
  · intro b hb; simp at hb; subst hb; exact new_none s
  · exact seq_item hL
theorem iter_tup {ds : List D} : Iter prog w base k (.tup ds) ds := .mk fun A O s v hA hr => by
  obtain ⟨a, vs, n, rfl, ha, hL⟩ := rep_tup hr
  obtain ⟨haO, hah⟩ := fz_some.mp ha
  have hl : s.heap.IsTuple a vs.toArray := ⟨_, hah, rfl, n, rfl⟩
  refine wpAny_pyIter_tuple hl ⟨Step.of (push_sub _ _), s.heap.objs.size, [s.heap.objs.size, a], [s.heap.objs.size], (fun i v => vs.toArray[i]? = some v), (fun i h => h.IsTupleIter s.heap.objs.size a i ∧ h.IsTuple a vs.toArray), rfl,
    fun A' h' => by rw [← hL.length, ← List.size_toArray]; exact Walks.tuple h' s.heap.objs.size a (Nat.ne_of_lt (Heap.lt_size hah)) vs.toArray, ⟨⟨_, Heap.get?_push_size _ rfl, rfl, rfl⟩, ⟨_, Heap.get?_push_of_some _ hah, rfl, n, rfl⟩⟩, ?_, ?_, ?_, ?_⟩
  · rintro i h ⟨⟨o, e, _⟩, ⟨o', e', _⟩⟩ b hb
    simp at hb
    rcases hb with rfl | rfl
    · exact ⟨_, e⟩
    · exact ⟨_, e'⟩
  · intro b hb
    simp at hb
    rcases hb with rfl | rfl
    · exact hA.live.new
    · exact haO
  · intro b hb; simp at hb; subst hb; exact new_none s
  · exact seq_item hL
theorem iter_str {x : Str} : Iter prog w base k (.str x) (x.cps.toList.map sgn) := .mk fun A O s v hA hr => by
  obtain ⟨t, rfl⟩ := rep_str hr
  have key : ∀ (o : Obj) (St : Nat → Heap → Prop), (∀ A' : Around, A'.handled = Option.none → Walks prog w A' s.heap.objs.size [s.heap.objs.size] [s.heap.objs.size] x.cps.size (SignAt x) St) → St 0 (s.heap.push o) →
      (∀ i h, St i h → ∃ o, h.get? s.heap.objs.size = some o) →
      (fun it s' => Step s s' ∧ ItAt prog w O s (x.cps.toList.map sgn) it s') (Value.ref s.heap.objs.size) { s with heap := s.heap.push o } := by
    intro o St W hst hl
    refine ⟨Step.of (tk := s.toks) (push_sub _ _), s.heap.objs.size, [s.heap.objs.size], [s.heap.objs.size], SignAt x, St, rfl, fun A' h' => ?_, hst, ?_, ?_, ?_, ?_⟩
    · have := W A' h'
      rw [List.length_map]; exact this
    · intro i h hs b hb
      simp at hb; subst hb
      exact hl i h hs
    · intro b hb
      simp at hb; subst hb
      exact hA.live.new
    · intro b hb; simp at hb; subst hb; exact new_none s
    · rintro i v ⟨c, u, hc, rfl⟩
      exact ⟨sgn c, by simp only [List.getElem?_map, Array.getElem?_toList, hc]; rfl, of_str⟩
  cases ha : x.cps.all (· < 128)
  · exact wpAny_pyIter_wide ha (key _ _ (fun A' hA => Walks.strWide hA _ x t) ⟨_, Heap.get?_push_size _ rfl, rfl, rfl⟩ fun i h ⟨o, e, _⟩ => ⟨o, e⟩)
  · exact wpAny_pyIter_ascii ha (key _ _ (fun A' hA => Walks.strAscii hA _ x t) ⟨_, Heap.get?_push_size _ rfl, rfl, rfl⟩ fun i h ⟨o, e, _⟩ => ⟨o, e⟩)
theorem iter_bytes {x : Array UInt8} : Iter prog w base k (.bytes x) (x.toList.map fun c => .int (c.toNat : Int)) := .mk fun A O s v hA hr => by
  obtain ⟨t, rfl⟩ := rep_bytes hr
  refine KBw.pyIter_bytes ⟨Step.of (push_sub _ _), s.heap.objs.size, [s.heap.objs.size], [s.heap.objs.size], (fun i v => ∃ c u, x[i]? = some c ∧ v = .int (c.toNat : Int) u), (fun i h => KBw.IsBytesIter h s.heap.objs.size x t i), rfl, fun A' h' => ?_, ⟨_, Heap.get?_push_size _ rfl, rfl, rfl⟩, ?_, ?_, ?_, ?_⟩
  · have := KBw.walks (prog := prog) (w := w) h' s.heap.objs.size x t
    simp only [List.length_map, Array.length_toList]; exact this
  · rintro i h ⟨o, e, _⟩ b hb
    simp at hb; subst hb
    exact ⟨o, e⟩
  · intro b hb
    simp at hb; subst hb
    exact hA.live.new
  · intro b hb; simp at hb; subst hb; exact new_none s
  · rintro i v ⟨c, u, hc, rfl⟩
    exact ⟨_, by simp only [List.getElem?_map, Array.getElem?_toList, hc]; rfl, of_int⟩
theorem iter_range {a b : Int} (ha : -(2 ^ 40) ≤ a := by decide) (ha' : a ≤ 2 ^ 40 := by decide) (hb : -(2 ^ 40) ≤ b := by decide) (hb' : b ≤ 2 ^ 40 := by decide) : Iter prog w base k (.range a b) (rangeD a b) := .mk fun A O s v hA hr => by
  obtain ⟨r, t, u, x, rfl, hg⟩ := hr
  obtain ⟨hgO, hgh⟩ := fz_some.mp hg
  have e : Builtin.Range.rangeSize a b 1 = ((b - a).toNat : Int) := by
    unfold Builtin.Range.rangeSize
    simp
    split <;> (first | exact (Int.max_eq_left (Int.sub_nonneg.mpr (Int.le_of_lt (by assumption)))).symm | exact (Int.max_eq_right (Int.sub_nonpos_of_le (Int.not_lt.mp (by assumption)))).symm)
  refine wpAny_pyIter_range hgh ?_ ⟨Step.of (push_sub _ _), s.heap.objs.size, [s.heap.objs.size], [s.heap.objs.size], (fun i v => i < (rangeD a b).length ∧ ∃ t, v = .int (a + i * 1) t), (fun i h => IsRangeIter h s.heap.objs.size (a + (i : Nat) * 1) (((b - a).toNat : Int) - (i : Nat)) 1), rfl, fun A' h' => ?_, ?_, ?_, ?_, ?_, ?_⟩
  · unfold Builtin.Range.small
    refine (e) ▸ ?_
    unfold Builtin.Range.rangeFitsLong
    simp only [Bool.and_eq_true, Bool.or_eq_true, decide_eq_true_eq, if_pos (show (1 : Int) > 0 by decide)]
    (exact ⟨⟨⟨⟨⟨Int.le_trans (by decide) ha, Int.lt_of_le_of_lt ha' (by decide)⟩, Int.le_trans (by decide) hb, Int.lt_of_le_of_lt hb' (by decide)⟩, by decide, by decide⟩, Int.le_trans (by decide) (Int.natCast_nonneg _), (Int.ofNat_toNat (b - a)).symm ▸ Int.max_lt.mpr ⟨Int.lt_of_le_of_lt (Int.sub_le_sub hb' ha) (by decide), by decide⟩⟩, .inr ⟨Int.le_trans (Int.le_trans (by decide) hb) (Int.le_add_of_nonneg_right (by decide)), Int.lt_of_le_of_lt (Int.add_le_add hb' (Int.le_refl (1 - 1))) (by decide)⟩⟩)
  · have := walks_lt (Walks.range (prog := prog) (w := w) h' s.heap.objs.size a 1 (b - a).toNat)
    refine (show (rangeD a b).length = (b - a).toNat by simp [rangeD]).symm ▸ ?_; exact this
  · skip
    (refine (Heap.get?_push_size _ rfl).trans ?_; rw [e])
    simp
  · intro i h e b hb
    simp at hb; subst hb
    exact ⟨_, e⟩
  · intro b hb
    simp at hb; subst hb
    exact hA.live.new
  · intro b hb; simp at hb; subst hb; exact new_none s
  · rintro i v ⟨hi, t, rfl⟩
    refine ⟨.int (a + i), ?_, by rw [Int.mul_one]; exact of_int⟩
    unfold rangeD at hi ⊢
    simp only [List.length_map, List.length_range] at hi
    (refine (List.getElem?_map).trans ?_; rw [List.getElem?_range hi]); rfl
end
end Mine
namespace Mine
open PySem PySem.W PySem.Calls PyProof.Rows PySem.Spec

theorem preSum_take (ns : List Int) : ∀ i, i ≤ ns.length → preSum (fun j => ns.getD j 0) i = (ns.take i).sum := KBmo.pre_take ns
section
variable {prog : Program} {w : World} {base : Heap} {k : Nat}

theorem fn_len_list {ds : List D} (hl : ds.length ≤ sizeLine) : Fn prog w base k (fun vs => call (.builtin "len") vs) [.list ds] (.int ds.length) := .mk fun A O s vs hA hr => by
  obtain ⟨v, rfl, hv⟩ := RepL.inv1 hr
  obtain ⟨a, us, n, rfl, ha, hL⟩ := rep_list hv
  have e := hL.length
  refine len_list ⟨_, fz_heap _ _ ha, rfl, n, rfl⟩ (by rw [List.size_toArray]; simp only [sizeLine_eq] at hl; omega) ⟨Step.toks s _, ?_⟩
  simp only [List.size_toArray, e]; exact of_int
theorem fn_len_tup {ds : List D} (hl : ds.length ≤ sizeLine) : Fn prog w base k (fun vs => call (.builtin "len") vs) [.tup ds] (.int ds.length) := .mk fun A O s vs hA hr => by
  obtain ⟨v, rfl, hv⟩ := RepL.inv1 hr
  obtain ⟨a, us, n, rfl, ha, hL⟩ := rep_tup hv
  have e := hL.length
  refine P.len_tuple (fz_heap _ _ ha) (by simp only [List.size_toArray, e]; simp only [sizeLine_eq] at hl; (lia)) ⟨Step.toks s _, ?_⟩
  simp only [List.size_toArray, e]; exact of_int
theorem fn_range1 {n : Int} : Fn prog w base k (fun vs => call (.type "range") vs) [.int n] (.range 0 n) := .mk fun A O s vs hA hr => by
  obtain ⟨v, rfl, hv⟩ := RepL.inv1 hr
  obtain ⟨t, rfl⟩ := rep_int hv
  refine call_range_1 ⟨Step.of (push_sub _ _), ?_⟩
  exact ⟨_, _, _, _, rfl, fz_push hA.live _ rfl⟩
theorem fn_range2 {a b : Int} : Fn prog w base k (fun vs => call (.type "range") vs) [.int a, .int b] (.range a b) := .mk fun A O s vs hA hr => by
  obtain ⟨v, v', rfl, hv, hv'⟩ := RepL.inv2 hr
  obtain ⟨t, rfl⟩ := rep_int hv; obtain ⟨u, rfl⟩ := rep_int hv'
  refine call_range_2 ⟨Step.of (push_sub _ _), ?_⟩
  exact ⟨_, _, _, _, rfl, fz_push hA.live _ rfl⟩
theorem At.in1 {A : Around} {O : List Addr} {s : Shared} (h : At base (k + 1) A O s) : At base k A.in1 O s := ⟨h.room.in1, h.bare, h.base, h.live⟩
theorem step_walk {s s₂ : Shared} (st : Step s s₂) {wr : List Addr} {h' : Heap} {tk : Nat} (hw : ∀ b ∈ wr, s.heap.get? b = Option.none) (hk : ∀ b o, b ∉ wr → s₂.heap.get? b = some o → h'.get? b = some o) :
    Step s { s₂ with heap := h', toks := tk } := by
  refine ⟨fun b o e => hk b o (fun hb => ?_) (st.heap _ _ e), st.gens, st.bare, st.drawn, st.os⟩
  exact nos (hw b hb) e
theorem fn_sum {d : D} {ns : List Int} (hi : Iter prog w base k d (ns.map D.int)) : Fn prog w base (k + 1) (fun vs => call (.builtin "sum") vs) [d] (.int ns.sum) := .mk fun A O s vs hA hr => by
  obtain ⟨v, rfl, hv⟩ := RepL.inv1 hr
  refine call_sum_walkG (WP.mono (hi.run A.in1 O s v hA.in1 hv) fun it s₂ ⟨st, I, fp, wr, P, St, e, W, hst, hlive, hfp, hwr, hP⟩ => ?_)
  refine ⟨I, fp, wr, _, P, St, fun j => ns.getD j 0, e, W _ hA.room.1, hst, fun b hb => let ⟨_, ho⟩ := hlive _ _ hst b hb; Heap.lt_size ho, fun i v hv => ?_, fun h' tk t' hk => ⟨step_walk st hwr hk, ?_⟩⟩
  · obtain ⟨d', hd, hr⟩ := hP i v hv
    rw [List.getElem?_map] at hd
    cases hn : ns[i]? with
    | none => rw [hn] at hd; cases hd
    | some n =>
      rw [hn] at hd; cases hd
      show ∃ t, v = Value.int (ns.getD i 0) t
      rw [show ns.getD i 0 = n by rw [List.getD_eq_getElem?_getD, hn]; rfl]
      exact rep_int hr
  · rw [List.length_map, preSum_take ns _ (Nat.le_refl _), List.take_length]
    exact of_int
theorem fn_max2 {a b : Int} : Fn prog w base k (fun vs => call (.builtin "max") vs) [.int a, .int b] (.int (max a b)) := .mk fun A O s vs hA hr => by
  obtain ⟨v, v', rfl, hv, hv'⟩ := RepL.inv2 hr
  obtain ⟨t, rfl⟩ := rep_int hv; obtain ⟨u, rfl⟩ := rep_int hv'
  refine max_two_ints hA.room.1 fun h' tk hk => ⟨Step.of hk, ?_⟩
  by_cases h : b > a
  · rw [if_pos h, Int.max_eq_right (by (lia))]; exact of_int
  · rw [if_neg h, Int.max_eq_left (by (exact Int.not_lt.mp h))]; exact of_int
theorem fn_tuple_list {ds : List D} (hl : ds.length ≤ sizeLine) : Fn prog w base k (fun vs => call (.type "tuple") vs) [.list ds] (.tup ds) := .mk fun A O s vs hA hr => by
  obtain ⟨v, rfl, hv⟩ := RepL.inv1 hr
  obtain ⟨a, us, n, rfl, ha, hL⟩ := rep_list hv
  have e := hL.length
  refine call_tuple_list ⟨_, fz_heap _ _ ha, rfl, n, rfl⟩ (fun h' hk => ?_) (by simp only [List.size_toArray, e]; exact hl)
  have st : Step s { s with heap := h'.push { cls := Value.type "tuple", data := Data.seq us.toArray }, toks := s.toks } := Step.of fun b o e => Heap.get?_push_of_some _ (hk b o e)
  refine ⟨st, of_tup (n := 0) ?_ (hL.mono (st.fz O))⟩
  refine fz_some.mpr ⟨fun hm => ?_, Heap.get?_push_size _ rfl⟩
  obtain ⟨o, ho⟩ := hA.live _ hm
  exact absurd (Heap.lt_size (hk _ _ ho)) (Nat.lt_irrefl _)
theorem fn_abs {a : Int} : Fn prog w base k (fun vs => call (.builtin "abs") vs) [.int a] (.int (a.natAbs : Int)) := .mk fun A O s vs hA hr => by
  obtain ⟨v, rfl, hv⟩ := RepL.inv1 hr
  obtain ⟨t, rfl⟩ := rep_int hv
  refine call_abs_int fun u tk => ⟨Step.toks s _, ?_⟩
  rw [show (if a < 0 then -a else a) = (a.natAbs : Int) by split <;> (first | exact (Int.ofNat_natAbs_of_nonpos (Int.le_of_lt (by assumption))).symm | exact Int.eq_natAbs_of_nonneg (Int.not_lt.mp (by assumption)))]
  exact of_int
theorem fn_int {a : Int} : Fn prog w base k (fun vs => call (.type "int") vs) [.int a] (.int a) := .mk fun A O s vs hA hr => by
  obtain ⟨v, rfl, hv⟩ := RepL.inv1 hr
  obtain ⟨t, rfl⟩ := rep_int hv
  exact call_int_int ⟨Step.refl s, of_int⟩
theorem fn_divmod {a b : Int} (hb : b ≠ 0) (hs : b.natAbs < 1073741824) : Fn prog w base k (fun vs => call (.builtin "divmod") vs) [.int a, .int b] (.tup [.int (a.fdiv b), .int (a.fmod b)]) := .mk fun A O s vs hA hr => by
  obtain ⟨v, v', rfl, hv, hv'⟩ := RepL.inv2 hr
  obtain ⟨t, rfl⟩ := rep_int hv; obtain ⟨u, rfl⟩ := rep_int hv'
  refine divmod_int hb ⟨Step.of (push_sub _ _), ?_⟩ (.inl (PyProof.noPylong_small hs))
  exact of_tup (vs := [_, _]) (fz_push hA.live _ rfl) (.cons of_int (.one of_int))
theorem fn_hex {a : Int} (hl : (PySem.baseText "0x" 16 a).length ≤ sizeLine) : Fn prog w base k (fun vs => call (.builtin "hex") vs) [.int a] (.str (PySem.baseText "0x" 16 a)) := .mk fun A O s vs hA hr => by
  obtain ⟨v, rfl, hv⟩ := RepL.inv1 hr
  obtain ⟨t, rfl⟩ := rep_int hv
  exact P.hex_of_int ⟨Step.toks s _, of_str⟩ hl
theorem strs_values {g : View} : ∀ {xs : List Str} {vs : List Value}, RepL g (xs.map D.str) vs → ∃ l : List (Str × Tok), strValues l = vs ∧ l.map (·.1) = xs := by
  intro vq
  induction vq with
  | nil =>
    intro vs h
    skip; subst h; exact ⟨[], rfl, rfl⟩
  | cons x xs ihq =>
    intro vs h
    skip
    obtain ⟨v, r, rfl, hv, hr⟩ := h
    obtain ⟨t, rfl⟩ := rep_str hv
    obtain ⟨l, e1, e2⟩ := ihq hr
    exact ⟨(x, t) :: l, by refine ( e1) ▸ ?_; rfl, by refine ( e2) ▸ ?_; rfl⟩
theorem fn_join {x : Str} {xs : List Str} (hj : JoinOk x xs = true) : Fn prog w base k (fun vs => call (.builtin "str.join") vs) [.str x, .list (xs.map D.str)] (.str (Txt.join x xs)) := .mk fun A O s vs hA hr => by
  obtain ⟨v, v', rfl, hv, hv'⟩ := RepL.inv2 hr
  obtain ⟨t, rfl⟩ := rep_str hv
  obtain ⟨a, us, n, rfl, ha, hL⟩ := rep_list hv'
  obtain ⟨l, e1, e2⟩ := strs_values hL
  subst e1
  exact SC.join ⟨_, fz_heap _ _ ha, rfl, n, rfl⟩ e2 hj fun t' tk => ⟨Step.toks s _, of_str⟩

-- items and slices
theorem op_item_list {ds : List D} {i : Int} {d : D} (h0 : 0 ≤ i) (h1 : i < 2 ^ 40) (hd : ds[i.toNat]? = some d) : Op2 prog w base k getItem (.list ds) (.int i) d := .mk fun A O s x y hA h₁ h₂ => by
  obtain ⟨a, us, n, rfl, ha, hL⟩ := rep_list h₁; obtain ⟨u, rfl⟩ := rep_int h₂
  obtain ⟨v, hv, hr⟩ := hL.get hd
  exact wpAny_getItem_list ⟨_, fz_heap _ _ ha, rfl, n, rfl⟩ h0 (by (exact Int.lt_trans h1 (by decide))) (by simpa using hv) ⟨Step.refl s, hr⟩
theorem op_item_tup {ds : List D} {i : Int} {d : D} (h0 : 0 ≤ i) (h1 : i < 2 ^ 40) (hd : ds[i.toNat]? = some d) : Op2 prog w base k getItem (.tup ds) (.int i) d := .mk fun A O s x y hA h₁ h₂ => by
  obtain ⟨a, us, n, rfl, ha, hL⟩ := rep_tup h₁; obtain ⟨u, rfl⟩ := rep_int h₂
  obtain ⟨v, hv, hr⟩ := hL.get hd
  have hlt := (List.getElem?_eq_some_iff.mp hv).1
  exact P.getItem_tuple (fz_heap _ _ ha) (by (lia)) (by (exact Int.lt_trans h1 (by decide))) (seqIndex_of h0 (by refine (List.size_toArray) ▸ ?_; (exact (Int.toNat_lt h0).mp hlt))) (by simpa using hv) ⟨Step.refl s, hr⟩
theorem op_item_str {x : Str} {i : Int} {c : Nat} (h0 : 0 ≤ i) (h1 : i < 2 ^ 40) (hd : x.cps.toList[i.toNat]? = some c) : Op2 prog w base k getItem (.str x) (.int i) (sgn c) := .mk fun A O s a y hA h₁ h₂ => by
  obtain ⟨t, rfl⟩ := rep_str h₁; obtain ⟨u, rfl⟩ := rep_int h₂
  have hc : x.cps[i.toNat]? = some c := by refine ( Array.getElem?_toList).symm.trans ?_; exact hd
  have hlt : i.toNat < x.cps.size := (Array.getElem?_eq_some_iff.mp hc).1
  refine getItem_str (by skip; (lia)) (c := c) ?_ ⟨Step.toks s _, of_str⟩
  refine (seqIndex_of h0 (by show i < (x.cps.size : Int); (exact (Int.toNat_lt h0).mp hlt))) ▸ ?_
  exact hc
theorem subTail {A : Around} {s : Shared} {value slice : Expr} {o i : Value} {T id : String} {ops : List Value} {Q : Value → Shared → Prop} {E : Value → Shared → Prop} (hT : s.TypeIs o T) (hl : typeLookup (.type T) "__getitem__" = pure (some (.builtin id)))
    (hs : subscripted slice false o i = operate ops (getItem o i)) (h : wpAny (model prog w) A (getItem o i) Q E s) : wpAny (model prog w) A (subscriptTail value slice o i) Q E s := by
  skip
  refine wpAny_bind ?_
  skip
  refine wpAny_bind (wpAny_specialOf hT hl (wpAny_pure ?_))
  refine (hs) ▸ ?_
  refine wpAny_bind (wpAny_operating (wpAny_mono h (fun r s' hr => ?_) fun _ _ e => e))
  exact wpAny_bind (wpAny_letTemporaryGo (wpAny_pure hr))
end

noncomputable def Itemed (T : String) : Prop := ∃ id, typeLookup (.type T) "__getitem__" = pure (some (.builtin id))
theorem itemed_list : Itemed "list" := ⟨_, slot_list_getitem.lookup⟩
theorem itemed_str : Itemed "str" := ⟨_, F.slot_str_getitem.lookup⟩
theorem itemed_tup : Itemed "tuple" := ⟨_, F.slot_tuple_getitem.lookup⟩
theorem itemed_bytes : Itemed "bytes" := ⟨_, FB.slot_bytes_getitem.lookup⟩
theorem typed_tup {x : List D} : Typed "tuple" (.tup x) := fun O s v h => by obtain ⟨a, vs, n, rfl, ha, _⟩ := rep_tup h; exact ⟨⟨_, fz_heap _ _ ha, rfl⟩, fun b e => by cases e; exact ⟨_, fz_heap _ _ ha, rfl⟩⟩
theorem typed_bytes {x : Array UInt8} : Typed "bytes" (.bytes x) := fun O s v h => by obtain ⟨t, rfl⟩ := rep_bytes h; exact ⟨typeIs_bytes s x t, fun a e => by cases e⟩
noncomputable def TypeAt (T : String) (d : D) : Prop := ∀ (O : List Addr) (s : Shared) (v : Value), Rep (fz O s.heap) d v → s.TypeIs v T
theorem Typed.at {T : String} {d : D} (h : Typed T d) : TypeAt T d := fun O s v r => (h O s v r).1
theorem typeAt_arg {x : List D} : TypeAt "list" (.arg x) := fun O s v h => by obtain ⟨a, o, vs, n, rfl, ha, hc, _⟩ := h; exact ⟨_, fz_heap _ _ ha, hc⟩

section
variable {prog : Program} {w : World} {base : Heap} {k : Nat} {env : Env} {ρ : List (Str × D)}
theorem ev_item {value slice : Expr} {pos : Pos} {d₁ d₂ d : D} {T : String} (h₁ : Ev prog w base k env ρ value d₁) (h₂ : Ev prog w base k env ρ slice d₂) (hT : TypeAt T d₁) (hI : Itemed T) (ho : Op2 prog w base k getItem d₁ d₂ d)
    (hs : ∀ o i, subscripted slice false o i = operate [o, i] (getItem o i) := by intro _ _; rfl) : Ev prog w base k env ρ (.Subscript value slice pos) d := .mk fun A O s hA hE => by
  obtain ⟨id, hl⟩ := hI
  refine Subscript_ (WP.mono (h₁.run A O s hA hE) fun a s₁ ⟨st₁, r₁⟩ => ?_)
  refine WP.mono (h₂.run A O s₁ (hA.step st₁) (hE.step st₁)) fun b s₂ ⟨st₂, r₂⟩ => ?_
  have r₁' := r₁.mono (st₂.fz O)
  refine subTail (hT O s₂ a r₁') hl (hs a b) ?_
  exact WP.mono (ho.run A O s₂ a b (hA.step (st₁.trans st₂)) r₁' r₂) fun v s₃ ⟨st₃, r₃⟩ => ⟨(st₁.trans st₂).trans st₃, r₃⟩

structure Part (prog : Program) (w : World) (base : Heap) (k : Nat) (env : Env) (ρ : List (Str × D)) (e : Option Expr) (p : Option Int) : Prop where
  run : ∀ A O s, At base k A O s → EnvOk base env ρ O s.heap → WP prog w A (valueOrNone (evalOpt e env)) (fun v s' => Step s s' ∧ IsPart v p) s
theorem part_none : Part prog w base k env ρ Option.none Option.none := .mk fun A O s hA hE => by
  skip
  exact wpAny_pure ⟨Step.refl s, .none⟩
theorem part_some {e : Expr} {i : Int} (h : Ev prog w base k env ρ e (.int i)) : Part prog w base k env ρ (some e) (some i) := .mk fun A O s hA hE => by
  skip
  refine WP.mono (h.run A O s hA hE) fun v s₁ ⟨st₁, r₁⟩ => ⟨st₁, ?_⟩
  obtain ⟨t, rfl⟩ := rep_int r₁
  exact .int i t
structure Cut (prog : Program) (w : World) (base : Heap) (k : Nat) (lo hi st : Option Int) (d₁ d : D) : Prop where
  run : ∀ A O s a p vl vu vs, At base k A O s → Rep (fz O s.heap) d₁ a → s.heap.IsSliceOf p vl vu vs → IsPart vl lo → IsPart vu hi → IsPart vs st → WP prog w A (getItem a (.ref p)) (fun v s' => Step s s' ∧ Rep (fz O s'.heap) d v) s
theorem ev_cut {value : Expr} {lower upper step : Option Expr} {p pos : Pos} {lo hi sp : Option Int} {d₁ d : D} {T : String} (h₁ : Ev prog w base k env ρ value d₁) (hl : Part prog w base k env ρ lower lo) (hu : Part prog w base k env ρ upper hi)
    (hp : Part prog w base k env ρ step sp) (hT : TypeAt T d₁) (hI : Itemed T) (ho : Cut prog w base k lo hi sp d₁ d) {f : Value → Value → List Value}
    (hs : ∀ o i, subscripted (.Slice lower upper step p) false o i = operate (f o i) (getItem o i) := by intro _ _; rfl) : Ev prog w base k env ρ (.Subscript value (.Slice lower upper step p) pos) d := .mk fun A O s hA hE => by
  obtain ⟨id, hl'⟩ := hI
  refine Subscript_ (WP.mono (h₁.run A O s hA hE) fun a s₁ ⟨st₁, r₁⟩ => ?_)
  show wpAny (model prog w) A (do
    let l ← valueOrNone (evalOpt lower env)
    let u ← holding [l] (valueOrNone (evalOpt upper env))
    let s ← holding [l, u] (valueOrNone (evalOpt step env))
    newFields "slice" [l, u, s]) _ _ s₁
  refine wpAny_bind (WP.mono (hl.run A O s₁ (hA.step st₁) (hE.step st₁)) fun vl s₂ ⟨st₂, p₂⟩ => ?_)
  have st₂' := st₁.trans st₂
  refine wpAny_bind (wpAny_holding (WP.mono (hu.run A O s₂ (hA.step st₂') (hE.step st₂')) fun vu s₃ ⟨st₃, p₃⟩ => ?_))
  have st₃' := st₂'.trans st₃
  refine wpAny_bind (wpAny_holding (WP.mono (hp.run A O s₃ (hA.step st₃') (hE.step st₃')) fun vs s₄ ⟨st₄, p₄⟩ => ?_))
  have st₄' := st₃'.trans st₄
  skip
  refine wpAny_newObj_type ?_ (by size_fits)
  have st₅ : Step s₄ { s₄ with heap := s₄.heap.push { cls := .type "slice", dict := Option.none, data := .fields [vl, vu, vs].toArray } } := Step.of (tk := s₄.toks) (push_sub _ _)
  have r₁' := r₁.mono ((((st₂.trans st₃).trans st₄).trans st₅).fz O)
  refine subTail (hT O _ a r₁') hl' (hs a _) ?_
  refine WP.mono (ho.run A O _ a _ vl vu vs (hA.step (st₄'.trans st₅)) r₁' (Heap.IsSliceOf.new _ _ _ _) p₂ p₃ p₄) fun v s₆ ⟨st₆, r₆⟩ => ⟨(st₄'.trans st₅).trans st₆, r₆⟩
end
end Mine
namespace Mine
open PySem PySem.W PySem.Calls PyProof.Rows PySem.Spec

structure Sg where
  ρ : List (Str × D)
  lst : Option (Str × List D) := Option.none
  obj : Option (Str × (Addr × Addr) × List Str × List D) := Option.none

noncomputable def Sg.all (σ : Sg) : List (Str × D) :=
  match σ.lst, σ.obj with
  | Option.none, Option.none => σ.ρ
  | some (x, ds), Option.none => (x, .list ds) :: σ.ρ
  | Option.none, some (y, C, ns, es) => (y, .inst C.1 ns es) :: σ.ρ
  | some (x, ds), some (y, C, ns, es) => (x, .list ds) :: (y, .inst C.1 ns es) :: σ.ρ
noncomputable def offB {α : Type} (x : Str) : Option (Str × α) → Bool
  | Option.none => true
  | some p => !(p.1 == x)
theorem offB_ne {α : Type} {x y : Str} {z : α} {o : Option (Str × α)} (h : offB x o = true) (e : o = some (y, z)) : y ≠ x := by
  subst e
  intro e'; subst e'
  simp [offB] at h

noncomputable abbrev listObj (vs : List Value) (n : Nat) : Obj := { cls := Value.type "list", dict := Option.none, data := Data.seq (List.toArray vs) n, slots := #[] }

inductive LstAt (env : Env) (O W : List Addr) (h : Heap) (x : Str) (ds : List D) : Prop
  | mk (a : Addr) (vs : List Value) (n : Nat) (h1 : VarIs env h x (.ref a)) (h2 : a ∈ W) (h3 : h.get? a = some (listObj vs n)) (h4 : RepL (fz (W ++ O) h) ds vs)
inductive ObjAt (env : Env) (O W : List Addr) (h : Heap) (x : Str) (C : Addr × Addr) (ns : List Str) (ds : List D) : Prop
  | mk (a d : Addr) (es : List DictEntry) (n : Nat) (h1 : VarIs env h x (.ref a)) (h2 : a ∈ W ∧ a = C.2) (h3 : d ∈ W) (h4 : d ≠ env.locals) (h5 : a ≠ env.locals) (h6 : h.get? a = some (instObj C.1 d)) (h7 : h.get? d = some (dictOf es n)) (h8 : es.map keyName = ns.map some) (h9 : RepL (fz (W ++ O) h) ds (es.map (·.val)))
structure FsOk (base : Heap) (env : Env) (σ : Sg) (O W : List Addr) (h : Heap) : Prop where
  loc : env.locals ∈ W
  apart : ∀ b ∈ W, b ∉ O
  ns : ∃ m, h.Ns env.locals m
  cells : ∀ x c, env.cells.lookup x = some c → c ∈ W ∧ ∃ v, h.IsCell c v
  inj : ∀ x y c, env.cells.lookup x = some c → env.cells.lookup y = some c → x = y
  vars : ∀ x d, σ.ρ.lookup x = some d → ∃ v, VarIs env h x v ∧ Rep (fz (W ++ O) h) d v
  lst : ∀ x ds, σ.lst = some (x, ds) → LstAt env O W h x ds
  obj : ∀ x C ns ds, σ.obj = some (x, C, ns, ds) → ObjAt env O W h x C ns ds

structure Chg (W : List Addr) (s s' : Shared) : Prop where
  heap : ∀ b o, b ∉ W → s.heap.get? b = some o → s'.heap.get? b = some o
  gens : ∀ (i : Nat) (x : GenState), s.gens[i]? = some x → s'.gens[i]? = some x
  bare : AllBare s.gens → AllBare s'.gens
  drawn : s'.drawn = s.drawn
  os : s'.os = s.os
noncomputable def New (W W' : List Addr) (s : Shared) : Prop := ∀ b ∈ W', b ∈ W ∨ s.heap.get? b = Option.none
theorem New.refl (W : List Addr) (s : Shared) : New W W s := fun b hb => .inl hb
theorem Chg.refl (W : List Addr) (s : Shared) : Chg W s s := ⟨fun _ _ _ e => e, fun _ _ e => e, id, rfl, rfl⟩
theorem Chg.step {W : List Addr} {s s' : Shared} (x : Step s s') : Chg W s s' := ⟨fun b o _ e => x.heap b o e, x.gens, x.bare, x.drawn, x.os⟩
theorem Chg.trans {W W' : List Addr} {s s₁ s₂ : Shared} (x : Chg W s s₁) (n : New W W' s) (y : Chg W' s₁ s₂) : Chg W s s₂ :=
  ⟨fun b o hb e => y.heap b o (fun hb' => (n b hb').elim hb fun e' => by exact nos (e') e) (x.heap b o hb e), fun i g e => y.gens i g (x.gens i g e), fun h => y.bare (x.bare h), y.drawn.trans x.drawn, y.os.trans x.os⟩
theorem New.trans {W W' W'' : List Addr} {s s₁ : Shared} (n : New W W' s) (x : Chg W s s₁) (n' : New W' W'' s₁) : New W W'' s := fun b hb => by
  rcases n' b hb with h | h
  · exact n b h
  · by_cases hW : b ∈ W
    · exact .inl hW
    · refine .inr ?_
      cases e : s.heap.get? b with
      | none => rfl
      | some o => replace h := (x.heap b o hW e) ▸ h; cases h

inductive Out where
  | next (σ : Sg)
  | brk (σ : Sg)
  | ret (d : D)

inductive Good (base : Heap) (env : Env) (σ : Sg) (O W : List Addr) (s s' : Shared) : Prop
  | mk (W' : List Addr) (n : New W W' s) (c : Chg W s s') (l : Live (W' ++ O) s'.heap) (F : FsOk base env σ O W' s'.heap)
noncomputable def Post (base : Heap) (env : Env) (O W : List Addr) (s : Shared) : Out → Flow → Shared → Prop
  | .next σ, f, s' => f = .next ∧ Good base env σ O W s s'
  | .brk σ, f, s' => f = .brk ∧ Good base env σ O W s s'
  | .ret d, f, s' => ∃ v, f = .ret v ∧ Chg W s s' ∧ Rep (fz O s'.heap) d v

structure Bd (prog : Program) (w : World) (base : Heap) (k : Nat) (env : Env) (t : Sem Flow) (σ : Sg) (o : Out) : Prop where
  run : ∀ A O W s, At base k A (W ++ O) s → FsOk base env σ O W s.heap → WP prog w A t (Post base env O W s o) s

section
variable {prog : Program} {w : World} {base : Heap} {k : Nat} {env : Env} {σ σ₁ σ₂ : Sg} {o : Out}

theorem Post.trans {O W W' : List Addr} {s s₁ s₂ : Shared} {f : Flow} (n : New W W' s) (c : Chg W s s₁) (h : Post base env O W' s₁ o f s₂) : Post base env O W s o f s₂ := by
  have g : ∀ {σ}, Good base env σ O W' s₁ s₂ → Good base env σ O W s s₂ := fun ⟨W'', a, b, l, d⟩ => ⟨W'', n.trans c a, c.trans n b, l, d⟩
  cases o with
  | next σ => exact ⟨h.1, g h.2⟩
  | brk σ => exact ⟨h.1, g h.2⟩
  | ret d => obtain ⟨v, e, b, r⟩ := h; exact ⟨v, e, c.trans n b, r⟩
theorem Post.step {O W : List Addr} {s s₁ s₂ : Shared} {f : Flow} (c : Step s s₁) (h : Post base env O W s₁ o f s₂) : Post base env O W s o f s₂ := h.trans (.refl _ _) (.step c)

theorem At.chg {A : Around} {O W W' : List Addr} {s s' : Shared} (h : At base k A (W ++ O) s) (n : New W W' s) (c : Chg W s s') (l : Live (W' ++ O) s'.heap) : At base k A (W' ++ O) s' := by
  refine ⟨h.room, c.bare h.bare, fun b o e => ?_, l⟩
  obtain ⟨h1, h2⟩ := fz_some.mp (h.base b o e)
  replace h1 := not_app h1
  refine fz_some.mpr ⟨?_, c.heap b o h1.1 h2⟩
  exact app_not ⟨fun hb => (n b hb).elim h1.1 (fun e' => by exact nos (e') h2), h1.2⟩

theorem FsOk.envOk {O W : List Addr} {h : Heap} (F : FsOk base env σ O W h) : EnvOk base env σ.ρ (W ++ O) h := ⟨List.mem_append_left _ F.loc, F.ns, fun y c e => let ⟨_, _, o, e', _⟩ := F.cells y c e; ⟨o, e'⟩, F.vars⟩

theorem FsOk.step {O W : List Addr} {s s' : Shared} (F : FsOk base env σ O W s.heap) (x : Step s s') : FsOk base env σ O W s'.heap where
  loc := F.loc
  apart := F.apart
  ns := let ⟨m, n⟩ := F.ns; ⟨m, n.keeps x.heap⟩
  cells := fun y c e => let ⟨a, v, b⟩ := F.cells y c e; ⟨a, v, IsCell.sub b x.heap⟩
  inj := F.inj
  vars := fun y d e => let ⟨v, a, b⟩ := F.vars y d e; ⟨v, a.sub x.heap, b.mono (x.fz _)⟩
  lst := fun y d e => let ⟨a, vs, n, h1, h2, h3, h4⟩ := F.lst y d e; ⟨a, vs, n, h1.sub x.heap, h2, x.heap _ _ h3, h4.mono (x.fz _)⟩
  obj := fun y C ns ds e => let ⟨a, d, es, n, h1, h2, h3, h4, h5, h6, h7, h8, h9⟩ := F.obj y C ns ds e; ⟨a, d, es, n, h1.sub x.heap, h2, h3, h4, h5, x.heap _ _ h6, x.heap _ _ h7, h8, h9.mono (x.fz _)⟩

theorem ns_ne {h : Heap} {a b : Addr} {m : Str → Option Value} {o : Obj} (n : h.Ns a m) (e : h.get? b = some o) (hd : ∀ es ep, o.data ≠ .dict es ep) : b ≠ a := fun q => by
  subst q
  obtain ⟨o', es, ep, e', d, _⟩ := n
  replace e' := (e) ▸ e'; cases e'
  exact hd _ _ d
theorem cell_ne {h : Heap} {a b : Addr} {v : Option Value} {o : Obj} (n : h.IsCell a v) (e : h.get? b = some o) (hd : ∀ v, o.data ≠ .cell v) : b ≠ a := fun q => by
  subst q
  obtain ⟨o', e', d⟩ := n
  replace e' := (e) ▸ e'; cases e'
  exact hd _ d

theorem FsOk.sees {O W : List Addr} {A : Around} {s : Shared} (F : FsOk base env σ O W s.heap) (hA : At base k A (W ++ O) s) : ∃ O', (∀ b ∈ O, b ∈ O') ∧ At base k A O' s ∧ EnvOk base env σ.all O' s.heap := by
  obtain ⟨ρ, lst, obj⟩ := σ
  have gen : ∀ P : List Addr, (∀ b ∈ P, b ∈ W ∧ b ≠ env.locals) → ∃ O', (∀ b ∈ O, b ∈ O') ∧ At base k A O' s ∧ EnvOk base env ρ O' s.heap ∧ (∀ b ∈ P, b ∉ O') ∧ Sub (fz (W ++ O) s.heap) (fz O' s.heap) := by
    intro P hP
    have hsub : ∀ b ∈ (W ++ O).filter (fun b => !P.contains b), b ∈ W ++ O := fun b hb => (List.mem_filter.mp hb).1
    have hz : Sub (fz (W ++ O) s.heap) (fz ((W ++ O).filter (fun b => !P.contains b)) s.heap) := fz_mono (fun b hb => .inl (hsub b hb)) fun b o _ e => e
    have hn : ∀ b ∈ P, b ∉ (W ++ O).filter (fun b => !P.contains b) := fun b hb h => by
      have := (List.mem_filter.mp h).2
      simp [hb] at this
    refine ⟨(W ++ O).filter (fun b => !P.contains b), fun b hb => List.mem_filter.mpr ⟨List.mem_append_right _ hb, ?_⟩, ⟨hA.room, hA.bare, hA.base.trans hz, fun b hb => hA.live b (hsub b hb)⟩, ⟨?_, F.ns, fun y c e => let ⟨_, _, o, e', _⟩ := F.cells y c e; ⟨o, e'⟩, fun x d e => ?_⟩, hn, hz⟩
    · cases hc : P.contains b with
      | false => rfl
      | true => exact absurd hb (F.apart b (hP b (by simpa using hc)).1)
    · refine List.mem_filter.mpr ⟨List.mem_append_left _ F.loc, ?_⟩
      cases hc : P.contains env.locals with
      | false => rfl
      | true => exact absurd rfl (hP _ (by simpa using hc)).2
    · obtain ⟨v, a, b⟩ := F.vars x d e
      exact ⟨v, a, b.mono hz⟩
  have addv : ∀ {ρ' : List (Str × D)} {O' : List Addr} {x : Str} {d : D}, EnvOk base env ρ' O' s.heap → (∃ v, VarIs env s.heap x v ∧ Rep (fz O' s.heap) d v) → EnvOk base env ((x, d) :: ρ') O' s.heap := fun {ρ' O' x d} E hv => by
    refine ⟨E.loc, E.ns, E.cl, fun y d' e => ?_⟩
    rw [List.lookup_cons] at e
    by_cases q : y = x
    · subst q; simp at e; subst e; exact hv
    · have : (y == x) = false := beq_eq_false_iff_ne.mpr q
      rw [this] at e
      exact E.vars y d' e
  obtain ⟨m, hns⟩ := F.ns
  have hl : ∀ x ds, lst = some (x, ds) → ∃ a vs n, VarIs env s.heap x (.ref a) ∧ (a ∈ W ∧ a ≠ env.locals) ∧ s.heap.get? a = some (listObj vs n) ∧ RepL (fz (W ++ O) s.heap) ds vs := fun x ds e => by
    obtain ⟨a, vs, n, h1, h2, h3, h4⟩ := F.lst x ds e
    exact ⟨a, vs, n, h1, ⟨h2, ns_ne hns h3 fun _ _ q => by cases q⟩, h3, h4⟩
  cases lst with
  | none =>
    cases obj with
    | none =>
      obtain ⟨O', h1, h2, h3, _⟩ := gen [] (by simp)
      exact ⟨O', h1, h2, h3⟩
    | some p =>
      obtain ⟨y, C, ns, es⟩ := p
      obtain ⟨a, d, es', n, h1, h2, h3, h4, h5, h6, h7, h8, h9⟩ := F.obj y C ns es rfl
      obtain ⟨O', g1, g2, g3, g4, g5⟩ := gen [a, d] (by intro b hb; simp at hb; rcases hb with rfl | rfl <;> first | exact ⟨h2.1, h5⟩ | exact ⟨h3, h4⟩)
      refine ⟨O', g1, g2, addv g3 ⟨_, h1, ?_⟩⟩
      skip
      exact ⟨a, d, es', n, rfl, fz_some.mpr ⟨g4 _ (by exact .head _), h6⟩, fz_some.mpr ⟨g4 _ (by simp), h7⟩, h8, h9.mono g5⟩
  | some q =>
    obtain ⟨x, ds⟩ := q
    obtain ⟨l, vs, n', l1, l2, l3, l4⟩ := hl x ds rfl
    cases obj with
    | none =>
      obtain ⟨O', g1, g2, g3, g4, g5⟩ := gen [l] (by intro b hb; simp at hb; subst hb; exact l2)
      exact ⟨O', g1, g2, addv g3 ⟨_, l1, of_list (fz_some.mpr ⟨g4 _ (by exact .head _), l3⟩) (l4.mono g5)⟩⟩
    | some p =>
      obtain ⟨y, C, ns, es⟩ := p
      obtain ⟨a, d, es', n, h1, h2, h3, h4, h5, h6, h7, h8, h9⟩ := F.obj y C ns es rfl
      obtain ⟨O', g1, g2, g3, g4, g5⟩ := gen [l, a, d] (by intro b hb; simp at hb; rcases hb with rfl | rfl | rfl <;> first | exact l2 | exact ⟨h2.1, h5⟩ | exact ⟨h3, h4⟩)
      refine ⟨O', g1, g2, addv (addv g3 ⟨_, h1, ?_⟩) ⟨_, l1, of_list (fz_some.mpr ⟨g4 _ (by exact .head _), l3⟩) (l4.mono g5)⟩⟩
      skip
      exact ⟨a, d, es', n, rfl, fz_some.mpr ⟨g4 _ (by exact .tail _ (.head _)), h6⟩, fz_some.mpr ⟨g4 _ (by simp), h7⟩, h8, h9.mono g5⟩

-- storing
noncomputable def Storable (env : Env) (x : Str) : Prop := env.kindOf x = some .local ∨ (env.kindOf x = some .cell ∧ ∃ c, env.cells.lookup x = some c)
structure Stored (env : Env) (x : Str) (v : Value) (W : List Addr) (s s' : Shared) : Prop where
  var : VarIs env s'.heap x v
  oth : ∀ y u, y ≠ x → VarIs env s.heap y u → VarIs env s'.heap y u
  keep : ∃ t ∈ W, (∀ b, b ≠ t → s'.heap.get? b = s.heap.get? b) ∧ ((t = env.locals) ∨ ∃ v, s.heap.IsCell t v)
  ns : ∃ m, s'.heap.Ns env.locals m
  cells : ∀ y c, env.cells.lookup y = some c → ∃ v, s'.heap.IsCell c v
  live : ∀ b o, s.heap.get? b = some o → ∃ o', s'.heap.get? b = some o'
  gens : s'.gens = s.gens
  drawn : s'.drawn = s.drawn
  os : s'.os = s.os
  size : s'.heap.objs.size = s.heap.objs.size
theorem Stored.chg {x : Str} {v : Value} {W : List Addr} {s s' : Shared} (h : Stored env x v W s s') : Chg W s s' := by
  obtain ⟨t, ht, hk, _⟩ := h.keep
  exact ⟨fun b o hb e => (hk b fun q => hb (q ▸ ht)).trans e, fun i x e => by refine (h.gens) ▸ ?_; exact e, fun hb => by simp only [h.gens]; exact hb, h.drawn, h.os⟩
theorem Stored.fz {x : Str} {v : Value} {W O : List Addr} {s s' : Shared} (h : Stored env x v W s s') : Sub (fz (W ++ O) s.heap) (fz (W ++ O) s'.heap) := by
  obtain ⟨t, ht, hk, _⟩ := h.keep
  exact fz_mono (fun b hb => .inl hb) fun b o hb e => (hk b fun q => hb (q ▸ List.mem_append_left _ ht)).trans e

theorem store_ok {O W : List Addr} {A : Around} {s : Shared} {E : Value → Shared → Prop} {Q : Unit → Shared → Prop} {x : Str} {v : Value} (F : FsOk base env σ O W s.heap) (hk : env.scope.kind = .function) (hs : Storable env x)
    (h : ∀ s', Stored env x v W s s' → Q () s') : wpAny (model prog w) A (storeName env x v) Q E s := by
  obtain ⟨m, hns⟩ := F.ns
  have cells_ne : ∀ y c, env.cells.lookup y = some c → c ≠ env.locals := fun y c e => by
    obtain ⟨_, v, o, e', d⟩ := F.cells y c e
    exact ns_ne hns e' fun _ _ q => by replace q := (d) ▸ q; cases q
  rcases hs with hl | ⟨hl, c, hc⟩
  · refine wpAny_storeName_local hl hns (fun h' hn hb => h _ ⟨.inl ⟨hl, _, hn, by exact if_pos rfl⟩, fun y u hy hv => ?_, ⟨_, F.loc, hb.2, .inl rfl⟩, ⟨_, hn⟩, fun y c e => ?_, fun b o e => ?_, rfl, rfl, rfl, hb.1⟩) (by refine (hk) ▸ ?_; rfl)
    · rcases hv with ⟨a, m', n', e⟩ | ⟨c, a, b, e⟩
      · refine .inl ⟨a, _, hn, ?_⟩
        have : m y = some u := by
          obtain ⟨o, es, ep, e1, e2, _, e3⟩ := hns
          obtain ⟨o', es', ep', e1', e2', _, e3'⟩ := n'
          replace e1' := (e1) ▸ e1'; cases e1'
          replace e2' := (e2) ▸ e2'; cases e2'
          simp only [← e3, e3', e]
        simp [hy, this]
      · exact .inr ⟨c, a, b, e.sameBut hb (cells_ne y c b)⟩
    · obtain ⟨_, v, e'⟩ := F.cells y c e
      exact ⟨v, e'.sameBut hb (cells_ne y c e)⟩
    · by_cases q : b = env.locals
      · subst q; obtain ⟨o, _, _, e, _⟩ := hn; exact ⟨o, e⟩
      · exact ⟨o, (hb.2 b q).trans e⟩
  · obtain ⟨hcW, v₀, hcell⟩ := F.cells x c hc
    refine wpAny_storeName_cell hk hl hc hcell fun h' hn hb => h _ ⟨.inr ⟨c, hl, hc, hn⟩, fun y u hy hv => ?_, ⟨c, hcW, hb.2, .inr ⟨_, hcell⟩⟩, ⟨m, hns.sameBut hb (Ne.symm (cells_ne x c hc))⟩, fun y c' e => ?_, fun b o e => ?_, rfl, rfl, rfl, hb.1⟩
    · rcases hv with ⟨a, m', n', e⟩ | ⟨c', a, b, e⟩
      · exact .inl ⟨a, m', n'.sameBut hb (Ne.symm (cells_ne x c hc)), e⟩
      · refine .inr ⟨c', a, b, e.sameBut hb fun q => hy ?_⟩
        subst q; exact F.inj y x _ b hc
    · by_cases q : c' = c
      · subst q; exact ⟨_, hn⟩
      · obtain ⟨_, v, e'⟩ := F.cells y c' e
        exact ⟨v, e'.sameBut hb q⟩
    · by_cases q : b = c
      · subst q; obtain ⟨o, e, _⟩ := hn; exact ⟨o, e⟩
      · exact ⟨o, (hb.2 b q).trans e⟩

theorem Stored.live' {x : Str} {v : Value} {W O : List Addr} {s s' : Shared} (h : Stored env x v W s s') (l : Live (W ++ O) s.heap) : Live (W ++ O) s'.heap := fun a ha => let ⟨o, e⟩ := l a ha; h.live a o e

theorem FsOk.kept {O W : List Addr} {s s' : Shared} {x : Str} {v : Value} {ρ : List (Str × D)} {lst : Option (Str × List D)} {obj : Option (Str × (Addr × Addr) × List Str × List D)} (F : FsOk base env σ O W s.heap) (h : Stored env x v W s s')
    (hρ : ∀ y d, ρ.lookup y = some d → (y = x ∧ Rep (fz (W ++ O) s'.heap) d v) ∨ (y ≠ x ∧ σ.ρ.lookup y = some d))
    (hl : ∀ y ds, lst = some (y, ds) → (y = x ∧ ∃ a vs n, v = .ref a ∧ a ∈ W ∧ s'.heap.get? a = some (listObj vs n) ∧ RepL (fz (W ++ O) s'.heap) ds vs) ∨ (y ≠ x ∧ σ.lst = some (y, ds)))
    (ho : ∀ y z, obj = some (y, z) → y ≠ x ∧ σ.obj = some (y, z)) : FsOk base env ⟨ρ, lst, obj⟩ O W s'.heap where
  loc := F.loc
  apart := F.apart
  ns := h.ns
  cells := fun y c e => ⟨(F.cells y c e).1, h.cells y c e⟩
  inj := F.inj
  vars := fun y d e => by
    rcases hρ y d e with ⟨rfl, r⟩ | ⟨hy, e'⟩
    · exact ⟨v, h.var, r⟩
    · obtain ⟨u, a, b⟩ := F.vars y d e'
      exact ⟨u, h.oth y u hy a, b.mono h.fz⟩
  lst := fun y ds e => by
    rcases hl y ds e with ⟨rfl, a, vs, n, rfl, r⟩ | ⟨hy, e'⟩
    · exact ⟨a, vs, n, h.var, r.1, r.2.1, r.2.2⟩
    · obtain ⟨a, vs, n, h1, h2, h3, h4⟩ := F.lst y ds e'
      refine ⟨a, vs, n, h.oth y _ hy h1, h2, ?_, h4.mono h.fz⟩
      obtain ⟨t, ht, hk, hm⟩ := h.keep
      refine (hk a ?_).trans h3
      rcases hm with rfl | ⟨v', hm⟩
      · obtain ⟨m, hns⟩ := F.ns; exact ns_ne hns h3 fun _ _ q => by cases q
      · exact cell_ne hm h3 fun _ q => by cases q
  obj := fun y C ns ds e => by
    obtain ⟨hy, e'⟩ := ho y _ e
    obtain ⟨a, d, es, n, h1, h2, h3, h4, h5, h6, h7, h8, h9⟩ := F.obj y C ns ds e'
    obtain ⟨t, ht, hk, hm⟩ := h.keep
    refine ⟨a, d, es, n, h.oth y _ hy h1, h2, h3, h4, h5, (hk a ?_).trans h6, (hk d ?_).trans h7, h8, h9.mono h.fz⟩
    · rcases hm with rfl | ⟨v', hm⟩
      · exact h5
      · exact cell_ne hm h6 fun _ q => by cases q
    · rcases hm with rfl | ⟨v', hm⟩
      · exact h4
      · exact cell_ne hm h7 fun _ q => by cases q
theorem FsOk.put {O W : List Addr} {s s' : Shared} {x : Str} {v : Value} {d : D} (F : FsOk base env σ O W s.heap) (h : Stored env x v W s s') (hr : Rep (fz (W ++ O) s.heap) d v) (h1 : offB x σ.lst = true) (h2 : offB x σ.obj = true) :
    FsOk base env ⟨(x, d) :: σ.ρ, σ.lst, σ.obj⟩ O W s'.heap := by
  refine F.kept h (fun y d' e => ?_) (fun y ds e => .inr ⟨offB_ne h1 e, e⟩) fun y z e => ⟨offB_ne h2 e, e⟩
  rw [List.lookup_cons] at e
  by_cases q : y = x
  · subst q; simp at e; subst e; exact .inl ⟨rfl, hr.mono h.fz⟩
  · have : (y == x) = false := beq_eq_false_iff_ne.mpr q
    replace e := (this) ▸ e
    exact .inr ⟨q, e⟩
noncomputable def dropN (x : Str) (ρ : List (Str × D)) : List (Str × D) := ρ.filter fun p => !(p.1 == x)
theorem lookup_dropN {x y : Str} {d : D} : ∀ {ρ : List (Str × D)}, (dropN x ρ).lookup y = some d → y ≠ x ∧ ρ.lookup y = some d := by
  intro vq
  induction vq with
  | nil =>
    intro e
    cases e
  | cons pq ρ ihq =>
    obtain ⟨z, d'⟩ := pq
    intro e
    unfold dropN at e
    rw [List.filter_cons] at e
    by_cases q : z = x
    · subst q
      simp only [beq_self_eq_true, Bool.not_true, Bool.false_eq_true, if_false] at e
      obtain ⟨h1, h2⟩ := ihq e
      refine ⟨h1, ?_⟩
      simp only [List.lookup_cons, beq_eq_false_iff_ne.mpr h1]; exact h2
    · skip
      simp only [(beq_eq_false_iff_ne.mpr q : (z == x) = false), Bool.not_false, if_true] at e
      rw [List.lookup_cons] at e ⊢
      by_cases q' : y = z
      · subst q'; simp at e ⊢; exact ⟨q, e⟩
      · skip
        rw [(beq_eq_false_iff_ne.mpr q' : (y == z) = false)] at e ⊢
        exact ihq e
theorem FsOk.putList {O W : List Addr} {s s' : Shared} {x : Str} {a : Addr} {vs : List Value} {n : Nat} {ds : List D} (F : FsOk base env σ O W s.heap) (h : Stored env x (.ref a) W s s') (ha : a ∈ W) (hg : s.heap.get? a = some (listObj vs n)) (hr : RepL (fz (W ++ O) s.heap) ds vs)
    (h2 : offB x σ.obj = true) : FsOk base env ⟨dropN x σ.ρ, some (x, ds), σ.obj⟩ O W s'.heap := by
  refine F.kept h (fun y d' e => .inr (lookup_dropN e)) (fun y ds' e => ?_) fun y z e => ⟨offB_ne h2 e, e⟩
  cases e
  refine .inl ⟨rfl, a, vs, n, rfl, ha, ?_, hr.mono h.fz⟩
  obtain ⟨t, ht, hk, hm⟩ := h.keep
  refine (hk a ?_).trans hg
  rcases hm with rfl | ⟨v', hm⟩
  · obtain ⟨m, hns⟩ := F.ns; exact ns_ne hns hg fun _ _ q => by cases q
  · exact cell_ne hm hg fun _ q => by cases q
theorem FsOk.grow {O W : List Addr} {A : Around} {s s' : Shared} {a : Addr} (F : FsOk base env σ O W s.heap) (hA : At base k A (W ++ O) s) (x : Step s s') (hn : s.heap.get? a = Option.none) (hl : ∃ o, s'.heap.get? a = some o) :
    FsOk base env σ O (a :: W) s'.heap ∧ New W (a :: W) s ∧ Live ((a :: W) ++ O) s'.heap := by
  have hz : Sub (fz (W ++ O) s.heap) (fz ((a :: W) ++ O) s'.heap) := fz_mono (fun b hb => by
    rw [List.cons_append, List.mem_cons] at hb
    rcases hb with rfl | hb
    · exact .inr hn
    · exact .inl hb) fun b o _ e => x.heap b o e
  have F' := F.step x
  refine ⟨⟨List.mem_cons_of_mem _ F.loc, fun b hb => ?_, F'.ns, fun y c e => ⟨List.mem_cons_of_mem _ (F'.cells y c e).1, (F'.cells y c e).2⟩, F.inj, fun y d e => ?_, fun y d e => ?_, fun y C ns ds e => ?_⟩, fun b hb => ?_, fun b hb => ?_⟩
  · rw [List.mem_cons] at hb
    rcases hb with rfl | hb
    · exact fun hm => by obtain ⟨o, e⟩ := hA.live _ (List.mem_append_right _ hm); exact nos (hn) e
    · exact F.apart b hb
  · obtain ⟨v, p, q⟩ := F.vars y d e; exact ⟨v, p.sub x.heap, q.mono hz⟩
  · obtain ⟨a, vs, n, h1, h2, h3, h4⟩ := F.lst y d e
    exact ⟨a, vs, n, h1.sub x.heap, List.mem_cons_of_mem _ h2, x.heap _ _ h3, h4.mono hz⟩
  · obtain ⟨a, d, es, n, h1, h2, h3, h4, h5, h6, h7, h8, h9⟩ := F.obj y C ns ds e
    exact ⟨a, d, es, n, h1.sub x.heap, ⟨List.mem_cons_of_mem _ h2.1, h2.2⟩, List.mem_cons_of_mem _ h3, h4, h5, x.heap _ _ h6, x.heap _ _ h7, h8, h9.mono hz⟩
  · rw [List.mem_cons] at hb
    rcases hb with rfl | hb
    · exact .inr hn
    · exact .inl hb
  · rw [List.cons_append, List.mem_cons] at hb
    rcases hb with rfl | hb
    · exact hl
    · obtain ⟨o, e⟩ := hA.live b hb; exact ⟨o, x.heap b o e⟩
end
end Mine
namespace Mine
open PySem PySem.W PySem.Calls PyProof.Rows PySem.Spec

structure Le (σ' σ : Sg) : Prop where
  ρ : ∀ x d, σ.ρ.lookup x = some d → σ'.ρ.lookup x = some d
  lst : ∀ p, σ.lst = some p → σ'.lst = some p
  obj : ∀ p, σ.obj = some p → σ'.obj = some p
theorem Le.refl (σ : Sg) : Le σ σ := ⟨fun _ _ e => e, fun _ e => e, fun _ e => e⟩

section
variable {prog : Program} {w : World} {base : Heap} {k : Nat} {env : Env} {σ σ₁ σ₂ σ' : Sg} {o : Out}

theorem FsOk.le {O W : List Addr} {h : Heap} (F : FsOk base env σ' O W h) (l : Le σ' σ) : FsOk base env σ O W h :=
  { F with vars := fun x d e => F.vars x d (l.ρ x d e), lst := fun x ds e => F.lst x ds (l.lst _ e), obj := fun x C ns ds e => F.obj x C ns ds (l.obj _ e) }
theorem Bd.from {t : Sem Flow} (h : Bd prog w base k env t σ o) (l : Le σ' σ) : Bd prog w base k env t σ' o := ⟨fun A O W s hA F => h.run A O W s hA (F.le l)⟩
theorem Good.le {O W : List Addr} {s s' : Shared} (h : Good base env σ' O W s s') (l : Le σ' σ) : Good base env σ O W s s' := let ⟨W', a, b, c, F⟩ := h; ⟨W', a, b, c, F.le l⟩
theorem Bd.next_le {t : Sem Flow} (h : Bd prog w base k env t σ (.next σ')) (l : Le σ' σ₁) : Bd prog w base k env t σ (.next σ₁) := ⟨fun A O W s hA F => WP.mono (h.run A O W s hA F) fun f s' h' => ⟨h'.1, h'.2.le l⟩⟩
theorem Good.of_frame {O W : List Addr} {s s' : Shared} (c : Chg W s s') (l : Live (W ++ O) s'.heap) (F : FsOk base env σ O W s'.heap) : Good base env σ O W s s' := ⟨W, .refl _ _, c, l, F⟩

theorem bd_nil : Bd prog w base k env (execs [] env) σ (.next σ) := ⟨fun A O W s hA F => wpAny_execs_nil ⟨rfl, .of_frame (.refl _ _) hA.live F⟩⟩
theorem bd_cons {st : Stmt} {rest : List Stmt} (h : Bd prog w base k env (exec st env) σ (.next σ₁)) (hr : Bd prog w base k env (execs rest env) σ₁ o) : Bd prog w base k env (execs (st :: rest) env) σ o :=
  ⟨fun A O W s hA F => wpAny_execs_cons (WP.mono (h.run A O W s hA F) fun f s₁ h₁ => by
    obtain ⟨rfl, W', n, c, l, F'⟩ := h₁
    exact WP.mono (hr.run A O W' s₁ (hA.chg n c l) F') fun f s₂ h₂ => h₂.trans n c)⟩
noncomputable def Out.stops : Out → Bool
  | .next _ => false
  | _ => true
theorem bd_stop {st : Stmt} {rest : List Stmt} (h : Bd prog w base k env (exec st env) σ o) (ho : o.stops = true := by rfl) : Bd prog w base k env (execs (st :: rest) env) σ o :=
  ⟨fun A O W s hA F => wpAny_execs_cons (WP.mono (h.run A O W s hA F) fun f s₁ h₁ => by
    cases o with
    | next σ => cases ho
    | brk σ => obtain ⟨rfl, g⟩ := h₁; exact ⟨rfl, g⟩
    | ret d => obtain ⟨v, rfl, g⟩ := h₁; exact ⟨v, rfl, g⟩)⟩

theorem see {O W : List Addr} {A : Around} {s : Shared} {e : Expr} {d : D} (h : Ev prog w base k env σ.all e d) (hA : At base k A (W ++ O) s) (F : FsOk base env σ O W s.heap) :
    WP prog w A (eval e env) (fun v s' => Step s s' ∧ ∃ O', (∀ b ∈ O, b ∈ O') ∧ Rep (fz O' s'.heap) d v) s := by
  obtain ⟨O', h1, h2, h3⟩ := F.sees hA
  exact WP.mono (h.run A O' s h2 h3) fun v s' ⟨st, r⟩ => ⟨st, O', h1, r⟩
theorem seeT {O W : List Addr} {A : Around} {s : Shared} {e : Expr} {b : Bool} (h : Tst prog w base k env σ.all e b) (hA : At base k A (W ++ O) s) (F : FsOk base env σ O W s.heap) :
    WP prog w A (isTrue e env (eval e env)) (fun v s' => Step s s' ∧ v = b) s := by
  obtain ⟨O', h1, h2, h3⟩ := F.sees hA
  exact h.run A O' s h2 h3

theorem bd_if {test : Expr} {body orelse : List Stmt} {pos : Pos} {b : Bool} (ht : Tst prog w base k env σ.all test b) (h1 : b = true → Bd prog w base k env (execs body env) σ o) (h2 : b = false → Bd prog w base k env (execs orelse env) σ o) :
    Bd prog w base k env (exec (.If test body orelse pos) env) σ o :=
  ⟨fun A O W s hA F => wpAny_If (WP.mono (seeT ht hA F) fun v s₁ ⟨st, e⟩ => by
    subst e
    cases v with
    | true => exact WP.mono ((h1 rfl).run A O W s₁ (hA.step st) (F.step st)) fun f s₂ h => h.step st
    | false => exact WP.mono ((h2 rfl).run A O W s₁ (hA.step st) (F.step st)) fun f s₂ h => h.step st)⟩
theorem bd_if_t {test : Expr} {body orelse : List Stmt} {pos : Pos} (ht : Tst prog w base k env σ.all test true) (h1 : Bd prog w base k env (execs body env) σ o) : Bd prog w base k env (exec (.If test body orelse pos) env) σ o :=
  bd_if ht (fun _ => h1) fun e => by cases e
theorem bd_if_f {test : Expr} {body orelse : List Stmt} {pos : Pos} (ht : Tst prog w base k env σ.all test false) (h1 : Bd prog w base k env (execs orelse env) σ o) : Bd prog w base k env (exec (.If test body orelse pos) env) σ o :=
  bd_if ht (fun e => by cases e) fun _ => h1
theorem bd_ret {e : Expr} {pos : Pos} {d : D} (h : Ev prog w base k env σ.all e d) : Bd prog w base k env (exec (.Return (some e) pos) env) σ (.ret d) :=
  ⟨fun A O W s hA F => wpAny_Return_some (WP.mono (see h hA F) fun v s₁ ⟨st, O', hO, r⟩ => ⟨v, rfl, .step st, r.mono (fz_mono (fun b hb => .inl (hO b hb)) fun b o _ e => e)⟩)⟩
theorem bd_break {pos : Pos} : Bd prog w base k env (exec (.Break pos) env) σ (.brk σ) := ⟨fun A O W s hA F => wpAny_Break ⟨rfl, .of_frame (.refl _ _) hA.live F⟩⟩
theorem put_end {O W : List Addr} {A : Around} {s s₁ s₂ : Shared} {x : Str} {v : Value} {d : D} (hA : At base k A (W ++ O) s) (F : FsOk base env σ O W s.heap) (st : Step s s₁) (h : Stored env x v W s₁ s₂) (hr : Rep (fz (W ++ O) s₁.heap) d v)
    (h1 : offB x σ.lst = true) (h2 : offB x σ.obj = true) : Good base env ⟨(x, d) :: σ.ρ, σ.lst, σ.obj⟩ O W s s₂ :=
  .of_frame ((Chg.step st).trans (.refl _ _) h.chg) (h.live' (hA.step st).live) ((F.step st).put h hr h1 h2)

theorem bd_assign {x : Str} {px pos : Pos} {value : Expr} {d : D} (h : Ev prog w base k env σ.ρ value d) (hs : Storable env x) (h1 : offB x σ.lst = true := by rfl) (h2 : offB x σ.obj = true := by rfl) (hk : env.scope.kind = .function := by rfl)
    (hw : swapsWith value (some (.Name x px)) pos.line env = pure false := by rfl) : Bd prog w base k env (exec (.Assign [.Name x px] value pos) env) σ (.next ⟨(x, d) :: σ.ρ, σ.lst, σ.obj⟩) :=
  ⟨fun A O W s hA F => wpAny_Assign_Name (WP.mono (h.run A (W ++ O) s hA F.envOk) fun v s₁ ⟨st, r⟩ => store_ok (F.step st) hk hs fun s₂ h' => ⟨rfl, put_end hA F st h' r h1 h2⟩) hw⟩
theorem loadName_ok {O : List Addr} {ρ : List (Str × D)} {h : Heap} {A : Around} {s : Shared} {E : Value → Shared → Prop} {Q : Value → Shared → Prop} {x : Str} {v : Value} (hv : VarIs env s.heap x v) (hk : env.scope.kind = .function) (hQ : Q v s) : wpAny (model prog w) A (loadName env x) Q E s := by
  rcases hv with ⟨a, m, n, e⟩ | ⟨c, a, b, e⟩
  · exact wpAny_loadName_local hk a n e hQ
  · exact wpAny_loadName_cell hk a b e hQ
theorem bd_aug {x : Str} {px pos : Pos} {op : Operator} {value : Expr} {d₀ d₁ d : D} (hx : σ.ρ.lookup x = some d₀) (h : Ev prog w base k env σ.all value d₁) (ho : Op2 prog w base k (inplaceOp op) d₀ d₁ d) (hs : Storable env x) (hf₁ : Flat d₁ = true := by rfl)
    (h1 : offB x σ.lst = true := by rfl) (h2 : offB x σ.obj = true := by rfl) (hk : env.scope.kind = .function := by rfl) : Bd prog w base k env (exec (.AugAssign (.Name x px) op value pos) env) σ (.next ⟨(x, d) :: σ.ρ, σ.lst, σ.obj⟩) :=
  ⟨fun A O W s hA F => by
    obtain ⟨v₀, hv₀, r₀⟩ := F.vars x d₀ hx
    refine wpAny_AugAssign_Name (loadName_ok (O := O) (ρ := σ.ρ) (h := s.heap) hv₀ hk ?_)
    refine WP.mono (see h hA F) fun v s₁ ⟨st, O', hO, r⟩ => ?_
    refine WP.mono (ho.run A (W ++ O) s₁ v₀ v (hA.step st) (r₀.mono (st.fz _)) (r.flat hf₁)) fun v' s₂ ⟨st', r'⟩ => ?_
    exact store_ok ((F.step st).step st') hk hs fun s₃ h' => ⟨rfl, put_end hA F (st.trans st') h' r' h1 h2⟩⟩

inductive NewAt (O : List Addr) (s : Shared) (ds : List D) (v : Value) (s' : Shared) : Prop
  | mk (a : Addr) (vs : List Value) (n : Nat) (e : v = .ref a) (h : s.heap.get? a = Option.none) (h' : s'.heap.get? a = some (listObj vs n)) (r : RepL (fz O s'.heap) ds vs)
structure EvNew (prog : Program) (w : World) (base : Heap) (k : Nat) (env : Env) (ρ : List (Str × D)) (e : Expr) (ds : List D) : Prop where
  run : ∀ A O s, At base k A O s → EnvOk base env ρ O s.heap → WP prog w A (eval e env) (fun v s' => Step s s' ∧ NewAt O s ds v s') s
theorem EvNew.ev {ρ : List (Str × D)} {e : Expr} {ds : List D} (h : EvNew prog w base k env ρ e ds) : Ev prog w base k env ρ e (.list ds) := .mk fun A O s hA hE =>
  WP.mono (h.run A O s hA hE) fun v s' ⟨st, a, vs, n, e, h1, h2, h3⟩ => ⟨st, e ▸ of_list (fz_some.mpr ⟨hA.live.none h1, h2⟩) h3⟩
theorem evnew_list {ρ : List (Str × D)} {es : List Expr} {pos : Pos} {ds : List D} (ha : Evs prog w base k env ρ pos es ds) (hl : ds.length ≤ sizeLine := by decide) : EvNew prog w base k env ρ (.List es pos) ds := .mk fun A O s hA hE => by
  refine List_ (WP.mono (ha.run A O s hA hE) fun vs s₁ ⟨st₁, r₁⟩ => ?_)
  refine wpAny_newList (hsz := by refine (r₁.length) ▸ ?_; exact hl) ⟨st₁.trans (Step.of (push_sub _ _)), _, vs, _, rfl, ?_, Heap.get?_push_size _ rfl, r₁.mono ((Step.of (s := s₁) (tk := 0) (push_sub _ _)).fz O)⟩
  cases e : s.heap.get? s₁.heap.objs.size with
  | none => rfl
  | some o => exact absurd (Heap.lt_size (st₁.heap _ _ e)) (Nat.lt_irrefl _)
theorem new_of {s s₁ : Shared} (st : Step s s₁) : s.heap.get? s₁.heap.objs.size = Option.none := by
  cases e : s.heap.get? s₁.heap.objs.size with
  | none => rfl
  | some o => exact absurd (Heap.lt_size (st.heap _ _ e)) (Nat.lt_irrefl _)
theorem evnew_add {ρ : List (Str × D)} {l r : Expr} {pos : Pos} {xs ys : List D} (h₁ : Ev prog w base k env ρ l (.list xs)) (h₂ : Ev prog w base k env ρ r (.list ys)) (hl : xs.length + ys.length ≤ sizeLine) : EvNew prog w base k env ρ (.BinOp l .Add r pos) (xs ++ ys) := .mk fun A O s hA hE => by
  refine wpAny_BinOp (WP.mono (h₁.run A O s hA hE) fun a s₁ ⟨st₁, r₁⟩ => ?_)
  refine WP.mono (h₂.run A O s₁ (hA.step st₁) (hE.step st₁)) fun b s₂ ⟨st₂, r₂⟩ => ?_
  obtain ⟨p, vs, n, rfl, hp, hr⟩ := rep_list (r₁.mono (st₂.fz O)); obtain ⟨q, us, m, rfl, hq, hr'⟩ := rep_list r₂
  have e₁ := hr.length; have e₂ := hr'.length
  refine P.add_list (hsz := by skip; (simp [*])) (fz_heap _ _ hp) (fz_heap _ _ hq) ⟨(st₁.trans st₂).trans (Step.of (push_sub _ _)), _, vs ++ us, 0, rfl, new_of (st₁.trans st₂), ?_, (hr.append hr').mono ((Step.of (s := s₂) (tk := 0) (push_sub _ _)).fz O)⟩
  simp only [show listObj (vs ++ us) 0 = { cls := Value.type "list", dict := Option.none, data := Data.seq (vs.toArray ++ us.toArray) 0, slots := #[] } by simp [listObj]]
  exact Heap.get?_push_size _ rfl
theorem evnew_mul {ρ : List (Str × D)} {l r : Expr} {pos : Pos} {d : D} {n : Int} (h₁ : Ev prog w base k env ρ l (.list [d])) (h₂ : Ev prog w base k env ρ r (.int n)) (hn : n ≤ 10000) (hn' : -10000 ≤ n) : EvNew prog w base k env ρ (.BinOp l .Mult r pos) (List.replicate n.toNat d) := .mk fun A O s hA hE => by
  refine wpAny_BinOp (WP.mono (h₁.run A O s hA hE) fun a s₁ ⟨st₁, r₁⟩ => ?_)
  refine WP.mono (h₂.run A O s₁ (hA.step st₁) (hE.step st₁)) fun b s₂ ⟨st₂, r₂⟩ => ?_
  obtain ⟨p, vs, m, rfl, hp, hr⟩ := rep_list (r₁.mono (st₂.fz O)); obtain ⟨t, rfl⟩ := rep_int r₂
  obtain ⟨v, rfl, hv⟩ := RepL.inv1 hr
  have hp' := fz_heap _ _ hp
  skip
  refine wpAny_binaryOp_repeat_ref (T := "list") (U := "int") (by rfl) ⟨_, hp', rfl⟩ (fun s' => typeIs_int s' n t) noFill_list_mul F.fills_int_mul F.slot_int_rmul repeat_list F.slot_int_index.lookup
    (call_meets F.slot_int_rmul (typeIs_int _ n t) F.entry_int_rmul (F.args_int_rmul_2 _ _) (int___rmul___int_list n t p _ m)
      ⟨hp', rfl, ⟨_, hp', rfl⟩, call_meets F.slot_list_mul ⟨_, hp', rfl⟩ F.entry_list_mul (F.args_list_mul_2 _ _)
        (AutoListH.list___mul___list_int_3 p _ m n t (by simp [Builtin.List.listFitsIndex]; (exact ⟨Int.le_trans (by decide) hn', Int.lt_of_le_of_lt hn (by decide)⟩)) (by refine (show [v].toArray.size * n.toNat = n.toNat from Nat.one_mul _).symm ▸ ?_; (exact Nat.not_lt.mpr (Nat.le_trans ((Int.toNat_le (n := 10000)).mpr hn) (Nat.le_of_ble_eq_true rfl)))) (by refine (show [v].toArray.size * n.toNat = n.toNat from Nat.one_mul _).symm ▸ ?_; simp [Builtin.List.listTooLong, sizeLine]; (lia)))
        ⟨hp', (st₁.trans st₂).trans (Step.of (push_sub _ _)), _, List.replicate n.toNat v, 0, rfl, new_of (st₁.trans st₂), ?_, ?_⟩⟩)
  · simp only [show listObj (List.replicate n.toNat v) 0 = { cls := Value.type "list", dict := Option.none, data := Data.seq (List.foldl (fun x1 x2 => x1 ++ x2) #[] (List.replicate (if [v].toArray.isEmpty = true then 0 else n.toNat) [v].toArray)) 0, slots := #[] } by
      skip
      congr 2
      have gen : ∀ (j : Nat) (acc : Array Value), List.foldl (fun x1 x2 => x1 ++ x2) acc (List.replicate j [v].toArray) = acc ++ (List.replicate j v).toArray := by
        intro j
        induction j with
        | zero => intro acc; rfl
        | succ j ih =>
          intro acc
          simp only [List.replicate_succ, List.foldl_cons, ih, List.replicate_succ]
          apply Array.ext'
          simp [List.replicate_succ]
      simp only [gen]; simp]
    exact Heap.get?_push_size _ rfl
  · have gen : ∀ (j : Nat) (g : View), Rep g d v → RepL g (List.replicate j d) (List.replicate j v) := by
      intro j g hg
      induction j with
      | zero => exact .nil
      | succ j ih => skip; exact .cons hg ih
    exact (gen _ _ hv).mono ((Step.of (s := s₂) (tk := 0) (push_sub _ _)).fz O)

theorem bd_assignNew {x : Str} {px pos : Pos} {value : Expr} {ds : List D} (h : EvNew prog w base k env σ.all value ds) (hs : Storable env x) (hf : ds.all Flat = true) (h2 : offB x σ.obj = true := by rfl) (hk : env.scope.kind = .function := by rfl)
    (hw : swapsWith value (some (.Name x px)) pos.line env = pure false := by rfl) : Bd prog w base k env (exec (.Assign [.Name x px] value pos) env) σ (.next ⟨dropN x σ.ρ, some (x, ds), σ.obj⟩) :=
  ⟨fun A O W s hA F => by
    obtain ⟨O', g1, g2, g3⟩ := F.sees hA
    refine wpAny_Assign_Name (WP.mono (h.run A O' s g2 g3) fun v s₁ ⟨st, a, vs, n, e, h3, h4, h5⟩ => ?_) hw
    subst e
    have hq0 := F.grow hA st h3 ⟨_, h4⟩
    have F' := hq0.1
    have n' := hq0.2.1
    have l' := hq0.2.2
    refine store_ok F' hk hs fun s₂ h' => ⟨rfl, a :: W, n', (Chg.step st).trans n' h'.chg, h'.live' l', F'.putList h' (List.mem_cons_self ..) h4 (h5.flat hf) h2⟩⟩

theorem bd_append {x : Str} {p1 p2 p3 pos : Pos} {e : Expr} {d : D} {ds : List D} (hl : σ.lst = some (x, ds)) (h : Ev prog w base k env σ.ρ e d) (hlen : ds.length ≤ sizeLine) (hk : env.scope.kind = .function := by rfl) (hd : (x == ("__debug__" : Str)) = false := by decide) {pl : Sem Bool}
    (hm : eval (.Call (.Attribute (.Name x p1) ("append" : Str) p2) [e] [] p3) env = (do
      let ov ← eval (.Name x p1) env
      standAt p2.atName
      let (f, first) ← holding [ov] (getMethod ov ("append" : Str) pl)
      callWith p3 f first (backTo p3 (starEach [e] env)) (backToKw p3 (keywordEach [] env))) := by rfl)
    (he : starEach [e] env = [(false, eval e env)] := by rfl)
    (hi : interactive env = false := by rfl) (hw : swapsWith (.Call (.Attribute (.Name x p1) ("append" : Str) p2) [e] [] p3) Option.none pos.line env = pure false := by rfl) :
    Bd prog w base k env (exec (.Expr (.Call (.Attribute (.Name x p1) ("append" : Str) p2) [e] [] p3) pos) env) σ (.next ⟨σ.ρ, some (x, ds ++ [d]), σ.obj⟩) :=
  ⟨fun A O W s hA F => by
    obtain ⟨a, vs, n, h1, h2, h3, h4⟩ := F.lst x ds hl
    refine wpAny_Expr_any (methodCall_KW (pl := pl) ?_ hm) hi hw
    refine wpAny_Name (loadName_ok (O := O) (ρ := σ.ρ) (h := s.heap) h1 hk ?_) hd
    refine getMethod_list_append h3 rfl rfl ?_
    refine (he) ▸ ?_
    show wpAny (model prog w) A (callWith p3 (.builtin "list.append") [.ref a] [(false, eval e env)] []) _ _ s
    refine callWith_of (P := fun h => Sub base.get? h.get?) rfl keep_builtin ?_
    refine evalArgs_plain ?_
    show wpAny (model prog w) A (do
      let v ← eval e env
      let here ← (pure [v] : Sem (List Value))
      return here ++ (← holding here (spliced []))) _ _ s
    refine wpAny_bind (WP.mono (h.run A (W ++ O) s hA F.envOk) fun v s₁ ⟨st, r⟩ => ?_)
    refine wpAny_bind (wpAny_pure (wpAny_bind (wpAny_holding (wpAny_pure (wpAny_pure ⟨(hA.step st).get, ?_⟩)))))
    have h3' := st.heap _ _ h3
    refine wpAny_list_append_plain (items := vs.toArray) ⟨n, h3'⟩ (fun h' ⟨n', hp⟩ hsb => ?_) (by simp only [List.size_toArray, h4.length]; exact hlen)
    have F₁ := F.step st
    have ne : env.locals ≠ a := fun q => by obtain ⟨m, hns⟩ := F₁.ns; exact ns_ne hns h3' (fun _ _ q => by cases q) q.symm
    have hz : Sub (fz (W ++ O) s₁.heap) (fz (W ++ O) h') := fz_mono (fun b hb => .inl hb) fun b o hb e => (hsb.2 b fun q => hb (q ▸ List.mem_append_left _ h2)).trans e
    have hv : ∀ y u, VarIs env s₁.heap y u → VarIs env h' y u := fun y u hv => by
      rcases hv with ⟨a', m, n, e⟩ | ⟨c, a', b, e⟩
      · exact .inl ⟨a', m, n.sameBut hsb ne, e⟩
      · exact .inr ⟨c, a', b, e.sameBut hsb fun q => cell_ne e h3' (fun _ q => by cases q) q.symm⟩
    refine ⟨rfl, .of_frame ?_ ?_ ?_⟩
    · exact (Chg.step st).trans (.refl _ _) ⟨fun b o hb e => (hsb.2 b fun q => hb (q ▸ h2)).trans e, fun _ _ e => e, id, rfl, rfl⟩
    · intro b hb
      by_cases q : b = a
      · subst q; exact ⟨_, hp⟩
      · obtain ⟨o, e⟩ := (hA.step st).live b hb; exact ⟨o, (hsb.2 b q).trans e⟩
    · refine ⟨F₁.loc, F₁.apart, let ⟨m, hn⟩ := F₁.ns; ⟨m, hn.sameBut hsb ne⟩, fun y c e => ⟨(F₁.cells y c e).1, let ⟨v, hc⟩ := (F₁.cells y c e).2; ⟨v, hc.sameBut hsb fun q => cell_ne hc h3' (fun _ q => by cases q) q.symm⟩⟩, F₁.inj, fun y d' e => ?_, fun y ds' e => ?_, fun y C ns ds' e => ?_⟩
      · obtain ⟨u, p, q⟩ := F₁.vars y d' e; exact ⟨u, hv y u p, q.mono hz⟩
      · cases e
        exact ⟨a, vs ++ [v], n', hv _ _ (h1.sub st.heap), h2, by refine (show listObj (vs ++ [v]) n' = { cls := .type "list", data := .seq (vs.toArray.push v) n' } by simp [listObj]) ▸ ?_; exact hp, (((h4.mono (st.fz _)).append (.one r)).mono hz)⟩
      · obtain ⟨a', d', es, m, g1, g2, g3, g4, g5, g6, g7, g8, g9⟩ := F₁.obj y C ns ds' e
        refine ⟨a', d', es, m, hv _ _ g1, g2, g3, g4, g5, (hsb.2 _ fun q => ?_).trans g6, (hsb.2 _ fun q => ?_).trans g7, g8, g9.mono hz⟩
        · simp only [q, h3'] at g6; cases g6
        · rw [q, h3'] at g7
          have := congrArg (fun o => o.map (·.data)) g7
          cases this⟩
end
end Mine
namespace Mine
open PySem PySem.W PySem.Calls PyProof.Rows PySem.Spec

structure ChgG (W : List Addr) (G : List Nat) (s s' : Shared) : Prop where
  heap : ∀ b o, b ∉ W → s.heap.get? b = some o → s'.heap.get? b = some o
  gens : ∀ (i : Nat) (x : GenState), i ∉ G → s.gens[i]? = some x → s'.gens[i]? = some x
  bare : AllBare s.gens → AllBare s'.gens
  drawn : s'.drawn = s.drawn
  os : s'.os = s.os
theorem ChgG.refl {W : List Addr} {G : List Nat} {s : Shared} : ChgG W G s s := ⟨fun _ _ _ e => e, fun _ _ _ e => e, id, rfl, rfl⟩
theorem Chg.g {W V : List Addr} {G : List Nat} {s s' : Shared} (h : Chg W s s') (hV : ∀ b ∈ W, b ∈ V) : ChgG V G s s' := ⟨fun b o hb e => h.heap b o (fun hb' => hb (hV b hb')) e, fun i x _ e => h.gens i x e, h.bare, h.drawn, h.os⟩
theorem ChgG.trans {W W' : List Addr} {G : List Nat} {s s₁ s₂ : Shared} (x : ChgG W G s s₁) (n : ∀ b ∈ W', b ∈ W ∨ s.heap.get? b = Option.none) (y : ChgG W' G s₁ s₂) : ChgG W G s s₂ :=
  ⟨fun b o hb e => y.heap b o (fun hb' => (n b hb').elim hb fun e' => by exact nos (e') e) (x.heap b o hb e), fun i g hi e => y.gens i g hi (x.gens i g hi e), fun h => y.bare (x.bare h), y.drawn.trans x.drawn, y.os.trans x.os⟩

noncomputable def Sg.bind (bs : List (Str × D)) (σ : Sg) : Sg := ⟨bs ++ σ.ρ, σ.lst, σ.obj⟩
noncomputable def offs (bs : List (Str × D)) (σ : Sg) : Bool := bs.all fun p => offB p.1 σ.lst && offB p.1 σ.obj

inductive Lp (prog : Program) (w : World) (base : Heap) (k : Nat) (env : Env) (body orelse : List Stmt) : List (List (Str × D)) → Sg → Out → Prop
  | nil {σ : Sg} {o : Out} (h : Bd prog w base k env (execs orelse env) σ o) : Lp prog w base k env body orelse [] σ o
  | next {bs : List (Str × D)} {rest : List (List (Str × D))} {σ σ₁ : Sg} {o : Out} (ho : offs bs σ = true) (h : Bd prog w base k env (execs body env) (σ.bind bs) (.next σ₁)) (r : Lp prog w base k env body orelse rest σ₁ o) : Lp prog w base k env body orelse (bs :: rest) σ o
  | brk {bs : List (Str × D)} {rest : List (List (Str × D))} {σ σ₁ : Sg} (ho : offs bs σ = true) (h : Bd prog w base k env (execs body env) (σ.bind bs) (.brk σ₁)) : Lp prog w base k env body orelse (bs :: rest) σ (.next σ₁)
  | ret {bs : List (Str × D)} {rest : List (List (Str × D))} {σ : Sg} {r : D} (ho : offs bs σ = true) (h : Bd prog w base k env (execs body env) (σ.bind bs) (.ret r)) : Lp prog w base k env body orelse (bs :: rest) σ (.ret r)

inductive LI (prog : Program) (w : World) (base : Heap) (k : Nat) (env : Env) (body orelse : List Stmt) (items : List (List (Str × D))) (o : Out) (St : Nat → Shared → Prop) (fp wr : List Addr) (G : List Nat) (O W : List Addr) (s₁ : Shared) (A : Around) (n : Nat) (s : Shared) : Prop
  | mk (i : Nat) (σ' : Sg) (W' : List Addr) (lp : Lp prog w base k env body orelse (items.drop i) σ' o) (hi : i ≤ items.length) (hn : n = items.length - i) (st : St i s) (N : New W W' s₁) (C : ChgG (W ++ wr) G s₁ s) (hA : At base k A (W' ++ (wr ++ O)) s) (F : FsOk base env σ' (wr ++ O) W' s.heap) (hf : ∀ b ∈ fp, b ∉ W')

section
variable {prog : Program} {w : World} {base : Heap} {k : Nat} {env : Env} {σ σ₁ σ₂ σ' : Sg} {o : Out}

theorem FsOk.shade {O W wr : List Addr} {A : Around} {s₁ s₂ : Shared} (F : FsOk base env σ O W s₁.heap) (hA : At base k A (W ++ O) s₁) (st : Step s₁ s₂) (hw : ∀ b ∈ wr, s₁.heap.get? b = Option.none) (hl : ∀ b ∈ wr, ∃ o, s₂.heap.get? b = some o) :
    FsOk base env σ (wr ++ O) W s₂.heap ∧ At base k A (W ++ (wr ++ O)) s₂ := by
  have hz : Sub (fz (W ++ O) s₁.heap) (fz (W ++ (wr ++ O)) s₂.heap) := fz_mono (fun b hb => by
    rcases app3 hb with hb | hb | hb
    · exact .inl (List.mem_append_left _ hb)
    · exact .inr (hw b hb)
    · exact .inl (List.mem_append_right _ hb)) fun b o _ e => st.heap b o e
  have F' := F.step st
  refine ⟨⟨F.loc, fun b hb hm => ?_, F'.ns, F'.cells, F.inj, fun y d e => ?_, fun y d e => ?_, fun y C ns ds e => ?_⟩, ⟨hA.room, st.bare hA.bare, hA.base.trans hz, fun b hb => ?_⟩⟩
  · rcases List.mem_append.mp hm with hm | hm
    · obtain ⟨o, e⟩ := hA.live b (List.mem_append_left _ hb); exact nos (hw b hm) e
    · exact F.apart b hb hm
  · obtain ⟨v, p, q⟩ := F.vars y d e; exact ⟨v, p.sub st.heap, q.mono hz⟩
  · obtain ⟨a, vs, n, h1, h2, h3, h4⟩ := F.lst y d e
    exact ⟨a, vs, n, h1.sub st.heap, h2, st.heap _ _ h3, h4.mono hz⟩
  · obtain ⟨a, d, es, n, h1, h2, h3, h4, h5, h6, h7, h8, h9⟩ := F.obj y C ns ds e
    exact ⟨a, d, es, n, h1.sub st.heap, h2, h3, h4, h5, st.heap _ _ h6, st.heap _ _ h7, h8, h9.mono hz⟩
  · rcases app3 hb with hb | hb | hb
    · obtain ⟨o, e⟩ := hA.live b (List.mem_append_left _ hb); exact ⟨o, st.heap b o e⟩
    · exact hl b hb
    · obtain ⟨o, e⟩ := hA.live b (List.mem_append_right _ hb); exact ⟨o, st.heap b o e⟩
theorem FsOk.unshade {O W wr : List Addr} {h : Heap} (F : FsOk base env σ (wr ++ O) W h) : FsOk base env σ O W h := by
  have hz : Sub (fz (W ++ (wr ++ O)) h) (fz (W ++ O) h) := fz_mono (fun b hb => by
    rcases List.mem_append.mp hb with hb | hb
    · exact .inl (List.mem_append_left _ hb)
    · exact .inl (List.mem_append_right _ (List.mem_append_right _ hb))) fun b o _ e => e
  refine ⟨F.loc, fun b hb hm => F.apart b hb (List.mem_append_right _ hm), F.ns, F.cells, F.inj, fun y d e => ?_, fun y d e => ?_, fun y C ns ds e => ?_⟩
  · obtain ⟨v, p, q⟩ := F.vars y d e; exact ⟨v, p, q.mono hz⟩
  · obtain ⟨a, vs, n, h1, h2, h3, h4⟩ := F.lst y d e
    exact ⟨a, vs, n, h1, h2, h3, h4.mono hz⟩
  · obtain ⟨a, d, es, n, h1, h2, h3, h4, h5, h6, h7, h8, h9⟩ := F.obj y C ns ds e
    exact ⟨a, d, es, n, h1, h2, h3, h4, h5, h6, h7, h8, h9.mono hz⟩
theorem FsOk.moved {O W : List Addr} {h h' : Heap} (F : FsOk base env σ O W h) (hk : ∀ b o, b ∉ O → h.get? b = some o → h'.get? b = some o) : FsOk base env σ O W h' := by
  have hz : Sub (fz (W ++ O) h) (fz (W ++ O) h') := fz_mono (fun b hb => .inl hb) fun b o hb e => hk b o (fun hm => hb (List.mem_append_right _ hm)) e
  have hv : ∀ y u, VarIs env h y u → VarIs env h' y u := fun y u hv => by
    rcases hv with ⟨a, m, n, e⟩ | ⟨c, a, b, e⟩
    · exact .inl ⟨a, m, n.at' fun o e => hk _ o (F.apart _ F.loc) e, e⟩
    · obtain ⟨o, e1, e2⟩ := e
      exact .inr ⟨c, a, b, o, hk _ _ (F.apart _ (F.cells y c b).1) e1, e2⟩
  refine ⟨F.loc, F.apart, let ⟨m, n⟩ := F.ns; ⟨m, n.at' fun o e => hk _ o (F.apart _ F.loc) e⟩, fun y c e => ?_, F.inj, fun y d e => ?_, fun y d e => ?_, fun y C ns ds e => ?_⟩
  · obtain ⟨h1, v, o, e1, e2⟩ := F.cells y c e
    exact ⟨h1, v, o, hk _ _ (F.apart _ h1) e1, e2⟩
  · obtain ⟨v, p, q⟩ := F.vars y d e; exact ⟨v, hv _ _ p, q.mono hz⟩
  · obtain ⟨a, vs, n, h1, h2, h3, h4⟩ := F.lst y d e
    exact ⟨a, vs, n, hv _ _ h1, h2, hk _ _ (F.apart _ h2) h3, h4.mono hz⟩
  · obtain ⟨a, d, es, n, h1, h2, h3, h4, h5, h6, h7, h8, h9⟩ := F.obj y C ns ds e
    exact ⟨a, d, es, n, hv _ _ h1, h2, h3, h4, h5, hk _ _ (F.apart _ h2.1) h6, hk _ _ (F.apart _ h3) h7, h8, h9.mono hz⟩

theorem loop_ok {A : Around} {target : Expr} {it : Value} {body orelse : List Stmt} {items : List (List (Str × D))} {St : Nat → Shared → Prop} {fp wr : List Addr} {G : List Nat} {O W : List Addr} {s₁ s₂ : Shared}
    (hframe : ∀ i s s', St i s → (∀ b ∈ fp, ∀ o, s.heap.get? b = some o → s'.heap.get? b = some o) → (∀ g ∈ G, ∀ x, s.gens[g]? = some x → s'.gens[g]? = some x) → St i s')
    (hlive : ∀ i s, St i s → ∀ b ∈ fp, ∃ o, s.heap.get? b = some o) (hsub : ∀ b ∈ wr, b ∈ fp) (hfp : ∀ b ∈ fp, b ∉ W)
    (turn : ∀ i bs σ W' s, items[i]? = some bs → St i s → At base k A (W' ++ (wr ++ O)) s → FsOk base env σ (wr ++ O) W' s.heap → offs bs σ = true → Sub (fz (W ++ O) s₁.heap) (fz (W' ++ (wr ++ O)) s.heap) → (∀ b ∈ fp, b ∉ W') →
      WP prog w A (pyNext it) (fun r s₃ => ∃ v, r = some v ∧ WP prog w A (letOwnedTupleGo target it v) (fun _ s₄ => WP prog w A (assign target env v) (fun _ s₅ =>
        St (i + 1) s₅ ∧ ChgG (W' ++ wr) G s s₅ ∧ Live (W' ++ (wr ++ O)) s₅.heap ∧ FsOk base env (σ.bind bs) (wr ++ O) W' s₅.heap) s₄) s₃) s)
    (done : ∀ σ W' s, St items.length s → At base k A (W' ++ (wr ++ O)) s → FsOk base env σ (wr ++ O) W' s.heap →
      WP prog w A (pyNext it) (fun r s₃ => r = none ∧ ChgG wr G s s₃) s)
    (hA : At base k A (W ++ O) s₁) (F : FsOk base env σ O W s₁.heap) (st : Step s₁ s₂) (hw : ∀ b ∈ wr, s₁.heap.get? b = Option.none) (hG : ∀ g ∈ G, s₁.gens[g]? = Option.none) (h0 : St 0 s₂)
    (lp : Lp prog w base k env body orelse items σ o) {R : Result → Shared → Prop} (hR : ∀ f s', Post base env O W s₁ o f s' → R (.ok f) s') : codeAny (model prog w) A (.forLoop target it body orelse env) R s₂ := by
  skip
  refine codeAny_forLoop_any (fun n s => LI prog w base k env body orelse items o St fp wr G O W s₁ A n s) ?_ items.length ?_
  · rintro n s ⟨i, σ', W', hlp, hi, rfl, hst, hN, hC, hA', F', hfp'⟩
    have fin : ∀ (o' : Out) (f : Flow) (s' : Shared) (s₃ : Shared), ChgG (W' ++ wr) G s s₃ → Post base env O W' s₃ o' f s' → Post base env O W s₁ o' f s' := by
      intro o' f s' s₃ c hp
      have nn : ∀ b ∈ W' ++ wr, b ∈ W ++ wr ∨ s₁.heap.get? b = Option.none := fun b hb => by
        rcases List.mem_append.mp hb with hb | hb
        · exact (hN b hb).imp_left (List.mem_append_left _)
        · exact .inr (hw b hb)
      have c' := hC.trans nn c
      have c'' : Chg W s₁ s₃ := ⟨fun b o hb e => c'.heap b o (fun hm => by
        rcases List.mem_append.mp hm with hm | hm
        · exact hb hm
        · exact nos (hw b hm) e) e, fun i x e => c'.gens i x (fun hm => by exact nos (hG i hm) e) e, c'.bare, c'.drawn, c'.os⟩
      exact hp.trans hN c''
    by_cases hlt : i < items.length
    · have hit : items[i]? = some items[i] := List.getElem?_eq_getElem hlt
      replace hlp := (List.drop_eq_getElem_cons hlt) ▸ hlp
      have hz : Sub (fz (W ++ O) s₁.heap) (fz (W' ++ (wr ++ O)) s.heap) := fun b o e => by
        obtain ⟨e1, e2⟩ := fz_some.mp e
        replace e1 := not_app e1
        have ew : b ∉ wr := fun hm => by exact nos (hw b hm) e2
        refine fz_some.mpr ⟨?_, hC.heap b o (app_not ⟨e1.1, ew⟩) e2⟩
        exact app_not3 ⟨fun hm => (hN b hm).elim e1.1 (fun e => by exact nos (e) e2), ew, e1.2⟩
      have main : ∀ (ho : offs items[i] σ' = true) (o' : Out), Bd prog w base k env (execs body env) (σ'.bind items[i]) o' →
          (∀ f s₆ s₅, ChgG (W' ++ wr) G s s₅ → Live (W' ++ (wr ++ O)) s₅.heap → St (i + 1) s₅ → Post base env (wr ++ O) W' s₅ o' f s₆ → match f with
            | .next | .cont => ∃ m, m < items.length - i ∧ LI prog w base k env body orelse items o St fp wr G O W s₁ A m s₆
            | .brk => R (.ok .next) s₆
            | .ret v => R (.ok (.ret v)) s₆) → wpAny (model prog w) A (pyNext it) (fun r t₁ => match r with
      | none => wpAny (model prog w) A (execs orelse env) (fun f t₃ => R (.ok f) t₃) (notedBy (model prog w) A env fun e s' => R (.error e) s') t₁
      | some v => wpAny (model prog w) A (letOwnedTupleGo target it v) (fun _ t₁' =>
          wpAny (model prog w) A (assign target env v) (fun _ t₂ => wpAny (model prog w) A (execs body env) (fun f t₃ => match f with
            | .next | .cont => ∃ m, m < items.length - i ∧ LI prog w base k env body orelse items o St fp wr G O W s₁ A m t₃
            | .brk => R (.ok .next) t₃
            | .ret v => R (.ok (.ret v)) t₃) (notedBy (model prog w) A env fun e s' => R (.error e) s') t₂) (notedBy (model prog w) A env fun e s' => R (.error e) s') t₁') (notedBy (model prog w) A env fun e s' => R (.error e) s') t₁) (notedBy (model prog w) A env fun e s' => R (.error e) s') s := by
        intro ho o' hb hx
        refine WP.mono (turn i _ σ' W' s hit hst hA' F' ho hz hfp') fun r s₃ ⟨v, hr, h3⟩ => ?_
        subst hr
        refine WP.mono h3 fun _ s₄ h4 => WP.mono h4 fun _ s₅ ⟨h5, h6, h7, h8⟩ => ?_
        have hA5 : At base k A (W' ++ (wr ++ O)) s₅ := ⟨hA'.room, h6.bare hA'.bare, fun b o e => by
          obtain ⟨e1, e2⟩ := fz_some.mp (hA'.base b o e)
          refine fz_some.mpr ⟨e1, h6.heap b o (fun hm => e1 ?_) e2⟩
          rcases List.mem_append.mp hm with hm | hm
          · exact List.mem_append_left _ hm
          · exact List.mem_append_right _ (List.mem_append_left _ hm), h7⟩
        refine WP.mono (hb.run A (wr ++ O) W' s₅ hA5 h8) fun f s₆ h => ?_
        exact hx f s₆ s₅ h6 h7 h5 h
      -- the common end of next and continue
      have go : ∀ (σ₁ : Sg) (s₅ s₆ : Shared), Lp prog w base k env body orelse (items.drop (i + 1)) σ₁ o → ChgG (W' ++ wr) G s s₅ → Live (W' ++ (wr ++ O)) s₅.heap → St (i + 1) s₅ → Good base env σ₁ (wr ++ O) W' s₅ s₆ →
          ∃ m, m < items.length - i ∧ LI prog w base k env body orelse items o St fp wr G O W s₁ A m s₆ := by
        intro σ₁ s₅ s₆ hl c l hs ⟨W'', hn, hc, hl', hF⟩
        have nn : ∀ b ∈ W' ++ wr, b ∈ W ++ wr ∨ s₁.heap.get? b = Option.none := fun b hb => by
          rcases List.mem_append.mp hb with hb | hb
          · exact (hN b hb).imp_left (List.mem_append_left _)
          · exact .inr (hw b hb)
        have c5 := hC.trans nn c
        have hfp'' : ∀ b ∈ fp, b ∉ W'' := fun b hb hm => by
          rcases hn b hm with h | h
          · exact hfp' b hb h
          · obtain ⟨o, e⟩ := hlive _ _ hs b hb; exact nos (h) e
        have N'' : New W W'' s₁ := fun b hb => by
          rcases hn b hb with h | h
          · exact hN b h
          · by_cases hbW : b ∈ W
            · exact .inl hbW
            · refine .inr ?_
              cases e : s₁.heap.get? b with
              | none => rfl
              | some o =>
                have ew : b ∉ wr := fun hm => by exact nos (hw b hm) e
                have := c5.heap b o (app_not ⟨hbW, ew⟩) e
                exact nos (h) this
        refine ⟨items.length - (i + 1), by (exact Nat.sub_succ_lt_self _ _ hlt), i + 1, σ₁, W'', hl, hlt, rfl, ?_, N'', ?_, ?_, hF, hfp''⟩
        · exact hframe _ _ _ hs (fun b hb o e => hc.heap b o (hfp' b hb) e) fun g _ x e => hc.gens g x e
        · refine c5.trans (W' := W') (fun b hb => (hN b hb).imp_left (List.mem_append_left _)) (hc.g fun b hb => hb)
        · refine ⟨hA'.room, hc.bare (c.bare hA'.bare), fun b o e => ?_, hl'⟩
          obtain ⟨e1, e2⟩ := fz_some.mp (hA.base b o e)
          replace e1 := not_app e1
          have ew : b ∉ wr := fun hm => by exact nos (hw b hm) e2
          skip
          have en : ∀ V : List Addr, New W V s₁ → b ∉ V := fun V hV hm => (hV b hm).elim e1.1 fun e => by exact nos (e) e2
          refine fz_some.mpr ⟨?_, hc.heap b o (en W' hN) (c5.heap b o (app_not ⟨e1.1, ew⟩) e2)⟩
          exact app_not3 ⟨en W'' N'', ew, e1.2⟩
      cases hlp with
      | next ho h r =>
        refine main ho _ h fun f s₆ s₅ c l hs hp => ?_
        obtain ⟨rfl, g⟩ := hp
        exact go _ s₅ s₆ r c l hs g
      | brk ho h =>
        refine main ho _ h fun f s₆ s₅ c l hs hp => ?_
        obtain ⟨rfl, W'', g1, g2, g3, g4⟩ := hp
        refine hR _ _ (fin _ _ _ s₅ c ⟨rfl, W'', g1, g2, fun b hb => ?_, g4.unshade⟩)
        rcases List.mem_append.mp hb with hb | hb
        · exact g3 b (List.mem_append_left _ hb)
        · exact g3 b (List.mem_append_right _ (List.mem_append_right _ hb))
      | ret ho h =>
        refine main ho _ h fun f s₆ s₅ c l hs hp => ?_
        obtain ⟨v, rfl, g1, g2⟩ := hp
        refine hR _ _ (fin _ _ _ s₅ c ⟨v, rfl, g1, g2.mono (fz_mono (fun b hb => .inl (List.mem_append_right _ hb)) fun b o _ e => e)⟩)
    · have hle : i = items.length := by (exact Nat.le_antisymm (by assumption) (Nat.le_of_not_lt (by assumption)))
      subst hle
      rw [List.drop_length] at hlp
      cases hlp with
      | nil h =>
        refine WP.mono (done σ' W' s hst hA' F') fun r s₃ ⟨hr, c₀⟩ => ?_
        subst hr
        have c : ChgG (W' ++ wr) G s s₃ := ⟨fun b o hb e => c₀.heap b o (fun hm => hb (List.mem_append_right _ hm)) e, c₀.gens, c₀.bare, c₀.drawn, c₀.os⟩
        skip
        have hA₃ : At base k A (W' ++ O) s₃ := by
          refine ⟨hA'.room, c.bare hA'.bare, fun b o e => ?_, fun b hb => ?_⟩
          · obtain ⟨e1, e2⟩ := fz_some.mp (hA'.base b o e)
            replace e1 := not_app3 e1
            refine fz_some.mpr ⟨app_not ⟨e1.1, e1.2.2⟩, c.heap b o (app_not ⟨e1.1, e1.2.1⟩) e2⟩
          · rcases List.mem_append.mp hb with hb | hb
            · obtain ⟨o, e⟩ := hA'.live b (List.mem_append_left _ hb)
              exact ⟨o, c₀.heap b o (fun hm => F'.apart b hb (List.mem_append_left _ hm)) e⟩
            · skip
              obtain ⟨o, e⟩ := hA'.live b (List.mem_append_right _ (List.mem_append_right _ hb))
              exact ⟨o, c.heap b o (app_not ⟨(fun hm => F'.apart b hm (List.mem_append_right _ hb) : b ∉ W'), fun hm => (fun b hb hO => by obtain ⟨o, e⟩ := hA.live b (List.mem_append_right _ hO); exact nos (hw b hb) e : ∀ b ∈ wr, b ∉ O) b hm hb⟩) e⟩
        refine WP.mono (h.run A O W' s₃ hA₃ (F'.moved (h' := s₃.heap) fun b o hb e => c₀.heap b o (fun hm => hb (List.mem_append_left _ hm)) e).unshade) fun f s₄ hp => hR _ _ (fin _ _ _ s₃ c hp)
  · obtain ⟨F₂, hA₂⟩ := F.shade hA st hw fun b hb => hlive _ _ h0 b (hsub b hb)
    exact ⟨0, σ, W, lp, Nat.zero_le _, rfl, h0, .refl _ _, (Chg.step (W := W ++ wr) st).g fun b hb => hb, hA₂, F₂, hfp⟩
end
end Mine
namespace Mine
open PySem PySem.W PySem.Calls PyProof.Rows PySem.Spec

section
variable {prog : Program} {w : World} {base : Heap} {k : Nat} {env : Env} {σ σ₁ σ₂ σ' : Sg} {o : Out}

theorem lookup_items {x : Str} {items : List D} {i : Nat} {bs : List (Str × D)} (h : (items.map fun d => [(x, d)])[i]? = some bs) : ∃ d, items[i]? = some d ∧ bs = [(x, d)] := by
  replace h := (List.getElem?_map) ▸ h
  cases e : items[i]? with
  | none => replace h := (e) ▸ h; cases h
  | some d => replace h := (e) ▸ h; cases h; exact ⟨d, rfl, rfl⟩
theorem offs_one {x : Str} {d : D} (h : offs [(x, d)] σ = true) : offB x σ.lst = true ∧ offB x σ.obj = true := by
  unfold offs at h; simp at h; exact h

theorem for_core {x : Str} {px : Pos} {body orelse : List Stmt} {items : List D} {A : Around} {O W : List Addr} {s₁ : Shared} {v : Value} {d : D} (hA : At base k A (W ++ O) s₁) (F : FsOk base env σ O W s₁.heap) (hr : Rep (fz (W ++ O) s₁.heap) d v)
    (it : Iter prog w base k d items) (hs : Storable env x) (hk : env.scope.kind = .function) (lp : Lp prog w base k env body orelse (items.map fun d => [(x, d)]) σ o) {R : Result → Shared → Prop} (hR : ∀ f s', Post base env O W s₁ o f s' → R (.ok f) s') :
    WP prog w A (pyIter v) (fun it s₂ => codeAny (model prog w) A (.forLoop (.Name x px) it body orelse env) R s₂) s₁ := by
  refine WP.mono (it.run A (W ++ O) s₁ v hA hr) fun itv s₂ ⟨st, I, fp, wr, P, St, e, Wk, hst, hlive, hfp, hwr, hP⟩ => ?_
  subst e
  have Wa := Wk A hA.room.1
  refine loop_ok (St := fun i s => St i s.heap) (fp := fp) (wr := wr) (G := []) (O := O) (W := W) (s₁ := s₁) (fun i s s' h hk _ => Wa.frame _ _ _ h hk) (fun i s h => hlive i _ h) Wa.sub (fun b hb hm => hfp b hb (List.mem_append_left _ hm)) ?_ ?_ hA F st hwr (by simp) hst lp hR
  · intro i bs σ W' s hit hS hA' F' ho hz hfp'
    obtain ⟨d', hd', rfl⟩ := lookup_items hit
    skip
    have hq0 := offs_one ho
    have o1 := hq0.1
    have o2 := hq0.2
    refine Wa.item i s _ _ ((List.getElem?_eq_some_iff.mp hd').1 : i < items.length) hS fun v' h' tk hPv hS' hk' => ⟨v', rfl, ?_⟩
    refine wpAny_of_eq (a := ()) rfl ?_
    have F₃ := F'.moved (h' := h') fun b o hb e => hk' b o (fun hm => hb (List.mem_append_left _ hm)) e
    skip
    obtain ⟨d'', e'', r''⟩ := hP i v' hPv
    replace e'' := (hd') ▸ e''; cases e''
    refine wpAny_assign_Name (store_ok (s := { s with heap := h', toks := tk }) F₃ hk hs fun s₅ hs₅ => ?_)
    have L₃ : Live (W' ++ (wr ++ O)) h' := fun b hb => by
      by_cases q : b ∈ wr
      · exact hlive _ _ hS' b (Wa.sub b q)
      · obtain ⟨o, e⟩ := hA'.live b hb; exact ⟨o, hk' b o q e⟩
    refine ⟨?_, ?_, hs₅.live' L₃, F₃.put hs₅ ((r''.mono hz).mono (fz_mono (fun b hb => .inl hb) fun b o hb e => hk' b o (fun hm => hb (List.mem_append_right _ (List.mem_append_left _ hm))) e : Sub (fz (W' ++ (wr ++ O)) s.heap) (fz (W' ++ (wr ++ O)) h'))) o1 o2⟩
    · obtain ⟨t, ht, hkk, _⟩ := hs₅.keep
      exact Wa.frame _ _ _ hS' fun b hb o e => (hkk b fun q => hfp' b hb (q ▸ ht)).trans e
    · obtain ⟨t, ht, hkk, _⟩ := hs₅.keep
      refine ⟨fun b o hb e => ?_, fun i x _ e => by refine (hs₅.gens) ▸ ?_; exact e, fun hb => by simp only [hs₅.gens]; exact hb, hs₅.drawn, hs₅.os⟩
      replace hb := not_app hb
      exact (hkk b fun q => hb.1 (q ▸ ht)).trans (hk' b o hb.2 e)
  · intro σ W' s hS hA' F'
    rw [List.length_map] at hS
    exact Wa.done s _ _ hS fun h' tk hk' => ⟨rfl, ⟨hk', fun _ _ _ e => e, id, rfl, rfl⟩⟩

theorem bd_for {x : Str} {px pos : Pos} {iter : Expr} {body orelse : List Stmt} {items : List D} {d : D} (h : Ev prog w base k env σ.ρ iter d) (it : Iter prog w base k d items) (hs : Storable env x) (lp : Lp prog w base k env body orelse (items.map fun d => [(x, d)]) σ o)
    (hk : env.scope.kind = .function := by rfl) (hf : ∀ x, foldedSetIterable iter env x = pure x := by intro _; rfl) : Bd prog w base k env (exec (.For (.Name x px) iter body orelse pos) env) σ o :=
  ⟨fun A O W s hA F => by
    refine wpAny_For (WP.mono (h.run A (W ++ O) s hA F.envOk) fun v s₁ ⟨st, r⟩ => ?_) hf
    refine WP.mono (for_core (o := o) (hA.step st) (F.step st) r it hs hk lp (R := fun r s' => match r with | .ok f => Post base env O W s o f s' | .error e => cameBackBy (model prog w) A env (fun _ _ => False) e s') ?_) fun _ _ q => q
    intro f s' hp
    exact hp.step st⟩
theorem bd_forV {x : Str} {px pos : Pos} {iter : Expr} {body orelse : List Stmt} {items : List D} {d : D} (h : Ev prog w base k env σ.all iter d) (it : Iter prog w base k d items) (hs : Storable env x) (lp : Lp prog w base k env body orelse (items.map fun d => [(x, d)]) σ o)
    (hfl : Flat d = true := by rfl) (hk : env.scope.kind = .function := by rfl) (hf : ∀ x, foldedSetIterable iter env x = pure x := by intro _; rfl) : Bd prog w base k env (exec (.For (.Name x px) iter body orelse pos) env) σ o :=
  ⟨fun A O W s hA F => by
    refine wpAny_For (WP.mono (see h hA F) fun v s₁ ⟨st, O', hO, r⟩ => ?_) hf
    refine WP.mono (for_core (o := o) (hA.step st) (F.step st) (r.flat hfl) it hs hk lp (R := fun r s' => match r with | .ok f => Post base env O W s o f s' | .error e => cameBackBy (model prog w) A env (fun _ _ => False) e s') ?_) fun _ _ q => q
    intro f s' hp
    exact hp.step st⟩

inductive Wl (prog : Program) (w : World) (base : Heap) (k : Nat) (env : Env) (test : Expr) (body orelse : List Stmt) : Nat → Sg → Out → Prop
  | done {σ : Sg} {o : Out} (ht : Tst prog w base k env σ.all test false) (h : Bd prog w base k env (execs orelse env) σ o) : Wl prog w base k env test body orelse 0 σ o
  | next {n : Nat} {σ σ₁ : Sg} {o : Out} (ht : Tst prog w base k env σ.all test true) (h : Bd prog w base k env (execs body env) σ (.next σ₁)) (r : Wl prog w base k env test body orelse n σ₁ o) : Wl prog w base k env test body orelse (n + 1) σ o
theorem bd_while {test : Expr} {body orelse : List Stmt} {pos : Pos} {n : Nat} (h : Wl prog w base k env test body orelse n σ o) : Bd prog w base k env (exec (.While test body orelse pos) env) σ o :=
  ⟨fun A O W s hA F => by
    refine wpAny_While (codeAny_whileLoop (fun n s' => ∃ σ' W', Wl prog w base k env test body orelse n σ' o ∧ New W W' s ∧ Chg W s s' ∧ At base k A (W' ++ O) s' ∧ FsOk base env σ' O W' s'.heap) ?_ n ⟨σ, W, h, .refl _ _, .refl _ _, hA, F⟩)
    rintro n s' ⟨σ', W', hw, hn, hc, hA', F'⟩
    cases hw with
    | done ht hb =>
      refine WP.mono (seeT ht hA' F') fun v s₂ ⟨st, e⟩ => ?_
      subst e
      exact WP.mono (hb.run A O W' s₂ (hA'.step st) (F'.step st)) fun f s₃ hp => (hp.step st).trans hn hc
    | next ht hb hr =>
      refine WP.mono (seeT ht hA' F') fun v s₂ ⟨st, e⟩ => ?_
      subst e
      refine WP.mono (hb.run A O W' s₂ (hA'.step st) (F'.step st)) fun f s₃ hp => ?_
      obtain ⟨rfl, W'', a, b, c, F''⟩ := hp
      have c2 : Chg W' s' s₃ := (Chg.step st).trans (.refl _ _) b
      have n2 : New W' W'' s' := (New.refl W' s').trans (Chg.step st) a
      exact ⟨_, Nat.lt_succ_self _, _, W'', hr, hn.trans hc n2, hc.trans hn c2, hA'.chg n2 c2 c, F''⟩⟩

theorem good_step {O W : List Addr} {s s₁ s₂ : Shared} (st : Step s s₁) (h : Good base env σ O W s₁ s₂) : Good base env σ O W s s₂ := let ⟨W', a, b, c, F⟩ := h; ⟨W', (New.refl W s).trans (Chg.step st) a, (Chg.step st).trans (.refl _ _) b, c, F⟩
theorem put2 {O W : List Addr} {s s₁ s₂ : Shared} {x y : Str} {u v : Value} {d e : D} (hL : Live (W ++ O) s.heap) (F : FsOk base env σ O W s.heap) (h₁ : Stored env x u W s s₁) (h₂ : Stored env y v W s₁ s₂) (hu : Rep (fz (W ++ O) s.heap) d u) (hv : Rep (fz (W ++ O) s.heap) e v)
    (x1 : offB x σ.lst = true) (x2 : offB x σ.obj = true) (y1 : offB y σ.lst = true) (y2 : offB y σ.obj = true) : Good base env ⟨(y, e) :: (x, d) :: σ.ρ, σ.lst, σ.obj⟩ O W s s₂ := by
  skip
  exact .of_frame (h₁.chg.trans (.refl _ _) h₂.chg) (h₂.live' (h₁.live' hL)) ((F.put h₁ hu x1 x2).put h₂ (hv.mono h₁.fz) y1 y2)

theorem bd_unpack2 {x y : Str} {px py tpos pos : Pos} {kk : Nat} {value : Expr} {d e : D} (h : Ev prog w base k env σ.ρ value (.tup [d, e])) (hx : Storable env x) (hy : Storable env y) (x1 : offB x σ.lst = true := by rfl) (x2 : offB x σ.obj = true := by rfl) (y1 : offB y σ.lst = true := by rfl) (y2 : offB y σ.obj = true := by rfl)
    (hk : env.scope.kind = .function := by rfl) (hs : swapsWithSole [.Tuple [.Name x px, .Name y py] kk tpos] value pos.line env = pure false := by rfl) (hw : swappedStores [.Tuple [.Name x px, .Name y py] kk tpos] value env = pure Option.none := by rfl) :
    Bd prog w base k env (exec (.Assign [.Tuple [.Name x px, .Name y py] kk tpos] value pos) env) σ (.next ⟨(y, e) :: (x, d) :: σ.ρ, σ.lst, σ.obj⟩) :=
  ⟨fun A O W s hA F => by
    refine Assign_Tuple (WP.mono (h.run A (W ++ O) s hA F.envOk) fun v s₁ ⟨st, r⟩ => ?_) hs hw
    obtain ⟨a, vs, n, rfl, ha, hL⟩ := rep_tup r
    obtain ⟨u, u', rfl, hu, hu'⟩ := RepL.inv2 hL
    refine wpAny_assign_Tuple hA.room.1 ⟨_, fz_heap _ _ ha, rfl, n, rfl⟩ rfl rfl fun h' he => ?_
    have st' : Step s₁ { s₁ with heap := h' } := Step.of (tk := s₁.toks) fun b o e => he b o (Nat.ne_of_lt (Heap.lt_size e)) e
    have F' := (F.step st).step st'
    skip
    refine wpAny_bind (wpAny_holding (wpAny_assign_Name (store_ok F' hk hx fun s₃ h₃ => ?_)))
    refine wpAny_bind (wpAny_holding (wpAny_assign_Name (store_ok (F'.put h₃ (hu.mono (st'.fz _)) x1 x2) hk hy fun s₄ h₄ => wpAny_pure ⟨rfl, ?_⟩)))
    exact good_step (st.trans st') (put2 ((hA.step st).step st').live F' h₃ h₄ (hu.mono (st'.fz _)) (hu'.mono (st'.fz _)) x1 x2 y1 y2)⟩
theorem bd_swap2 {x y : Str} {tpos pos : Pos} {kk : Nat} {ts : List Expr} {value : Expr} {d e : D} (h : Ev prog w base k env σ.ρ value (.tup [d, e])) (hx : Storable env x) (hy : Storable env y)
    (hs : swapsWithSole [.Tuple ts kk tpos] value pos.line env = pure false := by rfl) (hw : swappedStores [.Tuple ts kk tpos] value env = pure (some [x, y]) := by rfl) (x1 : offB x σ.lst = true := by rfl) (x2 : offB x σ.obj = true := by rfl) (y1 : offB y σ.lst = true := by rfl) (y2 : offB y σ.obj = true := by rfl)
    (hk : env.scope.kind = .function := by rfl) :
    Bd prog w base k env (exec (.Assign [.Tuple ts kk tpos] value pos) env) σ (.next ⟨(x, d) :: (y, e) :: σ.ρ, σ.lst, σ.obj⟩) :=
  ⟨fun A O W s hA F => by
    refine Assign_Tuple_swapped (names := [x, y]) (WP.mono (h.run A (W ++ O) s hA F.envOk) fun v s₁ ⟨st, r⟩ => ?_) hs hw
    obtain ⟨a, vs, n, rfl, ha, hL⟩ := rep_tup r
    obtain ⟨u, u', rfl, hu, hu'⟩ := RepL.inv2 hL
    refine wpAny_unpackItems_tuple (items := #[u, u']) hA.room.1 ⟨_, fz_heap _ _ ha, rfl, n, rfl⟩ fun h' he => ?_
    have st' : Step s₁ { s₁ with heap := h' } := Step.of (tk := s₁.toks) fun b o e => he b o (Nat.ne_of_lt (Heap.lt_size e)) e
    have F' := (F.step st).step st'
    skip
    refine wpAny_bind (wpAny_holding (wpAny_bindName (store_ok F' hk hy fun s₃ h₃ => ?_)))
    refine wpAny_bind (wpAny_holding (wpAny_bindName (store_ok (F'.put h₃ (hu'.mono (st'.fz _)) y1 y2) hk hx fun s₄ h₄ => wpAny_pure ⟨rfl, ?_⟩)))
    exact good_step (st.trans st') (put2 ((hA.step st).step st').live F' h₃ h₄ (hu'.mono (st'.fz _)) (hu.mono (st'.fz _)) y1 y2 x1 x2)⟩
theorem bd_assign3 {x y z : Str} {px py pz pos : Pos} {value : Expr} {d : D} (h : Ev prog w base k env σ.ρ value d) (hx : Storable env x) (hy : Storable env y) (hz : Storable env z)
    (x1 : offB x σ.lst = true := by rfl) (x2 : offB x σ.obj = true := by rfl) (y1 : offB y σ.lst = true := by rfl) (y2 : offB y σ.obj = true := by rfl) (z1 : offB z σ.lst = true := by rfl) (z2 : offB z σ.obj = true := by rfl)
    (hk : env.scope.kind = .function := by rfl) (he : (assignEach [.Name x px, .Name y py, .Name z pz] env).map (·.2) = [assign (.Name x px) env, assign (.Name y py) env, assign (.Name z pz) env] := by rfl)
    (hw : swappedStores [.Name x px, .Name y py, .Name z pz] value env = pure Option.none := by rfl) :
    Bd prog w base k env (exec (.Assign [.Name x px, .Name y py, .Name z pz] value pos) env) σ (.next ⟨(z, d) :: (y, d) :: (x, d) :: σ.ρ, σ.lst, σ.obj⟩) :=
  ⟨fun A O W s hA F => by
    refine wpAny_Assign_three (WP.mono (h.run A (W ++ O) s hA F.envOk) fun v s₁ ⟨st, r⟩ => ?_) he hw
    have F₁ := F.step st
    refine wpAny_assign_Name (store_ok F₁ hk hx fun s₂ h₂ => ?_)
    have F₂ := F₁.put h₂ r x1 x2
    refine wpAny_assign_Name (store_ok F₂ hk hy fun s₃ h₃ => ?_)
    have F₃ := F₂.put h₃ (r.mono h₂.fz) y1 y2
    refine wpAny_assign_Name (store_ok F₃ hk hz fun s₄ h₄ => ⟨rfl, ?_⟩)
    exact good_step st (.of_frame ((h₂.chg.trans (.refl _ _) h₃.chg).trans (.refl _ _) h₄.chg) (h₄.live' (h₃.live' (h₂.live' (hA.step st).live))) (F₃.put h₄ ((r.mono h₂.fz).mono h₃.fz) z1 z2))⟩

theorem bd_freeze {t : Sem Flow} {ρ : List (Str × D)} {x : Str} {ds : List D} {obj : Option (Str × (Addr × Addr) × List Str × List D)} (h : Bd prog w base k env t ⟨(x, .list ds) :: ρ, Option.none, obj⟩ o) : Bd prog w base k env t ⟨ρ, some (x, ds), obj⟩ o :=
  ⟨fun A O W s hA F => by
    obtain ⟨a, vs, n, h1, h2, h3, h4⟩ := F.lst x ds rfl
    obtain ⟨m, hns⟩ := F.ns
    have hz : Sub (fz (W ++ O) s.heap) (fz (W.filter (fun b => !(b == a)) ++ O) s.heap) := fz_mono (fun b hb => by
      rw [List.mem_append, List.mem_filter] at hb
      exact .inl (List.mem_append.mpr (hb.imp_left (·.1)))) fun b o _ e => e
    have inn : ∀ b ∈ W, b ≠ a → b ∈ W.filter (fun b => !(b == a)) := fun b hb hne => List.mem_filter.mpr ⟨hb, by simp [hne]⟩
    have sub : ∀ b ∈ W.filter (fun b => !(b == a)), b ∈ W := fun b hb => (List.mem_filter.mp hb).1
    have naO : a ∉ W.filter (fun b => !(b == a)) ++ O := fun hm => by
      replace hm := (List.mem_append).mp hm
      rcases hm with hm | hm
      · simp at hm
      · exact F.apart a h2 hm
    have F' : FsOk base env ⟨(x, .list ds) :: ρ, Option.none, obj⟩ O (W.filter (fun b => !(b == a))) s.heap := by
      refine ⟨inn _ F.loc (Ne.symm (ns_ne hns h3 fun _ _ q => by cases q)), fun b hb => F.apart b (sub b hb), F.ns, fun y c e => ⟨inn _ (F.cells y c e).1 ?_, (F.cells y c e).2⟩, F.inj, fun y d e => ?_, (fun y d e => by cases e), fun y C ns ds e => ?_⟩
      · obtain ⟨_, v, hc⟩ := F.cells y c e; exact Ne.symm (cell_ne hc h3 fun _ q => by cases q)
      · rw [List.lookup_cons] at e
        by_cases q : y = x
        · subst q; simp at e; subst e
          exact ⟨_, h1, of_list (fz_some.mpr ⟨naO, h3⟩) (h4.mono hz)⟩
        · have : (y == x) = false := beq_eq_false_iff_ne.mpr q
          rw [this] at e
          obtain ⟨v, p, q⟩ := F.vars y d e
          exact ⟨v, p, q.mono hz⟩
      · obtain ⟨a', d, es, n, g1, g2, g3, g4, g5, g6, g7, g8, g9⟩ := F.obj y C ns ds e
        refine ⟨a', d, es, n, g1, ⟨inn _ g2.1 ?_, g2.2⟩, inn _ g3 ?_, g4, g5, g6, g7, g8, g9.mono hz⟩
        · intro q; simp only [q, h3] at g6; cases g6
        · intro q; rw [q, h3] at g7
          have := congrArg (fun o => o.map (·.data)) g7
          cases this
    skip
    have hA' : At base k A (W.filter (fun b => !(b == a)) ++ O) s := ⟨hA.room, hA.bare, hA.base.trans hz, fun b hb => hA.live b (by
      rw [List.mem_append] at hb ⊢; exact hb.imp_left (sub b))⟩
    exact WP.mono (h.run A O _ s hA' F') fun f s' hp => hp.trans (fun b hb => .inl (sub b hb) : New W (W.filter (fun b => !(b == a))) s) (.refl _ _)⟩

theorem bd_setItem {x : Str} {px ps pos : Pos} {i value : Expr} {ds : List D} {j : Int} {d : D} (hl : σ.lst = some (x, ds)) (h : Ev prog w base k env σ.all value d) (hi : Ev prog w base k env σ.all i (.int j)) (h0 : 0 ≤ j) (hj : j < ds.length) (hlen : ds.length ≤ sizeLine) (hf : Flat d = true := by rfl)
    (hk : env.scope.kind = .function := by rfl) (hd : (x == ("__debug__" : Str)) = false := by decide) (hs : swapsWith value (some (.Subscript (.Name x px) i ps)) pos.line env = pure false := by rfl) :
    Bd prog w base k env (exec (.Assign [.Subscript (.Name x px) i ps] value pos) env) σ (.next ⟨σ.ρ, some (x, ds.set j.toNat d), σ.obj⟩) :=
  ⟨fun A O W s hA F => by
    refine wpAny_Assign_Subscript (WP.mono (see h hA F) fun v s₁ ⟨st, O', _, r⟩ => ?_) hs
    have F₁ := F.step st
    obtain ⟨a, vs, n, h1, h2, h3, h4⟩ := F₁.lst x ds hl
    refine wpAny_Name (loadName_ok (O := O) (ρ := σ.ρ) (h := s.heap) h1 hk ?_) hd
    refine WP.mono (see hi (hA.step st) F₁) fun iv s₂ ⟨st₂, O'', _, r₂⟩ => ?_
    obtain ⟨t, rfl⟩ := rep_int r₂
    have F₂ := F₁.step st₂
    have h3' := st₂.heap _ _ h3
    skip
    refine ki_setAt (items := vs.toArray) (n := n) h3' h0 (by simp only [sizeLine_eq] at hlen; (exact Int.lt_trans hj (q7 (c := 2 ^ 63) hlen rfl))) (by simp only [List.size_toArray, (h4.length)]; exact hj) ?_
    have hsb : Heap.SameBut a s₂.heap (s₂.heap.update a (Obj.mapSeq (·.setIfInBounds j.toNat v))) := Heap.SameBut.update ..
    have hp : (s₂.heap.update a (Obj.mapSeq (·.setIfInBounds j.toNat v))).get? a = some (listObj (vs.set j.toNat v) n) := by
      have q := IsL.update (n := n) (items := vs.toArray) h3' (·.setIfInBounds j.toNat v)
      have e : (vs.toArray.setIfInBounds j.toNat v) = (vs.set j.toNat v).toArray := by simp
      rw [e] at q
      skip
      simp only [(by simp : (if (vs.set j.toNat v).toArray.size == vs.toArray.size then n else n + 1) = n)] at q
      exact q
    generalize s₂.heap.update a (Obj.mapSeq (·.setIfInBounds j.toNat v)) = h' at hsb hp
    have ne : env.locals ≠ a := fun q => by obtain ⟨m, hns⟩ := F₂.ns; exact ns_ne hns h3' (fun _ _ q => by cases q) q.symm
    have hz : Sub (fz (W ++ O) s₂.heap) (fz (W ++ O) h') := fz_mono (fun b hb => .inl hb) fun b o hb e => (hsb.2 b fun q => hb (q ▸ List.mem_append_left _ h2)).trans e
    have hv : ∀ y u, VarIs env s₂.heap y u → VarIs env h' y u := fun y u hv => by
      rcases hv with ⟨a', m, n, e⟩ | ⟨c, a', b, e⟩
      · exact .inl ⟨a', m, n.sameBut hsb ne, e⟩
      · exact .inr ⟨c, a', b, e.sameBut hsb fun q => cell_ne e h3' (fun _ q => by cases q) q.symm⟩
    refine ⟨rfl, .of_frame ?_ ?_ ?_⟩
    · exact (Chg.step (st.trans st₂)).trans (.refl _ _) ⟨fun b o hb e => (hsb.2 b fun q => hb (q ▸ h2)).trans e, fun _ _ e => e, id, rfl, rfl⟩
    · intro b hb
      by_cases q : b = a
      · subst q; exact ⟨_, hp⟩
      · obtain ⟨o, e⟩ := ((hA.step st).step st₂).live b hb; exact ⟨o, (hsb.2 b q).trans e⟩
    · refine ⟨F₂.loc, F₂.apart, let ⟨m, hn⟩ := F₂.ns; ⟨m, hn.sameBut hsb ne⟩, fun y c e => ⟨(F₂.cells y c e).1, let ⟨v, hc⟩ := (F₂.cells y c e).2; ⟨v, hc.sameBut hsb fun q => cell_ne hc h3' (fun _ q => by cases q) q.symm⟩⟩, F₂.inj, fun y d' e => ?_, fun y ds' e => ?_, fun y C ns ds' e => ?_⟩
      · obtain ⟨u, p, q⟩ := F₂.vars y d' e; exact ⟨u, hv y u p, q.mono hz⟩
      · cases e
        exact ⟨a, vs.set j.toNat v, n, hv _ _ (h1.sub st₂.heap), h2, hp, ((h4.mono (st₂.fz _)).set (r.flat hf)).mono hz⟩
      · obtain ⟨a', d', es, m, g1, g2, g3, g4, g5, g6, g7, g8, g9⟩ := F₂.obj y C ns ds' e
        refine ⟨a', d', es, m, hv _ _ g1, g2, g3, g4, g5, (hsb.2 _ fun q => ?_).trans g6, (hsb.2 _ fun q => ?_).trans g7, g8, g9.mono hz⟩
        · simp only [q, h3'] at g6; cases g6
        · rw [q, h3'] at g7
          have := congrArg (fun o => o.map (·.data)) g7
          cases this⟩
end
end Mine
namespace Mine
open PySem PySem.W PySem.Calls PyProof.Rows PySem.Spec

theorem zip_lookup {g : View} : ∀ {xs : List Str} {ds : List D} {vs : List Value}, RepL g ds vs → xs.Nodup → ∀ {x : Str} {d : D}, (xs.zip ds).lookup x = some d → ∃ v, (xs.zip vs).reverse.lookup x = some v ∧ Rep g d v
  | [], _, _, _, _, x, d, e => by cases e
  | _ :: _, [], _, _, _, x, d, e => by cases e
  | y :: ys, d₀ :: ds, vs, h, hn, x, d, e => by
    obtain ⟨v, r, rfl, hv, hr⟩ := RepL.inv h
    rw [List.zip_cons_cons, List.lookup_cons] at e
    rw [List.nodup_cons] at hn
    simp only [List.zip_cons_cons, List.reverse_cons, List.lookup_append]
    by_cases q : x = y
    · subst q
      simp at e; subst e
      refine ⟨v, ?_, hv⟩
      have : ((ys.zip r).reverse).lookup x = none := by
        rw [List.lookup_eq_none_iff]
        intro p hp
        replace hp := (List.mem_reverse).mp hp
        have := (List.of_mem_zip (a := p.1) (b := p.2) hp).1
        rw [bne_iff_ne]
        intro q; exact hn.1 (q ▸ this)
      rw [this]
      skip
      simp
    · rw [beq_eq_false_iff_ne.mpr q] at e
      obtain ⟨u, h1, h2⟩ := zip_lookup hr hn.2 e
      exact ⟨u, by rw [h1]; rfl, h2⟩

section
variable {prog : Program} {w : World} {base : Heap} {k : Nat}

theorem start_frame {A : Around} {O : List Addr} {s : Shared} {a : Addr} {fd : FuncData} {xs : List Str} {ds : List D} {vs : List Value} {h₀ : Heap} {tk : Nat} (hA : At base (k + 1) A O s) (hv : RepL (fz O s.heap) ds vs) (hnd : xs.Nodup)
    (hloc : ∀ x ∈ xs, fd.scope.names.lookup x = some .local) (hclo : fd.closure = []) (hns : h₀.Ns s.heap.objs.size (fun x => (xs.zip vs).reverse.lookup x)) (hkeep : ∀ b o, s.heap.get? b = some o → h₀.get? b = some o) :
    At base k (A.deeper (callEnv fd s.heap.objs.size a)) ([s.heap.objs.size] ++ O) { s with heap := h₀, toks := tk } ∧ FsOk base (callEnv fd s.heap.objs.size a) ⟨xs.zip ds, none, none⟩ O [s.heap.objs.size] h₀ := by
  skip
  have hz : Sub (fz O s.heap) (fz ([s.heap.objs.size] ++ O) h₀) := fz_mono (fun b hb => by
    rw [List.mem_append, List.mem_singleton] at hb
    rcases hb with rfl | hb
    · exact .inr (new_none s)
    · exact .inl hb) fun b o _ e => hkeep b o e
  refine ⟨⟨hA.room.deeper _, hA.bare, hA.base.trans hz, fun b hb => ?_⟩, ⟨List.mem_singleton.mpr rfl, fun b hb => ?_, ⟨_, hns⟩, fun x c e => ?_, fun x y c e => ?_, fun x d e => ?_, (fun x ds e => by cases e), (fun x C ns ds e => by cases e)⟩⟩
  · rw [List.mem_append, List.mem_singleton] at hb
    rcases hb with rfl | hb
    · obtain ⟨o, es, ep, e, _⟩ := hns; exact ⟨o, e⟩
    · obtain ⟨o, e⟩ := hA.live b hb; exact ⟨o, hkeep b o e⟩
  · rw [List.mem_singleton] at hb; subst hb; exact (hA.live.new : s.heap.objs.size ∉ O)
  · rw [show (callEnv fd s.heap.objs.size a).cells = fd.closure from rfl, hclo] at e; cases e
  · rw [show (callEnv fd s.heap.objs.size a).cells = fd.closure from rfl, hclo] at e; cases e
  · obtain ⟨v, h1, h2⟩ := zip_lookup hv hnd e
    have hx : x ∈ xs := by
      have : (x, d) ∈ xs.zip ds := mem_of_lookup e
      exact (List.of_mem_zip this).1
    exact ⟨v, .inl ⟨hloc x hx, _, hns, h1⟩, h2.mono hz⟩

theorem fn_def {a : Addr} {o : Obj} {fd : FuncData} {body : List Stmt} {xs : List Str} {ds : List D} {d : D} {o' : Out} (ho : base.get? a = some o) (hdata : o.data = .func fd) (hbody : fd.body = .stmts body) (hlim : base.NoLimit) (hcd : base.CodeRec fd.code fd.qualname)
    (hclo : fd.closure = []) (hlen : ds.length = xs.length) (hbind : ∀ vs : List Value, vs.length = xs.length → bindArgs fd ⟨vs, []⟩ = pure (xs.zip vs)) (hcell : ∀ x ∈ fd.scope.names, x.2 ≠ .cell) (hloc : ∀ x ∈ xs, fd.scope.names.lookup x = some .local) (hnd : xs.Nodup)
    (h : ∀ L, Bd prog w base k (callEnv fd L a) (execs body (callEnv fd L a)) ⟨xs.zip ds, none, none⟩ o') (hout : o' = .ret d ∨ ((∃ σ, o' = .next σ) ∧ d = .none))
    (hco : fd.scope.isCoroutine = false := by rfl) (hgen : fd.scope.isGenerator = false := by rfl) (hk : fd.scope.kind = .function := by rfl) :
    Fn prog w base (k + 1) (fun vs => call (.ref a) vs) ds d := .mk fun A O s vs hA hv => by
  skip
  refine wpAny_call (codeAny_call_def (binds := xs.zip vs) hA.room.depth (hA.get _ _ ho) hdata (hlim.keeps hA.get) (hcd.keeps hA.get) hbody (.of_eq (hbind vs ((hv.length).trans hlen))) hcell (fun x hx => hloc x.1 (List.of_mem_zip (a := x.1) (b := x.2) hx).1) (fun h₀ hns hkeep => ?_) hco hgen hk)
  have hq0 := start_frame (a := a) (fd := fd) (tk := s.toks + (xs.zip vs).length) hA hv hnd hloc hclo hns hkeep
  have hA' := hq0.1
  have F := hq0.2
  refine WP.mono ((h s.heap.objs.size).run _ O _ _ hA' F) fun f s' hp => ?_
  have fin : ∀ c : Chg [s.heap.objs.size] { s with heap := h₀, toks := s.toks + (xs.zip vs).length } s', Step s s' := fun c =>
    ⟨fun b o e => c.heap b o (fun hm => by replace hm := (List.mem_singleton).mp hm; subst hm; exact absurd (Heap.lt_size e) (Nat.lt_irrefl _)) (hkeep b o e), c.gens, c.bare, c.drawn, c.os⟩
  rcases hout with rfl | ⟨⟨σ, rfl⟩, rfl⟩
  · obtain ⟨v, rfl, c, r⟩ := hp
    exact ⟨fin c, r⟩
  · obtain ⟨rfl, W', n, c, l, F'⟩ := hp
    exact ⟨fin c, by rfl⟩

-- truth
theorem truthy_bool {b : Bool} : Truthy prog w base k (.bool b) b := .mk fun A O s v hA r => by
  have := rep_bool r; subst this
  exact wpAny_truthy_bool ⟨Step.refl s, rfl⟩
theorem truthy_int {i : Int} : Truthy prog w base k (.int i) (i != 0) := .mk fun A O s v hA r => by
  obtain ⟨t, rfl⟩ := rep_int r
  exact P.truthy_int ⟨Step.refl s, rfl⟩
theorem truthy_str {x : Str} (hx : x.length ≤ sizeLine) : Truthy prog w base k (.str x) ((x.length : Int) != 0) := .mk fun A O s v hA r => by
  obtain ⟨t, rfl⟩ := rep_str r
  exact P.truthy_str (by simp only [sizeLine_eq] at hx; (exact Int.not_le.mpr (q7 (c := 2 ^ 63) hx rfl))) ⟨Step.toks s _, rfl⟩
variable {env : Env} {ρ : List (Str × D)}
theorem tst_plain {e : Expr} {d : D} {b : Bool} (h : Ev prog w base k env ρ e d) (ht : Truthy prog w base k d b) (he : isTrue e env (eval e env) = (do let v ← eval e env; standAt e.pos; holding [v] (truthy v)) := by rfl) : Tst prog w base k env ρ e b := .mk fun A O s hA hE =>
  isTrue_plain (WP.mono (h.run A O s hA hE) fun v s₁ ⟨st, r⟩ => WP.mono (ht.run A O s₁ v (hA.step st) r) fun c s₂ ⟨st₂, e⟩ => ⟨st.trans st₂, e⟩) he
theorem tst_not {x : Expr} {pos : Pos} {b : Bool} (h : Tst prog w base k env ρ x b) : Tst prog w base k env ρ (.UnaryOp .Not x pos) (!b) := .mk fun A O s hA hE =>
  wpAny_isTrue_Not (WP.mono (h.run A O s hA hE) fun v s₁ ⟨st, e⟩ => ⟨st, by exact congrArg _ (e)⟩)
theorem tst_or {x y : Expr} {pos : Pos} {b c : Bool} (h : Tst prog w base k env ρ x b) (h' : b = false → Tst prog w base k env ρ y c) : Tst prog w base k env ρ (.BoolOp .Or [x, y] pos) (b || c) := .mk fun A O s hA hE => by
  show WP prog w A (do
    match BoolOp.Or, ← isTrue x env (eval x env) with
    | .And, false => pure false
    | .Or, true => pure true
    | _, _ => do
      match BoolOp.Or, ← isTrue y env (eval y env) with
      | .And, false => pure false
      | .Or, true => pure true
      | _, _ => pure (BoolOp.Or == .And)) _ s
  refine wpAny_bind (WP.mono (h.run A O s hA hE) fun v s₁ ⟨st, e⟩ => ?_)
  subst e
  cases v with
  | true => exact wpAny_pure ⟨st, rfl⟩
  | false =>
    refine wpAny_bind (WP.mono ((h' rfl).run A O s₁ (hA.step st) (hE.step st)) fun u s₂ ⟨st₂, e₂⟩ => ?_)
    subst e₂
    cases u with
    | true => exact wpAny_pure ⟨st.trans st₂, rfl⟩
    | false => exact wpAny_pure ⟨st.trans st₂, rfl⟩
theorem ev_or {x y : Expr} {pos : Pos} {d e d' : D} {b : Bool} (h : Ev prog w base k env ρ x d) (ht : Truthy prog w base k d b) (h' : b = false → Ev prog w base k env ρ y e) (h1 : b = true → d' = d) (h2 : b = false → d' = e) : Ev prog w base k env ρ (.BoolOp .Or [x, y] pos) d' := .mk fun A O s hA hE => by
  refine wpAny_Or2 (WP.mono (h.run A O s hA hE) fun v s₁ ⟨st, r⟩ => WP.mono (ht.run A O s₁ v (hA.step st) r) fun c s₂ ⟨st₂, e₂⟩ => ?_)
  subst e₂
  cases c with
  | true => rw [h1 rfl]; exact ⟨st.trans st₂, r.mono (st₂.fz O)⟩
  | false => rw [h2 rfl]; exact WP.mono ((h' rfl).run A O s₂ (hA.step (st.trans st₂)) (hE.step (st.trans st₂))) fun u s₃ ⟨st₃, r₃⟩ => ⟨(st.trans st₂).trans st₃, r₃⟩
theorem ev_and {x y : Expr} {pos : Pos} {d e d' : D} {b : Bool} (h : Ev prog w base k env ρ x d) (ht : Truthy prog w base k d b) (h' : b = true → Ev prog w base k env ρ y e) (h1 : b = false → d' = d) (h2 : b = true → d' = e) : Ev prog w base k env ρ (.BoolOp .And [x, y] pos) d' := .mk fun A O s hA hE => by
  refine wpAny_And2 (WP.mono (h.run A O s hA hE) fun v s₁ ⟨st, r⟩ => WP.mono (ht.run A O s₁ v (hA.step st) r) fun c s₂ ⟨st₂, e₂⟩ => ?_)
  subst e₂
  cases c with
  | false => rw [h1 rfl]; exact ⟨st.trans st₂, r.mono (st₂.fz O)⟩
  | true => rw [h2 rfl]; exact WP.mono ((h' rfl).run A O s₂ (hA.step (st.trans st₂)) (hE.step (st.trans st₂))) fun u s₃ ⟨st₃, r₃⟩ => ⟨(st.trans st₂).trans st₃, r₃⟩
end
end Mine
namespace Mine
open PySem PySem.W PySem.Calls PyProof.Rows PySem.Spec

structure Cf (base : Heap) (env : Env) (tg : List Str) (ρ : List (Str × D)) (a : Addr) (ds : List D) (O W : List Addr) (h : Heap) : Prop where
  loc : env.locals ∈ W
  apart : ∀ b ∈ W, b ∉ O
  ns : ∃ m, h.Ns env.locals m
  tgt : ∀ x ∈ tg, env.kindOf x = some .local ∨ (env.kindOf x = some .cell ∧ ∃ c, env.cells.lookup x = some c ∧ c ∈ W ∧ (∃ v, h.IsCell c v) ∧ ∀ y, env.cells.lookup y = some c → y = x)
  vars : ∀ x d, ρ.lookup x = some d → ∃ v, VarIs env h x v ∧ Rep (fz (W ++ O) h) d v
  acc : ∃ vs n, a ∈ W ∧ h.get? a = some (listObj vs n) ∧ RepL (fz (W ++ O) h) ds vs
  cl : ∀ y c, env.cells.lookup y = some c → c ≠ a ∧ ∃ o, h.get? c = some o

section
variable {prog : Program} {w : World} {base : Heap} {k : Nat} {env : Env} {tg : List Str} {ρ : List (Str × D)} {a : Addr} {ds : List D}

theorem Cf.envOk {O W : List Addr} {h : Heap} (C : Cf base env tg ρ a ds O W h) : EnvOk base env ρ (W ++ O) h := ⟨List.mem_append_left _ C.loc, C.ns, fun y c e => (C.cl y c e).2, C.vars⟩
theorem Cf.le {ρ' : List (Str × D)} {O W : List Addr} {h : Heap} (C : Cf base env tg ρ a ds O W h) (l : ∀ x d, ρ'.lookup x = some d → ρ.lookup x = some d) : Cf base env tg ρ' a ds O W h := { C with vars := fun x d e => C.vars x d (l x d e) }
theorem Cf.grow {O W V : List Addr} {s s' : Shared} (C : Cf base env tg ρ a ds O W s.heap) (st : Step s s') (hl : Live (W ++ O) s.heap) (hV : ∀ b ∈ V, s.heap.get? b = none) : Cf base env tg ρ a ds O (V ++ W) s'.heap := by
  have hz : Sub (fz (W ++ O) s.heap) (fz ((V ++ W) ++ O) s'.heap) := fz_mono (fun b hb => by
    rw [List.append_assoc, List.mem_append] at hb
    exact hb.elim (fun h => .inr (hV b h)) .inl) fun b o _ e => st.heap b o e
  refine ⟨List.mem_append_right _ C.loc, fun b hb hO => ?_, let ⟨m, n⟩ := C.ns; ⟨m, n.keeps st.heap⟩, fun x hx => ?_, fun x d e => ?_, ?_, fun y c e => ?_⟩
  · rcases List.mem_append.mp hb with hb | hb
    · obtain ⟨o, e⟩ := hl b (List.mem_append_right _ hO); exact nos (hV b hb) e
    · exact C.apart b hb hO
  · rcases C.tgt x hx with h | ⟨h1, c, h2, h3, ⟨v, h4⟩, h5⟩
    · exact .inl h
    · exact .inr ⟨h1, c, h2, List.mem_append_right _ h3, ⟨v, IsCell.sub h4 st.heap⟩, h5⟩
  · obtain ⟨v, p, q⟩ := C.vars x d e; exact ⟨v, p.sub st.heap, q.mono hz⟩
  · obtain ⟨vs, n, h1, h2, h3⟩ := C.acc
    exact ⟨vs, n, List.mem_append_right _ h1, st.heap _ _ h2, h3.mono hz⟩
  · obtain ⟨h1, o, h2⟩ := C.cl y c e; exact ⟨h1, o, st.heap _ _ h2⟩
theorem Cf.step {O W : List Addr} {s s' : Shared} (C : Cf base env tg ρ a ds O W s.heap) (st : Step s s') (hl : Live (W ++ O) s.heap) : Cf base env tg ρ a ds O W s'.heap := C.grow (V := []) st hl (by simp)
theorem Cf.moved {O W V : List Addr} {h h' : Heap} (C : Cf base env tg ρ a ds O W h) (hV : ∀ b ∈ V, b ∈ W ++ O) (hk : ∀ b o, b ∉ V → h.get? b = some o → h'.get? b = some o) (h1 : env.locals ∉ V) (h2 : a ∉ V) (h3 : ∀ x c, env.cells.lookup x = some c → c ∉ V) : Cf base env tg ρ a ds O W h' := by
  have hz : Sub (fz (W ++ O) h) (fz (W ++ O) h') := fz_mono (fun b hb => .inl hb) fun b o hb e => hk b o (fun hm => hb (hV b hm)) e
  have hv : ∀ y u, VarIs env h y u → VarIs env h' y u := fun y u hv => by
    rcases hv with ⟨p, m, n, e⟩ | ⟨c, p, q, e⟩
    · exact .inl ⟨p, m, n.at' fun o e => hk _ o h1 e, e⟩
    · obtain ⟨o, e1, e2⟩ := e; exact .inr ⟨c, p, q, o, hk _ _ (h3 y c q) e1, e2⟩
  refine ⟨C.loc, C.apart, let ⟨m, n⟩ := C.ns; ⟨m, n.at' fun o e => hk _ o h1 e⟩, fun x hx => ?_, fun x d e => ?_, ?_, fun y c e => let ⟨g1, o, g2⟩ := C.cl y c e; ⟨g1, o, hk _ _ (h3 y c e) g2⟩⟩
  · rcases C.tgt x hx with h | ⟨g1, c, g2, g3, ⟨v, o, e1, e2⟩, g5⟩
    · exact .inl h
    · exact .inr ⟨g1, c, g2, g3, ⟨v, o, hk _ _ (h3 x c g2) e1, e2⟩, g5⟩
  · obtain ⟨v, p, q⟩ := C.vars x d e; exact ⟨v, hv _ _ p, q.mono hz⟩
  · obtain ⟨vs, n, g1, g2, g3⟩ := C.acc
    exact ⟨vs, n, g1, hk _ _ h2 g2, g3.mono hz⟩

theorem Cf.store {O W : List Addr} {A : Around} {s : Shared} {E : Value → Shared → Prop} {Q : Unit → Shared → Prop} {x : Str} {v : Value} {d : D} (C : Cf base env tg ρ a ds O W s.heap) (hk : env.scope.kind = .function) (hx : x ∈ tg) (hr : Rep (fz (W ++ O) s.heap) d v) (hl : Live (W ++ O) s.heap)
    (h : ∀ s', Chg W s s' → Live (W ++ O) s'.heap → Cf base env tg ((x, d) :: ρ) a ds O W s'.heap → (∃ t, (t = env.locals ∨ (env.kindOf x = some .cell ∧ env.cells.lookup x = some t)) ∧ ∀ b, b ≠ t → s'.heap.get? b = s.heap.get? b) → Q () s') : wpAny (model prog w) A (storeName env x v) Q E s := by
  obtain ⟨m, hns⟩ := C.ns
  obtain ⟨vs, n, ha, hg, hL⟩ := C.acc
  have aL : a ≠ env.locals := ns_ne hns hg fun _ _ q => by cases q
  have look : ∀ {t : Addr} {h' : Heap}, t ∈ W → Heap.SameBut t s.heap h' → Sub (fz (W ++ O) s.heap) (fz (W ++ O) h') := fun ht hb => fz_mono (fun b hb => .inl hb) fun b o hbo e => (hb.2 b fun q => hbo (q ▸ List.mem_append_left _ ht)).trans e
  rcases C.tgt x hx with hloc | ⟨hc1, c, hc2, hc3, ⟨v₀, hc4⟩, hc5⟩
  · refine wpAny_storeName_local hloc hns (fun h' hn hb => ?_) (by refine (hk) ▸ ?_; rfl)
    have hz := look C.loc hb
    refine h _ ⟨fun b o hbo e => (hb.2 b fun q => hbo (q ▸ C.loc)).trans e, fun _ _ e => e, id, rfl, rfl⟩ (fun b hbm => ?_) ⟨C.loc, C.apart, ⟨_, hn⟩, fun y hy => ?_, fun y d' e => ?_, ⟨vs, n, ha, (hb.2 a aL).trans hg, hL.mono hz⟩, fun y c e => ?_⟩ ⟨_, .inl rfl, hb.2⟩
    · by_cases q : b = env.locals
      · subst q; obtain ⟨o, _, _, e, _⟩ := hn; exact ⟨o, e⟩
      · obtain ⟨o, e⟩ := hl b hbm; exact ⟨o, (hb.2 b q).trans e⟩
    · rcases C.tgt y hy with g | ⟨g1, c, g2, g3, ⟨v', o, e1, e2⟩, g5⟩
      · exact .inl g
      · exact .inr ⟨g1, c, g2, g3, ⟨v', o, (hb.2 c (ns_ne hns e1 fun _ _ q => by rw [e2] at q; cases q)).trans e1, e2⟩, g5⟩
    · rw [List.lookup_cons] at e
      by_cases q : y = x
      · subst q; simp at e; subst e
        exact ⟨v, .inl ⟨hloc, _, hn, by exact if_pos rfl⟩, hr.mono hz⟩
      · rw [beq_eq_false_iff_ne.mpr q] at e
        obtain ⟨u, p, r⟩ := C.vars y d' e
        refine ⟨u, ?_, r.mono hz⟩
        rcases p with ⟨p1, m', n', e'⟩ | ⟨c, p1, p2, o, e1, e2⟩
        · refine .inl ⟨p1, _, hn, ?_⟩
          have : m y = some u := by
            obtain ⟨o, es, ep, e1, e2, _, e3⟩ := hns
            obtain ⟨o', es', ep', e1', e2', _, e3'⟩ := n'
            replace e1' := (e1) ▸ e1'; cases e1'
            replace e2' := (e2) ▸ e2'; cases e2'
            simp only [← e3, e3', e']
          simp [q, this]
        · exact .inr ⟨c, p1, p2, o, (hb.2 c (ns_ne hns e1 fun _ _ q => by rw [e2] at q; cases q)).trans e1, e2⟩
    · obtain ⟨g1, o, g2⟩ := C.cl y c e
      refine ⟨g1, ?_⟩
      by_cases q : c = env.locals
      · subst q; obtain ⟨o', _, _, e', _⟩ := hn; exact ⟨o', e'⟩
      · exact ⟨o, (hb.2 c q).trans g2⟩
  · have cL : c ≠ env.locals := by obtain ⟨o, e1, e2⟩ := hc4; exact ns_ne hns e1 fun _ _ q => by rw [e2] at q; cases q
    skip
    refine wpAny_storeName_cell hk hc1 hc2 hc4 fun h' hn hb => ?_
    have hz := look hc3 hb
    skip
    refine h _ ⟨fun b o hbo e => (hb.2 b fun q => hbo (q ▸ hc3)).trans e, fun _ _ e => e, id, rfl, rfl⟩ (fun b hbm => ?_) ⟨C.loc, C.apart, ⟨_, (hns.sameBut hb (Ne.symm cL))⟩, fun y hy => ?_, fun y d' e => ?_, ⟨vs, n, ha, (hb.2 a (Ne.symm (fun q => cell_ne hc4 hg (fun _ q => by cases q) q.symm : c ≠ a))).trans hg, hL.mono hz⟩, fun y c' e => ?_⟩ ⟨c, .inr ⟨hc1, hc2⟩, hb.2⟩
    · by_cases q : b = c
      · subst q; obtain ⟨o, e, _⟩ := hn; exact ⟨o, e⟩
      · obtain ⟨o, e⟩ := hl b hbm; exact ⟨o, (hb.2 b q).trans e⟩
    · rcases C.tgt y hy with g | ⟨g1, c', g2, g3, ⟨v', hcc⟩, g5⟩
      · exact .inl g
      · refine .inr ⟨g1, c', g2, g3, ?_, g5⟩
        by_cases q : c' = c
        · subst q; exact ⟨_, hn⟩
        · exact ⟨_, hcc.sameBut hb q⟩
    · rw [List.lookup_cons] at e
      by_cases q : y = x
      · subst q; simp at e; subst e
        exact ⟨v, .inr ⟨c, hc1, hc2, hn⟩, hr.mono hz⟩
      · rw [beq_eq_false_iff_ne.mpr q] at e
        obtain ⟨u, p, r⟩ := C.vars y d' e
        refine ⟨u, ?_, r.mono hz⟩
        rcases p with ⟨p1, m', n', e'⟩ | ⟨c', p1, p2, p3⟩
        · exact .inl ⟨p1, m', n'.sameBut hb (Ne.symm cL), e'⟩
        · exact .inr ⟨c', p1, p2, p3.sameBut hb fun q' => q (hc5 y (q' ▸ p2))⟩
    · obtain ⟨g1, o, g2⟩ := C.cl y c' e
      refine ⟨g1, ?_⟩
      by_cases q : c' = c
      · subst q; obtain ⟨o', e', _⟩ := hn; exact ⟨o', e'⟩
      · exact ⟨o, (hb.2 c' q).trans g2⟩

structure Tsts (prog : Program) (w : World) (base : Heap) (k : Nat) (env : Env) (ρ : List (Str × D)) (ifs : List Expr) (b : Bool) : Prop where
  run : ∀ A O s, At base k A O s → EnvOk base env ρ O s.heap → WP prog w A (forIn ifs true fun c r => if r = true then do let ok ← isTrue c env (eval c env); pure (ForInStep.yield ok) else pure (ForInStep.yield r)) (fun c s' => Step s s' ∧ c = b) s
theorem tsts_nil : Tsts prog w base k env ρ [] true := .mk fun A O s hA hE => by
  skip; exact wpAny_pure ⟨Step.refl s, rfl⟩
theorem tsts_one {c : Expr} {b : Bool} (h : Tst prog w base k env ρ c b) : Tsts prog w base k env ρ [c] b := .mk fun A O s hA hE => by
  rw [List.forIn_cons]
  skip
  refine wpAny_bind (wpAny_bind (WP.mono (h.run A O s hA hE) fun v s' ⟨st, e⟩ => wpAny_pure ?_))
  skip
  skip; exact wpAny_pure ⟨st, e⟩

theorem compTurn_last {elt target iter : Expr} {ifs : List Expr} {gens : List Comprehension} {scope : Scope} {pos : Pos} {j : Nat} {it acc : Value} {env : Env} (hj : gens[j]? = some ⟨target, iter, ifs, 0⟩) (hj' : gens[j + 1]? = none) :
    compTurn (.ListComp elt gens scope pos) j it acc env = (do
      standAt iter.pos
      match ← pyNext it with
      | none => pure (.done .next)
      | some v =>
        letOwnedTupleGo target it v
        assign target env v
        let ok ← (forIn ifs true fun c r => if r = true then do let ok ← isTrue c env (eval c env); pure (ForInStep.yield ok) else pure (ForInStep.yield r))
        if ok = true then (do
            let v ← eval elt env
            let _ ← call (.builtin "list.append") [acc, v]
            pure ()) >>= fun _ => again (.compLoop (.ListComp elt gens scope pos) j it acc env)
        else again (.compLoop (.ListComp elt gens scope pos) j it acc env)) := by
  unfold compTurn
  simp only [hj, hj', bne_self_eq_false, Bool.false_eq_true, if_false]
  rfl
theorem compTurn_more {elt target iter target' iter' : Expr} {ifs ifs' : List Expr} {gens : List Comprehension} {scope : Scope} {pos : Pos} {j : Nat} {it acc : Value} {env : Env} (hj : gens[j]? = some ⟨target, iter, ifs, 0⟩) (hj' : gens[j + 1]? = some ⟨target', iter', ifs', 0⟩) :
    compTurn (.ListComp elt gens scope pos) j it acc env = (do
      standAt iter.pos
      match ← pyNext it with
      | none => pure (.done .next)
      | some v =>
        letOwnedTupleGo target it v
        assign target env v
        let ok ← (forIn ifs true fun c r => if r = true then do let ok ← isTrue c env (eval c env); pure (ForInStep.yield ok) else pure (ForInStep.yield r))
        if ok then do
          let x ← eval iter' env
          standAt iter'.pos
          let x ← foldedSetIterable iter' env x
          let _ ← runOwn (.compStart (.ListComp elt gens scope pos) (j + 1) (← holding [x] (pyIter x)) acc env) env
          again (.compLoop (.ListComp elt gens scope pos) j it acc env)
        else again (.compLoop (.ListComp elt gens scope pos) j it acc env)) := by
  unfold compTurn
  simp only [hj, hj', bne_self_eq_false, Bool.false_eq_true, if_false]
  rfl
theorem compStart_j {elt target iter : Expr} {ifs : List Expr} {gens : List Comprehension} {scope : Scope} {pos : Pos} {j : Nat} {it acc : Value} {env : Env} {A : Around} {s : Shared} {R : Result → Shared → Prop} (hj : gens[j]? = some ⟨target, iter, ifs, 0⟩)
    (h0 : codeAny (model prog w) A (.compLoop (.ListComp elt gens scope pos) j it acc env) R s)
    (h : WP prog w A (pyIter it) (fun it' s' => codeAny (model prog w) A (.compLoop (.ListComp elt gens scope pos) j it' acc env) R s') s) : codeAny (model prog w) A (.compStart (.ListComp elt gens scope pos) j it acc env) R s := by
  refine codeAny_of_tree ?_
  skip
  refine wpAny_notedAt ?_
  unfold compStart
  refine (show (clausesOf (.ListComp elt gens scope pos))[j]? = some ⟨target, iter, ifs, 0⟩ from hj) ▸ ?_
  skip
  refine wpAny_bind (wpAny_askSetting (wpAny_ite ?_))
  split
  · exact wpAny_bind (wpAny_pure (wpAny_pure (And.intro rfl h0)))
  · exact wpAny_bind (wpAny_rule (wpAny_bind (wpAny_standAt (wpAny_bind (WP.mono h fun it' s' h' => wpAny_pure (And.intro rfl h'))))))

noncomputable def EmitOk (prog : Program) (w : World) (base : Heap) (k : Nat) (env : Env) (tg : List Str) (a : Addr) (t : Sem Fin → Sem Fin) (ρ : List (Str × D)) (out : List D) : Prop :=
  ∀ A O W s ds z Q E, At base k A (W ++ O) s → Cf base env tg ρ a ds O W s.heap → ds.length + out.length ≤ sizeLine →
    (∀ s' W', New W W' s → Chg W s s' → Live (W' ++ O) s'.heap → Cf base env tg ρ a (ds ++ out) O W' s'.heap → wpAny (model prog w) A z Q E s') → wpAny (model prog w) A (t z) Q E s

theorem emit_elt {elt : Expr} {d : D} (h : Ev prog w base k env ρ elt d) : EmitOk prog w base k env tg a (fun z => (do
            let v ← eval elt env
            let _ ← call (.builtin "list.append") [.ref a, v]
            pure ()) >>= fun _ => z) ρ [d] := by
  intro A O W s ds z Q E hA C hlen hz'
  refine wpAny_bind (wpAny_bind (WP.mono (h.run A (W ++ O) s hA C.envOk) fun v s₁ ⟨st, r⟩ => ?_))
  have C₁ := C.step st hA.live
  have hcl : ∀ x c, env.cells.lookup x = some c → c ≠ a := fun x c e => (C₁.cl x c e).1
  obtain ⟨vs, n, g1, g2, g3⟩ := C₁.acc
  refine wpAny_bind (wpAny_list_append_plain (items := vs.toArray) ⟨n, g2⟩ (fun h' ⟨n', hp⟩ hsb => wpAny_pure ?_) (by simp only [List.size_toArray, g3.length]; skip; (exact Nat.le_of_lt (by assumption))))
  have hz : Sub (fz (W ++ O) s₁.heap) (fz (W ++ O) h') := fz_mono (fun b hb => .inl hb) fun b o hb e => (hsb.2 b fun q => hb (q ▸ List.mem_append_left _ g1)).trans e
  obtain ⟨m, hns⟩ := C₁.ns
  have aL : env.locals ≠ a := (ns_ne hns g2 fun _ _ q => by cases q).symm
  refine hz' _ W (.refl _ _) ((Chg.step st).trans (.refl _ _) ⟨fun b o hb e => (hsb.2 b fun q => hb (q ▸ g1)).trans e, fun _ _ e => e, id, rfl, rfl⟩) (fun b hb => ?_) ⟨C.loc, C.apart, ⟨m, hns.sameBut hsb aL⟩, fun x hx => ?_, fun x d e => ?_, ⟨vs ++ [v], n', g1, ?_, (g3.append (.one r)).mono hz⟩, fun y c e => let ⟨k1, o, k2⟩ := C₁.cl y c e; ⟨k1, o, (hsb.2 c k1).trans k2⟩⟩
  · by_cases q : b = a
    · subst q; exact ⟨_, hp⟩
    · obtain ⟨o, e⟩ := (hA.step st).live b hb; exact ⟨o, (hsb.2 b q).trans e⟩
  · rcases C₁.tgt x hx with g | ⟨k1, c, k2, k3, ⟨v', k4⟩, k5⟩
    · exact .inl g
    · exact .inr ⟨k1, c, k2, k3, ⟨v', k4.sameBut hsb (hcl x c k2)⟩, k5⟩
  · obtain ⟨u, p, q⟩ := C₁.vars x d e
    refine ⟨u, ?_, q.mono hz⟩
    rcases p with ⟨p1, m', n', e'⟩ | ⟨c, p1, p2, p3⟩
    · exact .inl ⟨p1, m', n'.sameBut hsb aL, e'⟩
    · exact .inr ⟨c, p1, p2, p3.sameBut hsb (hcl x c p2)⟩
  · rw [show listObj (vs ++ [v]) n' = { cls := .type "list", data := .seq (vs.toArray.push v) n' } by simp [listObj]]; exact hp

inductive Outs (P : D → List D → Prop) : List D → List D → Prop
  | nil : Outs P [] []
  | cons {d : D} {r o out : List D} (h : P d o) (t : Outs P r out) : Outs P (d :: r) (o ++ out)
noncomputable def Turn (prog : Program) (w : World) (base : Heap) (k : Nat) (env : Env) (tg : List Str) (a : Addr) (t : Sem Fin → Sem Fin) (ρ : List (Str × D)) (x : Str) (ifs : List Expr) (d : D) (o : List D) : Prop :=
  ∃ b, Tsts prog w base k env ((x, d) :: ρ) ifs b ∧ (b = true → EmitOk prog w base k env tg a t ((x, d) :: ρ) o) ∧ (b = false → o = [])

theorem Cf.shade {O W wr : List Addr} {A : Around} {s₁ s₂ : Shared} (C : Cf base env tg ρ a ds O W s₁.heap) (hA : At base k A (W ++ O) s₁) (st : Step s₁ s₂) (hw : ∀ b ∈ wr, s₁.heap.get? b = none) (hl : ∀ b ∈ wr, ∃ o, s₂.heap.get? b = some o) :
    Cf base env tg ρ a ds (wr ++ O) W s₂.heap ∧ At base k A (W ++ (wr ++ O)) s₂ := by
  have hz : Sub (fz (W ++ O) s₁.heap) (fz (W ++ (wr ++ O)) s₂.heap) := fz_mono (fun b hb => by
    rcases app3 hb with hb | hb | hb
    · exact .inl (List.mem_append_left _ hb)
    · exact .inr (hw b hb)
    · exact .inl (List.mem_append_right _ hb)) fun b o _ e => st.heap b o e
  have C' := C.step st hA.live
  refine ⟨⟨C.loc, fun b hb hm => ?_, C'.ns, C'.tgt, fun x d e => ?_, ?_, C'.cl⟩, ⟨hA.room, st.bare hA.bare, hA.base.trans hz, fun b hb => ?_⟩⟩
  · rcases List.mem_append.mp hm with hm | hm
    · obtain ⟨o, e⟩ := hA.live b (List.mem_append_left _ hb); exact nos (hw b hm) e
    · exact C.apart b hb hm
  · obtain ⟨v, p, q⟩ := C.vars x d e; exact ⟨v, p.sub st.heap, q.mono hz⟩
  · obtain ⟨vs, n, g1, g2, g3⟩ := C.acc; exact ⟨vs, n, g1, st.heap _ _ g2, g3.mono hz⟩
  · rcases app3 hb with hb | hb | hb
    · obtain ⟨o, e⟩ := hA.live b (List.mem_append_left _ hb); exact ⟨o, st.heap b o e⟩
    · exact hl b hb
    · obtain ⟨o, e⟩ := hA.live b (List.mem_append_right _ hb); exact ⟨o, st.heap b o e⟩
theorem Cf.unshade {O W wr : List Addr} {h : Heap} (C : Cf base env tg ρ a ds (wr ++ O) W h) : Cf base env tg ρ a ds O W h := by
  have hz : Sub (fz (W ++ (wr ++ O)) h) (fz (W ++ O) h) := fz_mono (fun b hb => by
    rcases List.mem_append.mp hb with hb | hb
    · exact .inl (List.mem_append_left _ hb)
    · exact .inl (List.mem_append_right _ (List.mem_append_right _ hb))) fun b o _ e => e
  refine ⟨C.loc, fun b hb hm => C.apart b hb (List.mem_append_right _ hm), C.ns, C.tgt, fun x d e => ?_, ?_, C.cl⟩
  · obtain ⟨v, p, q⟩ := C.vars x d e; exact ⟨v, p, q.mono hz⟩
  · obtain ⟨vs, n, g1, g2, g3⟩ := C.acc; exact ⟨vs, n, g1, g2, g3.mono hz⟩

inductive CI (prog : Program) (w : World) (base : Heap) (k : Nat) (env : Env) (tg : List Str) (ρ : List (Str × D)) (a : Addr) (t : Sem Fin → Sem Fin) (x : Str) (ifs : List Expr) (ds items out : List D) (St : Nat → Heap → Prop) (fp wr : List Addr) (O W : List Addr) (s₁ : Shared) (A : Around) (n : Nat) (s : Shared) : Prop
  | mk (i : Nat) (W' : List Addr) (done rest : List D) (hn : items.length = i + n) (hS : St i s.heap) (hN : New W W' s₁) (hC : Chg (W ++ wr) s₁ s) (hA : At base k A (W' ++ (wr ++ O)) s) (hf : ∀ b ∈ fp, b ∉ W')
    (hO : Outs (Turn prog w base k env tg a t ρ x ifs) (items.drop i) rest) (e : out = done ++ rest) (C : Cf base env tg ρ a (ds ++ done) (wr ++ O) W' s.heap)

theorem loopC_core {elt iter : Expr} {x : Str} {px : Pos} {ifs : List Expr} {gens : List Comprehension} {scope : Scope} {pos : Pos} {j : Nat} {A : Around} {O W : List Addr} {s₁ : Shared} {I : Addr} {fp wr : List Addr} {items : List D} {Pv : Nat → Value → Prop} {St : Nat → Heap → Prop} {out : List D} {t : Sem Fin → Sem Fin}
    (hturn : compTurn (.ListComp elt gens scope pos) j (.ref I) (.ref a) env = (do
      standAt iter.pos
      match ← pyNext (.ref I) with
      | none => pure (.done .next)
      | some v =>
        letOwnedTupleGo (.Name x px) (.ref I) v
        assign (.Name x px) env v
        let ok ← (forIn ifs true fun c r => if r = true then do let ok ← isTrue c env (eval c env); pure (ForInStep.yield ok) else pure (ForInStep.yield r))
        if ok = true then t (again (.compLoop (.ListComp elt gens scope pos) j (.ref I) (.ref a) env))
        else again (.compLoop (.ListComp elt gens scope pos) j (.ref I) (.ref a) env)))
    (hk : env.scope.kind = .function) (hx : x ∈ tg) (hρ : ρ.lookup x = none)
    (Wk : Walks prog w A I fp wr items.length Pv St) (hst : St 0 s₁.heap) (hlive : ∀ i h, St i h → ∀ b ∈ fp, ∃ o, h.get? b = some o) (hfp : ∀ b ∈ fp, b ∉ W) (cw : ∀ y c, env.cells.lookup y = some c → c ∉ wr) (wO : ∀ b ∈ wr, b ∉ O)
    (hP : ∀ i v, Pv i v → ∃ d', items[i]? = some d' ∧ Rep (fz (W ++ (wr ++ O)) s₁.heap) d' v) (hA : At base k A (W ++ (wr ++ O)) s₁) (C : Cf base env tg ρ a ds (wr ++ O) W s₁.heap)
    (ho : Outs (Turn prog w base k env tg a t ρ x ifs) items out) (hlen : ds.length + out.length ≤ sizeLine)
    {R : Result → Shared → Prop} (hR : ∀ s' W', New W W' s₁ → Chg (W ++ wr) s₁ s' → Live (W' ++ O) s'.heap → Cf base env tg ρ a (ds ++ out) O W' s'.heap → R (.ok .next) s') : codeAny (model prog w) A (.compLoop (.ListComp elt gens scope pos) j (.ref I) (.ref a) env) R s₁ := by
  have Ww : ∀ b ∈ W, b ∉ wr := fun b hb hm => C.apart b hb (List.mem_append_left _ hm)
  have Lw : env.locals ∉ wr := Ww _ C.loc
  have aw : a ∉ wr := by obtain ⟨vs, n, e, _⟩ := C.acc; exact Ww _ e
  refine codeAny_loop rfl (CI prog w base k env tg ρ a t x ifs ds items out St fp wr O W s₁ A) ?_ items.length ?_
  · rintro n s ⟨i, W', done, rest, hn, hS, hN, hC, hA', hf, hO, rfl, C'⟩
    show wpAny _ A ((compTurn (.ListComp elt gens scope pos) j (.ref I) (.ref a) env).onRaise (fun x => do noteFrame x env; theTreesLotGoes x)) _ _ s
    refine wpAny_noted ?_
    refine (hturn) ▸ ?_
    refine wpAny_bind (wpAny_standAt ?_)
    have inO : ∀ b ∈ wr, b ∈ W' ++ (wr ++ O) := fun b hb => List.mem_append_right _ (List.mem_append_left _ hb)
    cases n with
    | zero =>
      have hi : items.length = i := by (assumption)
      refine wpAny_bind (Wk.done s _ _ (hi ▸ hS) fun h' tk hk' => wpAny_pure ?_)
      have hO' : rest = [] := by
        simp only [← hi, List.drop_length] at hO; cases hO; rfl
      subst hO'
      refine hR _ W' hN ⟨fun b o hb e => hk' b o (fun hm => hb (List.mem_append_right _ hm)) (hC.heap b o hb e), hC.gens, hC.bare, hC.drawn, hC.os⟩ (fun b hb => ?_) ?_
      · rw [List.mem_append] at hb
        have nb : b ∉ wr := fun hm => by
          rcases hb with hb | hb
          · exact C'.apart b hb (List.mem_append_left _ hm)
          · exact wO b hm hb
        obtain ⟨o, e⟩ := hA'.live b (by
          rw [List.mem_append, List.mem_append]
          rcases hb with hb | hb
          · exact .inl hb
          · exact .inr (.inr hb))
        exact ⟨o, hk' b o nb e⟩
      · simp only [List.append_nil]
        exact (C'.moved (h' := h') inO hk' Lw aw cw).unshade
    | succ n =>
      have hlt : i < items.length := by (simp [*])
      replace hO := (List.drop_eq_getElem_cons hlt) ▸ hO
      cases hO with
      | cons hd ht =>
      rename_i o rest'
      obtain ⟨b, hT, hb1, hb0⟩ := hd
      refine wpAny_bind (Wk.item i s _ _ hlt hS fun v h' tk hPv hS' hk' => ?_)
      skip
      refine wpAny_bind (wpAny_of_eq (a := ()) rfl ?_)
      skip
      have L₁ : Live (W' ++ (wr ++ O)) h' := fun b hb => by
        by_cases q : b ∈ wr
        · exact hlive _ _ hS' b (Wk.sub b q)
        · obtain ⟨o, e⟩ := hA'.live b hb; exact ⟨o, hk' b o q e⟩
      have hr : Rep (fz (W' ++ (wr ++ O)) h') items[i] v := by
        obtain ⟨d', e', r⟩ := hP i v hPv
        replace e' := (List.getElem?_eq_getElem hlt) ▸ e'; cases e'
        refine r.mono fun b o e => ?_
        obtain ⟨e1, e2⟩ := fz_some.mp e
        replace e1 := not_app3 e1
        refine fz_some.mpr ⟨?_, hk' b o e1.2.1 (hC.heap b o (app_not ⟨e1.1, e1.2.1⟩) e2)⟩
        exact app_not3 ⟨fun hm => (hN b hm).elim e1.1 (fun e => by exact nos (e) e2), e1.2⟩
      refine wpAny_bind (wpAny_assign_Name ((C'.moved (h' := h') inO hk' Lw aw cw).store (s := { s with heap := h', toks := tk }) hk hx hr L₁ fun s₄ c₄ l₄ C₄ ⟨tt, ht₄, same₄⟩ => ?_))
      have htW : tt ∈ W := by
        rcases ht₄ with rfl | ⟨g1, g2⟩
        · exact C.loc
        · rcases C.tgt x hx with g | ⟨_, c, g3, g4, _⟩
          · replace g1 := (g) ▸ g1; cases g1
          · replace g3 := (g2) ▸ g3; cases g3; exact g4
      skip
      have hA₄ : At base k A (W' ++ (wr ++ O)) s₄ := ⟨hA'.room, c₄.bare hA'.bare, fun b o e => by
        obtain ⟨e1, e2⟩ := fz_some.mp (hA'.base b o e)
        replace e1 := not_app3 e1
        refine fz_some.mpr ⟨?_, c₄.heap b o e1.1 (hk' b o e1.2.1 e2)⟩
        rw [List.mem_append, List.mem_append, not_or, not_or]; exact e1, l₄⟩
      refine wpAny_bind (WP.mono (hT.run A (W' ++ (wr ++ O)) s₄ hA₄ C₄.envOk) fun c s₅ ⟨st₅, e₅⟩ => ?_)
      subst e₅
      have nn : ∀ b ∈ W' ++ wr, b ∈ W ++ wr ∨ s₁.heap.get? b = none := fun b hb => by
        rcases List.mem_append.mp hb with hb | hb
        · exact (hN b hb).imp_left (List.mem_append_left _)
        · exact .inl (List.mem_append_right _ hb)
      have c45 : Chg (W' ++ wr) s s₅ := ⟨fun b o hb e => by
        replace hb := not_app hb
        exact st₅.heap b o (c₄.heap b o hb.1 (hk' b o hb.2 e)), fun i x e => st₅.gens i x (c₄.gens i x e), fun h => st₅.bare (c₄.bare h), st₅.drawn.trans c₄.drawn, st₅.os.trans c₄.os⟩
      have C₅ := C₄.step st₅ hA₄.live
      have back : ∀ x' d', ρ.lookup x' = some d' → ((x, items[i]) :: ρ).lookup x' = some d' := fun x' d' e => by
        refine (List.lookup_cons).trans ?_
        by_cases q : x' = x
        · subst q; exact nos (hρ) e
        · refine (beq_eq_false_iff_ne.mpr q) ▸ ?_; exact e
      have hS₅ : St (i + 1) s₅.heap := Wk.frame _ _ _ (Wk.frame _ _ _ hS' fun b hb o e => (same₄ b fun q => hfp b hb (q ▸ htW)).trans e : St (i + 1) s₄.heap) fun b _ o e => st₅.heap b o e
      have hA₅ := hA₄.step st₅
      cases c with
      | false =>
        skip
        have := hb0 rfl; subst this
        exact wpAny_pure ⟨rfl, n, Nat.lt_succ_self n, i + 1, W', done, rest', by (exact hn.trans (Nat.succ_add_eq_add_succ i n).symm), hS₅, hN, hC.trans nn c45, hA₅, hf, ht, by rfl, C₅.le back⟩
      | true =>
        skip
        refine hb1 rfl A (wr ++ O) W' s₅ (ds ++ done) _ _ _ hA₅ C₅ (by simp only [List.length_append] at hlen ⊢; (exact Nat.le_trans (Nat.le_trans (Nat.le_of_eq (Nat.add_assoc _ _ _)) (Nat.add_le_add_left (Nat.add_le_add_left (Nat.le_add_right _ _) _) _)) hlen)) fun s₆ W'' n₆ c₆ l₆ C₆ => ?_
        have hN₆ : New W W'' s₁ := fun b hb => by
          rcases n₆ b hb with h | h
          · exact hN b h
          · by_cases hbW : b ∈ W
            · exact .inl hbW
            · refine .inr ?_
              cases e : s₁.heap.get? b with
              | none => rfl
              | some o =>
                by_cases hbw : b ∈ wr
                · obtain ⟨o', e'⟩ := hlive _ _ hS₅ b (Wk.sub b hbw)
                  replace e' := (h) ▸ e'; cases e'
                · skip
                  exact nos (h) ((hC.trans nn c45).heap b o (app_not ⟨hbW, hbw⟩) e)
        have c₆' : Chg (W' ++ wr) s₅ s₆ := ⟨fun b o hb e => c₆.heap b o (fun hm => hb (List.mem_append_left _ hm)) e, c₆.gens, c₆.bare, c₆.drawn, c₆.os⟩
        have hA₆ : At base k A (W'' ++ (wr ++ O)) s₆ := hA₅.chg n₆ c₆ l₆
        refine wpAny_pure ⟨rfl, n, Nat.lt_succ_self n, i + 1, W'', done ++ o, rest', by (exact hn.trans (Nat.succ_add_eq_add_succ i n).symm), ?_, hN₆, (hC.trans nn c45).trans nn c₆', hA₆, fun b hb hm => ?_, ht, by exact (List.append_assoc ..).symm, by rw [← List.append_assoc]; exact C₆.le back⟩
        · exact Wk.frame _ _ _ hS₅ fun b hb o e => c₆.heap b o (hf b hb) e
        · rcases n₆ b hm with h | h
          · exact hf b hb h
          · obtain ⟨o, e⟩ := hlive _ _ hS₅ b hb; exact nos (h) e
  · exact ⟨0, W, [], out, by simp, hst, .refl _ _, .refl _ _, hA, hfp, ho, rfl, by simpa using C⟩
theorem loopC_ok {elt iter : Expr} {x : Str} {px : Pos} {ifs : List Expr} {gens : List Comprehension} {scope : Scope} {pos : Pos} {j : Nat} {A : Around} {O W : List Addr} {s₁ s₂ : Shared} {I : Addr} {fp wr : List Addr} {items : List D} {Pv : Nat → Value → Prop} {St : Nat → Heap → Prop} {out : List D} {t : Sem Fin → Sem Fin}
    (hturn : compTurn (.ListComp elt gens scope pos) j (.ref I) (.ref a) env = (do
      standAt iter.pos
      match ← pyNext (.ref I) with
      | none => pure (.done .next)
      | some v =>
        letOwnedTupleGo (.Name x px) (.ref I) v
        assign (.Name x px) env v
        let ok ← (forIn ifs true fun c r => if r = true then do let ok ← isTrue c env (eval c env); pure (ForInStep.yield ok) else pure (ForInStep.yield r))
        if ok = true then t (again (.compLoop (.ListComp elt gens scope pos) j (.ref I) (.ref a) env))
        else again (.compLoop (.ListComp elt gens scope pos) j (.ref I) (.ref a) env)))
    (hk : env.scope.kind = .function) (hx : x ∈ tg) (hρ : ρ.lookup x = none)
    (Wk : Walks prog w A I fp wr items.length Pv St) (hst : St 0 s₂.heap) (hlive : ∀ i h, St i h → ∀ b ∈ fp, ∃ o, h.get? b = some o) (hfp : ∀ b ∈ fp, b ∉ W) (hwr : ∀ b ∈ wr, s₁.heap.get? b = none)
    (hP : ∀ i v, Pv i v → ∃ d', items[i]? = some d' ∧ Rep (fz (W ++ O) s₁.heap) d' v) (st : Step s₁ s₂) (hA : At base k A (W ++ O) s₁) (C : Cf base env tg ρ a ds O W s₁.heap)
    (ho : Outs (Turn prog w base k env tg a t ρ x ifs) items out) (hlen : ds.length + out.length ≤ sizeLine)
    {R : Result → Shared → Prop} (hR : ∀ s' W', New W W' s₁ → Chg W s₁ s' → Live (W' ++ O) s'.heap → Cf base env tg ρ a (ds ++ out) O W' s'.heap → R (.ok .next) s') : codeAny (model prog w) A (.compLoop (.ListComp elt gens scope pos) j (.ref I) (.ref a) env) R s₂ := by
  have fresh : ∀ b o, s₁.heap.get? b = some o → b ∉ wr := fun b o e hb => by exact nos (hwr b hb) e
  obtain ⟨C₂, hA₂⟩ := C.shade hA st hwr fun b hb => hlive _ _ hst b (Wk.sub b hb)
  have hz : Sub (fz (W ++ O) s₁.heap) (fz (W ++ (wr ++ O)) s₂.heap) := fz_mono (fun b hb => by
    rcases app3 hb with hb | hb | hb
    · exact .inl (List.mem_append_left _ hb)
    · exact .inr (hwr b hb)
    · exact .inl (List.mem_append_right _ hb)) fun b o _ e => st.heap b o e
  refine loopC_core hturn hk hx hρ Wk hst hlive hfp (fun y c e hm => by obtain ⟨_, o, e'⟩ := C.cl y c e; exact fresh _ _ e' hm) (fun b hb hO => by obtain ⟨o, e⟩ := hA.live b (List.mem_append_right _ hO); exact fresh b o e hb) (fun i v h => let ⟨d', e, r⟩ := hP i v h; ⟨d', e, r.mono hz⟩) hA₂ C₂ ho hlen fun s' W' n c l C' => hR s' W' (fun b hb => (n b hb).imp_right fun e => ?_) ⟨fun b o hb e => c.heap b o (app_not ⟨hb, fresh b o e⟩) (st.heap b o e), fun i x e => c.gens i x (st.gens i x e), fun h => c.bare (st.bare h), c.drawn.trans st.drawn, c.os.trans st.os⟩ l C'
  cases e' : s₁.heap.get? b with
  | none => rfl
  | some o => rw [st.heap b o e'] at e; cases e

noncomputable def TurnEq (elt : Expr) (gens : List Comprehension) (scope : Scope) (pos : Pos) (j : Nat) (x : Str) (px : Pos) (iter : Expr) (ifs : List Expr) (acc : Value) (env : Env) (t : Sem Fin → Sem Fin) : Prop :=
  gens[j]? = some ⟨.Name x px, iter, ifs, 0⟩ ∧ ∀ I : Addr, compTurn (.ListComp elt gens scope pos) j (.ref I) acc env = (do
      standAt iter.pos
      match ← pyNext (.ref I) with
      | none => pure (.done .next)
      | some v =>
        letOwnedTupleGo (.Name x px) (.ref I) v
        assign (.Name x px) env v
        let ok ← (forIn ifs true fun c r => if r = true then do let ok ← isTrue c env (eval c env); pure (ForInStep.yield ok) else pure (ForInStep.yield r))
        if ok = true then t (again (.compLoop (.ListComp elt gens scope pos) j (.ref I) acc env))
        else again (.compLoop (.ListComp elt gens scope pos) j (.ref I) acc env))
theorem turn_last {elt iter : Expr} {x : Str} {px : Pos} {ifs : List Expr} {gens : List Comprehension} {scope : Scope} {pos : Pos} {j : Nat} {acc : Value} (hj : gens[j]? = some ⟨.Name x px, iter, ifs, 0⟩) (hj' : gens[j + 1]? = none) :
    TurnEq elt gens scope pos j x px iter ifs acc env (fun z => (do
            let v ← eval elt env
            let _ ← call (.builtin "list.append") [acc, v]
            pure ()) >>= fun _ => z) := ⟨hj, fun I => compTurn_last hj hj'⟩
theorem turn_more {elt iter iter' target' : Expr} {x : Str} {px : Pos} {ifs ifs' : List Expr} {gens : List Comprehension} {scope : Scope} {pos : Pos} {j : Nat} {acc : Value} (hj : gens[j]? = some ⟨.Name x px, iter, ifs, 0⟩) (hj' : gens[j + 1]? = some ⟨target', iter', ifs', 0⟩) :
    TurnEq elt gens scope pos j x px iter ifs acc env (fun z => do
          let x ← eval iter' env
          standAt iter'.pos
          let x ← foldedSetIterable iter' env x
          let _ ← runOwn (.compStart (.ListComp elt gens scope pos) (j + 1) (← holding [x] (pyIter x)) acc env) env
          z) := ⟨hj, fun I => compTurn_more hj hj'⟩

theorem clause_ok {elt iter : Expr} {x : Str} {px : Pos} {ifs : List Expr} {gens : List Comprehension} {scope : Scope} {pos : Pos} {j : Nat} {t : Sem Fin → Sem Fin} {A : Around} {O W : List Addr} {s : Shared} {v : Value} {di : D} {items out : List D} (ht : TurnEq elt gens scope pos j x px iter ifs (.ref a) env t)
    (hk : env.scope.kind = .function) (hx : x ∈ tg) (hρ : ρ.lookup x = none) (it : Iter prog w base k di items) (hA : At base k A (W ++ O) s) (C : Cf base env tg ρ a ds O W s.heap) (hr : Rep (fz (W ++ O) s.heap) di v) (ho : Outs (Turn prog w base k env tg a t ρ x ifs) items out) (hlen : ds.length + out.length ≤ sizeLine)
    {R : Result → Shared → Prop} (hR : ∀ s' W', New W W' s → Chg W s s' → Live (W' ++ O) s'.heap → Cf base env tg ρ a (ds ++ out) O W' s'.heap → R (.ok .next) s') :
    WP prog w A (pyIter v) (fun itv s' => codeAny (model prog w) A (.compStart (.ListComp elt gens scope pos) j itv (.ref a) env) R s') s := by
  refine WP.mono (it.run A (W ++ O) s v hA hr) fun itv s₂ ⟨st, I, fp, wr, P, St, e, Wk, hst, hlive, hfp, hwr, hP⟩ => ?_
  subst e
  have go : codeAny (model prog w) A (.compLoop (.ListComp elt gens scope pos) j (.ref I) (.ref a) env) R s₂ :=
    loopC_ok (ht.2 I) hk hx hρ (Wk A hA.room.1) hst hlive (fun b hb hm => hfp b hb (List.mem_append_left _ hm)) hwr hP st hA C ho hlen hR
  exact compStart_j ht.1 go ((Wk A hA.room.1).self 0 s₂ _ _ hst go)

theorem emit_more {elt iter' : Expr} {x' : Str} {px' : Pos} {ifs' : List Expr} {gens : List Comprehension} {scope : Scope} {pos : Pos} {j : Nat} {t' : Sem Fin → Sem Fin} {di : D} {items out : List D} (ht : TurnEq elt gens scope pos (j + 1) x' px' iter' ifs' (.ref a) env t')
    (hk : env.scope.kind = .function) (hx : x' ∈ tg) (hρ : ρ.lookup x' = none) (h : Ev prog w base k env ρ iter' di) (it : Iter prog w base k di items) (ho : Outs (Turn prog w base k env tg a t' ρ x' ifs') items out)
    (hf : ∀ x, foldedSetIterable iter' env x = pure x) : EmitOk prog w base k env tg a (fun z => do
          let x ← eval iter' env
          standAt iter'.pos
          let x ← foldedSetIterable iter' env x
          let _ ← runOwn (.compStart (.ListComp elt gens scope pos) (j + 1) (← holding [x] (pyIter x)) (.ref a) env) env
          z) ρ out := by
  intro A O W s ds z Q E hA C hlen hz
  refine wpAny_bind (WP.mono (h.run A (W ++ O) s hA C.envOk) fun v s₁ ⟨st, r⟩ => ?_)
  refine wpAny_bind (wpAny_standAt (wpAny_bind (wpAny_of_eq (hf v) (wpAny_bind (wpAny_holding ?_)))))
  refine WP.mono (clause_ok ht hk hx hρ it (hA.step st) (C.step st hA.live) r ho hlen (R := fun r s' => match r with | .ok f => wpAny (model prog w) A z Q E s' | .error e => cameBackBy (model prog w) A env E e s') fun s' W' n c l C' => ?_) fun itv s₂ hc => ?_
  · exact hz s' W' ((New.refl W s).trans (Chg.step st) n) ((Chg.step st).trans (.refl _ _) c) l C'
  · exact wpAny_bind (wpAny_runOwn hc)
end
end Mine
namespace Mine
open PySem PySem.W PySem.Calls PyProof.Rows PySem.Spec

theorem nn1 (n : Nat) : n + 1 + 1 ≠ n := by (lia)
theorem nn2 (n : Nat) : ¬ n + 1 + 1 < n := by (lia)
theorem nn3 (n : Nat) : n ≠ n + 1 := by (simp)
theorem cells_none : ∀ {names : List (Str × NameKind)} (n : Nat) (cl : List (Str × Addr)) (h : Heap), (∀ y ∈ names, (y.2 == .cell) = false) → cellsFrom n names cl = cl ∧ pushCells h names = h := by
  intro vq
  induction vq with
  | nil =>
    intro _ _ _ _
    exact ⟨rfl, rfl⟩
  | cons pq r ihq =>
    obtain ⟨x, kd⟩ := pq
    intro n cl h hn
    skip
    skip
    unfold cellsFrom pushCells
    refine (show (kd == NameKind.cell) = false from (hn (x, kd) (List.mem_cons_self ..))) ▸ ?_
    exact (ihq n cl h (fun y hy => hn y (List.mem_cons_of_mem _ hy)))
theorem cells_one : ∀ {names : List (Str × NameKind)} {x : Str} (n : Nat) (cl : List (Str × Addr)) (h : Heap), names.filter (fun y => y.2 == .cell) = [(x, .cell)] → cellsFrom n names cl = (x, n) :: cl ∧ pushCells h names = h.push { cls := .type "cell", data := .cell none } := by
  intro vq
  induction vq with
  | nil =>
    intro _ _ _ _ hn
    cases hn
  | cons pq r ihq =>
    obtain ⟨y, kd⟩ := pq
    intro x n cl h hn
    replace hn := (List.filter_cons) ▸ hn
    unfold cellsFrom pushCells
    by_cases q : (kd == NameKind.cell) = true
    · rw [if_pos q] at hn
      skip
      injection hn with e1 e2
      cases e1
      have h2 := cells_none (names := r) (n + 1) ((y, n) :: cl) (h.push { cls := .type "cell", data := .cell none }) (fun z hz => by
        cases e : (z.2 == NameKind.cell) with
        | false => rfl
        | true => exact absurd (List.mem_filter.mpr ⟨hz, e⟩) (by rw [e2]; exact List.not_mem_nil))
      exact h2
    · have q' : (kd == NameKind.cell) = false := by simpa using q
      replace hn := (q') ▸ hn
      refine (q') ▸ ?_
      exact ihq n cl h hn
theorem newEnv_ok {M : Model} {A : Around} {s : Shared} {scope : Scope} {env : Env} {cl : List (Str × Addr)} {E : Value → Shared → Prop} {Q : Env → Shared → Prop}
    (hQ : Q { scope := scope, locals := s.heap.objs.size, globals := env.globals, cells := cellsFrom (s.heap.objs.size + 1) scope.names cl, qual := env.qual, func := none, code := env.code, frame := env.frame, builtins := env.builtins }
      { s with heap := pushCells (s.heap.push { cls := .type "dict", data := .dict #[] }) scope.names }) : wpAny M A (newFunctionEnv scope env.globals cl [] env.qual none .none (some env)) Q E s := by
  simp only [newFunctionEnv, Option.isSome_some, if_true]
  refine wpAny_bind (wpAny_alloc ?_)
  refine wpAny_bind (wpAny_layCells _ (fun name kind cells => by cases hkc : kind == NameKind.cell <;> rfl) _ _ _ _ ?_)
  refine (show ({ s with heap := s.heap.push { cls := .type "dict", data := .dict #[] } } : Shared).heap.objs.size = s.heap.objs.size + 1 from Heap.size_push ..) ▸ ?_
  skip
  exact wpAny_pure hQ

inductive Caught (env cenv : Env) (ρ : List (Str × D)) : List (Str × D) → Prop
  | nil : Caught env cenv ρ []
  | cons {x : Str} {c : Addr} {d : D} {r : List (Str × D)} (h1 : env.kindOf x = some .cell) (h2 : env.cells.lookup x = some c) (h3 : cenv.kindOf x = some .cell) (h4 : cenv.cells.lookup x = some c) (h5 : ρ.lookup x = some d) (t : Caught env cenv ρ r) : Caught env cenv ρ ((x, d) :: r)
theorem Caught.get {env cenv : Env} {ρ ρc : List (Str × D)} (h : Caught env cenv ρ ρc) {x : Str} {d : D} (e : ρc.lookup x = some d) : ∃ c, env.kindOf x = some .cell ∧ env.cells.lookup x = some c ∧ cenv.kindOf x = some .cell ∧ cenv.cells.lookup x = some c ∧ ρ.lookup x = some d := by
  induction h with
  | nil => cases e
  | cons h1 h2 h3 h4 h5 t ih =>
    rename_i y c d' r
    rw [List.lookup_cons] at e
    by_cases q : x = y
    · subst q; simp at e; subst e; exact ⟨c, h1, h2, h3, h4, h5⟩
    · rw [beq_eq_false_iff_ne.mpr q] at e; exact ih e
inductive Entries (env : Env) : List (Str × Addr) → Prop
  | nil : Entries env []
  | cons {x : Str} {c : Addr} {r : List (Str × Addr)} (h : env.cells.lookup x = some c) (t : Entries env r) : Entries env ((x, c) :: r)
theorem Entries.get {env : Env} {cl : List (Str × Addr)} (h : Entries env cl) {x : Str} {c : Addr} (e : cl.lookup x = some c) : env.cells.lookup x = some c := by
  induction h with
  | nil => cases e
  | cons h t ih =>
    rename_i y c' r
    rw [List.lookup_cons] at e
    by_cases q : x = y
    · subst q; simp at e; subst e; exact h
    · rw [beq_eq_false_iff_ne.mpr q] at e; exact ih e

noncomputable def ownCells (own : Option Str) (n : Nat) (cl : List (Str × Addr)) : List (Str × Addr) := match own with
  | none => cl
  | some x => (x, n) :: cl
noncomputable def ownHeap (own : Option Str) (h : Heap) : Heap := match own with
  | none => h
  | some _ => h.push { cls := .type "cell", data := .cell none }
noncomputable def ownW (own : Option Str) (n : Nat) : List Addr := n :: (n + 1) :: (match own with | none => [] | some _ => [n + 1 + 1])
theorem ownW_le {own : Option Str} {n b : Nat} (h : b ∈ ownW own n) : n ≤ b ∧ (b = n ∨ b = n + 1 ∨ (own.isSome = true ∧ b = n + 1 + 1)) := by
  unfold ownW at h
  cases own <;> simp at h ⊢ <;> ((first | exact ⟨h.elim (fun e => Nat.le_of_eq e.symm) fun e => Nat.le_trans (Nat.le_add_right n 1) (Nat.le_of_eq e.symm), h⟩ | exact ⟨h.elim (fun e => Nat.le_of_eq e.symm) fun h => h.elim (fun e => Nat.le_trans (Nat.le_add_right n 1) (Nat.le_of_eq e.symm)) fun e => Nat.le_trans (Nat.le_add_right n 2) (Nat.le_of_eq e.symm), h⟩))
noncomputable def OwnIs (own : Option Str) (scope : Scope) : Prop := match own with
  | none => ∀ y ∈ scope.names, (y.2 == .cell) = false
  | some x => scope.names.filter (fun y => y.2 == .cell) = [(x, .cell)]
theorem own_eq {own : Option Str} {scope : Scope} (h : OwnIs own scope) (n : Nat) (cl : List (Str × Addr)) (hp : Heap) : cellsFrom n scope.names cl = ownCells own n cl ∧ pushCells hp scope.names = ownHeap own hp := by
  cases own with
  | none => exact cells_none n cl hp h
  | some x => exact cells_one n cl hp h

section
variable {prog : Program} {w : World} {base : Heap} {k : Nat} {env : Env} {ρ ρc : List (Str × D)}

theorem comp_core {elt iter : Expr} {x : Str} {px : Pos} {ifs : List Expr} {rest : List Comprehension} {scope : Scope} {pos ppos : Pos} {cl : List (Str × Addr)} {own : Option Str} {tg : List Str} {A : Around} {O : List Addr} {s : Shared} {di : D} {items out : List D} {t : Addr → Env → Sem Fin → Sem Fin} {use : Option (Value → Sem Unit)} {Q : Value → Shared → Prop} {E : Value → Shared → Prop}
    (hi : Ev prog w base k env ρ iter di) (it : Iter prog w base k di items) (hclos : closureFor scope env = pure cl) (hent : Entries env cl) (hown : OwnIs own scope) (hkind : scope.kind = .function) (hnames : ∀ x ∈ scope.names, x.2 = .local → scope.names.lookup x.1 = some .local)
    (hs : ∀ x, foldedSetIterable iter env x = pure x) (hx : x ∈ tg) (hρ : ρc.lookup x = none) (hlen : out.length ≤ sizeLine)
    (htg : ∀ C, ∀ y ∈ tg, (compEnvC scope (ownCells own (C + 1) cl) C env).kindOf y = some .local ∨ ((compEnvC scope (ownCells own (C + 1) cl) C env).kindOf y = some .cell ∧ own = some y))
    (hcaught : ∀ C, Caught env (compEnvC scope (ownCells own (C + 1) cl) C env) ρ ρc)
    (ht : ∀ C a, TurnEq elt (⟨.Name x px, iter, ifs, 0⟩ :: rest) scope pos 0 x px iter ifs (.ref a) (compEnvC scope (ownCells own (C + 1) cl) C env) (t a (compEnvC scope (ownCells own (C + 1) cl) C env)))
    (ho : ∀ C a, Outs (Turn prog w base k (compEnvC scope (ownCells own (C + 1) cl) C env) tg a (t a (compEnvC scope (ownCells own (C + 1) cl) C env)) ρc x ifs) items out)
    (hA : At base k A O s) (hE : EnvOk base env ρ O s.heap)
    (hQ : ∀ s' C a vs n m, Step s s' → s.heap.get? C = none → s.heap.get? a = none → a ≠ C → s'.heap.Ns C m → s'.heap.get? a = some (listObj vs n) → RepL (fz ([C] ++ O) s'.heap) out vs → compPost (model prog w) A E use Q (.ref a) C (.ok .next) s') :
    wpAny (model prog w) A (comprehension (.ListComp elt (⟨.Name x px, iter, ifs, 0⟩ :: rest) scope pos) scope env ppos (newList []) false (eval iter env) use) Q E s := by
  refine wpAny_comprehension_free (use := use) rfl hs hclos hkind hnames (WP.mono (hi.run A O s hA hE) fun v s₁ ⟨st₁, r₁⟩ => ?_)
  have hA₁ := hA.step st₁
  refine WP.mono (it.run A O s₁ v hA₁ r₁) fun itv s₂ ⟨st₂, I, fp, wr, P, St, e, Wk, hst, hlive, hfp, hwr, hP⟩ => ?_
  subst e
  have hA₂ := hA₁.step st₂
  refine wpAny_newObj_type (newEnv_ok ?_)
  dsimp only
  have st12 := st₁.trans st₂
  generalize hH : s₂.heap.push { cls := .type "list", dict := none, data := .seq ([] : List Value).toArray } = H
  have hC : H.objs.size = s₂.heap.objs.size + 1 := by rw [← hH, Heap.size_push]
  obtain ⟨ec, eh⟩ := own_eq hown (H.objs.size + 1) cl (H.push { cls := .type "dict", data := .dict #[] })
  simp only [ec, eh]
  -- the heap in which the loop starts
  have k2 : ∀ b o, s₂.heap.get? b = some o → (ownHeap own (H.push { cls := .type "dict", data := .dict #[] })).get? b = some o := fun b o e => by
    have e1 : (H.push { cls := .type "dict", data := .dict #[] }).get? b = some o := Heap.get?_push_of_some _ (hH ▸ Heap.get?_push_of_some _ e)
    cases own with
    | none => exact e1
    | some x => exact Heap.get?_push_of_some _ e1
  have kD : (ownHeap own (H.push { cls := .type "dict", data := .dict #[] })).get? s₂.heap.objs.size = some (listObj [] 0) := by
    have e1 : (H.push { cls := .type "dict", data := .dict #[] }).get? s₂.heap.objs.size = some (listObj [] 0) := Heap.get?_push_of_some _ (hH ▸ Heap.get?_push_size _ rfl)
    cases own with
    | none => exact e1
    | some x => exact Heap.get?_push_of_some _ e1
  have kC : (ownHeap own (H.push { cls := .type "dict", data := .dict #[] })).Ns H.objs.size (fun _ => none) := by
    have e1 := Heap.Ns.new H (.type "dict")
    cases own with
    | none => exact e1
    | some x => exact e1.keeps fun b o e => Heap.get?_push_of_some _ e
  have kX : ∀ x, own = some x → (ownHeap own (H.push { cls := .type "dict", data := .dict #[] })).IsCell (H.objs.size + 1) none := fun x hx => by
    subst hx
    refine ⟨{ cls := .type "cell", data := .cell none }, ?_, rfl⟩
    have := Heap.get?_push_size (H.push { cls := .type "dict", data := .dict #[] }) (o := { cls := .type "cell", data := .cell none }) rfl
    rw [Heap.size_push] at this
    exact this
  generalize hS : ownHeap own (H.push { cls := .type "dict", data := .dict #[] }) = S at k2 kD kC kX
  generalize H.objs.size = nC at *
  subst hC
  generalize hn2 : s₂.heap.objs.size = n₂ at *
  -- addresses
  have old : ∀ b o, s₂.heap.get? b = some o → b < n₂ := fun b o e => hn2 ▸ Heap.lt_size e
  skip
  have wold : ∀ b ∈ fp, b < n₂ := fun b hb => let ⟨o, e⟩ := hlive _ _ hst b hb; old b o e
  skip
  have nold : ∀ b, n₂ ≤ b → s.heap.get? b = none := fun b hb => by
    cases e : s.heap.get? b with
    | none => rfl
    | some o => exact absurd (old b o (st12.heap b o e)) (Nat.not_lt.mpr hb)
  have clold : ∀ y c, cl.lookup y = some c → c < n₂ ∧ (∃ o, S.get? c = some o) ∧ c ∉ wr := fun y c e => by
    obtain ⟨o, e'⟩ := hE.cl y c (hent.get e)
    have e2 := st12.heap _ _ e'
    exact ⟨old c o e2, ⟨o, k2 _ _ e2⟩, fun hm => by have e3 := hwr c hm; replace e3 := (st₁.heap _ _ e') ▸ e3; cases e3⟩
  have celllook : ∀ y c, (ownCells own (n₂ + 1 + 1) cl).lookup y = some c → (own = some y ∧ c = n₂ + 1 + 1) ∨ (cl.lookup y = some c) := fun y c e => by
    cases own with
    | none => exact .inr e
    | some z =>
      change List.lookup y ((z, n₂ + 1 + 1) :: cl) = some c at e
      rw [List.lookup_cons] at e
      by_cases q : y = z
      · subst q; simp at e; exact .inl ⟨rfl, e.symm⟩
      · rw [beq_eq_false_iff_ne.mpr q] at e; exact .inr e
  have hW : ∀ b ∈ ownW own n₂, n₂ ≤ b := fun b hb => (ownW_le hb).1
  skip
  skip
  have hzz : Sub (fz O s₁.heap) (fz (ownW own n₂ ++ (wr ++ O)) S) := fun b o e => by
    obtain ⟨e1, e2⟩ := fz_some.mp e
    have e3 := st₂.heap b o e2
    refine fz_some.mpr ⟨?_, k2 b o e3⟩
    exact app_not3 ⟨fun hm => absurd (old b o e3) (Nat.not_lt.mpr (hW b hm)), (fun hm => by exact nos (hwr b hm) e2), e1⟩
  have liveS : Live (ownW own n₂ ++ (wr ++ O)) S := fun b hb => by
    rcases app3 hb with hb | hb | hb
    · rcases (ownW_le hb).2 with rfl | rfl | ⟨h, rfl⟩
      · exact ⟨_, kD⟩
      · obtain ⟨o, _, _, e, _⟩ := kC; exact ⟨o, e⟩
      · obtain ⟨z, hz⟩ := Option.isSome_iff_exists.mp h
        obtain ⟨o, e, _⟩ := kX z hz; exact ⟨o, e⟩
    · obtain ⟨o, e⟩ := hlive _ _ hst b ((Wk A hA.room.1).sub b hb); exact ⟨o, k2 _ _ e⟩
    · obtain ⟨o, e⟩ := hA₂.live b hb; exact ⟨o, k2 _ _ e⟩
  have hA₃ : At base k A (ownW own n₂ ++ (wr ++ O)) { s₂ with heap := S } := ⟨hA.room, hA₂.bare, hA₁.base.trans hzz, liveS⟩
  have hCf : Cf base (compEnvC scope (ownCells own (n₂ + 1 + 1) cl) (n₂ + 1) env) tg ρc n₂ [] (wr ++ O) (ownW own n₂) S := by
    refine ⟨(by exact .tail _ (.head _) : n₂ + 1 ∈ ownW own n₂), fun b hb hm => ?_, ⟨_, kC⟩, fun y hy => ?_, fun y d e => ?_, ⟨[], 0, (by exact .head _ : n₂ ∈ ownW own n₂), kD, .nil⟩, fun y c e => ?_⟩
    · have := hW b hb
      rcases List.mem_append.mp hm with hm | hm
      · exact absurd (wold b ((Wk A hA.room.1).sub b hm)) (Nat.not_lt.mpr this)
      · exact absurd ((fun b hb => let ⟨o, e⟩ := hA₂.live b hb; old b o e : ∀ b ∈ O, b < n₂) b hm) (Nat.not_lt.mpr this)
    · rcases htg (n₂ + 1) y hy with h | ⟨h, ho⟩
      · exact .inl h
      · subst ho
        refine .inr ⟨h, n₂ + 1 + 1, ?_, by simp [ownW], ⟨none, kX y rfl⟩, fun z hz => ?_⟩
        · show List.lookup y ((y, n₂ + 1 + 1) :: cl) = _
          simp only [List.lookup_cons, beq_self_eq_true]
        · rcases celllook z _ hz with ⟨h1, _⟩ | h1
          · cases h1; rfl
          · exact absurd (clold z _ h1).1 (nn2 _)
    · obtain ⟨c, h1, h2, h3, h4, h5⟩ := (hcaught (n₂ + 1)).get e
      obtain ⟨u, hv, hr⟩ := hE.vars y d h5
      refine ⟨u, ?_, (hr.mono (st₁.fz O)).mono hzz⟩
      rcases hv with ⟨g, _⟩ | ⟨c', g1, g2, o, g3, g4⟩
      · replace g := (h1) ▸ g; cases g
      · replace g2 := (h2) ▸ g2; cases g2
        exact .inr ⟨c, h3, h4, o, k2 _ _ (st12.heap _ _ g3), g4⟩
    · rcases celllook y c e with ⟨h1, rfl⟩ | h1
      · obtain ⟨o, e', _⟩ := kX y h1
        exact ⟨nn1 _, o, e'⟩
      · have hq0 := clold y c h1
        have h2 := hq0.1
        have h3 := hq0.2.1
        exact ⟨Nat.ne_of_lt h2, h3⟩
  have hstS : St 0 S := (Wk A hA.room.1).frame _ _ _ hst fun b _ o e => k2 b o e
  show codeAny (model prog w) A (.compStart (.ListComp elt (⟨.Name x px, iter, ifs, 0⟩ :: rest) scope pos) 0 (.ref I) (.ref n₂) (compEnvC scope (ownCells own (n₂ + 1 + 1) cl) (n₂ + 1) env)) (compPost (model prog w) A E use Q (.ref n₂) (n₂ + 1)) { s₂ with heap := S }
  have go : codeAny (model prog w) A (.compLoop (.ListComp elt (⟨.Name x px, iter, ifs, 0⟩ :: rest) scope pos) 0 (.ref I) (.ref n₂) (compEnvC scope (ownCells own (n₂ + 1 + 1) cl) (n₂ + 1) env)) (compPost (model prog w) A E use Q (.ref n₂) (n₂ + 1)) { s₂ with heap := S } := by
    refine loopC_core (env := compEnvC scope (ownCells own (n₂ + 1 + 1) cl) (n₂ + 1) env) (t := t n₂ (compEnvC scope (ownCells own (n₂ + 1 + 1) cl) (n₂ + 1) env)) (gens := ⟨.Name x px, iter, ifs, 0⟩ :: rest) (elt := elt) (scope := scope) (pos := pos) (j := 0) (x := x) (px := px) (iter := iter) (ifs := ifs) (a := n₂) (I := I) ((ht (n₂ + 1) n₂).2 I) hkind hx hρ (Wk A hA.room.1) hstS hlive (fun b hb hm => absurd (wold b hb) (Nat.not_lt.mpr (hW b hm))) (fun y c e hm => ?_) (fun b hb hO => by obtain ⟨o, e⟩ := hA₁.live b hO; exact nos (hwr b hb) e : ∀ b ∈ wr, b ∉ O) (fun i v h => let ⟨d', e, r⟩ := hP i v h; ⟨d', e, r.mono hzz⟩) hA₃ hCf (ho (n₂ + 1) n₂) (by simpa using hlen) fun s' W' n c l C' => ?_
    · rcases celllook y c e with ⟨h1, rfl⟩ | h1
      · exact absurd (wold _ ((Wk A hA.room.1).sub _ hm)) (nn2 _)
      · exact (clold y c h1).2.2 hm
    · obtain ⟨vs, n', g1, g2, g3⟩ := C'.acc
      obtain ⟨m, hm⟩ := C'.ns
      have keep : ∀ b o, s.heap.get? b = some o → s'.heap.get? b = some o := fun b o e => by
        refine c.heap b o ?_ (k2 b o (st12.heap b o e))
        exact app_not ⟨fun hb => absurd (old b o (st12.heap b o e)) (Nat.not_lt.mpr (hW b hb)), fun hb => by have e3 := hwr b hb; replace e3 := (st₁.heap _ _ e) ▸ e3; cases e3⟩
      refine hQ s' (n₂ + 1) n₂ vs n' m ⟨keep, fun i g e => c.gens i g (st12.gens i g e), fun h => c.bare (st12.bare h), c.drawn.trans st12.drawn, c.os.trans st12.os⟩ (nold _ (Nat.le_succ _)) (nold _ (Nat.le_refl _)) (nn3 _) hm g2 ?_
      skip
      refine g3.mono (fz_mono (fun b hb => ?_) fun b o _ e => e)
      rw [List.mem_append, List.mem_singleton] at hb
      rcases hb with rfl | hb
      · exact .inl (List.mem_append_left _ C'.loc)
      · exact .inl (List.mem_append_right _ hb)
  exact compStart_j (ht (n₂ + 1) n₂).1 go ((Wk A hA.room.1).self 0 { s₂ with heap := S } _ _ hstS go)

structure CompOk (prog : Program) (w : World) (base : Heap) (k : Nat) (env : Env) (ρ : List (Str × D)) (elt : Expr) (gens : List Comprehension) (scope : Scope) (pos : Pos) (out : List D) : Prop where
  run : ∀ A O s ppos iter ifs x px rest use Q E, gens = ⟨.Name x px, iter, ifs, 0⟩ :: rest → At base k A O s → EnvOk base env ρ O s.heap →
    (∀ s' C a vs n m, Step s s' → s.heap.get? C = none → s.heap.get? a = none → a ≠ C → s'.heap.Ns C m → s'.heap.get? a = some (listObj vs n) → RepL (fz ([C] ++ O) s'.heap) out vs → compPost (model prog w) A E use Q (.ref a) C (.ok .next) s') →
    wpAny (model prog w) A (comprehension (.ListComp elt gens scope pos) scope env ppos (newList []) false (eval iter env) use) Q E s

theorem CompOk.new {elt iter : Expr} {x : Str} {px : Pos} {ifs : List Expr} {rest : List Comprehension} {scope : Scope} {pos : Pos} {out : List D} (h : CompOk prog w base k env ρ elt (⟨.Name x px, iter, ifs, 0⟩ :: rest) scope pos out) : EvNew prog w base k env ρ (.ListComp elt (⟨.Name x px, iter, ifs, 0⟩ :: rest) scope pos) out := .mk fun A O s hA hE => by
  skip
  refine h.run A O s _ iter ifs x px rest none _ _ rfl hA hE fun s' C a vs n m st hC ha hne hm hg hr => ?_
  refine ⟨m, hm, fun h' hb => ?_⟩
  have keep : ∀ b o, b ≠ C → s'.heap.get? b = some o → h'.get? b = some o := fun b o q e => (hb.2 b q).trans e
  refine ⟨⟨fun b o e => keep b o (fun q => by subst q; exact nos (hC) e) (st.heap b o e), st.gens, st.bare, st.drawn, st.os⟩, a, vs, n, rfl, ha, keep a _ hne hg, hr.mono fun b o e => ?_⟩
  obtain ⟨e1, e2⟩ := fz_some.mp e
  rw [List.mem_append, List.mem_singleton, not_or] at e1
  exact fz_some.mpr ⟨e1.2, keep b o e1.1 e2⟩
theorem CompOk.ev {elt iter : Expr} {x : Str} {px : Pos} {ifs : List Expr} {rest : List Comprehension} {scope : Scope} {pos : Pos} {out : List D} (h : CompOk prog w base k env ρ elt (⟨.Name x px, iter, ifs, 0⟩ :: rest) scope pos out) : Ev prog w base k env ρ (.ListComp elt (⟨.Name x px, iter, ifs, 0⟩ :: rest) scope pos) (.list out) := h.new.ev

theorem bd_assignComp {σ : Sg} {y : Str} {py pos spos : Pos} {elt iter : Expr} {x : Str} {px : Pos} {ifs : List Expr} {rest : List Comprehension} {scope : Scope} {out : List D} (h : CompOk prog w base k env σ.ρ elt (⟨.Name x px, iter, ifs, 0⟩ :: rest) scope pos out)
    (hsw : swapsWith (.ListComp elt (⟨.Name x px, iter, ifs, 0⟩ :: rest) scope pos) (some (.Name y py)) spos.line env = pure true) (hy : Storable env y) (h1 : offB y σ.lst = true := by rfl) (h2 : offB y σ.obj = true := by rfl) (hk : env.scope.kind = .function := by rfl) :
    Bd prog w base k env (exec (.Assign [.Name y py] (.ListComp elt (⟨.Name x px, iter, ifs, 0⟩ :: rest) scope pos) spos) env) σ (.next ⟨(y, .list out) :: σ.ρ, σ.lst, σ.obj⟩) :=
  ⟨fun A O W s hA F => by
    refine (exec_Assign_Name_used _ _ _ _ hsw) ▸ ?_
    refine wpAny_bind (wpAny_standAt (wpAny_bind ?_))
    skip
    refine wpAny_bind (wpAny_mono (h.run A (W ++ O) s _ iter ifs x px rest (some (assign (.Name y py) env)) (fun _ s' => Post base env O W s (.next ⟨(y, .list out) :: σ.ρ, σ.lst, σ.obj⟩) .next s') (fun _ _ => False) rfl hA F.envOk fun s' C a vs n m st hC ha hne hm hg hr => ?_) (fun _ s' hq => wpAny_pure (wpAny_pure hq)) fun _ _ e => e)
    skip
    obtain ⟨F', hA'⟩ := F.shade hA st (wr := [C]) (fun b hb => by rw [List.mem_singleton] at hb; subst hb; exact hC) (fun b hb => by replace hb := (List.mem_singleton).mp hb; subst hb; obtain ⟨o, _, _, e, _⟩ := hm; exact ⟨o, e⟩ : ∀ b ∈ [C], ∃ o, s'.heap.get? b = some o)
    have aW : a ∉ W ++ O := fun hmm => by obtain ⟨o, e⟩ := hA.live a hmm; exact nos (ha) e
    skip
    refine wpAny_assign_Name (store_ok F' hk hy fun s'' h' => ?_)
    have hrep : Rep (fz (W ++ ([C] ++ O)) s'.heap) (.list out) (.ref a) := by
      refine of_list (n := n) (vs := vs) (fz_some.mpr ⟨?_, hg⟩) (hr.mono (fz_mono (fun b hb => .inl ?_) fun b o _ e => e))
      · rw [List.mem_append, List.mem_append, List.mem_singleton]
        rw [List.mem_append] at aW
        exact fun q => q.elim (fun q => aW (.inl q)) fun q => q.elim hne fun q => aW (.inr q)
      · rw [List.mem_append, List.mem_append] at *
        rcases hb with hb | hb | hb
        · exact .inr (.inl hb)
        · exact .inl hb
        · exact .inr (.inr hb)
    skip
    have CW : C ∉ W := fun q => F'.apart C q (by exact List.mem_cons_self)
    have Cns : ∃ m, s''.heap.Ns C m := by
      obtain ⟨t, ht, hkk, _⟩ := h'.keep
      exact ⟨m, hm.at' fun o e => (hkk C fun q => CW (q ▸ ht)).trans e⟩
    obtain ⟨m', hm'⟩ := Cns
    refine ⟨m', hm', fun h3 hb3 => ⟨rfl, W, .refl _ _, ?_, ?_, ((F'.put h' hrep h1 h2).moved (h' := h3) fun b o hb e => (hb3.2 b fun q => hb (by refine (q) ▸ ?_; exact List.mem_cons_self)).trans e).unshade⟩⟩
    · refine ⟨fun b o hb e => ?_, fun i x e => by refine (h'.gens) ▸ ?_; exact st.gens i x e, fun hb => by simp only [show ({ s'' with heap := h3 } : Shared).gens = s''.gens from rfl, h'.gens]; exact st.bare hb, h'.drawn.trans st.drawn, h'.os.trans st.os⟩
      have hbC : b ≠ C := fun q => by subst q; exact nos (hC) e
      exact (hb3.2 b hbC).trans (h'.chg.heap b o hb (st.heap b o e))
    · intro b hb
      have hbC : b ≠ C := fun q => by
        replace hb := (List.mem_append).mp hb
        subst q
        rcases hb with hb | hb
        · exact CW hb
        · obtain ⟨o, e⟩ := hA.live _ (List.mem_append_right _ hb); exact nos (hC) e
      obtain ⟨o, e⟩ := h'.live' hA'.live b (by rw [List.mem_append, List.mem_append]; rw [List.mem_append] at hb; exact hb.imp_right .inr)
      exact ⟨o, (hb3.2 b hbC).trans e⟩⟩

theorem comp_ok {elt iter : Expr} {x : Str} {px : Pos} {ifs : List Expr} {rest : List Comprehension} {scope : Scope} {pos : Pos} {cl : List (Str × Addr)} {own : Option Str} {tg : List Str} {di : D} {items out : List D} {t : Addr → Env → Sem Fin → Sem Fin}
    (hi : Ev prog w base k env ρ iter di) (it : Iter prog w base k di items) (hclos : closureFor scope env = pure cl) (hent : Entries env cl) (hown : OwnIs own scope) (hkind : scope.kind = .function) (hnames : ∀ x ∈ scope.names, x.2 = .local → scope.names.lookup x.1 = some .local)
    (hs : ∀ x, foldedSetIterable iter env x = pure x) (hx : x ∈ tg) (hρ : ρc.lookup x = none) (hlen : out.length ≤ sizeLine)
    (htg : ∀ C, ∀ y ∈ tg, (compEnvC scope (ownCells own (C + 1) cl) C env).kindOf y = some .local ∨ ((compEnvC scope (ownCells own (C + 1) cl) C env).kindOf y = some .cell ∧ own = some y))
    (hcaught : ∀ C, Caught env (compEnvC scope (ownCells own (C + 1) cl) C env) ρ ρc)
    (ht : ∀ C a, TurnEq elt (⟨.Name x px, iter, ifs, 0⟩ :: rest) scope pos 0 x px iter ifs (.ref a) (compEnvC scope (ownCells own (C + 1) cl) C env) (t a (compEnvC scope (ownCells own (C + 1) cl) C env)))
    (ho : ∀ C a, Outs (Turn prog w base k (compEnvC scope (ownCells own (C + 1) cl) C env) tg a (t a (compEnvC scope (ownCells own (C + 1) cl) C env)) ρc x ifs) items out) : CompOk prog w base k env ρ elt (⟨.Name x px, iter, ifs, 0⟩ :: rest) scope pos out :=
  ⟨fun A O s ppos iter' ifs' x' px' rest' use Q E e hA hE hQ => by
    cases e
    exact comp_core hi it hclos hent hown hkind hnames hs hx hρ hlen htg hcaught ht ho hA hE hQ⟩

end
end Mine
namespace Mine
open PySem PySem.W PySem.Calls PyProof.Rows PySem.Spec

-- slices
noncomputable def pickL {α : Type} (xs : List α) (lo hi st : Option Int) : List α :=
  (sliceRange (sliceBounds lo hi st xs.length).1 (sliceBounds lo hi st xs.length).2.1 (sliceBounds lo hi st xs.length).2.2).filterMap (xs[·]?)
theorem RepL.places {g : View} {ds : List D} {vs : List Value} (h : RepL g ds vs) : ∀ js : List Nat, RepL g (js.filterMap (ds[·]?)) (js.filterMap (vs[·]?)) := by
  intro vq
  induction vq with
  | nil =>
    exact .nil
  | cons j js ihq =>
    have ih := ihq
    cases hn : ds[j]? with
    | some d =>
      obtain ⟨v, hv, hr⟩ := h.get hn
      simp only [List.filterMap_cons, hn, hv]
      exact .cons hr ih
    | none =>
      have hv : vs[j]? = none := by
        rw [List.getElem?_eq_none_iff] at hn ⊢
        rw [h.length]; exact hn
      simp only [List.filterMap_cons, hn, hv]
      exact ih
theorem RepL.pick {g : View} {ds : List D} {vs : List Value} (h : RepL g ds vs) (lo hi st : Option Int) : ∃ us, slicePick vs.toArray lo hi st = List.toArray us ∧ RepL g (pickL ds lo hi st) us := by
  refine ⟨(sliceRange (sliceBounds lo hi st ds.length).1 (sliceBounds lo hi st ds.length).2.1 (sliceBounds lo hi st ds.length).2.2).filterMap (vs[·]?), ?_, h.places _⟩
  simp [slicePick, h.length]

section
variable {prog : Program} {w : World} {base : Heap} {k : Nat} {env : Env} {ρ : List (Str × D)}

theorem cut_seq {O : List Addr} {A : Around} {s : Shared} {a p : Addr} {vs : List Value} {n : Nat} {ds : List D} {vl vu vk : Value} {lo hi st : Option Int} (hA : At base k A O s) (hl : s.heap.IsList a vs.toArray) (hL : RepL (fz O s.heap) ds vs) (hs : s.heap.IsSliceOf p vl vu vk)
    (pl : IsPart vl lo) (pu : IsPart vu hi) (pk : IsPart vk st) (h0 : st ≠ some 0) (hz : ds.length ≤ sizeLine) : WP prog w A (getItem (.ref a) (.ref p)) (fun v s' => Step s s' ∧ Rep (fz O s'.heap) (.list (pickL ds lo hi st)) v) s := by
  obtain ⟨us, e, r⟩ := hL.pick lo hi st
  refine wpAny_getItem_list_slice hl hs pl pu pk h0 ⟨Step.of (push_sub _ _), ?_⟩ (by simp only [List.size_toArray, hL.length]; exact hz)
  rw [e]
  exact of_list (fz_push hA.live _ rfl) (r.mono ((Step.of (s := s) (tk := 0) (push_sub _ _)).fz O))
theorem cut_list {ds : List D} {lo hi st : Option Int} (h0 : st ≠ some 0) (hz : ds.length ≤ sizeLine) : Cut prog w base k lo hi st (.list ds) (.list (pickL ds lo hi st)) := .mk fun A O s v p vl vu vk hA hr hs pl pu pk => by
  obtain ⟨a, vs, n, rfl, ha, hL⟩ := rep_list hr
  exact cut_seq (n := n) hA ⟨_, fz_heap _ _ ha, rfl, n, rfl⟩ hL hs pl pu pk h0 hz
theorem cut_arg {ds : List D} {lo hi st : Option Int} (h0 : st ≠ some 0) (hz : ds.length ≤ sizeLine) : Cut prog w base k lo hi st (.arg ds) (.list (pickL ds lo hi st)) := .mk fun A O s v p vl vu vk hA hr hs pl pu pk => by
  obtain ⟨a, o, vs, n, rfl, ha, hc, hd, hL⟩ := hr
  exact cut_seq (n := n) hA ⟨_, fz_heap _ _ ha, hc, n, hd⟩ hL hs pl pu pk h0 hz
theorem cut_bytes {b : Array UInt8} {lo hi : Option Int} (hz : b.size ≤ sizeLine) : Cut prog w base k lo hi none (.bytes b) (.bytes (KBy.picked b lo hi)) := .mk fun A O s v p vl vu vk hA hr hs pl pu pk => by
  obtain ⟨t, rfl⟩ := rep_bytes hr
  cases pk
  refine getItem_meets (typeIs_bytes _ _ _) (by rfl) FB.slot_bytes_getitem FB.entry_bytes_getitem (FB.args_bytes_getitem_2 _ _) (KBc.meets_slice2 b t _ pl pu) ⟨hs, Nat.le_trans (KBc.size_picked_le b lo hi) hz, fun t' k => ⟨Step.toks s _, of_bytes⟩⟩
theorem op_addBytes {x y : Array UInt8} (hz : x.size + y.size ≤ 16777216) : Op2 prog w base k (binaryOp .Add) (.bytes x) (.bytes y) (.bytes (x ++ y)) := .mk fun A O s a b hA h₁ h₂ => by
  obtain ⟨t, rfl⟩ := rep_bytes h₁; obtain ⟨u, rfl⟩ := rep_bytes h₂
  exact KBy.add_bytes hz fun t' k => ⟨Step.toks s _, of_bytes⟩
theorem op_notInStr {x y : Str} : Op2 prog w base k (compareOp .NotIn) (.str y) (.str x) (.bool (Builtin.Str.occurrences x y 0 x.length 1).isEmpty) := .mk fun A O s a b hA h₁ h₂ => by
  obtain ⟨t, rfl⟩ := rep_str h₁; obtain ⟨u, rfl⟩ := rep_str h₂
  refine notIn_str ⟨Step.refl s, ?_⟩
  simp only [Bool.not_not]; exact of_bool

theorem room_eq {A : Around} {O : List Addr} {s : Shared} (h : At base (k + 3) A O s) : A.units + 64 < cLine := by have := h.room.2.2; (exact Nat.lt_of_le_of_lt (Nat.add_le_add_left (Nat.le_trans (Nat.le_of_ble_eq_true rfl : 64 ≤ 30 * 3) (Nat.mul_le_mul_left 30 (Nat.le_add_left 3 k))) _) this)
structure Cmp (d : D) (p : PyData) : Prop where
  reads : ∀ (g : View) (h : Heap) (v : Value), Sub g h.get? → Rep g d v → ∃ as, Reads h v p as
  shaped : SeqAt.shaped p = true
theorem op_eqC {d e : D} {p q : PyData} {b : Bool} (c : Cmp d p) (c' : Cmp e q) (hb : PyData.eqv p q = b) : Op2 prog w base (k + 3) (compareOp .Eq) d e (.bool b) := .mk fun A O s x y hA r₁ r₂ => by
  obtain ⟨as, ra⟩ := c.reads _ _ _ fz_heap r₁
  obtain ⟨bs, rb⟩ := c'.reads _ _ _ fz_heap r₂
  exact eq_dataH ra rb c.shaped c'.shaped (room_eq hA) ⟨Step.refl s, by subst hb; exact of_bool⟩
theorem op_neC {d e : D} {p q : PyData} {b : Bool} (c : Cmp d p) (c' : Cmp e q) (hb : PyData.eqv p q = b) : Op2 prog w base (k + 3) (compareOp .NotEq) d e (.bool !b) := .mk fun A O s x y hA r₁ r₂ => by
  obtain ⟨as, ra⟩ := c.reads _ _ _ fz_heap r₁
  obtain ⟨bs, rb⟩ := c'.reads _ _ _ fz_heap r₂
  exact ne_dataH ra rb c.shaped c'.shaped (room_eq hA) ⟨Step.refl s, by subst hb; exact of_bool⟩

-- attributes
variable {K : Frag} {C : Addr}
theorem handed_of {g : View} {d : D} {v : Value} (r : Rep g d v) : handedIn v = true := by
  cases d
  · have r : v = _ := r; subst r; rfl
  · have r : v = _ := r; subst r; rfl
  · obtain ⟨t, rfl⟩ := r; rfl
  · obtain ⟨t, rfl⟩ := r; rfl
  · obtain ⟨t, rfl⟩ := r; rfl
  · obtain ⟨a, vs, n, rfl, _⟩ := r; rfl
  · obtain ⟨a, o, vs, n, rfl, _⟩ := r; rfl
  · obtain ⟨a, vs, n, rfl, _⟩ := r; rfl
  · obtain ⟨a, t, u, x, rfl, _⟩ := r; rfl
  · obtain ⟨a, d, es, n, rfl, _⟩ := r; rfl
inductive InstRep (g : View) (C : Addr) (ns : List Str) (ds : List D) (v : Value) : Prop
  | mk (a d : Addr) (es : List DictEntry) (n : Nat) (e : v = Value.ref a) (h1 : g a = some (instObj C d)) (h2 : g d = some (dictOf es n)) (h3 : es.map keyName = ns.map some) (h4 : RepL g ds (es.map (·.val)))
theorem rep_inst {g : View} {C : Addr} {ns : List Str} {ds : List D} {v : Value} (h : Rep g (.inst C ns ds) v) : InstRep g C ns ds v := by obtain ⟨a, d, es, n, e, h1, h2, h3, h4⟩ := h; exact ⟨a, d, es, n, e, h1, h2, h3, h4⟩

theorem ev_field {value : Expr} {attr : Str} {pos : Pos} {ns : List Str} {ds : List D} {d : D} {at_ : Option Value} (X : K.In base) (h : Ev prog w base k env ρ value (.inst C ns ds)) (hf : fieldD ns ds attr = some d)
    (hg : plainGet K C attr = true) (hh : hasDictIn K C = true) (ha : findIn K (.ref C) attr = some at_) (hn : noGet K at_ = true)
    (he : eval (.Attribute value attr pos) env = (do
      let o ← eval value env
      standAt pos.atName
      let r ← holding [o] (getAttr o attr true)
      letTemporaryGo value o r
      pure r) := by with_unfolding_all rfl) : Ev prog w base k env ρ (.Attribute value attr pos) d := .mk fun A O s hA hE => by
  refine Attribute_any_ (WP.mono (h.run A O s hA hE) fun v s₁ ⟨st, r⟩ => ?_) he
  obtain ⟨a, dx, es, n, rfl, h1, h2, h3, h4⟩ := rep_inst r
  obtain ⟨u, e, ru⟩ := getL_of h3 h4 hf
  refine get_value (X.keeps (hA.step st).get) (od := some (dictOf es n)) (ox := instObj C dx) ⟨fz_heap _ _ h1, rfl, rfl, fz_heap _ _ h2⟩ (plainGet_of hg).1 (findObj_own hh ha hn ?_) (handed_of ru) ⟨st.trans (Step.toks _ _), ru⟩
  exact e
theorem ev_clsAttr {x : Str} {px pos : Pos} {attr : Str} {mc a : Value} {d : D} (X : K.In base) (h : Evv prog w base k env ρ (.Name x px) (.ref C)) (hr : readsIn K C mc = true) (e : findCls K (.ref C) mc attr = some (.val a)) (hd : ∀ g, Rep g d a) (hh : handedIn a = true)
    (he : eval (.Attribute (.Name x px) attr pos) env = (do
      let o ← eval (.Name x px) env
      standAt pos.atName
      let r ← holding [o] (getAttr o attr true)
      letTemporaryGo (.Name x px) o r
      pure r) := by with_unfolding_all rfl) : Ev prog w base k env ρ (.Attribute (.Name x px) attr pos) d := .mk fun A O s hA hE => by
  refine Attribute_any_ (WP.mono (h.run A O s hA hE) fun v s₁ ⟨st, r⟩ => ?_) he
  subst r
  exact cls_value (X.keeps (hA.step st).get) hr e hh ⟨st.trans (Step.toks _ _), hd _⟩

theorem not_field {es : List DictEntry} : ∀ {ns : List Str} {x : Str}, es.map keyName = ns.map some → ns.contains x = false → getL x es = some none := by
  intro ns x h1 h2
  have hk : ∀ e ∈ es, ∃ y ∈ ns, keyName e = some y := fun e he => by
    have : keyName e ∈ es.map keyName := List.mem_map.mpr ⟨e, he, rfl⟩
    rw [h1, List.mem_map] at this
    obtain ⟨y, hy, e'⟩ := this
    exact ⟨y, hy, e'.symm⟩
  unfold getL
  have f1 : es.find? (·.key.isStr x) = none := by
    rw [List.find?_eq_none]
    intro e he
    obtain ⟨y, hy, e'⟩ := hk e he
    refine (keyName_isStr e') ▸ ?_
    have : y ≠ x := fun q => by subst q; skip; simp [hy] at h2
    simp [this]
  refine (f1) ▸ ?_
  have f2 : es.any (·.refKey) = false := by
    rw [List.any_eq_false]
    intro e he
    obtain ⟨y, hy, e'⟩ := hk e he
    unfold keyName at e'
    split at e'
    · rename_i z t q
      unfold DictEntry.refKey
      refine (q) ▸ ?_; simp
    · cases e'
  refine (f2) ▸ ?_; rfl

theorem ev_methodI {o : Expr} {name : Str} {apos pos : Pos} {e : Expr} {es : List Expr} {ns : List Str} {fs ds : List D} {f : Addr} {d : D} {pl : Sem Bool} (X : K.In base) (ho : Ev prog w base k env ρ o (.inst C ns fs)) (hg : plainGet K C name = true) (hf : findIn K (.ref C) name = some (some (.ref f))) (ht : isFn K (.ref f) = true)
    (hn : ns.contains name = false) (hk : KeepOk prog w base (.ref f)) (ha : Evs prog w base k env ρ pos (e :: es) ds) (hc : Fn prog w base k (fun vs => call (.ref f) vs) (.inst C ns fs :: ds) d)
    (hm : eval (.Call (.Attribute o name apos) (e :: es) [] pos) env = (do
      let ov ← eval o env
      standAt apos.atName
      let (f, first) ← holding [ov] (getMethod ov name pl)
      callWith pos f first (backTo pos (starEach (e :: es) env)) (backToKw pos (keywordEach [] env))) := by rfl)
    (he : starEach (e :: es) env = (false, eval e env) :: starEach es env := by rfl) (hp : (backTo pos (starEach es env)).any (·.1) = false := by rfl) :
    Ev prog w base k env ρ (.Call (.Attribute o name apos) (e :: es) [] pos) d := .mk fun A O s hA hE => by
  refine methodCall_KW (pl := pl) ?_ hm
  refine WP.mono (ho.run A O s hA hE) fun v s₁ ⟨st₁, r₁⟩ => ?_
  skip
  obtain ⟨a, dx, es', n, rfl, h1, h2, h3, h4⟩ := rep_inst r₁
  refine method_fn (X.keeps (hA.step st₁).get) (od := some (dictOf es' n)) (ox := instObj C dx) ⟨fz_heap _ _ h1, rfl, rfl, fz_heap _ _ h2⟩ (plainGet_of hg).1 (plainGet_of hg).2 hf (beq_iff_eq.mp ht) (by show (lookIn name (dictOf es' n)).map _ = _; simp only [lookIn_dict, not_field h3 hn]; rfl) ?_
  exact WP.mono (callWith_go (first := [.ref a]) (d₀ := [_]) hk ha hc (hA.step st₁) (hE.step st₁) (.one (r₁)) he hp) fun v s₂ ⟨st₂, r₂⟩ => ⟨st₁.trans st₂, r₂⟩
theorem ev_methodI0 {o : Expr} {name : Str} {apos pos : Pos} {ns : List Str} {fs : List D} {f : Addr} {d : D} {pl : Sem Bool} (X : K.In base) (ho : Ev prog w base k env ρ o (.inst C ns fs)) (hg : plainGet K C name = true) (hf : findIn K (.ref C) name = some (some (.ref f))) (ht : isFn K (.ref f) = true)
    (hn : ns.contains name = false) (hk : KeepOk prog w base (.ref f)) (hc : Fn prog w base k (fun vs => call (.ref f) vs) [.inst C ns fs] d)
    (hm : eval (.Call (.Attribute o name apos) [] [] pos) env = (do
      let ov ← eval o env
      standAt apos.atName
      let (f, first) ← holding [ov] (getMethod ov name pl)
      callWith pos f first (backTo pos (starEach [] env)) (backToKw pos (keywordEach [] env))) := by rfl) :
    Ev prog w base k env ρ (.Call (.Attribute o name apos) [] [] pos) d := .mk fun A O s hA hE => by
  refine methodCall_KW (pl := pl) ?_ hm
  refine WP.mono (ho.run A O s hA hE) fun v s₁ ⟨st₁, r₁⟩ => ?_
  skip
  obtain ⟨a, dx, es', n, rfl, h1, h2, h3, h4⟩ := rep_inst r₁
  refine method_fn (X.keeps (hA.step st₁).get) (od := some (dictOf es' n)) (ox := instObj C dx) ⟨fz_heap _ _ h1, rfl, rfl, fz_heap _ _ h2⟩ (plainGet_of hg).1 (plainGet_of hg).2 hf (beq_iff_eq.mp ht) (by show (lookIn name (dictOf es' n)).map _ = _; simp only [lookIn_dict, not_field h3 hn]; rfl) ?_
  exact WP.mono (callWith_go0 (first := [.ref a]) (d₀ := [_]) hk hc (hA.step st₁) (.one (r₁))) fun v s₂ ⟨st₂, r₂⟩ => ⟨st₁.trans st₂, r₂⟩
end
end Mine
namespace Mine
open PySem PySem.W PySem.Calls PyProof.Rows PySem.Spec

inductive LeL (ρ' : List (Str × D)) : List (Str × D) → Prop
  | nil : LeL ρ' []
  | cons {x : Str} {d d' : D} {r : List (Str × D)} (h : ρ'.lookup x = some d') (e : d' = d) (t : LeL ρ' r) : LeL ρ' ((x, d) :: r)
theorem LeL.get {ρ' ρ : List (Str × D)} (h : LeL ρ' ρ) {x : Str} {d : D} (e : ρ.lookup x = some d) : ρ'.lookup x = some d := by
  induction h with
  | nil => cases e
  | cons h e' t ih =>
    rename_i y d₁ d₂ r
    rw [List.lookup_cons] at e
    by_cases q : x = y
    · subst q; simp at e; simp only [h, e', e]
    · rw [beq_eq_false_iff_ne.mpr q] at e; exact ih e
theorem le_of {σ' σ : Sg} (h : LeL σ'.ρ σ.ρ) (hl : σ.lst = none ∨ σ'.lst = σ.lst) (ho : σ.obj = none ∨ σ'.obj = σ.obj) : Le σ' σ :=
  ⟨fun x d e => h.get e, fun p e => hl.elim (fun h => by exact nos (h) e) fun h => by refine (h).trans ?_; exact e, fun p e => ho.elim (fun h => by exact nos (h) e) fun h => by refine (h).trans ?_; exact e⟩

structure Wd (K : Frag) (base : Heap) : Prop where
  X : K.In base
  lim : base.NoLimit
  top : ∃ mg mb, base.Ns mainGlobals mg ∧ base.Ns builtinsNs mb ∧ ∀ x : Str, x ≠ "__name__" → mb x = bootBuiltins x
theorem Wd.glob {K : Frag} {base : Heap} (h : Wd K base) {x : Str} {v : Value} (e : nsIn K mainGlobals x = some (some v)) : Gl base x v := by
  obtain ⟨mg, mb, g, b, _⟩ := h.top
  exact ⟨mg, mb, g, b, .inl (mg_of h.X g e)⟩
theorem Wd.blt {K : Frag} {base : Heap} (h : Wd K base) {x : Str} {v : Value} (e : nsIn K mainGlobals x = some none) (hv : bootBuiltins x = some v) (hn : x ≠ "__name__") : Gl base x v := by
  obtain ⟨mg, mb, g, b, hb⟩ := h.top
  exact ⟨mg, mb, g, b, .inr ⟨mg_none_of h.X g e, (hb x hn).trans hv⟩⟩
theorem Wd.keep {prog : Program} {w : World} {K : Frag} {base : Heap} (h : Wd K base) {f : Value} (e : keepIn K f = true) : KeepOk prog w base f := fun hp hs => by
  obtain ⟨k, a, b⟩ := keeps_K (M := model prog w) e hp (h.X.keeps hs)
  exact ⟨k, a, b⟩

section
variable {prog : Program} {w : World} {base : Heap} {k : Nat} {env : Env}
theorem bd_while_ind {ι : Type} {test : Expr} {body orelse : List Stmt} {pos : Pos} (σf : ι → Sg) (μ : ι → Nat) (out : ι → Out)
    (h : ∀ i, (Tst prog w base k env (σf i).all test false ∧ Bd prog w base k env (execs orelse env) (σf i) (out i)) ∨ (∃ j, μ j < μ i ∧ out j = out i ∧ Tst prog w base k env (σf i).all test true ∧ Bd prog w base k env (execs body env) (σf i) (.next (σf j)))) (i : ι) :
    Bd prog w base k env (exec (.While test body orelse pos) env) (σf i) (out i) := by
  have key : ∀ n i, μ i ≤ n → ∃ m, Wl prog w base k env test body orelse m (σf i) (out i) := by
    intro n
    induction n with
    | zero =>
      intro i hi
      rcases h i with ⟨h1, h2⟩ | ⟨j, h1, _⟩
      · exact ⟨0, .done h1 h2⟩
      · (exact absurd (Nat.lt_of_lt_of_le h1 hi) (Nat.not_lt_zero _))
    | succ n ih =>
      intro i hi
      rcases h i with ⟨h1, h2⟩ | ⟨j, h1, h2, h3, h4⟩
      · exact ⟨0, .done h1 h2⟩
      · obtain ⟨m, hm⟩ := ih j (by (exact Nat.le_of_lt_succ (Nat.lt_of_lt_of_le h1 hi)))
        exact ⟨m + 1, .next h3 h4 (h2 ▸ hm)⟩
  obtain ⟨m, hm⟩ := key (μ i) i (Nat.le_refl _)
  exact bd_while hm
theorem lp_ind {ι : Type} {body orelse : List Stmt} (σf : ι → Sg) (items : ι → List (List (Str × D))) (out : ι → Out)
    (h : ∀ i, (items i = [] ∧ Bd prog w base k env (execs orelse env) (σf i) (out i)) ∨
      (∃ bs j, items i = bs :: items j ∧ out j = out i ∧ offs bs (σf i) = true ∧ Bd prog w base k env (execs body env) ((σf i).bind bs) (.next (σf j))) ∨
      (∃ bs rest σ', items i = bs :: rest ∧ out i = .next σ' ∧ offs bs (σf i) = true ∧ Bd prog w base k env (execs body env) ((σf i).bind bs) (.brk σ')) ∨
      (∃ bs rest r, items i = bs :: rest ∧ out i = .ret r ∧ offs bs (σf i) = true ∧ Bd prog w base k env (execs body env) ((σf i).bind bs) (.ret r))) (i : ι) :
    Lp prog w base k env body orelse (items i) (σf i) (out i) := by
  have key : ∀ n i, (items i).length ≤ n → Lp prog w base k env body orelse (items i) (σf i) (out i) := by
    intro n
    induction n with
    | zero =>
      intro i hi
      rcases h i with ⟨h1, h2⟩ | ⟨bs, j, h1, _⟩ | ⟨bs, rest, σ', h1, _⟩ | ⟨bs, rest, r, h1, _⟩
      · rw [h1]; exact .nil h2
      all_goals (rw [h1] at hi; simp at hi)
    | succ n ih =>
      intro i hi
      rcases h i with ⟨h1, h2⟩ | ⟨bs, j, h1, h2, h3, h4⟩ | ⟨bs, rest, σ', h1, h2, h3, h4⟩ | ⟨bs, rest, r, h1, h2, h3, h4⟩
      · rw [h1]; exact .nil h2
      · rw [h1]
        have := ih j (by rw [h1] at hi; simp at hi; exact hi)
        simp only [h2] at this
        exact .next h3 h4 this
      · rw [h1, h2]; exact .brk h3 h4
      · rw [h1, h2]; exact .ret h3 h4
  exact key _ i (Nat.le_refl _)
end

theorem fn_K {prog : Program} {w : World} {K : Frag} {base : Heap} {k : Nat} {a : Addr} {oc : Value} {od : Option Addr} {fd : FuncData} {osl : Array (Option Value)} {body : List Stmt} {xs : List Str} {ds : List D} {d : D} {o' : Out} (H : Wd K base)
    (ho : K.lookup a = some ⟨oc, od, .func fd, osl⟩) (hbody : fd.body = .stmts body) (hcd : codeIn K fd.code fd.qualname = true)
    (hclo : fd.closure = []) (hlen : ds.length = xs.length) (hbind : ∀ vs : List Value, vs.length = xs.length → bindArgs fd ⟨vs, []⟩ = pure (xs.zip vs)) (hcell : ∀ x ∈ fd.scope.names, x.2 ≠ .cell) (hloc : ∀ x ∈ xs, fd.scope.names.lookup x = some .local) (hnd : xs.Nodup)
    (hco : fd.scope.isCoroutine = false) (hgen : fd.scope.isGenerator = false) (hk : fd.scope.kind = .function)
    (hout : o' = .ret d ∨ ((∃ σ, o' = .next σ) ∧ d = .none)) (h : ∀ L, Bd prog w base k (callEnv fd L a) (execs body (callEnv fd L a)) ⟨xs.zip ds, none, none⟩ o') :
    Fn prog w base (k + 1) (fun vs => call (.ref a) vs) ds d :=
  fn_def (H.X _ _ ho) rfl hbody H.lim (codeRec_of H.X hcd) hclo hlen hbind hcell hloc hnd h hout hco hgen hk
theorem Fn.le {prog : Program} {w : World} {base : Heap} {k j : Nat} {t : List Value → Sem Value} {ds : List D} {d : D} (h : Fn prog w base j t ds d) (hj : j ≤ k) : Fn prog w base k t ds d :=
  ⟨fun A O s vs hA hr => h.run A O s vs (hA.le hj) hr⟩
end Mine
namespace Mine
open PySem PySem.W PySem.Calls PyProof.Rows PySem.Spec

noncomputable def tabRow (e : DictEntry) : Option (Int × Str) := match e.key, e.val with
  | .int k _, .str x _ => if e.hash = hashInt k then some (k, x) else none
  | _, _ => none
noncomputable def tabRows : List DictEntry → Option (List (Int × Str))
  | [] => some []
  | e :: es => match tabRow e, tabRows es with
    | some p, some r => some (p :: r)
    | _, _ => none
theorem tabRow_spec {e : DictEntry} {p : Int × Str} (h : tabRow e = some p) : ∃ t u, e.key = .int p.1 t ∧ e.val = .str p.2 u ∧ e.hash = hashInt p.1 := by
  unfold tabRow at h
  split at h
  · rename_i k t x u h1 h2
    split at h
    · rename_i h3; cases h; exact ⟨t, u, h1, h2, h3⟩
    · cases h
  · cases h
theorem tabRows_keys {prog : Program} {w : World} : ∀ {es : List DictEntry} {r : List (Int × Str)}, tabRows es = some r → (∀ e ∈ es, ∃ k, (intKind prog w).is k e.key = true ∧ e.hash = (intKind prog w).hash k) ∧
    ∃ kvs : List (Int × Value), Pairs (intKind prog w) es kvs ∧ kvs.map (·.1) = r.map (·.1) ∧ PyProof.V.FlatPairs PyData.int kvs (r.map fun p => (PyData.int p.1, PyData.str p.2)) := by
  intro vq
  induction vq with
  | nil =>
    intro r h
    cases h; exact ⟨(fun e he => by cases he), [], .nil, rfl, .nil⟩
  | cons e es ihq =>
    intro r h
    unfold tabRows at h
    split at h
    · rename_i p r' h1 h2
      cases h
      obtain ⟨t, u, e1, e2, e3⟩ := tabRow_spec h1
      obtain ⟨g1, kvs, g2, g3, g4⟩ := ihq h2
      refine ⟨fun e' he => ?_, (p.1, .str p.2 u) :: kvs, .cons ?_ e2 g2, by simp only [List.map_cons, List.map_cons, g3], ?_⟩
      · rcases List.mem_cons.mp he with rfl | he
        · exact ⟨p.1, by refine (congrArg _ (e1)).trans ?_; exact intKind_is prog w p.1 t, e3⟩
        · exact g1 e' he
      · refine (congrArg _ (e1)).trans ?_; exact intKind_is prog w p.1 t
      · exact .cons (PyProof.V.Flat.str _ _) g4
    · cases h
theorem intTab_of {prog : Program} {w : World} {h : Heap} {a : Addr} {es : List DictEntry} {ep : Nat} {r : List (Int × Str)} (ho : h.get? a = some { cls := .type "dict", dict := none, data := .dict es.toArray ep, slots := #[] }) (hr : tabRows es = some r) (hn : (r.map (·.1)).Nodup) (hs : (a == sysModules) = false) :
    IntTab prog w h a (r.map fun p => (PyData.int p.1, PyData.str p.2)) := by
  obtain ⟨g1, kvs, g2, g3, g4⟩ := tabRows_keys (prog := prog) (w := w) hr
  exact ⟨hs, kvs, ⟨_, _, _, ho, ⟨rfl, rfl, rfl⟩, rfl, fun e he => g1 e (by simpa using he), by exact g2, by simp only [g3]; exact hn⟩, g4⟩

section
variable {prog : Program} {w : World} {base : Heap} {k : Nat} {env : Env} {ρ : List (Str × D)}
theorem ev_dictget {x : Str} {px apos pos : Pos} {e₁ e₂ : Expr} {a : Addr} {i : Int} {dx r : Str} {T : List (PyData × PyData)} {pl : Sem Bool} (hf : Evv prog w base k env ρ (.Name x px) (.ref a)) (hT : IntTab prog w base a T) (ha : Evs prog w base k env ρ pos [e₁, e₂] [.int i, .str dx])
    (hr : (lookup (.int i) T).getD (.str dx) = .str r)
    (hm : eval (.Call (.Attribute (.Name x px) ("get" : Str) apos) [e₁, e₂] [] pos) env = (do
      let ov ← eval (.Name x px) env
      standAt apos.atName
      let (f, first) ← holding [ov] (getMethod ov ("get" : Str) pl)
      callWith pos f first (backTo pos (starEach [e₁, e₂] env)) (backToKw pos (keywordEach [] env))) := by rfl)
    (he : starEach [e₁, e₂] env = (false, eval e₁ env) :: starEach [e₂] env := by rfl) (hp : (backTo pos (starEach [e₂] env)).any (·.1) = false := by rfl) :
    Ev prog w base k env ρ (.Call (.Attribute (.Name x px) ("get" : Str) apos) [e₁, e₂] [] pos) (.str r) := .mk fun A O s hA hE => by
  refine methodCall_KW (pl := pl) ?_ hm
  refine WP.mono (hf.run A O s hA hE) fun v s₁ ⟨st, e⟩ => ?_
  subst e
  have hA₁ := hA.step st
  refine getMethod_intTab_get (hT.keep hA₁.get) ?_
  have ha' := ha.run A O s₁ hA₁ (hE.step st)
  simp only [he] at ha' ⊢
  skip
  refine callWith_of (P := fun h => Sub base.get? h.get?) (by show ((false || (backTo pos (starEach [e₂] env)).any (·.1)) || false) = false; refine (hp).symm ▸ ?_; rfl) keep_builtin ?_
  refine evalArgs_plain (WP.mono ha' fun vs s₂ ⟨st₂, r₂⟩ => ⟨(hA₁.step st₂).get, ?_⟩)
  obtain ⟨v, v', rfl, hv, hv'⟩ := RepL.inv2 r₂
  obtain ⟨t, rfl⟩ := rep_int hv; obtain ⟨u, rfl⟩ := rep_str hv'
  refine call_get2_intTab (hT.keep (hA₁.step st₂).get) (PyProof.V.Flat.str dx u) fun v hv => ?_
  simp only [hr] at hv
  obtain ⟨t', rfl⟩ := hv.str_inv
  exact ⟨(st.trans st₂).trans (Step.toks _ _), of_str⟩
end
end Mine
namespace Mine
open PySem PySem.W PySem.Calls PyProof.Rows PySem.Spec

theorem bitAnd_nat (a b : Nat) : Builtin.bitAnd (a : Int) (b : Int) = ((a &&& b : Nat) : Int) := by
  skip
  skip
  rfl
theorem bitXor_nat (a b : Nat) : Builtin.bitXor (a : Int) (b : Int) = ((a ||| b : Nat) : Int) - ((a &&& b : Nat) : Int) := by
  unfold Builtin.bitXor
  skip
  congr 1
  unfold Builtin.bitOr Builtin.bitAnd Builtin.bitNot
  skip
  skip
  simp only [(decide_eq_false (by (lia)) : decide ((0 : Int) ≤ -(a : Int) - 1) = false), (decide_eq_false (by exact Int.not_le.mpr (Int.sub_neg_of_lt (Int.lt_of_le_of_lt (Int.neg_nonpos_of_nonneg (Int.natCast_nonneg b)) (by decide)))) : decide ((0 : Int) ≤ -(b : Int) - 1) = false)]
  skip
  simp only [(by intro n; (lia) : ∀ n : Nat, (-(-(n : Int) - 1) - 1).toNat = n)]
  (lia)
theorem div_step (n i : Nat) : n / 2 ^ (i + 1) = n / 2 ^ i / 2 := by simp only [Nat.pow_succ, Nat.div_div_eq_div_mul]
theorem testBit_odd (n i : Nat) : n.testBit i = decide (n / 2 ^ i % 2 = 1) := by exact (Nat.testBit_eq_decide_div_mod_eq)
theorem low_bit (n i : Nat) : (n / 2 ^ i * 2 ^ i).testBit i = n.testBit i := by
  simp only [Nat.testBit_mul_two_pow, testBit_odd n i]
  simp
theorem and_pow (f i : Nat) : f &&& 2 ^ i = if f.testBit i then 2 ^ i else 0 := by
  apply Nat.eq_of_testBit_eq
  intro j
  simp only [Nat.testBit_and]
  by_cases q : i = j
  · subst q
    cases h : f.testBit i <;> simp
  · cases h : f.testBit i <;> simp [q, Nat.testBit_two_pow]
theorem bit_and (n i : Nat) : (Builtin.bitAnd (((n / 2 ^ i * 2 ^ i : Nat) : Int)) ((2 ^ i : Nat) : Int) != 0) = n.testBit i := by
  rw [bitAnd_nat, and_pow, low_bit]
  cases n.testBit i with
  | false => rfl
  | true =>
    have : 0 < 2 ^ i := Nat.pow_pos (Nat.zero_lt_succ _)
    skip
    generalize 2 ^ i = m at *
    simp; (exact Nat.ne_of_gt (by assumption))
theorem bit_xor (n i : Nat) (h : n.testBit i = true) : Builtin.bitXor (((n / 2 ^ i * 2 ^ i : Nat) : Int)) ((2 ^ i : Nat) : Int) = ((n / 2 ^ (i + 1) * 2 ^ (i + 1) : Nat) : Int) := by
  have hb : (n / 2 ^ i * 2 ^ i).testBit i = true := by simp only [low_bit, h]
  rw [bitXor_nat, and_pow, hb, if_pos rfl]
  have e : n / 2 ^ i * 2 ^ i ||| 2 ^ i = n / 2 ^ i * 2 ^ i := by
    apply Nat.eq_of_testBit_eq
    intro j
    rw [Nat.testBit_or]
    by_cases q : i = j
    · subst q; refine (hb) ▸ ?_; rfl
    · simp [q]
  refine (e).symm ▸ ?_
  rw [testBit_odd] at h
  skip
  have e2 : n / 2 ^ (i + 1) * 2 ^ (i + 1) + 2 ^ i = n / 2 ^ i * 2 ^ i := by
    rw [div_step]
    generalize n / 2 ^ i = m at *
    have : m = m / 2 * 2 + 1 := by (exact (Nat.div_add_mod' m 2).symm.trans (congrArg (m / 2 * 2 + ·) (of_decide_eq_true (by assumption))))
    calc m / 2 * (2 ^ i * 2) + 2 ^ i = (m / 2 * 2 + 1) * 2 ^ i := by simp only [Nat.add_mul, Nat.one_mul, Nat.mul_comm (2 ^ i) 2, Nat.mul_assoc]
      _ = m * 2 ^ i := by rw [← this]
  refine ( e2) ▸ ?_; (simp)
theorem bit_skip (n i : Nat) (h : n.testBit i = false) : n / 2 ^ i * 2 ^ i = n / 2 ^ (i + 1) * 2 ^ (i + 1) := by
  rw [testBit_odd] at h
  skip
  rw [div_step, Nat.pow_succ]
  generalize n / 2 ^ i = m at *
  have : m = m / 2 * 2 := by (exact (Nat.div_mul_cancel (Nat.dvd_of_mod_eq_zero ((Nat.mod_two_eq_zero_or_one m).resolve_right (of_decide_eq_false (by assumption))))).symm)
  calc m * 2 ^ i = (m / 2 * 2) * 2 ^ i := by rw [← this]
    _ = _ := by rw [Nat.mul_assoc, Nat.mul_comm 2]

-- the words of the flags
noncomputable def flagNames : List Str := ["OPTIMIZED", "NEWLOCALS", "VARARGS", "VARKEYWORDS", "NESTED", "GENERATOR", "NOFREE", "COROUTINE", "ITERABLE_COROUTINE", "ASYNC_GENERATOR"]
noncomputable def pfw (i : Nat) : Str := flagNames.getD i (PySem.baseText "0x" 16 ((2 ^ i : Nat) : Int))
noncomputable def pfWords (n : Nat) : List Str := if n = 0 then [PySem.baseText "0x" 16 0] else ((List.range 32).filter n.testBit).map pfw
end Mine
namespace Mine
open PySem PySem.W PySem.Calls PyProof.Rows PySem.Spec

section
variable {prog : Program} {w : World} {base : Heap} {k : Nat} {env : Env} {ρ : List (Str × D)} {σ : Sg} {o : Out}

theorem call1 {A : Around} {O : List Addr} {s : Shared} {x : Str} {px pos : Pos} {e : Expr} {f : Value} {d : D} {Q : Value → Shared → Prop} (hf : Evv prog w base k env ρ (.Name x px) f) (hk : KeepOk prog w base f) (he : Ev prog w base k env ρ e d) (hA : At base k A O s) (hE : EnvOk base env ρ O s.heap)
    (h : ∀ s₁ v, Step s s₁ → Rep (fz O s₁.heap) d v → WP prog w A (call f [v]) Q s₁) (hs : starEach [e] env = [(false, eval e env)]) : WP prog w A (eval (.Call (.Name x px) [e] [] pos) env) Q s := by
  show WP prog w A (do callWith pos (← eval (.Name x px) env) [] (backTo pos (starEach [e] env)) []) _ s
  refine wpAny_bind (WP.mono (hf.run A O s hA hE) fun v s₁ ⟨st₁, e₁⟩ => ?_)
  subst e₁
  refine (hs) ▸ ?_
  refine callWith_of (P := fun h => Sub base.get? h.get?) rfl hk ?_
  refine evalArgs_plain ?_
  show wpAny (model prog w) A (do
      let v ← eval e env
      let here ← (pure [v] : Sem (List Value))
      return here ++ (← holding here (spliced []))) _ _ s₁
  refine wpAny_bind (WP.mono (he.run A O s₁ (hA.step st₁) (hE.step st₁)) fun v s₂ ⟨st₂, r₂⟩ => ?_)
  exact wpAny_bind (wpAny_pure (wpAny_bind (wpAny_holding (wpAny_pure (wpAny_pure ⟨((hA.step st₁).step st₂).get, h s₂ v (st₁.trans st₂) r₂⟩)))))

noncomputable def enumB (xi xv : Str) (ds : List D) : List (List (Str × D)) := ds.zipIdx.map fun p => [(xv, p.1), (xi, .int (p.2 : Int))]
theorem enumB_get {xi xv : Str} {ds : List D} {i : Nat} {bs : List (Str × D)} (h : (enumB xi xv ds)[i]? = some bs) : ∃ d, ds[i]? = some d ∧ bs = [(xv, d), (xi, .int (i : Int))] := by
  unfold enumB at h
  rw [List.getElem?_map, List.getElem?_zipIdx] at h
  cases e : ds[i]? with
  | none => rw [e] at h; cases h
  | some d => rw [e] at h; simp at h; exact ⟨d, rfl, h.symm⟩
theorem enumB_len {xi xv : Str} {ds : List D} : (enumB xi xv ds).length = ds.length := by simp [enumB]
theorem offs_two {x y : Str} {d e : D} (h : offs [(x, d), (y, e)] σ = true) : (offB x σ.lst = true ∧ offB x σ.obj = true) ∧ offB y σ.lst = true ∧ offB y σ.obj = true := by
  unfold offs at h; simp at h; exact h

theorem bd_forEnum {xi xv : Str} {pi pv tp px cpos pos : Pos} {kk : Nat} {e : Expr} {body orelse : List Stmt} {ds : List D} (hg : Evv prog w base k env σ.ρ (.Name ("enumerate" : Str) px) (.type "enumerate")) (h : Ev prog w base k env σ.ρ e (.list ds)) (hsi : Storable env xi) (hsv : Storable env xv)
    (lp : Lp prog w base k env body orelse (enumB xi xv ds) σ o) (hk : env.scope.kind = .function := by rfl) (hst : starEach [e] env = [(false, eval e env)] := by rfl)
    (hf : ∀ x, foldedSetIterable (.Call (.Name ("enumerate" : Str) px) [e] [] cpos) env x = pure x := by intro _; rfl) :
    Bd prog w base k env (exec (.For (.Tuple [.Name xi pi, .Name xv pv] kk tp) (.Call (.Name ("enumerate" : Str) px) [e] [] cpos) body orelse pos) env) σ o :=
  ⟨fun A O W s hA F => by
    refine wpAny_For ?_ hf
    refine call1 hg keep_type h hA F.envOk (fun s₁ v st r => ?_) hst
    have hA₁ := hA.step st
    have F₁ := F.step st
    obtain ⟨l, vs, n, rfl, hl, hL⟩ := rep_list r
    obtain ⟨hlO, hlh⟩ := fz_some.mp hl
    refine call_enumerate_1 hlh fun h' he hit hsz hkeep => ?_
    refine wpAny_pyIter_enum he ?_
    have new0 : s₁.heap.get? s₁.heap.objs.size = none := new_none s₁
    have new1 : s₁.heap.get? (s₁.heap.objs.size + 1) = none := by
      cases e : s₁.heap.get? (s₁.heap.objs.size + 1) with
      | none => rfl
      | some o => exact absurd (Heap.lt_size e) (Nat.not_lt.mpr (Nat.le_succ _))
    have st₂ : Step s₁ { s₁ with heap := h' } := Step.of (tk := s₁.toks) hkeep
    have llt : l < s₁.heap.objs.size := Heap.lt_size hlh
    have hne1 : s₁.heap.objs.size + 1 ≠ s₁.heap.objs.size := Nat.succ_ne_self _
    have hne2 : l ≠ s₁.heap.objs.size + 1 := Nat.ne_of_lt (Nat.lt_succ_of_lt llt)
    have Wt := WalksT.enumerate (prog := prog) (w := w) hA.room.1 (s₁.heap.objs.size + 1) s₁.heap.objs.size l hne1 hne2 (Nat.ne_of_lt llt) vs.toArray
    generalize hsz' : s₁.heap.objs.size = e₀ at *
    have inW : ∀ b ∈ [e₀ + 1, e₀], s₁.heap.get? b = none := fun b hb => by
      rcases List.mem_cons.mp hb with rfl | hb
      · exact new1
      · rw [List.mem_singleton.mp hb]; exact new0
    refine loop_ok (St := fun (i : Nat) s => (∃ old, IsEnum s.heap (e₀ + 1) e₀ (i : Int) old) ∧ s.heap.IsListIter e₀ l i ∧ s.heap.IsList l vs.toArray) (fp := [e₀ + 1, e₀, l]) (wr := [e₀ + 1, e₀]) (G := []) (O := O) (W := W) (s₁ := s₁) (items := enumB xi xv ds) (o := o) (σ := σ) (fun i s s' h hk _ => Wt.frame _ _ _ h hk) ?_ Wt.sub ?_ ?_ ?_ hA₁ F₁ st₂ inW (by simp) ⟨⟨_, he⟩, hit, ⟨_, hkeep _ _ hlh, rfl, n, rfl⟩⟩ lp (R := fun r s' => match r with | .ok f => Post base env O W s o f s' | .error e => cameBackBy (model prog w) A env (fun _ _ => False) e s') ?_
    · rintro i s ⟨⟨old, h1⟩, ⟨o2, h2, _⟩, ⟨o3, h3, _⟩⟩ b hb
      rcases List.mem_cons.mp hb with rfl | hb
      · exact ⟨_, h1⟩
      · rcases List.mem_cons.mp hb with rfl | hb
        · exact ⟨_, h2⟩
        · rw [List.mem_singleton.mp hb]; exact ⟨_, h3⟩
    · intro b hb hm
      have : ∃ o, s₁.heap.get? b = some o := hA₁.live b (List.mem_append_left _ hm)
      obtain ⟨o', e'⟩ := this
      rcases List.mem_cons.mp hb with rfl | hb
      · rw [new1] at e'; cases e'
      · rcases List.mem_cons.mp hb with rfl | hb
        · rw [new0] at e'; cases e'
        · rw [List.mem_singleton.mp hb] at hm; exact hlO (List.mem_append_left _ hm)
    · intro i bs σ' W' s₂ hib hS hA' F' ho hz hfp'
      obtain ⟨d, hd, rfl⟩ := enumB_get hib
      obtain ⟨⟨v1, v2⟩, i1, i2⟩ := offs_two ho
      have hlt : i < vs.toArray.size := by
        rw [List.size_toArray, hL.length]; exact (List.getElem?_eq_some_iff.mp hd).1
      refine Wt.item i s₂ _ _ hlt hS fun T vals h₁ tk hPt hTs hT hMid hk₁ => ⟨_, rfl, ?_⟩
      obtain ⟨t, x, hx, rfl⟩ := hPt
      refine Wt.go _ _ _ i T _ _ _ hMid fun h₂ hS₂ hk₂ => ?_
      have hT₂ : h₂.IsTuple T #[.int i t, x] := hT.at fun o e => hk₂ T o (Wt.apart i T h₁ hMid) e
      have kk2 : ∀ b o, b ∉ [e₀ + 1, e₀] → s₂.heap.get? b = some o → h₂.get? b = some o := fun b o hb e => hk₂ b o hb (hk₁ b o hb e)
      refine wpAny_assign_Tuple hA.room.1 hT₂ rfl rfl fun h₃ hx₃ => ?_
      replace hx₃ : Heap.ExtBut h₂.objs.size h₂ h₃ := hx₃
      have up₃ : ∀ b o, h₂.get? b = some o → h₃.get? b = some o := fun b o x => hx₃ b o (Nat.ne_of_lt (Heap.lt_size x)) x
      have kk3 : ∀ b o, b ∉ [e₀ + 1, e₀] → s₂.heap.get? b = some o → h₃.get? b = some o := fun b o hb e => up₃ b o (kk2 b o hb e)
      have F₃ := F'.moved (h' := h₃) fun b o hb e => kk3 b o (fun hm => hb (List.mem_append_left _ hm)) e
      have hz₃ : Sub (fz (W' ++ ([e₀ + 1, e₀] ++ O)) s₂.heap) (fz (W' ++ ([e₀ + 1, e₀] ++ O)) h₃) := fz_mono (fun b hb => .inl hb) fun b o hb e => kk3 b o (fun hm => hb (List.mem_append_right _ (List.mem_append_left _ hm))) e
      obtain ⟨u, hu, ru⟩ := hL.get hd
      have hxu : x = u := by
        have : vs[i]? = some x := by simpa using hx
        rw [hu] at this; cases this; rfl
      subst hxu
      have r₃ : Rep (fz (W' ++ ([e₀ + 1, e₀] ++ O)) h₃) d x := (ru.mono hz).mono hz₃
      have hS₃ : (∃ old, IsEnum h₃ (e₀ + 1) e₀ ((i + 1 : Nat) : Int) old) ∧ h₃.IsListIter e₀ l (i + 1) ∧ h₃.IsList l vs.toArray := Wt.frame _ _ _ hS₂ fun b _ o e => up₃ b o e
      have L₃ : Live (W' ++ ([e₀ + 1, e₀] ++ O)) h₃ := fun b hb => by
        by_cases q : b ∈ [e₀ + 1, e₀]
        · obtain ⟨⟨old, g1⟩, ⟨o2, g2, _⟩, _⟩ := hS₃
          rcases List.mem_cons.mp q with rfl | q
          · exact ⟨_, g1⟩
          · rw [List.mem_singleton.mp q]; exact ⟨_, g2⟩
        · obtain ⟨o, e⟩ := hA'.live b hb; exact ⟨o, kk3 b o q e⟩
      show wpAny _ A (do holding [x] (assign (.Name xi pi) env (.int i t)); do holding [] (assign (.Name xv pv) env x); pure ()) _ _ _
      refine wpAny_bind (wpAny_holding (wpAny_assign_Name (store_ok (s := { s₂ with heap := h₃, toks := tk }) F₃ hk hsi fun s₄ h₄ => ?_)))
      have F₄ := F₃.put (d := .int (i : Int)) h₄ of_int i1 i2
      refine wpAny_bind (wpAny_holding (wpAny_assign_Name (store_ok F₄ hk hsv fun s₅ h₅ => wpAny_pure ?_)))
      have F₅ := F₄.put h₅ (r₃.mono h₄.fz) v1 v2
      have c45 := h₄.chg.trans (.refl _ _) h₅.chg
      refine ⟨?_, ⟨fun b o hb e => ?_, fun i x _ e => c45.gens i x e, c45.bare, c45.drawn, c45.os⟩, h₅.live' (h₄.live' L₃), F₅⟩
      · exact Wt.frame _ _ _ hS₃ fun b hb o e => c45.heap b o (hfp' b hb) e
      · replace hb := not_app hb
        exact c45.heap b o hb.1 (kk3 b o hb.2 e)
    · intro σ' W' s₂ hS hA' F'
      rw [enumB_len, ← hL.length, ← List.size_toArray] at hS
      exact Wt.done s₂ _ _ hS fun h₁ tk hk₁ => ⟨rfl, ⟨hk₁, fun _ _ _ e => e, id, rfl, rfl⟩⟩
    · intro f s' hp
      exact hp.step st⟩
end
end Mine
namespace Mine
open PySem PySem.W PySem.Calls PyProof.Rows PySem.Spec

noncomputable def flatS (σ : Sg) : Bool := σ.ρ.all (fun p => Flat p.2) && σ.lst.isNone && σ.obj.isNone
theorem flatS_ρ {σ : Sg} (h : flatS σ = true) {x : Str} {d : D} (e : σ.ρ.lookup x = some d) : Flat d = true := by
  unfold flatS at h
  simp only [Bool.and_eq_true, Bool.and_eq_true] at h
  exact List.all_eq_true.mp h.1.1 (x, d) (mem_of_lookup e)
theorem flatS_lst {σ : Sg} (h : flatS σ = true) : σ.lst = none := by
  unfold flatS at h
  simp only [Bool.and_eq_true, Bool.and_eq_true] at h
  exact Option.isNone_iff_eq_none.mp h.1.2
theorem flatS_obj {σ : Sg} (h : flatS σ = true) : σ.obj = none := by
  unfold flatS at h
  rw [Bool.and_eq_true] at h
  exact Option.isNone_iff_eq_none.mp h.2

section
variable {prog : Program} {w : World} {base : Heap} {k : Nat} {env : Env} {σ : Sg}

theorem FsOk.flat {O O' W : List Addr} {h h' : Heap} (F : FsOk base env σ O W h) (hf : flatS σ = true) (hk : ∀ b ∈ W, ∀ o, h.get? b = some o → h'.get? b = some o) (hO : ∀ b ∈ W, b ∉ O') : FsOk base env σ O' W h' := by
  have hv : ∀ y u, VarIs env h y u → VarIs env h' y u := fun y u hv => by
    rcases hv with ⟨a, m, n, e⟩ | ⟨c, a, b, e⟩
    · exact .inl ⟨a, m, n.at' fun o e => hk _ F.loc o e, e⟩
    · obtain ⟨o, e1, e2⟩ := e
      exact .inr ⟨c, a, b, o, hk _ (F.cells y c b).1 _ e1, e2⟩
  refine ⟨F.loc, hO, let ⟨m, n⟩ := F.ns; ⟨m, n.at' fun o e => hk _ F.loc o e⟩, fun y c e => ?_, F.inj, fun y d e => ?_, fun y d e => ?_, fun y C ns ds e => ?_⟩
  · obtain ⟨h1, v, o, e1, e2⟩ := F.cells y c e
    exact ⟨h1, v, o, hk _ h1 _ e1, e2⟩
  · obtain ⟨v, p, q⟩ := F.vars y d e; exact ⟨v, hv _ _ p, q.flat (flatS_ρ hf e)⟩
  · exact nos (flatS_lst hf) e
  · exact nos (flatS_obj hf) e

structure GS (base : Heap) (env : Env) (O : List Addr) (σ : Sg) (s : Shared) : Prop where
  bare : AllBare s.gens
  bas : Sub base.get? (fz ([env.locals] ++ O) s.heap)
  live : Live ([env.locals] ++ O) s.heap
  fr : FsOk base env σ O [env.locals] s.heap
  flat : flatS σ = true
theorem GS.at {A : Around} {O : List Addr} {s : Shared} (g : GS base env O σ s) (r : Room k A) : At base k A ([env.locals] ++ O) s := ⟨r, g.bare, g.bas, g.live⟩
theorem GS.step {O : List Addr} {s s' : Shared} (g : GS base env O σ s) (st : Step s s') : GS base env O σ s' := ⟨st.bare g.bare, g.bas.trans (st.fz _), g.live.sub st.heap, g.fr.step st, g.flat⟩
theorem GS.other {O : List Addr} {s s' : Shared} (g : GS base env O σ s) (hk : ∀ b ∈ env.locals :: O, ∀ o, s.heap.get? b = some o → s'.heap.get? b = some o) (hb : AllBare s'.gens) (hs : Sub base.get? s'.heap.get?) : GS base env O σ s' :=
  ⟨hb, fun b o e => fz_some.mpr ⟨(fz_some.mp (g.bas b o e)).1, hs b o e⟩, fun b h => by obtain ⟨o, e⟩ := g.live b h; exact ⟨o, hk b h o e⟩, g.fr.flat g.flat (fun b hb o e => hk b (by replace hb := (List.mem_singleton).mp hb; subst hb; exact List.mem_cons_self ..) o e) g.fr.apart, g.flat⟩
noncomputable abbrev Since (env : Env) (O : List Addr) (s₀ s : Shared) : Prop := ChgG (env.locals :: O) [] s₀ s
theorem Since.step {O : List Addr} {s₀ s s' : Shared} (x : Since env O s₀ s) (st : Step s s') : Since env O s₀ s' := ⟨fun b o hb e => st.heap b o (x.heap b o hb e), fun i g hi e => st.gens i g (x.gens i g hi e), fun h => st.bare (x.bare h), st.drawn.trans x.drawn, st.os.trans x.os⟩
theorem Since.stored {O : List Addr} {s₀ s s' : Shared} {x : Str} {v : Value} (h : Since env O s₀ s) (st : Stored env x v [env.locals] s s') : Since env O s₀ s' :=
  ⟨fun b o hb e => st.chg.heap b o (fun hm => hb (by replace hm := (List.mem_singleton).mp hm; subst hm; exact List.mem_cons_self ..)) (h.heap b o hb e), fun i g hi e => st.chg.gens i g (h.gens i g hi e), fun q => st.chg.bare (h.bare q), st.drawn.trans h.drawn, st.os.trans h.os⟩
theorem GS.put {O : List Addr} {s s' : Shared} {x : Str} {v : Value} {d : D} (g : GS base env O σ s) (st : Stored env x v [env.locals] s s') (hr : Rep (fz ([env.locals] ++ O) s.heap) d v) (hf : Flat d = true) : GS base env O ⟨(x, d) :: σ.ρ, none, none⟩ s' := by
  have fl := g.flat
  obtain ⟨ρ, lst, obj⟩ := σ
  have h1 := flatS_lst fl
  have h2 := flatS_obj fl
  dsimp only at h1 h2
  subst h1 h2
  refine ⟨st.chg.bare g.bare, g.bas.trans st.fz, st.live' g.live, g.fr.put st hr rfl rfl, ?_⟩
  unfold flatS at fl ⊢
  simp only [List.all_cons, hf, Bool.true_and] at fl ⊢
  exact fl

noncomputable def yProto (base : Heap) (env : Env) (O : List Addr) (gi : List D) : Protocol := fun m s₀ v s kap =>
  (∃ d, gi.reverse[m]? = some d ∧ Rep s.heap.get? d v) ∧ Since env O s₀ s ∧ (∀ b ∈ env.locals :: O, ∃ o, s.heap.get? b = some o) ∧
    ∀ s'' : Shared, (∀ b ∈ env.locals :: O, ∀ o, s.heap.get? b = some o → s''.heap.get? b = some o) → AllBare s''.gens → Sub base.get? s''.heap.get? → kap (.send .none) s''
noncomputable def yEnd (env : Env) (O : List Addr) : GenEnd := fun n s₀ r s₁ => r = .ok (.ret .none) ∧ n = 0 ∧ Since env O s₀ s₁

noncomputable abbrev SegG (prog : Program) (w : World) (base : Heap) (A : Around) (env : Env) (O : List Addr) (gi : List D) (n : Nat) (s₀ : Shared) (c : Code) (t : Sem Fin) (fs : List Frame) (s : Shared) : Prop :=
  Seg (model prog w) A (yEnd env O) (yProto base env O gi) n s₀ c t fs s

variable {A : Around} {O O₁ : List Addr} {gi : List D} {n : Nat} {s₀ s : Shared} {c : Code} {fs : List Frame} {K : Flow → Sem Fin} {H : Value → Sem Fin}

theorem sg_nil (h : SegG prog w base A env O gi n s₀ c (K .next) fs s) : SegG prog w base A env O gi n s₀ c ((execs [] env).wrap K H id id) fs s := h
theorem sg_assign {x : Str} {px pos : Pos} {value : Expr} {d : D} (g : GS base env O₁ σ s) (r : Room k (A.over c fs)) (si : Since env O s₀ s) (h : Ev prog w base k env σ.ρ value d) (hs : Storable env x) (hf : Flat d = true) (hk : env.scope.kind = .function)
    (hw : swapsWith value (some (.Name x px)) pos.line env = pure false) (next : ∀ s', (∀ b ∈ O₁, ∀ o, s.heap.get? b = some o → s'.heap.get? b = some o) → GS base env O₁ ⟨(x, d) :: σ.ρ, none, none⟩ s' → Since env O s₀ s' → SegG prog w base A env O gi n s₀ c (K .next) fs s') :
    SegG prog w base A env O gi n s₀ c ((exec (.Assign [.Name x px] value pos) env).wrap K H id id) fs s := by
  refine seg_wrap (wpAny_Assign_Name (WP.mono (h.run _ _ s (g.at r) g.fr.envOk) fun v s₁ ⟨st, rr⟩ => store_ok (g.fr.step st) hk hs fun s₂ h' => ?_) hw)
  exact next s₂ (fun b hb o e => h'.chg.heap b o (fun hm => by replace hm := (List.mem_singleton).mp hm; subst hm; exact g.fr.apart _ g.fr.loc hb) (st.heap b o e)) ((g.step st).put h' rr hf) ((si.step st).stored h')
theorem sg_if {test : Expr} {body orelse : List Stmt} {pos : Pos} {b : Bool} (g : GS base env O₁ σ s) (r : Room k (A.over c fs)) (si : Since env O s₀ s) (h : Tst prog w base k env σ.ρ test b)
    (h1 : b = true → ∀ s', (∀ b ∈ O₁, ∀ o, s.heap.get? b = some o → s'.heap.get? b = some o) → GS base env O₁ σ s' → Since env O s₀ s' → SegG prog w base A env O gi n s₀ c ((execs body env).wrap K H id id) fs s')
    (h2 : b = false → ∀ s', (∀ b ∈ O₁, ∀ o, s.heap.get? b = some o → s'.heap.get? b = some o) → GS base env O₁ σ s' → Since env O s₀ s' → SegG prog w base A env O gi n s₀ c ((execs orelse env).wrap K H id id) fs s') :
    SegG prog w base A env O gi n s₀ c ((exec (.If test body orelse pos) env).wrap K H id id) fs s := by
  skip
  refine seg_bind_wrap (wpAny_standAt ?_)
  refine seg_bind_wrap (WP.mono (h.run _ _ s (g.at r) g.fr.envOk) fun v s₁ ⟨st, e⟩ => ?_)
  subst e
  cases v with
  | true => exact h1 rfl s₁ (fun b _ o e => st.heap b o e) (g.step st) (si.step st)
  | false => exact h2 rfl s₁ (fun b _ o e => st.heap b o e) (g.step st) (si.step st)
theorem sg_yield {e : Expr} {ypos pos : Pos} {d : D} (hO : ∀ b ∈ O₁, b ∈ O) (hO' : ∀ b ∈ O, b ∈ O₁) (g : GS base env O₁ σ s) (r : Room k (A.over c fs)) (si : Since env O s₀ s) (hfs : splitAtGen fs = none) (hfg : fs.any Frame.guarded = false) (h : Ev prog w base k env σ.ρ e d) (hd : gi.reverse[n]? = some d)
    (next : ∀ s', (∀ b ∈ O₁, ∀ o, s.heap.get? b = some o → s'.heap.get? b = some o) → GS base env O₁ σ s' → SegG prog w base A env O gi n s' c (K .next) fs s') (hco : env.scope.isCoroutine = false) (hi : interactive env = false) :
    SegG prog w base A env O gi (n + 1) s₀ c ((exec (.Expr (.Yield (some e) ypos) pos) env).wrap K H id id) fs s := by
  refine seg_Expr_Yield hfs rfl hfg (WP.mono (h.run _ _ s (g.at r) g.fr.envOk) fun v s₁ ⟨st, rr⟩ kap hkap => ?_) hco hi
  refine ⟨⟨d, hd, rr.mono fz_heap⟩, si.step st, fun b hb => (g.step st).live b ?_, fun s'' hag hb hs => hkap .none s'' ?_⟩
  · rw [List.mem_cons] at hb
    exact List.mem_append.mpr (hb.imp (fun q => List.mem_singleton.mpr q) (hO' b))
  have ag : ∀ b ∈ env.locals :: O₁, ∀ o, s₁.heap.get? b = some o → s''.heap.get? b = some o := fun b hb o e => hag b (by rw [List.mem_cons] at hb ⊢; exact hb.imp_right (hO b)) o e
  exact next s'' (fun b hb o e => ag b (List.mem_cons_of_mem _ hb) o (st.heap b o e)) ((g.step st).other ag hb hs)


theorem sg_again {c' : Code} (hq : c'.quiet = true) (h : SegG prog w base A env O gi n s₀ c' ((model prog w).den c') fs s) : SegG prog w base A env O gi n s₀ c (.pure (.again c')) fs s := seg_again hq h

theorem sg_forTurn {target : Expr} {it : Value} {body : List Stmt}
    (h : WP prog w (A.over (.forLoop target it body [] env) fs) (pyNext it) (fun r s₁ => match r with
      | none => SegG prog w base A env O gi n s₀ (.block [] env) ((model prog w).den (.block [] env)) fs s₁
      | some v => WP prog w (A.over (.forLoop target it body [] env) fs) (letOwnedTupleGo target it v) (fun _ s₂ => WP prog w (A.over (.forLoop target it body [] env) fs) (assign target env v) (fun _ s₃ =>
          SegG prog w base A env O gi n s₀ (.forLoop target it body [] env) ((execs body env).wrap (fun f => match f with
            | .next | .cont => .pure (.again (.forLoop target it body [] env))
            | .brk => .pure (.done .next)
            | .ret v => .pure (.done (.ret v))) (fun e => (do noteFrame e env; theTreesLotGoes e : Sem Unit).wrap (fun _ => .raise e) .raise id id) id id) fs s₃) s₂) s₁) s) :
    SegG prog w base A env O gi n s₀ (.forLoop target it body [] env) ((model prog w).den (.forLoop target it body [] env)) fs s := by
  show Seg _ A _ _ n s₀ _ ((forTurn target it body [] env).onRaise (fun x => do noteFrame x env; theTreesLotGoes x)) fs s
  skip
  rw [Sem.onRaise_eq_wrap]
  refine seg_bind_wrap (wpAny_standAt ?_)
  refine seg_bind_wrap (wpAny_onRaise (WP.mono h fun r s₁ h₁ => ?_))
  cases r with
  | none => exact seg_again rfl h₁
  | some v =>
    refine seg_bind_wrap (WP.mono h₁ fun _ s₂ h₂ => ?_)
    refine seg_bind_wrap (WP.mono h₂ fun _ s₃ h₃ => ?_)
    rw [Sem.bind_eq_wrap', Sem.wrap_wrap]
    rw [Sem.wrap_congr (execs body env) _ _ (K' := fun f => match f with
            | .next | .cont => .pure (.again (.forLoop target it body [] env))
            | .brk => .pure (.done .next)
            | .ret v => .pure (.done (.ret v))) (H' := (fun e => (do noteFrame e env; theTreesLotGoes e : Sem Unit).wrap (fun _ => .raise e) .raise id id))
        (fun f => by cases f <;> rfl)
        (fun e => by first | exact Sem.bind_eq_wrap _ _ | (show (do noteFrame e env; theTreesLotGoes e : Sem Unit).bind (fun _ => .raise e) = _; rw [Sem.bind_eq_wrap]))]
    exact h₃
end
end Mine
namespace Mine
open PySem PySem.W PySem.Calls PyProof.Rows PySem.Spec

noncomputable def bsl : Str := "\\"
noncomputable def esc : List Nat → Nat → Bool → List D
  | [], i, b => if b then [.tup [.int ((i : Int) - 1), .str bsl]] else []
  | c :: cs, i, true => .tup [.int (i : Int), .str (bsl ++ ⟨#[c]⟩)] :: esc cs (i + 1) false
  | c :: cs, i, false => if (⟨#[c]⟩ : Str) = bsl then esc cs (i + 1) true else .tup [.int (i : Int), .str ⟨#[c]⟩] :: esc cs (i + 1) false
theorem esc_t (c : Nat) (cs : List Nat) (i : Nat) : esc (c :: cs) i true = .tup [.int (i : Int), .str (bsl ++ ⟨#[c]⟩)] :: esc cs (i + 1) false := rfl
theorem esc_f (c : Nat) (cs : List Nat) (i : Nat) : esc (c :: cs) i false = if (⟨#[c]⟩ : Str) = bsl then esc cs (i + 1) true else .tup [.int (i : Int), .str ⟨#[c]⟩] :: esc cs (i + 1) false := rfl
noncomputable def escEnd : List Nat → Bool → Bool
  | [], b => b
  | _ :: cs, true => escEnd cs false
  | c :: cs, false => if (⟨#[c]⟩ : Str) = bsl then escEnd cs true else escEnd cs false
theorem escEnd_f (c : Nat) (cs : List Nat) : escEnd (c :: cs) false = if (⟨#[c]⟩ : Str) = bsl then escEnd cs true else escEnd cs false := rfl
noncomputable def σL (p : Int) (b : Bool) : Sg := ⟨[("pos", .int p), ("escape", .bool b)], none, none⟩
theorem flat_σL {p : Int} {b : Bool} : flatS (σL p b) = true := by rfl
theorem rev_at (pre : List D) (d : D) (r : List D) : (pre ++ d :: r).reverse[r.length]? = some d := by
  rw [List.reverse_append, List.reverse_cons, List.append_assoc, List.getElem?_append_right (by simp)]
  simp

section
variable {prog : Program} {w : World} {base : Heap} {k : Nat} {env : Env} {σ : Sg} {A : Around} {O : List Addr} {gi : List D} {n : Nat} {s₀ s : Shared} {c : Code} {fs : List Frame} {K : Flow → Sem Fin} {H : Value → Sem Fin}
theorem GS.le {σ' : Sg} (g : GS base env O σ' s) (l : Le σ' σ) (hf : flatS σ = true) : GS base env O σ s := ⟨g.bare, g.bas, g.live, g.fr.le l, hf⟩

theorem strIter_draws {x : Str} {t : Tok} {A' : Around} (hh : A'.handled = none) (it : Addr) : Draws prog w A' it [it] x.cps.size (fun i v => ∃ c u, x.cps[i]? = some c ∧ v = .str ⟨#[c]⟩ u) (fun i h => h.IsStrIter it (strIterType x) x t i) := by
  unfold strIterType
  cases x.cps.all (· < 128)
  · exact Draws.strWide hh it x t
  · exact Draws.strAscii hh it x t

theorem seg_esc {e it : Addr} {x : Str} {t : Tok} {cF : Code} {kF : Result → Sem Fin} {pF : Pos}
    {q1 q2 q3 p1 p2 p3 p4 p5 p6 p7 p8 p9 p10 p11 p12 p13 p14 p15 p16 p17 p18 p19 p20 p21 p22 p23 p24 : Pos} {kt k1 k2 k3 k4 k5 k6 : Nat} {body : List Stmt}
    (hbody : body = [.If (.Name "escape" p1) [.Expr (.Yield (some (.Tuple [.Name "pos" p2, .BinOp (.Constant (.str "\\") k1 p3) .Add (.Name "ch" p4) p5] k2 p6)) p7) p8, .Assign [.Name "escape" p9] (.Constant (.bool false) k3 p10) p11]
      [.If (.Compare (.Name "ch" p12) [.Eq] [.Constant (.str "\\") k4 p13] p14) [.Assign [.Name "escape" p15] (.Constant (.bool true) k5 p16) p17] [.Expr (.Yield (some (.Tuple [.Name "pos" p18, .Name "ch" p19] k6 p20)) p21) p22] p23] p24])
    (hk : env.scope.kind = .function) (hco : env.scope.isCoroutine = false) (hi : interactive env = false) (l1 : env.kindOf "pos" = some .local) (l2 : env.kindOf "ch" = some .local) (l3 : env.kindOf "escape" = some .local)
    (hei : e ≠ it) (heL : e ≠ env.locals) (hiL : it ≠ env.locals) (rm : Room k (A.over (.forLoop (.Tuple [.Name "pos" q1, .Name "ch" q2] kt q3) (.ref e) body [] env) [.ret kF none false [] cF pF []]))
    (hF : ∀ (p : Int) (s₀' s' : Shared), GS base env [] (σL p false) s' → Since env [e, it] s₀' s' → SegG prog w base A env [e, it] gi 0 s₀' cF (kF (.ok .next)) [] s') :
    ∀ (cs : List Nat) (i : Nat) (b : Bool) (p : Int) (pre : List D) (s₀ s : Shared), escEnd cs b = false → x.cps.toList.drop i = cs → i ≤ x.cps.size → (b = true → p = (i : Int) - 1) → gi = pre ++ esc cs i b → GS base env [e, it] (σL p b) s → Since env [e, it] s₀ s →
      (∃ old, IsEnum s.heap e it i old) → s.heap.IsStrIter it (strIterType x) x t i →
      SegG prog w base A env [e, it] gi (esc cs i b).length s₀ (.forLoop (.Tuple [.Name "pos" q1, .Name "ch" q2] kt q3) (.ref e) body [] env) ((model prog w).den (.forLoop (.Tuple [.Name "pos" q1, .Name "ch" q2] kt q3) (.ref e) body [] env)) [.ret kF none false [] cF pF []] s := by
  intro cs
  induction cs with
  | nil =>
    intro i b p pre s₀ s hfin hcs hi' hb hgi g si he hs
    have hin : i = x.cps.size := by
      have := List.drop_eq_nil_iff.mp hcs
      simp only [Array.length_toList] at this; (lia)
    have Wt := WalksT.enumerateD (strIter_draws (prog := prog) (w := w) (x := x) (t := t) (A' := (A.over (.forLoop (.Tuple [.Name "pos" q1, .Name "ch" q2] kt q3) (.ref e) body [] env) [.ret kF none false [] cF pF []]).in1) rm.1 it) e hei (by simp [hei]) (by exact List.mem_cons_self)
    refine sg_forTurn (Wt.done s _ _ (by subst hin; exact ⟨he, hs⟩) fun h' tk hk' => ?_)
    have si' : Since env [e, it] s₀ { s with heap := h', toks := tk } := ⟨fun b o hb e => by
      rw [List.mem_cons, not_or] at hb
      exact hk' b o hb.2 (si.heap b o (by rw [List.mem_cons, not_or]; exact hb) e), si.gens, si.bare, si.drawn, si.os⟩
    have Lw : env.locals ∉ [e, it] := by simp [Ne.symm heL, Ne.symm hiL]
    have g' : GS base env [] (σL p b) { s with heap := h', toks := tk } := by
      refine ⟨g.bare, fun b o e => ?_, fun b hb => ?_, g.fr.flat g.flat (fun b hb o e => ?_) (by simp), flat_σL⟩
      · obtain ⟨e1, e2⟩ := fz_some.mp (g.bas b o e)
        replace e1 := not_app e1
        exact fz_some.mpr ⟨by skip; exact e1.1, hk' b o e1.2 e2⟩
      · rw [List.append_nil, List.mem_singleton] at hb
        subst hb
        obtain ⟨o, e⟩ := g.live env.locals (by exact List.mem_cons_self)
        exact ⟨o, hk' _ o Lw e⟩
      · replace hb := (List.mem_singleton).mp hb; subst hb
        exact hk' _ o Lw e
    skip
    skip
    subst (hfin : b = false)
    exact seg_leaf (.ok .next) (hF p s₀ _ g' si')
  | cons c cs ih =>
    intro i b p pre s₀ s hfin hcs hi' hb hgi g si he hs
    have hlt : i < x.cps.size := by
      have : (x.cps.toList.drop i).length = (c :: cs).length := by exact congrArg _ (hcs)
      simp only [List.length_drop, Array.length_toList, List.length_cons] at this; exact Nat.lt_of_sub_eq_succ this
    have hcx : x.cps[i]? = some c := by
      have : (x.cps.toList.drop i)[0]? = some c := by refine (hcs) ▸ ?_; rfl
      rw [List.getElem?_drop, Array.getElem?_toList] at this; exact this
    have hcs' : x.cps.toList.drop (i + 1) = cs := by
      have := congrArg (List.drop 1) hcs
      rw [List.drop_drop] at this
      exact this
    have Wt := WalksT.enumerateD (strIter_draws (prog := prog) (w := w) (x := x) (t := t) (A' := (A.over (.forLoop (.Tuple [.Name "pos" q1, .Name "ch" q2] kt q3) (.ref e) body [] env) [.ret kF none false [] cF pF []]).in1) rm.1 it) e hei (by simp [hei]) (by exact List.mem_cons_self)
    refine sg_forTurn (Wt.item i s _ _ hlt ⟨he, hs⟩ fun T vals h₁ tk hPt hTs hT hMid hk₁ => ?_)
    obtain ⟨u, xv, ⟨c', u', hc', rfl⟩, rfl⟩ := hPt
    replace hc' := (hcx) ▸ hc'; cases hc'
    refine Wt.go _ _ _ i T _ _ _ hMid fun h₂ hS₂ hk₂ => ?_
    skip
    have kk2 : ∀ b o, b ∉ [e, it] → s.heap.get? b = some o → h₂.get? b = some o := fun b o hb e => hk₂ b o hb (hk₁ b o hb e)
    refine wpAny_assign_Tuple rm.1 (hT.at fun o e => hk₂ T o (Wt.apart i T h₁ hMid) e : h₂.IsTuple T #[.int i u, .str ⟨#[c]⟩ u']) rfl rfl fun h₃ hx₃ => ?_
    replace hx₃ : Heap.ExtBut h₂.objs.size h₂ h₃ := hx₃
    have up₃ : ∀ b o, h₂.get? b = some o → h₃.get? b = some o := fun b o x => hx₃ b o (Nat.ne_of_lt (Heap.lt_size x)) x
    have kk3 : ∀ b o, b ∉ [e, it] → s.heap.get? b = some o → h₃.get? b = some o := fun b o hb e => up₃ b o (kk2 b o hb e)
    have Lw : env.locals ∉ [e, it] := by simp [Ne.symm heL, Ne.symm hiL]
    have hS₃ : (∃ old, IsEnum h₃ e it ((i + 1 : Nat) : Int) old) ∧ h₃.IsStrIter it (strIterType x) x t (i + 1) := Wt.frame _ _ _ hS₂ fun b _ o e => up₃ b o e
    have g₃ : GS base env [e, it] (σL p b) { s with heap := h₃, toks := tk } := by
      refine ⟨g.bare, fun b o e => ?_, fun b hb => ?_, g.fr.flat g.flat (fun b hb o e => ?_) g.fr.apart, flat_σL⟩
      · obtain ⟨e1, e2⟩ := fz_some.mp (g.bas b o e)
        refine fz_some.mpr ⟨e1, kk3 b o (fun hm => e1 (List.mem_append_right _ hm)) e2⟩
      · by_cases q : b ∈ [e, it]
        · obtain ⟨⟨old, h1⟩, ⟨o2, h2, _⟩⟩ := hS₃
          rcases List.mem_cons.mp q with rfl | q
          · exact ⟨_, h1⟩
          · rw [List.mem_singleton.mp q]; exact ⟨_, h2⟩
        · obtain ⟨o, e⟩ := g.live b hb; exact ⟨o, kk3 b o q e⟩
      · replace hb := (List.mem_singleton).mp hb; subst hb
        exact kk3 _ o Lw e
    have si₃ : Since env [e, it] s₀ { s with heap := h₃, toks := tk } := ⟨fun b o hb e => by
      rw [List.mem_cons, not_or] at hb
      exact kk3 b o hb.2 (si.heap b o (by rw [List.mem_cons, not_or]; exact hb) e), si.gens, si.bare, si.drawn, si.os⟩
    skip
    refine wpAny_bind (wpAny_holding (wpAny_assign_Name (store_ok (s := { s with heap := h₃, toks := tk }) g₃.fr hk (.inl l1) fun s₄ h₄ => ?_)))
    have g₄ := g₃.put (d := .int (i : Int)) h₄ of_int rfl
    skip
    refine wpAny_bind (wpAny_holding (wpAny_assign_Name (store_ok g₄.fr hk (.inl l2) fun s₅ h₅ => wpAny_pure ?_)))
    have g₅ := g₄.put (d := .str ⟨#[c]⟩) h₅ of_str rfl
    have si₅ := (si₃.stored h₄).stored h₅
    have hS₅ : (∃ old, IsEnum s₅.heap e it ((i + 1 : Nat) : Int) old) ∧ s₅.heap.IsStrIter it (strIterType x) x t (i + 1) := Wt.frame _ _ _ hS₃ fun b hb o e => by
      have hbL : b ∉ [env.locals] := fun hm => by
        rw [List.mem_singleton] at hm; subst hm
        rcases List.mem_cons.mp hb with rfl | hb
        · exact heL rfl
        · exact hiL (List.mem_singleton.mp hb).symm
      exact h₅.chg.heap b o hbL (h₄.chg.heap b o hbL e)
    have keepI : ∀ s' : Shared, (∀ b ∈ env.locals :: [e, it], ∀ o, s₅.heap.get? b = some o → s'.heap.get? b = some o) → (∃ old, IsEnum s'.heap e it ((i + 1 : Nat) : Int) old) ∧ s'.heap.IsStrIter it (strIterType x) x t (i + 1) := fun s' hag =>
      Wt.frame _ _ _ hS₅ fun b hb o e => hag b (List.mem_cons_of_mem _ hb) o e
    have again : ∀ (s₀' s' : Shared) (b' : Bool) (σ' : Sg), escEnd cs b' = false → (b' = true → ((i : Int)) = ((i + 1 : Nat) : Int) - 1) → gi = (pre ++ (esc (c :: cs) i b).take ((esc (c :: cs) i b).length - (esc cs (i + 1) b').length)) ++ esc cs (i + 1) b' → (∀ q ∈ [e, it], ∀ o, s₅.heap.get? q = some o → s'.heap.get? q = some o) → GS base env [e, it] σ' s' → Le σ' (σL i b') → Since env [e, it] s₀' s' →
        SegG prog w base A env [e, it] gi (esc cs (i + 1) b').length s₀' (.forLoop (.Tuple [.Name "pos" q1, .Name "ch" q2] kt q3) (.ref e) body [] env) (.pure (.again (.forLoop (.Tuple [.Name "pos" q1, .Name "ch" q2] kt q3) (.ref e) body [] env))) [.ret kF none false [] cF pF []] s' := by
      intro s₀' s' b' σ' hfin' hb' hgi' hag g' hle si'
      have hS' := Wt.frame _ _ _ hS₅ fun q hq o eq => hag q hq o eq
      exact sg_again rfl (ih (i + 1) b' i _ s₀' s' hfin' hcs' hlt hb' hgi' (g'.le hle flat_σL) si' hS'.1 hS'.2)
    rw [hbody]
    refine seg_execs_cons ?_
    cases b with
    | true =>
      skip
      refine sg_if (b := true) g₅ rm si₅ (tst_plain (ev_name (by rfl) hk) truthy_bool) (fun _ s₆ ag₆ g₆ si₆ => ?_) (fun q => by cases q)
      refine seg_execs_cons ?_
      skip
      refine sg_yield (d := .tup [.int (i : Int), .str (bsl ++ ⟨#[c]⟩)]) (fun q hq => hq) (fun q hq => hq) g₆ rm si₆ rfl rfl (ev_tuple (evs_cons (ev_name (by rfl) hk) (evs_cons (ev_binop ev_str (ev_name (by rfl) hk) (op_addStr ?_)) evs_nil)) (by show 2 ≤ sizeLine; decide)) ?_ (fun s₇ ag₇ g₇ => ?_) hco hi
      · show (bsl.cps.size) + 1 ≤ sizeLine
        decide
      · refine (hgi) ▸ ?_; exact rev_at _ _ _
      · refine seg_execs_cons ?_
        refine sg_assign g₇ rm ChgG.refl ev_bool (.inl l3) rfl hk rfl fun s₈ ag₈ g₈ si₈ => ?_
        refine sg_nil (sg_nil ?_)
        refine ( hbody) ▸ ?_
        refine again _ _ false _ hfin (fun q => by cases q) ?_ (fun q hq o eq => ag₈ q hq o (ag₇ q hq o (ag₆ q hq o eq))) g₈ ?_ si₈
        · refine (hgi).trans ?_; simp [esc_t, esc_f]
        · exact le_of (.cons (by rfl) rfl (.cons (by rfl) rfl .nil)) (.inl rfl) (.inl rfl)
    | false =>
      refine sg_if (b := false) g₅ rm si₅ (tst_plain (ev_name (by rfl) hk) truthy_bool) (fun q => by cases q) (fun _ s₆ ag₆ g₆ si₆ => ?_)
      refine seg_execs_cons ?_
      refine sg_if (b := decide ((⟨#[c]⟩ : Str) = "\\")) g₆ rm si₆ (tst_compare (ev_name (by rfl) hk) ev_str op_eqStr) (fun hq s₇ ag₇ g₇ si₇ => ?_) (fun hq s₇ ag₇ g₇ si₇ => ?_)
      · have hq' : (⟨#[c]⟩ : Str) = bsl := of_decide_eq_true hq
        have he' : esc (c :: cs) i false = esc cs (i + 1) true := by rw [esc_f, if_pos hq']
        refine seg_execs_cons ?_
        refine sg_assign g₇ rm si₇ ev_bool (.inl l3) rfl hk rfl fun s₈ ag₈ g₈ si₈ => ?_
        refine sg_nil (sg_nil (sg_nil ?_))
        rw [← hbody, he']
        refine again _ _ true _ (by rw [escEnd_f, if_pos hq'] at hfin; exact hfin) (fun _ => by (simp)) ?_ (fun q hq o eq => ag₈ q hq o (ag₇ q hq o (ag₆ q hq o eq))) g₈ ?_ si₈
        · (refine (hgi).trans ?_; rw [he']); simp
        · exact le_of (.cons (by rfl) rfl (.cons (by rfl) rfl .nil)) (.inl rfl) (.inl rfl)
      · have hq' : ¬ (⟨#[c]⟩ : Str) = bsl := of_decide_eq_false hq
        have he' : esc (c :: cs) i false = .tup [.int (i : Int), .str ⟨#[c]⟩] :: esc cs (i + 1) false := by rw [esc_f, if_neg hq']
        refine (he') ▸ ?_
        refine seg_execs_cons ?_
        refine sg_yield (d := .tup [.int (i : Int), .str ⟨#[c]⟩]) (fun q hq => hq) (fun q hq => hq) g₇ rm si₇ rfl rfl (ev_tuple (evs_cons (ev_name (by rfl) hk) (evs_cons (ev_name (by rfl) hk) evs_nil)) (by show 2 ≤ sizeLine; decide)) ?_ (fun s₈ ag₈ g₈ => ?_) hco hi
        · rw [hgi, he']; exact rev_at _ _ _
        · refine sg_nil (sg_nil (sg_nil ?_))
          refine ( hbody) ▸ ?_
          refine again _ _ false _ (by rw [escEnd_f, if_neg hq'] at hfin; exact hfin) (fun q => by cases q) ?_ (fun q hq o eq => ag₈ q hq o (ag₇ q hq o (ag₆ q hq o eq))) g₈ ?_ ChgG.refl
          · (refine (hgi).trans ?_; rw [he']); simp
          · exact le_of (.cons (by rfl) rfl (.cons (by rfl) rfl .nil)) (.inl rfl) (.inl rfl)
end
end Mine
namespace Mine
open PySem PySem.W PySem.Calls PyProof.Rows PySem.Spec

section
variable {prog : Program} {w : World} {base : Heap} {k : Nat} {env : Env} {A : Around} {E : Value → Shared → Prop} {s : Shared}

theorem next_gen {a : Addr} {g n : Nat} {gs : GenState} {P : Nat → Shared → Shared → Prop} {Y : Protocol} {Q : Option Value → Shared → Prop} (hh : A.handled = none) (hl : s.heap.NoLimit) (hroom : A.depth < recursionLimit) (hg : s.heap.IsGen a g) (hgs : s.gens[g]? = some gs)
    (hgo : gs.Goes (model prog w) A.in1 (fun n s₀ r s₁ => r = .ok (.ret .none) ∧ P n s₀ s₁) Y n (.send .none) (s.setGen g .running))
    (hY : ∀ v s₁ gs', gs'.bare = true → Y (n - 1) (s.setGen g .running) v s₁ (fun r' s'' => match n with
        | 0 => False
        | m + 1 => gs'.Goes (model prog w) A.in1 (fun n s₀ r s₁ => r = .ok (.ret .none) ∧ P n s₀ s₁) Y m r' s'') → Q (some v) (s₁.setGen g gs'))
    (hP : ∀ s₁, P n (s.setGen g .running) s₁ → ∀ h', (∀ b o, s₁.heap.get? b = some o → h'.get? b = some o) → Q none { s₁.setGen g .finished with heap := h' }) : wpAny (model prog w) A (pyNext (.ref a)) Q E s := by
  -- the wake, seen from the two ends that it may have
  have wake : wpAny (model prog w) A.in1 (Builtin.Generator.genWake (.ref a) (.send .none)) (fun fin s' => ∃ v, fin = .done (.ret v) ∧ Q (some v) s')
      (fun e s' => ∃ s₁ h', s' = { s₁.setGen g .finished with heap := h' } ∧ (∀ b o, s₁.heap.get? b = some o → h'.get? b = some o) ∧ P n (s.setGen g .running) s₁ ∧ s'.TypeIs e "StopIteration") s := by
    skip
    refine wpAny_bind (wpAny_holding (wpAny_genNumber hg (wpAny_bind (wpAny_genState hgs ?_))))
    have tail : ∀ {k' : GenResult → Sem Fin}, k' (.returned .none) = (newExc (.type "StopIteration") [] >>= fun x => (raiseNew x : Sem Unit) >>= fun _ => (do rule "generator.return-value"; throw (← newExc (.type "StopIteration") [.none]) : Sem Fin)) → (∀ v, k' (.yielded v) = ret v) →
        wpAny (model prog w) A.in1 (Sem.resume g (.send .none) [] k') (fun fin s' => ∃ v, fin = .done (.ret v) ∧ Q (some v) s')
          (fun e s' => ∃ s₁ h', s' = { s₁.setGen g .finished with heap := h' } ∧ (∀ b o, s₁.heap.get? b = some o → h'.get? b = some o) ∧ P n (s.setGen g .running) s₁ ∧ s'.TypeIs e "StopIteration") s := by
      intro k' e1 e2
      refine wpAny_resumeQ hgs hgo (fun x s₁ hx => ?_) (fun v s₁ gs' hb hv => ?_)
      · obtain ⟨rfl, hp⟩ := hx
        skip
        refine (e1) ▸ ?_
        refine wpAny_bind ?_
        skip
        refine wpAny_bind (wpAny_newObj_type ?_ (by size_fits))
        refine wpAny_bind (m := firstArgMember _ _) (wpAny_of_eq (a := Value.none) (by first | rfl | (simp only [firstArgMember]; rfl)) ?_)
        refine wpAny_newObj_type ?_ (by size_fits)
        skip
        refine wpAny_bind (wpAny_bind (wpAny_handled ?_))
        refine (show A.in1.handled = none from hh) ▸ ?_
        exact (wpAny_throw ⟨s₁, _, rfl, fun b o e => Heap.get?_push_of_some _ (Heap.get?_push_of_some _ e), hp, ⟨_, Heap.get?_push_size _ rfl, rfl⟩⟩)
      · show wpAny _ _ (k' (.yielded v)) _ _ _
        rw [e2]
        exact wpAny_pure ⟨v, rfl, hY v s₁ gs' hb hv⟩
    cases gs with
    | running => exact hgo.elim
    | finished => exact hgo.elim
    | fresh c => exact wpAny_bind (wpAny_roomToWake hl hroom (tail rfl fun _ => rfl))
    | suspended k l c p fs cl => exact wpAny_bind (wpAny_roomToWake hl hroom (tail rfl fun _ => rfl))
  skip
  refine wpAny_bind (wpAny_attempt (wpAny_callSpecial?_slot (name := Str.ofString "__next__") hg.typeIs slot_gen_next (wpAny_call_entry slot_gen_next hg.typeIs entry_gen_next (wpAny_mono wake ?_ ?_) (args_gen_next _))))
  · rintro fin s' ⟨v, rfl, hq⟩
    exact ⟨v, rfl, wpAny_pure hq⟩
  · rintro e s' ⟨s₁, h', rfl, hk, hp, ht⟩
    exact wpAny_bind (wpAny_isInstance (b := true) ht isSubtype_stop (wpAny_pure (hP s₁ hp h' hk)))

variable {σ : Sg} {O O₁ : List Addr} {gi : List D} {n : Nat} {s₀ : Shared} {c : Code} {fs : List Frame} {K : Flow → Sem Fin} {H : Value → Sem Fin}
theorem sg_const {x : Str} {px pos : Pos} {value : Expr} {d : D} (g : GS base env O₁ σ s) (si : Since env O s₀ s) (hv : ∀ (A' : Around) (E' : Value → Shared → Prop) (Q' : Value → Shared → Prop), (∀ v tk, Rep (fz ([env.locals] ++ O₁) s.heap) d v → Q' v { s with toks := tk }) → wpAny (model prog w) A' (eval value env) Q' E' s)
    (hs : Storable env x) (hf : Flat d = true) (hk : env.scope.kind = .function) (hw : swapsWith value (some (.Name x px)) pos.line env = pure false)
    (next : ∀ s', s'.heap.objs.size = s.heap.objs.size → GS base env O₁ ⟨(x, d) :: σ.ρ, none, none⟩ s' → Since env O s₀ s' → SegG prog w base A env O gi n s₀ c (K .next) fs s') :
    SegG prog w base A env O gi n s₀ c ((exec (.Assign [.Name x px] value pos) env).wrap K H id id) fs s := by
  refine seg_wrap (wpAny_Assign_Name (hv _ _ _ fun v tk rr => store_ok (s := { s with toks := tk }) (g.step (Step.toks s tk)).fr hk hs fun s₂ h' => ?_) hw)
  exact next s₂ h'.size ((g.step (Step.toks s tk)).put h' rr hf) ((si.step (Step.toks s tk)).stored h')

theorem enum_call {A' : Around} {Q' : Value → Shared → Prop} {E' : Value → Shared → Prop} {xa : Str} {px pa cpos : Pos} {x : Str} {t : Tok} (hg : Gl base "enumerate" (.type "enumerate")) (hb : Sub base.get? s.heap.get?) (hv : VarIs env s.heap xa (.str x t))
    (hk : env.scope.kind = .function) (hx : env.kindOf "enumerate" = some .globalImplicit) (h1 : env.globals = mainGlobals) (h2 : env.builtins = builtinsNs) (hd : (xa == ("__debug__" : Str)) = false)
    (h : ∀ h', IsEnum h' (s.heap.objs.size + 1) s.heap.objs.size 0 .none → h'.IsStrIter s.heap.objs.size (strIterType x) x t 0 → (∀ b o, s.heap.get? b = some o → h'.get? b = some o) → Q' (.ref (s.heap.objs.size + 1)) { s with heap := h' }) :
    wpAny (model prog w) A' (eval (.Call (.Name ("enumerate" : Str) px) [.Name xa pa] [] cpos) env) Q' E' s := by
  show wpAny _ A' (do callWith cpos (← eval (.Name ("enumerate" : Str) px) env) [] (backTo cpos (starEach [.Name xa pa] env)) []) _ _ s
  refine wpAny_bind ?_
  obtain ⟨mg, mb, n1, n2, hgl⟩ := hg
  have fin : wpAny (model prog w) A' (callWith cpos (.type "enumerate") [] (backTo cpos (starEach [.Name xa pa] env)) []) Q' E' s := by
    show wpAny _ A' (callWith cpos (.type "enumerate") [] [(false, eval (.Name xa pa) env)] []) _ _ s
    refine callWith_of (P := fun h => Sub base.get? h.get?) rfl keep_type ?_
    refine evalArgs_plain ?_
    show wpAny (model prog w) A' (do
      let v ← eval (.Name xa pa) env
      let here ← (pure [v] : Sem (List Value))
      return here ++ (← holding here (spliced []))) _ _ s
    refine wpAny_bind (wpAny_Name (loadName_ok (O := []) (ρ := []) (h := s.heap) hv hk ?_) hd)
    refine wpAny_bind (wpAny_pure (wpAny_bind (wpAny_holding (wpAny_pure (wpAny_pure ⟨hb, ?_⟩)))))
    exact call_enumerate_str fun h' a b _ d => h h' a b d
  refine Name_function_global hk hx ?_ rfl
  rcases hgl with q | ⟨q, q'⟩
  · exact loadGlobal_global (h1 ▸ n1.keeps hb) q fin
  · exact loadGlobal_builtin (h1 ▸ n1.keeps hb) q (h2 ▸ n2.keeps hb) q' fin
end
end Mine
namespace Mine
open PySem PySem.W PySem.Calls PyProof.Rows PySem.Spec

section
variable {prog : Program} {w : World} {base : Heap} {k : Nat} {env : Env} {A : Around}

theorem room_func {b : List Stmt} (h : Room (k + 2) A) : Room k (A.over (.func b env) []) := by
  skip
  have h2 := h.2.1
  have h3 := h.2.2
  refine ⟨(h.1), ?_, ?_⟩
  · show A.depth + frameCount [] + (Code.func b env).weight + 3 * k < _
    have : (Code.func b env).weight = 1 := rfl
    have e : frameCount [] = 0 := rfl
    (exact u5 h2 (q3 (Nat.le_of_eq e) rfl) (q3 (Nat.le_of_eq this) rfl))
  · show A.units + unitsOf [] + (Code.func b env).cUnits + 30 * k < _
    have : (Code.func b env).cUnits = 3 := rfl
    have e : unitsOf [] = 0 := rfl
    (exact u5 h3 (q3 (Nat.le_of_eq e) rfl) (q3 (Nat.le_of_eq this) rfl))
theorem room_loop {t : Expr} {it : Value} {bd b : List Stmt} {kF : Result → Sem Fin} {p : Pos} (h : Room (k + 2) A) : Room k (A.over (.forLoop t it bd [] env) [.ret kF none false [] (.func b env) p []]) := by
  skip
  have h2 := h.2.1
  have h3 := h.2.2
  refine ⟨(h.1), ?_, ?_⟩
  · show A.depth + frameCount [((Code.func b env), p)] + (Code.forLoop t it bd [] env).weight + 3 * k < _
    have : (Code.func b env).weight = 1 := rfl
    have e : frameCount [((Code.func b env), p)] = 1 := by skip; rfl
    have e2 : (Code.forLoop t it bd [] env).weight = 0 := rfl
    (exact u5 h2 (q3 (Nat.le_of_eq e) rfl) (q3 (Nat.le_of_eq e2) rfl))
  · show A.units + unitsOf [((Code.func b env), p)] + (Code.forLoop t it bd [] env).cUnits + 30 * k < _
    have : (Code.func b env).cUnits = 3 := rfl
    have e : unitsOf [((Code.func b env), p)] = 3 := by skip; rfl
    have e2 : (Code.forLoop t it bd [] env).cUnits = 0 := rfl
    (exact u5 h3 (q3 (Nat.le_of_eq e) rfl) (q3 (Nat.le_of_eq e2) rfl))

structure GenEnv (base : Heap) (env : Env) : Prop where
  kind : env.scope.kind = .function
  co : env.scope.isCoroutine = false
  inter : interactive env = false
  pos : env.kindOf "pos" = some .local
  ch : env.kindOf "ch" = some .local
  esc : env.kindOf "escape" = some .local
  enum : env.kindOf "enumerate" = some .globalImplicit
  globals : env.globals = mainGlobals
  builtins : env.builtins = builtinsNs
  gl : Gl base "enumerate" (.type "enumerate")

theorem gen_start {x : Str} {s : Shared} {gbody body : List Stmt} {a1 a2 a3 a4 a5 a6 a7 a8 a9 a10 a11 a12 a13 a14 a15 a16 a17 q1 q2 q3 p1 p2 p3 p4 p5 p6 p7 p8 p9 p10 p11 p12 p13 p14 p15 p16 p17 p18 p19 p20 p21 p22 p23 p24 : Pos} {j1 j2 j3 j4 kt k1 k2 k3 k4 k5 k6 : Nat}
    (hbody : body = [.If (.Name "escape" p1) [.Expr (.Yield (some (.Tuple [.Name "pos" p2, .BinOp (.Constant (.str "\\") k1 p3) .Add (.Name "ch" p4) p5] k2 p6)) p7) p8, .Assign [.Name "escape" p9] (.Constant (.bool false) k3 p10) p11]
      [.If (.Compare (.Name "ch" p12) [.Eq] [.Constant (.str "\\") k4 p13] p14) [.Assign [.Name "escape" p15] (.Constant (.bool true) k5 p16) p17] [.Expr (.Yield (some (.Tuple [.Name "pos" p18, .Name "ch" p19] k6 p20)) p21) p22] p23] p24])
    (hg : gbody = [.Assign [.Name "pos" a1] (.Constant (.int 0) j1 a2) a3, .Assign [.Name "escape" a4] (.Constant (.bool false) j2 a5) a6, .For (.Tuple [.Name "pos" q1, .Name "ch" q2] kt q3) (.Call (.Name "enumerate" a7) [.Name "addr" a8] [] a9) body [] a10,
      .If (.Name "escape" a11) [.Expr (.Yield (some (.Tuple [.Name "pos" a12, .Constant (.str "\\") j3 a13] j4 a14)) a15) a16] [] a17])
    (hE : GenEnv base env) (hfin : escEnd x.cps.toList false = false) (r : Room (k + 2) A) (g : GS base env [] ⟨[("addr", .str x)], none, none⟩ s) :
    (GenState.fresh (.func gbody env)).Goes (model prog w) A (yEnd env [s.heap.objs.size + 1, s.heap.objs.size]) (yProto base env [s.heap.objs.size + 1, s.heap.objs.size] (Mine.esc x.cps.toList 0 false)) (Mine.esc x.cps.toList 0 false).length (.send .none) s := by
  refine ⟨rfl, seg_func ?_⟩
  rw [hg]
  have hLlt : env.locals < s.heap.objs.size := by obtain ⟨m, hn⟩ := g.fr.ns; exact hn.lt
  generalize he₀ : s.heap.objs.size = e₀ at *
  refine seg_execs_cons ?_
  refine sg_const (O := [e₀ + 1, e₀]) g ChgG.refl (fun A' E' Q' h => wpAny_Constant_int (h _ _ of_int)) (.inl hE.pos) rfl hE.kind rfl fun s₁ z₁ g₁ i₁ => ?_
  refine seg_execs_cons ?_
  refine sg_const (d := .bool false) g₁ i₁ (fun A' E' Q' h => wpAny_pure (h _ s₁.toks of_bool)) (.inl hE.esc) rfl hE.kind rfl fun s₂ z₂ g₂ i₂ => ?_
  refine seg_execs_cons ?_
  skip
  have zz : s₂.heap.objs.size = e₀ := z₂.trans (z₁.trans he₀)
  refine seg_bind_wrap (wpAny_standAt ?_)
  obtain ⟨v, hv, rv⟩ := g₂.fr.vars "addr" (.str x) (by rfl)
  obtain ⟨t, rfl⟩ := rep_str rv
  refine seg_bind_wrap (enum_call hE.gl (fun b o e => (fz_some.mp (g₂.bas b o e)).2) hv hE.kind hE.enum hE.globals hE.builtins rfl fun h' hen hit hkeep => ?_)
  rw [zz] at hen hit ⊢
  refine seg_bind_wrap (wpAny_of_eq (rfl : foldedSetIterable _ env _ = pure _) ?_)
  refine seg_bind_wrap (wpAny_standAt ?_)
  refine seg_bind_wrap (wpAny_holding (wpAny_pyIter_enum hen ?_))
  skip
  have heL : e₀ + 1 ≠ env.locals := Nat.ne_of_gt (Nat.lt_succ_of_lt hLlt)
  have hiL : e₀ ≠ env.locals := Nat.ne_of_gt hLlt
  have g₃ : GS base env [e₀ + 1, e₀] (σL 0 false) { s₂ with heap := h' } := by
    have n0 : s₂.heap.get? e₀ = none := zz ▸ new_none s₂
    have n1 : s₂.heap.get? (e₀ + 1) = none := by
      cases e : s₂.heap.get? (e₀ + 1) with
      | none => rfl
      | some o => exact absurd (Heap.lt_size e) (by refine (zz).symm ▸ ?_; exact Nat.not_lt.mpr (Nat.le_succ _))
    refine ⟨g₂.bare, fun b o e => ?_, fun b hb => ?_, (g₂.fr.flat g₂.flat (fun b hb o e => hkeep b o e) ?_).le (le_of (.cons (by rfl) rfl (.cons (by rfl) rfl .nil)) (.inl rfl) (.inl rfl)), flat_σL⟩
    · obtain ⟨e1, e2⟩ := fz_some.mp (g₂.bas b o e)
      refine fz_some.mpr ⟨?_, hkeep b o e2⟩
      skip
      rw [List.mem_append, not_or]
      refine ⟨e1, fun hm => ?_⟩
      rcases List.mem_cons.mp hm with rfl | hm
      · exact nos (n1) e2
      · simp only [List.mem_singleton.mp hm, n0] at e2; cases e2
    · rw [List.mem_append, List.mem_singleton] at hb
      rcases hb with rfl | hb
      · obtain ⟨m, hn⟩ := g₂.fr.ns; obtain ⟨o, _, _, e, _⟩ := hn; exact ⟨o, hkeep _ _ e⟩
      · rcases List.mem_cons.mp hb with rfl | hb
        · exact ⟨_, hen⟩
        · refine (List.mem_singleton.mp hb) ▸ ?_; obtain ⟨o, e, _⟩ := hit; exact ⟨o, e⟩
    · intro b hb hm
      replace hb := (List.mem_singleton).mp hb; subst hb
      rcases List.mem_cons.mp hm with q | hm
      · exact heL q.symm
      · exact hiL (List.mem_singleton.mp hm).symm
  have i₃ : Since env [e₀ + 1, e₀] s { s₂ with heap := h' } := ⟨fun b o hb e => hkeep b o (i₂.heap b o hb e), i₂.gens, i₂.bare, i₂.drawn, i₂.os⟩
  refine seg_call fun pF => ?_
  refine seg_esc (gi := Mine.esc x.cps.toList 0 false) (k := k) hbody hE.kind hE.co hE.inter hE.pos hE.ch hE.esc (Nat.succ_ne_self _ : e₀ + 1 ≠ e₀) heL hiL (room_loop r) ?_ x.cps.toList 0 false 0 [] s _ hfin (by rfl) (Nat.zero_le _) (fun q => by cases q) rfl g₃ i₃ ⟨_, hen⟩ hit
  intro p s₀' s' g' i'
  skip
  refine seg_execs_cons ?_
  refine sg_if (b := false) g' (room_func (b := gbody) r) i' (tst_plain (ev_name (by rfl) hE.kind) truthy_bool) (fun q => by cases q) (fun _ s₆ ag₆ g₆ i₆ => ?_)
  refine sg_nil (sg_nil ?_)
  exact seg_end (.ok (.ret .none)) ⟨rfl, rfl, i₆⟩
end
end Mine
namespace Mine
open PySem PySem.W PySem.Calls PyProof.Rows PySem.Spec

theorem gens_set {s : Shared} {g i : Nat} {x y : GenState} (h : (s.setGen g x).gens[i]? = some y) : (i = g ∧ y = x) ∨ (i ≠ g ∧ s.gens[i]? = some y) := by
  unfold Shared.setGen at h
  dsimp only at h
  rw [Array.getElem?_setIfInBounds] at h
  by_cases q : g = i
  · replace h := (if_pos q) ▸ h
    split at h
    · cases h; exact .inl ⟨q.symm, rfl⟩
    · cases h
  · rw [if_neg q] at h; exact .inr ⟨Ne.symm q, h⟩
theorem bare_set {s : Shared} {g : Nat} {x : GenState} (h : AllBare s.gens) (hx : x.bare = true) : AllBare (s.setGen g x).gens := by
  intro y hy
  obtain ⟨i, hi, rfl⟩ := Array.mem_iff_getElem.mp hy
  rcases gens_set (Array.getElem?_eq_getElem hi) with ⟨_, e⟩ | ⟨_, e⟩
  · refine (e).symm ▸ ?_; exact hx
  · obtain ⟨hi', e'⟩ := Array.getElem?_eq_some_iff.mp e
    refine ( e') ▸ ?_; exact h _ (Array.getElem_mem hi')
theorem set_keep {s : Shared} {g i : Nat} {x y : GenState} (hi : i ≠ g) (h : s.gens[i]? = some y) : (s.setGen g x).gens[i]? = some y := by
  unfold Shared.setGen
  dsimp only
  (refine (Array.getElem?_setIfInBounds).trans ?_; rw [if_neg (Ne.symm hi)]); exact h

section
variable {prog : Program} {w : World} {base : Heap} {k : Nat} {A : Around}

inductive GAt (prog : Program) (w : World) (base : Heap) (A : Around) (genv : Addr → Env) (gi : List D) (a : Addr) (γ : Nat) (j : Nat) (V : List Addr) (s : Shared) : Prop
  | mk (L : Addr) (Og : List Addr) (gs : GenState) (e : V = a :: L :: Og) (h1 : s.heap.IsGen a γ) (h2 : a ∉ L :: Og) (h3 : ∀ b ∈ V, ∃ o, s.heap.get? b = some o) (h4 : s.gens[γ]? = some gs) (h5 : (genv L).locals = L)
    (h6 : ∀ s'' : Shared, (∀ b ∈ L :: Og, ∀ o, s.heap.get? b = some o → s''.heap.get? b = some o) → AllBare s''.gens → Sub base.get? s''.heap.get? → (∃ o, s''.heap.get? a = some o) →
      ∃ O', (∀ b ∈ O', b ∈ Og ∨ s''.heap.get? b = none) ∧ gs.Goes (model prog w) A.in1 (yEnd (genv L) O') (yProto base (genv L) O' gi) (gi.length - j) (.send .none) s'')
theorem GAt.frame {genv : Addr → Env} {gi : List D} {a : Addr} {γ j : Nat} {V : List Addr} {s s' : Shared} (h : GAt prog w base A genv gi a γ j V s) (hk : ∀ b ∈ V, ∀ o, s.heap.get? b = some o → s'.heap.get? b = some o) (hg : ∀ x, s.gens[γ]? = some x → s'.gens[γ]? = some x) : GAt prog w base A genv gi a γ j V s' := by
  obtain ⟨L, Og, gs, rfl, h1, h2, h3, h4, h5, h6⟩ := h
  refine ⟨L, Og, gs, rfl, ?_, h2, fun b hb => let ⟨o, e⟩ := h3 b hb; ⟨o, hk b hb o e⟩, hg _ h4, h5, fun s'' hag => h6 s'' fun b hb o e => hag b hb o (hk b (List.mem_cons_of_mem _ hb) o e)⟩
  obtain ⟨o, nm, qn, e, r⟩ := h1
  exact ⟨o, nm, qn, hk a (List.mem_cons_self ..) o e, r⟩

theorem gen_turn {genv : Addr → Env} {gi : List D} {a : Addr} {γ j : Nat} {V : List Addr} {s : Shared} {Q : Option Value → Shared → Prop} {E : Value → Shared → Prop} (h : GAt prog w base A genv gi a γ j V s) (hh : A.handled = none) (hl : base.NoLimit) (hroom : A.depth < recursionLimit) (hb : AllBare s.gens) (hs : Sub base.get? s.heap.get?)
    (hbV : ∀ b ∈ V, base.get? b = none)
    (hQ : ∀ v d V' s₃, j < gi.length → gi[j]? = some d → Rep s₃.heap.get? d v → GAt prog w base A genv gi a γ (j + 1) V' s₃ → (∀ b ∈ V', b ∈ V ∨ s.heap.get? b = none) → ChgG V' [γ] s s₃ → Q (some v) s₃)
    (hN : ∀ V' s₃, j ≥ gi.length → (∀ b ∈ V', b ∈ V ∨ s.heap.get? b = none) → ChgG V' [γ] s s₃ → Q none s₃) : wpAny (model prog w) A (pyNext (.ref a)) Q E s := by
  obtain ⟨L, Og, gs, rfl, h1, h2, h3, h4, h5, h6⟩ := h
  obtain ⟨O', hO', hgo⟩ := h6 (s.setGen γ .running) (fun b hb o e => e) (bare_set hb rfl) hs (h3 a (List.mem_cons_self ..))
  have aO : a ∉ L :: O' := by
    rw [List.mem_cons, not_or] at h2 ⊢
    refine ⟨h2.1, fun hm => ?_⟩
    rcases hO' a hm with q | q
    · exact h2.2 q
    · obtain ⟨o, e⟩ := h3 a (List.mem_cons_self ..); change s.heap.get? a = none at q; replace q := (e) ▸ q; cases q
  have newV : ∀ b ∈ a :: L :: O', b ∈ a :: L :: Og ∨ s.heap.get? b = none := fun b hb => by
    rcases List.mem_cons.mp hb with rfl | hb
    · exact .inl (List.mem_cons_self ..)
    · rcases List.mem_cons.mp hb with rfl | hb
      · exact .inl (List.mem_cons_of_mem _ (List.mem_cons_self ..))
      · exact (hO' b hb).imp_left fun q => List.mem_cons_of_mem _ (List.mem_cons_of_mem _ q)
  have since : ∀ {s₁ : Shared} {x : GenState}, x.bare = true → Since (genv L) O' (s.setGen γ .running) s₁ → ChgG (a :: L :: O') [γ] s (s₁.setGen γ x) := fun {s₁ x} hx i => by
    refine ⟨fun b o hb e => i.heap b o (fun hm => hb (by rw [h5] at hm; exact List.mem_cons_of_mem _ hm)) e, fun i' y hi e => ?_, fun q => bare_set (i.bare (bare_set q rfl)) hx, i.drawn, i.os⟩
    have hne : i' ≠ γ := fun q => hi (by simp only [q]; exact List.mem_cons_self)
    exact set_keep hne (i.gens i' y (by exact List.not_mem_nil) (set_keep hne e))
  have hl' : s.heap.NoLimit := hl.keeps hs
  refine next_gen (P := fun n s₀ s₁ => n = 0 ∧ Since (genv L) O' s₀ s₁) hh hl' hroom h1 h4 hgo (fun v s₁ gs' hbare hy => ?_) (fun s₁ hp h' hk => ?_)
  · obtain ⟨⟨d, hd, hr⟩, hsi, hlive, hres⟩ := hy
    have fin := since hbare hsi
    have cap : ∀ b o, base.get? b = some o → b ∉ (genv L).locals :: O' := fun b o e hm => by
      rw [h5] at hm
      rcases newV b (List.mem_cons_of_mem _ hm) with q | q
      · exact nos (hbV b q) e
      · replace q := (hs b o e) ▸ q; cases q
    skip
    skip
    cases hn : gi.length - j with
    | zero =>
      replace hres := (hn) ▸ hres
      exact (hres s₁ (fun b _ o e => e) (hsi.bare (bare_set hb rfl) : AllBare s₁.gens) (fun b o e => hsi.heap b o (cap b o e) (hs b o e) : Sub base.get? s₁.heap.get?)).elim
    | succ m =>
      rw [hn] at hres hd
      have hlt : j < gi.length := by exact Nat.lt_of_sub_eq_succ hn
      have hd' : gi[j]? = some d := by
        rw [Nat.add_sub_cancel, List.getElem?_reverse (by (exact Nat.le_trans (Nat.le_of_eq hn.symm) (Nat.sub_le _ j)))] at hd
        rw [show gi.length - 1 - m = j by exact ((Nat.sub_sub _ 1 m).trans (congrArg (gi.length - ·) ((Nat.add_comm 1 m).trans hn.symm))).trans (Nat.sub_sub_self (Nat.le_of_lt hlt))] at hd; exact hd
      refine hQ v d (a :: L :: O') _ hlt hd' hr ?_ newV fin
      obtain ⟨oa, ea⟩ := h3 a (List.mem_cons_self ..)
      have ka : ∀ o, s.heap.get? a = some o → s₁.heap.get? a = some o := fun o e => hsi.heap a o (by refine (h5).symm ▸ ?_; exact aO) e
      refine ⟨L, O', gs', rfl, ?_, aO, fun b hb => ?_, ?_, h5, fun s'' hag hb'' hs'' _ => ⟨O', fun b hb => .inl hb, ?_⟩⟩
      · obtain ⟨o, nm, qn, e, r⟩ := h1
        exact ⟨o, nm, qn, ka o e, r⟩
      · rcases List.mem_cons.mp hb with rfl | hb
        · exact ⟨oa, ka _ ea⟩
        · exact hlive b (by refine (h5).symm ▸ ?_; exact hb)
      · have hlt' : γ < s₁.gens.size := by
          have hlt0 : γ < (s.setGen γ .running).gens.size := by
            have := (Array.getElem?_eq_some_iff.mp h4).1
            unfold Shared.setGen; simpa using this
          have := hsi.gens γ _ (by exact List.not_mem_nil) (Array.getElem?_eq_getElem hlt0)
          exact (Array.getElem?_eq_some_iff.mp this).1
        unfold Shared.setGen
        dsimp only
        (refine (Array.getElem?_setIfInBounds).trans ?_; rw [if_pos rfl, if_pos hlt'])
      · rw [show gi.length - (j + 1) = m by (exact congrArg Nat.pred hn)]
        exact hres s'' (fun b hb o e => hag b (by rw [h5] at hb; exact hb) o e) hb'' hs''
  · obtain ⟨h0, hsi⟩ := hp
    have fin := since (x := .finished) rfl hsi
    refine hN (a :: L :: O') _ (by (exact Nat.le_of_sub_eq_zero h0)) newV ⟨fun b o hb e => hk b o (fin.heap b o hb e), fin.gens, fin.bare, fin.drawn, fin.os⟩
end
end Mine
namespace Mine
open PySem PySem.W PySem.Calls PyProof.Rows PySem.Spec

inductive LpG (prog : Program) (w : World) (base : Heap) (k : Nat) (env : Env) (body orelse : List Stmt) : List (List (Str × D)) → Sg → Out → Prop
  | nil {σ : Sg} {o : Out} (hf : flatS σ = true) (h : Bd prog w base k env (execs orelse env) σ o) : LpG prog w base k env body orelse [] σ o
  | next {bs : List (Str × D)} {rest : List (List (Str × D))} {σ σ₁ : Sg} {o : Out} (hf : flatS σ = true) (h : Bd prog w base k env (execs body env) (σ.bind bs) (.next σ₁)) (r : LpG prog w base k env body orelse rest σ₁ o) : LpG prog w base k env body orelse (bs :: rest) σ o
  | ret {bs : List (Str × D)} {rest : List (List (Str × D))} {σ : Sg} {r : D} (hf : flatS σ = true) (h : Bd prog w base k env (execs body env) (σ.bind bs) (.ret r)) : LpG prog w base k env body orelse (bs :: rest) σ (.ret r)
theorem LpG.flat {prog : Program} {w : World} {base : Heap} {k : Nat} {env : Env} {body orelse : List Stmt} {l : List (List (Str × D))} {σ : Sg} {o : Out} (h : LpG prog w base k env body orelse l σ o) : flatS σ = true := by
  cases h <;> assumption

theorem go_gen {prog : Program} {w : World} {A : Around} {s : Shared} {elts : List Expr} {kk : Nat} {p : Pos} {a T : Addr} {γ : Nat} {Q : Unit → Shared → Prop} {E : Value → Shared → Prop} (hg : s.heap.IsGen a γ) (h : Q () s) : wpAny (model prog w) A (letOwnedTupleGo (.Tuple elts kk p) (.ref a) (.ref T)) Q E s := by
  obtain ⟨o, nm, qn, e, hc, hd, _⟩ := hg
  skip
  refine wpAny_bind (wpAny_load e ?_)
  (refine (hc) ▸ ?_; rw [hd])
  exact wpAny_pure h

inductive GI (prog : Program) (w : World) (base : Heap) (k : Nat) (env : Env) (body orelse : List Stmt) (xi xv : Str) (genv : Addr → Env) (gp : List (D × D)) (a : Addr) (γ : Nat) (o : Out) (O W : List Addr) (s₁ : Shared) (A : Around) (n : Nat) (s : Shared) : Prop
  | mk (j : Nat) (σ' : Sg) (W' V : List Addr) (lp : LpG prog w base k env body orelse ((gp.map fun p => [(xv, p.2), (xi, p.1)]).drop j) σ' o) (hj : j ≤ gp.length) (hn : n = gp.length - j) (hg : GAt prog w base A genv (gp.map fun p => D.tup [p.1, p.2]) a γ j V s) (hV : ∀ b ∈ V, b ∈ W ∨ s₁.heap.get? b = none) (hVW : ∀ b ∈ V, b ∉ W') (hN : New W W' s₁) (hC : ChgG W [γ] s₁ s) (hA : At base k A (W' ++ O) s) (F : FsOk base env σ' O W' s.heap)
inductive AO (base : Heap) (k : Nat) (env : Env) (σ' : Sg) (γ : Nat) (O W : List Addr) (s₁ : Shared) (A : Around) (W' V' : List Addr) (s₃ : Shared) : Prop
  | mk (n1 : ∀ b ∈ V', b ∈ W ∨ s₁.heap.get? b = none) (n2 : ∀ b ∈ V', b ∉ W') (c : ChgG W [γ] s₁ s₃) (hA : At base k A (W' ++ O) s₃) (F : FsOk base env σ' O W' s₃.heap)

section
variable {prog : Program} {w : World} {base : Heap} {k : Nat} {env : Env} {σ : Sg} {o : Out} {A : Around}

theorem gloop_ok {xi xv : Str} {pi pv tp : Pos} {kk : Nat} {body orelse : List Stmt} {genv : Addr → Env} {gp : List (D × D)} {a : Addr} {γ : Nat} {V₀ O W : List Addr} {s₁ s₂ : Shared} (hl : base.NoLimit) (hfl : ∀ p ∈ gp, Flat p.1 = true ∧ Flat p.2 = true) (hsi : Storable env xi) (hsv : Storable env xv) (hk : env.scope.kind = .function)
    (hA : At base k A (W ++ O) s₁) (F : FsOk base env σ O W s₁.heap) (st : Step s₁ s₂) (hV : ∀ b ∈ V₀, s₁.heap.get? b = none) (hγ : s₁.gens[γ]? = none) (hG : GAt prog w base A genv (gp.map fun p => D.tup [p.1, p.2]) a γ 0 V₀ s₂)
    (lp : LpG prog w base k env body orelse (gp.map fun p => [(xv, p.2), (xi, p.1)]) σ o) {R : Result → Shared → Prop} (hR : ∀ f s', Post base env O W s₁ o f s' → R (.ok f) s') :
    codeAny (model prog w) A (.forLoop (.Tuple [.Name xi pi, .Name xv pv] kk tp) (.ref a) body orelse env) R s₂ := by
  skip
  have baseV : ∀ V : List Addr, (∀ b ∈ V, b ∈ W ∨ s₁.heap.get? b = none) → ∀ b ∈ V, base.get? b = none := fun V hV b hb => by
    cases e : base.get? b with
    | none => rfl
    | some o =>
      obtain ⟨e1, e2⟩ := fz_some.mp (hA.base b o e)
      replace e1 := not_app e1
      rcases hV b hb with q | q
      · exact absurd q e1.1
      · replace q := (e2) ▸ q; cases q
  have OV : ∀ V : List Addr, (∀ b ∈ V, b ∈ W ∨ s₁.heap.get? b = none) → ∀ b ∈ V, b ∉ O := fun V hV b hb hO => by
    rcases hV b hb with q | q
    · exact (F.apart : ∀ b ∈ W, b ∉ O) b q hO
    · obtain ⟨o, e⟩ := hA.live b (List.mem_append_right _ hO); exact nos (q) e
  refine codeAny_forLoop_any (GI prog w base k env body orelse xi xv genv gp a γ o O W s₁ A) ?_ gp.length ?_
  · rintro n s ⟨j, σ', W', V, hlp, hj, rfl, hg, hVn, hVW, hN, hC, hA', F'⟩
    have fl := hlp.flat
    -- what the generator's turn leaves of the frame
    have after : ∀ (V' : List Addr) (s₃ : Shared), (∀ b ∈ V', b ∈ V ∨ s.heap.get? b = none) → ChgG V' [γ] s s₃ → AO base k env σ' γ O W s₁ A W' V' s₃ := by
      intro V' s₃ hV' hc
      have n1 : ∀ b ∈ V', b ∈ W ∨ s₁.heap.get? b = none := fun b hb => by
        rcases hV' b hb with q | q
        · exact hVn b q
        · by_cases hW : b ∈ W
          · exact .inl hW
          · refine .inr ?_
            cases e : s₁.heap.get? b with
            | none => rfl
            | some o => replace q := (hC.heap b o hW e) ▸ q; cases q
      have n2 : ∀ b ∈ V', b ∉ W' := fun b hb hW => by
        rcases hV' b hb with q | q
        · exact hVW b q hW
        · obtain ⟨o, e⟩ := hA'.live b (List.mem_append_left _ hW); exact nos (q) e
      refine ⟨n1, n2, hC.trans n1 hc, ⟨hA'.room, hc.bare hA'.bare, fun b o e => ?_, fun b hb => ?_⟩, F'.flat fl (fun b hb o e => hc.heap b o (fun q => n2 b q hb) e) F'.apart⟩
      · obtain ⟨e1, e2⟩ := fz_some.mp (hA'.base b o e)
        exact fz_some.mpr ⟨e1, hc.heap b o (fun q => by exact nos (baseV V' n1 b q) e) e2⟩
      · obtain ⟨o, e⟩ := hA'.live b hb
        refine ⟨o, hc.heap b o (fun q => ?_) e⟩
        replace hb := (List.mem_append).mp hb
        exact hb.elim (n2 b q) (OV V' n1 b q)
    have fin : ∀ (o' : Out) (f : Flow) (s' s₃ : Shared), ChgG W [γ] s₁ s₃ → Post base env O W' s₃ o' f s' → Post base env O W s₁ o' f s' := fun o' f s' s₃ c hp =>
      hp.trans hN ⟨c.heap, fun i x e => c.gens i x (fun q => by replace q := (List.mem_singleton).mp q; subst q; exact nos (hγ) e) e, c.bare, c.drawn, c.os⟩
    refine gen_turn hg hA'.room.1 hl hA'.room.depth hA'.bare hA'.get (baseV V hVn) (fun v d V' s₃ hlt hd hr hg' hV' hc => ?_) (fun V' s₃ hge hV' hc => ?_)
    · simp only [List.length_map] at hlt
      simp only [List.getElem?_map, List.getElem?_eq_getElem hlt] at hd
      cases hd
      obtain ⟨n1, n2, c₃, A₃, F₃⟩ := after V' s₃ hV' hc
      rw [List.drop_eq_getElem_cons (by rw [List.length_map]; exact hlt), List.getElem_map] at hlp
      have hfp := hfl gp[j] (List.getElem_mem hlt)
      obtain ⟨T, us, nn, rfl, hT, hL⟩ := rep_tup hr
      obtain ⟨u1, u2, rfl, h1, h2⟩ := RepL.inv2 hL
      have hgI : s₃.heap.IsGen a γ := by obtain ⟨_, _, _, _, q, _⟩ := hg'; exact q
      refine go_gen hgI ?_
      refine wpAny_assign_Tuple hA'.room.1 ⟨_, hT, rfl, nn, rfl⟩ rfl rfl fun h₄ hx => ?_
      replace hx : Heap.ExtBut s₃.heap.objs.size s₃.heap h₄ := hx
      have st₄ : Step s₃ { s₃ with heap := h₄ } := Step.of (tk := s₃.toks) fun b o e => hx b o (Nat.ne_of_lt (Heap.lt_size e)) e
      have F₄ := F₃.step st₄
      have hfl' : σ'.lst = none ∧ σ'.obj = none := ⟨flatS_lst fl, flatS_obj fl⟩
      skip
      refine wpAny_bind (wpAny_holding (wpAny_assign_Name (store_ok F₄ hk hsi fun s₅ h₅ => ?_)))
      have F₅ := F₄.put (d := gp[j].1) h₅ (h1.flat hfp.1) (by refine (congrArg _ (hfl'.1)).trans ?_; rfl) (by refine (congrArg _ (hfl'.2)).trans ?_; rfl)
      refine wpAny_bind (wpAny_holding (wpAny_assign_Name (store_ok F₅ hk hsv fun s₆ h₆ => wpAny_pure ?_)))
      skip
      have c56 : Chg W' s₃ s₆ := (Chg.step st₄).trans (.refl _ _) (h₅.chg.trans (.refl _ _) h₆.chg)
      skip
      have A₆ : At base k A (W' ++ O) s₆ := A₃.chg (.refl _ _) c56 (h₆.live' (h₅.live' (A₃.step st₄).live) : Live (W' ++ O) s₆.heap)
      have W'n : ∀ b ∈ W', b ∈ W ∨ s₁.heap.get? b = none := hN
      have c₆ : ChgG W [γ] s₁ s₆ := c₃.trans W'n (c56.g fun b hb => hb)
      have g₆ : GAt prog w base A genv (gp.map fun p => D.tup [p.1, p.2]) a γ (j + 1) V' s₆ := hg'.frame (fun b hb o e => c56.heap b o (n2 b hb) e) fun x e => c56.gens γ x e
      have run : ∀ {o' : Out}, Bd prog w base k env (execs body env) (σ'.bind [(xv, gp[j].2), (xi, gp[j].1)]) o' → WP prog w A (execs body env) (Post base env O W' s₆ o') s₆ := fun hb => hb.run A O W' s₆ A₆ (F₅.put (d := gp[j].2) h₆ (h2.flat hfp.2) (by refine (congrArg _ (hfl'.1)).trans ?_; rfl) (by refine (congrArg _ (hfl'.2)).trans ?_; rfl))
      cases hlp with
      | next hf h r =>
        refine WP.mono (run h) fun f s₇ hp => ?_
        obtain ⟨rfl, W'', n7, c7, l7, F7⟩ := hp
        skip
        refine ⟨gp.length - (j + 1), by exact Nat.sub_succ_lt_self _ _ hlt, j + 1, _, W'', V', r, hlt, rfl, g₆.frame (fun b hb o e => c7.heap b o (n2 b hb) e) (fun x e => c7.gens γ x e), n1, fun b hb hW => ?_, fun b hb => ?_, c₆.trans W'n (c7.g fun b hb => hb), A₆.chg n7 c7 l7, F7⟩
        · rcases n7 b hW with q | q
          · exact n2 b hb q
          · obtain ⟨o, e⟩ := (by obtain ⟨_, _, _, _, _, _, q, _⟩ := g₆; exact q : ∀ b ∈ V', ∃ o, s₆.heap.get? b = some o) b hb; exact nos (q) e
        · rcases n7 b hb with q | q
          · exact hN b q
          · by_cases hW : b ∈ W
            · exact .inl hW
            · refine .inr ?_
              cases e : s₁.heap.get? b with
              | none => rfl
              | some o => replace q := (c₆.heap b o hW e) ▸ q; cases q
      | ret hf h =>
        refine WP.mono (run h) fun f s₇ hp => ?_
        have hp' := fin _ _ _ s₆ c₆ hp
        obtain ⟨v, rfl, q⟩ := hp'
        exact hR _ _ ⟨v, rfl, q⟩
    · simp only [List.length_map] at hge
      have hje : j = gp.length := by (lia)
      subst hje
      obtain ⟨n1, n2, c₃, A₃, F₃⟩ := after V' s₃ hV' hc
      rw [List.drop_of_length_le (by simp)] at hlp
      cases hlp with
      | nil hf h => exact WP.mono (h.run A O W' s₃ A₃ F₃) fun f s₄ hp => hR _ _ (fin _ _ _ s₃ c₃ hp)
  · refine ⟨0, σ, W, V₀, lp, Nat.zero_le _, rfl, hG, fun b hb => .inr (hV b hb), fun b hb hW => ?_, .refl _ _, (Chg.step st).g fun b hb => hb, hA.step st, F.step st⟩
    obtain ⟨o, e⟩ := hA.live b (List.mem_append_left _ hW); exact nos (hV b hb) e
end
end Mine
namespace Mine
open PySem PySem.W PySem.Calls PyProof.Rows PySem.Spec

noncomputable def escP : List Nat → Nat → Bool → List (D × D)
  | [], i, b => if b then [(.int ((i : Int) - 1), .str bsl)] else []
  | c :: cs, i, true => (.int (i : Int), .str (bsl ++ ⟨#[c]⟩)) :: escP cs (i + 1) false
  | c :: cs, i, false => if (⟨#[c]⟩ : Str) = bsl then escP cs (i + 1) true else (.int (i : Int), .str ⟨#[c]⟩) :: escP cs (i + 1) false
theorem escP_n (i : Nat) (b : Bool) : escP [] i b = if b then [(.int ((i : Int) - 1), .str bsl)] else [] := rfl
theorem escP_t (c : Nat) (cs : List Nat) (i : Nat) : escP (c :: cs) i true = (.int (i : Int), .str (bsl ++ ⟨#[c]⟩)) :: escP cs (i + 1) false := rfl
theorem escP_f (c : Nat) (cs : List Nat) (i : Nat) : escP (c :: cs) i false = if (⟨#[c]⟩ : Str) = bsl then escP cs (i + 1) true else (.int (i : Int), .str ⟨#[c]⟩) :: escP cs (i + 1) false := rfl
theorem esc_eq : ∀ (cs : List Nat) (i : Nat) (b : Bool), esc cs i b = (escP cs i b).map fun p => D.tup [p.1, p.2]
  | [], i, b => by cases b <;> rfl
  | c :: cs, i, true => by simp only [esc_t, esc_f, escP_n, escP_t, escP_f, List.map_cons, esc_eq cs]
  | c :: cs, i, false => by
    simp only [esc_t, esc_f, escP_n, escP_t, escP_f]
    split
    · simp only [esc_eq cs]
    · simp only [List.map_cons, esc_eq cs]
theorem escP_flat : ∀ (cs : List Nat) (i : Nat) (b : Bool), ∀ p ∈ escP cs i b, Flat p.1 = true ∧ Flat p.2 = true
  | [], i, b, p, hp => by
    cases b
    · cases hp
    · rw [escP_n, if_pos rfl, List.mem_singleton] at hp; subst hp; exact ⟨rfl, rfl⟩
  | c :: cs, i, true, p, hp => by
    simp only [escP_n, escP_t, escP_f] at hp
    rcases List.mem_cons.mp hp with rfl | hp
    · exact ⟨rfl, rfl⟩
    · exact escP_flat cs _ _ p hp
  | c :: cs, i, false, p, hp => by
    simp only [escP_n, escP_t, escP_f] at hp
    split at hp
    · exact escP_flat cs _ _ p hp
    · rcases List.mem_cons.mp hp with rfl | hp
      · exact ⟨rfl, rfl⟩
      · exact escP_flat cs _ _ p hp

inductive EscShape (gbody : List Stmt) : Prop
  | mk (body : List Stmt) (a1 a2 a3 a4 a5 a6 a7 a8 a9 a10 a11 a12 a13 a14 a15 a16 a17 q1 q2 q3 p1 p2 p3 p4 p5 p6 p7 p8 p9 p10 p11 p12 p13 p14 p15 p16 p17 p18 p19 p20 p21 p22 p23 p24 : Pos) (j1 j2 j3 j4 kt k1 k2 k3 k4 k5 k6 : Nat)
    (h1 : body = [.If (.Name "escape" p1) [.Expr (.Yield (some (.Tuple [.Name "pos" p2, .BinOp (.Constant (.str "\\") k1 p3) .Add (.Name "ch" p4) p5] k2 p6)) p7) p8, .Assign [.Name "escape" p9] (.Constant (.bool false) k3 p10) p11]
      [.If (.Compare (.Name "ch" p12) [.Eq] [.Constant (.str "\\") k4 p13] p14) [.Assign [.Name "escape" p15] (.Constant (.bool true) k5 p16) p17] [.Expr (.Yield (some (.Tuple [.Name "pos" p18, .Name "ch" p19] k6 p20)) p21) p22] p23] p24])
    (h2 : gbody = [.Assign [.Name "pos" a1] (.Constant (.int 0) j1 a2) a3, .Assign [.Name "escape" a4] (.Constant (.bool false) j2 a5) a6, .For (.Tuple [.Name "pos" q1, .Name "ch" q2] kt q3) (.Call (.Name "enumerate" a7) [.Name "addr" a8] [] a9) body [] a10,
      .If (.Name "escape" a11) [.Expr (.Yield (some (.Tuple [.Name "pos" a12, .Constant (.str "\\") j3 a13] j4 a14)) a15) a16] [] a17])

structure EscGen (base : Heap) (a₀ : Addr) (fd : FuncData) (gbody : List Stmt) : Prop where
  obj : ∃ o, base.get? a₀ = some o ∧ o.data = .func fd
  body : fd.body = .stmts gbody
  code : base.CodeRec fd.code fd.qualname
  clo : fd.closure = []
  gen : fd.scope.isGenerator = true
  co : fd.scope.isCoroutine = false
  kind : fd.scope.kind = .function
  bind : ∀ v : Value, bindArgs fd ⟨[v], []⟩ = pure [(("addr" : Str), v)]
  cell : ∀ x ∈ fd.scope.names, x.2 ≠ .cell
  loc : fd.scope.names.lookup ("addr" : Str) = some .local
  env : ∀ L, GenEnv base (callEnv fd L a₀)
  shape : EscShape gbody

section
variable {prog : Program} {w : World} {base : Heap} {k : Nat} {env : Env} {σ : Sg} {o : Out}

theorem call_gen {A : Around} {O : List Addr} {s : Shared} {a₀ : Addr} {fd : FuncData} {gbody : List Stmt} {x : Str} {v : Value} {Q : Value → Shared → Prop} (G : EscGen base a₀ fd gbody) (hl : base.NoLimit) (hA : At base (k + 3) A O s) (hv : Rep (fz O s.heap) (.str x) v) (hfin : escEnd x.cps.toList false = false)
    (h : ∀ a γ V s', Step s s' → (∀ b ∈ V, s.heap.get? b = none) → s.gens[γ]? = none → GAt prog w base A (fun L => callEnv fd L a₀) (esc x.cps.toList 0 false) a γ 0 V s' → s'.heap.IsGen a γ → Q (.ref a) s') : WP prog w A (call (.ref a₀) [v]) Q s := by
  obtain ⟨o, ho, hdata⟩ := G.obj
  obtain ⟨t, rfl⟩ := rep_str hv
  refine wpAny_call (codeAny_call_generator hA.room.depth (hA.get _ _ ho) hdata G.co G.gen G.body (G.code.keeps hA.get) ?_)
  simp only [G.bind]
  refine wpAny_pure (wpAny_newFunctionEnv G.cell (fun x hx => ?_) (fun h₀ hns₀ hsb₀ => ⟨(hl.keeps hA.get).fresh _ hsb₀, ?_⟩) G.kind)
  · replace hx := (List.mem_singleton).mp hx; subst hx; exact G.loc
  have keep : ∀ b o, s.heap.get? b = some o → h₀.get? b = some o := fun b o e => hsb₀.extBut b o (Nat.ne_of_lt (Heap.lt_size e)) (Heap.get?_push_of_some _ e)
  have newL : s.heap.get? s.heap.objs.size = none := new_none s
  have newA : s.heap.get? h₀.objs.size = none := by
    cases e : s.heap.get? h₀.objs.size with
    | none => rfl
    | some o => exact absurd (Heap.lt_size (keep _ _ e)) (Nat.lt_irrefl _)
  skip
  skip
  refine h h₀.objs.size s.gens.size [h₀.objs.size, s.heap.objs.size] _ ⟨fun b o e => Heap.get?_push_of_some _ (keep b o e), fun i y e => ?_, fun hb => hb.push rfl, rfl, rfl⟩ (fun b hb => ?_) (Array.getElem?_eq_none (Nat.le_refl _) : s.gens[s.gens.size]? = none) ?_ ?_
  · have hlt := (Array.getElem?_eq_some_iff.mp e).1
    skip
    simp only [Array.getElem?_push_lt hlt, ← e, Array.getElem?_eq_getElem hlt]
  · rcases List.mem_cons.mp hb with rfl | hb
    · exact newA
    · refine (List.mem_singleton.mp hb) ▸ ?_; exact newL
  · refine ⟨s.heap.objs.size, [], .fresh (.func gbody (callEnv fd s.heap.objs.size a₀)), rfl, ⟨_, _, _, Heap.get?_push_size _ rfl, rfl, rfl, rfl⟩, by simp [(Nat.ne_of_gt hns₀.lt : h₀.objs.size ≠ s.heap.objs.size)], fun b hb => ?_, ?_, rfl, fun s'' hag hb'' hs'' _ => ⟨[s''.heap.objs.size + 1, s''.heap.objs.size], fun b hb => .inr ?_, ?_⟩⟩
    · rcases List.mem_cons.mp hb with rfl | hb
      · exact ⟨_, Heap.get?_push_size _ rfl⟩
      · simp only [List.mem_singleton.mp hb]; obtain ⟨o, _, _, e, _⟩ := hns₀; exact ⟨o, Heap.get?_push_of_some _ e⟩
    · skip
      refine (Array.getElem?_push_size).trans ?_; rfl
    · rcases List.mem_cons.mp hb with rfl | hb
      · cases e : s''.heap.get? (s''.heap.objs.size + 1) with
        | none => rfl
        | some o => exact absurd (Heap.lt_size e) (Nat.not_lt.mpr (Nat.le_succ _))
      · refine (List.mem_singleton.mp hb) ▸ ?_; exact new_none s''
    · obtain ⟨body, a1, a2, a3, a4, a5, a6, a7, a8, a9, a10, a11, a12, a13, a14, a15, a16, a17, q1, q2, q3, p1, p2, p3, p4, p5, p6, p7, p8, p9, p10, p11, p12, p13, p14, p15, p16, p17, p18, p19, p20, p21, p22, p23, p24, j1, j2, j3, j4, kt, k1, k2, k3, k4, k5, k6, hb1, hb2⟩ := G.shape
      skip
      have hns'' : s''.heap.Ns s.heap.objs.size (fun y => ([(("addr" : Str), Value.str x t)] : List (Str × Value)).reverse.lookup y) := (hns₀.keeps (h' := h₀.push { cls := .type "generator", data := .fields #[.int s.gens.size 0, .str fd.name (s.toks + 1), .str fd.qualname (s.toks + 1 + 1)] }) fun b o e => Heap.get?_push_of_some _ e).at' fun o e => hag _ (by exact List.mem_cons_self) o e
      have gs : GS base (callEnv fd s.heap.objs.size a₀) [] ⟨[("addr", .str x)], none, none⟩ s'' := by
        refine ⟨hb'', fun b o e => fz_some.mpr ⟨fun hm => ?_, hs'' b o e⟩, fun b hb => ?_, ⟨List.mem_singleton.mpr rfl, by simp, ⟨_, hns''⟩, fun y c e => ?_, fun y z c e => ?_, fun y d e => ?_, (fun y ds e => by cases e), (fun y C ns ds e => by cases e)⟩, rfl⟩
        · rw [List.append_nil, List.mem_singleton] at hm
          subst hm
          have := hA.get _ _ e
          skip
          exact nos (newL) this
        · rw [List.append_nil, List.mem_singleton] at hb
          subst hb
          obtain ⟨o, _, _, e, _⟩ := hns''; exact ⟨o, e⟩
        · rw [show (callEnv fd s.heap.objs.size a₀).cells = fd.closure from rfl, G.clo] at e; cases e
        · rw [show (callEnv fd s.heap.objs.size a₀).cells = fd.closure from rfl, G.clo] at e; cases e
        · rw [List.lookup_cons] at e
          by_cases q : y = "addr"
          · subst q; simp at e; subst e
            exact ⟨.str x t, .inl ⟨G.loc, _, hns'', by rfl⟩, of_str⟩
          · replace e := (beq_eq_false_iff_ne.mpr q) ▸ e; cases e
      exact gen_start (k := k) hb1 hb2 (G.env _) hfin hA.room.in1 gs
  · exact ⟨_, _, _, Heap.get?_push_size _ rfl, rfl, rfl, rfl⟩

theorem bd_forGen {fn : Str} {xi xv : Str} {pi pv tp px cpos pos : Pos} {kk : Nat} {e : Expr} {body orelse : List Stmt} {a₀ : Addr} {fd : FuncData} {gbody : List Stmt} {x : Str} (G : EscGen base a₀ fd gbody) (hl : base.NoLimit) (hg : Evv prog w base (k + 3) env σ.ρ (.Name fn px) (.ref a₀)) (hkp : KeepOk prog w base (.ref a₀)) (h : Ev prog w base (k + 3) env σ.ρ e (.str x)) (hfin : escEnd x.cps.toList false = false)
    (hsi : Storable env xi) (hsv : Storable env xv) (lp : LpG prog w base (k + 3) env body orelse ((escP x.cps.toList 0 false).map fun p => [(xv, p.2), (xi, p.1)]) σ o) (hk : env.scope.kind = .function := by rfl) (hst : starEach [e] env = [(false, eval e env)] := by rfl)
    (hf : ∀ x, foldedSetIterable (.Call (.Name fn px) [e] [] cpos) env x = pure x := by intro _; rfl) :
    Bd prog w base (k + 3) env (exec (.For (.Tuple [.Name xi pi, .Name xv pv] kk tp) (.Call (.Name fn px) [e] [] cpos) body orelse pos) env) σ o :=
  ⟨fun A O W s hA F => by
    refine wpAny_For ?_ hf
    refine call1 hg hkp h hA F.envOk (fun s₁ v st r => ?_) hst
    refine call_gen G hl (hA.step st) r hfin fun a γ V s₂ st₂ hV hγ hG hI => ?_
    refine wpAny_pyIter_gen hI ?_
    rw [esc_eq] at hG
    refine gloop_ok (R := fun r s' => match r with | .ok f => Post base env O W s o f s' | .error e => cameBackBy (model prog w) A env (fun _ _ => False) e s') hl (escP_flat _ _ _) hsi hsv hk (hA.step st) (F.step st) st₂ hV hγ hG lp ?_
    intro f s' hp
    exact hp.step st⟩
end
end Mine
namespace Mine
open PySem PySem.W PySem.Calls PyProof.Rows PySem.Spec

theorem putL_names {name : Str} {hsh : Int} {key v : Value} (hkey : ∃ t, key = .str name t) : ∀ {es : List DictEntry} {ns : List Str}, es.map keyName = ns.map some → ns.contains name = false → (putL name hsh key v es).map keyName = (ns ++ [name]).map some ∧ (putL name hsh key v es).map (·.val) = es.map (·.val) ++ [v] := by
  intro vq
  induction vq with
  | nil =>
    intro ns h _
    cases ns with
    | nil => obtain ⟨t, rfl⟩ := hkey; exact ⟨rfl, rfl⟩
    | cons n ns => cases h
  | cons e es ihq =>
    intro ns h hc
    cases ns with
    | nil => cases h
    | cons n ns =>
      simp only [List.map_cons, List.cons.injEq] at h
      rw [List.contains_cons, Bool.or_eq_false_iff] at hc
      have hne : e.key.isStr name = false := by
        refine (keyName_isStr h.1).trans ?_
        have : name ≠ n := by simpa using hc.1
        simp [Ne.symm this]
      obtain ⟨h1, h2⟩ := ihq h.2 hc.2
      unfold putL
      rw [hne, if_neg Bool.false_ne_true]
      exact ⟨by simp only [List.map_cons, h1, h.1]; rfl, by (refine (List.map_cons).trans ?_; rw [h2]); rfl⟩
theorem keyed_noRef {es : List DictEntry} {ns : List Str} (h : es.map keyName = ns.map some) : es.any (·.refKey) = false := by
  rw [List.any_eq_false]
  intro e he
  have : keyName e ∈ es.map keyName := List.mem_map.mpr ⟨e, he, rfl⟩
  rw [h, List.mem_map] at this
  obtain ⟨y, _, e'⟩ := this
  unfold keyName at e'
  split at e'
  · rename_i z t q
    unfold DictEntry.refKey
    refine (q) ▸ ?_; simp
  · cases e'

section
variable {prog : Program} {w : World} {base : Heap} {k : Nat} {env : Env} {σ : Sg} {K : Frag} {C : Addr}

theorem osa_field {A : Around} {s : Shared} {R : Result → Shared → Prop} {x dx : Addr} {es : List DictEntry} {n : Nat} {ns : List Str} {name : Str} {v : Value} {tk : Tok} (X : K.In s.heap) (hx : s.heap.get? x = some (instObj C dx)) (hd : s.heap.get? dx = some (dictOf es n)) (hns : es.map keyName = ns.map some)
    (hp : plainOver K C = true) (ht : takerIn K C name = some none) (hh : hasDictIn K C = true) (hc : ns.contains name = false) (hz : ns.length ≤ 900)
    (h : ∀ h' es' n', h'.get? dx = some (dictOf es' n') → Heap.SameBut dx s.heap h' → es'.map keyName = (ns ++ [name]).map some → es'.map (·.val) = es.map (·.val) ++ [v] → R (.ok (.ret .none)) { s with heap := h', toks := s.toks + 1 }) :
    codeAny (model prog w) A (.call (.builtin "object.__setattr__") ⟨[.ref x, .str name tk, v], []⟩) R s := by
  skip
  refine osa_open X (⟨hx, rfl, rfl, hd⟩ : InstAt s.heap x (instObj C dx) C (some (dictOf es n))) hp ht fun b => ?_
  obtain ⟨cd, hcl, hd'⟩ := any_some hh
  refine wpAny_bind (wpAny_pure (wpAny_bind (wpAny_bind (wpAny_loadPart hx (wpAny_bind ((looks_clsIn X hcl).here ?_))))))
  refine (hd').symm ▸ ?_
  refine wpAny_pure (a := some dx) (wpAny_bind (wpAny_pure (wpAny_bind ?_)))
  skip
  refine wpAny_bind (wpAny_bind (wpAny_askSetting (wpAny_pure (wpAny_bind (wpAny_mkText (wpAny_bind (wpAny_loadPart hd ?_)))))))
  dsimp only
  have cc : (!es.toArray.any (·.key.isStr name) && es.toArray.any (·.refKey)) = false := by
    rw [← Array.any_toList, ← Array.any_toList]
    skip
    simp only [keyed_noRef hns, Bool.and_false]
  rw [aRefKeyMayBeTheName_at, cc]
  have hput := putName_dict name (PyData.keyHash w.params name) (.str name s.toks) v es n
  have hq0 := putL_names (name := name) (hsh := PyData.keyHash w.params name) (key := .str name s.toks) (v := v) ⟨_, rfl⟩ hns hc
  have e1 := hq0.1
  have e2 := hq0.2
  have hup : (s.heap.update dx (Obj.putName name (PyData.keyHash w.params name) (.str name s.toks) v)).get? dx = some (dictOf (putL name (PyData.keyHash w.params name) (.str name s.toks) v es) (putN name es n)) := by
    (refine (Heap.get?_update_self _ hd (by refine (congrArg _ (hput)).trans ?_; rfl)).trans ?_; rw [hput])
  refine wpAny_updatePart hd ?_
  refine wpAny_bind (wpAny_lookBehind hup (pastItsLine_dict (by
    have e3 := congrArg List.length e1
    have e4 := congrArg List.length hns
    simp only [List.length_map, List.length_append, List.length_singleton] at e3 e4
    simp only [List.size_toArray, sizeLine_eq]; (exact Nat.le_trans (Nat.le_of_eq e3) (q3 (Nat.succ_le_succ hz) rfl)))) ?_)
  exact wpAny_pure (h _ _ _ hup (Heap.SameBut.update ..) e1 e2)
theorem set_field {A : Around} {s : Shared} {E : Value → Shared → Prop} {Q : Unit → Shared → Prop} {x dx : Addr} {es : List DictEntry} {n : Nat} {ns : List Str} {name : Str} {v : Value} (X : K.In s.heap) (hx : s.heap.get? x = some (instObj C dx)) (hd : s.heap.get? dx = some (dictOf es n)) (hns : es.map keyName = ns.map some)
    (hs : findIn K (.ref C) "__setattr__" = some (some (.builtin "object.__setattr__"))) (hp : plainOver K C = true) (ht : takerIn K C name = some none) (hh : hasDictIn K C = true) (hc : ns.contains name = false) (hz : ns.length ≤ 900)
    (h : ∀ h' es' n', h'.get? dx = some (dictOf es' n') → Heap.SameBut dx s.heap h' → es'.map keyName = (ns ++ [name]).map some → es'.map (·.val) = es.map (·.val) ++ [v] → Q () { s with heap := h', toks := s.toks + 2 }) :
    wpAny (model prog w) A (setAttr (.ref x) name v) Q E s := by
  skip
  exact set_plain X (⟨hx, rfl, rfl, hd⟩ : InstAt s.heap x (instObj C dx) C (some (dictOf es n))) hs (osa_field (s := { s with toks := s.toks + 1 }) X hx hd hns hp ht hh hc hz fun h' es' n' a b c d => h h' es' n' a b c d)

theorem bd_setField {x : Str} {px ps pos : Pos} {name : Str} {value : Expr} {ns : List Str} {ds : List D} {d : D} {a₁ : Addr} (X : K.In base) (hl : σ.obj = some (x, (C, a₁), ns, ds)) (h : Ev prog w base k env σ.ρ value d) (hs : findIn K (.ref C) "__setattr__" = some (some (.builtin "object.__setattr__"))) (hp : plainOver K C = true) (ht : takerIn K C name = some none) (hh : hasDictIn K C = true)
    (hc : ns.contains name = false) (hz : ns.length ≤ 900) (hk : env.scope.kind = .function := by rfl) (hd : (x == ("__debug__" : Str)) = false := by decide) (hw : swapsWith value (some (.Attribute (.Name x px) name ps)) pos.line env = pure false := by rfl) :
    Bd prog w base k env (exec (.Assign [.Attribute (.Name x px) name ps] value pos) env) σ (.next ⟨σ.ρ, σ.lst, some (x, (C, a₁), ns ++ [name], ds ++ [d])⟩) :=
  ⟨fun A O W s hA F => by
    refine plainObj_wpAny_Assign_Attribute (WP.mono (h.run A (W ++ O) s hA F.envOk) fun v s₁ ⟨st, r⟩ => ?_) hw
    have F₁ := F.step st
    have hA₁ := hA.step st
    obtain ⟨a, dx, es, n, h1, h2, h3, h4, h5, h6, h7, h8, h9⟩ := F₁.obj x (C, a₁) ns ds hl
    refine wpAny_Name (loadName_ok (O := O) (ρ := σ.ρ) (h := s.heap) h1 hk ?_) hd
    refine set_field (X.keeps hA₁.get) h6 h7 h8 hs hp ht hh hc hz fun h' es' n' e1 hsb e2 e3 => ?_
    have hz' : Sub (fz (W ++ O) s₁.heap) (fz (W ++ O) h') := fz_mono (fun b hb => .inl hb) fun b o hb e => (hsb.2 b fun q => hb (q ▸ List.mem_append_left _ h3)).trans e
    have ne : env.locals ≠ dx := Ne.symm h4
    have ndx : ∀ {b : Addr} {o : Obj}, s₁.heap.get? b = some o → (∀ es ep, o.data ≠ .dict es ep) → b ≠ dx := fun {b o} e hne q => by
      subst q; replace e := (h7) ▸ e; cases e; exact hne _ _ rfl
    have hv : ∀ y u, VarIs env s₁.heap y u → VarIs env h' y u := fun y u hv => by
      rcases hv with ⟨p, m, n, e⟩ | ⟨c, p, q, o, e, e'⟩
      · exact .inl ⟨p, m, n.sameBut hsb ne, e⟩
      · exact .inr ⟨c, p, q, o, (hsb.2 c (ndx e fun _ _ z => by rw [e'] at z; cases z)).trans e, e'⟩
    refine ⟨rfl, .of_frame ?_ ?_ ?_⟩
    · exact (Chg.step st).trans (.refl _ _) ⟨fun b o hb e => (hsb.2 b fun q => hb (q ▸ h3)).trans e, fun _ _ e => e, id, rfl, rfl⟩
    · intro b hb
      by_cases q : b = dx
      · subst q; exact ⟨_, e1⟩
      · obtain ⟨o, e⟩ := hA₁.live b hb; exact ⟨o, (hsb.2 b q).trans e⟩
    · refine ⟨F₁.loc, F₁.apart, let ⟨m, hn⟩ := F₁.ns; ⟨m, hn.sameBut hsb ne⟩, fun y c e => ?_, F₁.inj, fun y d' e => ?_, fun y ds' e => ?_, fun y C' ns' ds' e => ?_⟩
      · obtain ⟨q1, v', o, q2, q3⟩ := F₁.cells y c e
        exact ⟨q1, v', o, (hsb.2 c (ndx q2 fun _ _ z => by rw [q3] at z; cases z)).trans q2, q3⟩
      · obtain ⟨u, p, q⟩ := F₁.vars y d' e; exact ⟨u, hv y u p, q.mono hz'⟩
      · obtain ⟨l, vs, m, g1, g2, g3, g4⟩ := F₁.lst y ds' e
        exact ⟨l, vs, m, hv _ _ g1, g2, (hsb.2 l (ndx g3 fun _ _ z => by cases z)).trans g3, g4.mono hz'⟩
      · cases e
        exact ⟨a, dx, es', n', hv _ _ h1, h2, h3, h4, h5, (hsb.2 a (ndx h6 fun _ _ z => by cases z)).trans h6, e1, e2, by simp only [e3]; exact (h9.append (.one r)).mono hz'⟩⟩

end
end Mine
namespace Mine
open PySem PySem.W PySem.Calls PyProof.Rows PySem.Spec

theorem room_make {k : Nat} {A : Around} {C : Addr} {vs : List Value} (h : Room (k + 1) A) : Room k (A.under (.builtin "type.__call__" ⟨.ref C :: vs, []⟩)) := by
  skip
  have h2 := h.2.1
  have h3 := h.2.2
  have w1 : (Code.builtin "type.__call__" ⟨.ref C :: vs, []⟩).weight ≤ 3 := by
    skip
    (exact Nat.succ_pos _)
  have w2 : (Code.builtin "type.__call__" ⟨.ref C :: vs, []⟩).cUnits ≤ 30 := by
    skip
    (exact Nat.succ_pos _)
  refine ⟨(h.1), ?_, ?_⟩
  · show A.depth + (Code.builtin "type.__call__" ⟨.ref C :: vs, []⟩).weight + 3 * k < _
    (exact u4 h2 w1)
  · show A.units + (Code.builtin "type.__call__" ⟨.ref C :: vs, []⟩).cUnits + 30 * k < _
    exact u4 h3 w2
theorem rev_head {α : Type} {a : Str} {v : α} {r : List (Str × α)} (h : ∀ p ∈ r, p.1 ≠ a) : ((a, v) :: r).reverse.lookup a = some v := by
  simp only [List.reverse_cons, List.lookup_append]
  have : r.reverse.lookup a = none := by
    rw [List.lookup_eq_none_iff]
    intro p hp
    rw [List.mem_reverse] at hp
    exact bne_iff_ne.mpr (Ne.symm (h p hp))
  simp only [this]
  skip
  simp
theorem rev_tail {α : Type} {a x : Str} {v u : α} {r : List (Str × α)} (h : r.reverse.lookup x = some u) : ((a, v) :: r).reverse.lookup x = some u := by
  simp only [List.reverse_cons, List.lookup_append, h]; rfl

section
variable {prog : Program} {w : World} {base : Heap} {k : Nat} {K : Frag} {C : Addr}

theorem fn_make {fI : Addr} {oc : Value} {od : Option Addr} {fd : FuncData} {osl : Array (Option Value)} {body : List Stmt} {xs : List Str} {ds fs : List D} {ns : List Str} (H : Wd K base) (hm : makesIn K C = true) (hi : findIn K (.ref C) "__init__" = some (some (.ref fI))) (hf : isFn K (.ref fI) = true)
    (ho : K.lookup fI = some ⟨oc, od, .func fd, osl⟩) (hbody : fd.body = .stmts body) (hcd : codeIn K fd.code fd.qualname = true) (hclo : fd.closure = []) (hlen : ds.length = xs.length)
    (hbind : ∀ vs : List Value, vs.length = xs.length → ∀ self, bindArgs fd ⟨self :: vs, []⟩ = pure ((("self" : Str), self) :: xs.zip vs)) (hcell : ∀ x ∈ fd.scope.names, x.2 ≠ .cell) (hloc : ∀ x ∈ ("self" : Str) :: xs, fd.scope.names.lookup x = some .local) (hnd : (("self" : Str) :: xs).Nodup)
    (hco : fd.scope.isCoroutine = false) (hgen : fd.scope.isGenerator = false) (hk : fd.scope.kind = .function)
    (h : ∀ L x, ∃ ρ' lst', Bd prog w base k (callEnv fd L fI) (execs body (callEnv fd L fI)) ⟨xs.zip ds, none, some ("self", (C, x), [], [])⟩ (.next ⟨ρ', lst', some ("self", (C, x), ns, fs)⟩)) :
    Fn prog w base (k + 2) (fun vs => call (.ref C) vs) ds (.inst C ns fs) := .mk fun A O s vs hA hv => by
  have X := H.X.keeps hA.get
  skip
  refine wpAny_call (make_core (makes_of X hm) (looks_findIn X hi) (fun self => bind_fn X self (beq_iff_eq.mp hf)) (.inl rfl) ?_)
  skip
  have hA1 : At base (k + 1) (A.under (.builtin "type.__call__" ⟨.ref C :: vs, []⟩)) O s := ⟨room_make hA.room, hA.bare, hA.base, hA.live⟩
  generalize hB : A.under (.builtin "type.__call__" ⟨.ref C :: vs, []⟩) = B at hA1
  have k1 : ∀ b o, s.heap.get? b = some o → ((s.heap.push emptyDict).push (instObj C s.heap.objs.size)).get? b = some o := fun b o e => Heap.get?_push_of_some _ (Heap.get?_push_of_some _ e)
  have gd : ((s.heap.push emptyDict).push (instObj C s.heap.objs.size)).get? s.heap.objs.size = some (dictOf [] 0) := Heap.get?_push_of_some _ (Heap.get?_push_size _ rfl)
  have gx : ((s.heap.push emptyDict).push (instObj C s.heap.objs.size)).get? (s.heap.objs.size + 1) = some (instObj C s.heap.objs.size) := by
    have := Heap.get?_push_size (s.heap.push emptyDict) (o := instObj C s.heap.objs.size) rfl
    rw [Heap.size_push] at this; exact this
  have sz : ((s.heap.push emptyDict).push (instObj C s.heap.objs.size)).objs.size = s.heap.objs.size + 1 + 1 := by rw [Heap.size_push, Heap.size_push]
  generalize (s.heap.push emptyDict).push (instObj C s.heap.objs.size) = H1 at k1 gd gx sz
  have hbase1 : Sub base.get? H1.get? := hA.get.trans k1
  skip
  refine codeAny_call_def (s := { s with heap := H1 }) (binds := ("self", .ref (s.heap.objs.size + 1)) :: xs.zip vs) hA1.room.depth (hbase1 _ _ (H.X _ _ ho)) rfl (H.lim.keeps hbase1) ((codeRec_of H.X hcd).keeps hbase1) hbody (.of_eq (hbind vs ((hv.length).trans hlen) _)) hcell (fun p hp => ?_) (fun h₀ hns hkeep => ?_) hco hgen hk
  · rcases List.mem_cons.mp hp with rfl | hp
    · exact hloc _ (List.mem_cons_self ..)
    · exact hloc _ (List.mem_cons_of_mem _ (List.of_mem_zip (a := p.1) (b := p.2) hp).1)
  dsimp only at hns hkeep ⊢
  rw [sz] at hns ⊢
  obtain ⟨ρ', lst', hb⟩ := h (s.heap.objs.size + 1 + 1) (s.heap.objs.size + 1)
  have new : ∀ b, s.heap.objs.size ≤ b → s.heap.get? b = none := fun b hb => by
    cases e : s.heap.get? b with
    | none => rfl
    | some o => exact absurd (Heap.lt_size e) (Nat.not_lt.mpr hb)
  have hW : ∀ b ∈ [s.heap.objs.size + 1 + 1, s.heap.objs.size + 1, s.heap.objs.size], s.heap.get? b = none := fun b hb => by
    rcases List.mem_cons.mp hb with rfl | hb
    · exact new _ (Nat.le_succ_of_le (Nat.le_succ _))
    · rcases List.mem_cons.mp hb with rfl | hb
      · exact new _ (Nat.le_succ _)
      · refine (congrArg _ (List.mem_singleton.mp hb)).trans ?_; exact (new_none s)
  have hz : Sub (fz O s.heap) (fz ([s.heap.objs.size + 1 + 1, s.heap.objs.size + 1, s.heap.objs.size] ++ O) h₀) := fz_mono (fun b hb => by
    replace hb := (List.mem_append).mp hb
    exact hb.elim (fun q => .inr (hW b q)) .inl) fun b o _ e => hkeep b o (k1 b o e)
  have liveW : Live ([s.heap.objs.size + 1 + 1, s.heap.objs.size + 1, s.heap.objs.size] ++ O) h₀ := fun b hb => by
    rcases List.mem_append.mp hb with hb | hb
    · rcases List.mem_cons.mp hb with rfl | hb
      · obtain ⟨o, _, _, e, _⟩ := hns; exact ⟨o, e⟩
      · rcases List.mem_cons.mp hb with rfl | hb
        · exact ⟨_, hkeep _ _ gx⟩
        · refine (List.mem_singleton.mp hb) ▸ ?_; exact ⟨_, hkeep _ _ gd⟩
    · obtain ⟨o, e⟩ := hA.live b hb; exact ⟨o, hkeep _ _ (k1 _ _ e)⟩
  replace hnd := (List.nodup_cons).mp hnd
  have F : FsOk base (callEnv fd (s.heap.objs.size + 1 + 1) fI) ⟨xs.zip ds, none, some ("self", (C, s.heap.objs.size + 1), [], [])⟩ O [s.heap.objs.size + 1 + 1, s.heap.objs.size + 1, s.heap.objs.size] h₀ := by
    refine ⟨List.mem_cons_self .., fun b hb hO => ?_, ⟨_, hns⟩, fun y c e => ?_, fun y z c e => ?_, fun y d e => ?_, (fun y ds e => by cases e), fun y C' ns' ds' e => ?_⟩
    · obtain ⟨o, e⟩ := hA.live b hO; exact nos (hW b hb) e
    · rw [show (callEnv fd (s.heap.objs.size + 1 + 1) fI).cells = fd.closure from rfl, hclo] at e; cases e
    · rw [show (callEnv fd (s.heap.objs.size + 1 + 1) fI).cells = fd.closure from rfl, hclo] at e; cases e
    · obtain ⟨v, e1, e2⟩ := zip_lookup hv hnd.2 e
      skip
      exact ⟨v, .inl ⟨hloc y (List.mem_cons_of_mem _ ((List.of_mem_zip (mem_of_lookup e)).1 : y ∈ xs)), _, hns, rev_tail e1⟩, e2.mono hz⟩
    · cases e
      refine ⟨s.heap.objs.size + 1, s.heap.objs.size, [], 0, .inl ⟨hloc _ (List.mem_cons_self ..), _, hns, rev_head fun p hp q => hnd.1 (q ▸ (List.of_mem_zip (a := p.1) (b := p.2) hp).1)⟩, ⟨by exact .tail _ (.head _), rfl⟩, by simp, ?_, ?_, hkeep _ _ gx, hkeep _ _ gd, rfl, .nil⟩
      · exact Nat.ne_of_lt (Nat.lt_succ_of_lt (Nat.lt_succ_self _))
      · exact Nat.ne_of_lt (Nat.lt_succ_self _)
  refine WP.mono (hb.run (B.deeper (callEnv fd (s.heap.objs.size + 1 + 1) fI)) O [s.heap.objs.size + 1 + 1, s.heap.objs.size + 1, s.heap.objs.size] _ ⟨hA1.room.deeper _, hA.bare, hA.base.trans hz, liveW⟩ F) fun f s' hp => ?_
  obtain ⟨rfl, W', n', c, l, F'⟩ := hp
  refine ⟨rfl, ⟨fun b o e => ?_, c.gens, c.bare, c.drawn, c.os⟩, ?_⟩
  · exact c.heap b o (fun hm => by exact nos (hW b hm) e) (hkeep b o (k1 b o e))
  · obtain ⟨a, d, es, m, g1, ⟨g2, rfl⟩, g3, g4, g5, g6, g7, g8, g9⟩ := F'.obj "self" (C, s.heap.objs.size + 1) ns fs rfl
    skip
    exact ⟨_, d, es, m, rfl, fz_some.mpr ⟨F'.apart _ g2, g6⟩, fz_some.mpr ⟨F'.apart _ g3, g7⟩, g8, g9.mono (fz_mono (fun b hb => .inl (List.mem_append_right _ hb)) fun b o _ e => e)⟩
end
end Mine
namespace Mine
open PySem PySem.W PySem.Calls PyProof.Rows PySem.Spec

section
variable {prog : Program} {w : World} {base : Heap} {k : Nat} {K : Frag}

theorem fn_cells {a : Addr} {oc : Value} {od : Option Addr} {fd : FuncData} {osl : Array (Option Value)} {body : List Stmt} {x : Str} {d₀ d : D} (H : Wd K base) (ho : K.lookup a = some ⟨oc, od, .func fd, osl⟩) (hbody : fd.body = .stmts body) (hcd : codeIn K fd.code fd.qualname = true) (hclo : fd.closure = [])
    (hbind : ∀ v : Value, bindArgs fd ⟨[v], []⟩ = pure [(x, v)]) (hloc : fd.scope.names.lookup x = some .local) (hco : fd.scope.isCoroutine = false) (hgen : fd.scope.isGenerator = false) (hk : fd.scope.kind = .function)
    (h : ∀ L, Bd prog w base k (callEnvC fd L a) (execs body (callEnvC fd L a)) ⟨[(x, d₀)], none, none⟩ (.ret d)) : Fn prog w base (k + 1) (fun vs => call (.ref a) vs) [d₀] d := .mk fun A O s vs hA hv => by
  obtain ⟨v, rfl, hw⟩ := RepL.inv1 hv
  refine wpAny_call (codeAny_call_cells (binds := [(x, v)]) hA.room.depth (hA.get _ _ (H.X _ _ ho)) rfl (H.lim.keeps hA.get) ((codeRec_of H.X hcd).keeps hA.get) hbody (hbind v) hclo (fun y hy => ?_) (fun s₁ ic => ?_) hco hgen hk)
  · rw [List.mem_singleton] at hy; subst hy; exact .inl hloc
  obtain ⟨⟨h₁, tk, rfl⟩, hns, hkeep, hfr⟩ := ic.toInCall
  generalize henv : callEnvC fd s.heap.objs.size a = env at *
  have hkx : env.kindOf x = some .local := by rw [← henv]; exact hloc
  have hL : env.locals = s.heap.objs.size := by rw [← henv]; rfl
  obtain ⟨W, hWdef⟩ : ∃ W : List Addr, W = env.locals :: env.cells.filterMap (fun p => env.cells.lookup p.1) := ⟨_, rfl⟩
  have hWc : ∀ b ∈ W, b = env.locals ∨ ∃ y, env.cells.lookup y = some b := fun b hb => by
    rw [hWdef] at hb
    rcases List.mem_cons.mp hb with hb | hb
    · exact .inl hb
    · obtain ⟨p, _, e⟩ := List.mem_filterMap.mp hb
      exact .inr ⟨p.1, e⟩
  have memW : ∀ y c, env.cells.lookup y = some c → c ∈ W := fun y c e => by
    rw [hWdef]
    exact List.mem_cons_of_mem _ (List.mem_filterMap.mpr ⟨(y, c), mem_of_lookup e, e⟩)
  have hLW : env.locals ∈ W := by rw [hWdef]; exact List.mem_cons_self
  have hW : ∀ b ∈ W, s.heap.get? b = none := fun b hb => by
    have hle : s.heap.objs.size ≤ b := by
      rcases hWc b hb with rfl | ⟨y, e⟩
      · rw [hL]; exact Nat.le_refl _
      · exact Nat.le_of_lt (Nat.lt_of_le_of_lt (Nat.le_of_eq hL.symm) (ic.above y b (mem_of_lookup e)))
    cases e : s.heap.get? b with
    | none => rfl
    | some o => exact absurd (Heap.lt_size e) (Nat.not_lt.mpr hle)
  have hz : Sub (fz O s.heap) (fz (W ++ O) h₁) := fz_mono (fun b hb => by
    rw [List.mem_append] at hb
    exact hb.elim (fun q => .inr (hW b q)) .inl) fun b o _ e => hkeep b o e
  have liveW : Live (W ++ O) h₁ := fun b hb => by
    rcases List.mem_append.mp hb with hb | hb
    · rcases hWc b hb with rfl | ⟨y, e⟩
      · obtain ⟨o, _, _, e, _⟩ := hns; exact ⟨o, e⟩
      · obtain ⟨o, e', _⟩ := ic.cell y b e; exact ⟨o, e'⟩
    · obtain ⟨o, e⟩ := hA.live b hb; exact ⟨o, hkeep _ _ e⟩
  have hm : bindL env.kindOf [(x, v)] (fun _ => none) x = some v := by
    unfold bindL bindL
    rw [if_pos hkx]; simp
  have F : FsOk base env ⟨[(x, d₀)], none, none⟩ O W h₁ := ⟨hLW, (fun b hb hbO => by
      obtain ⟨o, e⟩ := hA.live b hbO
      exact nos (hW b hb) e), ⟨_, hns⟩, fun y c e => ⟨memW y c e, _, ic.cell y c e⟩,
    fun y z c e e' => name_of_addr ic.apart (mem_of_lookup e) (mem_of_lookup e'), (fun y d e => by
      have : y = x ∧ d = d₀ := by
        simp only [List.lookup] at e
        split at e
        · rename_i h; exact ⟨by simpa using h, by cases e; rfl⟩
        · cases e
      obtain ⟨rfl, rfl⟩ := this
      exact ⟨v, .inl ⟨hkx, _, hns, hm⟩, hw.mono hz⟩), (fun x ds e => by cases e), (fun x C ns ds e => by cases e)⟩
  have hA' : At base k (A.deeper env) (W ++ O) { s with heap := h₁, toks := tk } := ⟨hA.room.deeper _, hA.bare, hA.base.trans hz, liveW⟩
  have hB : Bd prog w base k env (execs body env) ⟨[(x, d₀)], none, none⟩ (.ret d) := by rw [← henv]; exact h _
  refine WP.mono (hB.run _ O _ _ hA' F) fun f s' hp => ?_
  obtain ⟨v', rfl, c, r⟩ := hp
  exact ⟨⟨fun b o e => c.heap b o (fun hm => by exact nos (hW b hm) e) (hkeep b o e), c.gens, c.bare, c.drawn, c.os⟩, r⟩
end
end Mine
namespace Mine
open PySem PySem.W PySem.Calls PyProof.Rows PySem.Spec

noncomputable abbrev dn (n : Nat) : D := .int (n : Int)
noncomputable def tabD (n : Nat) (p : Nat → Nat) : List D := (List.range n).map fun v => dn (p v)
theorem tabD_len {n : Nat} {p : Nat → Nat} : (tabD n p).length = n := by simp [tabD]
theorem tabD_get {n : Nat} {p : Nat → Nat} {i : Nat} (h : i < n) : (tabD n p)[i]? = some (dn (p i)) := by
  unfold tabD; (refine (List.getElem?_map).trans ?_; rw [List.getElem?_range h]); rfl
noncomputable def upd (p : Nat → Nat) (i x : Nat) : Nat → Nat := fun j => if j = i then x else p j
theorem tabD_congr {n : Nat} {p q : Nat → Nat} (h : ∀ i, i < n → p i = q i) : tabD n p = tabD n q := by
  unfold tabD
  refine List.map_congr_left fun i hi => ?_
  rw [h i (List.mem_range.mp hi)]
theorem tabD_set {n : Nat} {p : Nat → Nat} {i x : Nat} : (tabD n p).set i (dn x) = tabD n (upd p i x) := by
  apply List.ext_getElem?
  intro j
  (refine (List.getElem?_set).trans ?_; rw [tabD_len])
  by_cases h : i = j
  · subst h
    refine (if_pos rfl).trans ?_
    by_cases hn : i < n
    · (refine (if_pos hn).trans ?_; rw [tabD_get hn]); simp [upd]
    · (refine (if_neg hn).trans ?_; rw [List.getElem?_eq_none (by rw [tabD_len]; (exact Nat.le_of_not_lt (by assumption)))])
  · refine (if_neg h).trans ?_
    by_cases hn : j < n
    · (refine (tabD_get hn).trans ?_; rw [tabD_get hn]); simp [upd, Ne.symm h]
    · (refine (List.getElem?_eq_none (by rw [tabD_len]; exact Nat.le_of_not_lt hn)).trans ?_; rw [List.getElem?_eq_none (by rw [tabD_len]; exact Nat.le_of_not_lt hn)])
theorem tabD_flat {n : Nat} {p : Nat → Nat} : (tabD n p).all Flat = true := by
  rw [List.all_eq_true]
  intro d hd
  unfold tabD at hd
  rw [List.mem_map] at hd
  obtain ⟨v, _, rfl⟩ := hd
  rfl
theorem tabD_rep (n x : Nat) : List.replicate n (dn x) = tabD n (fun _ => x) := by
  unfold tabD
  rw [List.map_const', List.length_range]
theorem toNat_cast (n : Nat) : ((n : Int)).toNat = n := Int.toNat_natCast n
theorem fdiv_nat (a b : Nat) : ((a : Int).fdiv (b : Int)) = ((a / b : Nat) : Int) := by
  refine (Int.fdiv_eq_ediv_of_nonneg _ (Int.natCast_nonneg b)).trans ?_; rfl
theorem fmod_nat (a b : Nat) : ((a : Int).fmod (b : Int)) = ((a % b : Nat) : Int) := by
  refine (Int.fmod_eq_emod_of_nonneg _ (Int.natCast_nonneg b)).trans ?_; rfl
theorem rangeD_nat (a b : Nat) : rangeD (a : Int) (b : Int) = (List.range (b - a)).map fun i => dn (a + i) := by
  skip
  refine (show ((b : Int) - (a : Int)).toNat = b - a by (simp)) ▸ ?_
  refine List.map_congr_left fun i _ => ?_
  rfl

section
variable {prog : Program} {w : World} {base : Heap} {k : Nat} {env : Env} {σ : Sg} {o : Out}

theorem op_item_tab {n i : Nat} {p : Nat → Nat} (h : i < n) (hn : n ≤ 1000000) : Op2 prog w base k getItem (.list (tabD n p)) (dn i) (dn (p i)) :=
  op_item_list (Int.natCast_nonneg i) (by exact q5 (c := 2 ^ 40) (Nat.lt_of_lt_of_le h hn) rfl) (by skip; exact tabD_get h)

theorem lp_famB {body orelse : List Stmt} {bss : List (List (Str × D))} {o : Out} (σf : Nat → Sg) (h : ∀ i bs, bss[i]? = some bs → offs bs (σf i) = true ∧ Bd prog w base k env (execs body env) ((σf i).bind bs) (.next (σf (i + 1))))
    (hn : Bd prog w base k env (execs orelse env) (σf bss.length) o) : Lp prog w base k env body orelse bss (σf 0) o := by
  have key := lp_ind (prog := prog) (w := w) (base := base) (k := k) (env := env) (body := body) (orelse := orelse) (ι := { i : Nat // i ≤ bss.length }) (fun i => σf i.1) (fun i => bss.drop i.1) (fun _ => o) (fun ⟨i, hi⟩ => by
    by_cases hlt : i < bss.length
    · exact .inr (.inl ⟨bss[i], ⟨i + 1, hlt⟩, List.drop_eq_getElem_cons hlt, rfl, (h i _ (List.getElem?_eq_getElem hlt)).1, (h i _ (List.getElem?_eq_getElem hlt)).2⟩)
    · have : i = bss.length := by (exact Nat.le_antisymm (by assumption) (Nat.le_of_not_lt (by assumption)))
      subst this
      exact .inl ⟨List.drop_length, hn⟩) ⟨0, Nat.zero_le _⟩
  exact key
theorem bd_forN {x : Str} {px pos : Pos} {iter : Expr} {body : List Stmt} {a b : Nat} (σf : Nat → Sg) (h : Ev prog w base k env σ.ρ iter (.range (a : Int) (b : Int))) (hs : Storable env x) (ha : a ≤ 2 ^ 40) (hb : b ≤ 2 ^ 40) (h0 : Le σ (σf 0))
    (ht : ∀ i, i < b - a → offs [(x, dn (a + i))] (σf i) = true ∧ Bd prog w base k env (execs body env) ⟨(x, dn (a + i)) :: (σf i).ρ, (σf i).lst, (σf i).obj⟩ (.next (σf (i + 1))))
    (hk : env.scope.kind = .function := by rfl) (hf : ∀ x, foldedSetIterable iter env x = pure x := by intro _; rfl) : Bd prog w base k env (exec (.For (.Name x px) iter body [] pos) env) σ (.next (σf (b - a))) := by
  have key : Lp prog w base k env body [] ((rangeD (a : Int) (b : Int)).map fun d => [(x, d)]) (σf 0) (.next (σf (b - a))) := by
    rw [rangeD_nat]
    have hl : (((List.range (b - a)).map fun i => dn (a + i)).map fun d => [(x, d)]).length = b - a := by simp
    refine lp_famB σf (fun i bs e => ?_) (by refine (hl).symm ▸ ?_; exact bd_nil)
    have hi : i < b - a := by refine ( hl) ▸ ?_; exact (List.getElem?_eq_some_iff.mp e).1
    simp only [List.getElem?_map, List.getElem?_map, List.getElem?_range hi] at e
    cases e
    exact ht i hi
  have key2 : ∀ A O W s, At base k A (W ++ O) s → FsOk base env σ O W s.heap → WP prog w A (exec (.For (.Name x px) iter body [] pos) env) (Post base env O W s (.next (σf (b - a)))) s := by
    intro A O W s hA F
    refine wpAny_For (WP.mono (h.run A (W ++ O) s hA F.envOk) fun v s₁ ⟨st, r⟩ => ?_) hf
    refine WP.mono (for_core (o := .next (σf (b - a))) (hA.step st) ((F.step st).le h0) r (iter_range (by (exact Int.natCast_nonneg _)) (by (exact Mine.q8 (by assumption) (by rfl))) (by (exact Int.natCast_nonneg _)) (by (exact Mine.q8 (by assumption) (by rfl)))) hs hk key (R := fun r s' => match r with | .ok f => Post base env O W s (.next (σf (b - a))) f s' | .error e => cameBackBy (model prog w) A env (fun _ _ => False) e s') ?_) fun _ _ q => q
    intro f s' hp
    exact hp.step st
  exact ⟨key2⟩
end
theorem picks_some {α : Type} (xs : List α) (f : Nat → Nat) (m : Nat) (ys : List α) (hl : ys.length = m) (h : ∀ j, j < m → ∃ y, xs[f j]? = some y ∧ ys[j]? = some y) : ((List.range m).map f).filterMap (xs[·]?) = ys := by
  have key : ∀ m (ys : List α), ys.length = m → (∀ j, j < m → ∃ y, xs[f j]? = some y ∧ ys[j]? = some y) → ((List.range m).map f).filterMap (xs[·]?) = ys := by
    intro m
    induction m with
    | zero => intro ys hl _; simp only [List.length_eq_zero_iff.mp hl]; rfl
    | succ m ih =>
      intro ys hl h
      have e := ih (ys.take m) (by simp [hl]) (fun j hj => by
        obtain ⟨y, h1, h2⟩ := h j (by (exact Nat.lt_succ_of_lt (by assumption)))
        exact ⟨y, h1, by skip; simp [hj, h2]⟩)
      obtain ⟨y, h1, h2⟩ := h m (by (exact Nat.lt_succ_self _))
      simp only [List.range_succ, List.map_append, List.filterMap_append, e]
      have hm : m < ys.length := by (simp [*])
      have e2 : ys = ys.take m ++ [y] := by
        have := List.take_succ_eq_append_getElem hm
        replace h2 := (List.getElem?_eq_getElem hm) ▸ h2
        cases h2
        rw [← this, List.take_of_length_le (by (simp [*]))]
      rw [e2]
      simp [h1, hl]
  exact key m ys hl h
theorem pick_by {α : Type} {xs ys : List α} {lo hi st : Option Int} {f : Nat → Nat} {m : Nat} (h1 : sliceRange (sliceBounds lo hi st xs.length).1 (sliceBounds lo hi st xs.length).2.1 (sliceBounds lo hi st xs.length).2.2 = (List.range m).map f) (hl : ys.length = m)
    (h : ∀ j, j < m → ∃ y, xs[f j]? = some y ∧ ys[j]? = some y) : pickL xs lo hi st = ys := by
  skip
  refine (congrArg _ (h1)).trans ?_; exact picks_some xs f m ys hl h
theorem pick_takeD {α : Type} (xs : List α) (n : Nat) (h : sliceRange (sliceBounds none (some (n : Int)) none xs.length).1 (sliceBounds none (some (n : Int)) none xs.length).2.1 (sliceBounds none (some (n : Int)) none xs.length).2.2 = (List.range (min n xs.length)).map fun j => j) : pickL xs none (some (n : Int)) none = xs.take n :=
  pick_by h List.length_take fun j hj => ⟨xs[j]'(Nat.lt_of_lt_of_le hj (Nat.min_le_right _ _)), List.getElem?_eq_getElem _, by (refine (List.getElem?_take).trans ?_; rw [if_pos (Nat.lt_of_lt_of_le hj (Nat.min_le_left _ _)), List.getElem?_eq_getElem])⟩
theorem pick_revD {α : Type} (xs : List α) (h : sliceRange (sliceBounds none none (some (-1)) xs.length).1 (sliceBounds none none (some (-1)) xs.length).2.1 (sliceBounds none none (some (-1)) xs.length).2.2 = (List.range xs.length).map fun j => xs.length - 1 - j) : pickL xs none none (some (-1)) = xs.reverse :=
  pick_by h List.length_reverse fun j hj => ⟨xs[xs.length - 1 - j]'(Nat.lt_of_le_of_lt (Nat.sub_le _ _) (Nat.sub_lt (Nat.zero_lt_of_lt hj) Nat.one_pos)), List.getElem?_eq_getElem _, by (refine (List.getElem?_reverse hj).trans ?_; rw [List.getElem?_eq_getElem])⟩
theorem idx60 : ∀ n, n ≤ 63 → sliceRange (sliceBounds none (some ((60 : Nat) : Int)) none n).1 (sliceBounds none (some ((60 : Nat) : Int)) none n).2.1 (sliceBounds none (some ((60 : Nat) : Int)) none n).2.2 = (List.range (min 60 n)).map fun j => j := by decide +kernel
theorem idx3 : ∀ n, n ≤ 120 → sliceRange (sliceBounds none (some ((3 : Nat) : Int)) none n).1 (sliceBounds none (some ((3 : Nat) : Int)) none n).2.1 (sliceBounds none (some ((3 : Nat) : Int)) none n).2.2 = (List.range (min 3 n)).map fun j => j := by decide +kernel
theorem idxR : ∀ n, n ≤ 4 → sliceRange (sliceBounds none none (some (-1)) n).1 (sliceBounds none none (some (-1)) n).2.1 (sliceBounds none none (some (-1)) n).2.2 = (List.range n).map fun j => n - 1 - j := by decide +kernel
end Mine
namespace Mine
open PySem PySem.W PySem.Calls PyProof.Rows PySem.Spec

noncomputable def cl (x : Str) : List Nat := x.cps.toList
noncomputable def ofC (l : List Nat) : Str := ⟨l.toArray⟩
theorem cl_ofC (l : List Nat) : cl (ofC l) = l := rfl
theorem str_ext {x y : Str} (h : cl x = cl y) : x = y := by
  cases x; cases y
  congr 1
  exact Array.toList_inj.mp h
theorem ofC_cl (x : Str) : ofC (cl x) = x := str_ext rfl
theorem ofC_inj {l m : List Nat} (h : ofC l = ofC m) : l = m := by have := congrArg cl h; exact this
theorem cl_len (x : Str) : x.length = (cl x).length := by show x.cps.size = _; exact Array.length_toList.symm
theorem cl_app (x y : Str) : cl (x ++ y) = cl x ++ cl y := by
  show (x.cps ++ y.cps).toList = _
  exact Array.toList_append
theorem fold_app : ∀ (ls : List (Array Nat)) (acc : Array Nat), (ls.foldl (· ++ ·) acc).toList = acc.toList ++ (ls.map (·.toList)).flatten := by
  intro vq
  induction vq with
  | nil =>
    intro acc
    exact (List.append_nil _).symm
  | cons c ls ihq =>
    intro acc
    simp only [List.foldl_cons, ihq, Array.toList_append, List.map_cons, List.flatten_cons, List.append_assoc]
theorem cl_mul (x : Str) (n : Nat) : cl (Txt.mul x (n : Int)) = (List.replicate n (cl x)).flatten := by
  skip
  by_cases h : (n : Int) < 1
  · have : n = 0 := by (lia)
    subst this; rfl
  · refine (congrArg _ (if_neg h)).trans ?_
    split
    · rename_i h2
      simp only [Bool.or_eq_true] at h2
      rcases h2 with h2 | h2
      · have : n = 1 := by have := beq_iff_eq.mp h2; (lia)
        subst this; exact (List.append_nil _).symm
      · have h3 : x.length = 0 := beq_iff_eq.mp h2
        rw [cl_len] at h3
        have := List.length_eq_zero_iff.mp h3
        refine (this) ▸ ?_
        simp
    · unfold cl
      simp only [fold_app, List.map_replicate]
      rfl
theorem cl_join : ∀ (xs : List Str), cl (Txt.join "" xs) = (xs.map cl).flatten := by
  intro vq
  induction vq with
  | nil =>
    exact rfl
  | cons x xs ihq =>
    have key : ∀ (ys : List Str) (acc : Array Nat), (ys.foldl (fun acc p => acc ++ (Str.ofString "").cps ++ p.cps) acc).toList = acc.toList ++ (ys.map cl).flatten := by
      intro ys
      induction ys with
      | nil => intro acc; exact (List.append_nil _).symm
      | cons y ys ih =>
        intro acc
        simp only [List.foldl_cons, ih, Array.toList_append, Array.toList_append, List.map_cons, List.flatten_cons]
        have : (Str.ofString "").cps.toList = [] := by decide +kernel
        simp only [this, List.append_nil, List.append_assoc]; rfl
    show (xs.foldl (fun acc p => acc ++ (Str.ofString "").cps ++ p.cps) x.cps).toList = _
    simp only [key, List.map_cons, List.flatten_cons]; rfl
theorem mulOk_nat {x : Str} {n : Nat} (hx : x.length ≤ 8) (hn : n ≤ 1000) : MulOk x (n : Int) := mulOk_of 8 1000 hx (by (exact Mine.q8 (by assumption) (by rfl))) (by (exact Int.natCast_nonneg _)) (Nat.le_of_ble_eq_true rfl) (Nat.le_of_ble_eq_true rfl)

section
variable {prog : Program} {w : World} {base : Heap} {k : Nat}
theorem op_notIn1 {x : Str} {c : Nat} (h : c ∉ cl x) : Op2 prog w base k (compareOp .NotIn) (.str ⟨#[c]⟩) (.str x) (.bool true) := by
  have e := StrLaws.found_one x c
  simp only [decide_eq_false (show ¬ c ∈ x.cps.toList from h), Bool.not_eq_false'] at e
  have := op_notInStr (prog := prog) (w := w) (base := base) (k := k) (x := x) (y := ⟨#[c]⟩)
  simp only [e] at this
  exact this
theorem op_mulN {x : Str} {n : Nat} (hx : x.length ≤ 8) (hn : n ≤ 1000) : Op2 prog w base k (binaryOp .Mult) (.str x) (dn n) (.str (ofC (List.replicate n (cl x)).flatten)) := by
  rw [← cl_mul]
  exact op_mulStr (mulOk_nat hx hn)
theorem op_addC {l m : List Nat} (h : l.length + m.length ≤ 16777216) : Op2 prog w base k (binaryOp .Add) (.str (ofC l)) (.str (ofC m)) (.str (ofC (l ++ m))) := by
  skip
  simp only [(str_ext (by simp only [cl_app]; rfl) : ofC (l ++ m) = ofC l ++ ofC m)]
  exact op_addStr (by skip; (assumption))
theorem fn_joinC {ls : List (List Nat)} (h : ls.flatten.length ≤ 16000000) : Fn prog w base k (fun vs => call (.builtin "str.join") vs) [.str "", .list (ls.map fun l => D.str (ofC l))] (.str (ofC ls.flatten)) := by
  skip
  have e2 : ofC ls.flatten = Txt.join "" (ls.map ofC) := str_ext (by
    simp only [cl_join, List.map_map, cl_ofC]
    congr 1
    exact (List.map_id' ls).symm)
  simp only [(by simp only [List.map_map]; rfl : (ls.map fun l => D.str (ofC l)) = (ls.map ofC).map D.str), e2]
  refine fn_join (joinOk_of ?_)
  skip
  simp only [(by decide +kernel : (Str.ofString "").length = 0), Nat.mul_zero, Nat.add_zero, List.map_map]
  have : (ls.map (Str.length ∘ ofC)).sum = ls.flatten.length := by
    refine (List.length_flatten) ▸ ?_
    congr 1
  rw [this]; (exact Mine.q3 (by assumption) (by rfl))
end
end Mine
namespace Mine
open PySem PySem.W PySem.Calls PyProof.Rows PySem.Spec

noncomputable abbrev cEnv (scope : Scope) (own : Option Str) (cs : List (Str × Addr)) (C : Addr) (env : Env) : Env := compEnvC scope (ownCells own (C + 1) cs) C env
section
variable {prog : Program} {w : World} {base : Heap} {k : Nat} {env : Env} {ρ ρc : List (Str × D)}

theorem outs_mapA {α : Type} {tg : List Str} {a : Addr} {elt : Expr} {x : Str} {ifs : List Expr} (g : α → D) (p : α → Bool) (f : α → D) : ∀ (ls : List α),
    (∀ d ∈ ls, Tsts prog w base k env ((x, g d) :: ρc) ifs (p d)) → (∀ d ∈ ls, p d = true → Ev prog w base k env ((x, g d) :: ρc) elt (f d)) →
    Outs (Turn prog w base k env tg a (fun z => (do
            let v ← eval elt env
            let _ ← call (.builtin "list.append") [.ref a, v]
            pure ()) >>= fun _ => z) ρc x ifs) (ls.map g) ((ls.filter p).map f) := by
  intro vq
  induction vq with
  | nil =>
    intro _ _
    exact .nil
  | cons d r ihq =>
    intro h1 h2
    have ih' := ihq (fun d hd => h1 d (List.mem_cons_of_mem _ hd)) fun d hd => h2 d (List.mem_cons_of_mem _ hd)
    refine (List.filter_cons) ▸ ?_
    cases hp : p d with
    | false =>
      skip
      exact .cons (o := []) ⟨false, hp ▸ h1 d (List.mem_cons_self ..), (fun q => by cases q), fun _ => rfl⟩ ih'
    | true =>
      skip
      exact .cons (o := [f d]) ⟨true, hp ▸ h1 d (List.mem_cons_self ..), (fun _ => emit_elt (h2 d (List.mem_cons_self ..) hp)), fun q => by cases q⟩ ih'
theorem comp_mapA {α : Type} {elt iter : Expr} {x : Str} {px : Pos} {ifs : List Expr} {scope : Scope} {pos : Pos} {cs : List (Str × Addr)} {di : D} (own : Option Str) (ls : List α) (g : α → D) (p : α → Bool) (f : α → D)
    (hi : Ev prog w base k env ρ iter di) (it : Iter prog w base k di (ls.map g)) (hclos : closureFor scope env = pure cs) (hent : Entries env cs) (hown : OwnIs own scope)
    (hcaught : ∀ C, Caught env (cEnv scope own cs C env) ρ ρc) (hx : ∀ C, (cEnv scope own cs C env).kindOf x = some .local ∨ ((cEnv scope own cs C env).kindOf x = some .cell ∧ own = some x))
    (hlen : ((ls.filter p).map f).length ≤ sizeLine)
    (h1 : ∀ C, ∀ d ∈ ls, Tsts prog w base k (cEnv scope own cs C env) ((x, g d) :: ρc) ifs (p d)) (h2 : ∀ C, ∀ d ∈ ls, p d = true → Ev prog w base k (cEnv scope own cs C env) ((x, g d) :: ρc) elt (f d))
    (hρ : ρc.lookup x = none := by rfl) (hkind : scope.kind = .function := by rfl) (hnames : ∀ x ∈ scope.names, x.2 = .local → scope.names.lookup x.1 = some .local := by decide)
    (hs : ∀ x, foldedSetIterable iter env x = pure x := by intro _; rfl) : CompOk prog w base k env ρ elt [⟨.Name x px, iter, ifs, 0⟩] scope pos ((ls.filter p).map f) :=
  comp_ok (t := fun a env z => (do
            let v ← eval elt env
            let _ ← call (.builtin "list.append") [.ref a, v]
            pure ()) >>= fun _ => z) (tg := [x]) hi it hclos hent hown hkind hnames hs (List.mem_singleton.mpr rfl) hρ hlen (fun C y hy => by replace hy := (List.mem_singleton).mp hy; subst hy; exact hx C) hcaught
    (fun C a => turn_last rfl rfl) fun C a => outs_mapA g p f ls (h1 C) (h2 C)
theorem comp_map0 {α : Type} {elt iter : Expr} {x : Str} {px : Pos} {scope : Scope} {pos : Pos} {cs : List (Str × Addr)} {di : D} (own : Option Str) (ls : List α) (g : α → D) (f : α → D)
    (hi : Ev prog w base k env ρ iter di) (it : Iter prog w base k di (ls.map g)) (hclos : closureFor scope env = pure cs) (hent : Entries env cs) (hown : OwnIs own scope)
    (hcaught : ∀ C, Caught env (cEnv scope own cs C env) ρ ρc) (hx : ∀ C, (cEnv scope own cs C env).kindOf x = some .local ∨ ((cEnv scope own cs C env).kindOf x = some .cell ∧ own = some x))
    (hlen : ls.length ≤ sizeLine) (h2 : ∀ C, ∀ d ∈ ls, Ev prog w base k (cEnv scope own cs C env) ((x, g d) :: ρc) elt (f d))
    (hρ : ρc.lookup x = none := by rfl) (hkind : scope.kind = .function := by rfl) (hnames : ∀ x ∈ scope.names, x.2 = .local → scope.names.lookup x.1 = some .local := by decide)
    (hs : ∀ x, foldedSetIterable iter env x = pure x := by intro _; rfl) : CompOk prog w base k env ρ elt [⟨.Name x px, iter, [], 0⟩] scope pos (ls.map f) := by
  have e : ls.filter (fun _ => true) = ls := List.filter_eq_self.mpr fun _ _ => rfl
  have := comp_mapA (prog := prog) (w := w) (base := base) (k := k) (px := px) (ifs := []) (scope := scope) (pos := pos) own ls g (fun _ => true) f hi it hclos hent hown hcaught hx (by rw [e, List.length_map]; exact hlen) (fun C d _ => tsts_nil) (fun C d hd _ => h2 C d hd) hρ hkind hnames hs
  simp only [e] at this
  exact this

theorem comp_nest {α β : Type} {elt iter iter' : Expr} {x x' : Str} {px px' : Pos} {ifs ifs' : List Expr} {scope : Scope} {pos : Pos} {cs : List (Str × Addr)} {di : D} (di' : α → D) (own : Option Str) (ls : List α) (g : α → D) (p : α → Bool) (ms : α → List β) (g' : β → D) (p' : α → β → Bool) (f : α → β → D)
    (hi : Ev prog w base k env ρ iter di) (it : Iter prog w base k di (ls.map g)) (hclos : closureFor scope env = pure cs) (hent : Entries env cs) (hown : OwnIs own scope)
    (hcaught : ∀ C, Caught env (cEnv scope own cs C env) ρ ρc) (hx : ∀ C, ∀ y ∈ [x, x'], (cEnv scope own cs C env).kindOf y = some .local ∨ ((cEnv scope own cs C env).kindOf y = some .cell ∧ own = some y))
    (hlen : (((ls.filter p).map fun a => ((ms a).filter (p' a)).map (f a)).flatten).length ≤ sizeLine)
    (h1 : ∀ C, ∀ d ∈ ls, Tsts prog w base k (cEnv scope own cs C env) ((x, g d) :: ρc) ifs (p d))
    (hi' : ∀ C, ∀ d ∈ ls, p d = true → Ev prog w base k (cEnv scope own cs C env) ((x, g d) :: ρc) iter' (di' d)) (it' : ∀ d ∈ ls, Iter prog w base k (di' d) ((ms d).map g'))
    (h1' : ∀ C, ∀ d ∈ ls, p d = true → ∀ e ∈ ms d, Tsts prog w base k (cEnv scope own cs C env) ((x', g' e) :: (x, g d) :: ρc) ifs' (p' d e))
    (h2 : ∀ C, ∀ d ∈ ls, p d = true → ∀ e ∈ ms d, p' d e = true → Ev prog w base k (cEnv scope own cs C env) ((x', g' e) :: (x, g d) :: ρc) elt (f d e))
    (hρ : ρc.lookup x = none := by rfl) (hρ' : ρc.lookup x' = none := by rfl) (hne : (x' == x) = false := by rfl) (hkind : scope.kind = .function := by rfl) (hnames : ∀ x ∈ scope.names, x.2 = .local → scope.names.lookup x.1 = some .local := by decide)
    (hs : ∀ x, foldedSetIterable iter env x = pure x := by intro _; rfl) (hs' : ∀ C x, foldedSetIterable iter' (cEnv scope own cs C env) x = pure x := by intro _ _; rfl) :
    CompOk prog w base k env ρ elt [⟨.Name x px, iter, ifs, 0⟩, ⟨.Name x' px', iter', ifs', 0⟩] scope pos (((ls.filter p).map fun a => ((ms a).filter (p' a)).map (f a)).flatten) :=
  comp_ok (t := fun a env z => do
          let y ← eval iter' env
          standAt iter'.pos
          let y ← foldedSetIterable iter' env y
          let _ ← runOwn (.compStart (.ListComp elt [⟨.Name x px, iter, ifs, 0⟩, ⟨.Name x' px', iter', ifs', 0⟩] scope pos) (0 + 1) (← holding [y] (pyIter y)) (.ref a) env) env
          z) (tg := [x, x']) hi it hclos hent hown hkind hnames hs (List.mem_cons_self ..) hρ hlen hx hcaught
    (fun C a => turn_more rfl rfl) fun C a => by
      have key : ∀ ls' : List α, (∀ d ∈ ls', d ∈ ls) → Outs (Turn prog w base k (cEnv scope own cs C env) [x, x'] a (fun z => do
          let y ← eval iter' (cEnv scope own cs C env)
          standAt iter'.pos
          let y ← foldedSetIterable iter' (cEnv scope own cs C env) y
          let _ ← runOwn (.compStart (.ListComp elt [⟨.Name x px, iter, ifs, 0⟩, ⟨.Name x' px', iter', ifs', 0⟩] scope pos) (0 + 1) (← holding [y] (pyIter y)) (.ref a) (cEnv scope own cs C env)) (cEnv scope own cs C env)
          z) ρc x ifs) (ls'.map g) (((ls'.filter p).map fun a => ((ms a).filter (p' a)).map (f a)).flatten) := by
        intro ls'
        induction ls' with
        | nil => intro _; exact .nil
        | cons d r ih =>
          intro hm
          have ih' := ih fun d hd => hm d (List.mem_cons_of_mem _ hd)
          have hd := hm d (List.mem_cons_self ..)
          rw [List.filter_cons, List.map_cons]
          cases hp : p d with
          | false =>
            rw [if_neg Bool.false_ne_true]
            exact .cons (o := []) ⟨false, hp ▸ h1 C d hd, (fun q => by cases q), fun _ => rfl⟩ ih'
          | true =>
            rw [if_pos rfl, List.map_cons, List.flatten_cons]
            refine .cons ⟨true, hp ▸ h1 C d hd, (fun _ => emit_more (turn_last rfl rfl) hkind (by simp) ?_ (hi' C d hd hp) (it' d hd) (outs_mapA g' (p' d) (f d) (ms d) (h1' C d hd hp) (h2 C d hd hp)) (hs' C)), fun q => by cases q⟩ ih'
            rw [List.lookup_cons, hne]; exact hρ'
      exact key ls fun _ h => h

theorem fn_sumN {l : List Nat} : Fn prog w base (k + 1) (fun vs => call (.builtin "sum") vs) [.list (l.map dn)] (dn l.sum) := by
  have e1 : l.map dn = (l.map (Int.ofNat)).map D.int := by rw [List.map_map]; rfl
  have e2 : ((l.sum : Nat) : Int) = (l.map Int.ofNat).sum := by
    clear e1
    induction l with
    | nil => rfl
    | cons a l ih =>
      rw [List.sum_cons, List.map_cons, List.sum_cons, ← ih, Int.natCast_add]; rfl
  rw [e1, dn, e2]
  exact fn_sum iter_list
theorem fn_len_bytes {b : Array UInt8} (hl : b.size ≤ 1099511627776) : Fn prog w base k (fun vs => call (.builtin "len") vs) [.bytes b] (dn b.size) := .mk fun A O s vs hA hr => by
  obtain ⟨v, rfl, hv⟩ := RepL.inv1 hr
  obtain ⟨t, rfl⟩ := rep_bytes hv
  exact W.len_bytes hl ⟨⟨fun _ _ e => e, fun _ _ e => e, id, rfl, rfl⟩, of_int⟩
end

theorem ownNone {scope : Scope} (h : scope.names.all (fun y => !(y.2 == NameKind.cell)) = true) : OwnIs none scope := fun y hy => by
  have := List.all_eq_true.mp h y hy
  simpa using this
theorem len2 {α : Type} : ∀ {vs : List α}, vs.length = 2 → ∃ a b, vs = [a, b]
  | [a, b], _ => ⟨a, b, rfl⟩
noncomputable def cls (t r : Nat) : List Nat := (List.range 16).filter fun v => v % t == r
theorem cls_idx : ∀ t : Nat, t < 16 → ∀ r : Nat, r < t → sliceRange (sliceBounds (some (r : Int)) none (some (t : Int)) 16).1 (sliceBounds (some (r : Int)) none (some (t : Int)) 16).2.1 (sliceBounds (some (r : Int)) none (some (t : Int)) 16).2.2 = cls t r := by decide +kernel
theorem pick_tab {n : Nat} {p : Nat → Nat} : ∀ (l : List Nat), (∀ i ∈ l, i < n) → l.filterMap ((tabD n p)[·]?) = l.map fun i => dn (p i)
  | [], _ => rfl
  | i :: l, h => by
    rw [List.map_cons, ← pick_tab l fun j hj => h j (List.mem_cons_of_mem _ hj)]
    have := tabD_get (p := p) (h i (List.mem_cons_self ..))
    simp only [List.filterMap_cons, this]
theorem pick_cls {p : Nat → Nat} {t r : Nat} (ht : t < 16) (hr : r < t) : pickL (tabD 16 p) (some (r : Int)) none (some (t : Int)) = (cls t r).map fun i => dn (p i) := by
  unfold pickL
  rw [tabD_len, cls_idx t ht r hr]
  refine pick_tab _ fun i hi => ?_
  unfold cls at hi
  rw [List.mem_filter, List.mem_range] at hi
  exact hi.1

theorem Bd.brk_le {prog : Program} {w : World} {base : Heap} {k : Nat} {env : Env} {σ σ' σ₁ : Sg} {t : Sem Flow} (h : Bd prog w base k env t σ (.brk σ')) (l : Le σ' σ₁) : Bd prog w base k env t σ (.brk σ₁) := ⟨fun A O W s hA F => WP.mono (h.run A O W s hA F) fun f s' h' => ⟨h'.1, h'.2.le l⟩⟩
theorem natsD_flat (l : List Nat) : (l.map dn).all Flat = true := by
  rw [List.all_eq_true]
  intro d hd
  rw [List.mem_map] at hd
  obtain ⟨v, _, rfl⟩ := hd
  rfl

-- leading white space
structure WS where
  cnt : List Nat
  b : Nat
  n : Nat
  nt : Nat
noncomputable def bump (l : List Nat) (b : Nat) : List Nat :=
  if l.length ≤ b then (l ++ List.replicate (b - l.length + 1) 0).set b ((l ++ List.replicate (b - l.length + 1) 0).getD b 0 + 1) else l.set b (l.getD b 0 + 1)
theorem bump_len (l : List Nat) (b : Nat) : (bump l b).length = max l.length (b + 1) := by
  unfold bump
  split
  · simp only [List.length_set, List.length_append, List.length_replicate]; (exact (congrArg Nat.succ (Nat.add_sub_of_le (by assumption))).trans (Nat.max_eq_right (Nat.le_succ_of_le (by assumption))).symm)
  · refine (List.length_set).trans ?_; (exact (Nat.max_eq_left (Nat.lt_of_not_le (by assumption))).symm)
theorem bump_get (l : List Nat) (b j : Nat) : (bump l b).getD j 0 = l.getD j 0 + (if j = b then 1 else 0) := by
  have key : ∀ l' : List Nat, b < l'.length → (l'.set b (l'.getD b 0 + 1)).getD j 0 = l'.getD j 0 + (if j = b then 1 else 0) := fun l' h => by
    skip
    by_cases q : b = j
    · subst q; simp [h]
    · simp [q, Ne.symm q]
  unfold bump
  split
  · rename_i h
    refine (key _ (by simp only [List.length_append, List.length_replicate]; (exact Nat.lt_succ_of_le (Nat.le_of_eq (Nat.add_sub_of_le h).symm)))).trans ?_
    congr 1
    simp only [List.getD_eq_getElem?_getD, List.getElem?_append]
    split
    · rfl
    · rename_i h2
      simp only [List.getElem?_replicate, List.getElem?_eq_none (by (exact Nat.le_of_not_lt (by assumption)) : l.length ≤ j)]
      split <;> rfl
  · exact key l (by (exact Nat.lt_of_not_le (by assumption)))
noncomputable def wsGo : List Nat → WS → WS
  | [], s => s
  | c :: cs, s => if c = 32 then wsGo cs ⟨s.cnt, s.b + 1, s.n + 1, s.nt⟩ else if c = 9 then wsGo cs ⟨bump s.cnt s.b, 0, s.n + 1, s.nt + 1⟩ else s
theorem wsGo_c (c : Nat) (cs : List Nat) (s : WS) : wsGo (c :: cs) s = if c = 32 then wsGo cs ⟨s.cnt, s.b + 1, s.n + 1, s.nt⟩ else if c = 9 then wsGo cs ⟨bump s.cnt s.b, 0, s.n + 1, s.nt + 1⟩ else s := rfl
noncomputable def wsD (C : Addr) (x : Str) (s : WS) : D := .inst C ["raw", "n", "nt", "norm", "is_simple"] [.str x, dn s.n, dn s.nt, .tup [.tup (s.cnt.map dn), dn s.b], .bool (decide (s.cnt.length ≤ 1))]
end Mine
namespace Mine
open PySem PySem.W PySem.Calls PyProof.Rows PySem.Spec

-- ints, compared by value
noncomputable def pI (l : List Nat) : List PyData := l.map fun (n : Nat) => PyData.int (n : Int)
theorem pI_lay : ∀ l : List Nat, PyData.canLayAll0 (pI l) = true ∧ PyData.depthAll (pI l) = 0 := by
  intro vq
  induction vq with
  | nil =>
    exact ⟨rfl, rfl⟩
  | cons n l ihq =>
    obtain ⟨a, b⟩ := ihq
    refine ⟨?_, ?_⟩
    · skip
      refine (a).trans ?_; rfl
    · skip
      refine (b).trans ?_; rfl
theorem pI_reads {g : View} {h : Heap} : ∀ {l : List Nat} {vs : List Value}, RepL g (l.map dn) vs → ∃ as, ReadsAll h vs (pI l) as := by
  intro vq
  induction vq with
  | nil =>
    intro vs r
    skip; subst r; exact ⟨_, .nil⟩
  | cons n l ihq =>
    intro vs r
    skip
    obtain ⟨v, r', rfl, h1, h2⟩ := r
    obtain ⟨t, rfl⟩ := rep_int h1
    obtain ⟨as, ha⟩ := ihq h2
    exact ⟨_, .cons (.int _ t) ha⟩
theorem pI_eqv : ∀ l m : List Nat, PyData.eqvAll (pI l) (pI m) = decide (l = m)
  | [], [] => rfl
  | [], _ :: _ => rfl
  | _ :: _, [] => rfl
  | a :: l, b :: m => by
    show ((a : Int) == (b : Int) && PyData.eqvAll (pI l) (pI m)) = _
    rw [pI_eqv l m, beq_dec, ← Bool.decide_and]
    congr 1
    rw [List.cons.injEq, Int.ofNat_inj]
theorem cmp_ints (l : List Nat) : Cmp (.list (l.map dn)) (.list (pI l)) where
  reads := fun g h v hg r => by
    obtain ⟨a, vs, n, rfl, ha, hL⟩ := rep_list r
    obtain ⟨as, hr⟩ := pI_reads (h := h) hL
    exact ⟨_, .list (hg _ _ ha) rfl rfl hr⟩
  shaped := by
    obtain ⟨a, b⟩ := pI_lay l
    show (PyData.canLayAll0 (pI l) && decide (PyData.depthAll (pI l) + 1 ≤ 64)) = true
    rw [a, b]; rfl
theorem cmp_norm (l : List Nat) (m : Nat) : Cmp (.tup [.tup (l.map dn), dn m]) (.tuple [.tuple (pI l), .int (m : Int)]) where
  reads := fun g h v hg r => by
    obtain ⟨a, vs, n, rfl, ha, hL⟩ := rep_tup r
    obtain ⟨u, u', rfl, hu, hu'⟩ := RepL.inv2 hL
    obtain ⟨a', vs', n', rfl, ha', hL'⟩ := rep_tup hu
    obtain ⟨as, hr⟩ := pI_reads (h := h) hL'
    obtain ⟨t, rfl⟩ := rep_int hu'
    exact ⟨_, .tuple (hg _ _ ha) rfl rfl (.cons (.tuple (hg _ _ ha') rfl rfl hr) (.cons (.int _ t) .nil))⟩
  shaped := by
    obtain ⟨a, b⟩ := pI_lay l
    show ((PyData.canLayAll0 (pI l) && true) && decide (max (PyData.depthAll (pI l) + 1) 0 + 1 ≤ 64)) = true
    rw [a, b]; rfl
noncomputable def pT {α : Type} (f1 f2 f3 : α → Nat) (L : List α) : List PyData := L.map fun j => .tuple [.int (f1 j : Int), .int (f2 j : Int), .int (f3 j : Int)]
theorem pT_lay {α : Type} (f1 f2 f3 : α → Nat) : ∀ L : List α, PyData.canLayAll0 (pT f1 f2 f3 L) = true ∧ PyData.depthAll (pT f1 f2 f3 L) ≤ 1 := by
  intro vq
  induction vq with
  | nil =>
    exact ⟨rfl, Nat.zero_le _⟩
  | cons n l ihq =>
    obtain ⟨a, b⟩ := ihq
    refine ⟨?_, ?_⟩
    · skip
      refine (a).trans ?_; rfl
    · show max 1 (PyData.depthAll (pT f1 f2 f3 l)) ≤ 1
      exact Nat.max_le.mpr ⟨Nat.le_refl _, b⟩
theorem pT_reads {α : Type} {f1 f2 f3 : α → Nat} {g : View} {h : Heap} (hg : Sub g h.get?) : ∀ {L : List α} {vs : List Value}, RepL g (L.map fun j => .tup [dn (f1 j), dn (f2 j), dn (f3 j)]) vs → ∃ as, ReadsAll h vs (pT f1 f2 f3 L) as := by
  intro vq
  induction vq with
  | nil =>
    intro vs r
    skip; subst r; exact ⟨_, .nil⟩
  | cons n l ihq =>
    intro vs r
    skip
    obtain ⟨v, r', rfl, h1, h2⟩ := r
    obtain ⟨a, us, m, rfl, ha, hL⟩ := rep_tup h1
    rw [show [dn (f1 n), dn (f2 n), dn (f3 n)] = [f1 n, f2 n, f3 n].map dn from rfl] at hL
    obtain ⟨bs, hb⟩ := pI_reads (h := h) hL
    obtain ⟨as, hs⟩ := ihq h2
    exact ⟨_, .cons (.tuple (hg _ _ ha) rfl rfl hb) hs⟩
theorem pT_eqv {α : Type} (f1 f2 f3 : α → Nat) : ∀ L : List α, PyData.eqvAll (pT f1 f2 f3 L) (pT f1 f2 f3 L) = true := by
  intro vq
  induction vq with
  | nil =>
    exact rfl
  | cons n l ihq =>
    show (PyData.eqvAll (pI [f1 n, f2 n, f3 n]) (pI [f1 n, f2 n, f3 n]) && PyData.eqvAll (pT f1 f2 f3 l) (pT f1 f2 f3 l)) = true
    simp only [pI_eqv, ihq, decide_eq_true rfl]; rfl
theorem cmp_tri {α : Type} (f1 f2 f3 : α → Nat) (L : List α) : Cmp (.list (L.map fun j => .tup [dn (f1 j), dn (f2 j), dn (f3 j)])) (.list (pT f1 f2 f3 L)) where
  reads := fun g h v hg r => by
    obtain ⟨a, vs, n, rfl, ha, hL⟩ := rep_list r
    obtain ⟨as, hr⟩ := pT_reads hg hL
    exact ⟨_, .list (hg _ _ ha) rfl rfl hr⟩
  shaped := by
    obtain ⟨a, b⟩ := pT_lay f1 f2 f3 L
    show (PyData.canLayAll0 (pT f1 f2 f3 L) && decide (PyData.depthAll (pT f1 f2 f3 L) + 1 ≤ 64)) = true
    rw [a, decide_eq_true (Nat.le_trans (Nat.succ_le_succ b) (Nat.le_of_ble_eq_true rfl))]; rfl
theorem dn_inj {l m : List Nat} (h : l.map dn = m.map dn) : l = m := by
  induction l generalizing m with
  | nil => cases m with
    | nil => rfl
    | cons b m => cases h
  | cons a l ih =>
    cases m with
    | nil => cases h
    | cons b m =>
      rw [List.map_cons, List.map_cons, List.cons.injEq] at h
      have h1 : (a : Int) = (b : Int) := by injection h.1
      rw [ih h.2]
      congr 1
      (exact Int.ofNat.inj (D.int.inj h.1))
-- what the methods answer
noncomputable def lng (s : WS) : Nat := max (s.cnt.length - 1) s.b
noncomputable def ilv (s : WS) (ts : Nat) : Nat := ((List.range (s.cnt.length - ts)).map fun j => (ts + j) / ts * s.cnt.getD (ts + j) 0).sum
noncomputable def ind (s : WS) (ts : Nat) : Nat := s.b + ts * (ilv s ts + s.nt)
noncomputable def wit (s s' : WS) : List D := ((List.range (max (lng s) (lng s') + 1)).filter fun j => !decide (ind s (j + 1) = ind s' (j + 1))).map fun j => .tup [dn (j + 1), dn (ind s (j + 1)), dn (ind s' (j + 1))]
structure WSok (s : WS) : Prop where
  len : s.cnt.length ≤ 5000
  small : ∀ c ∈ s.cnt, c ≤ 5000
  b : s.b ≤ 5000
  nt : s.nt ≤ 5000
theorem bump_small {l : List Nat} {b : Nat} {m : Nat} (h : ∀ c ∈ l, c ≤ m) : ∀ c ∈ bump l b, c ≤ m + 1 := by
  have key : ∀ l' : List Nat, (∀ c ∈ l', c ≤ m) → ∀ c ∈ l'.set b (l'.getD b 0 + 1), c ≤ m + 1 := fun l' h' c hc => by
    rcases List.mem_or_eq_of_mem_set hc with hc | rfl
    · have := h' c hc; (exact Nat.le_succ_of_le (by assumption))
    · refine (List.getD_eq_getElem?_getD) ▸ ?_
      cases e : l'[b]? with
      | none => exact Nat.succ_pos _
      | some x =>
        have := h' x (List.mem_of_getElem? e)
        simp; (assumption)
  unfold bump
  split
  · refine key _ fun c hc => ?_
    rw [List.mem_append, List.mem_replicate] at hc
    rcases hc with hc | hc
    · exact h c hc
    · (simp [*])
  · exact key l h
structure WSb (m : Nat) (s : WS) : Prop where
  len : s.cnt.length ≤ m
  small : ∀ c ∈ s.cnt, c ≤ m
  b : s.b < m
  nt : s.nt ≤ m
theorem wsGo_ok : ∀ (cs : List Nat) (s : WS) (m : Nat), WSb m s → WSb (m + cs.length) (wsGo cs s) := by
  intro vq
  induction vq with
  | nil =>
    intro s m h
    exact h
  | cons c cs ihq =>
    intro s m h
    have up : ∀ s', WSb (m + 1) s' → WSb (m + (c :: cs).length) (wsGo cs s') := fun s' h' => by
      have := ihq s' (m + 1) h'
      rw [Nat.add_assoc, Nat.add_comm 1] at this
      exact this
    simp only [wsGo_c]
    split
    · exact up _ ⟨Nat.le_succ_of_le h.len, fun c hc => Nat.le_succ_of_le (h.small c hc), Nat.succ_lt_succ h.b, Nat.le_succ_of_le h.nt⟩
    · split
      · exact up _ ⟨by rw [bump_len]; exact Nat.le_succ_of_le (Nat.max_le.mpr ⟨h.len, h.b⟩), bump_small h.small, Nat.succ_pos _, Nat.succ_le_succ h.nt⟩
      · have le : m ≤ m + (c :: cs).length := Nat.le_add_right _ _
        exact ⟨Nat.le_trans h.len le, fun c hc => Nat.le_trans (h.small c hc) le, Nat.lt_of_lt_of_le h.b le, Nat.le_trans h.nt le⟩
theorem wsGo_ok0 {cs : List Nat} (h : cs.length ≤ 4000) : WSok (wsGo cs ⟨[], 0, 0, 0⟩) := by
  have w := wsGo_ok cs ⟨[], 0, 0, 0⟩ 1 ⟨Nat.zero_le _, (fun c hc => by cases hc), Nat.one_pos, Nat.zero_le _⟩
  have le : 1 + cs.length ≤ 5000 := Nat.le_trans (Nat.add_le_add_left h 1) (Nat.le_of_ble_eq_true rfl)
  exact ⟨Nat.le_trans w.len le, fun c hc => Nat.le_trans (w.small c hc) le, Nat.le_of_lt (Nat.lt_of_lt_of_le w.b le), Nat.le_trans w.nt le⟩
-- parentheses: the code points, whether an escape is open, how many are open
noncomputable def parE : List Nat → Bool → Int → Option Int
  | [], _, o => some o
  | _ :: cs, true, o => parE cs false o
  | c :: cs, false, o => if c = 92 then parE cs true o else if c = 40 then parE cs false (o + 1) else if c = 41 then (if o - 1 < 0 then none else parE cs false (o - 1)) else parE cs false o
theorem parE_t (c : Nat) (cs : List Nat) (o : Int) : parE (c :: cs) true o = parE cs false o := rfl
theorem parE_f (c : Nat) (cs : List Nat) (o : Int) : parE (c :: cs) false o = if c = 92 then parE cs true o else if c = 40 then parE cs false (o + 1) else if c = 41 then (if o - 1 < 0 then none else parE cs false (o - 1)) else parE cs false o := rfl
noncomputable def parR : Option Int → Bool
  | none => false
  | some o => decide (o = 0)
noncomputable def par (cs : List Nat) (b : Bool) (o : Int) : Bool := parR (parE cs b o)

noncomputable def parS (y : Str) (o : Int) : Option Int := if y = "(" then some (o + 1) else if y = ")" then (if o - 1 < 0 then none else some (o - 1)) else some o
theorem parS_one (c : Nat) (o : Int) : parS ⟨#[c]⟩ o = if c = 40 then some (o + 1) else if c = 41 then (if o - 1 < 0 then none else some (o - 1)) else some o := by
  skip
  skip
  unfold parS
  simp only [(⟨fun h => (List.cons.inj (show [c] = [40] from congrArg cl h)).1, fun h => by subst h; decide +kernel⟩ : (⟨#[c]⟩ : Str) = "(" ↔ c = 40), (⟨fun h => (List.cons.inj (show [c] = [41] from congrArg cl h)).1, fun h => by subst h; decide +kernel⟩ : (⟨#[c]⟩ : Str) = ")" ↔ c = 41)]
theorem parS_two (c : Nat) (o : Int) : parS (bsl ++ (⟨#[c]⟩ : Str)) o = some o := by
  have two : ∀ y : Str, (cl y).length = 1 → ¬ bsl ++ (⟨#[c]⟩ : Str) = y := fun y hy q => by
    have : (cl (bsl ++ (⟨#[c]⟩ : Str))).length = (cl y).length := by rw [q]
    simp only [cl_app, List.length_append, hy] at this
    skip
    replace this := ((by decide +kernel : (cl bsl).length = 1)) ▸ this
    have h2 : (cl (⟨#[c]⟩ : Str)).length = 1 := rfl
    (lia)
  skip
  (refine (if_neg (two _ (by decide +kernel))).trans ?_; rw [if_neg (two _ (by decide +kernel))])
noncomputable def parOut (σf : Int → Sg) : Option Int → Out
  | none => .ret (.bool false)
  | some o => .next (σf o)
section
variable {prog : Program} {w : World} {base : Heap} {k : Nat} {env : Env}
theorem bd_cons_par {st : Stmt} {rest : List Stmt} {σ : Sg} {σf : Int → Sg} {r : Option Int} (h : Bd prog w base k env (exec st env) σ (parOut σf r)) (hr : ∀ o, r = some o → Bd prog w base k env (execs rest env) (σf o) (.ret (.bool (decide (o = 0))))) :
    Bd prog w base k env (execs (st :: rest) env) σ (.ret (.bool (parR r))) := by
  cases r with
  | none => exact bd_stop h
  | some o => exact bd_cons h (hr o rfl)
theorem lpG_par {body : List Stmt} {σf : Int → Sg} (hf : ∀ o, flatS (σf o) = true) (h : ∀ (y : Str) (i : D) (o : Int), Bd prog w base k env (execs body env) ((σf o).bind [("ch", .str y), ("pos", i)]) (parOut σf (parS y o))) :
    ∀ (cs : List Nat) (i : Nat) (b : Bool) (o : Int), LpG prog w base k env body [] ((escP cs i b).map fun p => [("ch", p.2), ("pos", p.1)]) (σf o) (parOut σf (parE cs b o)) := by
  have one : ∀ (y : Str) (i : D) (o : Int) (rest : List (List (Str × D))) (r : Option Int), (∀ o', parS y o = some o' → LpG prog w base k env body [] rest (σf o') (parOut σf r)) → (parS y o = none → r = none) → LpG prog w base k env body [] ([("ch", .str y), ("pos", i)] :: rest) (σf o) (parOut σf r) := by
    intro y i o rest r h1 h2
    have hb := h y i o
    cases e : parS y o with
    | none => refine (h2 e) ▸ ?_; rw [e] at hb; exact .ret (hf o) hb
    | some o' => simp only [e] at hb; exact .next (hf o) hb (h1 o' e)
  intro cs
  induction cs with
  | nil =>
    intro i b o
    cases b
    · exact .nil (hf o) bd_nil
    · refine one bsl _ o [] (some o) (fun o' e => ?_) fun e => ?_
      · have : parS bsl o = some o := by
          skip
          skip; rfl
        skip; cases e
        exact .nil (hf o) bd_nil
      · have : parS bsl o = some o := by
          skip
          skip; rfl
        skip; cases e
  | cons c cs ih =>
    intro i b o
    cases b
    · simp only [escP_n, escP_t, escP_f, parE_t, parE_f]
      by_cases h92 : c = 92
      · have : (⟨#[c]⟩ : Str) = bsl := by subst h92; decide +kernel
        rw [if_pos this, if_pos h92]
        exact ih _ _ _
      · have : ¬ (⟨#[c]⟩ : Str) = bsl := fun q => h92 (List.cons.inj (show [c] = [92] from congrArg cl q)).1
        rw [if_neg this, if_neg h92]
        refine one ⟨#[c]⟩ _ o _ _ (fun o' e => ?_) fun e => ?_
        · rw [parS_one] at e
          have : (if c = 40 then parE cs false (o + 1) else if c = 41 then (if o - 1 < 0 then none else parE cs false (o - 1)) else parE cs false o) = parE cs false o' := by
            split at e
            · rename_i q; cases e; exact (if_pos q)
            · rename_i q
              refine (if_neg q).trans ?_
              split at e
              · rename_i q2
                refine (if_pos q2).trans ?_
                split at e
                · cases e
                · rename_i q3; cases e; exact (if_neg q3)
              · rename_i q2; cases e; exact (if_neg q2)
          refine (this) ▸ ?_
          exact ih _ _ _
        · rw [parS_one] at e
          split at e
          · cases e
          · rename_i q
            refine (if_neg q).trans ?_
            split at e
            · rename_i q2
              refine (if_pos q2).trans ?_
              split at e
              · rename_i q3; exact (if_pos q3)
              · cases e
            · cases e
    · skip
      refine one _ _ o _ _ (fun o' e => ?_) fun e => ?_
      · skip; cases e
        exact ih _ _ _
      · skip; cases e
end
end Mine
namespace Mine
open PySem PySem.W PySem.Calls PyProof.Rows PySem.Spec

section
variable {prog : Program} {w : World} {base : Heap} {k : Nat} {env : Env} {ρ : List (Str × D)}
theorem ev_intN (n : Nat) {i : Int} {kk : Nat} {pos : Pos} (h : i = (n : Int) := by rfl) : Ev prog w base k env ρ (.Constant (.int i) kk pos) (dn n) := by subst h; exact ev_int
theorem opN_add {a b : Nat} : Op2 prog w base k (binaryOp .Add) (dn a) (dn b) (dn (a + b)) := by
  skip; exact op_add
theorem opN_sub {a b : Nat} (h : b ≤ a) : Op2 prog w base k (binaryOp .Sub) (dn a) (dn b) (dn (a - b)) := by
  simp only [show dn (a - b) = .int ((a : Int) - (b : Int)) by skip; congr 1; (grind -ring)]; exact op_sub
theorem opN_mul {a b : Nat} (h : a < 2 ^ 60) : Op2 prog w base k (binaryOp .Mult) (dn a) (dn b) (dn (a * b)) := by
  skip; exact op_mul (by (assumption))
theorem opN_div {a b : Nat} (h : 0 < b) (h2 : b < 1000000) : Op2 prog w base k (binaryOp .FloorDiv) (dn a) (dn b) (dn (a / b)) := by
  simp only [show dn (a / b) = .int ((a : Int).fdiv (b : Int)) by rw [fdiv_nat]]; exact op_floordiv (by (exact Mine.q11 (by assumption))) (by (exact Mine.q9 (by assumption) (by rfl)))
theorem opN_mod {a b : Nat} (h : 0 < b) : Op2 prog w base k (binaryOp .Mod) (dn a) (dn b) (dn (a % b)) := by
  rw [show dn (a % b) = .int ((a : Int).fmod (b : Int)) by rw [dn, fmod_nat]]; exact op_mod (by (exact Mine.q11 (by assumption)))
theorem opN_pow2 {n : Nat} (h : n ≤ 1000) : Op2 prog w base k (binaryOp .Pow) (dn 2) (dn n) (dn (2 ^ n)) := by
  have := op_pow2 (prog := prog) (w := w) (base := base) (k := k) (n := (n : Int)) (by (exact Int.natCast_nonneg _)) (by (exact Mine.q8 (by assumption) (by rfl)))
  skip
  skip
  exact this
theorem iterN {n : Nat} (h : n ≤ 1000000) : Iter prog w base k (.range 0 (n : Int)) ((List.range n).map dn) := by
  have := iter_range (prog := prog) (w := w) (base := base) (k := k) (a := 0) (b := (n : Int)) (by decide) (by decide) (by (exact Int.natCast_nonneg _)) (by (exact Mine.q8 (by assumption) (by rfl)))
  have e : rangeD 0 (n : Int) = (List.range n).map dn := by
    skip
    skip
    refine List.map_congr_left fun i _ => ?_
    rw [Int.zero_add]
  simp only [e] at this
  exact this
theorem fn_sumF {α : Type} {ls : List α} {f : α → Nat} : Fn prog w base (k + 1) (fun vs => call (.builtin "sum") vs) [.list (ls.map fun v => dn (f v))] (dn (ls.map f).sum) := by
  have := fn_sumN (prog := prog) (w := w) (base := base) (k := k) (l := ls.map f)
  rw [List.map_map] at this
  exact this
theorem fn_sumI {α : Type} {ls : List α} {f : α → Int} : Fn prog w base (k + 1) (fun vs => call (.builtin "sum") vs) [.list (ls.map fun v => D.int (f v))] (.int (ls.map f).sum) := by
  have e1 : (ls.map fun v => D.int (f v)) = (ls.map f).map D.int := by rw [List.map_map]; rfl
  rw [e1]
  exact fn_sum iter_list
theorem truthyN {n : Nat} : Truthy prog w base k (dn n) (n != 0) := by
  have := truthy_int (prog := prog) (w := w) (base := base) (k := k) (i := (n : Int))
  have e : ((n : Int) != 0) = (n != 0) := by
    cases n with
    | zero => rfl
    | succ n => rfl
  rw [e] at this
  exact this
theorem ev_at {x : Str} {px pos : Pos} {i : Expr} {n : Nat} {p : Nat → Nat} {j : Nat} (hx : ρ.lookup x = some (.list (tabD n p))) (hi : Ev prog w base k env ρ i (dn j)) (h : j < n) (hn : n ≤ 1000000) (hk : env.scope.kind = .function := by rfl) (hd : (x == ("__debug__" : Str)) = false := by decide)
    (hs : ∀ o v, subscripted i false o v = operate [o, v] (getItem o v) := by intro _ _; rfl) : Ev prog w base k env ρ (.Subscript (.Name x px) i pos) (dn (p j)) :=
  ev_item (ev_name hx hk hd) hi typed_list.at itemed_list (op_item_tab h hn) hs
end
noncomputable def runC (r : Nat) : List Nat := (List.replicate r (cl " ")).flatten ++ cl "\t"
noncomputable def runs (l : List Nat) : List Nat := (l.map runC).flatten
theorem runC_eq (r : Nat) : runC r = List.replicate r 32 ++ [9] := by
  unfold runC
  have e1 : cl " " = [32] := by decide +kernel
  have e2 : cl "\t" = [9] := by decide +kernel
  rw [e1, e2]
  congr 1
  induction r with
  | zero => rfl
  | succ r ih => rw [List.replicate_succ, List.flatten_cons, ih]; rfl
end Mine
set_option maxRecDepth 100000
set_option maxHeartbeats 8000000
namespace Mine
open PySem PySem.W PySem.Calls PyProof.Rows PySem.Spec

noncomputable def apF : Nat → Nat → List UInt8
  | 0, _ => []
  | f + 1, n => if n = 0 then [] else apF f (n / 16) ++ [UInt8.ofNat (65 + n % 16)]
noncomputable def ap (n : Nat) : List UInt8 := apF n n
theorem ap_zero : ap 0 = [] := rfl
theorem apF_eq : ∀ (f g n : Nat), n ≤ f → n ≤ g → apF f n = apF g n
  | 0, 0, _, _, _ => rfl
  | 0, g + 1, n, h, _ => by rw [Nat.le_zero.1 h]; rfl
  | f + 1, 0, n, _, h => by rw [Nat.le_zero.1 h]; rfl
  | f + 1, g + 1, n, h, h' => by
    by_cases h0 : n = 0
    · subst h0; rfl
    · have q := Nat.div_lt_self (Nat.pos_of_ne_zero h0) (by decide : 1 < 16)
      rw [apF, apF, if_neg h0, if_neg h0, apF_eq f g (n / 16) (Nat.le_of_lt_succ (Nat.lt_of_lt_of_le q h)) (Nat.le_of_lt_succ (Nat.lt_of_lt_of_le q h'))]
theorem ap_pos : ∀ {n : Nat}, n ≠ 0 → ap n = ap (n / 16) ++ [UInt8.ofNat (65 + n % 16)]
  | 0, h => absurd rfl h
  | n + 1, h => by
    rw [ap, apF, if_neg h, apF_eq n ((n + 1) / 16) _ (Nat.le_of_lt_succ (Nat.div_lt_self (Nat.succ_pos n) (by decide))) (Nat.le_refl _)]
    rfl

theorem ap_len : ∀ (j n : Nat), n < 16 ^ j → (ap n).length ≤ j
  | 0, n, h => by
    have : n = 0 := by simpa using h
    subst this; rw [ap_zero]; simp
  | j + 1, n, h => by
    by_cases q : n = 0
    · subst q; rw [ap_zero]; simp
    · rw [ap_pos q, List.length_append, List.length_singleton]
      have := ap_len j (n / 16) (by rw [Nat.pow_succ] at h; (lia))
      (exact Nat.lt_succ_of_le (by assumption))

section
variable {prog : Program} {w : World} {base : Heap} {P : Params}

theorem ap_pick (m : Nat) (h : m < 16) : KBy.picked [65, 66, 67, 68, 69, 70, 71, 72, 73, 74, 75, 76, 77, 78, 79, 80].toArray (some (m : Int)) (some ((m : Int) + 1)) = #[UInt8.ofNat (65 + m)] := by
  revert m; decide +kernel

theorem fn_int2ap (H : Wd (hd1.heap_39 P) base) (n : Int) (hn : n.natAbs < 2 ^ 40) : Fn prog w base 30 (fun vs => call (.ref 123) vs) [.int n] (.bytes (ap n.natAbs).toArray) := by
  refine fn_K (xs := ["num"]) (k := 29) (o' := .ret (.bytes (ap n.natAbs).toArray)) H (by rfl) (by rfl) (by kernel_rfl) (by rfl) (by rfl) ?_ (by decide) (by decide) (by decide) (by rfl) (by rfl) (by rfl) (.inl rfl) ?_
  · intro vs h; obtain ⟨v, rfl⟩ := List.length_eq_one_iff.mp h; rfl
  intro L
  refine bd_cons (bd_assign ev_bytes (.inl rfl)) ?_
  refine bd_cons (bd_assign ev_bytes (.inl rfl)) ?_
  refine bd_cons (bd_assign (ev_call (x := "int") (f := .type "int") (evv_glob (H.blt (by kernel_rfl) (by kernel_rfl) (by decide))) keep_type (evs_cons (ev_call (x := "abs") (f := .builtin "abs") (evv_glob (H.blt (by kernel_rfl) (by kernel_rfl) (by decide))) keep_builtin (evs_cons (ev_name (by rfl)) evs_nil) fn_abs) evs_nil) fn_int) (.inl rfl)) ?_
  refine bd_cons ((bd_while_ind (ι := { p : Nat × List UInt8 // p.1 < 2 ^ 40 ∧ p.2.length ≤ 10000 ∧ (ap p.1 ++ p.2).length ≤ 10000 })
    (fun p => ⟨[("num", .int p.1.1), ("AP", .bytes [65, 66, 67, 68, 69, 70, 71, 72, 73, 74, 75, 76, 77, 78, 79, 80].toArray), ("val", .bytes p.1.2.toArray)], none, none⟩) (fun p => p.1.1) (fun p => .next ⟨[("val", .bytes (ap p.1.1 ++ p.1.2).toArray)], none, none⟩) ?_ ⟨(n.natAbs, []), hn, by simp, ?_⟩).from (le_of (.cons rfl rfl (.cons rfl rfl (.cons rfl rfl .nil))) (.inl rfl) (.inl rfl))) ?_
  · rintro ⟨⟨m, acc⟩, h1, h2, h3⟩
    dsimp only at h1 h2 h3 ⊢
    by_cases hm : m = 0
    · subst hm
      refine .inl ⟨?_, ?_⟩
      · exact tst_plain (ev_name (by rfl)) truthy_int
      · rw [ap_zero]
        refine bd_nil.next_le ?_
        refine le_of (.cons rfl ?_ .nil) (.inl rfl) (.inl rfl)
        rw [List.nil_append]
    · refine .inr ⟨⟨(m / 16, UInt8.ofNat (65 + m % 16) :: acc), ?_, ?_, ?_⟩, ?_, ?_, ?_, ?_⟩
      · show m / 16 < _; (lia)
      · simp only [List.length_cons]; have := h3; rw [ap_pos hm, List.length_append, List.length_append, List.length_singleton] at this; (lia)
      · rw [ap_pos hm, List.append_assoc] at h3; exact h3
      · show m / 16 < m; (lia)
      · dsimp only; rw [ap_pos hm, List.append_assoc]; rfl
      · refine Tst.of_eq (tst_plain (ev_name (by rfl)) truthy_int) ?_
        simp; (assumption)
      · have e1 : ((m : Int).fdiv 16) = ((m / 16 : Nat) : Int) := by rw [Int.fdiv_eq_ediv_of_nonneg _ (by decide)]; rfl
        have e2 : ((m : Int).fmod 16) = ((m % 16 : Nat) : Int) := by rw [Int.fmod_eq_emod_of_nonneg _ (by decide)]; rfl
        refine bd_cons (bd_unpack2 (ev_call (x := "divmod") (f := .builtin "divmod") (evv_glob (H.blt (by kernel_rfl) (by kernel_rfl) (by decide))) keep_builtin (evs_cons (ev_name (by rfl)) (evs_cons ev_int evs_nil)) (fn_divmod (by decide) (by decide))) (.inl rfl) (.inl rfl)) ?_
        rw [e1, e2]
        have e3 := ap_pick (m % 16) (Nat.mod_lt _ (by decide))
        have hz : (KBy.picked [65, 66, 67, 68, 69, 70, 71, 72, 73, 74, 75, 76, 77, 78, 79, 80].toArray (some ((m % 16 : Nat) : Int)) (some (((m % 16 : Nat) : Int) + 1))).size + acc.toArray.size ≤ 16777216 := by rw [e3]; simp; (lia)
        refine bd_cons (bd_assign (ev_binop (ev_cut (ev_name (by rfl)) (part_some (ev_name (by rfl))) (part_some (ev_binop (ev_name (by rfl)) ev_int op_add)) part_none typed_bytes.at itemed_bytes (cut_bytes (by decide))) (ev_name (by rfl)) (op_addBytes hz)) (.inl rfl)) ?_
        refine bd_nil.next_le ?_
        refine le_of (.cons rfl rfl (.cons rfl rfl (.cons rfl ?_ .nil))) (.inl rfl) (.inl rfl)
        rw [e3]; simp
  · have := ap_len 10 n.natAbs (by (assumption))
    simp; (exact Mine.q3 (by assumption) (by rfl))
  · refine bd_stop (bd_ret ?_)
    refine Ev.of_eq (ev_name (by rfl)) ?_
    simp
end

theorem rangeD_zero (n : Nat) : rangeD 0 n = (List.range n).map fun (i : Nat) => D.int (i : Int) := by
  unfold rangeD
  rw [Int.sub_zero, Int.toNat_natCast]
  refine List.map_congr_left fun i _ => ?_
  rw [Int.zero_add]
noncomputable def flagTab : List (Int × Str) := [(1, "OPTIMIZED"), (2, "NEWLOCALS"), (4, "VARARGS"), (8, "VARKEYWORDS"), (16, "NESTED"), (32, "GENERATOR"), (64, "NOFREE"), (128, "COROUTINE"), (256, "ITERABLE_COROUTINE"), (512, "ASYNC_GENERATOR")]
theorem look_tab (k : Int) : ∀ T : List (Int × Str), lookup (.int k) (T.map fun p => (PyData.int p.1, PyData.str p.2)) = (T.lookup k).map PyData.str
  | [] => rfl
  | (i, x) :: T => by
    show (if same (PyData.int i) (PyData.int k) = true then some (PyData.str x) else lookup (PyData.int k) (T.map fun p => (PyData.int p.1, PyData.str p.2))) = _
    rw [PyProof.V.same_int, look_tab k T, List.lookup_cons]
    by_cases hx : k = i
    · subst hx; simp
    · have hx' : ¬ i = k := fun q => hx q.symm
      rw [beq_eq_false_iff_ne.mpr hx]; simp [hx']
theorem flag_look (i : Nat) (h : i < 32) : (lookup (.int ((2 ^ i : Nat) : Int)) (flagTab.map fun p => (PyData.int p.1, PyData.str p.2))).getD (.str (PySem.baseText "0x" 16 ((2 ^ i : Nat) : Int))) = .str (pfw i) := by
  rw [look_tab]
  have : ∀ i, i < 32 → (flagTab.lookup ((2 ^ i : Nat) : Int)).getD (PySem.baseText "0x" 16 ((2 ^ i : Nat) : Int)) = pfw i := by decide +kernel
  have := this i h
  cases e : flagTab.lookup ((2 ^ i : Nat) : Int) with
  | none => rw [e] at this; rw [← this]; rfl
  | some x => rw [e] at this; rw [← this]; rfl
theorem hex_len (i : Nat) (h : i < 32) : (PySem.baseText "0x" 16 ((2 ^ i : Nat) : Int)).length ≤ sizeLine := by
  revert h; revert i; decide +kernel


theorem sum_le_of {α : Type} (f : α → Nat) (c : Nat) : ∀ l : List α, (∀ x ∈ l, f x ≤ c) → (l.map f).sum ≤ l.length * c
  | [], _ => by simp
  | x :: l, h => by
    have h1 := h x (List.mem_cons_self ..)
    have h2 := sum_le_of f c l fun y hy => h y (List.mem_cons_of_mem _ hy)
    rw [List.map_cons, List.sum_cons, List.length_cons, Nat.add_mul]; (lia)
theorem pfw_len : ∀ i, i < 32 → (pfw i).length ≤ 40 := by decide +kernel
theorem pfWords_ok (n : Nat) : JoinOk ", " (pfWords n) = true := by
  refine joinOk_of ?_
  have h1 : (pfWords n).length ≤ 32 := by
    unfold pfWords
    split
    · decide
    · rw [List.length_map]
      have := List.length_filter_le n.testBit (List.range 32)
      rw [List.length_range] at this; exact this
  have h2 : ∀ x ∈ pfWords n, x.length ≤ 40 := by
    unfold pfWords
    split
    · intro x hx
      rw [List.mem_singleton] at hx
      subst hx; decide +kernel
    · intro x hx
      rw [List.mem_map] at hx
      obtain ⟨i, hi, rfl⟩ := hx
      exact pfw_len i (List.mem_range.mp (List.mem_filter.mp hi).1)
  have h3 := sum_le_of (fun x : Str => x.length) 40 (pfWords n) h2
  have h4 : (Str.ofString ", ").length = 2 := by decide +kernel
  rw [h4]; (lia)

section
variable {prog : Program} {w : World} {base : Heap} {P : Params}
theorem tab_flags (H : Wd (hd1.heap_39 P) base) : IntTab prog w base 88 (flagTab.map fun p => (PyData.int p.1, PyData.str p.2)) :=
  intTab_of (H.X 88 _ (by rfl)) (by kernel_rfl) (by decide +kernel) (by rfl)

theorem fn_pf (H : Wd (hd1.heap_39 P) base) (n : Nat) (hn : n < 2 ^ 32) : Fn prog w base 40 (fun vs => call (.ref 95) vs) [.int n] (.str (Txt.join ", " (pfWords n))) := by
  refine fn_K (xs := ["flags"]) (k := 39) (o' := .ret (.str (Txt.join ", " (pfWords n)))) H (by rfl) (by rfl) (by kernel_rfl) (by rfl) (by rfl) ?_ (by decide) (by decide) (by decide) (by rfl) (by rfl) (by rfl) (.inl rfl) ?_
  · intro vs h; obtain ⟨v, rfl⟩ := List.length_eq_one_iff.mp h; rfl
  intro L
  refine bd_cons (bd_assignNew (evnew_list evs_nil) (.inl rfl) (by rfl)) ?_
  have hlen : ∀ i, i < 32 → (((List.range i).filter n.testBit).map fun j => D.str (pfw j)).length ≤ sizeLine := fun i hi => by
    rw [List.length_map]
    have := List.length_filter_le n.testBit (List.range i)
    rw [List.length_range] at this
    rw [sizeLine_eq]; (lia)
  let σf : { i : Nat // i ≤ 32 ∧ (n ≠ 0 → n / 2 ^ i ≠ 0) } → Sg := fun i => ⟨[("flags", .int ((n / 2 ^ i.1 * 2 ^ i.1 : Nat) : Int))], some ("names", ((List.range i.1).filter n.testBit).map fun j => D.str (pfw j)), none⟩
  refine bd_cons (σ₁ := ⟨[], some ("names", (pfWords n).map D.str), none⟩) ?_ ?_
  · refine Bd.from (σ := σf ⟨0, by decide, fun h => by simpa using h⟩) ?_ ?_
    · refine' bd_for (d := .range 0 32) (items := rangeD 0 32) ?me (iter_range) (.inl rfl) ?ml
      case me => exact (ev_call (x := "range") (f := .type "range") (evv_glob (H.blt (by kernel_rfl) (by kernel_rfl) (by decide))) keep_type (evs_cons ev_int evs_nil) fn_range1)
      rw [show rangeD 0 32 = _ from rangeD_zero 32]
      refine lp_ind σf (fun i => (((List.range 32).map fun (i : Nat) => D.int (i : Int)).map fun d => [(("i" : Str), d)]).drop i.1) (fun _ => .next ⟨[], some ("names", (pfWords n).map D.str), none⟩) ?_ ⟨0, _⟩
      rintro ⟨i, hi, hne⟩
      by_cases h32 : i = 32
      · subst h32
        have h0 : n = 0 := by
          by_cases h : n = 0
          · exact h
          · exact absurd (Nat.div_eq_of_lt hn) (hne h)
        subst h0
        refine .inl ⟨by simp, ?_⟩
        have h0 : (PySem.baseText "0x" 16 (0 : Int)).length ≤ sizeLine := by decide +kernel
        have e0 : ∀ h, σf ⟨32, h⟩ = ⟨[("flags", .int (0 : Int))], some ("names", []), none⟩ := fun h => by
          show Sg.mk _ _ _ = _
          congr 1
          simp
        rw [e0]
        refine bd_cons (bd_append (d := .str (PySem.baseText "0x" 16 0)) rfl ?_ (by decide)) (bd_nil.next_le ?_)
        · exact (ev_call (x := "hex") (f := .builtin "hex") (evv_glob (H.blt (by kernel_rfl) (by kernel_rfl) (by decide))) keep_builtin (evs_cons (ev_name (by rfl)) evs_nil) (fn_hex h0))
        · exact le_of LeL.nil (.inr rfl) (.inl rfl)
      · have hlt : i < 32 := by (exact Nat.lt_of_le_of_ne (by assumption) (by assumption))
        have hit : (((List.range 32).map fun (i : Nat) => D.int (i : Int)).map fun d => [(("i" : Str), d)]).drop i = [(("i" : Str), D.int (i : Int))] :: (((List.range 32).map fun (i : Nat) => D.int (i : Int)).map fun d => [(("i" : Str), d)]).drop (i + 1) := by
          rw [List.drop_eq_getElem_cons (by simpa using hlt)]; simp
        have e1 : ((2 : Int) ^ ((i : Int)).toNat) = ((2 ^ i : Nat) : Int) := by simp
        have hr : List.range (i + 1) = List.range i ++ [i] := List.range_succ
        cases hb : n.testBit i with
        | false =>
          have hnz : n ≠ 0 → n / 2 ^ (i + 1) ≠ 0 := fun h q => by
            have := hne h
            have e := bit_skip n i hb
            rw [q, Nat.zero_mul] at e
            exact this ((Nat.mul_eq_zero.mp e).resolve_right (Nat.pos_iff_ne_zero.mp (Nat.pow_pos (by decide))))
          refine .inr (.inl ⟨[(("i" : Str), .int (i : Int))], ⟨i + 1, by (assumption), hnz⟩, hit, rfl, rfl, ?_⟩)
          refine bd_cons (bd_assign (ev_binop ev_int (ev_name (by rfl)) (op_lshift1 (by (exact Int.natCast_nonneg _)) (by (exact Mine.q6 (by assumption) (by rfl))))) (.inl rfl)) ?_
          rw [e1]
          refine bd_cons (bd_if_f (Tst.of_eq (d := (Builtin.bitAnd (((n / 2 ^ i * 2 ^ i : Nat) : Int)) ((2 ^ i : Nat) : Int) != 0)) ?_ ((bit_and n i).trans hb)) bd_nil) ?_
          · exact tst_plain (ev_binop (ev_name (by rfl)) (ev_name (by rfl)) op_and) truthy_int
          refine bd_nil.next_le ?_
          have e2 : (((List.range (i + 1)).filter n.testBit).map fun j => D.str (pfw j)) = ((List.range i).filter n.testBit).map fun j => D.str (pfw j) := by
            rw [hr, List.filter_append]; simp [hb]
          show Le _ ⟨[("flags", .int ((n / 2 ^ (i + 1) * 2 ^ (i + 1) : Nat) : Int))], some ("names", ((List.range (i + 1)).filter n.testBit).map fun j => D.str (pfw j)), none⟩
          rw [e2, ← bit_skip n i hb]
          exact le_of (.cons rfl rfl .nil) (.inr rfl) (.inl rfl)
        | true =>
          have ex := bit_xor n i hb
          by_cases hz : n / 2 ^ (i + 1) = 0
          · refine .inr (.inr (.inl ⟨[(("i" : Str), .int (i : Int))], _, _, hit, rfl, rfl, ?_⟩))
            refine bd_cons (bd_assign (ev_binop ev_int (ev_name (by rfl)) (op_lshift1 (by omega) (by omega))) (.inl rfl)) ?_
            rw [e1]
            refine bd_stop (bd_if_t (Tst.of_eq (d := (Builtin.bitAnd (((n / 2 ^ i * 2 ^ i : Nat) : Int)) ((2 ^ i : Nat) : Int) != 0)) ?_ ((bit_and n i).trans hb)) ?_)
            · exact tst_plain (ev_binop (ev_name (by rfl)) (ev_name (by rfl)) op_and) truthy_int
            have hl := hex_len i hlt
            refine bd_cons (bd_append rfl (ev_dictget (evv_glob (H.glob (by kernel_rfl))) (tab_flags H) ?_ (flag_look i hlt)) ?_) ?_
            · exact (evs_cons (ev_name (by rfl)) (evs_cons (ev_call (x := "hex") (f := .builtin "hex") (evv_glob (H.blt (by kernel_rfl) (by kernel_rfl) (by decide))) keep_builtin (evs_cons (ev_name (by rfl)) evs_nil) (fn_hex hl)) evs_nil))
            · exact hlen i hlt
            refine bd_cons (bd_aug rfl (ev_name (by rfl)) op_ixor (.inl rfl)) ?_
            rw [ex]
            have hne0 : n ≠ 0 := fun q => by subst q; simp at hb
            have hall : ((List.range 32).filter n.testBit) = (List.range i).filter n.testBit ++ [i] := by
              have hsplit : List.range 32 = List.range (i + 1) ++ (List.range (31 - i)).map (· + (i + 1)) := by
                rw [show 32 = (i + 1) + (31 - i) by (grind -ring), List.range_add]
                simp [Nat.add_comm]
              rw [hsplit, List.filter_append, hr, List.filter_append]
              have : ((List.range (31 - i)).map (· + (i + 1))).filter n.testBit = [] := by
                rw [List.filter_eq_nil_iff]
                intro j hj
                rw [List.mem_map] at hj
                obtain ⟨m, _, rfl⟩ := hj
                rw [testBit_odd, show m + (i + 1) = (i + 1) + m by (lia), Nat.pow_add, ← Nat.div_div_eq_div_mul, hz]
                simp
              rw [this]; simp [hb]
            refine (bd_stop (bd_if_t ?_ (bd_stop bd_break))).brk_le ?_
            · refine Tst.of_eq (tst_not (tst_plain (ev_name (by rfl)) truthy_int)) ?_
              rw [hz]; simp
            refine le_of LeL.nil (.inr ?_) (.inl rfl)
            show some _ = some _
            unfold pfWords
            rw [if_neg hne0, hall]; simp
          · refine .inr (.inl ⟨[(("i" : Str), .int (i : Int))], ⟨i + 1, by omega, fun _ => hz⟩, hit, rfl, rfl, ?_⟩)
            refine bd_cons (bd_assign (ev_binop ev_int (ev_name (by rfl)) (op_lshift1 (by omega) (by omega))) (.inl rfl)) ?_
            rw [e1]
            have hl := hex_len i hlt
            refine bd_cons (σ₁ := ⟨[("flags", .int ((n / 2 ^ (i + 1) * 2 ^ (i + 1) : Nat) : Int))], some ("names", ((List.range i).filter n.testBit).map (fun j => D.str (pfw j)) ++ [D.str (pfw i)]), none⟩) (bd_if_t (Tst.of_eq (d := (Builtin.bitAnd (((n / 2 ^ i * 2 ^ i : Nat) : Int)) ((2 ^ i : Nat) : Int) != 0)) ?_ ((bit_and n i).trans hb)) ?_) ?_
            · exact tst_plain (ev_binop (ev_name (by rfl)) (ev_name (by rfl)) op_and) truthy_int
            · refine bd_cons (bd_append rfl (ev_dictget (evv_glob (H.glob (by kernel_rfl))) (tab_flags H) ?_ (flag_look i hlt)) ?_) ?_
              · exact (evs_cons (ev_name (by rfl)) (evs_cons (ev_call (x := "hex") (f := .builtin "hex") (evv_glob (H.blt (by kernel_rfl) (by kernel_rfl) (by decide))) keep_builtin (evs_cons (ev_name (by rfl)) evs_nil) (fn_hex hl)) evs_nil))
              · exact hlen i hlt
              refine bd_cons (bd_aug rfl (ev_name (by rfl)) op_ixor (.inl rfl)) ?_
              rw [ex]
              refine bd_cons (bd_if_f ?_ bd_nil) ?_
              · refine Tst.of_eq (tst_not (tst_plain (ev_name (by rfl)) truthy_int)) ?_
                have : n / 2 ^ (i + 1) * 2 ^ (i + 1) ≠ 0 := fun q => hz ((Nat.mul_eq_zero.mp q).resolve_right (Nat.pos_iff_ne_zero.mp (Nat.pow_pos (by decide))))
                have h2 : (((n / 2 ^ (i + 1) * 2 ^ (i + 1) : Nat) : Int) != 0) = true := bne_iff_ne.mpr fun q => this (Int.ofNat.inj q)
                rw [h2]; rfl
              refine bd_nil.next_le ?_
              exact le_of (.cons rfl rfl .nil) (.inr rfl) (.inl rfl)
            · refine bd_nil.next_le ?_
              refine le_of ?_ (.inr ?_) (.inl rfl)
              · exact .cons rfl rfl .nil
              · show some _ = some _
                rw [hr, List.filter_append]; simp [hb]
    · refine le_of (.cons rfl ?_ .nil) (.inr rfl) (.inl rfl)
      simp
  · refine bd_stop (bd_ret (ev_method (o := .Constant (.str ", ") _ _) ev_str typed_str F.plainAttrs_str F.slot_str_join F.type_str_join (evs_cons (ev_name (by rfl)) evs_nil) (fn_join ?_)))
    exact pfWords_ok n
end

noncomputable def figF (ns : List Int) : Nat → (Nat → Nat)
  | 0 => fun j => [2, 8, 1, 0].getD j 0
  | k + 1 => upd (figF ns k) (k % 4) ((((figF ns k (k % 4) : Nat) : Int) + ns.getD k 0).fmod 16).toNat
noncomputable def figs (ns : List Int) : Nat → Nat := figF (ns.take 60) (ns.take 60).length
theorem figF_lt (ns : List Int) : ∀ k j, j < 4 → figF ns k j < 16
  | 0, j, h => by
    have : ∀ j, j < 4 → figF [] 0 j < 16 := by decide
    exact this j h
  | k + 1, j, h => by
    unfold figF upd
    split
    · rw [Int.fmod_eq_emod_of_nonneg _ (by decide)]; (grind -ring)
    · exact figF_lt ns k j h
section
variable {prog : Program} {w : World} {base : Heap} {P : Params}
theorem fn_figures (H : Wd (hd1.heap_39 P) base) (ns : List Int) (hn : ns.length ≤ 63) : Fn prog w base 30 (fun vs => call (.ref 130) vs) [.arg (ns.map D.int)] (.list (tabD 4 (figs ns))) := by
  refine fn_K (xs := ["script"]) (k := 29) (o' := .ret (.list (tabD 4 (figs ns)))) H (by rfl) (by rfl) (by kernel_rfl) (by rfl) (by rfl) ?_ (by decide) (by decide) (by decide) (by rfl) (by rfl) (by rfl) (.inl rfl) ?_
  · intro vs h; obtain ⟨v, rfl⟩ := List.length_eq_one_iff.mp h; rfl
  intro L
  let σf : Nat → Sg := fun i => ⟨[("script", .arg (ns.map D.int))], some ("figures", tabD 4 (figF (ns.take 60) i)), none⟩
  refine bd_cons (σ₁ := σf 0) ((bd_assignNew (ds := tabD 4 (figF (ns.take 60) 0)) (evnew_list ?_ (by rw [tabD_len]; decide)) (.inl rfl) (by rfl)).next_le ?_) ?_
  · exact (evs_cons ev_int (evs_cons ev_int (evs_cons ev_int (evs_cons ev_int evs_nil))))
  · exact le_of (.cons rfl rfl .nil) (.inr rfl) (.inl rfl)
  have hl : (ns.map D.int).length ≤ sizeLine := by rw [sizeLine_eq, List.length_map]; (exact Mine.q3 (by assumption) (by rfl))
  have hpick : pickL (ns.map D.int) none (some 60) none = (ns.take 60).map D.int := by rw [show (60 : Int) = ((60 : Nat) : Int) from rfl, pick_takeD _ _ (idx60 _ (by rw [List.length_map]; exact hn)), List.map_take]
  refine bd_cons (bd_forEnum (ds := (ns.take 60).map D.int) (o := .next (σf (ns.take 60).length)) (evv_glob (H.blt (by kernel_rfl) (by kernel_rfl) (by decide))) ?_ (.inl rfl) (.inl rfl) ?_) ?_
  · refine Ev.of_eq (ev_cut (ev_name (by rfl)) part_none (part_some ev_int) part_none typeAt_arg itemed_list (cut_arg (by decide) hl)) ?_
    rw [hpick]
  · refine lp_famB σf (fun i bs e => ?_) ?_
    · obtain ⟨d, hd, rfl⟩ := enumB_get e
      rw [List.getElem?_map] at hd
      cases hx : (ns.take 60)[i]? with
      | none => rw [hx] at hd; cases hd
      | some x =>
        rw [hx] at hd; cases hd
        refine ⟨rfl, ?_⟩
        have hi : i < 60 := by have := (List.getElem?_eq_some_iff.mp hx).1; simp at this; (lia)
        have e4 : ((i : Int).fmod 4) = ((i % 4 : Nat) : Int) := fmod_nat i 4
        have e5 : (((figF (ns.take 60) i (i % 4) : Nat) : Int) + x).fmod 16 = (((((figF (ns.take 60) i (i % 4) : Nat) : Int) + (ns.take 60).getD i 0).fmod 16).toNat : Int) := by
          rw [List.getD_eq_getElem?_getD, hx, Option.getD_some, Int.fmod_eq_emod_of_nonneg _ (by decide)]; (lia)
        refine bd_cons (bd_setItem (j := ((i % 4 : Nat) : Int)) (d := dn ((((figF (ns.take 60) i (i % 4) : Nat) : Int) + (ns.take 60).getD i 0).fmod 16).toNat) rfl ?_ ?_ (by (exact Int.natCast_nonneg _)) (by rw [tabD_len]; (grind -ring)) (by rw [tabD_len]; decide)) (bd_nil.next_le ?_)
        · refine Ev.of_eq (ev_binop (ev_binop (ev_item (d₂ := dn (i % 4)) (ev_name (by rfl)) ?_ typed_list.at itemed_list (op_item_tab (Nat.mod_lt _ (by decide)) (by decide))) (ev_name (by rfl)) op_add) ev_int (op_mod (by decide))) ?_
          · refine Ev.of_eq (ev_binop (ev_name (by rfl)) ev_int (op_mod (by decide))) ?_
            rw [e4]
          · rw [e5]
        · refine Ev.of_eq (ev_binop (ev_name (by rfl)) ev_int (op_mod (by decide))) ?_
          rw [e4]
        · rw [toNat_cast, tabD_set]
          exact le_of (.cons rfl rfl .nil) (.inr rfl) (.inl rfl)
    · rw [enumB_len, List.length_map]
      exact bd_nil
  · refine bd_stop (bd_ret ?_)
    exact (ev_name (by rfl))
end

section
variable {prog : Program} {w : World} {base : Heap} {P : Params}
theorem word_hex : ∀ i, i < 16 → 9 < i → ∃ c, (Str.ofString "1248").cps.toList[i % 4]? = some c ∧ (Str.ofString "0x" ++ (⟨#[c]⟩ : Str)) ++ ofC (List.replicate (i / 4) (cl "0")).flatten = pfw i := by decide +kernel
theorem word_name : ∀ i, i < 16 → ¬ 9 < i → flagNames[i]? = some (pfw i) := by decide +kernel
theorem fn_word (H : Wd (hd1.heap_39 P) base) (i : Nat) (hi : i < 16) : Fn prog w base 30 (fun vs => call (.ref 137) vs) [dn i] (.str (pfw i)) := by
  refine fn_K (xs := ["place"]) (k := 29) (o' := .ret (.str (pfw i))) H (by rfl) (by rfl) (by kernel_rfl) (by rfl) (by rfl) ?_ (by decide) (by decide) (by decide) (by rfl) (by rfl) (by rfl) (.inl rfl) ?_
  · intro vs h; obtain ⟨v, rfl⟩ := List.length_eq_one_iff.mp h; rfl
  intro L
  by_cases h : 9 < i
  · obtain ⟨c, h1, h2⟩ := word_hex i hi h
    refine bd_stop (bd_if_t ?_ (bd_stop (bd_ret ?_)))
    · refine Tst.of_eq (tst_compare (ev_name (by rfl)) ev_int op_gt) ?_
      simp; (lia)
    · refine Ev.of_eq (ev_binop (ev_binop ev_str (ev_item (d₂ := dn (i % 4)) ev_str ?_ typed_str.at itemed_str (op_item_str (by (exact Int.natCast_nonneg _)) (by (grind -ring)) (by rw [toNat_cast]; exact h1))) (op_addStr (by show 2 + 1 ≤ sizeLine; decide))) (ev_binop (d₂ := dn (i / 4)) ev_str ?_ (op_mulN (by decide +kernel) (by (lia)))) (op_addStr ?_)) (by rw [h2])
      · refine Ev.of_eq (ev_binop (ev_name (by rfl)) ev_int (op_mod (by decide))) ?_
        exact congrArg D.int (fmod_nat i 4)
      · refine Ev.of_eq (ev_binop (ev_name (by rfl)) ev_int (op_floordiv (by decide) (by decide))) ?_
        exact congrArg D.int (fdiv_nat i 4)
      · have : ∀ i, i < 16 → ∀ c, (Str.ofString "0x" ++ (⟨#[c]⟩ : Str)).length + (ofC (List.replicate (i / 4) (cl "0")).flatten).length ≤ 100 := by
          intro i hi c
          have h1 : (Str.ofString "0x" ++ (⟨#[c]⟩ : Str)).length = 3 := by rw [cl_len, cl_app]; rfl
          have h2 : ∀ i, i < 16 → (ofC (List.replicate (i / 4) (cl "0")).flatten).length ≤ 10 := by decide +kernel
          have := h2 i hi
          (lia)
        have := this i hi c
        rw [sizeLine_eq]; (exact Mine.q3 (by assumption) (by rfl))
  · refine bd_cons (bd_if_f ?_ bd_nil) (bd_stop (bd_ret (ev_item (d₁ := .list (flagNames.map D.str)) (ev_list ?_ (by decide)) (ev_name (by rfl)) typed_list.at itemed_list (op_item_list (by (exact Int.natCast_nonneg _)) (by (exact Mine.q5 (by assumption) (by rfl))) ?_))))
    · refine Tst.of_eq (tst_compare (ev_name (by rfl)) ev_int op_gt) ?_
      simp; (lia)
    · exact (evs_cons ev_str (evs_cons ev_str (evs_cons ev_str (evs_cons ev_str (evs_cons ev_str (evs_cons ev_str (evs_cons ev_str (evs_cons ev_str (evs_cons ev_str (evs_cons ev_str evs_nil))))))))))
    · rw [toNat_cast, List.getElem?_map, word_name i hi h]; rfl
end

noncomputable def cnt (p : Nat → Nat) (t r : Nat) : Nat := ((cls t r).map p).sum
noncomputable def sunk (p : Nat → Nat) (t : Nat) : Nat → Nat := fun v => if v / t < cnt p t (v % t) then 1 else 0
theorem sum_le_len (p : Nat → Nat) (hp : ∀ v, p v ≤ 1) : ∀ l : List Nat, (l.map p).sum ≤ l.length
  | [] => Nat.le_refl _
  | v :: l => by
    have h1 := sum_le_len p hp l
    have h2 := hp v
    rw [List.map_cons, List.sum_cons, List.length_cons]; (lia)
theorem cls_len : ∀ t, t < 16 → ∀ r, r < t → r + (cls t r).length * t < 16 + t := by decide +kernel
theorem cnt_room {p : Nat → Nat} (hp : ∀ v, p v ≤ 1) {t r k : Nat} (ht : t < 16) (hr : r < t) (hk : k < cnt p t r) : r + k * t < 16 := by
  have h1 := cls_len t ht r hr
  have h2 : cnt p t r ≤ (cls t r).length := sum_le_len p hp _
  have h3 : (k + 1) * t ≤ (cls t r).length * t := Nat.mul_le_mul_right t (by (exact Nat.lt_of_lt_of_le (by assumption) (by assumption)))
  rw [Nat.add_mul] at h3
  (lia)
theorem cnt_le {p : Nat → Nat} (hp : ∀ v, p v ≤ 1) {t r : Nat} : cnt p t r ≤ 16 := by
  refine Nat.le_trans (sum_le_len p hp _) ?_
  have := List.length_filter_le (fun v => v % t == r) (List.range 16)
  rw [List.length_range] at this; exact this
noncomputable def lowO (p : Nat → Nat) (t i : Nat) : Nat → Nat := fun v => if v % t < i ∧ v / t < cnt p t (v % t) then 1 else 0
noncomputable def lowI (p : Nat → Nat) (t i j : Nat) : Nat → Nat := fun v => if (v % t < i ∧ v / t < cnt p t (v % t)) ∨ (v % t = i ∧ v / t < j) then 1 else 0

section
variable {prog : Program} {w : World} {base : Heap} {P : Params}
theorem fn_sunk (H : Wd (hd1.heap_39 P) base) (p : Nat → Nat) (hp : ∀ v, p v ≤ 1) (t : Nat) (ht0 : 0 < t) (ht : t < 16) : Fn prog w base 30 (fun vs => call (.ref 144) vs) [.list (tabD 16 p), dn t] (.list (tabD 16 (sunk p t))) := by
  refine fn_K (xs := ["places", "step"]) (k := 29) (o' := .ret (.list (tabD 16 (sunk p t)))) H (by rfl) (by rfl) (by kernel_rfl) (by rfl) (by rfl) ?_ (by decide) (by decide) (by decide) (by rfl) (by rfl) (by rfl) (.inl rfl) ?_
  · intro vs h; obtain ⟨v, u, rfl⟩ := len2 h; rfl
  intro L
  let σf : Nat → Sg := fun i => ⟨[("places", .list (tabD 16 p)), ("step", dn t)], some ("low", tabD 16 (lowO p t i)), none⟩
  refine bd_cons (σ₁ := σf 0) ((bd_assignNew (ds := tabD 16 (fun _ => 0)) ?_ (.inl rfl) tabD_flat).next_le ?_) ?_
  · rw [← tabD_rep]
    refine evnew_mul (n := 16) (d := dn 0) (ev_list (evs_cons ev_int evs_nil)) ev_int (by decide) (by decide)
  · have e : tabD 16 (lowO p t 0) = tabD 16 (fun _ => 0) := tabD_congr fun i _ => by simp [lowO]
    refine le_of (.cons rfl rfl (.cons rfl rfl .nil)) (.inr ?_) (.inl rfl)
    show some _ = some _
    rw [e]
  refine bd_cons (σ₁ := σf (t - 0)) (bd_forN (a := 0) (b := t) σf ?_ (.inl rfl) (by (simp)) (by (exact Mine.q1 (by assumption) (by rfl))) (Le.refl _) fun i hi => ⟨rfl, ?_⟩) ?_
  · exact (ev_call (x := "range") (f := .type "range") (evv_glob (H.blt (by kernel_rfl) (by kernel_rfl) (by decide))) keep_type (evs_cons (ev_name (by rfl)) evs_nil) fn_range1)
  · rw [Nat.zero_add]
    rw [Nat.sub_zero] at hi
    let σg : Nat → Sg := fun j => ⟨[("first", dn i), ("places", .list (tabD 16 p)), ("step", dn t)], some ("low", tabD 16 (lowI p t i j)), none⟩
    refine bd_cons (σ₁ := σg (cnt p t i - 0)) (bd_forN (a := 0) (b := cnt p t i) σg ?_ (.inl rfl) (by (simp)) (by have := cnt_le hp (t := t) (r := i); (exact Mine.q3 (by assumption) (by rfl))) ?_ fun j hj => ⟨rfl, ?_⟩) ?_
    · refine ev_call (x := "range") (f := .type "range") (evv_glob (H.blt (by kernel_rfl) (by kernel_rfl) (by decide))) keep_type (evs_cons (ev_call (x := "sum") (f := .builtin "sum") (evv_glob (H.blt (by kernel_rfl) (by kernel_rfl) (by decide))) keep_builtin (evs_cons (d := .list ((cls t i).map fun v => dn (p v))) (ev_cut (ev_name (by rfl)) (part_some (ev_name (by rfl))) part_none (part_some (ev_name (by rfl))) typed_list.at itemed_list ?_) evs_nil) ?_) evs_nil) fn_range1
      · rw [← pick_cls ht hi]
        refine cut_list (by intro q; have := Option.some.inj q; (lia)) (by rw [tabD_len]; decide)
      · have := fn_sumN (prog := prog) (w := w) (base := base) (k := 28) (l := (cls t i).map p)
        rw [List.map_map] at this
        exact this
    · have e : tabD 16 (lowI p t i 0) = tabD 16 (lowO p t i) := tabD_congr fun v _ => by simp [lowO, lowI]
      refine le_of (.cons rfl rfl (.cons rfl rfl (.cons rfl rfl .nil))) (.inr ?_) (.inl rfl)
      show some _ = some _
      rw [e]
    · rw [Nat.zero_add]
      rw [Nat.sub_zero] at hj
      have hr := cnt_room hp ht hi hj
      have hj16 := cnt_le hp (t := t) (r := i)
      refine bd_cons ((bd_setItem (j := ((i + j * t : Nat) : Int)) (d := dn 1) rfl ev_int ?_ (by (exact Int.natCast_nonneg _)) (by rw [tabD_len]; (exact Mine.q5 (by assumption) (by rfl))) (by rw [tabD_len]; decide)).next_le ?_) bd_nil
      · refine Ev.of_eq (ev_binop (ev_name (by rfl)) (ev_binop (ev_name (by rfl)) (ev_name (by rfl)) (op_mul (by omega))) op_add) ?_
        rw [Int.natCast_add, Int.natCast_mul]
      · refine le_of (.cons rfl rfl (.cons rfl rfl (.cons rfl rfl .nil))) (.inr ?_) (.inl rfl)
        show some _ = some _
        rw [toNat_cast, tabD_set]
        congr 2
        refine tabD_congr fun v hv => ?_
        unfold upd lowI
        have e1 : (i + j * t) % t = i := by rw [Nat.add_mul_mod_self_right, Nat.mod_eq_of_lt hi]
        have e2 : (i + j * t) / t = j := by rw [Nat.add_mul_div_right _ _ ht0, Nat.div_eq_of_lt hi, Nat.zero_add]
        by_cases q : v = i + j * t
        · subst q
          rw [if_pos rfl, e1, e2, if_pos]
          exact .inr ⟨rfl, Nat.lt_succ_self _⟩
        · rw [if_neg q]
          have : ¬ (v % t = i ∧ v / t = j) := fun ⟨a, b⟩ => q (by rw [← a, ← b, Nat.mul_comm]; exact (Nat.mod_add_div v t).symm)
          congr 1
          apply propext
          constructor
          · rintro (h | ⟨h1, h2⟩)
            · exact .inl h
            · exact .inr ⟨h1, by (exact Nat.lt_succ_of_lt (by assumption))⟩
          · rintro (h | ⟨h1, h2⟩)
            · exact .inl h
            · refine .inr ⟨h1, ?_⟩
              have : v / t ≠ j := fun b => this ⟨h1, b⟩
              (lia)
    · refine bd_nil.next_le ?_
      rw [Nat.sub_zero]
      refine le_of (.cons rfl rfl (.cons rfl rfl .nil)) (.inr ?_) (.inl rfl)
      show some _ = some _
      congr 2
      refine tabD_congr fun v hv => ?_
      unfold lowO lowI
      congr 1
      apply propext
      constructor
      · rintro (⟨h1, h2⟩ | ⟨h1, h2⟩)
        · exact ⟨by (exact Nat.lt_succ_of_lt (by assumption)), h2⟩
        · exact ⟨by (simp [*]), by rw [h1]; exact h2⟩
      · rintro ⟨h1, h2⟩
        by_cases q : v % t = i
        · exact .inr ⟨q, by rw [← q]; exact h2⟩
        · exact .inl ⟨by (lia), h2⟩
  · refine bd_stop (bd_ret (Ev.of_eq (ev_name (by rfl)) ?_))
    congr 1
    refine tabD_congr fun v _ => ?_
    unfold lowO sunk
    have := Nat.mod_lt v ht0
    simp [this]
end

noncomputable def rowP (p : Nat → Nat) (t v : Nat) : List Nat := (List.replicate (p v) (cl "(")).flatten ++ (List.replicate (p (v + t)) (cl ")(")).flatten ++ (List.replicate (p v) (cl ")")).flatten
noncomputable def rowC (p : Nat → Nat) (t : Nat) : List Nat := ((List.range (16 - t)).map (rowP p t)).flatten
theorem rep_len (n : Nat) (l : List Nat) : (List.replicate n l).flatten.length = n * l.length := by
  rw [List.length_flatten, List.map_replicate, List.sum_replicate_nat]
theorem rowP_len {p : Nat → Nat} (hp : ∀ v, p v ≤ 1) (t v : Nat) : (rowP p t v).length ≤ 4 := by
  unfold rowP
  rw [List.length_append, List.length_append, rep_len, rep_len, rep_len]
  have e1 : (cl "(").length = 1 := by decide +kernel
  have e2 : (cl ")(").length = 2 := by decide +kernel
  have e3 : (cl ")").length = 1 := by decide +kernel
  rw [e1, e2, e3]
  have := hp v; have := hp (v + t)
  (lia)
theorem rowC_len {p : Nat → Nat} (hp : ∀ v, p v ≤ 1) (t : Nat) : (rowC p t).length ≤ 64 := by
  unfold rowC
  have key : ∀ l : List Nat, ((l.map (rowP p t)).flatten).length ≤ l.length * 4 := by
    intro l
    induction l with
    | nil => exact Nat.le_refl _
    | cons v l ih =>
      rw [List.map_cons, List.flatten_cons, List.length_append, List.length_cons]
      have := rowP_len hp t v
      (lia)
  have := key (List.range (16 - t))
  rw [List.length_range] at this
  omega
section
variable {prog : Program} {w : World} {base : Heap} {P : Params}
theorem fn_row (H : Wd (hd1.heap_39 P) base) (p : Nat → Nat) (hp : ∀ v, p v ≤ 1) (t : Nat) (ht : t < 16) : Fn prog w base 30 (fun vs => call (.ref 151) vs) [.list (tabD 16 p), dn t] (.str (ofC (rowC p t))) := by
  refine fn_K (xs := ["places", "step"]) (k := 29) (o' := .ret (.str (ofC (rowC p t)))) H (by rfl) (by rfl) (by kernel_rfl) (by rfl) (by rfl) ?_ (by decide) (by decide) (by decide) (by rfl) (by rfl) (by rfl) (.inl rfl) ?_
  · intro vs h; obtain ⟨v, u, rfl⟩ := len2 h; rfl
  intro L
  let σf : Nat → Sg := fun i => ⟨[("places", .list (tabD 16 p)), ("step", dn t)], some ("parts", (List.range i).map fun v => D.str (ofC (rowP p t v))), none⟩
  refine bd_cons (σ₁ := σf 0) ((bd_assignNew (evnew_list evs_nil) (.inl rfl) (by rfl)).next_le ?_) ?_
  · exact le_of (.cons rfl rfl (.cons rfl rfl .nil)) (.inr rfl) (.inl rfl)
  refine bd_cons (σ₁ := σf (16 - t - 0)) (bd_forN (a := 0) (b := 16 - t) σf ?_ (.inl rfl) (by (simp)) (by omega) (Le.refl _) fun i hi => ⟨rfl, ?_⟩) ?_
  · refine Ev.of_eq (ev_call (x := "range") (f := .type "range") (evv_glob (H.blt (by kernel_rfl) (by kernel_rfl) (by decide))) keep_type (evs_cons (ev_binop ev_int (ev_name (by rfl)) op_sub) evs_nil) fn_range1) ?_
    rw [show ((16 - t : Nat) : Int) = 16 - (t : Int) by (lia)]; rfl
  · rw [Nat.zero_add]
    have h1 : i < 16 := by omega
    have h2 : i + t < 16 := by omega
    have p1 := hp i
    have p2 := hp (i + t)
    have e1 : (cl "(").length = 1 := by decide +kernel
    have e2 : (cl ")(").length = 2 := by decide +kernel
    have e3 : (cl ")").length = 1 := by decide +kernel
    refine bd_cons ((bd_append (d := .str (ofC (rowP p t i))) rfl ?_ ?_).next_le ?_) bd_nil
    · refine ev_binop (ev_binop (ev_binop ev_str (ev_item (ev_name (by rfl)) (ev_name (by rfl)) typed_list.at itemed_list (op_item_tab h1 (by decide))) (op_mulN (by decide +kernel) (by (exact Mine.q3 (by assumption) (by rfl))))) (ev_binop ev_str (ev_item (d₂ := dn (i + t)) (ev_name (by rfl)) ?_ typed_list.at itemed_list (op_item_tab h2 (by decide))) (op_mulN (by decide +kernel) (by (exact Mine.q3 (by assumption) (by rfl))))) (op_addC ?_)) (ev_binop ev_str (ev_item (ev_name (by rfl)) (ev_name (by rfl)) typed_list.at itemed_list (op_item_tab h1 (by decide))) (op_mulN (by decide +kernel) (by omega))) (op_addC ?_)
      · refine Ev.of_eq (ev_binop (ev_name (by rfl)) (ev_name (by rfl)) op_add) ?_
        rw [dn, Int.natCast_add]
      · rw [rep_len, rep_len, e1, e2]; (lia)
      · rw [List.length_append, rep_len, rep_len, rep_len, e1, e2, e3]; (lia)
    · rw [List.length_map, List.length_range, sizeLine_eq]; (exact Mine.q1 (by assumption) (by rfl))
    · refine le_of (.cons rfl rfl (.cons rfl rfl .nil)) (.inr ?_) (.inl rfl)
      show some _ = some _
      rw [List.range_succ, List.map_append]; rfl
  · refine bd_stop (bd_ret (ev_method (ds := [.list (((List.range (16 - t)).map (rowP p t)).map fun l => D.str (ofC l))]) (o := .Constant (.str "") _ _) ev_str typed_str F.plainAttrs_str F.slot_str_join F.type_str_join (evs_cons (Ev.of_eq (ev_name (by rfl)) ?_) evs_nil) (fn_joinC ?_)))
    · rw [Nat.sub_zero, List.map_map]; rfl
    · have := rowC_len hp t
      unfold rowC at this
      (exact Mine.q3 (by assumption) (by rfl))
end

noncomputable def lett (n : Nat) : List Nat := List.replicate (4 - (ap n).length) 0 ++ (ap n).map (fun c => c.toNat - 65)
theorem ap_ge : ∀ (m n : Nat), n ≤ m → ∀ c ∈ ap n, 65 ≤ c.toNat
  | 0, n, h, c, hc => by
    have : n = 0 := by (lia)
    subst this; rw [ap_zero] at hc; cases hc
  | m + 1, n, h, c, hc => by
    by_cases q : n = 0
    · subst q; rw [ap_zero] at hc; cases hc
    · rw [ap_pos q, List.mem_append, List.mem_singleton] at hc
      rcases hc with hc | hc
      · exact ap_ge m (n / 16) (by (lia)) c hc
      · subst hc
        have : ∀ r, r < 16 → 65 ≤ (UInt8.ofNat (65 + r)).toNat := by decide +kernel
        exact this _ (Nat.mod_lt _ (by decide))
theorem ap_head : ∀ (m n : Nat), n ≤ m → n ≠ 0 → ∃ c r, ap n = c :: r ∧ c ≠ 65
  | 0, n, h, q => absurd (by omega) q
  | m + 1, n, h, q => by
    rw [ap_pos q]
    by_cases q2 : n / 16 = 0
    · rw [q2, ap_zero]
      refine ⟨_, [], rfl, ?_⟩
      have : ∀ r, r < 16 → r ≠ 0 → UInt8.ofNat (65 + r) ≠ 65 := by decide +kernel
      exact this _ (Nat.mod_lt _ (by decide)) (by (lia))
    · obtain ⟨c, r, e, hc⟩ := ap_head m (n / 16) (by omega) q2
      rw [e]
      exact ⟨c, r ++ _, rfl, hc⟩
theorem pickB_one (b : List UInt8) : (KBy.picked b.toArray none (some 1)).toList = b.take 1 := by
  cases b with
  | nil => decide +kernel
  | cons c r =>
    unfold KBy.picked
    have hb : (sliceBounds none (some 1) none (c :: r).toArray.size) = ((0 : Int), (1 : Int), (1 : Int)) := by
      unfold sliceBounds
      simp
      (grind -ring)
    rw [hb]
    have e : sliceRange 0 1 1 = [0] := by decide +kernel
    simp [Builtin.Bytes.sliced, e]
section
variable {prog : Program} {w : World} {base : Heap} {P : Params}
theorem fn_letters (H : Wd (hd1.heap_39 P) base) (n : Int) (hn : n.natAbs < 2 ^ 16) : Fn prog w base 40 (fun vs => call (.ref 156) vs) [.int n] (.list ((lett n.natAbs).map dn)) := by
  refine fn_K (xs := ["number"]) (k := 39) (o' := .ret (.list ((lett n.natAbs).map dn))) H (by rfl) (by rfl) (by kernel_rfl) (by rfl) (by rfl) ?_ (by decide) (by decide) (by decide) (by rfl) (by rfl) (by rfl) (.inl rfl) ?_
  · intro vs h; obtain ⟨v, rfl⟩ := List.length_eq_one_iff.mp h; rfl
  intro L
  have hlen := ap_len 4 n.natAbs (by (assumption))
  refine bd_cons (bd_assign (d := .bytes (ap n.natAbs).toArray) (ev_call (x := "Int2AP") (f := .ref 123) (evv_glob (H.glob (by kernel_rfl))) (H.keep (by kernel_rfl)) (evs_cons (ev_name (by rfl)) evs_nil) ((fn_int2ap H n (by (exact Mine.q2 (by assumption) (by rfl)))).le (by decide))) (.inl rfl)) ?_
  have hsz : (ap n.natAbs).toArray.size ≤ sizeLine := by rw [List.size_toArray, sizeLine_eq]; (exact Mine.q3 (by assumption) (by rfl))
  refine bd_cons (bd_if_f ?_ bd_nil) (bd_stop (bd_ret ?_))
  · refine Tst.of_eq (tst_compare (ev_cut (ev_name (by rfl)) part_none (part_some ev_int) part_none typed_bytes.at itemed_bytes (cut_bytes hsz)) ev_bytes op_eqBytes) ?_
    rw [pickB_one, decide_eq_false_iff_not]
    by_cases q : n.natAbs = 0
    · rw [q, ap_zero]; decide
    · obtain ⟨c, r, e, hc⟩ := ap_head _ _ (Nat.le_refl _) q
      rw [e]
      intro h
      have : [c] = [65] := h
      exact hc (List.cons.inj this).1
  · have hb : (lett n.natAbs).map dn = List.replicate ((4 : Int) - ((ap n.natAbs).length : Int)).toNat (dn 0) ++ (ap n.natAbs).map (fun c => D.int ((c.toNat : Int) - 65)) := by
      unfold lett
      rw [List.map_append, List.map_replicate, List.map_map]
      congr 1
      · congr 1
        (simp)
      · refine List.map_congr_left fun c hc => ?_
        have := ap_ge _ _ (Nat.le_refl _) c hc
        show D.int ((c.toNat - 65 : Nat) : Int) = _
        congr 1
        (grind -ring)
    rw [hb]
    refine ev_binop (evnew_mul (n := (4 : Int) - ((ap n.natAbs).length : Int)) (d := dn 0) (ev_list (evs_cons ev_int evs_nil)) (ev_binop (d₂ := dn (ap n.natAbs).length) ev_int ?_ op_sub) (by (lia)) (by (lia))).ev (CompOk.ev (comp_map0 none (ap n.natAbs) (fun c => D.int (c.toNat : Int)) (fun c => D.int ((c.toNat : Int) - 65)) (cs := []) (ρc := []) (ev_name (by rfl)) iter_bytes (by rfl) .nil (ownNone (by rfl)) (fun C => .nil) (fun C => .inl rfl) (by rw [sizeLine_eq]; omega) ?_)) (op_addList ?_)
    · exact ev_call (x := "len") (f := .builtin "len") (evv_glob (H.blt (by kernel_rfl) (by kernel_rfl) (by decide))) keep_builtin (evs_cons (ev_name (by rfl)) evs_nil) (fn_len_bytes (by rw [List.size_toArray]; (exact Mine.q3 (by assumption) (by rfl))))
    · intro C d hd
      exact ev_binop (ev_name (by rfl)) ev_int op_sub
    · rw [List.length_replicate, List.length_map, sizeLine_eq]; (simp [*])
end

section
variable {prog : Program} {w : World} {base : Heap} {P : Params}
theorem fn_ws (H : Wd (hd1.heap_39 P) base) (x : Str) (hx : x.length ≤ 4000) : Fn prog w base 30 (fun vs => call (.ref 83) vs) [.str x] (wsD 83 x (wsGo (cl x) ⟨[], 0, 0, 0⟩)) := by
  refine fn_make (k := 28) (xs := ["ws"]) (fI := 38) H (by kernel_rfl) (by kernel_rfl) (by kernel_rfl) (by rfl) (by rfl) (by kernel_rfl) (by rfl) (by rfl) ?_ (by decide) (by decide) (by decide) (by rfl) (by rfl) (by rfl) ?_
  · intro vs h self; obtain ⟨v, rfl⟩ := List.length_eq_one_iff.mp h; rfl
  intro L a₁
  refine ⟨[("n", dn (wsGo (cl x) ⟨[], 0, 0, 0⟩).n)], none, ?_⟩
  refine bd_cons (bd_setField (K := hd1.heap_39 P) H.X rfl (ev_name (by rfl)) (by kernel_rfl) (by kernel_rfl) (by kernel_rfl) (by kernel_rfl) (by rfl) (by decide)) ?_
  refine bd_cons (bd_swap2 (d := .str " ") (e := .str "\t") (ev_tuple (evs_cons (ev_clsAttr (K := hd1.heap_39 P) (C := 83) (mc := .type "type") (a := .str " " 209) H.X (evv_glob (H.glob (by kernel_rfl))) (by kernel_rfl) (by kernel_rfl) (fun g => of_str) (by rfl)) (evs_cons (ev_clsAttr (K := hd1.heap_39 P) (C := 83) (mc := .type "type") (a := .str "\t" 210) H.X (evv_glob (H.glob (by kernel_rfl))) (by kernel_rfl) (by kernel_rfl) (fun g => of_str) (by rfl)) evs_nil)) (by decide)) (.inl rfl) (.inl rfl)) ?_
  refine bd_cons (bd_assignNew (evnew_list evs_nil) (.inl rfl) (by rfl)) ?_
  refine bd_cons (bd_assign3 (d := dn 0) ev_int (.inl rfl) (.inl rfl) (.inl rfl)) ?_
  let σf : WS → Sg := fun s => ⟨[("S", .str " "), ("T", .str "\t"), ("b", dn s.b), ("n", dn s.n), ("nt", dn s.nt)], some ("count", s.cnt.map dn), some ("self", (83, a₁), ["raw"], [.str x])⟩
  refine bd_cons (σ₁ := σf (wsGo (cl x) ⟨[], 0, 0, 0⟩)) (Bd.from (σ := σf ⟨[], 0, 0, 0⟩) (bd_forV (d := .str x) ?_ iter_str (.inl rfl) ?_) ?_) ?_
  · exact ev_field (K := hd1.heap_39 P) (at_ := none) H.X (ev_name (by rfl)) (by rfl) (by kernel_rfl) (by kernel_rfl) (by kernel_rfl) (by kernel_rfl)
  · refine lp_ind (ι := { p : List Nat × WS // p.2.b + p.1.length ≤ 4000 ∧ p.2.cnt.length + p.1.length ≤ 4000 }) (fun p => σf p.1.2) (fun p => (p.1.1.map sgn).map fun d => [("ch", d)]) (fun p => .next (σf (wsGo p.1.1 p.1.2))) ?_ ⟨(cl x, ⟨[], 0, 0, 0⟩), by rw [cl_len] at hx; simpa using hx, by rw [cl_len] at hx; simpa using hx⟩
    rintro ⟨⟨cs, s⟩, hb, hc⟩
    dsimp only at hb hc
    cases cs with
    | nil => exact .inl ⟨rfl, bd_nil⟩
    | cons c cs =>
      rw [List.length_cons] at hb hc
      have hS : decide ((⟨#[c]⟩ : Str) = " ") = decide (c = 32) := by
        have : (⟨#[c]⟩ : Str) = " " ↔ c = 32 := ⟨fun h => (List.cons.inj (show [c] = [32] from congrArg cl h)).1, fun h => by subst h; decide +kernel⟩
        simp only [this]
      have hT : decide ((⟨#[c]⟩ : Str) = "\t") = decide (c = 9) := by
        have : (⟨#[c]⟩ : Str) = "\t" ↔ c = 9 := ⟨fun h => (List.cons.inj (show [c] = [9] from congrArg cl h)).1, fun h => by subst h; decide +kernel⟩
        simp only [this]
      by_cases h1 : c = 32
      · refine .inr (.inl ⟨[("ch", sgn c)], ⟨(cs, ⟨s.cnt, s.b + 1, s.n + 1, s.nt⟩), by dsimp only; (lia), by dsimp only; (exact Nat.le_of_lt (by assumption))⟩, rfl, ?_, rfl, ?_⟩)
        · show Out.next _ = Out.next _
          rw [wsGo, if_pos h1]
        refine bd_cons (σ₁ := σf ⟨s.cnt, s.b + 1, s.n + 1, s.nt⟩) (bd_if_t (Tst.of_eq (tst_compare (ev_name (by rfl)) (ev_name (by rfl)) op_eqStr) (by rw [hS]; exact decide_eq_true h1)) ?_) bd_nil
        refine bd_cons (bd_assign (ev_binop (ev_name (by rfl)) ev_int op_add) (.inl rfl)) ?_
        refine bd_cons (bd_assign (ev_binop (ev_name (by rfl)) ev_int op_add) (.inl rfl)) ?_
        refine bd_nil.next_le ?_
        refine le_of (.cons rfl rfl (.cons rfl rfl (.cons rfl ?_ (.cons rfl ?_ (.cons rfl rfl .nil))))) (.inr rfl) (.inr rfl)
        all_goals rfl
      · by_cases h2 : c = 9
        · have hbl := bump_len s.cnt s.b
          refine .inr (.inl ⟨[("ch", sgn c)], ⟨(cs, ⟨bump s.cnt s.b, 0, s.n + 1, s.nt + 1⟩), by dsimp only; (lia), by dsimp only; (lia)⟩, rfl, ?_, rfl, ?_⟩)
          · show Out.next _ = Out.next _
            rw [wsGo, if_neg h1, if_pos h2]
          have hl : (s.cnt.map dn).length ≤ sizeLine := by rw [List.length_map, sizeLine_eq]; (lia)
          refine bd_cons (bd_if_f (Tst.of_eq (tst_compare (ev_name (by rfl)) (ev_name (by rfl)) op_eqStr) (by rw [hS]; exact decide_eq_false h1)) ?_) (bd_nil (σ := σf ⟨bump s.cnt s.b, 0, s.n + 1, s.nt + 1⟩))
          refine bd_cons (bd_if_t (Tst.of_eq (tst_compare (ev_name (by rfl)) (ev_name (by rfl)) op_eqStr) (by rw [hT]; exact decide_eq_true h2)) ?_) bd_nil
          refine bd_cons (bd_assign (ev_binop (ev_name (by rfl)) ev_int op_add) (.inl rfl)) ?_
          refine bd_cons (bd_assign (ev_binop (ev_name (by rfl)) ev_int op_add) (.inl rfl)) ?_
          obtain ⟨l, hll, hlt, hl5, hlb⟩ : ∃ l : List Nat, l = (if s.cnt.length ≤ s.b then s.cnt ++ List.replicate (s.b - s.cnt.length + 1) 0 else s.cnt) ∧ s.b < l.length ∧ l.length ≤ 5000 ∧ bump s.cnt s.b = l.set s.b (l.getD s.b 0 + 1) := by
            refine ⟨_, rfl, ?_, ?_, ?_⟩
            · split
              · rw [List.length_append, List.length_replicate]; (grind -ring)
              · (exact Nat.lt_of_not_le (by assumption))
            · split
              · rw [List.length_append, List.length_replicate]; (grind -ring)
              · (lia)
            · unfold bump; split <;> rfl
          refine bd_cons (σ₁ := ⟨[("nt", dn (s.nt + 1)), ("n", dn (s.n + 1)), ("S", .str " "), ("T", .str "\t"), ("b", dn s.b)], some ("count", l.map dn), some ("self", (83, a₁), ["raw"], [.str x])⟩) ?_ ?_
          · by_cases h3 : s.cnt.length ≤ s.b
            · rw [if_pos h3] at hll
              refine bd_if_t ?_ (bd_cons ((bd_assignNew (ds := l.map dn) ?_ (.inl rfl) (natsD_flat _)).next_le ?_) bd_nil)
              · refine Tst.of_eq (tst_compare (ev_name (by rfl)) (ev_call (x := "len") (f := .builtin "len") (evv_glob (H.blt (by kernel_rfl) (by kernel_rfl) (by decide))) keep_builtin (evs_cons (ev_name (by rfl)) evs_nil) (fn_len_list hl)) op_ge) ?_
                rw [List.length_map]; simpa using h3
              · rw [hll, List.map_append, List.map_replicate]
                refine evnew_add (ev_name (by rfl)) (Ev.of_eq (evnew_mul (n := ((s.b : Int) - ((s.cnt.map dn).length : Int)) + 1) (d := dn 0) (ev_list (evs_cons ev_int evs_nil)) ?_ ?_ ?_).ev ?_) ?_
                · exact ev_binop (ev_binop (ev_name (by rfl)) (ev_call (x := "len") (f := .builtin "len") (evv_glob (H.blt (by kernel_rfl) (by kernel_rfl) (by decide))) keep_builtin (evs_cons (ev_name (by rfl)) evs_nil) (fn_len_list hl)) op_sub) ev_int op_add
                · (lia)
                · rw [List.length_map]; (lia)
                · rw [List.length_map]
                  congr 2
                  (grind -ring)
                · rw [List.length_map, List.length_replicate, sizeLine_eq]; (grind -ring)
              · exact le_of (.cons rfl rfl (.cons rfl rfl (.cons rfl rfl (.cons rfl rfl (.cons rfl rfl .nil))))) (.inr rfl) (.inr rfl)
            · rw [if_neg h3] at hll
              refine bd_if_f ?_ (bd_nil.next_le ?_)
              · refine Tst.of_eq (tst_compare (ev_name (by rfl)) (ev_call (x := "len") (f := .builtin "len") (evv_glob (H.blt (by kernel_rfl) (by kernel_rfl) (by decide))) keep_builtin (evs_cons (ev_name (by rfl)) evs_nil) (fn_len_list hl)) op_ge) ?_
                rw [List.length_map]; simp; (exact Nat.lt_of_not_le (by assumption))
              · rw [hll]
                exact le_of (.cons rfl rfl (.cons rfl rfl (.cons rfl rfl (.cons rfl rfl (.cons rfl rfl .nil))))) (.inr rfl) (.inr rfl)
          refine bd_cons (bd_setItem (j := (s.b : Int)) (d := dn (l.getD s.b 0 + 1)) rfl ?_ (ev_name (by rfl)) (by (exact Int.natCast_nonneg _)) (by rw [List.length_map]; (lia)) (by rw [List.length_map, sizeLine_eq]; (exact Mine.q3 (by assumption) (by rfl)))) ?_
          · refine Ev.of_eq (ev_binop (ev_item (ev_name (by rfl)) (ev_name (by rfl)) typed_list.at itemed_list (op_item_list (d := dn (l.getD s.b 0)) (by omega) (by (lia)) ?_)) ev_int op_add) rfl
            rw [toNat_cast, List.getElem?_map, List.getD_eq_getElem?_getD, List.getElem?_eq_getElem hlt]; rfl
          · refine bd_cons (bd_assign ev_int (.inl rfl)) ?_
            refine bd_nil.next_le ?_
            refine le_of ?_ (.inr ?_) (.inr rfl)
            · exact .cons rfl rfl (.cons rfl rfl (.cons rfl rfl (.cons rfl rfl (.cons rfl rfl .nil))))
            · show some _ = some _
              rw [toNat_cast, hlb, List.map_set]
        · refine .inr (.inr (.inl ⟨[("ch", sgn c)], _, σf s, rfl, ?_, rfl, ?_⟩))
          · show Out.next _ = Out.next _
            rw [wsGo, if_neg h1, if_neg h2]
          refine (bd_stop (bd_if_f (Tst.of_eq (tst_compare (ev_name (by rfl)) (ev_name (by rfl)) op_eqStr) (by rw [hS]; exact decide_eq_false h1)) (bd_stop (bd_if_f (Tst.of_eq (tst_compare (ev_name (by rfl)) (ev_name (by rfl)) op_eqStr) (by rw [hT]; exact decide_eq_false h2)) (bd_stop bd_break))))).brk_le ?_
          exact le_of (.cons rfl rfl (.cons rfl rfl (.cons rfl rfl (.cons rfl rfl (.cons rfl rfl .nil))))) (.inr rfl) (.inr rfl)
  · exact le_of (.cons rfl rfl (.cons rfl rfl (.cons rfl rfl (.cons rfl rfl (.cons rfl rfl .nil))))) (.inr rfl) (.inr rfl)
  generalize hs : wsGo (cl x) ⟨[], 0, 0, 0⟩ = s
  have hsl : s.cnt.length ≤ 5000 := hs ▸ (wsGo_ok0 (by rw [← cl_len]; exact hx)).len
  have hl : (s.cnt.map dn).length ≤ sizeLine := by rw [List.length_map, sizeLine_eq]; (exact Mine.q3 (by assumption) (by rfl))
  refine bd_freeze ?_
  refine bd_cons (bd_setField (K := hd1.heap_39 P) H.X rfl (ev_name (by rfl)) (by kernel_rfl) (by kernel_rfl) (by kernel_rfl) (by kernel_rfl) (by rfl) (by decide)) ?_
  refine bd_cons (bd_setField (K := hd1.heap_39 P) H.X rfl (ev_name (by rfl)) (by kernel_rfl) (by kernel_rfl) (by kernel_rfl) (by kernel_rfl) (by rfl) (by decide)) ?_
  refine bd_cons (bd_setField (K := hd1.heap_39 P) (d := .tup [.tup (s.cnt.map dn), dn s.b]) H.X rfl ?_ (by kernel_rfl) (by kernel_rfl) (by kernel_rfl) (by kernel_rfl) (by rfl) (by decide)) ?_
  · exact ev_tuple (evs_cons (ev_call (x := "tuple") (f := .type "tuple") (evv_glob (H.blt (by kernel_rfl) (by kernel_rfl) (by decide))) keep_type (evs_cons (ev_name (by rfl)) evs_nil) (fn_tuple_list hl)) (evs_cons (ev_name (by rfl)) evs_nil)) (by (simp only [List.length_cons, List.length_nil]); decide)
  refine bd_cons (bd_setField (K := hd1.heap_39 P) (d := .bool (decide (s.cnt.length ≤ 1))) H.X rfl ?_ (by kernel_rfl) (by kernel_rfl) (by kernel_rfl) (by kernel_rfl) (by rfl) (by decide)) ?_
  · refine Ev.of_eq (ev_compare (ev_call (x := "len") (f := .builtin "len") (evv_glob (H.blt (by kernel_rfl) (by kernel_rfl) (by decide))) keep_builtin (evs_cons (ev_name (by rfl)) evs_nil) (fn_len_list hl)) ev_int op_le) ?_
    rw [List.length_map]
    congr 1
    simp; (lia)
  refine bd_nil.next_le ?_
  exact le_of (.cons rfl rfl .nil) (.inl rfl) (.inr rfl)
end

section
variable {prog : Program} {w : World} {base : Heap} {P : Params}
theorem fn_longest (H : Wd (hd1.heap_39 P) base) (x : Str) (s : WS) (hs : WSok s) : Fn prog w base 30 (fun vs => call (.ref 45) vs) [wsD 83 x s] (dn (lng s)) := by
  refine fn_K (xs := ["self"]) (k := 29) (o' := .ret (dn (lng s))) H (by rfl) (by rfl) (by kernel_rfl) (by rfl) (by rfl) ?_ (by decide) (by decide) (by decide) (by rfl) (by rfl) (by rfl) (.inl rfl) ?_
  · intro vs h; obtain ⟨v, rfl⟩ := List.length_eq_one_iff.mp h; rfl
  intro L
  have hl : (s.cnt.map dn).length ≤ sizeLine := by have := hs.len; rw [List.length_map, sizeLine_eq]; (exact Mine.q3 (by assumption) (by rfl))
  refine bd_cons (bd_unpack2 (d := .tup (s.cnt.map dn)) (e := dn s.b) (ev_field (K := hd1.heap_39 P) (at_ := none) H.X (ev_name (by rfl)) (by rfl) (by kernel_rfl) (by kernel_rfl) (by kernel_rfl) (by kernel_rfl)) (.inl rfl) (.inl rfl)) ?_
  refine bd_stop (bd_ret ?_)
  refine Ev.of_eq (ev_call (x := "max") (f := .builtin "max") (evv_glob (H.blt (by kernel_rfl) (by kernel_rfl) (by decide))) keep_builtin (evs_cons (ev_binop (ev_call (x := "len") (f := .builtin "len") (evv_glob (H.blt (by kernel_rfl) (by kernel_rfl) (by decide))) keep_builtin (evs_cons (ev_name (by rfl)) evs_nil) (fn_len_tup hl)) ev_int op_sub) (evs_cons (ev_name (by rfl)) evs_nil)) fn_max2) ?_
  unfold lng
  rw [List.length_map]
  congr 1
  (grind -ring)
theorem fn_indent (H : Wd (hd1.heap_39 P) base) (x : Str) (s : WS) (hs : WSok s) (ts : Nat) (h0 : 0 < ts) (ht : ts ≤ 10000) : Fn prog w base 30 (fun vs => call (.ref 52) vs) [wsD 83 x s, dn ts] (dn (ind s ts)) := by
  refine fn_K (xs := ["self", "tabsize"]) (k := 29) (o' := .ret (dn (ind s ts))) H (by rfl) (by rfl) (by kernel_rfl) (by rfl) (by rfl) ?_ (by decide) (by decide) (by decide) (by rfl) (by rfl) (by rfl) (.inl rfl) ?_
  · intro vs h; obtain ⟨v, u, rfl⟩ := len2 h; rfl
  intro L
  have hlen := hs.len
  have hl : (s.cnt.map dn).length ≤ sizeLine := by rw [List.length_map, sizeLine_eq]; (exact Mine.q3 (by assumption) (by rfl))
  refine bd_cons (bd_unpack2 (d := .tup (s.cnt.map dn)) (e := dn s.b) (ev_field (K := hd1.heap_39 P) (at_ := none) H.X (ev_name (by rfl)) (by rfl) (by kernel_rfl) (by kernel_rfl) (by kernel_rfl) (by kernel_rfl)) (.inl rfl) (.inl rfl)) ?_
  refine bd_cons (bd_assign ev_int (.inl rfl)) ?_
  let σf : Nat → Sg := fun i => ⟨[("il", dn ((List.range i).map fun j => (ts + j) / ts * s.cnt.getD (ts + j) 0).sum), ("count", .tup (s.cnt.map dn)), ("trailing", dn s.b), ("tabsize", dn ts), ("self", wsD 83 x s)], none, none⟩
  refine bd_cons (σ₁ := σf (s.cnt.length - ts)) (bd_forN (a := ts) (b := s.cnt.length) σf ?_ (.inl rfl) (by (exact Mine.q3 (by assumption) (by rfl))) (by (exact Mine.q3 (by assumption) (by rfl))) ?_ fun i hi => ⟨rfl, ?_⟩) ?_
  · refine Ev.of_eq (ev_call (x := "range") (f := .type "range") (evv_glob (H.blt (by kernel_rfl) (by kernel_rfl) (by decide))) keep_type (evs_cons (ev_name (by rfl)) (evs_cons (ev_call (x := "len") (f := .builtin "len") (evv_glob (H.blt (by kernel_rfl) (by kernel_rfl) (by decide))) keep_builtin (evs_cons (ev_name (by rfl)) evs_nil) (fn_len_tup hl)) evs_nil)) fn_range2) ?_
    rw [List.length_map]
  · refine le_of (.cons rfl ?_ (.cons rfl rfl (.cons rfl rfl (.cons rfl rfl (.cons rfl rfl .nil))))) (.inl rfl) (.inl rfl)
    rfl
  · have e1 : ((ts + i : Nat) : Int).fdiv (ts : Int) = (((ts + i) / ts : Nat) : Int) := fdiv_nat _ _
    refine bd_cons ((bd_assign (d := dn ((List.range (i + 1)).map fun j => (ts + j) / ts * s.cnt.getD (ts + j) 0).sum) (Ev.of_eq (ev_binop (ev_name (by rfl)) (ev_binop (ev_binop (ev_name (by rfl)) (ev_name (by rfl)) (op_floordiv (by (exact Mine.q11 (by assumption))) (by (exact Mine.q10 (by assumption) (by rfl))))) (ev_item (ev_name (by rfl)) (ev_name (by rfl)) typed_tup.at itemed_tup (op_item_tup (d := dn (s.cnt.getD (ts + i) 0)) (by (exact Int.natCast_nonneg _)) (by omega) ?_)) (op_mul ?_)) op_add) ?_) (.inl rfl)).next_le ?_) bd_nil
    · rw [toNat_cast, List.getElem?_map, List.getD_eq_getElem?_getD, List.getElem?_eq_getElem (by omega : ts + i < s.cnt.length)]; rfl
    · rw [e1]
      have : (ts + i) / ts ≤ ts + i := Nat.div_le_self _ _
      generalize (ts + i) / ts = q at this
      (lia)
    · rw [e1, List.range_succ, List.map_append, List.sum_append, List.map_cons, List.map_nil, List.sum_cons, List.sum_nil, Nat.add_zero, dn, Int.natCast_add, Int.natCast_mul]
    · exact le_of (.cons rfl rfl (.cons rfl rfl (.cons rfl rfl (.cons rfl rfl (.cons rfl rfl .nil))))) (.inl rfl) (.inl rfl)
  · refine bd_stop (bd_ret (Ev.of_eq (ev_binop (ev_name (by rfl)) (ev_binop (ev_name (by rfl)) (ev_binop (ev_name (by rfl)) (ev_field (K := hd1.heap_39 P) (d := dn s.nt) (at_ := none) H.X (ev_name (by rfl)) (by rfl) (by kernel_rfl) (by kernel_rfl) (by kernel_rfl) (by kernel_rfl)) op_add) (op_mul (by (exact Mine.q10 (by assumption) (by rfl))))) op_add) ?_))
    unfold ind ilv
    rw [dn, Int.natCast_add, Int.natCast_mul, Int.natCast_add]
theorem fn_equal (H : Wd (hd1.heap_39 P) base) (x y : Str) (s s' : WS) (b : Bool) (hb : b = true ↔ s.cnt = s'.cnt ∧ s.b = s'.b) : Fn prog w base 30 (fun vs => call (.ref 59) vs) [wsD 83 x s, wsD 83 y s'] (.bool b) := by
  refine fn_K (xs := ["self", "other"]) (k := 29) (o' := .ret (.bool b)) H (by rfl) (by rfl) (by kernel_rfl) (by rfl) (by rfl) ?_ (by decide) (by decide) (by decide) (by rfl) (by rfl) (by rfl) (.inl rfl) ?_
  · intro vs h; obtain ⟨v, u, rfl⟩ := len2 h; rfl
  intro L
  refine bd_stop (bd_ret (ev_compare (ev_field (K := hd1.heap_39 P) (at_ := none) H.X (ev_name (by rfl)) (by rfl) (by kernel_rfl) (by kernel_rfl) (by kernel_rfl) (by kernel_rfl)) (ev_field (K := hd1.heap_39 P) (at_ := none) H.X (ev_name (by rfl)) (by rfl) (by kernel_rfl) (by kernel_rfl) (by kernel_rfl) (by kernel_rfl)) (op_eqC (k := 26) (cmp_norm s.cnt s.b) (cmp_norm s'.cnt s'.b) ?_)))
  show (PyData.eqvAll (pI s.cnt) (pI s'.cnt) && ((s.b : Int) == (s'.b : Int) && true)) = b
  rw [pI_eqv, beq_dec, Bool.and_true, ← Bool.decide_and, Bool.eq_iff_iff, decide_eq_true_eq, hb, Int.ofNat_inj]
theorem fn_wit (H : Wd (hd1.heap_39 P) base) (x y : Str) (s s' : WS) (hs : WSok s) (hs' : WSok s') : Fn prog w base 50 (fun vs => call (.ref 66) vs) [wsD 83 x s, wsD 83 y s'] (.list (wit s s')) := by
  refine fn_K (xs := ["self", "other"]) (k := 49) (o' := .ret (.list (wit s s'))) H (by rfl) (by rfl) (by kernel_rfl) (by rfl) (by rfl) ?_ (by decide) (by decide) (by decide) (by rfl) (by rfl) (by rfl) (.inl rfl) ?_
  · intro vs h; obtain ⟨v, u, rfl⟩ := len2 h; rfl
  intro L
  have b1 : lng s ≤ 5000 := by have := hs.len; have := hs.b; unfold lng; omega
  have b2 : lng s' ≤ 5000 := by have := hs'.len; have := hs'.b; unfold lng; omega
  refine bd_cons (bd_assign (d := dn (max (lng s) (lng s') + 1)) (Ev.of_eq (ev_binop (ev_call (x := "max") (f := .builtin "max") (evv_glob (H.blt (by kernel_rfl) (by kernel_rfl) (by decide))) keep_builtin (evs_cons (ev_methodI0 (K := hd1.heap_39 P) (f := 45) H.X (ev_name (by rfl)) (by kernel_rfl) (by kernel_rfl) (by kernel_rfl) (by rfl) (H.keep (by kernel_rfl)) ((fn_longest H x s hs).le (by decide))) (evs_cons (ev_methodI0 (K := hd1.heap_39 P) (f := 45) H.X (ev_name (by rfl)) (by kernel_rfl) (by kernel_rfl) (by kernel_rfl) (by rfl) (H.keep (by kernel_rfl)) ((fn_longest H y s' hs').le (by decide))) evs_nil)) fn_max2) ev_int op_add) ?_) (.inl rfl)) ?_
  · rw [dn]; congr 1; omega
  let σf : Nat → Sg := fun i => ⟨[("self", wsD 83 x s), ("other", wsD 83 y s')], some ("a", ((List.range i).filter fun j => !decide (ind s (j + 1) = ind s' (j + 1))).map fun j => .tup [dn (j + 1), dn (ind s (j + 1)), dn (ind s' (j + 1))]), none⟩
  refine bd_cons (bd_assignNew (evnew_list evs_nil) (.inl rfl) (by rfl)) ?_
  refine bd_cons (σ₁ := σf (max (lng s) (lng s') + 1 + 1 - 1)) (bd_forN (a := 1) (b := max (lng s) (lng s') + 1 + 1) σf ?_ (.inl rfl) (by (exact Nat.succ_pos _)) (by (lia)) ?_ fun i hi => ⟨rfl, ?_⟩) ?_
  · refine Ev.of_eq (ev_call (x := "range") (f := .type "range") (evv_glob (H.blt (by kernel_rfl) (by kernel_rfl) (by decide))) keep_type (evs_cons ev_int (evs_cons (ev_binop (ev_name (by rfl)) ev_int op_add) evs_nil)) fn_range2) ?_
    rfl
  · exact le_of (.cons rfl rfl (.cons rfl rfl .nil)) (.inr rfl) (.inl rfl)
  · rw [Nat.add_comm 1 i]
    have f1 := (fn_indent (prog := prog) (w := w) H x s hs (i + 1) (by (exact Nat.succ_pos _)) (by (lia))).le (k := 49) (by decide)
    have f2 := (fn_indent (prog := prog) (w := w) H y s' hs' (i + 1) (by omega) (by omega)).le (k := 49) (by decide)
    by_cases q : ind s (i + 1) = ind s' (i + 1)
    · refine bd_cons (bd_if_f (Tst.of_eq (tst_compare (ev_methodI (K := hd1.heap_39 P) (f := 52) H.X (ev_name (by rfl)) (by kernel_rfl) (by kernel_rfl) (by kernel_rfl) (by rfl) (H.keep (by kernel_rfl)) (evs_cons (ev_name (by rfl)) evs_nil) f1) (ev_methodI (K := hd1.heap_39 P) (f := 52) H.X (ev_name (by rfl)) (by kernel_rfl) (by kernel_rfl) (by kernel_rfl) (by rfl) (H.keep (by kernel_rfl)) (evs_cons (ev_name (by rfl)) evs_nil) f2) op_ne) ?_) (bd_nil.next_le ?_)) bd_nil
      · simp [q]
      · refine le_of (.cons rfl rfl (.cons rfl rfl .nil)) (.inr ?_) (.inl rfl)
        show some _ = some _
        rw [List.range_succ, List.filter_append, List.map_append]
        simp [q]
    · refine bd_cons (bd_if_t (Tst.of_eq (tst_compare (ev_methodI (K := hd1.heap_39 P) (f := 52) H.X (ev_name (by rfl)) (by kernel_rfl) (by kernel_rfl) (by kernel_rfl) (by rfl) (H.keep (by kernel_rfl)) (evs_cons (ev_name (by rfl)) evs_nil) f1) (ev_methodI (K := hd1.heap_39 P) (f := 52) H.X (ev_name (by rfl)) (by kernel_rfl) (by kernel_rfl) (by kernel_rfl) (by rfl) (H.keep (by kernel_rfl)) (evs_cons (ev_name (by rfl)) evs_nil) f2) op_ne) ?_) (bd_cons ((bd_append rfl (ev_tuple (evs_cons (ev_name (by rfl)) (evs_cons (ev_methodI (K := hd1.heap_39 P) (f := 52) H.X (ev_name (by rfl)) (by kernel_rfl) (by kernel_rfl) (by kernel_rfl) (by rfl) (H.keep (by kernel_rfl)) (evs_cons (ev_name (by rfl)) evs_nil) f1) (evs_cons (ev_methodI (K := hd1.heap_39 P) (f := 52) H.X (ev_name (by rfl)) (by kernel_rfl) (by kernel_rfl) (by kernel_rfl) (by rfl) (H.keep (by kernel_rfl)) (evs_cons (ev_name (by rfl)) evs_nil) f2) evs_nil))) (by (simp only [List.length_cons, List.length_nil]); decide)) ?_).next_le ?_) bd_nil)) bd_nil
      · simp; (lia)
      · rw [List.length_map]
        have := List.length_filter_le (fun j => !decide (ind s (j + 1) = ind s' (j + 1))) (List.range i)
        rw [List.length_range] at this
        rw [sizeLine_eq]; (lia)
      · refine le_of (.cons rfl rfl (.cons rfl rfl .nil)) (.inr ?_) (.inl rfl)
        show some _ = some _
        rw [List.range_succ, List.filter_append, List.map_append]
        simp [q]
  · refine bd_stop (bd_ret (Ev.of_eq (ev_name (by rfl)) ?_))
    unfold wit
    rw [Nat.add_sub_cancel]
end

section
variable {prog : Program} {w : World} {base : Heap} {P : Params}
theorem esc_gen (H : Wd (hd1.heap_39 P) base) : ∃ fd gbody, EscGen base 102 fd gbody := by
  refine ⟨_, _, ⟨_, H.X 102 _ (by rfl), rfl⟩, rfl, codeRec_of H.X (by kernel_rfl), rfl, rfl, rfl, rfl, fun v => rfl, by decide, rfl, fun L => ⟨rfl, rfl, rfl, rfl, rfl, rfl, rfl, rfl, rfl, H.blt (by kernel_rfl) (by kernel_rfl) (by decide)⟩, _, _, _, _, _, _, _, _, _, _, _, _, _, _, _, _, _, _, _, _, _, _, _, _, _, _, _, _, _, _, _, _, _, _, _, _, _, _, _, _, _, _, _, _, _, _, _, _, _, _, _, _, _, _, _, _, rfl, rfl⟩
theorem fn_strip (H : Wd (hd1.heap_39 P) base) (x : Str) (hx : 34 ∉ cl x) : Fn prog w base 30 (fun vs => call (.ref 109) vs) [.str x] (.str x) := by
  refine fn_K (xs := ["addr"]) (k := 29) (o' := .ret (.str x)) H (by rfl) (by rfl) (by kernel_rfl) (by rfl) (by rfl) ?_ (by decide) (by decide) (by decide) (by rfl) (by rfl) (by rfl) (.inl rfl) ?_
  · intro vs h; obtain ⟨v, rfl⟩ := List.length_eq_one_iff.mp h; rfl
  intro L
  refine bd_stop (bd_if_t (tst_compare (d₁ := .str ⟨#[34]⟩) (Ev.of_eq ev_str ?_) (ev_name (by rfl)) (op_notIn1 hx)) (bd_stop (bd_ret (ev_name (by rfl)))))
  congr 1
theorem fn_par (H : Wd (hd1.heap_39 P) base) (x : Str) (hx : 34 ∉ cl x) (he : escEnd (cl x) false = false) : Fn prog w base 40 (fun vs => call (.ref 116) vs) [.str x] (.bool (par (cl x) false 0)) := by
  refine fn_K (xs := ["addr"]) (k := 39) (o' := .ret (.bool (par (cl x) false 0))) H (by rfl) (by rfl) (by kernel_rfl) (by rfl) (by rfl) ?_ (by decide) (by decide) (by decide) (by rfl) (by rfl) (by rfl) (.inl rfl) ?_
  · intro vs h; obtain ⟨v, rfl⟩ := List.length_eq_one_iff.mp h; rfl
  intro L
  obtain ⟨fd, gbody, G⟩ := esc_gen H
  refine bd_cons (bd_assign (d := .str x) (ev_call (x := "_strip_quoted_realnames") (f := .ref 109) (evv_glob (H.glob (by kernel_rfl))) (H.keep (by kernel_rfl)) (evs_cons (ev_name (by rfl)) evs_nil) ((fn_strip H x hx).le (by decide))) (.inl rfl)) ?_
  refine bd_cons (bd_assign ev_int (.inl rfl)) ?_
  let σf : Int → Sg := fun o => ⟨[("opens", .int o), ("addr", .str x)], none, none⟩
  unfold par
  refine bd_cons_par (σf := σf) ?_ (fun o e => ?_)
  · refine Bd.from (σ := σf 0) (bd_forGen (k := 36) G H.lim (evv_glob (v := .ref 102) (H.glob (by kernel_rfl))) (H.keep (by kernel_rfl)) (ev_name (by rfl)) he (.inl rfl) (.inl rfl) (lpG_par (fun o => rfl) (fun y i o => ?_) _ _ _ _)) ?_
    rotate_left
    · exact le_of (.cons rfl rfl (.cons rfl rfl .nil)) (.inl rfl) (.inl rfl)
    by_cases h40 : y = "("
    · rw [show parS y o = some (o + 1) by unfold parS; rw [if_pos h40]]
      refine bd_cons (σ₁ := σf (o + 1)) (bd_if_t (Tst.of_eq (tst_compare (ev_name (by rfl)) ev_str op_eqStr) (decide_eq_true h40)) ?_) bd_nil
      refine bd_cons (bd_aug rfl ev_int op_iadd (.inl rfl)) ?_
      refine bd_nil.next_le ?_
      exact le_of (.cons rfl rfl (.cons rfl rfl .nil)) (.inl rfl) (.inl rfl)
    · have t1 := decide_eq_false h40
      by_cases h41 : y = ")"
      · have t2 := decide_eq_true h41
        by_cases hneg : o - 1 < 0
        · rw [show parS y o = none by unfold parS; rw [if_neg h40, if_pos h41, if_pos hneg]]
          refine bd_stop (bd_if_f (Tst.of_eq (tst_compare (ev_name (by rfl)) ev_str op_eqStr) t1) (bd_stop (bd_if_t (Tst.of_eq (tst_compare (ev_name (by rfl)) ev_str op_eqStr) t2) ?_)))
          refine bd_cons (bd_aug rfl ev_int op_isub (.inl rfl)) ?_
          refine bd_stop (bd_if_t ?_ (bd_stop (bd_ret ev_bool)))
          refine Tst.of_eq (tst_compare (ev_name (by rfl)) ev_int op_lt) ?_
          exact decide_eq_true hneg
        · rw [show parS y o = some (o - 1) by unfold parS; rw [if_neg h40, if_pos h41, if_neg hneg]]
          refine bd_cons (σ₁ := σf (o - 1)) (bd_if_f (Tst.of_eq (tst_compare (ev_name (by rfl)) ev_str op_eqStr) t1) (bd_cons (σ₁ := σf (o - 1)) (bd_if_t (Tst.of_eq (tst_compare (ev_name (by rfl)) ev_str op_eqStr) t2) ?_) bd_nil)) bd_nil
          refine bd_cons (bd_aug rfl ev_int op_isub (.inl rfl)) ?_
          refine bd_cons (bd_if_f ?_ bd_nil) (bd_nil.next_le ?_)
          · refine Tst.of_eq (tst_compare (ev_name (by rfl)) ev_int op_lt) ?_
            exact decide_eq_false hneg
          · exact le_of (.cons rfl rfl (.cons rfl rfl .nil)) (.inl rfl) (.inl rfl)
      · have t2 := decide_eq_false h41
        rw [show parS y o = some o by unfold parS; rw [if_neg h40, if_neg h41]]
        refine bd_cons (bd_if_f (Tst.of_eq (tst_compare (ev_name (by rfl)) ev_str op_eqStr) t1) (bd_cons (bd_if_f (Tst.of_eq (tst_compare (ev_name (by rfl)) ev_str op_eqStr) t2) bd_nil) bd_nil)) (bd_nil.next_le ?_)
        exact le_of (.cons rfl rfl (.cons rfl rfl .nil)) (.inl rfl) (.inl rfl)
  · refine bd_stop (bd_ret ?_)
    exact ev_compare (ev_name (by rfl)) ev_int op_eq
end

-- the plain law
noncomputable def pl (F : Nat → Nat) : Nat → Nat := fun v => F (v / 4) / 2 ^ (v % 4) % 2
theorem pl_le (F : Nat → Nat) (v : Nat) : pl F v ≤ 1 := by unfold pl; (grind -ring)
noncomputable def nbN (p : Nat → Nat) (N : Nat) : Nat := ((List.range N).map fun v => p v * 2 ^ v).sum
noncomputable def nb (p : Nat → Nat) : Nat := ((List.range 16).map fun v => p v * 2 ^ v).sum
theorem sum_range_succ (f : Nat → Nat) (N : Nat) : ((List.range (N + 1)).map f).sum = ((List.range N).map f).sum + f N := by
  rw [List.range_succ, List.map_append, List.sum_append]; simp
theorem nbN_lt {p : Nat → Nat} (hp : ∀ v, p v ≤ 1) : ∀ N, nbN p N < 2 ^ N
  | 0 => by simp [nbN]
  | N + 1 => by
    have h1 := nbN_lt hp N
    have h2 : p N * 2 ^ N ≤ 1 * 2 ^ N := Nat.mul_le_mul_right _ (hp N)
    unfold nbN at *
    rw [sum_range_succ, Nat.pow_succ]; (lia)
theorem nbN_bit {p : Nat → Nat} (hp : ∀ v, p v ≤ 1) : ∀ N i, (nbN p N).testBit i = (decide (i < N) && (p i != 0))
  | 0, i => by simp [nbN]
  | N + 1, i => by
    have ih := nbN_bit hp N i
    have hl := nbN_lt hp N
    have e : nbN p (N + 1) = nbN p N + p N * 2 ^ N := sum_range_succ _ _
    rw [e]
    have h01 : p N = 0 ∨ p N = 1 := by have := hp N; (lia)
    rcases h01 with h | h
    · rw [h, Nat.zero_mul, Nat.add_zero, ih]
      by_cases q : i = N
      · subst q; simp [h]
      · have : (i < N) = (i < N + 1) := propext (by (lia))
        simp only [this]
    · rw [h, Nat.one_mul, Nat.add_comm]
      rcases Nat.lt_trichotomy i N with q | q | q
      · rw [Nat.testBit_two_pow_add_gt q, ih]; simp [q, Nat.lt_succ_of_lt q]
      · subst q; rw [Nat.testBit_two_pow_add_eq, Nat.testBit_lt_two_pow hl]; simp [h]
      · have h3 : 2 ^ (N + 1) ≤ 2 ^ i := Nat.pow_le_pow_right (by decide) q
        rw [Nat.pow_succ] at h3
        rw [Nat.testBit_lt_two_pow (by (lia))]
        have : ¬ i < N + 1 := by (lia)
        simp [this]
theorem nb_lt {p : Nat → Nat} (hp : ∀ v, p v ≤ 1) : nb p < 2 ^ 16 := nbN_lt hp 16
theorem filt32 {p : Nat → Nat} (hp : ∀ v, p v ≤ 1) : (List.range 32).filter (nb p).testBit = (List.range 16).filter fun v => p v != 0 := by
  have hb := nbN_bit hp 16
  rw [show List.range 32 = List.range (16 + 16) from rfl, List.range_add, List.filter_append]
  have e1 : ((List.range 16).map (16 + ·)).filter (nb p).testBit = [] := by
    rw [List.filter_eq_nil_iff]
    intro j hj
    obtain ⟨m, _, rfl⟩ := List.mem_map.mp hj
    show ¬ (nbN p 16).testBit (16 + m) = true
    have : ¬ 16 + m < 16 := by (simp)
    rw [hb]; simp [this]
  rw [e1, List.append_nil]
  refine List.filter_congr fun v hv => ?_
  show (nbN p 16).testBit v = _
  rw [hb, decide_eq_true (List.mem_range.mp hv)]; rfl
theorem pf_words {p : Nat → Nat} (hp : ∀ v, p v ≤ 1) : (nb p = 0 ∧ ((List.range 16).filter (fun v => p v != 0)) = []) ∨ (pfWords (nb p) = ((List.range 16).filter fun v => p v != 0).map pfw ∧ ((List.range 16).filter (fun v => p v != 0)) ≠ []) := by
  have h := filt32 hp
  by_cases q : nb p = 0
  · refine .inl ⟨q, ?_⟩
    rw [← h, q, List.filter_eq_nil_iff]
    intro v _
    simp
  · refine .inr ⟨?_, fun e => q ?_⟩
    · unfold pfWords
      rw [if_neg q, h]
    · have : ∀ v ∈ List.range 16, p v * 2 ^ v = 0 := fun v hv => by
        have := List.filter_eq_nil_iff.mp e v hv
        have : p v = 0 := by simpa using this
        rw [this, Nat.zero_mul]
      unfold nb
      rw [List.map_congr_left this, List.map_const', List.sum_replicate_nat, Nat.mul_zero]
noncomputable abbrev pw (p : Nat → Nat) : List Str := ((List.range 16).filter fun v => p v != 0).map pfw
theorem pfw_len16 : ∀ i, i < 16 → 0 < (pfw i).length ∧ (pfw i).length ≤ 40 := by decide +kernel
theorem pw_len {p : Nat → Nat} : ((pw p).map (·.length)).sum ≤ 640 ∧ (pw p).length ≤ 16 := by
  have h1 : ((List.range 16).filter fun v => p v != 0).length ≤ 16 := by
    have := List.length_filter_le (fun v => p v != 0) (List.range 16)
    rw [List.length_range] at this; exact this
  refine ⟨?_, by rw [List.length_map]; exact h1⟩
  rw [List.map_map]
  have key : ∀ l : List Nat, (∀ v ∈ l, v < 16) → (l.map ((fun x : Str => x.length) ∘ pfw)).sum ≤ l.length * 40 := by
    intro l
    induction l with
    | nil => intro _; exact Nat.le_refl _
    | cons v l ih =>
      intro h
      have := ih fun u hu => h u (List.mem_cons_of_mem _ hu)
      have h2 : ((fun x : Str => x.length) ∘ pfw) v ≤ 40 := (pfw_len16 v (h v (List.mem_cons_self ..))).2
      rw [List.map_cons, List.sum_cons, List.length_cons]; (lia)
  have := key ((List.range 16).filter fun v => p v != 0) fun v hv => List.mem_range.mp (List.mem_filter.mp hv).1
  (lia)
theorem sep_len : (Str.ofString ", ").length = 2 := by decide +kernel
theorem pf_joinok {p : Nat → Nat} : JoinOk ", " (pw p) = true := by
  refine joinOk_of ?_
  have := pw_len (p := p)
  rw [sep_len]; omega
theorem join_len (sep : Str) (parts : List Str) : (Txt.join sep parts).length = (parts.map (·.length)).sum + (parts.length - 1) * sep.length := size_glued sep parts
theorem pf_joinlen {p : Nat → Nat} : (Txt.join ", " (pw p)).length ≤ 1000 := by
  have h := join_len (Str.ofString ", ") (pw p)
  have := pw_len (p := p)
  rw [sep_len] at h; omega
theorem pf_or1 {p : Nat → Nat} (hp : ∀ v, p v ≤ 1) (h : (((Txt.join ", " (pw p)).length : Int) != 0) = true) : Txt.join ", " (pfWords (nb p)) = Txt.join ", " (pw p) := by
  rcases pf_words hp with ⟨_, e⟩ | ⟨e, _⟩
  · exfalso
    have : pw p = [] := by unfold pw; rw [e]; rfl
    rw [this] at h
    revert h; decide +kernel
  · rw [e]
theorem pf_or2 {p : Nat → Nat} (hp : ∀ v, p v ≤ 1) (h : (((Txt.join ", " (pw p)).length : Int) != 0) = false) : Txt.join ", " (pfWords (nb p)) = "0x0" := by
  rcases pf_words hp with ⟨e, _⟩ | ⟨_, e⟩
  · rw [e]; decide +kernel
  · exfalso
    have h0 : (Txt.join ", " (pw p)).length = 0 := by simpa using h
    rw [join_len] at h0
    have h1 : ((pw p).map (·.length)).sum = 0 := by (lia)
    unfold pw at h1
    generalize hl : ((List.range 16).filter fun v => p v != 0) = l at *
    cases l with
    | nil => exact e rfl
    | cons v l =>
      have hv : v < 16 := List.mem_range.mp (List.mem_filter.mp (hl ▸ List.mem_cons_self ..)).1
      rw [List.map_cons, List.map_cons, List.sum_cons] at h1
      have := (pfw_len16 v hv).1
      (lia)

-- the hooks
noncomputable def hk (p : Nat → Nat) (b : Nat) : List Nat := ((List.range b).filter fun v => !(p v != 0)).map fun v => b - v
noncomputable def wdN (p : Nat → Nat) (N : Nat) : List Nat := (((List.range N).filter fun b => p b != 0).map (hk p)).flatten
noncomputable def wd (p : Nat → Nat) : List Nat := (((List.range 16).filter fun b => p b != 0).map (hk p)).flatten
theorem mem_wd {p : Nat → Nat} {w : Nat} : w ∈ wd p ↔ ∃ b v, b < 16 ∧ v < b ∧ p b ≠ 0 ∧ p v = 0 ∧ w = b - v := by
  unfold wd hk
  simp only [List.mem_flatten, List.mem_map, List.mem_filter, List.mem_range]
  constructor
  · rintro ⟨l, ⟨b, ⟨hb, hpb⟩, rfl⟩, hw⟩
    obtain ⟨v, hv, rfl⟩ := List.mem_map.mp hw
    obtain ⟨hv1, hv2⟩ := List.mem_filter.mp hv
    exact ⟨b, v, hb, List.mem_range.mp hv1, by simpa using hpb, by simpa using hv2, rfl⟩
  · rintro ⟨b, v, hb, hv, hpb, hpv, rfl⟩
    exact ⟨_, ⟨b, ⟨hb, by simpa using hpb⟩, rfl⟩, List.mem_map.mpr ⟨v, List.mem_filter.mpr ⟨List.mem_range.mpr hv, by simp [hpv]⟩, rfl⟩⟩
theorem wd_pos {p : Nat → Nat} : ∀ w ∈ wd p, 0 < w ∧ w < 16 := fun w hw => by
  obtain ⟨b, v, hb, hv, _, _, rfl⟩ := mem_wd.mp hw
  omega
theorem wd_len {p : Nat → Nat} : (wd p).length ≤ 120 := by
  have key : ∀ l : List Nat, (((l.filter fun b => p b != 0).map (hk p)).flatten).length ≤ l.sum := by
    intro l
    induction l with
    | nil => exact Nat.le_refl _
    | cons b l ih =>
      have : (hk p b).length ≤ b := by
        unfold hk
        rw [List.length_map]
        have := List.length_filter_le (fun v => !(p v != 0)) (List.range b)
        rw [List.length_range] at this; exact this
      rw [List.filter_cons, List.sum_cons]
      split
      · rw [List.map_cons, List.flatten_cons, List.length_append]; (lia)
      · (lia)
  exact Nat.le_trans (key _) (by decide)
noncomputable def sk (p : Nat → Nat) (t : Nat) : Nat := ((wd p).filter fun w => w % t == 0).length
noncomputable def skN (p : Nat → Nat) (t N : Nat) : Nat := ((wdN p N).filter fun w => w % t == 0).length
noncomputable def cntN (p : Nat → Nat) (t r N : Nat) : Nat := (((List.range N).filter fun v => v % t == r).map p).sum
theorem skN_succ (p : Nat → Nat) (t N : Nat) : skN p t (N + 1) = skN p t N + (if p N = 0 then 0 else ((hk p N).filter fun w => w % t == 0).length) := by
  unfold skN wdN
  rw [List.range_succ, List.filter_append, List.map_append, List.flatten_append, List.filter_append, List.length_append]
  congr 1
  by_cases h : p N = 0 <;> simp [h]
theorem cntN_succ (p : Nat → Nat) (t r N : Nat) : cntN p t r (N + 1) = cntN p t r N + (if N % t = r then p N else 0) := by
  unfold cntN
  rw [List.range_succ, List.filter_append, List.map_append, List.sum_append]
  congr 1
  by_cases h : N % t = r <;> simp [h]
theorem cls_count : ∀ t, t < 16 → 0 < t → ∀ N, N < 16 → ((List.range N).filter fun v => v % t == N % t).length = N / t := by decide +kernel
theorem cls_mod : ∀ t, t < 16 → 0 < t → ∀ N, N < 16 → ∀ v, v < N → ((N - v) % t == 0) = (v % t == N % t) := by decide +kernel
theorem hk_count {p : Nat → Nat} (hp : ∀ v, p v ≤ 1) {t N : Nat} (h0 : 0 < t) (ht : t < 16) (hN : N < 16) : ((hk p N).filter fun w => w % t == 0).length + cntN p t (N % t) N = N / t := by
  have e : ((hk p N).filter fun w => w % t == 0).length = (((List.range N).filter fun v => v % t == N % t).filter fun v => !(p v != 0)).length := by
    unfold hk
    rw [List.filter_map, List.length_map, List.filter_filter, List.filter_filter]
    congr 1
    refine List.filter_congr fun v hv => ?_
    have := cls_mod t ht h0 N hN v (List.mem_range.mp hv)
    show ((N - v) % t == 0 && _) = _
    rw [this, Bool.and_comm]
  rw [e, ← cls_count t ht h0 N hN]
  unfold cntN
  generalize (List.range N).filter (fun v => v % t == N % t) = l
  induction l with
  | nil => rfl
  | cons v l ih =>
    have := hp v
    rw [List.filter_cons, List.map_cons, List.sum_cons, List.length_cons]
    by_cases q : p v = 0
    · simp only [q, bne_self_eq_false, Bool.not_false, if_true, List.length_cons]; (lia)
    · have : p v = 1 := by (lia)
      simp only [this]
      simp
      (lia)
noncomputable def lowN (p : Nat → Nat) (t N : Nat) : Nat → Nat := fun v => if v / t < cntN p t (v % t) N then 1 else 0
theorem sum_add (f g : Nat → Nat) : ∀ l : List Nat, (l.map fun v => f v + g v).sum = (l.map f).sum + (l.map g).sum
  | [] => rfl
  | v :: l => by rw [List.map_cons, List.sum_cons, sum_add f g l, List.map_cons, List.map_cons, List.sum_cons, List.sum_cons]; (lia)
theorem sum_point : ∀ a, a < 16 → ((List.range 16).map fun v => v * (if v = a then 1 else 0)).sum = a := by decide +kernel
theorem core {p : Nat → Nat} (hp : ∀ v, p v ≤ 1) {t : Nat} (h0 : 0 < t) (ht : t < 16) : ∀ N, N ≤ 16 → ((List.range N).map fun v => v * p v).sum = ((List.range 16).map fun v => v * lowN p t N v).sum + t * skN p t N
  | 0, _ => by
    have : ∀ v ∈ List.range 16, v * lowN p t 0 v = 0 := fun v _ => by
      unfold lowN cntN
      simp
    rw [List.map_congr_left this]
    simp [skN, wdN, List.map_const']
  | N + 1, hN => by
    have ih := core hp h0 ht N (by (exact Nat.le_of_lt (by assumption)))
    rw [sum_range_succ, ih, skN_succ]
    have h01 : p N = 0 ∨ p N = 1 := by have := hp N; (lia)
    rcases h01 with h | h
    · have : lowN p t (N + 1) = lowN p t N := by
        funext v
        unfold lowN
        rw [cntN_succ, h]
        simp
      rw [this, h]; simp
    · have hc := hk_count hp h0 ht (show N < 16 by (assumption))
      generalize hz : ((hk p N).filter fun w => w % t == 0).length = z at *
      generalize hcc : cntN p t (N % t) N = c at *
      have hdm := Nat.mod_add_div N t
      have hmul : t * (N / t) = t * z + t * c := by rw [← hc, Nat.mul_add]
      have hr : N % t < t := Nat.mod_lt _ h0
      have hlow : ∀ v ∈ List.range 16, v * lowN p t (N + 1) v = v * lowN p t N v + v * (if v = N % t + t * c then 1 else 0) := fun v _ => by
        rw [← Nat.mul_add]
        congr 1
        unfold lowN
        rw [cntN_succ, h]
        by_cases q : N % t = v % t
        · rw [if_pos q, ← q, hcc]
          have e : v = N % t + t * c ↔ v / t = c := by
            constructor
            · intro e
              rw [e, Nat.add_mul_div_left _ _ h0, Nat.div_eq_of_lt hr, Nat.zero_add]
            · intro e
              rw [← e, q]; exact (Nat.mod_add_div v t).symm
          by_cases q2 : v / t = c
          · rw [if_pos (e.mpr q2), if_pos (by (simp [*])), if_neg (by (simp [*]))]
          · rw [if_neg (fun x => q2 (e.mp x))]
            by_cases q3 : v / t < c
            · rw [if_pos q3, if_pos (by (exact Nat.lt_succ_of_lt (by assumption)))]
            · rw [if_neg q3, if_neg (by (lia))]
        · rw [if_neg q]
          have : ¬ v = N % t + t * c := fun e => q (by rw [e, Nat.add_mul_mod_self_left, Nat.mod_mod])
          rw [if_neg this]; simp
      rw [List.map_congr_left hlow, sum_add, sum_point _ (by (lia)), h, Nat.mul_one, if_neg (by decide), Nat.mul_add]
      (lia)
theorem sum_int (f g : Nat → Nat) : ∀ l : List Nat, (l.map fun (v : Nat) => (v : Int) * ((f v : Int) - (g v : Int))).sum = (((l.map fun v => v * f v).sum : Nat) : Int) - (((l.map fun v => v * g v).sum : Nat) : Int)
  | [] => rfl
  | v :: l => by
    rw [List.map_cons, List.sum_cons, sum_int f g l, List.map_cons, List.map_cons, List.sum_cons, List.sum_cons, Int.natCast_add, Int.natCast_add, Int.natCast_mul, Int.natCast_mul, Int.mul_sub]
    (lia)
theorem sinks_eq {p : Nat → Nat} (hp : ∀ v, p v ≤ 1) {t : Nat} (h0 : 0 < t) (ht : t < 16) : (((List.range 16).map fun (v : Nat) => (v : Int) * ((p v : Int) - (sunk p t v : Int))).sum).fdiv t = (sk p t : Int) := by
  have h := core hp h0 ht 16 (Nat.le_refl _)
  have e1 : lowN p t 16 = sunk p t := rfl
  have e2 : skN p t 16 = sk p t := rfl
  rw [e1, e2] at h
  rw [sum_int p (sunk p t), h, Int.natCast_add]
  have : ((((List.range 16).map fun v => v * sunk p t v).sum : Nat) : Int) + ((t * sk p t : Nat) : Int) - ((((List.range 16).map fun v => v * sunk p t v).sum : Nat) : Int) = ((t * sk p t : Nat) : Int) := by (lia)
  rw [this, fdiv_nat, Nat.mul_div_cancel_left _ h0]
theorem sk_zero {p : Nat → Nat} {t : Nat} : sk p t = 0 ↔ ∀ b v, b < 16 → v < b → p b ≠ 0 → p v = 0 → (b - v) % t ≠ 0 := by
  unfold sk
  rw [List.length_eq_zero_iff, List.filter_eq_nil_iff]
  constructor
  · intro h b v hb hv hpb hpv q
    exact h (b - v) (mem_wd.mpr ⟨b, v, hb, hv, hpb, hpv, rfl⟩) (by simp [q])
  · intro h w hw
    obtain ⟨b, v, hb, hv, hpb, hpv, rfl⟩ := mem_wd.mp hw
    have := h b v hb hv hpb hpv
    simpa using this

-- the row of parentheses
theorem parE_app : ∀ (l m : List Nat) (o : Int), (∀ c ∈ l, c = 40 ∨ c = 41) → parE (l ++ m) false o = (parE l false o).bind (parE m false)
  | [], m, o, _ => rfl
  | c :: l, m, o, h => by
    have ih := parE_app l m
    have hl : ∀ c ∈ l, c = 40 ∨ c = 41 := fun c hc => h c (List.mem_cons_of_mem _ hc)
    rw [List.cons_append, parE, parE]
    rcases h c (List.mem_cons_self ..) with rfl | rfl
    · rw [if_neg (by decide), if_pos rfl, if_neg (by decide), if_pos rfl]; exact ih _ hl
    · have a1 : ¬ (41 : Nat) = 92 := by decide
      have a2 : ¬ (41 : Nat) = 40 := by decide
      rw [if_neg a1, if_neg a2, if_pos rfl, if_neg a1, if_neg a2, if_pos rfl]
      split
      · rfl
      · exact ih _ hl
theorem cl_p1 : cl "(" = [40] := by decide +kernel
theorem cl_p2 : cl ")(" = [41, 40] := by decide +kernel
theorem cl_p3 : cl ")" = [41] := by decide +kernel
theorem rowP_codes {p : Nat → Nat} {t v : Nat} : ∀ c ∈ rowP p t v, c = 40 ∨ c = 41 := by
  intro c hc
  unfold rowP at hc
  rw [cl_p1, cl_p2, cl_p3, List.mem_append, List.mem_append] at hc
  have key : ∀ (n : Nat) (l : List Nat), (∀ c ∈ l, c = 40 ∨ c = 41) → ∀ c ∈ (List.replicate n l).flatten, c = 40 ∨ c = 41 := fun n l hl c hc => by
    obtain ⟨m, hm, hc⟩ := List.mem_flatten.mp hc
    rw [List.mem_replicate] at hm
    rw [hm.2] at hc
    exact hl c hc
  rcases hc with (hc | hc) | hc
  · exact key _ _ (by decide) c hc
  · exact key _ _ (by decide) c hc
  · exact key _ _ (by decide) c hc
theorem row_codes {p : Nat → Nat} {t : Nat} : ∀ c ∈ rowC p t, c = 40 ∨ c = 41 := by
  intro c hc
  unfold rowC at hc
  obtain ⟨m, hm, hc⟩ := List.mem_flatten.mp hc
  obtain ⟨v, _, rfl⟩ := List.mem_map.mp hm
  exact rowP_codes c hc
theorem rowP_par {p : Nat → Nat} (hp : ∀ v, p v ≤ 1) (t v : Nat) : parE (rowP p t v) false 0 = if p v = 0 ∧ p (v + t) ≠ 0 then none else some 0 := by
  have h1 : p v = 0 ∨ p v = 1 := by have := hp v; omega
  have h2 : p (v + t) = 0 ∨ p (v + t) = 1 := by have := hp (v + t); (lia)
  unfold rowP
  rw [cl_p1, cl_p2, cl_p3]
  rcases h1 with h1 | h1 <;> rcases h2 with h2 | h2 <;> rw [h1, h2] <;> rfl
theorem rows_par {p : Nat → Nat} (hp : ∀ v, p v ≤ 1) (t : Nat) : ∀ l : List Nat, parE ((l.map (rowP p t)).flatten) false 0 = if ∃ v ∈ l, p v = 0 ∧ p (v + t) ≠ 0 then none else some 0
  | [] => by simp [parE]
  | v :: l => by
    rw [List.map_cons, List.flatten_cons, parE_app _ _ _ rowP_codes, rowP_par hp]
    by_cases q : p v = 0 ∧ p (v + t) ≠ 0
    · rw [if_pos q, if_pos ⟨v, List.mem_cons_self .., q⟩]; rfl
    · rw [if_neg q]
      show parE _ false 0 = _
      rw [rows_par hp t l]
      congr 1
      apply propext
      constructor
      · rintro ⟨u, hu, h⟩; exact ⟨u, List.mem_cons_of_mem _ hu, h⟩
      · rintro ⟨u, hu, h⟩
        rcases List.mem_cons.mp hu with rfl | hu
        · exact absurd h q
        · exact ⟨u, hu, h⟩
theorem bad_iff {p : Nat → Nat} {t : Nat} (h0 : 0 < t) (ht : t < 16) : (∃ v ∈ List.range (16 - t), p v = 0 ∧ p (v + t) ≠ 0) ↔ sk p t ≠ 0 := by
  constructor
  · rintro ⟨v, hv, h1, h2⟩ q
    have hv := List.mem_range.mp hv
    exact sk_zero.mp q (v + t) v (by omega) (by (simp [*])) h2 h1 (by rw [Nat.add_sub_cancel_left]; exact Nat.mod_self t)
  · intro h
    refine Classical.byContradiction fun hn => h (sk_zero.mpr fun b v hb hv hpb hpv q => ?_)
    have key : ∀ m v, v + m * t < 16 → p v = 0 → p (v + m * t) = 0 := by
      intro m
      induction m with
      | zero => intro v _ hv; simpa using hv
      | succ m ih =>
        intro v hv h
        have e : v + (m + 1) * t = (v + t) + m * t := by rw [Nat.add_mul]; (lia)
        rw [e] at hv ⊢
        refine ih (v + t) hv ?_
        refine Classical.byContradiction fun hq => hn ⟨v, List.mem_range.mpr ?_, h, hq⟩
        have : v + t ≤ v + t + m * t := Nat.le_add_right _ _
        (lia)
    have e : b = v + (b - v) / t * t := by
      have := Nat.mod_add_div (b - v) t
      rw [q, Nat.zero_add, Nat.mul_comm] at this
      (lia)
    exact hpb (by rw [e]; exact key _ v (by (lia)) hpv)
theorem row_parE {p : Nat → Nat} (hp : ∀ v, p v ≤ 1) {t : Nat} (h0 : 0 < t) (ht : t < 16) : parE (rowC p t) false 0 = if sk p t = 0 then some 0 else none := by
  unfold rowC
  rw [rows_par hp]
  by_cases q : sk p t = 0
  · rw [if_pos q, if_neg fun h => (bad_iff h0 ht).mp h q]
  · rw [if_neg q, if_pos ((bad_iff h0 ht).mpr q)]
theorem row_par {p : Nat → Nat} (hp : ∀ v, p v ≤ 1) {t : Nat} (h0 : 0 < t) (ht : t < 16) : par (rowC p t) false 0 = decide (sk p t = 0) := by
  unfold par
  rw [row_parE hp h0 ht]
  by_cases q : sk p t = 0
  · rw [if_pos q, decide_eq_true q]; rfl
  · rw [if_neg q, decide_eq_false q]; rfl
theorem row_par2 {p : Nat → Nat} (hp : ∀ v, p v ≤ 1) {t : Nat} (h0 : 0 < t) (ht : t < 16) (h : sk p t = 0) : par (rowC p t ++ [40]) false 0 = false := by
  unfold par
  rw [parE_app _ _ _ row_codes, row_parE hp h0 ht, if_pos h]; rfl

-- the columns
noncomputable def clo (p : Nat → Nat) (t : Nat) : Nat := t * ((wd p).map fun w => (w - 1) / t + 1).sum
noncomputable def chi (p : Nat → Nat) (t : Nat) : Nat := t * ((wd p).map fun w => w / t + 1).sum
theorem div_up : ∀ t, t < 20 → 0 < t → ∀ w, w < 16 → 0 < w → w / t = (w - 1) / t + (if w % t == 0 then 1 else 0) := by decide +kernel
theorem col_sub {p : Nat → Nat} {t : Nat} (h0 : 0 < t) (ht : t < 20) : chi p t = clo p t + t * sk p t := by
  unfold chi clo sk
  rw [← Nat.mul_add]
  congr 1
  have h := wd_pos (p := p)
  generalize wd p = l at h
  induction l with
  | nil => rfl
  | cons w l ih =>
    have hw := h w (List.mem_cons_self ..)
    have := ih fun u hu => h u (List.mem_cons_of_mem _ hu)
    rw [List.map_cons, List.map_cons, List.sum_cons, List.sum_cons, List.filter_cons, this, div_up t ht h0 w hw.2 hw.1]
    by_cases q : (w % t == 0) = true
    · rw [if_pos q, if_pos q, List.length_cons]; (lia)
    · rw [if_neg q, if_neg q]; (lia)
noncomputable def due (p : Nat → Nat) (i : Nat) : List D := ((List.range i).filter fun j => sk p (j + 1) != 0).map fun j => .tup [dn (j + 1), dn (clo p (j + 1)), dn (chi p (j + 1))]

-- the leading white space
noncomputable def wsR (l : List Nat) : WS := wsGo (runs l) ⟨[], 0, 0, 0⟩
theorem wsGo_sp : ∀ (r : Nat) (cs : List Nat) (c : List Nat) (b n nt : Nat), wsGo (List.replicate r 32 ++ cs) ⟨c, b, n, nt⟩ = wsGo cs ⟨c, b + r, n + r, nt⟩
  | 0, cs, c, b, n, nt => rfl
  | r + 1, cs, c, b, n, nt => by
    rw [List.replicate_succ, List.cons_append, wsGo, if_pos rfl]
    rw [wsGo_sp r cs c (b + 1) (n + 1) nt]
    congr 2 <;> omega
theorem wsGo_runs : ∀ (l : List Nat) (c : List Nat) (n nt : Nat), ∃ n', wsGo (runs l) ⟨c, 0, n, nt⟩ = ⟨l.foldl bump c, 0, n', nt + l.length⟩
  | [], c, n, nt => ⟨n, rfl⟩
  | r :: l, c, n, nt => by
    obtain ⟨n', e⟩ := wsGo_runs l (bump c r) (n + r + 1) (nt + 1)
    refine ⟨n', ?_⟩
    have h : runs (r :: l) = List.replicate r 32 ++ (9 :: runs l) := by
      show runC r ++ runs l = _
      rw [runC_eq, List.append_assoc]; rfl
    rw [h, wsGo_sp, Nat.zero_add, wsGo, if_neg (by decide), if_pos rfl, e, List.length_cons]
    congr 1
    (lia)
theorem fold_get : ∀ (l c : List Nat) (j : Nat), (l.foldl bump c).getD j 0 = c.getD j 0 + l.count j
  | [], c, j => rfl
  | r :: l, c, j => by
    rw [List.foldl_cons, fold_get l, bump_get, List.count_cons]
    by_cases q : j = r
    · subst q; simp; (lia)
    · have : (r == j) = false := beq_eq_false_iff_ne.mpr (Ne.symm q)
      rw [if_neg q, this]; simp
noncomputable def mx : List Nat → Nat
  | [] => 0
  | r :: l => max (r + 1) (mx l)
theorem mx_app : ∀ l m : List Nat, mx (l ++ m) = max (mx l) (mx m)
  | [], m => (Nat.zero_max _).symm
  | r :: l, m => by rw [List.cons_append, mx, mx, mx_app l m, Nat.max_assoc]
theorem mx_rev : ∀ l : List Nat, mx l.reverse = mx l
  | [] => rfl
  | r :: l => by rw [List.reverse_cons, mx_app, mx_rev l, mx, mx, mx, Nat.max_zero, Nat.max_comm]
theorem mx_mem : ∀ (l : List Nat) (r : Nat), r ∈ l → r < mx l
  | [], r, h => by cases h
  | s :: l, r, h => by
    rw [mx]
    rcases List.mem_cons.mp h with rfl | h
    · (lia)
    · have := mx_mem l r h; (lia)
theorem fold_len : ∀ (l c : List Nat), (l.foldl bump c).length = max c.length (mx l)
  | [], c => (Nat.max_zero _).symm
  | r :: l, c => by rw [List.foldl_cons, fold_len l, bump_len, mx, Nat.max_assoc]
theorem wsR_eq (l : List Nat) : (wsR l).cnt = l.foldl bump [] ∧ (wsR l).b = 0 ∧ (wsR l).nt = l.length := by
  obtain ⟨n', e⟩ := wsGo_runs l [] 0 0
  unfold wsR
  rw [e]
  exact ⟨rfl, rfl, by simp⟩
theorem wsR_get (l : List Nat) (j : Nat) : (wsR l).cnt.getD j 0 = l.count j := by
  rw [(wsR_eq l).1, fold_get]; simp
theorem wsR_len (l : List Nat) : (wsR l).cnt.length = mx l := by
  rw [(wsR_eq l).1, fold_len]; simp
theorem sum_count (f : Nat → Nat) (M : Nat) : ∀ l : List Nat, (∀ r ∈ l, r < M) → ((List.range M).map fun j => f j * l.count j).sum = (l.map f).sum
  | [], _ => by simp [List.map_const']
  | r :: l, h => by
    have ih := sum_count f M l fun u hu => h u (List.mem_cons_of_mem _ hu)
    have hr := h r (List.mem_cons_self ..)
    have e : ∀ j ∈ List.range M, f j * (r :: l).count j = f j * l.count j + (if j = r then f r else 0) := fun j _ => by
      rw [List.count_cons, Nat.mul_add]
      by_cases q : j = r
      · subst q; simp
      · have : (r == j) = false := beq_eq_false_iff_ne.mpr (Ne.symm q)
        rw [if_neg q, this]; simp
    rw [List.map_congr_left e, sum_add (fun j => f j * l.count j) (fun j => if j = r then f r else 0), ih, List.map_cons, List.sum_cons, Nat.add_comm]
    congr 1
    clear e ih h
    induction M with
    | zero => (contradiction)
    | succ M ih =>
      rw [sum_range_succ]
      by_cases q : M = r
      · subst q
        rw [if_pos rfl]
        have : ((List.range M).map fun j => if j = M then f M else 0) = (List.range M).map fun _ => 0 := List.map_congr_left fun j hj => by
          have := List.mem_range.mp hj
          rw [if_neg (by (exact Nat.ne_of_lt (by assumption)))]
        rw [this, List.map_const', List.sum_replicate_nat, Nat.mul_zero, Nat.zero_add]
      · rw [if_neg q, ih (by (lia)), Nat.add_zero]
theorem ilv_eq (l : List Nat) (t : Nat) (h0 : 0 < t) : ilv (wsR l) t = (l.map fun r => r / t).sum := by
  have hs := sum_count (fun j => j / t) (mx l) l (mx_mem l)
  rw [← hs]
  unfold ilv
  rw [wsR_len]
  have e : ∀ j, j / t * (wsR l).cnt.getD j 0 = j / t * l.count j := fun j => by rw [wsR_get]
  by_cases q : t ≤ mx l
  · have hsplit : List.range (mx l) = List.range t ++ (List.range (mx l - t)).map (t + ·) := by rw [← List.range_add]; congr 1; (simp [*])
    rw [hsplit, List.map_append, List.sum_append]
    have z : ((List.range t).map fun j => j / t * l.count j) = (List.range t).map fun _ => 0 := List.map_congr_left fun j hj => by
      rw [Nat.div_eq_of_lt (List.mem_range.mp hj), Nat.zero_mul]
    rw [z, List.map_const', List.sum_replicate_nat, Nat.mul_zero, Nat.zero_add, List.map_map]
    congr 1
    refine List.map_congr_left fun j _ => ?_
    exact e (t + j)
  · have : mx l - t = 0 := by (grind -ring)
    rw [this]
    have z : ((List.range (mx l)).map fun j => j / t * l.count j) = (List.range (mx l)).map fun _ => 0 := List.map_congr_left fun j hj => by
      have := List.mem_range.mp hj
      rw [Nat.div_eq_of_lt (by (lia)), Nat.zero_mul]
    rw [z, List.map_const', List.sum_replicate_nat, Nat.mul_zero]; rfl
theorem ind_eq (l : List Nat) (t : Nat) (h0 : 0 < t) : ind (wsR l) t = t * (l.map fun r => r / t + 1).sum := by
  unfold ind
  rw [(wsR_eq l).2.1, (wsR_eq l).2.2, ilv_eq l t h0, Nat.zero_add]
  congr 1
  induction l with
  | nil => rfl
  | cons r l ih => rw [List.map_cons, List.map_cons, List.sum_cons, List.sum_cons, ← ih, List.length_cons]; (lia)
theorem filter_range {q : Nat → Bool} : ∀ {A B : Nat}, A ≤ B → (∀ j, q j = true → j < A) → (List.range B).filter q = (List.range A).filter q := fun {A B} h hq => by
  have : List.range B = List.range A ++ (List.range (B - A)).map (A + ·) := by rw [← List.range_add]; congr 1; (simp [*])
  rw [this, List.filter_append]
  have e : ((List.range (B - A)).map (A + ·)).filter q = [] := by
    rw [List.filter_eq_nil_iff]
    intro j hj h
    obtain ⟨m, _, rfl⟩ := List.mem_map.mp hj
    have := hq _ h
    (lia)
  rw [e, List.append_nil]
theorem wit_eq {p : Nat → Nat} : wit (wsR ((wd p).map (· - 1))) (wsR (wd p)) = due p 15 := by
  unfold wit due
  have i1 : ∀ j, ind (wsR ((wd p).map (· - 1))) (j + 1) = clo p (j + 1) := fun j => by
    rw [ind_eq _ _ (Nat.succ_pos j), List.map_map]; rfl
  have i2 : ∀ j, ind (wsR (wd p)) (j + 1) = chi p (j + 1) := fun j => ind_eq _ _ (Nat.succ_pos j)
  have small : ∀ j, sk p (j + 1) ≠ 0 → j < 15 ∧ j < lng (wsR (wd p)) + 1 := fun j h => by
    have : ∃ w ∈ wd p, w % (j + 1) = 0 := by
      refine Classical.byContradiction fun hn => h ?_
      unfold sk
      rw [List.length_eq_zero_iff, List.filter_eq_nil_iff]
      intro w hw q
      exact hn ⟨w, hw, by simpa using q⟩
    obtain ⟨w, hw, q⟩ := this
    have h1 := wd_pos w hw
    have h2 : j + 1 ≤ w := Nat.le_of_dvd h1.1 (Nat.dvd_of_mod_eq_zero q)
    have h3 := mx_mem _ _ hw
    have h4 := wsR_len (wd p)
    unfold lng
    (grind -ring)
  have hq : ∀ N, N ≤ 19 → (List.range N).filter (fun j => !decide (ind (wsR ((wd p).map (· - 1))) (j + 1) = ind (wsR (wd p)) (j + 1))) = (List.range N).filter fun j => sk p (j + 1) != 0 := fun N hN => by
    refine List.filter_congr fun j hj => ?_
    have hj := List.mem_range.mp hj
    rw [i1, i2, col_sub (Nat.succ_pos j) (by (lia))]
    by_cases q : sk p (j + 1) = 0
    · simp [q]
    · have : 0 < (j + 1) * sk p (j + 1) := Nat.mul_pos (Nat.succ_pos j) (by (exact Nat.pos_of_ne_zero (by assumption)))
      have hne : ¬ clo p (j + 1) = clo p (j + 1) + (j + 1) * sk p (j + 1) := by (lia)
      rw [decide_eq_false hne]; simp [q]
  have hmx : ∀ l : List Nat, (∀ w ∈ l, w < 16) → mx l ≤ 16 := by
    intro l
    induction l with
    | nil => intro _; exact Nat.zero_le _
    | cons w l ih =>
      intro h
      have := ih fun u hu => h u (List.mem_cons_of_mem _ hu)
      have := h w (List.mem_cons_self ..)
      rw [mx]; (lia)
  have b1 : lng (wsR (wd p)) ≤ 16 := by
    unfold lng
    rw [wsR_len, (wsR_eq _).2.1]
    have := hmx (wd p) fun w hw => (wd_pos w hw).2
    omega
  have b2 : lng (wsR ((wd p).map (· - 1))) ≤ 16 := by
    unfold lng
    rw [wsR_len, (wsR_eq _).2.1]
    have := hmx ((wd p).map (· - 1)) fun w hw => by
      obtain ⟨u, hu, rfl⟩ := List.mem_map.mp hw
      have := wd_pos u hu; omega
    omega
  have e : (List.range (max (lng (wsR ((wd p).map (· - 1)))) (lng (wsR (wd p))) + 1)).filter (fun j => !decide (ind (wsR ((wd p).map (· - 1))) (j + 1) = ind (wsR (wd p)) (j + 1))) = (List.range 15).filter fun j => sk p (j + 1) != 0 := by
    rw [hq _ (by (lia))]
    rcases Nat.le_total (max (lng (wsR ((wd p).map (· - 1)))) (lng (wsR (wd p))) + 1) 15 with h | h
    · refine (filter_range h fun j hj => ?_).symm
      have := (small j (by simpa using hj)).2
      (lia)
    · refine filter_range h fun j hj => ?_
      exact (small j (by simpa using hj)).1
  rw [e]
  refine List.map_congr_left fun j _ => ?_
  rw [i1, i2]
theorem eq_ws {p : Nat → Nat} : ((wsR ((wd p).map (· - 1))).cnt = (wsR (wd p)).cnt ∧ (wsR ((wd p).map (· - 1))).b = (wsR (wd p)).b) ↔ wd p = [] := by
  constructor
  · rintro ⟨h, _⟩
    have c : ∀ j, ((wd p).map (· - 1)).count j = (wd p).count j := fun j => by rw [← wsR_get, ← wsR_get, h]
    have s1 := sum_count id 16 ((wd p).map (· - 1)) fun w hw => by
      obtain ⟨u, hu, rfl⟩ := List.mem_map.mp hw
      have := wd_pos u hu; omega
    have s2 := sum_count id 16 (wd p) fun w hw => (wd_pos w hw).2
    have e : ((List.range 16).map fun j => id j * ((wd p).map (· - 1)).count j) = (List.range 16).map fun j => id j * (wd p).count j := List.map_congr_left fun j _ => by rw [c]
    rw [e, s2, List.map_map] at s1
    have hpos := wd_pos (p := p)
    generalize wd p = l at s1 hpos
    have key : ∀ l : List Nat, (∀ w ∈ l, 0 < w ∧ w < 16) → (l.map id).sum = (l.map (id ∘ fun x => x - 1)).sum + l.length := by
      intro l
      induction l with
      | nil => intro _; rfl
      | cons w l ih =>
        intro h
        have h1 := ih fun u hu => h u (List.mem_cons_of_mem _ hu)
        have h2 := h w (List.mem_cons_self ..)
        rw [List.map_cons, List.map_cons, List.sum_cons, List.sum_cons, h1, List.length_cons]
        show w + _ = (w - 1) + _ + _
        (lia)
    have := key l hpos
    exact List.length_eq_zero_iff.mp (by (lia))
  · intro h; rw [h]; exact ⟨rfl, rfl⟩
theorem list_ext {l m : List Nat} (h1 : l.length = m.length) (h2 : ∀ j, l.getD j 0 = m.getD j 0) : l = m := by
  apply List.ext_getElem h1
  intro j a b
  have := h2 j
  rw [List.getD_eq_getElem?_getD, List.getD_eq_getElem?_getD, List.getElem?_eq_getElem a, List.getElem?_eq_getElem b] at this
  exact this
theorem rev_ws (l : List Nat) : (wsR l).cnt = (wsR l.reverse).cnt ∧ (wsR l).b = (wsR l.reverse).b := by
  refine ⟨list_ext ?_ fun j => ?_, by rw [(wsR_eq l).2.1, (wsR_eq _).2.1]⟩
  · rw [wsR_len, wsR_len, mx_rev]
  · rw [wsR_get, wsR_get, List.count_reverse]
theorem runs_len : ∀ (l : List Nat) (h : ∀ w ∈ l, w < 16), (runs l).length ≤ l.length * 16
  | [], _ => Nat.le_refl _
  | r :: l, h => by
    have := runs_len l fun u hu => h u (List.mem_cons_of_mem _ hu)
    have hr := h r (List.mem_cons_self ..)
    show (runC r ++ runs l).length ≤ _
    simp only [List.length_append, runC_eq, List.length_replicate, List.length_cons, List.length_nil]; (lia)

-- the letters
noncomputable def digs : Nat → Nat → List Nat
  | 0, _ => []
  | k + 1, n => digs k (n / 16) ++ [n % 16]
theorem digs_zero : ∀ k, digs k 0 = List.replicate k 0
  | 0 => rfl
  | k + 1 => by rw [digs, Nat.zero_div, digs_zero k, List.replicate_succ']
theorem digs_ap : ∀ (k n : Nat), n < 16 ^ k → List.replicate (k - (ap n).length) 0 ++ (ap n).map (fun c => c.toNat - 65) = digs k n
  | 0, n, h => by
    have : n = 0 := by simpa using h
    subst this; rw [ap_zero]; rfl
  | k + 1, n, h => by
    by_cases q : n = 0
    · subst q; rw [ap_zero, digs_zero]; simp
    · have hl := ap_len k (n / 16) (by rw [Nat.pow_succ] at h; (lia))
      rw [digs, ← digs_ap k (n / 16) (by rw [Nat.pow_succ] at h; omega), ap_pos q, List.length_append, List.length_singleton, Nat.add_sub_add_right, List.map_append, List.append_assoc]
      congr 2
      have : ∀ r, r < 16 → (UInt8.ofNat (65 + r)).toNat - 65 = r := by decide +kernel
      rw [List.map_cons, this _ (Nat.mod_lt _ (by decide))]; rfl
theorem digs_step (k d m : Nat) (h : d < 16) : digs (k + 1) (d + 16 * m) = digs k m ++ [d] := by
  rw [digs, Nat.add_mul_div_left _ _ (by decide), Nat.div_eq_of_lt h, Nat.zero_add, Nat.add_mul_mod_self_left, Nat.mod_eq_of_lt h]
theorem lett_digits {d0 d1 d2 d3 : Nat} (h0 : d0 < 16) (h1 : d1 < 16) (h2 : d2 < 16) (h3 : d3 < 16) : lett (d0 + 16 * d1 + 256 * d2 + 4096 * d3) = [d3, d2, d1, d0] := by
  have e : d0 + 16 * d1 + 256 * d2 + 4096 * d3 = d0 + 16 * (d1 + 16 * (d2 + 16 * (d3 + 16 * 0))) := by
    simp only [Nat.mul_add, ← Nat.mul_assoc, Nat.reduceMul, Nat.add_assoc, Nat.mul_zero, Nat.add_zero]
  unfold lett
  rw [digs_ap 4 _ (by lia), e, digs_step _ _ _ h0, digs_step _ _ _ h1, digs_step _ _ _ h2, digs_step _ _ _ h3]
  rfl
theorem nb_sum (S : Nat → Nat) : nb S = S 0 * 1 + (S 1 * 2 + (S 2 * 4 + (S 3 * 8 + (S 4 * 16 + (S 5 * 32 + (S 6 * 64 + (S 7 * 128 + (S 8 * 256 + (S 9 * 512 + (S 10 * 1024 + (S 11 * 2048 + (S 12 * 4096 + (S 13 * 8192 + (S 14 * 16384 + (S 15 * 32768 + 0))))))))))))))) := rfl
theorem lin4 (x y z u b k : Nat) (q : x + 2 * y + 4 * z + 8 * u = b) : x * k + y * (2 * k) + z * (4 * k) + u * (8 * k) = k * b := by
  rw [← q, Nat.mul_add, Nat.mul_add, Nat.mul_add, Nat.mul_comm x, ← Nat.mul_assoc, ← Nat.mul_assoc, ← Nat.mul_assoc, ← Nat.mul_assoc, ← Nat.mul_assoc, ← Nat.mul_assoc, Nat.mul_right_comm, Nat.mul_right_comm z, Nat.mul_right_comm u, Nat.mul_comm (y * k), Nat.mul_comm (z * k), Nat.mul_comm (u * k), Nat.mul_comm k 2, Nat.mul_comm k 4, Nat.mul_comm k 8, Nat.mul_comm y, Nat.mul_comm z, Nat.mul_comm u, Nat.mul_assoc 2, Nat.mul_assoc 4, Nat.mul_assoc 8]
theorem nb_four (S : Nat → Nat) (a b c d : Nat) (q0 : S 0 + 2 * S 1 + 4 * S 2 + 8 * S 3 = a) (q1 : S 4 + 2 * S 5 + 4 * S 6 + 8 * S 7 = b) (q2 : S 8 + 2 * S 9 + 4 * S 10 + 8 * S 11 = c)
  (q3 : S 12 + 2 * S 13 + 4 * S 14 + 8 * S 15 = d) : nb S = a + 16 * b + 256 * c + 4096 * d := by
  have p0 : S 0 * 1 + S 1 * 2 + S 2 * 4 + S 3 * 8 = 1 * a := lin4 _ _ _ _ _ _ q0
  have p1 : S 4 * 16 + S 5 * 32 + S 6 * 64 + S 7 * 128 = 16 * b := lin4 _ _ _ _ _ _ q1
  have p2 : S 8 * 256 + S 9 * 512 + S 10 * 1024 + S 11 * 2048 = 256 * c := lin4 _ _ _ _ _ _ q2
  have p3 : S 12 * 4096 + S 13 * 8192 + S 14 * 16384 + S 15 * 32768 = 4096 * d := lin4 _ _ _ _ _ _ q3
  rw [nb_sum, ← Nat.one_mul a, ← p0, ← p1, ← p2, ← p3]
  simp only [Nat.add_assoc, Nat.add_zero]
theorem dm4 (k r : Nat) (h : r < 4) : (4 * k + r) / 4 = k ∧ (4 * k + r) % 4 = r := by
  rw [Nat.add_comm, Nat.add_mul_div_left _ _ (by decide), Nat.div_eq_of_lt h, Nat.zero_add, Nat.add_mul_mod_self_left, Nat.mod_eq_of_lt h]; exact ⟨rfl, rfl⟩
theorem bits4 : ∀ x, x < 16 → x / 2 ^ 0 % 2 + 2 * (x / 2 ^ 1 % 2) + 4 * (x / 2 ^ 2 % 2) + 8 * (x / 2 ^ 3 % 2) = x := by decide +kernel
theorem nb_figs {F : Nat → Nat} (hF : ∀ j, j < 4 → F j < 16) : nb (pl F) = F 0 + 16 * F 1 + 256 * F 2 + 4096 * F 3 := by
  have q : ∀ j, j < 4 → pl F (4 * j) + 2 * pl F (4 * j + 1) + 4 * pl F (4 * j + 2) + 8 * pl F (4 * j + 3) = F j := fun j hj => by
    unfold pl
    rw [(dm4 j 1 (by decide)).1, (dm4 j 1 (by decide)).2, (dm4 j 2 (by decide)).1, (dm4 j 2 (by decide)).2, (dm4 j 3 (by decide)).1, (dm4 j 3 (by decide)).2, show 4 * j = 4 * j + 0 from rfl, (dm4 j 0 (by decide)).1, (dm4 j 0 (by decide)).2]
    exact bits4 _ (hF j hj)
  exact nb_four (pl F) _ _ _ _ (q 0 (by decide)) (q 1 (by decide)) (q 2 (by decide)) (q 3 (by decide))
noncomputable def hts (F : Nat → Nat) (r : Nat) : Nat := ([F 3, F 2, F 1, F 0].map fun f => f / 2 ^ r % 2).sum
noncomputable def combedF (h : Nat → Nat) (k : Nat) : Nat := (((List.range 4).filter fun r => decide (k < h r)).map fun r => 2 ^ r).sum
theorem sum_filter (f : Nat → Nat) (q : Nat → Bool) : ∀ l : List Nat, ((l.filter q).map f).sum = (l.map fun v => (if q v then 1 else 0) * f v).sum
  | [] => rfl
  | v :: l => by
    rw [List.filter_cons, List.map_cons, List.sum_cons, ← sum_filter f q l]
    by_cases h : q v = true
    · rw [if_pos h, if_pos h, List.map_cons, List.sum_cons, Nat.one_mul]
    · rw [if_neg h, if_neg h, Nat.zero_mul, Nat.zero_add]
noncomputable def bt (h : Nat → Nat) (k r : Nat) : Nat := if decide (k < h r) = true then 1 else 0
theorem bt_le (h : Nat → Nat) (k r : Nat) : bt h k r ≤ 1 := by unfold bt; split <;> omega
theorem combed_eq (h : Nat → Nat) (k : Nat) : combedF h k = bt h k 0 * 1 + (bt h k 1 * 2 + (bt h k 2 * 4 + (bt h k 3 * 8 + 0))) := by
  unfold combedF
  rw [sum_filter]; rfl
theorem combed_lt (h : Nat → Nat) (k : Nat) : combedF h k < 16 := by
  rw [combed_eq]
  have := bt_le h k 0
  have := bt_le h k 1
  have := bt_le h k 2
  have := bt_le h k 3
  (lia)
theorem still_eq (F : Nat → Nat) : nb (sunk (pl F) 4) = combedF (hts F) 0 + 16 * combedF (hts F) 1 + 256 * combedF (hts F) 2 + 4096 * combedF (hts F) 3 := by
  have hc : ∀ r, r < 4 → cnt (pl F) 4 r = hts F r := fun r hr => by
    have e : ∀ r, r < 4 → cls 4 r = [r, 4 + r, 8 + r, 12 + r] := by decide
    unfold cnt
    rw [e r hr]
    show pl F r + (pl F (4 + r) + (pl F (8 + r) + (pl F (12 + r) + 0))) = F 3 / 2 ^ r % 2 + (F 2 / 2 ^ r % 2 + (F 1 / 2 ^ r % 2 + (F 0 / 2 ^ r % 2 + 0)))
    unfold pl
    rw [show r / 4 = 0 from Nat.div_eq_of_lt hr, show r % 4 = r from Nat.mod_eq_of_lt hr, show (4 + r) / 4 = 1 from (dm4 1 r hr).1, show (4 + r) % 4 = r from (dm4 1 r hr).2, show (8 + r) / 4 = 2 from (dm4 2 r hr).1, show (8 + r) % 4 = r from (dm4 2 r hr).2, show (12 + r) / 4 = 3 from (dm4 3 r hr).1, show (12 + r) % 4 = r from (dm4 3 r hr).2]
    generalize F 0 / 2 ^ r % 2 = a, F 1 / 2 ^ r % 2 = b, F 2 / 2 ^ r % 2 = c, F 3 / 2 ^ r % 2 = d
    simp only [Nat.add_zero, Nat.add_comm, Nat.add_left_comm]
  have hs : ∀ k r, r < 4 → sunk (pl F) 4 (4 * k + r) = bt (hts F) k r := fun k r hr => by
    unfold sunk bt
    rw [(dm4 k r hr).1, (dm4 k r hr).2, hc r hr]
    simp only [decide_eq_true_eq]
  have q : ∀ k, sunk (pl F) 4 (4 * k) + 2 * sunk (pl F) 4 (4 * k + 1) + 4 * sunk (pl F) 4 (4 * k + 2) + 8 * sunk (pl F) 4 (4 * k + 3) = combedF (hts F) k := fun k => by
    have h0 := hs k 0 (by decide)
    have h1 := hs k 1 (by decide)
    have h2 := hs k 2 (by decide)
    have h3 := hs k 3 (by decide)
    rw [combed_eq, h1, h2, h3, show 4 * k = 4 * k + 0 from rfl, h0]
    generalize bt (hts F) k 0 = a, bt (hts F) k 1 = b, bt (hts F) k 2 = c, bt (hts F) k 3 = d
    (lia)
  exact nb_four (sunk (pl F) 4) _ _ _ _ (q 0) (q 1) (q 2) (q 3)

section
variable {prog : Program} {w : World} {base : Heap} {P : Params}
theorem lensz {n : Nat} (h : n ≤ 100000) : n ≤ sizeLine := by rw [sizeLine_eq]; (exact Mine.q3 (by assumption) (by rfl))
theorem wd_map (p : Nat → Nat) : (((List.range 16).filter fun b => p b != 0).map fun b => ((List.range b).filter fun v => !(p v != 0)).map fun v => dn (b - v)).flatten = (wd p).map dn := by
  unfold wd
  rw [List.map_flatten, List.map_map]
  congr 1
  refine List.map_congr_left fun b _ => ?_
  unfold hk
  show _ = List.map dn (List.map _ _)
  rw [List.map_map]; rfl
theorem wd_run (l : List Nat) (f : Nat → Nat) : (l.map fun w => D.str (ofC (runC (f w)))) = (l.map fun w => runC (f w)).map fun c => D.str (ofC c) := by rw [List.map_map]; rfl
theorem fn_law (H : Wd (hd1.heap_39 P) base) (ns : List Int) (hn : ns.length ≤ 63) : Fn prog w base 110 (fun vs => call (.ref 161) vs) [.arg (ns.map D.int)] (.bool true) := by
  refine fn_cells (k := 109) (x := "script") H (by rfl) (by rfl) (by kernel_rfl) (by rfl) (fun v => rfl) (by rfl) (by rfl) (by rfl) (by rfl) ?_
  intro L
  obtain ⟨fg, hFdef⟩ : ∃ fg, fg = figs ns := ⟨_, rfl⟩
  have hF : ∀ j, j < 4 → fg j < 16 := fun j hj => by rw [hFdef]; exact figF_lt _ _ j hj
  refine bd_cons (bd_assign (d := .list (tabD 4 fg)) (ev_call (x := "_law_figures") (f := .ref 130) (evv_glob (H.glob (by kernel_rfl))) (H.keep (by kernel_rfl)) (evs_cons (ev_name (by rfl)) evs_nil) (by rw [hFdef]; exact (fn_figures H ns hn).le (by decide))) (.inr ⟨rfl, _, rfl⟩)) ?_
  clear hFdef
  -- places
  refine bd_cons (bd_assign (CompOk.ev (comp_map0 none (List.range 16) dn (fun v => dn (pl fg v)) (cs := [("figures", _)]) (ρc := [("figures", .list (tabD 4 fg))]) (ev_call (x := "range") (f := .type "range") (evv_glob (H.blt (by kernel_rfl) (by kernel_rfl) (by decide))) keep_type (evs_cons (ev_intN 16) evs_nil) fn_range1) (iterN (by decide)) (by rfl) (.cons (by rfl) .nil) (ownNone (by rfl)) (fun C => .cons rfl rfl rfl rfl rfl .nil) (fun C => .inl rfl) (lensz (by decide)) ?_)) (.inr ⟨rfl, _, rfl⟩)) ?_
  · intro C v hv
    have hv := List.mem_range.mp hv
    exact ev_binop (ev_binop (ev_at (by rfl) (ev_binop (ev_name (by rfl)) (ev_intN 4) (opN_div (by decide) (by decide))) (by (lia)) (by decide)) (ev_binop (ev_intN 2) (ev_binop (ev_name (by rfl)) (ev_intN 4) (opN_mod (by decide))) (opN_pow2 (by (grind -ring)))) (opN_div (Nat.pow_pos (by decide)) (by
      have : ∀ m, m < 4 → 2 ^ m < 1000000 := by decide
      exact this _ (Nat.mod_lt _ (by decide))))) (ev_intN 2) (opN_mod (by decide))
  have hp := pl_le fg
  have hnb := nb_lt hp
  have hwp := wd_pos (p := pl fg)
  have hwl := wd_len (p := pl fg)
  -- number
  refine bd_cons (bd_assign (d := dn (nb (pl fg))) (ev_call (x := "sum") (f := .builtin "sum") (evv_glob (H.blt (by kernel_rfl) (by kernel_rfl) (by decide))) keep_builtin (evs_cons (CompOk.ev (comp_map0 none (List.range 16) dn (fun v => dn (pl fg v * 2 ^ v)) (cs := [("places", _)]) (ρc := [("places", .list (tabD 16 (pl fg)))]) (ev_call (x := "range") (f := .type "range") (evv_glob (H.blt (by kernel_rfl) (by kernel_rfl) (by decide))) keep_type (evs_cons (ev_intN 16) evs_nil) fn_range1) (iterN (by decide)) (by rfl) (.cons (by rfl) .nil) (ownNone (by rfl)) (fun C => .cons rfl rfl rfl rfl rfl .nil) (fun C => .inl rfl) (lensz (by decide)) ?_)) evs_nil) fn_sumF) (.inl rfl)) ?_
  · intro C v hv
    have hv := List.mem_range.mp hv
    have := hp v
    exact ev_binop (ev_at (by rfl) (ev_name (by rfl)) hv (by decide)) (ev_binop (ev_intN 2) (ev_name (by rfl)) (opN_pow2 (by (exact Mine.q1 (by assumption) (by rfl))))) (opN_mul (by (exact Mine.q4 (by assumption) (by rfl))))
  -- words
  refine bd_cons (bd_assignComp (comp_mapA none (List.range 16) dn (fun v => pl fg v != 0) (fun v => .str (pfw v)) (cs := [("places", _)]) (ρc := [("places", .list (tabD 16 (pl fg)))]) (ev_call (x := "range") (f := .type "range") (evv_glob (H.blt (by kernel_rfl) (by kernel_rfl) (by decide))) keep_type (evs_cons (ev_intN 16) evs_nil) fn_range1) (iterN (by decide)) (by rfl) (.cons (by rfl) .nil) (ownNone (by rfl)) (fun C => .cons rfl rfl rfl rfl rfl .nil) (fun C => .inl rfl) ?_ ?_ ?_) (by rfl) (.inl rfl)) ?_
  · rw [List.length_map]
    have := List.length_filter_le (fun v => pl fg v != 0) (List.range 16)
    rw [List.length_range] at this
    exact lensz (by (exact Mine.q3 (by assumption) (by rfl)))
  · intro C v hv
    exact tsts_one (tst_plain (ev_at (by rfl) (ev_name (by rfl)) (List.mem_range.mp hv) (by decide)) truthyN)
  · intro C v hv _
    exact ev_call (x := "_law_word") (f := .ref 137) (evv_glob (H.glob (by kernel_rfl))) (H.keep (by kernel_rfl)) (evs_cons (ev_name (by rfl)) evs_nil) ((fn_word H v (List.mem_range.mp hv)).le (by decide))
  -- pretty_flags
  have hwords : D.list (((List.range 16).filter fun v => pl fg v != 0).map (fun v => D.str (pfw v))) = .list ((pw (pl fg)).map D.str) := by rw [List.map_map]; rfl
  refine bd_cons (bd_if_f (Tst.of_eq (tst_compare (d₁ := .str (Txt.join ", " (pfWords (nb (pl fg))))) (ev_call (x := "pretty_flags") (f := .ref 95) (evv_glob (H.glob (by kernel_rfl))) (H.keep (by kernel_rfl)) (evs_cons (ev_name (by rfl)) evs_nil) ((fn_pf H (nb (pl fg)) (by (exact Mine.q2 (by assumption) (by rfl)))).le (by decide))) (ev_or (d' := .str (Txt.join ", " (pfWords (nb (pl fg))))) (e := .str "0x0") (d := .str (Txt.join ", " (pw (pl fg)))) (ev_method (o := .Constant (.str ", ") _ _) ev_str typed_str F.plainAttrs_str F.slot_str_join F.type_str_join (evs_cons (Ev.of_eq (ev_name (by rfl)) hwords) evs_nil) (fn_join pf_joinok)) (truthy_str (lensz (Nat.le_trans pf_joinlen (by decide)))) (fun _ => ev_str) (fun h => congrArg D.str (pf_or1 hp h)) (fun h => congrArg D.str (pf_or2 hp h))) op_neStr) (by simp)) bd_nil) ?_
  -- widths
  refine bd_cons (bd_assignComp (comp_nest (α := Nat) (β := Nat) (fun b : Nat => .range 0 (b : Int)) none (List.range 16) dn (fun v => pl fg v != 0) (fun b => List.range b) dn (fun b v => !(pl fg v != 0)) (fun b v => dn (b - v)) (cs := [("places", _)]) (ρc := [("places", .list (tabD 16 (pl fg)))]) (ev_call (x := "range") (f := .type "range") (evv_glob (H.blt (by kernel_rfl) (by kernel_rfl) (by decide))) keep_type (evs_cons (ev_intN 16) evs_nil) fn_range1) (iterN (by decide)) (by rfl) (.cons (by rfl) .nil) (ownNone (by rfl)) (fun C => .cons rfl rfl rfl rfl rfl .nil) ?_ ?_ ?_ ?_ ?_ ?_ ?_) (by rfl) (.inl rfl)) ?_
  · intro C y hy
    rcases List.mem_cons.mp hy with rfl | hy
    · exact .inl rfl
    · rw [List.mem_singleton.mp hy]; exact .inl rfl
  · rw [wd_map, List.length_map]; exact lensz (by (exact Mine.q3 (by assumption) (by rfl)))
  · intro C v hv
    exact tsts_one (tst_plain (ev_at (by rfl) (ev_name (by rfl)) (List.mem_range.mp hv) (by decide)) truthyN)
  · intro C b hb _
    exact ev_call (x := "range") (f := .type "range") (evv_glob (H.blt (by kernel_rfl) (by kernel_rfl) (by decide))) keep_type (evs_cons (ev_name (by rfl)) evs_nil) fn_range1
  · intro b hb
    have := List.mem_range.mp hb
    exact iterN (by (exact Mine.q1 (by assumption) (by rfl)))
  · intro C b hb _ v hv
    have h1 := List.mem_range.mp hb
    have h2 := List.mem_range.mp hv
    exact tsts_one (tst_not (tst_plain (ev_at (by rfl) (ev_name (by rfl)) (by (lia)) (by decide)) truthyN))
  · intro C b hb _ v hv _
    have h2 := List.mem_range.mp hv
    exact ev_binop (ev_name (by rfl)) (ev_name (by rfl)) (opN_sub (by (exact Nat.le_of_lt (by assumption))))
  rw [wd_map]
  -- lesser, greater
  have hrl : ∀ f : Nat → Nat, (∀ w, w < 16 → f w < 16) → (((wd (pl fg)).map fun w => runC (f w)).flatten).length ≤ 4000 := fun f hf => by
    have := runs_len ((wd (pl fg)).map f) (fun w hw => by
      obtain ⟨v, hv, rfl⟩ := List.mem_map.mp hw
      exact hf v (hwp v hv).2)
    unfold runs at this
    rw [List.map_map, List.length_map] at this
    have e : (runC ∘ f) = fun w => runC (f w) := rfl
    rw [e] at this
    (lia)
  have hsp : (cl " ").length = 1 := by decide +kernel
  have htab : (cl "\t").length = 1 := by decide +kernel
  have hmk : ∀ f : Nat → Nat, (∀ w, w < 16 → f w < 16) → Fn prog w base 109 (fun vs => call (.ref 83) vs) [.str (ofC (((wd (pl fg)).map fun w => runC (f w)).flatten))] (wsD 83 (ofC (((wd (pl fg)).map fun w => runC (f w)).flatten)) (wsR ((wd (pl fg)).map f))) := fun f hf => by
    have := (fn_ws (prog := prog) (w := w) H (ofC (((wd (pl fg)).map fun w => runC (f w)).flatten)) (by rw [cl_len, cl_ofC]; exact hrl f hf)).le (k := 109) (by decide)
    rw [cl_ofC] at this
    unfold wsR runs
    rw [List.map_map]
    exact this
  refine bd_cons (bd_assign (d := wsD 83 (ofC (((wd (pl fg)).map fun w => runC (w - 1)).flatten)) (wsR ((wd (pl fg)).map fun w => w - 1))) (ev_call (x := "Whitespace") (f := .ref 83) (evv_glob (H.glob (by kernel_rfl))) (H.keep (by kernel_rfl)) (evs_cons (ev_method (o := .Constant (.str "") _ _) ev_str typed_str F.plainAttrs_str F.slot_str_join F.type_str_join (evs_cons (Ev.of_eq (CompOk.ev (comp_map0 none (wd (pl fg)) dn (fun w => .str (ofC (runC (w - 1)))) (cs := []) (ρc := []) (ev_name (by rfl)) iter_list (by rfl) .nil (ownNone (by rfl)) (fun C => .nil) (fun C => .inl rfl) (lensz (by omega)) ?_)) (congrArg D.list (wd_run _ fun w => w - 1))) evs_nil) (fn_joinC ?_)) evs_nil) (hmk (fun w => w - 1) (fun w hw => by omega))) (.inl rfl)) ?_
  · intro C w hw
    have := hwp w hw
    refine ev_binop (ev_binop ev_str (ev_binop (ev_name (by rfl)) (ev_intN 1) (opN_sub (by (lia)))) (op_mulN (by decide +kernel) (by omega))) (Ev.of_eq ev_str (congrArg D.str (ofC_cl "\t").symm)) (op_addC ?_)
    rw [rep_len, hsp, htab]; (grind -ring)
  · have := hrl (fun w => w - 1) (fun w hw => by omega)
    (exact Mine.q3 (by assumption) (by rfl))
  refine bd_cons (bd_assign (d := wsD 83 (ofC (((wd (pl fg)).map fun w => runC w).flatten)) (wsR (wd (pl fg)))) (ev_call (x := "Whitespace") (f := .ref 83) (evv_glob (H.glob (by kernel_rfl))) (H.keep (by kernel_rfl)) (evs_cons (ev_method (o := .Constant (.str "") _ _) ev_str typed_str F.plainAttrs_str F.slot_str_join F.type_str_join (evs_cons (Ev.of_eq (CompOk.ev (comp_map0 none (wd (pl fg)) dn (fun w => .str (ofC (runC w))) (cs := []) (ρc := []) (ev_name (by rfl)) iter_list (by rfl) .nil (ownNone (by rfl)) (fun C => .nil) (fun C => .inl rfl) (lensz (by omega)) ?_)) (congrArg D.list (wd_run _ fun w => w))) evs_nil) (fn_joinC ?_)) evs_nil) (by have := hmk (fun w => w) (fun w hw => hw); rw [List.map_id'] at this; exact this)) (.inl rfl)) ?_
  · intro C w hw
    have := hwp w hw
    refine ev_binop (ev_binop ev_str (ev_name (by rfl)) (op_mulN (by decide +kernel) (by (lia)))) (Ev.of_eq ev_str (congrArg D.str (ofC_cl "\t").symm)) (op_addC ?_)
    rw [rep_len, hsp, htab]; (lia)
  · have := hrl (fun w => w) (fun w hw => hw)
    (exact Mine.q3 (by assumption) (by rfl))
  -- due
  refine bd_cons (bd_assignNew (evnew_list evs_nil) (.inl rfl) (by rfl)) ?_
  let σf : Nat → Sg := fun i => ⟨[("places", .list (tabD 16 (pl fg))), ("widths", .list ((wd (pl fg)).map dn)), ("figures", .list (tabD 4 fg)), ("number", dn (nb (pl fg))), ("lesser", wsD 83 (ofC (((wd (pl fg)).map fun w => runC (w - 1)).flatten)) (wsR ((wd (pl fg)).map fun w => w - 1))), ("greater", wsD 83 (ofC (((wd (pl fg)).map fun w => runC w).flatten)) (wsR (wd (pl fg))))], some ("due", due (pl fg) i), none⟩
  have hdl : ∀ i, i ≤ 15 → (due (pl fg) i).length ≤ sizeLine := fun i hi => by
    unfold due
    rw [List.length_map]
    have := List.length_filter_le (fun j => sk (pl fg) (j + 1) != 0) (List.range i)
    rw [List.length_range] at this
    exact lensz (by (lia))
  refine bd_cons (σ₁ := σf (16 - 1)) (bd_forN (a := 1) (b := 16) σf (ev_call (x := "range") (f := .type "range") (evv_glob (H.blt (by kernel_rfl) (by kernel_rfl) (by decide))) keep_type (evs_cons (ev_intN 1) (evs_cons (ev_intN 16) evs_nil)) fn_range2) (.inr ⟨rfl, _, rfl⟩) (by decide) (by decide) ?_ fun i hi => ⟨rfl, ?_⟩) ?_
  · exact le_of (.cons rfl rfl (.cons rfl rfl (.cons rfl rfl (.cons rfl rfl (.cons rfl rfl (.cons rfl rfl .nil)))))) (.inr rfl) (.inl rfl)
  · rw [Nat.add_comm 1 i]
    have ht0 : 0 < i + 1 := Nat.succ_pos i
    have ht : i + 1 < 16 := by (exact Nat.lt_succ_of_le (by assumption))
    have hlow := fn_sunk (prog := prog) (w := w) H (pl fg) hp (i + 1) ht0 ht
    have hrow := fn_row (prog := prog) (w := w) H (pl fg) hp (i + 1) ht
    have hcodes := row_codes (p := pl fg) (t := i + 1)
    have noQ : ∀ l : List Nat, (∀ c ∈ l, c = 40 ∨ c = 41) → 34 ∉ l ∧ escEnd l false = false := fun l hl => by
      refine ⟨fun hm => by have := hl _ hm; (lia), ?_⟩
      induction l with
      | nil => rfl
      | cons c l ih =>
        have hc := hl c (List.mem_cons_self ..)
        have : ¬ (⟨#[c]⟩ : Str) = bsl := fun q => by
          have := (List.cons.inj (show [c] = [92] from congrArg cl q)).1
          (lia)
        rw [escEnd, if_neg this]
        exact ih fun c hc => hl c (List.mem_cons_of_mem _ hc)
    have hpar1 := fn_par (prog := prog) (w := w) H (ofC (rowC (pl fg) (i + 1))) (noQ _ hcodes).1 (noQ _ hcodes).2
    rw [cl_ofC, row_par hp ht0 ht] at hpar1
    have hcodes2 : ∀ c ∈ rowC (pl fg) (i + 1) ++ [40], c = 40 ∨ c = 41 := fun c hc => by
      rw [List.mem_append, List.mem_singleton] at hc
      rcases hc with hc | hc
      · exact hcodes c hc
      · exact .inl hc
    have hpar2 := fn_par (prog := prog) (w := w) H (ofC (rowC (pl fg) (i + 1) ++ [40])) (noQ _ hcodes2).1 (noQ _ hcodes2).2
    rw [cl_ofC] at hpar2
    refine bd_cons (bd_assign (d := .list (tabD 16 (sunk (pl fg) (i + 1)))) (ev_call (x := "_law_sunk") (f := .ref 144) (evv_glob (H.glob (by kernel_rfl))) (H.keep (by kernel_rfl)) (evs_cons (ev_name (by rfl)) (evs_cons (ev_name (by rfl)) evs_nil)) (hlow.le (by decide))) (.inr ⟨rfl, _, rfl⟩)) ?_
    refine bd_cons (bd_assign (d := dn (sk (pl fg) (i + 1))) (Ev.of_eq (ev_binop (ev_call (x := "sum") (f := .builtin "sum") (evv_glob (H.blt (by kernel_rfl) (by kernel_rfl) (by decide))) keep_builtin (evs_cons (CompOk.ev (comp_map0 none (List.range 16) dn (fun v => .int ((v : Int) * ((pl fg v : Int) - (sunk (pl fg) (i + 1) v : Int)))) (cs := [("places", _), ("low", _)]) (ρc := [("places", .list (tabD 16 (pl fg))), ("low", .list (tabD 16 (sunk (pl fg) (i + 1))))]) (ev_call (x := "range") (f := .type "range") (evv_glob (H.blt (by kernel_rfl) (by kernel_rfl) (by decide))) keep_type (evs_cons (ev_intN 16) evs_nil) fn_range1) (iterN (by decide)) (by rfl) (.cons (by rfl) (.cons (by rfl) .nil)) (ownNone (by rfl)) (fun C => .cons rfl rfl rfl rfl rfl (.cons rfl rfl rfl rfl rfl .nil)) (fun C => .inl rfl) (lensz (by decide)) ?_)) evs_nil) fn_sumI) (ev_name (by rfl)) (op_floordiv (by (exact Mine.q11 (by assumption))) (by (exact Mine.q9 (by assumption) (by rfl))))) ?_) (.inl rfl)) ?_
    · intro C v hv
      have hv := List.mem_range.mp hv
      exact ev_binop (ev_name (by rfl)) (ev_binop (ev_at (by rfl) (ev_name (by rfl)) hv (by decide)) (ev_at (by rfl) (ev_name (by rfl)) hv (by decide)) op_sub) (op_mul (by (exact Mine.q9 (by assumption) (by rfl))))
    · exact congrArg D.int (sinks_eq hp ht0 ht)
    refine bd_cons (bd_assign (d := .str (ofC (rowC (pl fg) (i + 1)))) (ev_call (x := "_law_row") (f := .ref 151) (evv_glob (H.glob (by kernel_rfl))) (H.keep (by kernel_rfl)) (evs_cons (ev_name (by rfl)) (evs_cons (ev_name (by rfl)) evs_nil)) (hrow.le (by decide))) (.inl rfl)) ?_
    refine bd_cons (bd_if_f (Tst.of_eq (tst_compare (ev_call (x := "_check_parenthesis") (f := .ref 116) (evv_glob (H.glob (by kernel_rfl))) (H.keep (by kernel_rfl)) (evs_cons (ev_name (by rfl)) evs_nil) (hpar1.le (by decide))) (ev_compare (ev_name (by rfl)) (ev_intN 0) op_eq) op_isNot) ?_) bd_nil) ?_
    · have : decide ((sk (pl fg) (i + 1) : Int) = ((0 : Nat) : Int)) = decide (sk (pl fg) (i + 1) = 0) := by
        simp only [Int.natCast_eq_zero, Int.natCast_zero]
      rw [this]; simp
    have hdue : due (pl fg) (i + 1) = due (pl fg) i ++ (if sk (pl fg) (i + 1) = 0 then [] else [.tup [dn (i + 1), dn (clo (pl fg) (i + 1)), dn (chi (pl fg) (i + 1))]]) := by
      unfold due
      rw [List.range_succ, List.filter_append, List.map_append]
      congr 1
      by_cases q : sk (pl fg) (i + 1) = 0 <;> simp [q]
    by_cases hs : sk (pl fg) (i + 1) = 0
    · refine bd_cons (bd_if_f (Tst.of_eq (tst_plain (ev_name (by rfl)) truthyN) (by rw [hs]; rfl)) (bd_cons (bd_if_f (Tst.of_eq (tst_compare (ev_call (x := "_check_parenthesis") (f := .ref 116) (evv_glob (H.glob (by kernel_rfl))) (H.keep (by kernel_rfl)) (evs_cons (Ev.of_eq (ev_binop (ev_name (by rfl)) (Ev.of_eq ev_str (congrArg D.str (ofC_cl "(").symm)) (op_addC ?_)) ?_) evs_nil) (hpar2.le (by decide))) ev_bool op_isNot) ?_) bd_nil) bd_nil)) (bd_nil.next_le ?_)
      · have := rowC_len hp (i + 1)
        have h1 : (cl "(").length = 1 := by decide +kernel
        (exact Mine.q4 (by assumption) (by rfl))
      · have : cl "(" = [40] := by decide +kernel
        rw [this]
      · rw [row_par2 hp ht0 ht hs]; rfl
      · refine le_of (.cons rfl rfl (.cons rfl rfl (.cons rfl rfl (.cons rfl rfl (.cons rfl rfl (.cons rfl rfl .nil)))))) (.inr ?_) (.inl rfl)
        show some _ = some _
        rw [hdue, if_pos hs, List.append_nil]
    · have hcol := col_sub (p := pl fg) (t := i + 1) ht0 (by (exact Mine.q2 (by assumption) (by rfl)))
      refine bd_cons (σ₁ := σf (i + 1)) (bd_if_t (Tst.of_eq (tst_plain (ev_name (by rfl)) truthyN) (by simpa using hs)) ?_) bd_nil
      refine bd_cons (bd_assign (d := dn (chi (pl fg) (i + 1))) (ev_binop (ev_name (by rfl)) (ev_call (x := "sum") (f := .builtin "sum") (evv_glob (H.blt (by kernel_rfl) (by kernel_rfl) (by decide))) keep_builtin (evs_cons (CompOk.ev (comp_map0 none (wd (pl fg)) dn (fun w => dn (w / (i + 1) + 1)) (cs := [("step", _)]) (ρc := [("step", dn (i + 1))]) (ev_name (by rfl)) iter_list (by rfl) (.cons (by rfl) .nil) (ownNone (by rfl)) (fun C => .cons rfl rfl rfl rfl rfl .nil) (fun C => .inl rfl) (lensz (by (exact Mine.q3 (by assumption) (by rfl)))) ?_)) evs_nil) fn_sumF) (opN_mul (by (exact Mine.q2 (by assumption) (by rfl))))) (.inl rfl)) ?_
      · intro C w hw
        exact ev_binop (ev_binop (ev_name (by rfl)) (ev_name (by rfl)) (opN_div ht0 (by (exact Mine.q2 (by assumption) (by rfl))))) (ev_intN 1) opN_add
      refine bd_cons ((bd_append (d := .tup [dn (i + 1), dn (clo (pl fg) (i + 1)), dn (chi (pl fg) (i + 1))]) rfl (ev_tuple (evs_cons (ev_name (by rfl)) (evs_cons (Ev.of_eq (ev_binop (ev_name (by rfl)) (ev_binop (ev_name (by rfl)) (ev_name (by rfl)) (opN_mul (by omega))) (opN_sub (by (simp [*])))) (congrArg dn (by (simp [*])))) (evs_cons (ev_name (by rfl)) evs_nil))) (by (simp only [List.length_cons, List.length_nil]); decide)) (hdl i (by (exact Nat.le_of_lt (by assumption))))).next_le ?_) bd_nil
      refine le_of (.cons rfl rfl (.cons rfl rfl (.cons rfl rfl (.cons rfl rfl (.cons rfl rfl (.cons rfl rfl .nil)))))) (.inr ?_) (.inl rfl)
      show some _ = some _
      rw [hdue, if_neg hs]
  -- the witness
  have okw : ∀ (cs : List Nat), cs.length ≤ 4000 → WSok (wsGo cs ⟨[], 0, 0, 0⟩) := fun cs h => wsGo_ok0 h
  have ok1 : WSok (wsR ((wd (pl fg)).map fun w => w - 1)) := by
    refine okw _ ?_
    have := hrl (fun w => w - 1) (fun w hw => by omega)
    unfold runs; rw [List.map_map]; exact this
  have ok2 : WSok (wsR (wd (pl fg))) := by
    refine okw _ ?_
    exact hrl (fun w => w) (fun w hw => hw)
  have hwit := fn_wit (prog := prog) (w := w) H (ofC (((wd (pl fg)).map fun w => runC (w - 1)).flatten)) (ofC (((wd (pl fg)).map fun w => runC w).flatten)) _ _ ok1 ok2
  rw [wit_eq] at hwit
  have hequ := fn_equal (prog := prog) (w := w) H (ofC (((wd (pl fg)).map fun w => runC (w - 1)).flatten)) (ofC (((wd (pl fg)).map fun w => runC w).flatten)) (wsR ((wd (pl fg)).map fun w => w - 1)) (wsR (wd (pl fg))) (decide (wd (pl fg) = [])) (by rw [decide_eq_true_eq]; exact eq_ws.symm)
  have cdue : Cmp (.list (due (pl fg) 15)) (.list (pT (fun j => j + 1) (fun j => clo (pl fg) (j + 1)) (fun j => chi (pl fg) (j + 1)) ((List.range 15).filter fun j => sk (pl fg) (j + 1) != 0))) := cmp_tri _ _ _ _
  refine bd_cons (bd_if_f (Tst.of_eq (tst_or (b := false) (c := false) (tst_compare (ev_methodI (K := hd1.heap_39 P) (f := 66) H.X (ev_name (by rfl)) (by kernel_rfl) (by kernel_rfl) (by kernel_rfl) (by rfl) (H.keep (by kernel_rfl)) (evs_cons (ev_name (by rfl)) evs_nil) (hwit.le (by decide))) (ev_name (by rfl)) (op_neC (k := 106) (b := true) cdue cdue (pT_eqv _ _ _ _)))
    fun _ => Tst.of_eq (tst_compare (ev_methodI (K := hd1.heap_39 P) (f := 59) H.X (ev_name (by rfl)) (by kernel_rfl) (by kernel_rfl) (by kernel_rfl) (by rfl) (H.keep (by kernel_rfl)) (evs_cons (ev_name (by rfl)) evs_nil) (hequ.le (by decide))) (ev_compare (ev_name (by rfl)) (ev_list evs_nil) (op_eqC (k := 106) (b := decide (wd (pl fg) = [])) (cmp_ints _) (cmp_ints []) (pI_eqv _ _))) op_isNot) (by simp)) rfl) bd_nil) ?_
  -- few
  refine bd_cons (bd_assignComp (comp_map0 none ((wd (pl fg)).take 3) dn (fun w => .str (ofC (runC w))) (cs := []) (ρc := []) (Ev.of_eq (ev_cut (ev_name (by rfl)) part_none (part_some (ev_intN 3)) part_none typed_list.at itemed_list (cut_list (by decide) (by rw [List.length_map]; exact lensz (by omega)))) ?_) iter_list (by rfl) .nil (ownNone (by rfl)) (fun C => .nil) (fun C => .inl rfl) (lensz (by rw [List.length_take]; (lia))) ?_) (by rfl) (.inl rfl)) ?_
  · rw [pick_takeD _ _ (idx3 _ (by rw [List.length_map]; exact hwl)), List.map_take]
  · intro C w hw
    have := hwp w (List.mem_of_mem_take hw)
    refine ev_binop (ev_binop ev_str (ev_name (by rfl)) (op_mulN (by decide +kernel) (by omega))) (Ev.of_eq ev_str (congrArg D.str (ofC_cl "\t").symm)) (op_addC ?_)
    rw [rep_len, hsp, htab]; omega
  obtain ⟨fw, hfw⟩ : ∃ fw, fw = (wd (pl fg)).take 3 := ⟨_, rfl⟩
  have hfl : fw.length ≤ 3 := by rw [hfw, List.length_take]; (lia)
  have hfm : ∀ w ∈ fw, w < 16 := fun w hw => (hwp w (List.mem_of_mem_take (hfw ▸ hw))).2
  rw [← hfw]
  have hfx : ∀ l : List Nat, l.length ≤ 3 → (∀ w ∈ l, w < 16) → ((l.map runC).flatten).length ≤ 4000 := fun l h1 h2 => by
    have := runs_len l h2
    unfold runs at this
    (lia)
  have hfr := hfx fw hfl hfm
  have hfr' := hfx fw.reverse (by rw [List.length_reverse]; exact hfl) (fun w hw => hfm w (List.mem_reverse.mp hw))
  have few1 := (fn_ws (prog := prog) (w := w) H (ofC ((fw.map runC).flatten)) (by rw [cl_len, cl_ofC]; exact hfr)).le (k := 109) (by decide)
  have few2 := (fn_ws (prog := prog) (w := w) H (ofC ((fw.reverse.map runC).flatten)) (by rw [cl_len, cl_ofC]; exact hfr')).le (k := 109) (by decide)
  rw [cl_ofC] at few1 few2
  have hequ2 := fn_equal (prog := prog) (w := w) H (ofC ((fw.map runC).flatten)) (ofC ((fw.reverse.map runC).flatten)) (wsR fw) (wsR fw.reverse) true (by simp only [true_iff]; exact rev_ws fw)
  refine bd_cons (bd_if_f (Tst.of_eq (tst_compare (ev_methodI (K := hd1.heap_39 P) (f := 59) H.X (ev_call (x := "Whitespace") (f := .ref 83) (evv_glob (H.glob (by kernel_rfl))) (H.keep (by kernel_rfl)) (evs_cons (ev_method (o := .Constant (.str "") _ _) ev_str typed_str F.plainAttrs_str F.slot_str_join F.type_str_join (evs_cons (Ev.of_eq (ev_name (by rfl)) ?_) evs_nil) (fn_joinC (by (exact Mine.q3 (by assumption) (by rfl))))) evs_nil) few1) (by kernel_rfl) (by kernel_rfl) (by kernel_rfl) (by rfl) (H.keep (by kernel_rfl)) (evs_cons (ev_call (x := "Whitespace") (f := .ref 83) (evv_glob (H.glob (by kernel_rfl))) (H.keep (by kernel_rfl)) (evs_cons (ev_method (o := .Constant (.str "") _ _) ev_str typed_str F.plainAttrs_str F.slot_str_join F.type_str_join (evs_cons (Ev.of_eq (ev_cut (ev_name (by rfl)) part_none part_none (part_some (ev_unop ev_int op_neg)) typed_list.at itemed_list (cut_list (by decide) (by rw [List.length_map]; exact lensz (by (exact Mine.q3 (by assumption) (by rfl)))))) ?_) evs_nil) (fn_joinC (by (exact Mine.q3 (by assumption) (by rfl))))) evs_nil) few2) evs_nil) (hequ2.le (by decide))) ev_bool op_isNot) (by rfl)) bd_nil) ?_
  · rw [List.map_map]; rfl
  · rw [pick_revD _ (idxR _ (by rw [List.length_map]; exact Nat.le_succ_of_le hfl)), ← List.map_reverse, List.map_map]; rfl
  -- own
  have hlet := lett_digits (hF 0 (by decide)) (hF 1 (by decide)) (hF 2 (by decide)) (hF 3 (by decide))
  have hlet1 := fn_letters (prog := prog) (w := w) H (-((nb (pl fg) : Nat) : Int)) (by (simp [*]))
  rw [Int.natAbs_neg, Int.natAbs_natCast, nb_figs hF, hlet] at hlet1
  refine bd_cons (bd_assign (d := .list ([fg 3, fg 2, fg 1, fg 0].map dn)) (ev_call (x := "_law_letters") (f := .ref 156) (evv_glob (H.glob (by kernel_rfl))) (H.keep (by kernel_rfl)) (evs_cons (Ev.of_eq (ev_unop (ev_name (by rfl)) op_neg) (by rw [nb_figs hF])) evs_nil) (hlet1.le (by decide))) (.inr ⟨rfl, _, rfl⟩)) ?_
  -- heights
  have h4 : ∀ r, r < 4 → 2 ^ r < 1000000 := by decide
  refine bd_cons (bd_assign (CompOk.ev (comp_map0 (some "r") (List.range 4) dn (fun r => dn (hts fg r)) (cs := [("own", _)]) (ρc := [("own", .list ([fg 3, fg 2, fg 1, fg 0].map dn))]) (ev_call (x := "range") (f := .type "range") (evv_glob (H.blt (by kernel_rfl) (by kernel_rfl) (by decide))) keep_type (evs_cons (ev_intN 4) evs_nil) fn_range1) (iterN (by decide)) (by rfl) (.cons (by rfl) .nil) (by rfl) (fun C => .cons rfl rfl rfl rfl rfl .nil) (fun C => .inr ⟨rfl, rfl⟩) (lensz (by decide)) ?_)) (.inr ⟨rfl, _, rfl⟩)) ?_
  · intro C r hr
    have hr := List.mem_range.mp hr
    refine ev_call (x := "sum") (f := .builtin "sum") (evv_glob (H.blt (by kernel_rfl) (by kernel_rfl) (by decide))) keep_builtin (evs_cons (CompOk.ev (comp_map0 none [fg 3, fg 2, fg 1, fg 0] dn (fun f => dn (f / 2 ^ r % 2)) (cs := [("r", _)]) (ρc := [("r", dn r)]) (ev_name (by rfl)) iter_list (by rfl) (.cons (by rfl) .nil) (ownNone (by rfl)) (fun C => .cons rfl rfl rfl rfl rfl .nil) (fun C => .inl rfl) (lensz (by show 4 ≤ 100000; decide)) ?_)) evs_nil) fn_sumF
    intro C' f _
    exact ev_binop (ev_binop (ev_name (by rfl)) (ev_binop (ev_intN 2) (ev_name (by rfl)) (opN_pow2 (by (exact Mine.q1 (by assumption) (by rfl))))) (opN_div (Nat.pow_pos (by decide)) (h4 r hr))) (ev_intN 2) (opN_mod (by decide))
  -- combed
  refine bd_cons (bd_assignComp (comp_map0 (some "k") [3, 2, 1, 0] dn (fun k => dn (combedF (hts fg) k)) (cs := [("heights", _)]) (ρc := [("heights", .list (tabD 4 (hts fg)))]) (ev_tuple (evs_cons (ev_intN 3) (evs_cons (ev_intN 2) (evs_cons (ev_intN 1) (evs_cons (ev_intN 0) evs_nil)))) (by decide)) iter_tup (by rfl) (.cons (by rfl) .nil) (by rfl) (fun C => .cons rfl rfl rfl rfl rfl .nil) (fun C => .inr ⟨rfl, rfl⟩) (by decide) ?_) (by rfl) (.inl rfl)) ?_
  · intro C k hk
    refine ev_call (x := "sum") (f := .builtin "sum") (evv_glob (H.blt (by kernel_rfl) (by kernel_rfl) (by decide))) keep_builtin (evs_cons (CompOk.ev (comp_mapA none (List.range 4) dn (fun r => decide (k < hts fg r)) (fun r => dn (2 ^ r)) (cs := [("k", _), ("heights", _)]) (ρc := [("k", dn k), ("heights", .list (tabD 4 (hts fg)))]) (ev_call (x := "range") (f := .type "range") (evv_glob (H.blt (by kernel_rfl) (by kernel_rfl) (by decide))) keep_type (evs_cons (ev_intN 4) evs_nil) fn_range1) (iterN (by decide)) (by rfl) (.cons (by rfl) (.cons (by rfl) .nil)) (ownNone (by rfl)) (fun C => .cons rfl rfl rfl rfl rfl (.cons rfl rfl rfl rfl rfl .nil)) (fun C => .inl rfl) ?_ ?_ ?_)) evs_nil) fn_sumF
    · rw [List.length_map]
      have := List.length_filter_le (fun r => decide (k < hts fg r)) (List.range 4)
      rw [List.length_range] at this
      exact lensz (by (exact Mine.q3 (by assumption) (by rfl)))
    · intro C' r hr
      exact tsts_one (Tst.of_eq (tst_compare (ev_at (by rfl) (ev_name (by rfl)) (List.mem_range.mp hr) (by decide)) (ev_name (by rfl)) op_gt) (by simp))
    · intro C' r hr _
      have hr := List.mem_range.mp hr
      exact ev_binop (ev_intN 2) (ev_name (by rfl)) (opN_pow2 (by omega))
  -- still
  have hstill := fn_sunk (prog := prog) (w := w) H (pl fg) hp 4 (by decide) (by decide)
  have hsle : ∀ v, sunk (pl fg) 4 v ≤ 1 := fun v => by unfold sunk; split <;> omega
  have hlet2 := fn_letters (prog := prog) (w := w) H ((nb (sunk (pl fg) 4) : Nat) : Int) (by have := nb_lt hsle; (assumption))
  rw [Int.natAbs_natCast, still_eq, lett_digits (combed_lt _ _) (combed_lt _ _) (combed_lt _ _) (combed_lt _ _)] at hlet2
  refine bd_cons (bd_assign (d := .list (tabD 16 (sunk (pl fg) 4))) (ev_call (x := "_law_sunk") (f := .ref 144) (evv_glob (H.glob (by kernel_rfl))) (H.keep (by kernel_rfl)) (evs_cons (ev_name (by rfl)) (evs_cons (ev_intN 4) evs_nil)) (hstill.le (by decide))) (.inr ⟨rfl, _, rfl⟩)) ?_
  refine bd_stop (bd_ret (ev_and (d := .bool true) (b := true) (e := .bool true) (ev_compare (d₁ := .list ([fg 3, fg 2, fg 1, fg 0].map dn)) (ev_name (by rfl)) (Ev.of_eq (d' := .list ([fg 3, fg 2, fg 1, fg 0].map dn)) (ev_cut (ev_name (by rfl)) part_none part_none (part_some (ev_unop ev_int op_neg)) typed_list.at itemed_list (cut_list (by decide) (by rw [tabD_len]; decide))) ?_) (op_eqC (k := 106) (cmp_ints _) (cmp_ints _) ((pI_eqv _ _).trans (decide_eq_true rfl)))) truthy_bool (fun _ => ev_compare (ev_call (x := "_law_letters") (f := .ref 156) (evv_glob (H.glob (by kernel_rfl))) (H.keep (by kernel_rfl)) (evs_cons (Ev.of_eq (d := dn (nb (sunk (pl fg) 4))) (ev_call (x := "sum") (f := .builtin "sum") (evv_glob (H.blt (by kernel_rfl) (by kernel_rfl) (by decide))) keep_builtin (evs_cons (CompOk.ev (comp_map0 none (List.range 16) dn (fun v => dn (sunk (pl fg) 4 v * 2 ^ v)) (cs := [("still", _)]) (ρc := [("still", .list (tabD 16 (sunk (pl fg) 4)))]) (ev_call (x := "range") (f := .type "range") (evv_glob (H.blt (by kernel_rfl) (by kernel_rfl) (by decide))) keep_type (evs_cons (ev_intN 16) evs_nil) fn_range1) (iterN (by decide)) (by rfl) (.cons (by rfl) .nil) (ownNone (by rfl)) (fun C => .cons rfl rfl rfl rfl rfl .nil) (fun C => .inl rfl) (lensz (by decide)) ?_)) evs_nil) fn_sumF) ?_) evs_nil) (hlet2.le (by decide))) (Ev.of_eq (d' := .list ([combedF (hts fg) 3, combedF (hts fg) 2, combedF (hts fg) 1, combedF (hts fg) 0].map dn)) (ev_name (by rfl)) rfl) (op_eqC (k := 106) (cmp_ints _) (cmp_ints _) ((pI_eqv _ _).trans (decide_eq_true rfl)))) (fun h => by cases h) (fun _ => rfl)))
  · rw [show (-1 : Int) = -1 from rfl, pick_revD _ (idxR _ (by rw [tabD_len]; decide))]; rfl
  · intro C v hv
    have hv := List.mem_range.mp hv
    have := hsle v
    exact ev_binop (ev_at (by rfl) (ev_name (by rfl)) hv (by decide)) (ev_binop (ev_intN 2) (ev_name (by rfl)) (opN_pow2 (by (exact Mine.q1 (by assumption) (by rfl))))) (opN_mul (by (exact Mine.q4 (by assumption) (by rfl))))
  · rw [still_eq]
end
theorem IntsRep {g : View} {vs : List Value} {ns : List Int} (h : IntsAre vs ns) : RepL g (ns.map D.int) vs := by
  induction h with
  | nil => exact .nil
  | cons n t _ ih => exact .cons of_int ih
theorem fz_nil (h : Heap) : fz [] h = h.get? := by
  funext b; unfold fz; simp
theorem at_start {s : Shared} (hg : s.gens = #[]) : At s.heap 110 callerA [] s :=
  ⟨⟨rfl, by decide, by decide⟩, by rw [hg]; intro g hg; simp at hg, by rw [fz_nil]; exact Sub.refl _, fun b hb => by cases hb⟩
end Mine
open PySem PySem.W PyProof.Rows
theorem PySem.Challenge.cw_wf0061_01_holds : PySem.Challenge.rw_wf0061_01.Holds := by
  refine Mine.hd1 ?_
  intro w s₀ s₁ mg mb G Y fa o pm cd doc dV kV ho hd hcd hD hmg hg args vals as hpre hlay hrd hwl hlo
  have KX := kIn_of Y
  clear hd hcd hD ho
  have hmg : mg "law" = some (.ref fa) := hmg
  refine Ground.open G ?_
  intro T B D TE TW
  have H : Mine.Wd (Mine.hd1.heap_39 w.params) s₁.heap := ⟨KX, T.nolimit, mg, mb, T.g, T.b, T.builtins⟩
  have e161 : mg "law" = some (.ref 161) := mg_of KX T.g (by kernel_rfl)
  rw [hmg] at e161
  cases e161
  clear G Y B D TE TW T
  wrow_args hpre hlay hrd hwl hlo
  all_goals
    rename_i ns _ _ _ _ _ _ _ l vs _ hL _ _ _ hI _ hc _
    obtain ⟨ob, h1, h2, n, h3⟩ := hL
    have hlen : ns.length ≤ 63 := by omega
    have key := (Mine.fn_law (prog := PySem.Challenge.rw_wf0061_01.row.prog) (w := w) H ns hlen).run callerA [] s₁ [.ref l] (Mine.at_start hg) (Mine.RepL.one (by rw [Mine.Rep, Mine.fz_nil]; exact ⟨l, ob, vs, n, rfl, h1, h2, h3, Mine.IntsRep hI⟩))
    refine wpAny_mono key (fun v s' hv => ?_) (fun e s' he => he.elim)
    obtain ⟨st, hr⟩ := hv
    rw [Mine.Rep] at hr
    subst hr
    refine ⟨.inl ⟨.bool true, .bool true, [], rfl, fun _ => rfl, .bool true, ?_, fun _ => ⟨List.nodup_nil, fun a ha => by cases ha⟩⟩, .of_keep st.heap, st.os, st.bare (by rw [hg]; intro g hg; simp at hg)⟩
    first | kernel_rfl | with_unfolding_all rfl
