import PyProof.Rows.All
import Wide.All
import OpenK.AllK
import Wide.FinOn
import Lean
import PySem.Challenge.RW_pg0103_01
set_option compiler.extract_closed false
open PySem PySem.W PyProof.Rows PySem.Calls
set_option Elab.async false
set_option maxRecDepth 100000
set_option maxHeartbeats 8000000
set_option rowWalk.seconds 0
set_option linter.unusedVariables false
set_option linter.unusedSimpArgs false
namespace Mine
open_top hd for PySem.Challenge.rw_pg0103_01

noncomputable abbrev KF (w : World) : Frag := hd.heap_39 w.params
abbrev PG : Program := PySem.Challenge.rw_pg0103_01.row.prog

/-- the ground facts at a heap -/
structure Gd (w : World) (mg mb : Str → Option Value) (h : Heap) : Prop where
  X : (hd.heap_39 w.params).In h
  T : ∃ mean, Top hd.view_39 (looseW hd.view_39 []) mean mg mb h

theorem Gd.keeps {w : World} {mg mb : Str → Option Value} {h h' : Heap} (G : Gd w mg mb h) (k : ∀ b o, h.get? b = some o → h'.get? b = some o) : Gd w mg mb h' :=
  ⟨G.X.keeps k, let ⟨m, T⟩ := G.T; ⟨m, T.keeps k⟩⟩

theorem enterK {K : Frag} {prog : Program} {w : World} {A : Around} {s : Shared} {R : Result → Shared → Prop} {name qual : Str} {params : Arguments} {body : List Stmt} {scope : Scope} {dV kV doc pm cdv ct oc : Value} {an od : Option Addr} {osl : Array (Option Value)} {f : Addr} {args : Args} {binds : List (Str × Value)}
    (X : K.In s.heap) (hlim : s.heap.NoLimit)
    (ho : K.lookup f = some ⟨oc, od, .func (fnOf name qual params body scope dV kV doc pm an cdv ct), osl⟩) (hcd : codeIn K cdv qual = true) (hroom : A.depth < recursionLimit)
    (hbind : BindsTo s (fnOf name qual params body scope dV kV doc pm an cdv ct) args binds) (hloc : ∀ y ∈ binds, scope.names.lookup y.1 = some .local)
    (h : ∀ L' h₁, Fr s.heap L' h₁ (fun y => binds.reverse.lookup y) →
      wpAny (model prog w) (A.deeper (envOf qual scope L' f cdv)) (execs body (envOf qual scope L' f cdv))
        (fun fl s' => R (.ok (.ret (match fl with | .ret v => v | _ => .none))) s')
        (fun e s' => wpAny (model prog w) (A.deeper (envOf qual scope L' f cdv)) (leaving (envOf qual scope L' f cdv) e) (fun _ s'' => R (.error e) s'') (fun e' s'' => R (.error e') s'') s')
        { s with heap := h₁, toks := s.toks + binds.length })
    (hco : scope.isCoroutine = false) (hgen : scope.isGenerator = false) (hk : scope.kind = .function)
    (hcell : ∀ x ∈ scope.names, x.2 ≠ .cell) : codeAny (model prog w) A (.call (.ref f) args) R s := by
  refine codeAny_call_def (fd := fnOf name qual params body scope dV kV doc pm an cdv ct) (body := body) (binds := binds) hroom (X _ _ ho) rfl hlim (codeRec_of X hcd) rfl hbind hcell hloc (fun h₁ hns hk₁ => ?_) hco hgen hk
  exact h s.heap.objs.size h₁ ⟨hns, hk₁, Nat.le_refl _⟩

@[irreducible] def st (l : List Nat) : Str := ⟨l.toArray⟩
theorem st_length (l : List Nat) : (st l).length = l.length := by simp [st, Str.length]
theorem st_inj {a b : List Nat} (h : st a = st b) : a = b := by
  have := congrArg (fun x => x.cps.toList) h
  simpa [st] using this
theorem st_beq (a b : List Nat) : (st a == st b) = decide (a = b) := by
  by_cases h : a = b
  · subst h; simp
  · have : st a ≠ st b := fun e => h (st_inj e)
    simp [h, this]
theorem slice_is (x : Str) (l u : Option Int) : Txt.slice x l u = StrLaws.sliceText x l u := rfl
theorem slice_from {l : List Nat} {k : Nat} (h : k ≤ l.length) : Txt.slice (st l) (some (k : Int)) none = st (l.drop k) := by
  rw [slice_is, StrLaws.sliceText_from ⟨by omega, by simp [st]; omega⟩]
  simp [st]
  try (rw [List.take_of_length_le]; simp; try omega)
theorem slice_to {l : List Nat} {k : Nat} (h : k ≤ l.length) : Txt.slice (st l) none (some (k : Int)) = st (l.take k) := by
  rw [slice_is, StrLaws.sliceText_to ⟨by omega, by simp [st]; omega⟩]
  simp [st]
theorem slice_to_neg {l : List Nat} {k : Nat} (h0 : 0 < k) (h : k ≤ l.length) : Txt.slice (st l) none (some (-(k : Int))) = st (l.take (l.length - k)) := by
  rw [slice_is, StrLaws.sliceText_to_neg (by omega) (by rw [st_length]; omega)]
  rw [st_length]
  have : (-(k : Int) + (l.length : Int) - 0).toNat = l.length - k := by omega
  rw [this]
  simp [st]
theorem slice_all {l : List Nat} : Txt.slice (st l) none none = st l := by
  unfold Txt.slice
  rw [if_pos]
  simp [Builtin.Str.strSliceIndices, sliceRange, st_length]
  by_cases h : 0 < l.length
  · simp [h]
  · have : l.length = 0 := by omega
    simp [this]
theorem item_at {l : List Nat} {k : Nat} (h : k < l.length) : Txt.item (st l) (k : Int) = st [l.getD k 0] := by
  unfold Txt.item Txt.charAt seqIndex?
  have h1 : ¬ ((k : Int) < 0) := by omega
  have h2 : (k : Int) < (l.length : Int) := by omega
  simp [st, Str.length, h1, h]
theorem item_neg {l : List Nat} {k : Nat} (h0 : 0 < k) (h : k ≤ l.length) : Txt.item (st l) (-(k : Int)) = st [l.getD (l.length - k) 0] := by
  unfold Txt.item Txt.charAt seqIndex?
  have h1 : (-(k : Int) < 0) := by omega
  have h2 : (-(k : Int) + (l.length : Int)).toNat = l.length - k := by omega
  have h3 : l.length - k < l.length := by omega
  have h4 : (0 : Int) ≤ -(k : Int) + (l.length : Int) := by omega
  have h5 : -(k : Int) + (l.length : Int) < l.length := by omega
  simp [st, Str.length, h0, h2, h4, h5, List.getElem?_eq_getElem h3]

def cost (c d : Nat) : Nat := if c = d then 0 else if Txt.lower (st [c]) = Txt.lower (st [d]) then 1 else 2
theorem cost_le (c d : Nat) : cost c d ≤ 2 := by unfold cost; split; omega; split <;> omega
theorem cost_self (c : Nat) : cost c c = 0 := by simp [cost]
theorem cost_comm (c d : Nat) : cost c d = cost d c := by
  unfold cost
  by_cases h : c = d
  · subst h; simp
  · have h' : ¬ d = c := fun e => h e.symm
    simp only [h, h', if_false]
    by_cases g : Txt.lower (st [c]) = Txt.lower (st [d])
    · simp [g]
    · have g' : ¬ Txt.lower (st [d]) = Txt.lower (st [c]) := fun e => g e.symm
      simp [g, g']

/-- the distance of two texts, both written backwards -/
def dr : List Nat → List Nat → Nat
  | [], v => 2 * v.length
  | x :: u, [] => 2 * (u.length + 1)
  | x :: u, y :: v => min (dr u v + cost x y) (min (dr u (y :: v)) (dr (x :: u) v) + 2)
termination_by u v => u.length + v.length

theorem dr_nil_left (v : List Nat) : dr [] v = 2 * v.length := by unfold dr; rfl
theorem dr_nil_right (u : List Nat) : dr u [] = 2 * u.length := by cases u <;> simp [dr]
theorem dr_cons (x : Nat) (u : List Nat) (y : Nat) (v : List Nat) : dr (x :: u) (y :: v) = min (dr u v + cost x y) (min (dr u (y :: v)) (dr (x :: u) v) + 2) := by
  rw [dr]
theorem dr_comm : ∀ (n : Nat) (u v : List Nat), u.length + v.length ≤ n → dr u v = dr v u
  | _, [], v, _ => by rw [dr_nil_left, dr_nil_right]
  | _, x :: u, [], _ => by rw [dr_nil_left, dr_nil_right]
  | 0, x :: u, y :: v, h => by simp at h
  | n + 1, x :: u, y :: v, h => by
    simp only [List.length_cons] at h
    rw [dr_cons, dr_cons, dr_comm n u v (by omega), dr_comm n u (y :: v) (by rw [List.length_cons]; omega), dr_comm n (x :: u) v (by rw [List.length_cons]; omega), cost_comm, Nat.min_comm (dr (y :: v) u)]
theorem dr_symm (u v : List Nat) : dr u v = dr v u := dr_comm _ u v (Nat.le_refl _)
theorem dr_lip : ∀ (n : Nat) (u v : List Nat), u.length + v.length ≤ n → (∀ x, dr u v ≤ dr (x :: u) v + 2 ∧ dr (x :: u) v ≤ dr u v + 2) ∧ (∀ y, dr u v ≤ dr u (y :: v) + 2 ∧ dr u (y :: v) ≤ dr u v + 2) := by
  intro n
  induction n with
  | zero =>
    intro u v h
    have hu : u = [] := List.eq_nil_of_length_eq_zero (by omega)
    have hv : v = [] := List.eq_nil_of_length_eq_zero (by omega)
    subst hu hv
    refine ⟨fun x => ?_, fun y => ?_⟩ <;> simp [dr_nil_left, dr_nil_right]
  | succ n ih =>
    have half : ∀ u v : List Nat, u.length + v.length ≤ n + 1 → ∀ x, dr u v ≤ dr (x :: u) v + 2 ∧ dr (x :: u) v ≤ dr u v + 2 := by
      intro u v h x
      cases v with
      | nil => rw [dr_nil_right, dr_nil_right]; simp; omega
      | cons y v =>
        simp only [List.length_cons] at h
        have h1 := (ih u v (by omega)).1 x
        have h2 := (ih u v (by omega)).2 y
        have hc := cost_le x y
        rw [dr_cons]
        omega
    intro u v h
    refine ⟨half u v h, fun y => ?_⟩
    rw [dr_symm u v, dr_symm u (y :: v)]
    exact half v u (by omega) y
theorem lip_left (x : Nat) (u v : List Nat) : dr u v ≤ dr (x :: u) v + 2 ∧ dr (x :: u) v ≤ dr u v + 2 := (dr_lip _ u v (Nat.le_refl _)).1 x
theorem lip_right (y : Nat) (u v : List Nat) : dr u v ≤ dr u (y :: v) + 2 ∧ dr u (y :: v) ≤ dr u v + 2 := (dr_lip _ u v (Nat.le_refl _)).2 y
theorem dr_strip (x : Nat) (u v : List Nat) : dr (x :: u) (x :: v) = dr u v := by
  have h1 := lip_left x u v
  have h2 := lip_right x u v
  rw [dr_cons, cost_self]
  omega
theorem dr_strip_list : ∀ (p u v : List Nat), dr (p ++ u) (p ++ v) = dr u v
  | [], _, _ => rfl
  | x :: p, u, v => by rw [List.cons_append, List.cons_append, dr_strip, dr_strip_list p u v]
theorem dr_snoc_nil (c : Nat) : ∀ v : List Nat, dr [c] (v ++ [c]) = 2 * v.length
  | [] => by simp [dr_cons, cost_self, dr_nil_left, dr_nil_right]
  | y :: v => by
    rw [List.cons_append, dr_cons, dr_snoc_nil c v, dr_nil_left, dr_nil_left]
    simp; omega
theorem dr_snoc (c : Nat) : ∀ (n : Nat) (u v : List Nat), u.length + v.length ≤ n → dr (u ++ [c]) (v ++ [c]) = dr u v
  | _, [], v, _ => by rw [List.nil_append, dr_snoc_nil, dr_nil_left]
  | _, x :: u, [], _ => by rw [List.nil_append, dr_symm, dr_snoc_nil, dr_nil_right]
  | 0, x :: u, y :: v, h => by simp at h
  | n + 1, x :: u, y :: v, h => by
    simp only [List.length_cons] at h
    have e1 := dr_snoc c n u v (by omega)
    have e2 := dr_snoc c n u (y :: v) (by simp; omega)
    have e3 := dr_snoc c n (x :: u) v (by simp; omega)
    rw [List.cons_append] at e2 e3
    rw [List.cons_append, List.cons_append, dr_cons, dr_cons, e1, e2, e3]
theorem dr_strip_end : ∀ (p u v : List Nat), dr (u ++ p) (v ++ p) = dr u v
  | [], u, v => by simp
  | c :: p, u, v => by
    have e := dr_strip_end p (u ++ [c]) (v ++ [c])
    rw [List.append_assoc, List.append_assoc, List.singleton_append] at e
    rw [e, dr_snoc c _ u v (Nat.le_refl _)]
theorem dr_diff : ∀ (n : Nat) (u v : List Nat), u.length + v.length ≤ n → 2 * v.length ≤ dr u v + 2 * u.length
  | _, [], v, _ => by rw [dr_nil_left]; simp
  | _, x :: u, [], _ => by simp
  | 0, x :: u, y :: v, h => by simp at h
  | n + 1, x :: u, y :: v, h => by
    simp only [List.length_cons] at h
    have h1 := dr_diff n u v (by omega)
    have h2 := dr_diff n u (y :: v) (by simp; omega)
    have h3 := dr_diff n (x :: u) v (by simp; omega)
    rw [dr_cons]
    simp only [List.length_cons] at h2 h3 ⊢
    omega

/-- the distance of two texts -/
def dist (a b : List Nat) : Nat := dr a.reverse b.reverse
theorem dist_comm (a b : List Nat) : dist a b = dist b a := dr_symm _ _
theorem dist_self (a : List Nat) : dist a a = 0 := by
  have := dr_strip_list a.reverse [] []
  simpa [dist, dr_nil_left] using this
theorem dist_nil (a : List Nat) : dist a [] = 2 * a.length := by simp [dist, dr_nil_right]
theorem dist_nil' (a : List Nat) : dist [] a = 2 * a.length := by simp [dist, dr_nil_left]
theorem dist_pre (p a b : List Nat) : dist (p ++ a) (p ++ b) = dist a b := by
  unfold dist; rw [List.reverse_append, List.reverse_append]; exact dr_strip_end _ _ _
theorem dist_post (p a b : List Nat) : dist (a ++ p) (b ++ p) = dist a b := by
  unfold dist; rw [List.reverse_append, List.reverse_append]; exact dr_strip_list _ _ _
theorem dist_diff (a b : List Nat) : 2 * b.length ≤ dist a b + 2 * a.length := by
  have := dr_diff _ a.reverse b.reverse (Nat.le_refl _)
  simpa [dist] using this
theorem dist_drop {a b : List Nat} {k : Nat} (h : a.take k = b.take k) : dist a b = dist (a.drop k) (b.drop k) := by
  have e := dist_pre (a.take k) (a.drop k) (b.drop k)
  rw [List.take_append_drop, h, List.take_append_drop] at e
  exact e
theorem dist_take {a b : List Nat} {q : Nat} (h : a.drop (a.length - q) = b.drop (b.length - q)) : dist a b = dist (a.take (a.length - q)) (b.take (b.length - q)) := by
  have e := dist_post (a.drop (a.length - q)) (a.take (a.length - q)) (b.take (b.length - q))
  rw [List.take_append_drop, h, List.take_append_drop] at e
  exact e

/-- the table: the first i signs of b, the first j of a -/
def cell (b a : List Nat) (i j : Nat) : Nat := dist (b.take i) (a.take j)
theorem cell_zero_left (b a : List Nat) {j : Nat} (h : j ≤ a.length) : cell b a 0 j = 2 * j := by
  unfold cell; rw [List.take_zero, dist_nil', List.length_take]; omega
theorem cell_zero_right (b a : List Nat) {i : Nat} (h : i ≤ b.length) : cell b a i 0 = 2 * i := by
  unfold cell; rw [List.take_zero, dist_nil, List.length_take]; omega
theorem rev_take_succ {l : List Nat} {i : Nat} (h : i < l.length) : (l.take (i + 1)).reverse = l.getD i 0 :: (l.take i).reverse := by
  rw [List.take_add_one, List.getElem?_eq_getElem h, List.reverse_append]
  simp [List.getD_eq_getElem?_getD, List.getElem?_eq_getElem h]
theorem cell_succ (b a : List Nat) {i j : Nat} (hi : i < b.length) (hj : j < a.length) :
    cell b a (i + 1) (j + 1) = min (cell b a i j + cost (b.getD i 0) (a.getD j 0)) (min (cell b a i (j + 1)) (cell b a (i + 1) j) + 2) := by
  unfold cell dist
  rw [rev_take_succ hi, rev_take_succ hj, dr_cons]
theorem cell_end (b a : List Nat) : cell b a b.length a.length = dist b a := by
  unfold cell; rw [List.take_length, List.take_length]
theorem cell_one_le (b a : List Nat) {i : Nat} (hi : i < b.length) (ha : 0 < a.length) : cell b a (i + 1) 1 ≤ 2 * (i + 1) := by
  have h := cell_succ b a hi ha
  have h0 := cell_zero_right b a (i := i) (by omega)
  have hc := cost_le (b.getD i 0) (a.getD 0 0)
  rw [h0] at h
  rw [show (1 : Nat) = 0 + 1 from rfl, h]
  omega
theorem cell_cut (b a : List Nat) {r t : Nat} (hr : r < b.length) (ha : 0 < a.length) (h : ∀ j, 1 ≤ j → j ≤ a.length → t ≤ cell b a (r + 1) j) :
    ∀ d, r + 1 + d ≤ b.length → ∀ j, j ≤ a.length → t ≤ cell b a (r + 1 + d) j := by
  have ht : t ≤ 2 * (r + 1) := Nat.le_trans (h 1 (by omega) (by omega)) (cell_one_le b a hr ha)
  intro d
  induction d with
  | zero =>
    intro hd j hj
    cases j with
    | zero => rw [cell_zero_right b a hd]; omega
    | succ j => exact h _ (by omega) hj
  | succ d ih =>
    intro hd j
    induction j with
    | zero => intro _; rw [cell_zero_right b a hd]; omega
    | succ j ihj =>
      intro hj
      have e := cell_succ b a (i := r + 1 + d) (j := j) (by omega) (by omega)
      have h1 := ih (by omega) j (by omega)
      have h2 := ih (by omega) (j + 1) hj
      have h3 := ihj (by omega)
      rw [show r + 1 + (d + 1) = r + 1 + d + 1 from rfl] at h3 ⊢
      rw [e]
      omega
theorem dist_cut (b a : List Nat) {r t : Nat} (hr : r < b.length) (ha : 0 < a.length) (h : ∀ j, 1 ≤ j → j ≤ a.length → t ≤ cell b a (r + 1) j) : t ≤ dist b a := by
  have := cell_cut b a hr ha h (b.length - (r + 1)) (by omega) a.length (Nat.le_refl _)
  rw [show r + 1 + (b.length - (r + 1)) = b.length by omega, cell_end] at this
  exact this

/-- what the function may tell of a and b under the bound mx -/
def LevOk (a b : List Nat) (mx v : Int) : Prop := v = (dist a b : Int) ∨ (v = mx + 1 ∧ mx + 1 ≤ (dist a b : Int))
theorem LevOk.min {a b : List Nat} {mx v : Int} (h : LevOk a b mx v) : min v (mx + 1) = min (dist a b : Int) (mx + 1) := by
  rcases h with rfl | ⟨rfl, h⟩
  · rfl
  · omega
theorem take_step {a b : List Nat} {k : Nat} (ka : k < a.length) (kb : k < b.length) (h : a.take k = b.take k) (e : [a.getD k 0] = [b.getD k 0]) : a.take (k + 1) = b.take (k + 1) := by
  have e' : a.getD k 0 = b.getD k 0 := by simpa only [List.cons.injEq, and_true] using e
  rw [List.getD_eq_getElem?_getD, List.getD_eq_getElem?_getD, List.getElem?_eq_getElem ka, List.getElem?_eq_getElem kb] at e'
  have e'' : a[k] = b[k] := e'
  rw [List.take_add_one, List.take_add_one, h, List.getElem?_eq_getElem ka, List.getElem?_eq_getElem kb, e'']
theorem drop_step {a b : List Nat} {q : Nat} (qa : q < a.length) (qb : q < b.length) (h : a.drop (a.length - q) = b.drop (b.length - q)) (e : [a.getD (a.length - (q + 1)) 0] = [b.getD (b.length - (q + 1)) 0]) :
    a.drop (a.length - (q + 1)) = b.drop (b.length - (q + 1)) := by
  have ha : a.length - (q + 1) < a.length := by omega
  have hb : b.length - (q + 1) < b.length := by omega
  have e' : a.getD (a.length - (q + 1)) 0 = b.getD (b.length - (q + 1)) 0 := by simpa only [List.cons.injEq, and_true] using e
  rw [List.getD_eq_getElem?_getD, List.getD_eq_getElem?_getD, List.getElem?_eq_getElem ha, List.getElem?_eq_getElem hb] at e'
  have e'' : a[a.length - (q + 1)] = b[b.length - (q + 1)] := e'
  rw [List.drop_eq_getElem_cons ha, List.drop_eq_getElem_cons hb, e'']
  rw [show a.length - (q + 1) + 1 = a.length - q by omega, show b.length - (q + 1) + 1 = b.length - q by omega, h]
/-- one step of the inner loop -/
theorem cell_turn (b a : List Nat) {i j : Nat} (hi : i < b.length) (hj : j < a.length) {res : Int} (hres : res = (if j = 0 then (i : Int) * 2 else (cell b a (i + 1) j : Int))) :
    min (min res (cell b a i (j + 1) : Int) + 2) ((cell b a i j : Int) + (cost (b.getD i 0) (a.getD j 0) : Int)) = (cell b a (i + 1) (j + 1) : Int) := by
  have e := cell_succ b a hi hj
  have hc := cost_le (b.getD i 0) (a.getD j 0)
  by_cases h : j = 0
  · subst h
    rw [if_pos rfl] at hres
    have h0 := cell_zero_right b a (i := i) (by omega)
    have h1 := cell_zero_right b a (i := i + 1) (by omega)
    rw [h0, h1] at e
    rw [e, hres, h0]
    omega
  · rw [if_neg h] at hres
    rw [e, hres]
    omega
theorem row_turn {x y : List Nat} {ns : List Int} {i j : Nat} {V : Int} (hj : j < x.length) (hlen : ns.length = x.length) (hlo : ∀ j', j' < j → ns.getD j' 0 = (cell y x (i + 1) (j' + 1) : Int)) (hhi : ∀ j', j ≤ j' → j' < x.length → ns.getD j' 0 = (cell y x i (j' + 1) : Int)) (hV : V = (cell y x (i + 1) (j + 1) : Int)) :
    (ns.set (j : Int).toNat V).length = x.length ∧ (∀ j', j' < j + 1 → (ns.set (j : Int).toNat V).getD j' 0 = (cell y x (i + 1) (j' + 1) : Int)) ∧ (∀ j', j + 1 ≤ j' → j' < x.length → (ns.set (j : Int).toNat V).getD j' 0 = (cell y x i (j' + 1) : Int)) := by
  rw [Int.toNat_natCast]
  refine ⟨by rw [List.length_set]; exact hlen, fun j' h => ?_, fun j' h1 h2 => ?_⟩
  · rw [List.getD_eq_getElem?_getD, List.getElem?_set]
    by_cases e : j = j'
    · subst e
      rw [if_pos rfl, if_pos (by omega)]
      exact hV
    · rw [if_neg e, ← List.getD_eq_getElem?_getD]
      exact hlo j' (by omega)
  · rw [List.getD_eq_getElem?_getD, List.getElem?_set, if_neg (by omega), ← List.getD_eq_getElem?_getD]
    exact hhi j' (by omega) h2

theorem ite_dec {p : Prop} [Decidable p] {P Q : Prop} (h1 : p → P) (h2 : ¬ p → Q) : if decide p = true then P else Q := by
  by_cases h : p
  · simp only [h, decide_true, if_true]; exact h1 h
  · simp only [h, decide_false, Bool.false_eq_true, if_false]; exact h2 h
theorem ite_ndec {p : Prop} [Decidable p] {P Q : Prop} (h1 : ¬ p → P) (h2 : p → Q) : if (!decide p) = true then P else Q := by
  by_cases h : p
  · simp only [h, decide_true, Bool.not_true, Bool.false_eq_true, if_false]; exact h2 h
  · simp only [h, decide_false, Bool.not_false, if_true]; exact h1 h
section
variable {prog : Program} {w : World} {A : Around} {E : Value → Shared → Prop} {s : Shared} {value slice : Expr} {l l' : List Nat} {t t' : Tok} {h₀ : Heap} {L : Addr} {m : Str → Option Value} {news : List (Addr × Obj)} {Q : Value → Shared → Prop}
theorem small_line {n : Nat} (h : n ≤ 1000) : n ≤ sizeLine := by unfold sizeLine; omega
theorem t_from {k : Nat} {ui : Tok} (hF : Fr h₀ L s.heap m) (hN : News h₀ L s.heap news) (hk : k ≤ l.length) (hsz : l.length ≤ 1000)
    (h : ∀ h' t' c, Fr h₀ L h' m → News h₀ L h' news → Q (.str (st (l.drop k)) t') { s with heap := h', toks := c })
    (hs : subscripted slice false (.str (st l) t) (.ref s.heap.objs.size) = operate [.ref s.heap.objs.size, .str (st l) t] (getItem (.str (st l) t) (.ref s.heap.objs.size)))
    (ht : ∀ r, letTemporaryGo value (.str (st l) t) r = pure ()) :
    wpAny (model prog w) A (subscriptTail value slice (.str (st l) t) (.ref s.heap.objs.size)) Q E { s with heap := s.heap.push { cls := .type "slice", data := .fields #[.int (k : Int) ui, .none, .none] } } :=
  slice_strN_sn hF hN (fun h' t' c F N => by rw [slice_from hk]; exact h h' t' c F N) hs ht (by rw [st_length]; exact small_line hsz)
theorem t_to {k : Nat} {ui : Tok} (hF : Fr h₀ L s.heap m) (hN : News h₀ L s.heap news) (hk : k ≤ l.length) (hsz : l.length ≤ 1000)
    (h : ∀ h' t' c, Fr h₀ L h' m → News h₀ L h' news → Q (.str (st (l.take k)) t') { s with heap := h', toks := c })
    (hs : subscripted slice false (.str (st l) t) (.ref s.heap.objs.size) = operate [.ref s.heap.objs.size, .str (st l) t] (getItem (.str (st l) t) (.ref s.heap.objs.size)))
    (ht : ∀ r, letTemporaryGo value (.str (st l) t) r = pure ()) :
    wpAny (model prog w) A (subscriptTail value slice (.str (st l) t) (.ref s.heap.objs.size)) Q E { s with heap := s.heap.push { cls := .type "slice", data := .fields #[.none, .int (k : Int) ui, .none] } } :=
  slice_strN_ns hF hN (fun h' t' c F N => by rw [slice_to hk]; exact h h' t' c F N) hs ht (by rw [st_length]; exact small_line hsz)
theorem t_toneg {k : Nat} {ui : Tok} (hF : Fr h₀ L s.heap m) (hN : News h₀ L s.heap news) (h0 : 0 < k) (hk : k ≤ l.length) (hsz : l.length ≤ 1000)
    (h : ∀ h' t' c, Fr h₀ L h' m → News h₀ L h' news → Q (.str (st (l.take (l.length - k))) t') { s with heap := h', toks := c })
    (hs : subscripted slice false (.str (st l) t) (.ref s.heap.objs.size) = operate [.ref s.heap.objs.size, .str (st l) t] (getItem (.str (st l) t) (.ref s.heap.objs.size)))
    (ht : ∀ r, letTemporaryGo value (.str (st l) t) r = pure ()) :
    wpAny (model prog w) A (subscriptTail value slice (.str (st l) t) (.ref s.heap.objs.size)) Q E { s with heap := s.heap.push { cls := .type "slice", data := .fields #[.none, .int (-(k : Int)) ui, .none] } } :=
  slice_strN_ns hF hN (fun h' t' c F N => by rw [slice_to_neg h0 hk]; exact h h' t' c F N) hs ht (by rw [st_length]; exact small_line hsz)
theorem t_all (hF : Fr h₀ L s.heap m) (hN : News h₀ L s.heap news) (hsz : l.length ≤ 1000)
    (h : ∀ h' t' c, Fr h₀ L h' m → News h₀ L h' news → Q (.str (st l) t') { s with heap := h', toks := c })
    (hs : subscripted slice false (.str (st l) t) (.ref s.heap.objs.size) = operate [.ref s.heap.objs.size, .str (st l) t] (getItem (.str (st l) t) (.ref s.heap.objs.size)))
    (ht : ∀ r, letTemporaryGo value (.str (st l) t) r = pure ()) :
    wpAny (model prog w) A (subscriptTail value slice (.str (st l) t) (.ref s.heap.objs.size)) Q E { s with heap := s.heap.push { cls := .type "slice", data := .fields #[.none, .none, .none] } } :=
  slice_strN_nn hF hN (fun h' t' c F N => by rw [slice_all]; exact h h' t' c F N) hs ht (by rw [st_length]; exact small_line hsz)
theorem t_item {k : Nat} {u : Tok} (hk : k < l.length) (hsz : l.length ≤ 1000) (h : Q (.str (st [l.getD k 0]) s.toks) { s with toks := s.toks + 1 })
    (hs : subscripted slice false (.str (st l) t) (.int (k : Int) u) = operate [.str (st l) t, .int (k : Int) u] (getItem (.str (st l) t) (.int (k : Int) u)))
    (ht : ∀ r, letTemporaryGo value (.str (st l) t) r = pure ()) :
    wpAny (model prog w) A (subscriptTail value slice (.str (st l) t) (.int (k : Int) u)) Q E s :=
  item_str (fitsSsize_of (N := 9223372036854775808) (by omega) (by omega) (Int.le_refl _)) (by rw [st_length]; omega) (by rw [st_length]; omega) (fun _ => by rw [item_at hk]; exact h) hs ht
theorem t_itemneg {k : Nat} {u : Tok} (h0 : 0 < k) (hk : k ≤ l.length) (hsz : l.length ≤ 1000) (h : Q (.str (st [l.getD (l.length - k) 0]) s.toks) { s with toks := s.toks + 1 })
    (hs : subscripted slice false (.str (st l) t) (.int (-(k : Int)) u) = operate [.str (st l) t, .int (-(k : Int)) u] (getItem (.str (st l) t) (.int (-(k : Int)) u)))
    (ht : ∀ r, letTemporaryGo value (.str (st l) t) r = pure ()) :
    wpAny (model prog w) A (subscriptTail value slice (.str (st l) t) (.int (-(k : Int)) u)) Q E s :=
  item_str (fitsSsize_of (N := 9223372036854775808) (by omega) (by omega) (Int.le_refl _)) (by rw [st_length]; omega) (by rw [st_length]; omega) (fun _ => by rw [item_neg h0 hk]; exact h) hs ht
theorem t_truthy {Q : Bool → Shared → Prop} (hsz : l.length ≤ 1000) (h : Q (decide (0 < l.length)) { s with toks := s.toks + 1 + 1 }) :
    wpAny (model prog w) A (truthy (.str (st l) t)) Q E s := by
  refine SBL.truthy (by rw [st_length]; omega) ?_
  have e : (((st l).length : Int) != 0) = decide (0 < l.length) := by
    rw [st_length]
    cases l with
    | nil => rfl
    | cons x r => simp; omega
  rw [e]; exact h
theorem t_eq (h : Q (.bool (decide (l = l'))) s) : wpAny (model prog w) A (compareOp CmpOp.Eq (.str (st l) t) (.str (st l') t')) Q E s :=
  eq_str (by rw [st_beq]; exact h)
end
section
variable {prog : Program} {w : World} {A : Around} {E : Value → Shared → Prop} {s : Shared} {l l' : List Nat} {t t' : Tok} {h₀ : Heap} {L a : Addr} {m : Str → Option Value} {news : List (Addr × Obj)} {Q : Value → Shared → Prop}
  {name : Str} {scope : Scope} {cd : Value}
theorem t_truthy_drop {k : Nat} {Q : Bool → Shared → Prop} (hsz : l.length ≤ 1000) (h : Q (decide (k < l.length)) { s with toks := s.toks + 1 + 1 }) :
    wpAny (model prog w) A (truthy (.str (st (l.drop k)) t)) Q E s := by
  refine t_truthy (by simp; omega) ?_
  have e : decide (0 < (l.drop k).length) = decide (k < l.length) := by rw [List.length_drop]; exact decide_eq_decide.mpr (by omega)
  rw [e]; exact h
theorem t_truthy_take {k : Nat} {Q : Bool → Shared → Prop} (hsz : l.length ≤ 1000) (hk : k ≤ l.length) (h : Q (decide (0 < k)) { s with toks := s.toks + 1 + 1 }) :
    wpAny (model prog w) A (truthy (.str (st (l.take k)) t)) Q E s := by
  refine t_truthy (by simp; omega) ?_
  have e : decide (0 < (l.take k).length) = decide (0 < k) := by rw [List.length_take]; exact decide_eq_decide.mpr (by omega)
  rw [e]; exact h
/-- x[:y or None], y a number below one -/
theorem ev_cut {x y : Str} {q : Nat} {u : Tok} {p1 p2 p3 p4 p5 p6 : Pos} {k : Nat} (F : Fr h₀ L s.heap m) (N : News h₀ L s.heap news) (hx : m x = some (.str (st l) t)) (hy : m y = some (.int (-(q : Int)) u)) (hq : q ≤ l.length) (hsz : l.length ≤ 1000)
    (hk : scope.kind = .function) (hlx : (envOf name scope L a cd).kindOf x = some .local) (hly : (envOf name scope L a cd).kindOf y = some .local) (hdx : (x == ("__debug__" : Str)) = false) (hdy : (y == ("__debug__" : Str)) = false)
    (h : ∀ h' t' c, Fr h₀ L h' m → News h₀ L h' news → Q (.str (st (l.take (l.length - q))) t') { s with heap := h', toks := c }) :
    wpAny (model prog w) A (eval (.Subscript (.Name x p1) (.Slice none (some (.BoolOp .Or [.Name y p2, .Constant .none k p3] p4)) none p5) p6) (envOf name scope L a cd)) Q E s := by
  refine Subscript_ (ld F hx ?_ hk hlx hdx)
  refine wpAny_Slice (evalPart_none_step (evalPart_some_step (BoolOp_or (ld F hy ?_ hk hly hdy))))
  refine truthy_int ?_
  by_cases h0 : q = 0
  · subst h0
    have e : ((-((0 : Nat) : Int)) != 0) = false := by decide
    rw [e]
    simp only [Bool.false_eq_true, if_false]
    refine BoolOp_one (wpAny_Constant_none (evalPart_none_step ?_))
    refine t_all F N hsz (fun h' t' c F' N' => ?_) (by with_unfolding_all rfl) (by intro _; with_unfolding_all rfl)
    have := h h' t' c F' N'
    simpa using this
  · have e : ((-(q : Int)) != 0) = true := by rw [bne_iff_ne]; omega
    rw [e]
    simp only [if_true]
    refine evalPart_none_step ?_
    exact t_toneg F N (by omega) hq hsz h (by with_unfolding_all rfl) (by intro _; with_unfolding_all rfl)
end
theorem t_itemneg1 {prog : Program} {w : World} {A : Around} {E : Value → Shared → Prop} {s : Shared} {value slice : Expr} {l : List Nat} {t : Tok} {Q : Value → Shared → Prop} {q : Nat} {u : Tok} (hk : q < l.length) (hsz : l.length ≤ 1000) (h : Q (.str (st [l.getD (l.length - (q + 1)) 0]) s.toks) { s with toks := s.toks + 1 })
    (hs : subscripted slice false (.str (st l) t) (.int (-(q : Int) - 1) u) = operate [.str (st l) t, .int (-(q : Int) - 1) u] (getItem (.str (st l) t) (.int (-(q : Int) - 1) u)))
    (ht : ∀ r, letTemporaryGo value (.str (st l) t) r = pure ()) :
    wpAny (model prog w) A (subscriptTail value slice (.str (st l) t) (.int (-(q : Int) - 1) u)) Q E s := by
  have e : -(q : Int) - 1 = -((q + 1 : Nat) : Int) := by omega
  rw [e] at hs ⊢
  exact t_itemneg (by omega) (by omega) hsz h hs ht

/-- the walk's ends are a word of their own: the proof's terms stay small -/
theorem hideQ {α : Type} {M : Model} {A : Around} {t : Sem α} {Q : α → Shared → Prop} {E : Value → Shared → Prop} {s : Shared} (h : ∀ Q' : α → Shared → Prop, (∀ f s', Q f s' → Q' f s') → wpAny M A t Q' E s) : wpAny M A t Q E s := h Q fun _ _ q => q
def EndsAt (h₀ : Heap) (L : Addr) (s : Shared) (P : (Str → Option Value) → List (Addr × Obj) → Prop) (s₂ : Shared) : Prop :=
  ∃ h' tk m' news', s₂ = { s with heap := h', toks := tk } ∧ Fr h₀ L h' m' ∧ News h₀ L h' news' ∧ P m' news'
theorem EndsAt.intro {h₀ : Heap} {L : Addr} {s : Shared} {P : (Str → Option Value) → List (Addr × Obj) → Prop} {h' : Heap} {tk : Nat} {m' : Str → Option Value} {news' : List (Addr × Obj)}
    (F : Fr h₀ L h' m') (N : News h₀ L h' news') (p : P m' news') : EndsAt h₀ L s P { s with heap := h', toks := tk } := ⟨h', tk, m', news', rfl, F, N, p⟩

section
variable {prog : Program} {w : World} {A : Around} {E : Value → Shared → Prop} {Q : Flow → Shared → Prop} {s : Shared} {env : Env} {h₀ : Heap} {L : Addr}

theorem While_cut {test : Expr} {body : List Stmt} {pos : Pos} {m : Str → Option Value} {news : List (Addr × Obj)} (J : Nat → (Str → Option Value) → List (Addr × Obj) → Prop) (P : (Str → Option Value) → List (Addr × Obj) → Prop) {n₀ : Nat}
    (F : Fr h₀ L s.heap m) (N : News h₀ L s.heap news) (hJ : J n₀ m news)
    (turn : ∀ n m₁ news₁ h₁ tk₁, Fr h₀ L h₁ m₁ → News h₀ L h₁ news₁ → J n m₁ news₁ → ∀ (W : Flow → Shared → Prop) (Z : Shared → Prop), (∀ f s', WhileStep h₀ L s J n f s' → W f s') → (∀ s', EndsAt h₀ L s P s' → Z s') →
      wpAny (model prog w) A (isTrue test env (eval test env)) (fun b s₂ =>
        if b = true then wpAny (model prog w) A (execs body env) W E s₂ else Z s₂) E { s with heap := h₁, toks := tk₁ })
    (next : ∀ m' news' h' tk', Fr h₀ L h' m' → News h₀ L h' news' → P m' news' → Q .next { s with heap := h', toks := tk' })
    (hE : PassesOwn (model prog w) A env E := by passes_own) :
    wpAny (model prog w) A (exec (.While test body [] pos) env) Q E s := by
  refine While_inv J F N hJ (fun n m₁ news₁ h₁ tk₁ F₁ N₁ J₁ => wpAny_mono (turn n m₁ news₁ h₁ tk₁ F₁ N₁ J₁ _ _ (fun _ _ q => q) fun _ q => q) (fun b s₂ h₂ => ?_) fun _ _ e => e) hE
  cases b with
  | true => exact h₂
  | false =>
    simp only [Bool.false_eq_true, if_false] at h₂ ⊢
    obtain ⟨h', tk, m', news', rfl, F', N', p⟩ := h₂
    exact next m' news' h' tk F' N' p
end

/-- how a turn of a for ends -/
def TurnAt (h₀ : Heap) (L : Addr) (wr : List Addr) (own : List (Addr × Obj)) (Jn : (Str → Option Value) → List (Addr × Obj) → Prop) (s : Shared) (Q : Flow → Shared → Prop) (f : Flow) (s₂ : Shared) : Prop :=
  match f with
  | .ret v => Q (.ret v) s₂
  | .brk => Q .next s₂
  | _ => ∃ h' tk m₂ news₂, s₂ = { s with heap := h', toks := tk } ∧ Fr h₀ L h' m₂ ∧ News h₀ L h' (own ++ news₂) ∧ (∀ p ∈ news₂, p.1 ∉ wr) ∧ Jn m₂ news₂
theorem TurnAt.intro {h₀ : Heap} {L : Addr} {wr : List Addr} {own : List (Addr × Obj)} {Jn : (Str → Option Value) → List (Addr × Obj) → Prop} {s : Shared} {Q : Flow → Shared → Prop} {h' : Heap} {tk : Nat} {m₂ : Str → Option Value} {news₂ : List (Addr × Obj)}
    (F : Fr h₀ L h' m₂) (N : News h₀ L h' (own ++ news₂)) (a : ∀ p ∈ news₂, p.1 ∉ wr) (j : Jn m₂ news₂) : TurnAt h₀ L wr own Jn s Q .next { s with heap := h', toks := tk } := ⟨h', tk, m₂, news₂, rfl, F, N, a, j⟩

section
variable {prog : Program} {w : World} {A : Around} {s : Shared} {env : Env} {h₀ : Heap}

def ownAt (h : Heap) (wr : List Addr) : List (Addr × Obj) := wr.map fun b => (b, (h.get? b).getD default)
theorem ownAt_map (h : Heap) (wr : List Addr) : (ownAt h wr).map (·.1) = wr := by
  unfold ownAt; rw [List.map_map]; exact List.map_id _
theorem ownAt_get {h : Heap} {wr : List Addr} (live : ∀ b ∈ wr, ∃ o, h.get? b = some o) : ∀ p ∈ ownAt h wr, p.1 ∈ wr ∧ h.get? p.1 = some p.2 := by
  intro p hp
  obtain ⟨b, hb, rfl⟩ := List.mem_map.mp hp
  obtain ⟨o, ho⟩ := live b hb
  exact ⟨hb, by simp [ho]⟩
theorem ownAt_mem {h : Heap} {wr : List Addr} {b : Addr} {o : Obj} (hb : b ∈ wr) (ho : h.get? b = some o) : (b, o) ∈ ownAt h wr :=
  List.mem_map.mpr ⟨b, hb, by simp [ho]⟩

theorem forLoop_w {R : Result → Shared → Prop} {x : Str} {px : Pos} {body : List Stmt} {I : Addr} {fp wr : List Addr} {n : Nat} {P : Nat → Value → Prop} {St : Nat → Heap → Prop} {m : Str → Option Value}
    {news : List (Addr × Obj)} (W : Walks prog w A I fp wr n P St) (hx : env.kindOf x = some .local)
    (hp : (env.scope.kind == .class || (env.scope.kind == .module && env.locals != env.globals)) = false)
    (hfp : ∀ b ∈ fp, b ∈ wr ∨ ∃ o, h₀.get? b = some o) (hLf : env.locals ∉ fp) (hwr : ∀ b ∈ wr, h₀.get? b = none) (hlive : ∀ i h, St i h → ∀ b ∈ wr, ∃ o, h.get? b = some o) (hnw : ∀ p ∈ news, p.1 ∉ wr)
    (hst : St 0 s.heap) (F : Fr h₀ env.locals s.heap m) (N : News h₀ env.locals s.heap news)
    (J : Nat → (Str → Option Value) → List (Addr × Obj) → Prop) (h0 : J 0 m news)
    (step : ∀ i v m₁ news₁ h tk own, i < n → P i v → J i m₁ news₁ → (∀ p ∈ news₁, p.1 ∉ wr) → own.map (·.1) = wr →
      Fr h₀ env.locals h (fun y => if y = x then some v else m₁ y) → News h₀ env.locals h (own ++ news₁) →
      wpAny (model prog w) A (execs body env) (TurnAt h₀ env.locals wr own (J (i + 1)) { s with heap := h, toks := tk } fun f s' => R (.ok f) s') (notedBy (model prog w) A env fun e s' => R (.error e) s') { s with heap := h, toks := tk })
    (hR : ∀ h' tk m' news', Fr h₀ env.locals h' m' → News h₀ env.locals h' news' → J n m' news' → R (.ok .next) { s with heap := h', toks := tk }) :
    codeAny (model prog w) A (.forLoop (.Name x px) (.ref I) body [] env) R s := by
  have hLw : env.locals ∉ wr := fun h => hLf (W.sub _ h)
  have old : ∀ b o, h₀.get? b = some o → b ∉ wr := fun b o e hb => by rw [hwr b hb] at e; cases e
  refine codeAny_forLoop
    (fun k s' => ∃ h' tk m' news' i, s' = { s with heap := h', toks := tk } ∧ St i h' ∧ Fr h₀ env.locals h' m' ∧ News h₀ env.locals h' news' ∧ (∀ p ∈ news', p.1 ∉ wr) ∧ J i m' news' ∧ i ≤ n ∧ k = n + 1 - i) ?_ (n + 1)
    ⟨s.heap, s.toks, m, news, 0, rfl, hst, F, N, hnw, h0, Nat.zero_le _, rfl⟩
  rintro k s' ⟨h', tk, m', news', i, rfl, hst', F', N', hnw', hJ, hi, rfl⟩
  have next : ∀ h₁ : Heap, (∀ b o, b ∉ wr → h'.get? b = some o → h₁.get? b = some o) → Fr h₀ env.locals h₁ m' ∧ News h₀ env.locals h₁ news' := fun h₁ hk₁ =>
    ⟨⟨F'.ns.at' fun o e => hk₁ _ o hLw e, fun b o e => hk₁ b o (old b o e) (F'.keep b o e), F'.above⟩, fun p hp => ⟨hk₁ _ _ (hnw' p hp) (N' p hp).1, (N' p hp).2⟩⟩
  by_cases hlt : i < n
  · refine W.item i _ _ _ hlt hst' fun v h₁ tk₁ hP hst₁ hk₁ => ?_
    obtain ⟨F₁, N₁⟩ := next h₁ hk₁
    refine wpAny_assign_Name (wpAny_storeName_local hx F₁.ns (fun h₂ hn₂ hs₂ => ?_) hp)
    have F₂ := F₁.set hn₂ hs₂
    have hst₂ : St (i + 1) h₂ := W.frame _ _ _ hst₁ fun b hb o e => (hs₂.2 b fun q => hLf (q ▸ hb)).trans e
    have hg := ownAt_get (hlive _ _ hst₂)
    have Nown : News h₀ env.locals h₂ (ownAt h₂ wr) := fun p hp => ⟨(hg p hp).2, fun q => hLw (q ▸ (hg p hp).1), hwr _ (hg p hp).1⟩
    refine wpAny_mono (step i v m' news' _ _ (ownAt h₂ wr) hlt hP hJ hnw' (ownAt_map _ _) F₂ (Nown.append (N₁.set hs₂))) (fun f s₃ h₃ => ?_) fun _ _ e => e
    have fin : ∀ f : Flow, (∃ h' tk m₂ news₂, s₃ = { ({ s with heap := h₂, toks := tk₁ + 1 } : Shared) with heap := h', toks := tk } ∧ Fr h₀ env.locals h' m₂ ∧ News h₀ env.locals h' (ownAt h₂ wr ++ news₂) ∧ (∀ p ∈ news₂, p.1 ∉ wr) ∧ J (i + 1) m₂ news₂) →
        ∃ m, m < n + 1 - i ∧ ∃ h' tk m' news' i, s₃ = { s with heap := h', toks := tk } ∧ St i h' ∧ Fr h₀ env.locals h' m' ∧ News h₀ env.locals h' news' ∧ (∀ p ∈ news', p.1 ∉ wr) ∧ J i m' news' ∧ i ≤ n ∧ m = n + 1 - i := by
      rintro f ⟨h₃', tk₃, m₂, news₂, rfl, F₃, N₃, ha₃, hJ₃⟩
      refine ⟨n + 1 - (i + 1), by omega, h₃', tk₃, m₂, news₂, i + 1, rfl, ?_, F₃, N₃.right, ha₃, hJ₃, hlt, rfl⟩
      refine W.frame _ _ _ hst₂ fun b hb o e => ?_
      rcases hfp b hb with hw | ⟨o₀, ho₀⟩
      · exact (N₃ _ (List.mem_append_left _ (ownAt_mem hw e))).1
      · have : o₀ = o := by have := F₂.keep b o₀ ho₀; rw [e] at this; exact (Option.some.inj this).symm
        exact this ▸ F₃.keep b o₀ ho₀
    cases f with
    | ret v => exact h₃
    | brk => exact h₃
    | next => exact fin .next h₃
    | cont => exact fin .next h₃
  · have hin : i = n := by omega
    subst hin
    refine W.done _ _ _ hst' fun h₁ tk₁ hk₁ => wpAny_execs_nil ?_
    obtain ⟨F₁, N₁⟩ := next h₁ hk₁
    exact hR h₁ tk₁ m' news' F₁ N₁ hJ

variable {E : Value → Shared → Prop} {Q : Flow → Shared → Prop}
/-- for x in range(n) -/
theorem iter_range {x : Str} {px : Pos} {body : List Stmt} {r : Addr} {n : Nat} {t u v : Tok} {m : Str → Option Value} {news : List (Addr × Obj)}
    (hh : A.handled = none) (hr : IsRange s.heap r 0 (n : Int) 1 t u v) (hn : n ≤ 100000) (hx : env.kindOf x = some .local)
    (hp : (env.scope.kind == .class || (env.scope.kind == .module && env.locals != env.globals)) = false)
    (F : Fr h₀ env.locals s.heap m) (N : News h₀ env.locals s.heap news)
    (J : Nat → (Str → Option Value) → List (Addr × Obj) → Prop) (h0 : J 0 m news)
    (step : ∀ (i : Nat) tv m₁ news₁ h tk I o, i < n → J i m₁ news₁ → (∀ p ∈ news₁, p.1 ≠ I) →
      Fr h₀ env.locals h (fun y => if y = x then some (.int (i : Int) tv) else m₁ y) → News h₀ env.locals h ((I, o) :: news₁) →
      wpAny (model prog w) A (execs body env) (TurnAt h₀ env.locals [I] [(I, o)] (J (i + 1)) { s with heap := h, toks := tk } Q) E { s with heap := h, toks := tk })
    (done : ∀ h' tk m' news', Fr h₀ env.locals h' m' → News h₀ env.locals h' news' → J n m' news' → Q .next { s with heap := h', toks := tk })
    (hE : PassesOwn (model prog w) A env E := by passes_own) :
    wpAny (model prog w) A (pyIter (.ref r)) (fun it s₂ =>
      codeAny (model prog w) A (.forLoop (.Name x px) it body [] env) (fun r s' => match r with | .ok f => Q f s' | .error e => cameBackBy (model prog w) A env E e s') s₂) E s := by
  have hsz : Builtin.Range.rangeSize 0 (n : Int) 1 = (n : Int) := by
    unfold Builtin.Range.rangeSize
    by_cases h : 0 < n
    · simp [h]
    · have : n = 0 := by omega
      subst this; rfl
  refine wpAny_pyIter_range hr ?_ ?_
  · exact small_one (by decide) (by decide) (by omega) (by omega)
  rw [hsz]
  have W := Walks.range (prog := prog) (w := w) hh s.heap.objs.size 0 1 n
  refine forLoop_w (R := fun r s' => match r with | .ok f => Q f s' | .error e => cameBackBy (model prog w) A env E e s') W hx hp (fun b hb => .inl hb) ?_ ?_ (fun i h st b hb => ?_) ?_ ?_ (F.push _) (fun p hp => ⟨Heap.get?_push_of_some _ (N p hp).1, (N p hp).2⟩) J h0 ?_ ?_
  · intro hm; exact absurd F.ns.lt ((List.mem_singleton.mp hm) ▸ Nat.lt_irrefl _)
  · intro b hb; rw [List.mem_singleton.mp hb]; exact next_is_new F
  · rw [List.mem_singleton.mp hb]; exact ⟨_, st⟩
  · intro p hp hI; exact absurd (Heap.lt_size (N p hp).1) ((List.mem_singleton.mp hI) ▸ Nat.lt_irrefl _)
  · show IsRangeIter _ _ _ _ _
    simpa using Heap.get?_push_size _ rfl
  · rintro i v m₁ news₁ h tk own hi ⟨tv, rfl⟩ hJ hoff hown F₁ N₁
    obtain ⟨⟨I, o⟩, rfl, rfl⟩ : ∃ q, own = [q] ∧ q.1 = s.heap.objs.size := by
      cases own with
      | nil => cases hown
      | cons q r => cases r with
        | nil => exact ⟨q, rfl, by simpa using hown⟩
        | cons _ _ => simp at hown
    have e : (0 : Int) + (i : Int) * 1 = (i : Int) := by omega
    rw [e] at F₁
    exact wpAny_passesOwn hE (step i tv m₁ news₁ h tk _ o hi hJ (fun p hp q => hoff p hp (by simp [q])) F₁ N₁)
  · exact done
end

section
variable {prog : Program} {w : World} {A : Around} {E : Value → Shared → Prop} {s : Shared} {h₀ : Heap} {L : Addr} {m : Str → Option Value} {news : List (Addr × Obj)} {Q : Value → Shared → Prop}
theorem t_len {l : List Nat} {t : Tok} (hsz : l.length ≤ 1000) (h : Q (.int (l.length : Int) (s.toks + 1)) { s with toks := s.toks + 1 + 1 }) : wpAny (model prog w) A (call (.builtin "len") [.str (st l) t]) Q E s := by
  refine SBL.len (by rw [st_length]; omega) ?_
  rw [st_length]; exact h
theorem t_len_take {l : List Nat} {k : Nat} {t : Tok} (hsz : l.length ≤ 1000) (hk : k ≤ l.length) (h : Q (.int (k : Int) (s.toks + 1)) { s with toks := s.toks + 1 + 1 }) : wpAny (model prog w) A (call (.builtin "len") [.str (st (l.take k)) t]) Q E s := by
  refine t_len (by simp; omega) ?_
  rw [List.length_take, Nat.min_eq_left hk]; exact h
theorem r_listrange {n : Nat} {r : Addr} {b : Int} {t u v : Tok} (hh : A.handled = none) (F : Fr h₀ L s.heap m) (N : News h₀ L s.heap news) (hr : IsRange s.heap r 2 b 2 t u v) (hb : b = 2 * ((n : Int) + 1)) (hn : n ≤ 1000)
    (h : ∀ h' tk D vs c, Fr h₀ L h' m → News h₀ L h' ((D, listOf vs.toArray c) :: news) → (∀ p ∈ news, p.1 ≠ D) → IntsAre vs (rangeInts 2 2 n) → Q (.ref D) { s with heap := h', toks := tk }) :
    wpAny (model prog w) A (call (.type "list") [.ref r]) Q E s := by
  subst hb
  have hsz : Builtin.Range.rangeSize 2 (2 * ((n : Int) + 1)) 2 = (n : Int) := by
    unfold Builtin.Range.rangeSize
    simp only [show (2 : Int) > 0 by decide, if_true]
    split <;> omega
  refine list_rangeD (n := n) hh F N hr ?_ hsz (by omega) fun h' tk ys F' N' hk hnew hl hpl hc => ?_
  · have f : ∀ i : Int, -(2 ^ 62) ≤ i → i < 2 ^ 62 → Builtin.Range.rangeFitsLong i = true := by
      intro i h1 h2
      unfold Builtin.Range.rangeFitsLong
      rw [Bool.and_eq_true]
      exact ⟨decide_eq_true (by omega), decide_eq_true (by omega)⟩
    unfold Builtin.Range.small
    rw [hsz, f 2 (by decide) (by decide), f _ (by omega) (by omega), f (n : Int) (by omega) (by omega), if_pos (by decide : (2 : Int) > 0), f _ (by omega) (by omega), Bool.or_true]
    rfl
  · obtain ⟨⟨c, hD⟩, hne⟩ := hpl
    refine h h' tk _ ys c F' (fun p hp => ?_) hne (by simpa using CarriedAll.intsOf (f := id) (by simpa using hc))
    rcases List.mem_cons.mp hp with rfl | hp
    · refine ⟨hD, ?_, hnew⟩
      rintro rfl
      exact NewPlain.ne_locals ⟨⟨c, hD⟩, hne⟩ F' rfl
    · exact N' p hp
end
theorem wpAny_cutF {M : Model} {A : Around} {E : Value → Shared → Prop} {s : Shared} {h₀ : Heap} {L : Addr} {t : Sem Flow} {Q : Flow → Shared → Prop} (P : (Str → Option Value) → List (Addr × Obj) → Prop)
    (h : wpAny M A t (fun f s' => match f with | .next => EndsAt h₀ L s P s' | f => Q f s') E s) (next : ∀ m' news' h' tk', Fr h₀ L h' m' → News h₀ L h' news' → P m' news' → Q .next { s with heap := h', toks := tk' }) : wpAny M A t Q E s := by
  refine wpAny_mono h (fun f s' hf => ?_) fun _ _ e => e
  cases f with
  | next =>
    obtain ⟨h', tk, m', news', rfl, F', N', p⟩ := hf
    exact next m' news' h' tk F' N' p
  | brk => exact hf
  | cont => exact hf
  | ret v => exact hf
theorem t_min {prog : Program} {w : World} {A : Around} {E : Value → Shared → Prop} {s : Shared} {h₀ : Heap} {L : Addr} {m : Str → Option Value} {news : List (Addr × Obj)} {Q : Value → Shared → Prop} {a b : Int} {t u : Tok} (hh : A.handled = none) (F : Fr h₀ L s.heap m) (N : News h₀ L s.heap news)
    (h : ∀ h' tk t', Fr h₀ L h' m → News h₀ L h' news → Q (.int (min a b) t') { s with heap := h', toks := tk }) :
    wpAny (model prog w) A (call (.builtin "min") [.int a t, .int b u]) Q E s := by
  refine min_two_N hh F N fun h' tk F' N' => ?_
  have e : (if b < a then b else a) = min a b := by split <;> omega
  rw [e]; exact h h' tk _ F' N'

section
variable {prog : Program} {w : World} {A : Around} {s : Shared} {env : Env} {h₀ : Heap} {E : Value → Shared → Prop} {Q : Flow → Shared → Prop}
/-- for x in l, l a list of the base heap's -/
theorem iter_list {x : Str} {px : Pos} {body : List Stmt} {l : Addr} {vs : List Value} {m : Str → Option Value} {news : List (Addr × Obj)}
    (hh : A.handled = none) (hl : h₀.IsList l vs.toArray) (hx : env.kindOf x = some .local)
    (hp : (env.scope.kind == .class || (env.scope.kind == .module && env.locals != env.globals)) = false)
    (F : Fr h₀ env.locals s.heap m) (N : News h₀ env.locals s.heap news)
    (J : Nat → (Str → Option Value) → List (Addr × Obj) → Prop) (h0 : J 0 m news)
    (step : ∀ (i : Nat) v m₁ news₁ h tk I o, vs[i]? = some v → J i m₁ news₁ → (∀ p ∈ news₁, p.1 ≠ I) →
      Fr h₀ env.locals h (fun y => if y = x then some v else m₁ y) → News h₀ env.locals h ((I, o) :: news₁) →
      wpAny (model prog w) A (execs body env) (TurnAt h₀ env.locals [I] [(I, o)] (J (i + 1)) { s with heap := h, toks := tk } Q) E { s with heap := h, toks := tk })
    (done : ∀ h' tk m' news', Fr h₀ env.locals h' m' → News h₀ env.locals h' news' → J vs.length m' news' → Q .next { s with heap := h', toks := tk })
    (hE : PassesOwn (model prog w) A env E := by passes_own) :
    wpAny (model prog w) A (pyIter (.ref l)) (fun it s₂ =>
      codeAny (model prog w) A (.forLoop (.Name x px) it body [] env) (fun r s' => match r with | .ok f => Q f s' | .error e => cameBackBy (model prog w) A env E e s') s₂) E s := by
  have hls : s.heap.IsList l vs.toArray := hl.at fun o e => F.keep l o e
  obtain ⟨ol, hol, _⟩ := id hl
  have hlt : l < h₀.objs.size := Heap.lt_size hol
  have hne : l ≠ s.heap.objs.size := Nat.ne_of_lt (Nat.lt_trans (Nat.lt_of_lt_of_le hlt F.above) F.ns.lt)
  refine wpAny_pyIter_list hls ?_
  have W := Walks.list (prog := prog) (w := w) hh s.heap.objs.size l hne vs.toArray
  have hsz : vs.toArray.size = vs.length := by simp
  rw [hsz] at W
  refine forLoop_w (R := fun r s' => match r with | .ok f => Q f s' | .error e => cameBackBy (model prog w) A env E e s') W hx hp (fun b hb => ?_) ?_ ?_ (fun i h st b hb => ?_) ?_ ?_ (F.push _) (fun p hp => ⟨Heap.get?_push_of_some _ (N p hp).1, (N p hp).2⟩) J h0 ?_ ?_
  · rcases List.mem_cons.mp hb with rfl | hb
    · exact .inl (List.Mem.head _)
    · rw [List.mem_singleton.mp hb]; exact .inr ⟨_, hol⟩
  · intro hm
    rcases List.mem_cons.mp hm with e | hm
    · exact absurd F.ns.lt (e ▸ Nat.lt_irrefl _)
    · exact absurd (Nat.lt_of_lt_of_le hlt F.above) ((List.mem_singleton.mp hm) ▸ Nat.lt_irrefl _)
  · intro b hb; rw [List.mem_singleton.mp hb]; exact next_is_new F
  · rw [List.mem_singleton.mp hb]
    obtain ⟨⟨o, ho, _⟩, _⟩ := st
    exact ⟨o, ho⟩
  · intro p hp hI; exact absurd (Heap.lt_size (N p hp).1) ((List.mem_singleton.mp hI) ▸ Nat.lt_irrefl _)
  · exact ⟨⟨_, Heap.get?_push_size _ rfl, rfl, rfl⟩, hls.at fun o e => Heap.get?_push_of_some _ e⟩
  · rintro i v m₁ news₁ h tk own hi hv hJ hoff hown F₁ N₁
    obtain ⟨⟨I, o⟩, rfl, rfl⟩ : ∃ q, own = [q] ∧ q.1 = s.heap.objs.size := by
      cases own with
      | nil => cases hown
      | cons q r => cases r with
        | nil => exact ⟨q, rfl, by simpa using hown⟩
        | cons _ _ => simp at hown
    exact wpAny_passesOwn hE (step i v m₁ news₁ h tk _ o (by simpa using hv) hJ (fun p hp q => hoff p hp (by simp [q])) F₁ N₁)
  · exact done
end
theorem ints_item {vs : List Value} {ns : List Int} (hi : IntsAre vs ns) {i : Nat} {v : Value} (hv : vs[i]? = some v) : ∃ t, i < ns.length ∧ v = .int (ns.getD i 0) t := by
  have hlt : i < vs.length := (List.getElem?_eq_some_iff.mp hv).1
  have hlt' : i < ns.length := by rw [← hi.length]; exact hlt
  obtain ⟨t, hx⟩ := hi.get i ns[i] (by simp [hlt'])
  rw [hx] at hv
  refine ⟨t, hlt', ?_⟩
  rw [List.getD_eq_getElem?_getD, List.getElem?_eq_getElem hlt']
  exact (Option.some.inj hv).symm
theorem take_succ_int {ns : List Int} {i : Nat} (h : i < ns.length) : ns.take (i + 1) = ns.take i ++ [ns.getD i 0] := by
  rw [List.take_add_one, List.getElem?_eq_getElem h, List.getD_eq_getElem?_getD, List.getElem?_eq_getElem h]
  rfl

theorem two_own {own : List (Addr × Obj)} {e it : Addr} (hown : own.map (·.1) = [e, it]) : ∃ oe oi, own = [(e, oe), (it, oi)] := by
  cases own with
  | nil => cases hown
  | cons a r => cases r with
    | nil => cases hown
    | cons b r2 => cases r2 with
      | nil =>
        obtain ⟨a1, a2⟩ := a
        obtain ⟨b1, b2⟩ := b
        injection hown with h1 h2
        injection h2 with h2 _
        exact ⟨a2, b2, by rw [← h1, ← h2]⟩
      | cons c r3 => cases hown
section
variable {prog : Program} {w : World} {A : Around} {s : Shared} {env : Env} {h₀ : Heap}
/-- for xi, xc in a walk of pairs, with an else -/
theorem forLoop_t {R : Result → Shared → Prop} {xi xc : Str} {pk pv pt : Pos} {x1 : Nat} {body orelse : List Stmt} {I : Addr} {fp wr : List Addr} {n : Nat} {Pt : Nat → Array Value → Prop} {St : Nat → Heap → Prop} {Mid : Nat → Addr → Heap → Prop}
    {P2 : Nat → Value → Value → Prop} {m : Str → Option Value} {news : List (Addr × Obj)} (hh : A.handled = none) (W : WalksT prog w A I fp wr n Pt St Mid) (h2 : ∀ i vals, Pt i vals → ∃ v0 v1, vals = #[v0, v1] ∧ P2 i v0 v1)
    (hxi : env.kindOf xi = some .local) (hxc : env.kindOf xc = some .local)
    (hp : (env.scope.kind == .class || (env.scope.kind == .module && env.locals != env.globals)) = false)
    (hfp : ∀ b ∈ fp, b ∈ wr ∨ ∃ o, h₀.get? b = some o) (hLf : env.locals ∉ fp) (hwr : ∀ b ∈ wr, h₀.get? b = none) (hlive : ∀ i h, St i h → ∀ b ∈ wr, ∃ o, h.get? b = some o) (hnw : ∀ p ∈ news, p.1 ∉ wr)
    (hst : St 0 s.heap) (F : Fr h₀ env.locals s.heap m) (N : News h₀ env.locals s.heap news)
    (J : Nat → (Str → Option Value) → List (Addr × Obj) → Prop) (h0 : J 0 m news)
    (step : ∀ i v0 v1 m₁ news₁ h tk own, i < n → P2 i v0 v1 → J i m₁ news₁ → (∀ p ∈ news₁, p.1 ∉ wr) → own.map (·.1) = wr →
      Fr h₀ env.locals h (fun y => if y = xc then some v1 else if y = xi then some v0 else m₁ y) → News h₀ env.locals h (own ++ news₁) →
      wpAny (model prog w) A (execs body env) (TurnAt h₀ env.locals wr own (J (i + 1)) { s with heap := h, toks := tk } fun f s' => R (.ok f) s') (notedBy (model prog w) A env fun e s' => R (.error e) s') { s with heap := h, toks := tk })
    (hR : ∀ h' tk m' news', Fr h₀ env.locals h' m' → News h₀ env.locals h' news' → J n m' news' →
      wpAny (model prog w) A (execs orelse env) (fun f s₃ => R (.ok f) s₃) (notedBy (model prog w) A env fun e s' => R (.error e) s') { s with heap := h', toks := tk }) :
    codeAny (model prog w) A (.forLoop (.Tuple [.Name xi pk, .Name xc pv] x1 pt) (.ref I) body orelse env) R s := by
  have hLw : env.locals ∉ wr := fun h => hLf (W.sub _ h)
  have old : ∀ b o, h₀.get? b = some o → b ∉ wr := fun b o e hb => by rw [hwr b hb] at e; cases e
  refine codeAny_forLoop_any
    (fun k s' => ∃ h' tk m' news' i, s' = { s with heap := h', toks := tk } ∧ St i h' ∧ Fr h₀ env.locals h' m' ∧ News h₀ env.locals h' news' ∧ (∀ p ∈ news', p.1 ∉ wr) ∧ J i m' news' ∧ i ≤ n ∧ k = n + 1 - i) ?_ (n + 1)
    ⟨s.heap, s.toks, m, news, 0, rfl, hst, F, N, hnw, h0, Nat.zero_le _, rfl⟩
  rintro k s' ⟨H, tk, m', news', i, rfl, hst', F', N', hnw', hJ, hi, rfl⟩
  have next : ∀ h₁ : Heap, (∀ b o, b ∉ wr → H.get? b = some o → h₁.get? b = some o) → Fr h₀ env.locals h₁ m' ∧ News h₀ env.locals h₁ news' := fun h₁ hk₁ =>
    ⟨⟨F'.ns.at' fun o e => hk₁ _ o hLw e, fun b o e => hk₁ b o (old b o e) (F'.keep b o e), F'.above⟩, fun p hp => ⟨hk₁ _ _ (hnw' p hp) (N' p hp).1, (N' p hp).2⟩⟩
  by_cases hlt : i < n
  · refine W.item i _ _ _ hlt hst' fun T vals h₁ tk₁ hPt _ hT hMid hk₁ => ?_
    obtain ⟨v0, v1, rfl, hP2⟩ := h2 i vals hPt
    refine W.go _ x1 pt i T _ _ _ hMid fun h₂ hst₂ hk₂ => ?_
    have ht₂ : h₂.IsTuple T #[v0, v1] := hT.at fun o e => hk₂ T o (W.apart i T h₁ hMid) e
    refine wpAny_assign_Tuple hh ht₂ rfl rfl fun h₃ hx₃ => ?_
    replace hx₃ : Heap.ExtBut h₂.objs.size h₂ h₃ := hx₃
    have up₃ : ∀ b o, h₂.get? b = some o → h₃.get? b = some o := fun b o x => hx₃ b o (Nat.ne_of_lt (Heap.lt_size x)) x
    obtain ⟨F₃, N₃⟩ := next h₃ fun b o hb x => up₃ b o (hk₂ b o hb (hk₁ b o hb x))
    show wpAny _ A (do holding [v1] (assign (.Name xi pk) env v0); do holding [] (assign (.Name xc pv) env v1); pure ()) _ _ _
    refine wpAny_bind (wpAny_holding (wpAny_assign_Name (wpAny_storeName_local hxi F₃.ns (fun h₄ hn₄ hs₄ => ?_) hp)))
    replace hs₄ : Heap.SameBut env.locals h₃ h₄ := hs₄
    have F₄ := F₃.set hn₄ hs₄
    refine wpAny_bind (wpAny_holding (wpAny_assign_Name (wpAny_storeName_local hxc F₄.ns (fun h₅ hn₅ hs₅ => wpAny_pure ?_) hp)))
    replace hs₅ : Heap.SameBut env.locals h₄ h₅ := hs₅
    have F₅ := F₄.set hn₅ hs₅
    have N₅ : News h₀ env.locals h₅ news' := (N₃.set hs₄).set hs₅
    have hst₅ : St (i + 1) h₅ := W.frame _ _ _ hst₂ fun b hb o e => hs₅.extBut b o (fun q => hLf (q ▸ hb)) (hs₄.extBut b o (fun q => hLf (q ▸ hb)) (up₃ b o e))
    have hg := ownAt_get (hlive _ _ hst₅)
    have Nown : News h₀ env.locals h₅ (ownAt h₅ wr) := fun p hp => ⟨(hg p hp).2, fun q => hLw (q ▸ (hg p hp).1), hwr _ (hg p hp).1⟩
    refine wpAny_mono (step i v0 v1 m' news' h₅ _ (ownAt h₅ wr) hlt hP2 hJ hnw' (ownAt_map _ _) F₅ (Nown.append N₅)) (fun f s₃ h₆ => ?_) fun _ _ e => e
    have fin : (∃ h' tk m₂ news₂, s₃ = { s with heap := h', toks := tk } ∧ Fr h₀ env.locals h' m₂ ∧ News h₀ env.locals h' (ownAt h₅ wr ++ news₂) ∧ (∀ p ∈ news₂, p.1 ∉ wr) ∧ J (i + 1) m₂ news₂) →
        ∃ m, m < n + 1 - i ∧ ∃ h' tk m' news' i, s₃ = { s with heap := h', toks := tk } ∧ St i h' ∧ Fr h₀ env.locals h' m' ∧ News h₀ env.locals h' news' ∧ (∀ p ∈ news', p.1 ∉ wr) ∧ J i m' news' ∧ i ≤ n ∧ m = n + 1 - i := by
      rintro ⟨h₆', tk₆, m₂, news₂, rfl, F₆, N₆, ha₆, hJ₆⟩
      refine ⟨n + 1 - (i + 1), by omega, h₆', tk₆, m₂, news₂, i + 1, rfl, ?_, F₆, N₆.right, ha₆, hJ₆, hlt, rfl⟩
      refine W.frame _ _ _ hst₅ fun b hb o e => ?_
      rcases hfp b hb with hw | ⟨o₀, ho₀⟩
      · exact (N₆ _ (List.mem_append_left _ (ownAt_mem hw e))).1
      · have : o₀ = o := by have := F₅.keep b o₀ ho₀; rw [e] at this; exact (Option.some.inj this).symm
        exact this ▸ F₆.keep b o₀ ho₀
    cases f with
    | ret v => exact h₆
    | brk => exact h₆
    | next => exact fin h₆
    | cont => exact fin h₆
  · have hin : i = n := by omega
    subst hin
    refine W.done _ _ _ hst' fun h₁ tk₁ hk₁ => ?_
    obtain ⟨F₁, N₁⟩ := next h₁ hk₁
    exact hR h₁ tk₁ m' news' F₁ N₁ hJ

variable {E : Value → Shared → Prop} {Q : Flow → Shared → Prop}
/-- for xi, xc in enumerate(l), with an else; e is the enumerate object, it its list iterator -/
theorem iter_enum {xi xc : Str} {pk pv pt : Pos} {x1 : Nat} {body orelse : List Stmt} {e it l : Addr} {vs : List Value} {m : Str → Option Value} {news : List (Addr × Obj)}
    (hh : A.handled = none) (hl : h₀.IsList l vs.toArray) (hxi : env.kindOf xi = some .local) (hxc : env.kindOf xc = some .local)
    (hp : (env.scope.kind == .class || (env.scope.kind == .module && env.locals != env.globals)) = false)
    (he : IsEnum s.heap e it 0 .none) (hit : s.heap.IsListIter it l 0) (hei : e ≠ it) (hen : h₀.get? e = none) (hin : h₀.get? it = none) (heL : e ≠ env.locals) (hiL : it ≠ env.locals) (hnw : ∀ p ∈ news, p.1 ≠ e ∧ p.1 ≠ it)
    (F : Fr h₀ env.locals s.heap m) (N : News h₀ env.locals s.heap news)
    (J : Nat → (Str → Option Value) → List (Addr × Obj) → Prop) (h0 : J 0 m news)
    (step : ∀ (i : Nat) t v m₁ news₁ h tk oe oi, vs[i]? = some v → J i m₁ news₁ → (∀ p ∈ news₁, p.1 ≠ e ∧ p.1 ≠ it) →
      Fr h₀ env.locals h (fun y => if y = xc then some v else if y = xi then some (.int (i : Int) t) else m₁ y) → News h₀ env.locals h ((e, oe) :: (it, oi) :: news₁) →
      wpAny (model prog w) A (execs body env) (TurnAt h₀ env.locals [e, it] [(e, oe), (it, oi)] (J (i + 1)) { s with heap := h, toks := tk } Q) E { s with heap := h, toks := tk })
    (done : ∀ h' tk m' news', Fr h₀ env.locals h' m' → News h₀ env.locals h' news' → J vs.length m' news' →
      wpAny (model prog w) A (execs orelse env) Q E { s with heap := h', toks := tk })
    (hE : PassesOwn (model prog w) A env E := by passes_own) :
    codeAny (model prog w) A (.forLoop (.Tuple [.Name xi pk, .Name xc pv] x1 pt) (.ref e) body orelse env) (fun r s' => match r with | .ok f => Q f s' | .error e => cameBackBy (model prog w) A env E e s') s := by
  have hls : s.heap.IsList l vs.toArray := hl.at fun o e => F.keep l o e
  obtain ⟨ol, hol, _⟩ := id hl
  have hle : l ≠ e := fun q => by rw [q, hen] at hol; cases hol
  have hli : l ≠ it := fun q => by rw [q, hin] at hol; cases hol
  have hlL : l ≠ env.locals := fun q => absurd (Nat.lt_of_lt_of_le (Heap.lt_size hol) F.above) (q ▸ Nat.lt_irrefl _)
  have W := WalksT.enumerate (prog := prog) (w := w) hh e it l hei hle hli vs.toArray
  have hsz : vs.toArray.size = vs.length := by simp
  rw [hsz] at W
  refine forLoop_t (R := fun r s' => match r with | .ok f => Q f s' | .error e => cameBackBy (model prog w) A env E e s') (P2 := fun i v0 v1 => ∃ t, v0 = .int (i : Int) t ∧ vs[i]? = some v1) hh W ?_ hxi hxc hp ?_ ?_ ?_ ?_ ?_ ⟨⟨_, he⟩, hit, hls⟩ F N J h0 ?_ ?_
  · rintro i vals ⟨t, x, hx, rfl⟩
    exact ⟨_, _, rfl, t, rfl, by simpa using hx⟩
  · intro b hb
    simp only [List.mem_cons, List.not_mem_nil, or_false] at hb
    rcases hb with rfl | rfl | rfl
    · exact .inl (by simp)
    · exact .inl (by simp)
    · exact .inr ⟨_, hol⟩
  · simp only [List.mem_cons, List.not_mem_nil, or_false, not_or]
    exact ⟨heL.symm, hiL.symm, hlL.symm⟩
  · intro b hb
    simp only [List.mem_cons, List.not_mem_nil, or_false] at hb
    rcases hb with rfl | rfl
    · exact hen
    · exact hin
  · rintro i h ⟨⟨_, h1⟩, ⟨o2, h2, _⟩, _⟩ b hb
    simp only [List.mem_cons, List.not_mem_nil, or_false] at hb
    rcases hb with rfl | rfl
    · exact ⟨_, h1⟩
    · exact ⟨_, h2⟩
  · intro p hp hb
    simp only [List.mem_cons, List.not_mem_nil, or_false] at hb
    rcases hb with q | q
    · exact (hnw p hp).1 q
    · exact (hnw p hp).2 q
  · rintro i v0 v1 m₁ news₁ h tk own hi ⟨t, rfl, hv⟩ hJ hoff hown F₁ N₁
    obtain ⟨oe, oi, rfl⟩ := two_own hown
    exact wpAny_passesOwn hE (step i t v1 m₁ news₁ h tk oe oi hv hJ (fun p hp => ⟨fun q => hoff p hp (by simp [q]), fun q => hoff p hp (by simp [q])⟩) F₁ N₁)
  · intro h' tk m' news' F' N' hJ
    exact wpAny_passesOwn hE (done h' tk m' news' F' N' hJ)
end

def IntL (h : Heap) (r : Addr) (m : List Int) : Prop := ∃ vs : List Value, h.IsList r vs.toArray ∧ IntsAre vs m
theorem IntL.keeps {h h' : Heap} {r : Addr} {m : List Int} (x : IntL h r m) (k : ∀ b o, h.get? b = some o → h'.get? b = some o) : IntL h' r m :=
  let ⟨vs, hl, hi⟩ := x; ⟨vs, hl.at fun o e => k r o e, hi⟩
theorem ints_unique {vs : List Value} {a b : List Int} (h : IntsAre vs a) : IntsAre vs b → a = b := by
  induction h generalizing b with
  | nil => intro hb; cases hb; rfl
  | cons i t h ih =>
    intro hb
    cases hb with
    | cons _ _ hb => rw [ih hb]
theorem IntL.unique {h : Heap} {r : Addr} {a b : List Int} (x : IntL h r a) (y : IntL h r b) : a = b := by
  obtain ⟨vs, ⟨o, ho, _, n, hd⟩, hi⟩ := x
  obtain ⟨us, ⟨o', ho', _, n', hd'⟩, hj⟩ := y
  rw [ho] at ho'
  cases ho'
  rw [hd] at hd'
  injection hd' with q _
  have : vs = us := by simpa using q
  subst this
  exact ints_unique hi hj
def LLs (h : Heap) (rs : List Addr) (ms : List (List Int)) : Prop := rs.length = ms.length ∧ ∀ (k : Nat) r m, rs[k]? = some r → ms[k]? = some m → IntL h r m
theorem LLs.keeps {h h' : Heap} {rs : List Addr} {ms : List (List Int)} (x : LLs h rs ms) (k : ∀ b o, h.get? b = some o → h'.get? b = some o) : LLs h' rs ms :=
  ⟨x.1, fun i r m a b => (x.2 i r m a b).keeps k⟩
theorem LLs.drop {h : Heap} {rs : List Addr} {ms : List (List Int)} (x : LLs h rs ms) (n : Nat) : LLs h (rs.drop n) (ms.drop n) := by
  refine ⟨by rw [List.length_drop, List.length_drop, x.1], fun k r m a b => ?_⟩
  rw [List.getElem?_drop] at a b
  exact x.2 _ r m a b
def refs (rs : List Addr) : List Value := rs.map Value.ref
/-- an enumerate object over l, just made -/
structure EnumUp (h₀ : Heap) (L : Addr) (h : Heap) (news : List (Addr × Obj)) (e it l : Addr) : Prop where
  en : IsEnum h e it 0 .none
  li : h.IsListIter it l 0
  ne : e ≠ it
  e0 : h₀.get? e = none
  i0 : h₀.get? it = none
  eL : e ≠ L
  iL : it ≠ L
  off : ∀ p ∈ news, p.1 ≠ e ∧ p.1 ≠ it
theorem r_enum {prog : Program} {w : World} {A : Around} {E : Value → Shared → Prop} {s : Shared} {h₀ : Heap} {L : Addr} {m : Str → Option Value} {news : List (Addr × Obj)} {Q : Value → Shared → Prop} {l : Addr} {items : Array Value}
    (F : Fr h₀ L s.heap m) (N : News h₀ L s.heap news) (hl : s.heap.IsList l items)
    (h : ∀ h' e it, EnumUp h₀ L h' news e it l → Fr h₀ L h' m → News h₀ L h' news → Q (.ref e) { s with heap := h' }) :
    wpAny (model prog w) A (call (.type "enumerate") [.ref l]) Q E s := by
  refine call_enumerate_list hl fun h' he hi _ hk => h h' _ _ ⟨he, hi, Nat.succ_ne_self _, ?_, ?_, ?_, ?_, ?_⟩ (F.keeps hk) (N.grown hk)
  · cases q : h₀.get? (s.heap.objs.size + 1) with
    | none => rfl
    | some o => exact absurd (Heap.lt_size (F.keep _ _ q)) (Nat.not_lt.mpr (Nat.le_succ _))
  · exact next_is_new F
  · exact Nat.ne_of_gt (Nat.lt_succ_of_lt F.ns.lt)
  · exact Nat.ne_of_gt F.ns.lt
  · intro p hp
    have := Heap.lt_size (N p hp).1
    exact ⟨Nat.ne_of_lt (Nat.lt_succ_of_lt this), Nat.ne_of_lt this⟩

/-- the frames that stand below a call -/
structure Stk (A : Around) (outer : List Env) (h : Heap) : Prop where
  stack : A.frames = some outer
  frames : ∀ env ∈ outer, env.scope.kind ≠ .module ∧ ∃ L o es n, env.frame = some L ∧ h.get? L = some o ∧ o.data = .dict es n
abbrev frs (outer : List Env) : List Addr := outer.filterMap (·.frame)
theorem Stk.push {A : Around} {outer : List Env} {h₀ h : Heap} {L a : Addr} {m : Str → Option Value} {name : Str} {scope : Scope} {cd : Value} (S : Stk A outer h) (F : Fr h₀ L h m) (hk : scope.kind = .function) :
    Stk (A.deeper (envOf name scope L a cd)) (envOf name scope L a cd :: outer) h := by
  refine ⟨Around.frames_deeper S.stack, fun env he => ?_⟩
  rcases List.mem_cons.mp he with rfl | he
  · obtain ⟨o, es, n, ho, hd, _⟩ := F.ns
    exact ⟨by show scope.kind ≠ .module; rw [hk]; decide, L, o, es, n, rfl, ho, hd⟩
  · exact S.frames env he
theorem funFrames_of {h B : Heap} : ∀ {outer : List Env}, (∀ env ∈ outer, env.scope.kind ≠ .module ∧ ∃ L o es n, env.frame = some L ∧ h.get? L = some o ∧ o.data = .dict es n) → (∀ b ∈ frs outer, B.get? b = none) → h.FunFrames B outer
  | [], _, _ => trivial
  | env :: r, fr, hB => by
    obtain ⟨hk, L, o, es, n, hf, ho, hd⟩ := fr env (.head _)
    refine ⟨hk, ⟨L, o, hf, hB L (List.mem_filterMap.mpr ⟨env, .head _, hf⟩), ho, fun vs q => by rw [hd] at q; cases q⟩, funFrames_of (fun e he => fr e (.tail _ he)) fun b hb => hB b ?_⟩
    obtain ⟨e, he, hf'⟩ := List.mem_filterMap.mp hb
    exact List.mem_filterMap.mpr ⟨e, .tail _ he, hf'⟩
theorem is_lists {M : Model} {A : Around} {E : Value → Shared → Prop} {s : Shared} {Q : Value → Shared → Prop} {a b : Addr} {xs ys : Array Value} (ha : s.heap.IsList a xs) (hb : s.heap.IsList b ys) (h : Q (.bool (decide (a = b))) s) :
    wpAny M A (compareOp .Is (.ref a) (.ref b)) Q E s := by
  by_cases e : a = b
  · subst e
    rw [decide_eq_true rfl] at h
    exact wpAny_is_ref_self h
  · rw [decide_eq_false e] at h
    obtain ⟨oa, hoa, hca, _⟩ := ha
    obtain ⟨ob, hob, hcb, _⟩ := hb
    have he : (a == b) = false := beq_eq_false_iff_ne.mpr e
    show wpAny M A (isSame (.ref a) (.ref b) >>= fun x => pure (Value.bool x)) Q E s
    refine wpAny_bind ?_
    unfold isSame
    simp only [he, Bool.false_eq_true, if_false]
    refine wpAny_bind (wpAny_load hoa (wpAny_bind (wpAny_load hob ?_)))
    rw [hca, hcb]
    exact wpAny_pure (wpAny_pure h)
theorem madeExc_of {h h' : Heap} {e : Addr} {cls : String} {args : List Value} (x : Heap.MadeExc h h' e cls args) : Heap.MadeExcOf h h' e (.type cls) args := ⟨x.keeps, x.new, x.there⟩
theorem leave_index {M : Model} {A : Around} {E : Value → Shared → Prop} {s' : Shared} {h₀ h : Heap} {outer : List Env} {L a e : Addr} {m : Str → Option Value} {name : Str} {scope : Scope} {cd : Value} {Q : Unit → Shared → Prop} {cls : Value} {vs : List Value}
    (S : Stk A outer h₀) (F : Fr h₀ L h m) (hx : Heap.MadeExcOf h s'.heap e cls vs) (hk : scope.kind = .function)
    (hQ : ∀ h' t, Heap.FlyingW (hideAll h₀ (frs outer)) outer e cls (.ref t) h' → h'.TupAt t vs → h₀.get? t = none → h₀.UpToSlots h' → Q () { s' with heap := h' }) :
    wpAny M (A.deeper (envOf name scope L a cd)) (leaving (envOf name scope L a cd) (.ref e)) Q E s' := by
  have hfr : (A.deeper (envOf name scope L a cd)).frames = some (envOf name scope L a cd :: outer) := Around.frames_deeper S.stack
  have st : (hideAll h₀ (frs outer)).StaysIn h := fun b o q => F.keep b o (of_hideAll _ q)
  have hL : (hideAll h₀ (frs outer)).get? L = none := by
    cases q : (hideAll h₀ (frs outer)).get? L with
    | none => rfl
    | some o => exact absurd (Nat.lt_of_lt_of_le (Heap.lt_size (of_hideAll _ q)) F.above) (Nat.lt_irrefl _)
  have hl : h.FunFrames (hideAll h₀ (frs outer)) (envOf name scope L a cd :: outer) := by
    obtain ⟨o, es, n, ho, hd, _⟩ := F.ns
    refine ⟨by show scope.kind ≠ .module; rw [hk]; decide, ⟨L, o, rfl, hL, ho, fun vs q => by rw [hd] at q; cases q⟩, funFrames_of (fun env he => ?_) fun b hb => hideAll_none _ hb⟩
    obtain ⟨h1, L₁, o₁, es₁, n₁, hf₁, ho₁, hd₁⟩ := S.frames env he
    exact ⟨h1, L₁, o₁, es₁, n₁, hf₁, F.keep _ _ ho₁, hd₁⟩
  obtain ⟨t₀, _, ht₀, _⟩ := hx.there
  refine wpAny_leaves_madeW hfr rfl st hl hx fun h' t x1 x2 x3 x4 => hQ h' t x1 x2 ?_ (((Heap.UpToSlots.of_keeps F.keep).trans (Heap.UpToSlots.of_keeps hx.keeps)).trans x4)
  cases q : h₀.get? t with
  | none => rfl
  | some o =>
    exfalso
    by_cases hm : t ∈ frs outer
    · obtain ⟨env, he, hf⟩ := List.mem_filterMap.mp hm
      obtain ⟨_, L₁, o₁, es₁, n₁, hf₁, ho₁, hd₁⟩ := S.frames env he
      rw [hf] at hf₁
      cases hf₁
      have u := (((Heap.UpToSlots.of_keeps F.keep).trans (Heap.UpToSlots.of_keeps hx.keeps)).trans x4) t o₁ ho₁ fun vs q => by rw [hd₁] at q; cases q
      obtain ⟨sl, hs⟩ := u
      obtain ⟨o₂, n₂, ho₂, _, hd₂⟩ := x2
      rw [hs] at ho₂
      cases ho₂
      rw [hd₁] at hd₂
      cases hd₂
    · rw [hideAll_get _ q hm] at x3
      cases x3

/-- all that stood stands, the frames' slots apart -/
def Grows (fs : List Addr) (h h' : Heap) : Prop := (∀ b o, h.get? b = some o → b ∉ fs → h'.get? b = some o) ∧ ∀ b ∈ fs, ∀ o, h.get? b = some o → ∃ sl, h'.get? b = some { o with slots := sl }
theorem Grows.of_stays {fs : List Addr} {h h' : Heap} (k : h.StaysIn h') : Grows fs h h' := ⟨fun b o e _ => k b o e, fun b _ o e => ⟨o.slots, k b o e⟩⟩
theorem Grows.trans {fs : List Addr} {h h' h'' : Heap} (x : Grows fs h h') (y : Grows fs h' h'') : Grows fs h h'' :=
  ⟨fun b o e n => y.1 b o (x.1 b o e n) n, fun b m o e => let ⟨_, e₁⟩ := x.2 b m o e; let ⟨sl, e₂⟩ := y.2 b m _ e₁; ⟨sl, e₂⟩⟩

section
variable {prog : Program} {w : World} {A : Around} {E : Value → Shared → Prop} {s' : Shared} {g h₀ h : Heap} {outer : List Env} {L a e t : Addr} {m : Str → Option Value} {name : Str} {scope : Scope} {cd : Value}
  {vs : List Value} {n : Str} {b₀ : Stmt} {suite : List Stmt} {pos np : Pos} {rest : List ExceptHandler} {Q : Flow → Shared → Prop} {mg mb : Str → Option Value}
theorem caught_here (S : Stk A outer h₀) (F : Fr h₀ L h m) (hg : g = hideAll h₀ (frs outer)) (hgl : g.Ns mainGlobals mg) (hbl : g.Ns builtinsNs mb) (hmg : mg "ValueError" = none) (hmb : mb "ValueError" = some (.type "ValueError"))
    (hfl : Heap.FlyingW (hideAll h (frs (envOf name scope L a cd :: outer))) (envOf name scope L a cd :: outer) e (.type "ValueError") (.ref t) s'.heap) (htup : s'.heap.TupAt t vs) (hsm : h.UpToSlots s'.heap) (htn : h.get? t = none)
    (hk : scope.kind = .function) (hx : (envOf name scope L a cd).kindOf "ValueError" = some .globalImplicit) (hlo : (envOf name scope L a cd).kindOf n = some .local)
    (k : ∀ h' tk fr, Fr g L h' (fun y => if y = n then some (.ref e) else m y) → News g L h' fr → fr.map (·.1) = frs outer → (∀ p ∈ fr, ∀ o, h₀.get? p.1 = some o → ∃ sl, p.2 = { o with slots := sl }) → h'.ExcAt e "ValueError" (.ref t) → h'.TupAt t vs →
      wpAny (model prog w) ((A.deeper (envOf name scope L a cd)).mark (some (.ref e))) (execs (b₀ :: suite) (envOf name scope L a cd))
        (fun f s₄ => wpAny (model prog w) (A.deeper (envOf name scope L a cd)) (do bindName (envOf name scope L a cd) n .none; unbindBehindTheSuite (envOf name scope L a cd) n pos) (fun _ s₅ => Q f s₅) E s₄)
        (AsSuiteRaised (model prog w) ((A.deeper (envOf name scope L a cd)).mark (some (.ref e))) (envOf name scope L a cd) n pos (notedBy (model prog w) ((A.deeper (envOf name scope L a cd)).mark (some (.ref e))) (envOf name scope L a cd) (cameBackBy (model prog w) (A.deeper (envOf name scope L a cd)) (envOf name scope L a cd) E)))
        { s' with heap := h', toks := tk }) :
    wpAny (model prog w) (A.deeper (envOf name scope L a cd)) (noteFrame (.ref e) (envOf name scope L a cd))
      (fun _ s₂ => wpAny (model prog w) (A.deeper (envOf name scope L a cd)) (setFlight (.ref e) none) (fun _ s₃ =>
        wpAny (model prog w) (A.deeper (envOf name scope L a cd)) (handleBy (.ref e) (envOf name scope L a cd) (.ExceptHandler (some (.Name "ValueError" np)) (some n) (b₀ :: suite) pos :: rest)) Q E s₃) E s₂) E s' := by
  subst hg
  have gB : (hideAll h₀ (frs outer)).StaysIn (hideAll h (frs (envOf name scope L a cd :: outer))) := fun b o q => by
    have q0 := of_hideAll _ q
    refine hideAll_get _ (F.keep b o q0) fun hm => ?_
    rcases List.mem_cons.mp hm with z | z
    · exact absurd (Nat.lt_of_lt_of_le (Heap.lt_size q0) F.above) (z ▸ Nat.lt_irrefl _)
    · rw [hideAll_none _ z] at q; cases q
  have Fg : ∀ h', (hideAll h (frs (envOf name scope L a cd :: outer))).StaysIn h' → h.UpToSlots h' → Fr (hideAll h₀ (frs outer)) L h' m := fun h' k1 k2 =>
    ⟨k2.ns F.ns, fun b o q => k1 b o (gB b o q), by rw [hideAll_size]; exact F.above⟩
  refine wpAny_looks_onW (Around.frames_deeper S.stack) rfl hfl fun h₄ hheld₄ hsm₄ => ?_
  refine wpAny_landsW hheld₄ fun h₅ hheld hsm₅' => ?_
  have hsm₅ := hsm₄.trans hsm₅'
  have F₅ := Fg h₅ hheld.1 (hsm.trans hsm₅)
  obtain ⟨ob, hob, hobc⟩ := hheld.there
  refine wpAny_handleBy_builtin_as (X := "ValueError") (T := "ValueError") (b := true) PySem.F.isExc_ValueError PySem.F.notTuple_ValueError (by rw [isSubtype_type]; kernel_rfl) (ld_builtin_at F₅ hgl hmg hbl hmb ⟨rfl, ⟨ob, hob, hobc⟩, ?_⟩ hk hx (by decide))
  refine lands_againW hheld fun h₆ hfl₆ hsm₆ => ?_
  have U₆ : h.UpToSlots h₆ := (hsm.trans hsm₅).trans hsm₆
  have F₆ := Fg h₆ hfl₆.1 U₆
  obtain ⟨oe, ws, hoe, hoec, hoed, hoe0⟩ := hfl₆.first
  have hT₆ := (htup.of_slots hsm₅).of_slots hsm₆
  have live : ∀ b ∈ frs outer, ∃ o, h₆.get? b = some o := fun b hb => by
    obtain ⟨env, he, hf⟩ := List.mem_filterMap.mp hb
    obtain ⟨_, L₁, o₁, es₁, n₁, hf₁, ho₁, hd₁⟩ := S.frames env he
    rw [hf] at hf₁; cases hf₁
    obtain ⟨sl, hs⟩ := U₆ b o₁ (F.keep _ _ ho₁) fun vs q => by rw [hd₁] at q; cases q
    exact ⟨_, hs⟩
  have inH₀ : ∀ b ∈ frs outer, ∃ o es n, h₀.get? b = some o ∧ o.data = .dict es n := fun b hb => by
    obtain ⟨env, he, hf⟩ := List.mem_filterMap.mp hb
    obtain ⟨_, L₁, o₁, es₁, n₁, hf₁, ho₁, hd₁⟩ := S.frames env he
    rw [hf] at hf₁; cases hf₁
    exact ⟨o₁, es₁, n₁, ho₁, hd₁⟩
  have hgt := ownAt_get live
  have N₆ : News (hideAll h₀ (frs outer)) L h₆ (ownAt h₆ (frs outer)) := fun p hp => by
    obtain ⟨hm, hget⟩ := hgt p hp
    refine ⟨hget, fun z => ?_, hideAll_none _ hm⟩
    obtain ⟨o, _, _, ho, _⟩ := inH₀ _ hm
    exact absurd (Nat.lt_of_lt_of_le (Heap.lt_size ho) F.above) (z ▸ Nat.lt_irrefl _)
  have hLe : e ≠ L := fun z => by
    obtain ⟨oL, es, ep, hL, hLd, _⟩ := F₆.ns
    rw [z, hL] at hoe
    cases hoe
    rw [hLd] at hoed
    cases hoed
  have hLt : t ≠ L := fun z => by
    obtain ⟨oL, es, ep, hL, hLd, _⟩ := F₆.ns
    obtain ⟨ot, nt, hot, _, hotd⟩ := hT₆
    rw [z, hL] at hot
    cases hot
    rw [hLd] at hotd
    cases hotd
  refine wpAny_storeName_local hlo F₆.ns (fun h₇ hn₇ hs₇ => ?_) (by show (scope.kind == .class || (scope.kind == .module && L != mainGlobals)) = false; rw [hk]; rfl)
  replace hs₇ : Heap.SameBut L h₆ h₇ := hs₇
  refine k h₇ _ _ (F₆.set hn₇ hs₇) (N₆.set hs₇) (ownAt_map _ _) (fun p hp o ho => ?_) ⟨oe, ws, (hs₇.2 e hLe).trans hoe, hoec, hoed, hoe0⟩ ?_
  · obtain ⟨hm, hget⟩ := hgt p hp
    obtain ⟨o', es, nn, ho', hd'⟩ := inH₀ _ hm
    rw [ho] at ho'
    cases ho'
    obtain ⟨sl, hs⟩ := U₆ p.1 o (F.keep _ _ ho) fun vs q => by rw [hd'] at q; cases q
    rw [hget] at hs
    exact ⟨sl, Option.some.inj hs⟩
  · obtain ⟨ot, nt, hot, hc, hotd⟩ := hT₆
    exact ⟨ot, nt, (hs₇.2 t hLt).trans hot, hc, hotd⟩
end
theorem Stk.keeps {A : Around} {outer : List Env} {h h' : Heap} (S : Stk A outer h) (k : ∀ b o, h.get? b = some o → h'.get? b = some o) : Stk A outer h' :=
  ⟨S.stack, fun env he => let ⟨h1, L, o, es, n, hf, ho, hd⟩ := S.frames env he; ⟨h1, L, o, es, n, hf, k _ _ ho, hd⟩⟩
theorem pick_from (vs : List Value) (k : Nat) : slicePick vs.toArray (some (k : Int)) none none = (vs.drop k).toArray := by
  rw [slicePick_from' vs.toArray k]
theorem pick_to (vs : List Value) (k : Nat) : slicePick vs.toArray none (some (k : Int)) none = (vs.take k).toArray := by
  rw [slicePick_upto' vs.toArray k]
section
variable {prog : Program} {w : World} {A : Around} {E : Value → Shared → Prop} {s : Shared} {h₀ : Heap} {L : Addr} {m : Str → Option Value} {news : List (Addr × Obj)} {Q : Value → Shared → Prop} {value slice : Expr} {l : Addr} {vs : List Value}
theorem r_slice_from {k : Nat} {u : Tok} (F : Fr h₀ L s.heap m) (N : News h₀ L s.heap news) (hl : s.heap.IsList l vs.toArray) (hsz : vs.length ≤ 1000)
    (h : ∀ h' D, Fr h₀ L h' m → News h₀ L h' ((D, listOf (vs.drop k).toArray 0) :: news) → (∀ p ∈ news, p.1 ≠ D) → Q (.ref D) { s with heap := h' })
    (hs : subscripted slice false (.ref l) (.ref s.heap.objs.size) = operate [.ref s.heap.objs.size, .ref l] (getItem (.ref l) (.ref s.heap.objs.size)))
    (ht : ∀ r, letTemporaryGo value (.ref l) r = pure ()) :
    wpAny (model prog w) A (subscriptTail value slice (.ref l) (.ref s.heap.objs.size)) Q E { s with heap := s.heap.push { cls := .type "slice", data := .fields #[.int (k : Int) u, .none, .none] } } := by
  refine slice_list F N hl (.int _ _) .none (fun h' F' N' => ?_) hs ht (by rw [List.size_toArray]; exact small_line hsz)
  rw [pick_from] at N'
  exact h h' _ F' N' fun p hp => Nat.ne_of_lt (Nat.lt_succ_of_lt (Heap.lt_size (N p hp).1))
theorem r_slice_to {k : Nat} {u : Tok} (F : Fr h₀ L s.heap m) (N : News h₀ L s.heap news) (hl : s.heap.IsList l vs.toArray) (hsz : vs.length ≤ 1000)
    (h : ∀ h' D, Fr h₀ L h' m → News h₀ L h' ((D, listOf (vs.take k).toArray 0) :: news) → (∀ p ∈ news, p.1 ≠ D) → Q (.ref D) { s with heap := h' })
    (hs : subscripted slice false (.ref l) (.ref s.heap.objs.size) = operate [.ref s.heap.objs.size, .ref l] (getItem (.ref l) (.ref s.heap.objs.size)))
    (ht : ∀ r, letTemporaryGo value (.ref l) r = pure ()) :
    wpAny (model prog w) A (subscriptTail value slice (.ref l) (.ref s.heap.objs.size)) Q E { s with heap := s.heap.push { cls := .type "slice", data := .fields #[.none, .int (k : Int) u, .none] } } := by
  refine slice_list F N hl .none (.int _ _) (fun h' F' N' => ?_) hs ht (by rw [List.size_toArray]; exact small_line hsz)
  rw [pick_to] at N'
  exact h h' _ F' N' fun p hp => Nat.ne_of_lt (Nat.lt_succ_of_lt (Heap.lt_size (N p hp).1))
end
theorem fr_list {h₀ h : Heap} {L : Addr} {m : Str → Option Value} {l : Addr} {items : Array Value} (F : Fr h₀ L h m) (hl : h₀.IsList l items) : h.IsList l items := hl.at fun o e => F.keep l o e
theorem r_len {prog : Program} {w : World} {A : Around} {E : Value → Shared → Prop} {s : Shared} {Q : Value → Shared → Prop} {l : Addr} {vs : List Value} (hl : s.heap.IsList l vs.toArray) (hsz : vs.length ≤ 1000) (h : ∀ t k, Q (.int (vs.length : Int) t) { s with toks := k }) :
    wpAny (model prog w) A (call (.builtin "len") [.ref l]) Q E s := by
  refine len_list hl (by rw [List.size_toArray]; omega) ?_
  rw [List.size_toArray]
  exact h _ _
theorem refs_length (rs : List Addr) : (refs rs).length = rs.length := List.length_map ..
theorem refs_drop (rs : List Addr) (k : Nat) : (refs rs).drop k = refs (rs.drop k) := by unfold refs; rw [List.map_drop]

/-- the places below n where ms bears mk, as a number -/
def hitsN (ms : List (List Int)) (mk : List Int) : Nat → Int
  | 0 => 0
  | n + 1 => if ms[n]? = some mk then Builtin.bitOr (hitsN ms mk n) (1 * 2 ^ n) else hitsN ms mk n
theorem hits_skip {ms : List (List Int)} {mk : List Int} {b : Nat} : ∀ k, (∀ (j : Nat) m', j < k → (ms.drop b)[j]? = some m' → m' ≠ mk) → hitsN ms mk (b + k) = hitsN ms mk b
  | 0, _ => rfl
  | k + 1, h => by
    have ih := hits_skip k fun j m' hj => h j m' (by omega)
    show (if ms[b + k]? = some mk then _ else hitsN ms mk (b + k)) = _
    have hk : ¬ ms[b + k]? = some mk := fun q => h k mk (by omega) (by rw [List.getElem?_drop]; exact q) rfl
    rw [if_neg hk, ih]
theorem hits_hit {ms : List (List Int)} {mk : List Int} {b k : Nat} (h : (ms.drop b)[k]? = some mk) (h' : ∀ (j : Nat) m', j < k → (ms.drop b)[j]? = some m' → m' ≠ mk) :
    hitsN ms mk (b + k + 1) = Builtin.bitOr (hitsN ms mk b) (1 * 2 ^ (b + k)) := by
  show (if ms[b + k]? = some mk then Builtin.bitOr (hitsN ms mk (b + k)) (1 * 2 ^ (b + k)) else hitsN ms mk (b + k)) = _
  rw [List.getElem?_drop] at h
  rw [if_pos h, hits_skip k h']
theorem hits_end {ms : List (List Int)} {mk : List Int} {b : Nat} (hb : b ≤ ms.length) (h : ∀ (j : Nat) m', (ms.drop b)[j]? = some m' → m' ≠ mk) : hitsN ms mk ms.length = hitsN ms mk b := by
  have := hits_skip (ms.length - b) fun j m' _ => h j m'
  rw [show b + (ms.length - b) = ms.length by omega] at this
  exact this

theorem andN_step (a b : Nat) : a &&& b = 2 * (a / 2 &&& b / 2) + (a % 2) * (b % 2) := by
  have h1 : (a &&& b) / 2 = a / 2 &&& b / 2 := Nat.and_div_two
  have h2 : (a &&& b) % 2 = (a % 2) * (b % 2) := by
    rcases Nat.mod_two_eq_zero_or_one a with ha | ha <;> rcases Nat.mod_two_eq_zero_or_one b with hb | hb
    all_goals
      have e := @Nat.and_mod_two_eq_one a b
      rw [ha, hb] at e ⊢
      generalize a &&& b = z at e ⊢
      simp at e
      omega
  generalize a &&& b = z at h1 h2 ⊢
  generalize a / 2 &&& b / 2 = z' at h1 h2 ⊢
  generalize a % 2 * (b % 2) = z'' at h1 h2 ⊢
  omega
theorem orN_step (a b : Nat) : a ||| b = 2 * (a / 2 ||| b / 2) + (a % 2 + b % 2 - (a % 2) * (b % 2)) := by
  have h1 : (a ||| b) / 2 = a / 2 ||| b / 2 := Nat.or_div_two
  have h2 : (a ||| b) % 2 = (a % 2 + b % 2 - (a % 2) * (b % 2)) := by
    rcases Nat.mod_two_eq_zero_or_one a with ha | ha <;> rcases Nat.mod_two_eq_zero_or_one b with hb | hb
    all_goals
      have e := @Nat.or_mod_two_eq_one a b
      rw [ha, hb] at e ⊢
      generalize a ||| b = z at e ⊢
      simp at e
      omega
  generalize a ||| b = z at h1 h2 ⊢
  generalize a / 2 ||| b / 2 = z' at h1 h2 ⊢
  generalize a % 2 * (b % 2) = z'' at h1 h2 ⊢
  omega
def bi (b : Bool) : Int := if b then 1 else 0
theorem bi_t : bi true = 1 := rfl
theorem bi_f : bi false = 0 := rfl
theorem mod01 (x : Int) : x % 2 = 0 ∨ x % 2 = 1 := by omega
/-- the bit at place i -/
def tb : Int → Nat → Bool
  | x, 0 => decide (x % 2 = 1)
  | x, i + 1 => tb (x / 2) i
theorem bi_mod (x : Int) : bi (tb x 0) = x % 2 := by
  show bi (decide _) = _
  rcases mod01 x with h | h <;> rw [h] <;> rfl
theorem sp (x : Int) : x = 2 * (x / 2) + bi (tb x 0) := by rw [bi_mod]; omega
theorem bi_range (b : Bool) : bi b = 0 ∨ bi b = 1 := by cases b <;> simp [bi]
theorem half (m : Int) (b : Bool) : (2 * m + bi b) / 2 = m := by rcases bi_range b with h | h <;> rw [h] <;> omega
theorem par (m : Int) (b : Bool) : tb (2 * m + bi b) 0 = b := by
  show decide _ = _
  have e : (2 * m + bi b) % 2 = bi b := by rcases bi_range b with h | h <;> rw [h] <;> omega
  rw [e]
  cases b <;> rfl
theorem nat_or (x : Int) : (∃ a : Nat, x = a) ∨ ∃ a : Nat, x = Builtin.bitNot a := by
  by_cases h : 0 ≤ x
  · exact .inl ⟨x.toNat, by omega⟩
  · exact .inr ⟨(-x - 1).toNat, by unfold Builtin.bitNot; omega⟩
theorem not_not (x : Int) : Builtin.bitNot (Builtin.bitNot x) = x := by unfold Builtin.bitNot; omega
theorem not_neg (a : Nat) : ¬ 0 ≤ Builtin.bitNot (a : Int) := by unfold Builtin.bitNot; omega
theorem and_pp (a b : Nat) : Builtin.bitAnd (a : Int) b = ((a &&& b : Nat) : Int) := by
  simp only [Builtin.bitAnd, Int.natCast_nonneg, decide_true, Int.toNat_natCast]
theorem and_pn (a b : Nat) : Builtin.bitAnd (a : Int) (Builtin.bitNot b) = (a : Int) - ((a &&& b : Nat) : Int) := by
  simp only [Builtin.bitAnd, Int.natCast_nonneg, decide_true, not_neg, decide_false, not_not, Int.toNat_natCast]
theorem and_nn (a b : Nat) : Builtin.bitAnd (Builtin.bitNot (a : Int)) (Builtin.bitNot b) = Builtin.bitNot ((a ||| b : Nat) : Int) := by
  simp only [Builtin.bitAnd, not_neg, decide_false, not_not, Int.toNat_natCast]
theorem not_half (a : Int) : Builtin.bitNot a / 2 = Builtin.bitNot (a / 2) := by unfold Builtin.bitNot; omega
theorem not_mod (a : Int) : Builtin.bitNot a % 2 = 1 - a % 2 := by unfold Builtin.bitNot; omega
theorem and_mul (x y : Int) : Builtin.bitAnd x y = 2 * Builtin.bitAnd (x / 2) (y / 2) + (x % 2) * (y % 2) := by
  have pn : ∀ a b : Nat, Builtin.bitAnd (a : Int) (Builtin.bitNot b) = 2 * Builtin.bitAnd ((a : Int) / 2) (Builtin.bitNot b / 2) + ((a : Int) % 2) * (Builtin.bitNot b % 2) := by
    intro a b
    have A := congrArg (fun n : Nat => (n : Int)) (andN_step a b)
    rw [Int.natCast_add, Int.natCast_mul, Int.natCast_mul] at A
    rw [not_half, not_mod, and_pn, show (a : Int) / 2 = ((a / 2 : Nat) : Int) from rfl, show (b : Int) / 2 = ((b / 2 : Nat) : Int) from rfl, and_pn, show (a : Int) % 2 = ((a % 2 : Nat) : Int) from rfl, show (b : Int) % 2 = ((b % 2 : Nat) : Int) from rfl, Int.mul_sub ((a % 2 : Nat) : Int), Int.mul_one]
    generalize ((a % 2 : Nat) : Int) * ((b % 2 : Nat) : Int) = pq at A ⊢
    generalize ((a / 2 &&& b / 2 : Nat) : Int) = z at A ⊢
    generalize ((a &&& b : Nat) : Int) = z' at A ⊢
    omega
  rcases nat_or x with ⟨a, rfl⟩ | ⟨a, rfl⟩ <;> rcases nat_or y with ⟨b, rfl⟩ | ⟨b, rfl⟩
  · rw [show (a : Int) / 2 = ((a / 2 : Nat) : Int) from rfl, show (b : Int) / 2 = ((b / 2 : Nat) : Int) from rfl, and_pp, and_pp, andN_step]
    rfl
  · exact pn a b
  · rw [bitAnd_comm, bitAnd_comm (_ / 2), Int.mul_comm (_ % 2)]
    exact pn b a
  · have A := congrArg (fun n : Nat => (n : Int)) (orN_step a b)
    have ha : a % 2 * (b % 2) ≤ a % 2 + b % 2 := by
      rcases Nat.mod_two_eq_zero_or_one a with h | h <;> rw [h] <;> omega
    rw [Int.natCast_add, Int.natCast_mul, Int.natCast_sub ha, Int.natCast_add, Int.natCast_mul] at A
    rw [not_half, not_half, not_mod, not_mod, and_nn, show (a : Int) / 2 = ((a / 2 : Nat) : Int) from rfl, show (b : Int) / 2 = ((b / 2 : Nat) : Int) from rfl, and_nn, show (a : Int) % 2 = ((a % 2 : Nat) : Int) from rfl, show (b : Int) % 2 = ((b % 2 : Nat) : Int) from rfl, Int.mul_sub, Int.sub_mul, Int.sub_mul, Int.one_mul, Int.mul_one]
    generalize ((a % 2 : Nat) : Int) * ((b % 2 : Nat) : Int) = pq at A ⊢
    generalize ((a / 2 ||| b / 2 : Nat) : Int) = z at A ⊢
    generalize ((a ||| b : Nat) : Int) = z' at A ⊢
    unfold Builtin.bitNot
    generalize ((a % 2 : Nat) : Int) = p at A ⊢
    generalize ((b % 2 : Nat) : Int) = q at A ⊢
    omega
theorem and_step (x y : Int) : Builtin.bitAnd x y = 2 * Builtin.bitAnd (x / 2) (y / 2) + bi (tb x 0 && tb y 0) := by
  rw [and_mul, ← bi_mod, ← bi_mod]
  cases tb x 0 <;> cases tb y 0 <;> rfl
theorem tb_and : ∀ (i : Nat) (x y : Int), tb (Builtin.bitAnd x y) i = (tb x i && tb y i)
  | 0, x, y => by rw [and_step, par]
  | i + 1, x, y => by
    show tb _ i = (tb _ i && tb _ i)
    rw [and_step, half, tb_and i]
theorem tb_not : ∀ (i : Nat) (x : Int), tb (Builtin.bitNot x) i = !tb x i
  | 0, x => by
    show decide _ = !decide _
    rw [not_mod]
    rcases mod01 x with hx | hx <;> rw [hx] <;> rfl
  | i + 1, x => by
    show tb _ i = !tb _ i
    rw [not_half, tb_not i]
theorem tb_or (i : Nat) (x y : Int) : tb (Builtin.bitOr x y) i = (tb x i || tb y i) := by
  unfold Builtin.bitOr
  rw [tb_not, tb_and, tb_not, tb_not]
  cases tb x i <;> cases tb y i <;> rfl
theorem xor_step (x y : Int) : Builtin.bitXor x y = 2 * Builtin.bitXor (x / 2) (y / 2) + bi (tb x 0 ^^ tb y 0) := by
  have e : bi (tb x 0 ^^ tb y 0) = bi (tb x 0) + bi (tb y 0) - 2 * bi (tb x 0 && tb y 0) := by cases tb x 0 <;> cases tb y 0 <;> rfl
  rw [bitXor_and, bitXor_and, and_step, e, bi_mod, bi_mod]
  omega
theorem tb_xor : ∀ (i : Nat) (x y : Int), tb (Builtin.bitXor x y) i = (tb x i ^^ tb y i)
  | 0, x, y => by rw [xor_step, par]
  | i + 1, x, y => by
    show tb _ i = (tb _ i ^^ tb _ i)
    rw [xor_step, half, tb_xor i]
theorem tb_two_zero (x : Int) : tb (x * 2) 0 = false := by
  show decide _ = false
  rw [show x * 2 % 2 = 0 by omega]; rfl
theorem tb_two_succ (x : Int) (i : Nat) : tb (x * 2) (i + 1) = tb x i := by
  show tb _ i = _
  rw [show x * 2 / 2 = x by omega]
theorem tb_zero : ∀ i : Nat, tb 0 i = false
  | 0 => rfl
  | i + 1 => by show tb _ i = false; exact tb_zero i
theorem tb_one : ∀ i : Nat, tb 1 i = decide (i = 0)
  | 0 => rfl
  | i + 1 => by show tb _ i = _; rw [show (1 : Int) / 2 = 0 by rfl, tb_zero]; rfl
theorem tb_full : ∀ (n i : Nat), tb (2 ^ n - 1) i = decide (i < n)
  | 0, i => by rw [show ((2 : Int) ^ 0 - 1) = 0 by rfl, tb_zero]; rfl
  | n + 1, 0 => by
    show decide _ = _
    rw [Int.pow_succ, show ((2 : Int) ^ n * 2 - 1) % 2 = 1 by omega]; simp
  | n + 1, i + 1 => by
    show tb _ i = _
    rw [Int.pow_succ, show ((2 : Int) ^ n * 2 - 1) / 2 = 2 ^ n - 1 by omega, tb_full n i]
    simp
theorem tb_pow : ∀ (n i : Nat), tb (1 * 2 ^ n) i = decide (i = n)
  | 0, i => by rw [show ((1 : Int) * 2 ^ 0) = 1 by rfl, tb_one]
  | n + 1, 0 => by
    show decide _ = _
    rw [Int.pow_succ, show ((1 : Int) * (2 ^ n * 2)) % 2 = 0 by omega]; simp
  | n + 1, i + 1 => by
    show tb _ i = _
    rw [Int.pow_succ, show ((1 : Int) * (2 ^ n * 2)) / 2 = 1 * 2 ^ n by omega, tb_pow n i]
    simp
/-- the carry into place i -/
def cy (c : Bool) (x y : Int) : Nat → Bool
  | 0 => c
  | i + 1 => (tb x i && tb y i) || (tb x i && cy c x y i) || (tb y i && cy c x y i)
theorem cy_down (c : Bool) (x y : Int) : ∀ i, cy c x y (i + 1) = cy ((tb x 0 && tb y 0) || (tb x 0 && c) || (tb y 0 && c)) (x / 2) (y / 2) i
  | 0 => rfl
  | i + 1 => by
    have e := cy_down c x y i
    rw [cy, e]
    rfl
theorem add_step (x y : Int) (c : Bool) : x + y + bi c = 2 * (x / 2 + y / 2 + bi ((tb x 0 && tb y 0) || (tb x 0 && c) || (tb y 0 && c))) + bi (tb x 0 ^^ tb y 0 ^^ c) := by
  have e : 2 * bi ((tb x 0 && tb y 0) || (tb x 0 && c) || (tb y 0 && c)) + bi (tb x 0 ^^ tb y 0 ^^ c) = bi (tb x 0) + bi (tb y 0) + bi c := by cases tb x 0 <;> cases tb y 0 <;> cases c <;> rfl
  rw [bi_mod, bi_mod] at e
  omega
theorem tb_add_c : ∀ (i : Nat) (x y : Int) (c : Bool), tb (x + y + bi c) i = (tb x i ^^ tb y i ^^ cy c x y i)
  | 0, x, y, c => by rw [add_step, par]; rfl
  | i + 1, x, y, c => by
    rw [cy_down]
    show tb _ i = (tb (x / 2) i ^^ tb (y / 2) i ^^ _)
    rw [add_step, half, tb_add_c i]
theorem tb_add (i : Nat) (x y : Int) : tb (x + y) i = (tb x i ^^ tb y i ^^ cy false x y i) := by
  have := tb_add_c i x y false
  rw [bi_f, Int.add_zero] at this
  exact this
theorem tb_shift : ∀ (i : Nat) (x : Int), Builtin.bitAnd (x.fdiv (2 ^ i)) 1 = if tb x i then 1 else 0
  | 0, x => by
    rw [bitAnd_m1, show x.fdiv (2 ^ 0) = x by simp]
    show _ = if decide _ = true then _ else _
    rcases mod01 x with hx | hx <;> rw [hx] <;> rfl
  | i + 1, x => by
    have e : x.fdiv (2 ^ (i + 1)) = (x / 2).fdiv (2 ^ i) := by
      have p : (0 : Int) ≤ 2 ^ i := Int.le_of_lt (Int.pow_pos (by decide))
      have p' : (0 : Int) ≤ 2 ^ (i + 1) := Int.le_of_lt (Int.pow_pos (by decide))
      rw [Int.fdiv_eq_ediv_of_nonneg _ p', Int.fdiv_eq_ediv_of_nonneg _ p, Int.pow_succ, Int.mul_comm, ← Int.ediv_ediv_of_nonneg (by decide)]
    rw [e, tb_shift i]
    rfl
/-- within k places, and a sign -/
def Wth : Nat → Int → Prop
  | 0, x => x = 0 ∨ x = -1
  | k + 1, x => Wth k (x / 2)
theorem Wth.and : ∀ {k : Nat} {x y : Int}, Wth k x → Wth k y → Wth k (Builtin.bitAnd x y)
  | 0, x, y, hx, hy => by
    rcases hx with rfl | rfl <;> rcases hy with rfl | rfl <;> first | exact Or.inl rfl | exact Or.inr rfl
  | k + 1, x, y, hx, hy => by
    show Wth k _
    rw [and_step, half]
    exact Wth.and (k := k) hx hy
theorem Wth.not : ∀ {k : Nat} {x : Int}, Wth k x → Wth k (Builtin.bitNot x)
  | 0, x, hx => by rcases hx with rfl | rfl <;> first | exact Or.inl rfl | exact Or.inr rfl
  | k + 1, x, hx => by
    show Wth k _
    rw [not_half]
    exact Wth.not (k := k) hx
theorem Wth.or {k : Nat} {x y : Int} (hx : Wth k x) (hy : Wth k y) : Wth k (Builtin.bitOr x y) := (hx.not.and hy.not).not
theorem Wth.iff : ∀ {k : Nat} {x : Int}, Wth k x ↔ -2 ^ k ≤ x ∧ x < 2 ^ k
  | 0, x => by show (x = 0 ∨ x = -1) ↔ _; simp; omega
  | k + 1, x => by
    show Wth k (x / 2) ↔ _
    rw [Wth.iff (k := k), Int.pow_succ]
    omega
theorem Wth.xor : ∀ {k : Nat} {x y : Int}, Wth k x → Wth k y → Wth k (Builtin.bitXor x y)
  | 0, x, y, hx, hy => by
    rcases hx with rfl | rfl <;> rcases hy with rfl | rfl <;> first | exact Or.inl rfl | exact Or.inr rfl
  | k + 1, x, y, hx, hy => by
    show Wth k _
    rw [xor_step, half]
    exact Wth.xor (k := k) hx hy
theorem Wth.abs {k : Nat} (hk : k ≤ 60) {x : Int} (h : Wth k x) : x.natAbs < 2 ^ 64 := by
  have h' := Wth.iff.mp h
  have : (2 : Int) ^ k ≤ 2 ^ 60 := by
    have := Nat.pow_le_pow_right (n := 2) (by decide) hk
    exact_mod_cast this
  have e : (2 : Int) ^ 60 = 1152921504606846976 := by decide
  omega

def mAlong (h p : Int) : Int := Builtin.bitOr (Builtin.bitXor (Builtin.bitAnd h p + p) p) h
def mUp (h p m : Int) : Int := Builtin.bitOr (Builtin.bitOr m (Builtin.bitNot (Builtin.bitOr (mAlong h p) p)) * 2) 1
def mBack (h p : Int) : Int := Builtin.bitAnd p (mAlong h p) * 2
def mPlus (full h p m : Int) : Int := Builtin.bitAnd (Builtin.bitOr (mBack h p) (Builtin.bitNot (Builtin.bitOr (Builtin.bitOr h m) (mUp h p m)))) full
def mMinus (full h p m : Int) : Int := Builtin.bitAnd (Builtin.bitAnd (Builtin.bitOr h m) (mUp h p m)) full
/-- the machine behind j marks of the text -/
def mst (ws ts : List (List Int)) : Nat → Int × Int
  | 0 => (2 ^ ws.length - 1, 0)
  | j + 1 => (mPlus (2 ^ ws.length - 1) (hitsN ws (ts.getD j []) ws.length) (mst ws ts j).1 (mst ws ts j).2,
              mMinus (2 ^ ws.length - 1) (hitsN ws (ts.getD j []) ws.length) (mst ws ts j).1 (mst ws ts j).2)
/-- the table of distances of the marks -/
def ut (ws ts : List (List Int)) : Nat → Nat → Int
  | 0, i => i
  | j + 1, 0 => j + 1
  | j + 1, i + 1 => min (ut ws ts j i + (if ws[i]? = ts[j]? then 0 else 1)) (min (ut ws ts j (i + 1)) (ut ws ts (j + 1) i) + 1)
termination_by j i => j + i
theorem min_shift (a e p q : Int) : min (a + e) (min (a + p) (a + q) + 1) = a + min e (min p q + 1) := by omega
theorem sub_shift (a m p : Int) : a + m - (a + p) = m - p := by omega
theorem my_bits : ∀ E P M u b : Bool, (P && M) = false → (u && b) = false →
    (min (if E = true then 0 else 1) (min (bi P - bi M) (bi u - bi b) + 1) - (bi P - bi M) = bi (M || !((E || b) || P)) - bi (P && (E || b))) ∧ (min (if E = true then 0 else 1) (min (bi P - bi M) (bi u - bi b) + 1) - (bi u - bi b) = bi (b || !((E || M) || u)) - bi ((E || M) && u)) ∧
      ((b || !((E || M) || u)) && ((E || M) && u)) = false ∧ ((M || !((E || b) || P)) && (P && (E || b))) = false := by decide
theorem my_cell {E P M u b : Bool} (hPM : (P && M) = false) (hub : (u && b) = false) {a x y : Int} (hx : x - a = bi P - bi M) (hy : y - a = bi u - bi b) :
    (min (a + (if E = true then 0 else 1)) (min x y + 1) - x = bi (M || !((E || b) || P)) - bi (P && (E || b))) ∧ (min (a + (if E = true then 0 else 1)) (min x y + 1) - y = bi (b || !((E || M) || u)) - bi ((E || M) && u)) ∧
      ((b || !((E || M) || u)) && ((E || M) && u)) = false ∧ ((M || !((E || b) || P)) && (P && (E || b))) = false := by
  have ex : x = a + (bi P - bi M) := by omega
  have ey : y = a + (bi u - bi b) := by omega
  rw [ex, ey, min_shift, sub_shift, sub_shift]
  exact my_bits E P M u b hPM hub
theorem tb_hits (ms : List (List Int)) (mk : List Int) : ∀ n i, tb (hitsN ms mk n) i = decide (i < n ∧ ms[i]? = some mk)
  | 0, i => by show tb 0 i = _; rw [tb_zero]; simp
  | n + 1, i => by
    show tb (if ms[n]? = some mk then _ else _) i = _
    by_cases h : ms[n]? = some mk
    · rw [if_pos h, tb_or, tb_hits ms mk n i, tb_pow]
      by_cases hi : i = n
      · subst hi; simp [h]
      · by_cases hl : i < n
        · simp [hi, hl, show i < n + 1 by omega]
        · simp [hi, hl, show ¬ i < n + 1 by omega]
    · rw [if_neg h, tb_hits ms mk n i]
      by_cases hi : i = n
      · subst hi; simp [h]
      · by_cases hl : i < n
        · simp [hl, show i < n + 1 by omega]
        · simp [hl, show ¬ i < n + 1 by omega]
theorem tb_along (h p : Int) (i : Nat) : tb (mAlong h p) i = (tb h i || cy false (Builtin.bitAnd h p) p i) := by
  unfold mAlong
  rw [tb_or, tb_xor, tb_add, tb_and]
  cases tb h i <;> cases tb p i <;> cases cy false (Builtin.bitAnd h p) p i <;> rfl
theorem tb_back_zero (h p : Int) : tb (mBack h p) 0 = false := tb_two_zero _
theorem tb_back_succ (h p : Int) (i : Nat) : tb (mBack h p) (i + 1) = (tb p i && tb (mAlong h p) i) := by
  unfold mBack; rw [tb_two_succ, tb_and]
theorem tb_back_cy (h p : Int) : ∀ i, tb (mBack h p) i = cy false (Builtin.bitAnd h p) p i
  | 0 => tb_back_zero h p
  | i + 1 => by
    rw [tb_back_succ, tb_along, cy, tb_and]
    cases tb h i <;> cases tb p i <;> cases cy false (Builtin.bitAnd h p) p i <;> rfl
theorem tb_up_zero (h p m : Int) : tb (mUp h p m) 0 = true := by
  unfold mUp; rw [tb_or, tb_two_zero, tb_one]; rfl
theorem tb_up_succ (h p m : Int) (i : Nat) : tb (mUp h p m) (i + 1) = (tb m i || !(tb (mAlong h p) i || tb p i)) := by
  unfold mUp; rw [tb_or, tb_two_succ, tb_one, tb_or, tb_not, tb_or]; simp
theorem tb_plus (n : Nat) (h p m : Int) (i : Nat) (hi : i < n) : tb (mPlus (2 ^ n - 1) h p m) i = (tb (mBack h p) i || !((tb h i || tb m i) || tb (mUp h p m) i)) := by
  unfold mPlus; rw [tb_and, tb_full, tb_or, tb_not, tb_or, tb_or]; simp [hi]
theorem tb_minus (n : Nat) (h p m : Int) (i : Nat) (hi : i < n) : tb (mMinus (2 ^ n - 1) h p m) i = ((tb h i || tb m i) && tb (mUp h p m) i) := by
  unfold mMinus; rw [tb_and, tb_full, tb_and, tb_or]; simp [hi]
/-- plus and minus tell the column's steps -/
def Tells (ws ts : List (List Int)) (j : Nat) (p m : Int) : Prop :=
  ∀ i, i < ws.length → (bi (tb p i) - bi (tb m i) = ut ws ts j (i + 1) - ut ws ts j i) ∧ (tb p i && tb m i) = false
theorem ut_zero (ws ts : List (List Int)) (i : Nat) : ut ws ts 0 i = i := by rw [ut]
theorem ut_left (ws ts : List (List Int)) : ∀ j : Nat, ut ws ts j 0 = j
  | 0 => by rw [ut]
  | j + 1 => by rw [ut]; rfl
theorem ut_succ (ws ts : List (List Int)) (j i : Nat) : ut ws ts (j + 1) (i + 1) = min (ut ws ts j i + (if ws[i]? = ts[j]? then 0 else 1)) (min (ut ws ts j (i + 1)) (ut ws ts (j + 1) i) + 1) := by rw [ut]
theorem Tells.step {ws ts : List (List Int)} {j : Nat} (hj : j < ts.length) {p m : Int} (T : Tells ws ts j p m) :
    Tells ws ts (j + 1) (mPlus (2 ^ ws.length - 1) (hitsN ws (ts.getD j []) ws.length) p m) (mMinus (2 ^ ws.length - 1) (hitsN ws (ts.getD j []) ws.length) p m) := by
  generalize hh : hitsN ws (ts.getD j []) ws.length = h
  have hE : ∀ i, i < ws.length → (ws[i]? = ts[j]? ↔ tb h i = true) := by
    intro i hi
    rw [← hh, tb_hits]
    have e : ts[j]? = some (ts.getD j []) := by
      rw [List.getD_eq_getElem?_getD, List.getElem?_eq_getElem hj]; rfl
    rw [e]
    simp [hi]
  have H : ∀ i, i ≤ ws.length → (ut ws ts (j + 1) i - ut ws ts j i = bi (tb (mUp h p m) i) - bi (tb (mBack h p) i)) ∧ (tb (mUp h p m) i && tb (mBack h p) i) = false := by
    intro i
    induction i with
    | zero =>
      intro _
      rw [ut_left, ut_left, tb_up_zero, tb_back_zero, bi_t, bi_f]
      refine ⟨by omega, rfl⟩
    | succ i ih =>
      intro hi
      obtain ⟨h1, h2⟩ := ih (by omega)
      obtain ⟨v1, v2⟩ := T i (by omega)
      have C := my_cell (E := tb h i) v2 h2 v1.symm h1
      rw [tb_up_succ, tb_back_succ, tb_along, ← tb_back_cy, ut_succ]
      simp only [hE i (by omega)]
      exact ⟨C.1, C.2.2.2⟩
  intro i hi
  obtain ⟨h1, h2⟩ := H i (by omega)
  obtain ⟨v1, v2⟩ := T i hi
  have C := my_cell (E := tb h i) v2 h2 v1.symm h1
  rw [tb_plus _ _ _ _ _ hi, tb_minus _ _ _ _ _ hi, ut_succ]
  simp only [hE i hi]
  exact ⟨C.2.1.symm, C.2.2.1⟩
theorem tells_all (ws ts : List (List Int)) : ∀ j, j ≤ ts.length → Tells ws ts j (mst ws ts j).1 (mst ws ts j).2
  | 0, _ => by
    intro i hi
    show (bi (tb (2 ^ ws.length - 1) i) - bi (tb 0 i) = _) ∧ (tb (2 ^ ws.length - 1) i && tb 0 i) = false
    rw [ut_zero, ut_zero, tb_full, tb_zero]
    rw [show decide (i < ws.length) = true by simp [hi], bi_t, bi_f]
    exact ⟨by omega, rfl⟩
  | j + 1, h => Tells.step (by omega) (tells_all ws ts j (by omega))
/-- the ones among the lowest k places -/
def ones (x : Int) : Nat → Int
  | 0 => 0
  | k + 1 => ones x k + bi (tb x k)
theorem ones_tell {ws ts : List (List Int)} {j : Nat} (hj : j ≤ ts.length) : ∀ k, k ≤ ws.length → j + ones (mst ws ts j).1 k - ones (mst ws ts j).2 k = ut ws ts j k
  | 0, _ => by rw [ut_left]; simp [ones]
  | k + 1, h => by
    have ih := ones_tell (ws := ws) hj k (by omega)
    have t := (tells_all ws ts j hj k (by omega)).1
    rw [ones, ones]
    omega
/-- all stays within the word's places -/
theorem mst_range (ws ts : List (List Int)) : ∀ j, Wth ws.length (mst ws ts j).1 ∧ Wth ws.length (mst ws ts j).2
  | 0 => by
    have p : (0 : Int) < 2 ^ ws.length := Int.pow_pos (by decide)
    refine ⟨Wth.iff.mpr ⟨?_, ?_⟩, Wth.iff.mpr ⟨?_, ?_⟩⟩ <;> simp [mst] <;> omega
  | j + 1 => by
    have p : (0 : Int) < 2 ^ ws.length := Int.pow_pos (by decide)
    have q : (0 : Int) ≤ 2 ^ ws.length - 1 := by omega
    have a := bitAnd_range (Builtin.bitOr (mBack (hitsN ws (ts.getD j []) ws.length) (mst ws ts j).1) (Builtin.bitNot (Builtin.bitOr (Builtin.bitOr (hitsN ws (ts.getD j []) ws.length) (mst ws ts j).2) (mUp (hitsN ws (ts.getD j []) ws.length) (mst ws ts j).1 (mst ws ts j).2)))) q
    have b := bitAnd_range (Builtin.bitAnd (Builtin.bitOr (hitsN ws (ts.getD j []) ws.length) (mst ws ts j).2) (mUp (hitsN ws (ts.getD j []) ws.length) (mst ws ts j).1 (mst ws ts j).2)) q
    refine ⟨Wth.iff.mpr ⟨?_, ?_⟩, Wth.iff.mpr ⟨?_, ?_⟩⟩ <;> simp only [mst, mPlus, mMinus] <;> omega
theorem Wth.up : ∀ {k : Nat} {x : Int}, Wth k x → Wth (k + 1) x := by
  intro k x h
  have h := Wth.iff.mp h
  refine Wth.iff.mpr ?_
  rw [Int.pow_succ]; omega
theorem hits_range (ms : List (List Int)) (mk : List Int) : ∀ n, Wth n (hitsN ms mk n)
  | 0 => Or.inl rfl
  | n + 1 => by
    have ih := (hits_range ms mk n).up
    show Wth (n + 1) (if _ then _ else _)
    split
    · refine ih.or (Wth.iff.mpr ?_)
      have p : (0 : Int) < 2 ^ n := Int.pow_pos (by decide)
      rw [Int.pow_succ]; omega
    · exact ih
theorem along_range {k : Nat} {h p : Int} (hh : Wth k h) (hp : Wth k p) : Wth (k + 1) (mAlong h p) := by
  unfold mAlong
  refine Wth.or (Wth.xor ?_ hp.up) hh.up
  have a := Wth.iff.mp (hh.and hp)
  have b := Wth.iff.mp hp
  refine Wth.iff.mpr ?_
  rw [Int.pow_succ]; omega

/-- the marks of some figures -/
def marksOf : List Int → List (List Int)
  | [] => []
  | f :: r => [Int.fdiv f 2] :: [Int.fdiv f 2, Int.fmod f 2] :: marksOf r
theorem marksOf_append : ∀ a b : List Int, marksOf (a ++ b) = marksOf a ++ marksOf b
  | [], b => rfl
  | f :: r, b => by simp [marksOf, marksOf_append r b]
theorem marksOf_length : ∀ a : List Int, (marksOf a).length = 2 * a.length
  | [] => rfl
  | f :: r => by simp [marksOf, marksOf_length r]; omega
theorem marks_even : ∀ (w : List Int) (i : Nat) (h : i < w.length), (marksOf w)[2 * i]? = some [Int.fdiv w[i] 2]
  | f :: r, 0, _ => rfl
  | f :: r, i + 1, h => by
    have := marks_even r i (by simpa using h)
    show (_ :: _ :: marksOf r)[2 * i + 2]? = _
    simpa using this
theorem marks_odd : ∀ (w : List Int) (i : Nat) (h : i < w.length), (marksOf w)[2 * i + 1]? = some [Int.fdiv w[i] 2, Int.fmod w[i] 2]
  | f :: r, 0, _ => rfl
  | f :: r, i + 1, h => by
    have := marks_odd r i (by simpa using h)
    show (_ :: _ :: marksOf r)[2 * i + 1 + 2]? = _
    simpa using this
theorem ut_lip (ws ts : List (List Int)) : ∀ j, (∀ i, -1 ≤ ut ws ts j (i + 1) - ut ws ts j i ∧ ut ws ts j (i + 1) - ut ws ts j i ≤ 1) ∧ (∀ i, -1 ≤ ut ws ts (j + 1) i - ut ws ts j i ∧ ut ws ts (j + 1) i - ut ws ts j i ≤ 1) := by
  have H : ∀ j, (∀ i, -1 ≤ ut ws ts j (i + 1) - ut ws ts j i ∧ ut ws ts j (i + 1) - ut ws ts j i ≤ 1) → (∀ i, -1 ≤ ut ws ts (j + 1) i - ut ws ts j i ∧ ut ws ts (j + 1) i - ut ws ts j i ≤ 1) := by
    intro j V i
    induction i with
    | zero => rw [ut_left, ut_left]; omega
    | succ i ih =>
      have v := V i
      rw [ut_succ]
      split <;> omega
  intro j
  induction j with
  | zero =>
    have V : ∀ i, -1 ≤ ut ws ts 0 (i + 1) - ut ws ts 0 i ∧ ut ws ts 0 (i + 1) - ut ws ts 0 i ≤ 1 := by
      intro i; rw [ut_zero, ut_zero]; omega
    exact ⟨V, H 0 V⟩
  | succ j ih =>
    have V : ∀ i, -1 ≤ ut ws ts (j + 1) (i + 1) - ut ws ts (j + 1) i ∧ ut ws ts (j + 1) (i + 1) - ut ws ts (j + 1) i ≤ 1 := by
      intro i
      have v := ih.1 i
      have h := ih.2 i
      rw [ut_succ]
      split <;> omega
    exact ⟨V, H _ V⟩
/-- what it costs to put one figure for another -/
def fc (f g : Int) : Int := (if Int.fdiv f 2 = Int.fdiv g 2 then 0 else 1) + (if f = g then 0 else 1)
theorem fig_eq {f g : Int} (hf : 0 ≤ f ∧ f < 4) (hg : 0 ≤ g ∧ g < 4) : [Int.fdiv f 2, Int.fmod f 2] = [Int.fdiv g 2, Int.fmod g 2] ↔ f = g := by
  rw [Int.fdiv_eq_ediv_of_nonneg _ (by decide), Int.fdiv_eq_ediv_of_nonneg _ (by decide), Int.fmod_eq_emod_of_nonneg _ (by decide), Int.fmod_eq_emod_of_nonneg _ (by decide)]
  simp
  omega
theorem min_parts {z p q r : Int} (h : z = min p (min q r + 1)) : (z ≤ p ∧ z ≤ q + 1 ∧ z ≤ r + 1) ∧ ∀ k, k ≤ p → k ≤ q + 1 → k ≤ r + 1 → k ≤ z := by
  subst h
  exact ⟨by omega, fun k h1 h2 h3 => by omega⟩
theorem block_pure {a r1 r2 s1 s2 x11 x12 x21 x22 e1 e2 : Int} (h1 : x11 = min (a + e1) (min r1 s1 + 1)) (h2 : x12 = min (r1 + 1) (min r2 x11 + 1)) (h3 : x21 = min (s1 + 1) (min x11 s2 + 1)) (h4 : x22 = min (x11 + e2) (min x12 x21 + 1))
    (he : (e1 = 0 ∧ e2 = 0) ∨ (e2 = 1 ∧ e1 ≤ 1)) (A : min a r2 ≤ r1) (B : min a s2 ≤ s1) (l1 : a - 1 ≤ r1) (l2 : r2 - 1 ≤ r1) (m1 : a - 1 ≤ s1) (m2 : s2 - 1 ≤ s1) :
    x22 = min (a + (e1 + e2)) (min r2 s2 + 2) ∧ min s2 x22 ≤ x21 ∧ min r2 x22 ≤ x12 := by
  obtain ⟨p1, q1⟩ := min_parts h1
  obtain ⟨p2, q2⟩ := min_parts h2
  obtain ⟨p3, q3⟩ := min_parts h3
  obtain ⟨p4, q4⟩ := min_parts h4
  clear h1 h2 h3 h4
  have A' : a ≤ r1 ∨ r2 ≤ r1 := by omega
  have B' : a ≤ s1 ∨ s2 ≤ s1 := by omega
  clear A B
  have low : ∀ k, k ≤ a + (e1 + e2) → k ≤ r2 + 2 → k ≤ s2 + 2 → k ≤ x22 := by
    intro k ha hr hs
    have hr1 : k ≤ r1 + 1 + e2 ∧ k ≤ r1 + 2 := by omega
    have hs1 : k ≤ s1 + 1 + e2 ∧ k ≤ s1 + 2 := by omega
    have c1 := q1 (k - e2) (by omega) (by omega) (by omega)
    have c2 := q2 (k - 1) (by omega) (by omega) (by omega)
    have c3 := q3 (k - 1) (by omega) (by omega) (by omega)
    exact q4 k (by omega) (by omega) (by omega)
  refine ⟨?_, ?_, ?_⟩
  · have u := low (min (a + (e1 + e2)) (min r2 s2 + 2)) (by omega) (by omega) (by omega)
    omega
  · exact q3 _ (by omega) (by omega) (by omega)
  · exact q2 _ (by omega) (by omega) (by omega)
theorem block {w t : List Int} (hw : ∀ f ∈ w, 0 ≤ f ∧ f < 4) (ht : ∀ f ∈ t, 0 ≤ f ∧ f < 4) {i j : Nat} (hi : i < w.length) (hj : j < t.length)
    (A : min (ut (marksOf w) (marksOf t) (2 * j) (2 * i)) (ut (marksOf w) (marksOf t) (2 * j) (2 * i + 2)) ≤ ut (marksOf w) (marksOf t) (2 * j) (2 * i + 1))
    (B : min (ut (marksOf w) (marksOf t) (2 * j) (2 * i)) (ut (marksOf w) (marksOf t) (2 * j + 2) (2 * i)) ≤ ut (marksOf w) (marksOf t) (2 * j + 1) (2 * i)) :
    ut (marksOf w) (marksOf t) (2 * j + 2) (2 * i + 2) = min (ut (marksOf w) (marksOf t) (2 * j) (2 * i) + fc w[i] t[j]) (min (ut (marksOf w) (marksOf t) (2 * j) (2 * i + 2)) (ut (marksOf w) (marksOf t) (2 * j + 2) (2 * i)) + 2) ∧
      min (ut (marksOf w) (marksOf t) (2 * j + 2) (2 * i)) (ut (marksOf w) (marksOf t) (2 * j + 2) (2 * i + 2)) ≤ ut (marksOf w) (marksOf t) (2 * j + 2) (2 * i + 1) ∧
      min (ut (marksOf w) (marksOf t) (2 * j) (2 * i + 2)) (ut (marksOf w) (marksOf t) (2 * j + 2) (2 * i + 2)) ≤ ut (marksOf w) (marksOf t) (2 * j + 1) (2 * i + 2) := by
  have hwi := hw w[i] (List.getElem_mem hi)
  have htj := ht t[j] (List.getElem_mem hj)
  have x11 := ut_succ (marksOf w) (marksOf t) (2 * j) (2 * i)
  have x12 := ut_succ (marksOf w) (marksOf t) (2 * j) (2 * i + 1)
  have x21 := ut_succ (marksOf w) (marksOf t) (2 * j + 1) (2 * i)
  have x22 := ut_succ (marksOf w) (marksOf t) (2 * j + 1) (2 * i + 1)
  rw [marks_even w i hi, marks_even t j hj] at x11
  rw [marks_odd w i hi, marks_even t j hj, if_neg (by simp)] at x12
  rw [marks_even w i hi, marks_odd t j hj, if_neg (by simp)] at x21
  rw [marks_odd w i hi, marks_odd t j hj] at x22
  simp only [Option.some.injEq, fig_eq hwi htj, List.cons.injEq, and_true] at x11 x22
  have l1 := (ut_lip (marksOf w) (marksOf t) (2 * j)).1 (2 * i)
  have l2 := (ut_lip (marksOf w) (marksOf t) (2 * j)).1 (2 * i + 1)
  have m1 := (ut_lip (marksOf w) (marksOf t) (2 * j)).2 (2 * i)
  have m2 := (ut_lip (marksOf w) (marksOf t) (2 * j + 1)).2 (2 * i)
  have pp : ∀ n : Nat, n + 1 + 1 = n + 2 := fun _ => rfl
  simp only [pp] at x11 x12 x21 x22 l1 l2 m1 m2
  unfold fc
  refine block_pure x11 x12 x21 x22 ?_ A B (by omega) (by omega) (by omega) (by omega)
  by_cases e2 : w[i] = t[j]
  · have e1 : w[i].fdiv 2 = t[j].fdiv 2 := by rw [e2]
    exact Or.inl ⟨if_pos e1, if_pos e2⟩
  · refine Or.inr ⟨if_neg e2, ?_⟩
    split <;> decide
/-- the letter of a figure -/
def lt (f : Int) : Nat := [97, 65, 98, 66].getD f.toNat 0
theorem cost_lt {f g : Int} (hf : 0 ≤ f ∧ f < 4) (hg : 0 ≤ g ∧ g < 4) : (cost (lt f) (lt g) : Int) = fc f g := by
  have cf : f = 0 ∨ f = 1 ∨ f = 2 ∨ f = 3 := by omega
  have cg : g = 0 ∨ g = 1 ∨ g = 2 ∨ g = 3 := by omega
  have a0 : Txt.lower (st [97]) = st [97] := by unfold st; decide
  have a1 : Txt.lower (st [65]) = st [97] := by unfold st; decide
  have a2 : Txt.lower (st [98]) = st [98] := by unfold st; decide
  have a3 : Txt.lower (st [66]) = st [98] := by unfold st; decide
  have n : ¬ st [97] = st [98] := fun e => by have := st_inj e; simp at this
  have n' : ¬ st [98] = st [97] := fun e => by have := st_inj e; simp at this
  rcases cf with rfl | rfl | rfl | rfl <;> rcases cg with rfl | rfl | rfl | rfl <;> simp [cost, lt, fc, a0, a1, a2, a3, n, n'] <;> decide
theorem odd_all {w t : List Int} (hw : ∀ f ∈ w, 0 ≤ f ∧ f < 4) (ht : ∀ f ∈ t, 0 ≤ f ∧ f < 4) : ∀ j, j ≤ t.length →
    (∀ i, i < w.length → min (ut (marksOf w) (marksOf t) (2 * j) (2 * i)) (ut (marksOf w) (marksOf t) (2 * j) (2 * i + 2)) ≤ ut (marksOf w) (marksOf t) (2 * j) (2 * i + 1)) ∧
    (j < t.length → ∀ i, i ≤ w.length → min (ut (marksOf w) (marksOf t) (2 * j) (2 * i)) (ut (marksOf w) (marksOf t) (2 * j + 2) (2 * i)) ≤ ut (marksOf w) (marksOf t) (2 * j + 1) (2 * i)) := by
  have H : ∀ j, j < t.length → (∀ i, i < w.length → min (ut (marksOf w) (marksOf t) (2 * j) (2 * i)) (ut (marksOf w) (marksOf t) (2 * j) (2 * i + 2)) ≤ ut (marksOf w) (marksOf t) (2 * j) (2 * i + 1)) →
      ∀ i, i ≤ w.length → min (ut (marksOf w) (marksOf t) (2 * j) (2 * i)) (ut (marksOf w) (marksOf t) (2 * j + 2) (2 * i)) ≤ ut (marksOf w) (marksOf t) (2 * j + 1) (2 * i) := by
    intro j hj A i
    induction i with
    | zero => intro _; rw [Nat.mul_zero, ut_left, ut_left, ut_left]; omega
    | succ i ih => intro hi; exact (block hw ht (by omega) hj (A i (by omega)) (ih (by omega))).2.2
  intro j
  induction j with
  | zero =>
    intro _
    have A : ∀ i, i < w.length → min (ut (marksOf w) (marksOf t) (2 * 0) (2 * i)) (ut (marksOf w) (marksOf t) (2 * 0) (2 * i + 2)) ≤ ut (marksOf w) (marksOf t) (2 * 0) (2 * i + 1) := by
      intro i _; rw [Nat.mul_zero, ut_zero, ut_zero, ut_zero]; omega
    exact ⟨A, fun h => H 0 h A⟩
  | succ j ih =>
    intro hj
    obtain ⟨A, B⟩ := ih (by omega)
    have A' := fun i (hi : i < w.length) => (block hw ht hi (show j < t.length by omega) (A i hi) (B (by omega) i (by omega))).2.1
    exact ⟨A', fun h => H _ h A'⟩
theorem ut_cell {w t : List Int} (hw : ∀ f ∈ w, 0 ≤ f ∧ f < 4) (ht : ∀ f ∈ t, 0 ≤ f ∧ f < 4) : ∀ j, j ≤ t.length → ∀ i, i ≤ w.length → ut (marksOf w) (marksOf t) (2 * j) (2 * i) = (cell (w.map lt) (t.map lt) i j : Int) := by
  intro j
  induction j with
  | zero =>
    intro _ i hi
    rw [Nat.mul_zero, ut_zero, cell_zero_right _ _ (by simpa using hi)]
  | succ j ihj =>
    intro hj i
    induction i with
    | zero =>
      intro _
      rw [Nat.mul_zero, ut_left, cell_zero_left _ _ (by simpa using hj)]
    | succ i ihi =>
      intro hi
      have O := odd_all hw ht j (by omega)
      have C := (block hw ht (show i < w.length by omega) (show j < t.length by omega) (O.1 i (by omega)) (O.2 (by omega) i (by omega))).1
      have e1 := ihj (by omega) i (by omega)
      have e2 := ihj (by omega) (i + 1) (by omega)
      have e3 := ihi (by omega)
      rw [show 2 * (i + 1) = 2 * i + 2 by omega] at e2 ⊢
      rw [show 2 * (j + 1) = 2 * j + 2 by omega] at e3 ⊢
      rw [C, e1, e2, e3, cell_succ _ _ (by rw [List.length_map]; omega) (by rw [List.length_map]; omega)]
      have hc := cost_lt (hw w[i] (List.getElem_mem (by omega))) (ht t[j] (List.getElem_mem (by omega)))
      have g1 : (w.map lt).getD i 0 = lt w[i] := by rw [List.getD_eq_getElem?_getD, List.getElem?_map, List.getElem?_eq_getElem (by omega)]; rfl
      have g2 : (t.map lt).getD j 0 = lt t[j] := by rw [List.getD_eq_getElem?_getD, List.getElem?_map, List.getElem?_eq_getElem (by omega)]; rfl
      rw [g1, g2]
      omega
/-- the law's heart: the machine behind 2 * j marks tells the distance -/
theorem due_is {w t : List Int} (hw : ∀ f ∈ w, 0 ≤ f ∧ f < 4) (ht : ∀ f ∈ t, 0 ≤ f ∧ f < 4) {i j : Nat} (hj : j ≤ t.length) (hi : i ≤ w.length) :
    2 * (j : Int) + ones (mst (marksOf w) (marksOf t) (2 * j)).1 (2 * i) - ones (mst (marksOf w) (marksOf t) (2 * j)).2 (2 * i) = (dist ((w.map lt).take i) ((t.map lt).take j) : Int) := by
  have h := ones_tell (ws := marksOf w) (ts := marksOf t) (j := 2 * j) (by rw [marksOf_length]; omega) (2 * i) (by rw [marksOf_length]; omega)
  rw [ut_cell hw ht j hj i hi] at h
  unfold cell at h
  omega

/-- every second, from the first on -/
def evens : List α → List α
  | [] => []
  | [x] => [x]
  | x :: _ :: r => x :: evens r
theorem evens_length : ∀ l : List α, (evens l).length = (l.length + 1) / 2
  | [] => by simp [evens]
  | [x] => by simp [evens]
  | x :: y :: r => by simp only [evens, List.length_cons, evens_length r]; omega
theorem evens_get : ∀ (l : List α) (k : Nat), (evens l)[k]? = l[2 * k]?
  | [], k => by simp [evens]
  | [x], 0 => rfl
  | [x], k + 1 => by simp [evens]
  | x :: y :: r, 0 => rfl
  | x :: y :: r, k + 1 => by
    rw [evens, List.getElem?_cons_succ, evens_get r k, show 2 * (k + 1) = 2 * k + 1 + 1 by omega, List.getElem?_cons_succ, List.getElem?_cons_succ]
theorem evens_map (f : α → β) : ∀ l : List α, evens (l.map f) = (evens l).map f
  | [] => rfl
  | [x] => rfl
  | x :: y :: r => by simp [evens, evens_map f r]
theorem evens_mem : ∀ (l : List α) {x : α}, x ∈ evens l → x ∈ l
  | [], _, h => h
  | [y], _, h => h
  | y :: z :: r, x, h => by
    rcases List.mem_cons.mp h with h | h
    · exact h ▸ List.Mem.head _
    · exact List.Mem.tail _ (List.Mem.tail _ (evens_mem r h))
theorem evens_pick : ∀ l : List α, ((List.range ((l.length + 1) / 2)).map fun k => 2 * k).filterMap (l[·]?) = evens l
  | [] => by simp [evens]
  | [x] => by simp [evens, List.range_succ_eq_map]
  | x :: y :: r => by
    rw [show ((x :: y :: r).length + 1) / 2 = (r.length + 1) / 2 + 1 by simp only [List.length_cons]; omega, List.range_succ_eq_map]
    rw [List.map_cons, List.map_map, List.filterMap_cons]
    have ih := evens_pick r
    rw [List.filterMap_map] at ih ⊢
    simp only [Nat.mul_zero, List.getElem?_cons_zero, evens]
    rw [← ih]
    rfl
theorem pick_two (vs : List Value) (a : Nat) (ha : a ≤ vs.length) : slicePick vs.toArray (some (a : Int)) none (some 2) = (evens (vs.drop a)).toArray := by
  have e : sliceBounds (some (a : Int)) none (some 2) vs.toArray.size = ((a : Int), (vs.length : Int), 2) := by
    simp only [sliceBounds, Option.getD_some, List.size_toArray]
    have q : ¬ ((a : Int) < 0) := by omega
    have q2 : (2 : Int) > 0 := by decide
    simp only [q, q2, if_true, if_false]
    congr 1
    omega
  have r : sliceRange (a : Int) (vs.length : Int) 2 = (List.range (((vs.drop a).length + 1) / 2)).map fun k => a + 2 * k := by
    unfold sliceRange
    dsimp only
    rw [if_pos (by decide), List.length_drop]
    have c : (if (a : Int) < (vs.length : Int) then ((vs.length : Int) - a + 2 - 1) / 2 else 0).toNat = (vs.length - a + 1) / 2 := by
      split <;> omega
    rw [c]
    apply List.map_congr_left
    intro k _
    omega
  unfold slicePick
  rw [e, r]
  congr 1
  rw [← evens_pick, List.filterMap_map, List.filterMap_map]
  congr 1
  funext k
  simp
theorem ints_evens : ∀ {vs : List Value} {ns : List Int}, IntsAre vs ns → IntsAre (evens vs) (evens ns)
  | [], _, h => by cases h; exact .nil
  | [v], _, h => by
    cases h with
    | cons i t h => cases h; exact .cons i t .nil
  | v :: u :: r, _, h => by
    cases h with
    | cons i t h =>
      cases h with
      | cons i' t' h => exact .cons i t (ints_evens h)
theorem ints_drop1 : ∀ {vs : List Value} {ns : List Int}, IntsAre vs ns → IntsAre (vs.drop 1) (ns.drop 1)
  | _, _, .nil => .nil
  | _, _, .cons _ _ h => h

theorem st_app (a b : List Nat) : st a ++ st b = st (a ++ b) := by
  unfold st
  show Str.append _ _ = _
  simp [Str.append]
theorem st_nil : (Str.ofString "") = st [] := by unfold st; rfl
theorem strjoin_is : ∀ l : List Nat, Str.join "" (l.map fun c => st [c]) = st l
  | [] => by unfold st; rfl
  | [c] => rfl
  | c :: d :: r => by
    have ih := strjoin_is (d :: r)
    show st [c] ++ (Str.ofString "") ++ Str.join "" ((d :: r).map fun c => st [c]) = _
    rw [ih, st_nil, st_app, st_app]
    rfl
theorem join_is (l : List Nat) : Txt.join "" (l.map fun c => st [c]) = st l := by
  unfold Txt.join
  rw [StrLaws.glued_eq_join, strjoin_is]
theorem strs_of {g : Int → Nat} : ∀ {ws : List Value} {fs : List Int}, CarriedAll ws (fs.map fun a => PyData.str (st [g a])) → StrsAre ws ((fs.map g).map fun c => st [c])
  | _, [], .nil => .nil
  | _, f :: r, .cons h t => by
    cases h
    exact .cons _ _ (strs_of t)
theorem r_join {prog : Program} {w : World} {A : Around} {E : Value → Shared → Prop} {s : Shared} {Q : Value → Shared → Prop} {t : Tok} {D : Addr} {ws : List Value} {fs : List Int} {g : Int → Nat}
    (hl : s.heap.IsList D ws.toArray) (hc : CarriedAll ws (fs.map fun a => PyData.str (st [g a]))) (hz : fs.length ≤ 1000) (h : ∀ t' k, Q (.str (st (fs.map g)) t') { s with toks := k }) :
    wpAny (model prog w) A (call (.builtin "str.join") [.str "" t, .ref D]) Q E s := by
  refine join_list (ys := (fs.map g).map fun c => st [c]) hl (strs_of hc) ?_ fun t' k => by rw [join_is]; exact h t' k
  have e : (((fs.map g).map fun c => st [c]).map (·.length)).sum = fs.length := by
    rw [List.map_map, List.map_map]
    have : ((fun x : Str => x.length) ∘ (fun c => st [c])) ∘ g = fun _ => 1 := by funext x; simp [st_length]
    rw [this]
    clear this hl hc h hz
    induction fs with
    | nil => rfl
    | cons _ _ ih => rw [List.map_cons, List.sum_cons, ih, List.length_cons]; omega
  rw [e, st_nil, st_length]
  simp
  omega

theorem ones_count (x : Int) (n : Nat) : ∀ k, k ≤ n → (((((List.range n).map fun i => Builtin.bitAnd (x.fdiv (2 ^ i)) 1).take k).filter fun n => decide (n = 1)).length : Int) = ones x k
  | 0, _ => by rw [List.take_zero]; rfl
  | k + 1, h => by
    have ih := ones_count x n k (by omega)
    have hl : k < ((List.range n).map fun i => Builtin.bitAnd (x.fdiv (2 ^ i)) 1).length := by rw [List.length_map, List.length_range]; omega
    rw [List.take_add_one, List.getElem?_eq_getElem hl, List.filter_append, List.length_append, List.getElem_map, List.getElem_range, tb_shift]
    show ((_ + _ : Nat) : Int) = ones x k + bi (tb x k)
    rw [Int.natCast_add, ih]
    cases tb x k <;> rfl
theorem due_count {w t : List Int} (hw : ∀ f ∈ w, 0 ≤ f ∧ f < 4) (ht : ∀ f ∈ t, 0 ≤ f ∧ f < 4) {i j : Nat} (hj : j ≤ t.length) (hi : i ≤ w.length) {P M : Int} (hP : P = (mst (marksOf w) (marksOf t) (2 * j)).1) (hM : M = (mst (marksOf w) (marksOf t) (2 * j)).2) :
    2 * (j : Int) + (((((List.range (2 * w.length)).map fun i => Builtin.bitAnd (P.fdiv (2 ^ i)) 1).take (2 * i)).filter fun n => decide (n = 1)).length : Int) - (((((List.range (2 * w.length)).map fun i => Builtin.bitAnd (M.fdiv (2 ^ i)) 1).take (2 * i)).filter fun n => decide (n = 1)).length : Int) = (dist ((w.map lt).take i) ((t.map lt).take j) : Int) := by
  rw [ones_count _ _ _ (by omega), ones_count _ _ _ (by omega), hP, hM]
  exact due_is hw ht hj hi

/-- the outer frames' objects, the slots apart as they were in h₀ -/
def FrOk (h₀ : Heap) (outer : List Env) (fr : List (Addr × Obj)) : Prop :=
  fr.map (·.1) = frs outer ∧ ∀ p ∈ fr, ∃ o sl es n, h₀.get? p.1 = some o ∧ p.2 = { o with slots := sl } ∧ o.data = .dict es n
theorem Stk.obj {A : Around} {outer : List Env} {h : Heap} (S : Stk A outer h) {b : Addr} (hb : b ∈ frs outer) : ∃ o es n, h.get? b = some o ∧ o.data = .dict es n := by
  obtain ⟨env, he, hf⟩ := List.mem_filterMap.mp hb
  obtain ⟨_, L₁, o₁, es₁, n₁, hf₁, ho₁, hd₁⟩ := S.frames env he
  rw [hf] at hf₁; cases hf₁
  exact ⟨o₁, es₁, n₁, ho₁, hd₁⟩
theorem frok_start {A : Around} {outer : List Env} {h₀ h : Heap} {L : Addr} {m : Str → Option Value} (S : Stk A outer h₀) (F : Fr h₀ L h m) :
    ∃ fr, FrOk h₀ outer fr ∧ Fr (hideAll h₀ (frs outer)) L h m ∧ News (hideAll h₀ (frs outer)) L h fr := by
  have live : ∀ b ∈ frs outer, ∃ o, h.get? b = some o := fun b hb => let ⟨o, _, _, ho, _⟩ := S.obj hb; ⟨o, F.keep _ _ ho⟩
  have hgt := ownAt_get live
  refine ⟨ownAt h (frs outer), ⟨ownAt_map _ _, fun p hp => ?_⟩, ⟨F.ns, fun b o q => F.keep b o (of_hideAll _ q), by rw [hideAll_size]; exact F.above⟩, fun p hp => ?_⟩
  · obtain ⟨hm, hget⟩ := hgt p hp
    obtain ⟨o, es, n, ho, hd⟩ := S.obj hm
    have := F.keep _ _ ho
    rw [hget] at this
    exact ⟨o, o.slots, es, n, ho, Option.some.inj this, hd⟩
  · obtain ⟨hm, hget⟩ := hgt p hp
    refine ⟨hget, fun z => ?_, hideAll_none _ hm⟩
    obtain ⟨o, _, _, ho, _⟩ := S.obj hm
    exact absurd (Nat.lt_of_lt_of_le (Heap.lt_size ho) F.above) (z ▸ Nat.lt_irrefl _)
theorem FrOk.mem {h₀ : Heap} {outer : List Env} {fr : List (Addr × Obj)} (x : FrOk h₀ outer fr) {b : Addr} (hb : b ∈ frs outer) : ∃ p ∈ fr, p.1 = b := by
  rw [← x.1] at hb
  obtain ⟨p, hp, e⟩ := List.mem_map.mp hb
  exact ⟨p, hp, e⟩
theorem FrOk.stk {A : Around} {outer : List Env} {h₀ g h : Heap} {L : Addr} {fr : List (Addr × Obj)} (x : FrOk h₀ outer fr) (S : Stk A outer h₀) (N : News g L h fr) : Stk A outer h := by
  refine ⟨S.stack, fun env he => ?_⟩
  obtain ⟨h1, L₁, o₁, es₁, n₁, hf₁, ho₁, hd₁⟩ := S.frames env he
  obtain ⟨p, hp, e⟩ := x.mem (b := L₁) (List.mem_filterMap.mpr ⟨env, he, hf₁⟩)
  obtain ⟨o, sl, es, n, ho, hq, hd⟩ := x.2 p hp
  refine ⟨h1, L₁, p.2, es, n, hf₁, e ▸ (N p hp).1, by rw [hq]; exact hd⟩
theorem FrOk.done {outer : List Env} {h₀ h : Heap} {L : Addr} {m : Str → Option Value} {fr : List (Addr × Obj)} (x : FrOk h₀ outer fr) (F : Fr (hideAll h₀ (frs outer)) L h m) (N : News (hideAll h₀ (frs outer)) L h fr) : Grows (frs outer) h₀ h := by
  refine ⟨fun b o q hm => F.keep b o (hideAll_get _ q hm), fun b hm o q => ?_⟩
  obtain ⟨p, hp, rfl⟩ := x.mem hm
  obtain ⟨o', sl, es, n, ho, hq, hd⟩ := x.2 p hp
  rw [q] at ho
  cases ho
  exact ⟨sl, hq ▸ (N p hp).1⟩
theorem Grows.up {fs : List Addr} {h h' : Heap} (x : Grows fs h h') : h.UpToSlots h' := fun b o e _ => by
  by_cases hb : b ∈ fs
  · exact x.2 b hb o e
  · exact ⟨o.slots, x.1 b o e hb⟩
/-- behind a call that may note an error at the frames -/
theorem FrOk.after {outer : List Env} {h₀ h h' : Heap} {L : Addr} {m : Str → Option Value} {stuff fr : List (Addr × Obj)} (x : FrOk h₀ outer fr) (F : Fr (hideAll h₀ (frs outer)) L h m) (N : News (hideAll h₀ (frs outer)) L h (stuff ++ fr)) (hs : ∀ p ∈ stuff, p.1 ∉ frs outer)
    (k : Grows (L :: frs outer) h h') (hL : h₀.objs.size ≤ L) (hold : ∀ b ∈ frs outer, b < h₀.objs.size) :
    ∃ fr', FrOk h₀ outer fr' ∧ Fr (hideAll h₀ (frs outer)) L h' m ∧ News (hideAll h₀ (frs outer)) L h' (stuff ++ fr') := by
  refine ⟨ownAt h' (frs outer), ⟨ownAt_map _ _, fun p hp => ?_⟩, ⟨k.up.ns F.ns, fun b o q => k.1 b o (F.keep b o q) fun hm => ?_, F.above⟩, fun p hp => ?_⟩
  · obtain ⟨b, hb, rfl⟩ := List.mem_map.mp hp
    obtain ⟨q, hq, e⟩ := x.mem hb
    obtain ⟨o, sl, es, n, ho, hq', hd⟩ := x.2 q hq
    have g := (N q (List.mem_append_right _ hq)).1
    obtain ⟨sl', hs'⟩ := k.2 q.1 (List.mem_cons_of_mem _ (e ▸ hb)) _ g
    refine ⟨o, sl', es, n, e ▸ ho, ?_, hd⟩
    show (h'.get? b).getD default = _
    rw [← e, hs', hq']
    rfl
  · rcases List.mem_cons.mp hm with z | z
    · exact absurd (Nat.lt_of_lt_of_le (Heap.lt_size q) F.above) (z ▸ Nat.lt_irrefl _)
    · rw [hideAll_none _ z] at q; cases q
  · rcases List.mem_append.mp hp with hp | hp
    · have g := N p (List.mem_append_left _ hp)
      refine ⟨k.1 _ _ g.1 fun hm => ?_, g.2⟩
      rcases List.mem_cons.mp hm with z | z
      · exact g.2.1 z
      · exact hs p hp z
    · obtain ⟨b, hb, rfl⟩ := List.mem_map.mp hp
      obtain ⟨q, hq, e⟩ := x.mem hb
      have g := (N q (List.mem_append_right _ hq))
      obtain ⟨sl', hs'⟩ := k.2 q.1 (List.mem_cons_of_mem _ (e ▸ hb)) _ g.1
      refine ⟨?_, e ▸ g.2.1, e ▸ g.2.2⟩
      show h'.get? b = some ((h'.get? b).getD default)
      rw [← e, hs']
      rfl
theorem hide_list {A : Around} {outer : List Env} {h : Heap} {l : Addr} {its : Array Value} (S : Stk A outer h) (hl : h.IsList l its) : (hideAll h (frs outer)).IsList l its := by
  obtain ⟨o, ho, hc, n, hd⟩ := hl
  refine ⟨o, hideAll_get _ ho fun hm => ?_, hc, n, hd⟩
  obtain ⟨o', es, k, ho', hd'⟩ := S.obj hm
  rw [ho] at ho'
  cases ho'
  rw [hd] at hd'
  cases hd'
theorem hide_ints {A : Around} {outer : List Env} {h : Heap} {l : Addr} {mk : List Int} (S : Stk A outer h) (hl : IntL h l mk) : IntL (hideAll h (frs outer)) l mk :=
  let ⟨vs, a, b⟩ := hl; ⟨vs, hide_list S a, b⟩
theorem hide_lls {A : Around} {outer : List Env} {h : Heap} {rs : List Addr} {ms : List (List Int)} (S : Stk A outer h) (hl : LLs h rs ms) : LLs (hideAll h (frs outer)) rs ms :=
  ⟨hl.1, fun k r m a b => hide_ints S (hl.2 k r m a b)⟩
theorem Stk.old {A : Around} {outer : List Env} {h : Heap} (S : Stk A outer h) {b : Addr} (hb : b ∈ frs outer) : b < h.objs.size :=
  let ⟨_, _, _, ho, _⟩ := S.obj hb; Heap.lt_size ho
/-- no object of another kind lies at a frame -/
theorem FrOk.apart {outer : List Env} {h₀ g h : Heap} {L : Addr} {fr news : List (Addr × Obj)} (x : FrOk h₀ outer fr) (N : News g L h news) (hsub : ∀ p ∈ fr, p ∈ news) {b : Addr} {o : Obj} (hb : (b, o) ∈ news) {its : Array Value} {n : Nat} (hd : o.data = .seq its n) : b ∉ frs outer := by
  intro hm
  obtain ⟨p, hp, rfl⟩ := x.mem hm
  obtain ⟨o', sl, es, k, ho, hq, hd'⟩ := x.2 p hp
  have e1 := (N _ (hsub p hp)).1
  have e2 := (N _ hb).1
  dsimp only at e2
  rw [e1] at e2
  have := Option.some.inj e2
  rw [hq] at this
  have e3 : ({ o' with slots := sl } : Obj).data = .seq its n := this ▸ hd
  rw [show ({ o' with slots := sl } : Obj).data = o'.data from rfl, hd'] at e3
  cases e3
section
variable {prog : Program} {w : World} {A : Around} {E : Value → Shared → Prop} {s : Shared} {h₀ : Heap} {L : Addr} {m : Str → Option Value} {news : List (Addr × Obj)} {Q : Value → Shared → Prop} {value slice : Expr} {l : Addr} {vs : List Value}
theorem r_slice_two {z : Int} {u v : Tok} {ops : List Value} (F : Fr h₀ L s.heap m) (N : News h₀ L s.heap news) (hl : s.heap.IsList l vs.toArray) (hz : 0 ≤ z) (ha : z.toNat ≤ vs.length) (hsz : vs.length ≤ 1000)
    (h : ∀ h' D, Fr h₀ L h' m → News h₀ L h' ((D, listOf (evens (vs.drop z.toNat)).toArray 0) :: news) → (∀ p ∈ news, p.1 ≠ D) → Q (.ref D) { s with heap := h' })
    (hs : subscripted slice false (.ref l) (.ref s.heap.objs.size) = operate ops (getItem (.ref l) (.ref s.heap.objs.size)))
    (ht : ∀ r, letTemporaryGo value (.ref l) r = pure ()) :
    wpAny (model prog w) A (subscriptTail value slice (.ref l) (.ref s.heap.objs.size)) Q E { s with heap := s.heap.push { cls := .type "slice", data := .fields #[.int z u, .none, .int 2 v] } } := by
  refine slice_list3 F N hl (.int _ _) .none (.int _ _) (by decide) (fun h' F' N' => ?_) hs ht (by rw [List.size_toArray]; exact small_line hsz)
  have e : z = ((z.toNat : Nat) : Int) := by omega
  rw [e, pick_two _ _ ha] at N'
  exact h h' _ F' N' fun p hp => Nat.ne_of_lt (Nat.lt_succ_of_lt (Heap.lt_size (N p hp).1))
theorem app_refs {D T : Addr} {ds : List Addr} {c : Nat} {p q : Addr × Obj} {rest : List (Addr × Obj)} (F : Fr h₀ L s.heap m) (N : News h₀ L s.heap (q :: p :: (D, listOf (refs ds).toArray c) :: rest)) (h1 : q.1 ≠ D) (h2 : p.1 ≠ D) (h3 : ∀ r ∈ rest, r.1 ≠ D) (hz : ds.length ≤ 1000)
    (h : ∀ h', Fr h₀ L h' m → News h₀ L h' (p :: (D, listOf (refs (ds ++ [T])).toArray (c + 1)) :: q :: rest) → Q .none { s with heap := h' }) :
    wpAny (model prog w) A (call (.builtin "list.append") [.ref D, .ref T]) Q E s := by
  have g := N (D, listOf (refs ds).toArray c) (List.Mem.tail _ (List.Mem.tail _ (List.Mem.head _)))
  refine append_at g.1 (fun h' hs ho => h h' (F.change hs g.2.1 g.2.2) fun r hr => ?_) (by rw [List.size_toArray, refs_length]; exact small_line hz)
  have keep : ∀ r ∈ q :: p :: (D, listOf (refs ds).toArray c) :: rest, r.1 ≠ D → h'.get? r.1 = some r.2 ∧ r.1 ≠ L ∧ h₀.get? r.1 = none := fun r hr hn => ⟨(hs.2 _ hn).trans (N r hr).1, (N r hr).2⟩
  rcases List.mem_cons.mp hr with rfl | hr
  · exact keep _ (List.Mem.tail _ (List.Mem.head _)) h2
  rcases List.mem_cons.mp hr with rfl | hr
  · refine ⟨?_, g.2⟩
    rw [ho]
    simp [refs]
  rcases List.mem_cons.mp hr with rfl | hr
  · exact keep _ (List.Mem.head _) h1
  · exact keep _ (List.Mem.tail _ (List.Mem.tail _ (List.Mem.tail _ hr))) (h3 r hr)
end

theorem mapIdx_snoc {f : Nat → Int → Int} {ns : List Int} {i : Nat} (h : i < ns.length) : (ns.take (i + 1)).mapIdx f = (ns.take i).mapIdx f ++ [f i (ns.getD i 0)] := by
  rw [take_succ_int h, List.mapIdx_append]
  simp [List.length_take, Nat.min_eq_left (Nat.le_of_lt h)]
section
variable {prog : Program} {w : World} {A : Around} {E : Value → Shared → Prop} {s : Shared} {h₀ : Heap} {L : Addr} {m : Str → Option Value} {env : Env}
/-- y = [elt for xk, xv in enumerate(l)], where elt stores nothing -/
theorem compA_enum {elt iter : Expr} {xk xv y : Str} {pk pv tp py : Pos} {tq} {scope : Scope} {cl : List (Str × Addr)} {pos spos : Pos} {Q : Flow → Shared → Prop} (f : Nat → Int → Int) (F₀ : Fr h₀ L s.heap m) (hLe : env.locals = L)
    (hsw : swapsWith (.ListComp elt [⟨.Tuple [.Name xk pk, .Name xv pv] tq tp, iter, [], 0⟩] scope pos) (some (.Name y py)) spos.line env = pure true) (hh : A.handled = none)
    (hclos : closureFor scope env = pure cl) (hcell : ∀ z ∈ scope.names, z.2 ≠ .cell) (hkind : scope.kind = .function)
    (hnames : ∀ z ∈ scope.names, z.2 = .local → scope.names.lookup z.1 = some .local) (hxk : scope.names.lookup xk = some .local) (hxv : scope.names.lookup xv = some .local) (hxx : xk ≠ xv)
    (hy : env.kindOf y = some .local) (hp : (env.scope.kind == .class || (env.scope.kind == .module && env.locals != env.globals)) = false)
    (h : wpAny (model prog w) A (eval iter env) (fun xval s₁ => ∃ (news : List (Addr × Obj)) (e it l : Addr) (vs : List Value) (ns : List Int), xval = .ref e ∧ EnumUp h₀ L s₁.heap news e it l ∧ l ≠ e ∧ l ≠ it ∧ s₁.heap.IsList l vs.toArray ∧ IntsAre vs ns ∧ ns.length ≤ 1000 ∧ Fr h₀ L s₁.heap m ∧ News h₀ L s₁.heap news ∧
      (∀ C (i : Nat) a t t' s₂ m₂ E', ns[i]? = some a → Fr h₀ C s₂.heap m₂ → s₂.heap.Ns (compEnvC scope cl C env).locals m₂ → m₂ xk = some (.int (i : Int) t) → m₂ xv = some (.int a t') →
        wpAny (model prog w) A (eval elt (compEnvC scope cl C env)) (fun y s₃ => (∃ t, y = .int (f i a) t) ∧ Keeps s₂ s₃) E' s₂) ∧
      (∀ D ys c h' tk, Fr h₀ L h' (fun z => if z = y then some (.ref D) else m z) → News h₀ L h' ((D, listOf ys.toArray c) :: news) → (∀ p ∈ news, p.1 ≠ D) → IntsAre ys (ns.mapIdx f) → Q .next { s₁ with heap := h', toks := tk })) E s)
    (hs : ∀ x, foldedSetIterable iter env x = pure x) :
    wpAny (model prog w) A (exec (.Assign [.Name y py] (.ListComp elt [⟨.Tuple [.Name xk pk, .Name xv pv] tq tp, iter, [], 0⟩] scope pos) spos) env) Q E s := by
  subst hLe
  rw [exec_Assign_Name_used _ _ _ _ hsw]
  refine wpAny_bind (wpAny_standAt (wpAny_bind ?_))
  show wpAny _ A (do let _ ← comprehension (.ListComp elt [⟨.Tuple [.Name xk pk, .Name xv pv] tq tp, iter, [], 0⟩] scope pos) scope env _ (newList []) false (eval iter env) (some (assign (.Name y py) env))) _ _ s
  refine wpAny_bind (wpAny_mono (wpAny_comprehension_free (use := some (assign (.Name y py) env)) (Q := fun _ s' => Q .next s') rfl hs hclos hkind hnames
    (wpAny_mono h (fun xval s₁ h₁ => ?_) fun _ _ e => e)) (fun _ s' hq => wpAny_pure (wpAny_pure hq)) fun _ _ e => e)
  obtain ⟨news, e, it, l, vs, ns, rfl, U, hle, hli, hl, hi, hsz, F, N, helt, hQ⟩ := h₁
  have hvl : vs.length = ns.length := hi.length
  have W := WalksT.enumerate (prog := prog) (w := w) hh e it l U.ne hle hli vs.toArray
  refine wpAny_pyIter_enum U.en ?_
  refine wpAny_newObj_type (wpAny_newFunctionEnv hcell (by intro y hy; simp at hy) (fun h₁ hns₁ hsb₁ => ?_) hkind)
  dsimp only at hns₁ hsb₁ ⊢
  generalize hH2 : s₁.heap.push { cls := .type "list", dict := none, data := .seq ([] : List Value).toArray } = H2 at hns₁ hsb₁ ⊢
  have hC : H2.objs.size = s₁.heap.objs.size + 1 := by rw [← hH2, Heap.size_push]
  have hDC : s₁.heap.objs.size ≠ H2.objs.size := by rw [hC]; exact Nat.ne_of_lt (Nat.lt_succ_self _)
  have below : ∀ b, b < s₁.heap.objs.size → b ≠ H2.objs.size ∧ b ≠ s₁.heap.objs.size := fun b hb => ⟨by rw [hC]; exact Nat.ne_of_lt (Nat.lt_succ_of_lt hb), Nat.ne_of_lt hb⟩
  have old : ∀ b o, s₁.heap.get? b = some o → h₁.get? b = some o := fun b o e => hsb₁.extBut b o (below b (Heap.lt_size e)).1 (Heap.get?_push_of_some _ (hH2 ▸ Heap.get?_push_of_some _ e))
  have hacc : h₁.get? s₁.heap.objs.size = some (listOf ([] : List Value).toArray 0) := hsb₁.extBut _ _ hDC (Heap.get?_push_of_some _ (hH2 ▸ Heap.get?_push_size _ rfl))
  have hst₀ : (∃ o, IsEnum s₁.heap e it (0 : Nat) o) ∧ s₁.heap.IsListIter it l 0 ∧ s₁.heap.IsList l vs.toArray := ⟨⟨_, U.en⟩, U.li, hl⟩
  have hst₁ := W.frame 0 _ _ hst₀ fun b _ o e => old b o e
  have hfp : ∀ b ∈ [e, it, l], b < s₁.heap.objs.size := by
    intro b hb
    simp only [List.mem_cons, List.not_mem_nil, or_false] at hb
    rcases hb with rfl | rfl | rfl
    · exact Heap.lt_size U.en
    · obtain ⟨_, q, _⟩ := U.li; exact Heap.lt_size q
    · obtain ⟨_, q, _⟩ := hl; exact Heap.lt_size q
  have hDf : s₁.heap.objs.size ∉ [e, it, l] := fun hm => Nat.lt_irrefl _ (hfp _ hm)
  have hCf : H2.objs.size ∉ [e, it, l] := fun hm => by have := hfp _ hm; rw [hC] at this; exact Nat.lt_irrefl _ (Nat.lt_of_succ_lt this)
  have hDw : s₁.heap.objs.size ∉ [e, it] := fun hm => hDf (W.sub _ hm)
  have hCw : H2.objs.size ∉ [e, it] := fun hm => hCf (W.sub _ hm)
  have h0lt : ∀ b o, h₀.get? b = some o → s₁.heap.get? b = some o ∧ b ∉ [e, it] := fun b o q => ⟨F.keep b o q, fun hm => by
    simp only [List.mem_cons, List.not_mem_nil, or_false] at hm
    rcases hm with rfl | rfl
    · rw [U.e0] at q; cases q
    · rw [U.i0] at q; cases q⟩
  have h0C : h₀.objs.size ≤ H2.objs.size := by
    rw [hC]; exact Nat.le_succ_of_le (Nat.le_trans F.above (Nat.le_of_lt F.ns.lt))
  have loop : ∀ s₃ : Shared, s₃ = { s₁ with heap := h₁, toks := s₁.toks + ([] : List (Str × Value)).length } →
      codeAny (model prog w) A (.compLoop (.ListComp elt [⟨.Tuple [.Name xk pk, .Name xv pv] tq tp, iter, [], 0⟩] scope pos) 0 (.ref e) (.ref s₁.heap.objs.size) (compEnvC scope cl H2.objs.size env))
        (compPost (model prog w) A E (some (assign (.Name y py) env)) (fun _ s' => Q .next s') (.ref s₁.heap.objs.size) H2.objs.size) s₃ := by
    rintro s₃ rfl
    refine LCp.codeAny_compLoop_pair
      (fun k s' => ∃ h' tk i ys c m', s' = { s₁ with heap := h', toks := tk } ∧ i ≤ ns.length ∧ k = ns.length + 1 - i ∧ ((∃ o, IsEnum h' e it i o) ∧ h'.IsListIter it l i ∧ h'.IsList l vs.toArray) ∧ h'.get? s₁.heap.objs.size = some (listOf ys.toArray c) ∧ h'.Ns H2.objs.size m' ∧ ys.length = i ∧ IntsAre ys ((ns.take i).mapIdx f) ∧
        (∀ b o, b ≠ H2.objs.size → b ∉ [e, it] → b ≠ s₁.heap.objs.size → s₁.heap.get? b = some o → h'.get? b = some o)) ?_ (ns.length + 1)
      ⟨h₁, _, 0, [], 0, _, rfl, Nat.zero_le _, rfl, hst₁, hacc, hns₁, rfl, .nil, fun b o _ _ _ q => old b o q⟩
    rintro k s' ⟨h', tk, i, ys, c, m', rfl, hin, rfl, hst', hacc', hn', hyl, hys, hk⟩
    by_cases hlt : i < ns.length
    · refine W.item i _ _ _ (by rw [List.size_toArray, hvl]; exact hlt) hst' fun T vals h₂ tk₂ hPt _ hT hMid hk₂ => ?_
      obtain ⟨t, xx, hx, rfl⟩ := hPt
      obtain ⟨t', _, rfl⟩ := ints_item hi (i := i) (v := xx) (by simpa using hx)
      refine W.go _ tq tp i T _ _ _ hMid fun h₃ hst₃ hk₃ => ?_
      have ht₃ : h₃.IsTuple T #[.int i t, .int (ns.getD i 0) t'] := hT.at fun o q => hk₃ T o (W.apart i T h₂ hMid) q
      refine wpAny_assign_Tuple hh ht₃ rfl rfl fun h₄ hx₄ => ?_
      replace hx₄ : Heap.ExtBut h₃.objs.size h₃ h₄ := hx₄
      have up₄ : ∀ b o, h₃.get? b = some o → h₄.get? b = some o := fun b o q => hx₄ b o (Nat.ne_of_lt (Heap.lt_size q)) q
      have hn₄ : h₄.Ns H2.objs.size m' := ((hn'.at' fun o q => hk₂ _ o hCw q).at' fun o q => hk₃ _ o hCw q).at' fun o q => up₄ _ o q
      show wpAny _ A (do holding [.int (ns.getD i 0) t'] (assign (.Name xk pk) (compEnvC scope cl H2.objs.size env) (.int i t)); do holding [] (assign (.Name xv pv) (compEnvC scope cl H2.objs.size env) (.int (ns.getD i 0) t')); pure ()) _ _ _
      refine wpAny_bind (wpAny_holding (wpAny_assign_Name (wpAny_storeName_local (lookup_relabel_local hxk) hn₄ (fun h₅ hn₅ hs₅ => ?_) (by simp [compEnvC, relabel, hkind]))))
      replace hs₅ : Heap.SameBut H2.objs.size h₄ h₅ := hs₅
      refine wpAny_bind (wpAny_holding (wpAny_assign_Name (wpAny_storeName_local (lookup_relabel_local hxv) hn₅ (fun h₆ hn₆ hs₆ => wpAny_pure ?_) (by simp [compEnvC, relabel, hkind]))))
      replace hs₆ : Heap.SameBut H2.objs.size h₅ h₆ := hs₆
      have up₆ : ∀ b o, b ≠ H2.objs.size → b ∉ [e, it] → h'.get? b = some o → h₆.get? b = some o := fun b o hb hw q => hs₆.extBut b o hb (hs₅.extBut b o hb (up₄ b o (hk₃ b o hw (hk₂ b o hw q))))
      have hst₆ := W.frame (i + 1) _ h₆ hst₃ fun b hb o q => hs₆.extBut b o (fun z => hCf (z ▸ hb)) (hs₅.extBut b o (fun z => hCf (z ▸ hb)) (up₄ b o q))
      have F₆ : Fr h₀ H2.objs.size h₆ _ := ⟨hn₆, fun b o q => by
        obtain ⟨q1, q2⟩ := h0lt b o q
        exact up₆ b o (below b (Heap.lt_size q1)).1 q2 (hk b o (below b (Heap.lt_size q1)).1 q2 (below b (Heap.lt_size q1)).2 q1), h0C⟩
      refine wpAny_mono (helt H2.objs.size i (ns.getD i 0) t t' _ _ _ (by rw [List.getD_eq_getElem?_getD, List.getElem?_eq_getElem hlt]; rfl) F₆ hn₆ (by simp [hxx]) (by simp)) (fun yv s₇ h₇ => ?_) fun _ _ q => q
      obtain ⟨⟨t₇, rfl⟩, h₇, tk₇, rfl, hk₇⟩ := h₇
      have hD₇ : h₇.get? s₁.heap.objs.size = some (listOf ys.toArray c) := hk₇ _ _ (up₆ _ _ hDC hDw hacc')
      refine append_at hD₇ (fun h₈ hs₈ hD₈ => ?_) (by rw [List.size_toArray, hyl]; exact small_line (by omega))
      refine ⟨ns.length + 1 - (i + 1), by omega, h₈, tk₇, i + 1, ys ++ [.int (f i (ns.getD i 0)) t₇], c + 1, _, rfl, hlt, rfl, W.frame _ _ _ hst₆ fun b hb o q => hs₈.extBut b o (fun z => hDf (z ▸ hb)) (hk₇ b o q), ?_, (hn₆.keeps hk₇).sameBut hs₈ (Ne.symm hDC), by rw [List.length_append, hyl]; rfl, ?_, fun b o h1 h2 h3 q => hs₈.extBut b o h3 (hk₇ b o (up₆ b o h1 h2 (hk b o h1 h2 h3 q)))⟩
      · rw [hD₈]; simp
      · rw [mapIdx_snoc hlt]
        exact hys.append (.cons _ _ .nil)
    · obtain rfl : i = ns.length := Nat.le_antisymm hin (Nat.not_lt.mp hlt)
      rw [show ns.length = vs.toArray.size by rw [List.size_toArray, hvl]] at hst'
      refine W.done _ _ _ hst' fun h₂ tk₂ hk₂ => ?_
      rw [List.take_length] at hys
      have hLC : env.locals ≠ H2.objs.size := (below _ F.ns.lt).1
      have hLD : env.locals ≠ s₁.heap.objs.size := (below _ F.ns.lt).2
      have hLw : env.locals ∉ [e, it] := by
        simp only [List.mem_cons, List.not_mem_nil, or_false, not_or]
        exact ⟨U.eL.symm, U.iL.symm⟩
      show wpAny _ A (assign (.Name y py) env (.ref s₁.heap.objs.size)) _ _ _
      have hnL : h₂.Ns env.locals m := (F.ns.at' fun o q => hk _ o hLC hLw hLD q).at' fun o q => hk₂ _ o hLw q
      refine wpAny_assign_Name (wpAny_storeName_local hy hnL (fun h₃ hn₃ hs₃ => ?_) hp)
      refine ⟨m', (hn'.at' fun o q => hk₂ _ o hCw q).sameBut hs₃ (Ne.symm hLC), fun h₄ hs₄ => ?_⟩
      have keep : ∀ b o, b ≠ env.locals → b ∉ [e, it] → s₁.heap.get? b = some o → h₄.get? b = some o := fun b o h1 h2 q =>
        have hb := below b (Heap.lt_size q)
        hs₄.extBut b o hb.1 (hs₃.extBut b o h1 (hk₂ b o h2 (hk b o hb.1 h2 hb.2 q)))
      refine hQ s₁.heap.objs.size ys c h₄ _ ⟨hn₃.sameBut hs₄ hLC, fun b o q => ?_, F.above⟩ (fun p hp' => ?_) (fun p hp' => (below _ (Heap.lt_size (N p hp').1)).2) hys
      · obtain ⟨q1, q2⟩ := h0lt b o q
        exact keep b o (Nat.ne_of_lt (Nat.lt_of_lt_of_le (Heap.lt_size q) F.above)) q2 q1
      · rcases List.mem_cons.mp hp' with rfl | hp'
        · refine ⟨hs₄.extBut _ _ hDC (hs₃.extBut _ _ (Ne.symm hLD) (hk₂ _ _ hDw hacc')), Ne.symm hLD, ?_⟩
          cases q : h₀.get? s₁.heap.objs.size with
          | none => rfl
          | some o => exact absurd (Heap.lt_size (F.keep _ _ q)) (Nat.lt_irrefl _)
        · refine ⟨keep _ _ (N p hp').2.1 (fun hm => ?_) (N p hp').1, (N p hp').2⟩
          simp only [List.mem_cons, List.not_mem_nil, or_false] at hm
          rcases hm with z | z
          · exact (U.off p hp').1 z
          · exact (U.off p hp').2 z
  exact codeAny_compStart_list (loop _ rfl) (wpAny_pyIter_enum hst₁.1.choose_spec (loop _ rfl))
end
section
variable {prog : Program} {w : World} {A : Around} {E : Value → Shared → Prop} {s : Shared} {h₀ : Heap} {L : Addr} {m : Str → Option Value} {env : Env}
/-- [elt for x in l], where elt stores nothing -/
theorem comp_list {elt iter : Expr} {x : Str} {px : Pos} {scope : Scope} {cl : List (Str × Addr)} {pos : Pos} {Q : Value → Shared → Prop} (d : Int → PyData) (F₀ : Fr h₀ L s.heap m) (hh : A.handled = none)
    (hclos : closureFor scope env = pure cl) (hcell : ∀ y ∈ scope.names, y.2 ≠ .cell) (hkind : scope.kind = .function)
    (hnames : ∀ y ∈ scope.names, y.2 = .local → scope.names.lookup y.1 = some .local) (hx : scope.names.lookup x = some .local)
    (h : wpAny (model prog w) A (eval iter env) (fun xv s₁ => ∃ (news : List (Addr × Obj)) (ax : Addr) (vs : List Value) (ns : List Int), xv = .ref ax ∧ s₁.heap.IsList ax vs.toArray ∧ IntsAre vs ns ∧ ns.length ≤ 1000 ∧ Fr h₀ L s₁.heap m ∧ News h₀ L s₁.heap news ∧
      (∀ C a t s₂ m₂ E', a ∈ ns → Fr h₀ C s₂.heap m₂ → s₂.heap.Ns (compEnvC scope cl C env).locals m₂ → m₂ x = some (.int a t) → wpAny (model prog w) A (eval elt (compEnvC scope cl C env)) (fun y s₃ => Carried y (d a) ∧ Keeps s₂ s₃) E' s₂) ∧
      (∀ D ys c h' tk, Fr h₀ L h' m → News h₀ L h' ((D, listOf ys.toArray c) :: news) → (∀ p ∈ news, p.1 ≠ D) → CarriedAll ys (ns.map d) → Q (.ref D) { s₁ with heap := h', toks := tk })) E s)
    (hs : ∀ x, foldedSetIterable iter env x = pure x) :
    wpAny (model prog w) A (eval (.ListComp elt [⟨.Name x px, iter, [], 0⟩] scope pos) env) Q E s := by
  refine ListComp_DCn (h₀ := h₀) (L := L) (m := m) (K := .int) (pz := fun _ => true) (d := d) hh hclos hcell hkind hnames hx (wpAny_mono h (fun xv s₁ h₁ => ?_) fun _ _ e => e) hs
  obtain ⟨news, ax, vs, ns, rfl, hl, hi, hsz, F, N, helt, hQ⟩ := h₁
  refine ⟨news, ax, vs, ns, rfl, hl, hi.areOf, small_line hsz, F, N, fun C a v s₂ m₂ E' _ _ _ _ _ _ => wpAny_pure ⟨rfl, s₂.heap, s₂.toks, rfl, fun _ _ e => e⟩, ?_, ?_⟩
  · rintro C a v s₂ m₂ E' hC ha ⟨t, rfl⟩ _ hn hm hk
    exact helt C a t s₂ m₂ E' ha ⟨hn, fun b o q => hk b o (F.keep b o q), Nat.le_trans (Nat.le_trans F.above (Nat.le_of_lt F.ns.lt)) hC⟩ hn hm
  · rintro D ys h' tk F' N' h0 hlD ⟨⟨c, e⟩, off⟩ hca
    refine hQ D ys c h' tk F' (fun p hp => ?_) off ?_
    · rcases List.mem_cons.mp hp with rfl | hp
      · refine ⟨e, fun z => ?_, h0⟩
        obtain ⟨o, es, n, ho, hd, _⟩ := F'.ns
        dsimp only at z
        rw [← z, e] at ho
        cases ho
        cases hd
      · exact N' p hp
    · rwa [List.filter_eq_self.mpr (fun _ _ => rfl)] at hca
/-- y = [elt for x in range(n)], where elt stores nothing -/
theorem compA_range {elt iter : Expr} {x y : Str} {px py : Pos} {scope : Scope} {cl : List (Str × Addr)} {pos spos : Pos} {Q : Flow → Shared → Prop} (g : Nat → Int) (F₀ : Fr h₀ L s.heap m)
    (hsw : swapsWith (.ListComp elt [⟨.Name x px, iter, [], 0⟩] scope pos) (some (.Name y py)) spos.line env = pure true) (hL : env.locals = L) (hh : A.handled = none)
    (hclos : closureFor scope env = pure cl) (hcell : ∀ z ∈ scope.names, z.2 ≠ .cell) (hkind : scope.kind = .function)
    (hnames : ∀ z ∈ scope.names, z.2 = .local → scope.names.lookup z.1 = some .local) (hx : scope.names.lookup x = some .local)
    (hy : env.kindOf y = some .local) (hp : (env.scope.kind == .class || (env.scope.kind == .module && env.locals != env.globals)) = false)
    (h : wpAny (model prog w) A (eval iter env) (fun xv s₁ => ∃ (news : List (Addr × Obj)) (r : Addr) (n : Nat) (t u v : Tok), xv = .ref r ∧ IsRange s₁.heap r 0 (n : Int) 1 t u v ∧ n ≤ 1000 ∧ Fr h₀ L s₁.heap m ∧ News h₀ L s₁.heap news ∧
      (∀ C (i : Nat) t s₂ m₂ E', i < n → Fr h₀ C s₂.heap m₂ → s₂.heap.Ns (compEnvC scope cl C env).locals m₂ → m₂ x = some (.int (i : Int) t) → (∀ b o, s₁.heap.get? b = some o → s₂.heap.get? b = some o) → wpAny (model prog w) A (eval elt (compEnvC scope cl C env)) (fun y s₃ => (∃ t, y = .int (g i) t) ∧ Keeps s₂ s₃) E' s₂) ∧
      (∀ D ys c h' tk, Fr h₀ L h' (fun z => if z = y then some (.ref D) else m z) → News h₀ L h' ((D, listOf ys.toArray c) :: news) → (∀ p ∈ news, p.1 ≠ D) → IntsAre ys ((List.range n).map g) → Q .next { s₁ with heap := h', toks := tk })) E s)
    (hs : ∀ x, foldedSetIterable iter env x = pure x) :
    wpAny (model prog w) A (exec (.Assign [.Name y py] (.ListComp elt [⟨.Name x px, iter, [], 0⟩] scope pos) spos) env) Q E s := by
  refine Assign_ListComp_DCr (h₀ := h₀) (L := L) (m := m) (pz := fun _ => true) (d := fun a => .int (g a.toNat)) hsw hL hh hclos hcell hkind hnames hx hy hp (wpAny_mono h (fun xv s₁ h₁ => ?_) fun _ _ e => e) hs
  obtain ⟨news, r, n, t, u, v, rfl, hr, hsz, F, N, helt, hQ⟩ := h₁
  have hs1 : Builtin.Range.rangeSize 0 (n : Int) 1 = (n : Int) := by
    unfold Builtin.Range.rangeSize
    by_cases h : 0 < n
    · simp [h]
    · have : n = 0 := by omega
      subst this; rfl
  refine ⟨news, r, 0, (n : Int), 1, t, u, v, n, rfl, hr, small_one (by decide) (by decide) (by omega) (by omega), hs1, small_line hsz, F, N, fun C a v s₂ m₂ E' _ _ _ _ _ _ => wpAny_pure ⟨rfl, s₂.heap, s₂.toks, rfl, fun _ _ e => e⟩, ?_, ?_⟩
  · rintro C a v s₂ m₂ E' hC ha ⟨t, rfl⟩ _ hn hm hk
    obtain ⟨i, hi, rfl⟩ : ∃ i : Nat, i < n ∧ a = (i : Int) := by
      unfold rangeInts at ha
      obtain ⟨i, hi, e⟩ := List.mem_map.mp ha
      exact ⟨i, List.mem_range.mp hi, by omega⟩
    refine wpAny_mono (helt C i t s₂ m₂ E' hi ⟨hn, fun b o q => hk b o (F.keep b o q), Nat.le_trans (Nat.le_trans F.above (Nat.le_of_lt F.ns.lt)) hC⟩ hn hm hk) (fun y s₃ q => ?_) fun _ _ e => e
    obtain ⟨⟨t, rfl⟩, k⟩ := q
    exact ⟨.int _ _, k⟩
  · rintro D ys h' tk F' N' h0 hlD ⟨⟨c, e⟩, off⟩ hca
    refine hQ D ys c h' tk F' (fun p hp => ?_) off ?_
    · rcases List.mem_cons.mp hp with rfl | hp
      · refine ⟨e, fun z => ?_, h0⟩
        obtain ⟨o, es, n, ho, hd, _⟩ := F'.ns
        dsimp only at z
        rw [← z, e] at ho
        cases ho
        cases hd
      · exact N' p hp
    · rw [List.filter_eq_self.mpr (fun _ _ => rfl)] at hca
      have e : (rangeInts 0 1 n).map (fun a => PyData.int (g a.toNat)) = ((List.range n).map g).map PyData.int := by
        unfold rangeInts
        rw [List.map_map, List.map_map]
        apply List.map_congr_left
        intro i _
        have q : ((0 : Int) + (i : Int) * 1).toNat = i := by omega
        show PyData.int (g ((0 : Int) + (i : Int) * 1).toNat) = PyData.int (g i)
        rw [q]
      rw [e] at hca
      exact IntsAre.ofCarried hca
end
theorem mul_small {prog : Program} {w : World} {A : Around} {E : Value → Shared → Prop} {s : Shared} {a b : Int} {t u : Tok} {Q : Value → Shared → Prop} (ha : a.natAbs < 1000000) (hb : b.natAbs < 1000000) (h : Q (.int (a * b) s.toks) { s with toks := s.toks + 1 }) :
    wpAny (model prog w) A (binaryOp .Mult (.int a t) (.int b u)) Q E s :=
  mul_int h (IntMulOk.of_le (m := 20) (n := 20) (intBits_le_iff.mpr (by omega)) (intBits_le_iff.mpr (by omega)) (by decide))

/-- what is live stays live: the ledger takes what the ground does not bear -/
theorem hold {h₀ h : Heap} {L : Addr} {m : Str → Option Value} (F : Fr h₀ L h m) (bs : List Addr) (hb : ∀ b ∈ bs, ∃ o, h.get? b = some o ∧ ∃ its n, o.data = .seq its n) :
    ∃ ex, News h₀ L h ex ∧ (∀ p ∈ ex, p.1 ∈ bs) ∧ ∀ h' m', Fr h₀ L h' m' → News h₀ L h' ex → ∀ b ∈ bs, ∀ o, h.get? b = some o → h'.get? b = some o := by
  refine ⟨ownAt h (bs.filter fun b => (h₀.get? b).isNone), ?_, ?_, ?_⟩
  · intro p hp
    obtain ⟨b, hm, rfl⟩ := List.mem_map.mp hp
    obtain ⟨hm, hn⟩ := List.mem_filter.mp hm
    obtain ⟨o, ho, its, n, hd⟩ := hb b hm
    refine ⟨by simp [ho], fun z => ?_, by simpa using hn⟩
    obtain ⟨o', es, k, ho', hd', _⟩ := F.ns
    dsimp only at z
    rw [← z, ho] at ho'
    cases ho'
    rw [hd] at hd'
    cases hd'
  · intro p hp
    obtain ⟨b, hm, rfl⟩ := List.mem_map.mp hp
    exact (List.mem_filter.mp hm).1
  · intro h' m' F' N' b hm o ho
    cases q : h₀.get? b with
    | some o₀ =>
      have := F.keep b o₀ q
      rw [ho] at this
      cases this
      exact F'.keep b o q
    | none =>
      have hin : (b, o) ∈ ownAt h (bs.filter fun b => (h₀.get? b).isNone) := ownAt_mem (List.mem_filter.mpr ⟨hm, by simp [q]⟩) ho
      exact (N' _ hin).1
theorem LLs.live {h : Heap} {rs : List Addr} {ms : List (List Int)} (x : LLs h rs ms) : ∀ b ∈ rs, ∃ o, h.get? b = some o ∧ ∃ its n, o.data = .seq its n := by
  intro b hb
  obtain ⟨i, hi, rfl⟩ := List.mem_iff_getElem.mp hb
  obtain ⟨vs, ⟨o, ho, _, n, hd⟩, _⟩ := x.2 i _ (ms[i]'(by rw [← x.1]; exact hi)) (List.getElem?_eq_getElem hi) (List.getElem?_eq_getElem _)
  exact ⟨o, ho, _, n, hd⟩
theorem LLs.on {h h' : Heap} {rs : List Addr} {ms : List (List Int)} (x : LLs h rs ms) (k : ∀ b ∈ rs, ∀ o, h.get? b = some o → h'.get? b = some o) : LLs h' rs ms :=
  ⟨x.1, fun i r m a b => let ⟨vs, hl, hi⟩ := x.2 i r m a b; ⟨vs, hl.at fun o e => k r (List.mem_of_getElem? a) o e, hi⟩⟩
theorem list_live {h : Heap} {l : Addr} {its : Array Value} (x : h.IsList l its) : ∃ o, h.get? l = some o ∧ ∃ its n, o.data = .seq its n :=
  let ⟨o, ho, _, n, hd⟩ := x; ⟨o, ho, _, n, hd⟩
theorem tup_live {h : Heap} {l : Addr} {its : Array Value} (x : IsTup h l its) : ∃ o, h.get? l = some o ∧ ∃ its n, o.data = .seq its n :=
  let ⟨o, ho, _, n, hd⟩ := x; ⟨o, ho, _, n, hd⟩
theorem lawA_depth (env : Env) : (callerA.deeper env).depth < 600 := by
  show callerA.depth + 1 < 600
  unfold callerA claimMargin
  decide
theorem lawA_units (env : Env) : (callerA.deeper env).units < 6000 := by
  dsimp only [Around.deeper, callerA]
  omega

theorem news_sub {h₀ h : Heap} {L : Addr} {a b : List (Addr × Obj)} (N : News h₀ L h a) (hs : ∀ p ∈ b, p ∈ a) : News h₀ L h b := fun p hp => N p (hs p hp)
theorem grows_fr {h₀ h h' : Heap} {L : Addr} {m : Str → Option Value} (F : Fr h₀ L h m) (k : Grows [L] h h') : Fr h₀ L h' m :=
  ⟨k.up.ns F.ns, fun b o q => k.1 b o (F.keep b o q) fun hm => absurd (Nat.lt_of_lt_of_le (Heap.lt_size q) F.above) ((List.mem_singleton.mp hm) ▸ Nat.lt_irrefl _), F.above⟩
theorem grows_news {h₀ h h' : Heap} {L : Addr} {news : List (Addr × Obj)} (N : News h₀ L h news) (k : Grows [L] h h') : News h₀ L h' news :=
  fun p hp => ⟨k.1 _ _ (N p hp).1 fun hm => (N p hp).2.1 (List.mem_singleton.mp hm), (N p hp).2⟩
theorem stk_law {env : Env} {h₀ h : Heap} {L : Addr} {m : Str → Option Value} (F : Fr h₀ L h m) (hk : env.scope.kind = .function) (hf : env.frame = some L) : Stk (callerA.deeper env) [env] h := by
  refine ⟨Around.frames_deeper rfl, fun e he => ?_⟩
  rw [List.mem_singleton.mp he]
  obtain ⟨o, es, n, ho, hd, _⟩ := F.ns
  exact ⟨by rw [hk]; decide, L, o, es, n, hf, ho, hd⟩
theorem fr_new {h₀ h : Heap} {L : Addr} {m : Str → Option Value} (F : Fr h₀ L h m) : h₀.get? L = none := by
  cases q : h₀.get? L with
  | none => rfl
  | some o => exact absurd (Nat.lt_of_lt_of_le (Heap.lt_size q) F.above) (Nat.lt_irrefl _)
/-- the pairs of the states' list are live -/
theorem pairs_live {h : Heap} {ds : List Addr} {n : Nat} {f : Nat → Int × Int} (x : ∀ j, j ≤ n → ∃ d t u, ds[j]? = some d ∧ IsTup h d #[.int (f j).1 t, .int (f j).2 u]) : ∀ b ∈ ds.take (n + 1), ∃ o, h.get? b = some o ∧ ∃ its n, o.data = .seq its n := by
  intro b hb
  obtain ⟨i, hi, rfl⟩ := List.mem_iff_getElem.mp hb
  have hin : i < n + 1 := by rw [List.length_take] at hi; omega
  obtain ⟨d, t, u, hd, ht⟩ := x i (by omega)
  have e : (ds.take (n + 1))[i] = d := by
    have := List.getElem?_eq_getElem hi
    rw [List.getElem?_take_of_lt hin, hd] at this
    exact (Option.some.inj this).symm
  rw [e]
  exact tup_live ht
section
variable {prog : Program} {w : World} {A : Around} {E : Value → Shared → Prop} {s : Shared} {Q : Value → Shared → Prop} {value slice : Expr}
theorem r_item_ref {D d : Addr} {ds : List Addr} {j : Nat} {u : Tok} (hl : s.heap.IsList D (refs ds).toArray) (hz : j ≤ 1000) (hj : ds[j]? = some d) (h : Q (.ref d) s)
    (hs : subscripted slice false (.ref D) (.int (j : Int) u) = operate [.ref D, .int (j : Int) u] (getItem (.ref D) (.int (j : Int) u))) :
    wpAny (model prog w) A (subscriptTail value slice (.ref D) (.int (j : Int) u)) Q E s :=
  tail_any hl.typeIs slot_list_getitem.lookup (wpAny_getItem_list hl (by omega) (by omega) (by simp [refs, hj]) h) hs
end
theorem cell_apart {h : Heap} {b c : Addr} {o o' : Obj} {v : Option Value} {its : Array Value} {n : Nat} (h1 : h.get? c = some o) (hd : o.data = .cell v) (h2 : h.get? b = some o') (hd' : o'.data = .seq its n) : b ≠ c := by
  rintro rfl
  rw [h1] at h2
  cases h2
  rw [hd] at hd'
  cases hd'
theorem name_cellC {M : Model} {A : Around} {E : Value → Shared → Prop} {s : Shared} {env : Env} {x : Str} {pos : Pos} {c : Addr} {o : Obj} {v : Value} {Q : Value → Shared → Prop} (hk : env.scope.kind = .function) (hl : env.kindOf x = some .cell) (hc : env.cells.lookup x = some c)
    (ho : s.heap.get? c = some o) (hd : o.data = .cell (some v)) (h : Q v s) (hdb : (x == ("__debug__" : Str)) = false) : wpAny M A (eval (.Name x pos) env) Q E s :=
  wpAny_Name (wpAny_loadName_cell hk hl hc ⟨o, ho, hd⟩ h) hdb

local macro_rules | `(tactic| walk_at "eval Name") => `(tactic| (k_dflt (refine' name_B ?F ?X ?T ?e ?v ?n ?_ ?kd ?hx ?hd; (case hx => rfl); (case kd => rfl); (case F => assumption); (case X => assumption); (case T => exact topRead_of (by assumption)); (case e => k_is); (case v => boot_by_name); (case n => decide); (case hd => decide))))
local macro_rules | `(tactic| walk_at "eval Name") => `(tactic| (k_dflt (refine' name_K ?F ?X ?T ?e ?_ ?kd ?hx ?hd; (case hx => rfl); (case kd => rfl); (case F => assumption); (case X => assumption); (case T => exact topRead_of (by assumption)); (case e => k_is); (case hd => decide))))
local macro_rules | `(tactic| walk_at "eval Name") => `(tactic| (k_dflt (refine' ld ?k1 ?k2 ?_ ?kd ?hx ?hd; (case hx => rfl); (case kd => rfl); (case k1 => assumption); (case k2 => first | assumption | rfl); (case hd => decide); k_whole)))
local macro_rules | `(tactic| walk_at "loadName") => `(tactic| (k_dflt (refine' ldn ?k1 ?k2 ?_; (case k1 => assumption); (case k2 => first | assumption | rfl); k_whole)))
local macro_rules | `(tactic| walk_at "truthy str") => `(tactic| (first
  | (with_reducible refine' t_truthy_drop ?z ?_; (case z => walk_at "om"))
  | (with_reducible refine' t_truthy_take ?z ?k ?_; (case z => walk_at "om"); (case k => walk_at "om"))
  | (with_reducible refine' t_truthy ?z ?_; (case z => walk_at "om"))))
local macro_rules | `(tactic| walk_at "eval Subscript") => `(tactic| ((with_reducible show wpAny _ _ (eval (PySem.Expr.Subscript _ (PySem.Expr.Slice none (some (PySem.Expr.BoolOp _ _ _)) none _) _) _) _ _ _); k_dflt (refine' ev_cut ?F ?N ?hx ?hy ?hq ?z ?k1 ?k2 ?k3 ?k4 ?k5 ?_; (case F => assumption); (case N => assumption); (case hx => first | assumption | rfl); (case hy => first | assumption | rfl); (case hq => walk_at "om"); (case z => walk_at "om"); (case k1 => rfl); (case k2 => rfl); (case k3 => rfl); (case k4 => decide); (case k5 => decide); k_whole; intro _ _ _ _ _)))
local macro_rules | `(tactic| walk_at "compareOp Eq str str") => `(tactic| (refine t_eq ?_))
local macro_rules | `(tactic| walk_at "ite") => `(tactic| (k_dflt (first | refine' ite_dec ?_ ?_ | refine' ite_ndec ?_ ?_); intro))
local macro_rules | `(tactic| walk_at "subscriptTail Name Slice str ref") => `(tactic| (k_dflt (first
  | (refine' t_from ?F ?N ?k ?z ?_ ?hs ?ht; (case F => assumption); (case N => assumption); (case k => walk_at "om"); (case z => walk_at "om"); (case hs => with_unfolding_all rfl); (case ht => (intro _; with_unfolding_all rfl)))
  | (refine' t_all ?F ?N ?z ?_ ?hs ?ht; (case F => assumption); (case N => assumption); (case z => walk_at "om"); (case hs => with_unfolding_all rfl); (case ht => (intro _; with_unfolding_all rfl)))
  | (refine' t_toneg ?F ?N ?o ?k ?z ?_ ?hs ?ht; (case F => assumption); (case N => assumption); (case o => walk_at "om"); (case k => walk_at "om"); (case z => walk_at "om"); (case hs => with_unfolding_all rfl); (case ht => (intro _; with_unfolding_all rfl)))
  | (refine' t_to ?F ?N ?k ?z ?_ ?hs ?ht; (case F => assumption); (case N => assumption); (case k => walk_at "om"); (case z => walk_at "om"); (case hs => with_unfolding_all rfl); (case ht => (intro _; with_unfolding_all rfl)))); intro _ _ _ _ _))
local macro_rules | `(tactic| walk_at "subscriptTail Name Name str int") => `(tactic| (k_dflt (refine' t_item ?k ?z ?_ ?hs ?ht; (case k => walk_at "om"); (case z => walk_at "om"); (case hs => with_unfolding_all rfl); (case ht => (intro _; with_unfolding_all rfl)))))
local macro_rules | `(tactic| walk_at "subscriptTail Name BinOp str int") => `(tactic| (k_dflt (refine' t_itemneg1 ?k ?z ?_ ?hs ?ht; (case k => walk_at "om"); (case z => walk_at "om"); (case hs => with_unfolding_all rfl); (case ht => (intro _; with_unfolding_all rfl)))))
local macro_rules | `(tactic| walk_at "execs cons") => `(tactic| (refine wpAny_execs_cons ?_; try dsimp only))
local macro_rules | `(tactic| walk_at "execs nil") => `(tactic| (refine wpAny_execs_nil ?_; try dsimp only))
local macro_rules | `(tactic| walk_at "call builtin:len cons nil") => `(tactic| first
  | (with_reducible refine' t_len_take ?z ?k ?_; (case z => walk_at "om"); (case k => walk_at "om"))
  | (with_reducible refine' t_len ?z ?_; (case z => walk_at "om")))
local macro_rules | `(tactic| walk_at "call type:range") => `(tactic| ((with_reducible refine' range1_rows ?F ?N ?_; (case F => assumption); (case N => assumption)); intro _ _ _ _ _ _ _ _ _))
local macro_rules | `(tactic| walk_at "call type:list") => `(tactic| (k_dflt (refine' r_listrange ?hh ?F ?N ?hr ?hb ?hn ?_; (case hh => assumption); (case F => assumption); (case N => assumption); (case hr => assumption); (case hb => rfl); (case hn => walk_at "om")); intro _ _ _ _ _ _ _ _ _))
local macro_rules | `(tactic| walk_at "call builtin:min") => `(tactic| (k_dflt (refine' t_min ?hh ?F ?N ?_; (case hh => assumption); (case F => assumption); (case N => assumption)); intro _ _ _ _ _))
local macro_rules | `(tactic| walk_at "subscriptTail Name Name ref int") => `(tactic| (k_dflt (refine' ksa_sub ?N ?me ?hi ?a ?b ?c ?_ ?d; (case N => assumption); (case me => k_mem); (case hi => assumption); (case a => walk_at "om"); (case b => walk_at "om"); (case c => walk_at "om"); (case d => with_unfolding_all rfl)); intro _))
local macro_rules | `(tactic| walk_at "setItem ref int") => `(tactic| (k_dflt (refine' ksa_set ?F ?N ?u ?hi ?a ?b ?c ?_; (case F => assumption); (case N => assumption); (case u => k_upd); (case hi => assumption); (case a => walk_at "om"); (case b => walk_at "om"); (case c => walk_at "om")); intro _ _ _ _ _ _))
local macro_rules | `(tactic| walk_at "exec Assign") => `(tactic| ((with_reducible show wpAny _ _ (exec (PySem.Stmt.Assign [PySem.Expr.Tuple [PySem.Expr.Name (PySem.Str.ofString "a") _, PySem.Expr.Name (PySem.Str.ofString "b") _] _ _] _ _) _) _ _ _); k_dflt (refine' Assign_Tuple_swapped (names := [PySem.Str.ofString "a", PySem.Str.ofString "b"]) ?_ ?s1 ?s2; (case s1 => rfl); (case s2 => rfl))))
local macro_rules | `(tactic| walk_at "unpackItems ref") => `(tactic| (k_dflt (refine' unpackItemsN_ ?k1 ?k2 ?k3 ?k4 ?k5 ?_; (case k1 => assumption); (case k2 => assumption); (case k3 => exact News.isTup (by assumption) (by k_mem)); (case k4 => assumption); (case k5 => exact rfl)); intro _ _ _))
local macro_rules | `(tactic| walk_at "ends") => `(tactic| ((try dsimp only); refine' EndsAt.intro ?eF ?eN ?eP; (case eF => assumption); (case eN => assumption)))
local macro_rules | `(tactic| walk_at "ends nil") => `(tactic| ((try dsimp only); refine' EndsAt.intro (news' := []) ?eF News.nil ?eP; (case eF => assumption)))
local macro_rules | `(tactic| walk_at "turn") => `(tactic| ((try dsimp only); refine' TurnAt.intro ?tF ?tN ?tA ?tJ; (case tF => assumption); (case tN => assumption)))
local macro_rules | `(tactic| walk_at "call type:enumerate") => `(tactic| (k_dflt (refine' r_enum ?F ?N ?hl ?_; (case F => assumption); (case N => assumption); (case hl => assumption)); intro _ _ _ _ _ _))
local macro_rules | `(tactic| walk_at "compareOp Is ref ref") => `(tactic| (refine' is_lists ?a ?b ?_; (case a => assumption); (case b => assumption)))
local macro_rules | `(tactic| walk_at "compareOp Eq ref ref") => `(tactic| (k_dflt (refine' eq_intsK ?a ?b ?c ?d ?u ?_; (case a => assumption); (case b => assumption); (case c => assumption); (case d => assumption); (case u => ((try dsimp only [Around.deeper]); (try unfold cLine); omega)))))
local macro_rules | `(tactic| walk_at "subscriptTail Name Slice ref ref") => `(tactic| (k_dflt (first
  | (refine' r_slice_from ?F ?N ?hl ?z ?_ ?hs ?ht; (case F => assumption); (case N => assumption); (case hl => walk_at "lst"); (case z => walk_at "lsz"); (case hs => with_unfolding_all rfl); (case ht => (intro _; with_unfolding_all rfl)))
  | (refine' r_slice_to ?F ?N ?hl ?z ?_ ?hs ?ht; (case F => assumption); (case N => assumption); (case hl => walk_at "lst"); (case z => walk_at "lsz"); (case hs => with_unfolding_all rfl); (case ht => (intro _; with_unfolding_all rfl)))); intro _ _ _ _ _))
local macro_rules | `(tactic| walk_at "subscriptTail Name Slice ref ref") => `(tactic| (k_dflt (refine' r_slice_two ?F ?N ?hl ?z0 ?z1 ?z ?_ ?hs ?ht; (case F => assumption); (case N => assumption); (case hl => walk_at "lst"); (case z0 => decide); (case z1 => walk_at "lsz"); (case z => walk_at "lsz"); (case hs => with_unfolding_all rfl); (case ht => (intro _; with_unfolding_all rfl))); intro _ _ _ _ _))
local macro_rules | `(tactic| walk_at "lst") => `(tactic| first | assumption | exact News.isList (by assumption) (by k_mem) | exact fr_list (by assumption) (by assumption))
local macro_rules | `(tactic| walk_at "lsz") => `(tactic| first | omega | ((try simp only [refs_length, List.length_drop, List.length_take]); omega))
local macro_rules | `(tactic| walk_at "call builtin:len cons nil") => `(tactic| ((with_reducible show wpAny _ _ (call (Value.builtin "len") [Value.ref _]) _ _ _); k_dflt (refine' r_len ?hl ?z ?_; (case hl => walk_at "lst"); (case z => walk_at "lsz")); intro _ _))
local macro_rules | `(tactic| walk_at "times") => `(tactic| skip)
local macro_rules | `(tactic| walk_at "mine") => `(tactic| repeat' (first | ((with_reducible show wpAny _ _ _ _ _ _); (fail_if_success (with_reducible show wpAny _ _ (exec (PySem.Stmt.While _ _ _ _) _) _ _ _)); (fail_if_success (with_reducible show wpAny _ _ (exec (PySem.Stmt.For _ _ _ _ _) _) _ _ _)); (fail_if_success (with_reducible show wpAny _ _ (exec (PySem.Stmt.If _ [PySem.Stmt.Assign [PySem.Expr.Tuple _ _ _] _ _] _ _) _) _ _ _)); walk1) | ((with_reducible show ite _ _ _); walk1) | ((with_reducible show ∀ _, _); intro) | ((with_reducible show Frag.In _ _ ∧ _); refine ⟨Frag.In.keeps (by assumption) (Fr.keep (by assumption)), ?_⟩)))
local macro_rules | `(tactic| walk_at "binaryOp Pow int int") => `(tactic| (k_dflt (refine' pow_int_small ?a ?b ?c ?_; (case a => walk_at "lsz"); (case b => walk_at "lsz"); (case c => decide))))
local macro_rules | `(tactic| walk_at "om") => `(tactic| first | with_reducible assumption | exact Nat.le_trans (m := 40) (by with_reducible assumption) (by decide) | omega)

theorem sub_spec {w : World} {mg mb : Str → Option Value} {A : Around} {s : Shared} {R : Result → Shared → Prop} {c d : Nat} {ta tb : Tok}
    (G : Gd w mg mb s.heap) (hdp : A.depth < 900)
    (h : ∀ h' tk t, s.heap.StaysIn h' → R (.ok (.ret (.int (cost c d : Nat) t))) { s with heap := h', toks := tk }) :
    codeAny (model PG w) A (.call (.ref 84) ⟨[.str (st [c]) ta, .str (st [d]) tb], []⟩) R s := by
  have kf : hd.heap_39 = hd.heap_39 ∧ PySem.Challenge.rw_pg0103_01 = PySem.Challenge.rw_pg0103_01 := by k_fill; exact ⟨rfl, rfl⟩
  clear kf
  have hc : (st [c]).length = 1 := st_length _
  have hd' : (st [d]).length = 1 := st_length _
  obtain ⟨X, mean, T⟩ := G
  refine enterK (binds := [("ch_a", .str (st [c]) ta), ("ch_b", .str (st [d]) tb)]) X T.nolimit (by k_is) (by k_is) (by unfold recursionLimit; omega) (BindsTo.of_eq rfl) (locs rfl) ?_ rfl rfl rfl (by decide)
  intro L' h₁ F
  have N := News.nil (h₀ := s.heap) (L := L') (h := h₁)
  walk_at "mine"
  · have e := ‹[c] = [d]›
    have e' : (cost c d : Int) = 0 := by simp at e; simp [cost, e]
    rw [e'] at h
    exact h _ _ _ F.keep
  · have e := ‹¬ [c] = [d]›
    have e2 := ‹Txt.lower (st [c]) = Txt.lower (st [d])›
    have e' : (cost c d : Int) = 1 := by simp at e; simp [cost, e, e2]
    rw [e'] at h
    exact h _ _ _ F.keep
  · have e := ‹¬ [c] = [d]›
    have e2 := ‹¬ Txt.lower (st [c]) = Txt.lower (st [d])›
    have e' : (cost c d : Int) = 2 := by simp at e; simp [cost, e, e2]
    rw [e'] at h
    exact h _ _ _ F.keep
theorem call_sub {w : World} {mg mb : Str → Option Value} {mean : ExcName → Option Value} {A : Around} {E : Value → Shared → Prop} {s : Shared} {h₀ : Heap} {L : Addr} {m : Str → Option Value} {news : List (Addr × Obj)} {Q : Value → Shared → Prop} {c d : Nat} {ta tb : Tok}
    (X : (hd.heap_39 w.params).In h₀) (T : Top hd.view_39 (looseW hd.view_39 []) mean mg mb h₀) (F : Fr h₀ L s.heap m) (N : News h₀ L s.heap news) (hdp : A.depth < 900)
    (h : ∀ h' tk t, Fr h₀ L h' m → News h₀ L h' news → Q (.int (cost c d : Nat) t) { s with heap := h', toks := tk }) :
    wpAny (model PG w) A (call (.ref 84) [.str (st [c]) ta, .str (st [d]) tb]) Q E s :=
  wpAny_call (sub_spec (mg := mg) (mb := mb) ⟨X.keeps F.keep, mean, T.keeps F.keep⟩ hdp fun h' tk t k => h h' tk t (F.after k) (N.grown k))

local macro_rules | `(tactic| walk_at "call ref") => `(tactic| (k_dflt (refine' call_sub ?X ?T ?F ?N ?dp ?_; (case X => assumption); (case T => assumption); (case F => assumption); (case N => assumption); (case dp => ((try dsimp only [Around.deeper]); omega))); intro _ _ _ _ _))
theorem add_spec {w : World} {mg mb : Str → Option Value} {A : Around} {s : Shared} {R : Result → Shared → Prop} {a : Int} {b : Int} {ta tb : Tok}
    (G : Gd w mg mb s.heap) (hdp : A.depth < 900)
    (h : ∀ h' tk t, s.heap.StaysIn h' → R (.ok (.ret (.int (a + b) t))) { s with heap := h', toks := tk }) :
    codeAny (model PG w) A (.call (.ref 21) ⟨[.int a ta, .int b tb], []⟩) R s := by
  have kf : hd.heap_39 = hd.heap_39 ∧ PySem.Challenge.rw_pg0103_01 = PySem.Challenge.rw_pg0103_01 := by k_fill; exact ⟨rfl, rfl⟩
  clear kf
  obtain ⟨X, mean, T⟩ := G
  refine enterK (binds := [("a", .int a ta), ("b", .int b tb)]) X T.nolimit (by k_is) (by k_is) (by unfold recursionLimit; omega) (BindsTo.of_eq rfl) (locs rfl) ?_ rfl rfl rfl (by decide)
  intro L' h₁ F
  have N := News.nil (h₀ := s.heap) (L := L') (h := h₁)
  walk_at "mine"
  exact h _ _ _ F.keep
theorem call_add {w : World} {mg mb : Str → Option Value} {mean : ExcName → Option Value} {A : Around} {E : Value → Shared → Prop} {s : Shared} {h₀ : Heap} {L : Addr} {m : Str → Option Value} {news : List (Addr × Obj)} {Q : Value → Shared → Prop} {a : Int} {b : Int} {ta tb : Tok}
    (X : (hd.heap_39 w.params).In h₀) (T : Top hd.view_39 (looseW hd.view_39 []) mean mg mb h₀) (F : Fr h₀ L s.heap m) (N : News h₀ L s.heap news) (hdp : A.depth < 900)
    (h : ∀ h' tk t, Fr h₀ L h' m → News h₀ L h' news → Q (.int (a + b) t) { s with heap := h', toks := tk }) :
    wpAny (model PG w) A (call (.ref 21) [.int a ta, .int b tb]) Q E s :=
  wpAny_call (add_spec (mg := mg) (mb := mb) ⟨X.keeps F.keep, mean, T.keeps F.keep⟩ hdp fun h' tk t k => h h' tk t (F.after k) (N.grown k))
theorem and_spec {w : World} {mg mb : Str → Option Value} {A : Around} {s : Shared} {R : Result → Shared → Prop} {a : Int} {b : Int} {ta tb : Tok}
    (G : Gd w mg mb s.heap) (hdp : A.depth < 900)
    (h : ∀ h' tk t, s.heap.StaysIn h' → R (.ok (.ret (.int (Builtin.bitAnd a b) t))) { s with heap := h', toks := tk }) :
    codeAny (model PG w) A (.call (.ref 28) ⟨[.int a ta, .int b tb], []⟩) R s := by
  have kf : hd.heap_39 = hd.heap_39 ∧ PySem.Challenge.rw_pg0103_01 = PySem.Challenge.rw_pg0103_01 := by k_fill; exact ⟨rfl, rfl⟩
  clear kf
  obtain ⟨X, mean, T⟩ := G
  refine enterK (binds := [("a", .int a ta), ("b", .int b tb)]) X T.nolimit (by k_is) (by k_is) (by unfold recursionLimit; omega) (BindsTo.of_eq rfl) (locs rfl) ?_ rfl rfl rfl (by decide)
  intro L' h₁ F
  have N := News.nil (h₀ := s.heap) (L := L') (h := h₁)
  walk_at "mine"
  exact h _ _ _ F.keep
theorem call_and {w : World} {mg mb : Str → Option Value} {mean : ExcName → Option Value} {A : Around} {E : Value → Shared → Prop} {s : Shared} {h₀ : Heap} {L : Addr} {m : Str → Option Value} {news : List (Addr × Obj)} {Q : Value → Shared → Prop} {a : Int} {b : Int} {ta tb : Tok}
    (X : (hd.heap_39 w.params).In h₀) (T : Top hd.view_39 (looseW hd.view_39 []) mean mg mb h₀) (F : Fr h₀ L s.heap m) (N : News h₀ L s.heap news) (hdp : A.depth < 900)
    (h : ∀ h' tk t, Fr h₀ L h' m → News h₀ L h' news → Q (.int (Builtin.bitAnd a b) t) { s with heap := h', toks := tk }) :
    wpAny (model PG w) A (call (.ref 28) [.int a ta, .int b tb]) Q E s :=
  wpAny_call (and_spec (mg := mg) (mb := mb) ⟨X.keeps F.keep, mean, T.keeps F.keep⟩ hdp fun h' tk t k => h h' tk t (F.after k) (N.grown k))
theorem inv_spec {w : World} {mg mb : Str → Option Value} {A : Around} {s : Shared} {R : Result → Shared → Prop} {a : Int} {ta : Tok}
    (G : Gd w mg mb s.heap) (hdp : A.depth < 900)
    (h : ∀ h' tk t, s.heap.StaysIn h' → R (.ok (.ret (.int (Builtin.bitNot a) t))) { s with heap := h', toks := tk }) :
    codeAny (model PG w) A (.call (.ref 35) ⟨[.int a ta], []⟩) R s := by
  have kf : hd.heap_39 = hd.heap_39 ∧ PySem.Challenge.rw_pg0103_01 = PySem.Challenge.rw_pg0103_01 := by k_fill; exact ⟨rfl, rfl⟩
  clear kf
  obtain ⟨X, mean, T⟩ := G
  refine enterK (binds := [("a", .int a ta)]) X T.nolimit (by k_is) (by k_is) (by unfold recursionLimit; omega) (BindsTo.of_eq rfl) (locs rfl) ?_ rfl rfl rfl (by decide)
  intro L' h₁ F
  have N := News.nil (h₀ := s.heap) (L := L') (h := h₁)
  walk_at "mine"
  exact h _ _ _ F.keep
theorem call_inv {w : World} {mg mb : Str → Option Value} {mean : ExcName → Option Value} {A : Around} {E : Value → Shared → Prop} {s : Shared} {h₀ : Heap} {L : Addr} {m : Str → Option Value} {news : List (Addr × Obj)} {Q : Value → Shared → Prop} {a : Int} {ta : Tok}
    (X : (hd.heap_39 w.params).In h₀) (T : Top hd.view_39 (looseW hd.view_39 []) mean mg mb h₀) (F : Fr h₀ L s.heap m) (N : News h₀ L s.heap news) (hdp : A.depth < 900)
    (h : ∀ h' tk t, Fr h₀ L h' m → News h₀ L h' news → Q (.int (Builtin.bitNot a) t) { s with heap := h', toks := tk }) :
    wpAny (model PG w) A (call (.ref 35) [.int a ta]) Q E s :=
  wpAny_call (inv_spec (mg := mg) (mb := mb) ⟨X.keeps F.keep, mean, T.keeps F.keep⟩ hdp fun h' tk t k => h h' tk t (F.after k) (N.grown k))
theorem lshift_spec {w : World} {mg mb : Str → Option Value} {A : Around} {s : Shared} {R : Result → Shared → Prop} {a : Int} {b : Int} {ta tb : Tok}
    (G : Gd w mg mb s.heap) (hdp : A.depth < 900) (hb0 : 0 ≤ b) (hb : b ≤ 1000) (ha : a.natAbs < 2 ^ 64)
    (h : ∀ h' tk t, s.heap.StaysIn h' → R (.ok (.ret (.int (a * 2 ^ (b : Int).toNat) t))) { s with heap := h', toks := tk }) :
    codeAny (model PG w) A (.call (.ref 42) ⟨[.int a ta, .int b tb], []⟩) R s := by
  have kf : hd.heap_39 = hd.heap_39 ∧ PySem.Challenge.rw_pg0103_01 = PySem.Challenge.rw_pg0103_01 := by k_fill; exact ⟨rfl, rfl⟩
  clear kf
  obtain ⟨X, mean, T⟩ := G
  refine enterK (binds := [("a", .int a ta), ("b", .int b tb)]) X T.nolimit (by k_is) (by k_is) (by unfold recursionLimit; omega) (BindsTo.of_eq rfl) (locs rfl) ?_ rfl rfl rfl (by decide)
  intro L' h₁ F
  have N := News.nil (h₀ := s.heap) (L := L') (h := h₁)
  walk_at "mine"
  exact h _ _ _ F.keep
theorem call_lshift {w : World} {mg mb : Str → Option Value} {mean : ExcName → Option Value} {A : Around} {E : Value → Shared → Prop} {s : Shared} {h₀ : Heap} {L : Addr} {m : Str → Option Value} {news : List (Addr × Obj)} {Q : Value → Shared → Prop} {a : Int} {b : Int} {ta tb : Tok}
    (X : (hd.heap_39 w.params).In h₀) (T : Top hd.view_39 (looseW hd.view_39 []) mean mg mb h₀) (F : Fr h₀ L s.heap m) (N : News h₀ L s.heap news) (hdp : A.depth < 900) (hb0 : 0 ≤ b) (hb : b ≤ 1000) (ha : a.natAbs < 2 ^ 64)
    (h : ∀ h' tk t, Fr h₀ L h' m → News h₀ L h' news → Q (.int (a * 2 ^ (b : Int).toNat) t) { s with heap := h', toks := tk }) :
    wpAny (model PG w) A (call (.ref 42) [.int a ta, .int b tb]) Q E s :=
  wpAny_call (lshift_spec (mg := mg) (mb := mb) ⟨X.keeps F.keep, mean, T.keeps F.keep⟩ hdp hb0 hb ha fun h' tk t k => h h' tk t (F.after k) (N.grown k))
theorem or_spec {w : World} {mg mb : Str → Option Value} {A : Around} {s : Shared} {R : Result → Shared → Prop} {a : Int} {b : Int} {ta tb : Tok}
    (G : Gd w mg mb s.heap) (hdp : A.depth < 900)
    (h : ∀ h' tk t, s.heap.StaysIn h' → R (.ok (.ret (.int (Builtin.bitOr a b) t))) { s with heap := h', toks := tk }) :
    codeAny (model PG w) A (.call (.ref 49) ⟨[.int a ta, .int b tb], []⟩) R s := by
  have kf : hd.heap_39 = hd.heap_39 ∧ PySem.Challenge.rw_pg0103_01 = PySem.Challenge.rw_pg0103_01 := by k_fill; exact ⟨rfl, rfl⟩
  clear kf
  obtain ⟨X, mean, T⟩ := G
  refine enterK (binds := [("a", .int a ta), ("b", .int b tb)]) X T.nolimit (by k_is) (by k_is) (by unfold recursionLimit; omega) (BindsTo.of_eq rfl) (locs rfl) ?_ rfl rfl rfl (by decide)
  intro L' h₁ F
  have N := News.nil (h₀ := s.heap) (L := L') (h := h₁)
  walk_at "mine"
  exact h _ _ _ F.keep
theorem call_or {w : World} {mg mb : Str → Option Value} {mean : ExcName → Option Value} {A : Around} {E : Value → Shared → Prop} {s : Shared} {h₀ : Heap} {L : Addr} {m : Str → Option Value} {news : List (Addr × Obj)} {Q : Value → Shared → Prop} {a : Int} {b : Int} {ta tb : Tok}
    (X : (hd.heap_39 w.params).In h₀) (T : Top hd.view_39 (looseW hd.view_39 []) mean mg mb h₀) (F : Fr h₀ L s.heap m) (N : News h₀ L s.heap news) (hdp : A.depth < 900)
    (h : ∀ h' tk t, Fr h₀ L h' m → News h₀ L h' news → Q (.int (Builtin.bitOr a b) t) { s with heap := h', toks := tk }) :
    wpAny (model PG w) A (call (.ref 49) [.int a ta, .int b tb]) Q E s :=
  wpAny_call (or_spec (mg := mg) (mb := mb) ⟨X.keeps F.keep, mean, T.keeps F.keep⟩ hdp fun h' tk t k => h h' tk t (F.after k) (N.grown k))
theorem rshift_spec {w : World} {mg mb : Str → Option Value} {A : Around} {s : Shared} {R : Result → Shared → Prop} {a : Int} {b : Int} {ta tb : Tok}
    (G : Gd w mg mb s.heap) (hdp : A.depth < 900) (hb0 : 0 ≤ b)
    (h : ∀ h' tk t, s.heap.StaysIn h' → R (.ok (.ret (.int (a.fdiv (2 ^ (b : Int).toNat)) t))) { s with heap := h', toks := tk }) :
    codeAny (model PG w) A (.call (.ref 56) ⟨[.int a ta, .int b tb], []⟩) R s := by
  have kf : hd.heap_39 = hd.heap_39 ∧ PySem.Challenge.rw_pg0103_01 = PySem.Challenge.rw_pg0103_01 := by k_fill; exact ⟨rfl, rfl⟩
  clear kf
  obtain ⟨X, mean, T⟩ := G
  refine enterK (binds := [("a", .int a ta), ("b", .int b tb)]) X T.nolimit (by k_is) (by k_is) (by unfold recursionLimit; omega) (BindsTo.of_eq rfl) (locs rfl) ?_ rfl rfl rfl (by decide)
  intro L' h₁ F
  have N := News.nil (h₀ := s.heap) (L := L') (h := h₁)
  walk_at "mine"
  exact h _ _ _ F.keep
theorem call_rshift {w : World} {mg mb : Str → Option Value} {mean : ExcName → Option Value} {A : Around} {E : Value → Shared → Prop} {s : Shared} {h₀ : Heap} {L : Addr} {m : Str → Option Value} {news : List (Addr × Obj)} {Q : Value → Shared → Prop} {a : Int} {b : Int} {ta tb : Tok}
    (X : (hd.heap_39 w.params).In h₀) (T : Top hd.view_39 (looseW hd.view_39 []) mean mg mb h₀) (F : Fr h₀ L s.heap m) (N : News h₀ L s.heap news) (hdp : A.depth < 900) (hb0 : 0 ≤ b)
    (h : ∀ h' tk t, Fr h₀ L h' m → News h₀ L h' news → Q (.int (a.fdiv (2 ^ (b : Int).toNat)) t) { s with heap := h', toks := tk }) :
    wpAny (model PG w) A (call (.ref 56) [.int a ta, .int b tb]) Q E s :=
  wpAny_call (rshift_spec (mg := mg) (mb := mb) ⟨X.keeps F.keep, mean, T.keeps F.keep⟩ hdp hb0 fun h' tk t k => h h' tk t (F.after k) (N.grown k))
theorem xor_spec {w : World} {mg mb : Str → Option Value} {A : Around} {s : Shared} {R : Result → Shared → Prop} {a : Int} {b : Int} {ta tb : Tok}
    (G : Gd w mg mb s.heap) (hdp : A.depth < 900)
    (h : ∀ h' tk t, s.heap.StaysIn h' → R (.ok (.ret (.int (Builtin.bitXor a b) t))) { s with heap := h', toks := tk }) :
    codeAny (model PG w) A (.call (.ref 63) ⟨[.int a ta, .int b tb], []⟩) R s := by
  have kf : hd.heap_39 = hd.heap_39 ∧ PySem.Challenge.rw_pg0103_01 = PySem.Challenge.rw_pg0103_01 := by k_fill; exact ⟨rfl, rfl⟩
  clear kf
  obtain ⟨X, mean, T⟩ := G
  refine enterK (binds := [("a", .int a ta), ("b", .int b tb)]) X T.nolimit (by k_is) (by k_is) (by unfold recursionLimit; omega) (BindsTo.of_eq rfl) (locs rfl) ?_ rfl rfl rfl (by decide)
  intro L' h₁ F
  have N := News.nil (h₀ := s.heap) (L := L') (h := h₁)
  walk_at "mine"
  exact h _ _ _ F.keep
theorem call_xor {w : World} {mg mb : Str → Option Value} {mean : ExcName → Option Value} {A : Around} {E : Value → Shared → Prop} {s : Shared} {h₀ : Heap} {L : Addr} {m : Str → Option Value} {news : List (Addr × Obj)} {Q : Value → Shared → Prop} {a : Int} {b : Int} {ta tb : Tok}
    (X : (hd.heap_39 w.params).In h₀) (T : Top hd.view_39 (looseW hd.view_39 []) mean mg mb h₀) (F : Fr h₀ L s.heap m) (N : News h₀ L s.heap news) (hdp : A.depth < 900)
    (h : ∀ h' tk t, Fr h₀ L h' m → News h₀ L h' news → Q (.int (Builtin.bitXor a b) t) { s with heap := h', toks := tk }) :
    wpAny (model PG w) A (call (.ref 63) [.int a ta, .int b tb]) Q E s :=
  wpAny_call (xor_spec (mg := mg) (mb := mb) ⟨X.keeps F.keep, mean, T.keeps F.keep⟩ hdp fun h' tk t k => h h' tk t (F.after k) (N.grown k))


local macro_rules | `(tactic| walk_at "call ref") => `(tactic| (k_dflt (refine' call_add ?X ?T ?F ?N ?dp ?_; (case X => assumption); (case T => assumption); (case F => assumption); (case N => assumption); (case dp => ((try dsimp only [Around.deeper]); omega))); intro _ _ _ _ _))
local macro_rules | `(tactic| walk_at "call ref") => `(tactic| (k_dflt (refine' call_and ?X ?T ?F ?N ?dp ?_; (case X => assumption); (case T => assumption); (case F => assumption); (case N => assumption); (case dp => ((try dsimp only [Around.deeper]); omega))); intro _ _ _ _ _))
local macro_rules | `(tactic| walk_at "call ref") => `(tactic| (k_dflt (refine' call_inv ?X ?T ?F ?N ?dp ?_; (case X => assumption); (case T => assumption); (case F => assumption); (case N => assumption); (case dp => ((try dsimp only [Around.deeper]); omega))); intro _ _ _ _ _))
local macro_rules | `(tactic| walk_at "call ref") => `(tactic| (k_dflt (refine' call_or ?X ?T ?F ?N ?dp ?_; (case X => assumption); (case T => assumption); (case F => assumption); (case N => assumption); (case dp => ((try dsimp only [Around.deeper]); omega))); intro _ _ _ _ _))
local macro_rules | `(tactic| walk_at "call ref") => `(tactic| (k_dflt (refine' call_xor ?X ?T ?F ?N ?dp ?_; (case X => assumption); (case T => assumption); (case F => assumption); (case N => assumption); (case dp => ((try dsimp only [Around.deeper]); omega))); intro _ _ _ _ _))
local macro_rules | `(tactic| walk_at "call ref") => `(tactic| (k_dflt (refine' call_lshift ?X ?T ?F ?N ?dp ?b0 ?b1 ?ha ?_; (case X => assumption); (case T => assumption); (case F => assumption); (case N => assumption); (case dp => ((try dsimp only [Around.deeper]); omega)); (case b0 => walk_at "om"); (case b1 => walk_at "om"); (case ha => first | decide | assumption)); intro _ _ _ _ _))
local macro_rules | `(tactic| walk_at "call ref") => `(tactic| (k_dflt (refine' call_rshift ?X ?T ?F ?N ?dp ?b0 ?_; (case X => assumption); (case T => assumption); (case F => assumption); (case N => assumption); (case dp => ((try dsimp only [Around.deeper]); omega)); (case b0 => walk_at "om")); intro _ _ _ _ _))
theorem lev_spec {w : World} {mg mb : Str → Option Value} {A : Around} {s : Shared} {R : Result → Shared → Prop} {a b : List Nat} {ta tb tc : Tok} {mx : Int}
    (G : Gd w mg mb s.heap) (hh : A.handled = none) (hdp : A.depth < 800) (la : a.length ≤ 40) (lb : b.length ≤ 40)
    (h : ∀ h' tk t v, s.heap.StaysIn h' → LevOk a b mx v → R (.ok (.ret (.int v t))) { s with heap := h', toks := tk }) :
    codeAny (model PG w) A (.call (.ref 91) ⟨[.str (st a) ta, .str (st b) tb, .int mx tc], []⟩) R s := by
  have kf : hd.heap_39 = hd.heap_39 ∧ PySem.Challenge.rw_pg0103_01 = PySem.Challenge.rw_pg0103_01 := by k_fill; exact ⟨rfl, rfl⟩
  clear kf
  obtain ⟨X, mean, T⟩ := G
  refine enterK (binds := [("a", .str (st a) ta), ("b", .str (st b) tb), ("max_cost", .int mx tc)]) X T.nolimit (by k_is) (by k_is) (by unfold recursionLimit; omega) (BindsTo.of_eq rfl) (locs rfl) ?_ rfl rfl rfl (by decide)
  intro L' h₁ F
  have N := News.nil (h₀ := s.heap) (L := L') (h := h₁)
  walk_at "mine"
  · have e := ‹a = b›
    subst e
    exact h _ _ _ _ (Fr.keep (by assumption)) (.inl (by rw [dist_self]; rfl))
  · try dsimp only
    refine While_cut (fun n m news => ∃ (k : Nat) (t : Tok), m "pre" = some (.int k t) ∧ m "a" = some (.str (st a) ta) ∧ m "b" = some (.str (st b) tb) ∧ m "max_cost" = some (.int mx tc) ∧ news = [] ∧ k ≤ a.length ∧ k ≤ b.length ∧ a.take k = b.take k ∧ n = a.length - k)
      (fun m news => ∃ (k : Nat) (t : Tok), m "pre" = some (.int k t) ∧ m "a" = some (.str (st a) ta) ∧ m "b" = some (.str (st b) tb) ∧ m "max_cost" = some (.int mx tc) ∧ news = [] ∧ k ≤ a.length ∧ k ≤ b.length ∧ a.take k = b.take k)
      (n₀ := a.length) (by assumption) (by assumption) ⟨0, _, rfl, rfl, rfl, rfl, rfl, by omega, by omega, rfl, by omega⟩ ?_ ?_
    · rintro n m₁ news₁ h₃ tk₃ F₃ N₃ ⟨k, t, hpre, ha, hb, hmx, rfl, hka, hkb, htake, rfl⟩ QW QZ upW upZ
      walk_at "mine"
      · have e := ‹[a.getD k 0] = [b.getD k 0]›
        have ka := ‹k < a.length›
        have kb := ‹k < b.length›
        refine upW _ _ ?_
        refine' WhileStep.intro (n' := a.length - (k + 1)) ?F1 ?N1 ?n1 ?J1
        case F1 => assumption
        case N1 => assumption
        case n1 => omega
        exact ⟨k + 1, _, rfl, ha, hb, hmx, rfl, by omega, by omega, take_step ka kb htake e, rfl⟩
      all_goals (refine upZ _ ?_; walk_at "ends"; exact ⟨k, t, hpre, ha, hb, hmx, rfl, hka, hkb, htake⟩)
    · rintro m₁ news₁ h₃ tk₃ F₃ N₃ ⟨k, t, hpre, ha, hb, hmx, rfl, hka, hkb, htake⟩
      try dsimp only
      walk_at "mine"
      rename_i ta2 _ _ _ tb2 _ _ _ _ F₄ N₄ _
      try dsimp only
      generalize ha2 : a.drop k = a2 at *
      generalize hb2 : b.drop k = b2 at *
      have la2 : a2.length ≤ 40 := by rw [← ha2]; simp; omega
      have lb2 : b2.length ≤ 40 := by rw [← hb2]; simp; omega
      refine' While_cut (fun n m news => ∃ (q : Nat) (t : Tok), m "post" = some (.int (-(q : Int)) t) ∧ (∃ t, m "a" = some (.str (st a2) t)) ∧ (∃ t, m "b" = some (.str (st b2) t)) ∧ m "max_cost" = some (.int mx tc) ∧ news = [] ∧ q ≤ a2.length ∧ q ≤ b2.length ∧ a2.drop (a2.length - q) = b2.drop (b2.length - q) ∧ n = a2.length - q)
        (fun m news => ∃ (q : Nat) (t : Tok), m "post" = some (.int (-(q : Int)) t) ∧ (∃ t, m "a" = some (.str (st a2) t)) ∧ (∃ t, m "b" = some (.str (st b2) t)) ∧ m "max_cost" = some (.int mx tc) ∧ news = [] ∧ q ≤ a2.length ∧ q ≤ b2.length ∧ a2.drop (a2.length - q) = b2.drop (b2.length - q))
        (n₀ := a2.length) ?F2 ?N2 ?J2 ?_ ?_
      case F2 => assumption
      case N2 => assumption
      case J2 => exact ⟨0, _, rfl, ⟨_, rfl⟩, ⟨_, rfl⟩, hmx, rfl, by omega, by omega, by simp, by omega⟩
      · clear hpre ha hb hmx hka hkb
        clear la lb
        rintro n m₁ news₁ h₃ tk₃ F₃ N₃ ⟨q, t, hpost, ⟨t1, ha⟩, ⟨t2, hb⟩, hmx, rfl, hqa, hqb, hdrop, rfl⟩ QW QZ upW upZ
        walk_at "mine"
        · have e := ‹[a2.getD (a2.length - (q + 1)) 0] = [b2.getD (b2.length - (q + 1)) 0]›
          have ka := ‹0 < a2.length - q›
          have kb := ‹0 < b2.length - q›
          refine upW _ _ ?_
          refine' WhileStep.intro (n' := a2.length - (q + 1)) ?F3 ?N3 ?n3 ?J3
          case F3 => assumption
          case N3 => assumption
          case n3 => omega
          have e3 : -(q : Int) - 1 = -((q + 1 : Nat) : Int) := by omega
          exact ⟨q + 1, _, by rw [← e3]; rfl, ⟨_, ha⟩, ⟨_, hb⟩, hmx, rfl, by omega, by omega, drop_step (by omega) (by omega) hdrop e, rfl⟩
        all_goals (refine upZ _ ?_; walk_at "ends"; exact ⟨q, t, hpost, ⟨_, ha⟩, ⟨_, hb⟩, hmx, rfl, hqa, hqb, hdrop⟩)
      · rintro m₁ news₁ h₃ tk₃ F₃ N₃ ⟨q, t, hpost, ⟨t1, ha⟩, ⟨t2, hb⟩, hmx, rfl, hqa, hqb, hdrop⟩
        have D : dist a b = dist (a2.take (a2.length - q)) (b2.take (b2.length - q)) := by
          rw [dist_drop htake, ha2, hb2, dist_take hdrop]
        try dsimp only
        walk_at "mine"
        · have e := ‹¬0 < a2.length - q›
          refine h _ _ _ _ (Fr.keep (by assumption)) (.inl ?_)
          rw [D, show a2.length - q = 0 by omega, List.take_zero, dist_nil', List.length_take]
          omega
        · have e := ‹¬0 < b2.length - q›
          refine h _ _ _ _ (Fr.keep (by assumption)) (.inl ?_)
          rw [D, show b2.length - q = 0 by omega, List.take_zero, dist_nil, List.length_take]
          omega
        · exfalso; omega
        · exfalso; omega
        · have pa := ‹0 < a2.length - q›
          have pb := ‹0 < b2.length - q›
          have la3 : (a2.take (a2.length - q)).length = a2.length - q := by rw [List.length_take]; omega
          have lb3 : (b2.take (b2.length - q)).length = b2.length - q := by rw [List.length_take]; omega
          generalize a2.take (a2.length - q) = a3 at *
          generalize b2.take (b2.length - q) = b3 at *
          refine wpAny_cutF (h₀ := s.heap) (L := L') (fun m news => ∃ (x y : List Nat) (t1 t2 : Tok), m "a" = some (.str (st x) t1) ∧ m "b" = some (.str (st y) t2) ∧ m "max_cost" = some (.int mx tc) ∧ news = [] ∧ x.length ≤ y.length ∧ 0 < x.length ∧ y.length ≤ 40 ∧ dist x y = dist a b) ?_ ?_
          · refine wpAny_If ?_
            walk_at "mine"
            · have e := ‹(b3.length : Int) < (a3.length : Int)›
              walk_at "ends nil"
              exact ⟨b3, a3, _, _, rfl, rfl, hmx, rfl, by omega, by omega, by omega, by rw [D, dist_comm]⟩
            · have e := ‹¬ (b3.length : Int) < (a3.length : Int)›
              walk_at "ends"
              exact ⟨a3, b3, _, _, rfl, rfl, hmx, rfl, by omega, by omega, by omega, by rw [D]⟩
          · clear D la3 lb3 pa pb hdrop hqa hqb hmx hb ha hpost la2 lb2 hb2 ha2 htake hka hkb
            rintro m₁ news₁ h₃ tk₃ F₃ N₃ ⟨x, y, t1, t2, ha, hb, hmx, rfl, hxy, hx0, hy, hD⟩
            walk_at "mine"
            · have e := ‹mx < ((y.length : Int) - (x.length : Int)) * 2›
              refine h _ _ _ _ (Fr.keep (by assumption)) (.inr ⟨rfl, ?_⟩)
              have := dist_diff x y
              rw [← hD]; omega
            · refine wpAny_For ?_
              walk_at "mine"
              have hI := ‹IntsAre _ (rangeInts 2 2 x.length)›
              have hR := ‹IsRange _ _ 0 (y.length : Int) 1 _ _ _›
              try dsimp only
              try dsimp only at hR
              refine' iter_range (env := envOf _ _ L' _ _) (n := y.length) ?ohh ?ohr ?ohn ?ohx ?ohp ?oF ?oN (fun i m news => ∃ (D : Addr) (vs : List Value) (c : Nat) (ns : List Int) (r : Int) (tr : Tok), m "a" = some (.str (st x) t1) ∧ m "b" = some (.str (st y) t2) ∧ m "max_cost" = some (.int mx tc) ∧ m "row" = some (.ref D) ∧ m "result" = some (.int r tr) ∧ news = [(D, listOf vs.toArray c)] ∧ IntsAre vs ns ∧ ns.length = x.length ∧ (∀ j, j < x.length → ns.getD j 0 = (cell y x i (j + 1) : Int)) ∧ (0 < i → r = (cell y x i x.length : Int))) ?oJ ?ostep ?odone ?oE
              case ohh => exact hh
              case ohr => exact hR
              case ohn => omega
              case ohx => rfl
              case ohp => rfl
              case oF => assumption
              case oN => assumption
              case oE => passes_own
              case oJ =>
                refine ⟨_, _, _, _, 0, _, ha, hb, hmx, rfl, rfl, rfl, hI, rangeInts_length _ _ _, fun j hj => ?_, fun h => absurd h (Nat.lt_irrefl 0)⟩
                rw [cell_zero_left y x (by omega), List.getD_eq_getElem?_getD, rangeInts_get hj]
                simp; omega
              case odone =>
                rintro h₅ tk₅ m₅ news₅ F₅ N₅ ⟨D, vs, c, ns, r, tr, ha, hb, hmx, hrow, hres, rfl, hI, hlen, hcell, hr⟩
                try dsimp only
                walk_at "mine"
                refine h _ _ _ _ (Fr.keep (by assumption)) (.inl ?_)
                rw [hr (by omega), cell_end, dist_comm, hD]
              case ostep =>
                clear ha hb hmx hI hR
                rintro i tv m₁ news₁ h₅ tk₅ I o hi ⟨D, vs, c, ns, r, tr, ha, hb, hmx, hrow, hres, rfl, hI, hlen, hcell, hr⟩ hoff F₅ N₅
                have hDI : D ≠ I := hoff (D, listOf vs.toArray c) (List.Mem.head _)
                replace F₅ : Fr s.heap L' h₅ _ := F₅
                replace N₅ : News s.heap L' h₅ _ := N₅
                refine hideQ fun QO upO => ?_
                try dsimp only
                walk_at "mine"
                refine wpAny_For ?_
                walk_at "mine"
                have hR := ‹IsRange _ _ 0 (x.length : Int) 1 _ _ _›
                try dsimp only
                try dsimp only at hR
                refine' iter_range (env := envOf _ _ L' _ _) (n := x.length) ?ihh ?ihr ?ihn ?ihx ?ihp ?iF ?iN (fun j m news => ∃ (vs : List Value) (c : Nat) (ns : List Int) (dv res mn : Int) (tbc td tr tm : Tok), m "a" = some (.str (st x) t1) ∧ m "b" = some (.str (st y) t2) ∧ m "max_cost" = some (.int mx tc) ∧ m "row" = some (.ref D) ∧ m "bchar" = some (.str (st [y.getD i 0]) tbc) ∧ m "distance" = some (.int dv td) ∧ m "result" = some (.int res tr) ∧ m "minimum" = some (.int mn tm) ∧ news = [(I, o), (D, listOf vs.toArray c)] ∧ IntsAre vs ns ∧ ns.length = x.length ∧ (∀ j', j' < j → ns.getD j' 0 = (cell y x (i + 1) (j' + 1) : Int)) ∧ (∀ j', j ≤ j' → j' < x.length → ns.getD j' 0 = (cell y x i (j' + 1) : Int)) ∧ res = (if j = 0 then (i : Int) * 2 else (cell y x (i + 1) j : Int)) ∧ (∀ j', 1 ≤ j' → j' ≤ j → mn ≤ (cell y x (i + 1) j' : Int)) ∧ dv = (cell y x i j : Int)) ?iJ ?istep ?idone ?iE
                case ihh => exact hh
                case ihr => exact hR
                case ihn => omega
                case ihx => rfl
                case ihp => rfl
                case iF => assumption
                case iN => assumption
                case iE => passes_own
                case iJ =>
                  refine ⟨vs, c, ns, _, _, _, _, _, _, _, ha, hb, hmx, hrow, rfl, rfl, rfl, rfl, rfl, hI, hlen, fun j' h => absurd h (Nat.not_lt_zero _), fun j' _ h => hcell j' h, by rw [if_pos rfl], fun j' h1 h2 => by omega, ?_⟩
                  rw [cell_zero_right y x (by omega)]
                  omega
                case idone =>
                  clear ha hb hmx hrow hI hlen hcell hR
                  rintro h₆ tk₆ m₆ news₆ F₆ N₆ ⟨vs, c, ns, dv, res, mn, tbc, td, tr, tm, ha, hb, hmx, hrow, hbc, hdis, hres, hmin, rfl, hI, hlen, hlo, hhi, hr2, hmn, rfl⟩
                  replace F₆ : Fr s.heap L' h₆ _ := F₆
                  replace N₆ : News s.heap L' h₆ _ := N₆
                  try dsimp only
                  walk_at "mine"
                  · have e := ‹mx < mn›
                    refine upO _ _ ?_
                    refine h _ _ _ _ (Fr.keep (by assumption)) (.inr ⟨rfl, ?_⟩)
                    have hc := dist_cut y x (r := i) (t := (mx + 1).toNat) hi hx0 (fun j h1 h2 => by have := hmn j h1 h2; omega)
                    rw [← hD, dist_comm]; omega
                  · refine upO _ _ ?_
                    walk_at "turn"
                    · intro p hp
                      rw [List.mem_singleton.mp hp]
                      simpa using hDI
                    · refine ⟨D, vs, c, ns, res, _, ha, hb, hmx, hrow, hres, rfl, hI, hlen, fun j hj => hlo j hj, fun _ => ?_⟩
                      rw [hr2, if_neg (by omega)]
                case istep =>
                  clear ha hb hmx hrow hI hlen hcell hR
                  rintro j tj m₆ news₆ h₆ tk₆ I2 o2 hj ⟨vs, c, ns, dv, res, mn, tbc, td, tr, tm, ha, hb, hmx, hrow, hbc, hdis, hres, hmin, rfl, hI, hlen, hlo, hhi, hr2, hmn, rfl⟩ hoff2 F₆ N₆
                  have h1 := neN (hoff2 (I, o) (List.Mem.head _))
                  have h2 := neN (hoff2 (D, listOf vs.toArray c) (List.Mem.tail _ (List.Mem.head _)))
                  have h3 := neN hDI
                  try dsimp only at h1 h2 h3
                  replace F₆ : Fr s.heap L' h₆ _ := F₆
                  replace N₆ : News s.heap L' h₆ _ := N₆
                  refine hideQ fun QI upI => ?_
                  try dsimp only
                  walk_at "mine"
                  · have hV : min (min res (ns.getD (j : Int).toNat 0) + 2) ((cell y x i j : Int) + (cost (y.getD i 0) (x.getD j 0) : Int)) = (cell y x (i + 1) (j + 1) : Int) := by
                      rw [Int.toNat_natCast, hhi j (Nat.le_refl _) hj]
                      exact cell_turn y x hi hj hr2
                    have hlt := ‹min (min res (ns.getD (j : Int).toNat 0) + 2) ((cell y x i j : Int) + (cost (y.getD i 0) (x.getD j 0) : Int)) < mn›
                    obtain ⟨q1, q2, q3⟩ := row_turn hj hlen hlo hhi hV
                    refine upI _ _ ?_
                    walk_at "turn"
                    · intro p hp
                      rcases List.mem_cons.mp hp with rfl | hp
                      · simpa using h1
                      · rw [List.mem_singleton.mp hp]; simpa using h2
                    · refine ⟨_, _, _, _, _, _, _, _, _, _, ha, hb, hmx, hrow, hbc, rfl, rfl, rfl, rfl, by assumption, q1, q2, q3, ?_, ?_, ?_⟩
                      · rw [hV, if_neg (by omega)]
                      · intro j' g1 g2
                        by_cases g : j' = j + 1
                        · subst g; rw [hV]; omega
                        · have := hmn j' g1 (by omega)
                          omega
                      · rw [Int.toNat_natCast]; exact hhi j (Nat.le_refl _) hj
                  · have hV : min (min res (ns.getD (j : Int).toNat 0) + 2) ((cell y x i j : Int) + (cost (y.getD i 0) (x.getD j 0) : Int)) = (cell y x (i + 1) (j + 1) : Int) := by
                      rw [Int.toNat_natCast, hhi j (Nat.le_refl _) hj]
                      exact cell_turn y x hi hj hr2
                    have hlt := ‹¬ min (min res (ns.getD (j : Int).toNat 0) + 2) ((cell y x i j : Int) + (cost (y.getD i 0) (x.getD j 0) : Int)) < mn›
                    obtain ⟨q1, q2, q3⟩ := row_turn hj hlen hlo hhi hV
                    refine upI _ _ ?_
                    walk_at "turn"
                    · intro p hp
                      rcases List.mem_cons.mp hp with rfl | hp
                      · simpa using h1
                      · rw [List.mem_singleton.mp hp]; simpa using h2
                    · refine ⟨_, _, _, _, _, _, _, _, _, _, ha, hb, hmx, hrow, hbc, rfl, rfl, hmin, rfl, by assumption, q1, q2, q3, ?_, ?_, ?_⟩
                      · rw [hV, if_neg (by omega)]
                      · intro j' g1 g2
                        by_cases g : j' = j + 1
                        · subst g; omega
                        · exact hmn j' g1 (by omega)
                      · rw [Int.toNat_natCast]; exact hhi j (Nat.le_refl _) hj

theorem count_spec {w : World} {mg mb : Str → Option Value} {A : Around} {s : Shared} {R : Result → Shared → Prop} {l : Addr} {vs : List Value} {ns : List Int}
    (G : Gd w mg mb s.heap) (hh : A.handled = none) (hdp : A.depth < 900) (hl : s.heap.IsList l vs.toArray) (hi : IntsAre vs ns)
    (h : ∀ h' tk t, s.heap.StaysIn h' → R (.ok (.ret (.int ((ns.filter (fun n => decide (n = 1))).length : Int) t))) { s with heap := h', toks := tk }) :
    codeAny (model PG w) A (.call (.ref 70) ⟨[.ref l, .bool true], []⟩) R s := by
  have kf : hd.heap_39 = hd.heap_39 ∧ PySem.Challenge.rw_pg0103_01 = PySem.Challenge.rw_pg0103_01 := by k_fill; exact ⟨rfl, rfl⟩
  clear kf
  obtain ⟨X, mean, T⟩ := G
  refine enterK (binds := [("a", .ref l), ("b", .bool true)]) X T.nolimit (by k_is) (by k_is) (by unfold recursionLimit; omega) (BindsTo.of_eq rfl) (locs rfl) ?_ rfl rfl rfl (by decide)
  intro L' h₁ F
  have N := News.nil (h₀ := s.heap) (L := L') (h := h₁)
  walk_at "mine"
  refine wpAny_For ?_
  walk_at "mine"
  try dsimp only
  refine' iter_list (env := envOf _ _ L' _ _) ?ohh hl ?ohx ?ohp ?oF ?oN (fun i m news => ∃ (t : Tok), m "b" = some (.bool true) ∧ m "count" = some (.int (((ns.take i).filter (fun n => decide (n = 1))).length : Int) t) ∧ news = []) ?oJ ?ostep ?odone ?oE
  case ohh => exact hh
  case ohx => rfl
  case ohp => rfl
  case oF => assumption
  case oN => assumption
  case oE => passes_own
  case oJ => exact ⟨_, rfl, rfl, rfl⟩
  case odone =>
    rintro h₅ tk₅ m₅ news₅ F₅ N₅ ⟨t, hb, hc, rfl⟩
    replace F₅ : Fr s.heap L' h₅ _ := F₅
    replace N₅ : News s.heap L' h₅ _ := N₅
    try dsimp only
    walk_at "mine"
    rw [hi.length, List.take_length]
    exact h _ _ _ F₅.keep
  case ostep =>
    rintro i v m₁ news₁ h₅ tk₅ I o hv ⟨t, hb, hc, rfl⟩ hoff F₅ N₅
    replace F₅ : Fr s.heap L' h₅ _ := F₅
    replace N₅ : News s.heap L' h₅ _ := N₅
    obtain ⟨t', hlt, rfl⟩ := ints_item hi hv
    have hT := take_succ_int hlt
    try dsimp only
    walk_at "mine"
    · have e := ‹ns.getD i 0 = if true = true then 1 else 0›
      rw [if_pos rfl] at e
      walk_at "turn"
      · exact fun p hp => nomatch hp
      · have e2 : (((ns.take (i + 1)).filter (fun n => decide (n = 1))).length : Int) = ((ns.take i).filter (fun n => decide (n = 1))).length + 1 := by
          rw [hT, e, List.filter_append, List.length_append]
          rfl
        rw [e2]
        exact ⟨_, hb, rfl, rfl⟩
    · have e := ‹¬ ns.getD i 0 = if true = true then 1 else 0›
      rw [if_pos rfl] at e
      walk_at "turn"
      · exact fun p hp => nomatch hp
      · have e2 : (((ns.take (i + 1)).filter (fun n => decide (n = 1))).length : Int) = ((ns.take i).filter (fun n => decide (n = 1))).length := by
          rw [hT, List.filter_append, List.length_append]
          generalize ns.getD i 0 = z at e
          simp [e]
        rw [e2]
        exact ⟨_, hb, hc, rfl⟩
theorem call_count {w : World} {mg mb : Str → Option Value} {mean : ExcName → Option Value} {A : Around} {E : Value → Shared → Prop} {s : Shared} {h₀ : Heap} {L : Addr} {m : Str → Option Value} {news : List (Addr × Obj)} {Q : Value → Shared → Prop} {l : Addr} {vs : List Value} {ns : List Int}
    (X : (hd.heap_39 w.params).In h₀) (T : Top hd.view_39 (looseW hd.view_39 []) mean mg mb h₀) (F : Fr h₀ L s.heap m) (N : News h₀ L s.heap news) (hh : A.handled = none) (hdp : A.depth < 900) (hl : s.heap.IsList l vs.toArray) (hi : IntsAre vs ns)
    (h : ∀ h' tk t, Fr h₀ L h' m → News h₀ L h' news → Q (.int ((ns.filter (fun n => decide (n = 1))).length : Int) t) { s with heap := h', toks := tk }) :
    wpAny (model PG w) A (call (.ref 70) [.ref l, .bool true]) Q E s :=
  wpAny_call (count_spec (mg := mg) (mb := mb) ⟨X.keeps F.keep, mean, T.keeps F.keep⟩ hh hdp hl hi fun h' tk t k => h h' tk t (F.after k) (N.grown k))

theorem index_spec {w : World} {mg mb : Str → Option Value} {A : Around} {outer : List Env} {s : Shared} {R : Result → Shared → Prop} {l rb : Addr} {rs : List Addr} {ms : List (List Int)} {mk : List Int}
    (G : Gd w mg mb s.heap) (S : Stk A outer s.heap) (hh : A.handled = none) (hdp : A.depth < 900) (hu : A.units < 9000) (hl : s.heap.IsList l (refs rs).toArray) (hll : LLs s.heap rs ms) (hb : IntL s.heap rb mk)
    (h1 : ∀ (k : Nat) h' tk t, ms[k]? = some mk → (∀ (j : Nat) m', j < k → ms[j]? = some m' → m' ≠ mk) → s.heap.StaysIn h' → R (.ok (.ret (.int (k : Int) t))) { s with heap := h', toks := tk })
    (h2 : ∀ h' tk e t tt, (∀ (j : Nat) m', ms[j]? = some m' → m' ≠ mk) → Heap.FlyingW (hideAll s.heap (frs outer)) outer e (.type "ValueError") (.ref t) h' → h'.TupAt t [.str "sequence.index(x): x not in sequence" tt] → s.heap.UpToSlots h' → s.heap.get? t = none →
      R (.error (.ref e)) { s with heap := h', toks := tk }) :
    codeAny (model PG w) A (.call (.ref 77) ⟨[.ref l, .ref rb], []⟩) R s := by
  have kf : hd.heap_39 = hd.heap_39 ∧ PySem.Challenge.rw_pg0103_01 = PySem.Challenge.rw_pg0103_01 := by k_fill; exact ⟨rfl, rfl⟩
  clear kf
  obtain ⟨X, mean, T⟩ := G
  refine enterK (binds := [("a", .ref l), ("b", .ref rb)]) X T.nolimit (by k_is) (by k_is) (by unfold recursionLimit; omega) (BindsTo.of_eq rfl) (locs rfl) ?_ rfl rfl rfl (by decide)
  intro L' h₁ F
  have N := News.nil (h₀ := s.heap) (L := L') (h := h₁)
  refine wpAny_execs_cons ?_
  refine wpAny_For ?_
  have hl' := hl.at (fun o e => F.keep l o e)
  walk_at "mine"
  rename_i h₂ e it U F₂ N₂
  try dsimp only
  refine wpAny_pyIter_enum U.en ?_
  refine' iter_enum (env := envOf _ _ L' _ _) (h₀ := s.heap) ?ohh hl ?ohx ?ohx2 ?ohp U.en U.li U.ne U.e0 U.i0 U.eL U.iL U.off ?oF ?oN (fun i m news => m "b" = some (.ref rb) ∧ news = [] ∧ ∀ (j : Nat) m', j < i → ms[j]? = some m' → m' ≠ mk) ?oJ ?ostep ?odone ?oE
  case ohh => exact hh
  case ohx => rfl
  case ohx2 => rfl
  case ohp => rfl
  case oF => exact F₂
  case oN => exact N₂
  case oE => passes_own
  case oJ => exact ⟨rfl, rfl, fun j m' hj => absurd hj (Nat.not_lt_zero _)⟩
  case ostep =>
    rintro i ti v m₁ news₁ h₅ tk₅ oe oi hv ⟨hb', rfl, hno⟩ hoff F₅ N₅
    replace F₅ : Fr s.heap L' h₅ _ := F₅
    replace N₅ : News s.heap L' h₅ _ := N₅
    obtain ⟨r, hr, rfl⟩ : ∃ r, rs[i]? = some r ∧ v = .ref r := by
      rw [refs, List.getElem?_map] at hv
      cases q : rs[i]? with
      | none => rw [q] at hv; cases hv
      | some r => rw [q] at hv; exact ⟨r, rfl, (Option.some.inj hv).symm⟩
    have hi : i < ms.length := by rw [← hll.1]; exact (List.getElem?_eq_some_iff.mp hr).1
    have hm : ms[i]? = some ms[i] := List.getElem?_eq_getElem hi
    generalize ms[i] = mi at hm
    have hI := hll.2 i r mi hr hm
    obtain ⟨us, hI1, hI2⟩ := hI.keeps F₅.keep
    obtain ⟨us', hB1, hB2⟩ := hb.keeps F₅.keep
    try dsimp only
    walk_at "mine"
    · have q := ‹r = rb›
      subst q
      have q2 := hI.unique hb
      subst q2
      exact h1 i _ _ _ hm hno (Fr.keep (by assumption))
    · have q := ‹mi = mk›
      subst q
      exact h1 i _ _ _ hm hno (Fr.keep (by assumption))
    · have q := ‹¬ mi = mk›
      walk_at "turn"
      · exact fun p hp => nomatch hp
      · refine ⟨hb', rfl, fun j m' hj hm' => ?_⟩
        by_cases g : j = i
        · subst g
          rw [hm] at hm'
          cases hm'
          exact q
        · exact hno j m' (by omega) hm'
  case odone =>
    rintro h₅ tk₅ m₅ news₅ F₅ N₅ ⟨hb', rfl, hno⟩
    replace F₅ : Fr s.heap L' h₅ _ := F₅
    replace N₅ : News s.heap L' h₅ _ := N₅
    have hno' : ∀ (j : Nat) m', ms[j]? = some m' → m' ≠ mk := fun j m' hj => hno j m' (by rw [refs, List.length_map, hll.1]; exact (List.getElem?_eq_some_iff.mp hj).1) hj
    try dsimp only
    refine wpAny_execs_cons ?_
    refine Raise_madeB PySem.F.excCall_ValueError PySem.F.excRaise_ValueError hh ?_
    walk_at "mine"
    refine ⟨rfl, ?_⟩
    walk_at "mine"
    refine ⟨small_line (by simp), ?_⟩
    intro h₆ e hx
    exact leave_index S F₅ (madeExc_of hx) rfl fun h' t x1 x2 x3 x4 => h2 _ _ _ _ _ hno' x1 x2 x4 x3
theorem call_index {w : World} {mg mb : Str → Option Value} {mean : ExcName → Option Value} {A : Around} {outer : List Env} {E : Value → Shared → Prop} {s : Shared} {h₀ : Heap} {L : Addr} {m : Str → Option Value} {news : List (Addr × Obj)} {Q : Value → Shared → Prop} {l rb : Addr} {rs : List Addr} {ms : List (List Int)} {mk : List Int}
    (X : (hd.heap_39 w.params).In h₀) (T : Top hd.view_39 (looseW hd.view_39 []) mean mg mb h₀) (F : Fr h₀ L s.heap m) (N : News h₀ L s.heap news)
    (S : Stk A outer s.heap) (hh : A.handled = none) (hdp : A.depth < 900) (hu : A.units < 9000) (hl : s.heap.IsList l (refs rs).toArray) (hll : LLs s.heap rs ms) (hb : IntL s.heap rb mk)
    (h1 : ∀ (k : Nat) h' tk t, ms[k]? = some mk → (∀ (j : Nat) m', j < k → ms[j]? = some m' → m' ≠ mk) → Fr h₀ L h' m → News h₀ L h' news → Q (.int (k : Int) t) { s with heap := h', toks := tk })
    (h2 : ∀ h' tk e t tt, (∀ (j : Nat) m', ms[j]? = some m' → m' ≠ mk) → Heap.FlyingW (hideAll s.heap (frs outer)) outer e (.type "ValueError") (.ref t) h' → h'.TupAt t [.str "sequence.index(x): x not in sequence" tt] → s.heap.UpToSlots h' → s.heap.get? t = none →
      E (.ref e) { s with heap := h', toks := tk }) :
    wpAny (model PG w) A (call (.ref 77) [.ref l, .ref rb]) Q E s :=
  wpAny_call (index_spec (mg := mg) (mb := mb) ⟨X.keeps F.keep, mean, T.keeps F.keep⟩ S hh hdp hu hl hll hb (fun k h' tk t a b st => h1 k h' tk t a b (F.after st) (N.grown st)) h2)

theorem hits_spec {w : World} {mg mb : Str → Option Value} {A : Around} {outer : List Env} {base : Heap} {s : Shared} {R : Result → Shared → Prop} {l rb : Addr} {rs : List Addr} {ms : List (List Int)} {mk : List Int}
    (Gb : Gd w mg mb base) (hbs : base.StaysIn s.heap) (hbf : ∀ f ∈ frs outer, base.get? f = none) (S : Stk A outer s.heap) (hh : A.handled = none) (hdp : A.depth < 800) (hu : A.units < 8000) (hl : s.heap.IsList l (refs rs).toArray) (hll : LLs s.heap rs ms) (hb : IntL s.heap rb mk) (hms : ms.length ≤ 100)
    (h : ∀ h' tk t, Grows (frs outer) s.heap h' → R (.ok (.ret (.int (hitsN ms mk ms.length) t))) { s with heap := h', toks := tk }) :
    codeAny (model PG w) A (.call (.ref 105) ⟨[.ref l, .ref rb], []⟩) R s := by
  have kf : hd.heap_39 = hd.heap_39 ∧ PySem.Challenge.rw_pg0103_01 = PySem.Challenge.rw_pg0103_01 := by k_fill; exact ⟨rfl, rfl⟩
  clear kf
  obtain ⟨X, mean, T⟩ := Gb.keeps hbs
  refine enterK (binds := [("marks", .ref l), ("mark", .ref rb)]) X T.nolimit (by k_is) (by k_is) (by unfold recursionLimit; omega) (BindsTo.of_eq rfl) (locs rfl) ?_ rfl rfl rfl (by decide)
  intro L' h₁ F
  have N := News.nil (h₀ := s.heap) (L := L') (h := h₁)
  have hrl : rs.length = ms.length := hll.1
  have hl1 := hl.at (fun o e => F.keep l o e)
  walk_at "mine"
  refine wpAny_For ?_
  walk_at "mine"
  have hR := ‹IsRange _ _ 0 _ 1 _ _ _›
  rw [refs_length] at hR
  try dsimp only
  try dsimp only at hR
  replace hR : IsRange _ _ 0 ((rs.length + 1 : Nat) : Int) 1 _ _ _ := hR
  refine' iter_range (env := envOf _ _ L' _ _) (n := rs.length + 1) ?ohh ?ohr ?ohn ?ohx ?ohp ?oF ?oN (fun i m news => ∃ (b : Nat) (tb th : Tok), m "marks" = some (.ref l) ∧ m "mark" = some (.ref rb) ∧ m "begun" = some (.int (b : Int) tb) ∧ m "hits" = some (.int (hitsN ms mk b) th) ∧ news = [] ∧ b ≤ ms.length ∧ i ≤ b) ?oJ ?ostep ?odone ?oE
  case ohh => exact hh
  case ohr => exact hR
  case ohn => omega
  case ohx => rfl
  case ohp => rfl
  case oF => assumption
  case oN => assumption
  case oE => passes_own
  case oJ => exact ⟨0, _, _, rfl, rfl, rfl, rfl, rfl, Nat.zero_le _, Nat.le_refl _⟩
  case odone =>
    rintro h₅ tk₅ m₅ news₅ F₅ N₅ ⟨b, tb, th, _, _, _, _, _, q1, q2⟩
    exfalso; omega
  case ostep =>
    rintro i ti m₁ news₁ h₅ tk₅ I o hi ⟨b, tb, th, hm1, hm2, hm3, hm4, rfl, q1, q2⟩ hoff F₅ N₅
    replace F₅ : Fr s.heap L' h₅ _ := F₅
    replace N₅ : News s.heap L' h₅ _ := N₅
    refine hideQ fun QO upO => ?_
    try dsimp only
    refine wpAny_execs_cons ?_
    refine wpAny_Try_except ?_
    walk_at "mine"
    rename_i h₆ D F₆ N₆ hD
    rw [refs_drop] at N₆
    refine' call_index ?cX ?cT ?cF ?cN ?cS ?chh ?cdp ?cu ?cl ?cll ?cb ?c1 ?c2
    case cX => exact X
    case cT => exact T
    case cF => exact F₆
    case cN => exact N₆
    case cS => exact (S.keeps F₆.keep).push F₆ rfl
    case chh => exact hh
    case cdp => dsimp only [Around.deeper]; omega
    case cu => dsimp only [Around.deeper]; omega
    case cl => exact News.isList N₆ (List.Mem.head _)
    case cll => exact (hll.keeps F₆.keep).drop b
    case cb => exact hb.keeps F₆.keep
    case c1 =>
      intro k h₇ tk₇ t₇ hk1 hk2 F₇ N₇
      have hkl : k < ms.length - b := by
        have := (List.getElem?_eq_some_iff.mp hk1).1
        rwa [List.length_drop] at this
      try dsimp only
      walk_at "mine"
      try dsimp only
      refine upO _ _ ?_
      refine' TurnAt.intro (news₂ := []) ?tF1 ?tN1 (fun p hp => nomatch hp) ?tJ1
      case tF1 => assumption
      case tN1 =>
        have N9 := ‹News s.heap L' _ [(D, listOf (refs (List.drop b rs)).toArray 0), (I, o)]›
        exact fun p hp => N9 p (List.Mem.tail _ hp)
      · have e := hits_hit hk1 hk2
        have e2 : ((b : Int) + ((k : Int) + 1) - 1).toNat = b + k := by omega
        have e3 : ((b : Int) + ((k : Int) + 1)) = ((b + k + 1 : Nat) : Int) := by omega
        rw [e2, ← e, e3]
        exact ⟨b + k + 1, _, _, hm1, hm2, rfl, rfl, rfl, by omega, by omega⟩
    case c2 =>
      intro h₇ tk₇ e t tt hno hfl htup hup htn
      have Gg : Gd w mg mb (hideAll s.heap (frs outer)) := Gb.keeps fun b o q => hideAll_get _ (hbs b o q) fun hm => by rw [hbf b hm] at q; cases q
      obtain ⟨Xg, meang, Tg⟩ := Gg
      refine caught_here S F₆ rfl Tg.g Tg.b (mg_none_of Xg Tg.g (by k_is)) ((Tg.builtins _ (by decide)).trans PyProof.Rows.Boot.«ValueError») hfl htup hup htn rfl rfl rfl ?_
      intro h₈ tk₈ fr F₈ N₈ hfr hfo hE₈ hT₈
      clear F₆ N₆ X T F₅ N₅
      try dsimp only
      walk_at "mine"
      refine PySem.P.str_of_exc_one PySem.F.excStr_ValueError (by dsimp only [Around.mark, Around.deeper]; unfold cLine; omega) hE₈ hT₈ ?_
      walk_at "mine"
      · rw [hits_end q1 hno] at h
        refine upO _ _ ?_
        refine h _ _ _ ⟨fun b o q hm => Fr.keep (by assumption) b o (hideAll_get _ q hm), fun b hm o q => ?_⟩
        rw [← hfr] at hm
        obtain ⟨p, hp, rfl⟩ := List.mem_map.mp hm
        obtain ⟨sl, hsl⟩ := hfo p hp o q
        refine ⟨sl, hsl ▸ (News.get (news := fr) (by assumption) hp)⟩
      · exact absurd rfl ‹¬ _ = _›

/-- the ledger bears the lists -/
def LLin (inner : List (Addr × Obj)) (rs : List Addr) (ms : List (List Int)) : Prop := rs.length = ms.length ∧ ∀ (k : Nat) r m, rs[k]? = some r → ms[k]? = some m → ∃ vs n, (r, listOf vs.toArray n) ∈ inner ∧ IntsAre vs m

theorem LLin.more {inner : List (Addr × Obj)} {rs : List Addr} {ms : List (List Int)} {a b : Addr} {us ws : List Value} {x y : List Int} {n k : Nat} (h : LLin inner rs ms) (hu : IntsAre us x) (hw : IntsAre ws y) :
    LLin ((b, listOf ws.toArray k) :: (a, listOf us.toArray n) :: inner) (rs ++ [a, b]) (ms ++ [x, y]) := by
  refine ⟨by simp [h.1], fun j r m hr hm => ?_⟩
  by_cases g : j < rs.length
  · rw [List.getElem?_append_left g] at hr
    rw [List.getElem?_append_left (by rw [← h.1]; exact g)] at hm
    obtain ⟨vs, c, q, hi⟩ := h.2 j r m hr hm
    exact ⟨vs, c, List.Mem.tail _ (List.Mem.tail _ q), hi⟩
  · rw [List.getElem?_append_right (by omega)] at hr
    rw [List.getElem?_append_right (by rw [← h.1]; omega), ← h.1] at hm
    generalize j - rs.length = d at hr hm
    match d, hr, hm with
    | 0, hr, hm =>
      cases hr
      cases hm
      exact ⟨us, n, List.Mem.tail _ (List.Mem.head _), hu⟩
    | 1, hr, hm =>
      cases hr
      cases hm
      exact ⟨ws, k, List.Mem.head _, hw⟩
    | d + 2, hr, hm => simp at hr
theorem not_long {n k : Nat} {its : Array Value} (h : n + k ≤ 1000) : ¬(!its.isEmpty && Builtin.List.listTooLong (n + k)) = true := by
  intro q
  rw [Bool.and_eq_true] at q
  have := q.2
  unfold Builtin.List.listTooLong at this
  have h9 := of_decide_eq_true this
  exact absurd h9 (Nat.not_lt.mpr (small_line h))

theorem marks_spec {w : World} {mg mb : Str → Option Value} {A : Around} {s : Shared} {R : Result → Shared → Prop} {l : Addr} {vs : List Value} {fs : List Int}
    (G : Gd w mg mb s.heap) (hh : A.handled = none) (hdp : A.depth < 900) (hu : A.units < 9000) (hl : s.heap.IsList l vs.toArray) (hi : IntsAre vs fs) (hlen : fs.length ≤ 50)
    (h : ∀ h' tk D rs, s.heap.StaysIn h' → s.heap.get? D = none → h'.IsList D (refs rs).toArray → LLs h' rs (marksOf fs) → R (.ok (.ret (.ref D))) { s with heap := h', toks := tk }) :
    codeAny (model PG w) A (.call (.ref 98) ⟨[.ref l], []⟩) R s := by
  have kf : hd.heap_39 = hd.heap_39 ∧ PySem.Challenge.rw_pg0103_01 = PySem.Challenge.rw_pg0103_01 := by k_fill; exact ⟨rfl, rfl⟩
  clear kf
  obtain ⟨X, mean, T⟩ := G
  refine enterK (binds := [("figures", .ref l)]) X T.nolimit (by k_is) (by k_is) (by unfold recursionLimit; omega) (BindsTo.of_eq rfl) (locs rfl) ?_ rfl rfl rfl (by decide)
  intro L' h₁ F
  have N := News.nil (h₀ := s.heap) (L := L') (h := h₁)
  walk_at "mine"
  refine wpAny_For ?_
  walk_at "mine"
  try dsimp only
  refine' iter_list (env := envOf _ _ L' _ _) ?ohh hl ?ohx ?ohp ?oF ?oN (fun i m news => ∃ D rs c inner, m "marks" = some (.ref D) ∧ news = (D, listOf (refs rs).toArray c) :: inner ∧ LLin inner rs (marksOf (fs.take i)) ∧ ∀ p ∈ inner, p.1 ≠ D) ?oJ ?ostep ?odone ?oE
  case ohh => exact hh
  case ohx => rfl
  case ohp => rfl
  case oF => assumption
  case oN => assumption
  case oE => passes_own
  case oJ => exact ⟨_, [], _, [], rfl, rfl, ⟨rfl, fun k r m hr => by simp at hr⟩, fun p hp => nomatch hp⟩
  case odone =>
    rintro h₅ tk₅ m₅ news₅ F₅ N₅ ⟨D, rs, c, inner, hm, rfl, hL, hD⟩
    replace F₅ : Fr s.heap L' h₅ _ := F₅
    replace N₅ : News s.heap L' h₅ _ := N₅
    try dsimp only
    walk_at "mine"
    rw [hi.length, List.take_length] at hL
    refine h _ _ D rs F₅.keep (N₅.fresh (List.Mem.head _)) (News.isList N₅ (List.Mem.head _)) ⟨hL.1, fun k r m a b => ?_⟩
    obtain ⟨us, n, hm, hI⟩ := hL.2 k r m a b
    exact ⟨us, News.isList N₅ (List.Mem.tail _ hm), hI⟩
  case ostep =>
    rintro i v m₁ news₁ h₅ tk₅ I o hv ⟨D, rs, c, inner, hm, rfl, hL, hD⟩ hoff F₅ N₅
    replace F₅ : Fr s.heap L' h₅ _ := F₅
    replace N₅ : News s.heap L' h₅ _ := N₅
    obtain ⟨t', hlt, rfl⟩ := ints_item hi hv
    have hT := take_succ_int hlt
    have hDI := neN (hoff (D, listOf (refs rs).toArray c) (List.Mem.head _))
    refine hideQ fun QO upO => ?_
    try dsimp only
    walk_at "mine"
    rename_i l2 h6 _ l1 h7 _ l0 h8 F₈ N₈ q0
    have q1 := ‹l2 < l1 ∧ _›
    have q2 := ‹I < l2 ∧ _›
    have hrl : rs.length ≤ 100 := by
      rw [hL.1, marksOf_length, List.length_take]; omega
    dsimp only at hDI
    refine' kl_extend (its := (refs rs).toArray) (n := c) (its2 := #[Value.ref l2, Value.ref l1]) (n2 := 0) (l := refs (rs ++ [l2, l1])) F₈ N₈ (List.Mem.head _) ?ee ?en ?eU ?ed ?ez ?ey ?_
    case eU =>
      refine Upd.tail (by k_ne) (Upd.tail (by k_ne) (Upd.tail (by k_ne) (Upd.tail (by k_ne) (Upd.head hD))))
    case ee => simp [refs]
    case en => simp
    case ed => exact not_long (by simp [refs]; omega)
    case ez => exact small_line (by simp [refs]; omega)
    case ey => exact Nat.le_succ_of_le (small_line (by simp [refs]; omega))
    intro h₉ F₉ N₉
    try dsimp only
    walk_at "mine"
    refine upO _ _ ?_
    refine' TurnAt.intro (news₂ := (D, listOf (refs (rs ++ [l2, l1])).toArray (c + 1)) :: (l1, listOf [Value.int ((fs.getD i 0).fdiv 2) (tk₅ + 1 + 1 + 1), Value.int ((fs.getD i 0).fmod 2) (tk₅ + 1 + 1 + 1 + 1 + 1)].toArray 0) :: (l2, listOf [Value.int ((fs.getD i 0).fdiv 2) (tk₅ + 1)].toArray 0) :: inner) F₉ ?tN1 ?tA1 ?tJ1
    case tN1 =>
      intro p hp
      refine N₉ p ?_
      simp only [List.mem_cons, List.mem_append, List.not_mem_nil, or_false, false_or] at hp ⊢
      rcases hp with hp | hp | hp | hp | hp
      · exact .inr (.inr (.inr (.inl hp)))
      · exact .inr (.inr (.inr (.inr (.inl hp))))
      · exact .inr (.inl hp)
      · exact .inr (.inr (.inl hp))
      · exact .inr (.inr (.inr (.inr (.inr hp))))
    case tA1 =>
      intro p hp
      rw [List.mem_singleton]
      rcases List.mem_cons.mp hp with rfl | hp
      · exact hDI
      rcases List.mem_cons.mp hp with rfl | hp
      · exact Nat.ne_of_gt q1.2.1
      rcases List.mem_cons.mp hp with rfl | hp
      · exact Nat.ne_of_gt q2.1
      · exact hoff p (List.Mem.tail _ hp)
    case tJ1 =>
      refine ⟨D, rs ++ [l2, l1], c + 1, _, hm, rfl, ?_, ?_⟩
      · rw [hT, marksOf_append]
        exact hL.more (.cons _ _ .nil) (.cons _ _ (.cons _ _ .nil))
      · intro p hp
        rcases List.mem_cons.mp hp with rfl | hp
        · exact Nat.ne_of_gt q1.2.2.1
        rcases List.mem_cons.mp hp with rfl | hp
        · exact Nat.ne_of_gt q2.2.1
        · exact hD p hp
theorem call_marks {w : World} {mg mb : Str → Option Value} {mean : ExcName → Option Value} {A : Around} {E : Value → Shared → Prop} {s : Shared} {h₀ : Heap} {L : Addr} {m : Str → Option Value} {news : List (Addr × Obj)} {Q : Value → Shared → Prop} {l : Addr} {vs : List Value} {fs : List Int}
    (X : (hd.heap_39 w.params).In h₀) (T : Top hd.view_39 (looseW hd.view_39 []) mean mg mb h₀) (F : Fr h₀ L s.heap m) (N : News h₀ L s.heap news) (hh : A.handled = none) (hdp : A.depth < 900) (hu : A.units < 9000) (hl : s.heap.IsList l vs.toArray) (hi : IntsAre vs fs) (hlen : fs.length ≤ 50)
    (h : ∀ h' tk D rs, Fr h₀ L h' m → News h₀ L h' news → s.heap.StaysIn h' → s.heap.get? D = none → h'.IsList D (refs rs).toArray → LLs h' rs (marksOf fs) → Q (.ref D) { s with heap := h', toks := tk }) :
    wpAny (model PG w) A (call (.ref 98) [.ref l]) Q E s :=
  wpAny_call (marks_spec (mg := mg) (mb := mb) ⟨X.keeps F.keep, mean, T.keeps F.keep⟩ hh hdp hu hl hi hlen fun h' tk D rs k a b c => h h' tk D rs (F.after k) (N.grown k) k a b c)

/-- the ledger bears the pairs -/
def PairIn (tups : List (Addr × Obj)) (ds : List Addr) (f : Nat → Int × Int) (n : Nat) : Prop := ds.length = n ∧ ∀ (k : Nat) d, ds[k]? = some d → ∃ t u c, (d, { cls := .type "tuple", data := .seq #[Value.int (f k).1 t, Value.int (f k).2 u] c }) ∈ tups

theorem call_hits {w : World} {mg mb : Str → Option Value} {A : Around} {outer : List Env} {h₀ : Heap} {s : Shared} {E Q : Value → Shared → Prop} {L a : Addr} {m : Str → Option Value} {name : Str} {scope : Scope} {cd : Value} {stuff fr : List (Addr × Obj)} {l rb : Addr} {rs : List Addr} {ms : List (List Int)} {mk : List Int}
    (Gg : Gd w mg mb (hideAll h₀ (frs outer))) (S : Stk A outer h₀) (F : Fr (hideAll h₀ (frs outer)) L s.heap m) (N : News (hideAll h₀ (frs outer)) L s.heap (stuff ++ fr)) (hfr : FrOk h₀ outer fr) (hs : ∀ p ∈ stuff, p.1 ∉ frs outer) (hL : h₀.objs.size ≤ L) (hk : scope.kind = .function)
    (hh : A.handled = none) (hdp : A.depth < 790) (hu : A.units < 7900) (hl : (hideAll h₀ (frs outer)).IsList l (refs rs).toArray) (hll : LLs (hideAll h₀ (frs outer)) rs ms) (hb : IntL (hideAll h₀ (frs outer)) rb mk) (hms : ms.length ≤ 100)
    (h : ∀ h' tk t fr', FrOk h₀ outer fr' → Fr (hideAll h₀ (frs outer)) L h' m → News (hideAll h₀ (frs outer)) L h' (stuff ++ fr') → Q (.int (hitsN ms mk ms.length) t) { s with heap := h', toks := tk }) :
    wpAny (model PG w) (A.deeper (envOf name scope L a cd)) (call (.ref 105) [.ref l, .ref rb]) Q E s := by
  have S' := (hfr.stk S N.right).push F hk (a := a) (name := name) (cd := cd)
  refine wpAny_call (hits_spec Gg F.keep ?_ S' hh ?_ ?_ (fr_list F hl) (hll.keeps F.keep) (hb.keeps F.keep) hms fun h' tk t k => ?_)
  · intro f hf
    rcases List.mem_cons.mp hf with rfl | hf
    · cases q : (hideAll h₀ (frs outer)).get? f with
      | none => rfl
      | some o => exact absurd (Nat.lt_of_lt_of_le (Heap.lt_size q) F.above) (Nat.lt_irrefl _)
    · exact hideAll_none _ hf
  · dsimp only [Around.deeper]; omega
  · dsimp only [Around.deeper]; omega
  · obtain ⟨fr', a1, a2, a3⟩ := hfr.after F N hs k hL fun b hb => S.old hb
    exact h h' tk t fr' a1 a2 a3
theorem refs_get {rs : List Addr} {i : Nat} {v : Value} (h : (refs rs)[i]? = some v) : ∃ r, rs[i]? = some r ∧ v = .ref r := by
  unfold refs at h
  rw [List.getElem?_map] at h
  cases q : rs[i]? with
  | none => rw [q] at h; cases h
  | some r => rw [q] at h; exact ⟨r, rfl, (Option.some.inj h).symm⟩
theorem lls_item {h : Heap} {rs : List Addr} {ms : List (List Int)} (x : LLs h rs ms) {i : Nat} {r : Addr} (hr : rs[i]? = some r) : i < ms.length ∧ IntL h r (ms.getD i []) := by
  have hlt : i < rs.length := (List.getElem?_eq_some_iff.mp hr).1
  have hlt' : i < ms.length := by rw [← x.1]; exact hlt
  refine ⟨hlt', x.2 i r _ hr ?_⟩
  rw [List.getD_eq_getElem?_getD, List.getElem?_eq_getElem hlt']
  rfl

theorem states_spec {w : World} {mg mb : Str → Option Value} {A : Around} {outer : List Env} {base : Heap} {s : Shared} {R : Result → Shared → Prop} {lw lt : Addr} {rw_ rt : List Addr} {ws ts : List (List Int)}
    (Gb : Gd w mg mb base) (hbs : base.StaysIn s.heap) (hbf : ∀ f ∈ frs outer, base.get? f = none) (S : Stk A outer s.heap) (hh : A.handled = none) (hdp : A.depth < 700) (hu : A.units < 7000)
    (hlw : s.heap.IsList lw (refs rw_).toArray) (hw : LLs s.heap rw_ ws) (hlt : s.heap.IsList lt (refs rt).toArray) (ht : LLs s.heap rt ts) (hwl : ws.length ≤ 50) (htl : ts.length ≤ 100)
    (h : ∀ h' tk D ds, Grows (frs outer) s.heap h' → s.heap.get? D = none → h'.IsList D (refs ds).toArray →
      (∀ j, 2 * j ≤ ts.length → ∃ d t u, ds[j]? = some d ∧ IsTup h' d #[.int (mst ws ts (2 * j)).1 t, .int (mst ws ts (2 * j)).2 u]) → R (.ok (.ret (.ref D))) { s with heap := h', toks := tk }) :
    codeAny (model PG w) A (.call (.ref 112) ⟨[.ref lw, .ref lt], []⟩) R s := by
  have kf : hd.heap_39 = hd.heap_39 ∧ PySem.Challenge.rw_pg0103_01 = PySem.Challenge.rw_pg0103_01 := by k_fill; exact ⟨rfl, rfl⟩
  clear kf
  obtain ⟨X₀, mean₀, T₀⟩ := Gb.keeps hbs
  have Gg : Gd w mg mb (hideAll s.heap (frs outer)) := Gb.keeps fun b o q => hideAll_get _ (hbs b o q) fun hm => by rw [hbf b hm] at q; cases q
  refine enterK (binds := [("word", .ref lw), ("text", .ref lt)]) X₀ T₀.nolimit (by k_is) (by k_is) (by unfold recursionLimit; omega) (BindsTo.of_eq rfl) (locs rfl) ?_ rfl rfl rfl (by decide)
  clear X₀ T₀
  obtain ⟨X, mean, T⟩ := Gg
  intro L' h₁ F₀
  obtain ⟨fr, hfr, F, N⟩ := frok_start S F₀
  have hLs := F₀.above
  have hrl : rw_.length = ws.length := hw.1
  have hrt : rt.length = ts.length := ht.1
  have glw := hide_list S hlw
  have glt := hide_list S hlt
  have gw := hide_lls S hw
  have gt := hide_lls S ht
  have hl1 := fr_list F glw
  clear F₀
  walk_at "mine"
  refine wpAny_For ?_
  walk_at "mine"
  rename_i Dt hxx hl0 l' hx0 hl1' hx Fx Nx
  have hp2 : (2 : Int) ^ ((refs rw_).length : Int).toNat = 2 ^ ws.length := by rw [refs_length, hrl]; rfl
  rw [hp2] at Nx
  try dsimp only
  refine' iter_list (env := envOf _ _ L' _ _) ?ohh glt ?ohx ?ohp ?oF ?oN (fun i m news => ∃ D ds c tups fr t1 t2 t3, m "word" = some (.ref lw) ∧ m "full" = some (.int (2 ^ ws.length - 1) t1) ∧ m "plus" = some (.int (mst ws ts i).1 t2) ∧ m "minus" = some (.int (mst ws ts i).2 t3) ∧ m "states" = some (.ref D) ∧
    news = (D, listOf (refs ds).toArray c) :: (tups ++ fr) ∧ PairIn tups ds (mst ws ts) (i + 1) ∧ (∀ p ∈ tups, p.1 ≠ D ∧ p.1 ∉ frs outer) ∧ D ∉ frs outer ∧ FrOk s.heap outer fr) ?oJ ?ostep ?odone ?oE
  case ohh => exact hh
  case ohx => rfl
  case ohp => rfl
  case oF => assumption
  case oN => assumption
  case oE => passes_own
  case oJ =>
    refine ⟨l', [Dt], 0, [(Dt, _)], fr, _, _, _, rfl, congrArg (fun z => some (Value.int (z - 1) _)) hp2, congrArg (fun z => some (Value.int (z - 1) _)) hp2, rfl, rfl, rfl, ⟨rfl, fun k d hk => ?_⟩, fun p hp => ?_, ?_, hfr⟩
    · match k, hk with
      | 0, hk =>
        cases hk
        exact ⟨_, _, _, List.Mem.head _⟩
    · rcases List.mem_cons.mp hp with rfl | hp
      · exact ⟨Nat.ne_of_lt hl1'.1, hfr.apart Nx (fun p hp => List.Mem.tail _ (List.Mem.tail _ hp)) (List.Mem.tail _ (List.Mem.head _)) rfl⟩
      · cases hp
    · exact hfr.apart Nx (fun p hp => List.Mem.tail _ (List.Mem.tail _ hp)) (List.Mem.head _) rfl
  case odone =>
    rintro h₅ tk₅ m₅ news₅ F₅ N₅ ⟨D, ds, c, tups, fr₁, t1, t2, t3, hm1, hm2, hm3, hm4, hm5, rfl, hP, hT, hD, hF⟩
    replace F₅ : Fr (hideAll s.heap (frs outer)) L' h₅ _ := F₅
    replace N₅ : News (hideAll s.heap (frs outer)) L' h₅ _ := N₅
    clear Fx Nx
    try dsimp only
    have hds : ds.length ≤ 1000 := by rw [hP.1, refs_length]; omega
    walk_at "mine"
    rename_i h₆ D₂ F₆ N₆ hn₆
    have hDn : D₂ ∉ frs outer := hF.apart N₆ (fun p hp => List.Mem.tail _ (List.Mem.tail _ (List.mem_append_right _ hp))) (List.Mem.head _) rfl
    have hD0 : s.heap.get? D₂ = none := by
      cases q : s.heap.get? D₂ with
      | none => rfl
      | some o =>
        have := (N₆ _ (List.Mem.head _)).2.2
        rw [hideAll_get _ q hDn] at this
        cases this
    refine h _ _ D₂ (evens ds) (hF.done F₆ (fun p hp => N₆ p (List.Mem.tail _ (List.Mem.tail _ (List.mem_append_right _ hp))))) hD0 ?_ ?_
    · have := News.isList N₆ (List.Mem.head _)
      have e : (evens (List.drop (Int.toNat 0) (refs ds))) = refs (evens ds) := evens_map _ ds
      rw [e] at this
      exact this
    · intro j hj
      have hlt : 2 * j < ds.length := by rw [hP.1, refs_length]; omega
      obtain ⟨t, u, n, hm⟩ := hP.2 (2 * j) ds[2 * j] (List.getElem?_eq_getElem hlt)
      refine ⟨ds[2 * j], t, u, ?_, News.isTup N₆ (List.Mem.tail _ (List.Mem.tail _ (List.mem_append_left _ hm)))⟩
      rw [evens_get, List.getElem?_eq_getElem hlt]
  case ostep =>
    rintro i v m₁ news₁ h₅ tk₅ I o hv ⟨D, ds, c, tups, fr₁, t1, t2, t3, hm1, hm2, hm3, hm4, hm5, rfl, hP, hT, hD, hF⟩ hoff F₅ N₅
    replace F₅ : Fr (hideAll s.heap (frs outer)) L' h₅ _ := F₅
    replace N₅ : News (hideAll s.heap (frs outer)) L' h₅ _ := N₅
    obtain ⟨rb, hrb, rfl⟩ := refs_get hv
    obtain ⟨hit, hIb⟩ := lls_item gt hrb
    clear Fx Nx
    have rH := hits_range ws (ts.getD i []) ws.length
    have rP := (mst_range ws ts i).1
    have rM := (mst_range ws ts i).2
    have rA := along_range rH rP
    have hb1 : (Builtin.bitOr (mst ws ts i).2 (Builtin.bitNot (Builtin.bitOr (Builtin.bitOr (Builtin.bitXor (Builtin.bitAnd (hitsN ws (ts.getD i []) ws.length) (mst ws ts i).1 + (mst ws ts i).1) (mst ws ts i).1) (hitsN ws (ts.getD i []) ws.length)) (mst ws ts i).1))).natAbs < 2 ^ 64 :=
      Wth.abs (k := ws.length + 1) (by omega) (rM.up.or (rA.or rP.up).not)
    have hb2 : (Builtin.bitAnd (mst ws ts i).1 (Builtin.bitOr (Builtin.bitXor (Builtin.bitAnd (hitsN ws (ts.getD i []) ws.length) (mst ws ts i).1 + (mst ws ts i).1) (mst ws ts i).1) (hitsN ws (ts.getD i []) ws.length))).natAbs < 2 ^ 64 :=
      Wth.abs (k := ws.length + 1) (by omega) (rP.up.and rA)
    refine hideQ fun QO upO => ?_
    try dsimp only
    walk_at "mine"
    refine' call_hits (stuff := (I, o) :: (D, listOf (refs ds).toArray c) :: tups) ⟨X, mean, T⟩ S F₅ N₅ hF ?hs hLs rfl hh ?hdp ?hu glw gw hIb ?hms ?_
    case hs =>
      intro p hp
      rcases List.mem_cons.mp hp with rfl | hp
      · intro hm
        obtain ⟨q, hq, e⟩ := hF.mem hm
        exact hoff q (List.Mem.tail _ (List.mem_append_right _ hq)) e
      rcases List.mem_cons.mp hp with rfl | hp
      · exact hD
      · exact (hT p hp).2
    case hdp => omega
    case hu => omega
    case hms => omega
    intro h₆ tk₆ t₆ fr₂ hF₂ F₆ N₆
    clear F₅ N₅
    try dsimp only
    walk_at "mine"
    rename_i T₆ h₇ F₇ N₇ l1
    have hds : ds.length ≤ 1000 := by rw [hP.1]; omega
    refine app_refs (p := (I, o)) (rest := tups ++ fr₂) F₇ N₇ ?_ ?_ ?_ hds ?_
    · exact Nat.ne_of_gt (l1 (D, listOf (refs ds).toArray c) (List.Mem.tail _ (List.Mem.head _)))
    · exact fun e => hoff (D, listOf (refs ds).toArray c) (List.Mem.head _) e.symm
    · intro r hr
      rcases List.mem_append.mp hr with hr | hr
      · exact (hT r hr).1
      · intro e
        exact hD (e ▸ hF₂.1 ▸ List.mem_map_of_mem hr)
    intro h₈ F₈ N₈
    try dsimp only
    walk_at "mine"
    have e2 : (2 : Int) ^ Int.toNat 1 = 2 := by decide
    rw [e2] at F₈ N₈
    try dsimp only
    have hTn : T₆ ∉ frs outer := by
      intro hm
      obtain ⟨q, hq, e⟩ := hF₂.mem hm
      exact absurd (l1 q (List.mem_append_right _ hq)) (e ▸ Nat.lt_irrefl _)
    refine upO _ _ ?_
    refine' TurnAt.intro (news₂ := (D, listOf (refs (ds ++ [T₆])).toArray (c + 1)) :: (((T₆, _) :: tups) ++ fr₂)) F₈ N₈ ?tA1 ?tJ1
    case tA1 =>
      intro p hp
      rw [List.mem_singleton]
      rcases List.mem_cons.mp hp with rfl | hp
      · exact hoff (D, listOf (refs ds).toArray c) (List.Mem.head _)
      rcases List.mem_append.mp hp with hp | hp
      · rcases List.mem_cons.mp hp with rfl | hp
        · exact Nat.ne_of_gt (l1 (I, o) (List.Mem.head _))
        · exact hoff p (List.Mem.tail _ (List.mem_append_left _ hp))
      · intro e
        have : p.1 ∈ frs outer := hF₂.1 ▸ List.mem_map_of_mem hp
        obtain ⟨q, hq, e'⟩ := hF.mem this
        exact hoff q (List.Mem.tail _ (List.mem_append_right _ hq)) (e'.trans e)
    case tJ1 =>
      refine ⟨D, ds ++ [T₆], c + 1, (T₆, _) :: tups, fr₂, t1, _, _, hm1, hm2, rfl, rfl, hm5, rfl, ⟨by rw [List.length_append, hP.1]; rfl, fun k d hk => ?_⟩, ?_, hD, hF₂⟩
      · by_cases g : k < ds.length
        · rw [List.getElem?_append_left g] at hk
          obtain ⟨t, u, n, hm⟩ := hP.2 k d hk
          exact ⟨t, u, n, List.Mem.tail _ hm⟩
        · rw [List.getElem?_append_right (by omega)] at hk
          have hk0 : k = ds.length := by
            have := (List.getElem?_eq_some_iff.mp hk).1
            simp only [List.length_singleton] at this
            omega
          subst hk0
          rw [Nat.sub_self] at hk
          cases hk
          rw [hP.1]
          exact ⟨_, _, _, List.Mem.head _⟩
      · intro p hp
        rcases List.mem_cons.mp hp with rfl | hp
        · exact ⟨Nat.ne_of_gt (l1 (D, listOf (refs ds).toArray c) (List.Mem.tail _ (List.Mem.head _))), hTn⟩
        · exact hT p hp

theorem call_states {w : World} {mg mb : Str → Option Value} {mean : ExcName → Option Value} {E : Value → Shared → Prop} {s : Shared} {h₀ : Heap} {L : Addr} {m : Str → Option Value} {news : List (Addr × Obj)} {Q : Value → Shared → Prop} {env : Env} {lw lt : Addr} {rw_ rt : List Addr} {ws ts : List (List Int)}
    (X : (hd.heap_39 w.params).In h₀) (T : Top hd.view_39 (looseW hd.view_39 []) mean mg mb h₀) (F : Fr h₀ L s.heap m) (N : News h₀ L s.heap news) (hk : env.scope.kind = .function) (hf : env.frame = some L)
    (hlw : s.heap.IsList lw (refs rw_).toArray) (hw : LLs s.heap rw_ ws) (hlt : s.heap.IsList lt (refs rt).toArray) (ht : LLs s.heap rt ts) (hwl : ws.length ≤ 50) (htl : ts.length ≤ 100)
    (h : ∀ h' tk D ds, Fr h₀ L h' m → News h₀ L h' news → h'.IsList D (refs ds).toArray →
      (∀ j, 2 * j ≤ ts.length → ∃ d t u, ds[j]? = some d ∧ IsTup h' d #[.int (mst ws ts (2 * j)).1 t, .int (mst ws ts (2 * j)).2 u]) → Q (.ref D) { s with heap := h', toks := tk }) :
    wpAny (model PG w) (callerA.deeper env) (call (.ref 112) [.ref lw, .ref lt]) Q E s := by
  have e : frs [env] = [L] := by simp [frs, hf]
  refine wpAny_call (states_spec (outer := [env]) (mg := mg) (mb := mb) (base := h₀) ⟨X, _, T⟩ F.keep ?_ (stk_law F hk hf) rfl (Nat.lt_of_lt_of_le (lawA_depth _) (by decide)) (Nat.lt_of_lt_of_le (lawA_units _) (by decide)) hlw hw hlt ht hwl htl ?_)
  · intro f hm
    rw [e, List.mem_singleton] at hm
    exact hm ▸ fr_new F
  · intro h' tk D ds gr _ hD hds
    rw [e] at gr
    exact h h' tk D ds (grows_fr F gr) (grows_news N gr) hD hds

section
variable {prog : Program} {w : World} {A : Around} {E : Value → Shared → Prop} {s : Shared} {h₀ : Heap} {L : Addr} {m : Str → Option Value} {news : List (Addr × Obj)} {Q : Value → Shared → Prop} {value slice : Expr} {l : Addr} {vs : List Value}
theorem r_slice_toZ {z : Int} {u : Tok} (F : Fr h₀ L s.heap m) (N : News h₀ L s.heap news) (hl : s.heap.IsList l vs.toArray) (hz : 0 ≤ z) (hsz : vs.length ≤ 1000)
    (h : ∀ h' D, Fr h₀ L h' m → News h₀ L h' ((D, listOf (vs.take z.toNat).toArray 0) :: news) → (∀ p ∈ news, p.1 ≠ D) → Q (.ref D) { s with heap := h' })
    (hs : subscripted slice false (.ref l) (.ref s.heap.objs.size) = operate [.ref s.heap.objs.size, .ref l] (getItem (.ref l) (.ref s.heap.objs.size)))
    (ht : ∀ r, letTemporaryGo value (.ref l) r = pure ()) :
    wpAny (model prog w) A (subscriptTail value slice (.ref l) (.ref s.heap.objs.size)) Q E { s with heap := s.heap.push { cls := .type "slice", data := .fields #[.none, .int z u, .none] } } := by
  have e : z = ((z.toNat : Nat) : Int) := by omega
  rw [e]
  exact r_slice_to F N hl hsz h hs ht
end
theorem call_lev {w : World} {mg mb : Str → Option Value} {mean : ExcName → Option Value} {A : Around} {E : Value → Shared → Prop} {s : Shared} {h₀ : Heap} {L : Addr} {m : Str → Option Value} {news : List (Addr × Obj)} {Q : Value → Shared → Prop} {a b : List Nat} {ta tb tc : Tok} {mx : Int}
    (X : (hd.heap_39 w.params).In h₀) (T : Top hd.view_39 (looseW hd.view_39 []) mean mg mb h₀) (F : Fr h₀ L s.heap m) (N : News h₀ L s.heap news) (hh : A.handled = none) (hdp : A.depth < 800) (la : a.length ≤ 40) (lb : b.length ≤ 40)
    (h : ∀ h' tk t v, Fr h₀ L h' m → News h₀ L h' news → LevOk a b mx v → Q (.int v t) { s with heap := h', toks := tk }) :
    wpAny (model PG w) A (call (.ref 91) [.str (st a) ta, .str (st b) tb, .int mx tc]) Q E s :=
  wpAny_call (lev_spec (mg := mg) (mb := mb) ⟨X.keeps F.keep, mean, T.keeps F.keep⟩ hh hdp la lb fun h' tk t v k c => h h' tk t v (F.after k) (N.grown k) c)
theorem news_tail {h₀ h : Heap} {L : Addr} {a : Addr × Obj} {b : List (Addr × Obj)} (N : News h₀ L h (a :: b)) : News h₀ L h b := fun p hp => N p (List.Mem.tail _ hp)

local macro_rules | `(tactic| walk_at "binaryOp Mult int int") => `(tactic| (k_dflt (refine' mul_small ?a ?b ?_; (case a => walk_at "om"); (case b => walk_at "om"))))
local macro_rules | `(tactic| walk_at "law") => `(tactic| repeat' (first | ((with_reducible show wpAny _ _ _ _ _ _); (fail_if_success (with_reducible show wpAny _ _ (eval (PySem.Expr.ListComp _ _ _ _) _) _ _ _)); (fail_if_success (with_reducible show wpAny _ _ (exec (PySem.Stmt.Assign _ (PySem.Expr.ListComp _ _ _ _) _) _) _ _ _)); (fail_if_success (with_reducible show wpAny _ _ (call (Value.builtin "str.join") _) _ _ _)); (fail_if_success (with_reducible show wpAny _ _ (call (Value.ref _) _) _ _ _)); (fail_if_success (with_reducible show wpAny _ _ (pyIter _) _ _ _)); (fail_if_success (with_reducible show wpAny _ _ (eval (PySem.Expr.Name (PySem.Str.ofString "plus") _) _) _ _ _)); (fail_if_success (with_reducible show wpAny _ _ (eval (PySem.Expr.Name (PySem.Str.ofString "minus") _) _) _ _ _)); (fail_if_success (with_reducible show wpAny _ _ (storeName _ (PySem.Str.ofString "plus") _) _ _ _)); (fail_if_success (with_reducible show wpAny _ _ (storeName _ (PySem.Str.ofString "minus") _) _ _ _)); (fail_if_success (with_reducible show wpAny _ _ (exec (PySem.Stmt.For _ _ _ _ _) _) _ _ _)); walk1) | ((with_reducible show ite _ _ _); walk1) | ((with_reducible show ∀ _, _); intro) | ((with_reducible show Frag.In _ _ ∧ _); refine ⟨Frag.In.keeps (by assumption) (Fr.keep (by assumption)), ?_⟩) | k_data))
local macro_rules | `(tactic| walk_at "subscriptTail Name Name ref int") => `(tactic| (k_dflt (refine' r_item_ref ?hl ?hz ?hj ?_ ?hs; (case hl => assumption); (case hz => walk_at "om"); (case hj => assumption); (case hs => with_unfolding_all rfl))))
local macro_rules | `(tactic| walk_at "unpackItems ref") => `(tactic| (k_dflt (refine' unpackItemsN_ ?k1 ?k2 ?k3 ?k4 ?k5 ?_; (case k1 => assumption); (case k2 => assumption); (case k3 => assumption); (case k4 => rfl); (case k5 => exact rfl)); intro _ _ _))
local macro_rules | `(tactic| walk_at "subscriptTail Name Slice ref ref") => `(tactic| (k_dflt (refine' r_slice_toZ ?F ?N ?hl ?z0 ?z ?_ ?hs ?ht; (case F => assumption); (case N => assumption); (case hl => walk_at "lst"); (case z0 => walk_at "om"); (case z => walk_at "lsz"); (case hs => with_unfolding_all rfl); (case ht => (intro _; with_unfolding_all rfl))); intro _ _ _ _ _))
local macro_rules | `(tactic| walk_at "call builtin:sum") => `(tactic| (k_dflt (refine' sumK ?k0 ?k1 ?k2 ?k3 ?k4 ?_; (case k0 => with_unfolding_all rfl); (case k1 => assumption); (case k2 => assumption); (case k3 => walk_at "lst"); (case k4 => assumption)); intro _ _ _ _ _))
local macro_rules | `(tactic| walk_at "call builtin:min") => `(tactic| (k_dflt (refine' t_min ?hh ?F ?N ?_; (case hh => with_unfolding_all rfl); (case F => assumption); (case N => assumption)); intro _ _ _ _ _))
theorem t_letter {prog : Program} {w : World} {A : Around} {E : Value → Shared → Prop} {s : Shared} {Q : Value → Shared → Prop} {value slice : Expr} {a : Int} {t u : Tok} (hf : 0 ≤ a ∧ a < 4) (h : Q (.str (st [lt a]) s.toks) { s with toks := s.toks + 1 })
    (hs : subscripted slice false (.str "aAbB" t) (.int a u) = operate [.str "aAbB" t, .int a u] (getItem (.str "aAbB" t) (.int a u)))
    (ht : ∀ r, letTemporaryGo value (.str "aAbB" t) r = pure ()) :
    wpAny (model prog w) A (subscriptTail value slice (.str "aAbB" t) (.int a u)) Q E s := by
  have e : (Str.ofString "aAbB") = st [97, 65, 98, 66] := by unfold st; rfl
  have ea : a = ((a.toNat : Nat) : Int) := by omega
  have hl : ([97, 65, 98, 66] : List Nat).length = 4 := rfl
  rw [e, ea] at hs ⊢
  rw [e] at ht
  refine item_str (fitsSsize_of (N := 9223372036854775808) (by omega) (by omega) (Int.le_refl _)) (by rw [st_length, hl]; omega) (by rw [st_length, hl]; omega) (fun _ => ?_) hs ht
  rw [item_at (by rw [hl]; omega)]
  exact h
theorem law_holds : PySem.Challenge.rw_pg0103_01.Holds := hd (by
  k_go0
  rename_i w s₀ s₁ mg mb G Y fa o pm doc ho hg X X' V GL T B TE TW _ _ BM _ _ hcd ns hs hlay0 hL1 hr1 hl2 _ _ sl vs _ hL ra w1 r0 hI hr hc1 hc2 K0 hD h₁ tk₁ F o1 o2 hd1 hd2 N0 X0
  clear hD hr r0 w1 ra hl2 hr1 hL1 hlay0 hs
  walk_at "law"
  refine' comp_list (fun a => .int (a.fmod 4)) (by assumption) ?hh ?hclos ?hcell ?hkind ?hnames ?hx ?_ ?hs
  case hh => with_unfolding_all rfl
  case hclos => with_unfolding_all rfl
  case hcell => decide
  case hkind => with_unfolding_all rfl
  case hnames => decide
  case hx => with_unfolding_all rfl
  case hs => intro _; with_unfolding_all rfl
  walk_at "law"
  rename_i D₁ ws₁ h₂ F₂ N₂ hI₂ hC₂ hL₂ l₂
  refine ⟨_, D₁, ws₁, ns.take 9, rfl, News.isList N₂ (List.Mem.head _), hI₂, by rw [hC₂]; omega, F₂, N₂, ?_, ?_⟩
  · intro C a t s₂ m₂ E' ha FC hn hm
    walk_at "law"
    exact ⟨.int _ _, _, _, rfl, fun _ _ e => e⟩
  intro D₂ ys₂ c₂ h₃ tk₃ F₃ N₃ off₃ hca₃
  have hI₃ := IntsAre.ofCarried (ns := (ns.take 9).map (fun a => a.fmod 4)) (by rw [List.map_map]; exact hca₃)
  clear F₂ N₂ hca₃
  try dsimp only
  walk_at "law"
  rename_i l₄ _ _ Dz _ _ _ _ _ _ _ _ Dd wsd _ hId _ h₄ F₄ N₄
  obtain ⟨ds, hds⟩ : ∃ ds, ds = List.map (fun a => a.fmod 4) (List.take 9 ns) ++ (List.replicate (7 - (ns.length : Int)).toNat [(0 : Int)]).flatten := ⟨_, rfl⟩
  have hdl : 7 ≤ ds.length ∧ ds.length ≤ 9 := by
    rw [hds]
    simp only [List.length_append, List.length_map, List.length_take, List.length_flatten, List.map_replicate, List.sum_replicate_nat, List.length_singleton]
    omega
  rw [← hds] at hId
  clear hds
  replace N₄ : News s₁.heap s₁.heap.objs.size h₄ [(Dd, listOf wsd.toArray 0), (s₁.heap.objs.size + 1 + 1, o1), (s₁.heap.objs.size + 1, o2)] := fun p hp => N₄ p (by
    simp only [List.mem_cons, List.not_mem_nil, or_false] at hp ⊢
    rcases hp with hp | hp | hp
    · exact .inl hp
    · exact .inr (.inr (.inr (.inr (.inr (.inl hp)))))
    · exact .inr (.inr (.inr (.inr (.inr (.inr hp))))))
  refine' compA_enum (fun k a => (a + ((k : Int) * ((k : Int) + 1)).fdiv 2).fmod 4) F₄ ?hLe ?hsw ?hh ?hclos ?hcell ?hkind ?hnames ?hxk ?hxv ?hxx ?hy ?hp ?_ ?hs
  case hLe => with_unfolding_all rfl
  case hsw => with_unfolding_all rfl
  case hh => with_unfolding_all rfl
  case hclos => with_unfolding_all rfl
  case hcell => decide
  case hkind => with_unfolding_all rfl
  case hnames => decide
  case hxk => with_unfolding_all rfl
  case hxv => with_unfolding_all rfl
  case hxx => decide
  case hy => with_unfolding_all rfl
  case hp => with_unfolding_all rfl
  case hs => intro _; with_unfolding_all rfl
  have hLd := News.isList N₄ (List.Mem.head _)
  walk_at "law"
  rename_i h₅ e₅ it₅ U₅ F₅ N₅
  refine ⟨_, e₅, it₅, Dd, wsd, ds, rfl, U₅, (U₅.off _ (List.Mem.head _)).1, (U₅.off _ (List.Mem.head _)).2, News.isList N₅ (List.Mem.head _), hId, by omega, F₅, N₅, ?_, ?_⟩
  · intro C i a t t' s₂ m₂ E' ha FC hn hm1 hm2
    have hi9 : i < 9 := Nat.lt_of_lt_of_le (List.getElem?_eq_some_iff.mp ha).1 hdl.2
    walk_at "law"
    exact ⟨⟨_, rfl⟩, _, _, rfl, fun _ _ e => e⟩
  intro Df wsf cf h₆ tk₆ F₆ N₆ off₆ hIf
  clear F₅ N₅ F₄ N₄ U₅
  obtain ⟨fs, hfs⟩ : ∃ fs, fs = ds.mapIdx (fun k a => (a + ((k : Int) * ((k : Int) + 1)).fdiv 2).fmod 4) := ⟨_, rfl⟩
  have hfl : 7 ≤ fs.length ∧ fs.length ≤ 9 := by rw [hfs, List.length_mapIdx]; exact hdl
  have hff : ∀ f ∈ fs, 0 ≤ f ∧ f < 4 := by
    intro f hf
    rw [hfs] at hf
    obtain ⟨k, hk, rfl⟩ := List.mem_mapIdx.mp hf
    rw [Int.fmod_eq_emod_of_nonneg _ (by decide)]
    omega
  rw [← hfs] at hIf
  clear hfs
  replace N₆ : News s₁.heap s₁.heap.objs.size h₆ [(Df, listOf wsf.toArray cf), (s₁.heap.objs.size + 1 + 1, o1), (s₁.heap.objs.size + 1, o2)] := fun p hp => N₆ p (by
    simp only [List.mem_cons, List.not_mem_nil, or_false] at hp ⊢
    rcases hp with hp | hp | hp
    · exact .inl hp
    · exact .inr (.inr (.inl hp))
    · exact .inr (.inr (.inr hp)))
  have hLf := News.isList N₆ (List.Mem.head _)
  have hwf : wsf.length = fs.length := hIf.length
  try dsimp only
  walk_at "law"
  refine' comp_list (fun a => .str (st [lt a])) F₆ ?hh ?hclos ?hcell ?hkind ?hnames ?hx ?_ ?hs
  case hh => with_unfolding_all rfl
  case hclos => with_unfolding_all rfl
  case hcell => decide
  case hkind => with_unfolding_all rfl
  case hnames => decide
  case hx => with_unfolding_all rfl
  case hs => intro _; with_unfolding_all rfl
  walk_at "law"
  rename_i h₇ D₇ F₇ N₇ off₇
  refine ⟨_, D₇, _, evens fs, rfl, News.isList N₇ (List.Mem.head _), ints_evens hIf, by rw [evens_length]; omega, F₇, N₇, ?_, ?_⟩
  · intro C a t s₂ m₂ E' ha FC hn hm
    have hfa := hff a (evens_mem _ ha)
    walk1
    walk1
    walk1
    any_goals k_data
    refine' t_letter hfa ?_ ?hs ?ht
    case hs => with_unfolding_all rfl
    case ht => intro _; with_unfolding_all rfl
    exact ⟨.str _ _, _, _, rfl, fun _ _ e => e⟩
  intro Dt wst ct h₈ tk₈ F₈ N₈ off₈ hcat
  clear F₇ N₇ F₆ N₆
  try dsimp only
  walk_at "law"
  refine r_join (News.isList N₈ (List.Mem.head _)) hcat (by rw [evens_length]; omega) ?_
  intro t₈ k₈
  try dsimp only
  walk_at "law"
  rename_i h₉ F₉ N₉

  replace N₉ : News s₁.heap s₁.heap.objs.size h₉ [(Df, listOf wsf.toArray cf), (s₁.heap.objs.size + 1 + 1, o1), (s₁.heap.objs.size + 1, o2)] := fun p hp => N₉ p (by
    simp only [List.mem_cons, List.not_mem_nil, or_false] at hp ⊢
    rcases hp with hp | hp | hp
    · exact .inr (.inr (.inl hp))
    · exact .inr (.inr (.inr (.inl hp)))
    · exact .inr (.inr (.inr (.inr hp))))
  have hLf₉ := News.isList N₉ (List.Mem.head _)
  refine' comp_list (fun a => .str (st [lt a])) F₉ ?hh ?hclos ?hcell ?hkind ?hnames ?hx ?_ ?hs
  case hh => with_unfolding_all rfl
  case hclos => with_unfolding_all rfl
  case hcell => decide
  case hkind => with_unfolding_all rfl
  case hnames => decide
  case hx => with_unfolding_all rfl
  case hs => intro _; with_unfolding_all rfl
  walk_at "law"
  rename_i h₁₀ D₁₀ F₁₀ N₁₀ off₁₀
  refine ⟨_, D₁₀, _, evens (fs.drop 1), rfl, News.isList N₁₀ (List.Mem.head _), ints_evens (hIf.drop 1), by rw [evens_length, List.length_drop]; omega, F₁₀, N₁₀, ?_, ?_⟩
  · intro C a t s₂ m₂ E' ha FC hn hm
    have hfa := hff a (List.mem_of_mem_drop (evens_mem _ ha))
    walk1
    walk1
    walk1
    any_goals k_data
    refine' t_letter hfa ?_ ?hs ?ht
    case hs => with_unfolding_all rfl
    case ht => intro _; with_unfolding_all rfl
    exact ⟨.str _ _, _, _, rfl, fun _ _ e => e⟩
  intro Dw wsw cw h₁₁ tk₁₁ F₁₁ N₁₁ off₁₁ hcaw
  clear F₁₀ N₁₀ F₉ N₉
  try dsimp only
  walk_at "law"
  refine r_join (News.isList N₁₁ (List.Mem.head _)) hcaw (by rw [evens_length, List.length_drop]; omega) ?_
  intro t₁₁ k₁₁
  try dsimp only
  walk_at "law"
  rename_i h₁₂ D₁₂ F₁₂ N₁₂ off₁₂
  refine call_marks (fs := evens (fs.drop 1)) X T F₁₂ N₁₂ (by with_unfolding_all rfl) (Nat.lt_of_lt_of_le (lawA_depth _) (by decide)) (Nat.lt_of_lt_of_le (lawA_units _) (by decide)) (News.isList N₁₂ (List.Mem.head _)) (ints_evens (hIf.drop 1)) (by rw [evens_length, List.length_drop]; omega) ?_
  intro h₁₃ tk₁₃ Dm rm F₁₃ N₁₃ st₁₃ new₁₃ hLm hLLm
  obtain ⟨ex, Nex, hex, keep⟩ := hold F₁₃ (Dm :: rm) (fun b hb => (List.mem_cons.mp hb).elim (fun e => e ▸ list_live hLm) (fun e => hLLm.live b e))
  have N₁₄ : News s₁.heap s₁.heap.objs.size h₁₃ ((Df, listOf wsf.toArray cf) :: (s₁.heap.objs.size + 1 + 1, o1) :: (s₁.heap.objs.size + 1, o2) :: ex) := by
    intro p hp
    rcases List.mem_cons.mp hp with rfl | hp
    · exact N₁₃ _ (List.Mem.tail _ (List.Mem.tail _ (List.Mem.tail _ (List.Mem.head _))))
    rcases List.mem_cons.mp hp with rfl | hp
    · exact N₁₃ _ (List.Mem.tail _ (List.Mem.tail _ (List.Mem.tail _ (List.Mem.tail _ (List.Mem.head _)))))
    rcases List.mem_cons.mp hp with rfl | hp
    · exact N₁₃ _ (List.Mem.tail _ (List.Mem.tail _ (List.Mem.tail _ (List.Mem.tail _ (List.Mem.tail _ (List.Mem.head _))))))
    exact Nex p hp
  clear Nex N₁₃ F₁₂ N₁₂
  have hLf₁₄ := News.isList N₁₄ (List.Mem.head _)
  walk_at "law"
  rename_i h₁₅ D₁₅ F₁₅ N₁₅ off₁₅
  refine call_marks (fs := evens fs) X T F₁₅ N₁₅ (by with_unfolding_all rfl) (Nat.lt_of_lt_of_le (lawA_depth _) (by decide)) (Nat.lt_of_lt_of_le (lawA_units _) (by decide)) (News.isList N₁₅ (List.Mem.head _)) (ints_evens hIf) (by rw [evens_length]; omega) ?_
  intro h₁₆ tk₁₆ Dn rn F₁₆ N₁₆ st₁₆ new₁₆ hLn hLLn
  have keep₁₆ := keep _ _ F₁₆ (news_sub N₁₆ fun p hp => List.Mem.tail _ (List.Mem.tail _ (List.Mem.tail _ (List.Mem.tail _ hp))))
  have hLm₁₆ := hLm.at fun o e => keep₁₆ Dm (List.Mem.head _) o e
  have hLLm₁₆ := hLLm.on fun b hb o e => keep₁₆ b (List.Mem.tail _ hb) o e
  replace N₁₆ : News s₁.heap s₁.heap.objs.size h₁₆ [(Df, listOf wsf.toArray cf), (s₁.heap.objs.size + 1 + 1, o1), (s₁.heap.objs.size + 1, o2)] := news_sub N₁₆ fun p hp => by
    simp only [List.mem_cons, List.not_mem_nil, or_false] at hp ⊢
    rcases hp with hp | hp | hp
    · exact .inr (.inl hp)
    · exact .inr (.inr (.inl hp))
    · exact .inr (.inr (.inr (.inl hp)))
  clear keep₁₆ keep hex F₁₅ N₁₅ hLf₁₄ N₁₄ F₁₃
  walk_at "law"
  refine call_states X T F₁₆ N₁₆ (by with_unfolding_all rfl) (by with_unfolding_all rfl) hLm₁₆ hLLm₁₆ hLn hLLn (by rw [marksOf_length, evens_length, List.length_drop]; omega) (by rw [marksOf_length, evens_length]; omega) ?_
  intro h₁₇ tk₁₇ D ds F₁₇ N₁₇ hLD hds
  clear F₁₆ N₁₆ hLm₁₆ hLLm₁₆ hLn hLLn
  obtain ⟨W, hW⟩ : ∃ W, W = evens (fs.drop 1) := ⟨_, rfl⟩
  obtain ⟨U, hU⟩ : ∃ U, U = evens fs := ⟨_, rfl⟩
  have hWl : 3 ≤ W.length ∧ W.length ≤ 4 := by rw [hW, evens_length, List.length_drop]; omega
  have hUl : 4 ≤ U.length ∧ U.length ≤ 5 := by rw [hU, evens_length]; omega
  have hWf : ∀ f ∈ W, 0 ≤ f ∧ f < 4 := fun f hf => hff f (List.mem_of_mem_drop (evens_mem _ (hW ▸ hf)))
  have hUf : ∀ f ∈ U, 0 ≤ f ∧ f < 4 := fun f hf => hff f (evens_mem _ (hU ▸ hf))
  have hdd : ∀ j, j ≤ U.length → ∃ d t u, ds[j]? = some d ∧ IsTup h₁₇ d #[.int (mst (marksOf W) (marksOf U) (2 * j)).1 t, .int (mst (marksOf W) (marksOf U) (2 * j)).2 u] := by
    intro j hj
    rw [hW, hU]
    exact hds j (by rw [marksOf_length, ← hU]; omega)
  clear hds
  obtain ⟨ex, Nex, hex, keep⟩ := hold F₁₇ (D :: ds.take (U.length + 1)) (fun b hb => (List.mem_cons.mp hb).elim (fun e => e ▸ list_live hLD) (fun e => pairs_live (f := fun j => mst (marksOf W) (marksOf U) (2 * j)) hdd b e))
  replace N₁₇ : News s₁.heap s₁.heap.objs.size h₁₇ ((Df, listOf wsf.toArray cf) :: (s₁.heap.objs.size + 1 + 1, o1) :: (s₁.heap.objs.size + 1, o2) :: ex) := N₁₇.append Nex
  clear Nex
  have hDf : Df ≠ s₁.heap.objs.size + 1 + 1 ∧ Df ≠ s₁.heap.objs.size + 1 :=
    ⟨cell_apart (N₁₇ (s₁.heap.objs.size + 1 + 1, o1) (List.Mem.tail _ (List.Mem.head _))).1 hd1 (N₁₇ _ (List.Mem.head _)).1 rfl, cell_apart (N₁₇ (s₁.heap.objs.size + 1, o2) (List.Mem.tail _ (List.Mem.tail _ (List.Mem.head _)))).1 hd2 (N₁₇ _ (List.Mem.head _)).1 rfl⟩
  have hexa : ∀ p ∈ ex, p.1 ≠ s₁.heap.objs.size + 1 + 1 ∧ p.1 ≠ s₁.heap.objs.size + 1 := by
    intro p hp
    obtain ⟨oo, hoo, its, nn, hdd'⟩ : ∃ o, h₁₇.get? p.1 = some o ∧ ∃ its n, o.data = .seq its n := (List.mem_cons.mp (hex p hp)).elim (fun e => e ▸ list_live hLD) (fun e => pairs_live (f := fun j => mst (marksOf W) (marksOf U) (2 * j)) hdd _ e)
    exact ⟨cell_apart (N₁₇ (s₁.heap.objs.size + 1 + 1, o1) (List.Mem.tail _ (List.Mem.head _))).1 hd1 hoo hdd', cell_apart (N₁₇ (s₁.heap.objs.size + 1, o2) (List.Mem.tail _ (List.Mem.tail _ (List.Mem.head _)))).1 hd2 hoo hdd'⟩
  clear hex
  try dsimp only
  walk_at "law"
  rename_i h₁₈ F₁₈ N₁₈
  have hUm : (List.map lt (evens fs)).length = U.length := by rw [hU, List.length_map]
  have hWm : (List.map lt (evens (fs.drop 1))).length = W.length := by rw [hW, List.length_map]
  refine wpAny_For ?_
  walk_at "law"
  have hR := ‹IsRange _ _ 0 _ 1 _ _ _›
  rw [hUm] at hR
  try dsimp only
  try dsimp only at hR
  replace hR : IsRange _ _ 0 ((U.length + 1 : Nat) : Int) 1 _ _ _ := hR
  refine' iter_range (env := envOfC _ _ s₁.heap.objs.size _ _) (n := U.length + 1) ?ohh ?ohr ?ohn ?ohx ?ohp ?oF ?oN (fun j m news => ∃ oc1 oc2 v1 v2 t1 t2, m "figures" = some (.ref Df) ∧ m "text" = some (.str (st (U.map lt)) t1) ∧ m "word" = some (.str (st (W.map lt)) t2) ∧ m "states" = some (.ref D) ∧
    news = (Df, listOf wsf.toArray cf) :: (s₁.heap.objs.size + 1 + 1, oc1) :: (s₁.heap.objs.size + 1, oc2) :: ex ∧ oc1.data = .cell v1 ∧ oc2.data = .cell v2) ?oJ ?ostep ?odone ?oE
  case ohh => with_unfolding_all rfl
  case ohr => exact hR
  case ohn => omega
  case ohx => with_unfolding_all rfl
  case ohp => with_unfolding_all rfl
  case oF => assumption
  case oN => assumption
  case oE => passes_own
  case oJ => 
    rw [hU, hW]
    exact ⟨o1, o2, _, _, _, _, rfl, rfl, rfl, rfl, rfl, hd1, hd2⟩
  case odone =>
    rintro h₅ tk₅ m₅ news₅ F₅ N₅ ⟨oc1, oc2, v1, v2, t1, t2, hm1, hm2, hm3, hm4, rfl, hc1, hc2⟩
    try dsimp only
    walk_at "law"
    try dsimp only
    exact goodW_bool F₅ hg (fun _ => by with_unfolding_all rfl) (by with_unfolding_all rfl)
  case ostep =>
    rintro j tj m₁ news₁ h₅ tk₅ I o hj ⟨oc1, oc2, v1, v2, t1, t2, hm1, hm2, hm3, hm4, rfl, hc1, hc2⟩ hoff F₅ N₅
    obtain ⟨d, td, tu, hdj, hdt⟩ := hdd j (by omega)
    have keep₅ := keep _ _ F₅ (news_sub N₅ fun p hp => List.Mem.tail _ (List.Mem.tail _ (List.Mem.tail _ (List.Mem.tail _ hp))))
    have hLD₅ : h₅.IsList D (refs ds).toArray := hLD.at fun o e => keep₅ D (List.Mem.head _) o e
    have hdt₅ : IsTup h₅ d _ := let ⟨o, ho, r⟩ := hdt; ⟨o, keep₅ d (List.Mem.tail _ (List.mem_of_getElem? (by rw [List.getElem?_take_of_lt hj]; exact hdj))) o ho, r⟩
    obtain ⟨P, hP⟩ : ∃ P, P = (mst (marksOf W) (marksOf U) (2 * j)).1 := ⟨_, rfl⟩
    obtain ⟨M, hM⟩ : ∃ M, M = (mst (marksOf W) (marksOf U) (2 * j)).2 := ⟨_, rfl⟩
    rw [← hP, ← hM] at hdt₅
    have hj5 : j ≤ 5 := by omega
    replace F₅ : Fr s₁.heap s₁.heap.objs.size h₅ _ := F₅
    replace N₅ : News s₁.heap s₁.heap.objs.size h₅ _ := N₅
    clear hdt keep₅
    refine hideQ fun QO upO => ?_
    try dsimp only
    walk_at "law"
    rename_i h₆ F₆ N₆
    refine stCN (own := [(I, o), (Df, listOf wsf.toArray cf), (s₁.heap.objs.size + 1 + 1, oc1)]) (rest := ex) F₆ N₆ (by with_unfolding_all rfl) hc2 ?_ (fun p hp => (hexa p hp).2) ?_ (by with_unfolding_all rfl) (by with_unfolding_all rfl)
    · intro p hp
      rcases List.mem_cons.mp hp with rfl | hp
      · exact fun e => hoff (s₁.heap.objs.size + 1, oc2) (List.Mem.tail _ (List.Mem.tail _ (List.Mem.head _))) e.symm
      rcases List.mem_cons.mp hp with rfl | hp
      · exact hDf.2
      rcases List.mem_cons.mp hp with rfl | hp
      · exact Nat.succ_ne_self _
      cases hp
    intro h₇ oc2' F₇ N₇ hc2'
    clear F₆ N₆ hc2 hLD₅ hdt₅
    try dsimp only
    walk_at "law"
    refine stCN (own := [(I, o), (Df, listOf wsf.toArray cf)]) (rest := (s₁.heap.objs.size + 1, oc2') :: ex) F₇ N₇ (by with_unfolding_all rfl) hc1 ?_ ?_ ?_ (by with_unfolding_all rfl) (by with_unfolding_all rfl)
    · intro p hp
      rcases List.mem_cons.mp hp with rfl | hp
      · exact fun e => hoff (s₁.heap.objs.size + 1 + 1, oc1) (List.Mem.tail _ (List.Mem.head _)) e.symm
      rcases List.mem_cons.mp hp with rfl | hp
      · exact hDf.1
      cases hp
    · intro p hp
      rcases List.mem_cons.mp hp with rfl | hp
      · exact (Nat.succ_ne_self _).symm
      exact (hexa p hp).1
    intro h₈ oc1' F₈ N₈ hc1'
    replace N₈ : News s₁.heap s₁.heap.objs.size h₈ ((I, o) :: (Df, listOf wsf.toArray cf) :: (s₁.heap.objs.size + 1 + 1, oc1') :: (s₁.heap.objs.size + 1, oc2') :: ex) := N₈
    clear F₇ N₇ hc1
    have hUl2 : (List.map lt U).length = U.length := List.length_map ..
    have hWl2 : (List.map lt W).length = W.length := List.length_map ..
    try dsimp only
    walk_at "law"
    refine' compA_range (fun i => Builtin.bitAnd (P.fdiv (2 ^ i)) 1) F₈ ?hsw ?hL ?hh ?hclos ?hcell ?hkind ?hnames ?hx ?hy ?hp ?_ ?hs
    case hsw => with_unfolding_all rfl
    case hL => with_unfolding_all rfl
    case hh => with_unfolding_all rfl
    case hclos => with_unfolding_all rfl
    case hcell => decide
    case hkind => with_unfolding_all rfl
    case hnames => decide
    case hx => with_unfolding_all rfl
    case hy => with_unfolding_all rfl
    case hp => with_unfolding_all rfl
    case hs => intro _; with_unfolding_all rfl
    walk_at "law"
    rename_i h₉ tk₉ r1 r2 r3 hR₉ F₉ N₉ up₉
    replace hR₉ : IsRange h₉ h₈.objs.size 0 ((2 * W.length : Nat) : Int) 1 r1 r2 r3 := by rw [hWl2] at hR₉; exact hR₉
    refine ⟨_, _, 2 * W.length, r1, r2, r3, rfl, hR₉, by omega, F₉, N₉, ?_, ?_⟩
    · intro C i t s₂ m₂ E' hi FC hn hm hk
      have NC : News s₁.heap C s₂.heap [(s₁.heap.objs.size + 1, oc2')] := by
        intro p hp
        obtain rfl := List.mem_singleton.mp hp
        have g := N₉ (s₁.heap.objs.size + 1, oc2') (List.Mem.tail _ (List.Mem.tail _ (List.Mem.tail _ (List.Mem.head _))))
        refine ⟨hk _ _ g.1, fun z => ?_, g.2.2⟩
        obtain ⟨oo, es, nn, hoo, hdo, _⟩ := FC.ns
        dsimp only at z
        rw [← z, hk _ _ g.1] at hoo
        cases hoo
        rw [hc2'] at hdo
        cases hdo
      clear F₉ N₉ F₈ N₈
      walk_at "law"
      refine name_cellC (by with_unfolding_all rfl) (by with_unfolding_all rfl) (by with_unfolding_all rfl) (NC _ (List.Mem.head _)).1 hc2' ?_ (by decide)
      try dsimp only
      walk_at "law"
      refine wpAny_call (rshift_spec (mg := mg) (mb := mb) ⟨X.keeps FC.keep, _, T.keeps FC.keep⟩ (Nat.lt_of_lt_of_le (lawA_depth _) (by decide)) (by omega) ?_)
      intro h₁₀ tk₁₀ t₁₀ k₁₀
      replace FC := FC.after k₁₀
      replace NC := NC.grown k₁₀
      try dsimp only
      walk_at "law"
      refine wpAny_call (and_spec (mg := mg) (mb := mb) ⟨X.keeps FC.keep, _, T.keeps FC.keep⟩ (Nat.lt_of_lt_of_le (lawA_depth _) (by decide)) ?_)
      intro h₁₁ tk₁₁ t₁₁ k₁₁
      exact ⟨⟨_, rfl⟩, _, _, rfl, fun _ _ e => k₁₁ _ _ (k₁₀ _ _ e)⟩
    intro R₁ ys₁ c₁ h₁₂ tk₁₂ F₁₂ N₁₂ off₁₂ hI₁
    clear F₉ N₉ F₈ N₈ up₉ hR₉
    try dsimp only
    walk_at "law"
    refine' compA_range (fun i => Builtin.bitAnd (M.fdiv (2 ^ i)) 1) F₁₂ ?hsw ?hL ?hh ?hclos ?hcell ?hkind ?hnames ?hx ?hy ?hp ?_ ?hs
    case hsw => with_unfolding_all rfl
    case hL => with_unfolding_all rfl
    case hh => with_unfolding_all rfl
    case hclos => with_unfolding_all rfl
    case hcell => decide
    case hkind => with_unfolding_all rfl
    case hnames => decide
    case hx => with_unfolding_all rfl
    case hy => with_unfolding_all rfl
    case hp => with_unfolding_all rfl
    case hs => intro _; with_unfolding_all rfl
    walk_at "law"
    rename_i h₉ tk₉ r1 r2 r3 hR₉ F₉ N₉ up₉
    replace hR₉ : IsRange h₉ h₁₂.objs.size 0 ((2 * W.length : Nat) : Int) 1 r1 r2 r3 := by rw [hWl2] at hR₉; exact hR₉
    refine ⟨_, _, 2 * W.length, r1, r2, r3, rfl, hR₉, by omega, F₉, N₉, ?_, ?_⟩
    · intro C i t s₂ m₂ E' hi FC hn hm hk
      have NC : News s₁.heap C s₂.heap [(s₁.heap.objs.size + 1 + 1, oc1')] := by
        intro p hp
        obtain rfl := List.mem_singleton.mp hp
        have g := N₉ (s₁.heap.objs.size + 1 + 1, oc1') (List.Mem.tail _ (List.Mem.tail _ (List.Mem.tail _ (List.Mem.head _))))
        refine ⟨hk _ _ g.1, fun z => ?_, g.2.2⟩
        obtain ⟨oo, es, nn, hoo, hdo, _⟩ := FC.ns
        dsimp only at z
        rw [← z, hk _ _ g.1] at hoo
        cases hoo
        rw [hc1'] at hdo
        cases hdo
      clear F₉ N₉ F₁₂ N₁₂
      walk_at "law"
      refine name_cellC (by with_unfolding_all rfl) (by with_unfolding_all rfl) (by with_unfolding_all rfl) (NC _ (List.Mem.head _)).1 hc1' ?_ (by decide)
      try dsimp only
      walk_at "law"
      refine wpAny_call (rshift_spec (mg := mg) (mb := mb) ⟨X.keeps FC.keep, _, T.keeps FC.keep⟩ (Nat.lt_of_lt_of_le (lawA_depth _) (by decide)) (by omega) ?_)
      intro h₁₀ tk₁₀ t₁₀ k₁₀
      replace FC := FC.after k₁₀
      replace NC := NC.grown k₁₀
      try dsimp only
      walk_at "law"
      refine wpAny_call (and_spec (mg := mg) (mb := mb) ⟨X.keeps FC.keep, _, T.keeps FC.keep⟩ (Nat.lt_of_lt_of_le (lawA_depth _) (by decide)) ?_)
      intro h₁₁ tk₁₁ t₁₁ k₁₁
      exact ⟨⟨_, rfl⟩, _, _, rfl, fun _ _ e => k₁₁ _ _ (k₁₀ _ _ e)⟩
    intro R₂ ys₂ c₂ h₁₃ tk₁₃ F₁₃ N₁₃ off₁₃ hI₂
    clear F₉ N₉ F₁₂ N₁₂ up₉ hR₉
    try dsimp only
    walk_at "law"
    refine wpAny_For ?_
    walk_at "law"
    rename_i h₁₄ tk₁₄ ra rb rc hR₂ F₁₄ N₁₄ up₁₄
    replace hR₂ : IsRange h₁₄ h₁₃.objs.size 0 ((W.length + 1 : Nat) : Int) 1 ra rb rc := by rw [hWl2] at hR₂; exact hR₂
    clear F₁₃ N₁₃ up₁₄
    try dsimp only
    refine' iter_range (env := envOfC _ _ s₁.heap.objs.size _ _) (n := W.length + 1) ?ihh ?ihr ?ihn ?ihx ?ihp ?iF ?iN (fun i m news => m "figures" = some (.ref Df) ∧ m "text" = some (.str (st (U.map lt)) t1) ∧ m "word" = some (.str (st (W.map lt)) t2) ∧ m "states" = some (.ref D) ∧ m "rises" = some (.ref R₁) ∧ m "falls" = some (.ref R₂) ∧ m "j" = some (.int (j : Int) tj) ∧
      news = (R₂, listOf ys₂.toArray c₂) :: (R₁, listOf ys₁.toArray c₁) :: (I, o) :: (Df, listOf wsf.toArray cf) :: (s₁.heap.objs.size + 1 + 1, oc1') :: (s₁.heap.objs.size + 1, oc2') :: ex) ?iJ ?istep ?idone ?iE
    case ihh => with_unfolding_all rfl
    case ihr => exact hR₂
    case ihn => omega
    case ihx => with_unfolding_all rfl
    case ihp => with_unfolding_all rfl
    case iF => assumption
    case iN => assumption
    case iE => passes_own
    case iJ => exact ⟨hm1, hm2, hm3, hm4, rfl, rfl, rfl, rfl⟩
    case idone =>
      clear F₁₄ N₁₄
      rintro h₁₅ tk₁₅ m₅ news₅ F₁₅ N₁₅ ⟨e1, e2, e3, e4, e5, e6, e7, rfl⟩
      replace F₁₅ : Fr s₁.heap s₁.heap.objs.size h₁₅ _ := F₁₅
      replace N₁₅ : News s₁.heap s₁.heap.objs.size h₁₅ ([(I, o)] ++ (Df, listOf wsf.toArray cf) :: (s₁.heap.objs.size + 1 + 1, oc1') :: (s₁.heap.objs.size + 1, oc2') :: ex) := news_sub N₁₅ fun p hp => List.Mem.tail _ (List.Mem.tail _ hp)
      try dsimp only
      walk_at "law"
      refine upO _ _ ?_
      refine' TurnAt.intro F₁₅ N₁₅ ?tA ?tJ
      case tA =>
        intro p hp
        rw [List.mem_singleton]
        rcases List.mem_cons.mp hp with rfl | hp
        · exact hoff (Df, listOf wsf.toArray cf) (List.Mem.head _)
        rcases List.mem_cons.mp hp with rfl | hp
        · exact hoff (s₁.heap.objs.size + 1 + 1, oc1) (List.Mem.tail _ (List.Mem.head _))
        rcases List.mem_cons.mp hp with rfl | hp
        · exact hoff (s₁.heap.objs.size + 1, oc2) (List.Mem.tail _ (List.Mem.tail _ (List.Mem.head _)))
        · exact hoff p (List.Mem.tail _ (List.Mem.tail _ (List.Mem.tail _ hp)))
      case tJ => exact ⟨oc1', oc2', _, _, t1, t2, e1, e2, e3, e4, rfl, hc1', hc2'⟩
    case istep =>
      clear F₁₄ N₁₄ hm1 hm2 hm3 hm4
      rintro i ti m₆ news₆ h₁₅ tk₁₅ I2 o2 hi ⟨e1, e2, e3, e4, e5, e6, e7, rfl⟩ hoff2 F₁₅ N₁₅
      replace F₁₅ : Fr s₁.heap s₁.heap.objs.size h₁₅ _ := F₁₅
      replace N₁₅ : News s₁.heap s₁.heap.objs.size h₁₅ _ := N₁₅
      have hi4 : i ≤ 4 := by omega
      have hz1 : ys₁.length ≤ 1000 := by rw [hI₁.length, List.length_map, List.length_range]; omega
      have hz2 : ys₂.length ≤ 1000 := by rw [hI₂.length, List.length_map, List.length_range]; omega
      refine hideQ fun QI upI => ?_
      try dsimp only
      walk_at "law"
      rename_i hS DS FS NS offS
      refine' call_count X T ?cF ?cN ?cH ?cD ?cL ?cI ?_
      case cF => exact FS
      case cN => exact NS
      case cH => with_unfolding_all rfl
      case cD => exact Nat.lt_of_lt_of_le (lawA_depth _) (by decide)
      case cL => exact News.isList NS (List.Mem.head _)
      case cI => exact hI₁.take _
      intro h₁₆ tk₁₆ t₁₆ F₁₆ N₁₆
      replace N₁₆ := news_tail N₁₆
      clear F₁₅ N₁₅ FS NS offS
      try dsimp only
      walk_at "law"
      rename_i hS DS FS NS offS
      refine' call_count X T ?cF ?cN ?cH ?cD ?cL ?cI ?_
      case cF => exact FS
      case cN => exact NS
      case cH => with_unfolding_all rfl
      case cD => exact Nat.lt_of_lt_of_le (lawA_depth _) (by decide)
      case cL => exact News.isList NS (List.Mem.head _)
      case cI => exact hI₂.take _
      intro h₁₇ tk₁₇ t₁₇ F₁₇ N₁₇
      replace N₁₇ := news_tail N₁₇
      clear F₁₆ N₁₆ FS NS offS
      have hdue := due_count hWf hUf (i := i) (j := j) (by omega) (by omega) hP hM
      have e2i : (2 * (i : Int)).toNat = 2 * i := by omega
      try dsimp only
      rw [e2i]
      generalize (((((List.range (2 * W.length)).map fun i => Builtin.bitAnd (P.fdiv (2 ^ i)) 1).take (2 * i)).filter fun n => decide (n = 1)).length : Int) = k1 at hdue ⊢
      generalize (((((List.range (2 * W.length)).map fun i => Builtin.bitAnd (M.fdiv (2 ^ i)) 1).take (2 * i)).filter fun n => decide (n = 1)).length : Int) = k2 at hdue ⊢
      walk_at "law"
      refine' call_lev X T ?lF ?lN ?lH ?lD ?la ?lb ?_
      case lF => assumption
      case lN => assumption
      case lH => with_unfolding_all rfl
      case lD => exact Nat.lt_of_lt_of_le (lawA_depth _) (by decide)
      case la => rw [List.length_take]; omega
      case lb => rw [List.length_take]; omega
      intro h₁₉ tk₁₉ t₁₉ v F₁₉ N₁₉ hv
      have hmin := hv.min
      try dsimp only
      walk_at "law"
      · rw [← hdue] at hmin
        exact absurd hmin ‹¬ _›
      · clear hmin hv hdue
        refine upI _ _ ?_
        walk_at "turn"
        · intro p hp
          rw [List.mem_singleton]
          exact hoff2 p hp
        · exact ⟨e1, e2, e3, e4, e5, e6, e7, rfl⟩)

end Mine

theorem PySem.Challenge.cw_pg0103_01_holds : PySem.Challenge.rw_pg0103_01.Holds := by
  exact Mine.law_holds
