import PyProof.Rows.All
import Wide.All
import OpenK.AllK
import Wide.FinOn
import Lean
import PySem.Challenge.RW_sc0075_01
open PySem PySem.W PyProof.Rows
set_option Elab.async false
set_option maxRecDepth 100000
set_option maxHeartbeats 8000000
set_option linter.all false
set_option linter.unusedSimpArgs false
set_option linter.unusedVariables false
namespace Mine
section
open PySem PySem.W PyProof.Rows PySem.Calls PySem.Spec
def sx (A : List Nat) : Str := ⟨A.toArray⟩
theorem sx_len (A : List Nat) : (sx A).length = A.length := by show A.toArray.size = _; simp
theorem sx_inj {A B : List Nat} : sx A = sx B ↔ A = B := by
  constructor
  · intro h
    have := congrArg Str.cps h
    have := congrArg Array.toList this
    simpa [sx] using this
  · intro h; rw [h]
theorem sx_of (x : Str) : x = sx x.cps.toList := by cases x; simp [sx]
theorem sx_beq {A B : List Nat} : (sx A == sx B) = decide (A = B) := by
  by_cases h : A = B
  · subst h; simp
  · have : ¬ sx A = sx B := fun e => h (sx_inj.mp e)
    simp [h, this]
theorem slice_drop {A : List Nat} {p : Nat} (h : p ≤ A.length) : Txt.slice (sx A) (some (p : Int)) none = sx (A.drop p) := by
  rw [slice_from_eq (b := (A.length : Int)) (by omega) (by rw [sx_len]; omega) (by rw [sx_len])]
  show sx _ = sx _
  rw [sx_inj]
  have : ((A.length : Int) - (p : Int)).toNat = A.length - p := by omega
  rw [this]
  show ((sx A).cps.toList.drop (p : Int).toNat).take _ = _
  have e : (sx A).cps.toList = A := by simp [sx]
  rw [e, Int.toNat_natCast]
  exact List.take_of_length_le (by rw [List.length_drop]; omega)
theorem slice_nn (x : Str) : Txt.slice x none none = x := by
  unfold Txt.slice
  rw [if_pos]
  simp [Builtin.Str.strSliceIndices, sliceRange]
  split <;> omega
theorem indices_neg {n k : Nat} (hk : 0 < k) (h : k ≤ n) : Builtin.Str.strSliceIndices none (some (-(k : Int))) 1 n = Builtin.Str.strSliceIndices none (some ((n - k : Nat) : Int)) 1 n := by
  have h0 : (-(k : Int)) < 0 := by omega
  have h1 : ¬ (((n - k : Nat) : Int) < 0) := by omega
  have h2 : (1 : Int) > 0 := by decide
  have e1 : max (-(k : Int) + n) 0 = ((n - k : Nat) : Int) := by omega
  have e2 : min ((n - k : Nat) : Int) n = ((n - k : Nat) : Int) := by omega
  simp only [Builtin.Str.strSliceIndices, h0, h1, h2, if_true, if_false]
  first | rw [e1, e2] | (congr 1 <;> omega) | simp [e1, e2]
theorem slice_take {A : List Nat} {k : Nat} (hk : 0 < k) (h : k ≤ A.length) : Txt.slice (sx A) none (some (-(k : Int))) = sx (A.take (A.length - k)) := by
  have e : Txt.slice (sx A) none (some (-(k : Int))) = Txt.slice (sx A) none (some ((A.length - k : Nat) : Int)) := by
    unfold Txt.slice
    rw [sx_len, indices_neg hk h]
  rw [e]
  have := beq_iff_eq.mp (slice_closes_toL (x := sx A) (j := ((A.length - k : Nat) : Int)) (by omega) (by rw [sx_len]; omega))
  rw [this]
  show sx _ = sx _
  rw [sx_inj]
  have e : (sx A).cps.toList = A := by simp [sx]
  rw [e]
  simp
theorem item_pos {A : List Nat} {p : Nat} (h : p < A.length) : Txt.item (sx A) (p : Int) = sx [A[p]] := by
  rw [item_at (n := p) (by omega) (by rw [sx_len]; omega) (by omega)]
  show sx [_] = sx [_]
  rw [sx_inj]
  simp [sx, h]
theorem item_neg {A : List Nat} {k : Nat} {i : Int} (h : k < A.length) (hi : i = -(k : Int) - 1) : Txt.item (sx A) i = sx [A[A.length - k - 1]] := by
  subst hi
  have := beq_iff_eq.mp (item_closes_neg (x := sx A) (i := -(k : Int) - 1) (j := ((A.length - k - 1 : Nat) : Int)) (by omega) (by rw [sx_len]; omega) (by rw [sx_len]; omega))
  rw [this]
  show sx [_] = sx [_]
  rw [sx_inj]
  have hlt : A.length - k - 1 < A.length := by omega
  simp [sx, hlt]

def cp : List Nat → List Nat → Nat
  | a :: as, b :: bs => if a = b then cp as bs + 1 else 0
  | _, _ => 0
theorem cp_nil_l (B : List Nat) : cp [] B = 0 := by unfold cp; rfl
theorem cp_nil_r (A : List Nat) : cp A [] = 0 := by cases A <;> (unfold cp; rfl)
theorem cp_drop_eq {A B : List Nat} {q : Nat} (ha : q < A.length) (hb : q < B.length) (e : A[q] = B[q]) : cp (A.drop q) (B.drop q) = cp (A.drop (q + 1)) (B.drop (q + 1)) + 1 := by
  rw [List.drop_eq_getElem_cons ha, List.drop_eq_getElem_cons hb]
  simp [cp, e]
theorem cp_drop_ne {A B : List Nat} {q : Nat} (ha : q < A.length) (hb : q < B.length) (e : A[q] ≠ B[q]) : cp (A.drop q) (B.drop q) = 0 := by
  rw [List.drop_eq_getElem_cons ha, List.drop_eq_getElem_cons hb]
  simp [cp, e]
theorem cp_drop_end {A B : List Nat} {q : Nat} (h : A.length ≤ q ∨ B.length ≤ q) : cp (A.drop q) (B.drop q) = 0 := by
  rcases h with h | h
  · rw [List.drop_of_length_le h, cp_nil_l]
  · rw [List.drop_of_length_le h, cp_nil_r]
theorem cp_le_l : ∀ (A B : List Nat), cp A B ≤ A.length
  | [], B => by rw [cp_nil_l]; exact Nat.zero_le _
  | a :: as, [] => by rw [cp_nil_r]; exact Nat.zero_le _
  | a :: as, b :: bs => by
    unfold cp
    split
    · have := cp_le_l as bs; simp; omega
    · exact Nat.zero_le _
theorem cp_le_r : ∀ (A B : List Nat), cp A B ≤ B.length
  | [], B => by rw [cp_nil_l]; exact Nat.zero_le _
  | a :: as, [] => by rw [cp_nil_r]; exact Nat.zero_le _
  | a :: as, b :: bs => by
    unfold cp
    split
    · have := cp_le_r as bs; simp; omega
    · exact Nat.zero_le _
theorem rev_get {A : List Nat} {k : Nat} (h : k < A.length) : A.reverse[k]'(by simpa using h) = A[A.length - k - 1] := by
  rw [List.getElem_reverse]
  congr 1
  omega

def sigma : List Nat := [97, 98, 99, 112, 113, 114, 115, 46, 13, 10]
theorem lower_sigma : ∀ a ∈ sigma, ∀ b ∈ sigma, (Txt.lower (sx [a]) == Txt.lower (sx [b])) = (a == b) := by decide +kernel
def subc (a b : Nat) : Int := if a = b then 0 else 2
def inner (b : Nat) : List Nat → List Int → Int → Int → Int → List Int × Int × Int
  | a :: as, r :: rs, d, res, mn =>
    let res' := min (min res r + 2) (d + subc b a)
    let t := inner b as rs r res' (if res' < mn then res' else mn)
    (res' :: t.1, t.2)
  | _, _, _, res, mn => ([], res, mn)
def outer (S : List Nat) (c : Int) : List Nat → Int → List Int → Int → Int
  | [], _, _, res => res
  | b :: bs, i, row, _ =>
    let t := inner b S row (2 * i) (2 * i) 9223372036854775807
    if t.2.2 > c then c + 1 else outer S c bs (i + 1) t.1 t.2.1
def row0 (n : Nat) : List Int := (List.range n).map fun (j : Nat) => (2 : Int) + (j : Int) * 2
def core2 (S G : List Nat) (c : Int) : Int :=
  if (((G.length : Int) - S.length) * 2 > c) then c + 1 else outer S c G 0 (row0 S.length) 0
def core (A B : List Nat) (c : Int) : Int :=
  if A = [] ∨ B = [] then 2 * ((A.length : Int) + B.length)
  else if B.length < A.length then core2 B A c else core2 A B c
def cut1 (A B : List Nat) : List Nat := A.drop (cp A B)
def cut2 (A B : List Nat) : List Nat := A.take (A.length - cp A.reverse B.reverse)
def lev (A B : List Nat) (c : Int) : Int :=
  if A = B then 0
  else core (cut2 (A.drop (cp A B)) (B.drop (cp A B))) (cut2 (B.drop (cp A B)) (A.drop (cp A B))) c
theorem cp_comm : ∀ (A B : List Nat), cp A B = cp B A
  | [], B => by rw [cp_nil_l, cp_nil_r]
  | a :: as, [] => by rw [cp_nil_l, cp_nil_r]
  | a :: as, b :: bs => by
    unfold cp
    by_cases h : a = b
    · subst h; simp [cp_comm as bs]
    · have : ¬ b = a := fun e => h e.symm
      simp [h, this]
theorem row_get {pre row : List Int} {j : Nat} (hj : j < row.length) (hp : pre.length = j) : (pre ++ row.drop j).getD (j : Int).toNat 0 = row[j] := by
  rw [Int.toNat_natCast, List.getD_eq_getElem?_getD, List.getElem?_append_right (by omega), hp, Nat.sub_self, List.drop_eq_getElem_cons hj]; rfl
theorem row_set {pre row : List Int} {j : Nat} {rn : Int} (hj : j < row.length) (hp : pre.length = j) : (pre ++ row.drop j).set (j : Int).toNat rn = (pre ++ [rn]) ++ row.drop (j + 1) := by
  rw [Int.toNat_natCast, List.set_append_right _ _ (by omega), hp, Nat.sub_self, List.drop_eq_getElem_cons hj, List.set_cons_zero, List.append_assoc]; rfl
theorem min_if (a b : Int) : (if b < a then b else a) = min a b := by rw [Int.min_def]; split <;> split <;> omega
end

section
open PySem PySem.W PyProof.Rows PySem.Calls PySem.Spec
theorem strs_paired {G : Value → Value → Prop} (f : Nat → Str) (hG : ∀ v y, G v y → ∃ c u t, v = .str (sx [c]) u ∧ y = .str (f c) t) : ∀ (cs : List Nat) (vs ys : List Value), vs.length = cs.length →
    (∀ (j : Nat) (v : Value), vs[j]? = some v → ∃ c u, cs[j]? = some c ∧ v = .str (sx [c]) u) → Paired G vs ys → StrsAre ys (cs.map f)
  | [], [], ys, _, _, h => by cases h; exact .nil
  | [], v :: vs, ys, hl, _, h => by simp at hl
  | c :: cs, [], ys, hl, _, h => by simp at hl
  | c :: cs, v :: vs, ys, hl, hv, h => by
    cases h with
    | cons hF ht =>
      obtain ⟨c', u', hc', rfl⟩ := hv 0 v rfl
      have hc' : c = c' := by simpa using hc'
      subst hc'
      obtain ⟨c2, u2, t2, e, rfl⟩ := hG _ _ hF
      have e3 : sx [c] = sx [c2] := by injection e
      have e3 : c = c2 := by have := sx_inj.mp e3; simpa using this
      subst e3
      exact .cons _ _ (strs_paired f hG cs vs _ (by simpa using hl) (fun j w hw => by have := hv (j + 1) w (by simpa using hw); simpa using this) ht)
theorem filter_tt (vs : List Value) : vs.filter (fun _ => true) = vs := List.filter_eq_self.mpr fun _ _ => rfl
end

open_top hd for PySem.Challenge.rw_sc0075_01
section
open PySem PySem.W PyProof.Rows PySem.Calls PySem.Spec
/-- a call that finds what it needs above and touches nothing that stands -/
theorem enter {prog : Program} {w : World} {A : Around} {s : Shared} {K : Frag} {p : Program} {loose : List Str} {mean : ExcName → Option Value} {mg mb : Str → Option Value}
    {R : Result → Shared → Prop} {name qual : Str} {params : Arguments} {body : List Stmt} {scope : Scope} {dV kV doc pm cdv ct oc : Value} {an od : Option Addr} {osl : Array (Option Value)} {f : Addr} {args : Args} {binds : List (Str × Value)}
    (X : K.In s.heap) (T : Top p loose mean mg mb s.heap) (hroom : A.depth < recursionLimit)
    (ho : K.lookup f = some ⟨oc, od, .func (fnOf name qual params body scope dV kV doc pm an cdv ct), osl⟩) (hcd : codeIn K cdv qual = true)
    (hbind : BindsTo s (fnOf name qual params body scope dV kV doc pm an cdv ct) args binds) (hloc : ∀ y ∈ binds, scope.names.lookup y.1 = some .local)
    (hcell : ∀ x ∈ scope.names, x.2 ≠ .cell)
    (hco : scope.isCoroutine = false) (hgen : scope.isGenerator = false) (hk : scope.kind = .function)
    (h : ∀ L h₁ tk, Fr s.heap L h₁ (fun y => binds.reverse.lookup y) → News s.heap L h₁ [] →
      wpAny (model prog w) (A.deeper (envOf qual scope L f cdv)) (execs body (envOf qual scope L f cdv))
        (fun fl s' => R (.ok (.ret (match fl with | .ret v => v | _ => .none))) s')
        (fun e s' => wpAny (model prog w) (A.deeper (envOf qual scope L f cdv)) (leaving (envOf qual scope L f cdv) e) (fun _ s'' => R (.error e) s'') (fun e' s'' => R (.error e') s'') s')
        { s with heap := h₁, toks := tk }) : codeAny (model prog w) A (.call (.ref f) args) R s := by
  refine codeAny_call_def (fd := fnOf name qual params body scope dV kV doc pm an cdv ct) (body := body) (binds := binds) hroom (X _ _ ho) rfl T.nolimit (codeRec_of X hcd) rfl hbind hcell hloc (fun h₁ hns hk₁ => ?_) hco hgen hk
  exact h _ h₁ _ ⟨hns, hk₁, Nat.le_refl _⟩ News.nil

structure Room (A : Around) (n : Nat) : Prop where
  handled : A.handled = none
  depth : A.depth + n < recursionLimit
  units : A.units + 8 * n < cLine
theorem Room.open {A : Around} {n : Nat} (h : Room A n) : ∃ dp fr gd un, A = ⟨none, dp, fr, gd, un⟩ ∧ dp + n < recursionLimit ∧ un + 8 * n < cLine := by
  obtain ⟨hd, dp, fr, gd, un⟩ := A
  have e : hd = none := h.handled
  subst e
  exact ⟨_, _, _, _, rfl, h.depth, h.units⟩

def Made (h h' : Heap) (tl : List (Addr × Obj)) : Prop := ∀ p ∈ tl, h'.get? p.1 = some p.2 ∧ h.get? p.1 = none
theorem Made.nil {h h' : Heap} : Made h h' [] := fun _ hp => nomatch hp
theorem made {h h' : Heap} {L : Addr} {news : List (Addr × Obj)} (N : News h L h' news) : Made h h' news := fun p hp => ⟨(N p hp).1, (N p hp).2.2⟩
/-- the contract of a def: args in, a value out, what stood stands; what was made is told -/
def Does (prog : Program) (w : World) (K : Frag) (p : Program) (loose : List Str) (mean : ExcName → Option Value) (mg mb : Str → Option Value)
    (n : Nat) (f : Addr) (args : List Value) (pre : Heap → Prop) (post : List (Addr × Obj) → Value → Prop) : Prop :=
  ∀ (A : Around) (s : Shared) (Q E : Value → Shared → Prop), Room A n → K.In s.heap → Top p loose mean mg mb s.heap → pre s.heap →
    (∀ v h' tk tl, (∀ b o, s.heap.get? b = some o → h'.get? b = some o) → Made s.heap h' tl → post tl v → Q v { s with heap := h', toks := tk }) →
    wpAny (model prog w) A (call (.ref f) args) Q E s
theorem fr_after {h₀ h h' : Heap} {L : Addr} {m : Str → Option Value} (F : Fr h₀ L h m) (k : ∀ b o, h.get? b = some o → h'.get? b = some o) : Fr h₀ L h' m :=
  ⟨F.ns.keeps k, fun b o e => k b o (F.keep b o e), F.above⟩
theorem news_after {h₀ h h' : Heap} {L : Addr} {m : Str → Option Value} {news tl : List (Addr × Obj)} (F : Fr h₀ L h m) (N : News h₀ L h news) (k : ∀ b o, h.get? b = some o → h'.get? b = some o)
    (M : Made h h' tl) : News h₀ L h' (tl ++ news) := by
  intro q hq
  rcases List.mem_append.mp hq with hq | hq
  · refine ⟨(M q hq).1, fun e => ?_, ?_⟩
    · obtain ⟨oL, _, _, hL, _⟩ := F.ns
      have := (M q hq).2
      rw [e, hL] at this; cases this
    · cases e : h₀.get? q.1 with
      | none => rfl
      | some o => have := (M q hq).2; rw [F.keep _ _ e] at this; cases this
  · exact ⟨k _ _ (N q hq).1, (N q hq).2⟩
theorem Does.use {prog : Program} {w : World} {K : Frag} {p : Program} {loose : List Str} {mean : ExcName → Option Value} {mg mb : Str → Option Value} {n : Nat} {f : Addr} {args : List Value} {pre : Heap → Prop}
    {post : List (Addr × Obj) → Value → Prop} (D : Does prog w K p loose mean mg mb n f args pre post) {A : Around} {s : Shared} {Q E : Value → Shared → Prop} {h₀ : Heap} {L : Addr} {m : Str → Option Value} {news : List (Addr × Obj)}
    (hR : Room A n) (F : Fr h₀ L s.heap m) (N : News h₀ L s.heap news) (X : K.In h₀) (T : Top p loose mean mg mb h₀) (hp : pre s.heap)
    (h : ∀ v h' tk tl, (∀ b o, s.heap.get? b = some o → h'.get? b = some o) → Fr h₀ L h' m → News h₀ L h' (tl ++ news) → post tl v → Q v { s with heap := h', toks := tk }) :
    wpAny (model prog w) A (call (.ref f) args) Q E s :=
  D A s Q E hR (fun a o e => F.keep _ _ (X a o e)) (T.keeps F.keep) hp fun v h' tk tl k M q => h v h' tk tl k (fr_after F k) (news_after F N k M) q
theorem Room.deeper {A : Around} {n : Nat} {env : Env} (h : Room A (n + 1)) : Room (A.deeper env) n := ⟨h.handled, by have := h.depth; show A.depth + 1 + n < _; omega, by have := h.units; show A.units + 3 + 8 * n < _; omega⟩
theorem Room.mono {A : Around} {n k : Nat} (h : Room A n) (hk : k ≤ n) : Room A k := ⟨h.handled, by have := h.depth; omega, by have := h.units; omega⟩

theorem reg : (hd.heap_39 = hd.heap_39) ∧ (PySem.Challenge.rw_sc0075_01 = PySem.Challenge.rw_sc0075_01) := by
  k_fill
  exact ⟨rfl, rfl⟩
end

section
open PySem PySem.W PyProof.Rows PySem.Calls PySem.Spec
section
variable {M : Model} {A : Around} {E : Value → Shared → Prop} {s : Shared} {env : Env}
theorem seq {st : Stmt} {rest : List Stmt} {Q : Flow → Shared → Prop} (J : Shared → Prop) (h1 : wpAny M A (exec st env) (fun f s' => match f with | .next => J s' | f => Q f s') E s)
    (h2 : ∀ s', J s' → wpAny M A (execs rest env) Q E s') : wpAny M A (execs (st :: rest) env) Q E s :=
  wpAny_execs_cons (wpAny_mono h1 (fun f s' q => by cases f <;> first | exact h2 s' q | exact q) fun _ _ x => x)
theorem calm {α : Type} {t : Sem α} {Q : α → Shared → Prop} (h : wpAny M A t Q (fun _ _ => False) s) : wpAny M A t Q E s := wpAny_noRaise h
end

/-- what is known of a frame's names -/
def Know (m : Str → Option Value) : List (Str × Value) → Prop
  | [] => True
  | p :: r => m p.1 = some p.2 ∧ Know m r
def loc : List (Str × Value) → (Str → Option Value) → Str → Option Value
  | [], u => u
  | p :: r, u => fun y => if y = p.1 then some p.2 else loc r u y
theorem know {m : Str → Option Value} : ∀ {l : List (Str × Value)}, Know m l → m = loc l m
  | [], _ => rfl
  | p :: r, h => by
    funext y
    unfold loc
    split
    · rename_i e; rw [e]; exact h.1
    · exact congrFun (know h.2) y
/-- a place between two statements: some data i, what holds of it, the names, the ledger -/
def At {ι : Type} (C : ι → Prop) (vars : ι → List (Str × Value)) (led : ι → List (Addr × Obj)) (m : Str → Option Value) (news : List (Addr × Obj)) : Prop := ∃ i, C i ∧ Know m (vars i) ∧ news = led i
def Mid {ι : Type} (h₀ : Heap) (L : Addr) (s : Shared) (C : ι → Prop) (vars : ι → List (Str × Value)) (led : ι → List (Addr × Obj)) (s' : Shared) : Prop :=
  ∃ h' tk m news, s' = { s with heap := h', toks := tk } ∧ Fr h₀ L h' m ∧ News h₀ L h' news ∧ ∃ i, C i ∧ Know m (vars i) ∧ led i = news
theorem Mid.intro {ι : Type} {h₀ : Heap} {L : Addr} {s : Shared} {C : ι → Prop} {vars : ι → List (Str × Value)} {led : ι → List (Addr × Obj)} {h' : Heap} {tk : Nat} {m : Str → Option Value}
    (i : ι) (F : Fr h₀ L h' m) (N : News h₀ L h' (led i)) (k : Know m (vars i)) (hc : C i) : Mid h₀ L s C vars led { s with heap := h', toks := tk } := ⟨h', tk, m, _, rfl, F, N, i, hc, k, rfl⟩
section
variable {M : Model} {A : Around} {E : Value → Shared → Prop} {s : Shared} {env : Env}
theorem cut0 {ι : Type} {h₀ : Heap} {L : Addr} {st : Stmt} {rest : List Stmt} {Q : Flow → Shared → Prop} (C : ι → Prop) (vars : ι → List (Str × Value)) (led : ι → List (Addr × Obj))
    (h1 : wpAny M A (exec st env) (fun f s' => match f with | .next => Mid h₀ L s C vars led s' | f => Q f s') (fun _ _ => False) s)
    (h2 : ∀ i u h' tk, C i → Fr h₀ L h' (loc (vars i) u) → News h₀ L h' (led i) → wpAny M A (execs rest env) Q E { s with heap := h', toks := tk }) : wpAny M A (execs (st :: rest) env) Q E s := by
  refine seq (Mid h₀ L s C vars led) (calm h1) ?_
  rintro s' ⟨h', tk, m, news, rfl, F, N, i, hc, k, rfl⟩
  rw [know k] at F
  exact h2 i m h' tk hc F N
/-- what is asked behind is hidden behind a name: the walk's terms stay small -/
theorem veil {α : Type} {t : Sem α} {Q : α → Shared → Prop} (h : ∀ K : α → Shared → Prop, (∀ v s', Q v s' → K v s') → wpAny M A t K E s) : wpAny M A t Q E s := h Q fun _ _ q => q
theorem veil2 {α : Type} {t : Sem α} {Q : α → Shared → Prop} (h : ∀ (K : α → Shared → Prop) (X : Value → Shared → Prop), (∀ v s', Q v s' → K v s') → (∀ e s', E e s' → X e s') → wpAny M A t K X s) : wpAny M A t Q E s := h Q E (fun _ _ q => q) fun _ _ q => q
/-- a cut whose first part knows what is asked behind it by name alone -/
theorem cut {ι : Type} {h₀ : Heap} {L : Addr} {st : Stmt} {rest : List Stmt} {Q : Flow → Shared → Prop} (C : ι → Prop) (vars : ι → List (Str × Value)) (led : ι → List (Addr × Obj))
    (h1 : ∀ K : Flow → Shared → Prop, (∀ {h' : Heap} {tk : Nat} {m : Str → Option Value} (i : ι), Fr h₀ L h' m → News h₀ L h' (led i) → Know m (vars i) → C i → K .next { s with heap := h', toks := tk }) → (∀ f s', f ≠ .next → Q f s' → K f s') →
      wpAny M A (exec st env) K (fun _ _ => False) s)
    (h2 : ∀ i u h' tk, C i → Fr h₀ L h' (loc (vars i) u) → News h₀ L h' (led i) → wpAny M A (execs rest env) Q E { s with heap := h', toks := tk }) : wpAny M A (execs (st :: rest) env) Q E s :=
  cut0 C vars led (h1 _ (fun i F N k c => Mid.intro i F N k c) (fun f s' hf q => by cases f <;> first | exact absurd rfl hf | exact q)) h2
end

section
variable {prog : Program} {w : World} {A : Around} {E : Value → Shared → Prop} {s : Shared} {env : Env} {h₀ : Heap} {x : Str} {body : List Stmt} {Q : Flow → Shared → Prop}

/-- what a turn of a for must come to -/
def Turn (h₀ : Heap) (L I : Addr) (own : List (Addr × Obj)) (c : String) (J : (Str → Option Value) → List (Addr × Obj) → Prop) (s₁ : Shared) (Q : Flow → Shared → Prop) (f : Flow) (s' : Shared) : Prop :=
  match f with
  | .ret v => Q (.ret v) s'
  | .brk => Q .next s'
  | _ => ∃ h' tk m' nx, s' = { s₁ with heap := h', toks := tk } ∧ Fr h₀ L h' m' ∧ News h₀ L h' (own ++ nx) ∧ (∀ p ∈ nx, p.1 ≠ I ∨ p.2.cls ≠ .type c) ∧ J m' nx
theorem Turn.intro {L I : Addr} {own nx : List (Addr × Obj)} {c : String} {J : (Str → Option Value) → List (Addr × Obj) → Prop} {s₁ : Shared} {h' : Heap} {tk : Nat} {m' : Str → Option Value}
    (F : Fr h₀ L h' m') (N : News h₀ L h' (own ++ nx)) (hc : ∀ p ∈ nx, p.1 ≠ I ∨ p.2.cls ≠ .type c) (hj : J m' nx) : Turn h₀ L I own c J s₁ Q .next { s₁ with heap := h', toks := tk } := ⟨h', tk, m', nx, rfl, F, N, hc, hj⟩

theorem loopAt_of {I : Addr} {fp : List Addr} {n : Nat} {P : Nat → Value → Prop} {St : Nat → Heap → Prop} {m : Str → Option Value} {news : List (Addr × Obj)} {c : String} {more : List (Addr × Obj)}
    (W : Walks prog w A I fp [I] n P St) (hLf : env.locals ∉ fp) (hI : h₀.get? I = none) (hnw : ∀ p ∈ news, p.1 ≠ I) (hst : St 0 s.heap) (F : Fr h₀ env.locals s.heap m) (N : News h₀ env.locals s.heap (more ++ news))
    (hIt : ∀ i h, St i h → ∃ o, h.get? I = some o ∧ o.cls = .type c)
    (hfp : ∀ b ∈ fp, b = I ∨ (∃ o, h₀.get? b = some o) ∨ ∃ p ∈ more, p.1 = b) (hmo : ∀ i h, St i h → (∀ b o, h₀.get? b = some o → h.get? b = some o) → News h₀ env.locals h more)
    (J : Nat → (Str → Option Value) → List (Addr × Obj) → Prop) (h0 : J 0 m news)
    (turn : ∀ i v m₁ news₁ h tk oI, i < n → P i v → J i m₁ news₁ → (∀ p ∈ news₁, p.1 ≠ I) → Fr h₀ env.locals h (fun y => if y = x then some v else m₁ y) → News h₀ env.locals h (((I, oI) :: more) ++ news₁) → oI.cls = .type c →
      wpAny (model prog w) A (execs body env) (Turn h₀ env.locals I ((I, oI) :: more) c (J (i + 1)) { s with heap := h, toks := tk } Q) (fun _ _ => False) { s with heap := h, toks := tk })
    (done : ∀ m₁ news₁ h tk, J n m₁ news₁ → Fr h₀ env.locals h m₁ → News h₀ env.locals h news₁ → Q .next { s with heap := h, toks := tk }) :
    LoopAtV prog w A h₀ env x body Q E (.ref I) s := by
  refine ⟨I, fp, [I], n, P, St, m, news, J, rfl, W, hLf, ?_, ?_, hst, F, fun p hp => N p (List.mem_append_right _ hp), h0, ?_, ?_⟩
  · intro b hb; rw [List.mem_singleton.mp hb]; exact hI
  · intro p hp hb; exact hnw p hp (List.mem_singleton.mp hb)
  · rintro i v m₁ news₁ s₁ own ⟨hh, tk, rfl⟩ hi hP hJ hoff hown hlive hall hst₁ F₁ N₁
    obtain ⟨oI, hoI, hcI⟩ := hIt _ _ hst₁
    have hIfp : I ∈ fp := W.sub _ (List.mem_singleton_self _)
    have hmI : (I, oI) ∈ own := hall I hIfp hI oI hoI
    have Nm : News h₀ env.locals hh more := hmo _ _ hst₁ F₁.keep
    have NI : News h₀ env.locals hh [(I, oI)] := fun p hp => by
      rw [List.mem_singleton.mp hp]
      exact N₁ _ (List.mem_append_left _ hmI)
    have N₂ : News h₀ env.locals hh (((I, oI) :: more) ++ news₁) := fun p hp => by
      rcases List.mem_append.mp hp with q | q
      · rcases List.mem_cons.mp q with q | q
        · exact NI p (List.mem_singleton.mpr q)
        · exact Nm p q
      · exact N₁ p (List.mem_append_right _ q)
    refine wpAny_noRaise (wpAny_mono (turn i v m₁ news₁ hh tk oI hi hP hJ (fun p hp e => hoff p hp (List.mem_singleton.mpr e)) F₁ N₂ hcI) (fun f s₂ q => ?_) fun _ _ e => e)
    have fin : (∃ h' tk' m' nx, s₂ = { s with heap := h', toks := tk' } ∧ Fr h₀ env.locals h' m' ∧ News h₀ env.locals h' (((I, oI) :: more) ++ nx) ∧ (∀ p ∈ nx, p.1 ≠ I ∨ p.2.cls ≠ .type c) ∧ J (i + 1) m' nx) →
        LoopStepU h₀ env.locals [I] own (J (i + 1)) { s with heap := hh, toks := tk } .next s₂ := by
      rintro ⟨h', tk', m', nx, e, F', N', hc, hj⟩
      refine ⟨rfl, h', tk', m', nx, e, F', fun p hp => ?_, fun p hp hb => ?_, hj⟩
      · rcases List.mem_append.mp hp with q | q
        · rcases hfp _ (hown p q) with e1 | ⟨o, e1⟩ | ⟨r, hr, e1⟩
          · have : p = (I, oI) := by
              have h1 := hlive p q
              rw [e1] at h1
              have h2 := hoI.symm.trans h1
              exact Prod.ext e1 (Option.some.inj h2).symm
            rw [this]
            exact N' _ (List.mem_append_left _ (.head _))
          · have := (N₁ p (List.mem_append_left _ q)).2.2
            rw [e1] at this; cases this
          · have : p = r := by
              have h1 := hlive p q
              have h2 := (Nm r hr).1
              rw [e1] at h2
              exact Prod.ext e1.symm (Option.some.inj (h1.symm.trans h2))
            rw [this]
            exact N' _ (List.mem_append_left _ (.tail _ hr))
        · exact N' p (List.mem_append_right _ q)
      · have e1 := List.mem_singleton.mp hb
        have h1 := (N' p (List.mem_append_right _ hp)).1
        have h2 := (N' (I, oI) (List.mem_append_left _ (.head _))).1
        rcases hc p hp with hne | hne
        · exact hne e1
        rw [e1] at h1
        have h3 : p.2 = oI := Option.some.inj (h1.symm.trans h2)
        exact hne (h3 ▸ hcI)
    cases f with
    | ret v => exact q
    | brk => exact q
    | next => exact fin q
    | cont => exact fin q
  · rintro h' tk m' news' F' N' _ hj
    exact done m' news' h' tk hj F' N'

/-- a for over a list that stands in the ground -/
theorem iter_listB {l : Addr} {items : Array Value} {m₀ : Str → Option Value} {news : List (Addr × Obj)} (J : Nat → (Str → Option Value) → List (Addr × Obj) → Prop)
    (hh : A.handled = none) (hl : h₀.IsList l items) (F : Fr h₀ env.locals s.heap m₀) (N : News h₀ env.locals s.heap news) (hj : J 0 m₀ news)
    (turn : ∀ i v m₁ news₁ h tk I oI, i < items.size → items[i]? = some v → J i m₁ news₁ → (∀ p ∈ news₁, p.1 ≠ I) → Fr h₀ env.locals h (fun y => if y = x then some v else m₁ y) → News h₀ env.locals h ((I, oI) :: news₁) → oI.cls = .type "list_iterator" →
      wpAny (model prog w) A (execs body env) (Turn h₀ env.locals I [(I, oI)] "list_iterator" (J (i + 1)) { s with heap := h, toks := tk } Q) (fun _ _ => False) { s with heap := h, toks := tk })
    (done : ∀ m₁ news₁ h tk, J items.size m₁ news₁ → Fr h₀ env.locals h m₁ → News h₀ env.locals h news₁ → Q .next { s with heap := h, toks := tk }) :
    wpAny (model prog w) A (pyIter (.ref l)) (fun it s₂ => LoopAtV prog w A h₀ env x body Q E it s₂) E s := by
  have hls : s.heap.IsList l items := hl.at fun o e => F.keep l o e
  obtain ⟨ol, hol, _⟩ := id hl
  have hlt : l < h₀.objs.size := Heap.lt_size hol
  have hne : l ≠ s.heap.objs.size := Nat.ne_of_lt (Nat.lt_trans (Nat.lt_of_lt_of_le hlt F.above) F.ns.lt)
  refine wpAny_pyIter_list hls ?_
  refine loopAt_of (c := "list_iterator") (more := []) (Walks.list hh s.heap.objs.size l hne items) ?_ ?_ (fun p hp => ?_) ⟨⟨_, Heap.get?_push_size _ rfl, rfl, rfl⟩, hls.at fun o e => Heap.get?_push_of_some _ e⟩ (F.push _)
    (fun p hp => ⟨Heap.get?_push_of_some _ (N p hp).1, (N p hp).2⟩) (fun i h st => ?_) (fun b hb => ?_) (fun _ _ _ _ => News.nil) J hj ?_ ?_
  · intro hm
    rcases List.mem_cons.mp hm with e | hm
    · exact absurd F.ns.lt (e ▸ Nat.lt_irrefl _)
    · exact absurd (Nat.lt_of_lt_of_le hlt F.above) ((List.mem_singleton.mp hm) ▸ Nat.lt_irrefl _)
  · exact next_is_new F
  · exact Nat.ne_of_lt (Heap.lt_size (N p hp).1)
  · obtain ⟨⟨o, ho, hc, _⟩, _⟩ := st
    exact ⟨o, ho, hc⟩
  · rcases List.mem_cons.mp hb with e | hb
    · exact .inl e
    · exact .inr (.inl ⟨ol, (List.mem_singleton.mp hb) ▸ hol⟩)
  · intro i v m₁ news₁ h tk oI hi hP hJ hoff F₁ N₁ hc
    exact turn i v m₁ news₁ h tk _ oI hi hP hJ hoff F₁ N₁ hc
  · exact fun m₁ news₁ h tk hJ F₁ N₁ => done m₁ news₁ h tk hJ F₁ N₁

/-- a for over a list of the call's own -/
theorem iter_listN {l : Addr} {items : Array Value} {k : Nat} {m₀ : Str → Option Value} {news : List (Addr × Obj)} (J : Nat → (Str → Option Value) → List (Addr × Obj) → Prop)
    (hh : A.handled = none) (F : Fr h₀ env.locals s.heap m₀) (hl : News h₀ env.locals s.heap [(l, ({ cls := .type "list", data := .seq items k } : Obj))]) (N : News h₀ env.locals s.heap news) (hj : J 0 m₀ news)
    (turn : ∀ i v m₁ news₁ h tk I oI, i < items.size → items[i]? = some v → J i m₁ news₁ → (∀ p ∈ news₁, p.1 ≠ I) → Fr h₀ env.locals h (fun y => if y = x then some v else m₁ y) →
      News h₀ env.locals h ((I, oI) :: (l, ({ cls := .type "list", data := .seq items k } : Obj)) :: news₁) → oI.cls = .type "list_iterator" →
      wpAny (model prog w) A (execs body env) (Turn h₀ env.locals I [(I, oI), (l, ({ cls := .type "list", data := .seq items k } : Obj))] "list_iterator" (J (i + 1)) { s with heap := h, toks := tk } Q) (fun _ _ => False) { s with heap := h, toks := tk })
    (done : ∀ m₁ news₁ h tk, J items.size m₁ news₁ → Fr h₀ env.locals h m₁ → News h₀ env.locals h news₁ → Q .next { s with heap := h, toks := tk }) :
    wpAny (model prog w) A (pyIter (.ref l)) (fun it s₂ => LoopAtV prog w A h₀ env x body Q E it s₂) E s := by
  have hol := (hl _ (.head _)).1
  have hls : s.heap.IsList l items := ⟨_, hol, rfl, _, rfl⟩
  have hlt : l < s.heap.objs.size := Heap.lt_size hol
  have hne : l ≠ s.heap.objs.size := Nat.ne_of_lt hlt
  refine wpAny_pyIter_list hls ?_
  refine loopAt_of (c := "list_iterator") (n := items.size) (P := fun i v => items[i]? = some v) (St := fun i h => h.IsListIter s.heap.objs.size l i ∧ h.get? l = some ({ cls := .type "list", data := .seq items k } : Obj)) (fp := [s.heap.objs.size, l])
    (more := [(l, ({ cls := .type "list", data := .seq items k } : Obj))]) ?_ ?_ ?_ (fun p hp => ?_) ⟨⟨_, Heap.get?_push_size _ rfl, rfl, rfl⟩, Heap.get?_push_of_some _ hol⟩ (F.push _)
    (fun p hp => ?_) (fun i h st => ?_) (fun b hb => ?_) (fun i h st kp p hp => ?_) J hj ?_ ?_
  · have W := Walks.list (prog := prog) (w := w) hh s.heap.objs.size l hne items
    refine ⟨W.sub, fun i h h' st hk => ⟨st.1.at fun o e => hk _ (.head _) o e, hk l (.tail _ (.head _)) _ st.2⟩, fun i s' Q E hi st hQ => W.item i s' Q E hi ⟨st.1, ⟨_, st.2, rfl, _, rfl⟩⟩ fun v h' tk' hP st' hk => hQ v h' tk' hP ⟨st'.1, hk l _ (fun hm => hne (List.mem_singleton.mp hm)) ?_⟩ hk,
      fun s' Q E st hQ => W.done s' Q E ⟨st.1, ⟨_, st.2, rfl, _, rfl⟩⟩ hQ, fun i s' Q E st hQ => W.self i s' Q E ⟨st.1, ⟨_, st.2, rfl, _, rfl⟩⟩ hQ⟩
    exact st.2
  · intro hm
    rcases List.mem_cons.mp hm with e | hm
    · exact absurd F.ns.lt (e ▸ Nat.lt_irrefl _)
    · exact (hl _ (.head _)).2.1 (List.mem_singleton.mp hm).symm
  · exact next_is_new F
  · exact Nat.ne_of_lt (Heap.lt_size (N p hp).1)
  · rcases List.mem_append.mp hp with q | q
    · exact ⟨Heap.get?_push_of_some _ (hl p q).1, (hl p q).2⟩
    · exact ⟨Heap.get?_push_of_some _ (N p q).1, (N p q).2⟩
  · obtain ⟨⟨o, ho, hc, _⟩, _⟩ := st
    exact ⟨o, ho, hc⟩
  · rcases List.mem_cons.mp hb with e | hb
    · exact .inl e
    · exact .inr (.inr ⟨_, .head _, (List.mem_singleton.mp hb).symm⟩)
  · rw [List.mem_singleton.mp hp]
    exact ⟨st.2, (hl _ (.head _)).2⟩
  · intro i v m₁ news₁ h tk oI hi hP hJ hoff F₁ N₁ hc
    exact turn i v m₁ news₁ h tk _ oI hi hP hJ hoff F₁ N₁ hc
  · exact fun m₁ news₁ h tk hJ F₁ N₁ => done m₁ news₁ h tk hJ F₁ N₁

/-- a for over a range -/
theorem iter_range {r : Addr} {a b c : Int} {t u v : Tok} {n : Nat} {m₀ : Str → Option Value} {news : List (Addr × Obj)} (J : Nat → (Str → Option Value) → List (Addr × Obj) → Prop)
    (hh : A.handled = none) (hr : IsRange s.heap r a b c t u v) (hsmall : Builtin.Range.small a b c = true) (hn : Builtin.Range.rangeSize a b c = (n : Int))
    (F : Fr h₀ env.locals s.heap m₀) (N : News h₀ env.locals s.heap news) (hj : J 0 m₀ news)
    (turn : ∀ i t m₁ news₁ h tk I oI, i < n → J i m₁ news₁ → (∀ p ∈ news₁, p.1 ≠ I) → Fr h₀ env.locals h (fun y => if y = x then some (.int (a + (i : Nat) * c) t) else m₁ y) → News h₀ env.locals h ((I, oI) :: news₁) → oI.cls = .type "range_iterator" →
      wpAny (model prog w) A (execs body env) (Turn h₀ env.locals I [(I, oI)] "range_iterator" (J (i + 1)) { s with heap := h, toks := tk } Q) (fun _ _ => False) { s with heap := h, toks := tk })
    (done : ∀ m₁ news₁ h tk, J n m₁ news₁ → Fr h₀ env.locals h m₁ → News h₀ env.locals h news₁ → Q .next { s with heap := h, toks := tk }) :
    wpAny (model prog w) A (pyIter (.ref r)) (fun it s₂ => LoopAtV prog w A h₀ env x body Q E it s₂) E s := by
  refine wpAny_pyIter_range hr hsmall ?_
  refine loopAt_of (c := "range_iterator") (more := []) (Walks.range hh s.heap.objs.size a c n) ?_ ?_ (fun p hp => ?_) (by show IsRangeIter _ _ _ _ _; rw [hn]; simpa using Heap.get?_push_size _ rfl) (F.push _)
    (fun p hp => ⟨Heap.get?_push_of_some _ (N p hp).1, (N p hp).2⟩) (fun i h st => ?_) (fun b hb => ?_) (fun _ _ _ _ => News.nil) J hj ?_ ?_
  · intro hm
    exact absurd F.ns.lt ((List.mem_singleton.mp hm) ▸ Nat.lt_irrefl _)
  · exact next_is_new F
  · exact Nat.ne_of_lt (Heap.lt_size (N p hp).1)
  · exact ⟨_, st, rfl⟩
  · exact .inl (List.mem_singleton.mp hb)
  · rintro i v m₁ news₁ h tk oI hi ⟨t, rfl⟩ hJ hoff F₁ N₁ hc
    exact turn i t m₁ news₁ h tk _ oI hi hJ hoff F₁ N₁ hc
  · exact fun m₁ news₁ h tk hJ F₁ N₁ => done m₁ news₁ h tk hJ F₁ N₁

/-- a while by an invariant over the frame's map and the ledger -/
theorem while_rule {test : PySem.Expr} {pos : Pos} {L : Addr} (J : Nat → (Str → Option Value) → List (Addr × Obj) → Prop) (n : Nat) {m₀ : Str → Option Value} {news : List (Addr × Obj)}
    (F : Fr h₀ L s.heap m₀) (N : News h₀ L s.heap news) (hj : J n m₀ news)
    (turn : ∀ k m₁ news₁ h tk, J k m₁ news₁ → Fr h₀ L h m₁ → News h₀ L h news₁ →
      wpAny (model prog w) A (isTrue test env (eval test env)) (fun b s₂ =>
        if b then wpAny (model prog w) A (execs body env) (fun f s₃ => match f with
            | .ret v => Q (.ret v) s₃
            | .brk => Q .next s₃
            | _ => ∃ h' tk m' nx k', s₃ = { s with heap := h', toks := tk } ∧ k' < k ∧ Fr h₀ L h' m' ∧ News h₀ L h' nx ∧ J k' m' nx) (fun _ _ => False) s₂
        else Q .next s₂) (fun _ _ => False) { s with heap := h, toks := tk }) :
    wpAny (model prog w) A (exec (.While test body [] pos) env) Q E s := by
  refine wpAny_noRaise (wpAny_While (codeAny_whileLoop (fun k s' => ∃ h tk m₁ news₁, s' = { s with heap := h, toks := tk } ∧ Fr h₀ L h m₁ ∧ News h₀ L h news₁ ∧ J k m₁ news₁) ?_ n ⟨s.heap, s.toks, m₀, news, rfl, F, N, hj⟩))
  rintro k s' ⟨h, tk, m₁, news₁, rfl, F₁, N₁, hJ⟩
  refine wpAny_mono (turn k m₁ news₁ h tk hJ F₁ N₁) (fun b s₂ q => ?_) fun _ _ f => f.elim
  cases b with
  | false => exact wpAny_execs_nil q
  | true =>
    refine wpAny_mono q (fun f s₃ q => ?_) fun _ _ f => f.elim
    cases f with
    | ret v => exact q
    | brk => exact q
    | next =>
      obtain ⟨h', tk', m', nx, k', e, hk, F', N', hj'⟩ := q
      exact ⟨k', hk, h', tk', m', nx, e, F', N', hj'⟩
    | cont =>
      obtain ⟨h', tk', m', nx, k', e, hk, F', N', hj'⟩ := q
      exact ⟨k', hk, h', tk', m', nx, e, F', N', hj'⟩
end
end

section
open PySem PySem.W PyProof.Rows PySem.Calls PySem.Spec
/-- what a while's turn must come to -/
def WTurn (h₀ : Heap) (L : Addr) (s : Shared) (Q : Flow → Shared → Prop) (k : Nat) (J : Nat → (Str → Option Value) → List (Addr × Obj) → Prop) (f : Flow) (s₃ : Shared) : Prop := match f with
            | .ret v => Q (.ret v) s₃
            | .brk => Q .next s₃
            | _ => ∃ h' tk m' nx k', s₃ = { s with heap := h', toks := tk } ∧ k' < k ∧ Fr h₀ L h' m' ∧ News h₀ L h' nx ∧ J k' m' nx
theorem WTurn.intro {h₀ : Heap} {L : Addr} {s : Shared} {Q : Flow → Shared → Prop} {k : Nat} {J : Nat → (Str → Option Value) → List (Addr × Obj) → Prop} {h' : Heap} {tk : Nat} {m' : Str → Option Value} {nx : List (Addr × Obj)}
    (k' : Nat) (F : Fr h₀ L h' m') (N : News h₀ L h' nx) (hk : k' < k) (hj : J k' m' nx) : WTurn h₀ L s Q k J .next { s with heap := h', toks := tk } := ⟨h', tk, m', nx, k', rfl, hk, F, N, hj⟩
section
variable {prog : Program} {w : World} {A : Around} {E : Value → Shared → Prop} {s : Shared} {env : Env} {h₀ : Heap} {x : Str} {body : List Stmt} {Q : Flow → Shared → Prop}
theorem while_rule' {test : PySem.Expr} {pos : Pos} {L : Addr} (J : Nat → (Str → Option Value) → List (Addr × Obj) → Prop) (n : Nat) {m₀ : Str → Option Value} {news : List (Addr × Obj)}
    (F : Fr h₀ L s.heap m₀) (N : News h₀ L s.heap news) (hj : J n m₀ news)
    (turn : ∀ k m₁ news₁ h tk, J k m₁ news₁ → Fr h₀ L h m₁ → News h₀ L h news₁ →
      wpAny (model prog w) A (isTrue test env (eval test env)) (fun b s₂ =>
        if b then wpAny (model prog w) A (execs body env) (WTurn h₀ L s Q k J) (fun _ _ => False) s₂
        else Q .next s₂) (fun _ _ => False) { s with heap := h, toks := tk }) :
    wpAny (model prog w) A (exec (.While test body [] pos) env) Q E s := while_rule J n F N hj turn
end
theorem Does.use0 {prog : Program} {w : World} {K : Frag} {p : Program} {loose : List Str} {mean : ExcName → Option Value} {mg mb : Str → Option Value} {n : Nat} {f : Addr} {args : List Value} {pre : Heap → Prop}
    {post : List (Addr × Obj) → Value → Prop} (D : Does prog w K p loose mean mg mb n f args pre post) {A : Around} {s : Shared} {Q E : Value → Shared → Prop} {h₀ : Heap} {L : Addr} {m : Str → Option Value} {news : List (Addr × Obj)}
    (hR : Room A n) (F : Fr h₀ L s.heap m) (N : News h₀ L s.heap news) (X : K.In h₀) (T : Top p loose mean mg mb h₀) (hp : pre s.heap)
    (h : ∀ v h' tk tl, Fr h₀ L h' m → News h₀ L h' news → post tl v → Q v { s with heap := h', toks := tk }) :
    wpAny (model prog w) A (call (.ref f) args) Q E s :=
  D.use hR F N X T hp fun v h' tk tl _ F' N' q => h v h' tk tl F' (fun p hp => N' p (List.mem_append_right _ hp)) q
theorem rs1 {b : Int} {n : Nat} (hb : b = (n : Int)) (h : n ≤ 1000) : Builtin.Range.small 0 b 1 = true ∧ Builtin.Range.rangeSize 0 b 1 = (n : Int) := by
  subst hb
  have hsz : Builtin.Range.rangeSize 0 (n : Int) 1 = (n : Int) := by
    unfold Builtin.Range.rangeSize
    simp
    omega
  refine ⟨?_, hsz⟩
  unfold Builtin.Range.small
  rw [hsz]
  unfold Builtin.Range.rangeFitsLong
  simp
  omega
end

section
open PySem PySem.W PyProof.Rows PySem.Calls PySem.Spec
theorem top_F1 : True := by
  w_top off
  trivial
section
variable {prog : Program} {w : World} {p : Program} {loose : List Str} {mean : ExcName → Option Value} {mg mb : Str → Option Value}
theorem does_sub (a b : Nat) (t u : Tok) (ha : a ∈ sigma) (hb : b ∈ sigma) : Does prog w (hd.heap_39 w.params) p loose mean mg mb 1 89 [.str (sx [a]) t, .str (sx [b]) u] (fun _ => True) (fun _ r => ∃ t, r = .int (subc a b) t) := by
  intro A s Q E hR X T hpre hQ
  obtain ⟨dp, fr, gd, un, rfl, hdp, hun⟩ := hR.open
  have l1 : (sx [a]).length = 1 := sx_len _
  have l2 : (sx [b]).length = 1 := sx_len _
  have hs := lower_sigma a ha b hb
  refine wpAny_call ?_
  k_dflt (refine' enter ?k1 ?k2 ?k3 ?k6 ?k7 ?k9 ?kB ?c5 ?c2 ?c3 ?c4 ?_; (case k1 => assumption); (case k2 => assumption); (case k6 => k_is); (case k7 => k_is); (case k9 => exact BindsTo.of_eq rfl); (case kB => exact locs rfl); (case c2 => exact rfl); (case c3 => exact rfl); (case c4 => exact rfl); (case c5 => decide))
  · (dsimp only); omega
  intro L h₁ tk F N
  k_steps
  all_goals dsimp only
  all_goals (refine hQ _ _ _ [] (Fr.keep (by assumption)) Made.nil (ktn_int ?_))
  all_goals unfold subc
  · rename_i h
    have : a = b := by simpa [sx_inj] using h
    rw [if_pos this]
  · rename_i h1 _ _ h
    have : ¬ a = b := by simpa [sx_inj] using h1
    rw [hs] at h
    simp at h
    exact absurd h this
  · rename_i h1 _ _ h
    have : ¬ a = b := by simpa [sx_inj] using h1
    rw [if_neg this]
end
end

local macro_rules | `(tactic| walk_at "truthy") => `(tactic| dsimp only)
local macro_rules | `(tactic| walk_at "storeName") => `(tactic| dsimp only)
local macro_rules | `(tactic| walk_at "eval Subscript") => `(tactic| dsimp only)
local macro_rules | `(tactic| walk_at "execs cons") => `(tactic| dsimp only)

section
open PySem PySem.W PyProof.Rows PySem.Calls PySem.Spec PySem.Builtin PySem.Builtin.Re
theorem pa_pat : PlainAttrs "re.Pattern" :=
  ⟨⟨"object.__getattribute__", by rw [typeLookup_type, builtinLookup_eq_fast]; kernel_rfl, by decide +kernel⟩, by rw [typeLookup_type, builtinLookup_eq_fast]; kernel_rfl⟩
theorem owner_pat : Manifest.owners.lookup (String.ofList ['n', 'r', 'e', 't', 't', 'a', 'P', '.', 'e', 'r'].reverse) = some Manifest.sig_re_Pattern := by kernel_rfl
theorem slot_sub : Slot "re.Pattern" "sub" "re.Pattern.sub" :=
  .of (owner := "re.Pattern") (n := "sub") (by rw [typeLookup_type, builtinLookup_eq_fast]; kernel_rfl) (by decide +kernel) (by decide +kernel) (by decide +kernel)
    (by first | exact .inl (by decide +kernel) | exact .inr (by decide +kernel)) (by rw [isSubtype_type]; kernel_rfl)
theorem type_sub : typeOf (.builtin "re.Pattern.sub") = pure (.type "method_descriptor") := by show builtinType _ = _; rw [builtinType_eq_fast]; kernel_rfl
theorem entry_sub : entryFor table "re.Pattern.sub" = some Builtin.«re.Pattern.sub» := entryFor_of_tree (by kernel_rfl)
theorem entry_subloop : entryFor table "re.Pattern.sub.loop" = some Builtin.«re.Pattern.sub.loop» := entryFor_of_tree (by kernel_rfl)
theorem args_sub (a b c : Value) : argsOk "re.Pattern.sub" ⟨[a, b, c], []⟩ := by
  unfold argsOk; rw [signature?_of (id := "re.Pattern.sub") (n := ['b', 'u', 's']) (o := ['n', 'r', 'e', 't', 't', 'a', 'P', '.', 'e', 'r']) (by kernel_rfl) owner_pat]; kernel_rfl
end

section
open PySem PySem.W PyProof.Rows PySem.Calls PySem.Spec PySem.Builtin PySem.Builtin.Re
def driveN : Nat → Sre.M → Option Sre.M
  | 0, _ => none
  | k + 1, m => if (m.runFor 4).outcome.isSome then some (m.runFor 4) else driveN k (m.runFor 4)
def nextF (code text : Array Nat) (start : Nat) (must : Bool) : Option (Option (Nat × Nat)) :=
  match driveN 200 (Sre.forSearch code text 0 start text.size must) with
  | none => none
  | some m => match m.outcome with
    | some .matched => some (some (m.start, m.handed))
    | some .failed => some none
    | _ => none
def subL (code text : Array Nat) (repl : Str) : Nat → Nat → Bool → List Str → Option (List Str)
  | 0, _, _, _ => none
  | k + 1, start, must, acc => match nextF code text start must with
    | none => none
    | some (some (b, e)) => subL code text repl k e (e == b) ((acc ++ (if start < b then [(⟨text.extract start b⟩ : Str)] else [])) ++ [repl])
    | some none => some (acc ++ (if start < text.size then [(⟨text.extract start text.size⟩ : Str)] else []))
section
variable {M : Model} {A : Around} {E : Value → Shared → Prop} {s : Shared}
theorem wp_drive {Q : Sre.M → Shared → Prop} : ∀ (k n : Nat) (m m' : Sre.M), k ≤ n → driveN k m = some m' → Q m' s → wpAny M A (reDrive n m) Q E s
  | 0, n, m, m', _, h, _ => nomatch h
  | k + 1, 0, m, m', hk, _, _ => absurd hk (by omega)
  | k + 1, n + 1, m, m', hk, h, hq => by
    unfold driveN at h
    unfold reDrive
    show wpAny M A (if (m.runFor 4).outcome.isSome = true then pure (m.runFor 4) else _) Q E s
    split at h
    · rename_i e
      rw [if_pos e]
      cases h
      exact wpAny_pure hq
    · rename_i e
      rw [if_neg e]
      exact wpAny_bind (wpAny_rule (wp_drive k n _ _ (by omega) h hq))
theorem wp_seen {Q : PUnit → Shared → Prop} (m : Sre.M) (hq : Q ⟨⟩ s) : wpAny M A (forIn (List.range Sre.names.size) PUnit.unit fun i (_ : PUnit) => if m.seen.has i = true then (do rule (Sre.names.getD i ""); pure (ForInStep.yield PUnit.unit)) else pure (ForInStep.yield PUnit.unit)) Q E s := by
  refine wpAny_forIn_list _ (fun _ _ s' => s' = s) Q ?_ ?_ _ _ rfl
  · rintro x rest b s' rfl
    split
    · exact wpAny_bind (wpAny_rule (wpAny_pure rfl))
    · first | exact wpAny_pure rfl | exact wpAny_bind (wpAny_pure (wpAny_pure rfl))
  · rintro b s' rfl
    exact hq
theorem wp_next {t : ReTarget} {start : Nat} {must : Bool} {r : Option (Nat × Nat)} {Q : Option Sre.M → Shared → Prop} (hg : t.groups = 0) (hl : t.lim = t.text.size) (h : nextF t.code t.text start must = some r)
    (hq : ∀ o, (match r, o with | some (b, e), some m => m.start = b ∧ m.handed = e | none, none => True | _, _ => False) → Q o s) : wpAny M A (reNextFound t start must) Q E s := by
  unfold reNextFound reRunToEnd
  unfold nextF at h
  rw [hg, hl]
  split at h
  · cases h
  · rename_i m hm
    refine wpAny_bind (wp_drive 200 _ _ _ (by decide) hm ?_)
    refine wpAny_bind (wp_seen _ ?_)
    split at h
    · rename_i e
      cases h
      rw [e]
      exact wpAny_pure (hq _ ⟨rfl, rfl⟩)
    · rename_i e
      cases h
      rw [e]
      exact wpAny_pure (hq _ trivial)
    · cases h
end
structure Pat (h : Heap) (a : Addr) (code : Array Nat) : Prop where
  ex : ∃ (p f : Value) (ct : Addr) (o : Obj) (xs : Array Value) (n : Nat), h.get? a = some { cls := .type "re.Pattern", data := .fields #[p, f, rawInt 0, .none, .none, .ref ct, rawInt 0] } ∧ h.get? ct = some o ∧ o.data = .seq xs n ∧ (xs.map reRawOf).map (·.toNat) = code
theorem Pat.keeps {h h' : Heap} {a : Addr} {code : Array Nat} (P : Pat h a code) (k : ∀ b o, h.get? b = some o → h'.get? b = some o) : Pat h' a code := by
  obtain ⟨p, f, ct, o, xs, n, h1, h2, h3, h4⟩ := P.ex
  exact ⟨p, f, ct, o, xs, n, k _ _ h1, k _ _ h2, h3, h4⟩
section
variable {M : Model} {A : Around} {E : Value → Shared → Prop} {s : Shared}
theorem wp_target {a : Addr} {code : Array Nat} {x : Str} {u : Tok} {Q : ReTarget → Shared → Prop} (P : Pat s.heap a code)
    (hq : Q { pattern := .ref a, string := .str x u, code := code, text := x.cps, kind := 0, groups := 0, pos := 0, lim := x.cps.size } s) : wpAny M A (reWholeTarget (.ref a) (.str x u)) Q E s := by
  obtain ⟨p, f, ct, o, xs, n, h1, h2, h3, h4⟩ := P.ex
  unfold reWholeTarget
  refine wpAny_bind (wpAny_fieldsOf h1 rfl ?_)
  refine wpAny_bind (m := reTextOf (.str x u)) (wpAny_pure ?_)
  show wpAny M A ((pure () : Sem PUnit) >>= fun _ => reRawItems (.ref ct) >>= fun l => pure { pattern := .ref a, string := .str x u, code := Array.map (fun x => x.toNat) l, text := x.cps, kind := 0, groups := 0, pos := 0, lim := x.cps.size }) Q E s
  refine wpAny_bind (wpAny_pure ?_)
  unfold reRawItems
  refine wpAny_bind (wpAny_bind (wpAny_seqItems h2 h3 (wpAny_pure ?_)))
  show wpAny M A (pure { pattern := .ref a, string := .str x u, code := Array.map (fun x => x.toNat) (Array.map reRawOf xs), text := x.cps, kind := 0, groups := 0, pos := 0, lim := x.cps.size }) Q E s
  refine wpAny_pure ?_
  have h4' : Array.map (fun x => x.toNat) (Array.map reRawOf xs) = code := h4
  rw [h4']
  exact hq
end
section
variable {prog : Program} {w : World} {A : Around} {E : Value → Shared → Prop} {s : Shared}
def lst (items : Array Value) (k : Nat) : Obj := { cls := .type "list", data := .seq items k }
theorem wp_append {l : Addr} {items : Array Value} {k : Nat} {v : Value} {Q : Unit → Shared → Prop} (hl : s.heap.get? l = some (lst items k)) (hsz : items.size ≤ 1000)
    (hq : ∀ h' k', h'.get? l = some (lst (items.push v) k') → Heap.SameBut l s.heap h' → Q () { s with heap := h' }) : wpAny (model prog w) A (updateSeq l (fun x => x.push v)) Q E s := by
  obtain ⟨k', e⟩ : ∃ k', Obj.mapSeq (fun x => x.push v) (lst items k) = lst (items.push v) k' := ⟨_, rfl⟩
  refine wpAny_updateSeq hl rfl (hq _ k' ?_ (Heap.SameBut.update ..)) (by rw [sizeLine_eq]; omega) (by rw [sizeLine_eq]; show (items.push v).size ≤ _; rw [Array.size_push]; omega)
  rw [Heap.get?_update_self _ hl rfl, e]
theorem strs_push {items : Array Value} {ys : List Str} (h : StrsAre items.toList ys) (y : Str) (t : Tok) : StrsAre (items.push (.str y t)).toList (ys ++ [y]) := by
  rw [Array.toList_push]
  exact h.append' (.cons y t .nil)
theorem kept_but {h₀ h h' : Heap} {l : Addr} (k : ∀ b o, h₀.get? b = some o → h.get? b = some o) (hl : h₀.get? l = none) (sb : Heap.SameBut l h h') : ∀ b o, h₀.get? b = some o → h'.get? b = some o := by
  intro b o e
  have hbl : b ≠ l := by rintro rfl; rw [hl] at e; cases e
  rw [sb.2 _ hbl]
  exact k b o e
theorem subL_len {code text : Array Nat} {repl : Str} (ht : text.size ≤ 1000) (hr : repl.length ≤ 1000) : ∀ (f st : Nat) (must : Bool) (acc res : List Str), (∀ y ∈ acc, y.length ≤ 1000) → subL code text repl f st must acc = some res → (∀ y ∈ res, y.length ≤ 1000) ∧ res.length ≤ acc.length + 2 * f
  | 0, _, _, _, _, _, h => nomatch h
  | f + 1, st, must, acc, res, ha, h => by
    have hp : ∀ b e, ∀ y ∈ (if b < e then [(⟨text.extract b e⟩ : Str)] else []), y.length ≤ 1000 := by
      intro b e y hy
      split at hy
      · rw [List.mem_singleton.mp hy]
        show (text.extract b e).size ≤ 1000
        rw [Array.size_extract]
        omega
      · cases hy
    have hpl : ∀ b e, (if b < e then [(⟨text.extract b e⟩ : Str)] else []).length ≤ 1 := by
      intro b e; split <;> simp
    unfold subL at h
    split at h
    · cases h
    · rename_i b e hn
      have h1 := subL_len ht hr f e (e == b) ((acc ++ (if st < b then [(⟨text.extract st b⟩ : Str)] else [])) ++ [repl]) res (fun y hy => ?_) h
      · refine ⟨h1.1, ?_⟩
        have := h1.2
        have := hpl st b
        simp only [List.length_append, List.length_singleton] at *
        omega
      · rcases List.mem_append.mp hy with hy | hy
        · rcases List.mem_append.mp hy with hy | hy
          · exact ha y hy
          · exact hp _ _ y hy
        · rw [List.mem_singleton.mp hy]; exact hr
    · cases h
      refine ⟨fun y hy => ?_, ?_⟩
      · rcases List.mem_append.mp hy with hy | hy
        · exact ha y hy
        · exact hp _ _ y hy
      · have := hpl st text.size
        rw [List.length_append]
        omega
theorem sum_le : ∀ (l : List Str), (∀ y ∈ l, y.length ≤ 1000) → (l.map (·.length)).sum ≤ l.length * 1000
  | [], _ => Nat.zero_le _
  | a :: l, h => by
    have h1 := sum_le l fun y hy => h y (.tail _ hy)
    have h2 := h a (.head _)
    simp only [List.map_cons, List.sum_cons, List.length_cons]
    omega
theorem sub_loop {a l : Addr} {code : Array Nat} {x repl : Str} {u z : Tok} {R : Result → Shared → Prop} {h₀ : Heap} (hxs : x.length ≤ 1000) (P : Pat h₀ a code) (hl0 : h₀.get? l = none) (hrl : repl.length ≤ 1000) :
    ∀ (f : Nat) (st : Nat) (must : Bool) (acc : List Str) (items : Array Value) (k : Nat) (n : Int) (t1 t2 t3 t4 t5 : Tok) (res : List Str) (s : Shared),
      2 * f + items.size ≤ 500 → (∀ b o, h₀.get? b = some o → s.heap.get? b = some o) → s.heap.get? l = some (lst items k) → StrsAre items.toList acc → (∀ y ∈ acc, y.length ≤ 1000) → subL code x.cps repl f st must acc = some res → res ≠ [] →
      (∀ h' tk t, (∀ b o, h₀.get? b = some o → h'.get? b = some o) → R (.ok (.ret (.str (Txt.join Str.empty res) t))) { s with heap := h', toks := tk }) →
      codeAny (model prog w) A (.builtin "re.Pattern.sub.loop" ⟨[.ref a, .str x u, .str repl z, .int 0 t1, .int 0 t2, .int n t3, .int (st : Nat) t4, .int (st : Nat) t5, .bool must, .ref l, .bool false], []⟩) R s
  | 0, st, must, acc, items, k, n, t1, t2, t3, t4, t5, res, s, _, _, _, _, _, h, _, _ => nomatch h
  | f + 1, st, must, acc, items, k, n, t1, t2, t3, t4, t5, res, s, hsz, hk, hl, hsa, hyl, h, hne, hR => by
    have hlen := subL_len hxs hrl _ _ _ _ _ hyl h
    have hil : items.size = acc.length := by rw [← hsa.len_eq]; simp
    refine codeAny_builtin entry_subloop ?_
    unfold «re.Pattern.sub.loop»
    refine wpAny_bind (m := reWholeTarget (.ref a) (.str x u)) (wp_target (P.keeps hk) ?_)
    refine wpAny_bind (m := reLiteralCannotBeTurned (.str repl z)) (wpAny_bind (m := asStr? (.str repl z)) (wpAny_pure (wpAny_pure ?_)))
    have e1 : ((st : Nat) : Int).toNat = st := Int.toNat_natCast st
    unfold subL at h
    refine wpAny_bind (m := reNextFound { pattern := .ref a, string := .str x u, code := code, text := x.cps, kind := 0, groups := 0, pos := 0, lim := x.cps.size } ((st : Nat) : Int).toNat must) ?_
    rw [e1]
    split at h
    · cases h
    · rename_i b e hn
      refine wp_next (r := some (b, e)) rfl rfl hn ?_
      rintro o ho
      cases o with
      | none => exact ho.elim
      | some m =>
        obtain ⟨hb, he⟩ := ho
        dsimp only
        rw [hb, he]
        have tail : ∀ (acc' : List Str) (items' : Array Value) (k' : Nat) (h' : Heap) (tk : Nat), items'.size ≤ items.size + 1 → (∀ b o, h₀.get? b = some o → h'.get? b = some o) → h'.get? l = some (lst items' k') → StrsAre items'.toList acc' → (∀ y ∈ acc', y.length ≤ 1000) →
            subL code x.cps repl f e (e == b) (acc' ++ [repl]) = some res →
            wpAny (model prog w) (A.under (Code.builtin "re.Pattern.sub.loop" ⟨[.ref a, .str x u, .str repl z, .int 0 t1, .int 0 t2, .int n t3, .int (st : Nat) t4, .int (st : Nat) t5, .bool must, .ref l, .bool false], []⟩))
              (updateSeq l (fun x => x.push (.str repl z)) >>= fun _ => again (.builtin "re.Pattern.sub.loop" ⟨[.ref a, .str x u, .str repl z, rawInt 0, rawInt 0, rawInt (n + 1), rawInt (e : Nat), rawInt (e : Nat), .bool (e == b), .ref l, .bool false], []⟩))
              (fun fin s' => match fin with | .done f => R (.ok f) s' | .again c' => c'.quiet = true ∧ codeAny (model prog w) A c' R s') (fun e s' => R (.error e) s') { s with heap := h', toks := tk } := by
          intro acc' items' k' h' tk hs' hk' hl' hsa' hyl' h2
          refine wpAny_bind (wp_append hl' (by omega) fun h'' k'' hl'' sb => wpAny_pure ⟨plainId_quiet (id := "re.Pattern.sub.loop") (by decide +kernel) _, ?_⟩)
          refine sub_loop hxs P hl0 hrl f e (e == b) (acc' ++ [repl]) _ k'' (n + 1) 0 0 0 0 0 res _ (by rw [Array.size_push]; omega) (kept_but hk' hl0 sb) hl'' (strs_push hsa' _ _) (fun y hy => ?_) h2 hne hR
          rcases List.mem_append.mp hy with hy | hy
          · exact hyl' y hy
          · rw [List.mem_singleton.mp hy]; exact hrl
        by_cases hlt : st < b
        · rw [if_pos hlt] at h
          rw [if_pos hlt]
          have hex : (⟨x.cps.extract st b⟩ : Str).length ≤ 1000 := by
            show (x.cps.extract st b).size ≤ 1000
            rw [Array.size_extract]
            have : x.cps.size ≤ 1000 := hxs
            omega
          refine wpAny_bind (m := mkStr ⟨x.cps.extract st b⟩) (wpAny_mkStr ?_ (by rw [sizeLine_eq]; omega))
          refine wpAny_bind (wp_append (by exact hl) (by omega) fun h'' k'' hl'' sb => ?_)
          refine tail _ _ _ _ _ (by rw [Array.size_push]; omega) (kept_but hk hl0 sb) hl'' (strs_push hsa _ _) (fun y hy => ?_) h
          rcases List.mem_append.mp hy with hy | hy
          · exact hyl y hy
          · rw [List.mem_singleton.mp hy]; exact hex
        · rw [if_neg hlt, List.append_nil] at h
          rw [if_neg hlt]
          exact tail acc items k s.heap s.toks (by omega) hk hl hsa hyl h
    · rename_i hn
      refine wp_next (r := none) rfl rfl hn ?_
      rintro o ho
      cases o with
      | some m => exact ho.elim
      | none =>
        dsimp only
        have tail : ∀ (items' : Array Value) (k' : Nat) (h' : Heap) (tk : Nat), (∀ b o, h₀.get? b = some o → h'.get? b = some o) → h'.get? l = some (lst items' k') → StrsAre items'.toList res →
            wpAny (model prog w) (A.under (Code.builtin "re.Pattern.sub.loop" ⟨[.ref a, .str x u, .str repl z, .int 0 t1, .int 0 t2, .int n t3, .int (st : Nat) t4, .int (st : Nat) t5, .bool must, .ref l, .bool false], []⟩))
              (mkStr ⟨x.cps.extract 0 0⟩ >>= fun joiner => seqItems? (.ref l) >>= fun its => if (its.getD #[]).isEmpty = true then (pure joiner >>= fun t => ret t) else (call (.builtin "str.join") [joiner, .ref l] >>= fun t => ret t))
              (fun fin s' => match fin with | .done f => R (.ok f) s' | .again c' => c'.quiet = true ∧ codeAny (model prog w) A c' R s') (fun e s' => R (.error e) s') { s with heap := h', toks := tk } := by
          intro items' k' h' tk hk' hl' hsa'
          have e0 : (⟨x.cps.extract 0 0⟩ : Str) = Str.empty := by rw [Array.extract_zero]; rfl
          rw [e0]
          refine wpAny_bind (wpAny_mkStr ?_ (by decide))
          refine wpAny_bind (wpAny_seqItems (by exact hl') rfl ?_)
          have hemp : ¬ ((some items').getD #[]).isEmpty = true := by
            intro h0
            have : items' = #[] := by simpa using h0
            subst this
            have := hsa'.len_eq
            apply hne
            exact List.length_eq_zero_iff.mp this.symm
          rw [if_neg hemp]
          have hl2 : Heap.IsList h' l items' := ⟨_, hl', rfl, _, rfl⟩
          refine wpAny_bind (join_list (by exact hl2) hsa' ?_ ?_)
          · have := sum_le res hlen.1
            have h3 := hlen.2
            have : Str.empty.length = 0 := rfl
            rw [this]
            omega
          · intro t k
            exact wpAny_pure (hR _ _ _ hk')
        by_cases hlt : st < x.cps.size
        · rw [if_pos hlt] at h
          cases h
          rw [if_pos hlt]
          have hex : (⟨x.cps.extract st x.cps.size⟩ : Str).length ≤ 1000 := by
            show (x.cps.extract st x.cps.size).size ≤ 1000
            rw [Array.size_extract]
            have : x.cps.size ≤ 1000 := hxs
            omega
          refine wpAny_bind (m := mkStr ⟨x.cps.extract st x.cps.size⟩) (wpAny_mkStr ?_ (by rw [sizeLine_eq]; omega))
          refine wpAny_bind (wp_append (by exact hl) (by omega) fun h'' k'' hl'' sb => ?_)
          exact tail _ _ _ _ (kept_but hk hl0 sb) hl'' (strs_push hsa _ _)
        · rw [if_neg hlt, List.append_nil] at h
          cases h
          rw [if_neg hlt]
          exact tail items k s.heap s.toks hk hl hsa
end
end

section
open PySem PySem.W PyProof.Rows PySem.Calls PySem.Spec PySem.Builtin PySem.Builtin.Re
theorem no_call_str : typeLookup (.type "str") "__call__" = pure none := by rw [typeLookup_type, builtinLookup_eq_fast]; kernel_rfl
theorem named_sub (a b : Value) : reNamed "re.Pattern.sub" "sub" ["repl", "string", "count"] 2 [a, b] [] = pure [some a, some b, none] := by rfl
section
variable {prog : Program} {w : World} {A : Around} {E : Value → Shared → Prop} {s : Shared}
theorem call_sub {a : Addr} {code : Array Nat} {x repl : Str} {u z : Tok} {res : List Str} {Q : Value → Shared → Prop} (P : Pat s.heap a code) (hxs : x.length ≤ 1000) (hrl : repl.length ≤ 1000) (h92 : repl.cps.contains 92 = false)
    (h : subL code x.cps repl 100 0 false [] = some res) (hne : res ≠ [])
    (hq : ∀ h' tk t, (∀ b o, s.heap.get? b = some o → h'.get? b = some o) → Q (.str (Txt.join Str.empty res) t) { s with heap := h', toks := tk }) :
    wpAny (model prog w) A (call (.builtin "re.Pattern.sub") [.ref a, .str repl z, .str x u]) Q E s := by
  have hT : s.TypeIs (.ref a) "re.Pattern" := by
    obtain ⟨p, f, ct, o, xs, n, h1, h2, h3, h4⟩ := P.ex
    exact ⟨_, h1, rfl⟩
  refine wpAny_call (codeAny_call_builtin slot_sub.plain entry_sub (slot_sub.check _ _ _ _ _ _ _ _ hT (args_sub _ _ _) ?_))
  unfold «re.Pattern.sub» reSubstitute
  dsimp only
  rw [named_sub]
  refine wpAny_bind (wpAny_pure ?_)
  dsimp only
  refine wpAny_bind (wpAny_pure ?_)
  refine wpAny_bind (wpAny_specialOf (typeIs_str _ _ _) no_call_str ?_)
  refine wpAny_bind (m := asStr? (.str repl z)) (wpAny_pure ?_)
  dsimp only
  rw [h92]
  refine wpAny_bind (wpAny_pure ?_)
  refine wpAny_bind (m := pure (Value.str repl z, 0)) (wpAny_pure ?_)
  dsimp only
  refine wpAny_bind (wpAny_holding (wp_target P ?_))
  refine wpAny_bind (wpAny_newList ?_)
  refine wpAny_pure ⟨plainId_quiet (id := "re.Pattern.sub.loop") (by decide +kernel) _, ?_⟩
  refine sub_loop hxs P (l := s.heap.objs.size) (by cases e : s.heap.get? s.heap.objs.size with | none => rfl | some o => exact absurd (Heap.lt_size e) (Nat.lt_irrefl _)) hrl 100 0 false [] #[] 0 0 0 0 0 0 0 res _ (by decide) (fun b o e => Heap.get?_push_of_some _ e) (Heap.get?_push_size _ rfl) .nil (fun _ hy => nomatch hy) h hne ?_
  intro h' tk t hk
  exact hq h' tk t hk
end
end

section
open PySem PySem.W PyProof.Rows PySem.Calls PySem.Spec
theorem top_F4 : True := by
  w_top off
  trivial

def code1 : Array Nat := #[14, 4, 0, 1, 1, 6, 1, 16, 46, 1]
def code2 : Array Nat := #[14, 9, 4, 1, 2, 16, 10, 16, 13, 0, 7, 7, 16, 13, 16, 10, 15, 18, 5, 16, 10, 15, 13, 11, 16, 13, 5, 5, 0, 16, 10, 1, 15, 2, 0, 1]
theorem pat1 {q : Params} {h : Heap} (X : (hd.heap_39 q).In h) : Pat h 70 code1 := by
  have h1 : (hd.heap_39 q).lookup 70 = some { cls := .type "re.Pattern", data := .fields #[.str (Str.ofString "(?m)^\\.") 344, .int 40 357, .int 0 0, .none, .none, .ref 69, .int 0 0] } := by k_is
  have h2 : (hd.heap_39 q).lookup 69 = some { cls := .type "tuple", data := .seq #[.int 14 0, .int 4 0, .int 0 0, .int 1 0, .int 1 0, .int 6 0, .int 1 0, .int 16 0, .int 46 0, .int 1 0] } := by k_is
  exact ⟨_, _, _, _, _, _, X _ _ h1, X _ _ h2, rfl, by decide +kernel⟩
theorem pat2 {q : Params} {h : Heap} (X : (hd.heap_39 q).In h) : Pat h 75 code2 := by
  have h1 : (hd.heap_39 q).lookup 75 = some { cls := .type "re.Pattern", data := .fields #[.str (Str.ofString "(?:\\r\\n|\\n|\\r(?!\\n))") 360, .int 32 399, .int 0 0, .none, .none, .ref 74, .int 0 0] } := by k_is
  have h2 : (hd.heap_39 q).lookup 74 = some { cls := .type "tuple", data := .seq #[.int 14 0, .int 9 0, .int 4 0, .int 1 0, .int 2 0, .int 16 0, .int 10 0, .int 16 0, .int 13 0, .int 0 0, .int 7 0, .int 7 0, .int 16 0, .int 13 0, .int 16 0, .int 10 0, .int 15 0, .int 18 0, .int 5 0, .int 16 0, .int 10 0, .int 15 0, .int 13 0, .int 11 0, .int 16 0, .int 13 0, .int 5 0, .int 5 0, .int 0 0, .int 16 0, .int 10 0, .int 1 0, .int 15 0, .int 2 0, .int 0 0, .int 1 0] } := by k_is
  exact ⟨_, _, _, _, _, _, X _ _ h1, X _ _ h2, rfl, by decide +kernel⟩
section
variable {prog : Program} {w : World} {p : Program} {loose : List Str} {mean : ExcName → Option Value} {mg mb : Str → Option Value}
theorem meth {A : Around} {E : Value → Shared → Prop} {s : Shared} {a : Addr} {code : Array Nat} {pl : Sem Bool} {Q : Value × List Value → Shared → Prop} (P : Pat s.heap a code) (h : Q (.builtin "re.Pattern.sub", [.ref a]) s) :
    wpAny (model prog w) A (getMethod (.ref a) "sub" pl) Q E s := by
  obtain ⟨p, f, ct, o, xs, n, h1, h2, h3, h4⟩ := P.ex
  exact getMethod_builtin (T := "re.Pattern") ⟨_, h1, rfl⟩ pa_pat slot_sub type_sub (fun b e => by cases e; exact ⟨_, h1, rfl⟩) h
theorem call_sub' {A : Around} {Q E : Value → Shared → Prop} {s : Shared} {h₀ : Heap} {L : Addr} {m : Str → Option Value} {news : List (Addr × Obj)} {a : Addr} {code : Array Nat} {x repl : Str} {u z : Tok} {res : List Str} (res' : Str)
    (F : Fr h₀ L s.heap m) (N : News h₀ L s.heap news) (P : Pat s.heap a code) (hxs : x.length ≤ 1000) (hrl : repl.length ≤ 1000) (h92 : repl.cps.contains 92 = false)
    (h : subL code x.cps repl 100 0 false [] = some res) (hne : res ≠ []) (hres : Txt.join Str.empty res = res')
    (hq : ∀ h' tk t, Fr h₀ L h' m → News h₀ L h' news → Q (.str res' t) { s with heap := h', toks := tk }) :
    wpAny (model prog w) A (call (.builtin "re.Pattern.sub") [.ref a, .str repl z, .str x u]) Q E s := by
  subst hres
  exact call_sub P hxs hrl h92 h hne fun h' tk t k => hq h' tk t (fr_after F k) (news_after (tl := []) F N k Made.nil)
/-- what quotedata says of a text, by its two steps -/
def quo (d : Str) : Option Str :=
  match subL code2 d.cps "\r\n" 100 0 false [] with
  | some r => match subL code1 (Txt.join Str.empty r).cps ".." 100 0 false [] with
    | some r' => if (r ≠ [] ∧ r' ≠ []) ∧ (Txt.join Str.empty r).length ≤ 1000 then some (Txt.join Str.empty r') else none
    | none => none
  | none => none
def mail (g n : Nat) : List Nat := [g, 13, 10] ++ List.replicate n 46 ++ [13, 10]
theorem quo_first : ∀ g ∈ [112, 113, 114, 115], quo (sx [g, 10, 46, 13]) = some (sx (mail g 2)) := by decide +kernel
theorem quo_more : ∀ g ∈ [112, 113, 114, 115], ∀ n ∈ [2, 3, 4], quo (sx (mail g n)) = some (sx (mail g (n + 1))) := by decide +kernel
theorem does_quote (d d' : Str) (t : Tok) (hd1 : d.length ≤ 1000) (hq' : quo d = some d') :
    Does prog w (hd.heap_39 w.params) p loose mean mg mb 1 82 [.str d t] (fun _ => True) (fun _ r => ∃ t, r = .str d' t) := by
  intro A₀ s Q E hR XX T hpre hQ
  obtain ⟨dp, fr, gd, un, rfl, hdp, hun⟩ := hR.open
  refine wpAny_call ?_
  k_dflt (refine' enter ?k1 ?k2 ?k3 ?k6 ?k7 ?k9 ?kB ?c5 ?c2 ?c3 ?c4 ?_; (case k1 => assumption); (case k2 => assumption); (case k6 => k_is); (case k7 => k_is); (case k9 => exact BindsTo.of_eq rfl); (case kB => exact locs rfl); (case c2 => exact rfl); (case c3 => exact rfl); (case c4 => exact rfl); (case c5 => decide))
  · (dsimp only); omega
  intro L h₁ tk F N
  k_steps
  rename News _ _ _ _ => N
  rename Fr _ _ _ _ => F
  refine meth (pat1 (fun a o e => F.keep _ _ (XX a o e))) ?_
  k_steps
  rename News _ _ _ _ => N
  rename Fr _ _ _ _ => F
  refine meth (pat2 (fun a o e => F.keep _ _ (XX a o e))) ?_
  k_steps
  rename News _ _ _ _ => N
  rename Fr _ _ _ _ => F
  unfold quo at hq'
  split at hq'
  · rename_i r hr
    split at hq'
    · rename_i r' hr'
      split at hq'
      · rename_i hne
        have hq2 := Option.some.inj hq'
        refine call_sub' _ F N (pat2 (fun a o e => F.keep _ _ (XX a o e))) hd1 (by decide) (by decide +kernel) hr hne.1.1 rfl ?_
        clear F N
        intro h2 tk2 t2 F N
        k_steps
        rename News _ _ _ _ => N
        rename Fr _ _ _ _ => F
        refine call_sub' _ F N (pat1 (fun a o e => F.keep _ _ (XX a o e))) hne.2 (by decide) (by decide +kernel) hr' hne.1.2 hq2 ?_
        clear F N
        intro h2 tk2 t2 F N
        k_steps
        all_goals (try dsimp only)
        exact hQ _ _ _ [] (Fr.keep (by assumption)) Made.nil ⟨_, rfl⟩
      · cases hq'
    · cases hq'
  · cases hq'
end
end

section
open PySem PySem.W PyProof.Rows PySem.Calls PySem.Spec
abbrev WS := List Nat × List Nat × List Nat
def wstep (s : WS) (p : Nat) : WS :=
  if s.1.getD p 0 < s.1.getD (p + 1) 0 then (s.1.take p ++ [s.1.getD (p + 1) 0, s.1.getD p 0] ++ s.1.drop (p + 2), s.2.1.set (s.1.getD (p + 1) 0) (s.2.1.getD (s.1.getD (p + 1) 0) 0 + 1), s.2.2 ++ [97 + p]) else s
def winit : WS := ([0, 1, 2, 3], [2, 2, 2, 2], [])
def wrun (n : Nat) : Nat → WS
  | 0 => winit
  | k + 1 => wstep (wrun n k) (n / 3 ^ k % 3)
def tbl : List WS := (List.range 6).foldl (fun l _ => (l ++ l.flatMap fun s => [wstep s 0, wstep s 1, wstep s 2]).eraseDups) [winit]
def wgood (s : WS) : Bool := s.1.length == 4 && s.1.all (· < 4) && s.2.1.length == 4 && s.2.2.length ≤ 6 && s.2.2.all (fun c => c == 97 || c == 98 || c == 99) &&
  [0, 1, 2].all (fun p => !(decide (s.1.getD p 0 < s.1.getD (p + 1) 0)) || [2, 3, 4].contains (s.2.1.getD (s.1.getD (p + 1) 0) 0))
def tbl1 : List WS := tbl.tail
theorem tbl_good : ∀ s ∈ tbl, wgood s = true := by decide +kernel
theorem tbl_init : winit ∈ tbl := by decide +kernel
theorem tbl_step : ∀ s ∈ tbl, ∀ p ∈ [0, 1, 2], wstep s p ∈ tbl1 := by decide +kernel
theorem wrun_tbl (n : Nat) : ∀ k, wrun n k ∈ tbl
  | 0 => tbl_init
  | k + 1 => List.mem_of_mem_tail (tbl_step _ (wrun_tbl n k) _ (by have := Nat.mod_lt (n / 3 ^ k) (show 0 < 3 by decide); simp; omega))
theorem wrun_tbl1 (n : Nat) : wrun n 7 ∈ tbl1 := tbl_step _ (wrun_tbl n 6) _ (by have := Nat.mod_lt (n / 3 ^ 6) (show 0 < 3 by decide); simp; omega)
def mailsOf (d : List Nat) : List Str := List.zipWith (fun g d => sx (mail g d)) [112, 113, 114, 115] d
theorem pow_facts (n i : Nat) (hi : i < 7) : (1 : Int) ≤ 3 ^ ((i : Nat) : Int).toNat ∧ (3 : Int) ^ ((i : Nat) : Int).toNat ≤ 729 ∧ ((n : Int).fdiv (3 ^ ((i : Nat) : Int).toNat)).fmod 3 = ((n / 3 ^ i % 3 : Nat) : Int) := by
  have : i = 0 ∨ i = 1 ∨ i = 2 ∨ i = 3 ∨ i = 4 ∨ i = 5 ∨ i = 6 := by omega
  rcases this with rfl | rfl | rfl | rfl | rfl | rfl | rfl
  · refine ⟨by decide, by decide, ?_⟩; rw [show (3 : Int) ^ ((0 : Nat) : Int).toNat = 1 from by decide, Int.fmod_eq_emod_of_nonneg _ (by decide), Int.fdiv_eq_ediv_of_nonneg _ (by decide), show (3 : Nat) ^ 0 = 1 from by decide]; omega
  · refine ⟨by decide, by decide, ?_⟩; rw [show (3 : Int) ^ ((1 : Nat) : Int).toNat = 3 from by decide, Int.fmod_eq_emod_of_nonneg _ (by decide), Int.fdiv_eq_ediv_of_nonneg _ (by decide), show (3 : Nat) ^ 1 = 3 from by decide]; omega
  · refine ⟨by decide, by decide, ?_⟩; rw [show (3 : Int) ^ ((2 : Nat) : Int).toNat = 9 from by decide, Int.fmod_eq_emod_of_nonneg _ (by decide), Int.fdiv_eq_ediv_of_nonneg _ (by decide), show (3 : Nat) ^ 2 = 9 from by decide]; omega
  · refine ⟨by decide, by decide, ?_⟩; rw [show (3 : Int) ^ ((3 : Nat) : Int).toNat = 27 from by decide, Int.fmod_eq_emod_of_nonneg _ (by decide), Int.fdiv_eq_ediv_of_nonneg _ (by decide), show (3 : Nat) ^ 3 = 27 from by decide]; omega
  · refine ⟨by decide, by decide, ?_⟩; rw [show (3 : Int) ^ ((4 : Nat) : Int).toNat = 81 from by decide, Int.fmod_eq_emod_of_nonneg _ (by decide), Int.fdiv_eq_ediv_of_nonneg _ (by decide), show (3 : Nat) ^ 4 = 81 from by decide]; omega
  · refine ⟨by decide, by decide, ?_⟩; rw [show (3 : Int) ^ ((5 : Nat) : Int).toNat = 243 from by decide, Int.fmod_eq_emod_of_nonneg _ (by decide), Int.fdiv_eq_ediv_of_nonneg _ (by decide), show (3 : Nat) ^ 5 = 243 from by decide]; omega
  · refine ⟨by decide, by decide, ?_⟩; rw [show (3 : Int) ^ ((6 : Nat) : Int).toNat = 729 from by decide, Int.fmod_eq_emod_of_nonneg _ (by decide), Int.fdiv_eq_ediv_of_nonneg _ (by decide), show (3 : Nat) ^ 6 = 729 from by decide]; omega
theorem getD_ofNat (l : List Nat) (k : Nat) : (l.map Int.ofNat).getD k 0 = ((l.getD k 0 : Nat) : Int) := by
  rw [List.getD_eq_getElem?_getD, List.getD_eq_getElem?_getD, List.getElem?_map]
  cases l[k]? <;> rfl
theorem good_at {s : WS} (h : s ∈ tbl) : s.1.length = 4 ∧ (∀ k, s.1.getD k 0 < 4) ∧ s.2.1.length = 4 ∧ s.2.2.length ≤ 6 ∧ (∀ c ∈ s.2.2, c = 97 ∨ c = 98 ∨ c = 99) ∧
    (∀ p, p < 3 → s.1.getD p 0 < s.1.getD (p + 1) 0 → s.2.1.getD (s.1.getD (p + 1) 0) 0 ∈ [2, 3, 4]) := by
  have g := tbl_good s h
  unfold wgood at g
  simp only [Bool.and_eq_true, beq_iff_eq, List.all_eq_true, decide_eq_true_eq, Bool.or_eq_true] at g
  obtain ⟨⟨⟨⟨⟨g1, g2⟩, g3⟩, g4⟩, g5⟩, g6⟩ := g
  refine ⟨g1, fun k => ?_, g3, g4, fun c hc => ?_, fun p hp hlt => ?_⟩
  · rw [List.getD_eq_getElem?_getD]
    cases e : s.1[k]? with
    | none => decide
    | some a => exact g2 a (List.mem_of_getElem? e)
  · have := g5 c hc
    rcases this with (h | h) | h
    · exact .inl h
    · exact .inr (.inl h)
    · exact .inr (.inr h)
  · have := g6 p (by simp; omega)
    rcases this with h | h
    · simp only [Bool.not_eq_true', decide_eq_false_iff_not] at h; exact absurd hlt h
    · simpa using h
theorem wstep_eq (s : WS) (p : Nat) : wstep s p = if s.1.getD p 0 < s.1.getD (p + 1) 0 then (s.1.take p ++ [s.1.getD (p + 1) 0, s.1.getD p 0] ++ s.1.drop (p + 2), s.2.1.set (s.1.getD (p + 1) 0) (s.2.1.getD (s.1.getD (p + 1) 0) 0 + 1), s.2.2 ++ [97 + p]) else s := rfl
theorem strs_get : ∀ {vs : List Value} {ys : List Str} {i : Nat} {y : Str}, StrsAre vs ys → ys[i]? = some y → ∃ t, vs[i]? = some (.str y t)
  | _, _, _, _, .nil, h => by simp at h
  | _, _, 0, _, .cons x t hs, h => by simp at h; subst h; exact ⟨t, rfl⟩
  | _, _, i + 1, _, .cons x t hs, h => by simpa using strs_get hs (by simpa using h)
theorem strs_set : ∀ {vs : List Value} {ys : List Str} (i : Nat) (y : Str) (t : Tok), StrsAre vs ys → StrsAre (vs.set i (.str y t)) (ys.set i y)
  | _, _, _, _, _, .nil => .nil
  | _, _, 0, y, t, .cons _ _ hs => .cons y t hs
  | _, _, i + 1, y, t, .cons x u hs => .cons x u (strs_set i y t hs)
theorem mails_get {d : List Nat} (h : d.length = 4) {r : Nat} (hr : r < 4) : (mailsOf d)[r]? = some (sx (mail (112 + r) (d.getD r 0))) := by
  match d, h with
  | [a, b, c, e], _ =>
    have : r = 0 ∨ r = 1 ∨ r = 2 ∨ r = 3 := by omega
    rcases this with rfl | rfl | rfl | rfl <;> rfl
theorem mails_set {d : List Nat} (h : d.length = 4) {r : Nat} (hr : r < 4) (k : Nat) : (mailsOf d).set r (sx (mail (112 + r) k)) = mailsOf (d.set r k) := by
  match d, h with
  | [a, b, c, e], _ =>
    have : r = 0 ∨ r = 1 ∨ r = 2 ∨ r = 3 := by omega
    rcases this with rfl | rfl | rfl | rfl <;> rfl
theorem quo_at {r d : Nat} (hr : r < 4) (hd : d ∈ [2, 3, 4]) : quo (sx (mail (112 + r) d)) = some (sx (mail (112 + r) (d + 1))) := quo_more _ (by simp; omega) _ hd
theorem mail_len (g d : Nat) : (sx (mail g d)).length = d + 5 := by rw [sx_len, mail]; simp
theorem le4 {d : Nat} (h : d ∈ [2, 3, 4]) : d ≤ 4 := by simp at h; omega
theorem sx_append (a b : List Nat) : sx a ++ sx b = sx (a ++ b) := by
  show (⟨a.toArray ++ b.toArray⟩ : Str) = ⟨(a ++ b).toArray⟩
  simp
theorem item_abc {p : Nat} (h : p < 3) : Txt.item "abc" (p : Int) = sx [97 + p] := by
  have : p = 0 ∨ p = 1 ∨ p = 2 := by omega
  rcases this with rfl | rfl | rfl <;> decide +kernel
end

section
open PySem PySem.W PyProof.Rows PySem.Calls PySem.Spec
/-- orders by dots, as written -/
def lword (i : Nat) : Nat → List Nat
  | 0 => []
  | k + 1 => lword i k ++ [97 + (i - 1 - k)]
def lrun (ds : List Nat) : Nat → List Nat × List Nat
  | 0 => ([], [])
  | i + 1 => ((lrun ds i).1.take (i - ds.getD i 0) ++ [i] ++ (lrun ds i).1.drop (i - ds.getD i 0), (lrun ds i).2 ++ lword i (ds.getD i 0))
theorem lword_len (i : Nat) : ∀ k, (lword i k).length = k
  | 0 => rfl
  | k + 1 => by rw [lword, List.length_append, lword_len i k]; rfl
theorem lrun_len (ds : List Nat) (h : ∀ i, ds.getD i 0 ≤ i) : ∀ i, (lrun ds i).1.length = i ∧ (lrun ds i).2.length ≤ i * i
  | 0 => ⟨rfl, Nat.le_refl _⟩
  | i + 1 => by
    have ih := lrun_len ds h i
    have hd := h i
    constructor
    · rw [lrun]; simp only [List.length_append, List.length_take, List.length_drop, List.length_singleton]; omega
    · rw [lrun]; simp only [List.length_append, lword_len]
      have e : (i + 1) * (i + 1) = i * i + i + i + 1 := by rw [Nat.add_mul, Nat.mul_add]; omega
      omega
theorem item_abc' {j : Int} (h0 : 0 ≤ j) (h1 : j < 3) : Txt.item "abc" j = sx [97 + j.toNat] := by
  have := item_abc (p := j.toNat) (by omega)
  rw [Int.toNat_of_nonneg h0] at this
  exact this
theorem ints_get {vs : List Value} {ds : List Nat} (h : IntsAre vs (ds.map Int.ofNat)) {i : Nat} (hi : i < ds.length) : ∃ t, vs[i]? = some (.int (ds.getD i 0 : Nat) t) := by
  have hl : vs.length = ds.length := by have := h.length; rw [List.length_map] at this; exact this
  have e : vs[i]? = some vs[i] := List.getElem?_eq_getElem (by omega)
  obtain ⟨t, ht⟩ := h.int_at i _ e
  rw [getD_ofNat] at ht
  exact ⟨t, by rw [e, ht]⟩
end

section
open PySem PySem.W PyProof.Rows PySem.Calls PySem.Spec
/-- bisection, as written -/
def bisl (xs : List Int) (x : Int) : Nat → Int → Int → Int
  | 0, lo, _ => lo
  | k + 1, lo, hi => if lo < hi then (if xs.getD ((lo + hi) / 2).toNat 0 < x then bisl xs x k ((lo + hi) / 2 + 1) hi else bisl xs x k lo ((lo + hi) / 2)) else lo
def bisr (xs : List Int) (x : Int) : Nat → Int → Int → Int
  | 0, lo, _ => lo
  | k + 1, lo, hi => if lo < hi then (if x < xs.getD ((lo + hi) / 2).toNat 0 then bisr xs x k lo ((lo + hi) / 2) else bisr xs x k ((lo + hi) / 2 + 1) hi) else lo
theorem bisl_more {xs : List Int} {x : Int} : ∀ (k : Nat) (lo hi : Int), hi - lo ≤ k → bisl xs x k lo hi = bisl xs x (k + 1) lo hi
  | 0, lo, hi, h => by unfold bisl; rw [if_neg (by omega)]
  | k + 1, lo, hi, h => by
    rw [bisl, bisl]
    split
    · rw [bisl_more k _ _ (by omega), bisl_more k _ _ (by omega)]
    · rfl
theorem bisl_big {xs : List Int} {x : Int} {k : Nat} {lo hi : Int} : ∀ (d : Nat) (_ : hi - lo ≤ k), bisl xs x (k + d) lo hi = bisl xs x k lo hi
  | 0, _ => rfl
  | d + 1, h => by rw [← bisl_big d h]; exact (bisl_more (k + d) lo hi (by omega)).symm
theorem bisl_any {xs : List Int} {x : Int} {lo hi : Int} {k f : Nat} (hk : hi - lo ≤ k) (hf : hi - lo ≤ f) : bisl xs x f lo hi = bisl xs x k lo hi := by
  rcases Nat.le_total k f with h | h
  · have := bisl_big (xs := xs) (x := x) (f - k) hk
    rw [show k + (f - k) = f from by omega] at this
    exact this
  · have := bisl_big (xs := xs) (x := x) (k - f) hf
    rw [show f + (k - f) = k from by omega] at this
    exact this.symm
theorem bisr_more {xs : List Int} {x : Int} : ∀ (k : Nat) (lo hi : Int), hi - lo ≤ k → bisr xs x k lo hi = bisr xs x (k + 1) lo hi
  | 0, lo, hi, h => by unfold bisr; rw [if_neg (by omega)]
  | k + 1, lo, hi, h => by
    rw [bisr, bisr]
    split
    · rw [bisr_more k _ _ (by omega), bisr_more k _ _ (by omega)]
    · rfl
theorem bisr_big {xs : List Int} {x : Int} {k : Nat} {lo hi : Int} : ∀ (d : Nat) (_ : hi - lo ≤ k), bisr xs x (k + d) lo hi = bisr xs x k lo hi
  | 0, _ => rfl
  | d + 1, h => by rw [← bisr_big d h]; exact (bisr_more (k + d) lo hi (by omega)).symm
theorem bisr_any {xs : List Int} {x : Int} {lo hi : Int} {k f : Nat} (hk : hi - lo ≤ k) (hf : hi - lo ≤ f) : bisr xs x f lo hi = bisr xs x k lo hi := by
  rcases Nat.le_total k f with h | h
  · have := bisr_big (xs := xs) (x := x) (f - k) hk
    rw [show k + (f - k) = f from by omega] at this
    exact this
  · have := bisr_big (xs := xs) (x := x) (k - f) hf
    rw [show f + (k - f) = k from by omega] at this
    exact this.symm
theorem bisr_le {xs : List Int} {x : Int} : ∀ (k : Nat) (lo hi : Int), lo ≤ hi → lo ≤ bisr xs x k lo hi ∧ bisr xs x k lo hi ≤ hi
  | 0, lo, hi, h => by unfold bisr; omega
  | k + 1, lo, hi, h => by
    unfold bisr
    split
    · have h1 := bisr_le (xs := xs) (x := x) k lo ((lo + hi) / 2) (by omega)
      have h2 := bisr_le (xs := xs) (x := x) k ((lo + hi) / 2 + 1) hi (by omega)
      split <;> omega
    · omega
end

section
open PySem PySem.W PyProof.Rows PySem.Calls PySem.Spec
def insR (xs : List Int) (x : Int) : List Int := xs.take (bisr xs x xs.length 0 xs.length).toNat ++ [x] ++ xs.drop (bisr xs x xs.length 0 xs.length).toNat
def seenOf (ord : List Nat) : Nat → List Int
  | 0 => []
  | j + 1 => insR (seenOf ord j) (ord.getD (3 - j) 0 : Nat)
def behindOf (ord : List Nat) (place : Nat) : List Nat := (ord.drop place).filter (fun o => decide (o < ord.getD place 0))
theorem counted_tbl : ∀ st ∈ tbl, (∀ j ∈ [0, 1, 2, 3], bisl (seenOf st.1 j) (st.1.getD (3 - j) 0 : Nat) (seenOf st.1 j).length 0 (seenOf st.1 j).length = ((behindOf st.1 (3 - j)).length : Int) ∧ (behindOf st.1 (3 - j)).length ≤ 3 ∧ (seenOf st.1 j).length = j ∧
    st.2.1.getD (st.1.getD (3 - j) 0) 0 = 2 + (behindOf st.1 (3 - j)).length) ∧ seenOf st.1 4 = [0, 1, 2, 3] := by decide +kernel
theorem counted_at {st : WS} (h : st ∈ tbl) {j : Nat} (hj : j < 4) : bisl (seenOf st.1 j) (st.1.getD (3 - j) 0 : Nat) (seenOf st.1 j).length 0 (seenOf st.1 j).length = ((behindOf st.1 (3 - j)).length : Int) ∧ (behindOf st.1 (3 - j)).length ≤ 3 ∧ (seenOf st.1 j).length = j ∧
    st.2.1.getD (st.1.getD (3 - j) 0) 0 = 2 + (behindOf st.1 (3 - j)).length := (counted_tbl st h).1 j (by simp; omega)
theorem mail_txt : ∀ r ∈ [0, 1, 2, 3], ∀ b ∈ [0, 1, 2, 3], Txt.item (Str.ofString "pqrs") ((r : Nat) : Int) ++ Str.ofString "\r\n" ++ Txt.mul (Str.ofString ".") (2 + ((b : Nat) : Int)) ++ Str.ofString "\r\n" = sx (mail (112 + r) (2 + b)) := by decide +kernel
theorem mail_text {r b : Nat} (hr : r < 4) (hb : b < 4) : Txt.item (Str.ofString "pqrs") ((r : Nat) : Int) ++ Str.ofString "\r\n" ++ Txt.mul (Str.ofString ".") (2 + ((b : Nat) : Int)) ++ Str.ofString "\r\n" = sx (mail (112 + r) (2 + b)) := mail_txt r (by simp; omega) b (by simp; omega)
theorem same_items {vs ws : List Value} (hl : vs.length = ws.length) (h : ∀ (j : Nat) (v : Value), vs[j]? = some v → ws[j]? = some v) : vs = ws := by
  apply List.ext_getElem? 
  intro j
  cases e : vs[j]? with
  | some v => exact (h j v e).symm
  | none =>
    rw [List.getElem?_eq_none_iff] at e
    exact (List.getElem?_eq_none_iff.mpr (by omega)).symm
theorem paired_len {G : Value → Value → Prop} : ∀ {vs ys : List Value}, Paired G vs ys → ys.length = vs.length
  | _, _, .nil => rfl
  | _, _, .cons _ h => by simp [paired_len h]
def ltp (r : Nat) : Value → Bool
  | .int x _ => decide (x < ((r : Nat) : Int))
  | _ => false
theorem behind_len {r : Nat} : ∀ {ws : List Value} {l : List Nat}, IntsAre ws (l.map Int.ofNat) →
    (ws.filter (ltp r)).length = (l.filter (fun o => decide (o < r))).length
  | _, [], h => by have := h.nil_inv; subst this; rfl
  | _, a :: l, h => by
    obtain ⟨t, ws, rfl, h'⟩ := h.cons_inv
    have ih := behind_len (r := r) h'
    by_cases hc : a < r
    · rw [List.filter_cons_of_pos (by simpa [ltp] using hc), List.filter_cons_of_pos (by simpa using hc), List.length_cons, List.length_cons, ih]
    · rw [List.filter_cons_of_neg (by simpa [ltp] using hc), List.filter_cons_of_neg (by simpa using hc), ih]
end

section
open PySem PySem.W PyProof.Rows PySem.Calls PySem.Spec
/-- the shortest words of an order, as written -/
def lowr (o : List Nat) (p : Nat) : List Nat := o.take p ++ [o.getD (p + 1) 0, o.getD p 0] ++ o.drop (p + 2)
def shoW (f : List Nat → List (List Nat)) (o : List Nat) : Nat → List (List Nat)
  | 0 => []
  | p + 1 => if o.getD p 0 > o.getD (p + 1) 0 then shoW f o p ++ (f (lowr o p)).map (· ++ [97 + p]) else shoW f o p
def shoN : Nat → List Nat → List (List Nat)
  | 0, _ => []
  | k + 1, o => if shoW (shoN k) o 3 = [] then [[]] else shoW (shoN k) o 3
def sho (o : List Nat) : List (List Nat) := shoN 7 o
def shoP (o : List Nat) (p : Nat) : List (List Nat) := shoW sho o p
def invs (o : List Nat) : Nat := ([(0, 1), (0, 2), (0, 3), (1, 2), (1, 3), (2, 3)].filter fun x => decide (o.getD x.1 0 > o.getD x.2 0)).length
def orders : List (List Nat) := (tbl.map (·.1)).eraseDups
theorem orders_sho : ∀ o ∈ orders, o.length = 4 ∧ sho o = (if shoP o 3 = [] then [[]] else shoP o 3) ∧ (sho o).length ≤ 16 ∧ (∀ w ∈ sho o, w.length ≤ 6) ∧ (∀ p ∈ [0, 1, 2, 3], (shoP o p).length ≤ 16 ∧ (∀ w ∈ shoP o p, w.length ≤ 6)) ∧
    (∀ p ∈ [0, 1, 2], o.getD p 0 > o.getD (p + 1) 0 → lowr o p ∈ orders ∧ invs (lowr o p) < invs o ∧ (∀ w ∈ sho (lowr o p), w.length ≤ 5)) ∧ invs o ≤ 6 := by decide +kernel
theorem orders_ok : ∀ o ∈ orders, ∀ w ∈ shoP o 3, PyData.strOk (sx w) = true := by decide +kernel
theorem strs_at : ∀ {vs : List Value} {l : List (List Nat)} {j : Nat} {v : Value}, StrsAre vs (l.map sx) → vs[j]? = some v → ∃ c t, v = .str (sx c) t ∧ l[j]? = some c
  | _, [], _, _, h, e => by have := h.nil_inv; subst this; simp at e
  | _, c :: l, 0, _, h, e => by
    obtain ⟨t, vs, rfl, _⟩ := h.cons_inv
    simp at e
    exact ⟨c, t, e.symm, rfl⟩
  | _, c :: l, j + 1, _, h, e => by
    obtain ⟨t, vs, rfl, h'⟩ := h.cons_inv
    have := strs_at (j := j) h' (by simpa using e)
    simpa using this
theorem strs_pair {g : List Nat → List Nat} : ∀ {vs : List Value} {l : List (List Nat)} {ys : List Value}, StrsAre vs (l.map sx) → Paired (fun v y => ∃ c t u, v = .str (sx c) t ∧ y = .str (sx (g c)) u) vs ys → StrsAre ys ((l.map g).map sx)
  | _, [], ys, h, hp => by
    have := h.nil_inv
    subst this
    cases hp
    exact .nil
  | _, c :: l, ys, h, hp => by
    obtain ⟨t, vs, rfl, h'⟩ := h.cons_inv
    cases hp with
    | cons hF ht =>
      obtain ⟨c2, t2, u, e, rfl⟩ := hF
      have e3 : c = c2 := by
        injection e with e1 _
        exact sx_inj.mp e1
      subst e3
      exact .cons _ _ (strs_pair h' ht)
end

section
open PySem PySem.W PyProof.Rows PySem.Calls PySem.Spec PySem.Builtin PySem.Builtin.Str
/-- the first place of a sign from i on -/
def ffrom (c : Nat) : List Nat → Nat → Nat → Option Nat
  | [], _, _ => none
  | a :: r, i, k => if i ≤ k ∧ a = c then some k else ffrom c r i (k + 1)
theorem gives_find4 (x y : Str) (i j : Int) (t u v z : Tok) (hj : j = x.length) : Gives («str.find» ⟨[.str x t, .str y u, .int i v, .int j z], []⟩) (.int (Txt.find3 x y i)) := by
  have e : min (fromIndex x.length j) x.length = x.length := by subst hj; unfold fromIndex; split <;> omega
  show Gives (match occurrences x y (fromIndex x.length i) (min (fromIndex x.length j) x.length) 1 with | k :: _ => retInt k | [] => (do rule "str.find.not-found"; retInt (-1))) _
  rw [e]
  unfold Txt.find3
  cases occurrences x y (fromIndex x.length i) x.length 1 with
  | nil => exact .rule (.of_eq rfl)
  | cons k _ => exact .of_eq rfl
section
variable {prog : Program} {w : World} {A : Around} {E : Value → Shared → Prop} {s : Shared} {x y : Str} {t u v z : Tok} {i j : Int} {Q : Value → Shared → Prop}
theorem find4 (hj : j = x.length) (hq : Q (.int (Txt.find3 x y i) s.toks) { s with toks := s.toks + 1 }) : wpAny (model prog w) A (call (.builtin "str.find") [.str x t, .str y u, .int i v, .int j z]) Q E s :=
  call_gives F.slot_str_find (typeIs_str _ _ _) F.entry_str_find (F.args_str_find_4 _ _ _ _) (gives_find4 x y i j t u v z hj) hq
end
/-- text by text, each behind the one before -/
def findAll (got : Str) : List Str → Int → Bool
  | [], _ => true
  | w :: r, p => if Txt.find3 got w p < 0 then false else findAll got r (Txt.find3 got w p + w.length)
def ell (got f : Str) (mid : List Str) : Bool :=
  if f = Str.empty then findAll got (Str.empty :: (mid ++ [Str.empty])) 0
  else if Txt.startswith got f then findAll got (mid ++ [Str.empty]) f.length else false
theorem find3_le (x y : Str) (p : Int) : Txt.find3 x y p + y.length ≤ x.length ∨ Txt.find3 x y p < 0 := by
  unfold Txt.find3
  rcases PySem.StrLaws.occ_head_from x y (fromIndex x.length p) 1 (Nat.le_refl _) with ⟨h, _⟩ | ⟨i, r, h, _, ha, _⟩
  · rw [h]; right; decide
  · rw [h]; left; have := ha.1; simp only; omega
theorem strs_snoc : ∀ {r : List Str} {vs : List Value} {x : Str}, StrsAre vs (r ++ [x]) → ∃ ys t, vs = ys ++ [Value.str x t] ∧ StrsAre ys r
  | [], vs, x, h => by
    obtain ⟨t, vs', e, h'⟩ := h.cons_inv
    have := h'.nil_inv
    subst this
    exact ⟨[], t, e, .nil⟩
  | a :: r, vs, x, h => by
    obtain ⟨t, vs', e, h'⟩ := h.cons_inv
    obtain ⟨ys, t', e', h''⟩ := strs_snoc h'
    exact ⟨.str a t :: ys, t', by rw [e, e']; rfl, .cons a t h''⟩
theorem at_last (ys : List Value) (v : Value) : (ys ++ [v])[((-1 : Int) + ((ys ++ [v]).length : Int)).toNat]? = some v := by
  have e : ((-1 : Int) + ((ys ++ [v]).length : Int)).toNat = ys.length := by rw [List.length_append, List.length_singleton]; omega
  rw [e]; simp
end

section
open PySem PySem.W PyProof.Rows PySem.Calls PySem.Spec
/-- a word within a whole, as written -/
def midOf (w : List Nat) : List Str := if w = [] then [Str.empty] else w.map (fun c => sx [c])
def fits (w W : List Nat) : Bool := ell (sx W) Str.empty (midOf w)
def gapOf (w W : List Nat) : Int := 2 * ((W.length : Int) - (w.length : Int))
def alike (w W : List Nat) : Bool := fits w W == decide (lev w W (gapOf w W) = gapOf w W)
def joinW (w : List Nat) : List Nat := w.flatMap (fun c => [c, 46, 46, 46])
def patt (w : List Nat) : Str := sx ([46, 46, 46] ++ (if w = [] then [46, 46, 46] else joinW w))
def isWord (w : List Nat) : Bool := decide (w.length ≤ 6) && w.all (fun c => c == 97 || c == 98 || c == 99)
def shwords : List (List Nat) := (orders.flatMap sho)
/-- a claim on a list, from claims on its pieces (small pieces: the kernel decides each by itself) -/
theorem halves {α : Type} {P : α → Prop} (n : Nat) {l : List α} (h1 : ∀ x ∈ l.take n, P x) (h2 : ∀ x ∈ l.drop n, P x) : ∀ x ∈ l, P x := fun x hx => by
  rw [← List.take_append_drop n l] at hx
  rcases List.mem_append.mp hx with h | h
  · exact h1 x h
  · exact h2 x h
theorem patt_facts1 : ∀ w ∈ (shwords.take 22), Txt.split (patt w) (Str.ofString "...") = Str.empty :: (midOf w ++ [Str.empty]) ∧ (Builtin.Str.occurrences (patt w) (Str.ofString "...") 0 (patt w).length 1).isEmpty = false ∧ isWord w = true ∧ (patt w).length ≤ 1000 ∧ (midOf w).length ≤ 1000 ∧ (∀ x ∈ midOf w, x.length ≤ 1000) ∧
    Str.ofString "..." ++ Txt.join (Str.ofString "...") (w.map fun k => sx [k]) ++ Str.ofString "..." = patt w := by decide +kernel
theorem patt_facts2 : ∀ w ∈ ((shwords.drop 22).take 22), Txt.split (patt w) (Str.ofString "...") = Str.empty :: (midOf w ++ [Str.empty]) ∧ (Builtin.Str.occurrences (patt w) (Str.ofString "...") 0 (patt w).length 1).isEmpty = false ∧ isWord w = true ∧ (patt w).length ≤ 1000 ∧ (midOf w).length ≤ 1000 ∧ (∀ x ∈ midOf w, x.length ≤ 1000) ∧
    Str.ofString "..." ++ Txt.join (Str.ofString "...") (w.map fun k => sx [k]) ++ Str.ofString "..." = patt w := by decide +kernel
theorem patt_facts3 : ∀ w ∈ ((shwords.drop 22).drop 22), Txt.split (patt w) (Str.ofString "...") = Str.empty :: (midOf w ++ [Str.empty]) ∧ (Builtin.Str.occurrences (patt w) (Str.ofString "...") 0 (patt w).length 1).isEmpty = false ∧ isWord w = true ∧ (patt w).length ≤ 1000 ∧ (midOf w).length ≤ 1000 ∧ (∀ x ∈ midOf w, x.length ≤ 1000) ∧
    Str.ofString "..." ++ Txt.join (Str.ofString "...") (w.map fun k => sx [k]) ++ Str.ofString "..." = patt w := by decide +kernel
theorem patt_facts : ∀ w ∈ shwords, Txt.split (patt w) (Str.ofString "...") = Str.empty :: (midOf w ++ [Str.empty]) ∧ (Builtin.Str.occurrences (patt w) (Str.ofString "...") 0 (patt w).length 1).isEmpty = false ∧ isWord w = true ∧ (patt w).length ≤ 1000 ∧ (midOf w).length ≤ 1000 ∧ (∀ x ∈ midOf w, x.length ≤ 1000) ∧
    Str.ofString "..." ++ Txt.join (Str.ofString "...") (w.map fun k => sx [k]) ++ Str.ofString "..." = patt w := halves 22 patt_facts1 (halves 22 patt_facts2 patt_facts3)
theorem signs_sx (c : List Nat) : signs (sx c) = c.map fun k => sx [k] := by
  unfold signs sx
  simp
theorem ones_sum : ∀ c : List Nat, ((c.map fun k => sx [k]).map (·.length)).sum = c.length
  | [] => rfl
  | a :: c => by
    have := ones_sum c
    simp only [List.map_cons, List.sum_cons, this, sx_len, List.length_cons, List.length_nil]
    omega
theorem isWord_sigma {w : List Nat} (h : isWord w = true) : w.length ≤ 6 ∧ ∀ c ∈ w, c ∈ sigma := by
  unfold isWord at h
  simp only [Bool.and_eq_true, decide_eq_true_eq, List.all_eq_true, Bool.or_eq_true, beq_iff_eq] at h
  refine ⟨h.1, fun c hc => ?_⟩
  rcases h.2 c hc with (e | e) | e <;> (subst e; decide)
end

section
open PySem PySem.W PyProof.Rows PySem.Calls PySem.Spec
/-- what an order turns round, as written -/
def tIn (o : List Nat) (i : Nat) : Nat → List (Nat × Nat)
  | 0 => []
  | m + 1 => tIn o i m ++ (if o.getD i 0 > o.getD (i + 1 + m) 0 then [(o.getD i 0, o.getD (i + 1 + m) 0)] else [])
def tOut (o : List Nat) : Nat → List (Nat × Nat)
  | 0 => []
  | i + 1 => tOut o i ++ tIn o i (3 - i)
def pd (x : Nat × Nat) : Dat := .list [.int (x.1 : Nat), .int (x.2 : Nat)]
theorem DatAll.snoc {els : List (Addr × Obj)} {v : Value} {d : Dat} (hv : DatIn els v d) : ∀ {vs : List Value} {ds : List Dat}, DatAll els vs ds → DatAll els (vs ++ [v]) (ds ++ [d])
  | _, _, .nil => .cons hv .nil
  | _, _, .cons h r => .cons h (DatAll.snoc hv r)
theorem DatAll.len {els : List (Addr × Obj)} : ∀ {vs : List Value} {ds : List Dat}, DatAll els vs ds → vs.length = ds.length
  | _, _, .nil => rfl
  | _, _, .cons _ r => by simp [DatAll.len r]
theorem tIn_len (o : List Nat) (i : Nat) : ∀ m, (tIn o i m).length ≤ m
  | 0 => Nat.le_refl _
  | m + 1 => by
    have := tIn_len o i m
    rw [tIn, List.length_append]
    split <;> simp <;> omega
theorem tOut_len (o : List Nat) : ∀ i, (tOut o i).length ≤ 3 * i
  | 0 => Nat.le_refl _
  | i + 1 => by
    have := tOut_len o i
    have h2 := tIn_len o i (3 - i)
    rw [tOut, List.length_append]
    omega
end

section
open PySem PySem.W PyProof.Rows PySem.Calls PySem.Spec
def SmallInt (_ y : Value) : Prop := ∃ k t, y = .int k t ∧ 0 ≤ k ∧ k < 2187
theorem small_mod (x : Int) : 0 ≤ x.fmod 2187 ∧ x.fmod 2187 < 2187 := by
  rw [Int.fmod_eq_emod_of_nonneg _ (by decide)]; omega
theorem SmallInt.mod (v : Value) (x : Int) (t : Tok) : SmallInt v (.int (x.fmod 2187) t) := ⟨_, _, rfl, small_mod x⟩
theorem ints_of_small : ∀ {vs ys : List Value}, Paired SmallInt vs ys → ∃ ks, IntsAre ys ks ∧ (∀ k ∈ ks, 0 ≤ k ∧ k < 2187)
  | _, _, .nil => ⟨[], .nil, fun _ h => nomatch h⟩
  | _, _, .cons h r => by
    obtain ⟨k, t, rfl, hk⟩ := h
    obtain ⟨ks, h1, h2⟩ := ints_of_small r
    refine ⟨k :: ks, .cons k t h1, fun x hx => ?_⟩
    rcases List.mem_cons.mp hx with e | hx
    · rw [e]; exact hk
    · exact h2 x hx
theorem sum_small : ∀ (ks : List Int), (∀ k ∈ ks, 0 ≤ k ∧ k < 2187) → 0 ≤ ks.sum ∧ ks.sum ≤ 2187 * (ks.length : Int)
  | [], _ => by simp
  | k :: ks, h => by
    have h1 := h k (.head _)
    have h2 := sum_small ks (fun x hx => h x (.tail _ hx))
    simp only [List.sum_cons, List.length_cons]
    omega
end

section
open PySem PySem.W PyProof.Rows PySem.Calls PySem.Spec
theorem rs2 (a : Int) (ha : a = 0 ∨ a = 1) (m : Nat) (hm : m ≤ 12) : ∃ n : Nat, n ≤ 6 ∧ Builtin.Range.small a (m : Nat) 2 = true ∧ Builtin.Range.rangeSize a (m : Nat) 2 = (n : Int) ∧ ∀ i < n, a + (i : Nat) * 2 < (m : Nat) := by
  have h : ∀ m ∈ List.range 13, ∀ a ∈ [(0 : Int), 1], Builtin.Range.small a (m : Nat) 2 = true ∧ 0 ≤ Builtin.Range.rangeSize a (m : Nat) 2 ∧ Builtin.Range.rangeSize a (m : Nat) 2 ≤ 6 ∧ ∀ i ∈ List.range (Builtin.Range.rangeSize a (m : Nat) 2).toNat, a + ((i : Nat) : Int) * 2 < (m : Nat) := by decide +kernel
  obtain ⟨h1, h2, h3, h4⟩ := h m (by simp; omega) a (by simpa using ha)
  refine ⟨(Builtin.Range.rangeSize a (m : Nat) 2).toNat, by omega, h1, by omega, fun i hi => h4 i (by simpa using hi)⟩
theorem getD_small {ks : List Int} (h : ∀ k ∈ ks, 0 ≤ k ∧ k < 2187) (v : Value) (i : Nat) (t : Tok) : SmallInt v (.int (ks.getD i 0) t) := by
  refine ⟨_, _, rfl, ?_⟩
  rw [List.getD_eq_getElem?_getD]
  cases e : ks[i]? with
  | none => exact ⟨by decide, by decide⟩
  | some a => exact h a (List.mem_of_getElem? e)
def SzG (a b : WS) (v : Value) (its : Array Value) : Prop := ∃ (k : Nat) (tv t u : Tok), v = .int (k : Nat) tv ∧ its = #[.int ((a.2.1.getD k 0 + 5 : Nat) : Int) t, .int ((b.2.1.getD k 0 + 5 : Nat) : Int) u]
theorem dots_tbl : ∀ s ∈ tbl, ∀ i ∈ [0, 1, 2, 3], 2 ≤ s.2.1.getD i 0 ∧ s.2.1.getD i 0 ≤ 2 + i := by decide +kernel
theorem dots_le {s : WS} (h : s ∈ tbl1) {i : Nat} (hi : i < 4) : 2 ≤ s.2.1.getD i 0 ∧ s.2.1.getD i 0 ≤ 2 + i := dots_tbl s (List.mem_of_mem_tail h) i (by simp; omega)
def SzEnt (a b : WS) (k : Nat) (p : Addr × Obj) : Prop := p.2.cls = .type "list" ∧ ∃ n t u, p.2.data = .seq [Value.int ((a.2.1.getD k 0 + 5 : Nat) : Int) t, Value.int ((b.2.1.getD k 0 + 5 : Nat) : Int) u].toArray n
theorem paired_get {α β : Type} {F : α → β → Prop} : ∀ {vs : List α} {ys : List β} {i : Nat} {v : α}, Paired F vs ys → vs[i]? = some v → ∃ y, ys[i]? = some y ∧ F v y
  | _, _, 0, _, .cons h _, e => by simp at e; subst e; exact ⟨_, rfl, h⟩
  | _, _, i + 1, _, .cons _ r, e => by
    obtain ⟨y, h1, h2⟩ := paired_get (i := i) r (by simpa using e)
    exact ⟨y, by simpa using h1, h2⟩
theorem mail_tbl : ∀ i ∈ [0, 1, 2, 3], ∀ d ∈ [2, 3, 4, 5], (∀ ch ∈ mail (112 + i) d, ch ∈ sigma) ∧ ∀ e ∈ [2, 3, 4, 5], lev (mail (112 + i) d) (mail (112 + i) e) 99 = 2 * (((d + 5 : Nat) : Int) - ((e + 5 : Nat) : Int)).natAbs := by decide +kernel
theorem mail_lev {i d e : Nat} (hi : i < 4) (hd : 2 ≤ d ∧ d ≤ 2 + i) (he : 2 ≤ e ∧ e ≤ 2 + i) : lev (mail (112 + i) d) (mail (112 + i) e) 99 = 2 * (((d + 5 : Nat) : Int) - ((e + 5 : Nat) : Int)).natAbs :=
  (mail_tbl i (by simp; omega) d (by simp; omega)).2 e (by simp; omega)
theorem mail_sigma {i d : Nat} (hi : i < 4) (hd : 2 ≤ d ∧ d ≤ 2 + i) : ∀ ch ∈ mail (112 + i) d, ch ∈ sigma := (mail_tbl i (by simp; omega) d (by simp; omega)).1
structure WR where
  R : Addr
  B : Addr
  D : Addr
  t : Tok
  k1 : Nat
  k0 : Nat
  vs : List Value
  us : List Value
  st : WS
def WOk (x : WR) : Prop := x.st ∈ tbl1 ∧ IntsAre x.us (x.st.1.map Int.ofNat) ∧ StrsAre x.vs (mailsOf x.st.2.1) ∧ @Ne Nat x.B x.D ∧ @LT.lt Nat _ x.B x.R ∧ @LT.lt Nat _ x.D x.R
def lowD (a b : WS) : List Nat := [0, 1, 2, 3].map fun k => min (a.2.1.getD k 0) (b.2.1.getD k 0) - 2
def highD (a b : WS) : List Nat := [0, 1, 2, 3].map fun k => max (a.2.1.getD k 0) (b.2.1.getD k 0) - 2
theorem low_ints {a b : WS} (ha : a ∈ tbl1) (hb : b ∈ tbl1) : ([0, 1, 2, 3].map fun k => min ((a.2.1.getD k 0 + 5 : Nat) : Int) ((b.2.1.getD k 0 + 5 : Nat) : Int) - 7) = (lowD a b).map Int.ofNat := by
  unfold lowD
  rw [List.map_map]
  refine List.map_congr_left fun k hk => ?_
  have hk : k < 4 := by simp at hk; omega
  have h1 := dots_le ha hk
  have h2 := dots_le hb hk
  show _ = ((min (a.2.1.getD k 0) (b.2.1.getD k 0) - 2 : Nat) : Int)
  omega
theorem high_ints {a b : WS} (ha : a ∈ tbl1) (hb : b ∈ tbl1) : ([0, 1, 2, 3].map fun k => max ((a.2.1.getD k 0 + 5 : Nat) : Int) ((b.2.1.getD k 0 + 5 : Nat) : Int) - 7) = (highD a b).map Int.ofNat := by
  unfold highD
  rw [List.map_map]
  refine List.map_congr_left fun k hk => ?_
  have hk : k < 4 := by simp at hk; omega
  have h1 := dots_le ha hk
  have h2 := dots_le hb hk
  show _ = ((max (a.2.1.getD k 0) (b.2.1.getD k 0) - 2 : Nat) : Int)
  omega
theorem low_le {a b : WS} (ha : a ∈ tbl1) (hb : b ∈ tbl1) (i : Nat) : (lowD a b).getD i 0 ≤ i := by
  unfold lowD
  rw [List.getD_eq_getElem?_getD, List.getElem?_map]
  by_cases hi : i < 4
  · have h1 := dots_le ha hi
    have h2 := dots_le hb hi
    have : i = 0 ∨ i = 1 ∨ i = 2 ∨ i = 3 := by omega
    rcases this with rfl | rfl | rfl | rfl <;> (show min _ _ - 2 ≤ _; omega)
  · rw [List.getElem?_eq_none (by simp; omega)]; exact Nat.zero_le _
theorem high_le {a b : WS} (ha : a ∈ tbl1) (hb : b ∈ tbl1) (i : Nat) : (highD a b).getD i 0 ≤ i := by
  unfold highD
  rw [List.getD_eq_getElem?_getD, List.getElem?_map]
  by_cases hi : i < 4
  · have h1 := dots_le ha hi
    have h2 := dots_le hb hi
    have : i = 0 ∨ i = 1 ∨ i = 2 ∨ i = 3 := by omega
    rcases this with rfl | rfl | rfl | rfl <;> (show max _ _ - 2 ≤ _; omega)
  · rw [List.getElem?_eq_none (by simp; omega)]; exact Nat.zero_le _
structure LR where
  R : Addr
  D : Addr
  t : Tok
  k0 : Nat
  us : List Value
def LOk (x : LR) (ds : List Nat) : Prop := IntsAre x.us ((lrun ds 4).1.map Int.ofNat) ∧ @LT.lt Nat _ x.D x.R
end

section
open PySem PySem.W PyProof.Rows PySem.Calls PySem.Spec
/-- a heap with one object put out of sight -/
def hide (a : Addr) (h : Heap) : Heap := h.update a (fun _ => { cls := .none, data := .freed })
theorem hide_ne {a b : Addr} {h : Heap} (e : b ≠ a) : (hide a h).get? b = h.get? b := (Heap.SameBut.update h a _).2 b e
theorem hide_size {a : Addr} {h : Heap} : (hide a h).objs.size = h.objs.size := (Heap.SameBut.update h a _).1
theorem hide_self {a : Addr} {h : Heap} : (hide a h).get? a = none := by
  unfold hide Heap.get? Heap.update
  obtain ⟨objs, l⟩ := h
  dsimp only
  cases e : (objs.modify a fun _ => ({ cls := .none, data := .freed } : Obj))[a]? with
  | none => rfl
  | some o =>
    rw [Array.getElem?_modify, if_pos rfl] at e
    cases e2 : objs[a]? with
    | none => rw [e2] at e; cases e
    | some o2 => rw [e2] at e; cases e; rfl
theorem hide_sub {a : Addr} {hc h : Heap} (k : ∀ b o, hc.get? b = some o → h.get? b = some o) (ha : hc.get? a = none) : ∀ b o, hc.get? b = some o → (hide a h).get? b = some o := by
  intro b o e
  have : b ≠ a := by rintro rfl; rw [ha] at e; cases e
  rw [hide_ne this]
  exact k b o e
theorem hide_fr {a L : Addr} {h h' : Heap} {m : Str → Option Value} (F : Fr h L h' m) : Fr (hide a h) L h' m := by
  refine ⟨F.ns, fun b o e => F.keep b o ?_, by rw [hide_size]; exact F.above⟩
  have : b ≠ a := by rintro rfl; rw [hide_self] at e; cases e
  rw [hide_ne this] at e
  exact e
theorem hide_news {a L : Addr} {h h' : Heap} {m : Str → Option Value} {o : Obj} (F : Fr h L h' m) (ho : h.get? a = some o) : News (hide a h) L h' [(a, o)] := by
  intro p hp
  rw [List.mem_singleton.mp hp]
  refine ⟨F.keep _ _ ho, fun e => ?_, hide_self⟩
  have h1 := Heap.lt_size ho
  have h2 := F.above
  have e : a = L := e
  subst e
  exact absurd (Nat.lt_of_lt_of_le h1 h2) (Nat.lt_irrefl _)
theorem unhide {a L : Addr} {h h' : Heap} {m : Str → Option Value} (F : Fr (hide a h) L h' m) : ∀ b o, b ≠ a → h.get? b = some o → h'.get? b = some o := by
  intro b o hb e
  exact F.keep b o (by rw [hide_ne hb]; exact e)
def lst' (us : List Value) (k : Nat) : Obj := { cls := .type "list", data := .seq us.toArray k }
/-- the contract of a def that is given a list of its caller's own, and may write to it -/
def DoesL (prog : Program) (w : World) (K : Frag) (p : Program) (loose : List Str) (mean : ExcName → Option Value) (mg mb : Str → Option Value)
    (n : Nat) (f a : Addr) (args : List Value) (us : List Value) (k : Nat) (post : List Value → Nat → Value → Prop) : Prop :=
  ∀ (A : Around) (s : Shared) (Q E : Value → Shared → Prop) (hc : Heap), Room A n → K.In hc → Top p loose mean mg mb hc → (∀ b o, hc.get? b = some o → s.heap.get? b = some o) → hc.get? a = none → s.heap.get? a = some (lst' us k) →
    (∀ v h' tk us' k', (∀ b o, b ≠ a → s.heap.get? b = some o → h'.get? b = some o) → h'.get? a = some (lst' us' k') → post us' k' v → Q v { s with heap := h', toks := tk }) →
    wpAny (model prog w) A (call (.ref f) args) Q E s
theorem DoesL.use {prog : Program} {w : World} {K : Frag} {p : Program} {loose : List Str} {mean : ExcName → Option Value} {mg mb : Str → Option Value} {n : Nat} {f a : Addr} {args : List Value} {us : List Value} {k : Nat}
    {post : List Value → Nat → Value → Prop} (D : DoesL prog w K p loose mean mg mb n f a args us k post) {A : Around} {s : Shared} {Q E : Value → Shared → Prop} {h₀ : Heap} {L : Addr} {m : Str → Option Value} {news : List (Addr × Obj)}
    (hR : Room A n) (F : Fr h₀ L s.heap m) (N : News h₀ L s.heap ((a, ({ cls := .type "list", data := .seq us.toArray k } : Obj)) :: news)) (hne : ∀ q ∈ news, q.1 ≠ a) (X : K.In h₀) (T : Top p loose mean mg mb h₀)
    (h : ∀ v h' tk us' k', Fr h₀ L h' m → News h₀ L h' ((a, ({ cls := .type "list", data := .seq us'.toArray k' } : Obj)) :: news) → post us' k' v → Q v { s with heap := h', toks := tk }) :
    wpAny (model prog w) A (call (.ref f) args) Q E s := by
  have hL : a ≠ L := (N _ (.head _)).2.1
  refine D A s Q E h₀ hR X T F.keep (N _ (.head _)).2.2 (N _ (.head _)).1 fun v h' tk us' k' kp ha q => ?_
  refine h v h' tk us' k' ⟨?_, fun b o e => ?_, F.above⟩ ?_ q
  · have hns := F.ns
    exact hns.extBut (b := a) (fun b o hb e => kp b o hb e) (Ne.symm hL)
  · refine kp b o ?_ (F.keep b o e)
    rintro rfl
    rw [(N _ (.head _)).2.2] at e
    cases e
  · intro q hq
    rcases List.mem_cons.mp hq with e | e
    · rw [e]; exact ⟨ha, (N _ (.head _)).2⟩
    · have := N q (.tail _ e)
      exact ⟨kp _ _ (hne q e) this.1, this.2⟩
end

section
open PySem PySem.W PyProof.Rows PySem.Calls PySem.Spec
/-- a def with two defaults and one name to be given by name, that is not given -/
theorem bindsKw {fd : FuncData} {T D : Addr} (hd : fd.defaults = .ref T) (hk : fd.kwdefaults = .ref D) {s : Shared} {vs : List Value} {binds : List (Str × Value)} {o o2 : Obj} {n ep : Nat} {items : Array Value} {es : Array DictEntry}
   (ho : s.heap.get? T = some o) (hs : o.data = .seq items n) (ho2 : s.heap.get? D = some o2) (hs2 : o2.data = .dict es ep) (hkeys : StrKeys es) {key : Str} {v : Value} (hv : nsFind es key = some v) {k : Option (Array Value) → Sem (List (Str × Value))}
   (h₁ : bindArgs fd ⟨vs, []⟩ = seqItems? (.ref T) >>= k)
   {r1 : ForInStep (List (Str × Value) × List Str)} {r2 : List (Str × Value) × List Str} {g : ForInStep (List (Str × Value) × List Str) → Sem (List (Str × Value) × List Str)} {g2 : List (Str × Value) × List Str → Sem (List (Str × Value))} {f : Option Value → Sem (ForInStep (List (Str × Value) × List Str))}
   (h₂ : k (some items) = (nsGet D key >>= f) >>= g >>= g2)
   (h₃ : f (some v) = pure r1) (h₄ : g r1 = pure r2) (h₅ : g2 r2 = pure binds) : BindsTo s fd ⟨vs, []⟩ binds := by
  intro M A E Q hq
  rw [h₁]
  refine wpAny_bind (wpAny_seqItems ho hs ?_)
  rw [h₂]
  refine wpAny_bind (wpAny_bind (wpAny_bind (wpAny_nsGet (m := nsFind es) ⟨o2, es, ep, ho2, hs2, hkeys, fun _ => rfl⟩ ?_)))
  rw [hv, h₃]
  refine wpAny_pure ?_
  rw [h₄]
  refine wpAny_pure ?_
  rw [h₅]
  exact wpAny_pure hq
theorem bindsKey {q : Params} {K : Frag} {fd : FuncData} {T D : Addr} {t t' : Tok} (hd : fd.defaults = .ref T) (hk : fd.kwdefaults = .ref D) {s : Shared} {vs : List Value} {binds : List (Str × Value)} (X : K.In s.heap)
   (ho : K.lookup T = some { cls := .type "tuple", data := .seq #[.int 0 t, .none] })
   (ho2 : K.lookup D = some { cls := .type "dict", data := .dict #[{ hash := PyData.keyHash q (Str.ofString "key"), key := .str (Str.ofString "key") t', val := .none }] 1 })
   {k : Option (Array Value) → Sem (List (Str × Value))}
   (h₁ : bindArgs fd ⟨vs, []⟩ = seqItems? (.ref T) >>= k)
   {r1 : ForInStep (List (Str × Value) × List Str)} {r2 : List (Str × Value) × List Str} {g : ForInStep (List (Str × Value) × List Str) → Sem (List (Str × Value) × List Str)} {g2 : List (Str × Value) × List Str → Sem (List (Str × Value))} {f : Option Value → Sem (ForInStep (List (Str × Value) × List Str))}
   (h₂ : k (some #[.int 0 t, .none]) = (nsGet D "key" >>= f) >>= g >>= g2)
   (h₃ : f (some .none) = pure r1) (h₄ : g r1 = pure r2) (h₅ : g2 r2 = pure binds) : BindsTo s fd ⟨vs, []⟩ binds := by
  refine bindsKw hd hk (X _ _ ho) rfl (X _ _ ho2) rfl ?_ rfl h₁ h₂ h₃ h₄ h₅
  intro e he
  simp at he
  subst he
  exact ⟨_, _, rfl⟩
end

section
open PySem PySem.W PyProof.Rows PySem.Calls PySem.Spec
theorem top_F5 : True := by
  w_top off
  trivial
section
variable {prog : Program} {w : World} {p : Program} {loose : List Str} {mean : ExcName → Option Value} {mg mb : Str → Option Value}
theorem does_bisl (a : Addr) (x : Int) (t : Tok) (us : List Value) (xs : List Int) (k0 : Nat) (hus : IntsAre us xs) (hl : us.length ≤ 1000) :
    DoesL prog w (hd.heap_39 w.params) p loose mean mg mb 1 65 a [.ref a, .int x t] us k0 (fun us' k' v => us' = us ∧ k' = k0 ∧ ∃ t, v = .int (bisl xs x xs.length 0 xs.length) t) := by
  intro A₀ s Q E hc hR Xc Tc hk hca ha hQ
  obtain ⟨dp, fr, gd, un, rfl, hdp, hun⟩ := hR.open
  have XX : (hd.heap_39 w.params).In s.heap := fun b o e => hk b o (Xc b o e)
  have T : Top p loose mean mg mb s.heap := Tc.keeps hk
  refine wpAny_call ?_
  refine' enter ?k1 ?k2 ?k3 ?k6 ?k7 ?k9 ?kB ?c5 ?c2 ?c3 ?c4 ?_
  case k1 => assumption
  case k2 => assumption
  case k6 => k_is
  case k7 => k_is
  case k9 =>
    refine' bindsKey rfl rfl XX ?a1 ?a2 ?b1 ?b2 ?b3 ?b4 ?b5
    case b1 => rfl
    case a1 => k_is
    case a2 => k_is
    case b2 => rfl
    case b3 => rfl
    case b4 => rfl
    case b5 => rfl
  case kB => exact locs rfl
  case c2 => exact rfl
  case c3 => exact rfl
  case c4 => exact rfl
  case c5 => decide
  case k3 => (dsimp only); omega
  intro L h₁ tk F N
  refine veil2 ?_
  intro K0 X0 hK0 _
  have N' := hide_news F ha
  have F' := hide_fr (a := a) F
  have N' : News (hide a s.heap) L h₁ [(a, { cls := .type "list", data := .seq us.toArray k0 })] := N'
  clear XX T F N
  rename News _ _ _ _ => N
  rename Fr _ _ _ _ => F
  have XX : (hd.heap_39 w.params).In (hide a s.heap) := fun b o e => hide_sub hk hca b o (Xc b o e)
  have T : Top p loose mean mg mb (hide a s.heap) := Tc.keeps (hide_sub hk hca)
  have hend : ∀ h' m, Fr (hide a s.heap) L h' m → ∀ b o, b ≠ a → s.heap.get? b = some o → h'.get? b = some o := fun h' m F => unhide F
  generalize hide a s.heap = H at *
  refine cut (ι := Tok × Tok) (h₀ := H) (L := L) (fun _ => True) (fun i => [("a", .ref a), ("x", .int x i.1), ("lo", .int 0 i.2), ("hi", .none), ("key", .none)]) (fun _ => [(a, { cls := .type "list", data := .seq us.toArray k0 })]) ?_ ?_
  · intro K hK hRet
    k_steps
    all_goals (try dsimp only)
    exact hK ⟨_, _⟩ (by assumption) (by assumption) ⟨rfl, rfl, rfl, rfl, rfl, trivial⟩ trivial
  rintro ⟨t1, t2⟩ u h₂ tk₂ - F N
  dsimp only at F N ⊢
  refine cut (ι := Tok × Tok × Tok) (h₀ := H) (L := L) (fun _ => True) (fun i => [("a", .ref a), ("x", .int x i.1), ("lo", .int 0 i.2.1), ("hi", .int (us.length : Nat) i.2.2), ("key", .none)]) (fun _ => [(a, { cls := .type "list", data := .seq us.toArray k0 })]) ?_ ?_
  · intro K hK hRet
    k_steps
    all_goals (try dsimp only)
    rename News _ _ _ _ => N
    refine call_len_list (News.isList N (.head _)) (by simp; omega) ?_
    k_steps
    all_goals (try dsimp only)
    exact hK ⟨_, _, _⟩ (by assumption) (by assumption) ⟨rfl, rfl, rfl, rfl, rfl, trivial⟩ trivial
  rintro ⟨t1, t2, t3⟩ u h₂ tk₂ - F N
  dsimp only at F N ⊢
  refine cut (ι := Tok) (h₀ := H) (L := L) (fun _ => True) (fun i => [("lo", .int (bisl xs x xs.length 0 xs.length) i)]) (fun _ => [(a, { cls := .type "list", data := .seq us.toArray k0 })]) ?_ ?_
  · intro K hK hRet
    repeat (first | (fail_if_success (with_reducible show wpAny _ _ (exec (Stmt.While _ _ _ _) _) _ _ _)); walk1)
    (try dsimp only)
    rename News _ _ _ _ => N
    rename Fr _ _ _ _ => F
    have hlen : us.length = xs.length := by have := hus.sizeZ; simp at this; omega
    refine while_rule' (fun k m news => ∃ (lo hi : Int) (t1 t2 t3 : Tok), news = [(a, { cls := .type "list", data := .seq us.toArray k0 })] ∧ 0 ≤ lo ∧ lo ≤ hi ∧ hi ≤ us.length ∧ k = (hi - lo).toNat ∧ (∀ f : Nat, hi - lo ≤ f → bisl xs x f lo hi = bisl xs x xs.length 0 xs.length) ∧ Know m [("a", .ref a), ("x", .int x t1), ("lo", .int lo t2), ("hi", .int hi t3)]) us.length F N
      ⟨0, us.length, t1, t2, t3, rfl, by omega, by omega, by omega, by omega, ?_, ⟨rfl, rfl, rfl, rfl, trivial⟩⟩ ?_
    · intro f hf
      rw [hlen] at hf ⊢
      exact bisl_any (by omega) hf
    · rintro k m₁ news₁ h tk ⟨lo, hi, t1, t2, t3, rfl, h0, h1, h2, hk, hb, kn⟩ F N
      rw [know kn] at F
      dsimp only at F N ⊢
      k_steps
      all_goals (try dsimp only)
      all_goals (have e2 : (lo + hi).fdiv 2 = (lo + hi) / 2 := Int.fdiv_eq_ediv_of_nonneg _ (by decide))
      · have hlt : lo < hi := by assumption
        rename List.getD _ _ _ < _ => hc'
        refine WTurn.intro (hi - ((lo + hi).fdiv 2 + 1)).toNat (by assumption) (by assumption) (by omega) ⟨(lo + hi).fdiv 2 + 1, hi, _, _, _, rfl, by omega, by omega, by omega, rfl, ?_, ⟨rfl, rfl, rfl, rfl, trivial⟩⟩
        intro f hf
        rw [e2] at hf hc' ⊢
        rw [← hb ((hi - lo).toNat + 1) (by omega), bisl, if_pos hlt, if_pos hc']
        exact bisl_any (by omega) hf
      · have hlt : lo < hi := by assumption
        rename ¬ (List.getD _ _ _ < _) => hc'
        refine WTurn.intro ((lo + hi).fdiv 2 - lo).toNat (by assumption) (by assumption) (by omega) ⟨lo, (lo + hi).fdiv 2, _, _, _, rfl, by omega, by omega, by omega, rfl, ?_, ⟨rfl, rfl, rfl, rfl, trivial⟩⟩
        intro f hf
        rw [e2] at hf hc' ⊢
        rw [← hb ((hi - lo).toNat + 1) (by omega), bisl, if_pos hlt, if_neg hc']
        exact bisl_any (by omega) hf
      · have hlt : ¬ lo < hi := by assumption
        have e : lo = bisl xs x xs.length 0 xs.length := by
          rw [← hb (hi - lo).toNat (by omega)]
          cases (hi - lo).toNat <;> (unfold bisl; first | rfl | rw [if_neg hlt])
        rw [← e] at hK
        exact hK _ (by assumption) (by assumption) ⟨rfl, trivial⟩ trivial
  rintro t1 u h₂ tk₂ - F N
  dsimp only at F N ⊢
  k_steps
  all_goals (try dsimp only)
  rename News _ _ _ _ => N
  rename Fr _ _ _ _ => F
  refine hK0 _ _ ?_
  (try dsimp only)
  exact hQ _ _ _ us k0 (hend _ _ F) (N _ (.head _)).1 ⟨rfl, rfl, _, rfl⟩
theorem does_bisr (a : Addr) (x : Int) (t tlo : Tok) (us : List Value) (xs : List Int) (k0 : Nat) (hus : IntsAre us xs) (hl : us.length ≤ 1000) :
    DoesL prog w (hd.heap_39 w.params) p loose mean mg mb 1 56 a [.ref a, .int x t, .int 0 tlo, .none] us k0 (fun us' k' v => us' = us ∧ k' = k0 ∧ ∃ t, v = .int (bisr xs x xs.length 0 xs.length) t) := by
  intro A₀ s Q E hc hR Xc Tc hk hca ha hQ
  obtain ⟨dp, fr, gd, un, rfl, hdp, hun⟩ := hR.open
  have XX : (hd.heap_39 w.params).In s.heap := fun b o e => hk b o (Xc b o e)
  have T : Top p loose mean mg mb s.heap := Tc.keeps hk
  refine wpAny_call ?_
  refine' enter ?k1 ?k2 ?k3 ?k6 ?k7 ?k9 ?kB ?c5 ?c2 ?c3 ?c4 ?_
  case k1 => assumption
  case k2 => assumption
  case k6 => k_is
  case k7 => k_is
  case k9 =>
    refine' bindsKey rfl rfl XX ?a1 ?a2 ?b1 ?b2 ?b3 ?b4 ?b5
    case b1 => rfl
    case a1 => k_is
    case a2 => k_is
    case b2 => rfl
    case b3 => rfl
    case b4 => rfl
    case b5 => rfl
  case kB => exact locs rfl
  case c2 => exact rfl
  case c3 => exact rfl
  case c4 => exact rfl
  case c5 => decide
  case k3 => (dsimp only); omega
  intro L h₁ tk F N
  refine veil2 ?_
  intro K0 X0 hK0 _
  have N' := hide_news F ha
  have F' := hide_fr (a := a) F
  have N' : News (hide a s.heap) L h₁ [(a, { cls := .type "list", data := .seq us.toArray k0 })] := N'
  clear XX T F N
  rename News _ _ _ _ => N
  rename Fr _ _ _ _ => F
  have XX : (hd.heap_39 w.params).In (hide a s.heap) := fun b o e => hide_sub hk hca b o (Xc b o e)
  have T : Top p loose mean mg mb (hide a s.heap) := Tc.keeps (hide_sub hk hca)
  have hend : ∀ h' m, Fr (hide a s.heap) L h' m → ∀ b o, b ≠ a → s.heap.get? b = some o → h'.get? b = some o := fun h' m F => unhide F
  generalize hide a s.heap = H at *
  refine cut (ι := Tok × Tok) (h₀ := H) (L := L) (fun _ => True) (fun i => [("a", .ref a), ("x", .int x i.1), ("lo", .int 0 i.2), ("hi", .none), ("key", .none)]) (fun _ => [(a, { cls := .type "list", data := .seq us.toArray k0 })]) ?_ ?_
  · intro K hK hRet
    k_steps
    all_goals (try dsimp only)
    exact hK ⟨_, _⟩ (by assumption) (by assumption) ⟨rfl, rfl, rfl, rfl, rfl, trivial⟩ trivial
  rintro ⟨t1, t2⟩ u h₂ tk₂ - F N
  dsimp only at F N ⊢
  refine cut (ι := Tok × Tok × Tok) (h₀ := H) (L := L) (fun _ => True) (fun i => [("a", .ref a), ("x", .int x i.1), ("lo", .int 0 i.2.1), ("hi", .int (us.length : Nat) i.2.2), ("key", .none)]) (fun _ => [(a, { cls := .type "list", data := .seq us.toArray k0 })]) ?_ ?_
  · intro K hK hRet
    k_steps
    all_goals (try dsimp only)
    rename News _ _ _ _ => N
    refine call_len_list (News.isList N (.head _)) (by simp; omega) ?_
    k_steps
    all_goals (try dsimp only)
    exact hK ⟨_, _, _⟩ (by assumption) (by assumption) ⟨rfl, rfl, rfl, rfl, rfl, trivial⟩ trivial
  rintro ⟨t1, t2, t3⟩ u h₂ tk₂ - F N
  dsimp only at F N ⊢
  refine cut (ι := Tok) (h₀ := H) (L := L) (fun _ => True) (fun i => [("lo", .int (bisr xs x xs.length 0 xs.length) i)]) (fun _ => [(a, { cls := .type "list", data := .seq us.toArray k0 })]) ?_ ?_
  · intro K hK hRet
    repeat (first | (fail_if_success (with_reducible show wpAny _ _ (exec (Stmt.While _ _ _ _) _) _ _ _)); walk1)
    (try dsimp only)
    rename News _ _ _ _ => N
    rename Fr _ _ _ _ => F
    have hlen : us.length = xs.length := by have := hus.sizeZ; simp at this; omega
    refine while_rule' (fun k m news => ∃ (lo hi : Int) (t1 t2 t3 : Tok), news = [(a, { cls := .type "list", data := .seq us.toArray k0 })] ∧ 0 ≤ lo ∧ lo ≤ hi ∧ hi ≤ us.length ∧ k = (hi - lo).toNat ∧ (∀ f : Nat, hi - lo ≤ f → bisr xs x f lo hi = bisr xs x xs.length 0 xs.length) ∧ Know m [("a", .ref a), ("x", .int x t1), ("lo", .int lo t2), ("hi", .int hi t3)]) us.length F N
      ⟨0, us.length, t1, t2, t3, rfl, by omega, by omega, by omega, by omega, ?_, ⟨rfl, rfl, rfl, rfl, trivial⟩⟩ ?_
    · intro f hf
      rw [hlen] at hf ⊢
      exact bisr_any (by omega) hf
    · rintro k m₁ news₁ h tk ⟨lo, hi, t1, t2, t3, rfl, h0, h1, h2, hk, hb, kn⟩ F N
      rw [know kn] at F
      dsimp only at F N ⊢
      k_steps
      all_goals (try dsimp only)
      all_goals (have e2 : (lo + hi).fdiv 2 = (lo + hi) / 2 := Int.fdiv_eq_ediv_of_nonneg _ (by decide))
      · have hlt : lo < hi := by assumption
        rename _ < List.getD _ _ _ => hc'
        refine WTurn.intro ((lo + hi).fdiv 2 - lo).toNat (by assumption) (by assumption) (by omega) ⟨lo, (lo + hi).fdiv 2, _, _, _, rfl, by omega, by omega, by omega, rfl, ?_, ⟨rfl, rfl, rfl, rfl, trivial⟩⟩
        intro f hf
        rw [e2] at hf hc' ⊢
        rw [← hb ((hi - lo).toNat + 1) (by omega), bisr, if_pos hlt, if_pos hc']
        exact bisr_any (by omega) hf
      · have hlt : lo < hi := by assumption
        rename ¬ (_ < List.getD _ _ _) => hc'
        refine WTurn.intro (hi - ((lo + hi).fdiv 2 + 1)).toNat (by assumption) (by assumption) (by omega) ⟨(lo + hi).fdiv 2 + 1, hi, _, _, _, rfl, by omega, by omega, by omega, rfl, ?_, ⟨rfl, rfl, rfl, rfl, trivial⟩⟩
        intro f hf
        rw [e2] at hf hc' ⊢
        rw [← hb ((hi - lo).toNat + 1) (by omega), bisr, if_pos hlt, if_neg hc']
        exact bisr_any (by omega) hf
      · have hlt : ¬ lo < hi := by assumption
        have e : lo = bisr xs x xs.length 0 xs.length := by
          rw [← hb (hi - lo).toNat (by omega)]
          cases (hi - lo).toNat <;> (unfold bisr; first | rfl | rw [if_neg hlt])
        rw [← e] at hK
        exact hK _ (by assumption) (by assumption) ⟨rfl, trivial⟩ trivial
  rintro t1 u h₂ tk₂ - F N
  dsimp only at F N ⊢
  k_steps
  all_goals (try dsimp only)
  rename News _ _ _ _ => N
  rename Fr _ _ _ _ => F
  refine hK0 _ _ ?_
  (try dsimp only)
  exact hQ _ _ _ us k0 (hend _ _ F) (N _ (.head _)).1 ⟨rfl, rfl, _, rfl⟩
end
end

section
open PySem PySem.W PyProof.Rows PySem.Calls PySem.Spec
theorem top_F6 : True := by
  w_top off
  trivial
local macro_rules | `(tactic| walk_at "none such") => `(tactic| skip)
local macro_rules | `(tactic| walk_at "call ref") => `(tactic| ((rename Fr _ _ _ _ => F0); (rename News _ _ _ _ => N0); refine DoesL.use (does_bisr _ _ _ _ _ _ _ (by assumption) (by assumption)) (Room.deeper (by assumption)) F0 N0 (fun _ h => nomatch h) (by assumption) (by assumption) ?_; clear F0 N0; intro v2 h2 tk2 us2 k2 F2 N2 q2; obtain ⟨e2, e3, t2, e4⟩ := q2; subst us2; subst k2; subst v2; (try dsimp only)))
section
variable {prog : Program} {w : World} {p : Program} {loose : List Str} {mean : ExcName → Option Value} {mg mb : Str → Option Value}
theorem insert_head {A : Around} {s : Shared} {Q E : Value → Shared → Prop} {h₀ : Heap} {L : Addr} {m : Str → Option Value} {D : Addr} {us : List Value} {n : Nat} {x : Int} {u : Tok} {y : Value} {rest : List (Addr × Obj)}
    (F : Fr h₀ L s.heap m) (N : News h₀ L s.heap ((D, ({ cls := .type "list", data := .seq us.toArray n } : Obj)) :: rest)) (hap : ∀ p ∈ rest, p.1 ≠ D) (h0 : 0 ≤ x) (h1 : x ≤ us.length) (hsz : us.length ≤ 1000)
    (h : ∀ h', Fr h₀ L h' m → News h₀ L h' ((D, ({ cls := .type "list", data := .seq (us.take x.toNat ++ [y] ++ us.drop x.toNat).toArray (n + 1) } : Obj)) :: rest) → Q .none { s with heap := h' }) :
    wpAny (model prog w) A (call (.builtin "list.insert") [.ref D, .int x u, y]) Q E s := by
  have hD := (N _ (.head _)).1
  have hfit : ¬(!Builtin.List.listFitsIndex x) = true := by
    unfold Builtin.List.listFitsIndex
    simp
    omega
  refine call_meets PySem.F.slot_list_insert ⟨_, hD, rfl⟩ PySem.F.entry_list_insert (PySem.F.args_list_insert_3 _ _ _) (PySem.AutoSeq1.list_insert_list_int_val_1 D us.toArray n x u y hfit (by rw [sizeLine_eq]; simp; omega)) ⟨hD, ?_⟩
  have e : Obj.mapSeq (fun xs => have k := if x < 0 then (x + (xs.size : Int)).toNat else min x.toNat xs.size; (xs.extract 0 k).push y ++ xs.extract k) ({ cls := .type "list", data := .seq us.toArray n } : Obj) = { cls := .type "list", data := .seq (us.take x.toNat ++ [y] ++ us.drop x.toNat).toArray (n + 1) } := by
    have hk : (if x < 0 then (x + (us.toArray.size : Int)).toNat else min x.toNat us.toArray.size) = x.toNat := by
      rw [if_neg (by omega)]; simp; omega
    have e1 : (us.toArray.extract 0 x.toNat).push y ++ us.toArray.extract x.toNat = (us.take x.toNat ++ [y] ++ us.drop x.toNat).toArray := by
      apply Array.ext'
      simp
      exact List.take_of_length_le (by rw [List.length_drop]; omega)
    show Obj.mk _ _ (.seq ((us.toArray.extract 0 (if x < 0 then (x + (us.toArray.size : Int)).toNat else min x.toNat us.toArray.size)).push y ++ us.toArray.extract (if x < 0 then (x + (us.toArray.size : Int)).toNat else min x.toNat us.toArray.size)) (if _ then _ else _)) _ = _
    rw [hk, e1]
    rw [if_neg]
    simp
    omega
  have sb := Heap.SameBut.update s.heap D (Obj.mapSeq fun xs => have k := if x < 0 then (x + (xs.size : Int)).toNat else min x.toNat xs.size; (xs.extract 0 k).push y ++ xs.extract k)
  have ho := Heap.get?_update_self (Obj.mapSeq fun xs => have k := if x < 0 then (x + (xs.size : Int)).toNat else min x.toNat xs.size; (xs.extract 0 k).push y ++ xs.extract k) hD (by rw [e]; rfl)
  rw [e] at ho
  exact h _ (F.change sb (N _ (.head _)).2.1 (N _ (.head _)).2.2) (N.setHead hap sb ho)
theorem does_insort (a : Addr) (x : Int) (t : Tok) (us : List Value) (xs : List Int) (k0 : Nat) (hus : IntsAre us xs) (hl : us.length ≤ 1000) :
    DoesL prog w (hd.heap_39 w.params) p loose mean mg mb 2 47 a [.ref a, .int x t] us k0 (fun us' _ v => IntsAre us' (xs.take (bisr xs x xs.length 0 xs.length).toNat ++ [x] ++ xs.drop (bisr xs x xs.length 0 xs.length).toNat) ∧ v = .none) := by
  intro A₀ s Q E hc hR Xc Tc hk hca ha hQ
  obtain ⟨dp, fr, gd, un, rfl, hdp, hun⟩ := hR.open
  have XX : (hd.heap_39 w.params).In s.heap := fun b o e => hk b o (Xc b o e)
  have T : Top p loose mean mg mb s.heap := Tc.keeps hk
  refine wpAny_call ?_
  refine' enter ?k1 ?k2 ?k3 ?k6 ?k7 ?k9 ?kB ?c5 ?c2 ?c3 ?c4 ?_
  case k1 => assumption
  case k2 => assumption
  case k6 => k_is
  case k7 => k_is
  case k9 =>
    refine' bindsKey rfl rfl XX ?a1 ?a2 ?b1 ?b2 ?b3 ?b4 ?b5
    case b1 => rfl
    case a1 => k_is
    case a2 => k_is
    case b2 => rfl
    case b3 => rfl
    case b4 => rfl
    case b5 => rfl
  case kB => exact locs rfl
  case c2 => exact rfl
  case c3 => exact rfl
  case c4 => exact rfl
  case c5 => decide
  case k3 => (dsimp only); omega
  intro L h₁ tk F N
  refine veil2 ?_
  intro K0 X0 hK0 _
  have N' := hide_news F ha
  have F' := hide_fr (a := a) F
  have N' : News (hide a s.heap) L h₁ [(a, { cls := .type "list", data := .seq us.toArray k0 })] := N'
  clear XX T F N
  rename News _ _ _ _ => N
  rename Fr _ _ _ _ => F
  have XX : (hd.heap_39 w.params).In (hide a s.heap) := fun b o e => hide_sub hk hca b o (Xc b o e)
  have T : Top p loose mean mg mb (hide a s.heap) := Tc.keeps (hide_sub hk hca)
  have hend : ∀ h' m, Fr (hide a s.heap) L h' m → ∀ b o, b ≠ a → s.heap.get? b = some o → h'.get? b = some o := fun h' m F => unhide F
  generalize hide a s.heap = H at *
  have hlen : us.length = xs.length := by have := hus.sizeZ; simp at this; omega
  have hr := bisr_le (xs := xs) (x := x) xs.length 0 xs.length (by omega)
  refine cut (ι := Tok × Tok) (h₀ := H) (L := L) (fun _ => True) (fun i => [("a", .ref a), ("x", .int x i.1), ("lo", .int (bisr xs x xs.length 0 xs.length) i.2)]) (fun _ => [(a, { cls := .type "list", data := .seq us.toArray k0 })]) ?_ ?_
  · intro K hK hRet
    k_steps
    all_goals (try dsimp only)
    exact hK ⟨_, _⟩ (by assumption) (by assumption) ⟨rfl, rfl, rfl, trivial⟩ trivial
  generalize bisr xs x xs.length 0 xs.length = r at *
  rintro ⟨t1, t2⟩ u h₂ tk₂ - F N
  dsimp only at F N ⊢
  k_steps
  (try dsimp only)
  rename News _ _ _ _ => N
  rename Fr _ _ _ _ => F
  refine insert_head F N (fun _ h => nomatch h) hr.1 (by omega) hl ?_
  clear F N
  intro h' F N
  k_steps
  all_goals (try dsimp only)
  rename News _ _ _ _ => N
  rename Fr _ _ _ _ => F
  refine hK0 _ _ ?_
  (try dsimp only)
  exact hQ _ _ _ _ _ (hend _ _ F) (N _ (.head _)).1 ⟨((hus.take _).append (.cons x _ .nil)).append (hus.drop _), rfl⟩
end
end

section
open PySem PySem.W PyProof.Rows PySem.Calls PySem.Spec
section
variable {prog : Program} {w : World} {A : Around} {E : Value → Shared → Prop} {env : Env} {s₂ : Shared} {h₀ : Heap} {L : Addr} {m : Str → Option Value} {news : List (Addr × Obj)}
theorem compPack {elt : PySem.Expr} {x : Str} {ifs : List PySem.Expr} {scope : Scope} {cl : List (Str × Addr)} {I : Addr} {fp : List Addr} {n : Nat} {P : Nat → Value → Prop} {St : Nat → Heap → Prop} {p : Value → Bool} {G : Value → Value → Prop} {QQ : Addr → Heap → Nat → Prop}
    (W : Walks prog w A I fp [I] n P St) (hn : n ≤ sizeLine) (hst : St 0 s₂.heap) (hfp : ∀ b ∈ fp, b < s₂.heap.objs.size) (F : Fr h₀ L s₂.heap m) (N : News h₀ L s₂.heap news) (hI : h₀.get? I = none) (hIL : L ≠ I) (hIN : ∀ q ∈ news, q.1 ≠ I)
    (tests : ∀ C i v (s₃ : Shared) (m₃ : Str → Option Value) (E' : Value → Shared → Prop), P i v → Fr h₀ C s₃.heap (fun y => if y = x then some v else m₃ y) → News h₀ C s₃.heap news →
      wpAny (model prog w) A (forIn ifs true fun c r => if r = true then do let ok ← isTrue c (compEnvC scope cl C env) (eval c (compEnvC scope cl C env)); pure (ForInStep.yield ok) else pure (ForInStep.yield r))
        (fun ok s₄ => ok = p v ∧ Keeps s₃ s₄) E' s₃)
    (el : ∀ C i v (s₃ : Shared) (m₃ : Str → Option Value) (E' : Value → Shared → Prop), P i v → p v = true → Fr h₀ C s₃.heap (fun y => if y = x then some v else m₃ y) → News h₀ C s₃.heap news →
      wpAny (model prog w) A (eval elt (compEnvC scope cl C env)) (fun y s₄ => G v y ∧ Keeps s₃ s₄) E' s₃)
    (done : ∀ D h' tk ys k (vs : List Value), Fr h₀ L h' m → News h₀ L h' ((D, { cls := .type "list", data := .seq ys k }) :: news) → (∀ q ∈ news, q.1 ≠ D) → vs.length = n → (∀ j v, vs[j]? = some v → P j v) → Paired G (vs.filter p) ys.toList →
      QQ D h' tk) :
    ∃ I' fp wr n P St, Value.ref I = .ref I' ∧ Walks prog w A I' fp wr n P St ∧ n ≤ sizeLine ∧ St 0 s₂.heap ∧ (∀ b ∈ fp, b < s₂.heap.objs.size) ∧
      QuietOnC prog w A env scope cl x ifs elt wr P p G s₂ ∧
      (∀ D h' tk ys (vs : List Value), s₂.heap.get? D = none → h'.IsList D ys → h'.PlainList D ys → vs.length = n → (∀ j v, vs[j]? = some v → P j v) → Paired G (vs.filter p) ys.toList →
        (∀ b o, b ∉ wr → s₂.heap.get? b = some o → h'.get? b = some o) → QQ D h' tk) := by
  have fr : ∀ C (s₃ : Shared) m₃ v, s₂.heap.objs.size ≤ C → s₃.heap.Ns C m₃ → m₃ x = some v → (∀ b o, b ∉ [I] → s₂.heap.get? b = some o → s₃.heap.get? b = some o) →
      Fr h₀ C s₃.heap (fun y => if y = x then some v else m₃ y) ∧ News h₀ C s₃.heap news := by
    intro C s₃ m₃ v hC hns hm hk
    have e : (fun y => if y = x then some v else m₃ y) = m₃ := by
      funext y; split
      · rename_i e; rw [e, hm]
      · rfl
    refine ⟨⟨by rw [e]; exact hns, fun b o eb => hk b o (fun hb => ?_) (F.keep b o eb), ?_⟩, fun q hq => ⟨hk _ _ (fun hb => hIN q hq (List.mem_singleton.mp hb)) (N q hq).1, fun eq => ?_, (N q hq).2.2⟩⟩
    · rw [List.mem_singleton.mp hb, hI] at eb; cases eb
    · exact Nat.le_trans F.above (Nat.le_trans (Nat.le_of_lt F.ns.lt) hC)
    · have h1 := Heap.lt_size (N q hq).1
      rw [eq] at h1
      exact absurd (Nat.lt_of_lt_of_le h1 hC) (Nat.lt_irrefl _)
  refine ⟨I, fp, [I], n, P, St, rfl, W, hn, hst, hfp, ⟨?_, ?_⟩, ?_⟩
  · intro C i v s₃ m₃ E' hC hP hns hm hk htk
    obtain ⟨F', N'⟩ := fr C s₃ m₃ v hC hns hm hk
    exact tests C i v s₃ m₃ E' hP F' N'
  · intro C i v s₃ m₃ E' hC hP hp hns hm hk htk
    obtain ⟨F', N'⟩ := fr C s₃ m₃ v hC hns hm hk
    exact el C i v s₃ m₃ E' hP hp F' N'
  · intro D h' tk ys vs hD hl hpl hlen hP hpr hk
    obtain ⟨k, hpk⟩ := hpl
    have hne : ∀ b o, s₂.heap.get? b = some o → b ≠ D := by rintro b o e rfl; rw [hD] at e; cases e
    refine done D h' tk ys k vs ⟨?_, fun b o eb => hk b o (fun hb => ?_) (F.keep b o eb), F.above⟩ (fun q hq => ?_) (fun q hq => hne _ _ (N q hq).1) hlen hP hpr
    · obtain ⟨o, es, ep, ho, r⟩ := F.ns
      exact ⟨o, es, ep, hk _ _ (fun hb => hIL (List.mem_singleton.mp hb)) ho, r⟩
    · rw [List.mem_singleton.mp hb, hI] at eb; cases eb
    · rcases List.mem_cons.mp hq with e | hq
      · rw [e]
        refine ⟨hpk, fun e => ?_, ?_⟩
        · obtain ⟨o, es, ep, ho, r⟩ := F.ns
          exact hne _ _ ho e.symm
        · cases e : h₀.get? D with
          | none => rfl
          | some o => have := F.keep _ _ e; rw [hD] at this; cases this
      · exact ⟨hk _ _ (fun hb => hIN q hq (List.mem_singleton.mp hb)) (N q hq).1, (N q hq).2⟩
theorem compPackA {y : Str} {elt : PySem.Expr} {x : Str} {ifs : List PySem.Expr} {scope : Scope} {cl : List (Str × Addr)} {I : Addr} {fp : List Addr} {n : Nat} {P : Nat → Value → Prop} {St : Nat → Heap → Prop} {p : Value → Bool} {G : Value → Value → Prop} {QQ : Addr → Heap → Nat → Prop}
    (W : Walks prog w A I fp [I] n P St) (hn : n ≤ sizeLine) (hst : St 0 s₂.heap) (hfp : ∀ b ∈ fp, b < s₂.heap.objs.size) (F : Fr h₀ env.locals s₂.heap m) (N : News h₀ env.locals s₂.heap news) (hI : h₀.get? I = none) (hIL : env.locals ≠ I) (hIN : ∀ q ∈ news, q.1 ≠ I)
    (tests : ∀ C i v (s₃ : Shared) (m₃ : Str → Option Value) (E' : Value → Shared → Prop), P i v → Fr h₀ C s₃.heap (fun y => if y = x then some v else m₃ y) → News h₀ C s₃.heap news →
      wpAny (model prog w) A (forIn ifs true fun c r => if r = true then do let ok ← isTrue c (compEnvC scope cl C env) (eval c (compEnvC scope cl C env)); pure (ForInStep.yield ok) else pure (ForInStep.yield r))
        (fun ok s₄ => ok = p v ∧ Keeps s₃ s₄) E' s₃)
    (el : ∀ C i v (s₃ : Shared) (m₃ : Str → Option Value) (E' : Value → Shared → Prop), P i v → p v = true → Fr h₀ C s₃.heap (fun y => if y = x then some v else m₃ y) → News h₀ C s₃.heap news →
      wpAny (model prog w) A (eval elt (compEnvC scope cl C env)) (fun y s₄ => G v y ∧ Keeps s₃ s₄) E' s₃)
    (done : ∀ D h' tk ys k (vs : List Value), Fr h₀ env.locals h' (fun z => if z = y then some (.ref D) else m z) → News h₀ env.locals h' ((D, { cls := .type "list", data := .seq ys k }) :: news) → (∀ q ∈ news, q.1 ≠ D) → vs.length = n → (∀ j v, vs[j]? = some v → P j v) → Paired G (vs.filter p) ys.toList →
      QQ D h' tk) :
    ∃ I' fp wr n P St m', Value.ref I = .ref I' ∧ Walks prog w A I' fp wr n P St ∧ n ≤ sizeLine ∧ St 0 s₂.heap ∧ (∀ b ∈ fp, b < s₂.heap.objs.size) ∧ env.locals ∉ wr ∧ s₂.heap.Ns env.locals m' ∧
      QuietOnC prog w A env scope cl x ifs elt wr P p G s₂ ∧
      (∀ D h' tk ys (vs : List Value), s₂.heap.get? D = none → h'.IsList D ys → h'.PlainList D ys → vs.length = n → (∀ j v, vs[j]? = some v → P j v) → Paired G (vs.filter p) ys.toList →
        h'.Ns env.locals (fun z => if z = y then some (.ref D) else m' z) → (∀ b o, b ≠ env.locals → b ∉ wr → s₂.heap.get? b = some o → h'.get? b = some o) → QQ D h' tk) := by
  have fr : ∀ C (s₃ : Shared) m₃ v, s₂.heap.objs.size ≤ C → s₃.heap.Ns C m₃ → m₃ x = some v → (∀ b o, b ∉ [I] → s₂.heap.get? b = some o → s₃.heap.get? b = some o) →
      Fr h₀ C s₃.heap (fun y => if y = x then some v else m₃ y) ∧ News h₀ C s₃.heap news := by
    intro C s₃ m₃ v hC hns hm hk
    have e : (fun y => if y = x then some v else m₃ y) = m₃ := by
      funext y; split
      · rename_i e; rw [e, hm]
      · rfl
    refine ⟨⟨by rw [e]; exact hns, fun b o eb => hk b o (fun hb => ?_) (F.keep b o eb), ?_⟩, fun q hq => ⟨hk _ _ (fun hb => hIN q hq (List.mem_singleton.mp hb)) (N q hq).1, fun eq => ?_, (N q hq).2.2⟩⟩
    · rw [List.mem_singleton.mp hb, hI] at eb; cases eb
    · exact Nat.le_trans F.above (Nat.le_trans (Nat.le_of_lt F.ns.lt) hC)
    · have h1 := Heap.lt_size (N q hq).1
      rw [eq] at h1
      exact absurd (Nat.lt_of_lt_of_le h1 hC) (Nat.lt_irrefl _)
  refine ⟨I, fp, [I], n, P, St, m, rfl, W, hn, hst, hfp, fun hb => hIL (List.mem_singleton.mp hb), F.ns, ⟨?_, ?_⟩, ?_⟩
  · intro C i v s₃ m₃ E' hC hP hns hm hk htk
    obtain ⟨F', N'⟩ := fr C s₃ m₃ v hC hns hm hk
    exact tests C i v s₃ m₃ E' hP F' N'
  · intro C i v s₃ m₃ E' hC hP hp hns hm hk htk
    obtain ⟨F', N'⟩ := fr C s₃ m₃ v hC hns hm hk
    exact el C i v s₃ m₃ E' hP hp F' N'
  · intro D h' tk ys vs hD hl hpl hlen hP hpr hns hk
    obtain ⟨k, hpk⟩ := hpl
    have hne : ∀ b o, s₂.heap.get? b = some o → b ≠ D := by rintro b o e rfl; rw [hD] at e; cases e
    have hLn : h₀.get? env.locals = none := by
      cases e : h₀.get? env.locals with
      | none => rfl
      | some o => exact absurd (Nat.lt_of_lt_of_le (Heap.lt_size e) F.above) (Nat.lt_irrefl _)
    refine done D h' tk ys k vs ⟨hns, fun b o eb => hk b o (fun hb => ?_) (fun hb => ?_) (F.keep b o eb), F.above⟩ (fun q hq => ?_) (fun q hq => hne _ _ (N q hq).1) hlen hP hpr
    · rw [hb, hLn] at eb; cases eb
    · rw [List.mem_singleton.mp hb, hI] at eb; cases eb
    · rcases List.mem_cons.mp hq with e | hq
      · rw [e]
        refine ⟨hpk, fun e => ?_, ?_⟩
        · obtain ⟨o, es, ep, ho, r⟩ := F.ns
          exact hne _ _ ho e.symm
        · cases e : h₀.get? D with
          | none => rfl
          | some o => have := F.keep _ _ e; rw [hD] at this; cases this
      · exact ⟨hk _ _ (N q hq).2.1 (fun hb => hIN q hq (List.mem_singleton.mp hb)) (N q hq).1, (N q hq).2⟩
end
end

section
open PySem PySem.W PyProof.Rows PySem.Calls PySem.Spec
section
variable {prog : Program} {w : World} {A : Around} {E : Value → Shared → Prop} {env : Env} {s₂ : Shared} {h₀ : Heap} {L : Addr} {m : Str → Option Value} {news : List (Addr × Obj)}
theorem compStrA {y : Str} {elt : PySem.Expr} {x : Str} {ifs : List PySem.Expr} {scope : Scope} {cl : List (Str × Addr)} {p : Value → Bool} {G : Value → Value → Prop} {QQ : Shared → Addr → Heap → Nat → Prop} {x' : Str} {t' : Tok} (ha : x'.cps.all (· < 128) = true) (hsz : x'.cps.size ≤ 1000)
    (hh : A.handled = none) (F : Fr h₀ env.locals s₂.heap m) (N : News h₀ env.locals s₂.heap news)
    (tests : ∀ (C : Addr) (i : Nat) (v : Value) (s₃ : Shared) (m₃ : Str → Option Value) (E' : Value → Shared → Prop), (SignAt x') i v → Fr h₀ C s₃.heap (fun y => if y = x then some v else m₃ y) → News h₀ C s₃.heap news →
      wpAny (model prog w) A (forIn ifs true fun c r => if r = true then do let ok ← isTrue c (compEnvC scope cl C env) (eval c (compEnvC scope cl C env)); pure (ForInStep.yield ok) else pure (ForInStep.yield r))
        (fun ok s₄ => ok = p v ∧ Keeps s₃ s₄) E' s₃)
    (el : ∀ (C : Addr) (i : Nat) (v : Value) (s₃ : Shared) (m₃ : Str → Option Value) (E' : Value → Shared → Prop), (SignAt x') i v → p v = true → Fr h₀ C s₃.heap (fun y => if y = x then some v else m₃ y) → News h₀ C s₃.heap news →
      wpAny (model prog w) A (eval elt (compEnvC scope cl C env)) (fun y s₄ => G v y ∧ Keeps s₃ s₄) E' s₃)
    (done : ∀ D h' tk ys k (vs : List Value), Fr h₀ env.locals h' (fun z => if z = y then some (.ref D) else m z) → News h₀ env.locals h' ((D, { cls := .type "list", data := .seq ys k }) :: news) → (∀ q ∈ news, q.1 ≠ D) → vs.length = x'.cps.size → (∀ (j : Nat) (v : Value), vs[j]? = some v → (SignAt x') j v) → Paired G (vs.filter p) ys.toList →
      ∀ H, QQ { s₂ with heap := H } D h' tk) :
    wpAny (model prog w) A (pyIter (.str x' t')) (fun it s3 =>
    ∃ I' fp wr n P St m', it = .ref I' ∧ Walks prog w A I' fp wr n P St ∧ n ≤ sizeLine ∧ St 0 s3.heap ∧ (∀ b ∈ fp, b < s3.heap.objs.size) ∧ env.locals ∉ wr ∧ s3.heap.Ns env.locals m' ∧
      QuietOnC prog w A env scope cl x ifs elt wr P p G s3 ∧
      (∀ D h' tk ys (vs : List Value), s3.heap.get? D = none → h'.IsList D ys → h'.PlainList D ys → vs.length = n → (∀ (j : Nat) (v : Value), vs[j]? = some v → P j v) → Paired G (vs.filter p) ys.toList →
        h'.Ns env.locals (fun z => if z = y then some (.ref D) else m' z) → (∀ b o, b ≠ env.locals → b ∉ wr → s3.heap.get? b = some o → h'.get? b = some o) → QQ s3 D h' tk)) E s₂ := by
  refine wpAny_pyIter_ascii ha ?_
  exact compPackA (QQ := QQ _) (Walks.strAscii hh _ _ _) (by rw [sizeLine_eq]; omega) ⟨_, Heap.get?_push_size _ rfl, rfl, rfl⟩ (fun b hb => by rw [List.mem_singleton.mp hb, Heap.size_push]; exact Nat.lt_succ_self _) (F.push _)
    (fun q hq => ⟨Heap.get?_push_of_some _ (N q hq).1, (N q hq).2⟩) (next_is_new F) (Nat.ne_of_lt F.ns.lt) (fun q hq => Nat.ne_of_lt (Heap.lt_size (N q hq).1))
    (fun C i v s₃ m₃ E' hP F' N' => tests C i v s₃ m₃ E' hP F' N') (fun C i v s₃ m₃ E' hP hp F' N' => el C i v s₃ m₃ E' hP hp F' N') (fun D h' tk ys k vs F' N' h1 h2 h3 h4 => done D h' tk ys k vs F' N' h1 h2 h3 h4 _)
theorem compList {elt : PySem.Expr} {x : Str} {ifs : List PySem.Expr} {scope : Scope} {cl : List (Str × Addr)} {p : Value → Bool} {G : Value → Value → Prop} {QQ : Shared → Addr → Heap → Nat → Prop} {l : Addr} {items : Array Value} (hl : s₂.heap.IsList l items) (hsz : items.size ≤ 1000)
    (hh : A.handled = none) (F : Fr h₀ L s₂.heap m) (N : News h₀ L s₂.heap news)
    (tests : ∀ (C : Addr) (i : Nat) (v : Value) (s₃ : Shared) (m₃ : Str → Option Value) (E' : Value → Shared → Prop), (fun (i : Nat) (v : Value) => items[i]? = some v) i v → Fr h₀ C s₃.heap (fun y => if y = x then some v else m₃ y) → News h₀ C s₃.heap news →
      wpAny (model prog w) A (forIn ifs true fun c r => if r = true then do let ok ← isTrue c (compEnvC scope cl C env) (eval c (compEnvC scope cl C env)); pure (ForInStep.yield ok) else pure (ForInStep.yield r))
        (fun ok s₄ => ok = p v ∧ Keeps s₃ s₄) E' s₃)
    (el : ∀ (C : Addr) (i : Nat) (v : Value) (s₃ : Shared) (m₃ : Str → Option Value) (E' : Value → Shared → Prop), (fun (i : Nat) (v : Value) => items[i]? = some v) i v → p v = true → Fr h₀ C s₃.heap (fun y => if y = x then some v else m₃ y) → News h₀ C s₃.heap news →
      wpAny (model prog w) A (eval elt (compEnvC scope cl C env)) (fun y s₄ => G v y ∧ Keeps s₃ s₄) E' s₃)
    (done : ∀ D h' tk ys k (vs : List Value), Fr h₀ L h' m → News h₀ L h' ((D, { cls := .type "list", data := .seq ys k }) :: news) → (∀ q ∈ news, q.1 ≠ D) → vs.length = items.size → (∀ (j : Nat) (v : Value), vs[j]? = some v → (fun (i : Nat) (v : Value) => items[i]? = some v) j v) → Paired G (vs.filter p) ys.toList →
      ∀ H, QQ { s₂ with heap := H } D h' tk) :
    wpAny (model prog w) A (pyIter (.ref l)) (fun it s3 =>
    ∃ I' fp wr n P St, it = .ref I' ∧ Walks prog w A I' fp wr n P St ∧ n ≤ sizeLine ∧ St 0 s3.heap ∧ (∀ b ∈ fp, b < s3.heap.objs.size) ∧
      QuietOnC prog w A env scope cl x ifs elt wr P p G s3 ∧
      (∀ D h' tk ys (vs : List Value), s3.heap.get? D = none → h'.IsList D ys → h'.PlainList D ys → vs.length = n → (∀ (j : Nat) (v : Value), vs[j]? = some v → P j v) → Paired G (vs.filter p) ys.toList →
        (∀ b o, b ∉ wr → s3.heap.get? b = some o → h'.get? b = some o) → QQ s3 D h' tk)) E s₂ := by
  have hls := hl
  obtain ⟨ol, hol, _⟩ := id hl
  have hlt : l < s₂.heap.objs.size := Heap.lt_size hol
  refine wpAny_pyIter_list hls ?_
  exact compPack (QQ := QQ _) (Walks.list hh s₂.heap.objs.size l (Nat.ne_of_lt hlt) items) (by rw [sizeLine_eq]; omega) ⟨⟨_, Heap.get?_push_size _ rfl, rfl, rfl⟩, hls.at fun o e => Heap.get?_push_of_some _ e⟩ (fun b hb => by
      rw [Heap.size_push]
      rcases List.mem_cons.mp hb with e | hb
      · rw [e]; exact Nat.lt_succ_self _
      · rw [List.mem_singleton.mp hb]; exact Nat.lt_succ_of_lt hlt) (F.push _)
    (fun q hq => ⟨Heap.get?_push_of_some _ (N q hq).1, (N q hq).2⟩) (next_is_new F) (Nat.ne_of_lt F.ns.lt) (fun q hq => Nat.ne_of_lt (Heap.lt_size (N q hq).1))
    (fun C i v s₃ m₃ E' hP F' N' => tests C i v s₃ m₃ E' hP F' N') (fun C i v s₃ m₃ E' hP hp F' N' => el C i v s₃ m₃ E' hP hp F' N') (fun D h' tk ys k vs F' N' h1 h2 h3 h4 => done D h' tk ys k vs F' N' h1 h2 h3 h4 _)
end
end

section
open PySem PySem.W PyProof.Rows PySem.Calls PySem.Spec
/-- a call of a def whose names are captured -/
theorem enterC {prog : Program} {w : World} {A : Around} {s : Shared} {K : Frag} {p : Program} {loose : List Str} {mean : ExcName → Option Value} {mg mb : Str → Option Value}
    {R : Result → Shared → Prop} {name qual : Str} {params : Arguments} {body : List Stmt} {scope : Scope} {dV kV doc pm cdv ct oc : Value} {an od : Option Addr} {osl : Array (Option Value)} {f : Addr} {args : Args} {binds : List (Str × Value)}
    (X : K.In s.heap) (T : Top p loose mean mg mb s.heap) (hroom : A.depth < recursionLimit)
    (ho : K.lookup f = some ⟨oc, od, .func (fnOf name qual params body scope dV kV doc pm an cdv ct), osl⟩) (hcd : codeIn K cdv qual = true)
    (hbind : BindsTo s (fnOf name qual params body scope dV kV doc pm an cdv ct) args binds) (hkind : (binds.all fun y => scope.names.lookup y.1 == some .local || scope.names.lookup y.1 == some .cell) = true)
    (hnd : ((cellsFrom 0 scope.names []).map (·.1)).Nodup)
    (hco : scope.isCoroutine = false) (hgen : scope.isGenerator = false) (hk : scope.kind = .function)
    (h : ∀ L h₁ tk cells, Fr s.heap L h₁ (bindL (envOfC qual scope L f cdv).kindOf binds fun _ => none) → News s.heap L h₁ cells →
      CellsAre (bindC (envOfC qual scope L f cdv).kindOf binds fun _ => none) (cellsFrom (L + 1) scope.names []) cells →
      wpAny (model prog w) (A.deeper (envOfC qual scope L f cdv)) (execs body (envOfC qual scope L f cdv))
        (fun fl s' => R (.ok (.ret (match fl with | .ret v => v | _ => .none))) s')
        (fun e s' => wpAny (model prog w) (A.deeper (envOfC qual scope L f cdv)) (leaving (envOfC qual scope L f cdv) e) (fun _ s'' => R (.error e) s'') (fun e' s'' => R (.error e') s'') s')
        { s with heap := h₁, toks := tk }) : codeAny (model prog w) A (.call (.ref f) args) R s := by
  refine codeAny_call_function (fd := fnOf name qual params body scope dV kV doc pm an cdv ct) hroom (X _ _ ho) rfl hco hgen rfl (codeRec_of X hcd) (hbind _ _ _ _ ?_)
  refine wpAny_newFunctionEnv_cells hk (kindsX hkind _) fun env' he s' x => ?_
  subst he
  refine ⟨T.nolimit.keeps x.toInCall.keep, codeAny_func ?_⟩
  obtain ⟨h₁, tk, rfl, _⟩ := x.done
  have hk₁ := x.toInCall.keep
  obtain ⟨cells, NC, Y⟩ := Cl.news (h₀ := s.heap) (Nat.le_refl _) fun n c hm => ⟨x.cell n c (lookup_of_mem_nodup (cellsFrom_names scope.names 0 (s.heap.objs.size + 1) [] [] rfl ▸ hnd) hm), x.above n c hm⟩
  exact h _ h₁ tk cells ⟨x.toInCall.ns, hk₁, Nat.le_refl _⟩ NC Y
section
variable {prog : Program} {w : World} {A : Around} {E : Value → Shared → Prop} {s : Shared} {env : Env} {h₀ : Heap} {x : Str} {body : List Stmt} {Q : Flow → Shared → Prop}
/-- a for over a list of the call's own, the list's entry by a name -/
theorem iter_listP {l : Addr} {items : Array Value} {k : Nat} {m₀ : Str → Option Value} {news : List (Addr × Obj)} (J : Nat → (Str → Option Value) → List (Addr × Obj) → Prop)
    (hh : A.handled = none) (F : Fr h₀ env.locals s.heap m₀) (hl : News h₀ env.locals s.heap [(l, ({ cls := .type "list", data := .seq items k } : Obj))]) (N : News h₀ env.locals s.heap news) (hj : J 0 m₀ news)
    (turn : ∀ (lo : Addr × Obj), lo.1 = l → ∀ i v m₁ news₁ h tk I oI, i < items.size → items[i]? = some v → J i m₁ news₁ → (∀ p ∈ news₁, p.1 ≠ I) → Fr h₀ env.locals h (fun y => if y = x then some v else m₁ y) →
      News h₀ env.locals h ((I, oI) :: lo :: news₁) → oI.cls = .type "list_iterator" →
      wpAny (model prog w) A (execs body env) (Turn h₀ env.locals I [(I, oI), lo] "list_iterator" (J (i + 1)) { s with heap := h, toks := tk } Q) (fun _ _ => False) { s with heap := h, toks := tk })
    (done : ∀ m₁ news₁ h tk, J items.size m₁ news₁ → Fr h₀ env.locals h m₁ → News h₀ env.locals h news₁ → Q .next { s with heap := h, toks := tk }) :
    wpAny (model prog w) A (pyIter (.ref l)) (fun it s₂ => LoopAtV prog w A h₀ env x body Q E it s₂) E s :=
  iter_listN J hh F hl N hj (turn (l, _) rfl) done
end
end

section
open PySem PySem.W PyProof.Rows PySem.Calls PySem.Spec
theorem News.sub {h₀ h : Heap} {L : Addr} {l l' : List (Addr × Obj)} (N : News h₀ L h l) (hs : l' ⊆ l) : News h₀ L h l' := fun q hq => N q (hs hq)
section
variable {prog : Program} {w : World} {A : Around} {E : Value → Shared → Prop} {s : Shared} {env : Env} {h₀ : Heap} {target : PySem.Expr} {body : List Stmt} {Q : Flow → Shared → Prop}
/-- what a turn of a for over any target must come to -/
def TurnT (h₀ : Heap) (L I : Addr) (own : List (Addr × Obj)) (c : String) (J : (Str → Option Value) → List (Addr × Obj) → Prop) (s₁ : Shared) (f : Flow) (s' : Shared) : Prop :=
  f = .next ∧ ∃ h' tk m' nx, s' = { s₁ with heap := h', toks := tk } ∧ Fr h₀ L h' m' ∧ News h₀ L h' (own ++ nx) ∧ (∀ p ∈ nx, p.1 ≠ I ∨ p.2.cls ≠ .type c) ∧ J m' nx
theorem TurnT.intro {L I : Addr} {own nx : List (Addr × Obj)} {c : String} {J : (Str → Option Value) → List (Addr × Obj) → Prop} {s₁ : Shared} {h' : Heap} {tk : Nat} {m' : Str → Option Value}
    (F : Fr h₀ L h' m') (N : News h₀ L h' (own ++ nx)) (hc : ∀ p ∈ nx, p.1 ≠ I ∨ p.2.cls ≠ .type c) (hj : J m' nx) : TurnT h₀ L I own c J s₁ .next { s₁ with heap := h', toks := tk } := ⟨rfl, h', tk, m', nx, rfl, F, N, hc, hj⟩
/-- a for over a range, the target any name (a captured one too) -/
theorem iter_rangeT {r : Addr} {a b c : Int} {t u v : Tok} {n : Nat} {m₀ : Str → Option Value} {news : List (Addr × Obj)} (J : Nat → (Str → Option Value) → List (Addr × Obj) → Prop)
    (hgo : ∀ it v, letOwnedTupleGo target it v = pure ())
    (hh : A.handled = none) (hr : IsRange s.heap r a b c t u v) (hsmall : Builtin.Range.small a b c = true) (hn : Builtin.Range.rangeSize a b c = (n : Int))
    (F : Fr h₀ env.locals s.heap m₀) (N : News h₀ env.locals s.heap news) (hj : J 0 m₀ news)
    (turn : ∀ i t m₁ news₁ (s₁ : Shared) h tk I oI, i < n → J i m₁ news₁ → (∀ p ∈ news₁, p.1 ≠ I) → Fr h₀ env.locals h m₁ → News h₀ env.locals h ((I, oI) :: news₁) → oI.cls = .type "range_iterator" →
      wpAny (model prog w) A (assign target env (.int (a + (i : Nat) * c) t)) (fun _ s₃ => wpAny (model prog w) A (execs body env) (TurnT h₀ env.locals I [(I, oI)] "range_iterator" (J (i + 1)) { s₁ with heap := h, toks := tk }) (fun _ _ => False) s₃) (fun _ _ => False) { s₁ with heap := h, toks := tk })
    (done : ∀ m₁ news₁ h tk, J n m₁ news₁ → Fr h₀ env.locals h m₁ → News h₀ env.locals h news₁ → Q .next { s with heap := h, toks := tk }) :
    wpAny (model prog w) A (pyIter (.ref r)) (fun it s₂ => LoopAtT prog w A h₀ env target body Q E it s₂) E s := by
  refine wpAny_pyIter_range hr hsmall ?_
  refine ⟨s.heap.objs.size, _, _, n, _, _, m₀, news, J, rfl, Walks.range hh s.heap.objs.size a c n, ?_, ?_, ?_, (by show IsRangeIter _ _ _ _ _; rw [hn]; simpa using Heap.get?_push_size _ rfl), F.push _,
    (fun p hp => ⟨Heap.get?_push_of_some _ (N p hp).1, (N p hp).2⟩), ?_, hj, ?_, ?_⟩
  · intro hm
    exact absurd F.ns.lt ((List.mem_singleton.mp hm) ▸ Nat.lt_irrefl _)
  · intro b hb
    rw [List.mem_singleton.mp hb]; exact next_is_new F
  · intro p hp hm
    exact Nat.ne_of_lt (Heap.lt_size (N p hp).1) (List.mem_singleton.mp hm)
  · intro i s' v Q' _ hQ'
    exact wpAny_of_eq (hgo _ _) (by exact hQ')
  · rintro i v m₁ news₁ s₁ own hi ⟨t, rfl⟩ hJ hoff hown hlive hall hst₁ F₁ N₁
    have hoI := hst₁
    generalize hI : s.heap.objs.size = I at *
    obtain ⟨oI, hoI, hcI⟩ : ∃ o, s₁.heap.get? I = some o ∧ o.cls = .type "range_iterator" := ⟨_, hst₁, rfl⟩
    have hIn : h₀.get? I = none := by rw [← hI]; exact next_is_new (F)
    have hmI : (I, oI) ∈ own := hall I (List.mem_singleton_self _) hIn oI hoI
    have N₂ : News h₀ env.locals s₁.heap ((I, oI) :: news₁) := fun p hp => by
      rcases List.mem_cons.mp hp with q | q
      · rw [q]; exact N₁ _ (List.mem_append_left _ hmI)
      · exact N₁ p (List.mem_append_right _ q)
    refine wpAny_noRaise (wpAny_mono (turn i t m₁ news₁ s₁ s₁.heap s₁.toks I oI hi hJ (fun p hp e => hoff p hp (List.mem_singleton.mpr e)) F₁ N₂ hcI) (fun _ s₃ q => wpAny_noRaise (wpAny_mono q (fun f s₂ q => ?_) fun _ _ e => e)) fun _ _ e => e)
    obtain ⟨rfl, h', tk', m', nx, e, F', N', hc, hj⟩ := q
    refine ⟨rfl, h', tk', m', nx, e, F', fun p hp => ?_, fun p hp hb => ?_, hj⟩
    · rcases List.mem_append.mp hp with q | q
      · have e1 := List.mem_singleton.mp (hown p q)
        have : p = (I, oI) := by
          have h1 := hlive p q
          rw [e1] at h1
          have h2 := hoI.symm.trans h1
          exact Prod.ext e1 (Option.some.inj h2).symm
        rw [this]
        exact N' _ (List.mem_append_left _ (.head _))
      · exact N' p (List.mem_append_right _ q)
    · have e1 := List.mem_singleton.mp hb
      have h1 := (N' p (List.mem_append_right _ hp)).1
      have h2 := (N' (I, oI) (List.mem_append_left _ (.head _))).1
      rcases hc p hp with hne | hne
      · exact hne e1
      rw [e1] at h1
      have h3 : p.2 = oI := Option.some.inj (h1.symm.trans h2)
      exact hne (h3 ▸ hcI)
  · intro h' tk m' news' F' N' _ hj
    exact done m' news' h' tk hj F' N'
end
end

section
open PySem PySem.W PyProof.Rows PySem.Calls PySem.Spec
/-- a list of the caller's own, to be read -/
def Own (K : Frag) (p : Program) (loose : List Str) (mean : ExcName → Option Value) (mg mb : Str → Option Value) (a : Addr) (vs : List Value) (ka : Nat) (h : Heap) : Prop :=
  h.get? a = some { cls := .type "list", data := .seq vs.toArray ka } ∧ ∃ hc, K.In hc ∧ Top p loose mean mg mb hc ∧ (∀ b o, hc.get? b = some o → h.get? b = some o) ∧ hc.get? a = none
theorem hide_more {a L : Addr} {h h' : Heap} {l : List (Addr × Obj)} (N : News h L h' l) : News (hide a h) L h' l := by
  intro q hq
  refine ⟨(N q hq).1, (N q hq).2.1, ?_⟩
  by_cases e : q.1 = a
  · rw [e]; exact hide_self
  · rw [hide_ne e]; exact (N q hq).2.2
theorem strs_canLay : ∀ ss : List Str, (∀ x ∈ ss, PyData.strOk x = true) → PyData.canLayAll0 (ss.map PyData.str) = true
  | [], _ => rfl
  | x :: r, h => by simp [PyData.canLayAll0, PyData.canLay0, strs_canLay r (fun y hy => h y (.tail _ hy)), h x (.head _)]
theorem strs_depth : ∀ ss : List Str, PyData.depthAll (ss.map PyData.str) = 0
  | [] => rfl
  | _ :: r => by simp [PyData.depthAll, PyData.depth, strs_depth r]
theorem strs_shaped (ss : List Str) (h : ∀ x ∈ ss, PyData.strOk x = true) : SeqAt.shaped (.list (ss.map PyData.str)) = true := by
  simp [SeqAt.shaped, PyData.canLay0, PyData.depth, strs_canLay ss h, strs_depth]
theorem strs_carried : ∀ {vs : List Value} {ss : List Str}, StrsAre vs ss → CarriedAll vs (ss.map PyData.str)
  | _, _, .nil => .nil
  | _, _, .cons _ t r => .cons (.str _ t) (strs_carried r)
theorem strs_eqv_nil (ss : List Str) : PyData.eqv (.list (ss.map PyData.str)) (.list []) = decide (ss = []) := by
  cases ss <;> simp [PyData.eqv, PyData.eqvAll]
theorem mem_here {α : Type} {a : α} {l : List α} : a ∈ a :: l := .head _
theorem mem_skip {α : Type} {a b : α} {l : List α} (h : a ∈ l) : a ∈ b :: l := .tail _ h
theorem mem_right {α : Type} {a : α} {k l : List α} (h : a ∈ l) : a ∈ k ++ l := List.mem_append_right _ h
theorem sub_none {α : Type} {l : List α} : [] ⊆ l := fun _ h => nomatch h
theorem sub_more {α : Type} {a : α} {k l : List α} (h : a ∈ l) (r : k ⊆ l) : a :: k ⊆ l := List.cons_subset.mpr ⟨h, r⟩
theorem sub_self {α : Type} {l : List α} : l ⊆ l := fun _ h => h
theorem sub_left {α : Type} {k l : List α} : k ⊆ k ++ l := fun _ h => List.mem_append_left _ h
theorem sub_skip {α : Type} {a : α} {k l : List α} (h : k ⊆ l) : k ⊆ a :: l := fun _ m => .tail _ (h m)
theorem sub_right {α : Type} {k j l : List α} (h : k ⊆ l) : k ⊆ j ++ l := fun _ m => List.mem_append_right _ (h m)
theorem all_more {α : Type} {P : α → Prop} {a : α} {l : List α} (h : P a) (r : ∀ x ∈ l, P x) : ∀ x ∈ a :: l, P x := List.forall_mem_cons.mpr ⟨h, r⟩
theorem all_none {α : Type} {P : α → Prop} : ∀ x ∈ ([] : List α), P x := fun _ h => nomatch h

section
variable {prog : Program} {w : World} {A : Around} {E : Value → Shared → Prop} {s : Shared} {a b : Addr} {xs : List Value} {ss : List Str} {Q : Value → Shared → Prop}
theorem eq_strs_nil (ha : s.heap.IsList a xs.toArray) (hb : s.heap.IsList b #[]) (hi : StrsAre xs ss) (hok : ∀ x ∈ ss, PyData.strOk x = true) (hu : A.units + 64 < cLine) (h : Q (.bool (decide (ss = []))) s) :
    wpAny (model prog w) A (compareOp .Eq (.ref a) (.ref b)) Q E s :=
  eq_dataH (reads_newData ha (strs_carried hi)) (reads_newData (ys := []) hb (.nil)) (strs_shaped _ hok) rfl hu (by rw [strs_eqv_nil]; exact h)
theorem ne_strs_nil (ha : s.heap.IsList a xs.toArray) (hb : s.heap.IsList b #[]) (hi : StrsAre xs ss) (hok : ∀ x ∈ ss, PyData.strOk x = true) (hu : A.units + 64 < cLine) (h : Q (.bool (!decide (ss = []))) s) :
    wpAny (model prog w) A (compareOp .NotEq (.ref a) (.ref b)) Q E s :=
  ne_dataH (reads_newData ha (strs_carried hi)) (reads_newData (ys := []) hb (.nil)) (strs_shaped _ hok) rfl hu (by rw [strs_eqv_nil]; exact h)
theorem add_two {h₀ : Heap} {L : Addr} {m : Str → Option Value} {news : List (Addr × Obj)} {ws : List Value} {ys : Array Value} (F : Fr h₀ L s.heap m) (N : News h₀ L s.heap news) (ha : s.heap.IsList a ws.toArray) (hb : s.heap.IsList b ys) (h1 : ws.length ≤ 1000) (h2 : ys.size ≤ 1000)
    (h : ∀ D h', Fr h₀ L h' m → News h₀ L h' ((D, listOf (ws ++ ys.toList).toArray 0) :: news) → (∀ p ∈ news, p.1 < D) → Q (.ref D) { s with heap := h' }) :
    wpAny (model prog w) A (binaryOp .Add (.ref a) (.ref b)) Q E s := by
  refine kmk_add_lit F N ha hb rfl h ?_
  rw [sizeLine_eq, Array.length_toList]
  show ws.length + ys.size ≤ _
  omega
end
end

section
local macro_rules | `(tactic| walk_at "subscriptTail Name Slice ref ref") => `(tactic| ((with_reducible show wpAny _ _ (subscriptTail _ (PySem.Expr.Slice _ _ none _) (Value.ref _) (Value.ref _)) _ _ _); (with_reducible rename Fr _ _ _ _ => kF); (with_reducible rename News _ _ _ _ => kN); k_dflt (refine' kmk_slice_ints kF kN (News.isList kN ?zm) ?zp ?zq ?zi ?zk rfl ?_ ?zs ?zt ?zz; (case zm => k_mem); (case zp => kmk_part); (case zq => kmk_part); (case zi => assumption); (case zk => first | exact kmk_upto (by assumption) (by omega) | exact kmk_from (by assumption) (by omega)); (case zs => with_unfolding_all rfl); (case zt => kmk_pure); (case zz => (rw [List.size_toArray, sizeLine_eq]; omega))); clear kF kN; intro D' ws' h' F' N' l1 hI' hC' hL'; clear hC' hL'; (try k_lt l1)))

section
open PySem PySem.W PyProof.Rows PySem.Calls PySem.Spec
theorem top_F7 : True := by
  w_top off
  trivial
theorem set_any {prog : Program} {w : World} {A : Around} {E : Value → Shared → Prop} {s : Shared} {h₀ : Heap} {L D : Addr} {m : Str → Option Value} {pre post : List (Addr × Obj)} {vs : List Value} {n : Nat} {k : Int} {t : Tok} {v : Value} {Q : Unit → Shared → Prop}
    (F : Fr h₀ L s.heap m) (N : News h₀ L s.heap (pre ++ (D, ({ cls := .type "list", data := .seq vs.toArray n } : Obj)) :: post)) (a : ∀ p ∈ pre, p.1 ≠ D) (b : ∀ p ∈ post, p.1 ≠ D) (h0 : 0 ≤ k) (h1 : k < vs.length) (hfit : k < 2 ^ 63)
    (h : ∀ h', Fr h₀ L h' m → News h₀ L h' (pre ++ (D, ({ cls := .type "list", data := .seq (vs.set k.toNat v).toArray n } : Obj)) :: post) → Q () { s with heap := h' }) :
    wpAny (model prog w) A (setItem (.ref D) (.int k t) v) Q E s := by
  have z := N (D, listOf vs.toArray n) (List.mem_append.mpr (.inr (.head _)))
  refine ki_setAt z.1 h0 hfit (by simpa using h1) (h _ (F.change (Heap.SameBut.update ..) z.2.1 z.2.2) (ki_turn _ N a b ?_ ?_))
  · simp
  · simp
theorem quote_use {prog : Program} {w : World} {p : Program} {loose : List Str} {mean : ExcName → Option Value} {mg mb : Str → Option Value} {A : Around} {s : Shared} {Q E : Value → Shared → Prop} {h₀ : Heap} {L : Addr} {m : Str → Option Value} {news : List (Addr × Obj)} {d : Str} (d' : Str) {t : Tok}
    (hR : Room A 1) (F : Fr h₀ L s.heap m) (N : News h₀ L s.heap news) (X : (hd.heap_39 w.params).In h₀) (T : Top p loose mean mg mb h₀) (hd1 : d.length ≤ 1000) (hq : quo d = some d')
    (h : ∀ h' tk t, (∀ b o, s.heap.get? b = some o → h'.get? b = some o) → Fr h₀ L h' m → News h₀ L h' news → Q (.str d' t) { s with heap := h', toks := tk }) :
    wpAny (model prog w) A (call (.ref 82) [.str d t]) Q E s := by
  refine Does.use (does_quote d d' t hd1 hq) hR F N X T trivial ?_
  rintro v h' tk tl k F' N' ⟨t, rfl⟩
  exact h h' tk t k F' (fun p hp => N' p (List.mem_append_right _ hp))
section
variable {prog : Program} {w : World} {p : Program} {loose : List Str} {mean : ExcName → Option Value} {mg mb : Str → Option Value}
theorem does_walk (n : Nat) (t : Tok) (hn : n < 2187) :
    Does prog w (hd.heap_39 w.params) p loose mean mg mb 2 101 [.int (n : Nat) t] (fun _ => True) (fun tl v => ∃ (R B D : Addr) (t : Tok) (k1 k0 : Nat) (vs us : List Value), v = .ref R ∧ tl = [(R, W.listOf #[.ref D, .str (sx (wrun n 7).2.2) t, .ref B] 0), (B, { cls := .type "list", data := .seq vs.toArray k1 }), (D, { cls := .type "list", data := .seq us.toArray k0 })] ∧
      (B ≠ D ∧ B < R ∧ D < R) ∧ IntsAre us ((wrun n 7).1.map Int.ofNat) ∧ StrsAre vs (mailsOf (wrun n 7).2.1)) := by
  intro A₀ s Q E hR XX T hpre hQ
  obtain ⟨dp, fr, gd, un, rfl, hdp, hun⟩ := hR.open
  refine wpAny_call ?_
  k_dflt (refine' enter ?k1 ?k2 ?k3 ?k6 ?k7 ?k9 ?kB ?c5 ?c2 ?c3 ?c4 ?_; (case k1 => assumption); (case k2 => assumption); (case k6 => k_is); (case k7 => k_is); (case k9 => exact BindsTo.of_eq rfl); (case kB => exact locs rfl); (case c2 => exact rfl); (case c3 => exact rfl); (case c4 => exact rfl); (case c5 => decide))
  · (dsimp only); omega
  intro L h₁ tk F N
  refine veil2 ?_
  intro K0 X0 hK0 _
  refine cut (ι := Addr × Nat × List Value × Tok) (h₀ := s.heap) (L := L) (fun i => IntsAre i.2.2.1 [0, 1, 2, 3]) (fun i => [("figures", .int (n : Nat) i.2.2.2), ("order", .ref i.1)]) (fun i => [(i.1, { cls := .type "list", data := .seq i.2.2.1.toArray i.2.1 })]) ?_ ?_
  · intro K hK hRet
    k_steps
    all_goals (try dsimp only)
    exact hK ⟨_, _, [_, _, _, _], _⟩ (by assumption) (by assumption) ⟨rfl, rfl, trivial⟩ (.cons _ _ (.cons _ _ (.cons _ _ (.cons _ _ .nil))))
  rintro ⟨D, k0, us, t1⟩ u h₂ tk₂ hus F N
  dsimp only at F N hus ⊢
  refine cut (ι := (Addr × Nat × List Value) × (Addr × Nat × List Value) × Tok) (h₀ := s.heap) (L := L) (fun i => i.2.1.1 ≠ i.1.1 ∧ IntsAre i.1.2.2 [0, 1, 2, 3] ∧ StrsAre i.2.1.2.2 [sx (mail 112 2), sx (mail 113 2), sx (mail 114 2), sx (mail 115 2)])
     (fun i => [("figures", .int (n : Nat) i.2.2), ("order", .ref i.1.1), ("mails", .ref i.2.1.1)])
     (fun i => [(i.2.1.1, { cls := .type "list", data := .seq i.2.1.2.2.toArray i.2.1.2.1 }), (i.1.1, { cls := .type "list", data := .seq i.1.2.2.toArray i.1.2.1 })]) ?_ ?_
  · intro K hK hRet
    refine wpAny_Assign_ListComp_free (cl := []) (fun _ => true) (fun v y => ∃ c ∈ [112, 113, 114, 115], ∃ u t, v = .str (sx [c]) u ∧ y = .str (sx (mail c 2)) t) rfl rfl (by decide) rfl (by decide) rfl rfl rfl ?_
    k_steps
    all_goals (try dsimp only)
    refine compStrA (by decide +kernel) (by decide +kernel) rfl F N ?_ ?_ ?_
    · intro C i v s₃ m₃ E' hP F N
      exact wpAny_pure ⟨rfl, _, _, rfl, fun _ _ e => e⟩
    · rintro C i v s₃ m₃ E' ⟨c, u2, hc, rfl⟩ hp F N
      have hcm : c ∈ [112, 113, 114, 115] := by
        have e : (Str.ofString "pqrs").cps = #[112, 113, 114, 115] := by decide +kernel
        rw [e] at hc
        have := Array.mem_of_getElem? hc
        simpa using this
      k_steps
      rotate_left 4
      have e : ((⟨#[c]⟩ : Str) ++ "\n.\r" : Str) = sx [c, 10, 46, 13] := by
        show (⟨#[c] ++ (Str.ofString "\n.\r").cps⟩ : Str) = _
        rw [show (Str.ofString "\n.\r").cps = #[10, 46, 13] from by decide +kernel]
        rfl
      rw [e]
      refine quote_use (sx (mail c 2)) (Room.deeper (by assumption)) F N XX T (by rw [sx_len]; show 4 ≤ 1000; omega) (quo_first c hcm) ?_
      intro h' tk t k F' N'
      exact ⟨⟨c, hcm, u2, t, rfl, rfl⟩, h', tk, rfl, k⟩
      all_goals first | exact (0 : Nat) | exact Str.empty | exact Value.none | exact []
    · intro D' h' tk ys k vs F' N' hne hlen hP hpr H
      (try dsimp only)
      rw [filter_tt] at hpr
      have hcp : (Str.ofString "pqrs").cps = #[112, 113, 114, 115] := by decide +kernel
      have hss := strs_paired (fun c => sx (mail c 2)) (fun v y h => by obtain ⟨c, _, u, t, h1, h2⟩ := h; exact ⟨c, u, t, h1, h2⟩) [112, 113, 114, 115] vs ys.toList (by rw [hlen, hcp]; rfl) (fun j v hj => by
        obtain ⟨c, u, h1, h2⟩ := hP j v hj
        rw [hcp] at h1
        exact ⟨c, u, by simpa using h1, h2⟩) hpr
      exact hK ⟨(D, k0, us), (D', k, ys.toList), _⟩ F' N' ⟨rfl, rfl, rfl, trivial⟩ ⟨Ne.symm (hne _ (.head _)), hus, hss⟩
  --PART2
  rintro ⟨⟨D, k0, us⟩, ⟨B, k1, vs⟩, t1⟩ u h₂ tk₂ ⟨hBD, hus, hvs⟩ F N
  dsimp only at F N hBD hus hvs ⊢
  refine cut (ι := Tok × Tok) (h₀ := s.heap) (L := L) (fun _ => True)
     (fun i => [("figures", .int (n : Nat) i.1), ("order", .ref D), ("mails", .ref B), ("word", .str Str.empty i.2)])
     (fun i => [(B, { cls := .type "list", data := .seq vs.toArray k1 }), (D, { cls := .type "list", data := .seq us.toArray k0 })]) ?_ ?_
  · intro K hK hRet
    k_steps
    all_goals (try dsimp only)
    exact hK ⟨_, _⟩ (by assumption) (by assumption) ⟨rfl, rfl, rfl, rfl, trivial⟩ trivial
  rintro ⟨t1, t2⟩ u h₂ tk₂ - F N
  dsimp only at F N ⊢
  refine cut (ι := (Addr × Nat × List Value) × (Addr × Nat × List Value) × Tok) (h₀ := s.heap) (L := L) (fun i => i.2.1.1 ≠ i.1.1 ∧ IntsAre i.1.2.2 ((wrun n 7).1.map Int.ofNat) ∧ StrsAre i.2.1.2.2 (mailsOf (wrun n 7).2.1))
     (fun i => [("order", .ref i.1.1), ("mails", .ref i.2.1.1), ("word", .str (sx (wrun n 7).2.2) i.2.2)])
     (fun i => [(i.2.1.1, { cls := .type "list", data := .seq i.2.1.2.2.toArray i.2.1.2.1 }), (i.1.1, { cls := .type "list", data := .seq i.1.2.2.toArray i.1.2.1 })]) ?_ ?_
  · intro K hK hRet
    refine For_invV s.heap rfl rfl ?_
    repeat (first | (fail_if_success (with_reducible show wpAny _ _ (pyIter _) _ _ _)); walk1)
    (try dsimp only)
    rename IsRange _ _ _ _ _ _ _ _ => hr
    rename News _ _ _ _ => N
    rename Fr _ _ _ _ => F
    refine iter_range (n := 7) (fun i m news => ∃ (D : Addr) (k0 : Nat) (us : List Value) (B : Addr) (k1 : Nat) (vs : List Value) (t1 t2 : Tok), news = [(B, { cls := .type "list", data := .seq vs.toArray k1 }), (D, { cls := .type "list", data := .seq us.toArray k0 })] ∧ B ≠ D ∧
      IntsAre us ((wrun n i).1.map Int.ofNat) ∧ StrsAre vs (mailsOf (wrun n i).2.1) ∧ Know m [("figures", .int (n : Nat) t1), ("order", .ref D), ("mails", .ref B), ("word", .str (sx (wrun n i).2.2) t2)]) rfl hr (by decide) (by decide) F (fun p hp => N p (by first | exact hp | exact .tail _ hp))
      ⟨D, k0, us, B, k1, vs, t1, t2, rfl, hBD, hus, hvs, ⟨rfl, rfl, rfl, rfl, trivial⟩⟩ ?_ ?_
    · rintro i ti m₁ news₁ h tk I oI hi ⟨D, k0, us, B, k1, vs, t1, t2, rfl, hBD, hus, hvs, kn⟩ hoff F N hcI
      refine veil ?_
      intro KT hT
      rw [know kn] at F
      have ei : (0 : Int) + (i : Nat) * 1 = i := by omega
      rw [ei] at F
      dsimp only at F N ⊢
      have hDI : D ≠ I := hoff _ (.tail _ (.head _))
      have hBI : B ≠ I := hoff _ (.head _)
      have hq1 := pow_facts n i hi
      have hp3 : n / 3 ^ i % 3 < 3 := Nat.mod_lt _ (by decide)
      have hst : wrun n (i + 1) = wstep (wrun n i) (n / 3 ^ i % 3) := rfl
      have htb := wrun_tbl n i
      generalize n / 3 ^ i % 3 = p at *
      refine cut (ι := Tok × Tok × Tok) (h₀ := s.heap) (L := L) (fun _ => True)
        (fun j => [("figures", .int (n : Nat) j.1), ("order", .ref D), ("mails", .ref B), ("word", .str (sx (wrun n i).2.2) j.2.1), ("place", .int (p : Nat) j.2.2)])
        (fun i => [(I, oI), (B, { cls := .type "list", data := .seq vs.toArray k1 }), (D, { cls := .type "list", data := .seq us.toArray k0 })]) ?_ ?_
      · intro K hK hRet
        k_steps
        (try dsimp only)
        generalize (3 : Int) ^ ((i : Nat) : Int).toNat = q at *
        have hq0 : q ≠ 0 := by omega
        k_steps
        all_goals (try dsimp only)
        rw [← hq1.2.2] at hK
        exact hK ⟨_, _, _⟩ (by assumption) (by assumption) ⟨rfl, rfl, rfl, rfl, rfl, trivial⟩ trivial
      generalize wrun n (i + 1) = nx at *
      generalize wrun n i = st at *
      rintro ⟨t1, t2, t3⟩ u h₂ tk₂ - F N
      dsimp only at F N ⊢
      obtain ⟨g1, g2, g3, g4, g5, g6⟩ := good_at htb
      have hl4 : (st.1.map Int.ofNat).length = 4 := by rw [List.length_map]; exact g1
      have hul : us.length = 4 := by have := hus.sizeZ; simp only [List.size_toArray] at this; omega
      refine cut (ι := Tok × Tok × Tok × Tok) (h₀ := s.heap) (L := L) (fun _ => True)
        (fun j => [("figures", .int (n : Nat) j.1), ("order", .ref D), ("mails", .ref B), ("word", .str (sx st.2.2) j.2.1), ("place", .int (p : Nat) j.2.2.1), ("one", .int (st.1.getD p 0 : Nat) j.2.2.2)])
        (fun i => [(I, oI), (B, { cls := .type "list", data := .seq vs.toArray k1 }), (D, { cls := .type "list", data := .seq us.toArray k0 })]) ?_ ?_
      · intro K hK hRet
        k_steps
        all_goals (try dsimp only)
        rw [← getD_ofNat] at hK
        exact hK ⟨_, _, _, _⟩ (by assumption) (by assumption) ⟨rfl, rfl, rfl, rfl, rfl, rfl, trivial⟩ trivial
      rintro ⟨t1, t2, t3, t4⟩ u h₂ tk₂ - F N
      dsimp only at F N ⊢
      refine cut (ι := Tok × Tok × Tok × Tok × Tok) (h₀ := s.heap) (L := L) (fun _ => True)
        (fun j => [("figures", .int (n : Nat) j.1), ("order", .ref D), ("mails", .ref B), ("word", .str (sx st.2.2) j.2.1), ("place", .int (p : Nat) j.2.2.1), ("one", .int (st.1.getD p 0 : Nat) j.2.2.2.1), ("other", .int (st.1.getD (p + 1) 0 : Nat) j.2.2.2.2)])
        (fun i => [(I, oI), (B, { cls := .type "list", data := .seq vs.toArray k1 }), (D, { cls := .type "list", data := .seq us.toArray k0 })]) ?_ ?_
      · intro K hK hRet
        k_steps
        all_goals (try dsimp only)
        have e : ((st.1.getD (p + 1) 0 : Nat) : Int) = (st.1.map Int.ofNat).getD ((p : Int) + 1).toNat 0 := by rw [getD_ofNat, show ((p : Int) + 1).toNat = p + 1 from by omega]
        rw [e] at hK
        exact hK ⟨_, _, _, _, _⟩ (by assumption) (by assumption) ⟨rfl, rfl, rfl, rfl, rfl, rfl, rfl, trivial⟩ trivial
      rintro ⟨t1, t2, t3, t4, t5⟩ u h₂ tk₂ - F N
      dsimp only at F N ⊢
      have hw := wstep_eq st p
      have g6' := g6 p hp3
      have hr4 := g2 (p + 1)
      generalize st.1.getD p 0 = o at *
      generalize st.1.getD (p + 1) 0 = r at *
      by_cases hlt : o < r
      · repeat (first | (fail_if_success (with_reducible show wpAny _ _ (execs (Stmt.Assign _ _ _ :: _) _) _ _ _)); walk1)
        all_goals (try (exfalso; omega))
        (try dsimp only)
        rename News _ _ _ _ => N
        rename Fr _ _ _ _ => F
        refine cut (ι := (Addr × Nat × List Value) × Tok × Tok × Tok × Tok × Tok) (h₀ := s.heap) (L := L) (fun i => B ≠ i.1.1 ∧ IntsAre i.1.2.2 ((st.1.take p ++ [r, o] ++ st.1.drop (p + 2)).map Int.ofNat))
          (fun j => [("figures", .int (n : Nat) j.2.1), ("order", .ref j.1.1), ("mails", .ref B), ("word", .str (sx st.2.2) j.2.2.1), ("place", .int (p : Nat) j.2.2.2.1), ("one", .int (o : Nat) j.2.2.2.2.1), ("other", .int (r : Nat) j.2.2.2.2.2)])
          (fun j => [(I, oI), (B, { cls := .type "list", data := .seq vs.toArray k1 }), (j.1.1, { cls := .type "list", data := .seq j.1.2.2.toArray j.1.2.1 })]) ?_ ?_
        · intro K hK hRet
          k_steps
          (try dsimp only)
          rename News _ _ _ _ => N
          rename Fr _ _ _ _ => F
          rename IntsAre _ (_ ++ _) => hI
          have e : (st.1.take p ++ [r, o] ++ st.1.drop (p + 2)).map Int.ofNat = List.take p (st.1.map Int.ofNat) ++ [(r : Int), (o : Int)] ++ List.drop (p + 2) (st.1.map Int.ofNat) := by
            rw [List.map_append, List.map_append, List.map_take, List.map_drop]; rfl
          rw [Int.toNat_natCast, show ((p : Int) + 2).toNat = p + 2 from by omega, ← e] at hI
          refine hK ⟨(_, _, _), _, _, _, _, _⟩ F (fun q hq => N q (by
            rcases List.mem_cons.mp hq with e | hq
            · rw [e]; exact .tail _ (.tail _ (.tail _ (.tail _ (.tail _ (.head _)))))
            rcases List.mem_cons.mp hq with e | hq
            · rw [e]; exact .tail _ (.tail _ (.tail _ (.tail _ (.tail _ (.tail _ (.head _))))))
            · rw [List.mem_singleton.mp hq]; exact .head _)) ⟨rfl, rfl, rfl, rfl, rfl, rfl, rfl, trivial⟩ ⟨?_, hI⟩
          rename _ ∧ _ => l1
          exact Nat.ne_of_lt l1.2.2.2.2.2.1
        rintro ⟨⟨D2, k2, us2⟩, t1, t2, t3, t4, t5⟩ u h₂ tk₂ ⟨hBD2, hus2⟩ F N
        dsimp only at F N hBD2 hus2 ⊢
        have hd4 := g6' hlt
        have hvl : vs.length = 4 := by have := hvs.len_eq; rw [this, mailsOf]; simp [g3]
        obtain ⟨tv, hv⟩ := strs_get hvs (mails_get g3 hr4)
        refine cut (ι := List Value × Tok × Tok × Tok) (h₀ := s.heap) (L := L) (fun i => StrsAre i.1 (mailsOf (st.2.1.set r (st.2.1.getD r 0 + 1))))
          (fun j => [("figures", .int (n : Nat) j.2.1), ("order", .ref D2), ("mails", .ref B), ("word", .str (sx st.2.2) j.2.2.1), ("place", .int (p : Nat) j.2.2.2)])
          (fun j => [(I, oI), (B, { cls := .type "list", data := .seq j.1.toArray k1 }), (D2, { cls := .type "list", data := .seq us2.toArray k2 })]) ?_ ?_
        · intro K hK hRet
          k_steps
          (try dsimp only)
          rename News _ _ _ _ => N
          rename Fr _ _ _ _ => F
          refine kim_list N (.tail _ (.head _)) rfl rfl (by omega) (by omega) (x := .str (sx (mail (112 + r) (st.2.1.getD r 0))) tv) (by rw [Int.toNat_natCast]; exact hv) ?_
          (try dsimp only)
          k_steps
          (try dsimp only)
          rename News _ _ _ _ => N
          rename Fr _ _ _ _ => F
          refine quote_use (sx (mail (112 + r) (st.2.1.getD r 0 + 1))) (Room.deeper (by assumption)) F N XX T (by rw [mail_len]; have := le4 hd4; omega) (quo_at hr4 hd4) ?_
          intro h' tk t k F' N'
          (try dsimp only)
          k_steps
          (try dsimp only)
          rename News _ _ _ _ => N
          rename Fr _ _ _ _ => F
          refine set_any (pre := [(I, oI)]) (post := [(D2, { cls := .type "list", data := .seq us2.toArray k2 })]) F N (fun q hq => by rw [List.mem_singleton.mp hq]; exact Ne.symm hBI) (fun q hq => by rw [List.mem_singleton.mp hq]; exact Ne.symm hBD2) (by omega) (by omega) (by omega) ?_
          clear F N
          intro h' F N
          rw [Int.toNat_natCast] at N
          (try dsimp only)
          k_steps
          (try dsimp only)
          exact hK ⟨_, _, _, _⟩ (by assumption) (by assumption) ⟨rfl, rfl, rfl, rfl, rfl, trivial⟩ (by rw [← mails_set g3 hr4]; exact strs_set r _ _ hvs)
        rintro ⟨vs2, t1, t2, t3⟩ u h₂ tk₂ hvs2 F N
        dsimp only at F N hvs2 ⊢
        have lw : (sx st.2.2).length ≤ 6 := by rw [sx_len]; exact g4
        have ewd : sx st.2.2 ++ Txt.item "abc" (p : Int) = sx (st.2.2 ++ [97 + p]) := by rw [item_abc hp3, sx_append]
        rw [if_pos hlt] at hw
        rw [hw] at hst
        subst nx
        k_steps
        all_goals (try dsimp only)
        rw [ewd] at *
        refine hT _ _ ?_
        refine Turn.intro (by assumption) (by assumption) ?_ ⟨D2, k2, us2, B, k1, vs2, _, _, rfl, hBD2, hus2, hvs2, ⟨rfl, rfl, rfl, rfl, trivial⟩⟩
        intro q hq
        rcases List.mem_cons.mp hq with e | e
        · rw [e]; exact .inl hBI
        · rw [List.mem_singleton.mp e]; exact .inr (fun h => absurd (Value.type.inj h) (by decide))
      · rw [if_neg hlt] at hw
        rw [hw] at hst
        subst nx
        k_steps
        all_goals (try (exfalso; omega))
        refine hT _ _ ?_
        refine Turn.intro (by assumption) (by assumption) ?_ ⟨D, k0, us, B, k1, vs, _, _, rfl, hBD, hus, hvs, ⟨rfl, rfl, rfl, rfl, trivial⟩⟩
        intro q hq
        rcases List.mem_cons.mp hq with e | e
        · rw [e]; exact .inl hBI
        · rw [List.mem_singleton.mp e]; exact .inl hDI
    · rintro m₁ news₁ h tk ⟨D, k0, us, B, k1, vs, t1, t2, rfl, hBD, hus, hvs, kn⟩ F N
      exact hK ⟨(D, k0, us), (B, k1, vs), _⟩ F N ⟨kn.2.1, kn.2.2.1, kn.2.2.2.1, trivial⟩ ⟨hBD, hus, hvs⟩
  rintro ⟨⟨D, k0, us⟩, ⟨B, k1, vs⟩, t2⟩ u h₂ tk₂ ⟨hBD, hus, hvs⟩ F N
  dsimp only at F N hBD hus hvs ⊢
  k_steps
  (try dsimp only)
  rename News _ _ _ _ => N
  rename Fr _ _ _ _ => F
  refine hK0 _ _ ?_
  (try dsimp only)
  refine hQ _ _ _ _ F.keep (made N) ?_
  exact ⟨_, _, _, _, _, _, _, _, rfl, rfl, ⟨hBD, by omega⟩, hus, hvs⟩
end
end

section
open PySem PySem.W PyProof.Rows PySem.Calls PySem.Spec
theorem top_F8 : True := by
  w_top off
  trivial
section
variable {prog : Program} {w : World} {p : Program} {loose : List Str} {mean : ExcName → Option Value} {mg mb : Str → Option Value}
theorem does_laid (a : Addr) (vs : List Value) (ds : List Nat) (ka : Nat) (hvs : IntsAre vs (ds.map Int.ofNat)) (hd4 : ds.length = 4) (hdi : ∀ i, ds.getD i 0 ≤ i) :
    Does prog w (hd.heap_39 w.params) p loose mean mg mb 1 113 [.ref a] (fun h => h.get? a = some { cls := .type "list", data := .seq vs.toArray ka })
      (fun tl v => ∃ (R D : Addr) (t : Tok) (k0 : Nat) (us : List Value), v = .ref R ∧ tl = [(R, W.listOf #[.ref D, .str (sx (lrun ds 4).2) t] 0), (D, { cls := .type "list", data := .seq us.toArray k0 })] ∧ D < R ∧ IntsAre us ((lrun ds 4).1.map Int.ofNat)) := by
  intro A₀ s Q E hR XX T hpre hQ
  obtain ⟨dp, fr, gd, un, rfl, hdp, hun⟩ := hR.open
  refine wpAny_call ?_
  k_dflt (refine' enter ?k1 ?k2 ?k3 ?k6 ?k7 ?k9 ?kB ?c5 ?c2 ?c3 ?c4 ?_; (case k1 => assumption); (case k2 => assumption); (case k6 => k_is); (case k7 => k_is); (case k9 => exact BindsTo.of_eq rfl); (case kB => exact locs rfl); (case c2 => exact rfl); (case c3 => exact rfl); (case c4 => exact rfl); (case c5 => decide))
  · (dsimp only); omega
  intro L h₁ tk F N
  refine veil2 ?_
  intro K0 X0 hK0 _
  refine cut (ι := Addr × Nat) (h₀ := s.heap) (L := L) (fun _ => True) (fun i => [("dots", .ref a), ("order", .ref i.1)]) (fun i => [(i.1, { cls := .type "list", data := .seq ([] : List Value).toArray i.2 })]) ?_ ?_
  · intro K hK hRet
    k_steps
    all_goals (try dsimp only)
    exact hK ⟨_, _⟩ (by assumption) (by assumption) ⟨rfl, rfl, trivial⟩ trivial
  rintro ⟨D, k0⟩ u h₂ tk₂ - F N
  dsimp only at F N ⊢
  refine cut (ι := Addr × Nat × Tok) (h₀ := s.heap) (L := L) (fun _ => True) (fun i => [("dots", .ref a), ("order", .ref i.1), ("word", .str (sx []) i.2.2)]) (fun i => [(i.1, { cls := .type "list", data := .seq ([] : List Value).toArray i.2.1 })]) ?_ ?_
  · intro K hK hRet
    k_steps
    all_goals (try dsimp only)
    exact hK ⟨_, _, _⟩ (by assumption) (by assumption) ⟨rfl, rfl, rfl, trivial⟩ trivial
  rintro ⟨D, k0, t1⟩ u h₂ tk₂ - F N
  dsimp only at F N ⊢
  refine cut (ι := Addr × Nat × List Value × Tok) (h₀ := s.heap) (L := L) (fun i => IntsAre i.2.2.1 ((lrun ds 4).1.map Int.ofNat)) (fun i => [("order", .ref i.1), ("word", .str (sx (lrun ds 4).2) i.2.2.2)]) (fun i => [(i.1, { cls := .type "list", data := .seq i.2.2.1.toArray i.2.1 })]) ?_ ?_
  · intro K hK hRet
    refine For_invV s.heap rfl rfl ?_
    repeat (first | (fail_if_success (with_reducible show wpAny _ _ (pyIter _) _ _ _)); walk1)
    (try dsimp only)
    rename IsRange _ _ _ _ _ _ _ _ => hr
    rename News _ _ _ _ => N
    rename Fr _ _ _ _ => F
    refine iter_range (n := 4) (fun i m news => ∃ (D : Addr) (k0 : Nat) (us : List Value) (t2 : Tok), news = [(D, { cls := .type "list", data := .seq us.toArray k0 })] ∧
      IntsAre us ((lrun ds i).1.map Int.ofNat) ∧ Know m [("dots", .ref a), ("order", .ref D), ("word", .str (sx (lrun ds i).2) t2)]) rfl hr (by decide) (by decide) F (fun p hp => N p (by first | exact hp | exact .tail _ hp))
      ⟨D, k0, [], t1, rfl, .nil, ⟨rfl, rfl, rfl, trivial⟩⟩ ?_ ?_
    · rintro i ti m₁ news₁ h tk I oI hi ⟨D, k0, us, t1, rfl, hus, kn⟩ hoff F N hcI
      refine veil ?_
      intro KT hT
      rw [know kn] at F
      have ei : (0 : Int) + (i : Nat) * 1 = i := by omega
      rw [ei] at F
      dsimp only at F N ⊢
      have hDI : D ≠ I := hoff _ (.head _)
      obtain ⟨td, hv⟩ := ints_get hvs (i := i) (by omega)
      have hst : lrun ds (i + 1) = ((lrun ds i).1.take (i - ds.getD i 0) ++ [i] ++ (lrun ds i).1.drop (i - ds.getD i 0), (lrun ds i).2 ++ lword i (ds.getD i 0)) := rfl
      have hle := hdi i
      have hln := lrun_len ds hdi i
      have hii : i * i ≤ 9 := Nat.mul_le_mul (show i ≤ 3 by omega) (show i ≤ 3 by omega)
      generalize ds.getD i 0 = d at *
      generalize lrun ds (i + 1) = nx at *
      generalize lrun ds i = st at *
      have hul : us.length = i := by have := hus.length; rw [List.length_map] at this; omega
      refine cut (ι := Tok × Tok × Tok) (h₀ := s.heap) (L := L) (fun _ => True) (fun j => [("dots", .ref a), ("order", .ref D), ("word", .str (sx st.2) j.1), ("number", .int (i : Nat) j.2.1), ("place", .int ((i : Int) - (d : Nat)) j.2.2)])
        (fun _ => [(I, oI), (D, { cls := .type "list", data := .seq us.toArray k0 })]) ?_ ?_
      · intro K hK hRet
        k_steps
        (try dsimp only)
        rename Fr _ _ _ _ => F
        refine item_listL ⟨_, F.keep _ _ hpre, rfl, _, rfl⟩ (by omega) (by omega) (x := .int (d : Nat) td) (by rw [Int.toNat_natCast]; simpa using hv) ?_
        k_steps
        (try dsimp only)
        exact hK ⟨_, _, _⟩ (by assumption) (by assumption) ⟨rfl, rfl, rfl, rfl, rfl, trivial⟩ trivial
      rintro ⟨t1, t2, t3⟩ u h₂ tk₂ - F N
      dsimp only at F N ⊢
      refine cut (ι := (Addr × Nat × List Value) × Tok × Tok) (h₀ := s.heap) (L := L) (fun j => j.1.1 ≠ I ∧ IntsAre j.1.2.2 (nx.1.map Int.ofNat)) (fun j => [("dots", .ref a), ("order", .ref j.1.1), ("word", .str (sx st.2) j.2.1), ("number", .int (i : Nat) j.2.2)])
        (fun j => [(I, oI), (j.1.1, { cls := .type "list", data := .seq j.1.2.2.toArray j.1.2.1 })]) ?_ ?_
      · intro K hK hRet
        have hul' : (st.1.map Int.ofNat).length = i := by rw [List.length_map]; exact hln.1
        k_steps
        (try dsimp only)
        rename News _ _ _ _ => N
        rename Fr _ _ _ _ => F
        rename IntsAre _ (_ ++ _) => hI
        have e : nx.1.map Int.ofNat = List.take (i - d) (st.1.map Int.ofNat) ++ [(i : Int)] ++ List.drop (i - d) (st.1.map Int.ofNat) := by
          rw [hst, List.map_append, List.map_append, List.map_take, List.map_drop]; rfl
        rw [show ((i : Int) - (d : Nat)).toNat = i - d from by omega, ← e] at hI
        rename _ ∧ _ => l1
        refine hK ⟨(_, _, _), _, _⟩ F (fun q hq => N q (by
            rcases List.mem_cons.mp hq with e | hq
            · rw [e]; exact .tail _ (.tail _ (.tail _ (.tail _ (.tail _ (.head _)))))
            · rw [List.mem_singleton.mp hq]; exact .head _)) ⟨rfl, rfl, rfl, rfl, trivial⟩ ⟨?_, hI⟩
        exact Ne.symm (Nat.ne_of_lt l1.2.2.2.2.1)
      rintro ⟨⟨D, k0, us⟩, t1, t2⟩ u h₂ tk₂ ⟨hDI, hus⟩ F N
      dsimp only at F N hDI hus ⊢
      refine cut (ι := Tok) (h₀ := s.heap) (L := L) (fun _ => True) (fun j => [("dots", .ref a), ("order", .ref D), ("word", .str (sx nx.2) j)]) (fun _ => [(I, oI), (D, { cls := .type "list", data := .seq us.toArray k0 })]) ?_ ?_
      · intro K hK hRet
        refine For_invV s.heap rfl rfl ?_
        repeat (first | (fail_if_success (with_reducible show wpAny _ _ (subscriptTail _ _ _ _) _ _ _)); walk1)
        (try dsimp only)
        rename Fr _ _ _ _ => F
        refine item_listL ⟨_, F.keep _ _ hpre, rfl, _, rfl⟩ (by omega) (by omega) (x := .int (d : Nat) td) (by rw [Int.toNat_natCast]; simpa using hv) ?_
        repeat (first | (fail_if_success (with_reducible show wpAny _ _ (pyIter _) _ _ _)); walk1)
        (try dsimp only)
        rename IsRange _ _ _ _ _ _ _ _ => hr
        rename News _ _ _ _ => N
        rename Fr _ _ _ _ => F
        refine iter_range (n := d) (fun k m news => ∃ (t1 t2 : Tok), news = [(I, oI), (D, { cls := .type "list", data := .seq us.toArray k0 })] ∧
          Know m [("dots", .ref a), ("order", .ref D), ("word", .str (sx (st.2 ++ lword i k)) t1), ("number", .int (i : Nat) t2)]) rfl hr (rs1 (n := d) rfl (by omega)).1 (rs1 (n := d) rfl (by omega)).2 F (fun p hp => N p (by first | exact hp | exact .tail _ hp))
          ⟨t1, t2, rfl, ⟨rfl, rfl, by rw [lword, List.append_nil]; rfl, rfl, trivial⟩⟩ ?_ ?_
        · rintro k tk' m₁ news₁ h tk I2 oI2 hk ⟨t1, t2, rfl, kn⟩ hoff2 F N hcI2
          refine veil ?_
          intro KT hT
          rw [know kn] at F
          have ek : (0 : Int) + (k : Nat) * 1 = k := by omega
          rw [ek] at F
          dsimp only at F N ⊢
          have hDI2 : D ≠ I2 := hoff2 _ (.tail _ (.head _))
          have hII2 : I ≠ I2 := hoff2 _ (.head _)
          have lw : (sx (st.2 ++ lword i k)).length ≤ 20 := by rw [sx_len, List.length_append, lword_len]; omega
          have ewd : sx (st.2 ++ lword i k) ++ Txt.item "abc" ((i : Int) - 1 - (k : Nat)) = sx (st.2 ++ lword i (k + 1)) := by
            rw [item_abc' (by omega) (by omega), sx_append, lword, List.append_assoc, show ((i : Int) - 1 - (k : Nat)).toNat = i - 1 - k from by omega]
          k_steps
          all_goals (try dsimp only)
          rw [ewd] at *
          refine hT _ _ ?_
          refine Turn.intro (by assumption) (by assumption) ?_ ⟨_, _, rfl, ⟨rfl, rfl, rfl, rfl, trivial⟩⟩
          intro q hq
          rcases List.mem_cons.mp hq with e | e
          · rw [e]; exact .inl hII2
          · rw [List.mem_singleton.mp e]; exact .inl hDI2
        · rintro m₁ news₁ h tk ⟨t1, t2, rfl, kn⟩ F N
          have e : st.2 ++ lword i d = nx.2 := by rw [hst]
          rw [e] at kn
          exact hK _ F N ⟨kn.1, kn.2.1, kn.2.2.1, trivial⟩ trivial
      rintro t1 u h₂ tk₂ - F N
      dsimp only at F N ⊢
      k_steps
      refine hT _ _ ?_
      refine Turn.intro (by assumption) (by assumption) ?_ ⟨D, k0, us, _, rfl, hus, ⟨rfl, rfl, rfl, trivial⟩⟩
      intro q hq
      rw [List.mem_singleton.mp hq]; exact .inl hDI
    · rintro m₁ news₁ h tk ⟨D, k0, us, t1, rfl, hus, kn⟩ F N
      exact hK ⟨D, k0, us, _⟩ F N ⟨kn.2.1, kn.2.2.1, trivial⟩ hus
  rintro ⟨D, k0, us, t1⟩ u h₂ tk₂ hus F N
  dsimp only at F N hus ⊢
  k_steps
  (try dsimp only)
  rename News _ _ _ _ => N
  rename Fr _ _ _ _ => F
  refine hK0 _ _ ?_
  (try dsimp only)
  exact hQ _ _ _ _ F.keep (made N) ⟨_, _, _, _, _, rfl, rfl, by omega, hus⟩
end
end

section
open PySem PySem.W PyProof.Rows PySem.Calls PySem.Spec
theorem top_F9 : True := by
  w_top off
  trivial
section
variable {prog : Program} {w : World} {p : Program} {loose : List Str} {mean : ExcName → Option Value} {mg mb : Str → Option Value}
theorem does_counted (a b : Addr) (vs ms : List Value) (st : WS) (ka kb : Nat) (tb : st ∈ tbl) (hvs : IntsAre vs (st.1.map Int.ofNat)) (hms : StrsAre ms (mailsOf st.2.1)) :
    Does prog w (hd.heap_39 w.params) p loose mean mg mb 12 106 [.ref a, .ref b] (fun h => h.get? a = some { cls := .type "list", data := .seq vs.toArray ka } ∧ h.get? b = some { cls := .type "list", data := .seq ms.toArray kb })
      (fun _ v => v = .bool true) := by
  intro A₀ s Q E hR XX T ⟨hpa, hpb⟩ hQ
  obtain ⟨dp, fr, gd, un, rfl, hdp, hun⟩ := hR.open
  refine wpAny_call ?_
  refine' enterC ?k1 ?k2 ?k3 ?k6 ?k7 ?k9 ?kB ?kD ?c2 ?c3 ?c4 ?_
  case k1 => assumption
  case k2 => assumption
  case k6 => k_is
  case k7 => k_is
  case k9 => exact BindsTo.of_eq rfl
  case kB => exact rfl
  case kD => decide +kernel
  case c2 => exact rfl
  case c3 => exact rfl
  case c4 => exact rfl
  case k3 => (dsimp only); omega
  intro L h₁ tk cells F N Y
  refine veil2 ?_
  intro K0 X0 hK0 _
  k_cells Y
  refine cut (ι := Addr × Nat × Obj) (h₀ := s.heap) (L := L) (fun i => i.1 ≠ L + 1 ∧ i.2.2.data = .cell none) (fun i => [("order", .ref a), ("mails", .ref b), ("seen", .ref i.1)]) (fun i => [(i.1, { cls := .type "list", data := .seq ([] : List Value).toArray i.2.1 }), (L + 1, i.2.2)]) ?_ ?_
  · intro K hK hRet
    k_steps
    all_goals (try dsimp only)
    exact hK ⟨_, _, _⟩ (by assumption) (by assumption) ⟨rfl, rfl, rfl, trivial⟩ ⟨Ne.symm (Nat.ne_of_lt (by assumption)), by assumption⟩
  rintro ⟨D, k0, o⟩ u h₂ tk₂ ⟨hD, ho⟩ F N
  dsimp only at F N hD ho ⊢
  refine cut (ι := Addr × Nat × List Value × Obj) (h₀ := s.heap) (L := L) (fun i => IntsAre i.2.2.1 (seenOf st.1 4)) (fun i => [("seen", .ref i.1)]) (fun i => [(i.1, { cls := .type "list", data := .seq i.2.2.1.toArray i.2.1 }), (L + 1, i.2.2.2)]) ?_ ?_
  · intro K hK hRet
    refine For_invV s.heap rfl rfl ?_
    repeat (first | (fail_if_success (with_reducible show wpAny _ _ (pyIter _) _ _ _)); walk1)
    (try dsimp only)
    rename News _ _ _ _ => N
    rename Fr _ _ _ _ => F
    rename _ ∧ _ => l1
    refine iter_listP (news := [(D, { cls := .type "list", data := .seq ([] : List Value).toArray k0 }), (L + 1, o)]) (fun i m news => ∃ (k : Nat) (us : List Value) (o : Obj) (ov : Option Value), news = [(D, { cls := .type "list", data := .seq us.toArray k }), (L + 1, o)] ∧ o.data = .cell ov ∧
      IntsAre us (seenOf st.1 i) ∧ Know m [("order", .ref a), ("mails", .ref b), ("seen", .ref D)]) rfl F (fun q hq => N q (by rw [List.mem_singleton.mp hq]; exact .head _)) (fun q hq => N q (.tail _ hq)) ⟨k0, [], o, none, rfl, ho, .nil, ⟨rfl, rfl, rfl, trivial⟩⟩ ?_ ?_
    · rintro lo hlo i v m₁ news₁ h tk I oI hi hv ⟨k, us, o, ov, rfl, ho, hus, kn⟩ hoff F N hcI
      refine veil ?_
      intro KT hT
      rw [know kn] at F
      have hi4 : i < 4 := hi
      have hvi : ∃ t, v = .int ((3 : Int) - (i : Nat)) t := by
        have : i = 0 ∨ i = 1 ∨ i = 2 ∨ i = 3 := by omega
        rcases this with rfl | rfl | rfl | rfl <;> (cases hv; exact ⟨_, rfl⟩)
      obtain ⟨tv, rfl⟩ := hvi
      have hDI : D ≠ I := hoff _ (.head _)
      have hLI : L + 1 ≠ I := hoff _ (.tail _ (.head _))
      dsimp only at F N ⊢
      obtain ⟨c1, c2, c3, c4⟩ := counted_at tb hi4
      have hul : us.length = i := by have := hus.length; omega
      obtain ⟨g1, g2, g3, g4, g5, g6⟩ := good_at tb
      have hr4 := g2 (3 - i)
      obtain ⟨tn, hn⟩ := ints_get hvs (i := 3 - i) (by omega)
      have hnx : seenOf st.1 (i + 1) = insR (seenOf st.1 i) (st.1.getD (3 - i) 0 : Nat) := rfl
      generalize seenOf st.1 (i + 1) = nx at *
      generalize seenOf st.1 i = xs at *
      generalize hrr : st.1.getD (3 - i) 0 = r at *
      have hLD : lo.1 ≠ D := by rw [hlo]; exact Ne.symm (Nat.ne_of_lt l1.1)
      have hLC : lo.1 ≠ L + 1 := by rw [hlo]; exact Ne.symm (Nat.ne_of_lt l1.2)
      clear hlo hv
      obtain ⟨la, ob⟩ := lo
      dsimp only at hLD hLC N ⊢
      have n1 : @Ne Nat la D := hLD
      have n2 : @Ne Nat la (L + 1) := hLC
      have n3 : @Ne Nat D I := hDI
      have n4 : @Ne Nat (L + 1) I := hLI
      have n5 : @Ne Nat D (L + 1) := hD
      refine cut (ι := Obj × Tok) (h₀ := s.heap) (L := L) (fun j => j.1.data = .cell (some (.int (r : Nat) tn))) (fun j => [("order", .ref a), ("mails", .ref b), ("seen", .ref D), ("place", .int ((3 : Int) - (i : Nat)) j.2)])
        (fun j => [(I, oI), (la, ob), (D, { cls := .type "list", data := .seq us.toArray k }), (L + 1, j.1)]) ?_ ?_
      · intro K hK hRet
        k_steps
        (try dsimp only)
        rename Fr _ _ _ _ => F
        refine item_listL ⟨_, F.keep _ _ hpa, rfl, _, rfl⟩ (by omega) (by omega) (x := .int (r : Nat) tn) (by rw [show ((3 : Int) - (i : Nat)).toNat = 3 - i from by omega]; simpa using hn) ?_
        k_steps
        all_goals (try dsimp only)
        exact hK ⟨_, _⟩ (by assumption) (by assumption) ⟨rfl, rfl, rfl, rfl, trivial⟩ (by assumption)
      rintro ⟨o, t1⟩ u h₂ tk₂ ho F N
      dsimp only at F N ho ⊢
      refine cut (ι := Obj × Tok × Tok) (h₀ := s.heap) (L := L) (fun j => j.1.data = .cell (some (.int (r : Nat) tn))) (fun j => [("order", .ref a), ("mails", .ref b), ("seen", .ref D), ("behind", .int ((behindOf st.1 (3 - i)).length : Nat) j.2.1)])
        (fun j => [(I, oI), (la, ob), (D, { cls := .type "list", data := .seq us.toArray k }), (L + 1, j.1)]) ?_ ?_
      · intro K hK hRet
        repeat (first | (fail_if_success (with_reducible show wpAny _ _ (eval (PySem.Expr.ListComp _ _ _ _) _) _ _ _)); walk1)
        (try dsimp only)
        refine wpAny_ListComp_free (cl := [("number", L + 1)]) (ltp r) (fun v y => y = v) rfl (by decide) rfl (by decide) rfl ?_
        repeat (first | (fail_if_success (with_reducible show wpAny _ _ (subscriptTail _ _ _ _) _ _ _)); walk1)
        rename News _ _ _ _ => N
        rename Fr _ _ _ _ => F
        refine' kmk_slice_ints ?zF ?zN ?zl (IsPart.int _ _) IsPart.none hvs ?zk rfl ?_ ?zs ?zt ?zz
        case zF => exact F
        case zN => exact N
        case zl => exact ⟨_, F.keep _ _ hpa, rfl, _, rfl⟩
        case zk => exact kmk_from hvs (by omega)
        case zs => with_unfolding_all rfl
        case zt => kmk_pure
        case zz => (rw [List.size_toArray, sizeLine_eq]; have := hvs.length; rw [List.length_map] at this; omega)
        clear F N
        intro D' ws' h' F F' l1 hI' _ _
        (try dsimp only)
        refine compList (News.isList F' (.head _)) ?_ rfl F F' ?_ ?_ ?_
        · have := hI'.length
          rw [List.length_drop, List.length_map] at this
          rw [List.size_toArray]; omega
        · intro C j v s₃ m₃ E' hv F N
          have hv' : ws'[j]? = some v := by simpa using hv
          obtain ⟨x, tx, rfl, hx⟩ := hI'.at j v hv'
          k_steps
          all_goals (try dsimp only)
          all_goals first | exact ⟨_, _, rfl, fun _ _ e => e⟩ | exact (0 : Nat) | exact Str.empty | exact Value.none | exact []
        · intro C j v s₃ m₃ E' hv hp F N
          have hv' : ws'[j]? = some v := by simpa using hv
          obtain ⟨x, tx, rfl, hx⟩ := hI'.at j v hv'
          k_steps
          all_goals (try dsimp only)
          all_goals first | exact ⟨rfl, _, _, rfl, fun _ _ e => e⟩ | exact ⟨_, _, rfl, fun _ _ e => e⟩ | exact (0 : Nat) | exact Str.empty | exact Value.none | exact []
        · intro D2 h' tk' ys k2 vs2 F2 N2 hne hlen hP hpr H
          (try dsimp only)
          have e1 : vs2 = ws' := same_items (by simpa using hlen) (fun j v h => by simpa using hP j v h)
          have e2 : ys.size = (behindOf st.1 (3 - i)).length := by
            have h1 := paired_len hpr
            have h2 : IntsAre ws' ((st.1.drop (3 - i)).map Int.ofNat) := by
              rw [List.map_drop, show 3 - i = ((3 : Int) - (i : Nat)).toNat from by omega]; exact hI'
            rw [e1, behind_len h2, Array.length_toList] at h1
            rw [h1, behindOf, hrr]
          k_steps
          (try dsimp only)
          rename News _ _ _ _ => N2
          exact hK ⟨o, _, 0⟩ (by assumption) (fun q hq => N2 q (.tail _ (.tail _ hq))) ⟨rfl, rfl, rfl, rfl, trivial⟩ ho
      rintro ⟨o, t1, t2⟩ u h₂ tk₂ ho F N
      dsimp only at F N ho ⊢
      generalize hbb : (behindOf st.1 (3 - i)).length = bb at *
      refine cut (ι := Obj × Tok) (h₀ := s.heap) (L := L) (fun j => j.1.data = .cell (some (.int (r : Nat) tn))) (fun j => [("order", .ref a), ("mails", .ref b), ("seen", .ref D), ("behind", .int (bb : Nat) j.2)])
        (fun j => [(I, oI), (la, ob), (D, { cls := .type "list", data := .seq us.toArray k }), (L + 1, j.1)]) ?_ ?_
      · intro K hK hRet
        k_steps
        (try dsimp only)
        rename News _ _ _ _ => N
        rename Fr _ _ _ _ => F
        have N' : News s.heap L _ ((D, ({ cls := .type "list", data := .seq us.toArray k } : Obj)) :: [(I, oI), (la, ob), (L + 1, o)]) := News.sub N (by ((try dsimp only [List.cons_append, List.nil_append]); repeat' (first | exact sub_none | with_reducible exact sub_self | with_reducible exact sub_left | with_reducible exact mem_here | refine sub_more ?_ ?_ | refine mem_skip ?_ | refine mem_right ?_ | refine sub_skip ?_ | refine sub_right ?_)))
        refine DoesL.use (does_bisl D (r : Nat) tn us xs k hus (by omega)) ((Room.deeper hR).mono (by decide)) F N' (by (repeat' (first | exact all_none | refine all_more ?_ ?_ | (exact fun _ h => nomatch h) | (intro e; have e : @Eq Nat _ _ := e; (try dsimp only at e); omega)))) XX T ?_
        clear F N N'
        rintro v h' tk us' k' F N ⟨e1, e2, t, e3⟩
        rw [e1, e2] at N
        subst e3
        rw [c1]
        (try dsimp only)
        k_steps
        · exfalso; omega
        (try dsimp only)
        rename News _ _ _ _ => N
        rename Fr _ _ _ _ => F
        exact hK ⟨o, _⟩ F (News.sub N (by ((try dsimp only [List.cons_append, List.nil_append]); repeat' (first | exact sub_none | with_reducible exact sub_self | with_reducible exact sub_left | with_reducible exact mem_here | refine sub_more ?_ ?_ | refine mem_skip ?_ | refine mem_right ?_ | refine sub_skip ?_ | refine sub_right ?_)))) ⟨rfl, rfl, rfl, rfl, trivial⟩ ho
      rintro ⟨o, t1⟩ u h₂ tk₂ ho F N
      dsimp only at F N ho ⊢
      obtain ⟨tv, hv⟩ := strs_get hms (mails_get g3 hr4)
      rw [c4] at hv
      refine cut (ι := Obj) (h₀ := s.heap) (L := L) (fun j => j.data = .cell (some (.int (r : Nat) tn))) (fun j => [("order", .ref a), ("mails", .ref b), ("seen", .ref D)])
        (fun j => [(I, oI), (la, ob), (D, { cls := .type "list", data := .seq us.toArray k }), (L + 1, j)]) ?_ ?_
      · intro K hK hRet
        k_steps
        (try dsimp only)
        rename Fr _ _ _ _ => F
        refine item_listL ⟨_, F.keep _ _ hpb, rfl, _, rfl⟩ (by omega) (by omega) (x := .str (sx (mail (112 + r) (2 + bb))) tv) (by rw [Int.toNat_natCast]; exact hv) ?_
        k_steps
        · exfalso
          rename (_ != _) = true => hne
          rw [mail_text hr4 (show bb < 4 by omega)] at hne
          exact absurd hne (by simp)
        (try dsimp only)
        rename News _ _ _ _ => N
        rename Fr _ _ _ _ => F
        exact hK o F N ⟨rfl, rfl, rfl, trivial⟩ ho
      rintro o u h₂ tk₂ ho F N
      dsimp only at F N ho ⊢
      k_steps
      (try dsimp only)
      rename News _ _ _ _ => N
      rename Fr _ _ _ _ => F
      have N' : News s.heap L _ ((D, ({ cls := .type "list", data := .seq us.toArray k } : Obj)) :: [(I, oI), (la, ob), (L + 1, o)]) := News.sub N (by ((try dsimp only [List.cons_append, List.nil_append]); repeat' (first | exact sub_none | with_reducible exact sub_self | with_reducible exact sub_left | with_reducible exact mem_here | refine sub_more ?_ ?_ | refine mem_skip ?_ | refine mem_right ?_ | refine sub_skip ?_ | refine sub_right ?_)))
      refine DoesL.use (does_insort D (r : Nat) tn us xs k hus (by omega)) ((Room.deeper hR).mono (by decide)) F N' (by (repeat' (first | exact all_none | refine all_more ?_ ?_ | (exact fun _ h => nomatch h) | (intro e; have e : @Eq Nat _ _ := e; (try dsimp only at e); omega)))) XX T ?_
      clear F N N'
      rintro v h' tk us' k' F N ⟨e1, e2⟩
      subst e2
      (try dsimp only)
      k_steps
      (try dsimp only)
      rename News _ _ _ _ => N
      rename Fr _ _ _ _ => F
      refine hT _ _ ?_
      refine Turn.intro F (News.sub N (l' := [(I, oI), (la, ob)] ++ [(D, ({ cls := .type "list", data := .seq us'.toArray k' } : Obj)), (L + 1, o)]) (by simp only [List.cons_append, List.nil_append]; ((try dsimp only [List.cons_append, List.nil_append]); repeat' (first | exact sub_none | with_reducible exact sub_self | with_reducible exact sub_left | with_reducible exact mem_here | refine sub_more ?_ ?_ | refine mem_skip ?_ | refine mem_right ?_ | refine sub_skip ?_ | refine sub_right ?_)))) ?_ ⟨k', us', o, _, rfl, ho, ?_, ⟨rfl, rfl, rfl, trivial⟩⟩
      · intro q hq
        rcases List.mem_cons.mp hq with e | e
        · rw [e]; exact .inl hDI
        · rw [List.mem_singleton.mp e]; exact .inl hLI
      · rw [hnx]; exact e1
    · rintro m₁ news₁ h tk ⟨k, us, o, ov, rfl, ho, hus, kn⟩ F N
      have e : ((#[Value.int 3 0, Value.int 3 0, Value.int 3 0, Value.int 3 0] : Array Value).size) = 4 := rfl
      have hus4 : IntsAre us (seenOf st.1 4) := by
        simp only [List.size_toArray, List.length_cons, List.length_nil] at hus
        exact hus
      exact hK ⟨D, k, us, o⟩ F N ⟨kn.2.2.1, trivial⟩ hus4
  rintro ⟨D, k0, us, o⟩ u h₂ tk₂ hus F N
  dsimp only at F N hus ⊢
  rw [(counted_tbl st tb).2] at hus
  k_steps
  (try dsimp only)
  rename News _ _ _ _ => N
  rename Fr _ _ _ _ => F
  refine hK0 _ _ ?_
  (try dsimp only)
  exact hQ _ _ _ _ F.keep (made N) rfl
end
end

section
open PySem PySem.W PyProof.Rows PySem.Calls PySem.Spec
theorem top_F10 : True := by
  w_top off
  trivial
section
variable {prog : Program} {w : World} {p : Program} {loose : List Str} {mean : ExcName → Option Value} {mg mb : Str → Option Value}
theorem does_shortest (n : Nat) : ∀ (o : List Nat), o ∈ orders → invs o = n → ∀ (a : Addr) (vs : List Value) (ka : Nat), IntsAre vs (o.map Int.ofNat) →
    Does prog w (hd.heap_39 w.params) p loose mean mg mb (n + 12) 118 [.ref a] (Own (hd.heap_39 w.params) p loose mean mg mb a vs ka)
      (fun tl v => ∃ (R : Addr) (k : Nat) (ws : List Value), v = .ref R ∧ tl = [(R, { cls := .type "list", data := .seq ws.toArray k })] ∧ StrsAre ws ((sho o).map sx)) := by
  induction n using Nat.strongRecOn with
  | _ n ih =>
  intro ord hord hinv a vs ka hvs A₀ s Q E hR XX T hpre hQ
  obtain ⟨hpa, hc, Xc, Tc, hk, hca⟩ := hpre
  obtain ⟨dp, fr, gd, un, rfl, hdp, hun⟩ := hR.open
  refine wpAny_call ?_
  refine' enterC ?k1 ?k2 ?k3 ?k6 ?k7 ?k9 ?kB ?kD ?c2 ?c3 ?c4 ?_
  case k1 => assumption
  case k2 => assumption
  case k6 => k_is
  case k7 => k_is
  case k9 => exact BindsTo.of_eq rfl
  case kB => exact rfl
  case kD => decide +kernel
  case c2 => exact rfl
  case c3 => exact rfl
  case c4 => exact rfl
  case k3 => (dsimp only); omega
  intro L h₁ tk cells F N Y
  refine veil2 ?_
  intro K0 X0 hK0 _
  k_cells Y
  have hcl := hide_more (a := a) N
  have haL : @Ne Nat a (L + 1) := by
    have h1 := Heap.lt_size hpa
    have h2 := F.above
    have h1 : @LT.lt Nat _ a s.heap.objs.size := h1
    have h2 : @LE.le Nat _ s.heap.objs.size L := h2
    omega
  have N' := hide_news F hpa
  have F' := hide_fr (a := a) F
  have N' : News (hide a s.heap) L h₁ [(a, { cls := .type "list", data := .seq vs.toArray ka })] := N'
  have N2 : News (hide a s.heap) L h₁ [(a, { cls := .type "list", data := .seq vs.toArray ka }), (L + 1, _)] := fun q hq => by
    rcases List.mem_cons.mp hq with e | e
    · rw [e]; exact N' _ (.head _)
    · exact hcl q e
  clear hcl N' XX T F N
  rename News _ _ _ _ => N
  rename Fr _ _ _ _ => F
  have hend : ∀ h' m, Fr (hide a s.heap) L h' m → ∀ b o, b ≠ a → s.heap.get? b = some o → h'.get? b = some o := fun h' m F => unhide F
  have XX : (hd.heap_39 w.params).In (hide a s.heap) := fun b o e => hide_sub hk hca b o (Xc b o e)
  have T : Top p loose mean mg mb (hide a s.heap) := Tc.keeps (hide_sub hk hca)
  have hnone : ∀ b, b ≠ a → (hide a s.heap).get? b = none → s.heap.get? b = none := fun b hb e => by rw [hide_ne hb] at e; exact e
  generalize hide a s.heap = H at *
  refine cut (ι := Addr × Nat × Obj) (h₀ := H) (L := L) (fun i => i.2.2.data = .cell none ∧ @Ne Nat i.1 a ∧ @Ne Nat i.1 (L + 1)) (fun i => [("order", .ref a), ("words", .ref i.1)]) (fun i => [(i.1, { cls := .type "list", data := .seq ([] : List Value).toArray i.2.1 }), (a, { cls := .type "list", data := .seq vs.toArray ka }), (L + 1, i.2.2)]) ?_ ?_
  · intro K hK hRet
    k_steps
    all_goals (try dsimp only)
    refine hK ⟨_, _, _⟩ (by assumption) (by assumption) ⟨rfl, rfl, trivial⟩ ⟨by assumption, ?_, ?_⟩
    all_goals (rename _ ∧ _ => l1; have l1 : @LT.lt Nat _ _ _ ∧ @LT.lt Nat _ _ _ := l1; omega)
  rintro ⟨D, k0, oc⟩ u h₂ tk₂ ⟨hoc, hDa, hDL⟩ F N
  dsimp only at F N hoc hDa hDL ⊢
  obtain ⟨q1, q2, q3, q4, q5, q6, q7⟩ := orders_sho ord hord
  have hs0 : shoP ord 0 = [] := rfl
  have hstep : ∀ p, shoP ord (p + 1) = if ord.getD p 0 > ord.getD (p + 1) 0 then shoP ord p ++ (sho (lowr ord p)).map (· ++ [97 + p]) else shoP ord p := fun _ => rfl
  have hok := orders_ok ord hord
  generalize shoP ord = SP at *
  have hvl : vs.length = 4 := by have := hvs.length; rw [List.length_map] at this; omega
  refine cut (ι := Addr × Nat × List Value × Obj) (h₀ := H) (L := L) (fun i => StrsAre i.2.2.1 ((SP 3).map sx) ∧ @Ne Nat i.1 a ∧ @Ne Nat i.1 (L + 1)) (fun i => [("order", .ref a), ("words", .ref i.1)]) (fun i => [(i.1, { cls := .type "list", data := .seq i.2.2.1.toArray i.2.1 }), (a, { cls := .type "list", data := .seq vs.toArray ka }), (L + 1, i.2.2.2)]) ?_ ?_
  · intro K hK hRet
    clear hnone
    refine For_invT H ?_ (by intro _; rfl)
    repeat (first | (fail_if_success (with_reducible show wpAny _ _ (pyIter _) _ _ _)); walk1)
    (try dsimp only)
    rename IsRange _ _ _ _ _ _ _ _ => hr
    rename News _ _ _ _ => N
    rename Fr _ _ _ _ => F
    refine iter_rangeT (n := 3) (news := [(D, { cls := .type "list", data := .seq ([] : List Value).toArray k0 }), (a, { cls := .type "list", data := .seq vs.toArray ka }), (L + 1, oc)])
      (fun i m news => ∃ (D : Addr) (k0 : Nat) (ws : List Value) (oc : Obj) (ov : Option Value), news = [(D, { cls := .type "list", data := .seq ws.toArray k0 }), (a, { cls := .type "list", data := .seq vs.toArray ka }), (L + 1, oc)] ∧ oc.data = .cell ov ∧
      StrsAre ws ((SP i).map sx) ∧ @Ne Nat D a ∧ @Ne Nat D (L + 1) ∧ Know m [("order", .ref a), ("words", .ref D)]) (fun _ _ => rfl) rfl hr (by decide) (by decide) F (News.sub N (by first | exact fun _ h => h | exact fun _ h => .tail _ h))
      ⟨D, k0, [], oc, none, rfl, hoc, by rw [hs0]; exact .nil, hDa, hDL, ⟨rfl, rfl, trivial⟩⟩ ?_ ?_
    · rintro i ti m₁ news₁ s₁ h tk I oI hi ⟨D, k0, ws, oc, ov, rfl, hoc, hws, hDa, hDL, kn⟩ hoff F N hcI
      rw [know kn] at F
      have ei : (0 : Int) + (i : Nat) * 1 = i := by omega
      rw [ei]
      (try dsimp only at F N)
      have n1 : @Ne Nat D I := hoff _ (.head _)
      have n2 : @Ne Nat a I := hoff _ (.tail _ (.head _))
      have n3 : @Ne Nat (L + 1) I := hoff _ (.tail _ (.tail _ (.head _)))
      repeat (first | (fail_if_success (with_reducible show wpAny _ _ (execs (Stmt.Assign _ _ _ :: _) _) _ _ _)); walk1)
      · (try dsimp only)
        have hgt : ord.getD i 0 > ord.getD (i + 1) 0 := by
          rename _ < _ => hq
          rw [getD_ofNat, getD_ofNat, show ((i : Nat) : Int).toNat = i from by omega, show ((i : Nat) + 1 : Int).toNat = i + 1 from by omega] at hq
          omega
        obtain ⟨r1, r2, r3⟩ := q6 i (by simp; omega) hgt
        have hst : SP (i + 1) = SP i ++ (sho (lowr ord i)).map (· ++ [97 + i]) := by
          rw [hstep, if_pos hgt]
        obtain ⟨s1, s2⟩ := q5 i (by simp; omega)
        obtain ⟨s3, s4⟩ := q5 (i + 1) (by simp; omega)
        generalize SP (i + 1) = nx at *
        generalize SP i = cur at *
        rename News _ _ _ _ => N
        rename Fr _ _ _ _ => F
        rename (_ = Data.cell _) => hoc'
        rename Obj => oc'
        refine cut (ι := Addr × Nat × List Value) (h₀ := H) (L := L) (fun j => IntsAre j.2.2 ((lowr ord i).map Int.ofNat) ∧ @Ne Nat j.1 a ∧ @Ne Nat j.1 (L + 1) ∧ @Ne Nat j.1 I ∧ @Ne Nat j.1 D) (fun j => [("order", .ref a), ("words", .ref D), ("lower", .ref j.1)])
          (fun j => [(j.1, { cls := .type "list", data := .seq j.2.2.toArray j.2.1 }), (I, oI), (D, { cls := .type "list", data := .seq ws.toArray k0 }), (a, { cls := .type "list", data := .seq vs.toArray ka }), (L + 1, oc')]) ?_ ?_
        · intro K hK hRet
          k_steps
          (try dsimp only)
          rename News _ _ _ _ => N
          rename Fr _ _ _ _ => F
          rename IntsAre _ (_ ++ _) => hI
          rename _ ∧ _ => l1
          have l1 : @LT.lt Nat _ _ _ ∧ @LT.lt Nat _ _ _ ∧ @LT.lt Nat _ _ _ ∧ @LT.lt Nat _ _ _ ∧ @LT.lt Nat _ _ _ ∧ @LT.lt Nat _ _ _ ∧ @LT.lt Nat _ _ _ ∧ @LT.lt Nat _ _ _ := l1
          have e : (lowr ord i).map Int.ofNat = List.take (i : Int).toNat (ord.map Int.ofNat) ++ [(ord.map Int.ofNat).getD ((i : Int) + 1).toNat 0, (ord.map Int.ofNat).getD (i : Int).toNat 0] ++ List.drop ((i : Int) + 2).toNat (ord.map Int.ofNat) := by
            rw [lowr, List.map_append, List.map_append, List.map_take, List.map_drop, getD_ofNat, getD_ofNat, show ((i : Nat) : Int).toNat = i from by omega, show ((i : Nat) + 1 : Int).toNat = i + 1 from by omega, show ((i : Nat) + 2 : Int).toNat = i + 2 from by omega]; rfl
          rw [← e] at hI
          refine hK ⟨_, 0, _⟩ F (News.sub N ?_) ⟨rfl, rfl, rfl, trivial⟩ ⟨hI, by omega, by omega, by omega, by omega⟩
          ((try dsimp only [List.cons_append, List.nil_append]); repeat' (first | exact sub_none | with_reducible exact sub_self | with_reducible exact sub_left | with_reducible exact mem_here | refine sub_more ?_ ?_ | refine mem_skip ?_ | refine mem_right ?_ | refine sub_skip ?_ | refine sub_right ?_))
        rintro ⟨B, k1, us⟩ u h₂ tk₂ ⟨hus, n4, n5, n6, n7⟩ F N
        dsimp only at F N hus ⊢
        repeat (first | (fail_if_success (with_reducible show wpAny _ _ (eval (PySem.Expr.ListComp _ _ _ _) _) _ _ _)); walk1)
        (try dsimp only)
        refine wpAny_ListComp_free (cl := [("place", L + 1)]) (fun _ => true) (fun v y => ∃ c t u, v = .str (sx c) t ∧ y = .str (sx (c ++ [97 + i])) u) rfl (by decide) rfl (by decide) rfl ?_
        repeat (first | (fail_if_success (with_reducible show wpAny _ _ (call (Value.ref _) _) _ _ _)); walk1)
        rename News _ _ _ _ => N
        rename Fr _ _ _ _ => F
        refine Does.use (ih (invs (lowr ord i)) (by omega) (lowr ord i) r1 rfl B us k1 hus) ((Room.deeper hR).mono (by omega)) F N XX T ⟨(N _ (.head _)).1, H, XX, T, F.keep, (N _ (.head _)).2.2⟩ ?_
        clear F N
        rintro v h' tk tl - F N ⟨R, k2, ws2, rfl, rfl, hws2⟩
        (try dsimp only)
        have hl2 : ws2.length ≤ 16 := by
          have h1 := hws2.len_eq
          rw [List.length_map] at h1
          have h2 := (orders_sho _ r1).2.2.1
          omega
        refine compList (News.isList N (.head _)) (by rw [List.size_toArray]; omega) rfl F N ?_ ?_ ?_
        · intro C j v s₃ m₃ E' hv F N
          exact wpAny_pure ⟨rfl, _, _, rfl, fun _ _ e => e⟩
        · intro C j v s₃ m₃ E' hv hp F N
          have hv' : ws2[j]? = some v := by simpa using hv
          obtain ⟨c, tc, rfl, hcj⟩ := strs_at hws2 hv'
          have hcl := r3 c (List.mem_of_getElem? hcj)
          have hlc : (sx c).length ≤ 5 := by rw [sx_len]; exact hcl
          have ewd : sx c ++ Txt.item "abc" (i : Int) = sx (c ++ [97 + i]) := by rw [item_abc hi, sx_append]
          k_steps
          all_goals (try dsimp only)
          all_goals first | exact congrArg (fun z => Value.str z _) ewd | exact ⟨_, _, rfl, fun _ _ e => e⟩ | exact (0 : Nat) | exact Str.empty | exact Value.none | exact []
        · intro D2 h' tk' ys k3 vs2 F2 N2 hne hlen hP hpr H'
          (try dsimp only)
          have e1 : vs2 = ws2 := same_items (by simpa using hlen) (fun j v h => by simpa using hP j v h)
          rw [filter_tt, e1] at hpr
          have hys := strs_pair hws2 hpr
          have hy2 : ys.size ≤ 16 := by
            have h1 := hys.len_eq
            have h2 := (orders_sho _ r1).2.2.1
            rw [List.length_map, List.length_map, Array.length_toList] at h1
            omega
          have hw1 : ws.length ≤ 16 := by
            have h1 := hws.len_eq
            rw [List.length_map] at h1
            omega
          k_steps
          (try dsimp only)
          rename News _ _ _ _ => N3
          rename Fr _ _ _ _ => F3
          have i1 := News.isList N3 (.tail _ (.tail _ (.tail _ (.tail _ (.head _)))))
          have i2 := News.isList N3 (.head _)
          refine add_two F3 N3 i1 i2 (Nat.le_trans hw1 (by decide)) (Nat.le_trans hy2 (by decide)) ?_
          clear F3 N3 i1 i2
          intro D3 h3 F3 N3 l3
          (try dsimp only)
          k_steps
          (try dsimp only)
          rename News _ _ _ _ => N3
          rename Fr _ _ _ _ => F3
          have d1 := l3 (a, { cls := .type "list", data := .seq vs.toArray ka }) (by simp)
          have d2 := l3 (L + 1, oc') (by simp)
          have d3 := l3 (I, oI) (by simp)
          have d1 : @LT.lt Nat _ a D3 := d1
          have d2 : @LT.lt Nat _ (L + 1) D3 := d2
          have d3 : @LT.lt Nat _ I D3 := d3
          refine TurnT.intro F3 (News.sub N3 (l' := [(I, oI)] ++ [(D3, ({ cls := .type "list", data := .seq (ws ++ ys.toList).toArray 0 } : Obj)), (a, { cls := .type "list", data := .seq vs.toArray ka }), (L + 1, oc')]) ?_) ?_ ⟨D3, 0, ws ++ ys.toList, _, _, rfl, hoc', ?_, by omega, by omega, ⟨rfl, rfl, trivial⟩⟩
          · simp only [List.cons_append, List.nil_append]
            ((try dsimp only [List.cons_append, List.nil_append]); repeat' (first | exact sub_none | with_reducible exact sub_self | with_reducible exact sub_left | with_reducible exact mem_here | refine sub_more ?_ ?_ | refine mem_skip ?_ | refine mem_right ?_ | refine sub_skip ?_ | refine sub_right ?_))
          · intro q hq
            rcases List.mem_cons.mp hq with e | hq
            · rw [e]; exact .inl (by intro e; have e : @Eq Nat D3 I := e; omega)
            rcases List.mem_cons.mp hq with e | hq
            · rw [e]; exact .inl n2
            · rw [List.mem_singleton.mp hq]; exact .inl n3
          · rw [hst, List.map_append]
            exact hws.append' hys
      · k_steps
        have hgt : ¬ ord.getD i 0 > ord.getD (i + 1) 0 := by
          rename ¬ (_ < _) => hq
          rw [getD_ofNat, getD_ofNat, show ((i : Nat) : Int).toNat = i from by omega, show ((i : Nat) + 1 : Int).toNat = i + 1 from by omega] at hq
          omega
        have hst : SP (i + 1) = SP i := by
          rw [hstep, if_neg hgt]
        (try dsimp only)
        rename News _ _ _ _ => N
        rename Fr _ _ _ _ => F
        rename (_ = Data.cell _) => hoc'
        refine TurnT.intro F N ?_ ⟨D, k0, ws, _, _, rfl, hoc', by rw [hst]; exact hws, hDa, hDL, ⟨rfl, rfl, trivial⟩⟩
        intro q hq
        rcases List.mem_cons.mp hq with e | hq
        · rw [e]; exact .inl n1
        rcases List.mem_cons.mp hq with e | hq
        · rw [e]; exact .inl n2
        · rw [List.mem_singleton.mp hq]; exact .inl n3
    · rintro m₁ news₁ h tk ⟨D, k0, ws, oc, ov, rfl, hoc, hws, hDa, hDL, kn⟩ F N
      exact hK ⟨D, k0, ws, oc⟩ F N ⟨kn.1, kn.2.1, trivial⟩ ⟨hws, hDa, hDL⟩
  rintro ⟨D, k0, ws, oc⟩ u h₂ tk₂ ⟨hws, hDa, hDL⟩ F N
  dsimp only at F N hws hDa hDL ⊢
  have hu : un + 3 + 64 < cLine := by
    have := hR.units
    (try dsimp only at this)
    omega
  have hall : ∀ h' m, Fr H L h' m → h'.get? a = some { cls := .type "list", data := .seq vs.toArray ka } → ∀ b o, s.heap.get? b = some o → h'.get? b = some o := by
    intro h' m F hh b o e
    by_cases hb : b = a
    · rw [hb, hpa] at e
      rw [hb, ← e]; exact hh
    · exact hend h' m F b o hb e
  repeat (first | (fail_if_success (with_reducible show wpAny _ _ (compareOp _ _ _) _ _ _)); walk1)
  (try dsimp only)
  rename News _ _ _ _ => N
  rename Fr _ _ _ _ => F
  have ia := News.isList N (.tail _ (.head _))
  have ib := News.isList N (.head _)
  refine eq_strs_nil (xs := ws) ?ia ?ib hws ?ok ?hu ?_
  case ia => exact ia
  case ib => exact ib
  case ok =>
    intro x hx
    obtain ⟨w, hw, rfl⟩ := List.mem_map.mp hx
    exact hok w hw
  case hu => exact hu
  by_cases he : SP 3 = []
  · rw [show decide ((SP 3).map sx = []) = true from by rw [he]; rfl]
    (try dsimp only)
    k_steps
    (try dsimp only)
    rename News _ _ _ _ => N
    rename Fr _ _ _ _ => F
    rename _ ∧ _ => l1
    have l1 : @LT.lt Nat _ _ _ ∧ @LT.lt Nat _ _ _ ∧ @LT.lt Nat _ _ _ ∧ @LT.lt Nat _ _ _ := l1
    have es : sho ord = [[]] := by rw [q2, if_pos he]
    refine hK0 _ _ ?_
    (try dsimp only)
    refine hQ _ _ _ [(_, W.listOf #[.str (Str.ofString "") tk₂] 0)] (hall _ _ F (N _ (.tail _ (.tail _ (.tail _ (.head _))))).1) (fun q hq => ?_) ⟨_, 0, [.str (Str.ofString "") tk₂], rfl, rfl, ?_⟩
    · rw [List.mem_singleton.mp hq]
      exact ⟨(N _ (.head _)).1, hnone _ (by intro e; have e : @Eq Nat _ _ := e; omega) (N _ (.head _)).2.2⟩
    · rw [es]
      exact .cons _ _ .nil
  · rw [show decide ((SP 3).map sx = []) = false from by simp [he]]
    (try dsimp only)
    k_steps
    (try dsimp only)
    have es : sho ord = SP 3 := by rw [q2, if_neg he]
    refine hK0 _ _ ?_
    (try dsimp only)
    refine hQ _ _ _ [_] (hall _ _ F (N _ (.tail _ (.tail _ (.head _)))).1) (fun q hq => ?_) ⟨D, k0, ws, rfl, rfl, ?_⟩
    · rw [List.mem_singleton.mp hq]
      exact ⟨(N _ (.tail _ (.head _))).1, hnone _ hDa (N _ (.tail _ (.head _))).2.2⟩
    · rw [es]; exact hws
end
end

end

section
open PySem PySem.W PyProof.Rows PySem.Calls PySem.Spec
theorem top_F2 : True := by
  w_top off
  trivial
local macro_rules | `(tactic| walk_at "call ref") => `(tactic| ((with_reducible rename (Txt.item _ _ = _) => es'); rw [es']; (refine Does.use0 (does_sub _ _ _ _ (by assumption) (by assumption)) (Room.deeper (by assumption)) (by assumption) (by assumption) (by assumption) (by assumption) trivial ?_); (intro v' h' tk' tl' F' N' q'); (obtain ⟨t', q'⟩ := q'); subst q'; dsimp only))
theorem ints_of : ∀ (vs : List Value) (f : Nat → Int), (∀ (j : Nat) (v : Value), vs[j]? = some v → ∃ t, v = .int (f j) t) → IntsAre vs ((List.range vs.length).map f)
  | [], _, _ => IntsAre.nil
  | v :: r, f, h => by
    obtain ⟨t, ht⟩ := h 0 v rfl
    subst ht
    rw [List.length_cons, List.range_succ_eq_map, List.map_cons, List.map_map]
    exact IntsAre.cons _ _ (ints_of r (fun j => f (j + 1)) fun j v hj => h (j + 1) v hj)
theorem list_row {prog : Program} {w : World} {A : Around} {E : Value → Shared → Prop} {s : Shared} {h₀ : Heap} {L r : Addr} {m : Str → Option Value} {news : List (Addr × Obj)} {b : Int} {t₀ u₀ v₀ : Tok} {n : Nat} {Q : Value → Shared → Prop}
    (hh : A.handled = none) (F : Fr h₀ L s.heap m) (N : News h₀ L s.heap news) (hr : IsRange s.heap r 2 b 2 t₀ u₀ v₀) (hb : b = 2 * ((n : Int) + 1)) (hz : n ≤ 40)
    (h : ∀ D us c h' tk, Fr h₀ L h' m → News h₀ L h' ((D, listOf (List.toArray us) c) :: news) → (∀ p ∈ news, p.1 < D) → IntsAre us (row0 n) → Q (.ref D) { s with heap := h', toks := tk }) :
    wpAny (model prog w) A (call (.type "list") [.ref r]) Q E s := by
  subst hb
  have hsz : Builtin.Range.rangeSize 2 (2 * ((n : Int) + 1)) 2 = (n : Int) := by
    unfold Builtin.Range.rangeSize
    simp
    split <;> omega
  have hsm : Builtin.Range.small 2 (2 * ((n : Int) + 1)) 2 = true := by
    unfold Builtin.Range.small
    rw [hsz]
    unfold Builtin.Range.rangeFitsLong
    simp
    omega
  refine call_list_range hh hr hsm hsz (by omega) fun h' tk acc c hk hD hI => ?_
  have hD' : h'.get? s.heap.objs.size = some (listOf (List.toArray acc.toList) c) := by
    rw [Array.toArray_toList]
    exact hD
  have hl : acc.toList.length = n := by rw [Array.length_toList]; exact hI.1
  have hi := ints_of acc.toList (fun j => 2 + (j : Int) * 2) fun j v hj => hI.2 j v (by rw [← hj, Array.getElem?_toList])
  rw [hl] at hi
  exact h _ acc.toList c h' tk (F.keeps hk) (news_pushed F N hk hD' rfl) (fun p hp => Heap.lt_size (N p hp).1) hi
theorem lt_len {x n q : Nat} (e : x = n - q) (h : (x : Int) ≠ 0) : q < n := by omega
theorem le_len {x n q : Nat} (e : x = n - q) (h : (x : Int) = 0) : n ≤ q := by omega
theorem step_len {n q : Nat} (h : q < n) : n - (q + 1) < n - q := by omega
local macro_rules | `(tactic| walk_at "subscriptTail Name Slice str ref") => `(tactic| ((with_reducible show wpAny _ _ (subscriptTail _ _ (Value.str _ _) (Value.ref _)) _ _ { heap := Heap.push _ { cls := _, dict := _, data := Data.fields #[_, _, Value.none], slots := _ }, gens := _, drawn := _, toks := _, os := _ }); (with_reducible rename Fr _ _ _ _ => F'); (with_reducible rename News _ _ _ _ => N'); (first | refine slice_strN_nn_len (s := ⟨_, _, _, _, _⟩) F' N' ?_ | refine slice_strN_ns_len (s := ⟨_, _, _, _, _⟩) F' N' ?_ | refine slice_strN_sn_len (s := ⟨_, _, _, _, _⟩) F' N' ?_); intro _ _ _ _ _ _))
local macro_rules | `(tactic| walk_at "truthy str") => `(tactic| refine SBL.truthy (by omega) ?_)
section
variable {prog : Program} {w : World} {p : Program} {loose : List Str} {mean : ExcName → Option Value} {mg mb : Str → Option Value}
theorem does_lev (A B : List Nat) (t u : Tok) (c : Int) (v : Tok) (hA : A.length ≤ 40) (hB : B.length ≤ 40) (hc : 0 ≤ c ∧ c ≤ 1000) (sA : ∀ ch ∈ A, ch ∈ sigma) (sB : ∀ ch ∈ B, ch ∈ sigma) :
    Does prog w (hd.heap_39 w.params) p loose mean mg mb 2 96 [.str (sx A) t, .str (sx B) u, .int c v] (fun _ => True) (fun _ r => ∃ t, r = .int (lev A B c) t) := by
  intro A₀ s Q E hR X T hpre hQ
  obtain ⟨dp, fr, gd, un, rfl, hdp, hun⟩ := hR.open
  have lA : (sx A).length = A.length := sx_len _
  have lB : (sx B).length = B.length := sx_len _
  refine wpAny_call ?_
  k_dflt (refine' enter ?k1 ?k2 ?k3 ?k6 ?k7 ?k9 ?kB ?c5 ?c2 ?c3 ?c4 ?_; (case k1 => assumption); (case k2 => assumption); (case k6 => k_is); (case k7 => k_is); (case k9 => exact BindsTo.of_eq rfl); (case kB => exact locs rfl); (case c2 => exact rfl); (case c3 => exact rfl); (case c4 => exact rfl); (case c5 => decide))
  · (dsimp only); omega
  intro L h₁ tk F N
  refine veil2 ?_
  intro K0 X0 hK0 _
  refine cut (ι := Tok × Tok × Tok) (h₀ := s.heap) (L := L) (fun _ => A ≠ B) (fun i => [("a", .str (sx A) i.1), ("b", .str (sx B) i.2.1), ("max_cost", .int c i.2.2)]) (fun _ => []) ?_ ?_
  · intro K hK hRet
    k_steps
    all_goals (try dsimp only)
    · refine hRet _ _ (by nofun) (hK0 _ _ ?_)
      refine hQ _ _ _ [] (Fr.keep (by assumption)) Made.nil (ktn_int ?_)
      rename_i h
      have : A = B := by simpa [sx_inj] using h
      rw [lev, if_pos this]
    · refine hK ⟨_, _, _⟩ (by assumption) (by assumption) ⟨rfl, rfl, rfl, trivial⟩ ?_
      rename_i h
      simpa [sx_inj] using h
  rintro ⟨t1, t2, t3⟩ u h₂ tk₂ hne F N
  dsimp only at F N ⊢
  refine cut (ι := Tok × Tok × Tok × Tok) (h₀ := s.heap) (L := L) (fun _ => True) (fun i => [("a", .str (sx A) i.1), ("b", .str (sx B) i.2.1), ("max_cost", .int c i.2.2.1), ("pre", .int 0 i.2.2.2)]) (fun _ => []) ?_ ?_
  · intro K hK hRet
    k_steps
    all_goals (try dsimp only)
    exact hK ⟨_, _, _, _⟩ (by assumption) (by assumption) ⟨rfl, rfl, rfl, rfl, trivial⟩ trivial
  rintro ⟨t1, t2, t3, t4⟩ u h₃ tk₃ - F N
  dsimp only at F N ⊢
  refine cut (ι := Tok × Tok × Tok × Tok) (h₀ := s.heap) (L := L) (fun _ => True) (fun i => [("a", .str (sx A) i.1), ("b", .str (sx B) i.2.1), ("max_cost", .int c i.2.2.1), ("pre", .int (cp A B : Nat) i.2.2.2)]) (fun _ => []) ?_ ?_
  · intro K hK hRet
    refine while_rule' (fun k m news => ∃ (t1 t2 t3 t4 : Tok) (q : Nat), q ≤ A.length ∧ q ≤ B.length ∧ cp A B = q + cp (A.drop q) (B.drop q) ∧ k = A.length - q ∧ Know m [("a", .str (sx A) t1), ("b", .str (sx B) t2), ("max_cost", .int c t3), ("pre", .int q t4)] ∧ news = [])
      _ F N ⟨t1, t2, t3, t4, 0, by omega, by omega, by simp, rfl, ⟨rfl, rfl, rfl, rfl, trivial⟩, rfl⟩ ?_
    rintro k m₁ news₁ h tk ⟨t1, t2, t3, t4, q, hqx, hqy, hcp, rfl, kn, rfl⟩ F N
    rw [know kn] at F
    dsimp only at F ⊢
    have e1 : (Txt.slice (sx A) (some (q : Int)) none).length = A.length - q := by rw [slice_drop hqx, sx_len, List.length_drop]
    have e2 : (Txt.slice (sx B) (some (q : Int)) none).length = B.length - q := by rw [slice_drop hqy, sx_len, List.length_drop]
    k_steps
    all_goals (try dsimp only)
    · rename (Txt.item _ _ == Txt.item _ _) = true => hi
      have a1 : q < A.length := lt_len e1 (by assumption)
      have a2 : q < B.length := lt_len e2 (by assumption)
      rw [item_pos a1, item_pos a2, sx_beq] at hi
      have hi : A[q] = B[q] := by simpa using hi
      refine WTurn.intro (A.length - (q + 1)) (by assumption) (by assumption) (step_len a1) ⟨_, _, _, _, q + 1, a1, a2, ?_, rfl, ⟨rfl, rfl, rfl, rfl, trivial⟩, rfl⟩
      rw [hcp, cp_drop_eq a1 a2 hi]; omega
    · rename (Txt.item _ _ == Txt.item _ _) = false => hi
      have a1 : q < A.length := lt_len e1 (by assumption)
      have a2 : q < B.length := lt_len e2 (by assumption)
      rw [item_pos a1, item_pos a2, sx_beq] at hi
      have hi : A[q] ≠ B[q] := by simpa using hi
      have e : cp A B = q := by rw [hcp, cp_drop_ne a1 a2 hi]; omega
      rw [e] at hK
      exact hK ⟨_, _, _, _⟩ (by assumption) (by assumption) ⟨rfl, rfl, rfl, rfl, trivial⟩ trivial
    · have e : cp A B = q := by rw [hcp, cp_drop_end (.inr (le_len e2 (by assumption))), Nat.add_zero]
      rw [e] at hK
      exact hK ⟨_, _, _, _⟩ (by assumption) (by assumption) ⟨rfl, rfl, rfl, rfl, trivial⟩ trivial
    · have e : cp A B = q := by rw [hcp, cp_drop_end (.inl (le_len e1 (by assumption))), Nat.add_zero]
      rw [e] at hK
      exact hK ⟨_, _, _, _⟩ (by assumption) (by assumption) ⟨rfl, rfl, rfl, rfl, trivial⟩ trivial
  rintro ⟨t1, t2, t3, t4⟩ u h₃ tk₃ - F N
  dsimp only at F N ⊢
  have p1 := cp_le_l A B
  have p2 := cp_le_r A B
  refine cut (ι := Tok × Tok × Tok × Tok) (h₀ := s.heap) (L := L) (fun _ => True) (fun i => [("a", .str (sx (A.drop (cp A B))) i.1), ("b", .str (sx B) i.2.1), ("max_cost", .int c i.2.2.1), ("pre", .int (cp A B : Nat) i.2.2.2)]) (fun _ => []) ?_ ?_
  · intro K hK hRet
    k_steps
    all_goals (try dsimp only)
    rw [← slice_drop p1] at hK
    exact hK ⟨_, _, _, _⟩ (by assumption) (by assumption) ⟨rfl, rfl, rfl, rfl, trivial⟩ trivial
  rintro ⟨t1, t2, t3, t4⟩ u h₃ tk₃ - F N
  dsimp only at F N ⊢
  refine cut (ι := Tok × Tok × Tok) (h₀ := s.heap) (L := L) (fun _ => True) (fun i => [("a", .str (sx (A.drop (cp A B))) i.1), ("b", .str (sx (B.drop (cp A B))) i.2.1), ("max_cost", .int c i.2.2)]) (fun _ => []) ?_ ?_
  · intro K hK hRet
    k_steps
    all_goals (try dsimp only)
    rw [← slice_drop p2] at hK
    exact hK ⟨_, _, _⟩ (by assumption) (by assumption) ⟨rfl, rfl, rfl, trivial⟩ trivial
  have hlev : lev A B c = core (cut2 (A.drop (cp A B)) (B.drop (cp A B))) (cut2 (B.drop (cp A B)) (A.drop (cp A B))) c := by rw [lev, if_neg hne]
  have sA1 : ∀ ch ∈ A.drop (cp A B), ch ∈ sigma := fun ch h => sA ch (List.mem_of_mem_drop h)
  have sB1 : ∀ ch ∈ B.drop (cp A B), ch ∈ sigma := fun ch h => sB ch (List.mem_of_mem_drop h)
  have hA1 : (A.drop (cp A B)).length ≤ 40 := by rw [List.length_drop]; omega
  have hB1 : (B.drop (cp A B)).length ≤ 40 := by rw [List.length_drop]; omega
  generalize A.drop (cp A B) = A' at *
  generalize B.drop (cp A B) = B' at *
  clear p1 p2
  have lA : (sx A').length = A'.length := sx_len _
  have lB : (sx B').length = B'.length := sx_len _
  rintro ⟨t1, t2, t3⟩ u h₃ tk₃ - F N
  dsimp only at F N ⊢
  refine cut (ι := Tok × Tok × Tok × Tok) (h₀ := s.heap) (L := L) (fun _ => True) (fun i => [("a", .str (sx A') i.1), ("b", .str (sx B') i.2.1), ("max_cost", .int c i.2.2.1), ("post", .int 0 i.2.2.2)]) (fun _ => []) ?_ ?_
  · intro K hK hRet
    k_steps
    all_goals (try dsimp only)
    exact hK ⟨_, _, _, _⟩ (by assumption) (by assumption) ⟨rfl, rfl, rfl, rfl, trivial⟩ trivial
  rintro ⟨t1, t2, t3, t4⟩ u h₃ tk₃ - F N
  dsimp only at F N ⊢
  refine cut (ι := Tok × Tok × Tok × Tok) (h₀ := s.heap) (L := L) (fun _ => True) (fun i => [("a", .str (sx A') i.1), ("b", .str (sx B') i.2.1), ("max_cost", .int c i.2.2.1), ("post", .int (-(cp A'.reverse B'.reverse : Nat) : Int) i.2.2.2)]) (fun _ => []) ?_ ?_
  · intro K hK hRet
    refine while_rule' (fun k m news => ∃ (t1 t2 t3 t4 : Tok) (q : Nat) (z : Int), z = -(q : Int) ∧ q ≤ A'.length ∧ q ≤ B'.length ∧ cp A'.reverse B'.reverse = q + cp (A'.reverse.drop q) (B'.reverse.drop q) ∧ k = A'.length - q ∧ Know m [("a", .str (sx A') t1), ("b", .str (sx B') t2), ("max_cost", .int c t3), ("post", .int z t4)] ∧ news = [])
      _ F N ⟨t1, t2, t3, t4, 0, 0, by omega, by omega, by omega, by simp, rfl, ⟨rfl, rfl, rfl, rfl, trivial⟩, rfl⟩ ?_
    rintro k m₁ news₁ h tk ⟨t1, t2, t3, t4, q, z, hz, hqx, hqy, hcp, rfl, kn, rfl⟩ F N
    rw [know kn] at F
    dsimp only at F ⊢
    rcases Nat.eq_zero_or_pos q with hq | hq
    · subst hq
      obtain rfl : z = 0 := by omega
      have e1 : (Txt.slice (sx A') none none).length = A'.length := by rw [slice_nn, lA]
      have e2 : (Txt.slice (sx B') none none).length = B'.length := by rw [slice_nn, lB]
      k_steps
      all_goals (try dsimp only)
      · rename (Txt.item _ _ == Txt.item _ _) = true => hi
        have a1 : 0 < A'.length := lt_len (q := 0) e1 (by assumption)
        have a2 : 0 < B'.length := lt_len (q := 0) e2 (by assumption)
        rw [item_neg a1 (by omega), item_neg a2 (by omega), sx_beq] at hi
        have hi : A'.reverse[0]'(by simpa using a1) = B'.reverse[0]'(by simpa using a2) := by rw [rev_get a1, rev_get a2]; simpa using hi
        refine WTurn.intro (A'.length - 1) (by assumption) (by assumption) (by omega) ⟨_, _, _, _, 1, 0 - 1, by omega, a1, a2, ?_, rfl, ⟨rfl, rfl, rfl, rfl, trivial⟩, rfl⟩
        rw [hcp, cp_drop_eq _ _ hi, Nat.zero_add, Nat.zero_add]; omega
      · rename (Txt.item _ _ == Txt.item _ _) = false => hi
        have a1 : 0 < A'.length := lt_len (q := 0) e1 (by assumption)
        have a2 : 0 < B'.length := lt_len (q := 0) e2 (by assumption)
        rw [item_neg a1 (by omega), item_neg a2 (by omega), sx_beq] at hi
        have hi : A'.reverse[0]'(by simpa using a1) ≠ B'.reverse[0]'(by simpa using a2) := by rw [rev_get a1, rev_get a2]; simpa using hi
        have e : cp A'.reverse B'.reverse = 0 := by rw [hcp, cp_drop_ne _ _ hi]
        rw [e] at hK
        exact hK ⟨_, _, _, _⟩ (by assumption) (by assumption) ⟨rfl, rfl, rfl, rfl, trivial⟩ trivial
      · have e : cp A'.reverse B'.reverse = 0 := by rw [hcp, cp_drop_end (.inr (by rw [List.length_reverse]; exact le_len e2 (by assumption)))]
        rw [e] at hK
        exact hK ⟨_, _, _, _⟩ (by assumption) (by assumption) ⟨rfl, rfl, rfl, rfl, trivial⟩ trivial
      · have e : cp A'.reverse B'.reverse = 0 := by rw [hcp, cp_drop_end (.inl (by rw [List.length_reverse]; exact le_len e1 (by assumption)))]
        rw [e] at hK
        exact hK ⟨_, _, _, _⟩ (by assumption) (by assumption) ⟨rfl, rfl, rfl, rfl, trivial⟩ trivial
    · have e1 : (Txt.slice (sx A') none (some z)).length = A'.length - q := by rw [hz, slice_take hq hqx, sx_len, List.length_take]; omega
      have e2 : (Txt.slice (sx B') none (some z)).length = B'.length - q := by rw [hz, slice_take hq hqy, sx_len, List.length_take]; omega
      have hz0 : z ≠ 0 := by omega
      k_steps
      all_goals (try dsimp only)
      all_goals (try (exfalso; omega))
      · rename (Txt.item _ _ == Txt.item _ _) = true => hi
        have a1 : q < A'.length := lt_len e1 (by assumption)
        have a2 : q < B'.length := lt_len e2 (by assumption)
        rw [item_neg a1 (by omega), item_neg a2 (by omega), sx_beq] at hi
        have hi : A'.reverse[q]'(by simpa using a1) = B'.reverse[q]'(by simpa using a2) := by rw [rev_get a1, rev_get a2]; simpa using hi
        refine WTurn.intro (A'.length - (q + 1)) (by assumption) (by assumption) (step_len a1) ⟨_, _, _, _, q + 1, z - 1, by omega, a1, a2, ?_, rfl, ⟨rfl, rfl, rfl, rfl, trivial⟩, rfl⟩
        rw [hcp, cp_drop_eq _ _ hi]; omega
      · rename (Txt.item _ _ == Txt.item _ _) = false => hi
        have a1 : q < A'.length := lt_len e1 (by assumption)
        have a2 : q < B'.length := lt_len e2 (by assumption)
        rw [item_neg a1 (by omega), item_neg a2 (by omega), sx_beq] at hi
        have hi : A'.reverse[q]'(by simpa using a1) ≠ B'.reverse[q]'(by simpa using a2) := by rw [rev_get a1, rev_get a2]; simpa using hi
        have e : -(cp A'.reverse B'.reverse : Int) = z := by rw [hcp, cp_drop_ne _ _ hi]; omega
        rw [e] at hK
        exact hK ⟨_, _, _, _⟩ (by assumption) (by assumption) ⟨rfl, rfl, rfl, rfl, trivial⟩ trivial
      · have e : -(cp A'.reverse B'.reverse : Int) = z := by rw [hcp, cp_drop_end (.inr (by rw [List.length_reverse]; exact le_len e2 (by assumption)))]; omega
        rw [e] at hK
        exact hK ⟨_, _, _, _⟩ (by assumption) (by assumption) ⟨rfl, rfl, rfl, rfl, trivial⟩ trivial
      · have e : -(cp A'.reverse B'.reverse : Int) = z := by rw [hcp, cp_drop_end (.inl (by rw [List.length_reverse]; exact le_len e1 (by assumption)))]; omega
        rw [e] at hK
        exact hK ⟨_, _, _, _⟩ (by assumption) (by assumption) ⟨rfl, rfl, rfl, rfl, trivial⟩ trivial
  have q1 : cp A'.reverse B'.reverse ≤ A'.length := by simpa using cp_le_l A'.reverse B'.reverse
  have q2 : cp A'.reverse B'.reverse ≤ B'.length := by simpa using cp_le_r A'.reverse B'.reverse
  have c1 : cut2 A' B' = A'.take (A'.length - cp A'.reverse B'.reverse) := rfl
  have c2 : cut2 B' A' = B'.take (B'.length - cp A'.reverse B'.reverse) := by rw [cut2, cp_comm]
  generalize cp A'.reverse B'.reverse = q at *
  rintro ⟨t1, t2, t3, t4⟩ u h₃ tk₃ - F N
  dsimp only at F N ⊢
  refine cut (ι := Tok × Tok × Tok × Tok) (h₀ := s.heap) (L := L) (fun _ => True) (fun i => [("a", .str (sx (cut2 A' B')) i.1), ("b", .str (sx B') i.2.1), ("max_cost", .int c i.2.2.1), ("post", .int (-(q : Int)) i.2.2.2)]) (fun _ => []) ?_ ?_
  · intro K hK hRet
    rcases Nat.eq_zero_or_pos q with hq | hq
    · subst hq
      have e0 : sx (cut2 A' B') = Txt.slice (sx A') none none := by rw [c1, slice_nn]; simp
      have ez : (-((0 : Nat) : Int)) = 0 := rfl
      rw [ez] at F hK
      k_steps
      all_goals (try dsimp only)
      rw [e0] at hK
      exact hK ⟨_, _, _, _⟩ (by assumption) (by assumption) ⟨rfl, rfl, rfl, rfl, trivial⟩ trivial
    · have e0 : sx (cut2 A' B') = Txt.slice (sx A') none (some (-(q : Int))) := by rw [c1, slice_take hq q1]
      have hz0 : -(q : Int) ≠ 0 := by omega
      k_steps
      all_goals (try dsimp only)
      all_goals (try (exfalso; omega))
      rw [e0] at hK
      exact hK ⟨_, _, _, _⟩ (by assumption) (by assumption) ⟨rfl, rfl, rfl, rfl, trivial⟩ trivial
  rintro ⟨t1, t2, t3, t4⟩ u h₃ tk₃ - F N
  dsimp only at F N ⊢
  refine cut (ι := Tok × Tok × Tok) (h₀ := s.heap) (L := L) (fun _ => True) (fun i => [("a", .str (sx (cut2 A' B')) i.1), ("b", .str (sx (cut2 B' A')) i.2.1), ("max_cost", .int c i.2.2)]) (fun _ => []) ?_ ?_
  · intro K hK hRet
    rcases Nat.eq_zero_or_pos q with hq | hq
    · subst hq
      have e0 : sx (cut2 B' A') = Txt.slice (sx B') none none := by rw [c2, slice_nn]; simp
      have ez : (-((0 : Nat) : Int)) = 0 := rfl
      rw [ez] at F
      k_steps
      all_goals (try dsimp only)
      rw [e0] at hK
      exact hK ⟨_, _, _⟩ (by assumption) (by assumption) ⟨rfl, rfl, rfl, trivial⟩ trivial
    · have e0 : sx (cut2 B' A') = Txt.slice (sx B') none (some (-(q : Int))) := by rw [c2, slice_take hq q2]
      have hz0 : -(q : Int) ≠ 0 := by omega
      k_steps
      all_goals (try dsimp only)
      all_goals (try (exfalso; omega))
      rw [e0] at hK
      exact hK ⟨_, _, _⟩ (by assumption) (by assumption) ⟨rfl, rfl, rfl, trivial⟩ trivial
  have hA2 : (cut2 A' B').length ≤ 40 := by rw [c1, List.length_take]; omega
  have hB2 : (cut2 B' A').length ≤ 40 := by rw [c2, List.length_take]; omega
  have sA2 : ∀ ch ∈ cut2 A' B', ch ∈ sigma := fun ch h => sA1 ch (List.mem_of_mem_take h)
  have sB2 : ∀ ch ∈ cut2 B' A', ch ∈ sigma := fun ch h => sB1 ch (List.mem_of_mem_take h)
  generalize cut2 A' B' = P at *
  generalize cut2 B' A' = R at *
  clear q1 q2 c1 c2
  have lP : (sx P).length = P.length := sx_len _
  have lR : (sx R).length = R.length := sx_len _
  rintro ⟨t1, t2, t3⟩ u h₃ tk₃ - F N
  dsimp only at F N ⊢
  refine cut (ι := Tok × Tok × Tok) (h₀ := s.heap) (L := L) (fun _ => P ≠ [] ∧ R ≠ []) (fun i => [("a", .str (sx P) i.1), ("b", .str (sx R) i.2.1), ("max_cost", .int c i.2.2)]) (fun _ => []) ?_ ?_
  · intro K hK hRet
    k_steps
    all_goals (try dsimp only)
    · refine hK ⟨_, _, _⟩ (by assumption) (by assumption) ⟨rfl, rfl, rfl, trivial⟩ ⟨?_, ?_⟩
      · intro e; have : P.length = 0 := by rw [e]; rfl
        omega
      · intro e; have : R.length = 0 := by rw [e]; rfl
        omega
    · refine hRet _ _ (by nofun) (hK0 _ _ ?_)
      refine hQ _ _ _ [] (Fr.keep (by assumption)) Made.nil (ktn_int ?_)
      have : R = [] := List.eq_nil_of_length_eq_zero (by omega)
      rw [hlev, core, if_pos (.inr this), lP, lR]
    · refine hRet _ _ (by nofun) (hK0 _ _ ?_)
      refine hQ _ _ _ [] (Fr.keep (by assumption)) Made.nil (ktn_int ?_)
      have : P = [] := List.eq_nil_of_length_eq_zero (by omega)
      rw [hlev, core, if_pos (.inl this), lP, lR]
  --PART2
  rintro ⟨t1, t2, t3⟩ u h₃ tk₃ ⟨hP, hR'⟩ F N
  dsimp only at F N ⊢
  refine cut (ι := Tok × Tok × Tok) (h₀ := s.heap) (L := L) (fun _ => True) (fun i => [("a", .str (sx P) i.1), ("b", .str (sx R) i.2.1), ("max_cost", .int c i.2.2)]) (fun _ => []) ?_ ?_
  · intro K hK hRet
    k_steps
    all_goals (try dsimp only)
    all_goals (try (exfalso; omega))
    all_goals exact hK ⟨_, _, _⟩ (by assumption) (by assumption) ⟨rfl, rfl, rfl, trivial⟩ trivial
  rintro ⟨t1, t2, t3⟩ u h₃ tk₃ - F N
  dsimp only at F N ⊢
  refine cut (ι := (List Nat × List Nat) × Tok × Tok × Tok) (h₀ := s.heap) (L := L) (fun i => core P R c = core2 i.1.1 i.1.2 c ∧ i.1.1 ≠ [] ∧ i.1.1.length ≤ i.1.2.length ∧ i.1.2.length ≤ 40 ∧ (∀ ch ∈ i.1.1, ch ∈ sigma) ∧ (∀ ch ∈ i.1.2, ch ∈ sigma))
    (fun i => [("a", .str (sx i.1.1) i.2.1), ("b", .str (sx i.1.2) i.2.2.1), ("max_cost", .int c i.2.2.2)]) (fun _ => []) ?_ ?_
  · intro K hK hRet
    k_steps
    all_goals (try dsimp only)
    · have hlt : R.length < P.length := by omega
      refine hK ⟨(R, P), _, _, _⟩ (by assumption) (News.nil) ⟨rfl, rfl, rfl, trivial⟩ ⟨?_, hR', by dsimp only; omega, by dsimp only; omega, sB2, sA2⟩
      rw [core, if_neg (by simp [hP, hR']), if_pos hlt]
    · have hlt : ¬ R.length < P.length := by omega
      refine hK ⟨(P, R), _, _, _⟩ (by assumption) (News.nil) ⟨rfl, rfl, rfl, trivial⟩ ⟨?_, hP, by dsimp only; omega, by dsimp only; omega, sA2, sB2⟩
      rw [core, if_neg (by simp [hP, hR']), if_neg hlt]
  rintro ⟨⟨S, G⟩, t1, t2, t3⟩ u h₃ tk₃ ⟨hcore, hS0, hSG, hG, sS, sG⟩ F N
  dsimp only at F N hcore hS0 hSG hG sS sG ⊢
  rw [hcore] at hlev
  clear hcore lP lR sA2 sB2 hA2 hB2
  have lS : (sx S).length = S.length := sx_len _
  have lG : (sx G).length = G.length := sx_len _
  refine cut (ι := Tok × Tok × Tok) (h₀ := s.heap) (L := L) (fun _ => ¬ (((G.length : Int) - S.length) * 2 > c)) (fun i => [("a", .str (sx S) i.1), ("b", .str (sx G) i.2.1), ("max_cost", .int c i.2.2)]) (fun _ => []) ?_ ?_
  · intro K hK hRet
    k_steps
    all_goals (try dsimp only)
    · refine hRet _ _ (by nofun) (hK0 _ _ ?_)
      refine hQ _ _ _ [] (Fr.keep (by assumption)) Made.nil (ktn_int ?_)
      rw [hlev, core2, if_pos (by omega)]
    · exact hK ⟨_, _, _⟩ (by assumption) (by assumption) ⟨rfl, rfl, rfl, trivial⟩ (by omega)
  rintro ⟨t1, t2, t3⟩ u h₃ tk₃ hgap F N
  dsimp only at F N hgap ⊢
  rw [core2, if_neg hgap] at hlev
  refine cut (ι := Addr × Nat × List Value × Tok × Tok × Tok) (h₀ := s.heap) (L := L) (fun i => IntsAre i.2.2.1 (row0 S.length)) (fun i => [("a", .str (sx S) i.2.2.2.1), ("b", .str (sx G) i.2.2.2.2.1), ("max_cost", .int c i.2.2.2.2.2), ("row", .ref i.1)])
    (fun i => [(i.1, { cls := .type "list", data := .seq i.2.2.1.toArray i.2.1 })]) ?_ ?_
  · intro K hK hRet
    k_steps
    all_goals (try dsimp only)
    rename IsRange _ _ _ _ _ _ _ _ => hr
    refine list_row (n := S.length) rfl (by assumption) (by assumption) hr (by omega) (by omega) fun D us c' h' tk' F' N' l1 hi => ?_
    clear l1
    k_steps
    all_goals (try dsimp only)
    exact hK ⟨_, _, _, _, _, _⟩ (by assumption) (by assumption) ⟨rfl, rfl, rfl, rfl, trivial⟩ hi
  rintro ⟨D, k0, us, t1, t2, t3⟩ u h₃ tk₃ hus F N
  dsimp only at F N hus ⊢
  refine cut (ι := Addr × Nat × List Value × Tok × Tok × Tok × Tok) (h₀ := s.heap) (L := L) (fun i => IntsAre i.2.2.1 (row0 S.length)) (fun i => [("a", .str (sx S) i.2.2.2.1), ("b", .str (sx G) i.2.2.2.2.1), ("max_cost", .int c i.2.2.2.2.2.1), ("row", .ref i.1), ("result", .int 0 i.2.2.2.2.2.2)])
    (fun i => [(i.1, { cls := .type "list", data := .seq i.2.2.1.toArray i.2.1 })]) ?_ ?_
  · intro K hK hRet
    k_steps
    all_goals (try dsimp only)
    exact hK ⟨_, _, _, _, _, _, _⟩ (by assumption) (by assumption) ⟨rfl, rfl, rfl, rfl, rfl, trivial⟩ hus
  rintro ⟨D, k0, us, t1, t2, t3, t4⟩ u h₃ tk₃ hus F N
  dsimp only at F N hus ⊢
  refine cut (ι := Tok) (h₀ := s.heap) (L := L) (fun _ => True) (fun i => [("result", .int (lev A B c) i)]) (fun _ => []) ?_ ?_
  · intro K hK hRet
    refine For_invV s.heap rfl rfl ?_
    repeat (first | (fail_if_success (with_reducible show wpAny _ _ (pyIter _) _ _ _)); walk1)
    dsimp only
    rename IsRange _ _ _ _ _ _ _ _ => hr
    refine iter_range (n := G.length) (fun i m news => ∃ (D : Addr) (k : Nat) (us : List Value) (row : List Int) (res : Int) (t1 t2 t3 t4 : Tok), news = [(D, { cls := .type "list", data := .seq us.toArray k })] ∧ IntsAre us row ∧ row.length = S.length ∧ outer S c (G.drop i) i row res = lev A B c ∧
      Know m [("a", .str (sx S) t1), ("b", .str (sx G) t2), ("max_cost", .int c t3), ("row", .ref D), ("result", .int res t4)]) rfl hr ?_ ?_ (by assumption) (by assumption) ⟨D, k0, us, row0 S.length, 0, t1, t2, t3, t4, rfl, hus, by simp [row0], hlev.symm, ⟨rfl, rfl, rfl, rfl, rfl, trivial⟩⟩ ?_ ?_
    · exact (rs1 (n := G.length) (by rw [lG]) (by omega)).1
    · exact (rs1 (n := G.length) (by rw [lG]) (by omega)).2
    · rintro i ti m₁ news₁ h tk I oI hi ⟨D, k0, us, row, res, t1, t2, t3, t4, rfl, hus, hl, ho, kn⟩ hoff F N hcI
      refine veil ?_
      intro KT hTn
      rw [know kn] at F
      have ei : (0 : Int) + (i : Nat) * 1 = i := by omega
      rw [ei] at F
      dsimp only at F N ⊢
      have hDI : D ≠ I := hoff _ (.head _)
      have eb : Txt.item (sx G) (i : Int) = sx [G[i]] := item_pos hi
      rw [List.drop_eq_getElem_cons hi, outer] at ho
      generalize hT : inner G[i] S row (2 * (i : Int)) (2 * (i : Int)) 9223372036854775807 = TT at ho
      have hG1 : G[i] ∈ sigma := sG _ (List.getElem_mem hi)
      generalize G[i] = gi at *
      refine cut (ι := Tok × Tok × Tok × Tok × Tok × Tok × Tok) (h₀ := s.heap) (L := L) (fun _ => True) (fun j => [("a", .str (sx S) j.1), ("b", .str (sx G) j.2.1), ("max_cost", .int c j.2.2.1), ("row", .ref D), ("result", .int res j.2.2.2.1), ("bindex", .int i j.2.2.2.2.1), ("bchar", .str (sx [gi]) j.2.2.2.2.2.1)])
        (fun _ => [(I, oI), (D, { cls := .type "list", data := .seq us.toArray k0 })]) ?_ ?_
      · intro K hK hRet
        k_steps
        all_goals (try dsimp only)
        rw [← eb] at hK
        exact hK ⟨_, _, _, _, _, _, 0⟩ (by assumption) (by assumption) ⟨rfl, rfl, rfl, rfl, rfl, rfl, rfl, trivial⟩ trivial
      rintro ⟨t1, t2, t3, t4, t5, t6, t7⟩ u h₃ tk₃ - F N
      dsimp only at F N ⊢
      refine cut (ι := Tok × Tok × Tok × Tok × Tok × Tok × Tok) (h₀ := s.heap) (L := L) (fun _ => True) (fun j => [("a", .str (sx S) j.1), ("b", .str (sx G) j.2.1), ("max_cost", .int c j.2.2.1), ("row", .ref D), ("result", .int (2 * (i : Int)) j.2.2.2.1), ("bchar", .str (sx [gi]) j.2.2.2.2.1), ("distance", .int (2 * (i : Int)) j.2.2.2.2.2.1)])
        (fun _ => [(I, oI), (D, { cls := .type "list", data := .seq us.toArray k0 })]) ?_ ?_
      · intro K hK hRet
        have e2 : (2 * (i : Int)) = (i : Int) * 2 := by omega
        rw [e2] at hK
        refine wpAny_Assign_two ?_
        k_steps
        all_goals (try dsimp only)
        exact hK ⟨_, _, _, _, _, _, 0⟩ (by assumption) (by assumption) ⟨rfl, rfl, rfl, rfl, rfl, rfl, rfl, trivial⟩ trivial
      rintro ⟨t1, t2, t3, t4, t5, t6, t7⟩ u h₃ tk₃ - F N
      dsimp only at F N ⊢
      refine cut (ι := Tok × Tok × Tok × Tok × Tok × Tok × Tok) (h₀ := s.heap) (L := L) (fun _ => True) (fun j => [("a", .str (sx S) j.1), ("b", .str (sx G) j.2.1), ("max_cost", .int c j.2.2.1), ("row", .ref D), ("result", .int (2 * (i : Int)) j.2.2.2.1), ("bchar", .str (sx [gi]) j.2.2.2.2.1), ("distance", .int (2 * (i : Int)) j.2.2.2.2.2.1), ("minimum", .int 9223372036854775807 j.2.2.2.2.2.2)])
        (fun _ => [(I, oI), (D, { cls := .type "list", data := .seq us.toArray k0 })]) ?_ ?_
      · intro K hK hRet
        k_steps
        all_goals (try dsimp only)
        exact hK ⟨_, _, _, _, _, _, _⟩ (by assumption) (by assumption) ⟨rfl, rfl, rfl, rfl, rfl, rfl, rfl, rfl, trivial⟩ trivial
      rintro ⟨t1, t2, t3, t4, t5, t6, t7⟩ u h₃ tk₃ - F N
      dsimp only at F N ⊢
      refine cut (ι := (List Value × List Int) × Tok × Tok × Tok × Tok × Tok) (h₀ := s.heap) (L := L) (fun j => IntsAre j.1.1 TT.1 ∧ TT.1.length = S.length) (fun j => [("a", .str (sx S) j.2.1), ("b", .str (sx G) j.2.2.1), ("max_cost", .int c j.2.2.2.1), ("row", .ref D), ("result", .int TT.2.1 j.2.2.2.2.1), ("minimum", .int TT.2.2 j.2.2.2.2.2)])
        (fun j => [(I, oI), (D, { cls := .type "list", data := .seq j.1.1.toArray k0 })]) ?_ ?_
      · intro K hK hRet
        refine For_invV s.heap rfl rfl ?_
        repeat (first | (fail_if_success (with_reducible show wpAny _ _ (pyIter _) _ _ _)); walk1)
        dsimp only
        rename IsRange _ _ _ _ _ _ _ _ => hr
        refine iter_range (n := S.length) (fun j m news => ∃ (us : List Value) (pre : List Int) (d rs mn : Int) (t1 t2 t3 t4 t5 t6 t7 : Tok), news = [(I, oI), (D, { cls := .type "list", data := .seq us.toArray k0 })] ∧ IntsAre us (pre ++ row.drop j) ∧ pre.length = j ∧
          TT = (pre ++ (inner gi (S.drop j) (row.drop j) d rs mn).1, (inner gi (S.drop j) (row.drop j) d rs mn).2) ∧
          Know m [("a", .str (sx S) t1), ("b", .str (sx G) t2), ("max_cost", .int c t3), ("row", .ref D), ("result", .int rs t4), ("bchar", .str (sx [gi]) t5), ("distance", .int d t6), ("minimum", .int mn t7)]) rfl hr
          (rs1 (n := S.length) (by rw [lS]) (by omega)).1 (rs1 (n := S.length) (by rw [lS]) (by omega)).2 (by assumption) (by assumption) ⟨us, [], _, _, _, t1, t2, t3, t4, t5, t6, t7, rfl, hus, rfl, hT.symm, ⟨rfl, rfl, rfl, rfl, rfl, rfl, rfl, rfl, trivial⟩⟩ ?_ ?_
        · rintro j tj m₁ news₁ h tk I2 oI2 hj ⟨us, pre, d, rs, mn, t1, t2, t3, t4, t5, t6, t7, rfl, hus, hpl, hT', kn⟩ hoff2 F N hcI2
          refine veil ?_
          intro KT hTn
          rw [know kn] at F
          have ei : (0 : Int) + (j : Nat) * 1 = j := by omega
          rw [ei] at F
          dsimp only at F N ⊢
          have hDI2 : D ≠ I2 := hoff2 _ (.tail _ (.head _))
          have hII2 : I ≠ I2 := hoff2 _ (.head _)
          have hjr : j < row.length := by omega
          have hlen : (pre ++ row.drop j).length = S.length := by rw [List.length_append, List.length_drop]; omega
          have es : Txt.item (sx S) (j : Int) = sx [S[j]] := item_pos hj
          have hS1 : S[j] ∈ sigma := sS _ (List.getElem_mem hj)
          clear eb
          k_steps
          dsimp only
          have hgd := row_get hjr hpl
          rw [hgd]
          rename Fr _ _ _ _ => F
          rename News _ _ _ _ => N
          refine ksa_set F N (Upd.tail hDI2.symm (Upd.tail hDI.symm (Upd.head (fun _ h => nomatch h)))) hus (by omega) (by rw [hlen]; omega) (by omega) ?_
          clear F N
          intro h' F N hus' _ _
          rw [hgd] at F
          rw [min_if rs row[j], min_if (min rs row[j] + 2)] at F N hus'
          rw [row_set hjr hpl] at hus'
          rw [List.drop_eq_getElem_cons hj, List.drop_eq_getElem_cons hjr, inner] at hT'
          dsimp only at hT' F N ⊢
          generalize min (min rs row[j] + 2) (d + subc gi S[j]) = rn at *
          k_steps
          all_goals (try dsimp only)
          · refine hTn _ _ ?_
            refine Turn.intro (by assumption) (by assumption) ?_ ⟨_, pre ++ [rn], row[j], rn, rn, _, _, _, _, _, _, _, rfl, hus', by simp [hpl], ?_, ⟨rfl, rfl, rfl, rfl, rfl, rfl, rfl, rfl, trivial⟩⟩
            · intro p hp
              rcases List.mem_cons.mp hp with e | e
              · rw [e]; exact .inl hII2
              · rw [List.mem_singleton.mp e]; exact .inl hDI2
            · rw [hT', if_pos (by assumption)]; simp
          · refine hTn _ _ ?_
            refine Turn.intro (by assumption) (by assumption) ?_ ⟨_, pre ++ [rn], row[j], rn, mn, _, _, _, _, _, _, _, rfl, hus', by simp [hpl], ?_, ⟨rfl, rfl, rfl, rfl, rfl, rfl, rfl, rfl, trivial⟩⟩
            · intro p hp
              rcases List.mem_cons.mp hp with e | e
              · rw [e]; exact .inl hII2
              · rw [List.mem_singleton.mp e]; exact .inl hDI2
            · rw [hT', if_neg (by assumption)]; simp
        · rintro m₁ news₁ h tk ⟨us, pre, d, rs, mn, t1, t2, t3, t4, t5, t6, t7, rfl, hus, hpl, hT', kn⟩ F N
          rw [List.drop_length] at hT'
          rw [show row.drop S.length = [] from List.drop_of_length_le (by omega), List.append_nil] at hus
          have e : TT = (pre, rs, mn) := by rw [hT']; unfold inner; simp
          subst e
          refine hK ⟨(us, []), _, _, _, _, _⟩ F N ⟨kn.1, kn.2.1, kn.2.2.1, kn.2.2.2.1, kn.2.2.2.2.1, kn.2.2.2.2.2.2.2.1, trivial⟩ ⟨hus, hpl⟩
      rintro ⟨⟨us, us2⟩, t1, t2, t3, t4, t5⟩ u h₃ tk₃ ⟨hus, hTl⟩ F N
      dsimp only at F N hus ⊢
      k_steps
      all_goals (try dsimp only)
      · refine hTn _ _ ?_
        refine hRet _ _ (by nofun) (hK0 _ _ ?_)
        refine hQ _ _ _ [] (Fr.keep (by assumption)) Made.nil (ktn_int ?_)
        rw [if_pos (by omega)] at ho
        exact ho
      · refine hTn _ _ ?_
        refine Turn.intro (by assumption) (by assumption) ?_ ⟨D, k0, us, TT.1, TT.2.1, _, _, _, _, rfl, hus, hTl, ?_, ⟨rfl, rfl, rfl, rfl, rfl, trivial⟩⟩
        · intro p hp; rw [List.mem_singleton.mp hp]; exact .inl hDI
        · rw [if_neg (by omega)] at ho
          rw [← ho]; rfl
    · rintro m₁ news₁ h tk ⟨D, k0, us, row, res, t1, t2, t3, t4, rfl, hi, hl, ho, kn⟩ F N
      rw [List.drop_length] at ho
      have ho : res = lev A B c := ho
      subst ho
      exact hK _ F News.nil ⟨kn.2.2.2.2.1, trivial⟩ trivial
  rintro t1 u h₃ tk₃ - F N
  dsimp only at F N ⊢
  k_steps
  all_goals (try dsimp only)
  refine hK0 _ _ ?_
  exact hQ _ _ _ [] (Fr.keep (by assumption)) Made.nil ⟨_, rfl⟩
end
end

section
open PySem PySem.W PyProof.Rows PySem.Calls PySem.Spec
theorem top_F3 : True := by
  w_top off
  trivial
local macro_rules | `(tactic| walk_at "call builtin:str.find") => `(tactic| (refine find4 (by omega) ?_))
section
variable {prog : Program} {w : World} {p : Program} {loose : List Str} {mean : ExcName → Option Value} {mg mb : Str → Option Value}
theorem does_ell (X Y f : Str) (mid : List Str) (t u : Tok) (hX : X.length ≤ 1000) (hY : Y.length ≤ 1000) (hm : mid.length ≤ 1000) (hfl : f.length ≤ 1000) (hml : ∀ x ∈ mid, x.length ≤ 1000) (hocc : (Builtin.Str.occurrences X "..." 0 X.length 1).isEmpty = false)
    (hsp : Txt.split X "..." = f :: (mid ++ [Str.empty])) :
    Does prog w (hd.heap_39 w.params) p loose mean mg mb 1 38 [.str X t, .str Y u] (fun _ => True) (fun _ r => r = .bool (ell Y f mid)) := by
  intro A₀ s Q E hR XX T hpre hQ
  obtain ⟨dp, fr, gd, un, rfl, hdp, hun⟩ := hR.open
  refine wpAny_call ?_
  k_dflt (refine' enter ?k1 ?k2 ?k3 ?k6 ?k7 ?k9 ?kB ?c5 ?c2 ?c3 ?c4 ?_; (case k1 => assumption); (case k2 => assumption); (case k6 => k_is); (case k7 => k_is); (case k9 => exact BindsTo.of_eq rfl); (case kB => exact locs rfl); (case c2 => exact rfl); (case c3 => exact rfl); (case c4 => exact rfl); (case c5 => decide))
  · (dsimp only); omega
  intro L h₁ tk F N
  refine veil2 ?_
  intro K0 X0 hK0 _
  refine cut (ι := Tok × Tok) (h₀ := s.heap) (L := L) (fun _ => True) (fun i => [("want", .str X i.1), ("got", .str Y i.2)]) (fun _ => []) ?_ ?_
  · intro K hK hRet
    k_steps
    all_goals (try dsimp only)
    · exact hK ⟨_, _⟩ (by assumption) (by assumption) ⟨rfl, rfl, trivial⟩ trivial
  rintro ⟨t1, t2⟩ u h₂ tk₂ - F N
  dsimp only at F N ⊢
  refine cut (ι := List Value × Addr × Nat × Tok × Tok) (h₀ := s.heap) (L := L) (fun i => StrsAre i.1 (f :: (mid ++ [Str.empty]))) (fun i => [("want", .str X i.2.2.2.1), ("got", .str Y i.2.2.2.2), ("ws", .ref i.2.1)]) (fun i => [(i.2.1, { cls := .type "list", data := .seq i.1.toArray i.2.2.1 })]) ?_ ?_
  · intro K hK hRet
    k_steps
    all_goals (try dsimp only)
    rename List.map _ _ = _ => h
    rename StrsAre _ _ => h'
    rw [h, hsp] at h'
    exact hK ⟨_, _, _, _, _⟩ (by assumption) (by assumption) ⟨rfl, rfl, rfl, trivial⟩ h'
  rintro ⟨l, D, k0, t1, t2⟩ u h₂ tk₂ hl F N
  dsimp only at F N hl ⊢
  obtain ⟨tf, l1, e1, hl1⟩ := hl.cons_inv
  obtain ⟨vs, te, e2, hvs⟩ := strs_snoc hl1
  have hls : vs.length = mid.length := hvs.len_eq
  subst e1 e2
  refine cut (ι := Tok) (h₀ := s.heap) (L := L) (fun _ => True) (fun i => [("got", .str Y i), ("ws", .ref D)]) (fun i => [(D, { cls := .type "list", data := .seq (Value.str f tf :: (vs ++ [.str Str.empty te])).toArray k0 })]) ?_ ?_
  · intro K hK hRet
    k_steps
    (try dsimp only)
    rename News _ _ _ _ => N
    refine call_len_list (News.isList N (.head _)) (by simp; omega) ?_
    have e : (((Value.str f tf :: (vs ++ [Value.str Str.empty te])).toArray.size : Nat) : Int) = (mid.length : Int) + 2 := by simp; omega
    rw [e]
    have h2 : (2 : Int) ≤ (mid.length : Int) + 2 := by omega
    k_steps
    all_goals (try dsimp only)
    all_goals (try (exfalso; omega))
    exact hK _ (by assumption) (by assumption) ⟨rfl, rfl, trivial⟩ trivial
  rintro t2 u h₂ tk₂ - F N
  dsimp only at F N ⊢
  refine cut (ι := Tok × Tok × Tok) (h₀ := s.heap) (L := L) (fun _ => True) (fun i => [("got", .str Y i.1), ("ws", .ref D), ("startpos", .int 0 i.2.1), ("endpos", .int (Y.length : Nat) i.2.2)]) (fun i => [(D, { cls := .type "list", data := .seq (Value.str f tf :: (vs ++ [.str Str.empty te])).toArray k0 })]) ?_ ?_
  · intro K hK hRet
    k_steps
    all_goals (try dsimp only)
    rename News _ _ _ _ => N
    exact hK ⟨_, _, _⟩ (by assumption) (fun p hp => N p (.tail _ hp)) ⟨rfl, rfl, rfl, rfl, trivial⟩ trivial
  rintro ⟨t1, t2, t3⟩ u h₂ tk₂ - F N
  dsimp only at F N ⊢
  refine cut (ι := Tok × Tok × Tok × Tok) (h₀ := s.heap) (L := L) (fun _ => True) (fun i => [("got", .str Y i.1), ("ws", .ref D), ("startpos", .int 0 i.2.1), ("endpos", .int (Y.length : Nat) i.2.2.1), ("w", .str f i.2.2.2)]) (fun i => [(D, { cls := .type "list", data := .seq (Value.str f tf :: (vs ++ [.str Str.empty te])).toArray k0 })]) ?_ ?_
  · intro K hK hRet
    k_steps
    (try dsimp only)
    rename News _ _ _ _ => N
    exact hK ⟨_, _, _, _⟩ (by assumption) (by assumption) ⟨rfl, rfl, rfl, rfl, rfl, trivial⟩ trivial
  rintro ⟨t1, t2, t3, t4⟩ u h₂ tk₂ - F N
  dsimp only at F N ⊢
  refine cut (ι := Int × List Value × Nat × Tok × Tok × Tok) (h₀ := s.heap) (L := L)
    (fun i => (f = Str.empty ∧ i.1 = 0 ∧ i.2.1 = Value.str f tf :: (vs ++ [.str Str.empty te])) ∨ (f ≠ Str.empty ∧ Txt.startswith Y f = true ∧ i.1 = f.length ∧ i.2.1 = vs ++ [.str Str.empty te]))
    (fun i => [("got", .str Y i.2.2.2.1), ("ws", .ref D), ("startpos", .int i.1 i.2.2.2.2.1), ("endpos", .int (Y.length : Nat) i.2.2.2.2.2)]) (fun i => [(D, { cls := .type "list", data := .seq i.2.1.toArray i.2.2.1 })]) ?_ ?_
  · intro K hK hRet
    by_cases hf : f = Str.empty
    · have hf0 : f.length = 0 := by rw [hf]; rfl
      k_steps
      all_goals (try dsimp only)
      all_goals (try (exfalso; omega))
      rename News _ _ _ _ => N
      exact hK ⟨_, _, _, _, _, _⟩ (by assumption) N ⟨rfl, rfl, rfl, rfl, trivial⟩ (.inl ⟨hf, rfl, rfl⟩)
    · have hf0 : f.length ≠ 0 := by
        intro e
        apply hf
        cases f with
        | mk cps => simp [Str.length] at e; simp [Str.empty, e]
      k_steps
      all_goals (try dsimp only)
      all_goals (try (exfalso; omega))
      · rename News _ _ _ _ => N
        rename Txt.startswith _ _ = true => hsw
        refine delItem_head (by assumption) N (fun _ h => nomatch h) (by decide) (k := 0) (by unfold seqIndex?; simp; omega) ?_ (by rw [sizeLine_eq]; simp; omega)
        clear N
        intro h' F N
        have e : ((Value.str f tf :: (vs ++ [Value.str Str.empty te])).toArray.toList.eraseIdx 0).toArray = (vs ++ [Value.str Str.empty te]).toArray := by simp
        rw [e] at N
        (try dsimp only)
        k_steps
        (try dsimp only)
        rename News _ _ _ _ => N
        exact hK ⟨_, _, _, _, _, _⟩ (by assumption) N ⟨rfl, rfl, rfl, rfl, trivial⟩ (.inr ⟨hf, hsw, rfl, rfl⟩)
      · rename Txt.startswith _ _ = false => hsw
        refine hRet _ _ (by nofun) (hK0 _ _ ?_)
        (try dsimp only)
        refine hQ _ _ _ [] (Fr.keep (by assumption)) Made.nil ?_
        rw [ell, if_neg hf, hsw]; rfl
  --PART2
  rintro ⟨st, xs, k1, t1, t2, t3⟩ u h₂ tk₂ hst F N
  dsimp only at F N hst ⊢
  have hxs : ∃ (ys : List Value) (xl : List Str), xs = ys ++ [Value.str Str.empty te] ∧ ell Y f mid = findAll Y xl st ∧ 0 ≤ st ∧ st ≤ Y.length ∧ StrsAre xs xl ∧ (∀ x ∈ xl, x.length ≤ 1000) ∧ ys.length ≤ 1001 := by
    have hm1 : ∀ x ∈ mid ++ [Str.empty], x.length ≤ 1000 := by
      intro x hx
      rcases List.mem_append.mp hx with h | h
      · exact hml x h
      · rw [List.mem_singleton.mp h]; decide
    rcases hst with ⟨hf, rfl, rfl⟩ | ⟨hf, hsw, rfl, rfl⟩
    · refine ⟨Value.str f tf :: vs, Str.empty :: (mid ++ [Str.empty]), rfl, by rw [ell, if_pos hf], by omega, by omega, ?_, ?_, by simp; omega⟩
      · rw [show (Str.empty :: (mid ++ [Str.empty])) = f :: (mid ++ [Str.empty]) from by rw [hf]]; exact hl
      · intro x hx
        rcases List.mem_cons.mp hx with h | h
        · rw [h]; decide
        · exact hm1 x h
    · refine ⟨vs, mid ++ [Str.empty], rfl, by rw [ell, if_neg hf, hsw]; rfl, by omega, ?_, hl1, hm1, by omega⟩
      unfold Txt.startswith at hsw
      simp at hsw
      omega
  obtain ⟨ys, xl, hys, hell, hst0, hst1, hsa, hxll, hysl⟩ := hxs
  subst hys
  refine cut (ι := Nat × Tok × Tok × Tok × Tok) (h₀ := s.heap) (L := L) (fun _ => True)
    (fun i => [("got", .str Y i.2.1), ("ws", .ref D), ("startpos", .int st i.2.2.1), ("endpos", .int (Y.length : Nat) i.2.2.2.1), ("w", .str Str.empty i.2.2.2.2)]) (fun i => [(D, { cls := .type "list", data := .seq (ys ++ [Value.str Str.empty te]).toArray i.1 })]) ?_ ?_
  · intro K hK hRet
    k_steps
    (try dsimp only)
    rename News _ _ _ _ => N
    rename Fr _ _ _ _ => F
    refine kim_back N (.head _) rfl rfl (by decide) (by simp; omega) (by decide) (x := .str Str.empty te) (at_last _ _) ?_
    (try dsimp only)
    k_steps
    (try dsimp only)
    rename News _ _ _ _ => N
    exact hK ⟨_, _, _, _, _⟩ (by assumption) N ⟨rfl, rfl, rfl, rfl, rfl, trivial⟩ trivial
  rintro ⟨k2, t1, t2, t3, t4⟩ u h₂ tk₂ - F N
  dsimp only at F N ⊢
  refine cut (ι := Nat × Tok × Tok × Tok × Tok) (h₀ := s.heap) (L := L) (fun _ => True)
    (fun i => [("got", .str Y i.2.1), ("ws", .ref D), ("startpos", .int st i.2.2.1), ("endpos", .int (Y.length : Nat) i.2.2.2.1)]) (fun i => [(D, { cls := .type "list", data := .seq (ys ++ [Value.str Str.empty te]).toArray i.1 })]) ?_ ?_
  · intro K hK hRet
    have hf0 : Str.empty.length = 0 := rfl
    k_steps
    all_goals (try dsimp only)
    all_goals (try (exfalso; omega))
    rename News _ _ _ _ => N
    exact hK ⟨_, _, _, _, 0⟩ (by assumption) N ⟨rfl, rfl, rfl, rfl, trivial⟩ trivial
  rintro ⟨k2, t1, t2, t3, t4⟩ u h₂ tk₂ - F N
  dsimp only at F N ⊢
  refine cut (ι := Nat × Tok × Tok × Tok × Tok) (h₀ := s.heap) (L := L) (fun _ => True)
    (fun i => [("got", .str Y i.2.1), ("ws", .ref D), ("startpos", .int st i.2.2.1), ("endpos", .int (Y.length : Nat) i.2.2.2.1)]) (fun i => [(D, { cls := .type "list", data := .seq (ys ++ [Value.str Str.empty te]).toArray i.1 })]) ?_ ?_
  · intro K hK hRet
    k_steps
    all_goals (try dsimp only)
    all_goals (try (exfalso; omega))
    rename News _ _ _ _ => N
    exact hK ⟨_, _, _, _, 0⟩ (by assumption) N ⟨rfl, rfl, rfl, rfl, trivial⟩ trivial
  rintro ⟨k2, t1, t2, t3, t4⟩ u h₂ tk₂ - F N
  dsimp only at F N ⊢
  refine cut (ι := Tok) (h₀ := s.heap) (L := L) (fun _ => ell Y f mid = true) (fun i => [("got", .str Y i)]) (fun _ => []) ?_ ?_
  · intro K hK hRet
    refine For_invV s.heap rfl rfl ?_
    repeat (first | (fail_if_success (with_reducible show wpAny _ _ (pyIter _) _ _ _)); walk1)
    (try dsimp only)
    rename News _ _ _ _ => N
    rename Fr _ _ _ _ => F
    refine iter_listN (items := (ys ++ [Value.str Str.empty te]).toArray) (k := k2) (fun i m news => ∃ (q : Int) (t1 t2 t3 : Tok), news = [] ∧ ell Y f mid = findAll Y (xl.drop i) q ∧ 0 ≤ q ∧ q ≤ Y.length ∧ Know m [("got", .str Y t1), ("startpos", .int q t2), ("endpos", .int (Y.length : Nat) t3)]) rfl F N News.nil
      ⟨st, t1, t2, t3, rfl, hell, hst0, hst1, ⟨rfl, rfl, rfl, trivial⟩⟩ ?_ ?_
    · rintro i v m₁ news₁ h tk I oI hi hv ⟨q, t1, t2, t3, rfl, he, hq0, hq1, kn⟩ hoff F N hcI
      refine veil ?_
      intro KT hT
      rw [know kn] at F
      obtain ⟨x, tx, rfl, hx⟩ := hsa.item i v (by simpa using hv)
      have hix : i < xl.length := by rw [← hsa.len_eq]; simpa using hi
      have hxx : xl[i] = x := by rw [List.getElem?_eq_getElem hix] at hx; exact Option.some.inj hx
      have hxlen : x.length ≤ 1000 := hxll x (by rw [← hxx]; exact List.getElem_mem hix)
      rw [List.drop_eq_getElem_cons hix, hxx, findAll] at he
      have hle := find3_le Y x q
      dsimp only at F N ⊢
      k_steps
      all_goals (try dsimp only)
      · refine hT _ _ ?_
        refine hRet _ _ (by nofun) (hK0 _ _ ?_)
        (try dsimp only)
        refine hQ _ _ _ [] (Fr.keep (by assumption)) Made.nil ?_
        rw [he, if_pos (by assumption)]
      · refine hT _ _ ?_
        refine Turn.intro (by assumption) (by assumption) ?_ ⟨_, _, _, _, rfl, ?_, ?_, ?_, ⟨rfl, rfl, rfl, trivial⟩⟩
        · intro p hp; cases hp
        · rw [he, if_neg (by assumption)]
        · omega
        · omega
    · rintro m₁ news₁ h tk ⟨q, t1, t2, t3, rfl, he, hq0, hq1, kn⟩ F N
      rw [List.drop_of_length_le (by rw [← hsa.len_eq]; simp)] at he
      exact hK _ F N ⟨kn.1, trivial⟩ he
  rintro t1 u h₂ tk₂ he F N
  dsimp only at F N ⊢
  k_steps
  all_goals (try dsimp only)
  refine hK0 _ _ ?_
  (try dsimp only)
  refine hQ _ _ _ [] (Fr.keep (by assumption)) Made.nil ?_
  rw [he]
end
end

section
open PySem PySem.W PyProof.Rows PySem.Calls PySem.Spec
theorem top_F11 : True := by
  w_top off
  trivial
section
variable {prog : Program} {w : World} {p : Program} {loose : List Str} {mean : ExcName → Option Value} {mg mb : Str → Option Value}
theorem does_within (a : Addr) (vs : List Value) (ka : Nat) (ws : List (List Nat)) (W : List Nat) (tW : Tok) (hvs : StrsAre vs (ws.map sx)) (hw : ∀ w ∈ ws, w ∈ shwords ∧ w.length ≤ W.length ∧ alike w W = true) (hW : isWord W = true) (hwl : ws.length ≤ 1000) :
    Does prog w (hd.heap_39 w.params) p loose mean mg mb 12 125 [.ref a, .str (sx W) tW] (fun h => h.get? a = some { cls := .type "list", data := .seq vs.toArray ka })
      (fun _ v => v = .bool (ws.any (fun w => fits w W))) := by
  intro A₀ s Q E hR XX T hpa hQ
  obtain ⟨dp, fr, gd, un, rfl, hdp, hun⟩ := hR.open
  refine wpAny_call ?_
  k_dflt (refine' enter ?k1 ?k2 ?k3 ?k6 ?k7 ?k9 ?kB ?c5 ?c2 ?c3 ?c4 ?_; (case k1 => assumption); (case k2 => assumption); (case k6 => k_is); (case k7 => k_is); (case k9 => exact BindsTo.of_eq rfl); (case kB => exact locs rfl); (case c2 => exact rfl); (case c3 => exact rfl); (case c4 => exact rfl); (case c5 => decide))
  · (dsimp only); omega
  intro L h₁ tk F N
  refine veil2 ?_
  intro K0 X0 hK0 _
  have hvl : vs.length = ws.length := by have := hvs.len_eq; rw [List.length_map] at this; exact this
  obtain ⟨hW6, hWs⟩ := isWord_sigma hW
  have hlW : (sx W).length = W.length := sx_len W
  refine cut (ι := Unit) (h₀ := s.heap) (L := L) (fun _ => ws.any (fun w => fits w W) = false) (fun _ => []) (fun _ => []) ?_ ?_
  · intro K hK hRet
    refine For_invV s.heap rfl rfl ?_
    repeat (first | (fail_if_success (with_reducible show wpAny _ _ (pyIter _) _ _ _)); walk1)
    (try dsimp only)
    refine iter_listB (items := vs.toArray) (fun i m news => ∃ (t : Tok), news = [] ∧ (ws.take i).any (fun w => fits w W) = false ∧ Know m [("words", .ref a), ("whole", .str (sx W) t)]) rfl ⟨_, hpa, rfl, _, rfl⟩ (by assumption) (by assumption) ⟨_, rfl, rfl, ⟨rfl, rfl, trivial⟩⟩ ?_ ?_
    · rintro i v m₁ news₁ h tk I oI hi hv ⟨t1, rfl, hany, kn⟩ hoff F N hcI
      refine veil ?_
      intro KT hT
      rw [know kn] at F
      dsimp only at F N ⊢
      have hv' : vs[i]? = some v := by simpa using hv
      obtain ⟨c, tc, rfl, hci⟩ := strs_at hvs hv'
      obtain ⟨hcs, hcl, hal⟩ := hw c (List.mem_of_getElem? hci)
      have hlc : (sx c).length = c.length := sx_len c
      refine cut (ι := Tok × Tok × Tok × Tok) (h₀ := s.heap) (L := L) (fun _ => True) (fun j => [("words", .ref a), ("whole", .str (sx W) j.1), ("word", .str (sx c) j.2.1), ("gap", .int (gapOf c W) j.2.2.1)])
        (fun _ => [(I, oI)]) ?_ ?_
      · intro K hK hRet
        k_steps
        (try dsimp only)
        rw [hlW, hlc] at *
        exact hK ⟨_, _, _, 0⟩ (by assumption) (by assumption) ⟨rfl, rfl, rfl, rfl, trivial⟩ trivial
      rintro ⟨t1, t2, t3, t4⟩ u h₂ tk₂ - F N
      dsimp only at F N ⊢
      obtain ⟨pf1, pf2, pf3, pf5, pf6, pf7, pf4⟩ := patt_facts c hcs
      have hc6 : c.length ≤ 6 := Nat.le_trans hcl hW6
      refine cut (ι := Tok × Tok × Tok) (h₀ := s.heap) (L := L) (fun _ => True) (fun j => [("words", .ref a), ("whole", .str (sx W) j.1), ("word", .str (sx c) j.2.1), ("gap", .int (gapOf c W) j.2.2), ("fits", .bool (fits c W))])
        (fun _ => [(I, oI)]) ?_ ?_
      · intro K hK hRet
        repeat (first | (fail_if_success (with_reducible show wpAny _ _ (call (Value.builtin "str.join") _) _ _ _)); walk1)
        (try dsimp only)
        rename CarriedAll _ _ => hcar
        rename Heap.IsList _ _ _ => hil
        have hst := StrsAre.of_carried hcar
        rw [signs_sx] at hst
        refine join_listW hil (by simpa using hst) (by decide +kernel) (by rw [ones_sum, List.length_map]; omega) ?_
        intro t5 k5
        (try dsimp only)
        have hjl : (Txt.join (Str.ofString "...") (c.map fun k => sx [k])).length ≤ 30 := by
          have h1 := len_join_signs (Str.ofString "...") (sx c)
          rw [signs_sx, sx_len, show (Str.ofString "...").length = 3 from by decide +kernel] at h1
          rw [h1]
          split <;> omega
        clear hst hcar
        generalize Txt.join (Str.ofString "...") (c.map fun k => sx [k]) = jn at *
        repeat (first | (fail_if_success (with_reducible show wpAny _ _ (call (Value.ref _) _) _ _ _)); walk1)
        (try dsimp only)
        rename News _ _ _ _ => N
        rename Fr _ _ _ _ => F
        rw [pf4]
        refine Does.use0 (does_ell (patt c) (sx W) Str.empty (midOf c) _ _ pf5 (by rw [hlW]; omega) pf6 (by decide +kernel) pf7 pf2 pf1) ((Room.deeper hR).mono (by decide)) F N XX T trivial ?_
        clear F N
        rintro v h' tk' tl F N rfl
        (try dsimp only)
        repeat (first | (fail_if_success (with_reducible show wpAny _ _ (execs (Stmt.If _ _ _ _ :: _) _) _ _ _)); walk1)
        (try dsimp only)
        rename News _ _ _ _ => N
        rename Fr _ _ _ _ => F
        exact hK ⟨_, _, _⟩ F N ⟨rfl, rfl, rfl, rfl, rfl, trivial⟩ trivial

      clear pf1 pf2 pf5 pf6 pf7 pf4
      rintro ⟨t1, t2, t3⟩ u h₂ tk₂ - F N
      dsimp only at F N ⊢
      obtain ⟨_, hcsg⟩ := isWord_sigma pf3
      have hgap : 0 ≤ gapOf c W ∧ gapOf c W ≤ 1000 := by unfold gapOf; omega
      have hlev : (fun (r : Value) => ∃ t, r = .int (lev c W (gapOf c W)) t) = (fun (r : Value) => ∃ t, r = .int (lev c W (gapOf c W)) t) := rfl
      have hal2 : fits c W = decide (lev c W (gapOf c W) = gapOf c W) := by simpa [alike] using hal
      have D96 := fun (t u v : Tok) => does_lev (prog := prog) (w := w) (p := p) (loose := loose) (mean := mean) (mg := mg) (mb := mb) c W t u (gapOf c W) v (by omega) (by omega) hgap hcsg hWs
      have hstep : (ws.take (i + 1)).any (fun w => fits w W) = fits c W := by
        rw [List.take_add_one, hci, List.any_append, hany]; simp
      have hfull : fits c W = true → ws.any (fun w => fits w W) = true := fun h => List.any_eq_true.mpr ⟨c, List.mem_of_getElem? hci, h⟩
      generalize lev c W (gapOf c W) = lv at *
      generalize gapOf c W = gg at *
      generalize fits c W = fb at *
      repeat (first | (fail_if_success (with_reducible show wpAny _ _ (call (Value.ref _) _) _ _ _)); walk1)
      rename News _ _ _ _ => N
      rename Fr _ _ _ _ => F
      refine Does.use0 (D96 _ _ _) ((Room.deeper hR).mono (by decide)) F N XX T trivial ?_
      clear F N D96
      rintro v h' tk' tl F N ⟨t6, rfl⟩
      (try dsimp only)
      by_cases he : lv = gg
      · rw [decide_eq_true he] at hal2
        subst hal2
        k_steps
        · exfalso
          rename (_ != _) = true => hne
          rw [he] at hne
          simp at hne
        rename Fr _ _ _ _ => F
        refine hT _ _ ?_
        refine hRet _ _ (by nofun) (hK0 _ _ ?_)
        (try dsimp only)
        exact hQ _ _ _ [] F.keep Made.nil (by rw [hfull rfl])
      · rw [decide_eq_false he] at hal2
        subst hal2
        k_steps
        · exfalso
          rename (_ != _) = true => hne
          simp [he] at hne
        rename News _ _ _ _ => N
        rename Fr _ _ _ _ => F
        refine hT _ _ ?_
        exact Turn.intro F N (fun q hq => nomatch hq) ⟨_, rfl, hstep, ⟨rfl, rfl, trivial⟩⟩
    · rintro m₁ news₁ h tk ⟨t1, rfl, hany, kn⟩ F N
      refine hK () F N trivial ?_
      rw [List.take_of_length_le (by rw [List.size_toArray]; omega)] at hany
      exact hany
  rintro - u h₂ tk₂ hany F N
  rw [hany] at hQ
  k_steps
  (try dsimp only)
  rename News _ _ _ _ => N
  rename Fr _ _ _ _ => F
  refine hK0 _ _ ?_
  (try dsimp only)
  exact hQ _ _ _ [] F.keep Made.nil rfl
end
end

section
open PySem PySem.W PyProof.Rows PySem.Calls PySem.Spec
theorem turn_two0 (elt t0 i0 t1 i1 c : PySem.Expr) (scope : Scope) (pos : Pos) (it acc : Value) (env : Env) :
    compTurn (.ListComp elt [⟨t0, i0, [], 0⟩, ⟨t1, i1, [c], 0⟩] scope pos) 0 it acc env = (do
      standAt i0.pos
      match ← pyNext it with
      | none => pure (.done .next)
      | some v =>
        letOwnedTupleGo t0 it v
        assign t0 env v
        let x ← eval i1 env
        standAt i1.pos
        let x ← foldedSetIterable i1 env x
        let _ ← runOwn (.compStart (.ListComp elt [⟨t0, i0, [], 0⟩, ⟨t1, i1, [c], 0⟩] scope pos) 1 (← holding [x] (pyIter x)) acc env) env
        again (.compLoop (.ListComp elt [⟨t0, i0, [], 0⟩, ⟨t1, i1, [c], 0⟩] scope pos) 0 it acc env)) := by rfl
theorem turn_two1 (elt t0 i0 t1 i1 c : PySem.Expr) (scope : Scope) (pos : Pos) (it acc : Value) (env : Env) :
    compTurn (.ListComp elt [⟨t0, i0, [], 0⟩, ⟨t1, i1, [c], 0⟩] scope pos) 1 it acc env = (do
      standAt i1.pos
      match ← pyNext it with
      | none => pure (.done .next)
      | some v =>
        letOwnedTupleGo t1 it v
        assign t1 env v
        let mut ok := true
        for c in [c] do
          if ok then ok ← isTrue c env (eval c env)
        if ok then
          (do let _ ← call (.builtin "list.append") [acc, ← eval elt env])
        again (.compLoop (.ListComp elt [⟨t0, i0, [], 0⟩, ⟨t1, i1, [c], 0⟩] scope pos) 1 it acc env)) := by rfl
section
variable {prog : Program} {w : World} {A : Around} {R : Result → Shared → Prop} {s : Shared} {elt t0 i0 t1 i1 c : PySem.Expr} {scope : Scope} {pos : Pos}
def Nay (_ : Value) (_ : Shared) : Prop := False
/-- a turn of the outer clause -/
def Body0 (prog : Program) (w : World) (A : Around) (elt t0 i0 t1 i1 c : PySem.Expr) (scope : Scope) (pos : Pos) (acc : Value) (env : Env) (v : Value) (K : Shared → Prop) (s : Shared) : Prop :=
  wpAny (model prog w) A (assign t0 env v) (fun _ s₂ => wpAny (model prog w) A (eval i1 env) (fun x s₃ => wpAny (model prog w) A (pyIter x) (fun it1 s₄ =>
    codeAny (model prog w) A (.compStart (.ListComp elt [⟨t0, i0, [], 0⟩, ⟨t1, i1, [c], 0⟩] scope pos) 1 it1 acc env) (fun r s₅ => match r with | .ok _ => K s₅ | .error _ => False) s₄) (fun _ _ => False) s₃) (fun _ _ => False) s₂) (fun _ _ => False) s
/-- a turn of the inner clause -/
def Body1 (prog : Program) (w : World) (A : Around) (elt t1 c : PySem.Expr) (acc : Value) (env : Env) (v : Value) (K : Shared → Prop) (s : Shared) : Prop :=
  wpAny (model prog w) A (assign t1 env v) (fun _ s₂ => wpAny (model prog w) A (isTrue c env (eval c env)) (fun ok s₃ =>
    if ok = true then wpAny (model prog w) A (eval elt env) (fun x s₄ => wpAny (model prog w) A (call (.builtin "list.append") [acc, x]) (fun _ s₅ => K s₅) (fun _ _ => False) s₄) (fun _ _ => False) s₃
    else K s₃) (fun _ _ => False) s₂) (fun _ _ => False) s
theorem Body0.mono {acc : Value} {env : Env} {v : Value} {K K' : Shared → Prop} (h : Body0 prog w A elt t0 i0 t1 i1 c scope pos acc env v K s) (hk : ∀ s, K s → K' s) : Body0 prog w A elt t0 i0 t1 i1 c scope pos acc env v K' s := by
  unfold Body0 at h ⊢
  refine wpAny_mono h (fun _ _ h => wpAny_mono h (fun _ _ h => wpAny_mono h (fun _ _ h => codeAny_mono h fun r s h => ?_) fun _ _ x => x) fun _ _ x => x) fun _ _ x => x
  cases r with
  | ok _ => exact hk _ h
  | error _ => exact h
theorem Body1.mono {acc : Value} {env : Env} {v : Value} {K K' : Shared → Prop} (h : Body1 prog w A elt t1 c acc env v K s) (hk : ∀ s, K s → K' s) : Body1 prog w A elt t1 c acc env v K' s := by
  unfold Body1 at h ⊢
  refine wpAny_mono h (fun _ _ h => wpAny_mono h (fun ok _ h => ?_) fun _ _ x => x) fun _ _ x => x
  split at h
  · rename_i e; rw [if_pos e]; exact wpAny_mono h (fun _ _ h => wpAny_mono h (fun _ _ h => hk _ h) fun _ _ x => x) fun _ _ x => x
  · rename_i e; rw [if_neg e]; exact hk _ h
theorem loop_two0 {it acc : Value} {env : Env} (I : Nat → Shared → Prop)
    (turn : ∀ n s, I n s → wpAny (model prog w) A (pyNext it) (fun r s₁ => match r with
      | none => R (.ok .next) s₁
      | some v => Body0 prog w A elt t0 i0 t1 i1 c scope pos acc env v (fun s' => ∃ m, m < n ∧ I m s') s₁) (fun _ _ => False) s)
    (n : Nat) (h : I n s) (ht : ∀ v, letOwnedTupleGo t0 it v = pure () := by intro _; rfl) (hs : ∀ x, foldedSetIterable i1 env x = pure x := by intro _; rfl) :
    codeAny (model prog w) A (.compLoop (.ListComp elt [⟨t0, i0, [], 0⟩, ⟨t1, i1, [c], 0⟩] scope pos) 0 it acc env) R s := by
  refine codeAny_loop rfl I (fun n s hI => ?_) n h
  show wpAny _ A ((compTurn (.ListComp elt [⟨t0, i0, [], 0⟩, ⟨t1, i1, [c], 0⟩] scope pos) 0 it acc env).onRaise (fun x => do noteFrame x env; theTreesLotGoes x)) _ _ s
  refine wpAny_noted (wpAny_noRaise ?_)
  rw [turn_two0]
  refine wpAny_bind (wpAny_standAt (wpAny_bind (wpAny_mono (turn n s hI) (fun r s₁ h₁ => ?_) fun _ _ h' => h')))
  cases r with
  | none => exact wpAny_pure h₁
  | some v =>
    refine wpAny_bind (wpAny_of_eq (ht v) ?_)
    unfold Body0 at h₁
    refine wpAny_bind (wpAny_mono h₁ (fun _ s₂ h₂ => wpAny_bind (wpAny_mono h₂ (fun x s₃ h₃ => wpAny_bind (wpAny_standAt (wpAny_bind (wpAny_of_eq (hs x) (wpAny_bind (wpAny_holding (wpAny_mono h₃ (fun it1 s₄ h₄ => ?_) fun _ _ h' => h'))))))) fun _ _ h' => h')) fun _ _ h' => h')
    refine wpAny_bind (wpAny_runOwn (codeAny_mono h₄ fun r s₅ h₅ => ?_))
    cases r with
    | ok f => exact wpAny_pure ⟨rfl, h₅⟩
    | error e => exact h₅.elim
theorem loop_two1 {it acc : Value} {env : Env} (I : Nat → Shared → Prop)
    (turn : ∀ n s, I n s → wpAny (model prog w) A (pyNext it) (fun r s₁ => match r with
      | none => R (.ok .next) s₁
      | some v => Body1 prog w A elt t1 c acc env v (fun s' => ∃ m, m < n ∧ I m s') s₁) (fun _ _ => False) s)
    (n : Nat) (h : I n s) (ht : ∀ v, letOwnedTupleGo t1 it v = pure () := by intro _; rfl) :
    codeAny (model prog w) A (.compLoop (.ListComp elt [⟨t0, i0, [], 0⟩, ⟨t1, i1, [c], 0⟩] scope pos) 1 it acc env) R s := by
  refine codeAny_loop rfl I (fun n s hI => ?_) n h
  show wpAny _ A ((compTurn (.ListComp elt [⟨t0, i0, [], 0⟩, ⟨t1, i1, [c], 0⟩] scope pos) 1 it acc env).onRaise (fun x => do noteFrame x env; theTreesLotGoes x)) _ _ s
  refine wpAny_noted (wpAny_noRaise ?_)
  rw [turn_two1]
  refine wpAny_bind (wpAny_standAt (wpAny_bind (wpAny_mono (turn n s hI) (fun r s₁ h₁ => ?_) fun _ _ h' => h')))
  cases r with
  | none => exact wpAny_pure h₁
  | some v =>
    refine wpAny_bind (wpAny_of_eq (ht v) ?_)
    unfold Body1 at h₁
    refine wpAny_bind (wpAny_mono h₁ (fun _ s₂ h₂ => wpAny_bind (wpAny_tests_one (wpAny_mono h₂ (fun ok s₃ h₃ => ?_) fun _ _ h' => h'))) fun _ _ h' => h')
    cases ok with
    | false => exact wpAny_pure ⟨rfl, h₃⟩
    | true =>
      exact wpAny_bind (wpAny_bind (wpAny_mono h₃ (fun x s₄ h₄ => wpAny_bind (wpAny_mono h₄ (fun _ s₅ h₅ => wpAny_pure (wpAny_pure ⟨rfl, h₅⟩)) fun _ _ h' => h')) fun _ _ h' => h'))
theorem start_two1 {it acc : Value} {env : Env}
    (h0 : codeAny (model prog w) A (.compLoop (.ListComp elt [⟨t0, i0, [], 0⟩, ⟨t1, i1, [c], 0⟩] scope pos) 1 it acc env) R s)
    (h : wpAny (model prog w) A (pyIter it) (fun it' s' => codeAny (model prog w) A (.compLoop (.ListComp elt [⟨t0, i0, [], 0⟩, ⟨t1, i1, [c], 0⟩] scope pos) 1 it' acc env) R s') (fun _ _ => False) s) :
    codeAny (model prog w) A (.compStart (.ListComp elt [⟨t0, i0, [], 0⟩, ⟨t1, i1, [c], 0⟩] scope pos) 1 it acc env) R s := by
  refine codeAny_of_tree ?_
  show wpAny _ _ ((compStart (.ListComp elt [⟨t0, i0, [], 0⟩, ⟨t1, i1, [c], 0⟩] scope pos) 1 it acc env).onRaise (fun x => do noteFrame x env; standAt theWindowsPlace)) _ _ s
  refine wpAny_notedAt (wpAny_noRaise ?_)
  unfold compStart
  show wpAny _ _ (ask >>= _) _ _ s
  refine wpAny_bind (wpAny_askSetting (wpAny_ite ?_))
  split
  · first
      | exact wpAny_bind (wpAny_pure (wpAny_pure (And.intro rfl h0)))
      | exact wpAny_pure (And.intro rfl h0)
  · first
      | exact wpAny_bind (wpAny_rule (wpAny_bind (wpAny_standAt (wpAny_bind (wpAny_mono h (fun it' s' h' => wpAny_pure (And.intro rfl h')) fun _ _ x => x)))))
      | (refine wpAny_bind (wpAny_rule ?_); show wpAny _ _ (standAt i1.pos >>= _) _ _ s; exact wpAny_bind (wpAny_standAt (wpAny_bind (wpAny_mono h (fun it' s' h' => wpAny_pure (And.intro rfl h')) fun _ _ x => x))))
/-- what a turn of either clause must come to -/
def CEnd (h₀ : Heap) (C I : Addr) (oI : Obj) (J : (Str → Option Value) → List (Addr × Obj) → Prop) (s : Shared) (s' : Shared) : Prop :=
  ∃ h' tk m' nx, s' = { s with heap := h', toks := tk } ∧ Fr h₀ C h' m' ∧ News h₀ C h' ((I, oI) :: nx) ∧ (∀ p ∈ nx, p.1 ≠ I) ∧ J m' nx
theorem CEnd.intro {h₀ : Heap} {C I : Addr} {oI : Obj} {J : (Str → Option Value) → List (Addr × Obj) → Prop} {s : Shared} {h' : Heap} {tk : Nat} {m' : Str → Option Value} {nx : List (Addr × Obj)}
    (F : Fr h₀ C h' m') (N : News h₀ C h' ((I, oI) :: nx)) (hne : ∀ p ∈ nx, p.1 ≠ I) (hj : J m' nx) : CEnd h₀ C I oI J s { s with heap := h', toks := tk } := ⟨h', tk, m', nx, rfl, F, N, hne, hj⟩
theorem comp_range {code : Code} {Body : Value → (Shared → Prop) → Shared → Prop} {h₀ : Heap} {C I : Addr} {a k : Int} {n : Nat} {m₀ : Str → Option Value} {news : List (Addr × Obj)} {oI : Obj}
    (loop : ∀ (In : Nat → Shared → Prop), (∀ n s, In n s → wpAny (model prog w) A (pyNext (.ref I)) (fun r s₁ => match r with | none => R (.ok .next) s₁ | some v => Body v (fun s' => ∃ m, m < n ∧ In m s') s₁) (fun _ _ => False) s) →
      ∀ n, In n s → codeAny (model prog w) A code R s)
    (mono : ∀ v (K K' : Shared → Prop) s, Body v K s → (∀ s, K s → K' s) → Body v K' s)
    (J : Nat → (Str → Option Value) → List (Addr × Obj) → Prop) (hh : A.handled = none) (hst : IsRangeIter s.heap I a n k) (F : Fr h₀ C s.heap m₀) (N : News h₀ C s.heap ((I, oI) :: news)) (hne : ∀ p ∈ news, p.1 ≠ I) (hj : J 0 m₀ news)
    (turn : ∀ i t m₁ news₁ h tk oI, i < n → J i m₁ news₁ → (∀ p ∈ news₁, p.1 ≠ I) → Fr h₀ C h m₁ → News h₀ C h ((I, oI) :: news₁) → oI.cls = .type "range_iterator" →
      Body (.int (a + (i : Nat) * k) t) (CEnd h₀ C I oI (J (i + 1)) { s with heap := h, toks := tk }) { s with heap := h, toks := tk })
    (done : ∀ m₁ news₁ h tk, J n m₁ news₁ → Fr h₀ C h m₁ → News h₀ C h news₁ → R (.ok .next) { s with heap := h, toks := tk }) :
    codeAny (model prog w) A code R s := by
  have W := Walks.range (prog := prog) (w := w) hh I a k n
  have hI0 : h₀.get? I = none := (N _ (.head _)).2.2
  have hIC : C ≠ I := Ne.symm (N _ (.head _)).2.1
  refine loop (fun q s' => ∃ h tk m₁ news₁ oI i, s' = { s with heap := h, toks := tk } ∧ i ≤ n ∧ q = n - i ∧ IsRangeIter h I (a + (i : Nat) * k) ((n : Int) - (i : Nat)) k ∧ Fr h₀ C h m₁ ∧ News h₀ C h ((I, oI) :: news₁) ∧ (∀ p ∈ news₁, p.1 ≠ I) ∧ oI.cls = .type "range_iterator" ∧ J i m₁ news₁) ?_ n ?_
  · rintro q s' ⟨h, tk, m₁, news₁, oI, i, rfl, hi, rfl, st, F₁, N₁, hne₁, hc, hJ⟩
    have after : ∀ h', (∀ b o, b ∉ [I] → h.get? b = some o → h'.get? b = some o) → Fr h₀ C h' m₁ ∧ News h₀ C h' news₁ := fun h' hk => by
      refine ⟨⟨F₁.ns.at' fun o e => hk _ o (fun hm => hIC (List.mem_singleton.mp hm)) e, fun b o e => hk b o (fun hm => ?_) (F₁.keep b o e), F₁.above⟩, fun p hp => ⟨hk _ _ (fun hm => hne₁ p hp (List.mem_singleton.mp hm)) (N₁ p (.tail _ hp)).1, (N₁ p (.tail _ hp)).2⟩⟩
      rw [List.mem_singleton.mp hm, hI0] at e; cases e
    by_cases hlt : i < n
    · refine W.item i _ _ _ hlt st fun v h' tk' hP st' hk => ?_
      obtain ⟨t, rfl⟩ := hP
      obtain ⟨F₂, N₂⟩ := after h' hk
      obtain ⟨oI', hoI', hcI', hbk⟩ : ∃ o, h'.get? I = some o ∧ o.cls = .type "range_iterator" ∧ ∀ h₄ : Heap, h₄.get? I = some o → IsRangeIter h₄ I (a + ((i + 1 : Nat) : Int) * k) ((n : Int) - ((i + 1 : Nat) : Int)) k := ⟨_, st', rfl, fun _ e => e⟩
      have N₃ : News h₀ C h' ((I, oI') :: news₁) := fun p hp => by
        rcases List.mem_cons.mp hp with e | hp
        · rw [e]; exact ⟨hoI', (N₁ _ (.head _)).2⟩
        · exact N₂ p hp
      refine mono _ _ _ _ (turn i t m₁ news₁ h' tk' oI' hlt hJ hne₁ F₂ N₃ hcI') ?_
      rintro s' ⟨h₄, tk₄, m₄, nx, rfl, F₄, N₄, hne₄, hJ₄⟩
      have st₄ := hbk h₄ (N₄ _ (.head _)).1
      exact ⟨n - (i + 1), by omega, h₄, tk₄, m₄, nx, oI', i + 1, rfl, hlt, rfl, st₄, F₄, N₄, hne₄, hcI', hJ₄⟩
    · have : i = n := by omega
      subst this
      refine W.done _ _ _ st fun h' tk' hk => ?_
      obtain ⟨F₂, N₂⟩ := after h' hk
      exact done _ _ _ _ hJ F₂ N₂
  · exact ⟨s.heap, s.toks, m₀, news, oI, 0, rfl, Nat.zero_le _, rfl, by simpa using hst, F, N, hne, by
      have h1 := (N _ (.head _)).1
      have h2 : s.heap.get? I = _ := hst
      rw [h2] at h1
      have e := Option.some.inj h1
      have e : _ = oI := e
      rw [← e], hj⟩
end
section
variable {prog : Program} {w : World} {A : Around} {E : Value → Shared → Prop} {env : Env} {elt t0 i0 t1 i1 c : PySem.Expr} {scope : Scope} {pos : Pos}
theorem two_block {s₂ : Shared} {cl : List (Str × Addr)} {h₀ : Heap} {L I : Addr} {a k : Int} {n : Nat} {m : Str → Option Value} {news : List (Addr × Obj)} {oI oL : Obj} {Q : Value → Shared → Prop} (PP : Addr → Array Value → List (Addr × Obj) → Prop)
    (hcell : ∀ y ∈ scope.names, y.2 ≠ .cell) (hkind : scope.kind = .function) (hh : A.handled = none) (hst : IsRangeIter s₂.heap I a n k)
    (F : Fr h₀ L s₂.heap m) (N : News h₀ L s₂.heap ((I, oI) :: news)) (hL : s₂.heap.get? L = some oL)
    (run : ∀ D C h₁ tk, Fr h₀ C h₁ (fun _ => none) → IsRangeIter h₁ I a n k → News h₀ C h₁ ((I, oI) :: (D, ({ cls := .type "list", data := .seq ([] : List Value).toArray 0 } : Obj)) :: (L, oL) :: news) → (∀ p ∈ (I, oI) :: (L, oL) :: news, @LT.lt Nat _ p.1 D) → @LT.lt Nat _ D C →
      codeAny (model prog w) A (.compLoop (.ListComp elt [⟨t0, i0, [], 0⟩, ⟨t1, i1, [c], 0⟩] scope pos) 0 (.ref I) (.ref D) (compEnvC scope cl C env))
        (fun r s' => match r with
          | .ok _ => ∃ h' tk' m' ys q els, s' = { s₂ with heap := h', toks := tk' } ∧ Fr h₀ C h' m' ∧ News h₀ C h' ((D, ({ cls := .type "list", data := .seq ys q } : Obj)) :: (els ++ (L, oL) :: news)) ∧ (∀ p ∈ els, p.1 ≠ L) ∧ PP D ys els
          | .error _ => False) { s₂ with heap := h₁, toks := tk })
    (fin : ∀ D h' tk ys q els, (∀ p ∈ (I, oI) :: (L, oL) :: news, @LT.lt Nat _ p.1 D) → Fr h₀ L h' m → News h₀ L h' ((D, ({ cls := .type "list", data := .seq ys q } : Obj)) :: (els ++ news)) → PP D ys els → Q (.ref D) { s₂ with heap := h', toks := tk }) :
    wpAny (model prog w) A (newList []) (fun acc s₃ => wpAny (model prog w) A (newFunctionEnv scope env.globals cl [] env.qual none .none (some env)) (fun cenv s₄ =>
      codeAny (model prog w) A (.compStart (.ListComp elt [⟨t0, i0, [], 0⟩, ⟨t1, i1, [c], 0⟩] scope pos) 0 (.ref I) acc { cenv with scope := relabel scope env }) (compPost (model prog w) A E none Q acc cenv.locals) s₄) E s₃) E s₂ := by
  refine wpAny_newObj_type (wpAny_newFunctionEnv hcell (by intro y hy; simp at hy) (fun h₁ hns₁ hsb₁ => ?_) hkind)
  dsimp only at hns₁ hsb₁ ⊢
  generalize hH2 : s₂.heap.push { cls := .type "list", dict := none, data := .seq ([] : List Value).toArray } = H2 at hns₁ hsb₁ ⊢
  have hC : H2.objs.size = s₂.heap.objs.size + 1 := by rw [← hH2, Heap.size_push]
  have hDC : s₂.heap.objs.size ≠ H2.objs.size := by rw [hC]; exact Nat.ne_of_lt (Nat.lt_succ_self _)
  have below : ∀ b, b < s₂.heap.objs.size → b ≠ H2.objs.size ∧ b ≠ s₂.heap.objs.size := fun b hb => ⟨by rw [hC]; exact Nat.ne_of_lt (Nat.lt_succ_of_lt hb), Nat.ne_of_lt hb⟩
  have old : ∀ b o, s₂.heap.get? b = some o → h₁.get? b = some o := fun b o e => hsb₁.extBut b o (below b (Heap.lt_size e)).1 (Heap.get?_push_of_some _ (hH2 ▸ Heap.get?_push_of_some _ e))
  have hacc : h₁.get? s₂.heap.objs.size = some ({ cls := .type "list", data := .seq ([] : List Value).toArray 0 } : Obj) := hsb₁.extBut _ _ hDC (Heap.get?_push_of_some _ (hH2 ▸ Heap.get?_push_size _ rfl))
  have hW := Walks.range (prog := prog) (w := w) hh I a k n
  have hst0 : IsRangeIter s₂.heap I (a + ((0 : Nat) : Int) * k) ((n : Int) - ((0 : Nat) : Int)) k := by simpa using hst
  have hst₁' : IsRangeIter h₁ I (a + ((0 : Nat) : Int) * k) ((n : Int) - ((0 : Nat) : Int)) k := hW.frame _ _ _ hst0 fun b _ o e => old b o e
  have hst₁ : IsRangeIter h₁ I a n k := by simpa using hst₁'
  have hLD : @LT.lt Nat _ L s₂.heap.objs.size := F.ns.lt
  have hab : @LE.le Nat _ h₀.objs.size L := F.above
  have fresh : ∀ b, @LE.le Nat _ h₀.objs.size b → h₀.get? b = none := fun b hb => by
    cases e : h₀.get? b with
    | none => rfl
    | some o => exact absurd (Heap.lt_size e) (Nat.not_lt.mpr hb)
  have F₁ : Fr h₀ H2.objs.size h₁ (fun _ => none) := ⟨hns₁, fun b o e => old b o (F.keep b o e), by rw [hC]; exact Nat.le_succ_of_le (Nat.le_trans F.above (Nat.le_of_lt F.ns.lt))⟩
  have N₁ : News h₀ H2.objs.size h₁ ((I, oI) :: (s₂.heap.objs.size, ({ cls := .type "list", data := .seq ([] : List Value).toArray 0 } : Obj)) :: (L, oL) :: news) := by
    have one : ∀ p ∈ (I, oI) :: news, h₁.get? p.1 = some p.2 ∧ p.1 ≠ H2.objs.size ∧ h₀.get? p.1 = none := fun p hp => ⟨old _ _ (N p hp).1, (below _ (Heap.lt_size (N p hp).1)).1, (N p hp).2.2⟩
    intro p hp
    rcases List.mem_cons.mp hp with e | hp
    · rw [e]; exact one _ (.head _)
    rcases List.mem_cons.mp hp with e | hp
    · rw [e]; exact ⟨hacc, hDC, fresh _ (Nat.le_trans hab (Nat.le_of_lt hLD))⟩
    rcases List.mem_cons.mp hp with e | hp
    · rw [e]; exact ⟨old _ _ hL, (below _ hLD).1, fresh _ hab⟩
    · exact one _ (.tail _ hp)
  have hlt : ∀ p ∈ (I, oI) :: (L, oL) :: news, @LT.lt Nat _ p.1 s₂.heap.objs.size := by
    intro p hp
    rcases List.mem_cons.mp hp with e | hp
    · rw [e]; exact Heap.lt_size (N _ (.head _)).1
    rcases List.mem_cons.mp hp with e | hp
    · rw [e]; exact hLD
    · exact Heap.lt_size (N _ (.tail _ hp)).1
  have go := run s₂.heap.objs.size H2.objs.size h₁ (s₂.toks + ([] : List (Str × Value)).length) F₁ hst₁ N₁ hlt (by rw [hC]; exact Nat.lt_succ_self _)
  have loop : codeAny (model prog w) A (.compLoop (.ListComp elt [⟨t0, i0, [], 0⟩, ⟨t1, i1, [c], 0⟩] scope pos) 0 (.ref I) (.ref s₂.heap.objs.size) (compEnvC scope cl H2.objs.size env))
      (compPost (model prog w) A E none Q (.ref s₂.heap.objs.size) H2.objs.size) { s₂ with heap := h₁, toks := s₂.toks + ([] : List (Str × Value)).length } := by
    refine codeAny_mono go fun r s' q => ?_
    cases r with
    | error _ => exact q.elim
    | ok _ =>
      obtain ⟨h', tk', m', ys, q, els, rfl, F', N', hels, hpp⟩ := q
      refine ⟨m', F'.ns, fun h'' sb => ?_⟩
      have keep : ∀ p ∈ (s₂.heap.objs.size, ({ cls := .type "list", data := .seq ys q } : Obj)) :: (els ++ (L, oL) :: news), h''.get? p.1 = some p.2 := fun p hp => sb.extBut _ _ (N' p hp).2.1 (N' p hp).1
      have hLin : (L, oL) ∈ (s₂.heap.objs.size, ({ cls := .type "list", data := .seq ys q } : Obj)) :: (els ++ (L, oL) :: news) := .tail _ (List.mem_append_right _ (.head _))
      refine fin _ h'' tk' ys q els hlt ⟨?_, fun b o e => ?_, F.above⟩ ?_ hpp
      · obtain ⟨o, es, ep, ho, r⟩ := F.ns
        rw [hL] at ho
        exact ⟨o, es, ep, by rw [keep _ hLin, ho], r⟩
      · refine sb.extBut b o ?_ (F'.keep b o e)
        rintro rfl
        have h1 := Heap.lt_size e
        have h2 := F'.above
        exact absurd (Nat.lt_of_lt_of_le h1 h2) (Nat.lt_irrefl _)
      · intro p hp
        have hin : p ∈ (s₂.heap.objs.size, ({ cls := .type "list", data := .seq ys q } : Obj)) :: (els ++ (L, oL) :: news) := by
          rcases List.mem_cons.mp hp with e | hp
          · rw [e]; exact .head _
          rcases List.mem_append.mp hp with hp | hp
          · exact .tail _ (List.mem_append_left _ hp)
          · exact .tail _ (List.mem_append_right _ (.tail _ hp))
        refine ⟨keep p hin, ?_, (N' p hin).2.2⟩
        rcases List.mem_cons.mp hp with e | hp
        · rw [e]; exact Ne.symm (Nat.ne_of_lt hLD)
        rcases List.mem_append.mp hp with hp | hp
        · exact hels p hp
        · exact (N p (.tail _ hp)).2.1
  exact codeAny_compStart_list loop (hW.self 0 _ _ _ hst₁' loop)
theorem comp_two {s : Shared} {cl : List (Str × Addr)} {Q : Value → Shared → Prop} (hclos : closureFor scope env = pure cl) (hkind : scope.kind = .function) (hnames : ∀ x ∈ scope.names, x.2 = .local → scope.names.lookup x.1 = some .local)
    (h : wpAny (model prog w) A (eval i0 env) (fun x s₁ => wpAny (model prog w) A (pyIter x) (fun it s₂ => wpAny (model prog w) A (newList []) (fun acc s₃ => wpAny (model prog w) A (newFunctionEnv scope env.globals cl [] env.qual none .none (some env)) (fun cenv s₄ =>
      codeAny (model prog w) A (.compStart (.ListComp elt [⟨t0, i0, [], 0⟩, ⟨t1, i1, [c], 0⟩] scope pos) 0 it acc { cenv with scope := relabel scope env }) (compPost (model prog w) A E none Q acc cenv.locals) s₄) E s₃) E s₂) E s₁) E s)
    (hs : ∀ x, foldedSetIterable i0 env x = pure x := by intro _; rfl) :
    wpAny (model prog w) A (eval (.ListComp elt [⟨t0, i0, [], 0⟩, ⟨t1, i1, [c], 0⟩] scope pos) env) Q E s := by
  rw [eval_ListComp]
  exact wpAny_comprehension_free (use := none) rfl hs hclos hkind hnames h
theorem two_run {s₁ : Shared} {cl : List (Str × Addr)} {h₀ : Heap} {L r : Addr} {a b k : Int} {t u v : Tok} {n : Nat} {m : Str → Option Value} {news : List (Addr × Obj)} {Q : Value → Shared → Prop} (PP : Addr → Array Value → List (Addr × Obj) → Prop)
    (hcell : ∀ y ∈ scope.names, y.2 ≠ .cell) (hkind : scope.kind = .function) (hh : A.handled = none) (hr : IsRange s₁.heap r a b k t u v) (hsmall : Builtin.Range.small a b k = true) (hn : Builtin.Range.rangeSize a b k = (n : Int))
    (F : Fr h₀ L s₁.heap m) (N : News h₀ L s₁.heap news)
    (run : ∀ I oI oL D C h₁ tk, Fr h₀ C h₁ (fun _ => none) → IsRangeIter h₁ I a n k → News h₀ C h₁ ((I, oI) :: (D, ({ cls := .type "list", data := .seq ([] : List Value).toArray 0 } : Obj)) :: (L, oL) :: news) → (∀ p ∈ (I, oI) :: (L, oL) :: news, @LT.lt Nat _ p.1 D) → @LT.lt Nat _ D C → (∀ p ∈ (L, oL) :: news, @LT.lt Nat _ p.1 I) →
      codeAny (model prog w) A (.compLoop (.ListComp elt [⟨t0, i0, [], 0⟩, ⟨t1, i1, [c], 0⟩] scope pos) 0 (.ref I) (.ref D) (compEnvC scope cl C env))
        (fun r s' => match r with
          | .ok _ => ∃ h' tk' m' ys q els, s' = { s₁ with heap := h', toks := tk' } ∧ Fr h₀ C h' m' ∧ News h₀ C h' ((D, ({ cls := .type "list", data := .seq ys q } : Obj)) :: (els ++ (L, oL) :: news)) ∧ (∀ p ∈ els, p.1 ≠ L) ∧ PP D ys els
          | .error _ => False) { s₁ with heap := h₁, toks := tk })
    (fin : ∀ D h' tk ys q els, (∀ p ∈ news, @LT.lt Nat _ p.1 D) → @LT.lt Nat _ L D → Fr h₀ L h' m → News h₀ L h' ((D, ({ cls := .type "list", data := .seq ys q } : Obj)) :: (els ++ news)) → PP D ys els → Q (.ref D) { s₁ with heap := h', toks := tk }) :
    wpAny (model prog w) A (pyIter (.ref r)) (fun it s₂ => wpAny (model prog w) A (newList []) (fun acc s₃ => wpAny (model prog w) A (newFunctionEnv scope env.globals cl [] env.qual none .none (some env)) (fun cenv s₄ =>
      codeAny (model prog w) A (.compStart (.ListComp elt [⟨t0, i0, [], 0⟩, ⟨t1, i1, [c], 0⟩] scope pos) 0 it acc { cenv with scope := relabel scope env }) (compPost (model prog w) A E none Q acc cenv.locals) s₄) E s₃) E s₂) E s₁ := by
  refine wpAny_pyIter_range hr hsmall ?_
  obtain ⟨oL, es, ep, hoL, _⟩ := F.ns
  have N₂ : News h₀ L (s₁.heap.push { cls := .type "range_iterator", data := .fields #[rawInt a, rawInt (Builtin.Range.rangeSize a b k), rawInt k] }) ((s₁.heap.objs.size, ({ cls := .type "range_iterator", data := .fields #[rawInt a, rawInt (Builtin.Range.rangeSize a b k), rawInt k] } : Obj)) :: news) := by
    intro p hp
    rcases List.mem_cons.mp hp with e | hp
    · rw [e]; exact ⟨Heap.get?_push_size _ rfl, Ne.symm (Nat.ne_of_lt F.ns.lt), next_is_new F⟩
    · exact ⟨Heap.get?_push_of_some _ (N p hp).1, (N p hp).2⟩
  refine two_block (a := a) (k := k) (n := n) (oL := oL) PP hcell hkind hh (by show IsRangeIter _ _ _ _ _; rw [hn]; exact Heap.get?_push_size _ rfl) (F.push _) N₂ (Heap.get?_push_of_some _ hoL) ?_ ?_
  · intro D C h₁ tk F₁ st N₁ h1 h2
    refine run s₁.heap.objs.size _ oL D C h₁ tk F₁ st N₁ h1 h2 ?_
    intro p hp
    rcases List.mem_cons.mp hp with e | hp
    · rw [e]; exact F.ns.lt
    · exact Heap.lt_size (N p hp).1
  · intro D h' tk ys q els h1 F' N' hp
    exact fin D h' tk ys q els (fun p hp => h1 p (.tail _ (.tail _ hp))) (h1 (L, oL) (.tail _ (.head _))) F' N' hp
theorem two_inner {s : Shared} {acc : Value} {R : Result → Shared → Prop} {h₀ : Heap} {C r : Addr} {a b k : Int} {t u v : Tok} {n : Nat} {m : Str → Option Value} {news : List (Addr × Obj)}
    (hh : A.handled = none) (hr : IsRange s.heap r a b k t u v) (hsmall : Builtin.Range.small a b k = true) (hn : Builtin.Range.rangeSize a b k = (n : Int)) (F : Fr h₀ C s.heap m) (N : News h₀ C s.heap news)
    (run : ∀ I oI h', Fr h₀ C h' m → IsRangeIter h' I a n k → News h₀ C h' ((I, oI) :: news) → (∀ p ∈ news, @LT.lt Nat _ p.1 I) → @LT.lt Nat _ C I →
      codeAny (model prog w) A (.compLoop (.ListComp elt [⟨t0, i0, [], 0⟩, ⟨t1, i1, [c], 0⟩] scope pos) 1 (.ref I) acc env) R { s with heap := h', toks := s.toks }) :
    wpAny (model prog w) A (pyIter (.ref r)) (fun it s₄ => codeAny (model prog w) A (.compStart (.ListComp elt [⟨t0, i0, [], 0⟩, ⟨t1, i1, [c], 0⟩] scope pos) 1 it acc env) R s₄) E s := by
  refine wpAny_pyIter_range hr hsmall ?_
  have st : IsRangeIter (s.heap.push { cls := .type "range_iterator", data := .fields #[rawInt a, rawInt (Builtin.Range.rangeSize a b k), rawInt k] }) s.heap.objs.size a n k := by
    show IsRangeIter _ _ _ _ _; rw [hn]; exact Heap.get?_push_size _ rfl
  have N₂ : News h₀ C (s.heap.push { cls := .type "range_iterator", data := .fields #[rawInt a, rawInt (Builtin.Range.rangeSize a b k), rawInt k] }) ((s.heap.objs.size, ({ cls := .type "range_iterator", data := .fields #[rawInt a, rawInt (Builtin.Range.rangeSize a b k), rawInt k] } : Obj)) :: news) := by
    intro p hp
    rcases List.mem_cons.mp hp with e | hp
    · rw [e]; exact ⟨Heap.get?_push_size _ rfl, Ne.symm (Nat.ne_of_lt F.ns.lt), next_is_new F⟩
    · exact ⟨Heap.get?_push_of_some _ (N p hp).1, (N p hp).2⟩
  have loop := run _ _ _ (F.push _) st N₂ (fun p hp => Heap.lt_size (N p hp).1) F.ns.lt
  exact start_two1 loop ((Walks.range (prog := prog) (w := w) hh s.heap.objs.size a k n).self 0 _ _ _ (by simpa using st) loop)
theorem app_any {s : Shared} {Q : Value → Shared → Prop} {h₀ : Heap} {C D : Addr} {m : Str → Option Value} {news : List (Addr × Obj)} {us : List Value} {q : Nat} {x : Value}
    (F : Fr h₀ C s.heap m) (N : News h₀ C s.heap news) (hD : (D, ({ cls := .type "list", data := .seq us.toArray q } : Obj)) ∈ news) (hsz : us.length ≤ 1000)
    (h : ∀ h' q', Fr h₀ C h' m → (∀ p ∈ news, p.1 ≠ D → News h₀ C h' [p]) → News h₀ C h' [(D, ({ cls := .type "list", data := .seq (us ++ [x]).toArray q' } : Obj))] → Q .none { s with heap := h' }) :
    wpAny (model prog w) A (call (.builtin "list.append") [.ref D, x]) Q E s := by
  refine wpAny_list_append_plain (hsz := by rw [sizeLine_eq, List.size_toArray]; omega) ⟨q, (N _ hD).1⟩ fun h' hl sb => ?_
  obtain ⟨q', hl⟩ := hl
  refine h h' q' (F.change sb (N _ hD).2.1 (N _ hD).2.2) (fun p hp hne p' hp' => ?_) (fun p hp => ?_)
  · rw [List.mem_singleton.mp hp']
    exact ⟨sb.extBut _ _ hne (N p hp).1, (N p hp).2⟩
  · rw [List.mem_singleton.mp hp]
    refine ⟨?_, (N _ hD).2⟩
    have e : us.toArray.push x = (us ++ [x]).toArray := by simp
    rw [← e]; exact hl
theorem store_any {s : Shared} {env : Env} {Q : Unit → Shared → Prop} {h₀ : Heap} {L : Addr} {x : Str} {v : Value} {m : Str → Option Value} {news : List (Addr × Obj)} (hL : env.locals = L) (hx : env.kindOf x = some .local)
    (hp : (env.scope.kind == .class || (env.scope.kind == .module && env.locals != env.globals)) = false) (F : Fr h₀ L s.heap m) (N : News h₀ L s.heap news)
    (h : ∀ h' tk, Fr h₀ L h' (fun y => if y = x then some v else m y) → News h₀ L h' news → Q () { s with heap := h', toks := tk }) :
    wpAny (model prog w) A (storeName env x v) Q E s := by
  subst hL
  refine wpAny_storeName_local hx F.ns (fun h₂ hn₂ hs₂ => ?_) hp
  refine h h₂ _ ⟨hn₂, fun b o e => hs₂.extBut b o ?_ (F.keep b o e), F.above⟩ (fun p hp => ⟨hs₂.extBut _ _ (N p hp).2.1 (N p hp).1, (N p hp).2⟩)
  rintro rfl
  exact absurd (Nat.lt_of_lt_of_le (Heap.lt_size e) F.above) (Nat.lt_irrefl _)
end
section
variable {prog : Program} {w : World} {A : Around} {E : Value → Shared → Prop} {env : Env} {s₂ : Shared} {h₀ : Heap} {L : Addr} {m : Str → Option Value} {news : List (Addr × Obj)}
theorem compRangeB {elt : PySem.Expr} {x : Str} {ifs : List PySem.Expr} {scope : Scope} {cl : List (Str × Addr)} {p : Value → Bool} {G : Value → Value → Prop} {QQ : Shared → Addr → Heap → Nat → Prop} {r : Addr} {a b c : Int} {t1 t2 t3 : Tok} {n : Nat} (hr : IsRange s₂.heap r a b c t1 t2 t3) (hsmall : Builtin.Range.small a b c = true) (hn : Builtin.Range.rangeSize a b c = (n : Int)) (hsz : n ≤ 1000)
    (hh : A.handled = none) (F : Fr h₀ L s₂.heap m) (N : News h₀ L s₂.heap news)
    (tests : ∀ (C : Addr) (i : Nat) (v : Value) (s₃ : Shared) (m₃ : Str → Option Value) (E' : Value → Shared → Prop), (fun (i : Nat) (v : Value) => i < n ∧ ∃ t, v = Value.int (a + (i : Nat) * c) t) i v → Fr h₀ C s₃.heap (fun y => if y = x then some v else m₃ y) → News h₀ C s₃.heap news →
      wpAny (model prog w) A (forIn ifs true fun c r => if r = true then do let ok ← isTrue c (compEnvC scope cl C env) (eval c (compEnvC scope cl C env)); pure (ForInStep.yield ok) else pure (ForInStep.yield r))
        (fun ok s₄ => ok = p v ∧ Keeps s₃ s₄) E' s₃)
    (el : ∀ (C : Addr) (i : Nat) (v : Value) (s₃ : Shared) (m₃ : Str → Option Value) (E' : Value → Shared → Prop), (fun (i : Nat) (v : Value) => i < n ∧ ∃ t, v = Value.int (a + (i : Nat) * c) t) i v → p v = true → Fr h₀ C s₃.heap (fun y => if y = x then some v else m₃ y) → News h₀ C s₃.heap news →
      wpAny (model prog w) A (eval elt (compEnvC scope cl C env)) (fun y s₄ => G v y ∧ Keeps s₃ s₄) E' s₃)
    (done : ∀ D h' tk ys k (vs : List Value), Fr h₀ L h' m → News h₀ L h' ((D, { cls := .type "list", data := .seq ys k }) :: news) → (∀ q ∈ news, q.1 ≠ D) → vs.length = n → (∀ (j : Nat) (v : Value), vs[j]? = some v → (fun (i : Nat) (v : Value) => i < n ∧ ∃ t, v = Value.int (a + (i : Nat) * c) t) j v) → Paired G (vs.filter p) ys.toList →
      ∀ H, QQ { s₂ with heap := H } D h' tk) :
    wpAny (model prog w) A (pyIter (.ref r)) (fun it s3 =>
    ∃ I' fp wr n P St, it = .ref I' ∧ Walks prog w A I' fp wr n P St ∧ n ≤ sizeLine ∧ St 0 s3.heap ∧ (∀ b ∈ fp, b < s3.heap.objs.size) ∧
      QuietOnC prog w A env scope cl x ifs elt wr P p G s3 ∧
      (∀ D h' tk ys (vs : List Value), s3.heap.get? D = none → h'.IsList D ys → h'.PlainList D ys → vs.length = n → (∀ (j : Nat) (v : Value), vs[j]? = some v → P j v) → Paired G (vs.filter p) ys.toList →
        (∀ b o, b ∉ wr → s3.heap.get? b = some o → h'.get? b = some o) → QQ s3 D h' tk)) E s₂ := by
  refine wpAny_pyIter_range hr hsmall ?_
  exact compPack (QQ := QQ _) (Walks.range hh s₂.heap.objs.size a c n).bound (by rw [sizeLine_eq]; omega) (by show IsRangeIter _ _ _ _ _; rw [hn]; simpa using Heap.get?_push_size _ rfl) (fun b hb => by rw [List.mem_singleton.mp hb, Heap.size_push]; exact Nat.lt_succ_self _) (F.push _)
    (fun q hq => ⟨Heap.get?_push_of_some _ (N q hq).1, (N q hq).2⟩) (next_is_new F) (Nat.ne_of_lt F.ns.lt) (fun q hq => Nat.ne_of_lt (Heap.lt_size (N q hq).1))
    (fun C i v s₃ m₃ E' hP F' N' => tests C i v s₃ m₃ E' hP F' N') (fun C i v s₃ m₃ E' hP hp F' N' => el C i v s₃ m₃ E' hP hp F' N') (fun D h' tk ys k vs F' N' h1 h2 h3 h4 => done D h' tk ys k vs F' N' h1 h2 h3 h4 _)
end
theorem Does.useM {prog : Program} {w : World} {K : Frag} {p : Program} {loose : List Str} {mean : ExcName → Option Value} {mg mb : Str → Option Value} {n : Nat} {f : Addr} {args : List Value} {pre : Heap → Prop}
    {post : List (Addr × Obj) → Value → Prop} (D : Does prog w K p loose mean mg mb n f args pre post) {A : Around} {s : Shared} {Q E : Value → Shared → Prop} {h₀ : Heap} {L : Addr} {m : Str → Option Value} {news : List (Addr × Obj)}
    (hR : Room A n) (F : Fr h₀ L s.heap m) (N : News h₀ L s.heap news) (X : K.In h₀) (T : Top p loose mean mg mb h₀) (hp : pre s.heap)
    (h : ∀ v h' tk tl, (∀ p ∈ tl, ∀ q ∈ news, @Ne Nat p.1 q.1) → Fr h₀ L h' m → News h₀ L h' (tl ++ news) → post tl v → Q v { s with heap := h', toks := tk }) :
    wpAny (model prog w) A (call (.ref f) args) Q E s :=
  D A s Q E hR (fun a o e => F.keep _ _ (X a o e)) (T.keeps F.keep) hp fun v h' tk tl k M q => h v h' tk tl (fun p hp q hq e => by
    have h1 := (M p hp).2
    have h2 := (N q hq).1
    have e : p.1 = q.1 := e
    rw [e, h2] at h1; cases h1) (fr_after F k) (news_after F N k M) q
end

section
open PySem PySem.W PyProof.Rows PySem.Calls PySem.Spec
theorem top_F12 : True := by
  w_top off
  trivial
section
variable {prog : Program} {w : World} {p : Program} {loose : List Str} {mean : ExcName → Option Value} {mg mb : Str → Option Value}
theorem does_turned (a : Addr) (vs : List Value) (ka : Nat) (ord : List Nat) (hvs : IntsAre vs (ord.map Int.ofNat)) (h4 : ord.length = 4) :
    Does prog w (hd.heap_39 w.params) p loose mean mg mb 12 130 [.ref a] (Own (hd.heap_39 w.params) p loose mean mg mb a vs ka)
      (fun tl v => ∃ (R : Addr) (k : Nat) (ys : List Value) (els : List (Addr × Obj)), v = .ref R ∧ tl = (R, { cls := .type "list", data := .seq ys.toArray k }) :: els ∧ DatAll els ys ((tOut ord 4).map pd) ∧ (∀ p ∈ els, @LT.lt Nat _ R p.1)) := by
  intro A₀ s Q E hR XX T hpre hQ
  obtain ⟨hpa, hc, Xc, Tc, hk, hca⟩ := hpre
  obtain ⟨dp, fr, gd, un, rfl, hdp, hun⟩ := hR.open
  refine wpAny_call ?_
  refine' enterC ?k1 ?k2 ?k3 ?k6 ?k7 ?k9 ?kB ?kD ?c2 ?c3 ?c4 ?_
  case k1 => assumption
  case k2 => assumption
  case k6 => k_is
  case k7 => k_is
  case k9 => exact BindsTo.of_eq rfl
  case kB => exact rfl
  case kD => decide +kernel
  case c2 => exact rfl
  case c3 => exact rfl
  case c4 => exact rfl
  case k3 => (dsimp only); omega
  intro L h₁ tk cells F N Y
  refine veil2 ?_
  intro K0 X0 hK0 _
  k_cells Y
  have hcl := hide_more (a := a) N
  have haL : @LT.lt Nat _ a L := by
    have h1 := Heap.lt_size hpa
    have h2 := F.above
    have h1 : @LT.lt Nat _ a s.heap.objs.size := h1
    have h2 : @LE.le Nat _ s.heap.objs.size L := h2
    omega
  have N' := hide_news F hpa
  have F' := hide_fr (a := a) F
  have N' : News (hide a s.heap) L h₁ [(a, { cls := .type "list", data := .seq vs.toArray ka })] := N'
  have N2 : News (hide a s.heap) L h₁ [(a, { cls := .type "list", data := .seq vs.toArray ka }), (L + 1, _)] := fun q hq => by
    rcases List.mem_cons.mp hq with e | e
    · rw [e]; exact N' _ (.head _)
    · exact hcl q e
  clear hcl N' XX T F N
  rename News _ _ _ _ => N
  rename Fr _ _ _ _ => F
  have hend : ∀ h' m, Fr (hide a s.heap) L h' m → ∀ b o, b ≠ a → s.heap.get? b = some o → h'.get? b = some o := fun h' m F => unhide F
  have XX : (hd.heap_39 w.params).In (hide a s.heap) := fun b o e => hide_sub hk hca b o (Xc b o e)
  have T : Top p loose mean mg mb (hide a s.heap) := Tc.keeps (hide_sub hk hca)
  have hnone : ∀ b, b ≠ a → (hide a s.heap).get? b = none → s.heap.get? b = none := fun b hb e => by rw [hide_ne hb] at e; exact e
  generalize hide a s.heap = H at *
  rename (_ = Data.cell _) => d1
  rename Obj => oc
  have hoc : oc.data = .cell (some (.ref a)) := d1
  clear d1
  repeat (first | (fail_if_success (with_reducible show wpAny _ _ (eval (PySem.Expr.ListComp _ _ _ _) _) _ _ _)); walk1)
  (try dsimp only)
  refine comp_two (cl := [("order", L + 1)]) rfl (by decide) (by decide) ?_
  repeat (first | (fail_if_success (with_reducible show wpAny _ _ (pyIter _) _ _ _)); walk1)
  (try dsimp only)
  rename IsRange _ _ _ _ _ _ _ _ => hr
  rename News _ _ _ _ => N
  rename Fr _ _ _ _ => F
  refine two_run (n := 4) (fun D ys els => ∃ us, ys = us.toArray ∧ DatAll els us ((tOut ord 4).map pd) ∧ ∀ p ∈ els, @LT.lt Nat _ D p.1) (by decide) rfl rfl hr (by decide) (by decide) F N ?_ ?_
  · clear F N hr hnone hQ hend
    intro I oI oL D C h₁ tk F st N hlt hDC hI
    have g1 : @LT.lt Nat _ I D := hlt _ (.head _)
    have g2 : @LT.lt Nat _ L D := hlt _ (.tail _ (.head _))
    have g3 : @LT.lt Nat _ a D := hlt _ (.tail _ (.tail _ (.head _)))
    have g4 : @LT.lt Nat _ (L + 1) D := hlt _ (.tail _ (.tail _ (.tail _ (.head _))))
    have g5 : @LT.lt Nat _ L I := hI _ (.head _)
    have g6 : @LT.lt Nat _ a I := hI _ (.tail _ (.head _))
    have g7 : @LT.lt Nat _ (L + 1) I := hI _ (.tail _ (.tail _ (.head _)))
    clear hlt hI
    refine comp_range (oI := oI) (C := C) (Body := fun v K s => Body0 prog w _ _ _ _ _ _ _ _ _ (.ref D) _ v K s) (fun In tn n h => loop_two0 In tn n h) (fun v K K' s h hk => Body0.mono h hk)
      (fun i m news => ∃ q us els, news = (D, ({ cls := .type "list", data := .seq us.toArray q } : Obj)) :: (L, oL) :: (a, ({ cls := .type "list", data := .seq vs.toArray ka } : Obj)) :: (L + 1, oc) :: els ∧ DatAll els us ((tOut ord i).map pd) ∧ ∀ p ∈ els, @LT.lt Nat _ D p.1)
      rfl st F N ?_ ⟨0, [], [], rfl, .nil, fun _ h => nomatch h⟩ ?_ ?_
    · simp only [List.forall_mem_cons]
      and_intros <;> first | (exact fun _ h => nomatch h) | (intro e; have e : @Eq Nat _ _ := e; omega)
    · rintro i t m₁ news₁ h tk oI hi ⟨q, us, els, rfl, hda, hels⟩ hne F N hcI
      have ei : (0 : Int) + (i : Nat) * 1 = i := by omega
      rw [ei]
      show Body0 _ _ _ _ _ _ _ _ _ _ _ _ _ _ _ _
      unfold Body0
      refine wpAny_assign_Name (store_any (L := C) rfl rfl rfl F N ?_)
      clear F N
      intro h' tk' F N
      repeat (first | (fail_if_success (with_reducible show wpAny _ _ (pyIter _) _ _ _)); walk1)
      rotate_left 4
      all_goals first | exact (0 : Nat) | exact Str.empty | exact Value.none | exact [] | skip
      repeat (first | (fail_if_success (with_reducible show wpAny _ _ (pyIter _) _ _ _)); walk1)
      (try dsimp only)
      rename IsRange _ _ _ _ _ _ _ _ => hr
      rename News _ _ _ _ => N
      rename Fr _ _ _ _ => F
      have hrs : Builtin.Range.small ((i : Nat) + 1 : Int) 4 1 = true ∧ Builtin.Range.rangeSize ((i : Nat) + 1 : Int) 4 1 = ((3 - i : Nat) : Int) := by
        have : i = 0 ∨ i = 1 ∨ i = 2 ∨ i = 3 := by omega
        rcases this with rfl | rfl | rfl | rfl <;> exact ⟨by decide, by decide⟩
      refine two_inner (n := 3 - i) rfl hr hrs.1 hrs.2 F (News.sub N (l' := (I, oI) :: (D, ({ cls := .type "list", data := .seq us.toArray q } : Obj)) :: (L, oL) :: (a, ({ cls := .type "list", data := .seq vs.toArray ka } : Obj)) :: (L + 1, oc) :: els) (fun q hq => by first | exact hq | exact .tail _ hq)) ?_
      clear F N hr
      intro J oJ h' F st N hlt hCJ
      have g8 : @LT.lt Nat _ I J := hlt _ (.head _)
      have g9 : @LT.lt Nat _ D J := hlt _ (.tail _ (.head _))
      have hels' : ∀ p ∈ els, @LT.lt Nat _ p.1 J := fun p hp => hlt _ (.tail _ (.tail _ (.tail _ (.tail _ (.tail _ hp)))))
      have g10 : @LT.lt Nat _ L J := by omega
      refine comp_range (oI := oJ) (C := C) (Body := fun v K s => Body1 prog w _ _ _ _ (.ref D) _ v K s) (fun In tn n h => loop_two1 In tn n h) (fun v K K' s h hk => Body1.mono h hk)
        (fun j m news => ∃ q us els, news = (I, oI) :: (D, ({ cls := .type "list", data := .seq us.toArray q } : Obj)) :: (L, oL) :: (a, ({ cls := .type "list", data := .seq vs.toArray ka } : Obj)) :: (L + 1, oc) :: els ∧ DatAll els us ((tOut ord i ++ tIn ord i j).map pd) ∧ (∀ p ∈ els, @LT.lt Nat _ D p.1 ∧ @Ne Nat p.1 J ∧ @Ne Nat p.1 I) ∧ Know m [("i", .int (i : Nat) t)])
        rfl st F N ?_ ⟨q, us, els, rfl, by rw [tIn, List.append_nil]; exact hda, fun p hp => ⟨hels p hp, Nat.ne_of_lt (hels' p hp), hne p (.tail _ (.tail _ (.tail _ (.tail _ hp))))⟩, ⟨rfl, trivial⟩⟩ ?_ ?_
      · intro p hp
        exact Nat.ne_of_lt (hlt p hp)
      · clear F N hlt hels' hels hda st
        rintro j tj m₂ news₂ h₂ tk₂ oJ hj ⟨q, us, els, rfl, hda, hels, kn⟩ hneJ F N hcJ
        rw [know kn] at F
        show Body1 _ _ _ _ _ _ _ _ _ _ _
        unfold Body1
        refine wpAny_assign_Name (store_any (L := C) rfl rfl rfl F N ?_)
        clear F N
        intro h' tk' F N
        have ej : ((i : Nat) + 1 : Int) + (j : Nat) * 1 = ((i + 1 + j : Nat) : Int) := by omega
        rw [ej] at F
        have hvl : vs.length = 4 := by have := hvs.length; rw [List.length_map] at this; omega
        have hstep : tOut ord i ++ tIn ord i (j + 1) = (tOut ord i ++ tIn ord i j) ++ (if ord.getD i 0 > ord.getD (i + 1 + j) 0 then [(ord.getD i 0, ord.getD (i + 1 + j) 0)] else []) := by rw [tIn, List.append_assoc]
        have hlen : us.length ≤ 1000 := by
          have h1 := DatAll.len hda
          have h2 := tOut_len ord i
          have h3 := tIn_len ord i j
          rw [List.length_map, List.length_append] at h1
          omega
        generalize tOut ord i ++ tIn ord i (j + 1) = nx at *
        generalize tOut ord i ++ tIn ord i j = cur at *
        repeat (first | ((fail_if_success (with_reducible show wpAny _ _ (call (Value.builtin "list.append") _) _ _ _)); walk1) | exact (0 : Nat) | exact Str.empty | exact Value.none | exact ([] : List (Str × Addr)))
        · (try dsimp only)
          rename News _ _ _ _ => N
          rename Fr _ _ _ _ => F
          rename _ ∧ _ => l1
          rename List.getD _ _ _ < List.getD _ _ _ => hq
          rename Addr => U
          obtain ⟨u1, u2, u3, u4, u5, u6, u7⟩ := l1
          have u1 : @LT.lt Nat _ J U := u1
          have u2 : @LT.lt Nat _ I U := u2
          have u3 : @LT.lt Nat _ D U := u3
          rw [getD_ofNat, getD_ofNat, Int.toNat_natCast, Int.toNat_natCast] at hq
          rw [getD_ofNat, getD_ofNat, Int.toNat_natCast, Int.toNat_natCast] at N
          rw [if_pos (by omega)] at hstep
          obtain ⟨oU, N, hdU⟩ : ∃ oU, News H C _ ((U, oU) :: (J, oJ) :: (I, oI) :: (D, ({ cls := .type "list", data := .seq us.toArray q } : Obj)) :: (L, oL) :: (a, ({ cls := .type "list", data := .seq vs.toArray ka } : Obj)) :: (L + 1, oc) :: els) ∧
            ∀ els, DatIn ((U, oU) :: els) (.ref U) (pd (ord.getD i 0, ord.getD (i + 1 + j) 0)) := ⟨_, N, fun els => .list (.head _) (.cons (.int _ _) (.cons (.int _ _) .nil))⟩
          refine app_any F N (.tail _ (.tail _ (.tail _ (.head _)))) hlen ?_
          intro h5 q5 F5 keep N5
          refine CEnd.intro (nx := (I, oI) :: (D, ({ cls := .type "list", data := .seq (us ++ [Value.ref U]).toArray q5 } : Obj)) :: (L, oL) :: (a, ({ cls := .type "list", data := .seq vs.toArray ka } : Obj)) :: (L + 1, oc) :: (U, oU) :: els) F5 ?_ ?_ ⟨q5, us ++ [Value.ref U], (U, oU) :: els, rfl, ?_, ?_, ⟨rfl, trivial⟩⟩
          · intro p hp
            rcases List.mem_cons.mp hp with e | hp
            · rw [e]; exact keep _ (.tail _ (.head _)) (by intro e; have e : @Eq Nat _ _ := e; omega) _ (.head _)
            rcases List.mem_cons.mp hp with e | hp
            · rw [e]; exact keep _ (.tail _ (.tail _ (.head _))) (by intro e; have e : @Eq Nat _ _ := e; omega) _ (.head _)
            rcases List.mem_cons.mp hp with e | hp
            · rw [e]; exact N5 _ (.head _)
            rcases List.mem_cons.mp hp with e | hp
            · rw [e]; exact keep _ (.tail _ (.tail _ (.tail _ (.tail _ (.head _))))) (by intro e; have e : @Eq Nat _ _ := e; omega) _ (.head _)
            rcases List.mem_cons.mp hp with e | hp
            · rw [e]; exact keep _ (.tail _ (.tail _ (.tail _ (.tail _ (.tail _ (.head _)))))) (by intro e; have e : @Eq Nat _ _ := e; omega) _ (.head _)
            rcases List.mem_cons.mp hp with e | hp
            · rw [e]; exact keep _ (.tail _ (.tail _ (.tail _ (.tail _ (.tail _ (.tail _ (.head _))))))) (by intro e; have e : @Eq Nat _ _ := e; omega) _ (.head _)
            rcases List.mem_cons.mp hp with e | hp
            · rw [e]; exact keep _ (.head _) (by intro e; have e : @Eq Nat _ _ := e; omega) _ (.head _)
            · exact keep p (.tail _ (.tail _ (.tail _ (.tail _ (.tail _ (.tail _ (.tail _ hp))))))) (by intro e; have e : @Eq Nat _ _ := e; have := (hels p hp).1; omega) _ (.head _)
          · simp only [List.forall_mem_cons]
            and_intros <;> first | (exact fun p hp => (hels p hp).2.1) | (intro e; have e : @Eq Nat _ _ := e; (try dsimp only at e); omega)
          · rw [hstep, List.map_append]
            exact DatAll.snoc (hdU els) (hda.mono fun p hp => .tail _ hp)
          · intro p hp
            rcases List.mem_cons.mp hp with e | hp
            · rw [e]; exact ⟨u3, Ne.symm (Nat.ne_of_lt u1), Ne.symm (Nat.ne_of_lt u2)⟩
            · exact hels p hp
        · rename ¬ (List.getD _ _ _ < List.getD _ _ _) => hq
          rw [getD_ofNat, getD_ofNat, Int.toNat_natCast, Int.toNat_natCast] at hq
          rw [if_neg (by omega), List.append_nil] at hstep
          refine CEnd.intro F N ?_ ⟨q, us, els, rfl, ?_, hels, ⟨rfl, trivial⟩⟩
          · simp only [List.forall_mem_cons]
            and_intros <;> first | (exact fun p hp => (hels p hp).2.1) | (intro e; have e : @Eq Nat _ _ := e; (try dsimp only at e); omega)
          · rw [hstep]; exact hda
      · rintro m₂ news₂ h₂ tk₂ ⟨q, us, els, rfl, hda, hels, kn⟩ F N
        exact CEnd.intro F N (by
          simp only [List.forall_mem_cons]
          and_intros <;> first | (exact fun p hp => (hels p hp).2.2) | (intro e; have e : @Eq Nat _ _ := e; omega)) ⟨q, us, els, rfl, hda, fun p hp => (hels p hp).1⟩
    · rintro m₁ news₁ h tk ⟨q, us, els, rfl, hda, hels⟩ F N
      refine ⟨h, tk, m₁, us.toArray, q, els, rfl, F, fun p hp => N p ?_, fun p hp e => ?_, us, rfl, hda, hels⟩
      · simp only [List.mem_cons, List.mem_append] at hp ⊢
        rcases hp with h | h | h | h | h | h <;> first | simp [h] | exact nomatch h
      · have := hels p hp
        have e : @Eq Nat p.1 L := e
        omega
  · clear F N hr
    intro D h' tk ys q els hlt hLD F N ⟨us, e, hda, hels⟩
    subst e
    (try dsimp only)
    k_steps
    (try dsimp only)
    rename News _ _ _ _ => N
    rename Fr _ _ _ _ => F
    have hmem : (a, ({ cls := .type "list", data := .seq vs.toArray ka } : Obj)) ∈ (D, ({ cls := .type "list", data := .seq us.toArray q } : Obj)) :: (els ++ [(a, ({ cls := .type "list", data := .seq vs.toArray ka } : Obj)), (L + 1, oc)]) := .tail _ (List.mem_append_right _ (.head _))
    refine hK0 _ _ ?_
    (try dsimp only)
    refine hQ _ _ _ ((D, _) :: els) (fun b o e => ?_) (fun p hp => ?_) ⟨D, q, us, els, rfl, rfl, hda, hels⟩
    · by_cases hb : b = a
      · rw [hb, hpa] at e
        rw [hb, ← e]; exact (N _ hmem).1
      · exact hend h' _ F b o hb e
    · have hin : p ∈ (D, ({ cls := .type "list", data := .seq us.toArray q } : Obj)) :: (els ++ [(a, ({ cls := .type "list", data := .seq vs.toArray ka } : Obj)), (L + 1, oc)]) := by
        rcases List.mem_cons.mp hp with e | hp
        · rw [e]; exact .head _
        · exact .tail _ (List.mem_append_left _ hp)
      refine ⟨(N p hin).1, hnone p.1 ?_ (N p hin).2.2⟩
      rcases List.mem_cons.mp hp with e | hp
      · rw [e]; intro e; have e : @Eq Nat D a := e; omega
      · have := hels p hp
        intro e; have e : @Eq Nat p.1 a := e; omega
end
end

section
open PySem PySem.W PyProof.Rows PySem.Calls PySem.Spec
section
variable {prog : Program} {w : World} {A : Around} {E : Value → Shared → Prop} {env : Env}
theorem assign_compO {s : Shared} {elt iter : PySem.Expr} {x y : Str} {px py : Pos} {ifs : List PySem.Expr} {scope : Scope} {cl : List (Str × Addr)} {pos spos : Pos} {Q : Flow → Shared → Prop}
    (p : Value → Bool) (G : Value → Array Value → Prop)
    (hsw : swapsWith (.ListComp elt [⟨.Name x px, iter, ifs, 0⟩] scope pos) (some (.Name y py)) spos.line env = pure true)
    (hclos : closureFor scope env = pure cl) (hcell : ∀ z ∈ scope.names, z.2 ≠ .cell) (hkind : scope.kind = .function)
    (hnames : ∀ z ∈ scope.names, z.2 = .local → scope.names.lookup z.1 = some .local) (hx : scope.names.lookup x = some .local)
    (hy : env.kindOf y = some .local) (hp : (env.scope.kind == .class || (env.scope.kind == .module && env.locals != env.globals)) = false)
    (h : wpAny (model prog w) A (eval iter env) (fun xv s₁ => wpAny (model prog w) A (pyIter xv) (fun it s₂ => ∃ I fp wr n P St m, it = .ref I ∧ Walks prog w A I fp wr n P St ∧ n ≤ sizeLine ∧ (∀ i h, St i h → ∀ b ∈ wr, ∃ o, h.get? b = some o) ∧ St 0 s₂.heap ∧ (∀ b ∈ fp, b < s₂.heap.objs.size) ∧
      env.locals ∉ wr ∧ s₂.heap.Ns env.locals m ∧ QuietOnCO prog w A env scope cl x ifs elt wr P p G s₂ ∧
      (∀ D h' tk ys (vs : List Value), s₂.heap.get? D = none → h'.IsList D ys → h'.PlainList D ys → vs.length = n → (∀ j v, vs[j]? = some v → P j v) → Paired (LstIs s₂.heap G h') (vs.filter p) ys.toList → ys.toList.Pairwise (· ≠ ·) → (∀ y ∈ ys.toList, y ≠ .ref D) →
        h'.Ns env.locals (fun z => if z = y then some (.ref D) else m z) → (∀ b o, b ≠ env.locals → b ∉ wr → s₂.heap.get? b = some o → h'.get? b = some o) → Q .next { s₂ with heap := h', toks := tk })) E s₁) E s)
    (hs : ∀ x, foldedSetIterable iter env x = pure x := by intro _; rfl) :
    wpAny (model prog w) A (exec (.Assign [.Name y py] (.ListComp elt [⟨.Name x px, iter, ifs, 0⟩] scope pos) spos) env) Q E s := by
  rw [exec_Assign_Name_used _ _ _ _ hsw]
  refine wpAny_bind (wpAny_standAt (wpAny_bind ?_))
  show wpAny _ A (do let _ ← comprehension (.ListComp elt [⟨.Name x px, iter, ifs, 0⟩] scope pos) scope env _ (newList []) false (eval iter env) (some (assign (.Name y py) env))) _ _ s
  refine wpAny_bind (wpAny_mono (wpAny_comprehension_free (use := some (assign (.Name y py) env)) (Q := fun _ s' => Q .next s') rfl hs hclos hkind hnames
    (wpAny_mono h (fun xv s₁ h₁ => wpAny_mono h₁ (fun it s₂ h₂ => ?_) fun _ _ e => e) fun _ _ e => e)) (fun _ s' hq => wpAny_pure (wpAny_pure hq)) fun _ _ e => e)
  obtain ⟨I, fp, wr, n, P, St, m, rfl, W, hsz, hlive, hst, hfp, hLf, hn, hq, hQ⟩ := h₂
  refine comp_block_walkCO (RR := fun acc C => compPost (model prog w) A E (some (assign (.Name y py) env)) (fun _ s' => Q .next s') acc C) W hsz p G hlive hcell hkind hx hst hfp hq ?_
  intro D C h' tk m' ys vs hD hC hDC hnC hlD hplD hlen hP hF hnd hk
  have hLC : env.locals ≠ C := by rintro rfl; obtain ⟨o, _, _, ho, _⟩ := hn; rw [hC] at ho; cases ho
  have hLD : env.locals ≠ D := by rintro rfl; obtain ⟨o, _, _, ho, _⟩ := hn; rw [hD] at ho; cases ho
  have hLT : ∀ T, s₂.heap.get? T = none → T ≠ env.locals := by rintro T hT rfl; obtain ⟨o, _, _, ho, _⟩ := hn; rw [hT] at ho; cases ho
  show wpAny _ A (assign (.Name y py) env (.ref D)) _ _ _
  refine wpAny_assign_Name (wpAny_storeName_local hy (hn.at' fun o e => hk _ o hLf e) (fun h₂ hn₂ hs₂ => ?_) hp)
  refine ⟨m', hnC.sameBut hs₂ (Ne.symm hLC), fun h₃ hs₃ => ?_⟩
  refine hQ D h₃ _ ys vs hD ((hlD.extBut hs₂.extBut (Ne.symm hLD)).extBut hs₃.extBut hDC) ((hplD.extBut hs₂.extBut (Ne.symm hLD)).extBut hs₃.extBut hDC) hlen hP ?_ hnd ?_ (hn₂.sameBut hs₃ hLC) fun b o hbL hbf e =>
    hs₃.extBut b o (by rintro rfl; rw [hC] at e; cases e) (hs₂.extBut b o hbL (hk b o hbf e))
  · exact hF.mono fun _ _ hy => by
      obtain ⟨T, its, rfl, h1, hTC, _, _, hlT, hG⟩ := hy
      exact ⟨T, its, rfl, h1, (hlT.extBut hs₂.extBut (hLT T h1)).extBut hs₃.extBut hTC, hG⟩
  · intro y hy e
    obtain ⟨_, T, _, e', _, _, _, hTD, _, _⟩ := Paired.right hF y hy
    rw [e] at e'; cases e'; exact hTD rfl
/-- a made list's entry -/
def LEnt (G : Value → Array Value → Prop) (v : Value) (p : Addr × Obj) : Prop := p.2.cls = .type "list" ∧ ∃ its n, p.2.data = .seq its n ∧ G v its
theorem els_of {h₁ h' : Heap} {G : Value → Array Value → Prop} : ∀ {vs ys : List Value}, Paired (LstIs h₁ G h') vs ys → ∃ els : List (Addr × Obj), ys = els.map (fun p => Value.ref p.1) ∧ Paired (LEnt G) vs els ∧ ∀ p ∈ els, h'.get? p.1 = some p.2 ∧ h₁.get? p.1 = none
  | _, _, .nil => ⟨[], rfl, .nil, fun _ h => nomatch h⟩
  | _, _, .cons h r => by
    obtain ⟨T, its, rfl, h1, ⟨o, ho, hc, n, hd⟩, hG⟩ := h
    obtain ⟨els, e1, e2, e3⟩ := els_of r
    refine ⟨(T, o) :: els, by rw [e1]; rfl, .cons ⟨hc, its, n, hd, hG⟩ e2, fun p hp => ?_⟩
    rcases List.mem_cons.mp hp with e | hp
    · rw [e]; exact ⟨ho, h1⟩
    · exact e3 p hp
theorem compRangeOA {s₂ : Shared} {h₀ : Heap} {m : Str → Option Value} {news : List (Addr × Obj)} {y : Str} {elt : PySem.Expr} {x : Str} {scope : Scope} {cl : List (Str × Addr)} {G : Value → Array Value → Prop} {QQ : Shared → Addr → Heap → Nat → Prop} {r : Addr} {a b c : Int} {t1 t2 t3 : Tok} {n : Nat} (hr : IsRange s₂.heap r a b c t1 t2 t3) (hsmall : Builtin.Range.small a b c = true) (hn : Builtin.Range.rangeSize a b c = (n : Int)) (hsz : n ≤ 1000)
    (hh : A.handled = none) (F : Fr h₀ env.locals s₂.heap m) (N : News h₀ env.locals s₂.heap news)
    (el : ∀ (C : Addr) (i : Nat) (t : Tok) (s₃ : Shared) (m₃ : Str → Option Value) (E' : Value → Shared → Prop), i < n → Fr h₀ C s₃.heap (fun y => if y = x then some (Value.int (a + (i : Nat) * c) t) else m₃ y) → News h₀ C s₃.heap news →
      wpAny (model prog w) A (eval elt (compEnvC scope cl C env)) (fun y s₄ => (∃ T its, y = .ref T ∧ s₃.heap.get? T = none ∧ s₄.heap.IsList T its ∧ G (Value.int (a + (i : Nat) * c) t) its) ∧ Keeps s₃ s₄) E' s₃)
    (done : ∀ D h' tk ys k (vs : List Value) els, Fr h₀ env.locals h' (fun z => if z = y then some (.ref D) else m z) → News h₀ env.locals h' ((D, { cls := .type "list", data := .seq ys k }) :: (els ++ news)) → (∀ q ∈ news, @Ne Nat D q.1 ∧ ∀ p ∈ els, @Ne Nat p.1 q.1) → (∀ p ∈ els, @Ne Nat p.1 D) → vs.length = n → (∀ (j : Nat) (v : Value), vs[j]? = some v → j < n ∧ ∃ t, v = Value.int (a + (j : Nat) * c) t) →
      ys.toList = els.map (fun p => Value.ref p.1) → Paired (LEnt G) vs els → ∀ H, QQ { s₂ with heap := H } D h' tk) :
    wpAny (model prog w) A (pyIter (.ref r)) (fun it s3 => ∃ I fp wr n P St m', it = .ref I ∧ Walks prog w A I fp wr n P St ∧ n ≤ sizeLine ∧ (∀ i h, St i h → ∀ b ∈ wr, ∃ o, h.get? b = some o) ∧ St 0 s3.heap ∧ (∀ b ∈ fp, b < s3.heap.objs.size) ∧
      env.locals ∉ wr ∧ s3.heap.Ns env.locals m' ∧ QuietOnCO prog w A env scope cl x [] elt wr P (fun _ => true) G s3 ∧
      (∀ D h' tk ys (vs : List Value), s3.heap.get? D = none → h'.IsList D ys → h'.PlainList D ys → vs.length = n → (∀ j v, vs[j]? = some v → P j v) → Paired (LstIs s3.heap G h') (vs.filter (fun _ => true)) ys.toList → ys.toList.Pairwise (· ≠ ·) → (∀ y ∈ ys.toList, y ≠ .ref D) →
        h'.Ns env.locals (fun z => if z = y then some (.ref D) else m' z) → (∀ b o, b ≠ env.locals → b ∉ wr → s3.heap.get? b = some o → h'.get? b = some o) → QQ s3 D h' tk)) E s₂ := by
  refine wpAny_pyIter_range hr hsmall ?_
  generalize hIe : s₂.heap.objs.size = I
  have hIL : env.locals ≠ I := by rw [← hIe]; exact Nat.ne_of_lt F.ns.lt
  have hI0 : h₀.get? I = none := by rw [← hIe]; exact next_is_new F
  have hIN : ∀ q ∈ news, q.1 ≠ I := fun q hq => by rw [← hIe]; exact Nat.ne_of_lt (Heap.lt_size (N q hq).1)
  have hpg : (s₂.heap.push { cls := .type "range_iterator", data := .fields #[rawInt a, rawInt (Builtin.Range.rangeSize a b c), rawInt c] }).get? I = some { cls := .type "range_iterator", data := .fields #[rawInt a, rawInt (Builtin.Range.rangeSize a b c), rawInt c] } := by rw [← hIe]; exact Heap.get?_push_size _ rfl
  have Fp := F.push { cls := .type "range_iterator", data := .fields #[rawInt a, rawInt (Builtin.Range.rangeSize a b c), rawInt c] }
  have Np : News h₀ env.locals (s₂.heap.push { cls := .type "range_iterator", data := .fields #[rawInt a, rawInt (Builtin.Range.rangeSize a b c), rawInt c] }) news := fun q hq => ⟨Heap.get?_push_of_some _ (N q hq).1, (N q hq).2⟩
  have hsz' : (s₂.heap.push { cls := .type "range_iterator", data := .fields #[rawInt a, rawInt (Builtin.Range.rangeSize a b c), rawInt c] }).objs.size = I + 1 := by rw [Heap.size_push, hIe]
  generalize hHp : s₂.heap.push { cls := .type "range_iterator", data := .fields #[rawInt a, rawInt (Builtin.Range.rangeSize a b c), rawInt c] } = Hp at *
  refine ⟨I, [I], [I], n, _, _, m, rfl, (Walks.range hh I a c n).bound, by rw [sizeLine_eq]; omega, ?_, ?_, ?_, ?_, Fp.ns, ⟨?_, ?_⟩, ?_⟩
  · intro i h st b hb
    rw [List.mem_singleton.mp hb]
    exact ⟨_, st⟩
  · show IsRangeIter _ _ _ _ _
    rw [hn] at hpg
    simpa using hpg
  · intro b hb
    rw [List.mem_singleton.mp hb]
    show @LT.lt Nat _ I Hp.objs.size
    rw [hsz']; exact Nat.lt_succ_self _
  · intro hb; exact hIL (List.mem_singleton.mp hb)
  · intro C i v s₃ m₃ E' hC hP hns hm hk htk
    exact wpAny_pure ⟨rfl, _, _, rfl, fun _ _ e => e⟩
  · rintro C i v s₃ m₃ E' hC ⟨hi, t, rfl⟩ hp hns hm hk htk
    refine el C i t s₃ m₃ E' hi ⟨?_, fun b o eb => hk b o (fun hb => ?_) (Fp.keep b o eb), ?_⟩ (fun q hq => ⟨hk _ _ (fun hb => hIN q hq (List.mem_singleton.mp hb)) (Np q hq).1, fun eq => ?_, (N q hq).2.2⟩)
    · have e : (fun y => if y = x then some (Value.int (a + (i : Nat) * c) t) else m₃ y) = m₃ := by
        funext y; split
        · rename_i e; rw [e, hm]
        · rfl
      rw [e]; exact hns
    · rw [List.mem_singleton.mp hb, hI0] at eb; cases eb
    · exact Nat.le_trans Fp.above (Nat.le_trans (Nat.le_of_lt Fp.ns.lt) hC)
    · have h1 := Heap.lt_size (Np q hq).1
      rw [eq] at h1
      exact absurd (Nat.lt_of_lt_of_le h1 hC) (Nat.lt_irrefl _)
  · intro D h' tk ys vs hD hl hpl hlen hP hpr hnd hyD hns hk
    obtain ⟨k, hpk⟩ := hpl
    have hne : ∀ b o, Hp.get? b = some o → b ≠ D := by rintro b o e rfl; rw [hD] at e; cases e
    have hfl : vs.filter (fun _ => true) = vs := List.filter_eq_self.mpr fun _ _ => rfl
    rw [hfl] at hpr
    obtain ⟨els, e1, e2, e3⟩ := els_of hpr
    have hLn : h₀.get? env.locals = none := by
      cases e : h₀.get? env.locals with
      | none => rfl
      | some o => exact absurd (Nat.lt_of_lt_of_le (Heap.lt_size e) F.above) (Nat.lt_irrefl _)
    have fresh : ∀ T, Hp.get? T = none → T ≠ env.locals ∧ h₀.get? T = none := fun T hT => by
      refine ⟨fun e => ?_, ?_⟩
      · obtain ⟨o, _, _, ho, _⟩ := Fp.ns
        rw [← e, hT] at ho; cases ho
      · cases e : h₀.get? T with
        | none => rfl
        | some o => have := Fp.keep _ _ e; rw [hT] at this; cases this
    have := done D h' tk ys k vs els ⟨hns, fun b o eb => hk b o (fun hb => ?_) (fun hb => ?_) (Fp.keep b o eb), F.above⟩ (fun q hq => ?_) (fun q hq => ⟨Ne.symm (hne _ _ (Np q hq).1), fun p hp e => ?_⟩) (fun p hp e => ?_) hlen hP e1 e2 Hp
    · exact this
    · rw [hb, hLn] at eb; cases eb
    · rw [List.mem_singleton.mp hb, hI0] at eb; cases eb
    · rcases List.mem_cons.mp hq with e | hq
      · rw [e]; exact ⟨hpk, fresh D hD⟩
      rcases List.mem_append.mp hq with hq | hq
      · exact ⟨(e3 q hq).1, fresh _ (e3 q hq).2⟩
      · exact ⟨hk _ _ (N q hq).2.1 (fun hb => hIN q hq (List.mem_singleton.mp hb)) (Np q hq).1, (N q hq).2⟩
    · have h1 := (e3 p hp).2
      have e : p.1 = q.1 := e
      rw [e, (Np q hq).1] at h1; cases h1
    · have hin : Value.ref p.1 ∈ ys.toList := by rw [e1]; exact List.mem_map.mpr ⟨p, hp, rfl⟩
      exact hyD _ hin (by have e : p.1 = D := e; rw [e])
end
theorem sz_of {a b : WS} {vs : List Value} {els : List (Addr × Obj)} (hp : Paired (LEnt (SzG a b)) vs els) (hl : vs.length = 4) (hv : ∀ (j : Nat) (v : Value), vs[j]? = some v → j < 4 ∧ ∃ t, v = Value.int (0 + (j : Nat) * 1) t) :
    ∀ i < 4, ∃ p ∈ els, (els.map (fun p => Value.ref p.1))[i]? = some (.ref p.1) ∧ SzEnt a b i p := by
  intro i hi
  have e : vs[i]? = some vs[i] := List.getElem?_eq_getElem (by omega)
  obtain ⟨p, h1, hc, its, n, hd, k, tv, t, u, e1, e2⟩ := paired_get hp e
  obtain ⟨_, t', e3⟩ := hv i _ e
  rw [e3] at e1
  have hk : (0 : Int) + (i : Nat) * 1 = (k : Nat) := by injection e1
  have hk : i = k := by omega
  subst hk
  refine ⟨p, List.mem_of_getElem? h1, by rw [List.getElem?_map, h1]; rfl, hc, n, t, u, ?_⟩
  rw [hd, e2]
section
variable {prog : Program} {w : World} {A : Around} {E : Value → Shared → Prop} {s : Shared}
theorem min_keep {l : Addr} {vs : List Value} {ns : List Int} {Q : Value → Shared → Prop} (hh : A.handled = none) (hl : s.heap.IsList l vs.toArray) (hi : IntsAre vs ns) (hne : 0 < ns.length)
    (h : ∀ h' M (t : Tok) tk, (∀ b o, s.heap.get? b = some o → h'.get? b = some o) → M ∈ ns → (∀ a, a ∈ ns → M ≤ a) → Q (.int M t) { s with heap := h', toks := tk }) :
    wpAny (model prog w) A (call (.builtin "min") [.ref l]) Q E s := by
  obtain ⟨xs, e⟩ := hi.allInts.items
  have hns : ns = xs.toList.map (·.1) := by
    rw [← hi.numsOf, ← nums_intItems, ← e]
  have hsz : 0 < xs.size := by
    have h3 := hne; rw [hns, List.length_map, Array.length_toList] at h3; exact h3
  rw [e] at hl
  refine min_intList hh hl hsz fun v h' tk hv hk => ?_
  obtain ⟨t, rfl⟩ := intItems_at hv
  obtain ⟨h1, h2⟩ := argBest_lt (numAt xs) (xs.size - 1)
  refine h _ _ t tk hk ?_ fun a ha => ?_
  · rw [hns, numAt_eq]; exact getD_mem (by rw [List.length_map, Array.length_toList]; omega)
  · rw [hns] at ha
    obtain ⟨j, hj, rfl⟩ := mem_getD ha
    rw [List.length_map, Array.length_toList] at hj
    rw [← numAt_eq]; exact h2 j (by omega)
theorem max_keep {l : Addr} {vs : List Value} {ns : List Int} {Q : Value → Shared → Prop} (hh : A.handled = none) (hl : s.heap.IsList l vs.toArray) (hi : IntsAre vs ns) (hne : 0 < ns.length)
    (h : ∀ h' M (t : Tok) tk, (∀ b o, s.heap.get? b = some o → h'.get? b = some o) → M ∈ ns → (∀ a, a ∈ ns → a ≤ M) → Q (.int M t) { s with heap := h', toks := tk }) :
    wpAny (model prog w) A (call (.builtin "max") [.ref l]) Q E s := by
  obtain ⟨xs, e⟩ := hi.allInts.items
  have hns : ns = xs.toList.map (·.1) := by
    rw [← hi.numsOf, ← nums_intItems, ← e]
  have hsz : 0 < xs.size := by
    have h3 := hne; rw [hns, List.length_map, Array.length_toList] at h3; exact h3
  rw [e] at hl
  refine max_intList hh hl hsz fun v h' tk hv hk => ?_
  obtain ⟨t, rfl⟩ := intItems_at hv
  obtain ⟨h1, h2⟩ := argBest_gt (numAt xs) (xs.size - 1)
  refine h _ _ t tk hk ?_ fun a ha => ?_
  · rw [hns, numAt_eq]; exact getD_mem (by rw [List.length_map, Array.length_toList]; omega)
  · rw [hns] at ha
    obtain ⟨j, hj, rfl⟩ := mem_getD ha
    rw [List.length_map, Array.length_toList] at hj
    rw [← numAt_eq]; exact h2 j (by omega)
end
/-- an item of the dots: what a function makes of the two sizes -/
def DotG (f : Int → Int → Int) (els : List (Addr × Obj)) (v y : Value) : Prop := ∃ p ∈ els, v = .ref p.1 ∧ ∃ n t u x1 x2 t', p.2.data = .seq [Value.int x1 t, Value.int x2 u].toArray n ∧ y = .int (f x1 x2) t'
theorem four {α : Type} {l : List α} (h : l.length = 4) : ∃ a b c d, l = [a, b, c, d] := by
  rcases l with _ | ⟨a, _ | ⟨b, _ | ⟨c, _ | ⟨d, _ | ⟨e, r⟩⟩⟩⟩⟩
  · exact absurd h (by simp)
  · exact absurd h (by simp)
  · exact absurd h (by simp)
  · exact absurd h (by simp)
  · exact ⟨_, _, _, _, rfl⟩
  · exact absurd h (by simp)
theorem dots_of {f : Int → Int → Int} {h₀ h : Heap} {L : Addr} {els : List (Addr × Obj)} {a b : WS} {sz ys : List Value} (N : News h₀ L h els) (hs : sz.length = 4) (hz : ∀ k < 4, ∃ p ∈ els, sz[k]? = some (.ref p.1) ∧ SzEnt a b k p) (hp : Paired (DotG f els) sz ys) :
    IntsAre ys ([0, 1, 2, 3].map fun k => f ((a.2.1.getD k 0 + 5 : Nat) : Int) ((b.2.1.getD k 0 + 5 : Nat) : Int)) := by
  have at_ : ∀ k < 4, ∃ t, ys[k]? = some (.int (f ((a.2.1.getD k 0 + 5 : Nat) : Int) ((b.2.1.getD k 0 + 5 : Nat) : Int)) t) := by
    intro k hk
    obtain ⟨p, hpm, hsk, hc, n, t, u, hd⟩ := hz k hk
    obtain ⟨y, hy, q, hq, e1, n', t', u', x1, x2, t'', hd', e2⟩ := paired_get hp hsk
    have e1 : p.1 = q.1 := by injection e1
    have e3 : p.2 = q.2 := by
      have h1 := (N p hpm).1
      have h2 := (N q hq).1
      rw [e1, h2] at h1
      exact (Option.some.inj h1).symm
    rw [e3, hd'] at hd
    injection hd with hd _
    have hd : [Value.int x1 t', Value.int x2 u'] = [Value.int ((a.2.1.getD k 0 + 5 : Nat) : Int) t, Value.int ((b.2.1.getD k 0 + 5 : Nat) : Int) u] := by simpa using hd
    injection hd with e4 e5
    injection e5 with e5 _
    injection e4 with e4 _
    injection e5 with e5 _
    exact ⟨t'', by rw [hy, e2, e4, e5]⟩
  have hl : ys.length = 4 := by rw [← hp.length, hs]
  obtain ⟨y0, y1, y2, y3, rfl⟩ := four hl
  obtain ⟨t0, h0⟩ := at_ 0 (by decide)
  obtain ⟨t1, h1⟩ := at_ 1 (by decide)
  obtain ⟨t2, h2⟩ := at_ 2 (by decide)
  obtain ⟨t3, h3⟩ := at_ 3 (by decide)
  have h0 : y0 = _ := Option.some.inj h0
  have h1 : y1 = _ := Option.some.inj h1
  have h2 : y2 = _ := Option.some.inj h2
  have h3 : y3 = _ := Option.some.inj h3
  rw [h0, h1, h2, h3]
  exact .cons _ _ (.cons _ _ (.cons _ _ (.cons _ _ .nil)))
theorem store_cell {prog : Program} {w : World} {A : Around} {E : Value → Shared → Prop} {s : Shared} {env : Env} {Q : Unit → Shared → Prop} {h₀ : Heap} {L c : Addr} {x : Str} {v : Value} {v₀ : Option Value} {o : Obj} {m : Str → Option Value} {rest : List (Addr × Obj)}
    (hk : env.scope.kind = .function) (hl : env.kindOf x = some .cell) (hc : env.cells.lookup x = some c) (F : Fr h₀ L s.heap m) (N : News h₀ L s.heap ((c, o) :: rest)) (hd : o.data = .cell v₀) (hne : ∀ p ∈ rest, @Ne Nat p.1 c)
    (h : ∀ h' o', Fr h₀ L h' m → News h₀ L h' ((c, o') :: rest) → o'.data = .cell (some v) → Q () { s with heap := h' }) :
    wpAny (model prog w) A (storeName env x v) Q E s := by
  have hmem := N (c, o) (.head _)
  refine wpAny_storeName_cell hk hl hc ⟨o, hmem.1, hd⟩ fun h' hv hs => ?_
  obtain ⟨o', ho', hd'⟩ := hv
  refine h h' o' ⟨F.ns.sameBut hs (Ne.symm hmem.2.1), fun b ob e => (hs.2 b (fun q => ?_)).trans (F.keep b ob e), F.above⟩ (fun p hp => ?_) hd'
  · rw [q, hmem.2.2] at e; cases e
  · rcases List.mem_cons.mp hp with e | hp
    · rw [e]; exact ⟨ho', hmem.2⟩
    · have := N p (.tail _ hp)
      exact ⟨(hs.2 p.1 (hne p hp)).trans this.1, this.2⟩
theorem comp_late {prog : Program} {w : World} {A : Around} {E : Value → Shared → Prop} {env : Env} {s : Shared} {elt iter : PySem.Expr} {x : Str} {px : Pos} {ifs : List PySem.Expr} {scope : Scope} {cl : List (Str × Addr)} {pos : Pos} {Q : Value → Shared → Prop}
    (hclos : closureFor scope env = pure cl) (hcell : ∀ y ∈ scope.names, y.2 ≠ .cell) (hkind : scope.kind = .function)
    (hnames : ∀ y ∈ scope.names, y.2 = .local → scope.names.lookup y.1 = some .local) (hx : scope.names.lookup x = some .local)
    (h : wpAny (model prog w) A (eval iter env) (fun xv s₁ => wpAny (model prog w) A (pyIter xv) (fun it s₂ => ∃ (p : Value → Bool) (F : Value → Value → Prop), ∃ I fp wr n P St, it = .ref I ∧ Walks prog w A I fp wr n P St ∧ n ≤ sizeLine ∧ St 0 s₂.heap ∧ (∀ b ∈ fp, b < s₂.heap.objs.size) ∧
      QuietOnC prog w A env scope cl x ifs elt wr P p F s₂ ∧
      (∀ D h' tk ys (vs : List Value), s₂.heap.get? D = none → h'.IsList D ys → h'.PlainList D ys → vs.length = n → (∀ j v, vs[j]? = some v → P j v) → Paired F (vs.filter p) ys.toList →
        (∀ b o, b ∉ wr → s₂.heap.get? b = some o → h'.get? b = some o) → Q (.ref D) { s₂ with heap := h', toks := tk })) E s₁) E s)
    (hs : ∀ x, foldedSetIterable iter env x = pure x := by intro _; rfl) :
    wpAny (model prog w) A (eval (.ListComp elt [⟨.Name x px, iter, ifs, 0⟩] scope pos) env) Q E s := by
  rw [eval_ListComp]
  refine wpAny_comprehension_free (use := none) rfl hs hclos hkind hnames (wpAny_mono h (fun xv s₁ h₁ => wpAny_mono h₁ (fun it s₂ h₂ => ?_) fun _ _ e => e) fun _ _ e => e)
  obtain ⟨p, F, I, fp, wr, n, P, St, rfl, W, hsz, hst, hfp, hq, hQ⟩ := h₂
  refine comp_block_walkC (RR := fun acc C => compPost (model prog w) A E none Q acc C) W hsz p F hcell hkind hx hst hfp hq ?_
  intro D C h' tk m' ys vs hD hC hDC hn hl hpl hlen hP hF hk
  exact ⟨m', hn, fun h'' hs'' => hQ D h'' tk ys vs hD (hl.extBut hs''.extBut hDC) (hpl.extBut hs''.extBut hDC) hlen hP hF fun b o hbf e => hs''.extBut b o (by rintro rfl; rw [hC] at e; cases e) (hk b o hbf e)⟩
end

section
open PySem PySem.W PyProof.Rows PySem.Calls PySem.Spec
def dotsOf (a : WS) : List Nat := a.2.1.map (· - 2)
def leD (d e : List Nat) : Bool := [0, 1, 2, 3].all fun k => decide (d.getD k 0 ≤ e.getD k 0)
def D24 : List (List Nat) := [0, 1].flatMap fun x => [0, 1, 2].flatMap fun y => [0, 1, 2, 3].map fun z => [0, x, y, z]
def goodIn (ws : List (List Nat)) (W : List Nat) : Bool := ws.any (fun w => fits w W) && ws.all (fun w => decide (w.length ≤ W.length) && alike w W)
def begunB (W : List Nat) (o : List Nat) : Bool := (sho o).any fun w => ell (sx w) (sx W) []
def keptB (o q : List Nat) : Bool := (tOut o 4).all fun x => (tOut q 4).contains x
theorem tbl_orders : ∀ a ∈ tbl1, a.1 ∈ orders ∧ isWord a.2.2 = true ∧ (lrun (dotsOf a) 4).1 = a.1 ∧ dotsOf a ∈ D24 := by decide +kernel
theorem laid_orders : ∀ d ∈ D24, (lrun d 4).1 ∈ orders ∧ isWord (lrun d 4).2 = true := by decide +kernel
theorem claimA1 : ∀ d ∈ (D24.take 12).take 4, ∀ a ∈ tbl1, leD d (dotsOf a) = true → goodIn (sho (lrun d 4).1) a.2.2 = true := by decide +kernel
theorem claimA2 : ∀ d ∈ (D24.take 12).drop 4, ∀ a ∈ tbl1, leD d (dotsOf a) = true → goodIn (sho (lrun d 4).1) a.2.2 = true := by decide +kernel
theorem claimA3 : ∀ d ∈ (D24.drop 12).take 6, ∀ a ∈ tbl1, leD d (dotsOf a) = true → goodIn (sho (lrun d 4).1) a.2.2 = true := by decide +kernel
theorem claimA4 : ∀ d ∈ (D24.drop 12).drop 6, ∀ a ∈ tbl1, leD d (dotsOf a) = true → goodIn (sho (lrun d 4).1) a.2.2 = true := by decide +kernel
theorem claimA : ∀ d ∈ D24, ∀ a ∈ tbl1, leD d (dotsOf a) = true → goodIn (sho (lrun d 4).1) a.2.2 = true := halves 12 (halves 4 claimA1 claimA2) (halves 6 claimA3 claimA4)
theorem claimB1 : ∀ d ∈ D24.take 12, ∀ a ∈ tbl1, leD (dotsOf a) d = true → goodIn (sho a.1) (lrun d 4).2 = true := by decide +kernel
theorem claimB2 : ∀ d ∈ D24.drop 12, ∀ a ∈ tbl1, leD (dotsOf a) d = true → goodIn (sho a.1) (lrun d 4).2 = true := by decide +kernel
theorem claimB : ∀ d ∈ D24, ∀ a ∈ tbl1, leD (dotsOf a) d = true → goodIn (sho a.1) (lrun d 4).2 = true := halves 12 claimB1 claimB2
theorem claimC1 : ∀ a ∈ tbl1.take 32, ∀ o ∈ orders, begunB a.2.2 o = keptB a.1 o := by decide +kernel
theorem claimC2 : ∀ a ∈ tbl1.drop 32, ∀ o ∈ orders, begunB a.2.2 o = keptB a.1 o := by decide +kernel
theorem claimC : ∀ a ∈ tbl1, ∀ o ∈ orders, begunB a.2.2 o = keptB a.1 o := halves 32 claimC1 claimC2
theorem claimD0 : ∀ d ∈ D24, ∀ e ∈ D24, keptB (lrun d 4).1 (lrun e 4).1 = true → leD d e = true := by decide +kernel
theorem claimD : ∀ a ∈ tbl1, ∀ b ∈ tbl1, keptB a.1 b.1 = true → leD (dotsOf a) (dotsOf b) = true := fun a ha b hb h => by
  have ea := tbl_orders a ha
  have eb := tbl_orders b hb
  exact claimD0 _ ea.2.2.2 _ eb.2.2.2 (by rw [ea.2.2.1, eb.2.2.1]; exact h)
end

section
open PySem PySem.W PyProof.Rows PySem.Calls PySem.Spec
theorem d24_tbl : ∀ x ∈ List.range 2, ∀ y ∈ List.range 3, ∀ z ∈ List.range 4, [0, x, y, z] ∈ D24 := by decide +kernel
theorem d24_mem {w x y z : Nat} (hw : w ≤ 0) (hx : x ≤ 1) (hy : y ≤ 2) (hz : z ≤ 3) : [w, x, y, z] ∈ D24 := by
  have : w = 0 := by omega
  subst this
  exact d24_tbl x (by simp; omega) y (by simp; omega) z (by simp; omega)
theorem dots_getD (a : WS) (k : Nat) : (dotsOf a).getD k 0 = a.2.1.getD k 0 - 2 := by
  unfold dotsOf
  rw [List.getD_eq_getElem?_getD, List.getD_eq_getElem?_getD, List.getElem?_map]
  cases a.2.1[k]? <;> rfl
theorem low_mem {a b : WS} (ha : a ∈ tbl1) (hb : b ∈ tbl1) : lowD a b ∈ D24 := by
  have h0 := dots_le ha (show 0 < 4 by decide)
  have h1 := dots_le ha (show 1 < 4 by decide)
  have h2 := dots_le ha (show 2 < 4 by decide)
  have h3 := dots_le ha (show 3 < 4 by decide)
  exact d24_mem (by show min _ _ - 2 ≤ 0; omega) (by show min _ _ - 2 ≤ 1; omega) (by show min _ _ - 2 ≤ 2; omega) (by show min _ _ - 2 ≤ 3; omega)
theorem high_mem {a b : WS} (ha : a ∈ tbl1) (hb : b ∈ tbl1) : highD a b ∈ D24 := by
  have h0 := dots_le ha (show 0 < 4 by decide)
  have h1 := dots_le ha (show 1 < 4 by decide)
  have h2 := dots_le ha (show 2 < 4 by decide)
  have h3 := dots_le ha (show 3 < 4 by decide)
  have g0 := dots_le hb (show 0 < 4 by decide)
  have g1 := dots_le hb (show 1 < 4 by decide)
  have g2 := dots_le hb (show 2 < 4 by decide)
  have g3 := dots_le hb (show 3 < 4 by decide)
  exact d24_mem (by show max _ _ - 2 ≤ 0; omega) (by show max _ _ - 2 ≤ 1; omega) (by show max _ _ - 2 ≤ 2; omega) (by show max _ _ - 2 ≤ 3; omega)
theorem low_getD (a b : WS) {k : Nat} (hk : k < 4) : (lowD a b).getD k 0 = min (a.2.1.getD k 0) (b.2.1.getD k 0) - 2 := by
  have : k = 0 ∨ k = 1 ∨ k = 2 ∨ k = 3 := by omega
  rcases this with rfl | rfl | rfl | rfl <;> rfl
theorem high_getD (a b : WS) {k : Nat} (hk : k < 4) : (highD a b).getD k 0 = max (a.2.1.getD k 0) (b.2.1.getD k 0) - 2 := by
  have : k = 0 ∨ k = 1 ∨ k = 2 ∨ k = 3 := by omega
  rcases this with rfl | rfl | rfl | rfl <;> rfl
theorem leD_of {d e : List Nat} (h : ∀ k < 4, d.getD k 0 ≤ e.getD k 0) : leD d e = true := by
  unfold leD
  rw [List.all_eq_true]
  intro k hk
  exact decide_eq_true (h k (by simp at hk; omega))
theorem of_leD {d e : List Nat} (h : leD d e = true) {k : Nat} (hk : k < 4) : d.getD k 0 ≤ e.getD k 0 := by
  unfold leD at h
  rw [List.all_eq_true] at h
  exact of_decide_eq_true (h k (by simp; omega))
theorem ext4 {d e : List Nat} (hd : d.length = 4) (he : e.length = 4) (h : ∀ k < 4, d.getD k 0 = e.getD k 0) : d = e := by
  apply List.ext_getElem (by omega)
  intro k h1 h2
  have := h k (by omega)
  simpa [List.getD_eq_getElem?_getD, h1, h2] using this
theorem low_order {a b : WS} (ha : a ∈ tbl1) (hb : b ∈ tbl1) : (lrun (lowD a b) 4).1 ∈ orders ∧ invs (lrun (lowD a b) 4).1 + 12 ≤ 40 := by
  have h := (laid_orders _ (low_mem ha hb)).1
  have := (orders_sho _ h).2.2.2.2.2.2
  exact ⟨h, by omega⟩
theorem high_order {a b : WS} (ha : a ∈ tbl1) (hb : b ∈ tbl1) : (lrun (highD a b) 4).1 ∈ orders ∧ invs (lrun (highD a b) 4).1 + 12 ≤ 40 ∧ isWord (lrun (highD a b) 4).2 = true := by
  have h := laid_orders _ (high_mem ha hb)
  have := (orders_sho _ h.1).2.2.2.2.2.2
  exact ⟨h.1, by omega, h.2⟩
theorem good_low {a b : WS} (ha : a ∈ tbl1) (hb : b ∈ tbl1) : goodIn (sho (lrun (lowD a b) 4).1) a.2.2 = true ∧ goodIn (sho (lrun (lowD a b) 4).1) b.2.2 = true :=
  ⟨claimA _ (low_mem ha hb) a ha (leD_of fun k hk => by rw [low_getD a b hk, dots_getD]; omega), claimA _ (low_mem ha hb) b hb (leD_of fun k hk => by rw [low_getD a b hk, dots_getD]; omega)⟩
theorem good_high {a b : WS} (ha : a ∈ tbl1) (hb : b ∈ tbl1) : goodIn (sho a.1) (lrun (highD a b) 4).2 = true ∧ goodIn (sho b.1) (lrun (highD a b) 4).2 = true :=
  ⟨claimB _ (high_mem ha hb) a ha (leD_of fun k hk => by rw [high_getD a b hk, dots_getD]; omega), claimB _ (high_mem ha hb) b hb (leD_of fun k hk => by rw [high_getD a b hk, dots_getD]; omega)⟩
theorem begun_kept {a b : WS} (ha : a ∈ tbl1) (hb : b ∈ tbl1) : begunB a.2.2 b.1 = keptB a.1 b.1 := claimC a ha _ (tbl_orders b hb).1
theorem kept_eq {a b : WS} (ha : a ∈ tbl1) (hb : b ∈ tbl1) (h : keptB a.1 b.1 = true) : (lrun (lowD a b) 4).1 = a.1 ∧ (lrun (highD a b) 4).1 = b.1 := by
  have hl := claimD a ha b hb h
  have la : (dotsOf a).length = 4 := by unfold dotsOf; rw [List.length_map]; exact (good_at (List.mem_of_mem_tail ha)).2.2.1
  have lb : (dotsOf b).length = 4 := by unfold dotsOf; rw [List.length_map]; exact (good_at (List.mem_of_mem_tail hb)).2.2.1
  have e1 : lowD a b = dotsOf a := ext4 rfl la fun k hk => by
    have := of_leD hl hk
    rw [dots_getD, dots_getD] at this
    have h1 := dots_le ha hk
    have h2 := dots_le hb hk
    rw [low_getD a b hk, dots_getD]; omega
  have e2 : highD a b = dotsOf b := ext4 rfl lb fun k hk => by
    have := of_leD hl hk
    rw [dots_getD, dots_getD] at this
    have h1 := dots_le ha hk
    have h2 := dots_le hb hk
    rw [high_getD a b hk, dots_getD]; omega
  rw [e1, e2]
  exact ⟨(tbl_orders a ha).2.2.1, (tbl_orders b hb).2.2.1⟩
theorem goodIn_use {o W : List Nat} (ho : o ∈ orders) (h : goodIn (sho o) W = true) : (sho o).any (fun w => fits w W) = true ∧ ∀ w ∈ sho o, w ∈ shwords ∧ w.length ≤ W.length ∧ alike w W = true := by
  unfold goodIn at h
  rw [Bool.and_eq_true] at h
  refine ⟨h.1, fun w hw => ?_⟩
  have := List.all_eq_true.mp h.2 w hw
  rw [Bool.and_eq_true] at this
  exact ⟨List.mem_flatMap.mpr ⟨o, ho, hw⟩, of_decide_eq_true this.1, this.2⟩
end

section
open PySem PySem.W PyProof.Rows PySem.Calls PySem.Spec
theorem start_facts : ∀ a ∈ tbl1, Txt.split (sx (a.2.2 ++ [46, 46, 46])) (Str.ofString "...") = sx a.2.2 :: ([] ++ [Str.empty]) ∧ (Builtin.Str.occurrences (sx (a.2.2 ++ [46, 46, 46])) (Str.ofString "...") 0 (sx (a.2.2 ++ [46, 46, 46])).length 1).isEmpty = false := by decide +kernel
def begP (W : List Nat) : Value → Bool
  | .str x _ => ell x (sx W) []
  | _ => false
theorem word_ok {w : List Nat} (h : isWord w = true) : PyData.strOk (sx w) = true := by
  have := isWord_sigma h
  unfold PyData.strOk sx
  rw [List.all_toArray, List.all_eq_true]
  intro c hc
  have := this.2 c hc
  apply decide_eq_true
  simp [sigma] at this
  omega
theorem filter_strs {W : List Nat} : ∀ {vs ys : List Value} {l : List (List Nat)}, StrsAre vs (l.map sx) → Paired (fun v y => y = v) (vs.filter (begP W)) ys → StrsAre ys ((l.filter fun w => ell (sx w) (sx W) []).map sx)
  | vs, ys, [], h, hp => by
    have := h.nil_inv
    subst this
    cases hp
    exact .nil
  | vs, ys, c :: l, h, hp => by
    obtain ⟨t, vs, rfl, h'⟩ := h.cons_inv
    by_cases hc : ell (sx c) (sx W) [] = true
    · rw [List.filter_cons_of_pos (by exact hc)] at hp
      rw [List.filter_cons_of_pos (by exact hc)]
      cases hp with
      | cons he ht =>
        subst he
        exact .cons _ _ (filter_strs h' ht)
    · rw [List.filter_cons_of_neg (by exact hc)] at hp
      rw [List.filter_cons_of_neg (by exact hc)]
      exact filter_strs h' hp
theorem begun_val (W o : List Nat) : (!decide (((sho o).filter fun w => ell (sx w) (sx W) []).map sx = [])) = begunB W o := by
  unfold begunB
  generalize sho o = l
  induction l with
  | nil => rfl
  | cons c l ih =>
    by_cases hc : ell (sx c) (sx W) [] = true
    · rw [List.filter_cons_of_pos (by exact hc), List.any_cons, hc]; simp
    · rw [List.filter_cons_of_neg (by exact hc), List.any_cons, ih]
      rw [Bool.eq_false_iff.mpr hc, Bool.false_or]
theorem sx_dots (W : List Nat) : sx W ++ Str.ofString "..." = sx (W ++ [46, 46, 46]) := by
  rw [show Str.ofString "..." = sx [46, 46, 46] from by decide +kernel, sx_append]
end

section
open PySem PySem.W PyProof.Rows PySem.Calls PySem.Spec
theorem two_ints {els : List (Addr × Obj)} {vs : List Value} {ds : List Dat} {a b : Int} (h : DatAll els vs [.int a, .int b]) (h' : DatAll els vs ds) : ds = [.int a, .int b] := by
  cases h with
  | cons h1 r =>
    cases r with
    | cons h2 r =>
      cases r with
      | nil =>
        cases h1
        cases h2
        cases h' with
        | cons g1 r =>
          cases r with
          | cons g2 r =>
            cases r
            cases g1
            cases g2
            rfl
theorem dat_one {els : List (Addr × Obj)} {v : Value} {d : Dat} {x : Nat × Nat} (hf : ∀ p ∈ els, ∀ q ∈ els, p.1 = q.1 → p.2 = q.2) (h : DatIn els v (pd x)) (h' : DatIn els v d) : d = pd x := by
  unfold pd at h
  cases h with
  | list hm ha =>
    cases h' with
    | list hm' ha' =>
      have e := hf _ hm _ hm' rfl
      injection e with _ _ e _
      injection e with e _
      have e := congrArg Array.toList e
      (try dsimp only at e)
      rw [← e] at ha'
      rw [two_ints ha ha']; rfl
    | tuple hm' ha' =>
      have e := hf _ hm _ hm' rfl
      injection e with e _ _ _
      exact absurd (Value.type.inj e) (by decide)
open Classical in
noncomputable def memD (ds : List Dat) (d : Dat) : Bool := decide (d ∈ ds)
theorem memD_eq {ds : List Dat} {d : Dat} : ∀ i : Decidable (d ∈ ds), @decide _ i = memD ds d := fun i => by
  unfold memD
  congr
open Classical in
theorem memD_t {ds : List Dat} {d : Dat} (h : d ∈ ds) : memD ds d = true := by unfold memD; exact decide_eq_true h
open Classical in
theorem memD_f {ds : List Dat} {d : Dat} (h : d ∉ ds) : memD ds d = false := by unfold memD; exact decide_eq_false h
open Classical in
noncomputable def notP (els : List (Addr × Obj)) (ds : List Dat) (v : Value) : Bool := decide (∃ d, DatIn els v d ∧ d ∉ ds)
open Classical in
theorem notP_eq {els : List (Addr × Obj)} {ds : List Dat} {v : Value} {x : Nat × Nat} (hf : ∀ p ∈ els, ∀ q ∈ els, p.1 = q.1 → p.2 = q.2) (h : DatIn els v (pd x)) : notP els ds v = !memD ds (pd x) := by
  unfold notP
  by_cases hx : pd x ∈ ds
  · rw [memD_t hx]
    refine decide_eq_false ?_
    rintro ⟨d, hd, hn⟩
    exact hn (dat_one hf h hd ▸ hx)
  · rw [memD_f hx]
    exact decide_eq_true ⟨_, h, hx⟩
theorem filter_dat {els : List (Addr × Obj)} {ds : List Dat} (hf : ∀ p ∈ els, ∀ q ∈ els, p.1 = q.1 → p.2 = q.2) : ∀ {vs ys : List Value} {l : List (Nat × Nat)}, DatAll els vs (l.map pd) → Paired (fun v y => y = v) (vs.filter (notP els ds)) ys → DatAll els ys ((l.filter fun x => !memD ds (pd x)).map pd)
  | _, _, [], h, hp => by
    cases h
    cases hp
    exact .nil
  | _, _, x :: l, h, hp => by
    cases h with
    | cons h1 r =>
      have e := notP_eq (ds := ds) hf h1
      by_cases hx : pd x ∈ ds
      · rw [memD_t hx] at e
        rw [List.filter_cons_of_neg (by rw [e]; decide)] at hp
        rw [List.filter_cons_of_neg (by rw [memD_t hx]; decide)]
        exact filter_dat hf r hp
      · rw [memD_f hx] at e
        rw [List.filter_cons_of_pos (by rw [e]; rfl)] at hp
        rw [List.filter_cons_of_pos (by rw [memD_f hx]; rfl)]
        cases hp with
        | cons he ht =>
          subst he
          exact .cons h1 (filter_dat hf r ht)
theorem pd_inj {x y : Nat × Nat} (h : pd x = pd y) : x = y := by
  unfold pd at h
  injection h with h
  injection h with h1 h2
  injection h2 with h2 _
  injection h1 with h1
  injection h2 with h2
  exact Prod.ext (by omega) (by omega)
theorem kept_val (o q : List Nat) (i : Decidable (((tOut o 4).filter fun x => !memD ((tOut q 4).map pd) (pd x)).map pd = [])) : @decide _ i = keptB o q := by
  unfold keptB
  generalize tOut q 4 = m at *
  have hm : ∀ x, pd x ∈ m.map pd ↔ x ∈ m := fun x => by
    constructor
    · intro h
      obtain ⟨y, hy, e⟩ := List.mem_map.mp h
      exact pd_inj e ▸ hy
    · exact fun h => List.mem_map.mpr ⟨x, h, rfl⟩
  have key : ∀ l : List (Nat × Nat), ((l.filter fun x => !memD (m.map pd) (pd x)).map pd = [] ↔ (l.all fun x => m.contains x) = true) := by
    intro l
    induction l with
    | nil => simp
    | cons x l ih =>
      by_cases hx : x ∈ m
      · rw [List.filter_cons_of_neg (by rw [memD_t ((hm x).mpr hx)]; decide), List.all_cons, ih, List.contains_iff_mem.mpr hx, Bool.true_and]
      · rw [List.filter_cons_of_pos (by rw [memD_f (fun h => hx ((hm x).mp h))]; rfl), List.all_cons]
        have : m.contains x = false := Bool.eq_false_iff.mpr fun h => hx (List.contains_iff_mem.mp h)
        rw [this, Bool.false_and]
        simp
  by_cases h : ((tOut o 4).all fun x => m.contains x) = true
  · rw [h]; exact decide_eq_true ((key _).mpr h)
  · rw [Bool.eq_false_iff.mpr h]; exact decide_eq_false fun e => h ((key _).mp e)
theorem dat_at {els : List (Addr × Obj)} : ∀ {vs : List Value} {l : List (Nat × Nat)} {j : Nat} {v : Value}, DatAll els vs (l.map pd) → vs[j]? = some v → ∃ x ∈ l, DatIn els v (pd x)
  | _, [], _, _, h, e => by cases h; simp at e
  | _, x :: l, 0, _, h, e => by
    cases h with
    | cons h1 r => simp at e; subst e; exact ⟨x, .head _, h1⟩
  | _, x :: l, j + 1, _, h, e => by
    cases h with
    | cons h1 r =>
      obtain ⟨y, hy, hd⟩ := dat_at (j := j) r (by simpa using e)
      exact ⟨y, .tail _ hy, hd⟩
end

section
open PySem PySem.W PyProof.Rows PySem.Calls PySem.Spec
theorem top_F13 : True := by
  w_top off
  trivial
theorem fin : PySem.Challenge.rw_sc0075_01.Holds := hd (by
  k_fill
  intro wd s0 s1 mg mb G Y fa o pm cd doc dV kV ho hfd hcd hD hmg hg args vals as hpre hlay hrd hwl hlo
  have KX := kIn_of Y
  refine Ground.open G ?_
  intro T B D TE TW
  refine guard_noD D (by decide +kernel) ?_
  clear D
  obtain ⟨_, _, M⟩ := bmod_of_top T
  wrow_args hpre hlay hrd hwl hlo
  refine enter_call ?_
  w_top on
  refine codeAny_mono ?_ (fun _ _ g => GoodW.toG g)
  have K0 := below_caller (Top.heap T)
  w_call any ho hfd hcd hD T F
  k_drop
  k_fold
  rename Frag.In _ _ => XX
  rename Top _ _ _ _ _ _ => T
  rename Fr _ _ _ _ => F
  rename News _ _ _ _ => N
  rename IntsAre _ _ => hI
  rename Heap.IsList _ _ _ => hL
  rename ¬ _ < (_ : Int) => h63
  rename_i w13 w12 ns hs hlay0 hL2 hr1 hl2 w8 w7 a vs w4 ra w1 r0 hr hcond h1 tk1 o1 o2 o3 o4 d1 d2 d3 d4 X0
  have hQ : ∀ h' tk m, Fr s1.heap s1.heap.objs.size h' m → qk (.ret (.bool true)) { s1 with heap := h', toks := tk } := by
    intro h' tk m F
    show GoodW _ _ _ _ _ _ _
    k_steps
  clear_value qk ek
  replace d1 : o1.data = .cell none := d1
  replace d2 : o2.data = .cell none := d2
  replace d3 : o3.data = .cell none := d3
  replace d4 : o4.data = .cell none := d4
  clear B TE TW M hcd hfd hmg hs hlay0 hL2 hr1 hl2 ra r0 hr hcond hD X0 ho hg K0 w1 Y G
  generalize hLs : s1.heap.objs.size = L at *
  have hRoom : ∀ env : Env, Room (callerA.deeper env) 40 := fun env => ⟨rfl, (by show callerA.depth + 1 + 40 < recursionLimit; decide), (by show callerA.units + 3 + 8 * 40 < cLine; decide)⟩
  refine cut (ι := (Addr × Nat × List Value × List Int) × Obj) (h₀ := s1.heap) (L := L) (fun i => IntsAre i.1.2.2.1 i.1.2.2.2 ∧ (i.1.2.2.2.length ≤ 12 ∧ ∀ m ∈ i.1.2.2.2, 0 ≤ m ∧ m < 2187) ∧ i.2.data = .cell (some (.ref i.1.1)) ∧ @Ne Nat i.1.1 (L + 1) ∧ @Ne Nat i.1.1 (L + 1 + 1) ∧ @Ne Nat i.1.1 (L + 1 + 1 + 1) ∧ @Ne Nat i.1.1 (L + 1 + 1 + 1 + 1))
    (fun i => [("script", .ref a)]) (fun i => [(i.1.1, { cls := .type "list", data := .seq i.1.2.2.1.toArray i.1.2.1 }), (L + 1 + 1 + 1 + 1, o1), (L + 1 + 1 + 1, o2), (L + 1 + 1, o3), (L + 1, i.2)]) ?_ ?_
  · intro K hK hRet
    clear hQ
    repeat (first | (fail_if_success (with_reducible show wpAny _ _ (eval (PySem.Expr.ListComp _ _ _ _) _) _ _ _)); walk1)
    (try dsimp only)
    refine wpAny_ListComp_free (cl := []) (fun _ => true) SmallInt rfl (by decide) rfl (by decide) rfl ?_
    repeat (first | (fail_if_success (with_reducible show wpAny _ _ (pyIter _) _ _ _)); walk1)
    (try dsimp only)
    rename News _ _ _ _ => N
    rename Fr _ _ _ _ => F
    rename IntsAre _ (List.take _ _) => hI12
    rename _ ∧ _ => l1
    rename Addr => B
    have ln := hI12.length
    rw [List.length_take] at ln
    refine compList (News.isList N (.head _)) (by rw [List.size_toArray]; omega) rfl F N ?_ ?_ ?_
    · intro C j v s₃ m₃ E' hv F N
      exact wpAny_pure ⟨rfl, _, _, rfl, fun _ _ e => e⟩
    · intro C j v s₃ m₃ E' hv hp F N
      obtain ⟨x, tx, rfl, hx⟩ := hI12.at j v (by simpa using hv)
      k_steps
      all_goals (try dsimp only)
      all_goals first | exact SmallInt.mod _ _ _ | exact ⟨SmallInt.mod _ _ _, _, _, rfl, fun _ _ e => e⟩ | exact ⟨_, _, rfl, fun _ _ e => e⟩ | exact (0 : Nat) | exact Str.empty | exact Value.none | exact []
    · intro D2 h' tk' ys k3 vs2 F2 N2 hne hlen hP hpr H'
      (try dsimp only)
      rw [filter_tt] at hpr
      obtain ⟨ks, hks, hksm⟩ := ints_of_small hpr
      have hkl : ks.length ≤ 12 := by
        have h1 := hks.length
        have h2 := paired_len hpr
        rw [h2, hlen, List.size_toArray] at h1
        omega
      have n4 : @Ne Nat D2 (L + 1 + 1 + 1 + 1) := Ne.symm (hne _ (.tail _ (.head _)))
      have n3 : @Ne Nat D2 (L + 1 + 1 + 1) := Ne.symm (hne _ (.tail _ (.tail _ (.head _))))
      have n2 : @Ne Nat D2 (L + 1 + 1) := Ne.symm (hne _ (.tail _ (.tail _ (.tail _ (.head _)))))
      have n1 : @Ne Nat D2 (L + 1) := Ne.symm (hne _ (.tail _ (.tail _ (.tail _ (.tail _ (.head _))))))
      k_steps
      (try dsimp only)
      rename News _ _ _ _ => N3
      rename Fr _ _ _ _ => F3
      rename (Obj.data _ = Data.cell _) => hcl
      refine hK ⟨(D2, k3, ys.toList, ks), _⟩ F3 (News.sub N3 ?_) ⟨rfl, trivial⟩ ⟨hks, ⟨hkl, hksm⟩, hcl, n1, n2, n3, n4⟩
      ((try dsimp only [List.cons_append, List.nil_append]); repeat' (first | exact sub_none | with_reducible exact sub_self | with_reducible exact sub_left | with_reducible exact mem_here | refine sub_more ?_ ?_ | refine mem_skip ?_ | refine mem_right ?_ | refine sub_skip ?_ | refine sub_right ?_))
  --CUT2
  rintro ⟨⟨DN, kN, un, ks⟩, oc1⟩ u h₂ tk₂ ⟨hks, ⟨hkl, hksm⟩, d4, n1, n2, n3, n4⟩ F N
  dsimp only at F N hks hkl hksm d4 n1 n2 n3 n4 ⊢
  have hul : un.length ≤ 12 := by have := hks.length; omega
  refine cut (ι := WR × Obj) (h₀ := s1.heap) (L := L) (fun i => WOk i.1 ∧ i.2.data = .cell (some (.ref i.1.R)) ∧ @Ne Nat i.1.R (L + 1 + 1 + 1) ∧ @Ne Nat i.1.R (L + 1 + 1 + 1 + 1) ∧ @Ne Nat i.1.B (L + 1 + 1 + 1) ∧ @Ne Nat i.1.B (L + 1 + 1 + 1 + 1) ∧ @Ne Nat i.1.D (L + 1 + 1 + 1) ∧ @Ne Nat i.1.D (L + 1 + 1 + 1 + 1))
    (fun i => []) (fun i => [(i.1.R, W.listOf #[.ref i.1.D, .str (sx i.1.st.2.2) i.1.t, .ref i.1.B] 0), (i.1.B, { cls := .type "list", data := .seq i.1.vs.toArray i.1.k1 }), (i.1.D, { cls := .type "list", data := .seq i.1.us.toArray i.1.k0 }), (DN, { cls := .type "list", data := .seq un.toArray kN }), (L + 1 + 1 + 1 + 1, o1), (L + 1 + 1 + 1, o2), (L + 1 + 1, i.2), (L + 1, oc1)]) ?_ ?_
  · intro K hK hRet
    clear hQ
    repeat (first | (fail_if_success (with_reducible show wpAny _ _ (eval (PySem.Expr.ListComp _ _ _ _) _) _ _ _)); walk1)
    (try dsimp only)
    refine wpAny_ListComp_free (cl := [("numbers", L + 1)]) (fun _ => true) SmallInt rfl (by decide) rfl (by decide) rfl ?_
    repeat (first | (fail_if_success (with_reducible show wpAny _ _ (pyIter _) _ _ _)); walk1)
    (try dsimp only)
    rename IsRange _ _ _ _ _ _ _ _ => hr
    rename News _ _ _ _ => N
    rename Fr _ _ _ _ => F
    obtain ⟨nr, hnr, hrs, hrn, hrl⟩ := rs2 0 (.inl rfl) ks.length hkl
    refine compRangeB (n := nr) hr hrs hrn (by omega) rfl F N ?_ ?_ ?_
    · intro C j v s₃ m₃ E' hv F N
      exact wpAny_pure ⟨rfl, _, _, rfl, fun _ _ e => e⟩
    · rintro C j v s₃ m₃ E' ⟨hj, tx, rfl⟩ hp F N
      have hjl := hrl j hj
      k_steps
      all_goals (try dsimp only)
      all_goals first | exact getD_small hksm _ _ _ | exact ⟨getD_small hksm _ _ _, _, _, rfl, fun _ _ e => e⟩ | exact ⟨_, _, rfl, fun _ _ e => e⟩ | exact (0 : Nat) | exact Str.empty | exact Value.none | exact [] | skip
    · intro D2 h' tk' ys k3 vs2 F2 N2 hne hlen hP hpr H'
      (try dsimp only)
      rw [filter_tt] at hpr
      obtain ⟨xs, hxs, hxsm⟩ := ints_of_small hpr
      have hxl : xs.length ≤ 12 := by
        have h1 := hxs.length
        have h2 := paired_len hpr
        omega
      have hsum := sum_small xs hxsm
      clear hpr hP hr hrs hrn hrl
      have hne1 : @Ne Nat D2 DN := Ne.symm (hne _ (by first | exact .head _ | exact .tail _ (.head _)))
      repeat (first | (fail_if_success (with_reducible show wpAny _ _ (call (Value.ref 101) _) _ _ _)); walk1)
      (try dsimp only)
      rename News _ _ _ _ => N
      rename Fr _ _ _ _ => F
      have hm := small_mod (19 + xs.sum)
      generalize (19 + xs.sum).fmod 2187 = num at *
      obtain ⟨n, rfl⟩ : ∃ n : Nat, num = (n : Int) := ⟨num.toNat, by omega⟩
      refine Does.useM (does_walk n _ (by omega)) ((hRoom _).mono (by decide)) F N XX T trivial ?_
      clear F N
      rintro v h' tk' tl off F N ⟨R, B, D, t, k1, k0, vs1, us1, e1, e2, e3, e4, e5⟩
      have htb := wrun_tbl1 n
      generalize wrun n 7 = st at *
      subst e1
      rw [e2] at off N
      clear e2
      have mR1 : @Ne Nat R (L + 1) := off _ (.head _) (L + 1, oc1) (by ((try dsimp only [List.cons_append, List.nil_append]); repeat (first | with_reducible exact mem_here | refine mem_skip ?_ | refine mem_right ?_)))
      have mR2 : @Ne Nat R (L + 1 + 1) := off _ (.head _) (L + 1 + 1, o3) (by ((try dsimp only [List.cons_append, List.nil_append]); repeat (first | with_reducible exact mem_here | refine mem_skip ?_ | refine mem_right ?_)))
      have mR3 : @Ne Nat R (L + 1 + 1 + 1) := off _ (.head _) (L + 1 + 1 + 1, o2) (by ((try dsimp only [List.cons_append, List.nil_append]); repeat (first | with_reducible exact mem_here | refine mem_skip ?_ | refine mem_right ?_)))
      have mR4 : @Ne Nat R (L + 1 + 1 + 1 + 1) := off _ (.head _) (L + 1 + 1 + 1 + 1, o1) (by ((try dsimp only [List.cons_append, List.nil_append]); repeat (first | with_reducible exact mem_here | refine mem_skip ?_ | refine mem_right ?_)))
      have mR5 : @Ne Nat R DN := off _ (.head _) (DN, { cls := .type "list", data := .seq un.toArray kN }) (by ((try dsimp only [List.cons_append, List.nil_append]); repeat (first | with_reducible exact mem_here | refine mem_skip ?_ | refine mem_right ?_)))
      have mB1 : @Ne Nat B (L + 1) := off _ (.tail _ (.head _)) (L + 1, oc1) (by ((try dsimp only [List.cons_append, List.nil_append]); repeat (first | with_reducible exact mem_here | refine mem_skip ?_ | refine mem_right ?_)))
      have mB2 : @Ne Nat B (L + 1 + 1) := off _ (.tail _ (.head _)) (L + 1 + 1, o3) (by ((try dsimp only [List.cons_append, List.nil_append]); repeat (first | with_reducible exact mem_here | refine mem_skip ?_ | refine mem_right ?_)))
      have mB3 : @Ne Nat B (L + 1 + 1 + 1) := off _ (.tail _ (.head _)) (L + 1 + 1 + 1, o2) (by ((try dsimp only [List.cons_append, List.nil_append]); repeat (first | with_reducible exact mem_here | refine mem_skip ?_ | refine mem_right ?_)))
      have mB4 : @Ne Nat B (L + 1 + 1 + 1 + 1) := off _ (.tail _ (.head _)) (L + 1 + 1 + 1 + 1, o1) (by ((try dsimp only [List.cons_append, List.nil_append]); repeat (first | with_reducible exact mem_here | refine mem_skip ?_ | refine mem_right ?_)))
      have mB5 : @Ne Nat B DN := off _ (.tail _ (.head _)) (DN, { cls := .type "list", data := .seq un.toArray kN }) (by ((try dsimp only [List.cons_append, List.nil_append]); repeat (first | with_reducible exact mem_here | refine mem_skip ?_ | refine mem_right ?_)))
      have mD1 : @Ne Nat D (L + 1) := off _ (.tail _ (.tail _ (.head _))) (L + 1, oc1) (by ((try dsimp only [List.cons_append, List.nil_append]); repeat (first | with_reducible exact mem_here | refine mem_skip ?_ | refine mem_right ?_)))
      have mD2 : @Ne Nat D (L + 1 + 1) := off _ (.tail _ (.tail _ (.head _))) (L + 1 + 1, o3) (by ((try dsimp only [List.cons_append, List.nil_append]); repeat (first | with_reducible exact mem_here | refine mem_skip ?_ | refine mem_right ?_)))
      have mD3 : @Ne Nat D (L + 1 + 1 + 1) := off _ (.tail _ (.tail _ (.head _))) (L + 1 + 1 + 1, o2) (by ((try dsimp only [List.cons_append, List.nil_append]); repeat (first | with_reducible exact mem_here | refine mem_skip ?_ | refine mem_right ?_)))
      have mD4 : @Ne Nat D (L + 1 + 1 + 1 + 1) := off _ (.tail _ (.tail _ (.head _))) (L + 1 + 1 + 1 + 1, o1) (by ((try dsimp only [List.cons_append, List.nil_append]); repeat (first | with_reducible exact mem_here | refine mem_skip ?_ | refine mem_right ?_)))
      have mD5 : @Ne Nat D DN := off _ (.tail _ (.tail _ (.head _))) (DN, { cls := .type "list", data := .seq un.toArray kN }) (by ((try dsimp only [List.cons_append, List.nil_append]); repeat (first | with_reducible exact mem_here | refine mem_skip ?_ | refine mem_right ?_)))
      clear off
      replace N := News.sub N (l' := [(R, W.listOf #[.ref D, .str (sx st.2.2) t, .ref B] 0), (B, { cls := .type "list", data := .seq vs1.toArray k1 }), (D, { cls := .type "list", data := .seq us1.toArray k0 }), (DN, { cls := .type "list", data := .seq un.toArray kN }), (L + 1 + 1 + 1 + 1, o1), (L + 1 + 1 + 1, o2), (L + 1 + 1, o3), (L + 1, oc1)]) (by ((try dsimp only [List.cons_append, List.nil_append]); repeat' (first | exact sub_none | with_reducible exact sub_self | with_reducible exact sub_left | with_reducible exact mem_here | refine sub_more ?_ ?_ | refine mem_skip ?_ | refine mem_right ?_ | refine sub_skip ?_ | refine sub_right ?_)))
      (try dsimp only)
      k_steps
      (try dsimp only)
      rename News _ _ _ _ => N
      rename Fr _ _ _ _ => F
      rename (Obj.data _ = Data.cell _) => hcl
      refine hK ⟨⟨R, B, D, t, k1, k0, vs1, us1, st⟩, _⟩ F (News.sub N ?_) trivial ⟨⟨htb, e4, e5, e3⟩, hcl, mR3, mR4, mB3, mB4, mD3, mD4⟩
      ((try dsimp only [List.cons_append, List.nil_append]); repeat' (first | exact sub_none | with_reducible exact sub_self | with_reducible exact sub_left | with_reducible exact mem_here | refine sub_more ?_ ?_ | refine mem_skip ?_ | refine mem_right ?_ | refine sub_skip ?_ | refine sub_right ?_))
  --CUT3
  rintro ⟨⟨R1, B1, D1, tw1, q1, p1, ms1, os1, st1⟩, oc2⟩ u h₂ tk₂ ⟨⟨tb1, ios1, ims1, x1⟩, dc2, y1, y2, y3, y4, y5, y6⟩ F N
  dsimp only at F N tb1 ios1 ims1 x1 dc2 y1 y2 y3 y4 y5 y6 ⊢
  refine cut (ι := WR × Obj) (h₀ := s1.heap) (L := L) (fun i => WOk i.1 ∧ i.2.data = .cell (some (.ref i.1.R)) ∧ @Ne Nat i.1.R (L + 1 + 1 + 1 + 1) ∧ @Ne Nat i.1.B (L + 1 + 1 + 1 + 1) ∧ @Ne Nat i.1.D (L + 1 + 1 + 1 + 1))
    (fun i => []) (fun i => [(i.1.R, W.listOf #[.ref i.1.D, .str (sx i.1.st.2.2) i.1.t, .ref i.1.B] 0), (i.1.B, { cls := .type "list", data := .seq i.1.vs.toArray i.1.k1 }), (i.1.D, { cls := .type "list", data := .seq i.1.us.toArray i.1.k0 }), (R1, W.listOf #[.ref D1, .str (sx st1.2.2) tw1, .ref B1] 0), (B1, { cls := .type "list", data := .seq ms1.toArray q1 }), (D1, { cls := .type "list", data := .seq os1.toArray p1 }), (L + 1 + 1 + 1 + 1, o1), (L + 1 + 1 + 1, i.2), (L + 1 + 1, oc2)]) ?_ ?_
  · intro K hK hRet
    clear hQ
    repeat (first | (fail_if_success (with_reducible show wpAny _ _ (eval (PySem.Expr.ListComp _ _ _ _) _) _ _ _)); walk1)
    (try dsimp only)
    refine wpAny_ListComp_free (cl := [("numbers", L + 1)]) (fun _ => true) SmallInt rfl (by decide) rfl (by decide) rfl ?_
    repeat (first | (fail_if_success (with_reducible show wpAny _ _ (pyIter _) _ _ _)); walk1)
    (try dsimp only)
    rename IsRange _ _ _ _ _ _ _ _ => hr
    rename News _ _ _ _ => N
    rename Fr _ _ _ _ => F
    obtain ⟨nr, hnr, hrs, hrn, hrl⟩ := rs2 1 (.inr rfl) ks.length hkl
    refine compRangeB (n := nr) hr hrs hrn (by omega) rfl F N ?_ ?_ ?_
    · intro C j v s₃ m₃ E' hv F N
      exact wpAny_pure ⟨rfl, _, _, rfl, fun _ _ e => e⟩
    · rintro C j v s₃ m₃ E' ⟨hj, tx, rfl⟩ hp F N
      have hjl := hrl j hj
      k_steps
      all_goals (try dsimp only)
      all_goals first | exact getD_small hksm _ _ _ | exact ⟨getD_small hksm _ _ _, _, _, rfl, fun _ _ e => e⟩ | exact ⟨_, _, rfl, fun _ _ e => e⟩ | exact (0 : Nat) | exact Str.empty | exact Value.none | exact [] | skip
    · intro D2 h' tk' ys k3 vs2 F2 N2 hne hlen hP hpr H'
      (try dsimp only)
      rw [filter_tt] at hpr
      obtain ⟨xs, hxs, hxsm⟩ := ints_of_small hpr
      have hxl : xs.length ≤ 12 := by
        have h1 := hxs.length
        have h2 := paired_len hpr
        omega
      have hsum := sum_small xs hxsm
      clear hpr hP hr hrs hrn hrl
      repeat (first | (fail_if_success (with_reducible show wpAny _ _ (call (Value.ref 101) _) _ _ _)); walk1)
      (try dsimp only)
      rename News _ _ _ _ => N
      rename Fr _ _ _ _ => F
      have hm := small_mod (11 + xs.sum)
      generalize (11 + xs.sum).fmod 2187 = num at *
      obtain ⟨n, rfl⟩ : ∃ n : Nat, num = (n : Int) := ⟨num.toNat, by omega⟩
      refine Does.useM (does_walk n _ (by omega)) ((hRoom _).mono (by decide)) F N XX T trivial ?_
      clear F N
      rintro v h' tk' tl off F N ⟨R, B, D, t, k1, k0, vs1, us1, e1, e2, e3, e4, e5⟩
      have htb := wrun_tbl1 n
      generalize wrun n 7 = st at *
      subst e1
      rw [e2] at off N
      clear e2
      have mR1 : @Ne Nat R (L + 1) := off _ (.head _) (L + 1, oc1) (by ((try dsimp only [List.cons_append, List.nil_append]); repeat (first | with_reducible exact mem_here | refine mem_skip ?_ | refine mem_right ?_)))
      have mR2 : @Ne Nat R (L + 1 + 1) := off _ (.head _) (L + 1 + 1, oc2) (by ((try dsimp only [List.cons_append, List.nil_append]); repeat (first | with_reducible exact mem_here | refine mem_skip ?_ | refine mem_right ?_)))
      have mR3 : @Ne Nat R (L + 1 + 1 + 1) := off _ (.head _) (L + 1 + 1 + 1, o2) (by ((try dsimp only [List.cons_append, List.nil_append]); repeat (first | with_reducible exact mem_here | refine mem_skip ?_ | refine mem_right ?_)))
      have mR4 : @Ne Nat R (L + 1 + 1 + 1 + 1) := off _ (.head _) (L + 1 + 1 + 1 + 1, o1) (by ((try dsimp only [List.cons_append, List.nil_append]); repeat (first | with_reducible exact mem_here | refine mem_skip ?_ | refine mem_right ?_)))
      have mB1 : @Ne Nat B (L + 1) := off _ (.tail _ (.head _)) (L + 1, oc1) (by ((try dsimp only [List.cons_append, List.nil_append]); repeat (first | with_reducible exact mem_here | refine mem_skip ?_ | refine mem_right ?_)))
      have mB2 : @Ne Nat B (L + 1 + 1) := off _ (.tail _ (.head _)) (L + 1 + 1, oc2) (by ((try dsimp only [List.cons_append, List.nil_append]); repeat (first | with_reducible exact mem_here | refine mem_skip ?_ | refine mem_right ?_)))
      have mB3 : @Ne Nat B (L + 1 + 1 + 1) := off _ (.tail _ (.head _)) (L + 1 + 1 + 1, o2) (by ((try dsimp only [List.cons_append, List.nil_append]); repeat (first | with_reducible exact mem_here | refine mem_skip ?_ | refine mem_right ?_)))
      have mB4 : @Ne Nat B (L + 1 + 1 + 1 + 1) := off _ (.tail _ (.head _)) (L + 1 + 1 + 1 + 1, o1) (by ((try dsimp only [List.cons_append, List.nil_append]); repeat (first | with_reducible exact mem_here | refine mem_skip ?_ | refine mem_right ?_)))
      have mD1 : @Ne Nat D (L + 1) := off _ (.tail _ (.tail _ (.head _))) (L + 1, oc1) (by ((try dsimp only [List.cons_append, List.nil_append]); repeat (first | with_reducible exact mem_here | refine mem_skip ?_ | refine mem_right ?_)))
      have mD2 : @Ne Nat D (L + 1 + 1) := off _ (.tail _ (.tail _ (.head _))) (L + 1 + 1, oc2) (by ((try dsimp only [List.cons_append, List.nil_append]); repeat (first | with_reducible exact mem_here | refine mem_skip ?_ | refine mem_right ?_)))
      have mD3 : @Ne Nat D (L + 1 + 1 + 1) := off _ (.tail _ (.tail _ (.head _))) (L + 1 + 1 + 1, o2) (by ((try dsimp only [List.cons_append, List.nil_append]); repeat (first | with_reducible exact mem_here | refine mem_skip ?_ | refine mem_right ?_)))
      have mD4 : @Ne Nat D (L + 1 + 1 + 1 + 1) := off _ (.tail _ (.tail _ (.head _))) (L + 1 + 1 + 1 + 1, o1) (by ((try dsimp only [List.cons_append, List.nil_append]); repeat (first | with_reducible exact mem_here | refine mem_skip ?_ | refine mem_right ?_)))
      clear off
      replace N := News.sub N (l' := [(R, W.listOf #[.ref D, .str (sx st.2.2) t, .ref B] 0), (B, { cls := .type "list", data := .seq vs1.toArray k1 }), (D, { cls := .type "list", data := .seq us1.toArray k0 }), (R1, W.listOf #[.ref D1, .str (sx st1.2.2) tw1, .ref B1] 0), (B1, { cls := .type "list", data := .seq ms1.toArray q1 }), (D1, { cls := .type "list", data := .seq os1.toArray p1 }), (L + 1 + 1 + 1 + 1, o1), (L + 1 + 1 + 1, o2), (L + 1 + 1, oc2), (L + 1, oc1)]) (by ((try dsimp only [List.cons_append, List.nil_append]); repeat' (first | exact sub_none | with_reducible exact sub_self | with_reducible exact sub_left | with_reducible exact mem_here | refine sub_more ?_ ?_ | refine mem_skip ?_ | refine mem_right ?_ | refine sub_skip ?_ | refine sub_right ?_)))
      (try dsimp only)
      k_steps
      (try dsimp only)
      rename News _ _ _ _ => N
      rename Fr _ _ _ _ => F
      rename (Obj.data _ = Data.cell _) => hcl
      refine hK ⟨⟨R, B, D, t, k1, k0, vs1, us1, st⟩, _⟩ F (News.sub N ?_) trivial ⟨⟨htb, e4, e5, e3⟩, hcl, mR4, mB4, mD4⟩
      ((try dsimp only [List.cons_append, List.nil_append]); repeat' (first | exact sub_none | with_reducible exact sub_self | with_reducible exact sub_left | with_reducible exact mem_here | refine sub_more ?_ ?_ | refine mem_skip ?_ | refine mem_right ?_ | refine sub_skip ?_ | refine sub_right ?_))
  --CUT4
  rintro ⟨⟨R2, B2, D2, tw2, q2, p2, ms2, os2, st2⟩, oc3⟩ u h₂ tk₂ ⟨⟨tb2, ios2, ims2, x2⟩, dc3, y7, y8, y9⟩ F N
  dsimp only at F N tb2 ios2 ims2 x2 dc3 y7 y8 y9 ⊢
  clear hks hkl hksm n1 n2 n3 n4 d4 y1 y3 y5 hul
  refine cut (ι := Unit) (h₀ := s1.heap) (L := L) (fun _ => True) (fun _ => []) (fun _ => [(R2, W.listOf #[.ref D2, .str (sx st2.2.2) tw2, .ref B2] 0), (B2, { cls := .type "list", data := .seq ms2.toArray q2 }), (D2, { cls := .type "list", data := .seq os2.toArray p2 }), (R1, W.listOf #[.ref D1, .str (sx st1.2.2) tw1, .ref B1] 0), (B1, { cls := .type "list", data := .seq ms1.toArray q1 }), (D1, { cls := .type "list", data := .seq os1.toArray p1 }), (L + 1 + 1 + 1 + 1, o1), (L + 1 + 1 + 1, oc3), (L + 1 + 1, oc2)]) ?_ ?_
  · intro K hK hRet
    clear hQ
    repeat (first | (fail_if_success (with_reducible show wpAny _ _ (call (Value.ref 106) _) _ _ _)); walk1)
    (try dsimp only)
    rename News _ _ _ _ => N
    rename Fr _ _ _ _ => F
    refine Does.use0 (does_counted D1 B1 os1 ms1 st1 p1 q1 (List.mem_of_mem_tail tb1) ios1 ims1) ((hRoom _).mono (by decide)) F N XX T ⟨(N (D1, _) (by ((try dsimp only [List.cons_append, List.nil_append]); repeat (first | with_reducible exact mem_here | refine mem_skip ?_ | refine mem_right ?_)))).1, (N (B1, _) (by ((try dsimp only [List.cons_append, List.nil_append]); repeat (first | with_reducible exact mem_here | refine mem_skip ?_ | refine mem_right ?_)))).1⟩ ?_
    clear F N
    rintro v h' tk' tl F N e
    have e : v = .bool true := e
    subst e
    (try dsimp only)
    repeat (first | (fail_if_success (with_reducible show wpAny _ _ (call (Value.ref 106) _) _ _ _)); walk1)
    (try dsimp only)
    rename News _ _ _ _ => N
    rename Fr _ _ _ _ => F
    refine Does.use0 (does_counted D2 B2 os2 ms2 st2 p2 q2 (List.mem_of_mem_tail tb2) ios2 ims2) ((hRoom _).mono (by decide)) F N XX T ⟨(N (D2, _) (by ((try dsimp only [List.cons_append, List.nil_append]); repeat (first | with_reducible exact mem_here | refine mem_skip ?_ | refine mem_right ?_)))).1, (N (B2, _) (by ((try dsimp only [List.cons_append, List.nil_append]); repeat (first | with_reducible exact mem_here | refine mem_skip ?_ | refine mem_right ?_)))).1⟩ ?_
    clear F N
    rintro v h' tk' tl F N e
    have e : v = .bool true := e
    subst e
    (try dsimp only)
    k_steps
    (try dsimp only)
    rename News _ _ _ _ => N
    rename Fr _ _ _ _ => F
    exact hK () F N trivial trivial
  --CUT5
  rintro - u h₂ tk₂ - F N
  dsimp only at F N ⊢
  refine cut (ι := Addr × Nat × List Value × List (Addr × Obj)) (h₀ := s1.heap) (L := L) (fun i => i.2.2.1.length = 4 ∧ ∀ k < 4, ∃ p ∈ i.2.2.2, i.2.2.1[k]? = some (.ref p.1) ∧ SzEnt st1 st2 k p) (fun i => [("sizes", .ref i.1)])
    (fun i => (i.1, ({ cls := .type "list", data := .seq i.2.2.1.toArray i.2.1 } : Obj)) :: (R2, W.listOf #[.ref D2, .str (sx st2.2.2) tw2, .ref B2] 0) :: (B2, ({ cls := .type "list", data := .seq ms2.toArray q2 } : Obj)) :: (D2, ({ cls := .type "list", data := .seq os2.toArray p2 } : Obj)) :: (R1, W.listOf #[.ref D1, .str (sx st1.2.2) tw1, .ref B1] 0) :: (B1, ({ cls := .type "list", data := .seq ms1.toArray q1 } : Obj)) :: (D1, ({ cls := .type "list", data := .seq os1.toArray p1 } : Obj)) :: (L + 1 + 1 + 1 + 1, o1) :: (L + 1 + 1 + 1, oc3) :: (L + 1 + 1, oc2) :: i.2.2.2) ?_ ?_
  · intro K hK hRet
    clear hQ
    refine assign_compO (cl := [("second", L + 1 + 1 + 1), ("first", L + 1 + 1)]) (fun _ => true) (SzG st1 st2) rfl rfl (by decide) rfl (by decide) rfl rfl rfl ?_
    repeat (first | (fail_if_success (with_reducible show wpAny _ _ (pyIter _) _ _ _)); walk1)
    (try dsimp only)
    rename IsRange _ _ _ _ _ _ _ _ => hr
    rename News _ _ _ _ => N
    rename Fr _ _ _ _ => F
    refine compRangeOA (n := 4) hr (by decide) (by decide) (by decide) rfl F N ?_ ?_
    · intro C i t s₃ m₃ E' hi F N
      have ei : (0 : Int) + (i : Nat) * 1 = i := by omega
      rw [ei] at F ⊢
      repeat (first | ((fail_if_success (with_reducible show wpAny _ _ (subscriptTail (PySem.Expr.Subscript _ _ _) _ _ _) _ _ _)); walk1) | exact (0 : Nat) | exact Str.empty | exact Value.none | exact ([] : List (Str × Addr)))
      (try dsimp only)
      have hdl1 := dots_le tb1 hi
      have hml1 := mail_len (112 + i) (st1.2.1.getD i 0)
      obtain ⟨tv1, hv1⟩ := strs_get ims1 (mails_get (good_at (List.mem_of_mem_tail tb1)).2.2.1 (r := i) (by omega))
      refine kba_turn (value' := PySem.Expr.Name (Str.ofString "z") ⟨0, 0, 0, 0⟩) (fun _ => rfl) ?_
      refine kim_list N (.tail _ (.tail _ (.tail _ (.tail _ (.head _))))) rfl rfl (by omega) (by omega) (x := .str (sx (mail (112 + i) (st1.2.1.getD i 0))) tv1) (by rw [Int.toNat_natCast]; exact hv1) ?_
      (try dsimp only)
      repeat (first | ((fail_if_success (with_reducible show wpAny _ _ (subscriptTail (PySem.Expr.Subscript _ _ _) _ _ _) _ _ _)); walk1) | exact (0 : Nat) | exact Str.empty | exact Value.none | exact ([] : List (Str × Addr)))
      (try dsimp only)
      have hdl2 := dots_le tb2 hi
      have hml2 := mail_len (112 + i) (st2.2.1.getD i 0)
      obtain ⟨tv2, hv2⟩ := strs_get ims2 (mails_get (good_at (List.mem_of_mem_tail tb2)).2.2.1 (r := i) (by omega))
      refine kba_turn (value' := PySem.Expr.Name (Str.ofString "z") ⟨0, 0, 0, 0⟩) (fun _ => rfl) ?_
      refine kim_list N (.tail _ (.head _)) rfl rfl (by omega) (by omega) (x := .str (sx (mail (112 + i) (st2.2.1.getD i 0))) tv2) (by rw [Int.toNat_natCast]; exact hv2) ?_
      (try dsimp only)
      repeat (first | ((fail_if_success (with_reducible show wpAny _ _ (newList _) _ _ _)); walk1) | exact (0 : Nat) | exact Str.empty | exact Value.none | exact ([] : List (Str × Addr)))
      (try dsimp only)
      refine wpAny_newObj_type ?_
      refine ⟨⟨_, _, rfl, ?_, ⟨_, Heap.get?_push_size _ rfl, rfl, _, rfl⟩, ?_⟩, _, _, rfl, fun _ _ e => Heap.get?_push_of_some _ e⟩
      · exact Heap.get?_none_of_le (Nat.le_refl _)
      · rw [mail_len, mail_len]
        exact ⟨i, t, _, _, rfl, rfl⟩
    · intro D h' tk' ys k3 vs2 els F2 N2 off1 off2 hlen hP e1 e2 H'
      (try dsimp only)
      refine hK ⟨D, k3, ys.toList, els⟩ F2 (News.sub N2 ?_) ⟨rfl, trivial⟩ ⟨?_, ?_⟩
      · ((try dsimp only [List.cons_append, List.nil_append]); repeat' (first | exact sub_none | with_reducible exact sub_self | with_reducible exact sub_left | with_reducible exact mem_here | refine sub_more ?_ ?_ | refine mem_skip ?_ | refine mem_right ?_ | refine sub_skip ?_ | refine sub_right ?_))
      · rw [e1, List.length_map, ← e2.length, hlen]
      · rw [e1]
        exact sz_of e2 hlen hP
  --CUT6
  rintro ⟨S, kS, sz, els⟩ u h₂ tk₂ ⟨hszl, hsz⟩ F N
  dsimp only at F N hszl hsz ⊢
  refine cut (ι := Unit) (h₀ := s1.heap) (L := L) (fun _ => True) (fun _ => [("sizes", .ref S)]) (fun _ => (S, ({ cls := .type "list", data := .seq sz.toArray kS } : Obj)) :: (R2, W.listOf #[.ref D2, .str (sx st2.2.2) tw2, .ref B2] 0) :: (B2, ({ cls := .type "list", data := .seq ms2.toArray q2 } : Obj)) :: (D2, ({ cls := .type "list", data := .seq os2.toArray p2 } : Obj)) :: (R1, W.listOf #[.ref D1, .str (sx st1.2.2) tw1, .ref B1] 0) :: (B1, ({ cls := .type "list", data := .seq ms1.toArray q1 } : Obj)) :: (D1, ({ cls := .type "list", data := .seq os1.toArray p1 } : Obj)) :: (L + 1 + 1 + 1 + 1, o1) :: (L + 1 + 1 + 1, oc3) :: (L + 1 + 1, oc2) :: els) ?_ ?_
  · intro K hK hRet
    clear hQ
    refine For_invV s1.heap rfl rfl ?_
    repeat (first | (fail_if_success (with_reducible show wpAny _ _ (pyIter _) _ _ _)); walk1)
    (try dsimp only)
    rename IsRange _ _ _ _ _ _ _ _ => hr
    rename News _ _ _ _ => N
    rename Fr _ _ _ _ => F
    refine iter_range (n := 4) (fun i m news => news = (S, ({ cls := .type "list", data := .seq sz.toArray kS } : Obj)) :: (R2, W.listOf #[.ref D2, .str (sx st2.2.2) tw2, .ref B2] 0) :: (B2, ({ cls := .type "list", data := .seq ms2.toArray q2 } : Obj)) :: (D2, ({ cls := .type "list", data := .seq os2.toArray p2 } : Obj)) :: (R1, W.listOf #[.ref D1, .str (sx st1.2.2) tw1, .ref B1] 0) :: (B1, ({ cls := .type "list", data := .seq ms1.toArray q1 } : Obj)) :: (D1, ({ cls := .type "list", data := .seq os1.toArray p1 } : Obj)) :: (L + 1 + 1 + 1 + 1, o1) :: (L + 1 + 1 + 1, oc3) :: (L + 1 + 1, oc2) :: els ∧ Know m [("sizes", .ref S)]) rfl hr (by decide) (by decide) F (News.sub N (fun q hq => by first | exact hq | exact .tail _ hq)) ⟨rfl, rfl, trivial⟩ ?_ ?_
    · rintro i ti m₁ news₁ h tk I oI hi ⟨rfl, kn⟩ hoff F N hcI
      refine veil ?_
      intro KT hT
      rw [know kn] at F
      have ei : (0 : Int) + (i : Nat) * 1 = i := by omega
      rw [ei] at F
      (try dsimp only at F N)
      obtain ⟨pp, hpp, hsi, hpc, np, tp, up, hpd⟩ := hsz i hi
      repeat (first | ((fail_if_success (with_reducible show wpAny _ _ (subscriptTail (PySem.Expr.Subscript _ _ _) _ _ _) _ _ _)); walk1) | exact (0 : Nat) | exact Str.empty | exact Value.none | exact ([] : List (Str × Addr)))
      (try dsimp only)
      have hdl1 := dots_le tb1 hi
      have hml1 := mail_len (112 + i) (st1.2.1.getD i 0)
      obtain ⟨tv1, hv1⟩ := strs_get ims1 (mails_get (good_at (List.mem_of_mem_tail tb1)).2.2.1 (r := i) (by omega))
      refine kba_turn (value' := PySem.Expr.Name (Str.ofString "z") ⟨0, 0, 0, 0⟩) (fun _ => rfl) ?_
      refine kim_list N (.tail _ (.tail _ (.tail _ (.tail _ (.tail _ (.tail _ (.head _))))))) rfl rfl (by omega) (by omega) (x := .str (sx (mail (112 + i) (st1.2.1.getD i 0))) tv1) (by rw [Int.toNat_natCast]; exact hv1) ?_
      (try dsimp only)
      repeat (first | ((fail_if_success (with_reducible show wpAny _ _ (subscriptTail (PySem.Expr.Subscript _ _ _) _ _ _) _ _ _)); walk1) | exact (0 : Nat) | exact Str.empty | exact Value.none | exact ([] : List (Str × Addr)))
      (try dsimp only)
      have hdl2 := dots_le tb2 hi
      have hml2 := mail_len (112 + i) (st2.2.1.getD i 0)
      obtain ⟨tv2, hv2⟩ := strs_get ims2 (mails_get (good_at (List.mem_of_mem_tail tb2)).2.2.1 (r := i) (by omega))
      refine kba_turn (value' := PySem.Expr.Name (Str.ofString "z") ⟨0, 0, 0, 0⟩) (fun _ => rfl) ?_
      refine kim_list N (.tail _ (.tail _ (.tail _ (.head _)))) rfl rfl (by omega) (by omega) (x := .str (sx (mail (112 + i) (st2.2.1.getD i 0))) tv2) (by rw [Int.toNat_natCast]; exact hv2) ?_
      (try dsimp only)
      repeat (first | ((fail_if_success (with_reducible show wpAny _ _ (call (Value.ref 96) _) _ _ _)); walk1) | exact (0 : Nat) | exact Str.empty | exact Value.none | exact ([] : List (Str × Addr)))
      (try dsimp only)
      rename News _ _ _ _ => N
      rename Fr _ _ _ _ => F
      refine Does.use0 (does_lev _ _ _ _ 99 _ (by rw [sx_len] at hml1; omega) (by rw [sx_len] at hml2; omega) (by omega) (mail_sigma hi hdl1) (mail_sigma hi hdl2)) ((hRoom _).mono (by decide)) F N XX T trivial ?_
      clear F N
      rintro v h' tk' tl F N ⟨t6, e6⟩
      rw [mail_lev hi hdl1 hdl2] at e6
      subst e6
      (try dsimp only)
      repeat (first | ((fail_if_success (with_reducible show wpAny _ _ (subscriptTail _ _ _ _) _ _ _)); walk1) | exact (0 : Nat) | exact Str.empty | exact Value.none | exact ([] : List (Str × Addr)))
      (try dsimp only)
      refine kim_list N (.tail _ (.head _)) rfl rfl (by omega) (by omega) (x := .ref pp.1) (by rw [Int.toNat_natCast]; exact hsi) ?_
      (try dsimp only)
      repeat (first | ((fail_if_success (with_reducible show wpAny _ _ (subscriptTail _ _ _ _) _ _ _)); walk1) | exact (0 : Nat) | exact Str.empty | exact Value.none | exact ([] : List (Str × Addr)))
      (try dsimp only)
      refine kba_turn (value' := PySem.Expr.Name (Str.ofString "z") ⟨0, 0, 0, 0⟩) (fun _ => rfl) ?_
      refine kim_list N (lo := pp.2) (.tail _ (.tail _ (.tail _ (.tail _ (.tail _ (.tail _ (.tail _ (.tail _ (.tail _ (.tail _ (.tail _ (hpp)))))))))))) hpc hpd (by decide) (by decide) (x := .int ((st1.2.1.getD i 0 + 5 : Nat) : Int) tp) rfl ?_
      (try dsimp only)
      repeat (first | ((fail_if_success (with_reducible show wpAny _ _ (subscriptTail _ _ _ _) _ _ _)); walk1) | exact (0 : Nat) | exact Str.empty | exact Value.none | exact ([] : List (Str × Addr)))
      (try dsimp only)
      refine kim_list N (.tail _ (.head _)) rfl rfl (by omega) (by omega) (x := .ref pp.1) (by rw [Int.toNat_natCast]; exact hsi) ?_
      (try dsimp only)
      repeat (first | ((fail_if_success (with_reducible show wpAny _ _ (subscriptTail _ _ _ _) _ _ _)); walk1) | exact (0 : Nat) | exact Str.empty | exact Value.none | exact ([] : List (Str × Addr)))
      (try dsimp only)
      refine kba_turn (value' := PySem.Expr.Name (Str.ofString "z") ⟨0, 0, 0, 0⟩) (fun _ => rfl) ?_
      refine kim_list N (lo := pp.2) (.tail _ (.tail _ (.tail _ (.tail _ (.tail _ (.tail _ (.tail _ (.tail _ (.tail _ (.tail _ (.tail _ (hpp)))))))))))) hpc hpd (by decide) (by decide) (x := .int ((st2.2.1.getD i 0 + 5 : Nat) : Int) up) rfl ?_
      (try dsimp only)
      k_steps
      · exfalso
        rename (_ ≠ (_ : Int)) => hne
        apply hne
        split <;> omega
      (try dsimp only)
      rename News _ _ _ _ => N
      rename Fr _ _ _ _ => F
      refine hT _ _ ?_
      exact Turn.intro F N (fun p hp => .inl (hoff p hp)) ⟨rfl, rfl, trivial⟩
    · rintro m₁ news₁ h tk ⟨rfl, kn⟩ F N
      exact hK () F N ⟨kn.1, trivial⟩ trivial
  --CUT7
  rintro - u h₂ tk₂ - F N
  dsimp only at F N ⊢
  refine cut (ι := LR) (h₀ := s1.heap) (L := L) (fun i => LOk i (lowD st1 st2)) (fun i => [("sizes", .ref S), ("low", .ref i.R)]) (fun i => (i.R, W.listOf #[.ref i.D, .str (sx (lrun (lowD st1 st2) 4).2) i.t] 0) :: (i.D, ({ cls := .type "list", data := .seq i.us.toArray i.k0 } : Obj)) :: (S, ({ cls := .type "list", data := .seq sz.toArray kS } : Obj)) :: (R2, W.listOf #[.ref D2, .str (sx st2.2.2) tw2, .ref B2] 0) :: (B2, ({ cls := .type "list", data := .seq ms2.toArray q2 } : Obj)) :: (D2, ({ cls := .type "list", data := .seq os2.toArray p2 } : Obj)) :: (R1, W.listOf #[.ref D1, .str (sx st1.2.2) tw1, .ref B1] 0) :: (B1, ({ cls := .type "list", data := .seq ms1.toArray q1 } : Obj)) :: (D1, ({ cls := .type "list", data := .seq os1.toArray p1 } : Obj)) :: (L + 1 + 1 + 1 + 1, o1) :: (L + 1 + 1 + 1, oc3) :: (L + 1 + 1, oc2) :: els) ?_ ?_
  · intro K hK hRet
    clear hQ
    repeat (first | (fail_if_success (with_reducible show wpAny _ _ (eval (PySem.Expr.ListComp _ _ _ _) _) _ _ _)); walk1)
    (try dsimp only)
    refine wpAny_ListComp_free (cl := []) (fun _ => true) (DotG (fun a b => min a b - 7) els) rfl (by decide) rfl (by decide) rfl ?_
    repeat (first | (fail_if_success (with_reducible show wpAny _ _ (pyIter _) _ _ _)); walk1)
    (try dsimp only)
    rename News _ _ _ _ => N
    rename Fr _ _ _ _ => F
    refine compList (items := sz.toArray) (News.isList N (.head _)) (by rw [List.size_toArray]; omega) rfl F N ?_ ?_ ?_
    · intro C j v s₃ m₃ E' hv F N
      exact wpAny_pure ⟨rfl, _, _, rfl, fun _ _ e => e⟩
    · intro C j v s₃ m₃ E' hv hp F N
      have hv' : sz[j]? = some v := by simpa using hv
      have hj : j < 4 := by
        have := (List.getElem?_eq_some_iff.mp hv').1
        omega
      obtain ⟨pp, hpp, hsk, hpc, np, tp, up, hpd⟩ := hsz j hj
      have hd1 := dots_le tb1 hj
      have hd2 := dots_le tb2 hj
      rw [hv'] at hsk
      have hsk : v = .ref pp.1 := Option.some.inj hsk
      subst hsk
      have hpl : s₃.heap.IsList pp.1 [Value.int ((st1.2.1.getD j 0 + 5 : Nat) : Int) tp, Value.int ((st2.2.1.getD j 0 + 5 : Nat) : Int) up].toArray := ⟨pp.2, (N pp (.tail _ (.tail _ (.tail _ (.tail _ (.tail _ (.tail _ (.tail _ (.tail _ (.tail _ (.tail _ (hpp)))))))))))).1, hpc, np, hpd⟩
      repeat (first | ((fail_if_success (with_reducible show wpAny _ _ (call (Value.builtin "min") _) _ _ _)); walk1) | exact (0 : Nat) | exact Str.empty | exact Value.none | exact ([] : List (Str × Addr)))
      (try dsimp only)
      refine min_keep rfl hpl (.cons _ _ (.cons _ _ .nil)) (Nat.succ_pos _) ?_
      intro h' M t' tk' keep hm hle
      have hM : M = min ((st1.2.1.getD j 0 + 5 : Nat) : Int) ((st2.2.1.getD j 0 + 5 : Nat) : Int) := by
        have h1 := hle _ (.head _)
        have h2 := hle _ (.tail _ (.head _))
        simp only [List.mem_cons, List.not_mem_nil, or_false] at hm
        omega
      have hMb : 7 ≤ M ∧ M ≤ 100 := by omega
      clear hle hm
      have F' := fr_after F keep
      have N' := fun q hq => (⟨keep _ _ (N q hq).1, (N q hq).2⟩ : h'.get? q.1 = some q.2 ∧ _)
      clear F N
      (try dsimp only)
      repeat (first | ((fail_if_success (with_reducible show (DotG _ _ _ _) ∧ _)); walk1) | exact (0 : Nat) | exact Str.empty | exact Value.none | exact ([] : List (Str × Addr)))
      all_goals first | exact ⟨pp, hpp, rfl, np, tp, up, _, _, _, hpd, by rw [hM]⟩ | exact ⟨⟨pp, hpp, rfl, np, tp, up, _, _, _, hpd, by rw [hM]⟩, _, _, rfl, fun b o e => keep b o e⟩ | exact ⟨_, _, rfl, fun b o e => keep b o e⟩
    · intro D2 h' tk' ys k3 vs2 F2 N2 hne hlen hP hpr H'
      (try dsimp only)
      have e1 : vs2 = sz := same_items (by simpa using hlen) (fun j v h => by simpa using hP j v h)
      rw [filter_tt, e1] at hpr
      have hint := dots_of (News.sub N2 (fun q hq => .tail _ (.tail _ (.tail _ (.tail _ (.tail _ (.tail _ (.tail _ (.tail _ (.tail _ (.tail _ (.tail _ (hq))))))))))))) hszl hsz hpr
      rw [low_ints tb1 tb2] at hint
      clear hpr hP e1
      repeat (first | (fail_if_success (with_reducible show wpAny _ _ (call (Value.ref 113) _) _ _ _)); walk1)
      (try dsimp only)
      rename News _ _ _ _ => N
      rename Fr _ _ _ _ => F
      refine Does.useM (does_laid D2 ys.toList (lowD st1 st2) k3 hint rfl (low_le tb1 tb2)) ((hRoom _).mono (by decide)) F N XX T ?_ ?_
      · have h1 := (N _ (.head _)).1
        rw [Array.toArray_toList]; exact h1
      clear F N
      rintro v h' tk' tl off F N ⟨R, D, t, k0, us, e1, e2, e3, e4⟩
      subst e1
      rw [e2] at N
      clear e2 off
      (try dsimp only)
      k_steps
      (try dsimp only)
      rename News _ _ _ _ => N
      rename Fr _ _ _ _ => F
      refine hK ⟨R, D, t, k0, us⟩ F (News.sub N ?_) ⟨rfl, rfl, trivial⟩ ⟨e4, e3⟩
      ((try dsimp only [List.cons_append, List.nil_append]); repeat' (first | exact sub_none | with_reducible exact sub_self | with_reducible exact sub_left | with_reducible exact mem_here | refine sub_more ?_ ?_ | refine mem_skip ?_ | refine mem_right ?_ | refine sub_skip ?_ | refine sub_right ?_))
  --CUT8
  rintro ⟨RL, DL, tL, kL, usL⟩ u h₂ tk₂ ⟨hlow, hDL⟩ F N
  dsimp only at F N hlow hDL ⊢
  refine cut (ι := LR) (h₀ := s1.heap) (L := L) (fun i => LOk i (highD st1 st2)) (fun i => [("low", .ref RL), ("high", .ref i.R)]) (fun i => (i.R, W.listOf #[.ref i.D, .str (sx (lrun (highD st1 st2) 4).2) i.t] 0) :: (i.D, ({ cls := .type "list", data := .seq i.us.toArray i.k0 } : Obj)) :: (RL, W.listOf #[.ref DL, .str (sx (lrun (lowD st1 st2) 4).2) tL] 0) :: (DL, ({ cls := .type "list", data := .seq usL.toArray kL } : Obj)) :: (R2, W.listOf #[.ref D2, .str (sx st2.2.2) tw2, .ref B2] 0) :: (B2, ({ cls := .type "list", data := .seq ms2.toArray q2 } : Obj)) :: (D2, ({ cls := .type "list", data := .seq os2.toArray p2 } : Obj)) :: (R1, W.listOf #[.ref D1, .str (sx st1.2.2) tw1, .ref B1] 0) :: (B1, ({ cls := .type "list", data := .seq ms1.toArray q1 } : Obj)) :: (D1, ({ cls := .type "list", data := .seq os1.toArray p1 } : Obj)) :: (L + 1 + 1 + 1 + 1, o1) :: (L + 1 + 1 + 1, oc3) :: (L + 1 + 1, oc2) :: []) ?_ ?_
  · intro K hK hRet
    clear hQ
    repeat (first | (fail_if_success (with_reducible show wpAny _ _ (eval (PySem.Expr.ListComp _ _ _ _) _) _ _ _)); walk1)
    (try dsimp only)
    refine wpAny_ListComp_free (cl := []) (fun _ => true) (DotG (fun a b => max a b - 7) els) rfl (by decide) rfl (by decide) rfl ?_
    repeat (first | (fail_if_success (with_reducible show wpAny _ _ (pyIter _) _ _ _)); walk1)
    (try dsimp only)
    rename News _ _ _ _ => N
    rename Fr _ _ _ _ => F
    refine compList (items := sz.toArray) (News.isList N (.tail _ (.tail _ (.head _)))) (by rw [List.size_toArray]; omega) rfl F N ?_ ?_ ?_
    · intro C j v s₃ m₃ E' hv F N
      exact wpAny_pure ⟨rfl, _, _, rfl, fun _ _ e => e⟩
    · intro C j v s₃ m₃ E' hv hp F N
      have hv' : sz[j]? = some v := by simpa using hv
      have hj : j < 4 := by
        have := (List.getElem?_eq_some_iff.mp hv').1
        omega
      obtain ⟨pp, hpp, hsk, hpc, np, tp, up, hpd⟩ := hsz j hj
      have hd1 := dots_le tb1 hj
      have hd2 := dots_le tb2 hj
      rw [hv'] at hsk
      have hsk : v = .ref pp.1 := Option.some.inj hsk
      subst hsk
      have hpl : s₃.heap.IsList pp.1 [Value.int ((st1.2.1.getD j 0 + 5 : Nat) : Int) tp, Value.int ((st2.2.1.getD j 0 + 5 : Nat) : Int) up].toArray := ⟨pp.2, (N pp (.tail _ (.tail _ (.tail _ (.tail _ (.tail _ (.tail _ (.tail _ (.tail _ (.tail _ (.tail _ (.tail _ (.tail _ (hpp)))))))))))))).1, hpc, np, hpd⟩
      repeat (first | ((fail_if_success (with_reducible show wpAny _ _ (call (Value.builtin "max") _) _ _ _)); walk1) | exact (0 : Nat) | exact Str.empty | exact Value.none | exact ([] : List (Str × Addr)))
      (try dsimp only)
      refine max_keep rfl hpl (.cons _ _ (.cons _ _ .nil)) (Nat.succ_pos _) ?_
      intro h' M t' tk' keep hm hle
      have hM : M = max ((st1.2.1.getD j 0 + 5 : Nat) : Int) ((st2.2.1.getD j 0 + 5 : Nat) : Int) := by
        have h1 := hle _ (.head _)
        have h2 := hle _ (.tail _ (.head _))
        simp only [List.mem_cons, List.not_mem_nil, or_false] at hm
        omega
      have hMb : 7 ≤ M ∧ M ≤ 100 := by omega
      clear hle hm
      have F' := fr_after F keep
      have N' := fun q hq => (⟨keep _ _ (N q hq).1, (N q hq).2⟩ : h'.get? q.1 = some q.2 ∧ _)
      clear F N
      (try dsimp only)
      repeat (first | ((fail_if_success (with_reducible show (DotG _ _ _ _) ∧ _)); walk1) | exact (0 : Nat) | exact Str.empty | exact Value.none | exact ([] : List (Str × Addr)))
      all_goals first | exact ⟨pp, hpp, rfl, np, tp, up, _, _, _, hpd, by rw [hM]⟩ | exact ⟨⟨pp, hpp, rfl, np, tp, up, _, _, _, hpd, by rw [hM]⟩, _, _, rfl, fun b o e => keep b o e⟩ | exact ⟨_, _, rfl, fun b o e => keep b o e⟩
    · intro D2 h' tk' ys k3 vs2 F2 N2 hne hlen hP hpr H'
      (try dsimp only)
      have e1 : vs2 = sz := same_items (by simpa using hlen) (fun j v h => by simpa using hP j v h)
      rw [filter_tt, e1] at hpr
      have hint := dots_of (News.sub N2 (fun q hq => .tail _ (.tail _ (.tail _ (.tail _ (.tail _ (.tail _ (.tail _ (.tail _ (.tail _ (.tail _ (.tail _ (.tail _ (.tail _ (hq))))))))))))))) hszl hsz hpr
      rw [high_ints tb1 tb2] at hint
      clear hpr hP e1
      repeat (first | (fail_if_success (with_reducible show wpAny _ _ (call (Value.ref 113) _) _ _ _)); walk1)
      (try dsimp only)
      rename News _ _ _ _ => N
      rename Fr _ _ _ _ => F
      refine Does.useM (does_laid D2 ys.toList (highD st1 st2) k3 hint rfl (high_le tb1 tb2)) ((hRoom _).mono (by decide)) F N XX T ?_ ?_
      · have h1 := (N _ (.head _)).1
        rw [Array.toArray_toList]; exact h1
      clear F N
      rintro v h' tk' tl off F N ⟨R, D, t, k0, us, e1, e2, e3, e4⟩
      subst e1
      rw [e2] at N
      clear e2 off
      (try dsimp only)
      k_steps
      (try dsimp only)
      rename News _ _ _ _ => N
      rename Fr _ _ _ _ => F
      refine hK ⟨R, D, t, k0, us⟩ F (News.sub N ?_) ⟨rfl, rfl, trivial⟩ ⟨e4, e3⟩
      ((try dsimp only [List.cons_append, List.nil_append]); repeat' (first | exact sub_none | with_reducible exact sub_self | with_reducible exact sub_left | with_reducible exact mem_here | refine sub_more ?_ ?_ | refine mem_skip ?_ | refine mem_right ?_ | refine sub_skip ?_ | refine sub_right ?_))
  --CUT9
  rintro ⟨RH, DH, tH, kH, usH⟩ u h₂ tk₂ ⟨hhigh, hDH⟩ F N
  dsimp only at F N hhigh hDH ⊢
  clear hsz hszl
  have hOL := low_order tb1 tb2
  have hOH := high_order tb1 tb2
  have hgl := good_low tb1 tb2
  have hgh := good_high tb1 tb2
  have hke := kept_eq tb1 tb2
  have hbk := begun_kept tb1 tb2
  generalize lrun (lowD st1 st2) 4 = lo at *
  generalize lrun (highD st1 st2) 4 = hi at *
  refine cut (ι := Addr × Nat × List Value) (h₀ := s1.heap) (L := L) (fun i => StrsAre i.2.2 ((sho lo.1).map sx)) (fun i => [("low", .ref RL), ("high", .ref RH), ("lows", .ref i.1)]) (fun i => [(i.1, { cls := .type "list", data := .seq i.2.2.toArray i.2.1 }), (RH, W.listOf #[.ref DH, .str (sx hi.2) tH] 0), (DH, { cls := .type "list", data := .seq usH.toArray kH }), (RL, W.listOf #[.ref DL, .str (sx lo.2) tL] 0), (DL, { cls := .type "list", data := .seq usL.toArray kL }), (R2, W.listOf #[.ref D2, .str (sx st2.2.2) tw2, .ref B2] 0), (B2, { cls := .type "list", data := .seq ms2.toArray q2 }), (D2, { cls := .type "list", data := .seq os2.toArray p2 }), (R1, W.listOf #[.ref D1, .str (sx st1.2.2) tw1, .ref B1] 0), (B1, { cls := .type "list", data := .seq ms1.toArray q1 }), (D1, { cls := .type "list", data := .seq os1.toArray p1 }), (L + 1 + 1 + 1 + 1, o1), (L + 1 + 1 + 1, oc3), (L + 1 + 1, oc2)]) ?_ ?_
  · intro K hK hRet
    clear hQ
    repeat (first | (fail_if_success (with_reducible show wpAny _ _ (call (Value.ref 118) _) _ _ _)); walk1)
    (try dsimp only)
    rename News _ _ _ _ => N
    rename Fr _ _ _ _ => F
    refine Does.useM (does_shortest (invs lo.1) lo.1 hOL.1 rfl DL usL kL hlow) ((hRoom _).mono hOL.2) F N XX T ⟨(N _ (.tail _ (.tail _ (.tail _ (.head _))))).1, s1.heap, XX, T, F.keep, (N _ (.tail _ (.tail _ (.tail _ (.head _))))).2.2⟩ ?_
    clear F N
    rintro v h' tk' tl off F N ⟨R, k, ws, e1, e2, e3⟩
    subst e1
    rw [e2] at N
    dsimp only [List.cons_append, List.nil_append] at N
    clear e2 off
    (try dsimp only)
    k_steps
    (try dsimp only)
    rename News _ _ _ _ => N
    rename Fr _ _ _ _ => F
    exact hK ⟨R, k, ws⟩ F N ⟨rfl, rfl, rfl, trivial⟩ e3
  --CUT10
  rintro ⟨SL, kSL, wsL⟩ u h₂ tk₂ hwsL F N
  dsimp only at F N hwsL ⊢
  obtain ⟨ow1, iw1, -, -⟩ := tbl_orders st1 tb1
  obtain ⟨ow2, iw2, -, -⟩ := tbl_orders st2 tb2
  refine cut (ι := Unit) (h₀ := s1.heap) (L := L) (fun _ => True) (fun _ => [("low", .ref RL), ("high", .ref RH)]) (fun _ => [(SL, { cls := .type "list", data := .seq wsL.toArray kSL }), (RH, W.listOf #[.ref DH, .str (sx hi.2) tH] 0), (DH, { cls := .type "list", data := .seq usH.toArray kH }), (RL, W.listOf #[.ref DL, .str (sx lo.2) tL] 0), (DL, { cls := .type "list", data := .seq usL.toArray kL }), (R2, W.listOf #[.ref D2, .str (sx st2.2.2) tw2, .ref B2] 0), (B2, { cls := .type "list", data := .seq ms2.toArray q2 }), (D2, { cls := .type "list", data := .seq os2.toArray p2 }), (R1, W.listOf #[.ref D1, .str (sx st1.2.2) tw1, .ref B1] 0), (B1, { cls := .type "list", data := .seq ms1.toArray q1 }), (D1, { cls := .type "list", data := .seq os1.toArray p1 }), (L + 1 + 1 + 1 + 1, o1), (L + 1 + 1 + 1, oc3), (L + 1 + 1, oc2)]) ?_ ?_
  · intro K hK hRet
    clear hQ
    repeat (first | (fail_if_success (with_reducible show wpAny _ _ (call (Value.ref 125) _) _ _ _)); walk1)
    (try dsimp only)
    rename News _ _ _ _ => N
    rename Fr _ _ _ _ => F
    refine Does.use0 (does_within SL wsL kSL (sho lo.1) st1.2.2 _ hwsL (goodIn_use hOL.1 hgl.1).2 iw1 (Nat.le_trans (orders_sho _ hOL.1).2.2.1 (by decide))) ((hRoom _).mono (by decide)) F N XX T (N _ (.head _)).1 ?_
    clear F N
    rintro v h' tk' tl F N e
    have e : v = .bool true := by rw [← (goodIn_use hOL.1 hgl.1).1]; exact e
    subst e
    (try dsimp only)
    repeat (first | (fail_if_success (with_reducible show wpAny _ _ (call (Value.ref 125) _) _ _ _)); walk1)
    (try dsimp only)
    rename News _ _ _ _ => N
    rename Fr _ _ _ _ => F
    refine Does.use0 (does_within SL wsL kSL (sho lo.1) st2.2.2 _ hwsL (goodIn_use hOL.1 hgl.2).2 iw2 (Nat.le_trans (orders_sho _ hOL.1).2.2.1 (by decide))) ((hRoom _).mono (by decide)) F N XX T (N _ (.head _)).1 ?_
    clear F N
    rintro v h' tk' tl F N e
    have e : v = .bool true := by rw [← (goodIn_use hOL.1 hgl.2).1]; exact e
    subst e
    (try dsimp only)
    k_steps
    (try dsimp only)
    rename News _ _ _ _ => N
    rename Fr _ _ _ _ => F
    exact hK () F N ⟨rfl, rfl, trivial⟩ trivial
  --CUT11
  rintro - u h₂ tk₂ - F N
  dsimp only at F N ⊢
  replace N := News.sub N (l' := [(RH, W.listOf #[.ref DH, .str (sx hi.2) tH] 0), (DH, { cls := .type "list", data := .seq usH.toArray kH }), (RL, W.listOf #[.ref DL, .str (sx lo.2) tL] 0), (DL, { cls := .type "list", data := .seq usL.toArray kL }), (R2, W.listOf #[.ref D2, .str (sx st2.2.2) tw2, .ref B2] 0), (B2, { cls := .type "list", data := .seq ms2.toArray q2 }), (D2, { cls := .type "list", data := .seq os2.toArray p2 }), (R1, W.listOf #[.ref D1, .str (sx st1.2.2) tw1, .ref B1] 0), (B1, { cls := .type "list", data := .seq ms1.toArray q1 }), (D1, { cls := .type "list", data := .seq os1.toArray p1 }), (L + 1 + 1 + 1 + 1, o1), (L + 1 + 1 + 1, oc3), (L + 1 + 1, oc2)]) (fun q hq => .tail _ hq)
  refine cut (ι := Addr × Nat × List Value) (h₀ := s1.heap) (L := L) (fun i => StrsAre i.2.2 ((sho st2.1).map sx)) (fun i => [("low", .ref RL), ("high", .ref RH), ("words", .ref i.1)]) (fun i => [(i.1, { cls := .type "list", data := .seq i.2.2.toArray i.2.1 }), (RH, W.listOf #[.ref DH, .str (sx hi.2) tH] 0), (DH, { cls := .type "list", data := .seq usH.toArray kH }), (RL, W.listOf #[.ref DL, .str (sx lo.2) tL] 0), (DL, { cls := .type "list", data := .seq usL.toArray kL }), (R2, W.listOf #[.ref D2, .str (sx st2.2.2) tw2, .ref B2] 0), (B2, { cls := .type "list", data := .seq ms2.toArray q2 }), (D2, { cls := .type "list", data := .seq os2.toArray p2 }), (R1, W.listOf #[.ref D1, .str (sx st1.2.2) tw1, .ref B1] 0), (B1, { cls := .type "list", data := .seq ms1.toArray q1 }), (D1, { cls := .type "list", data := .seq os1.toArray p1 }), (L + 1 + 1 + 1 + 1, o1), (L + 1 + 1 + 1, oc3), (L + 1 + 1, oc2)]) ?_ ?_
  · intro K hK hRet
    clear hQ
    repeat (first | (fail_if_success (with_reducible show wpAny _ _ (call (Value.ref 118) _) _ _ _)); walk1)
    (try dsimp only)
    rename News _ _ _ _ => N
    rename Fr _ _ _ _ => F
    refine Does.useM (does_shortest (invs st2.1) st2.1 ow2 rfl D2 os2 p2 ios2) ((hRoom _).mono (by have := (orders_sho _ ow2).2.2.2.2.2.2; omega)) F N XX T ⟨(N _ (.tail _ (.tail _ (.tail _ (.tail _ (.tail _ (.tail _ (.head _)))))))).1, s1.heap, XX, T, F.keep, (N _ (.tail _ (.tail _ (.tail _ (.tail _ (.tail _ (.tail _ (.head _)))))))).2.2⟩ ?_
    clear F N
    rintro v h' tk' tl off F N ⟨R, k, ws, e1, e2, e3⟩
    subst e1
    rw [e2] at N
    dsimp only [List.cons_append, List.nil_append] at N
    clear e2 off
    (try dsimp only)
    k_steps
    (try dsimp only)
    rename News _ _ _ _ => N
    rename Fr _ _ _ _ => F
    exact hK ⟨R, k, ws⟩ F N ⟨rfl, rfl, rfl, trivial⟩ e3
  --CUT12
  rintro ⟨SW, kSW, wsW⟩ u h₂ tk₂ hwsW F N
  dsimp only at F N hwsW ⊢
  refine cut (ι := Unit) (h₀ := s1.heap) (L := L) (fun _ => True) (fun _ => [("low", .ref RL), ("high", .ref RH), ("words", .ref SW)]) (fun _ => [(SW, { cls := .type "list", data := .seq wsW.toArray kSW }), (RH, W.listOf #[.ref DH, .str (sx hi.2) tH] 0), (DH, { cls := .type "list", data := .seq usH.toArray kH }), (RL, W.listOf #[.ref DL, .str (sx lo.2) tL] 0), (DL, { cls := .type "list", data := .seq usL.toArray kL }), (R2, W.listOf #[.ref D2, .str (sx st2.2.2) tw2, .ref B2] 0), (B2, { cls := .type "list", data := .seq ms2.toArray q2 }), (D2, { cls := .type "list", data := .seq os2.toArray p2 }), (R1, W.listOf #[.ref D1, .str (sx st1.2.2) tw1, .ref B1] 0), (B1, { cls := .type "list", data := .seq ms1.toArray q1 }), (D1, { cls := .type "list", data := .seq os1.toArray p1 }), (L + 1 + 1 + 1 + 1, o1), (L + 1 + 1 + 1, oc3), (L + 1 + 1, oc2)]) ?_ ?_
  · intro K hK hRet
    clear hQ
    repeat (first | (fail_if_success (with_reducible show wpAny _ _ (call (Value.ref 118) _) _ _ _)); walk1)
    (try dsimp only)
    rename News _ _ _ _ => N
    rename Fr _ _ _ _ => F
    refine Does.useM (does_shortest (invs st1.1) st1.1 ow1 rfl D1 os1 p1 ios1) ((hRoom _).mono (by have := (orders_sho _ ow1).2.2.2.2.2.2; omega)) F N XX T ⟨(N _ (.tail _ (.tail _ (.tail _ (.tail _ (.tail _ (.tail _ (.tail _ (.tail _ (.tail _ (.tail _ (.head _)))))))))))).1, s1.heap, XX, T, F.keep, (N _ (.tail _ (.tail _ (.tail _ (.tail _ (.tail _ (.tail _ (.tail _ (.tail _ (.tail _ (.tail _ (.head _)))))))))))).2.2⟩ ?_
    clear F N
    rintro v h' tk' tl off F N ⟨R, k, ws, e1, e2, hws⟩
    subst e1
    rw [e2] at N
    dsimp only [List.cons_append, List.nil_append] at N
    clear e2 off
    (try dsimp only)
    repeat (first | (fail_if_success (with_reducible show wpAny _ _ (call (Value.ref 125) _) _ _ _)); walk1)
    (try dsimp only)
    rename News _ _ _ _ => N
    rename Fr _ _ _ _ => F
    refine Does.use0 (does_within R ws k (sho st1.1) hi.2 _ hws (goodIn_use ow1 hgh.1).2 hOH.2.2 (Nat.le_trans (orders_sho _ ow1).2.2.1 (by decide))) ((hRoom _).mono (by decide)) F N XX T (N _ (.head _)).1 ?_
    clear F N
    rintro v h' tk' tl F N e
    have e : v = .bool true := by rw [← (goodIn_use ow1 hgh.1).1]; exact e
    subst e
    (try dsimp only)
    repeat (first | (fail_if_success (with_reducible show wpAny _ _ (call (Value.ref 125) _) _ _ _)); walk1)
    (try dsimp only)
    rename News _ _ _ _ => N
    rename Fr _ _ _ _ => F
    refine Does.use0 (does_within SW wsW kSW (sho st2.1) hi.2 _ hwsW (goodIn_use ow2 hgh.2).2 hOH.2.2 (Nat.le_trans (orders_sho _ ow2).2.2.1 (by decide))) ((hRoom _).mono (by decide)) F N XX T (N _ (.tail _ (.head _))).1 ?_
    clear F N
    rintro v h' tk' tl F N e
    have e : v = .bool true := by rw [← (goodIn_use ow2 hgh.2).1]; exact e
    subst e
    (try dsimp only)
    k_steps
    (try dsimp only)
    rename News _ _ _ _ => N
    rename Fr _ _ _ _ => F
    exact hK () F (News.sub N (fun q hq => .tail _ hq)) ⟨rfl, rfl, rfl, trivial⟩ trivial
  --CUT13
  rintro - u h₂ tk₂ - F N
  dsimp only at F N ⊢
  have hbv := begun_val st1.2.2 st2.1
  have hstf := start_facts st1 tb1
  have hw6 := (isWord_sigma iw1).1
  have hss := (orders_sho _ ow2).2.2
  refine cut (ι := Unit) (h₀ := s1.heap) (L := L) (fun _ => True) (fun _ => [("low", .ref RL), ("high", .ref RH), ("begun", .bool (begunB st1.2.2 st2.1))]) (fun _ => [(RH, W.listOf #[.ref DH, .str (sx hi.2) tH] 0), (DH, { cls := .type "list", data := .seq usH.toArray kH }), (RL, W.listOf #[.ref DL, .str (sx lo.2) tL] 0), (DL, { cls := .type "list", data := .seq usL.toArray kL }), (R2, W.listOf #[.ref D2, .str (sx st2.2.2) tw2, .ref B2] 0), (B2, { cls := .type "list", data := .seq ms2.toArray q2 }), (D2, { cls := .type "list", data := .seq os2.toArray p2 }), (R1, W.listOf #[.ref D1, .str (sx st1.2.2) tw1, .ref B1] 0), (B1, { cls := .type "list", data := .seq ms1.toArray q1 }), (D1, { cls := .type "list", data := .seq os1.toArray p1 }), (L + 1 + 1 + 1 + 1, o1), (L + 1 + 1 + 1, oc3), (L + 1 + 1, oc2)]) ?_ ?_
  · intro K hK hRet
    clear hQ
    repeat (first | (fail_if_success (with_reducible show wpAny _ _ (eval (PySem.Expr.ListComp _ _ _ _) _) _ _ _)); walk1)
    (try dsimp only)
    refine wpAny_ListComp_free (cl := [("first", L + 1 + 1)]) (begP st1.2.2) (fun v y => y = v) rfl (by decide) rfl (by decide) rfl ?_
    repeat (first | (fail_if_success (with_reducible show wpAny _ _ (pyIter _) _ _ _)); walk1)
    (try dsimp only)
    rename News _ _ _ _ => N
    rename Fr _ _ _ _ => F
    have hwl : wsW.length ≤ 16 := by have := hwsW.len_eq; rw [List.length_map] at this; have := hss.1; omega
    refine compList (items := wsW.toArray) (News.isList N (.head _)) (by rw [List.size_toArray]; omega) rfl F N ?_ ?_ ?_
    · intro C j v s₃ m₃ E' hv F N
      obtain ⟨c, tc, rfl, hcj⟩ := strs_at hwsW (show wsW[j]? = some v by simpa using hv)
      have hc6 := hss.2.1 c (List.mem_of_getElem? hcj)
      have hlc : (sx c).length = c.length := sx_len c
      have hlW : (sx st1.2.2).length = st1.2.2.length := sx_len _
      refine wpAny_tests_one ?_
      repeat (first | ((fail_if_success (with_reducible show wpAny _ _ (call (Value.ref _) _) _ _ _)); walk1) | exact (0 : Nat) | exact Str.empty | exact Value.none | exact ([] : List (Str × Addr)))
      (try dsimp only)
      rename News _ _ _ _ => N
      rename Fr _ _ _ _ => F
      rw [sx_dots]
      refine Does.use (does_ell (sx (st1.2.2 ++ [46, 46, 46])) (sx c) (sx st1.2.2) [] _ _ (by rw [sx_len, List.length_append]; simp; omega) (by omega) (by decide) (by omega) (fun _ h => nomatch h) hstf.2 hstf.1) ((hRoom _).mono (by decide)) F N XX T trivial ?_
      clear F N
      rintro v h' tk' tl keep F N e
      have e : v = .bool (begP st1.2.2 (.str (sx c) tc)) := e
      cases hbb : begP st1.2.2 (.str (sx c) tc)
      all_goals (
        rw [hbb] at e
        subst e
        (try dsimp only)
        k_steps
        all_goals (try dsimp only)
        all_goals first | (rw [hbb]; rfl) | exact ⟨_, _, rfl, keep⟩ | exact ⟨by rw [hbb]; rfl, _, _, rfl, keep⟩)
    · intro C j v s₃ m₃ E' hv hp F N
      obtain ⟨c, tc, rfl, hcj⟩ := strs_at hwsW (show wsW[j]? = some v by simpa using hv)
      k_steps
      all_goals (try dsimp only)
      all_goals first | exact rfl | exact ⟨_, _, rfl, fun _ _ e => e⟩ | exact ⟨rfl, _, _, rfl, fun _ _ e => e⟩ | exact (0 : Nat) | exact Str.empty | exact Value.none | exact []
    · intro D2 h' tk' ys k3 vs2 F2 N2 hne hlen hP hpr H'
      (try dsimp only)
      have e1 : vs2 = wsW := same_items (by simpa using hlen) (fun j v h => by simpa using hP j v h)
      rw [e1] at hpr
      have hys := filter_strs hwsW hpr
      clear hpr hP e1
      repeat (first | (fail_if_success (with_reducible show wpAny _ _ (compareOp _ _ _) _ _ _)); walk1)
      (try dsimp only)
      rename News _ _ _ _ => N
      rename Fr _ _ _ _ => F
      have ia := News.isList N (.tail _ (.head _))
      have ib := News.isList N (.head _)
      refine ne_strs_nil (xs := ys.toList) ?ia ?ib hys ?ok ?hu ?_
      case ia => exact ia
      case ib => exact ib
      case ok =>
        intro x hx
        obtain ⟨w, hw, rfl⟩ := List.mem_map.mp hx
        have := (goodIn_use ow2 hgh.2).2 w (List.mem_filter.mp hw).1
        exact word_ok (patt_facts w this.1).2.2.1
      case hu => exact (by show callerA.units + 3 + 64 < cLine; decide)
      rw [hbv]
      clear ia ib hys
      (try dsimp only)
      k_steps
      (try dsimp only)
      rename News _ _ _ _ => N
      rename Fr _ _ _ _ => F
      refine hK () F (News.sub N ?_) ⟨rfl, rfl, rfl, trivial⟩ trivial
      ((try dsimp only [List.cons_append, List.nil_append]); repeat' (first | exact sub_none | with_reducible exact sub_self | with_reducible exact sub_left | with_reducible exact mem_here | refine sub_more ?_ ?_ | refine mem_skip ?_ | refine mem_right ?_ | refine sub_skip ?_ | refine sub_right ?_))
  --CUT14
  rintro - u h₂ tk₂ - F N
  dsimp only at F N ⊢
  refine cut (ι := Unit) (h₀ := s1.heap) (L := L) (fun _ => True) (fun _ => [("begun", .bool (begunB st1.2.2 st2.1))]) (fun _ => [(R2, W.listOf #[.ref D2, .str (sx st2.2.2) tw2, .ref B2] 0), (B2, { cls := .type "list", data := .seq ms2.toArray q2 }), (D2, { cls := .type "list", data := .seq os2.toArray p2 }), (R1, W.listOf #[.ref D1, .str (sx st1.2.2) tw1, .ref B1] 0), (B1, { cls := .type "list", data := .seq ms1.toArray q1 }), (D1, { cls := .type "list", data := .seq os1.toArray p1 }), (L + 1 + 1 + 1 + 1, o1), (L + 1 + 1 + 1, oc3), (L + 1 + 1, oc2)]) ?_ ?_
  · intro K hK hRet
    clear hQ
    cases hbb : begunB st1.2.2 st2.1
    · rw [hbb] at F hK
      k_steps
      (try dsimp only)
      rename News _ _ _ _ => N
      rename Fr _ _ _ _ => F
      refine hK () F (News.sub N ?_) ⟨rfl, trivial⟩ trivial
      ((try dsimp only [List.cons_append, List.nil_append]); repeat' (first | exact sub_none | with_reducible exact sub_self | with_reducible exact sub_left | with_reducible exact mem_here | refine sub_more ?_ ?_ | refine mem_skip ?_ | refine mem_right ?_ | refine sub_skip ?_ | refine sub_right ?_))
    · rw [hbb] at F hK
      obtain ⟨e1, e2⟩ := hke (by rw [← hbk]; exact hbb)
      rw [e1] at hlow
      rw [e2] at hhigh
      k_steps
      (try dsimp only)
      rename News _ _ _ _ => N
      rename Fr _ _ _ _ => F
      refine hK () F (News.sub N ?_) ⟨rfl, trivial⟩ trivial
      ((try dsimp only [List.cons_append, List.nil_append]); repeat' (first | exact sub_none | with_reducible exact sub_self | with_reducible exact sub_left | with_reducible exact mem_here | refine sub_more ?_ ?_ | refine mem_skip ?_ | refine mem_right ?_ | refine sub_skip ?_ | refine sub_right ?_))
  --CUT15
  rintro - u h₂ tk₂ - F N
  dsimp only at F N ⊢
  refine cut (ι := Obj × Addr × Nat × List Value × List (Addr × Obj)) (h₀ := s1.heap) (L := L) (fun i => i.1.data = .cell (some (.ref i.2.1)) ∧ DatAll i.2.2.2.2 i.2.2.2.1 ((tOut st2.1 4).map pd)) (fun _ => [("begun", .bool (begunB st1.2.2 st2.1))]) (fun i => (i.2.1, ({ cls := .type "list", data := .seq i.2.2.2.1.toArray i.2.2.1 } : Obj)) :: (L + 1 + 1 + 1 + 1, i.1) :: (R1, W.listOf #[.ref D1, .str (sx st1.2.2) tw1, .ref B1] 0) :: (D1, ({ cls := .type "list", data := .seq os1.toArray p1 } : Obj)) :: (L + 1 + 1, oc2) :: i.2.2.2.2) ?_ ?_
  · intro K hK hRet
    clear hQ
    repeat (first | (fail_if_success (with_reducible show wpAny _ _ (call (Value.ref 130) _) _ _ _)); walk1)
    (try dsimp only)
    rename News _ _ _ _ => N
    rename Fr _ _ _ _ => F
    refine Does.useM (does_turned D2 os2 p2 st2.1 ios2 (good_at (List.mem_of_mem_tail tb2)).1) ((hRoom _).mono (by decide)) F N XX T ⟨(N _ (.tail _ (.tail _ (.head _)))).1, s1.heap, XX, T, F.keep, (N _ (.tail _ (.tail _ (.head _)))).2.2⟩ ?_
    clear F N
    rintro v h' tk' tl off F N ⟨R, k, ys, els, e1, e2, e3, e4⟩
    subst e1
    rw [e2] at N off
    clear e2
    have z1 : @Ne Nat R (L + 1 + 1 + 1 + 1) := off _ (.head _) (L + 1 + 1 + 1 + 1, o1) (by ((try dsimp only [List.cons_append, List.nil_append]); repeat (first | with_reducible exact mem_here | refine mem_skip ?_ | refine mem_right ?_)))
    have z2 : ∀ p ∈ els, @Ne Nat p.1 (L + 1 + 1 + 1 + 1) := fun p hp => off p (.tail _ hp) (L + 1 + 1 + 1 + 1, o1) (by ((try dsimp only [List.cons_append, List.nil_append]); repeat (first | with_reducible exact mem_here | refine mem_skip ?_ | refine mem_right ?_)))
    clear off
    (try dsimp only)
    refine store_cell (c := L + 1 + 1 + 1 + 1) (o := o1) (rest := (R, ({ cls := .type "list", data := .seq ys.toArray k } : Obj)) :: (R2, W.listOf #[.ref D2, .str (sx st2.2.2) tw2, .ref B2] 0) :: (B2, ({ cls := .type "list", data := .seq ms2.toArray q2 } : Obj)) :: (D2, ({ cls := .type "list", data := .seq os2.toArray p2 } : Obj)) :: (R1, W.listOf #[.ref D1, .str (sx st1.2.2) tw1, .ref B1] 0) :: (B1, ({ cls := .type "list", data := .seq ms1.toArray q1 } : Obj)) :: (D1, ({ cls := .type "list", data := .seq os1.toArray p1 } : Obj)) :: (L + 1 + 1 + 1, oc3) :: (L + 1 + 1, oc2) :: els) rfl rfl rfl F (News.sub N ?_) d1 ?_ ?_
    · ((try dsimp only [List.cons_append, List.nil_append]); repeat' (first | exact sub_none | with_reducible exact sub_self | with_reducible exact sub_left | with_reducible exact mem_here | refine sub_more ?_ ?_ | refine mem_skip ?_ | refine mem_right ?_ | refine sub_skip ?_ | refine sub_right ?_))
    · repeat' (first | exact z2 | refine all_more ?_ ?_ | omega)
    clear F N
    intro h' o' F N hcl
    (try dsimp only)
    refine hK ⟨o', R, k, ys, els⟩ F (News.sub N ?_) ⟨rfl, trivial⟩ ⟨hcl, e3⟩
    ((try dsimp only [List.cons_append, List.nil_append]); repeat' (first | exact sub_none | with_reducible exact sub_self | with_reducible exact sub_left | with_reducible exact mem_here | refine sub_more ?_ ?_ | refine mem_skip ?_ | refine mem_right ?_ | refine sub_skip ?_ | refine sub_right ?_))
  --CUT16
  rintro ⟨oc4, TR, kT, ysT, els2⟩ u h₂ tk₂ ⟨dc4, hda2⟩ F N
  dsimp only at F N dc4 hda2 ⊢
  have hkv := kept_val st1.1 st2.1
  have hrm : callerA.units + 3 + 64 < cLine := by decide
  have hok2 : ∀ d ∈ (tOut st2.1 4).map pd, kqdOk 8 d = true := by
    intro d hd
    obtain ⟨x, _, hx⟩ := List.mem_map.mp hd
    subst hx; rfl
  repeat (first | (fail_if_success (with_reducible show wpAny _ _ (eval (PySem.Expr.ListComp _ _ _ _) _) _ _ _)); walk1)
  (try dsimp only)
  rename News _ _ _ _ => N
  rename Fr _ _ _ _ => F
  refine comp_late (cl := [("later", L + 1 + 1 + 1 + 1)]) rfl (by decide) rfl (by decide) rfl ?_
  repeat (first | (fail_if_success (with_reducible show wpAny _ _ (call (Value.ref 130) _) _ _ _)); walk1)
  (try dsimp only)
  rename News _ _ _ _ => N
  rename Fr _ _ _ _ => F
  refine Does.useM (does_turned D1 os1 p1 st1.1 ios1 (good_at (List.mem_of_mem_tail tb1)).1) ((hRoom _).mono (by decide)) F N XX T ⟨(N _ (.tail _ (.tail _ (.tail _ (.head _))))).1, s1.heap, XX, T, F.keep, (N _ (.tail _ (.tail _ (.tail _ (.head _))))).2.2⟩ ?_
  clear F N
  rintro v h' tk' tl off F N ⟨U, kU, ysU, els, e1, e2, hda1, hlt⟩
  subst e1
  rw [e2] at N
  clear e2 off
  (try dsimp only)
  have hUl : ysU.length ≤ 1000 := by
    have h1 := DatAll.len hda1
    have h2 := tOut_len st1.1 4
    rw [List.length_map] at h1
    omega
  refine wpAny_mono (compList (p := notP els ((tOut st2.1 4).map pd)) (G := fun v y => y = v) (News.isList N (.head _)) (by rw [List.size_toArray]; omega) rfl F N ?_ ?_ ?_) (fun it s₂ h => ⟨_, _, h⟩) (fun _ _ e => e)
  · intro C j v s₃ m₃ E' hv F N
    obtain ⟨x, hxm, hdx⟩ := dat_at hda1 (show ysU[j]? = some v by simpa using hv)
    have hfun : ∀ p ∈ els, ∀ q ∈ els, p.1 = q.1 → p.2 = q.2 := fun p hp q hq e => by
      have h1 := (N p (.tail _ (List.mem_append_left _ hp))).1
      have h2 := (N q (.tail _ (List.mem_append_left _ hq))).1
      rw [e, h2] at h1
      exact (Option.some.inj h1).symm
    rw [notP_eq hfun hdx]
    refine wpAny_tests_one ?_
    repeat (first | ((fail_if_success (with_reducible show wpAny _ _ (compareOp _ _ _) _ _ _)); walk1) | exact (0 : Nat) | exact Str.empty | exact Value.none | exact ([] : List (Str × Addr)))
    (try dsimp only)
    rename News _ _ _ _ => N
    rename Fr _ _ _ _ => F
    refine kqd_notIn N (.tail _ (List.mem_append_right _ (.head _))) rfl rfl hda2 (fun p hp => .tail _ (List.mem_append_right _ (.tail _ (.tail _ (.tail _ (.tail _ (.tail _ (hp)))))))) hdx (fun p hp => .tail _ (List.mem_append_left _ hp)) hok2 rfl hrm ?_
    rw [memD_eq]
    generalize (!memD ((tOut st2.1 4).map pd) (pd x)) = bb
    clear hdx
    cases bb
    all_goals (
      k_steps
      all_goals (try dsimp only)
      all_goals first | exact rfl | exact ⟨_, _, rfl, fun _ _ e => e⟩ | exact ⟨rfl, _, _, rfl, fun _ _ e => e⟩)
  · intro C j v s₃ m₃ E' hv hp F N
    k_steps
    all_goals (try dsimp only)
    all_goals first | exact rfl | exact ⟨_, _, rfl, fun _ _ e => e⟩ | exact ⟨rfl, _, _, rfl, fun _ _ e => e⟩ | exact (0 : Nat) | exact Str.empty | exact Value.none | exact []
  · intro DK h' tk' ys k3 vs2 F2 N2 hne hlen hP hpr H'
    (try dsimp only)
    have e1 : vs2 = ysU := same_items (by simpa using hlen) (fun j v h => by simpa using hP j v h)
    rw [e1] at hpr
    have hfun : ∀ p ∈ els, ∀ q ∈ els, p.1 = q.1 → p.2 = q.2 := fun p hp q hq e => by
      have h1 := (N2 p (.tail _ (.tail _ (List.mem_append_left _ hp)))).1
      have h2 := (N2 q (.tail _ (.tail _ (List.mem_append_left _ hq)))).1
      rw [e, h2] at h1
      exact (Option.some.inj h1).symm
    have hys := filter_dat hfun hda1 hpr
    clear hpr hP e1 hfun
    repeat (first | (fail_if_success (with_reducible show wpAny _ _ (compareOp _ _ _) _ _ _)); walk1)
    (try dsimp only)
    rename News _ _ _ _ => N
    rename Fr _ _ _ _ => F
    refine kqd_eq (n₂ := []) (xs := ys.toList) N (.tail _ (.head _)) rfl (by rw [Array.toArray_toList]) hys (fun p hp => .tail _ (.tail _ (.tail _ (List.mem_append_left _ hp)))) (.head _) rfl rfl (ys := []) (es := []) .nil (fun _ h => nomatch h) ?ha (fun _ h => nomatch h) hrm ?_
    case ha =>
      intro d hd
      obtain ⟨x, _, hx⟩ := List.mem_map.mp hd
      subst hx; rfl
    rw [hkv]
    clear hys
    rw [hbk] at F
    generalize keptB st1.1 st2.1 = kb at *
    (try dsimp only)
    k_steps
    (try dsimp only)
    rw [beq_self_eq_true]
    rename Fr _ _ _ _ => F
    exact hQ _ _ _ F
  )
end

end Mine
theorem PySem.Challenge.cw_sc0075_01_holds : PySem.Challenge.rw_sc0075_01.Holds :=
  Mine.fin
