import PyProof.Rows.All
import Wide.All
import OpenK.AllK
import Wide.FinOn
import PySem.Challenge.RW_oh0014_01
open PySem PySem.W PyProof.Rows
set_option Elab.async false
set_option maxRecDepth 100000
set_option maxHeartbeats 8000000
set_option rowWalk.seconds 0
set_option linter.all false
set_option compiler.reuse false
set_option compiler.extract_closed false
local macro_rules | `(tactic| walk_at $s:str) => `(tactic| k_extra $s)
local macro_rules | `(tactic| k_all) => `(tactic| assumption)
local macro_rules | `(tactic| k_mem) => `(tactic| assumption)
local macro_rules | `(tactic| k_room) => `(tactic| ((try simp only [depth_under_make, depth_under_kw, depth_in1, depth_deeper, depth_caller]); (try dsimp only); omega))
namespace Mine
section
def st (k : Nat) : Stmt := (PySem.Challenge.pw_oh0014_01.main.body.drop k).head!
def pq : Program := { PySem.Challenge.pw_oh0014_01 with main := { PySem.Challenge.pw_oh0014_01.main with body := [st 0, st 1, st 2, st 3, st 4, st 5, st 6, st 7, st 8, st 9, st 10, st 11, st 12, st 13, st 14, st 15, st 16, st 17, st 18, st 19, st 20] } }
theorem pq_eq : pq = PySem.Challenge.pw_oh0014_01 := by rfl
def rq : OpenLaw := { prog := pq, name := Str.ofString "law", about := [Str.ofString "heappop"], foot := 5, most := some 63, bound := none, writes := false }
theorem rq_eq : rq = PySem.Challenge.rw_oh0014_01 := by rfl
section
local macro_rules | `(tactic| o_head $_) => `(tactic| assumption)
theorem fr : PySem.Challenge.rw_oh0014_01.row.Holds → PySem.Challenge.rw_oh0014_01.row.Holds := by
  intro h
  k_head
end
noncomputable def Kf : Params → Frag := fun P => (fun (x : Frag) (_ : ∃ y, x = y) => x) _ ⟨fr.heap_1 P, (by conv => rhs; whnf)⟩
noncomputable def asL : List Addr := [2, 3, 6, 15, 17, 18, 20, 21, 22, 24, 25, 27, 28, 29, 31, 32, 34, 35, 36, 38, 39, 41, 42, 43, 45, 46, 48, 49, 50, 52, 53, 55, 56, 57, 59, 60, 62, 63, 64, 66, 67, 69, 70, 71, 73, 74, 76, 77, 78, 80, 81, 83, 84, 92, 93, 96, 97, 98, 100, 101, 103, 104, 105, 106, 107, 108, 109, 112, 115, 116, 117, 119, 120, 122, 123, 124, 127, 128, 129, 132, 133, 134, 137, 138]
theorem asE : ∀ P, asL = (Kf P).map (·.1) := fun _ => by kernel_rfl
section
local macro_rules
  | `(tactic| o_head (($_))) => Lean.Macro.throwUnsupported
  | `(tactic| o_head $_) => `(tactic| o_head ((kHook Kf asL asE)))
open_top hd for rq
end
end
end Mine
section PartBase
open PySem PySem.W PyProof.Rows PySem.Calls PySem.Spec
namespace Mine
noncomputable def Halt (P : Prop) : Prop := P
theorem halt {P : Prop} (h : Halt P) : P := h
noncomputable def lexlt (a b : Int × Int) : Bool := decide (a.1 < b.1 ∨ (a.1 = b.1 ∧ a.2 < b.2))
noncomputable abbrev PRG : Program := PySem.Challenge.rw_oh0014_01.row.prog
/-- the items of a heap: which values they are, what they are ordered by, and that «<» says so -/
structure Cmp (w : World) (R : List (Addr × Obj)) (S : Value → Prop) (key : Value → Int × Int) : Prop where
  lt : ∀ {A : Around} {E : Value → Shared → Prop} {s : Shared} {h₀ : Heap} {L : Addr} {u v : Value} {Q : Value → Shared → Prop},
    S u → S v → News h₀ L s.heap R → A.units + 10 < cLine → (∀ tk, Q (.bool (lexlt (key u) (key v))) { s with toks := tk }) →
    wpAny (model PySem.Challenge.rw_oh0014_01.row.prog w) A (compareOp .Lt u v) Q E s
section
variable {prog : Program} {w : World} {A : Around} {E : Value → Shared → Prop} {s : Shared} {h₀ : Heap} {L D : Addr} {m : Str → Option Value} {news news' : List (Addr × Obj)} {vs : List Value} {n : Nat}
theorem item_at {value slice : PySem.Expr} {k : Int} {u : Tok} {Q : Value → Shared → Prop} (N : News h₀ L s.heap news) (hm : (D, listOf vs.toArray n) ∈ news) (h0 : 0 ≤ k) (h1 : k.toNat < vs.length) (hz : vs.length < 100000)
    (h : Q (vs.getD k.toNat .none) s)
    (hs : subscripted slice false (.ref D) (.int k u) = operate [.ref D, .int k u] (getItem (.ref D) (.int k u)) := by with_unfolding_all rfl) :
    wpAny (model prog w) A (subscriptTail value slice (.ref D) (.int k u)) Q E s := by
  refine item_litK (vs := vs) (News.isList N hm) h0 (by omega) ?_ h hs
  rw [List.getD_eq_getElem?_getD, List.getElem?_eq_getElem h1]; rfl
theorem set_at {k : Int} {t : Tok} {v : Value} {Q : Unit → Shared → Prop} (F : Fr h₀ L s.heap m) (N : News h₀ L s.heap news) (U : Upd D (listOf vs.toArray n) (listOf (vs.set k.toNat v).toArray n) news news')
    (h0 : 0 ≤ k) (h1 : k.toNat < vs.length) (hz : vs.length < 100000)
    (h : ∀ h', Fr h₀ L h' m → News h₀ L h' news' → Q () { s with heap := h' }) : wpAny (model prog w) A (setItem (.ref D) (.int k t) v) Q E s := by
  obtain ⟨pre, post, rfl, rfl, a, b⟩ := U.split
  have z := N (D, listOf vs.toArray n) (List.mem_append.mpr (.inr (.head _)))
  refine ki_setAt z.1 h0 (by omega) (by simp; omega) (h _ (F.change (Heap.SameBut.update ..) z.2.1 z.2.2) (ki_turn _ N a b ?_ ?_))
  · simp
  · simp
end
/-- a list's form: items and lists by number -/
inductive Tr where
  | nil : Tr
  | at (i : Nat) (t : Tr) : Tr
  | ls (j : Nat) : Tr
  | ap (a b : Tr) : Tr
noncomputable def Tr.den {α : Type} (e : List α) (l : List (List α)) : Tr → List α
  | .nil => []
  | .at i t => (match e[i]? with | some a => a :: t.den e l | none => t.den e l)
  | .ls j => l.getD j []
  | .ap a b => a.den e l ++ b.den e l
noncomputable def Tr.its : Tr → List Nat
  | .nil => []
  | .at i t => i :: t.its
  | .ls _ => []
  | .ap a b => a.its ++ b.its
noncomputable def Tr.lss : Tr → List Nat
  | .nil => []
  | .at _ t => t.lss
  | .ls j => [j]
  | .ap a b => a.lss ++ b.lss
noncomputable def inAll (a b : List Nat) : Bool := a.all fun x => b.any fun y => Nat.beq x y
theorem Tr.mem {α : Type} {e : List α} {l : List (List α)} {q : α} : ∀ {t : Tr}, q ∈ t.den e l ↔ (∃ i ∈ t.its, e[i]? = some q) ∨ ∃ j ∈ t.lss, q ∈ l.getD j []
  | .nil => by simp [den, its, lss]
  | .at i t => by
    unfold den its lss
    have ih := Tr.mem (e := e) (l := l) (q := q) (t := t)
    cases h : e[i]? with
    | none =>
      rw [ih]
      constructor
      · rintro (⟨k, h1, h2⟩ | h1)
        · exact .inl ⟨k, List.mem_cons_of_mem _ h1, h2⟩
        · exact .inr h1
      · rintro (⟨k, h1, h2⟩ | h1)
        · rcases List.mem_cons.mp h1 with rfl | h1
          · rw [h] at h2; cases h2
          · exact .inl ⟨k, h1, h2⟩
        · exact .inr h1
    | some a =>
      rw [List.mem_cons, ih]
      constructor
      · rintro (rfl | ⟨k, h1, h2⟩ | h1)
        · exact .inl ⟨i, List.mem_cons_self .., h⟩
        · exact .inl ⟨k, List.mem_cons_of_mem _ h1, h2⟩
        · exact .inr h1
      · rintro (⟨k, h1, h2⟩ | h1)
        · rcases List.mem_cons.mp h1 with rfl | h1
          · rw [h] at h2; exact .inl (Option.some.inj h2).symm
          · exact .inr (.inl ⟨k, h1, h2⟩)
        · exact .inr (.inr h1)
  | .ls j => by simp [den, its, lss]
  | .ap a b => by
    unfold den its lss
    simp only [List.mem_append, Tr.mem (t := a), Tr.mem (t := b)]
    constructor
    · rintro ((⟨i, h1, h2⟩ | ⟨i, h1, h2⟩) | (⟨i, h1, h2⟩ | ⟨i, h1, h2⟩))
      · exact .inl ⟨i, .inl h1, h2⟩
      · exact .inr ⟨i, .inl h1, h2⟩
      · exact .inl ⟨i, .inr h1, h2⟩
      · exact .inr ⟨i, .inr h1, h2⟩
    · rintro (⟨i, h1 | h1, h2⟩ | ⟨i, h1 | h1, h2⟩)
      · exact .inl (.inl ⟨i, h1, h2⟩)
      · exact .inr (.inl ⟨i, h1, h2⟩)
      · exact .inl (.inr ⟨i, h1, h2⟩)
      · exact .inr (.inr ⟨i, h1, h2⟩)
theorem inAll_mem {a b : List Nat} (h : inAll a b = true) : ∀ x ∈ a, x ∈ b := by
  intro x hx
  unfold inAll at h
  have h1 := List.all_eq_true.mp h x hx
  obtain ⟨y, hy, e⟩ := List.any_eq_true.mp h1
  rw [Nat.eq_of_beq_eq_true e]
  exact hy
theorem shuf {α : Type} (e : List α) (l : List (List α)) (s d : Tr) (h1 : inAll d.its s.its = true) (h2 : inAll d.lss s.lss = true) : ∀ q ∈ d.den e l, q ∈ s.den e l := by
  intro q hq
  rcases Tr.mem.mp hq with ⟨i, h3, h4⟩ | ⟨i, h3, h4⟩
  · exact Tr.mem.mpr (.inl ⟨i, inAll_mem h1 i h3, h4⟩)
  · exact Tr.mem.mpr (.inr ⟨i, inAll_mem h2 i h3, h4⟩)
theorem dle {a k n r : Nat} (h : a + n < r) (hk : k ≤ n := by decide) : a + k < r := Nat.lt_of_le_of_lt (Nat.add_le_add_left hk a) h
theorem dle1 {a k n r : Nat} (h : a + n < r) (hk : k + 1 ≤ n := by decide) : a + 1 + k < r := by rw [Nat.add_assoc, Nat.add_comm 1 k]; exact dle h hk
theorem ule3 {a k n r : Nat} (h : a + n < r) (hk : k + 3 ≤ n := by decide) : a + 3 + k < r := by rw [Nat.add_assoc, Nat.add_comm 3 k]; exact dle h hk
theorem News.tl {h₀ h : Heap} {L : Addr} {x : Addr × Obj} {R : List (Addr × Obj)} (N : News h₀ L h (x :: R)) : News h₀ L h R := fun p hp => N p (.tail _ hp)
theorem getD_S {S : Value → Prop} {vs : List Value} {k : Nat} (hS : ∀ v ∈ vs, S v) (hk : k < vs.length) : S (vs.getD k .none) := by
  rw [List.getD_eq_getElem?_getD, List.getElem?_eq_getElem hk]; exact hS _ (List.getElem_mem hk)
section
variable {prog : Program} {w : World} {A : Around} {E : Value → Shared → Prop} {s : Shared} {h₀ : Heap} {L D : Addr} {m : Str → Option Value} {news news' : List (Addr × Obj)} {vs : List Value} {n : Nat}
theorem item_n {value slice : PySem.Expr} {k : Nat} {u : Tok} {Q : Value → Shared → Prop} (N : News h₀ L s.heap news) (hm : (D, listOf vs.toArray n) ∈ news) (h1 : k < vs.length) (hz : vs.length < 100000)
    (h : Q (vs.getD k .none) s)
    (hs : subscripted slice false (.ref D) (.int (k : Int) u) = operate [.ref D, .int (k : Int) u] (getItem (.ref D) (.int (k : Int) u)) := by with_unfolding_all rfl) :
    wpAny (model prog w) A (subscriptTail value slice (.ref D) (.int (k : Int) u)) Q E s :=
  item_at N hm (by omega) (by simpa using h1) hz (by simpa using h) hs
theorem set_n {k : Nat} {t : Tok} {v : Value} {Q : Unit → Shared → Prop} (F : Fr h₀ L s.heap m) (N : News h₀ L s.heap news) (U : Upd D (listOf vs.toArray n) (listOf (vs.set k v).toArray n) news news')
    (h1 : k < vs.length) (hz : vs.length < 100000)
    (h : ∀ h', Fr h₀ L h' m → News h₀ L h' news' → Q () { s with heap := h' }) : wpAny (model prog w) A (setItem (.ref D) (.int (k : Int) t) v) Q E s :=
  set_at F N (by simpa using U) (by omega) (by simpa using h1) hz h
theorem sub_g {a b : Int} {t u : Tok} {Q : Value → Shared → Prop} (h : ∀ t tk, Q (.int (a - b) t) { s with toks := tk }) : wpAny (model prog w) A (binaryOp .Sub (.int a t) (.int b u)) Q E s := sub_int (h _ _)
theorem add_g {a b : Int} {t u : Tok} {Q : Value → Shared → Prop} (h : ∀ t tk, Q (.int (a + b) t) { s with toks := tk }) : wpAny (model prog w) A (binaryOp .Add (.int a t) (.int b u)) Q E s := add_int (h _ _)
theorem add_n {a b : Nat} {t u : Tok} {Q : Value → Shared → Prop} (h : ∀ t tk, Q (.int ((a + b : Nat) : Int) t) { s with toks := tk }) : wpAny (model prog w) A (binaryOp .Add (.int (a : Int) t) (.int (b : Int) u)) Q E s :=
  add_g fun t tk => by have := h t tk; rwa [Int.natCast_add] at this
theorem add_n1 {a : Nat} {t u : Tok} {Q : Value → Shared → Prop} (h : ∀ t tk, Q (.int ((a + 1 : Nat) : Int) t) { s with toks := tk }) : wpAny (model prog w) A (binaryOp .Add (.int (a : Int) t) (.int 1 u)) Q E s := add_n (b := 1) h
theorem shr_half {j : Nat} {t u : Tok} {Q : Value → Shared → Prop} (hj : 0 < j) (h : ∀ t tk, Q (.int (((j - 1) / 2 : Nat) : Int) t) { s with toks := tk }) : wpAny (model prog w) A (binaryOp .RShift (.int ((j : Int) - 1) t) (.int 1 u)) Q E s := by
  refine rshift_int (by decide) ?_
  have e : ((j : Int) - 1).fdiv (2 ^ Int.toNat 1) = (((j - 1) / 2 : Nat) : Int) := by
    show ((j : Int) - 1).fdiv 2 = _
    rw [Int.fdiv_eq_ediv_of_nonneg _ (by decide)]; omega
  rw [e]; exact h _ _
theorem mul2_n {j : Nat} {t u : Tok} {Q : Value → Shared → Prop} (h : ∀ t tk, Q (.int ((2 * j : Nat) : Int) t) { s with toks := tk }) : wpAny (model prog w) A (binaryOp .Mult (.int 2 t) (.int (j : Int) u)) Q E s := by
  refine mul_int ?_ ?_
  · have := h s.toks (s.toks + 1); rwa [Int.natCast_mul] at this
  · exact IntMulOk.of_left (by decide)
end
/-- where a call stands: what lies around its caller -/
noncomputable def Site (w : World) (A : Around) (h₀ : Heap) (L : Addr) : Prop :=
  ∃ (A₀ : Around) (base : Heap) (env : Env) (outer : List Env) (p : Program) (loose : List Str) (mean : ExcName → Option Value) (mg mb : Str → Option Value),
    Below A₀ base outer h₀ ∧ (hd.heap_39 w.params).In h₀ ∧ Top p loose mean mg mb h₀ ∧ A.frames = some (env :: outer) ∧ env.frame = some L ∧ env.scope.kind = .function ∧ A.handled = none
theorem Site.deeper {w : World} {A : Around} {base g : Heap} {outer : List Env} {p : Program} {loose : List Str} {mean : ExcName → Option Value} {mg mb : Str → Option Value} {q : Str} {sc : Scope} {L' f : Addr} {cd : Value} {cl : List (Str × Addr)}
    (B : Below A base outer g) (X : (hd.heap_39 w.params).In g) (T : Top p loose mean mg mb g) (hh : A.handled = none) (hk : sc.kind = .function := by rfl) : Site w (A.deeper (envX q sc L' f cd cl)) g L' :=
  ⟨A, base, envX q sc L' f cd cl, outer, p, loose, mean, mg, mb, B, X, T, by show A.frames.map _ = _; rw [B.stack]; rfl, rfl, hk, hh⟩
theorem fill_ (w : World) : PySem.Challenge.rw_oh0014_01.foot = 5 → hd.heap_39 w.params = hd.heap_39 w.params := by k_fill; intro _; rfl
noncomputable def sdL (key : Value → Int × Int) (x : Value) (vs : List Value) (k : Nat) : List Value :=
  if h : 0 < k ∧ lexlt (key x) (key (vs.getD ((k - 1) / 2) .none)) = true then sdL key x (vs.set k (vs.getD ((k - 1) / 2) .none)) ((k - 1) / 2)
  else vs.set k x
termination_by k
decreasing_by omega
noncomputable def suC (key : Value → Int × Int) (vs : List Value) (k : Nat) : Nat :=
  if 2 * k + 2 < vs.length ∧ lexlt (key (vs.getD (2 * k + 1) .none)) (key (vs.getD (2 * k + 2) .none)) = false then 2 * k + 2 else 2 * k + 1
theorem suC_gt (key : Value → Int × Int) (vs : List Value) (k : Nat) : k < suC key vs k := by unfold suC; split <;> omega
theorem suC_lt {key : Value → Int × Int} {vs : List Value} {k : Nat} (h : 2 * k + 1 < vs.length) : suC key vs k < vs.length := by unfold suC; split <;> omega
noncomputable def suL (key : Value → Int × Int) (x : Value) (vs : List Value) (k : Nat) : List Value :=
  if h : 2 * k + 1 < vs.length then suL key x (vs.set k (vs.getD (suC key vs k) .none)) (suC key vs k)
  else sdL key x (vs.set k x) k
termination_by vs.length - k
decreasing_by
  simp only [List.length_set]
  have := suC_gt key vs k
  omega
theorem getD_set_self {vs : List Value} {k : Nat} {x : Value} (h : k < vs.length) : (vs.set k x).getD k .none = x := by
  rw [List.getD_eq_getElem?_getD, List.getElem?_set_self h]; rfl
section
variable {prog : Program} {w : World} {A : Around} {E : Value → Shared → Prop} {s : Shared} {h₀ : Heap} {L D : Addr} {m : Str → Option Value} {news news' : List (Addr × Obj)} {vs : List Value} {n : Nat}
theorem len_n {Q : Value → Shared → Prop} (N : News h₀ L s.heap news) (hm : (D, listOf vs.toArray n) ∈ news) (hz : vs.length < 100000) (h : ∀ t tk, Q (.int (vs.length : Int) t) { s with toks := tk }) :
    wpAny (model prog w) A (call (.builtin "len") [.ref D]) Q E s :=
  len_list (News.isList N hm) (by simp; omega) (by simpa using h _ _)
theorem app_n {x : Value} {Q : Value → Shared → Prop} (F : Fr h₀ L s.heap m) (N : News h₀ L s.heap news) (U : Upd D (listOf vs.toArray n) (listOf (vs ++ [x]).toArray (n + 1)) news news') (hz : vs.length < 100000)
    (h : ∀ h', Fr h₀ L h' m → News h₀ L h' news' → Q .none { s with heap := h' }) : wpAny (model prog w) A (call (.builtin "list.append") [.ref D, x]) Q E s :=
  append_K (its := vs.toArray) (n := n) F N (by simpa using U) h (by simp [sizeLine]; omega)
theorem pop_n {p : List Value} {y : Value} {Q : Value → Shared → Prop} (F : Fr h₀ L s.heap m) (N : News h₀ L s.heap news) (U : Upd D (listOf (p ++ [y]).toArray n) (listOf p.toArray (n + 1)) news news')
    (hz : p.length < 100000) (h : ∀ h', Fr h₀ L h' m → News h₀ L h' news' → Q y { s with heap := h' }) : wpAny (model prog w) A (call (.builtin "list.pop") [.ref D]) Q E s := by
  refine kl_pop F N ?_ U (by simp [sizeLine]; omega) h
  have : ∀ p : List Value, kl_last (p ++ [y]) = some (p, y) := by
    intro p
    induction p with
    | nil => rfl
    | cons a r ih =>
      show (match kl_last (r ++ [y]) with | some (p, y) => some (a :: p, y) | none => some ([], a)) = _
      rw [ih]
  exact this p
theorem truthy_n {Q : Bool → Shared → Prop} (N : News h₀ L s.heap news) (hm : (D, listOf vs.toArray n) ∈ news) (hz : vs.length < 100000) (h : ∀ tk, Q (decide (0 < vs.length)) { s with toks := tk }) :
    wpAny (model prog w) A (truthy (.ref D)) Q E s := by
  refine wpAny_truthy_list (items := vs.toArray) (News.isList N hm) (by simp; omega) ?_
  have e : (!vs.toArray.isEmpty) = decide (0 < vs.length) := by cases vs <;> simp
  rw [e]
  exact h _
theorem sub_n1 {a : Nat} {t u : Tok} {Q : Value → Shared → Prop} (ha : 0 < a) (h : ∀ t tk, Q (.int ((a - 1 : Nat) : Int) t) { s with toks := tk }) : wpAny (model prog w) A (binaryOp .Sub (.int (a : Int) t) (.int 1 u)) Q E s :=
  sub_g fun t tk => by have := h t tk; rwa [Int.natCast_sub (by omega)] at this
end
theorem hideX {M : Model} {A : Around} {b : List Stmt} {env : Env} {Q : Flow → Shared → Prop} {E : Value → Shared → Prop} {s : Shared} (k : ∀ R, R = Q → wpAny M A (execs b env) R E s) : wpAny M A (execs b env) Q E s := k Q rfl
theorem hideQ {M : Model} {A : Around} {α : Type} {t : Sem α} {Q : α → Shared → Prop} {E : Value → Shared → Prop} {s : Shared} (k : ∀ R, R = Q → wpAny M A t R E s) : wpAny M A t Q E s := k Q rfl
end Mine
end PartBase
section PartHeap1
open PySem PySem.W PyProof.Rows PySem.Calls PySem.Spec
set_option maxHeartbeats 8000000
namespace Mine
theorem words_Heap1 : True := by
  w_top off
  k_with_none
  k_with "exec While Compare cons nil" => refine halt ?_
  k_with "KswEnd" => refine halt ?_
  k_with "subscriptTail Name Name ref int" => (k_here; (with_unfolding_all refine' item_n (by k_asm) (by k_mem) (by (try simp only [List.length_set]); omega) (by (try simp only [List.length_set]); omega) ?_ (by with_unfolding_all rfl); k_whole))
  k_with "setItem ref int" => (k_here; k_dflt (refine' set_n (by k_asm) (by k_asm) (by k_upd) (by (try simp only [List.length_set]); omega) (by (try simp only [List.length_set]); omega) ?_; k_whole); intro _ _ _; (try k_sweep))
  k_with "binaryOp Sub int int" => (refine sub_g ?_; intro _ _)
  k_with "binaryOp RShift int int" => (refine shr_half (by omega) ?_; intro _ _)
  k_with "compareOp Lt" => (refine Cmp.lt (by assumption) (by first | exact getD_S (by assumption) (by omega)) (by first | exact getD_S (by assumption) (by omega)) (News.tl (by assumption)) (by simp only [Around.deeper_units]; omega) ?_; intro _)
  k_with "binaryOp Mult int int" => (refine mul2_n ?_; intro _ _)
  k_with "binaryOp Add int int" => (refine add_n1 ?_; intro _ _)
  k_with "call builtin:len" => (k_here; (with_reducible show wpAny _ _ (call (Value.builtin "len") [Value.ref _]) _ _ _); k_dflt (refine' len_n (by k_asm) (by k_mem) (by (try simp only [List.length_set]); omega) ?_; k_whole); intro _ _)
  k_with "call ref" => refine halt ?_
  trivial
section
theorem siftdown_call {w : World} {A : Around} {h₀ : Heap} {L : Addr} {m : Str → Option Value} {s : Shared} {Q : Value → Shared → Prop} {E : Value → Shared → Prop}
   {H : Addr} {vs : List Value} {n : Nat} {R : List (Addr × Obj)} {k : Nat} {t0 tP : Tok} {S : Value → Prop} {key : Value → Int × Int}
   (Z : Site w A h₀ L) (F : Fr h₀ L s.heap m) (N : News h₀ L s.heap ((H, listOf vs.toArray n) :: R)) (hdp : A.depth + 5 < recursionLimit) (hun : A.units + 30 < cLine) (hR : ∀ p ∈ R, p.1 ≠ H) (hkl : k < vs.length) (hvl : vs.length < 1000)
   (C : Cmp w R S key) (hS : ∀ v ∈ vs, S v)
   (hQ : ∀ h' tk, Fr h₀ L h' m → News h₀ L h' ((H, listOf (sdL key (vs.getD k .none) vs k).toArray n) :: R) → Q .none { s with heap := h', toks := tk }) :
   wpAny (model PySem.Challenge.rw_oh0014_01.row.prog w) A (call (.ref 42) [.ref H, .int 0 t0, .int (k : Int) tP]) Q E s := by
  obtain ⟨A₀, base, env, outer, p, loose, mean, mg, mb, B, X, T, hA, hf, hk, hh⟩ := Z
  refine wpAny_call ?_
  k_dflt (refine' code_def (binds := [(Str.ofString "heap", .ref H), (Str.ofString "startpos", .int 0 t0), (Str.ofString "pos", .int (k : Int) tP)]) B F X N T hA hf hk ?k6 ?k7 ?k8 ?k9 ?kB ?_ ?c2 ?c3 ?c4 ?c5; (case k6 => k_is); (case k7 => k_is); (case k8 => omega); (case k9 => exact BindsTo.of_eq rfl); (case c5 => decide); (case kB => exact locs rfl); (case c2 => exact rfl); (case c3 => exact rfl); (case c4 => exact rfl); k_whole; intro g' L' h' FG' F' N' B' X' T'; (try dsimp only); (try k_fold))
  clear N F X T
  refine hideX ?_
  intro Q1 hq1
  k_steps
  change wpAny _ _ _ _ _ _
  refine ksw_while (σ := List Value × Nat × Tok) (fun c => (H, listOf c.1.toArray n) :: R) (fun c => [(Str.ofString "pos", .int (c.2.1 : Int) c.2.2)]) (fun _ => True) [Str.ofString "parentpos", Str.ofString "parent"]
    (fun c => c.2.1 < c.1.length ∧ c.1.length = vs.length ∧ (∀ v ∈ c.1, S v) ∧ sdL key (vs.getD k .none) c.1 c.2.1 = sdL key (vs.getD k .none) vs k) (fun c => c.2.1) (vs, k, tP) (by k_asm) (by k_asm) trivial ?hk ⟨hkl, rfl, hS, rfl⟩ ?_
  case hk => 
    intro p hp
    simp only [List.mem_singleton] at hp
    subst hp
    rfl
  rintro ⟨ws, j, tj⟩ u h1 tk1 - ⟨hj, hlen, hSw, heq⟩ F1 N1
  dsimp only at hj hlen hSw heq F1 N1 ⊢
  repeat' (first | (fail_if_success (with_reducible show wpAny _ _ (execs _ _) _ _ _)); (first | (k_unfold; (try dsimp only)) | walk1 | (dsimp only; walk1)))
  refine hideX ?_
  intro Q2 hq2
  all_goals k_steps
  all_goals (try (with_reducible change Q2 _ _; subst hq2; (try dsimp only); (try k_steps)))
  · refine' ksw_end (ws.set j (ws.getD ((j - 1) / 2) .none), (j - 1) / 2, _) (by assumption) (by assumption) (fun p hp => hp) trivial ?hk ?hr ⟨?ha, ?hb, ?hc, ?hd⟩ ?he
    case hk =>
      intro p hp
      simp only [List.mem_singleton] at hp
      subst hp
      rfl
    all_goals dsimp only
    · (intro z h2 h3; (simp only [List.forall_mem_cons, List.not_mem_nil, false_implies, implies_true, and_true, ne_eq] at h2); (simp only [List.contains_cons, List.contains_nil, Bool.or_false, Bool.or_eq_false_iff, beq_eq_false_iff_ne, ne_eq] at h3); simp [kstB, h2, h3])
    · simp only [List.length_set]; omega
    · simp only [List.length_set]; omega
    · intro v hv
      rcases List.mem_or_eq_of_mem_set hv with hv | rfl
      · exact hSw v hv
      · exact getD_S hSw (by omega)
    · rw [← heq]
      conv => rhs; rw [sdL]
      rw [dif_pos ⟨by omega, by assumption⟩]
    · show (j - 1) / 2 < j
      omega
  · (try (with_reducible change Q1 _ _; subst hq1; (try dsimp only); (try k_steps)))
    refine leaveK_ (by assumption) (by assumption) ?_
    intro kF kN
    refine hQ _ _ kF ?_
    rw [← heq, sdL, dif_neg]
    · assumption
    · rintro ⟨_, h2⟩
      simp_all
  · (try (with_reducible change Q1 _ _; subst hq1; (try dsimp only); (try k_steps)))
    refine leaveK_ (by assumption) (by assumption) ?_
    intro kF kN
    refine hQ _ _ kF ?_
    rw [← heq, sdL, dif_neg]
    · assumption
    · rintro ⟨h2, _⟩
      omega
theorem set_S {S : Value → Prop} {vs : List Value} {k : Nat} {x : Value} (hS : ∀ v ∈ vs, S v) (hx : S x) : ∀ v ∈ vs.set k x, S v := fun v hv => by
  rcases List.mem_or_eq_of_mem_set hv with hv | rfl
  · exact hS v hv
  · exact hx
theorem siftup_call {w : World} {A : Around} {h₀ : Heap} {L : Addr} {m : Str → Option Value} {s : Shared} {Q : Value → Shared → Prop} {E : Value → Shared → Prop}
   {H : Addr} {vs : List Value} {n : Nat} {R : List (Addr × Obj)} {t0 : Tok} {S : Value → Prop} {key : Value → Int × Int}
   (Z : Site w A h₀ L) (F : Fr h₀ L s.heap m) (N : News h₀ L s.heap ((H, listOf vs.toArray n) :: R)) (hdp : A.depth + 6 < recursionLimit) (hun : A.units + 40 < cLine) (hR : ∀ p ∈ R, p.1 ≠ H) (hkl : 0 < vs.length) (hvl : vs.length < 1000)
   (C : Cmp w R S key) (hS : ∀ v ∈ vs, S v)
   (hQ : ∀ h' tk, Fr h₀ L h' m → News h₀ L h' ((H, listOf (suL key (vs.getD 0 .none) vs 0).toArray n) :: R) → Q .none { s with heap := h', toks := tk }) :
   wpAny (model PySem.Challenge.rw_oh0014_01.row.prog w) A (call (.ref 49) [.ref H, .int ((0 : Nat) : Int) t0]) Q E s := by
  obtain ⟨A₀, base, env, outer, p, loose, mean, mg, mb, B, X, T, hA, hf, hk, hh⟩ := Z
  refine wpAny_call ?_
  k_dflt (refine' code_def (binds := [(Str.ofString "heap", .ref H), (Str.ofString "pos", .int ((0 : Nat) : Int) t0)]) B F X N T hA hf hk ?k6 ?k7 ?k8 ?k9 ?kB ?_ ?c2 ?c3 ?c4 ?c5; (case k6 => k_is); (case k7 => k_is); (case k8 => omega); (case k9 => exact BindsTo.of_eq rfl); (case c5 => decide); (case kB => exact locs rfl); (case c2 => exact rfl); (case c3 => exact rfl); (case c4 => exact rfl); k_whole; intro g' L' h' FG' F' N' B' X' T'; (try dsimp only); (try k_fold))
  clear N F X T
  refine hideX ?_
  intro Q1 hq1
  k_steps
  change wpAny _ _ _ _ _ _
  refine' ksw_while (σ := List Value × Nat × Tok × Tok) (fun c => (H, listOf c.1.toArray n) :: R) (fun c => [(Str.ofString "pos", .int (c.2.1 : Int) c.2.2.1), (Str.ofString "childpos", .int ((2 * c.2.1 + 1 : Nat) : Int) c.2.2.2)]) (fun _ => True) [Str.ofString "rightpos"]
    (fun c => c.2.1 < c.1.length ∧ c.1.length = vs.length ∧ (∀ v ∈ c.1, S v) ∧ suL key (vs.getD 0 .none) c.1 c.2.1 = suL key (vs.getD 0 .none) vs 0) (fun c => c.1.length - c.2.1) (vs, 0, t0, _) (by k_asm) (by k_asm) trivial ?hk ⟨hkl, rfl, hS, rfl⟩ ?_
  case hk =>
    intro p hp
    simp only [List.mem_cons, List.not_mem_nil, or_false] at hp
    rcases hp with rfl | rfl <;> rfl
  rintro ⟨ws, j, tj, tc⟩ u h1 tk1 - ⟨hj, hlen, hSw, heq⟩ F1 N1
  dsimp only at hj hlen hSw heq F1 N1 ⊢
  repeat' (first | (fail_if_success (with_reducible show wpAny _ _ (execs _ _) _ _ _)); (first | (k_unfold; (try dsimp only)) | walk1 | (dsimp only; walk1)))
  refine hideX ?_
  intro Q2 hq2
  all_goals k_steps
  all_goals (try (with_reducible change Q2 _ _; subst hq2; (try dsimp only); (try k_steps)))
  · have e : suC key ws j = 2 * j + 1 := by
      unfold suC
      exact if_neg (by rintro ⟨_, h3⟩; simp_all)
    have e1 := suC_gt key ws j
    have e2 : suC key ws j < ws.length := suC_lt (by omega)
    rw [e] at e1 e2
    refine' ksw_end (ws.set j (ws.getD (2 * j + 1) .none), 2 * j + 1, _, _) (by assumption) (by assumption) (fun p hp => hp) trivial ?hk ?hr ⟨?ha, ?hb, ?hc, ?hd⟩ ?he
    case hk =>
      intro p hp
      simp only [List.mem_cons, List.not_mem_nil, or_false] at hp
      rcases hp with rfl | rfl <;> rfl
    all_goals (try dsimp only)
    case hr => (intro z h2 h3; (simp only [List.forall_mem_cons, List.not_mem_nil, false_implies, implies_true, and_true, ne_eq] at h2); (simp only [List.contains_cons, List.contains_nil, Bool.or_false, Bool.or_eq_false_iff, beq_eq_false_iff_ne, ne_eq] at h3); simp [kstB, h2, h3])
    case ha => simp only [List.length_set]; exact e2
    case hb => simp only [List.length_set]; omega
    case hc => exact set_S hSw (getD_S hSw e2)
    case hd =>
      rw [← heq]
      conv => rhs; rw [suL]
      rw [dif_pos (by omega), e]
    case he =>
      simp only [List.length_set]
      omega
  · have e : suC key ws j = 2 * j + 1 + 1 := by
      unfold suC
      exact if_pos ⟨by omega, by assumption⟩
    have e1 := suC_gt key ws j
    have e2 : suC key ws j < ws.length := suC_lt (by omega)
    rw [e] at e1 e2
    refine' ksw_end (ws.set j (ws.getD (2 * j + 1 + 1) .none), 2 * j + 1 + 1, _, _) (by assumption) (by assumption) (fun p hp => hp) trivial ?hk ?hr ⟨?ha, ?hb, ?hc, ?hd⟩ ?he
    case hk =>
      intro p hp
      simp only [List.mem_cons, List.not_mem_nil, or_false] at hp
      rcases hp with rfl | rfl <;> rfl
    all_goals (try dsimp only)
    case hr => (intro z h2 h3; (simp only [List.forall_mem_cons, List.not_mem_nil, false_implies, implies_true, and_true, ne_eq] at h2); (simp only [List.contains_cons, List.contains_nil, Bool.or_false, Bool.or_eq_false_iff, beq_eq_false_iff_ne, ne_eq] at h3); simp [kstB, h2, h3])
    case ha => simp only [List.length_set]; exact e2
    case hb => simp only [List.length_set]; omega
    case hc => exact set_S hSw (getD_S hSw e2)
    case hd =>
      rw [← heq]
      conv => rhs; rw [suL]
      rw [dif_pos (by omega), e]
    case he =>
      simp only [List.length_set]
      omega
  · have e : suC key ws j = 2 * j + 1 := by
      unfold suC
      exact if_neg (by rintro ⟨h2, _⟩; omega)
    have e1 := suC_gt key ws j
    have e2 : suC key ws j < ws.length := suC_lt (by omega)
    rw [e] at e1 e2
    refine' ksw_end (ws.set j (ws.getD (2 * j + 1) .none), 2 * j + 1, _, _) (by assumption) (by assumption) (fun p hp => hp) trivial ?hk ?hr ⟨?ha, ?hb, ?hc, ?hd⟩ ?he
    case hk =>
      intro p hp
      simp only [List.mem_cons, List.not_mem_nil, or_false] at hp
      rcases hp with rfl | rfl <;> rfl
    all_goals (try dsimp only)
    case hr => (intro z h2 h3; (simp only [List.forall_mem_cons, List.not_mem_nil, false_implies, implies_true, and_true, ne_eq] at h2); (simp only [List.contains_cons, List.contains_nil, Bool.or_false, Bool.or_eq_false_iff, beq_eq_false_iff_ne, ne_eq] at h3); simp [kstB, h2, h3])
    case ha => simp only [List.length_set]; exact e2
    case hb => simp only [List.length_set]; omega
    case hc => exact set_S hSw (getD_S hSw e2)
    case hd =>
      rw [← heq]
      conv => rhs; rw [suL]
      rw [dif_pos (by omega), e]
    case he =>
      simp only [List.length_set]
      omega
  · change wpAny _ _ _ _ _ _
    refine siftdown_call (S := S) (key := key) (Site.deeper B' X' T' hh) (by assumption) (by assumption) (dle1 hdp) (ule3 hun) hR (by simp only [List.length_set]; omega) (by simp only [List.length_set]; omega) C (set_S hSw (getD_S hS hkl)) ?_
    intro h' tk' F' N'
    k_steps
    all_goals (try (with_reducible change Q1 _ _; subst hq1; (try dsimp only); (try k_steps)))
    refine leaveK_ (by assumption) (by assumption) ?_
    intro kF kN
    refine hQ _ _ kF ?_
    rw [getD_set_self (by omega)] at kN
    rw [← heq, suL, dif_neg (by omega)]
    exact kN
end
end Mine
end PartHeap1
section PartHeap2
open PySem PySem.W PyProof.Rows PySem.Calls PySem.Spec
set_option maxHeartbeats 8000000
namespace Mine
theorem words_Heap2 : True := by
  w_top off
  k_with_none
  k_with "exec While Compare cons nil" => refine halt ?_
  k_with "KswEnd" => refine halt ?_
  k_with "subscriptTail Name Name ref int" => (k_here; (with_unfolding_all refine' item_n (by k_asm) (by k_mem) (by (try simp only [List.length_set, List.length_append, List.length_cons, List.length_nil]); omega) (by (try simp only [List.length_set, List.length_append, List.length_cons, List.length_nil]); omega) ?_ (by with_unfolding_all rfl); k_whole))
  k_with "subscriptTail Name Constant ref int" => (k_here; (with_unfolding_all refine' item_n (k := 0) (by k_asm) (by k_mem) (by omega) (by omega) ?_ (by with_unfolding_all rfl); k_whole))
  k_with "setItem ref int" => (k_here; k_dflt (refine' set_n (k := 0) (by k_asm) (by k_asm) (by k_upd) (by omega) (by omega) ?_; k_whole); intro _ _ _; (try k_sweep))
  k_with "setItem ref int" => (k_here; k_dflt (refine' set_n (by k_asm) (by k_asm) (by k_upd) (by (try simp only [List.length_set, List.length_append, List.length_cons, List.length_nil]); omega) (by (try simp only [List.length_set, List.length_append, List.length_cons, List.length_nil]); omega) ?_; k_whole); intro _ _ _; (try k_sweep))
  k_with "binaryOp Sub int int" => (refine sub_n1 (by simp) ?_; intro _ _)
  k_with "call ref" => refine halt ?_
  k_with "call builtin:list.append" => (k_here; (with_reducible show wpAny _ _ (call (Value.builtin _) [Value.ref _, _]) _ _ _); k_dflt (refine' app_n (by k_asm) (by k_asm) (by k_upd) (by omega) ?_; k_whole); intro _ _ _; (try k_sweep))
  k_with "call builtin:list.pop" => (k_here; (with_reducible show wpAny _ _ (call (Value.builtin _) [Value.ref _]) _ _ _); k_dflt (refine' pop_n (by k_asm) (by k_asm) (by k_upd) (by omega) ?_; k_whole); intro _ _ _; (try k_sweep))
  k_with "truthy ref" => (k_here; k_dflt (refine' truthy_n (by k_asm) (by k_mem) (by omega) ?_; k_whole); intro _)
  k_with "binaryOp RShift int int" => (refine shr_half (by omega) ?_; intro _ _)
  k_with "compareOp Lt" => (refine Cmp.lt (by assumption) (by first | exact getD_S (by assumption) (by omega)) (by first | exact getD_S (by assumption) (by omega)) (News.tl (by assumption)) (by simp only [Around.deeper_units]; omega) ?_; intro _)
  k_with "binaryOp Mult int int" => (refine mul2_n ?_; intro _ _)
  k_with "binaryOp Add int int" => (refine add_n1 ?_; intro _ _)
  k_with "call builtin:len" => (k_here; (with_reducible show wpAny _ _ (call (Value.builtin "len") [Value.ref _]) _ _ _); k_dflt (refine' len_n (by k_asm) (by k_mem) (by (try simp only [List.length_set, List.length_append, List.length_cons, List.length_nil]); omega) ?_; k_whole); intro _ _)
  trivial
section
theorem heappush_call {w : World} {A : Around} {h₀ : Heap} {L : Addr} {m : Str → Option Value} {s : Shared} {Q : Value → Shared → Prop} {E : Value → Shared → Prop}
   {H : Addr} {vs : List Value} {n : Nat} {R : List (Addr × Obj)} {x : Value} {S : Value → Prop} {key : Value → Int × Int}
   (Z : Site w A h₀ L) (F : Fr h₀ L s.heap m) (N : News h₀ L s.heap ((H, listOf vs.toArray n) :: R)) (hdp : A.depth + 7 < recursionLimit) (hun : A.units + 50 < cLine) (hR : ∀ p ∈ R, p.1 ≠ H) (hvl : vs.length < 900)
   (C : Cmp w R S key) (hS : ∀ v ∈ vs, S v) (hx : S x)
   (hQ : ∀ h' tk, Fr h₀ L h' m → News h₀ L h' ((H, listOf (sdL key x (vs ++ [x]) vs.length).toArray (n + 1)) :: R) → Q .none { s with heap := h', toks := tk }) :
   wpAny (model PySem.Challenge.rw_oh0014_01.row.prog w) A (call (.ref 28) [.ref H, x]) Q E s := by
  obtain ⟨A₀, base, env, outer, p, loose, mean, mg, mb, B, X, T, hA, hf, hk, hh⟩ := Z
  refine wpAny_call ?_
  k_dflt (refine' code_def (binds := [(Str.ofString "heap", .ref H), (Str.ofString "item", x)]) B F X N T hA hf hk ?k6 ?k7 ?k8 ?k9 ?kB ?_ ?c2 ?c3 ?c4 ?c5; (case k6 => k_is); (case k7 => k_is); (case k8 => omega); (case k9 => exact BindsTo.of_eq rfl); (case c5 => decide); (case kB => exact locs rfl); (case c2 => exact rfl); (case c3 => exact rfl); (case c4 => exact rfl); k_whole; intro g' L' h' FG' F' N' B' X' T'; (try dsimp only); (try k_fold))
  clear N F X T
  k_steps
  change wpAny _ _ _ _ _ _
  have hl : (vs ++ [x]).length = vs.length + 1 := by simp
  have e : (vs ++ [x]).length - 1 = vs.length := by omega
  rw [e]
  refine siftdown_call (S := S) (key := key) (Site.deeper B' X' T' hh) (by assumption) (by assumption) (dle1 hdp) (ule3 hun) hR (by omega) (by omega) C ?_ ?_
  · intro v hv
    rcases List.mem_append.mp hv with hv | hv
    · exact hS v hv
    · rw [List.mem_singleton.mp hv]; exact hx
  intro h' tk' F' N'
  k_steps
  refine leaveK_ (by assumption) (by assumption) ?_
  intro kF kN
  refine hQ _ _ kF ?_
  have e2 : (vs ++ [x]).getD vs.length .none = x := by simp [List.getD_eq_getElem?_getD]
  rw [e2] at kN
  exact kN
theorem heappop_call {w : World} {A : Around} {h₀ : Heap} {L : Addr} {m : Str → Option Value} {s : Shared} {Q : Value → Shared → Prop} {E : Value → Shared → Prop}
   {H : Addr} {us : List Value} {y : Value} {n : Nat} {R : List (Addr × Obj)} {S : Value → Prop} {key : Value → Int × Int}
   (Z : Site w A h₀ L) (F : Fr h₀ L s.heap m) (N : News h₀ L s.heap ((H, listOf (us ++ [y]).toArray n) :: R)) (hdp : A.depth + 8 < recursionLimit) (hun : A.units + 60 < cLine) (hR : ∀ p ∈ R, p.1 ≠ H) (hvl : us.length < 900)
   (C : Cmp w R S key) (hS : ∀ v ∈ us, S v) (hy : S y)
   (hQ : ∀ h' tk, Fr h₀ L h' m → News h₀ L h' ((H, listOf (if us = [] then [] else suL key y (us.set 0 y) 0).toArray (n + 1)) :: R) → Q (if us = [] then y else us.getD 0 .none) { s with heap := h', toks := tk }) :
   wpAny (model PySem.Challenge.rw_oh0014_01.row.prog w) A (call (.ref 35) [.ref H]) Q E s := by
  obtain ⟨A₀, base, env, outer, p, loose, mean, mg, mb, B, X, T, hA, hf, hk, hh⟩ := Z
  refine wpAny_call ?_
  k_dflt (refine' code_def (binds := [(Str.ofString "heap", .ref H)]) B F X N T hA hf hk ?k6 ?k7 ?k8 ?k9 ?kB ?_ ?c2 ?c3 ?c4 ?c5; (case k6 => k_is); (case k7 => k_is); (case k8 => omega); (case k9 => exact BindsTo.of_eq rfl); (case c5 => decide); (case kB => exact locs rfl); (case c2 => exact rfl); (case c3 => exact rfl); (case c4 => exact rfl); k_whole; intro g' L' h' FG' F' N' B' X' T'; (try dsimp only); (try k_fold))
  clear N F X T
  k_steps
  · change wpAny _ _ _ _ _ _
    refine siftup_call (S := S) (key := key) (Site.deeper B' X' T' hh) (by assumption) (by assumption) (dle1 hdp) (ule3 hun) hR (by simp only [List.length_set]; omega) (by simp only [List.length_set]; omega) C (set_S hS hy) ?_
    intro h' tk' F' N'
    k_steps
    refine leaveK_ (by assumption) (by assumption) ?_
    intro kF kN
    have hne : us ≠ [] := by rintro rfl; simp at *
    have q := hQ _ tk' kF
    rw [if_neg hne, if_neg hne] at q
    rw [getD_set_self (by omega)] at kN
    exact q kN
  · refine leaveK_ (by assumption) (by assumption) ?_
    intro kF kN
    have hne : us = [] := by cases us with | nil => rfl | cons a r => simp at *
    subst hne
    exact hQ _ _ kF kN
end
end Mine
end PartHeap2
section PartSetFor
open PySem PySem.W PyProof.Rows PySem.Calls PySem.Spec
namespace Mine
theorem slot_setiter_next : Slot "set_iterator" "__next__" "set_iterator.__next__" :=
  .of (owner := "set_iterator") (n := "__next__") (by rw [typeLookup_type, builtinLookup_eq_fast]; kernel_rfl) (by decide +kernel) (by decide +kernel) (by decide +kernel)
    (by first | exact .inl (by decide +kernel) | exact .inr (by decide +kernel)) (by rw [isSubtype_type]; kernel_rfl)
theorem entry_setiter_next : entryFor table "set_iterator.__next__" = some Builtin.«set_iterator.__next__» := entryFor_of_tree (by kernel_rfl)
theorem owner_setiter : Manifest.owners.lookup (String.ofList ['r', 'o', 't', 'a', 'r', 'e', 't', 'i', '_', 't', 'e', 's'].reverse) = some Manifest.sig_set_iterator := by kernel_rfl
theorem span_setiter_next : (("set_iterator.__next__".toList.map fun c => if c.isAlphanum || c == '_' || c == '.' then c else '_').reverse.span (· != '.')) = (['_', '_', 't', 'x', 'e', 'n', '_', '_'], '.' :: ['r', 'o', 't', 'a', 'r', 'e', 't', 'i', '_', 't', 'e', 's']) := by kernel_rfl
theorem args_setiter_next (a : Value) : argsOk "set_iterator.__next__" ⟨[a], []⟩ := by
  unfold argsOk; rw [signature?_of (id := "set_iterator.__next__") (n := ['_', '_', 't', 'x', 'e', 'n', '_', '_']) (o := ['r', 'o', 't', 'a', 'r', 'e', 't', 'i', '_', 't', 'e', 's']) span_setiter_next owner_setiter]; kernel_rfl
theorem slot_setiter_iter : Slot "set_iterator" "__iter__" "set_iterator.__iter__" :=
  .of (owner := "set_iterator") (n := "__iter__") (by rw [typeLookup_type, builtinLookup_eq_fast]; kernel_rfl) (by decide +kernel) (by decide +kernel) (by decide +kernel)
    (by first | exact .inl (by decide +kernel) | exact .inr (by decide +kernel)) (by rw [isSubtype_type]; kernel_rfl)
theorem entry_setiter_iter : entryFor table "set_iterator.__iter__" = some Builtin.«dict_keyiterator.__iter__» :=
  entryFor_alias (id' := "dict_keyiterator.__iter__") (by rw [fastTable_eq_tree]; kernel_rfl) rfl (by decide +kernel) (by rw [fastTable_eq_tree]; kernel_rfl)
theorem span_setiter_iter : (("set_iterator.__iter__".toList.map fun c => if c.isAlphanum || c == '_' || c == '.' then c else '_').reverse.span (· != '.')) = (['_', '_', 'r', 'e', 't', 'i', '_', '_'], '.' :: ['r', 'o', 't', 'a', 'r', 'e', 't', 'i', '_', 't', 'e', 's']) := by kernel_rfl
theorem args_setiter_iter (a : Value) : argsOk "set_iterator.__iter__" ⟨[a], []⟩ := by
  unfold argsOk; rw [signature?_of (id := "set_iterator.__iter__") (n := ['_', '_', 'r', 'e', 't', 'i', '_', '_']) (o := ['r', 'o', 't', 'a', 'r', 'e', 't', 'i', '_', 't', 'e', 's']) span_setiter_iter owner_setiter]; kernel_rfl
theorem entry_set_iter : entryFor table "set.__iter__" = some Builtin.«frozenset.__iter__» :=
  entryFor_alias (id' := "frozenset.__iter__") (by rw [fastTable_eq_tree]; kernel_rfl) rfl (by decide +kernel) (by rw [fastTable_eq_tree]; kernel_rfl)
noncomputable abbrev esetObj (b : Bool) : Obj := { cls := .type "set", data := .set #[] 0 (.fresh 0 0 b) }
noncomputable abbrev esetIt (sm : Addr) : Obj := { cls := .type "set_iterator", data := .fields #[rawInt 0, rawInt 0, .ref sm, rawInt 0, rawInt 0] }
section
variable {prog : Program} {w : World} {A : Around} {E : Value → Shared → Prop} {s : Shared}
theorem setState_e {sm : Addr} {b : Bool} {Q : Array (Int × Value) × Nat × SetTable → Shared → Prop} (ho : s.heap.get? sm = some (esetObj b)) (h : Q (#[], 0, .fresh 0 0 b) s) : wpAny (model prog w) A (setState sm) Q E s := by
  unfold setState
  refine wpAny_bind (wpAny_load ho ?_)
  exact wpAny_of_eq (a := (#[], 0, .fresh 0 0 b)) rfl h
theorem setsByText_e {Q : Bool → Shared → Prop} (h : Q (w.params.followText "set-order") s) : wpAny (model prog w) A setsByText Q E s :=
  wpAny_bind (wpAny_askSetting (wpAny_pure h))
theorem pyIter_eset {sm : Addr} {b : Bool} {Q : Value → Shared → Prop} (ho : s.heap.get? sm = some (esetObj b))
    (hQ : Q (.ref s.heap.objs.size) { s with heap := s.heap.push (esetIt sm) }) : wpAny (model prog w) A (pyIter (.ref sm)) Q E s := by
  have hT : s.TypeIs (.ref sm) "set" := ⟨_, ho, rfl⟩
  refine wpAny_pyIter_slot hT F.slot_set_iter (wpAny_call_entry F.slot_set_iter hT entry_set_iter ?_ (F.args_set_iter_1 _))
  unfold Builtin.«frozenset.__iter__»
  refine wpAny_bind (wpAny_of_eq (a := sm) rfl ?_)
  refine wpAny_bind (wpAny_bind (wpAny_bind (setState_e ho (wpAny_pure (wpAny_pure ?_)))))
  refine wpAny_bind (wpAny_bind (setState_e ho (wpAny_bind (setsByText_e (wpAny_pure ?_)))))
  have fin : wpAny (model prog w) A.in1 (do let e ← setEpoch sm; let i ← newFields "set_iterator" [rawInt 0, rawInt 0, Value.ref sm, rawInt ((0 : Nat) : Int), rawInt (e : Int)]; ret i)
      (fun fin s' => ∃ v, fin = Fin.done (Flow.ret v) ∧ ∃ T' r, s'.TypeIs v T' ∧ typeLookup (Value.type T') (Str.ofString "__next__") = pure (some r) ∧ Q v s') E s := by
    refine wpAny_bind (wpAny_bind (setState_e ho (wpAny_pure ?_)))
    exact wpAny_bind (wpAny_newObj_type (wpAny_pure ⟨_, rfl, "set_iterator", _, ⟨_, Heap.get?_push_size _ rfl, rfl⟩, slot_setiter_next.lookup, hQ⟩))
  cases w.params.followText "set-order"
  · exact fin
  · exact fin
theorem pyNext_eset {it sm : Addr} {b : Bool} {Q : Option Value → Shared → Prop} (hh : A.handled = none) (hit : s.heap.get? it = some (esetIt sm)) (ho : s.heap.get? sm = some (esetObj b))
    (hQ : ∀ h', Heap.ExtBut it s.heap h' → Q none { s with heap := h' }) : wpAny (model prog w) A (pyNext (.ref it)) Q E s := by
  have hT : s.TypeIs (.ref it) "set_iterator" := ⟨_, hit, rfl⟩
  unfold pyNext
  refine wpAny_bind (wpAny_attempt (wpAny_callSpecial?_slot (name := Str.ofString "__next__") hT slot_setiter_next
    (wpAny_call_entry slot_setiter_next hT entry_setiter_next ?_ (args_setiter_next _))))
  unfold Builtin.«set_iterator.__next__»
  refine wpAny_bind (wpAny_of_eq (a := (Value.ref it, [])) rfl ?_)
  refine wpAny_bind (wpAny_bind (wpAny_load hit (wpAny_pure ?_)))
  refine wpAny_bind (wpAny_bind (setState_e ho (wpAny_pure ?_)))
  show wpAny _ _ (setNext sm 0 0 0 >>= _) _ _ s
  refine wpAny_bind ?_
  have fin : wpAny (model prog w) A.in1 (do setField (.ref it) 2 .none; let e ← newExc (.type "StopIteration") []; raiseNew e : Sem Fin)
      (fun fin s' => ∃ v, fin = Fin.done (Flow.ret v) ∧ wpAny (model prog w) A (pure (some v)) Q E s')
      (fun e s' => wpAny (model prog w) A (do let c ← isInstance e (Value.type "StopIteration"); if c = true then pure none else throw e) Q E s') s := by
    refine wpAny_bind (wpAny_setField hit rfl (by simp) ?_)
    refine wpAny_bind ?_
    simp only [newExc, newTuple]
    refine wpAny_bind (wpAny_newObj_type ?_ (by size_fits))
    refine wpAny_bind (m := firstArgMember _ _) (wpAny_of_eq (a := Value.none) (by first | rfl | (simp only [firstArgMember]; rfl)) ?_)
    refine wpAny_newObj_type ?_ (by size_fits)
    simp only [raiseNew]
    refine wpAny_bind (wpAny_handled ?_)
    rw [show A.in1.handled = none from hh]
    refine wpAny_bind (wpAny_pure (wpAny_throw ?_))
    refine wpAny_bind (wpAny_isInstance (T := "StopIteration") (b := true) ⟨_, Heap.get?_push_size _ rfl, rfl⟩ isSubtype_stop ?_)
    exact wpAny_pure (hQ _ (((Heap.SameBut.update ..).extBut.push _).push _))
  unfold setNext
  refine wpAny_bind (setState_e ho ?_)
  refine wpAny_bind (setsByText_e ?_)
  cases hq : w.params.followText "set-order"
  · exact wpAny_of_eq (a := none) (by cases b <;> rfl) fin
  · refine wpAny_bind (wpAny_bind (setState_e ho (wpAny_bind (setsByText_e ?_))))
    rw [hq]
    refine wpAny_bind (wpAny_askSetting (wpAny_pure ?_))
    exact wpAny_pure fin
theorem pyIter_esetit {it sm : Addr} {Q : Value → Shared → Prop} (hit : s.heap.get? it = some (esetIt sm)) (h : Q (.ref it) s) : wpAny (model prog w) A (pyIter (.ref it)) Q E s := by
  have hT : s.TypeIs (.ref it) "set_iterator" := ⟨_, hit, rfl⟩
  refine wpAny_pyIter_slot hT slot_setiter_iter (wpAny_call_entry slot_setiter_iter hT entry_setiter_iter ?_ (args_setiter_iter _))
  show wpAny _ _ (ret (.ref it)) _ _ s
  exact wpAny_pure ⟨_, rfl, "set_iterator", _, hT, slot_setiter_next.lookup, h⟩
theorem walks_eset (hh : A.handled = none) (I sm : Addr) (b : Bool) (hne : sm ≠ I) : Walks prog w A I [I, sm] [I] 0 (fun _ _ => False) (fun _ h => h.get? I = some (esetIt sm) ∧ h.get? sm = some (esetObj b)) where
  sub := fun b hb => by simp at hb; simp [hb]
  frame := fun _ _ _ st hk => ⟨hk I (by simp) _ st.1, hk sm (by simp) _ st.2⟩
  item := fun i s Q E hi st hQ => absurd hi (Nat.not_lt_zero _)
  done := fun s Q E st hQ => pyNext_eset hh st.1 st.2 fun h' he' => hQ h' s.toks fun b o hb e => he' b o (fun h => hb (by simp [h])) e
  self := fun _ _ _ _ st hQ => pyIter_esetit st.1 hQ
/-- a for over the empty set -/
theorem for_eset {h₀ : Heap} {env : Env} {x : Str} {body : List Stmt} {Q : Flow → Shared → Prop} {sm : Addr} {b : Bool} {m : Str → Option Value} {news : List (Addr × Obj)} (hh : A.handled = none) (F : Fr h₀ env.locals s.heap m) (N : News h₀ env.locals s.heap news)
    (hm : (sm, esetObj b) ∈ news) (h : ∀ h' tk, Fr h₀ env.locals h' m → News h₀ env.locals h' news → Q .next { s with heap := h', toks := tk }) :
    wpAny (model prog w) A (pyIter (.ref sm)) (fun it s₂ => LoopAtV prog w A h₀ env x body Q E it s₂) E s := by
  refine pyIter_eset (N _ hm).1 ?_
  have hI : ∀ b o, h₀.get? b = some o → b ≠ s.heap.objs.size := fun b o e => Nat.ne_of_lt (Heap.lt_size (F.keep b o e))
  obtain ⟨oL, a1, a2, hL, a3⟩ := id F.ns
  have hLI : env.locals ≠ s.heap.objs.size := Nat.ne_of_lt (Heap.lt_size hL)
  have hsI : sm ≠ s.heap.objs.size := Nat.ne_of_lt (Heap.lt_size (N _ hm).1)
  refine ⟨s.heap.objs.size, [s.heap.objs.size, sm], [s.heap.objs.size], 0, fun _ _ => False, fun _ h => h.get? s.heap.objs.size = some (esetIt sm) ∧ h.get? sm = some (esetObj b), m, news, fun _ m' n' => m' = m ∧ n' = news, rfl, walks_eset hh _ sm b hsI, ?_, ?_, ?_, ?_, F.push _, ?_, ⟨rfl, rfl⟩, ?_, ?_⟩
  · intro hm'
    simp only [List.mem_cons, List.not_mem_nil, or_false] at hm'
    rcases hm' with e | e
    · exact hLI e
    · exact (N _ hm).2.1 e.symm
  · intro b hb
    rw [List.mem_singleton.mp hb]
    cases q : h₀.get? s.heap.objs.size with
    | none => rfl
    | some o => exact absurd rfl (hI _ o q)
  · intro p hp hq
    exact Nat.ne_of_lt (Heap.lt_size (N p hp).1) (List.mem_singleton.mp hq)
  · exact ⟨Heap.get?_push_size _ rfl, Heap.get?_push_of_some _ (N _ hm).1⟩
  · exact fun p hp => ⟨Heap.get?_push_of_some _ (N p hp).1, (N p hp).2⟩
  · rintro i v m₁ news₁ s₁ own _ hi
    exact absurd hi (Nat.not_lt_zero _)
  · rintro h' tk m' news' F' N' _ ⟨rfl, rfl⟩
    exact h h' tk F' N'
/-- a for over the empty list -/
theorem for_elist {h₀ : Heap} {env : Env} {x : Str} {body : List Stmt} {Q : Flow → Shared → Prop} {l : Addr} {n : Nat} {m : Str → Option Value} {news : List (Addr × Obj)} (hh : A.handled = none) (F : Fr h₀ env.locals s.heap m) (N : News h₀ env.locals s.heap news)
    (hm : (l, listOf #[] n) ∈ news) (h : ∀ h' tk, Fr h₀ env.locals h' m → News h₀ env.locals h' news → Q .next { s with heap := h', toks := tk }) :
    wpAny (model prog w) A (pyIter (.ref l)) (fun it s₂ => LoopAtV prog w A h₀ env x body Q E it s₂) E s := by
  have hl : s.heap.IsList l #[] := News.isList N hm
  refine wpAny_pyIter_list hl ?_
  have hI : ∀ b o, h₀.get? b = some o → b ≠ s.heap.objs.size := fun b o e => Nat.ne_of_lt (Heap.lt_size (F.keep b o e))
  obtain ⟨oL, a1, a2, hL, a3⟩ := id F.ns
  have hLI : env.locals ≠ s.heap.objs.size := Nat.ne_of_lt (Heap.lt_size hL)
  have hsI : l ≠ s.heap.objs.size := Nat.ne_of_lt (Heap.lt_size (N _ hm).1)
  refine ⟨s.heap.objs.size, [s.heap.objs.size, l], [s.heap.objs.size], 0, fun i v => (#[] : Array Value)[i]? = some v, fun i h => h.IsListIter s.heap.objs.size l i ∧ h.IsList l #[], m, news, fun _ m' n' => m' = m ∧ n' = news, rfl, Walks.list hh _ l hsI #[], ?_, ?_, ?_, ?_, F.push _, ?_, ⟨rfl, rfl⟩, ?_, ?_⟩
  · intro hm'
    simp only [List.mem_cons, List.not_mem_nil, or_false] at hm'
    rcases hm' with e | e
    · exact hLI e
    · exact (N _ hm).2.1 e.symm
  · intro b hb
    rw [List.mem_singleton.mp hb]
    cases q : h₀.get? s.heap.objs.size with
    | none => rfl
    | some o => exact absurd rfl (hI _ o q)
  · intro p hp hq
    exact Nat.ne_of_lt (Heap.lt_size (N p hp).1) (List.mem_singleton.mp hq)
  · refine ⟨⟨_, Heap.get?_push_size _ rfl, rfl, rfl⟩, ?_⟩
    obtain ⟨o, ho, r⟩ := hl
    exact ⟨o, Heap.get?_push_of_some _ ho, r⟩
  · exact fun p hp => ⟨Heap.get?_push_of_some _ (N p hp).1, (N p hp).2⟩
  · rintro i v m₁ news₁ s₁ own _ hi
    exact absurd hi (Nat.not_lt_zero _)
  · rintro h' tk m' news' F' N' _ ⟨rfl, rfl⟩
    exact h h' tk F' N'
end
end Mine
end PartSetFor
section PartSetStr
open PySem PySem.W PyProof.Rows PySem.Calls PySem.Spec
set_option maxHeartbeats 4000000
namespace Mine
section
variable {prog : Program} {w : World} {A : Around} {E : Value → Shared → Prop} {s : Shared}
/-- one turn of the loop that fills a set, and its end -/
theorem setLoop_one {R : Result → Shared → Prop} {I S : Addr} {fp wr : List Addr} {G : Array GenState → Array GenState → Prop} {P : Nat → Value → Prop} {St : Nat → Shared → Prop} (W : WalksS prog w A.in1 I fp wr G 1 P St) (hSf : S ∉ fp)
    {x : Str} (hP : ∀ i v, P i v → ∃ t, v = .str x t) (hst : St 0 s) (hS : s.heap.SetOf (PySem.strKind prog w) S (fun _ => false) 0)
    (hR : ∀ s', Moved (S :: wr) G s s' → s'.heap.SetOf (PySem.strKind prog w) S (fun k => decide (k = x)) 1 → R (.ok (.ret .none)) s') :
    codeAny (model prog w) A (.builtin "set.update.loop" ⟨[.ref S, .ref I], []⟩) R s := by
  have hSw : S ∉ wr := fun h => hSf (W.sub _ h)
  have hsub : ∀ b ∈ wr, b ∈ S :: wr := fun b hb => List.mem_cons_of_mem _ hb
  refine codeAny_builtin F.entry_set_update_loop ?_
  rw [Around.under_plainId F.plain_set_update_loop _]
  show wpAny _ A.in1 (pyNext (.ref I) >>= _) _ _ s
  refine wpAny_bind (W.item 0 s _ _ (by decide) hst fun v s' hp hst' hm => ?_)
  obtain ⟨t, rfl⟩ := hP 0 v hp
  have hS' : s'.heap.SetOf (PySem.strKind prog w) S (fun _ => false) 0 := by
    obtain ⟨o, es, ep, tb, ho, rest⟩ := hS
    exact ⟨o, es, ep, tb, hm.heap S _ hSw ho, rest⟩
  show wpAny _ A.in1 (holding [Value.str x t] (setAdd S (.str x t)) >>= _) _ _ s'
  refine wpAny_bind (wpAny_holding ?_)
  unfold setAdd
  refine wpAny_holding ?_
  refine wpAny_bind ((PySem.strKind prog w).pyHash (k := x) (strKind_is _ _ _ _) ?_)
  refine wpAny_setAddHashed_of (knd := PySem.strKind prog w) (s := { s' with toks := s'.toks + 1 }) (strKind_is _ _ _ _) rfl hS' (by decide) fun h' hsb hS2 => ?_
  refine wpAny_pure ⟨plainId_quiet F.plain_set_update_loop _, ?_⟩
  have hst2 := W.frame 1 s' h' (s'.toks + 1) hst' (Nat.le_succ _) (fun b hb o e => by rw [hsb.2 b (fun h : b = S => hSf (by rw [← h]; exact hb))]; exact e)
  refine codeAny_builtin F.entry_set_update_loop ?_
  rw [Around.under_plainId F.plain_set_update_loop _]
  show wpAny _ A.in1 (pyNext (.ref I) >>= _) _ _ _
  refine wpAny_bind (W.done _ _ _ hst2 fun s2 hm2 => ?_)
  show wpAny _ A.in1 (ret Value.none) _ _ s2
  refine wpAny_pure (hR s2 (Moved.trans W.gtrans ((hm.mono hsub).then_heap (Nat.le_succ _) fun b o hb e => ?_) (hm2.mono hsub)) ?_)
  · rw [hsb.2 b (fun h : b = S => hb (by rw [h]; exact List.mem_cons_self))]; exact e
  · obtain ⟨o, es, ep, tb, ho, rest⟩ := SetOf_congr (S' := fun k => decide (k = x)) (n' := 1) hS2 (fun _ => by simp) rfl
    exact ⟨o, es, ep, tb, hm2.heap S _ hSw ho, rest⟩
theorem call_set_str {l : Addr} {x : Str} {t : Tok} {Q : Value → Shared → Prop} (hh : A.handled = none) (hl : s.heap.IsList l #[.str x t])
    (h : ∀ (h' : Heap) (tk : Nat), h'.SetOf (PySem.strKind prog w) s.heap.objs.size (fun k => decide (k = x)) 1 →
      (∀ b o, b < s.heap.objs.size → s.heap.get? b = some o → h'.get? b = some o) → Q (.ref s.heap.objs.size) { s with heap := h', toks := tk }) :
    wpAny (model prog w) A (call (.type "set") [.ref l]) Q E s := by
  obtain ⟨c, tl, hmro⟩ := F.called_set.mro
  have hmade := F.called_set.made
  have hsub := F.called_set.sub
  refine wpAny_call (codeAny_of_tree ?_)
  show wpAny _ _ (callAny (.type "set") _) _ _ _
  refine wpAny_pure ⟨Code.quiet_builtin _ (by decide +kernel), codeAny_builtin F.entry_type_call ?_⟩
  rw [Around.under_plain (weight_type_call_type "set" [.ref l] []) rfl]
  have h1 := F.called_set.notType
  have h2 := F.called_set.canCreate
  have hct := F.typeCall_set_1 (.ref l)
  repeat (any_goals (first | assumption | with_reducible (first | refine PySem.wpAny_pure ?_ | refine PySem.wpAny_bind ?_ | refine PySem.wpAny_holding ?_ | refine PySem.wpAny_standAt ?_ | refine PySem.wpAny_point ?_ | refine PySem.wpAny_rule ?_ | refine PySem.wpAny_attempt ?_ | refine PySem.wpAny_of_eq (by assumption) ?_ | refine PySem.wpAny_typeOf (by assumption) ?_ | refine PySem.wpAny_specialOf_val (by assumption) (by assumption) ?_ | refine PySem.wpAny_isInstance_val (by assumption) (by assumption) ?_ | refine PySem.wpAny_isInstance (by assumption) (by assumption) ?_ | refine PySem.wpAny_call ?_ | refine PySem.wpAny_runValue ?_ | refine PySem.wpAny_run ?_) | ((with_reducible apply PySem.wpAny_load'); focus (heap_get; done)) | ((with_reducible apply PySem.wpAny_loadPart'); focus (heap_get; done)) | ((with_reducible apply PySem.wpAny_ite_false); focus (rfl; done)) | ((with_reducible apply PySem.wpAny_ite_true); focus (rfl; done)) | wp_delta | wp_step))
  clear h2 h1 hct
  refine codeAny_mono (code_set_new_1 (.ref l) (E := E) (Q₁ := fun obj s₁ => ∃ led : Bool, obj = .ref s.heap.objs.size ∧ s₁ = { s with heap := s.heap.push (esetObj led) }) fun led => ⟨led, rfl, rfl⟩) fun r s₁ hr => ?_
  cases r with
  | error e => exact hr
  | ok fl =>
    cases fl with
    | ret obj =>
      obtain ⟨led, rfl, rfl⟩ := hr
      have hS : (s.heap.push (esetObj led)).get? s.heap.objs.size = some (esetObj led) := Heap.get?_push_size _ rfl
      have hT : Shared.TypeIs { s with heap := s.heap.push (esetObj led) } (.ref s.heap.objs.size) "set" := ⟨_, hS, rfl⟩
      have hli := F.called_set.init.lookup
      have hbi := F.called_set.init.bind (.ref s.heap.objs.size)
      repeat (any_goals (first | assumption | with_reducible (first | refine PySem.wpAny_pure ?_ | refine PySem.wpAny_bind ?_ | refine PySem.wpAny_holding ?_ | refine PySem.wpAny_standAt ?_ | refine PySem.wpAny_point ?_ | refine PySem.wpAny_rule ?_ | refine PySem.wpAny_attempt ?_ | refine PySem.wpAny_of_eq (by assumption) ?_ | refine PySem.wpAny_typeOf (by assumption) ?_ | refine PySem.wpAny_specialOf_val (by assumption) (by assumption) ?_ | refine PySem.wpAny_isInstance_val (by assumption) (by assumption) ?_ | refine PySem.wpAny_isInstance (by assumption) (by assumption) ?_ | refine PySem.wpAny_call ?_ | refine PySem.wpAny_runValue ?_ | refine PySem.wpAny_run ?_) | ((with_reducible apply PySem.wpAny_load'); focus (heap_get; done)) | ((with_reducible apply PySem.wpAny_loadPart'); focus (heap_get; done)) | ((with_reducible apply PySem.wpAny_ite_false); focus (rfl; done)) | ((with_reducible apply PySem.wpAny_ite_true); focus (rfl; done)) | wp_delta | wp_step))
      refine codeAny_mono (codeAny_call_builtin (R := wants (fun r s₂ => r = .none ∧ ∃ h' tk, s₂ = { s with heap := h', toks := tk } ∧ h'.SetOf (PySem.strKind prog w) s.heap.objs.size (fun k => decide (k = x)) 1 ∧
          (∀ b o, b < s.heap.objs.size → s.heap.get? b = some o → h'.get? b = some o)) E) F.called_set.init.plain F.entry_set_init (check_set_init_1 hT ?_)) fun r₂ s₂ hr₂ => ?_
      · obtain ⟨ol, hol, hcl, nl, hdl⟩ := hl
        obtain ⟨ocls, odict, odata, oslots⟩ := ol
        simp only at hcl hdl
        subst hcl; subst hdl
        have hol' : (s.heap.push (esetObj led)).get? l = some { cls := .type "list", dict := odict, data := .seq #[.str x t] nl, slots := oslots } := Heap.get?_push_of_some _ hol
        have hsls := F.sub_list_set
        have hslf := F.sub_list_frozenset
        have hne : (Value.type "list" == Value.type "dict") = false := by decide
        have hl1 : (s.heap.push (esetObj led)).IsList l #[.str x t] := ⟨_, hol', rfl, nl, rfl⟩
        unfold Builtin.«set.__init__» noKeywords Builtin.Frozenset.updateFrom
        generalize hPI : pyIter = PI
        clear hmade hsub hli hbi hmro hne
        repeat (first | with_reducible (first | refine PySem.wpAny_pure ?_ | refine PySem.wpAny_bind ?_ | refine PySem.wpAny_holding ?_ | refine PySem.wpAny_standAt ?_ | refine PySem.wpAny_point ?_ | refine PySem.wpAny_rule ?_ | refine PySem.wpAny_attempt ?_ | refine PySem.wpAny_of_eq (by assumption) ?_ | refine PySem.wpAny_typeOf (by assumption) ?_ | refine PySem.wpAny_specialOf_val (by assumption) (by assumption) ?_ | refine PySem.wpAny_isInstance_val (by assumption) (by assumption) ?_ | refine PySem.wpAny_isInstance (by assumption) (by assumption) ?_ | refine PySem.wpAny_call ?_ | refine PySem.wpAny_runValue ?_ | refine PySem.wpAny_run ?_) | ((with_reducible apply PySem.wpAny_load'); focus (heap_get; done)) | ((with_reducible apply PySem.wpAny_loadPart'); focus (heap_get; done)) | ((with_reducible apply PySem.wpAny_ite_false); focus (rfl; done)) | ((with_reducible apply PySem.wpAny_ite_true); focus (rfl; done)) | wp_delta | wp_step)
        subst hPI
        refine wpAny_pyIter_list hl1 ?_
        refine wpAny_bind (wpAny_runValue ?_)
        have hlS : l < s.heap.objs.size := Heap.lt_size hol
        have hh3 : A.in1.in1.in1.handled = none := by simp [hh]
        have hneI : l ≠ (s.heap.push (esetObj led)).objs.size := by rw [Heap.size_push]; exact Nat.ne_of_lt (Nat.lt_succ_of_lt hlS)
        have hSf : s.heap.objs.size ∉ [(s.heap.push (esetObj led)).objs.size, l] := by
          rw [Heap.size_push]; simp only [List.mem_cons, List.not_mem_nil, or_false, not_or]
          exact ⟨Nat.ne_of_lt (Nat.lt_succ_self _), Nat.ne_of_gt hlS⟩
        refine setLoop_one (x := x) ((Walks.list hh3 _ l hneI #[.str x t]).toS) hSf ?hP ⟨⟨_, Heap.get?_push_size _ rfl, rfl, rfl⟩, (hl1.push _)⟩ ?hS0 ?hR
        case hP =>
          intro i v hv
          cases i with
          | zero => exact ⟨t, by simpa using hv.symm⟩
          | succ i => simp at hv
        case hS0 => exact (setObjOf_fresh (knd := PySem.strKind prog w) led).setOf (Heap.get?_push_of_some _ hS) (by decide)
        case hR =>
          intro s' hm hS'
          obtain ⟨h', g', d', tk', os'⟩ := s'
          have eg : g' = s.gens := hm.gens
          have ed : d' = s.drawn := hm.drawn
          have eo : os' = s.os := hm.os
          subst eg; subst ed; subst eo
          show wpAny _ _ _ _ _ _
          refine wpAny_pure ?_
          show wpAny _ _ (ret Value.none) _ _ _
          refine wpAny_pure ⟨rfl, h', tk', rfl, hS', fun b o hb e => ?_⟩
          have hb1 : b ≠ s.heap.objs.size := Nat.ne_of_lt hb
          have hb2 : b ≠ (s.heap.push (esetObj led)).objs.size := by rw [Heap.size_push]; exact Nat.ne_of_lt (Nat.lt_succ_of_lt hb)
          exact hm.heap b o (by simp only [List.mem_cons, List.not_mem_nil, or_false, not_or]; exact ⟨hb1, hb2⟩) (Heap.get?_push_of_some _ (Heap.get?_push_of_some _ e))
      · cases r₂ with
        | error e => exact hr₂
        | ok fl₂ =>
          cases fl₂ with
          | ret r =>
            obtain ⟨rfl, h', tk, rfl, hS', hk'⟩ := hr₂
            repeat (any_goals (first | assumption | with_reducible (first | refine PySem.wpAny_pure ?_ | refine PySem.wpAny_bind ?_ | refine PySem.wpAny_holding ?_ | refine PySem.wpAny_standAt ?_ | refine PySem.wpAny_point ?_ | refine PySem.wpAny_rule ?_ | refine PySem.wpAny_attempt ?_ | refine PySem.wpAny_of_eq (by assumption) ?_ | refine PySem.wpAny_typeOf (by assumption) ?_ | refine PySem.wpAny_specialOf_val (by assumption) (by assumption) ?_ | refine PySem.wpAny_isInstance_val (by assumption) (by assumption) ?_ | refine PySem.wpAny_isInstance (by assumption) (by assumption) ?_ | refine PySem.wpAny_call ?_ | refine PySem.wpAny_runValue ?_ | refine PySem.wpAny_run ?_) | ((with_reducible apply PySem.wpAny_load'); focus (heap_get; done)) | ((with_reducible apply PySem.wpAny_loadPart'); focus (heap_get; done)) | ((with_reducible apply PySem.wpAny_ite_false); focus (rfl; done)) | ((with_reducible apply PySem.wpAny_ite_true); focus (rfl; done)) | wp_delta | wp_step))
            exact h _ _ hS' hk'
          | _ => exact hr₂.elim
    | _ => exact hr.elim
theorem newSet_str {l : Addr} {x : Str} {t : Tok} {n : Nat} {h₀ : Heap} {L : Addr} {m : Str → Option Value} {news : List (Addr × Obj)} {Q : Value → Shared → Prop} (hh : A.handled = none) (F : Fr h₀ L s.heap m) (N : News h₀ L s.heap news) (hl : (l, listOf #[.str x t] n) ∈ news)
    (h : ∀ D h' (tk : Nat) o, Fr h₀ L h' m → News h₀ L h' ((D, o) :: news) → (∀ p ∈ news, p.1 < D) → o.SetObjOf (PySem.strKind prog w) (fun k => decide (k = x)) 1 → Q (.ref D) { s with heap := h', toks := tk }) :
    wpAny (model prog w) A (call (.type "set") [.ref l]) Q E s := by
  refine call_set_str hh (News.isList N hl) fun h' tk hS hk => ?_
  obtain ⟨o, ho, hso⟩ := hS.objOf
  obtain ⟨oL, _, _, hL, _⟩ := id F.ns
  have hLlt : L < s.heap.objs.size := Heap.lt_size hL
  refine h _ h' tk o ⟨F.ns.at' fun o' e => hk L o' hLlt e, fun b o' e => hk b o' (Heap.lt_size (F.keep b o' e)) (F.keep b o' e), F.above⟩ (fun p hp => ?_) (fun p hp => Heap.lt_size (N p hp).1) hso
  rcases List.mem_cons.mp hp with rfl | hp
  · refine ⟨ho, Nat.ne_of_gt hLlt, ?_⟩
    cases hq : h₀.get? s.heap.objs.size with
    | none => rfl
    | some o' => exact absurd (Heap.lt_size (F.keep _ _ hq)) (Nat.lt_irrefl _)
  · exact ⟨hk _ _ (Heap.lt_size (N p hp).1) (N p hp).1, (N p hp).2.1, (N p hp).2.2⟩
end
end Mine
end PartSetStr
section PartNames
open PySem PySem.W PyProof.Rows PySem.Calls PySem.Spec PyProof.V
set_option maxHeartbeats 8000000
namespace Mine
theorem words_Names : True := by
  w_top off
  k_with_none
  k_with "compareOp In str ref" => (k_here; k_dflt (refine' in_eset (by k_asm) (by k_mem) ?_); intro _)
  k_with "pyIter ref" => (k_here; k_dflt (first | refine' for_eset (by assumption) (by k_asm) (by k_asm) (by k_mem) ?_ | refine' for_elist (by assumption) (by k_asm) (by k_asm) (by k_mem) ?_); intro _ _ _ _; (try k_sweep))
  trivial
/-- the entries of a reader's own dict -/
noncomputable abbrev rdDict (h1 h2 h3 : Int) (t1 t2 t3 : Tok) (sm dl ig : Addr) : List DictEntry := [⟨h1, .str (Str.ofString "_mods") t1, .ref sm⟩, ⟨h2, .str (Str.ofString "_dirs") t2, .ref dl⟩, ⟨h3, .str (Str.ofString "_ignore") t3, .ref ig⟩]
/-- a reader without modules and directories, but for its table -/
noncomputable abbrev rdLed (rd dx sm dl ig : Addr) (h1 h2 h3 : Int) (t1 t2 t3 : Tok) (nd nl : Nat) (b : Bool) : List (Addr × Obj) :=
  [(rd, ({ cls := .ref 107, dict := some dx } : Obj)), (dx, dictOf (rdDict h1 h2 h3 t1 t2 t3 sm dl ig) nd), (sm, esetObj b), (dl, listOf #[] nl)]
theorem in_eset {prog : Program} {w : World} {A : Around} {E : Value → Shared → Prop} {s : Shared} {h₀ : Heap} {L sm : Addr} {b : Bool} {news : List (Addr × Obj)} {x : Str} {t : Tok} {Q : Value → Shared → Prop} (N : News h₀ L s.heap news) (hm : (sm, esetObj b) ∈ news)
    (h : ∀ tk, Q (.bool false) { s with toks := tk }) : wpAny (model prog w) A (compareOp .In (.str x t) (.ref sm)) Q E s :=
  wpAny_inSet_of (knd := PySem.strKind prog w) (k := x) (S := fun _ => false) (strKind_is prog w x t) rfl ((setObjOf_fresh b).setOf (N _ hm).1 (by decide)) (h _)
section
theorem names_found {w : World} {A : Around} {h₀ : Heap} {L : Addr} {m : Str → Option Value} {s : Shared} {Q : Value → Shared → Prop} {E : Value → Shared → Prop}
   {rd dx sm dl ig : Addr} {h1 h2 h3 : Int} {t1 t2 t3 tx : Tok} {nd nl : Nat} {b : Bool} {oI : Obj} {kvs : List (Str × Value)} {Dt : List (PyData × PyData)} {R : List (Addr × Obj)} {x : Str} {fv : Value} {i : Int}
   (Z : Site w A h₀ L) (F : Fr h₀ L s.heap m) 
   (N : News h₀ L s.heap ((ig, oI) :: (rdLed rd dx sm dl ig h1 h2 h3 t1 t2 t3 nd nl b ++ R)))
   (hI : oI.IsDictOf (PySem.strKind PySem.Challenge.rw_oh0014_01.row.prog w) kvs) (hF : FlatPairs PyData.str kvs Dt) (hig : (ig == sysModules) = false) (hR : ∀ p ∈ rdLed rd dx sm dl ig h1 h2 h3 t1 t2 t3 nd nl b ++ R, p.1 ≠ ig)
   (hdp : A.depth + 7 < recursionLimit) (hun : A.units + 50 < cLine) (hl : Spec.lookup (PyData.str x) Dt = some (.int i))
   (hQ : ∀ h' tk t, Fr h₀ L h' m → News h₀ L h' ((ig, oI) :: (rdLed rd dx sm dl ig h1 h2 h3 t1 t2 t3 nd nl b ++ R)) → Q (.int i t) { s with heap := h', toks := tk }) :
   wpAny (model PySem.Challenge.rw_oh0014_01.row.prog w) A (call (.ref 104) [.ref rd, fv, .str x tx]) Q E s := by
  obtain ⟨A₀, base, env, outer, p, loose, mean, mg, mb, B, X, T, hA, hf, hk, hh⟩ := Z
  refine wpAny_call ?_
  k_dflt (refine' code_def (binds := [(Str.ofString "self", .ref rd), (Str.ofString "filename", fv), (Str.ofString "modulename", .str x tx)]) B F X N T hA hf hk ?k6 ?k7 ?k8 ?k9 ?kB ?_ ?c2 ?c3 ?c4 ?c5; (case k6 => k_is); (case k7 => k_is); (case k8 => omega); (case k9 => exact BindsTo.of_eq rfl); (case c5 => decide); (case kB => exact locs rfl); (case c2 => exact rfl); (case c3 => exact rfl); (case c4 => exact rfl); k_whole; intro g' L' h' FG' F' N' B' X' T'; (try dsimp only); (try k_fold))
  clear N F X T
  k_steps
  all_goals (try (exfalso; simp_all; done))
  refine leaveK_ (by assumption) (by assumption) ?_
  intro kF kN
  exact hQ _ _ _ kF kN
theorem names_none {w : World} {A : Around} {h₀ : Heap} {L : Addr} {m : Str → Option Value} {s : Shared} {Q : Value → Shared → Prop} {E : Value → Shared → Prop}
   {rd dx sm dl ig : Addr} {h1 h2 h3 : Int} {t1 t2 t3 tx : Tok} {nd nl : Nat} {b : Bool} {oI : Obj} {kvs : List (Str × Value)} {Dt : List (PyData × PyData)} {R : List (Addr × Obj)} {x : Str} 
   (Z : Site w A h₀ L) (F : Fr h₀ L s.heap m) 
   (N : News h₀ L s.heap ((ig, oI) :: (rdLed rd dx sm dl ig h1 h2 h3 t1 t2 t3 nd nl b ++ R)))
   (hI : oI.IsDictOf (PySem.strKind PySem.Challenge.rw_oh0014_01.row.prog w) kvs) (hF : FlatPairs PyData.str kvs Dt) (hig : (ig == sysModules) = false) (hR : ∀ p ∈ rdLed rd dx sm dl ig h1 h2 h3 t1 t2 t3 nd nl b ++ R, p.1 ≠ ig)
   (hdp : A.depth + 7 < recursionLimit) (hun : A.units + 50 < cLine) (hl : Spec.lookup (PyData.str x) Dt = none) (hz : Dt.length < 1000)
   (hQ : ∀ h' tk t oI' kvs', Fr h₀ L h' m → News h₀ L h' ((ig, oI') :: (rdLed rd dx sm dl ig h1 h2 h3 t1 t2 t3 nd nl b ++ R)) → oI'.IsDictOf (PySem.strKind PySem.Challenge.rw_oh0014_01.row.prog w) kvs' → FlatPairs PyData.str kvs' (putD (.str x) (.int 1) Dt) → Q (.int 1 t) { s with heap := h', toks := tk }) :
   wpAny (model PySem.Challenge.rw_oh0014_01.row.prog w) A (call (.ref 104) [.ref rd, .none, .str x tx]) Q E s := by
  obtain ⟨A₀, base, env, outer, p, loose, mean, mg, mb, B, X, T, hA, hf, hk, hh⟩ := Z
  refine wpAny_call ?_
  k_dflt (refine' code_def (binds := [(Str.ofString "self", .ref rd), (Str.ofString "filename", .none), (Str.ofString "modulename", .str x tx)]) B F X N T hA hf hk ?k6 ?k7 ?k8 ?k9 ?kB ?_ ?c2 ?c3 ?c4 ?c5; (case k6 => k_is); (case k7 => k_is); (case k8 => omega); (case k9 => exact BindsTo.of_eq rfl); (case c5 => decide); (case kB => exact locs rfl); (case c2 => exact rfl); (case c3 => exact rfl); (case c4 => exact rfl); k_whole; intro g' L' h' FG' F' N' B' X' T'; (try dsimp only); (try k_fold))
  clear N F X T
  k_steps
  all_goals (try (exfalso; simp_all; done))
  refine leaveK_ (by assumption) (by assumption) ?_
  intro kF kN
  exact hQ _ _ _ _ _ kF kN (by assumption) (by assumption)
theorem names_path {w : World} {A : Around} {h₀ : Heap} {L : Addr} {m : Str → Option Value} {s : Shared} {Q : Value → Shared → Prop} {E : Value → Shared → Prop}
   {rd dx sm dl ig : Addr} {h1 h2 h3 : Int} {t1 t2 t3 tx : Tok} {nd nl : Nat} {b : Bool} {oI : Obj} {kvs : List (Str × Value)} {Dt : List (PyData × PyData)} {R : List (Addr × Obj)} {x : Str} {f : Str} {tf : Tok}
   (Z : Site w A h₀ L) (F : Fr h₀ L s.heap m) 
   (N : News h₀ L s.heap ((ig, oI) :: (rdLed rd dx sm dl ig h1 h2 h3 t1 t2 t3 nd nl b ++ R)))
   (hI : oI.IsDictOf (PySem.strKind PySem.Challenge.rw_oh0014_01.row.prog w) kvs) (hF : FlatPairs PyData.str kvs Dt) (hig : (ig == sysModules) = false) (hR : ∀ p ∈ rdLed rd dx sm dl ig h1 h2 h3 t1 t2 t3 nd nl b ++ R, p.1 ≠ ig)
   (hdp : A.depth + 7 < recursionLimit) (hun : A.units + 50 < cLine) (hl : Spec.lookup (PyData.str x) Dt = none) (hz : Dt.length < 1000)
   (hQ : ∀ h' tk t oI' kvs', Fr h₀ L h' m → News h₀ L h' ((ig, oI') :: (rdLed rd dx sm dl ig h1 h2 h3 t1 t2 t3 nd nl b ++ R)) → oI'.IsDictOf (PySem.strKind PySem.Challenge.rw_oh0014_01.row.prog w) kvs' → FlatPairs PyData.str kvs' (putD (.str x) (.int 0) Dt) → Q (.int 0 t) { s with heap := h', toks := tk }) :
   wpAny (model PySem.Challenge.rw_oh0014_01.row.prog w) A (call (.ref 104) [.ref rd, .str f tf, .str x tx]) Q E s := by
  obtain ⟨A₀, base, env, outer, p, loose, mean, mg, mb, B, X, T, hA, hf, hk, hh⟩ := Z
  refine wpAny_call ?_
  k_dflt (refine' code_def (binds := [(Str.ofString "self", .ref rd), (Str.ofString "filename", .str f tf), (Str.ofString "modulename", .str x tx)]) B F X N T hA hf hk ?k6 ?k7 ?k8 ?k9 ?kB ?_ ?c2 ?c3 ?c4 ?c5; (case k6 => k_is); (case k7 => k_is); (case k8 => omega); (case k9 => exact BindsTo.of_eq rfl); (case c5 => decide); (case kB => exact locs rfl); (case c2 => exact rfl); (case c3 => exact rfl); (case c4 => exact rfl); k_whole; intro g' L' h' FG' F' N' B' X' T'; (try dsimp only); (try k_fold))
  clear N F X T
  k_steps
  all_goals (try (exfalso; simp_all; done))
  refine leaveK_ (by assumption) (by assumption) ?_
  intro kF kN
  exact hQ _ _ _ _ _ kF kN (by assumption) (by assumption)
end
end Mine
end PartNames
section PartComp
open PySem PySem.W PyProof.Rows PySem.Calls PySem.Spec
namespace Mine
section
variable {prog : Program} {w : World} {A : Around} {E : Value → Shared → Prop} {s : Shared} {h₀ : Heap} {L : Addr} {m : Str → Option Value} {env : Env}
theorem compEnd_mono {s₁ : Shared} {I C D : Addr} {oI oC oD : Obj} {S : List (Addr × Obj) → Prop} {r r' : Value → List (Addr × Obj) → Prop} {y : Value} {s₂ : Shared} (h : LCg.CompEnd h₀ L m s₁ I oI C oC D oD S r y s₂) (k : ∀ y n, r y n → r' y n) :
    LCg.CompEnd h₀ L m s₁ I oI C oC D oD S r' y s₂ := by
  obtain ⟨h', tk, news', e, F, N, off, hS, hr⟩ := h
  exact ⟨h', tk, news', e, F, N, off, hS, k _ _ hr⟩
/-- a comprehension without a test, by what holds between its turns -/
theorem compRest_ind {elt : Expr} {x : Str} {scope : Scope} {cl : List (Str × Addr)} {S : List (Addr × Obj) → Prop} {P : Nat → Value → Prop} {Fin : List Value → List (Addr × Obj) → Prop} {n : Nat} {news₀ : List (Addr × Obj)}
    (Inv : Nat → List Value → List (Addr × Obj) → Prop) (start : Inv 0 [] news₀)
    (turn : ∀ i ys news, i < n → Inv i ys news → ∀ v I oI C oC D m₂ h tk (E' : Value → Shared → Prop), P i v → LCg.NsObj oC m₂ → m₂ x = some v → Fr h₀ L h m → News h₀ L h ((I, oI) :: (C, oC) :: (D, LCg.lst ys) :: news) → LCg.Off3 I C D news → ((@Ne Nat I C) ∧ (@Ne Nat I D) ∧ (@Ne Nat C D)) →
      wpAny (model prog w) A (eval elt (compEnvC scope cl C env)) (LCg.CompEnd h₀ L m { s with heap := h, toks := tk } I oI C oC D (LCg.lst ys) S (fun y news' => Inv (i + 1) (ys ++ [y]) news')) E' { s with heap := h, toks := tk })
    (fin : ∀ ys news, Inv n ys news → Fin ys news) : LCg.CompRest prog w A h₀ L m env elt x scope cl s S P Fin n 0 [] news₀ := by
  have key : ∀ k i ys news, i + k = n → Inv i ys news → LCg.CompRest prog w A h₀ L m env elt x scope cl s S P Fin k i ys news := by
    intro k
    induction k with
    | zero => intro i ys news hi hI; exact LCg.CompRest.zero (fin ys news (by rw [← hi]; exact hI))
    | succ k ih =>
      intro i ys news hi hI
      refine LCg.CompRest.succ fun v I oI C oC D m₂ h tk E' hP hC hx F N off ne => ?_
      refine wpAny_mono (turn i ys news (by omega) hI v I oI C oC D m₂ h tk E' hP hC hx F N off ne) (fun y s₂ q => ?_) fun _ _ e => e
      exact compEnd_mono q fun y n' hI' => ih (i + 1) _ _ (by omega) hI'
  exact key n 0 [] news₀ (by omega) start
/-- a comprehension with one test -/
theorem compRestT_ind {ct elt : Expr} {x : Str} {scope : Scope} {cl : List (Str × Addr)} {S : List (Addr × Obj) → Prop} {P : Nat → Value → Prop} {Fin : List Value → List (Addr × Obj) → Prop} {n : Nat} {news₀ : List (Addr × Obj)}
    (Inv : Nat → List Value → List (Addr × Obj) → Prop) (start : Inv 0 [] news₀)
    (turn : ∀ i ys news, i < n → Inv i ys news → ∀ v I oI C oC D m₂ h tk (E' : Value → Shared → Prop), P i v → LCg.NsObj oC m₂ → m₂ x = some v → Fr h₀ L h m → News h₀ L h ((I, oI) :: (C, oC) :: (D, LCg.lst ys) :: news) → LCg.Off3 I C D news → ((@Ne Nat I C) ∧ (@Ne Nat I D) ∧ (@Ne Nat C D)) →
      wpAny (model prog w) A (isTrue ct (compEnvC scope cl C env) (eval ct (compEnvC scope cl C env))) (fun ok s' => if ok = true then
        wpAny (model prog w) A (eval elt (compEnvC scope cl C env)) (LCg.CompEnd h₀ L m { s with heap := h, toks := tk } I oI C oC D (LCg.lst ys) S (fun y news' => Inv (i + 1) (ys ++ [y]) news')) E' s'
        else LCg.CompEnd h₀ L m { s with heap := h, toks := tk } I oI C oC D (LCg.lst ys) S (fun _ news' => Inv (i + 1) ys news') Value.none s') E' { s with heap := h, toks := tk })
    (fin : ∀ ys news, Inv n ys news → Fin ys news) : LCt.CompRestT prog w A h₀ L m env ct elt x scope cl s S P Fin n 0 [] news₀ := by
  have key : ∀ k i ys news, i + k = n → Inv i ys news → LCt.CompRestT prog w A h₀ L m env ct elt x scope cl s S P Fin k i ys news := by
    intro k
    induction k with
    | zero => intro i ys news hi hI; exact LCt.CompRestT.zero (fin ys news (by rw [← hi]; exact hI))
    | succ k ih =>
      intro i ys news hi hI
      refine LCt.CompRestT.succ fun v I oI C oC D m₂ h tk E' hP hC hx F N off ne => ?_
      refine wpAny_mono (turn i ys news (by omega) hI v I oI C oC D m₂ h tk E' hP hC hx F N off ne) (fun ok s₂ q => ?_) fun _ _ e => e
      cases ok with
      | true =>
        simp only [if_true] at q ⊢
        exact wpAny_mono q (fun y s₃ q' => compEnd_mono q' fun y n' hI' => ih (i + 1) _ _ (by omega) hI') fun _ _ e => e
      | false =>
        simp only [Bool.false_eq_true, if_false] at q ⊢
        exact compEnd_mono q fun y n' hI' => ih (i + 1) _ _ (by omega) hI'
  exact key n 0 [] news₀ (by omega) start
theorem range_size {n : Nat} : Builtin.Range.rangeSize 0 (n : Int) 1 = (n : Int) := by
  unfold Builtin.Range.rangeSize
  simp
  omega
theorem range_small {n : Nat} (h : n < 100000) : Builtin.Range.small 0 (n : Int) 1 = true := by
  have e : Builtin.Range.rangeFitsLong (n : Int) = true := by
    unfold Builtin.Range.rangeFitsLong
    simp
    omega
  unfold Builtin.Range.small
  rw [range_size]
  simp only [Bool.and_eq_true, Bool.or_eq_true]
  refine ⟨⟨⟨⟨rfl, e⟩, rfl⟩, e⟩, .inr ?_⟩
  simpa using e
end
end Mine
end PartComp
section PartFor
open PySem PySem.W PyProof.Rows PySem.Calls PySem.Spec
namespace Mine
section
variable {prog : Program} {w : World} {A : Around} {E : Value → Shared → Prop} {s : Shared} {env : Env} {h₀ : Heap} {x : Str} {body : List Stmt} {Q : Flow → Shared → Prop}
/-- what a turn leaves of the frame: all but the loop's name and those that it stores -/
noncomputable def Same (x : Str) (stored : List Str) (m₀ m : Str → Option Value) : Prop := ∀ y, y ≠ x → stored.contains y = false → m y = m₀ y
/-- a for over a list of the ledger, by what holds of the ledger between its turns -/
theorem for_led {l : Addr} {vs : List Value} {nn : Nat} {m₀ : Str → Option Value} {news : List (Addr × Obj)} (stored : List Str) (J : Nat → List (Addr × Obj) → Prop)
    (hh : A.handled = none) (hl : (l, listOf vs.toArray nn) ∈ news) (F : Fr h₀ env.locals s.heap m₀) (N : News h₀ env.locals s.heap news) (hj : J 0 news)
    (turn : ∀ i v (u : Str → Option Value) nx h tk own, vs[i]? = some v → OwnOff own (nx.map (·.1)) → (l, listOf vs.toArray nn) ∈ nx → J i nx → Fr h₀ env.locals h (fun y => if y = x then some v else if stored.contains y = true then u y else m₀ y) → News h₀ env.locals h (nx ++ own) →
      wpAny (model prog w) A (execs body env) (InvPostG h₀ env.locals (fun m' nx => (l, listOf vs.toArray nn) ∈ nx ∧ Same x stored m₀ m' ∧ J (i + 1) nx) own { s with heap := h, toks := tk } Q) E { s with heap := h, toks := tk })
    (done : ∀ (u : Str → Option Value) nx h tk, J vs.length nx → Fr h₀ env.locals h (fun y => if y = x then u y else if stored.contains y = true then u y else m₀ y) → News h₀ env.locals h nx → Q .next { s with heap := h, toks := tk }) :
    wpAny (model prog w) A (pyIter (.ref l)) (fun it s₂ => LoopAtV prog w A h₀ env x body Q E it s₂) E s := by
  refine kdl_iter (fun i m nx => Same x stored m₀ m ∧ J i nx) hh hl F N ⟨fun _ _ _ => rfl, hj⟩ ?_ ?_
  · rintro i v m₁ nx h tk own hv ho hm ⟨hs, hJ⟩ F₁ N₁
    refine turn i v m₁ nx h tk own hv ho hm hJ ?_ N₁
    have e : (fun y => if y = x then some v else m₁ y) = (fun y => if y = x then some v else if stored.contains y = true then m₁ y else m₀ y) := by
      funext y
      by_cases h1 : y = x
      · rw [if_pos h1, if_pos h1]
      · rw [if_neg h1, if_neg h1]
        cases h2 : stored.contains y with
        | true => simp
        | false => rw [hs y h1 h2]; simp
    rw [← e]; exact F₁
  · rintro m₁ nx h tk ⟨hs, hJ⟩ F₁ N₁
    refine done m₁ nx h tk hJ ?_ N₁
    have e : m₁ = (fun y => if y = x then m₁ y else if stored.contains y = true then m₁ y else m₀ y) := by
      funext y
      by_cases h1 : y = x
      · rw [if_pos h1]
      · rw [if_neg h1]
        cases h2 : stored.contains y with
        | true => simp
        | false => rw [hs y h1 h2]; simp
    rw [← e]; exact F₁
/-- a for over a list of one item -/
theorem for_one {l : Addr} {v : Value} {nn : Nat} {m₀ : Str → Option Value} {news : List (Addr × Obj)} (P : List (Addr × Obj) → Prop)
    (hh : A.handled = none) (hl : (l, listOf #[v] nn) ∈ news) (F : Fr h₀ env.locals s.heap m₀) (N : News h₀ env.locals s.heap news)
    (turn : ∀ h tk own, OwnOff own (news.map (·.1)) → Fr h₀ env.locals h (fun y => if y = x then some v else m₀ y) → News h₀ env.locals h (news ++ own) →
      wpAny (model prog w) A (execs body env) (InvPostG h₀ env.locals (fun m' nx => (l, listOf #[v] nn) ∈ nx ∧ Same x [] m₀ m' ∧ P nx) own { s with heap := h, toks := tk } Q) E { s with heap := h, toks := tk })
    (done : ∀ (u : Str → Option Value) nx h tk, P nx → Fr h₀ env.locals h (fun y => if y = x then u y else m₀ y) → News h₀ env.locals h nx → Q .next { s with heap := h, toks := tk }) :
    wpAny (model prog w) A (pyIter (.ref l)) (fun it s₂ => LoopAtV prog w A h₀ env x body Q E it s₂) E s := by
  refine for_led (vs := [v]) [] (fun i nx => if i = 0 then nx = news else P nx) hh hl F N rfl ?_ ?_
  · intro i v' u nx h tk own hv ho hm hJ F' N'
    cases i with
    | zero =>
      simp at hv
      subst hv
      simp at hJ
      subst hJ
      simp at F' ⊢
      exact turn h tk own ho F' N'
    | succ i => simp at hv
  · intro u nx h tk hJ F' N'
    simp at hJ F'
    exact done u nx h tk hJ F' N'
/-- a for over a range, by what holds of the ledger between its turns -/
theorem for_rng {r : Addr} {a₀ b₀ : Int} {t₀ u₀ v₀ : Tok} {n : Nat} {m₀ : Str → Option Value} {news : List (Addr × Obj)} (stored : List Str) (J : Nat → List (Addr × Obj) → Prop)
    (hh : A.handled = none) (hr : IsRange s.heap r a₀ b₀ 1 t₀ u₀ v₀) (hsmall : Builtin.Range.small a₀ b₀ 1 = true) (hsz : Builtin.Range.rangeSize a₀ b₀ 1 = (n : Int)) (F : Fr h₀ env.locals s.heap m₀) (N : News h₀ env.locals s.heap news) (hj : J 0 news)
    (turn : ∀ i t (u : Str → Option Value) nx h tk own, i < n → OwnOff own (nx.map (·.1)) → J i nx → Fr h₀ env.locals h (fun y => if y = x then some (.int (a₀ + (i : Int)) t) else if stored.contains y = true then u y else m₀ y) → News h₀ env.locals h (nx ++ own) →
      wpAny (model prog w) A (execs body env) (InvPostG h₀ env.locals (fun m' nx => Same x stored m₀ m' ∧ J (i + 1) nx) own { s with heap := h, toks := tk } Q) E { s with heap := h, toks := tk })
    (done : ∀ (u : Str → Option Value) nx h tk, J n nx → Fr h₀ env.locals h (fun y => if y = x then u y else if stored.contains y = true then u y else m₀ y) → News h₀ env.locals h nx → Q .next { s with heap := h, toks := tk }) :
    wpAny (model prog w) A (pyIter (.ref r)) (fun it s₂ => LoopAtV prog w A h₀ env x body Q E it s₂) E s := by
  refine wpAny_pyIter_range hr hsmall ?_
  have W : Walks prog w A s.heap.objs.size [s.heap.objs.size] [s.heap.objs.size] n (fun i v => i < n ∧ ∃ t, v = .int (a₀ + i * 1) t)
      (fun i h => IsRangeIter h s.heap.objs.size (a₀ + (i : Nat) * 1) ((n : Int) - (i : Nat)) 1) := (Walks.range hh _ a₀ 1 n).bound
  refine kdr_loop (fun i m nx => Same x stored m₀ m ∧ J i nx) W (fun _ h => h) (fun _ h => h) ?_ ?_ ?_ ?_ (by show IsRangeIter _ _ _ _ _; rw [hsz]; simpa using Heap.get?_push_size _ rfl) (F.push _) (fun p hp => ⟨Heap.get?_push_of_some _ (N p hp).1, (N p hp).2⟩) ⟨fun _ _ _ => rfl, hj⟩ ?_ ?_
  · intro i h hi b hb
    rw [List.mem_singleton.mp hb]
    exact ⟨_, hi⟩
  · intro hm
    exact absurd F.ns.lt ((List.mem_singleton.mp hm) ▸ Nat.lt_irrefl _)
  · intro b hb
    rw [List.mem_singleton.mp hb]
    exact next_is_new F
  · intro p hp hI
    exact absurd (Heap.lt_size (N p hp).1) ((List.mem_singleton.mp hI) ▸ Nat.lt_irrefl _)
  · rintro i v m₁ nx h tk own hi ⟨_, t, rfl⟩ hoff ⟨hs, hJ⟩ F₁ N₁
    have e1 : a₀ + (i : Int) * 1 = a₀ + (i : Int) := by omega
    rw [e1] at F₁
    refine turn i t m₁ nx h tk own hi hoff hJ ?_ N₁
    have e : (fun y => if y = x then some (Value.int (a₀ + (i : Int)) t) else m₁ y) = (fun y => if y = x then some (Value.int (a₀ + (i : Int)) t) else if stored.contains y = true then m₁ y else m₀ y) := by
      funext y
      by_cases h1 : y = x
      · rw [if_pos h1, if_pos h1]
      · rw [if_neg h1, if_neg h1]
        cases h2 : stored.contains y with
        | true => simp
        | false => rw [hs y h1 h2]; simp
    rw [← e]; exact F₁
  · rintro m₁ nx h tk ⟨hs, hJ⟩ F₁ N₁
    refine done m₁ nx h tk hJ ?_ N₁
    have e : m₁ = (fun y => if y = x then m₁ y else if stored.contains y = true then m₁ y else m₀ y) := by
      funext y
      by_cases h1 : y = x
      · rw [if_pos h1]
      · rw [if_neg h1]
        cases h2 : stored.contains y with
        | true => simp
        | false => rw [hs y h1 h2]; simp
    rw [← e]; exact F₁
end
end Mine
end PartFor
section PartLawName
open PySem PySem.W PyProof.Rows PySem.Calls PySem.Spec PyProof.V
set_option maxHeartbeats 8000000
namespace Mine
theorem words_LawName : True := by
  w_top off
  k_with_none
  k_with "eval ListComp" => refine halt ?_
  k_with "CompSrc" => refine halt ?_
  k_with "binaryOp Add int int" => (refine add_n1 ?_; intro _ _)
  trivial
/-- the name of number j -/
noncomputable def nameOf (j : Nat) : Str := Txt.join (Str.ofString ".") (List.replicate (j + 1) (Str.ofString "n"))
theorem strsAre_snoc {vs : List Value} {ys : List Str} {y : Str} {t : Tok} (h : StrsAre vs ys) : StrsAre (vs ++ [.str y t]) (ys ++ [y]) := by
  induction h with
  | nil => exact .cons y t .nil
  | cons z u r ih => exact .cons z u ih
section
theorem name_call {w : World} {A : Around} {h₀ : Heap} {L : Addr} {m : Str → Option Value} {s : Shared} {Q : Value → Shared → Prop} {E : Value → Shared → Prop}
   {news : List (Addr × Obj)} {j : Nat} {tj : Tok}
   (Z : Site w A h₀ L) (F : Fr h₀ L s.heap m) (N : News h₀ L s.heap news) (hj : j < 100)
   (hdp : A.depth + 7 < recursionLimit) (hun : A.units + 50 < cLine)
   (hQ : ∀ h' tk t, Fr h₀ L h' m → News h₀ L h' news → Q (.str (nameOf j) t) { s with heap := h', toks := tk }) :
   wpAny (model PySem.Challenge.rw_oh0014_01.row.prog w) A (call (.ref 116) [.int (j : Int) tj]) Q E s := by
  obtain ⟨A₀, base, env, outer, p, loose, mean, mg, mb, B, X, T, hA, hf, hk, hh⟩ := Z
  refine wpAny_call ?_
  k_dflt (refine' code_def (binds := [(Str.ofString "j", .int (j : Int) tj)]) B F X N T hA hf hk ?k6 ?k7 ?k8 ?k9 ?kB ?_ ?c2 ?c3 ?c4 ?c5; (case k6 => k_is); (case k7 => k_is); (case k8 => omega); (case k9 => exact BindsTo.of_eq rfl); (case c5 => decide); (case kB => exact locs rfl); (case c2 => exact rfl); (case c3 => exact rfl); (case c4 => exact rfl); k_whole; intro g' L' h' FG' F' N' B' X' T'; (try dsimp only); (try k_fold))
  clear N F X T
  k_steps
  change wpAny _ _ _ _ _ _
  k_dflt (refine LCg.ListComp_U (F₀ := by k_asm) (by rfl) (by decide) (by rfl) (by decide) (by rfl) ?_)
  k_steps
  change LCg.CompSrc _ _ _ _ _ _ _ _ _ _ _ _ _ _
  refine LCg.CompSrc.range (n := j + 1) hh (by k_asm) (by k_asm) (by assumption) (range_small (by omega)) range_size (by simp [sizeLine]; omega) ?_
  intro g1
  dsimp only
  refine compRest_ind (fun i ys n' => StrsAre ys (List.replicate i (Str.ofString "n")) ∧ n' = news) ⟨.nil, rfl⟩ ?_ ?_
  · rintro i ys n' hi ⟨hys, rfl⟩ v I oI C oC D m₂ h tk E' ⟨tv, rfl⟩ hC hx F N off ne
    k_steps
    refine LCg.CompEnd.intro (by assumption) N _ (fun p hp => hp) off trivial ⟨?_, rfl⟩
    rw [List.replicate_succ']
    exact strsAre_snoc hys
  · rintro ys n' ⟨hys, rfl⟩ D h tk F N off
    k_steps
    refine join_list (News.isList N (.head _)) hys ?_ ?_
    · simp only [List.map_replicate, List.sum_replicate_nat, List.length_replicate]
      have e1 : (Str.ofString "n").length = 1 := by rfl
      have e2 : (Str.ofString ".").length = 1 := by rfl
      rw [e1, e2]; omega
    · intro t' k'
      k_steps
      refine leaveK_ (by assumption) N ?_
      intro kF kN
      exact hQ _ _ _ kF (News.tl kN)
end
end Mine
end PartLawName
section PartPair
open PySem PySem.W PyProof.Rows PySem.Calls PySem.Spec
namespace Mine
noncomputable abbrev tupOf (vs : List Value) (n : Nat) : Obj := { cls := .type "tuple", data := .seq vs.toArray n }
section
variable {prog : Program} {w : World} {A : Around} {E : Value → Shared → Prop} {s : Shared}
theorem pair_lt {a b : Addr} {p q i j : Int} {t1 t2 u1 u2 : Tok} {n n' : Nat} {Q : Value → Shared → Prop} (ha : s.heap.get? a = some (tupOf [.int p t1, .int i t2] n)) (hb : s.heap.get? b = some (tupOf [.int q u1, .int j u2] n'))
    (hu : A.units < cLine) (h : ∀ tk, Q (.bool (lexlt (p, i) (q, j))) { s with toks := tk }) : wpAny (model prog w) A (compareOp .Lt (.ref a) (.ref b)) Q E s := by
  have hTa : s.TypeIs (.ref a) "tuple" := ⟨_, ha, rfl⟩
  have hTb : s.TypeIs (.ref b) "tuple" := ⟨_, hb, rfl⟩
  refine cmp_ofLt (wpAny_richCompare_same_room (op := .Lt) hTa hTb F.slot_tuple_lt (wpAny_call_entry F.slot_tuple_lt hTa F.entry_tuple_lt ?_ (F.args_tuple_lt_2 _ _)) hu)
  show wpAny _ _ (isInstance (.ref b) (.type "tuple") >>= _) _ _ s
  refine wpAny_bind (wpAny_isInstance hTb isSubtype_tuple_tuple ?_)
  simp only [Bool.not_true, Bool.false_eq_true, if_false]
  refine wpAny_bind (wpAny_tupleItemsOf ha rfl ?_)
  refine wpAny_bind (wpAny_tupleItemsOf hb rfl ?_)
  refine wpAny_bind ?_
  show wpAny _ _ (forIn [(Value.int p t1, Value.int q u1), (Value.int i t2, Value.int j u2)] _ _) _ _ s
  rw [List.forIn_cons]
  refine wpAny_bind (wpAny_bind (wpAny_eqBool_int ?_))
  by_cases h1 : p = q
  · subst h1
    rw [show (p == p) = true from by simp]
    simp only [Bool.not_true, Bool.false_eq_true, if_false]
    refine wpAny_pure ?_
    dsimp only
    rw [List.forIn_cons]
    refine wpAny_bind (wpAny_bind (wpAny_eqBool_int ?_))
    by_cases h2 : i = j
    · subst h2
      rw [show (i == i) = true from by simp]
      simp only [Bool.not_true, Bool.false_eq_true, if_false]
      refine wpAny_pure ?_
      dsimp only
      rw [List.forIn_nil]
      refine wpAny_pure ?_
      refine wpAny_pure ⟨_, rfl, (fun e => nomatch e), ?_⟩
      have e : lexlt (p, i) (p, i) = false := by simp [lexlt]
      rw [e] at h
      exact h s.toks
    · rw [show (i == j) = false from by simpa using h2]
      simp only [Bool.not_false, if_true]
      refine wpAny_bind (wpAny_rule (wpAny_bind (wpAny_lt_int ?_)))
      refine wpAny_bind (wpAny_pure (wpAny_pure ?_))
      dsimp only
      refine wpAny_pure ?_
      refine wpAny_pure ⟨_, rfl, (fun e => nomatch e), ?_⟩
      have e : lexlt (p, i) (p, j) = decide (i < j) := by simp [lexlt]
      rw [e] at h
      exact h s.toks
  · rw [show (p == q) = false from by simpa using h1]
    simp only [Bool.not_false, if_true]
    refine wpAny_bind (wpAny_rule (wpAny_bind (wpAny_lt_int ?_)))
    refine wpAny_bind (wpAny_pure (wpAny_pure ?_))
    dsimp only
    refine wpAny_pure ?_
    refine wpAny_pure ⟨_, rfl, (fun e => nomatch e), ?_⟩
    have e : lexlt (p, i) (q, j) = decide (p < q) := by simp [lexlt, h1]
    rw [e] at h
    exact h s.toks
/-- v is a pair of ints of the ledger -/
noncomputable def PairAt (R : List (Addr × Obj)) (v : Value) (k : Int × Int) : Prop := ∃ a t u n, v = .ref a ∧ (a, tupOf [.int k.1 t, .int k.2 u] n) ∈ R
theorem PairAt.mono {R R' : List (Addr × Obj)} {v : Value} {k : Int × Int} (h : PairAt R v k) (hs : ∀ p ∈ R, p ∈ R') : PairAt R' v k := by
  obtain ⟨a, t, u, n, e, hm⟩ := h
  exact ⟨a, t, u, n, e, hs _ hm⟩
theorem PairAt.inj {h₀ h : Heap} {L : Addr} {R : List (Addr × Obj)} {v : Value} {k k' : Int × Int} (N : News h₀ L h R) (h1 : PairAt R v k) (h2 : PairAt R v k') : k = k' := by
  obtain ⟨a, t, u, n, rfl, hm⟩ := h1
  obtain ⟨a', t', u', n', e, hm'⟩ := h2
  cases e
  have e1 := (N _ hm).1
  have e2 := (N _ hm').1
  rw [e1] at e2
  simp only [Option.some.injEq, Obj.mk.injEq, Data.seq.injEq] at e2
  have := e2.2.2.1.1
  simp at this
  exact Prod.ext this.1.1 this.2.1
open Classical in
/-- what a pair of the ledger is ordered by -/
noncomputable def pairKey (R : List (Addr × Obj)) (v : Value) : Int × Int := if h : ∃ k, PairAt R v k then h.choose else (0, 0)
theorem pairKey_is {h₀ h : Heap} {L : Addr} {R : List (Addr × Obj)} {v : Value} {k : Int × Int} (N : News h₀ L h R) (hk : PairAt R v k) : pairKey R v = k := by
  have hx : ∃ k, PairAt R v k := ⟨k, hk⟩
  unfold pairKey
  rw [dif_pos hx]
  exact PairAt.inj N hx.choose_spec hk
theorem cmp_pairs (R : List (Addr × Obj)) : Cmp w R (fun v => ∃ k, PairAt R v k) (pairKey R) where
  lt := by
    rintro A E s h₀ L u v Q ⟨k, hk⟩ ⟨l, hl⟩ N hu h
    rw [pairKey_is N hk, pairKey_is N hl] at h
    obtain ⟨a, t1, t2, n, rfl, hm⟩ := hk
    obtain ⟨b, u1, u2, n', rfl, hm'⟩ := hl
    exact pair_lt (N _ hm).1 (N _ hm').1 (by omega) h
noncomputable def intKey : Value → Int × Int
  | .int i _ => (i, 0)
  | _ => (0, 0)
theorem cmp_ints (R : List (Addr × Obj)) : Cmp w R (fun v => ∃ i t, v = .int i t) intKey where
  lt := by
    rintro A E s h₀ L u v Q ⟨i, t, rfl⟩ ⟨j, t', rfl⟩ N hu h
    refine wpAny_lt_int ?_
    have e : lexlt (intKey (.int i t)) (intKey (.int j t')) = decide (i < j) := by simp [lexlt, intKey]
    rw [e] at h
    exact h s.toks
end
end Mine
end PartPair
section PartTry
open PySem PySem.W PyProof.Rows PySem.Calls PySem.Spec PyProof.V
set_option maxHeartbeats 8000000
namespace Mine
theorem words_Try : True := by
  w_top off
  k_with_none
  k_with "call builtin:list.pop" => (k_here; k_dflt (refine' pop_empty (by assumption) (by k_asm) (by k_mem) ?_); intro _ _ _ _)
  k_with "leaving ref" => refine halt ?_
  trivial
theorem pop_empty {prog : Program} {w : World} {A : Around} {E : Value → Shared → Prop} {s : Shared} {h₀ : Heap} {L D : Addr} {n : Nat} {news : List (Addr × Obj)} {Q : Value → Shared → Prop} (hh : A.handled = none) (N : News h₀ L s.heap news) (hm : (D, listOf #[] n) ∈ news)
    (h : ∀ e h' tk, Heap.NewExc s.heap h' e "IndexError" → E (.ref e) { s with heap := h', toks := tk }) : wpAny (model prog w) A (call (.builtin "list.pop") [.ref D]) Q E s := by
  have z := N _ hm
  refine call_meets PySem.F.slot_list_pop ⟨_, z.1, rfl⟩ PySem.F.entry_list_pop (PySem.F.args_list_pop_1 _) (PySem.AutoSeq1.list_pop_list_0 D #[] n rfl) ⟨z.1, hh, fun h' tk e hx => ?_⟩
  exact h e h' tk hx
section
theorem heappop_empty {w : World} {A₀ A : Around} {base h₀ : Heap} {env : Env} {outer : List Env} {p : Program} {loose : List Str} {mean : ExcName → Option Value} {mg mb : Str → Option Value} {L : Addr} {m : Str → Option Value} {s : Shared} {Q : Value → Shared → Prop} {E : Value → Shared → Prop}
   {H : Addr} {n : Nat} {R : List (Addr × Obj)}
   (B : Below A₀ base outer h₀) (X : (hd.heap_39 w.params).In h₀) (T : Top p loose mean mg mb h₀) (hA : A.frames = some (env :: outer)) (hf : env.frame = some L) (hk : env.scope.kind = .function) (hh : A.handled = none)
   (F : Fr h₀ L s.heap m) (N : News h₀ L s.heap ((H, listOf #[] n) :: R)) (hdp : A.depth + 8 < recursionLimit) (hun : A.units + 60 < cLine)
   (hE : ∀ e G h' tk, Fr h₀ L G m → RaisedSN base G (env :: outer) e (.type "IndexError") ((H, listOf #[] n) :: R) h' → G.UpToSlots h' → E (.ref e) { s with heap := h', toks := tk }) :
   wpAny (model PySem.Challenge.rw_oh0014_01.row.prog w) A (call (.ref 35) [.ref H]) Q E s := by
  refine wpAny_call ?_
  k_dflt (refine' code_def (binds := [(Str.ofString "heap", .ref H)]) B F X N T hA hf hk ?k6 ?k7 ?k8 ?k9 ?kB ?_ ?c2 ?c3 ?c4 ?c5; (case k6 => k_is); (case k7 => k_is); (case k8 => omega); (case k9 => exact BindsTo.of_eq rfl); (case c5 => decide); (case kB => exact locs rfl); (case c2 => exact rfl); (case c3 => exact rfl); (case c4 => exact rfl); k_whole; intro g' L' h' FG' F' N' B' X' T'; (try dsimp only); (try k_fold))
  clear N F X T
  k_steps
  change wpAny _ _ _ _ _ _
  refine leave_newS B' (by assumption) F' N' (fun h'' R1 _ U1 => ?_)
  exact hE _ _ _ _ FG' R1 U1
end
section
variable {prog : Program} {w : World} {A₀ A : Around} {s : Shared} {base h₀ : Heap} {env : Env} {L : Addr} {m : Str → Option Value} {news : List (Addr × Obj)} {K : Frag} {p : Program} {loose : List Str} {mean : ExcName → Option Value} {mg mb : Str → Option Value}
    {R : Result → Shared → Prop} {name qual : Str} {params : Arguments} {body : List Stmt} {scope : Scope} {dV kV doc pm cdv ct oc : Value} {an od : Option Addr} {osl : Array (Option Value)} {f : Addr} {args : Args} {binds : List (Str × Value)}
/-- a def that catches, called from the lowest frame (which may have cells): what it comes back with may have turned the frame's slots -/
theorem code_try (B : Below A₀ base [] h₀) (F : Fr h₀ L s.heap m) (X₀ : K.In h₀) (N : News h₀ L s.heap news) (T : Top p loose mean mg mb h₀) (hA : A.frames = some [env]) (hf : env.frame = some L) (hke : env.scope.kind = .function)
    (ho : K.lookup f = some ⟨oc, od, .func (fnOf name qual params body scope dV kV doc pm an cdv ct), osl⟩) (hcd : codeIn K cdv qual = true) (hroom : A.depth < recursionLimit)
    (hbind : BindsTo s (fnOf name qual params body scope dV kV doc pm an cdv ct) args binds) (hloc : ∀ y ∈ binds, scope.names.lookup y.1 = some .local)
    (h : ∀ g L' h₁, Fr h₀ L g m → Fr g L' h₁ (fun y => binds.reverse.lookup y) → News g L' h₁ news → Below A base [env] g → K.In g → Top p loose mean mg mb g → KtsDicts ([env].filterMap (·.frame)) g →
      wpAny (model prog w) (A.deeper (envOf qual scope L' f cdv)) (execs body (envOf qual scope L' f cdv))
        (fun fl s' => LeaveS0 ([env].filterMap (·.frame)) h₀ L m g R (match fl with | .ret v => v | _ => .none) s')
        (fun e s' => wpAny (model prog w) (A.deeper (envOf qual scope L' f cdv)) (leaving (envOf qual scope L' f cdv) e) (fun _ s'' => R (.error e) s'') (fun e' s'' => R (.error e') s'') s')
        { s with heap := h₁, toks := s.toks + binds.length })
    (hco : scope.isCoroutine = false) (hgen : scope.isGenerator = false) (hk : scope.kind = .function)
    (hcell : ∀ x ∈ scope.names, x.2 ≠ .cell) : codeAny (model prog w) A (.call (.ref f) args) R s := by
  have hfs : [env].filterMap (·.frame) = [L] := by simp [hf]
  have X := X₀.keeps F.keep
  refine codeAny_call_def (fd := fnOf name qual params body scope dV kV doc pm an cdv ct) (body := body) (binds := binds) hroom (X _ _ ho) rfl (T.nolimit.keeps F.keep) (codeRec_of X hcd) rfl hbind hcell hloc (fun h₁ hns hk₁ => ?_) hco hgen hk
  obtain ⟨FG, BG, st, -⟩ := groundX (R := R) B F N hA hf hke
  obtain ⟨oL, es, ep, hLg, hLd, hLk, hLf⟩ := FG.ns
  have nL₀ : h₀.get? L = none := kts_self F
  refine wpAny_mono (h _ s.heap.objs.size h₁ FG ⟨hns, fun b o e => hk₁ b o (of_hideAll _ e), Nat.le_of_eq (hideAll_size _ _)⟩
    (fun p hp => ⟨hk₁ _ _ (N p hp).1, Nat.ne_of_lt (Heap.lt_size (N p hp).1), hideAll_none _ (List.mem_map_of_mem hp)⟩) BG (X₀.keeps st) (T.keeps st) (fun b hb => by
      rw [hfs] at hb
      rw [List.mem_singleton.mp hb]
      exact ⟨oL, es, ep, hLg, hLd⟩)) (fun fl s' hl => ?_) fun _ _ y => y
  obtain ⟨g', L', m', news', T', F', N', k⟩ := hl
  obtain ⟨sl, hsl⟩ := T'.up hLg
  refine k ⟨⟨_, es, ep, F'.keep _ _ hsl, hLd, hLk, hLf⟩, fun b o e => F'.keep b o (T'.other b o (st b o e) fun q => ?_), F.above⟩ fun p hp => ⟨(N' p hp).1, fun q => ?_, ?_⟩
  · rw [hfs] at q
    rw [List.mem_singleton.mp q, nL₀] at e
    cases e
  · have z := (N' p hp).2.2
    rw [q, hsl] at z
    cases z
  · cases q : h₀.get? p.1 with
    | none => rfl
    | some o =>
      obtain ⟨sl', hs'⟩ := T'.up (st _ _ q)
      have z := (N' p hp).2.2
      rw [hs'] at z
      cases z
end
end Mine
end PartTry
section PartPlain
open PySem PySem.W PyProof.Rows PySem.Calls PySem.Spec PyProof.V
namespace Mine
theorem nameOf_len : ∀ j < 24, (nameOf j).length = 2 * j + 1 := by decide +kernel
theorem nameOf_inj {i j : Nat} (hi : i < 24) (hj : j < 24) (h : nameOf i = nameOf j) : i = j := by
  have a := nameOf_len i hi
  have b := nameOf_len j hj
  rw [h] at a
  omega
theorem nameOf_top {j : Nat} (hj : j < 24) : nameOf j ≠ Str.ofString "<string>" := by
  intro h
  have a := nameOf_len j hj
  rw [h] at a
  have e : (Str.ofString "<string>").length = 8 := by decide +kernel
  omega
/-- what a reader's table tells of the names -/
noncomputable def Dic (Dt : List (PyData × PyData)) (f : Nat → Option Int) : Prop := ∀ j < 24, Spec.lookup (PyData.str (nameOf j)) Dt = (f j).map PyData.int
noncomputable def upd (f : Nat → Option Int) (j : Nat) (c : Int) : Nat → Option Int := fun i => if i = j then some c else f i
theorem lookup_append_none {k : PyData} : ∀ {D E : List (PyData × PyData)}, Spec.lookup k D = none → Spec.lookup k (D ++ E) = Spec.lookup k E
  | [], _, _ => rfl
  | (a, b) :: r, E, h => by
    unfold Spec.lookup at h
    split at h
    · cases h
    · rename_i q
      show (if Spec.same a k = true then some b else Spec.lookup k (r ++ E)) = _
      rw [if_neg q]
      exact lookup_append_none h
theorem lookup_append_some {k v : PyData} : ∀ {D E : List (PyData × PyData)}, Spec.lookup k D = some v → Spec.lookup k (D ++ E) = some v
  | [], _, h => by cases h
  | (a, b) :: r, E, h => by
    unfold Spec.lookup at h
    show (if Spec.same a k = true then some b else Spec.lookup k (r ++ E)) = _
    split at h
    · rename_i q; rw [if_pos q]; exact h
    · rename_i q; rw [if_neg q]; exact lookup_append_some h
theorem Dic.put {Dt : List (PyData × PyData)} {f : Nat → Option Int} (h : Dic Dt f) {j : Nat} {c : Int} (hj : j < 24) (hf : f j = none) : Dic (putD (.str (nameOf j)) (.int c) Dt) (upd f j c) := by
  intro i hi
  have hn : Spec.lookup (PyData.str (nameOf j)) Dt = none := by rw [h j hj, hf]; rfl
  rw [putD_absent hn]
  by_cases e : i = j
  · subst e
    rw [lookup_append_none hn]
    unfold upd
    rw [if_pos rfl]
    show (if Spec.same (.str (nameOf i)) (.str (nameOf i)) = true then some (PyData.int c) else _) = _
    rw [if_pos (by simp [Spec.same])]
    rfl
  · unfold upd
    rw [if_neg e]
    cases q : Spec.lookup (PyData.str (nameOf i)) Dt with
    | some v => rw [lookup_append_some q, ← q, h i hi]
    | none =>
      rw [lookup_append_none q, ← h i hi, q]
      show (if Spec.same (.str (nameOf j)) (.str (nameOf i)) = true then some (PyData.int c) else none) = none
      rw [if_neg]
      intro hs
      have : nameOf j = nameOf i := by simpa [Spec.same] using hs
      exact e (nameOf_inj hj hi this).symm
/-- one that came off: its pair, what was told of it, a whole number -/
noncomputable def tri (k : Int × Int) (a : Int) : Dat := .tuple [.tuple [.int k.1, .int k.2], .int a, .bool true]
noncomputable def nothingLeft : Dat := .str (Str.ofString "nothing left")
noncomputable def bk (f : Nat → Option Int) (k : Int × Int) : Bool := f k.2.toNat == some 1
noncomputable def rowOf (f : Nat → Option Int) : List (Int × Int) → List Dat
  | [] => [nothingLeft]
  | k :: r => if bk f k then tri k 1 :: rowOf f r else [tri k 0]
noncomputable def restOf (f : Nat → Option Int) : List (Int × Int) → List (Int × Int)
  | [] => []
  | k :: r => if bk f k then restOf f r else r
noncomputable def afterOf (f : Nat → Option Int) : List (Int × Int) → (Nat → Option Int)
  | [] => f
  | k :: r => if bk f k then afterOf f r else upd f k.2.toNat 0
theorem allLt_mem {d : Nat} : ∀ {l : List (Addr × Obj)}, AllLt d l → ∀ p ∈ l, p.1 < d
  | [], _, _, h => nomatch h
  | _ :: _, h, p, hp => by
    rcases List.mem_cons.mp hp with rfl | hp
    · exact h.1
    · exact allLt_mem h.2 p hp
theorem DatIn.pair {R : List (Addr × Obj)} {v : Value} {k : Int × Int} (h : PairAt R v k) : DatIn R v (.tuple [.int k.1, .int k.2]) := by
  obtain ⟨a, t, u, n, rfl, hm⟩ := h
  exact .tuple hm (.cons (.int _ _) (.cons (.int _ _) .nil))
theorem PairAt.ofDat {R : List (Addr × Obj)} {v : Value} {k : Int × Int} (h : DatIn R v (.tuple [.int k.1, .int k.2])) : PairAt R v k := by
  cases h with
  | tuple hm r =>
    cases r with
    | cons h1 r =>
      cases r with
      | cons h2 r =>
        cases r
        cases h1
        cases h2
        exact ⟨_, _, _, _, rfl, hm⟩
end Mine
end PartPlain
section PartHeapLaw
open PySem
namespace Mine
theorem lexlt_iff {a b : Int × Int} : lexlt a b = true ↔ (a.1 < b.1 ∨ (a.1 = b.1 ∧ a.2 < b.2)) := by simp [lexlt]
theorem lexlt_false {a b : Int × Int} : lexlt a b = false ↔ ¬ (a.1 < b.1 ∨ (a.1 = b.1 ∧ a.2 < b.2)) := by simp [lexlt]
theorem le_refl' (a : Int × Int) : lexlt a a = false := by rw [lexlt_false]; omega
theorem le_trans' {a b c : Int × Int} (h1 : lexlt b a = false) (h2 : lexlt c b = false) : lexlt c a = false := by rw [lexlt_false] at *; omega
theorem le_of_lt' {a b : Int × Int} (h : lexlt a b = true) : lexlt b a = false := by rw [lexlt_false]; rw [lexlt_iff] at h; omega
theorem le_antisymm' {a b : Int × Int} (h1 : lexlt a b = false) (h2 : lexlt b a = false) : a = b := by
  rw [lexlt_false] at *
  apply Prod.ext <;> omega
/-- no item is below the one that it hangs on -/
noncomputable def IsHeap (key : Value → Int × Int) (vs : List Value) : Prop := ∀ i, 0 < i → i < vs.length → lexlt (key (vs.getD i .none)) (key (vs.getD ((i - 1) / 2) .none)) = false
noncomputable def SortedK (ks : List (Int × Int)) : Prop := ks.Pairwise fun a b => lexlt b a = false
theorem getD_set_eq {vs : List Value} {k : Nat} {v : Value} (h : k < vs.length) : (vs.set k v).getD k .none = v := by
  simp [List.getD_eq_getElem?_getD, h]
theorem getD_set_ne {vs : List Value} {k i : Nat} {v : Value} (h : i ≠ k) : (vs.set k v).getD i .none = vs.getD i .none := by
  simp [List.getD_eq_getElem?_getD, List.getElem?_set, Ne.symm h]
/-- taking one place's item out and putting it at another's -/
theorem swap_perm {vs : List Value} {k j : Nat} {x : Value} (hk : k < vs.length) (hj : j < vs.length) (hne : j ≠ k) : ((vs.set k (vs.getD j .none)).set j x).Perm (vs.set k x) := by
  rw [List.perm_iff_count]
  intro a
  have e1 : vs.getD j .none = vs[j] := by simp [List.getD_eq_getElem?_getD, hj]
  rw [e1]
  have hj' : j < (vs.set k vs[j]).length := by simpa using hj
  rw [List.count_set hj', List.count_set hk, List.count_set hk]
  have e2 : (vs.set k vs[j])[j] = vs[j] := by rw [List.getElem_set]; simp [Ne.symm hne]
  rw [e2]
  have p1 : (if (vs[k] == a) = true then 1 else 0) ≤ List.count a vs := by
    split
    · rename_i h
      have : a ∈ vs := by rw [← eq_of_beq h]; exact List.getElem_mem hk
      exact List.count_pos_iff.mpr this
    · exact Nat.zero_le _
  omega
/-- the parents' order at all places but k, and k's children against k's parent -/
noncomputable def SdInv (key : Value → Int × Int) (x : Value) (vs : List Value) (k : Nat) : Prop :=
  (∀ i, 0 < i → i < vs.length → i ≠ k → lexlt (key ((vs.set k x).getD i .none)) (key ((vs.set k x).getD ((i - 1) / 2) .none)) = false) ∧
  (0 < k → ∀ c, 0 < c → c < vs.length → (c - 1) / 2 = k → lexlt (key (vs.getD c .none)) (key (vs.getD ((k - 1) / 2) .none)) = false)
theorem sdL_law (key : Value → Int × Int) (x : Value) (vs : List Value) (k : Nat) (hk : k < vs.length) (h : SdInv key x vs k) : IsHeap key (sdL key x vs k) ∧ (sdL key x vs k).Perm (vs.set k x) := by
  induction k using Nat.strongRecOn generalizing vs with
  | ind k ih =>
    obtain ⟨ha, hb⟩ := h
    rw [sdL]
    split
    · rename_i hc
      obtain ⟨h0, hlt⟩ := hc
      have hp : (k - 1) / 2 < k := by omega
      generalize hpe : (k - 1) / 2 = p at *
      have hpl : p < vs.length := by omega
      have hlen : (vs.set k (vs.getD p .none)).length = vs.length := List.length_set
      have g : ∀ i, i ≠ p → i ≠ k → ((vs.set k (vs.getD p .none)).set p x).getD i .none = vs.getD i .none := fun i h1 h2 => by rw [getD_set_ne h1, getD_set_ne h2]
      have gk : ((vs.set k (vs.getD p .none)).set p x).getD k .none = vs.getD p .none := by rw [getD_set_ne (by omega), getD_set_eq hk]
      have gp : ((vs.set k (vs.getD p .none)).set p x).getD p .none = x := getD_set_eq (by rw [hlen]; exact hpl)
      have ha' : ∀ i, 0 < i → i < vs.length → i ≠ k → (i - 1) / 2 ≠ k → lexlt (key (vs.getD i .none)) (key (vs.getD ((i - 1) / 2) .none)) = false := by
        intro i h1 h2 h3 h4
        have := ha i h1 h2 h3
        rwa [getD_set_ne h3, getD_set_ne h4] at this
      have inv : SdInv key x (vs.set k (vs.getD p .none)) p := by
        constructor
        · intro i h1 h2 h3
          rw [hlen] at h2
          by_cases e1 : i = k
          · subst e1
            rw [gk, hpe, gp]
            exact le_of_lt' hlt
          · rw [g i h3 e1]
            by_cases e2 : (i - 1) / 2 = k
            · rw [e2, gk]
              exact hb h0 i h1 h2 e2
            · have := ha' i h1 h2 e1 e2
              by_cases e3 : (i - 1) / 2 = p
              · rw [e3, gp]
                rw [e3] at this
                exact le_trans' (le_of_lt' hlt) this
              · rw [g _ e3 e2]
                exact this
        · intro hp0 c h1 h2 h3
          rw [hlen] at h2
          have hpp : (p - 1) / 2 ≠ k := by omega
          rw [getD_set_ne hpp]
          have hpa := ha' p hp0 hpl (by omega) hpp
          by_cases e1 : c = k
          · subst e1
            rw [getD_set_eq hk]
            exact hpa
          · rw [getD_set_ne e1]
            have := ha' c h1 h2 e1 (by omega)
            rw [h3] at this
            exact le_trans' hpa this
      obtain ⟨q1, q2⟩ := ih p hp (vs.set k (vs.getD p .none)) (by rw [hlen]; exact hpl) inv
      exact ⟨q1, q2.trans (swap_perm hk hpl (by omega))⟩
    · rename_i hc
      refine ⟨?_, List.Perm.refl _⟩
      intro i h1 h2
      rw [List.length_set] at h2
      by_cases e : i = k
      · subst e
        rw [getD_set_eq hk, getD_set_ne (by omega)]
        cases q : lexlt (key x) (key (vs.getD ((i - 1) / 2) .none)) with
        | false => rfl
        | true => exact absurd ⟨h1, q⟩ hc
      · exact ha i h1 h2 e
noncomputable def SuInv (key : Value → Int × Int) (vs : List Value) (k : Nat) : Prop :=
  (∀ i, 0 < i → i < vs.length → i ≠ k → (i - 1) / 2 ≠ k → lexlt (key (vs.getD i .none)) (key (vs.getD ((i - 1) / 2) .none)) = false) ∧
  (0 < k → ∀ c, 0 < c → c < vs.length → (c - 1) / 2 = k → lexlt (key (vs.getD c .none)) (key (vs.getD ((k - 1) / 2) .none)) = false)
theorem suC_par (key : Value → Int × Int) (vs : List Value) (k : Nat) : (suC key vs k - 1) / 2 = k := by unfold suC; split <;> omega
theorem suC_min {key : Value → Int × Int} {vs : List Value} {k i : Nat} (hi : i < vs.length) (h0 : 0 < i) (hp : (i - 1) / 2 = k) : lexlt (key (vs.getD i .none)) (key (vs.getD (suC key vs k) .none)) = false := by
  have hi' : i = 2 * k + 1 ∨ i = 2 * k + 2 := by omega
  unfold suC
  split
  · rename_i h
    rcases hi' with rfl | rfl
    · exact h.2
    · exact le_refl' _
  · rename_i h
    rcases hi' with rfl | rfl
    · exact le_refl' _
    · cases q : lexlt (key (vs.getD (2 * k + 1) .none)) (key (vs.getD (2 * k + 2) .none)) with
      | true => exact le_of_lt' q
      | false => exact absurd ⟨hi, q⟩ h
theorem suL_law (key : Value → Int × Int) (x : Value) : ∀ (n : Nat) (vs : List Value) (k : Nat), vs.length - k = n → k < vs.length → SuInv key vs k → IsHeap key (suL key x vs k) ∧ (suL key x vs k).Perm (vs.set k x) := by
  intro n
  induction n using Nat.strongRecOn with
  | ind n ih =>
    intro vs k hn hk ⟨ha, hb⟩
    rw [suL]
    split
    · rename_i hc
      have hcl := suC_lt (key := key) hc
      have hcg := suC_gt key vs k
      have hcp := suC_par key vs k
      have hmin : ∀ i, i < vs.length → 0 < i → (i - 1) / 2 = k → lexlt (key (vs.getD i .none)) (key (vs.getD (suC key vs k) .none)) = false := fun i a b c => suC_min a b c
      generalize suC key vs k = c at *
      have hlen : (vs.set k (vs.getD c .none)).length = vs.length := List.length_set
      have inv : SuInv key (vs.set k (vs.getD c .none)) c := by
        constructor
        · intro i h1 h2 h3 h4
          rw [hlen] at h2
          by_cases e1 : i = k
          · subst e1
            rw [getD_set_eq hk, getD_set_ne (by omega)]
            exact hb h1 c (by omega) hcl hcp
          · rw [getD_set_ne e1]
            by_cases e2 : (i - 1) / 2 = k
            · rw [e2, getD_set_eq hk]
              exact hmin i h2 h1 e2
            · rw [getD_set_ne e2]
              exact ha i h1 h2 e1 e2
        · intro _ d h1 h2 h3
          rw [hlen] at h2
          rw [hcp, getD_set_eq hk, getD_set_ne (by omega)]
          have := ha d h1 h2 (by omega) (by omega)
          rwa [h3] at this
      obtain ⟨q1, q2⟩ := ih (vs.length - c) (by omega) (vs.set k (vs.getD c .none)) c (by rw [hlen]) (by rw [hlen]; exact hcl) inv
      exact ⟨q1, q2.trans (swap_perm hk hcl (by omega))⟩
    · rename_i hc
      have hlen : (vs.set k x).length = vs.length := List.length_set
      have inv : SdInv key x (vs.set k x) k := by
        constructor
        · intro i h1 h2 h3
          rw [hlen] at h2
          rw [List.set_set, getD_set_ne h3, getD_set_ne (by omega)]
          exact ha i h1 h2 h3 (by omega)
        · intro _ c h1 h2 h3
          rw [hlen] at h2
          omega
      obtain ⟨q1, q2⟩ := sdL_law key x (vs.set k x) k (by rw [hlen]; exact hk) inv
      refine ⟨q1, ?_⟩
      rwa [List.set_set] at q2
theorem push_law {key : Value → Int × Int} {vs : List Value} {x : Value} (h : IsHeap key vs) : IsHeap key (sdL key x (vs ++ [x]) vs.length) ∧ (sdL key x (vs ++ [x]) vs.length).Perm (x :: vs) := by
  have e : (vs ++ [x]).set vs.length x = vs ++ [x] := by simp
  have g : ∀ i, i < vs.length → (vs ++ [x]).getD i .none = vs.getD i .none := fun i hi => by simp [List.getD_eq_getElem?_getD, List.getElem?_append_left hi]
  have inv : SdInv key x (vs ++ [x]) vs.length := by
    constructor
    · intro i h1 h2 h3
      simp only [List.length_append, List.length_cons, List.length_nil] at h2
      rw [e, g i (by omega), g _ (by omega)]
      exact h i h1 (by omega)
    · intro _ c h1 h2 h3
      simp only [List.length_append, List.length_cons, List.length_nil] at h2
      omega
  obtain ⟨q1, q2⟩ := sdL_law key x (vs ++ [x]) vs.length (by simp) inv
  rw [e] at q2
  exact ⟨q1, q2.trans List.perm_append_comm⟩
theorem root_min {key : Value → Int × Int} {vs : List Value} (h : IsHeap key vs) : ∀ i, i < vs.length → lexlt (key (vs.getD i .none)) (key (vs.getD 0 .none)) = false := by
  intro i
  induction i using Nat.strongRecOn with
  | ind i ih =>
    intro hi
    by_cases e : i = 0
    · subst e; exact le_refl' _
    · exact le_trans' (ih ((i - 1) / 2) (by omega) (by omega)) (h i (by omega) hi)
theorem pop_law {key : Value → Int × Int} {us : List Value} {y : Value} (h : IsHeap key (us ++ [y])) :
    IsHeap key (if us = [] then [] else suL key y (us.set 0 y) 0) ∧ ((if us = [] then y else us.getD 0 .none) :: (if us = [] then [] else suL key y (us.set 0 y) 0)).Perm (us ++ [y]) ∧
      ∀ v ∈ us ++ [y], lexlt (key v) (key (if us = [] then y else us.getD 0 .none)) = false := by
  cases us with
  | nil =>
    refine ⟨?_, ?_, ?_⟩
    · intro i _ hi; simp at hi
    · simp
    · intro v hv
      simp at hv
      subst hv
      simp [le_refl']
  | cons a r =>
    have hne : (a :: r) ≠ [] := by simp
    rw [if_neg hne, if_neg hne]
    have g : ∀ i, i < (a :: r).length → ((a :: r) ++ [y]).getD i .none = (a :: r).getD i .none := fun i hi => by rw [List.getD_eq_getElem?_getD, List.getD_eq_getElem?_getD, List.getElem?_append_left hi]
    have inv : SuInv key ((a :: r).set 0 y) 0 := by
      constructor
      · intro i h1 h2 h3 h4
        rw [List.length_set] at h2
        rw [getD_set_ne h3, getD_set_ne h4]
        have := h i h1 (by rw [List.length_append]; omega)
        rwa [g i h2, g _ (by omega)] at this
      · intro h0; exact absurd h0 (Nat.lt_irrefl _)
    obtain ⟨q1, q2⟩ := suL_law key y _ ((a :: r).set 0 y) 0 rfl (by simp) inv
    refine ⟨q1, ?_, ?_⟩
    · rw [List.set_set] at q2
      have e : (a :: r).getD 0 .none = a := rfl
      rw [e]
      refine (List.Perm.cons a q2).trans ?_
      show (a :: (y :: r)).Perm ((a :: r) ++ [y])
      exact (List.Perm.cons a (List.perm_append_comm (l₁ := [y]) (l₂ := r)))
    · intro v hv
      obtain ⟨i, hi, rfl⟩ := List.getElem_of_mem hv
      have := root_min h i hi
      rw [g 0 (by simp)] at this
      rwa [List.getD_eq_getElem?_getD, List.getElem?_eq_getElem hi] at this
/-- what comes off is the first of those in order -/
theorem pop_sorted {key : Value → Int × Int} {us : List Value} {y : Value} {k : Int × Int} {ks : List (Int × Int)} (h : IsHeap key (us ++ [y])) (hp : ((us ++ [y]).map key).Perm (k :: ks)) (hs : SortedK (k :: ks)) :
    key (if us = [] then y else us.getD 0 .none) = k ∧ ((if us = [] then [] else suL key y (us.set 0 y) 0).map key).Perm ks := by
  obtain ⟨_, h2, h3⟩ := pop_law h
  generalize hr : (if us = [] then y else us.getD 0 Value.none) = r at *
  generalize hw : (if us = [] then [] else suL key y (us.set 0 y) 0) = ws at *
  have hm : r ∈ us ++ [y] := h2.mem_iff.mp (List.mem_cons_self ..)
  have hk : k ∈ (us ++ [y]).map key := hp.mem_iff.mpr (List.mem_cons_self ..)
  obtain ⟨v, hv, rfl⟩ := List.mem_map.mp hk
  have hrk : key r ∈ key v :: ks := hp.mem_iff.mp (List.mem_map_of_mem hm)
  have e : key r = key v := by
    refine le_antisymm' ?_ (h3 v hv)
    rcases List.mem_cons.mp hrk with q | q
    · rw [q]; exact le_refl' _
    · exact (List.pairwise_cons.mp hs).1 _ q
  refine ⟨e, ?_⟩
  have h4 := (h2.map key).trans hp
  rw [List.map_cons, e] at h4
  exact (List.perm_cons _).mp h4
end Mine
end PartHeapLaw
section PartTaken
open PySem PySem.W PyProof.Rows PySem.Calls PySem.Spec PyProof.V
set_option maxHeartbeats 8000000
namespace Mine
theorem words_Taken : True := by
  w_top off
  k_with_none
  k_with "exec While Constant cons nil" => refine halt ?_
  k_with "call ref" => refine halt ?_
  k_with "call builtin:list.append" => refine halt ?_
  k_with "KswEnd" => refine halt ?_
  trivial
theorem Cmp.sub {w : World} {R R' : List (Addr × Obj)} {S : Value → Prop} {key : Value → Int × Int} (C : Cmp w R S key) (hs : ∀ p ∈ R, p ∈ R') : Cmp w R' S key where
  lt := fun hu hv N hun h => C.lt hu hv (fun p hp => N p (hs p hp)) hun h
theorem mem_r1 {α : Type} {a b c : α} {l X : List α} : ∀ q ∈ a :: (l ++ (b :: c :: X)), q ∈ b :: a :: c :: (l ++ X) :=
  shuf [a, b, c] [l, X] (Tr.at 1 (Tr.at 0 (Tr.at 2 (Tr.ap (Tr.ls 0) (Tr.ls 1))))) (Tr.at 0 (Tr.ap (Tr.ls 0) (Tr.at 1 (Tr.at 2 (Tr.ls 1))))) rfl rfl
theorem mem_r2 {α : Type} {t d i h : α} {l X : List α} : ∀ q ∈ t :: d :: i :: (l ++ (h :: X)), q ∈ d :: i :: (l ++ (h :: t :: X)) :=
  shuf [t, d, i, h] [l, X] (Tr.at 1 (Tr.at 2 (Tr.ap (Tr.ls 0) (Tr.at 3 (Tr.at 0 (Tr.ls 1)))))) (Tr.at 0 (Tr.at 1 (Tr.at 2 (Tr.ap (Tr.ls 0) (Tr.at 3 (Tr.ls 1)))))) rfl rfl
theorem mem_r3 {α : Type} {t d i h : α} {l X R : List α} : ∀ q ∈ h :: i :: t :: (l ++ ((d :: X) ++ R)), q ∈ t :: d :: i :: (l ++ (h :: (X ++ R))) :=
  shuf [t, d, i, h] [l, X, R] (Tr.at 0 (Tr.at 1 (Tr.at 2 (Tr.ap (Tr.ls 0) (Tr.at 3 (Tr.ap (Tr.ls 1) (Tr.ls 2))))))) (Tr.at 3 (Tr.at 2 (Tr.at 0 (Tr.ap (Tr.ls 0) (Tr.ap (Tr.at 1 (Tr.ls 1)) (Tr.ls 2)))))) rfl rfl
theorem mem_r4 {α : Type} {t d i h : α} {l X R : List α} : ∀ q ∈ t :: h :: i :: (l ++ ((d :: X) ++ R)), q ∈ t :: d :: i :: (l ++ (h :: (X ++ R))) :=
  shuf [t, d, i, h] [l, X, R] (Tr.at 0 (Tr.at 1 (Tr.at 2 (Tr.ap (Tr.ls 0) (Tr.at 3 (Tr.ap (Tr.ls 1) (Tr.ls 2))))))) (Tr.at 0 (Tr.at 3 (Tr.at 2 (Tr.ap (Tr.ls 0) (Tr.ap (Tr.at 1 (Tr.ls 1)) (Tr.ls 2)))))) rfl rfl
theorem mem_r5 {α : Type} {t i h : α} {l R : List α} : ∀ q ∈ h :: i :: t :: (l ++ ([] ++ R)), q ∈ t :: h :: i :: (l ++ R) :=
  shuf [t, i, h] [l, R] (Tr.at 0 (Tr.at 2 (Tr.at 1 (Tr.ap (Tr.ls 0) (Tr.ls 1))))) (Tr.at 2 (Tr.at 1 (Tr.at 0 (Tr.ap (Tr.ls 0) (Tr.ap Tr.nil (Tr.ls 1)))))) rfl rfl
theorem mem_r6 {α : Type} {x y t i h : α} {l X : List α} : ∀ q ∈ x :: h :: i :: (l ++ X), q ∈ x :: y :: h :: i :: t :: (l ++ X) :=
  shuf [x, y, t, i, h] [l, X] (Tr.at 0 (Tr.at 1 (Tr.at 4 (Tr.at 3 (Tr.at 2 (Tr.ap (Tr.ls 0) (Tr.ls 1))))))) (Tr.at 0 (Tr.at 4 (Tr.at 3 (Tr.ap (Tr.ls 0) (Tr.ls 1))))) rfl rfl
theorem mem_r7 {α : Type} {t i h : α} {l X R : List α} : ∀ q ∈ i :: (l ++ R), q ∈ h :: i :: t :: (l ++ (X ++ R)) :=
  shuf [t, i, h] [l, X, R] (Tr.at 2 (Tr.at 1 (Tr.at 0 (Tr.ap (Tr.ls 0) (Tr.ap (Tr.ls 1) (Tr.ls 2)))))) (Tr.at 1 (Tr.ap (Tr.ls 0) (Tr.ls 2))) rfl rfl
/-- nothing else stands where the list of what was told stands -/
theorem off_told {T D H ig : Nat} {oI oD oH : Obj} {l X R : List (Addr × Obj)} {oH0 oI0 : Obj} (hT : ∀ q ∈ (H, oH0) :: (ig, oI0) :: (l ++ R), q.1 < T) (hX : ∀ q ∈ X, T < q.1) (hD : T < D) : ∀ q ∈ (D, oD) :: (ig, oI) :: (l ++ ((H, oH) :: (X ++ R))), q.1 ≠ T := by
  have a1 := hT (H, oH0) (by simp)
  have a2 := hT (ig, oI0) (by simp)
  intro q hq
  have hq' : q = (D, oD) ∨ q = (ig, oI) ∨ q ∈ l ∨ q = (H, oH) ∨ q ∈ X ∨ q ∈ R := by simpa [or_assoc] using hq
  rcases hq' with rfl | rfl | h | rfl | h | h
  · exact Nat.ne_of_gt hD
  · exact Nat.ne_of_lt a2
  · exact Nat.ne_of_lt (hT q (by simp [h]))
  · exact Nat.ne_of_lt a1
  · exact Nat.ne_of_gt (hX q h)
  · exact Nat.ne_of_lt (hT q (by simp [h]))
structure TkSt where
  hs : List Value
  nH : Nat
  ts : List Value
  nT : Nat
  X : List (Addr × Obj)
  rem : List (Int × Int)
  acc : List Dat
section
theorem taken_call {w : World} {A₀ A : Around} {base h₀ : Heap} {env : Env} {p : Program} {loose : List Str} {mean : ExcName → Option Value} {mg mb : Str → Option Value} {L : Addr} {m : Str → Option Value} {s : Shared} {Q : Value → Shared → Prop} {E : Value → Shared → Prop}
   {H rd dx sm dl ig : Addr} {h1 h2 h3 : Int} {t1 t2 t3 : Tok} {nd nl nH : Nat} {b : Bool} {oI : Obj} {kvs : List (Str × Value)} {Dt : List (PyData × PyData)} {R Rp : List (Addr × Obj)} {hs : List Value} {f : Nat → Option Int} {rem : List (Int × Int)}
   (B : Below A₀ base [] h₀) (X : (hd.heap_39 w.params).In h₀) (T : Top p loose mean mg mb h₀) (XB : (hd.heap_39 w.params).In base) (TB : Top p loose mean mg mb base) (hA : A.frames = some [env]) (hf : env.frame = some L) (hk : env.scope.kind = .function) (hh : A.handled = none)
   (F : Fr h₀ L s.heap m)
   (N : News h₀ L s.heap ((H, listOf hs.toArray nH) :: (ig, oI) :: (rdLed rd dx sm dl ig h1 h2 h3 t1 t2 t3 nd nl b ++ R)))
   (hI : oI.IsDictOf (PySem.strKind PySem.Challenge.rw_oh0014_01.row.prog w) kvs) (hF : FlatPairs PyData.str kvs Dt) (hig : (ig == sysModules) = false) (hz : Dt.length < 900) (hD : Dic Dt f)
   (hRH : ∀ p ∈ (ig, oI) :: (rdLed rd dx sm dl ig h1 h2 h3 t1 t2 t3 nd nl b ++ R), p.1 ≠ H) (hRi : ∀ p ∈ rdLed rd dx sm dl ig h1 h2 h3 t1 t2 t3 nd nl b ++ R, p.1 ≠ ig)
   (hRp : ∀ q ∈ Rp, q ∈ R) (hS : ∀ v ∈ hs, ∃ k, PairAt Rp v k) (hH : IsHeap (pairKey Rp) hs) (hP : (hs.map (pairKey Rp)).Perm rem) (hSo : SortedK rem) (hl : hs.length < 800)
   (hj : ∀ k ∈ rem, ∃ j : Nat, k.2 = (j : Int) ∧ j < 24 ∧ (f j = some 1 ∨ f j = none))
   (hdp : A.depth + 20 < recursionLimit) (hun : A.units + 150 < cLine)
   (hQ : ∀ h' tk T hs' nH' oI' kvs' Dt' X ts nT, Fr h₀ L h' m → News h₀ L h' ((T, listOf ts.toArray nT) :: (H, listOf hs'.toArray nH') :: (ig, oI') :: (rdLed rd dx sm dl ig h1 h2 h3 t1 t2 t3 nd nl b ++ (X ++ R))) →
      oI'.IsDictOf (PySem.strKind PySem.Challenge.rw_oh0014_01.row.prog w) kvs' → FlatPairs PyData.str kvs' Dt' → Dt'.length ≤ Dt.length + 1 → Dic Dt' (afterOf f rem) →
      (∀ q ∈ (H, listOf hs.toArray nH) :: (ig, oI) :: (rdLed rd dx sm dl ig h1 h2 h3 t1 t2 t3 nd nl b ++ R), q.1 < T) → (∀ q ∈ X, T < q.1 ∨ (∀ q' ∈ (H, listOf hs.toArray nH) :: (ig, oI) :: (rdLed rd dx sm dl ig h1 h2 h3 t1 t2 t3 nd nl b ++ R), q'.1 < q.1) ∧ q.1 ≠ T) →
      (∀ v ∈ hs', v ∈ hs ∧ ∃ k, PairAt Rp v k) → IsHeap (pairKey Rp) hs' → (hs'.map (pairKey Rp)).Perm (restOf f rem) → DatAll (X ++ Rp) ts (rowOf f rem) → Q (.ref T) { s with heap := h', toks := tk }) :
   wpAny (model PySem.Challenge.rw_oh0014_01.row.prog w) A (call (.ref 123) [.ref H, .ref rd]) Q E s := by
  refine wpAny_call ?_
  k_dflt (refine' code_try (binds := [(Str.ofString "heap", .ref H), (Str.ofString "reader", .ref rd)]) B F X N T hA hf hk ?k6 ?k7 ?k8 ?k9 ?kB ?_ ?c2 ?c3 ?c4 ?c5; (case k6 => k_is); (case k7 => k_is); (case k8 => omega); (case k9 => exact BindsTo.of_eq rfl); (case c5 => decide); (case kB => exact locs rfl); (case c2 => exact rfl); (case c3 => exact rfl); (case c4 => exact rfl); k_whole; intro g' L' h' FG' F' N' B' X' T' D'; (try dsimp only); (try k_fold))
  clear X T
  k_steps
  change wpAny _ _ _ _ _ _
  rename_i T _ hT1 _ hT2 hT3
  have hTlt : ∀ q ∈ (H, listOf hs.toArray nH) :: (ig, oI) :: (rdLed rd dx sm dl ig h1 h2 h3 t1 t2 t3 nd nl b ++ R), q.1 < T := by
    intro q hq
    rcases List.mem_cons.mp hq with rfl | hq
    · exact hT1.1
    rcases List.mem_cons.mp hq with rfl | hq
    · exact hT1.2.1
    exact allLt_mem hT1.2.2 q hq
  refine ksw_while (σ := TkSt) (fun c => (H, listOf c.hs.toArray c.nH) :: (ig, oI) :: (T, listOf c.ts.toArray c.nT) :: (rdLed rd dx sm dl ig h1 h2 h3 t1 t2 t3 nd nl b ++ (c.X ++ R))) (fun _ => []) (fun _ => True) [Str.ofString "pair", Str.ofString "answer"]
    (fun c => (∀ v ∈ c.hs, v ∈ hs ∧ ∃ k, PairAt Rp v k) ∧ IsHeap (pairKey Rp) c.hs ∧ (c.hs.map (pairKey Rp)).Perm c.rem ∧ SortedK c.rem ∧ c.ts.length + c.hs.length < 800 ∧ (∀ k ∈ c.rem, k ∈ rem) ∧ DatAll (c.X ++ Rp) c.ts c.acc ∧
      c.acc ++ rowOf f c.rem = rowOf f rem ∧ restOf f c.rem = restOf f rem ∧ afterOf f c.rem = afterOf f rem ∧ ∀ q ∈ c.X, T < q.1) (fun c => c.hs.length) ⟨hs, nH, [], 0, [], rem, []⟩ (by k_asm) ?hN trivial (by simp) ?hP ?_
  case hN => exact fun q hq => hT3 q (mem_r5 q hq)
  case hP => exact ⟨fun v hv => ⟨hv, hS v hv⟩, hH, hP, hSo, by simpa using hl, fun k hk => hk, .nil, rfl, rfl, rfl, fun q hq => nomatch hq⟩
  rintro ⟨hs', nH', ts, nT, X, rem', acc⟩ u g1 tk1 - ⟨cS, cH, cP, cSo, cl, cr, cD, c1, c2, c3, cX⟩ F1 N1
  dsimp only at cS cH cP cSo cl cr cD c1 c2 c3 cX F1 N1 ⊢
  clear hT2 hT3
  repeat (first | (fail_if_success (with_reducible show wpAny _ _ (execs _ _) _ _ _)); (first | (k_unfold; (try dsimp only)) | walk1 | (dsimp only; walk1)))
  refine hideX ?_
  intro QQ hqk
  rcases List.eq_nil_or_concat hs' with rfl | ⟨us, y, rfl⟩
  · have hr0 : rem' = [] := by
      cases rem' with
      | nil => rfl
      | cons a r => exact absurd cP.length_eq (by simp)
    subst hr0
    k_steps
    change wpAny _ _ _ _ _ _
    refine heappop_empty (env := envX _ _ _ _ _ _) (outer := [env]) B' X' T' (by show A.frames.map _ = _; rw [hA]; rfl) rfl rfl hh F1 N1 (dle1 hdp) (ule3 hun) ?_
    intro e G h2' tk2 FG RG UG
    dsimp only
    k_dflt (refine' caught_SN0 (g₀ := g') (T' := "IndexError") RG FG B' UG XB TB D' KtsTurn.refl ?c1 ?c2 ?c3 ?c4 ?c5 ?c6 ?_; (case c1 => k_is); (case c2 => exact PyProof.Rows.Boot.«IndexError»); (case c3 => decide); (case c4 => exact PySem.F.isExc_IndexError); (case c5 => exact PySem.F.notTuple_IndexError); (case c6 => rw [isSubtype_type]; kernel_rfl))
    intro h3' g3 T3 F3 N3 B3 X3 Tp3 D3
    k_steps
    rename_i l2 hp1 F5 N5 l5 hp2 F6 N6
    subst hqk
    (try dsimp only)
    (try k_steps)
    refine leaveS0_ F6 N6 T3 ?_
    intro kF kN
    dsimp only at kN
    have hlt : ∀ q ∈ (H, listOf #[] nH') :: (ig, oI) :: (T, listOf ts.toArray nT) :: (rdLed rd dx sm dl ig h1 h2 h3 t1 t2 t3 nd nl b ++ (X ++ R)), q.1 < hp1.objs.size := fun q hq => Heap.lt_size (N5 q (List.mem_cons_of_mem _ hq)).1
    refine hQ _ _ _ [] nH' oI kvs Dt X _ 0 kF (fun q hq => kN q (mem_r6 (l := rdLed rd dx sm dl ig h1 h2 h3 t1 t2 t3 nd nl b) q hq)) hI hF (by omega) ?_ ?_ ?_ (fun v hv => nomatch hv) cH ?_ ?_
    · rw [← c3]; exact hD
    · intro q hq
      rcases List.mem_cons.mp hq with rfl | hq
      · exact hlt (H, listOf #[] nH') (List.mem_cons_self ..)
      · exact hlt q (mem_r7 q hq)
    · intro q hq
      refine .inr ⟨fun q' hq' => Nat.lt_trans (hTlt q' hq') (cX q hq), Nat.ne_of_lt (hlt q (by simp [hq]))⟩
    · rw [← c2]; exact .nil
    · rw [← c1]; exact DatAll.append cD (DatAll.one (.str _ _))
  · rw [List.concat_eq_append] at *
    k_steps
    change wpAny _ _ _ _ _ _
    have cl' : us.length < 800 := by simp at cl; omega
    refine heappop_call (S := fun v => ∃ k, PairAt Rp v k) (key := pairKey Rp) (Site.deeper B' X' T' hh) F1 N1 (dle1 hdp) (ule3 hun) ?hRH (by omega) ((cmp_pairs Rp).sub ?hsub) (fun v hv => (cS v (by simp [hv])).2) (cS y (by simp)).2 ?_
    case hRH =>
      intro q hq
      have hq' : q = (ig, oI) ∨ q = (T, listOf ts.toArray nT) ∨ q ∈ rdLed rd dx sm dl ig h1 h2 h3 t1 t2 t3 nd nl b ++ R ∨ q ∈ X := by
        simp only [List.mem_cons, List.mem_append] at hq ⊢
        rcases hq with h | h | h | h | h
        · exact .inl h
        · exact .inr (.inl h)
        · exact .inr (.inr (.inl (.inl h)))
        · exact .inr (.inr (.inr h))
        · exact .inr (.inr (.inl (.inr h)))
      rcases hq' with rfl | rfl | h | h
      · exact hRH _ (List.mem_cons_self ..)
      · exact Nat.ne_of_gt (hTlt _ (List.mem_cons_self ..))
      · exact hRH q (List.mem_cons_of_mem _ h)
      · exact Nat.ne_of_gt (Nat.lt_trans (hTlt _ (List.mem_cons_self ..)) (cX q h))
    case hsub => intro q hq; simp [hRp q hq]
    intro h2' tk2 F2 N2
    obtain ⟨k0, rem'', rfl⟩ : ∃ k0 rem'', rem' = k0 :: rem'' := by
      cases rem' with
      | nil => exact absurd cP.length_eq (by simp)
      | cons a r => exact ⟨a, r, rfl⟩
    obtain ⟨e1, e2⟩ := pop_sorted cH cP cSo
    obtain ⟨q1, q2, q3⟩ := pop_law cH
    generalize hr : (if us = [] then y else us.getD 0 Value.none) = r at *
    generalize hw : (if us = [] then [] else suL (pairKey Rp) y (us.set 0 y) 0) = ws at *
    as_aux_lemma =>
    have hrS : ∃ k, PairAt Rp r k := (cS r (q2.mem_iff.mp (List.mem_cons_self ..))).2
    obtain ⟨k, hrk⟩ := hrS
    have ek : k = k0 := by
      rw [← e1]
      exact (pairKey_is (fun q hq => N2 q (by simp [hRp q hq])) hrk).symm
    subst ek
    obtain ⟨a, ta, ua, na, rfl, ham⟩ := hrk
    obtain ⟨j, ej, hj24, hfj⟩ := hj k (cr _ (List.mem_cons_self ..))
    rw [ej] at ham
    have ham' : (a, tupOf [Value.int k.1 ta, Value.int (j : Int) ua] na) ∈ X ++ R := by simp [hRp _ ham]
    k_steps
    change wpAny _ _ _ _ _ _
    refine name_call (Site.deeper B' X' T' hh) (by k_asm) (by k_asm) (by omega) (dle1 hdp) (ule3 hun) ?_
    intro h3' tk3 tn F3 N3
    k_steps
    change wpAny _ _ _ _ _ _
    have N3' : News g' L' h3' ((ig, oI) :: (rdLed rd dx sm dl ig h1 h2 h3 t1 t2 t3 nd nl b ++ ((H, listOf ws.toArray (nH' + 1)) :: (T, listOf ts.toArray nT) :: (X ++ R)))) := fun q hq => N3 q (mem_r1 q hq)
    rcases hfj with hfj | hfj
    · refine names_found (i := 1) (Site.deeper B' X' T' hh) F3 N3' hI hF hig ?hRi (dle1 hdp) (ule3 hun) (by rw [hD j hj24, hfj]; rfl) ?_
      case hRi =>
        intro q hq
        have hq' : q ∈ rdLed rd dx sm dl ig h1 h2 h3 t1 t2 t3 nd nl b ++ R ∨ q = (H, listOf ws.toArray (nH' + 1)) ∨ q = (T, listOf ts.toArray nT) ∨ q ∈ X := by
          simp only [List.mem_cons, List.mem_append] at hq ⊢
          rcases hq with h | h | h | h | h
          · exact .inl (.inl h)
          · exact .inr (.inl h)
          · exact .inr (.inr (.inl h))
          · exact .inr (.inr (.inr h))
          · exact .inl (.inr h)
        have hH1 := hRH _ (List.mem_cons_self ..)
        have hI1 := hTlt (ig, oI) (by simp)
        rcases hq' with h | rfl | rfl | h
        · exact hRi q h
        · exact Ne.symm hH1
        · exact Nat.ne_of_gt hI1
        · exact Nat.ne_of_gt (Nat.lt_trans hI1 (cX q h))
      intro h4' tk4 ta4 F4 N4
      k_steps
      change wpAny _ _ _ _ _ _
      rename_i D' _ F5 N5 l5
      have hTD : T < D' := allLt_mem l5.2 (T, listOf ts.toArray nT) (by simp)
      refine app_n (news := (T, listOf ts.toArray nT) :: _) F5 (fun q hq => N5 q (mem_r2 q hq)) (Upd.head (off_told hTlt cX hTD)) (by omega) ?_
      intro h6' F6 N6
      have ebk : bk f k = true := by unfold bk; rw [ej, Int.toNat_natCast, hfj]; rfl
      have hwl : ws.length = us.length := by have := q2.length_eq; simp at this; omega
      have hD5 : DatAll ((D', tupOf [.ref a, .int 1 ta4, .bool true] 0) :: X ++ Rp) (ts ++ [.ref D']) (acc ++ [tri k 1]) := by
        refine DatAll.append (DatAll.mono (fun q hq => by simp only [List.cons_append]; exact List.mem_cons_of_mem _ hq) cD) (DatAll.one (DatIn.tuple (vs := [.ref a, .int 1 ta4, .bool true]) (n := 0) (by simp) ?_))
        refine .cons (DatIn.pair ⟨a, ta, ua, na, rfl, ?_⟩) (.cons (.int _ _) (.cons (.bool _) .nil))
        rw [ej]
        simp [ham]
      k_steps
      subst hqk
      (try dsimp only)
      (try k_steps)
      refine ksw_end ⟨ws, nH' + 1, ts ++ [.ref D'], nT + 1, (D', tupOf [.ref a, .int 1 ta4, .bool true] 0) :: X, rem'', acc ++ [tri k 1]⟩ (by assumption) N6 ?_ trivial (by simp) ?_ ⟨?_, q1, e2, ?_, ?_, ?_, hD5, ?_, ?_, ?_, ?_⟩ ?_
      · exact mem_r3 (l := rdLed rd dx sm dl ig h1 h2 h3 t1 t2 t3 nd nl b)
      · (intro z h2 h3; (simp only [List.forall_mem_cons, List.not_mem_nil, false_implies, implies_true, and_true, ne_eq] at h2); (simp only [List.contains_cons, List.contains_nil, Bool.or_false, Bool.or_eq_false_iff, beq_eq_false_iff_ne, ne_eq] at h3); simp [kstB, h2, h3])
      · exact fun v hv => cS v (q2.mem_iff.mp (List.mem_cons_of_mem _ hv))
      · exact (List.pairwise_cons.mp cSo).2
      · simp only [List.length_append, List.length_cons, List.length_nil] at cl ⊢; omega
      · exact fun k' hk' => cr k' (List.mem_cons_of_mem _ hk')
      · rw [← c1]; simp [rowOf, ebk]
      · rw [← c2]; simp [restOf, ebk]
      · rw [← c3]; simp [afterOf, ebk]
      · intro q hq
        rcases List.mem_cons.mp hq with rfl | hq
        · exact hTD
        · exact cX q hq
      · simp only [List.length_append, List.length_cons, List.length_nil]; omega
    · refine names_path (Site.deeper B' X' T' hh) F3 N3' hI hF hig ?hRi2 (dle1 hdp) (ule3 hun) (by rw [hD j hj24, hfj]; rfl) (by omega) ?_
      case hRi2 =>
        intro q hq
        have hq' : q ∈ rdLed rd dx sm dl ig h1 h2 h3 t1 t2 t3 nd nl b ++ R ∨ q = (H, listOf ws.toArray (nH' + 1)) ∨ q = (T, listOf ts.toArray nT) ∨ q ∈ X := by
          simp only [List.mem_cons, List.mem_append] at hq ⊢
          rcases hq with h | h | h | h | h
          · exact .inl (.inl h)
          · exact .inr (.inl h)
          · exact .inr (.inr (.inl h))
          · exact .inr (.inr (.inr h))
          · exact .inl (.inr h)
        have hH1 := hRH _ (List.mem_cons_self ..)
        have hI1 := hTlt (ig, oI) (by simp)
        rcases hq' with h | rfl | rfl | h
        · exact hRi q h
        · exact Ne.symm hH1
        · exact Nat.ne_of_gt hI1
        · exact Nat.ne_of_gt (Nat.lt_trans hI1 (cX q h))
      intro h4' tk4 ta4 oI' kvs' F4 N4 hI4 hF4
      k_steps
      change wpAny _ _ _ _ _ _
      rename_i D' _ F5 N5 l5
      have hTD : T < D' := allLt_mem l5.2 (T, listOf ts.toArray nT) (by simp)
      refine app_n (news := (T, listOf ts.toArray nT) :: _) F5 (fun q hq => N5 q (mem_r2 q hq)) (Upd.head (off_told hTlt cX hTD)) (by omega) ?_
      intro h6' F6 N6
      have ebk : bk f k = false := by unfold bk; rw [ej, Int.toNat_natCast, hfj]; rfl
      have hwl : ws.length = us.length := by have := q2.length_eq; simp at this; omega
      have hD5 : DatAll ((D', tupOf [.ref a, .int 0 ta4, .bool true] 0) :: X ++ Rp) (ts ++ [.ref D']) (acc ++ [tri k 0]) := by
        refine DatAll.append (DatAll.mono (fun q hq => by simp only [List.cons_append]; exact List.mem_cons_of_mem _ hq) cD) (DatAll.one (DatIn.tuple (vs := [.ref a, .int 0 ta4, .bool true]) (n := 0) (by simp) ?_))
        refine .cons (DatIn.pair ⟨a, ta, ua, na, rfl, ?_⟩) (.cons (.int _ _) (.cons (.bool _) .nil))
        rw [ej]
        simp [ham]
      k_steps
      subst hqk
      (try dsimp only)
      (try k_steps)
      refine leaveS0_ (by assumption) N6 KtsTurn.refl ?_
      intro kF kN
      refine hQ _ _ T ws (nH' + 1) oI' kvs' _ ((D', tupOf [.ref a, .int 0 ta4, .bool true] 0) :: X) _ _ kF (fun q hq => kN q (mem_r4 (l := rdLed rd dx sm dl ig h1 h2 h3 t1 t2 t3 nd nl b) q hq)) hI4 hF4 (putD_length_le ..) ?_ hTlt ?_ ?_ q1 ?_ ?_
      · rw [← c3]
        simp only [afterOf, ebk, Bool.false_eq_true, if_false, ej, Int.toNat_natCast]
        exact hD.put hj24 hfj
      · intro q hq
        rcases List.mem_cons.mp hq with rfl | hq
        · exact .inl hTD
        · exact .inl (cX q hq)
      · exact fun v hv => cS v (q2.mem_iff.mp (List.mem_cons_of_mem _ hv))
      · rw [← c2]; simpa [restOf, ebk] using e2
      · have e : acc ++ [tri k 0] = rowOf f rem := by rw [← c1]; simp [rowOf, ebk]
        rw [← e]; exact hD5
end
end Mine
end PartTaken
section PartTree
open PySem PySem.W PyProof.Rows
namespace Mine
/-- a tree of questions, run by an order of which it asks only below n -/
noncomputable def Rn {α : Type} (n : Nat) (lt : Nat → Nat → Bool) (P : α → Prop) : KasT α → Prop
  | .ret a => P a
  | .ask i j k => i < n ∧ j < n ∧ Rn n lt P (k (lt i j))
theorem Rn.bind {α β : Type} {n : Nat} {lt : Nat → Nat → Bool} {P : α → Prop} {P' : β → Prop} {f : α → KasT β} : ∀ {t : KasT α}, Rn n lt P t → (∀ a, P a → Rn n lt P' (f a)) → Rn n lt P' (t.bind f)
  | .ret _, h, k => k _ h
  | .ask _ _ _, h, k => ⟨h.1, h.2.1, Rn.bind h.2.2 k⟩
theorem Rn.mono {α : Type} {n : Nat} {lt : Nat → Nat → Bool} {P P' : α → Prop} : ∀ {t : KasT α}, Rn n lt P t → (∀ a, P a → P' a) → Rn n lt P' t
  | .ret _, h, k => k _ h
  | .ask _ _ _, h, k => ⟨h.1, h.2.1, Rn.mono h.2.2 k⟩
theorem Rn.wp {α : Type} {n : Nat} {lt : Nat → Nat → Bool} {P : α → Prop} {cmp : Nat → Nat → (Bool → Shared → Prop) → Shared → Prop} {St : Shared → Prop} {Q : α → Shared → Prop}
    (hc : ∀ i j, i < n → j < n → ∀ (C : Bool → Shared → Prop) s, St s → (∀ s', St s' → C (lt i j) s') → cmp i j C s) (hq : ∀ a s, P a → St s → Q a s) : ∀ {t : KasT α}, Rn n lt P t → ∀ s, St s → t.kasWp cmp Q s
  | .ret _, h, s, hs => hq _ s h hs
  | .ask i j k, h, s, hs => hc i j h.1 h.2.1 _ s hs fun s' hs' => Rn.wp hc hq h.2.2 s' hs'
section
variable {n : Nat} {key : Nat → Int × Int}
noncomputable abbrev ltk (key : Nat → Int × Int) (i j : Nat) : Bool := lexlt (key i) (key j)
theorem lt_of_lt_of_le {a b c : Int × Int} (h1 : lexlt a b = true) (h2 : lexlt c b = false) : lexlt a c = true := by rw [lexlt_iff] at *; rw [lexlt_false] at h2; omega
theorem lt_of_not {a b : Int × Int} (h : lexlt a b = false) (hne : a ≠ b) : lexlt b a = true := by
  rw [lexlt_iff]; rw [lexlt_false] at h
  have : ¬ (a.1 = b.1 ∧ a.2 = b.2) := fun e => hne (Prod.ext e.1 e.2)
  omega
structure PN (n : Nat) (key : Nat → Int × Int) (p : Array Nat) : Prop where
  perm : p.toList.Perm (List.range n)
  inj : ∀ i < n, ∀ j < n, key i = key j → i = j
theorem PN.size {p : Array Nat} (h : PN n key p) : p.size = n := by have := h.perm.length_eq; simpa using this
theorem PN.at {p : Array Nat} (h : PN n key p) (hn : 0 < n) (i : Nat) : p.getD i 0 < n := by
  rw [Array.getD_eq_getD_getElem?]
  cases e : p[i]? with
  | none => exact hn
  | some x =>
    have : x ∈ p.toList := by
      rw [Array.mem_toList_iff]; exact Array.mem_of_getElem? e
    exact List.mem_range.mp (h.perm.mem_iff.mp this)
theorem PN.ne {p : Array Nat} (h : PN n key p) {i j : Nat} (hi : i < n) (hj : j < n) (hij : i ≠ j) : key (p.getD i 0) ≠ key (p.getD j 0) := by
  intro e
  have h0 : 0 < n := by omega
  have e2 := h.inj _ (h.at h0 i) _ (h.at h0 j) e
  have hnd : p.toList.Nodup := h.perm.nodup_iff.mpr List.nodup_range
  have hs := h.size
  have gi : p.getD i 0 = p.toList[i]'(by simpa [hs] using hi) := by simp [Array.getD, hs, hi]
  have gj : p.getD j 0 = p.toList[j]'(by simpa [hs] using hj) := by simp [Array.getD, hs, hj]
  rw [gi, gj] at e2
  exact hij ((List.getElem_inj hnd).mp e2)
noncomputable def AscTo (key : Nat → Int × Int) (p : Array Nat) (m : Nat) : Prop := ∀ k, 1 ≤ k → k < m → ltk key (p.getD k 0) (p.getD (k - 1) 0) = false
noncomputable def DescTo (key : Nat → Int × Int) (p : Array Nat) (m : Nat) : Prop := ∀ k, 1 ≤ k → k < m → ltk key (p.getD k 0) (p.getD (k - 1) 0) = true
noncomputable def SoTo (key : Nat → Int × Int) (p : Array Nat) (m : Nat) : Prop := ∀ i j, i ≤ j → j < m → ltk key (p.getD j 0) (p.getD i 0) = false
theorem AscTo.so {p : Array Nat} {m : Nat} (h : AscTo key p m) : SoTo key p m := by
  intro i j hij
  induction j with
  | zero => intro _; have : i = 0 := by omega
            subst this; exact le_refl' _
  | succ j ih =>
    intro hj
    by_cases e : i = j + 1
    · subst e; exact le_refl' _
    · exact le_trans' (ih (by omega) (by omega)) (h (j + 1) (by omega) hj)
theorem asc_rn {p : Array Nat} (h : PN n key p) (hn : 0 < n) : ∀ (f m : Nat), 1 ≤ m → AscTo key p m → Rn n (ltk key) (fun r => m ≤ r ∧ r ≤ m + f ∧ AscTo key p r ∧ (r < m + f → ltk key (p.getD r 0) (p.getD (r - 1) 0) = true)) (kas_asc p f m)
  | 0, m, h1, ha => ⟨Nat.le_refl _, Nat.le_refl _, ha, fun h => absurd h (by omega)⟩
  | f + 1, m, h1, ha => by
    refine ⟨h.at hn _, h.at hn _, ?_⟩
    cases e : ltk key (p.getD m 0) (p.getD (m - 1) 0) with
    | true => exact ⟨Nat.le_refl _, by omega, ha, fun _ => e⟩
    | false =>
      have ha' : AscTo key p (m + 1) := by
        intro k hk1 hk2
        by_cases e2 : k = m
        · subst e2; exact e
        · exact ha k hk1 (by omega)
      refine Rn.mono (asc_rn h hn f (m + 1) (by omega) ha') fun r hr => ⟨by omega, by omega, hr.2.2.1, fun hlt => hr.2.2.2 (by omega)⟩
theorem desc_rn {p : Array Nat} (h : PN n key p) (hn : 0 < n) : ∀ (f m : Nat), 1 ≤ m → m + f ≤ n → DescTo key p m → Rn n (ltk key) (fun r => r.1 = p ∧ r.2.2 = 0 ∧ m ≤ r.2.1 ∧ r.2.1 ≤ m + f ∧ DescTo key p r.2.1) (kas_desc f p m 0)
  | 0, m, h1, hm, ha => ⟨rfl, rfl, Nat.le_refl _, Nat.le_refl _, ha⟩
  | f + 1, m, h1, hm, ha => by
    refine ⟨h.at hn _, h.at hn _, ?_⟩
    cases e : ltk key (p.getD m 0) (p.getD (m - 1) 0) with
    | true =>
      have ha' : DescTo key p (m + 1) := by
        intro k hk1 hk2
        by_cases e2 : k = m
        · subst e2; exact e
        · exact ha k hk1 (by omega)
      exact Rn.mono (desc_rn h hn f (m + 1) (by omega) (by omega) ha') fun r hr => ⟨hr.1, hr.2.1, by omega, by omega, hr.2.2.2.2⟩
    | false =>
      refine ⟨h.at hn _, h.at hn _, ?_⟩
      have e3 : ltk key (p.getD (m - 1) 0) (p.getD m 0) = true := lt_of_not e (h.ne (by omega) (by omega) (by omega))
      rw [e3]
      exact ⟨rfl, rfl, Nat.le_refl _, (by show m ≤ m + (f + 1); omega), ha⟩
theorem rev_get {p : Array Nat} {m : Nat} (hm : m ≤ p.size) (k : Nat) : (kas_rev p 0 m).getD k 0 = if k < m then p.getD (m - 1 - k) 0 else p.getD k 0 := by
  unfold kas_rev
  rw [Array.getD_eq_getD_getElem?, getElem?_mirror_all hm k]
  by_cases e : k < m
  · rw [if_pos ⟨Nat.zero_le _, e⟩, if_pos e, Array.getD_eq_getD_getElem?, Nat.zero_add]
  · rw [if_neg (by omega), if_neg e, Array.getD_eq_getD_getElem?]
theorem PN.rev {p : Array Nat} (h : PN n key p) (i j : Nat) : PN n key (kas_rev p i j) := ⟨((mirror_perm p i j _).toList).trans h.perm, h.inj⟩
theorem DescTo.rev {p : Array Nat} {m : Nat} (hm : m ≤ p.size) (h : DescTo key p m) : AscTo key (kas_rev p 0 m) m := by
  intro k h1 h2
  rw [rev_get hm, rev_get hm, if_pos h2, if_pos (by omega)]
  have := h (m - 1 - (k - 1)) (by omega) (by omega)
  have e : m - 1 - (k - 1) - 1 = m - 1 - k := by omega
  rw [e] at this
  exact le_of_lt' this
theorem count_rn {p : Array Nat} (h : PN n key p) (hn : 0 < n) : Rn n (ltk key) (fun r => PN n key r.2 ∧ 1 ≤ r.1 ∧ r.1 ≤ n ∧ AscTo key r.2 r.1) (kas_count n p) := by
  unfold kas_count
  refine Rn.bind (asc_rn h hn (n - 1) 1 (Nat.le_refl _) (fun k h1 h2 => absurd h2 (by omega))) ?_
  rintro m ⟨h1, h2, ha, hs⟩
  by_cases e : m = n
  · rw [if_pos (by simp [e])]
    exact ⟨h, h1, by omega, ha⟩
  · rw [if_neg (by simp [e])]
    by_cases e1 : m > 1
    · rw [if_pos e1]
      refine ⟨h.at hn _, h.at hn _, ?_⟩
      have e2 : ltk key (p.getD 0 0) (p.getD (m - 1) 0) = true := lt_of_not (ha.so 0 (m - 1) (by omega) (by omega)) (h.ne (by omega) (by omega) (by omega))
      rw [e2]
      exact ⟨h, h1, by omega, ha⟩
    · rw [if_neg e1]
      have em : m = 1 := by omega
      subst em
      unfold kas_descPart
      have hd : DescTo key p 2 := by
        intro k k1 k2
        have : k = 1 := by omega
        subst this
        exact hs (by omega)
      refine Rn.bind (desc_rn h hn (n - 2) 2 (by omega) (by omega) hd) ?_
      rintro ⟨p', r, q⟩ ⟨rfl, rfl, r1, r2, rd⟩
      dsimp only at r1 r2 rd ⊢
      rw [if_neg (by omega)]
      unfold kas_tail3
      have hs' := h.size
      refine Rn.bind (asc_rn (h.rev 0 r) hn (n - r) r (by omega) (rd.rev (by omega))) ?_
      rintro m ⟨m1, m2, ma, _⟩
      exact ⟨h.rev 0 r, by omega, by omega, ma⟩
theorem place_rn {p : Array Nat} {k : Nat} (h : PN n key p) (hn : 0 < n) (hs : SoTo key p k) : ∀ (f l r : Nat), l ≤ r → r ≤ k → r - l ≤ f → (∀ i, i < l → ltk key (p.getD k 0) (p.getD i 0) = false) → (∀ i, r ≤ i → i < k → ltk key (p.getD k 0) (p.getD i 0) = true) →
    Rn n (ltk key) (fun l' => l' ≤ k ∧ (∀ i, i < l' → ltk key (p.getD k 0) (p.getD i 0) = false) ∧ (∀ i, l' ≤ i → i < k → ltk key (p.getD k 0) (p.getD i 0) = true)) (kas_place p k f l r)
  | 0, l, r, h1, h2, h3, ha, hb => ⟨by omega, ha, fun i h => hb i (by omega)⟩
  | f + 1, l, r, h1, h2, h3, ha, hb => by
    unfold kas_place
    by_cases e : l ≥ r
    · rw [if_pos e]
      exact ⟨by omega, ha, fun i h => hb i (by omega)⟩
    · rw [if_neg e]
      refine ⟨h.at hn _, h.at hn _, ?_⟩
      cases e2 : ltk key (p.getD k 0) (p.getD ((l + r) / 2) 0) with
      | true =>
        refine place_rn h hn hs f l ((l + r) / 2) (by omega) (by omega) (by omega) ha fun i hi hk => ?_
        exact lt_of_lt_of_le e2 (hs _ _ hi hk)
      | false =>
        refine place_rn h hn hs f ((l + r) / 2 + 1) r (by omega) (by omega) (by omega) (fun i hi => ?_) hb
        exact le_trans' (hs i ((l + r) / 2) (by omega) (by omega)) e2
theorem bub_get {p : Array Nat} {k l : Nat} (hk : k < p.size) (hl : l ≤ k) (i : Nat) : (bubble p k (k - l)).getD i 0 = if i = l then p.getD k 0 else if l < i ∧ i ≤ k then p.getD (i - 1) 0 else p.getD i 0 := by
  have e : k - (k - l) = l := by omega
  simp only [Array.getD_eq_getD_getElem?]
  rw [getElem?_bubble hk (k - l) (by omega) i, e]
  by_cases e1 : i = l
  · rw [if_pos e1, if_pos e1]
  · rw [if_neg e1, if_neg e1]
    by_cases e2 : l < i ∧ i ≤ k
    · rw [if_pos e2, if_pos e2]
    · rw [if_neg e2, if_neg e2]
theorem bin_rn (hn : 0 < n) : ∀ (f : Nat) (p : Array Nat) (k : Nat), PN n key p → SoTo key p k → k + f = n → Rn n (ltk key) (fun p' => PN n key p' ∧ SoTo key p' n) (kas_bin f p k)
  | 0, p, k, h, hs, e => ⟨h, by rw [← e]; exact hs⟩
  | f + 1, p, k, h, hs, e => by
    unfold kas_bin
    refine Rn.bind (place_rn h hn hs k 0 k (Nat.zero_le _) (Nat.le_refl _) (by omega) (fun i hi => absurd hi (Nat.not_lt_zero _)) fun i h1 h2 => absurd h2 (by omega)) ?_
    rintro l ⟨hl, ha, hb⟩
    have hsz := h.size
    refine bin_rn hn f _ (k + 1) ⟨((bubble_perm p k _).toList).trans h.perm, h.inj⟩ ?_ (by omega)
    intro i j hij hj
    rw [bub_get (by omega) hl, bub_get (by omega) hl]
    by_cases ej : j = l
    · rw [if_pos ej]
      by_cases ei : i = l
      · rw [if_pos ei]; exact le_refl' _
      · rw [if_neg ei, if_neg (by omega)]
        exact ha i (by omega)
    · rw [if_neg ej]
      by_cases ei : i = l
      · rw [if_pos ei, if_pos (by omega)]
        exact le_of_lt' (hb (j - 1) (by omega) (by omega))
      · rw [if_neg ei]
        by_cases ej2 : l < j
        · rw [if_pos (by omega)]
          by_cases ei2 : l < i
          · rw [if_pos (by omega)]
            exact hs _ _ (by omega) (by omega)
          · rw [if_neg (by omega)]
            exact hs _ _ (by omega) (by omega)
        · rw [if_neg (by omega), if_neg (by omega)]
          exact hs _ _ hij (by omega)
/-- the sort's tree, over an order with no two alike: those below n, in order -/
theorem sort_rn (hn : 0 < n) (inj : ∀ i < n, ∀ j < n, key i = key j → i = j) : Rn n (ltk key) (fun p => PN n key p ∧ SoTo key p n) (kas_sort n) := by
  unfold kas_sort
  refine Rn.bind (count_rn ⟨by simp, inj⟩ hn) ?_
  rintro ⟨m, p⟩ ⟨h, h1, h2, ha⟩
  dsimp only at h h1 h2 ha ⊢
  by_cases e : m < n
  · rw [if_pos e]
    have e2 : max m 1 = m := by omega
    rw [e2]
    exact bin_rn hn _ p m h ha.so (by omega)
  · rw [if_neg e]
    have : m = n := by omega
    subst this
    exact ⟨h, ha.so⟩
end
end Mine
end PartTree
section PartSorted
open PySem PySem.W PyProof.Rows PySem.Calls PySem.Spec PyProof.V
set_option maxHeartbeats 4000000
namespace Mine
noncomputable def kd (k : Int × Int) : Dat := .tuple [.int k.1, .int k.2]
section
variable {prog : Program} {w : World} {A : Around} {E : Value → Shared → Prop} {s : Shared} {h₀ : Heap} {L a l : Addr} {m : Str → Option Value} {news : List (Addr × Obj)} {vs : List Value}
theorem zip_snd (vs : List Value) : (vs.toArray.zip vs.toArray).map (·.2) = vs.toArray := by
  rw [← Array.toList_inj]
  simp only [Array.toList_map, Array.toList_zip]
  exact List.map_snd_zip (Nat.le_refl _)
/-- the sort of a list of at most one item -/
theorem sort_short {n : Nat} {P : PySem.Fin → Shared → Prop} (F : Fr h₀ L s.heap m) (N : News h₀ L s.heap news) (ho : s.heap.get? a = some (seqObj "list" vs.toArray n)) (haL : a ≠ L) (ha0 : h₀.get? a = none) (hna : ∀ p ∈ news, p.1 ≠ a) (h2 : vs.length < 2)
    (h : ∀ h' c, Fr h₀ L h' m → News h₀ L h' ((a, listOf vs.toArray c) :: news) → P (.done (.ret .none)) { s with heap := h' }) :
    wpAny (model prog w) A (Builtin.«list.sort» ⟨[.ref a], []⟩) P E s := by
  have s1 := Heap.SameBut.update s.heap a (Obj.mapSeq fun _ => (#[] : Array Value))
  obtain ⟨e1, ho1⟩ : ∃ e1, (s.heap.update a (Obj.mapSeq fun _ => (#[] : Array Value))).get? a = some (seqObj "list" #[] e1) := ⟨_, get?_update_seq ho fun _ => #[]⟩
  have F3 : Fr h₀ L (((s.heap.update a (Obj.mapSeq fun _ => (#[] : Array Value))).push (seqObj "tuple" vs.toArray 0)).push (seqObj "list" #[] 0)) m := ((kas_fr F s1 haL ha0).push _).push _
  have N2 : News h₀ L (((s.heap.update a (Obj.mapSeq fun _ => (#[] : Array Value))).push (seqObj "tuple" vs.toArray 0)).push (seqObj "list" #[] 0)) news :=
    (kas_news N s1 hna).grown fun b x e => Heap.get?_push_of_some _ (Heap.get?_push_of_some _ e)
  have ho6 : (((s.heap.update a (Obj.mapSeq fun _ => (#[] : Array Value))).push (seqObj "tuple" vs.toArray 0)).push (seqObj "list" #[] 0)).get? a = some (seqObj "list" #[] e1) := Heap.get?_push_of_some _ (Heap.get?_push_of_some _ ho1)
  rw [list_sort_plain]
  refine wpAny_bind (listItems_at ho rfl ?_)
  refine wpAny_bind (listUpdate_at ho rfl ?_ (by rw [List.size_toArray, sizeLine_eq]; omega) (Nat.zero_le _))
  refine wpAny_bind (seqEpoch_at ho1 rfl ?_)
  refine wpAny_bind (wpAny_newTuple ?_ (by show vs.length ≤ _; rw [sizeLine_eq]; omega))
  refine wpAny_bind (wpAny_newList ?_ (Nat.zero_le _))
  refine wpAny_holding ?_
  show wpAny (model prog w) A _ P E { s with heap := ((s.heap.update a (Obj.mapSeq fun _ => (#[] : Array Value))).push (seqObj "tuple" vs.toArray 0)).push (seqObj "list" #[] 0) }
  dsimp only
  have hn2 : vs.toArray.size < 2 := by rw [List.size_toArray]; omega
  rw [if_pos hn2, if_pos hn2]
  refine wpAny_bind (wpAny_pure ?_)
  rw [StateT.run_pure]
  refine wpAny_bind (wpAny_pure ?_)
  dsimp only
  have hout : (arrOf (SortSt.mk' general' (vs.toArray.zip vs.toArray) #[] 7 none)).map (·.2) = vs.toArray := zip_snd vs
  rw [hout]
  refine wpAny_bind (seqEpoch_at ho6 rfl ?_)
  refine wpAny_bind (listUpdate_at ho6 rfl ?_ (Nat.zero_le _) (by rw [List.size_toArray, sizeLine_eq]; omega))
  simp only [bne_self_eq_false, Bool.false_eq_true, if_false]
  obtain ⟨c2, hc2⟩ : ∃ c2, ((((s.heap.update a (Obj.mapSeq fun _ => (#[] : Array Value))).push (seqObj "tuple" vs.toArray 0)).push (seqObj "list" #[] 0)).update a (Obj.mapSeq fun _ => vs.toArray)).get? a = some (seqObj "list" vs.toArray c2) := ⟨_, get?_update_seq ho6 fun _ => vs.toArray⟩
  have s2 := Heap.SameBut.update (((s.heap.update a (Obj.mapSeq fun _ => (#[] : Array Value))).push (seqObj "tuple" vs.toArray 0)).push (seqObj "list" #[] 0)) a (Obj.mapSeq fun _ => vs.toArray)
  refine wpAny_pure (h _ c2 (kas_fr F3 s2 haL ha0) fun p hp => ?_)
  rcases List.mem_cons.mp hp with rfl | hp
  · exact ⟨hc2, haL, ha0⟩
  · exact kas_news N2 s2 hna p hp
theorem sorted_short {Q : Value → Shared → Prop} (F : Fr h₀ L s.heap m) (N : News h₀ L s.heap news) (hl : s.heap.IsList l vs.toArray) (h2 : vs.length < 2)
    (h : ∀ D h' c, Fr h₀ L h' m → News h₀ L h' ((D, listOf vs.toArray c) :: news) → (∀ q ∈ news, q.1 < D) → Q (.ref D) { s with heap := h' }) :
    wpAny (model prog w) A (call (.builtin "sorted") [.ref l]) Q E s := by
  refine Calls.call_function_entry kind_sorted plain_sorted entry_sorted (args_sorted1 _) ?_
  unfold Builtin.«sorted»
  refine wpAny_bind (m := checkCount "sorted" 1 1 _) (wpAny_pure ?_)
  refine wpAny_bind (collect_list hl ?_ (by rw [sizeLine_eq]; omega))
  refine wpAny_bind (wpAny_newList ?_ (by rw [sizeLine_eq]; omega))
  have hsz : ((s.heap.push (seqObj "list" #[] 0)).update s.heap.objs.size (Obj.mapSeq (· ++ vs.toArray))).objs.size = s.heap.objs.size + 1 := by rw [Heap.size_update, size_push']
  have hoL : (((s.heap.push (seqObj "list" #[] 0)).update s.heap.objs.size (Obj.mapSeq (· ++ vs.toArray))).push (seqObj "list" vs.toArray 0)).get? (s.heap.objs.size + 1) = some (seqObj "list" vs.toArray 0) := by
    rw [← hsz]; exact Heap.get?_push_size _ rfl
  have keep : ∀ b o, s.heap.get? b = some o → (((s.heap.push (seqObj "list" #[] 0)).update s.heap.objs.size (Obj.mapSeq (· ++ vs.toArray))).push (seqObj "list" vs.toArray 0)).get? b = some o := fun b o q => by
    have hlt : b < s.heap.objs.size := Heap.lt_size q
    rw [Heap.get?_push_ne _ _ _ (by rw [hsz]; exact Nat.ne_of_lt (Nat.lt_succ_of_lt hlt)), Heap.get?_update_ne _ _ _ _ (Nat.ne_of_lt hlt), Heap.get?_push_ne _ _ _ (Nat.ne_of_lt hlt)]
    exact q
  have hL : L < s.heap.objs.size := F.ns.lt
  show wpAny _ _ _ _ _ { s with heap := ((s.heap.push (seqObj "list" #[] 0)).update s.heap.objs.size (Obj.mapSeq (· ++ vs.toArray))).push (seqObj "list" vs.toArray 0) }
  rw [hsz]
  refine wpAny_bind (wpAny_holding (wpAny_call_entry slot_list_sort ⟨_, hoL, rfl⟩ entry_list_sort ?body (args_list_sort _)))
  case body =>
    refine sort_short (s := { s with heap := ((s.heap.push (seqObj "list" #[] 0)).update s.heap.objs.size (Obj.mapSeq (· ++ vs.toArray))).push (seqObj "list" vs.toArray 0) })
      (F.kept keep) (N.grown keep) hoL (Nat.ne_of_gt (Nat.lt_succ_of_lt hL)) (Heap.get?_none_of_le (Nat.le_trans F.above (Nat.le_succ_of_le (Nat.le_of_lt hL))))
      (fun p hp => Nat.ne_of_lt (Nat.lt_succ_of_lt (Heap.lt_size (N p hp).1))) h2 fun h' c F' N' => ?_
    exact ⟨_, rfl, wpAny_pure ⟨_, rfl, h _ h' c F' N' fun q hq => Nat.lt_succ_of_lt (Heap.lt_size (N q hq).1)⟩⟩
theorem pairs_get {R : List (Addr × Obj)} : ∀ {ys : List Value} {ks : List (Int × Int)}, DatAll R ys (ks.map kd) → ∀ i, i < ys.length → PairAt R (ys.getD i .none) (ks.getD i (0, 0))
  | [], _, _, _, hi => absurd hi (Nat.not_lt_zero _)
  | y :: ys, [], h, _, _ => by cases h
  | y :: ys, k :: ks, h, i, hi => by
    rw [List.map_cons] at h
    cases h with
    | cons h1 h2 =>
      cases i with
      | zero => exact PairAt.ofDat h1
      | succ i => exact pairs_get h2 i (by simpa using hi)
theorem pairs_tups {R : List (Addr × Obj)} {h : Heap} (hR : ∀ p ∈ R, h.get? p.1 = some p.2) : ∀ {ys : List Value} {ks : List (Int × Int)}, DatAll R ys (ks.map kd) → ∃ fs, KatTups h ys fs ∧ fs.length = ys.length ∧ ∀ v ∈ fs, ∃ i t, v = Value.int i t
  | [], _, _ => ⟨[], trivial, rfl, fun v hv => nomatch hv⟩
  | y :: ys, [], h => by cases h
  | y :: ys, k :: ks, h => by
    rw [List.map_cons] at h
    cases h with
    | cons h1 h2 =>
      obtain ⟨fs, f1, f2, f3⟩ := pairs_tups hR h2
      obtain ⟨a, t, u, n, rfl, hm⟩ := PairAt.ofDat h1
      refine ⟨.int k.1 t :: fs, KatTups.cons (hR _ hm) rfl rfl rfl f1, by simp [f2], ?_⟩
      intro v hv
      rcases List.mem_cons.mp hv with rfl | hv
      · exact ⟨_, _, rfl⟩
      · exact f3 v hv
theorem tup_ask {b c : Addr} {p q i j : Int} {t1 t2 u1 u2 : Tok} {n n' : Nat} {C : Bool → Shared → Prop} (ha : s.heap.get? b = some (tupOf [.int p t1, .int i t2] n)) (hb : s.heap.get? c = some (tupOf [.int q u1, .int j u2] n'))
    (h : C (lexlt (p, i) (q, j)) s) : wpAny (model prog w) A (keyLt' (tuples' true) (.ref b) (.ref c)) C E s := by
  refine kat_lt ha rfl hb rfl ?_
  refine kat_cons (wpAny_eqBool_int ?_)
  by_cases h1 : p = q
  · subst h1
    rw [show (p == p) = true from by simp]
    refine kat_yes (kat_cons (wpAny_eqBool_int ?_))
    by_cases h2 : i = j
    · subst h2
      rw [show (i == i) = true from by simp]
      refine kat_yes (kat_nil ?_)
      have e : lexlt (p, i) (p, i) = false := by simp [lexlt]
      rw [e] at h
      simpa using h
    · rw [show (i == j) = false from by simpa using h2]
      refine kat_no (kat_one _ _ (wpAny_lt_int ?_))
      have e : lexlt (p, i) (p, j) = decide (i < j) := by simp [lexlt]
      rw [e] at h
      exact h
  · rw [show (p == q) = false from by simpa using h1]
    refine kat_no (oneLt_int ?_)
    have e : lexlt (p, i) (q, j) = decide (p < q) := by simp [lexlt, h1]
    rw [e] at h
    exact h
theorem datAll_map {R : List (Addr × Obj)} {f : Nat → Value} {g : Nat → Dat} : ∀ (l : List Nat), (∀ i ∈ l, DatIn R (f i) (g i)) → DatAll R (l.map f) (l.map g)
  | [], _ => .nil
  | _ :: r, h => .cons (h _ (List.mem_cons_self ..)) (datAll_map r fun i hi => h i (List.mem_cons_of_mem _ hi))
theorem map_range_getD (ks : List (Int × Int)) : (List.range ks.length).map (fun i => ks.getD i (0, 0)) = ks := by
  apply List.ext_getElem
  · simp
  · intro i h1 h2
    simp [h2]
end
theorem sorted_pairs {w : World} {A : Around} {E : Value → Shared → Prop} {s : Shared} {h₀ : Heap} {L l : Addr} {m : Str → Option Value} {news R : List (Addr × Obj)} {ys : List Value} {n : Nat} {ks : List (Int × Int)} {Q : Value → Shared → Prop}
    (F : Fr h₀ L s.heap m) (N : News h₀ L s.heap news) (hl : (l, listOf ys.toArray n) ∈ news) (hD : DatAll R ys (ks.map kd)) (hs : ∀ p ∈ R, p ∈ news) (hnd : ks.Nodup) (h64 : ys.length < 64)
    (h : ∀ D h' tk zs rem c, Fr h₀ L h' m → News h₀ L h' ((D, listOf zs.toArray c) :: news) → (∀ q ∈ news, q.1 < D) → DatAll R zs (rem.map kd) → rem.Perm ks → SortedK rem → Q (.ref D) { s with heap := h', toks := tk }) :
    wpAny (model PySem.Challenge.rw_oh0014_01.row.prog w) A (call (.builtin "sorted") [.ref l]) Q E s := by
  have hlen : ys.length = ks.length := by have := hD.length; simpa using this
  by_cases h2 : ys.length < 2
  · refine sorted_short F N (News.isList N hl) h2 fun D h' c F' N' hd => h D h' s.toks ys ks c F' N' hd hD (List.Perm.refl _) ?_
    match ks, hlen with
    | [], _ => exact List.Pairwise.nil
    | [_], _ => exact List.pairwise_singleton ..
    | _ :: _ :: _, e => simp at e; omega
  · refine kat_sorted F N (News.isList N hl) (by omega) h64 fun D e1 h' F' N' hd => ?_
    have hR : ∀ p ∈ R, h'.get? p.1 = some p.2 := fun p hp => (N' p (List.mem_cons_of_mem _ (hs p hp))).1
    obtain ⟨fs, f1, f2, f3⟩ := pairs_tups hR hD
    refine kat_kind (T := .type "int") f1 (by omega) ?_ (by decide) ?_
    · intro v hv
      obtain ⟨i, t, rfl⟩ := f3 v hv
      exact Looks.of_pure rfl
    · have ek : (Value.type "int" != Value.type "tuple") = true := by decide
      rw [ek]
      have inj : ∀ i < ys.length, ∀ j < ys.length, ks.getD i (0, 0) = ks.getD j (0, 0) → i = j := by
        intro i hi j hj e
        rw [hlen] at hi hj
        have e1 : ks.getD i (0, 0) = ks[i] := by simp [hi]
        have e2 : ks.getD j (0, 0) = ks[j] := by simp [hj]
        rw [e1, e2] at e
        exact (List.getElem_inj hnd).mp e
      refine Rn.wp (St := fun s' => s' = { s with heap := h' }) ?_ ?_ (sort_rn (key := fun i => ks.getD i (0, 0)) (by omega) inj) _ rfl
      · rintro i j hi hj C s' rfl hC
        obtain ⟨a, t, u, na, ea, hm⟩ := pairs_get hD i hi
        obtain ⟨b, t', u', nb, eb, hm'⟩ := pairs_get hD j hj
        unfold kas_ask
        rw [ea, eb]
        exact tup_ask (hR _ hm) (hR _ hm') (hC _ rfl)
      · rintro p s' ⟨hp, hso⟩ rfl
        refine KasFin.intro F' N' (UpdF.head fun q hq => Nat.ne_of_lt (hd q hq)) fun h'' c F2 N2 => ?_
        refine h D h'' s.toks _ (p.toList.map fun i => ks.getD i (0, 0)) c F2 N2 hd ?_ ?_ ?_
        · rw [List.map_map]
          refine datAll_map p.toList fun i hi => ?_
          have hi' : i < ys.length := List.mem_range.mp (hp.perm.mem_iff.mp hi)
          exact DatIn.pair (pairs_get hD i hi')
        · refine (hp.perm.map fun i => ks.getD i (0, 0)).trans ?_
          rw [hlen, map_range_getD]
        · show List.Pairwise _ _
          rw [List.pairwise_map]
          refine List.pairwise_iff_getElem.mpr fun i j hi hj hij => ?_
          have hz := hp.size
          rw [Array.length_toList] at hi hj
          have := hso i j (by omega) (by omega)
          have e1 : p.getD i 0 = p.toList[i] := by simp [Array.getD, hi]
          have e2 : p.getD j 0 = p.toList[j] := by simp [Array.getD, hj]
          rw [e1, e2] at this
          exact this
end Mine
end PartSorted
section PartDue
open PySem PySem.W PyProof.Rows PySem.Calls PySem.Spec PyProof.V
set_option maxHeartbeats 8000000
namespace Mine
theorem words_Due : True := by
  w_top off
  k_with_none
  k_with "compareOp NotIn int ref" => (k_here; k_dflt (refine' notin_n (by k_asm) (by k_mem) (by assumption) ?_; k_whole))
  k_with "compareOp In int ref" => (k_here; k_dflt (refine' in_n (by k_asm) (by k_mem) (by assumption) ?_; k_whole))
  k_with "subscriptTail Name Name ref int" => (k_here; (with_unfolding_all refine' item_x (by k_asm) (by k_mem) (by assumption) (by omega) ?_ (by with_unfolding_all rfl); k_whole))
  k_with "InvEndG" => refine halt ?_
  k_with "call builtin:list.append" => refine halt ?_
  k_with "CompEnd" => refine halt ?_
  k_with "call builtin:sorted" => refine halt ?_
  k_with "exec Assign cons ListComp" => refine halt ?_
  k_with "eval ListComp" => refine halt ?_
  k_with "CompSrc" => refine halt ?_
  k_with "CompSrcT" => refine halt ?_
  k_with "call builtin:len" => (k_here; (with_reducible show wpAny _ _ (call (Value.builtin "len") [Value.ref _]) _ _ _); k_dflt (refine' len_n (by k_asm) (by k_mem) (by (try simp only [List.length_set]); omega) ?_; k_whole); intro _ _)
  trivial
section
variable {prog : Program} {w : World} {A : Around} {E : Value → Shared → Prop} {s : Shared} {h₀ : Heap} {L D : Addr} {news : List (Addr × Obj)} {vs : List Value} {n : Nat}
theorem item_x {value slice : PySem.Expr} {k : Nat} {u : Tok} {v : Value} {Q : Value → Shared → Prop} (N : News h₀ L s.heap news) (hm : (D, listOf vs.toArray n) ∈ news) (hx : vs[k]? = some v) (hz : vs.length < 100000) (h : Q v s)
    (hs : subscripted slice false (.ref D) (.int (k : Int) u) = operate [.ref D, .int (k : Int) u] (getItem (.ref D) (.int (k : Int) u)) := by with_unfolding_all rfl) :
    wpAny (model prog w) A (subscriptTail value slice (.ref D) (.int (k : Int) u)) Q E s := by
  have hk : k < vs.length := by
    rcases Nat.lt_or_ge k vs.length with h | h
    · exact h
    · rw [List.getElem?_eq_none h] at hx; cases hx
  refine item_litK (vs := vs) (News.isList N hm) (by omega) (by omega) (by simpa using hx) h hs
theorem notin_n {ns : List Int} {k : Int} {t : Tok} {Q : Value → Shared → Prop} (N : News h₀ L s.heap news) (hm : (D, listOf vs.toArray n) ∈ news) (hi : IntsAre vs ns) (h : Q (.bool (!decide (k ∈ ns))) s) :
    wpAny (model prog w) A (compareOp .NotIn (.int k t) (.ref D)) Q E s := by
  refine notin_list_ints (vs := vs) (News.isList N hm) hi ?_
  have e : (ns.any (· == k)) = decide (k ∈ ns) := by rw [Bool.eq_iff_iff]; simp
  rw [e]; exact h
theorem in_n {ns : List Int} {k : Int} {t : Tok} {Q : Value → Shared → Prop} (N : News h₀ L s.heap news) (hm : (D, listOf vs.toArray n) ∈ news) (hi : IntsAre vs ns) (h : Q (.bool (decide (k ∈ ns))) s) :
    wpAny (model prog w) A (compareOp .In (.int k t) (.ref D)) Q E s := by
  refine in_list_ints (vs := vs) (News.isList N hm) hi ?_
  have e : (ns.any (· == k)) = decide (k ∈ ns) := by rw [Bool.eq_iff_iff]; simp
  rw [e]; exact h
end
/-- the entries, as what is read of them -/
noncomputable def Ents (R : List (Addr × Obj)) (es : List Value) (ks : List (Int × Int)) : Prop := es.length = ks.length ∧ ∀ (i : Nat) (v : Value), es[i]? = some v → ∃ k, ks[i]? = some k ∧ PairAt R v k
theorem sorted_unique {a b : List (Int × Int)} (ha : SortedK a) (hb : SortedK b) (hp : a.Perm b) : a = b := by
  induction a generalizing b with
  | nil => exact (List.Perm.eq_nil hp.symm).symm
  | cons x r ih =>
    cases b with
    | nil => exact absurd hp.length_eq (by simp)
    | cons y t =>
      have e : x = y := by
        have h1 : x ∈ y :: t := hp.mem_iff.mp (List.mem_cons_self ..)
        have h2 : y ∈ x :: r := hp.mem_iff.mpr (List.mem_cons_self ..)
        rcases List.mem_cons.mp h1 with h1 | h1
        · exact h1
        rcases List.mem_cons.mp h2 with h2 | h2
        · exact h2.symm
        exact le_antisymm' ((List.pairwise_cons.mp hb).1 x h1) ((List.pairwise_cons.mp ha).1 y h2)
      subst e
      rw [ih (List.pairwise_cons.mp ha).2 (List.pairwise_cons.mp hb).2 ((List.perm_cons _).mp hp)]
theorem datAll_get {R : List (Addr × Obj)} {vs : List Value} {ds : List Dat} (h : DatAll R vs ds) {i : Nat} {v : Value} (hv : vs[i]? = some v) : ∃ d, ds[i]? = some d ∧ DatIn R v d := by
  have hi : i < ds.length := by
    rw [← h.length]
    rcases Nat.lt_or_ge i vs.length with q | q
    · exact q
    · rw [List.getElem?_eq_none q] at hv; cases hv
  obtain ⟨u, hu, hd⟩ := h.get hi
  rw [hu] at hv; cases hv
  exact ⟨_, List.getElem?_eq_getElem hi, hd⟩
/-- what lies: those of the first i entries that are not gone -/
noncomputable def lyingK (ks : List (Int × Int)) (G : List Int) : Nat → List (Int × Int)
  | 0 => []
  | i + 1 => if (i : Int) ∈ G then lyingK ks G i else lyingK ks G i ++ [((ks.getD i (0, 0)).2, (i : Int))]
theorem lying_mem {ks : List (Int × Int)} {G : List Int} : ∀ {i : Nat} {k : Int × Int}, k ∈ lyingK ks G i → ∃ j : Nat, j < i ∧ k = ((ks.getD j (0, 0)).2, (j : Int)) ∧ ¬ (j : Int) ∈ G
  | 0, _, h => nomatch h
  | i + 1, k, h => by
    unfold lyingK at h
    split at h
    · obtain ⟨j, h1, h2, h3⟩ := lying_mem h; exact ⟨j, by omega, h2, h3⟩
    · rename_i hG
      rcases List.mem_append.mp h with h | h
      · obtain ⟨j, h1, h2, h3⟩ := lying_mem h; exact ⟨j, by omega, h2, h3⟩
      · exact ⟨i, by omega, List.mem_singleton.mp h, hG⟩
theorem lying_nodup {ks : List (Int × Int)} {G : List Int} : ∀ {i : Nat}, (lyingK ks G i).Nodup
  | 0 => .nil
  | i + 1 => by
    unfold lyingK
    split
    · exact lying_nodup
    · refine List.nodup_append.mpr ⟨lying_nodup, by simp, ?_⟩
      intro a ha b hb e
      obtain ⟨j, h1, h2, _⟩ := lying_mem ha
      rw [List.mem_singleton] at hb
      rw [e, hb, Prod.mk.injEq] at h2
      omega
theorem mem_d2 {α : Type} {e1 g e E G B : α} {Y R : List α} : ∀ p ∈ g :: e :: E :: G :: B :: ((e1 :: Y) ++ R), p ∈ e1 :: g :: e :: E :: G :: B :: (Y ++ R) :=
  shuf [e1, g, e, E, G, B] [Y, R] (Tr.at 0 (Tr.at 1 (Tr.at 2 (Tr.at 3 (Tr.at 4 (Tr.at 5 (Tr.ap (Tr.ls 0) (Tr.ls 1)))))))) (Tr.at 1 (Tr.at 2 (Tr.at 3 (Tr.at 4 (Tr.at 5 (Tr.ap (Tr.at 0 (Tr.ls 0)) (Tr.ls 1))))))) rfl rfl
theorem mem_d3 {α : Type} {a b c g e E G B : α} {R : List α} : ∀ p ∈ b :: a :: c :: g :: e :: E :: G :: B :: R, p ∈ a :: b :: c :: g :: e :: E :: G :: B :: R :=
  shuf [a, b, c, g, e, E, G, B] [R] (Tr.at 0 (Tr.at 1 (Tr.at 2 (Tr.at 3 (Tr.at 4 (Tr.at 5 (Tr.at 6 (Tr.at 7 (Tr.ls 0))))))))) (Tr.at 1 (Tr.at 0 (Tr.at 2 (Tr.at 3 (Tr.at 4 (Tr.at 5 (Tr.at 6 (Tr.at 7 (Tr.ls 0))))))))) rfl rfl
theorem mem_d4 {α} {a b c g e E G B : α} {Z R own : List α} : ∀ p ∈ a :: b :: c :: g :: e :: E :: G :: B :: (Z ++ R ++ own), p = a ∨ p = b ∨ p ∈ c :: g :: e :: E :: G :: B :: R ∨ p ∈ Z ∨ p ∈ own := by
  intro p hp; simp only [List.mem_cons, List.mem_append] at hp ⊢; grind
theorem mem_d5 {α : Type} {D' r : α} {R : List α} : ∀ p ∈ r :: D' :: R, p ∈ D' :: r :: R :=
  shuf [D', r] [R] (Tr.at 0 (Tr.at 1 (Tr.ls 0))) (Tr.at 1 (Tr.at 0 (Tr.ls 0))) rfl rfl
theorem mem_d6 {α : Type} {r D' b c g e E G B : α} {Z Y R own : List α} : ∀ p ∈ r :: E :: G :: B :: ((D' :: Z ++ Y) ++ R), p ∈ r :: D' :: b :: c :: g :: e :: E :: G :: B :: (Z ++ (Y ++ R) ++ own) :=
  shuf [r, D', b, c, g, e, E, G, B] [Z, Y, R, own] (Tr.at 0 (Tr.at 1 (Tr.at 2 (Tr.at 3 (Tr.at 4 (Tr.at 5 (Tr.at 6 (Tr.at 7 (Tr.at 8 (Tr.ap (Tr.ap (Tr.ls 0) (Tr.ap (Tr.ls 1) (Tr.ls 2))) (Tr.ls 3))))))))))) (Tr.at 0 (Tr.at 6 (Tr.at 7 (Tr.at 8 (Tr.ap (Tr.ap (Tr.at 1 (Tr.ls 0)) (Tr.ls 1)) (Tr.ls 2)))))) rfl rfl
theorem mem_d7 {α : Type} {r x y b c g e E G B : α} {Z Y R : List α} : ∀ p ∈ r :: E :: G :: B :: ((Z ++ Y) ++ R), p ∈ r :: y :: x :: b :: c :: g :: e :: E :: G :: B :: (Z ++ (Y ++ R)) :=
  shuf [r, x, y, b, c, g, e, E, G, B] [Z, Y, R] (Tr.at 0 (Tr.at 2 (Tr.at 1 (Tr.at 3 (Tr.at 4 (Tr.at 5 (Tr.at 6 (Tr.at 7 (Tr.at 8 (Tr.at 9 (Tr.ap (Tr.ls 0) (Tr.ap (Tr.ls 1) (Tr.ls 2))))))))))))) (Tr.at 0 (Tr.at 7 (Tr.at 8 (Tr.at 9 (Tr.ap (Tr.ap (Tr.ls 0) (Tr.ls 1)) (Tr.ls 2)))))) rfl rfl
theorem mem_d8 {α : Type} {x b c g e E G B : α} {Z Y R : List α} : ∀ p ∈ E :: G :: B :: R, p ∈ x :: b :: c :: g :: e :: E :: G :: B :: (Z ++ (Y ++ R)) :=
  shuf [x, b, c, g, e, E, G, B] [Z, Y, R] (Tr.at 0 (Tr.at 1 (Tr.at 2 (Tr.at 3 (Tr.at 4 (Tr.at 5 (Tr.at 6 (Tr.at 7 (Tr.ap (Tr.ls 0) (Tr.ap (Tr.ls 1) (Tr.ls 2))))))))))) (Tr.at 5 (Tr.at 6 (Tr.at 7 (Tr.ls 2)))) rfl rfl
theorem mem_d9 {α} {r D' b c g e E G B : α} {Z R : List α} : ∀ p ∈ r :: b :: c :: g :: e :: E :: G :: B :: ((D' :: Z) ++ R), p = r ∨ p = D' ∨ p ∈ b :: c :: g :: e :: E :: G :: B :: (Z ++ R) := by
  intro p hp; simp only [List.mem_cons, List.mem_append] at hp ⊢; grind
theorem mem_d10 {α : Type} {r D' b c g e E G B : α} {Z R own : List α} : ∀ p ∈ r :: b :: c :: g :: e :: E :: G :: B :: ((D' :: Z) ++ R), p ∈ r :: D' :: b :: c :: g :: e :: E :: G :: B :: (Z ++ R ++ own) :=
  shuf [r, D', b, c, g, e, E, G, B] [Z, R, own] (Tr.at 0 (Tr.at 1 (Tr.at 2 (Tr.at 3 (Tr.at 4 (Tr.at 5 (Tr.at 6 (Tr.at 7 (Tr.at 8 (Tr.ap (Tr.ap (Tr.ls 0) (Tr.ls 1)) (Tr.ls 2))))))))))) (Tr.at 0 (Tr.at 2 (Tr.at 3 (Tr.at 4 (Tr.at 5 (Tr.at 6 (Tr.at 7 (Tr.at 8 (Tr.ap (Tr.at 1 (Tr.ls 0)) (Tr.ls 1)))))))))) rfl rfl
theorem mem_d1 {α : Type} {e1 I C D g e E G B : α} {Y R : List α} : ∀ p ∈ I :: C :: D :: g :: e :: E :: G :: B :: ((e1 :: Y) ++ R), p ∈ e1 :: I :: C :: D :: g :: e :: E :: G :: B :: (Y ++ R) :=
  shuf [e1, I, C, D, g, e, E, G, B] [Y, R] (Tr.at 0 (Tr.at 1 (Tr.at 2 (Tr.at 3 (Tr.at 4 (Tr.at 5 (Tr.at 6 (Tr.at 7 (Tr.at 8 (Tr.ap (Tr.ls 0) (Tr.ls 1))))))))))) (Tr.at 1 (Tr.at 2 (Tr.at 3 (Tr.at 4 (Tr.at 5 (Tr.at 6 (Tr.at 7 (Tr.at 8 (Tr.ap (Tr.at 0 (Tr.ls 0)) (Tr.ls 1)))))))))) rfl rfl
section
theorem due_call {w : World} {A : Around} {h₀ : Heap} {L : Addr} {m : Str → Option Value} {s : Shared} {Q : Value → Shared → Prop} {E : Value → Shared → Prop}
   {En Go Ba : Addr} {es gs bs : List Value} {nE nG nB : Nat} {R : List (Addr × Obj)} {f : Nat → Option Int} {rem ks : List (Int × Int)} {G Bk : List Int}
   (Z : Site w A h₀ L) (F : Fr h₀ L s.heap m) (N : News h₀ L s.heap ((En, listOf es.toArray nE) :: (Go, listOf gs.toArray nG) :: (Ba, listOf bs.toArray nB) :: R)) (hl : es.length < 24) (hE : Ents R es ks) (hG : IntsAre gs G) (hB : IntsAre bs Bk)
   (hf1 : ∀ j < 24, f j = some 1 ↔ (j : Int) ∈ Bk) (hSo : SortedK rem) (hPm : rem.Perm (lyingK ks G es.length))
   (hdp : A.depth + 20 < recursionLimit) (hun : A.units + 150 < cLine)
   (hQ : ∀ h' tk T X ts nT, Fr h₀ L h' m → News h₀ L h' ((T, listOf ts.toArray nT) :: (En, listOf es.toArray nE) :: (Go, listOf gs.toArray nG) :: (Ba, listOf bs.toArray nB) :: (X ++ R)) →
      (∀ q ∈ (En, listOf es.toArray nE) :: (Go, listOf gs.toArray nG) :: (Ba, listOf bs.toArray nB) :: R, q.1 < T) → (∀ q ∈ X, (∀ q' ∈ (En, listOf es.toArray nE) :: (Go, listOf gs.toArray nG) :: (Ba, listOf bs.toArray nB) :: R, q'.1 < q.1) ∧ q.1 ≠ T) →
      DatAll X ts (rowOf f rem) → Q (.ref T) { s with heap := h', toks := tk }) :
   wpAny (model PySem.Challenge.rw_oh0014_01.row.prog w) A (call (.ref 128) [.ref En, .ref Go, .ref Ba]) Q E s := by
  obtain ⟨A₀, base, env, outer, p, loose, mean, mg, mb, B, X, T, hA, hf, hk, hh⟩ := Z
  refine wpAny_call ?_
  k_dflt (refine' code_defC (binds := [(Str.ofString "entries", .ref En), (Str.ofString "gone", .ref Go), (Str.ofString "back", .ref Ba)]) B F X N T hA hf hk ?k6 ?k7 ?k8 ?k9 ?kB ?kD ?_ ?c2 ?c3 ?c4; (case k6 => k_is); (case k7 => k_is); (case k8 => omega); (case k9 => exact BindsTo.of_eq rfl); (case kB => exact rfl); (case kD => decide +kernel); (case c2 => exact rfl); (case c3 => exact rfl); (case c4 => exact rfl); k_whole; intro g' L' h' tk' cells' FG' F' N' Y' B' X' T' l1; (try k_lt l1); k_cells Y'; (try simp only [List.cons_append, List.nil_append] at N'); (try dsimp only); (try k_fold))
  clear N F X T
  rename_i oG oE dG dE
  have cG : oG.data = .cell (some (.ref Go)) := dG
  have cE : oE.data = .cell (some (.ref En)) := dE
  clear dG dE
  refine hideX ?_
  intro Q1 hq1
  k_steps
  change wpAny _ _ _ _ _ _
  k_dflt (refine LCt.Assign_ListComp_T (F₀ := by k_asm) (by rfl) (by with_unfolding_all rfl) (by with_unfolding_all rfl) (by decide) (by rfl) (by decide) (by rfl) (by rfl) (by rfl) ?_)
  k_steps
  change LCt.CompSrcT _ _ _ _ _ _ _ _ _ _ _ _ _ _ _
  refine LCt.CompSrcT.range (n := es.length) hh (by k_asm) (by k_asm) (by assumption) (range_small (by omega)) range_size (by simp [sizeLine]; omega) ?_
  intro g1
  dsimp only
  have lA : ∀ q ∈ (En, listOf es.toArray nE) :: (Go, listOf gs.toArray nG) :: (Ba, listOf bs.toArray nB) :: R, q.1 < L' := by
    intro q hq
    rcases List.mem_cons.mp hq with rfl | hq
    · exact l1.1
    rcases List.mem_cons.mp hq with rfl | hq
    · exact l1.2.1
    rcases List.mem_cons.mp hq with rfl | hq
    · exact l1.2.2.1
    exact allLt_mem l1.2.2.2 q hq
  refine compRestT_ind (fun i ys n' => ∃ Y, n' = (L' + 1 + 1, oG) :: (L' + 1, oE) :: (En, listOf es.toArray nE) :: (Go, listOf gs.toArray nG) :: (Ba, listOf bs.toArray nB) :: (Y ++ R) ∧ DatAll Y ys ((lyingK ks G i).map kd) ∧ ys.length ≤ i ∧ ∀ q ∈ Y, L' < q.1) ⟨[], rfl, .nil, Nat.le_refl _, fun q hq => nomatch hq⟩ ?_ ?_
  · rintro i ys n' hi ⟨Y, rfl, hY, hyl, hYL⟩ v I oI C oC D m₂ h tk E' ⟨tv, hv⟩ hC hx F1 N1 off ne
    rw [Int.zero_add] at hv
    subst hv
    obtain ⟨v, hv⟩ : ∃ v, es[i]? = some v := ⟨es[i], List.getElem?_eq_getElem hi⟩
    obtain ⟨k, hk1, a, ta, ua, na, rfl, ham⟩ := hE.2 i v hv
    have ham' : (a, tupOf [Value.int k.1 ta, Value.int k.2 ua] na) ∈ Y ++ R := by simp [ham]
    k_steps
    · rename_i hg
      refine LCg.CompEnd.intro F1 N1 _ (fun p hp => hp) off trivial ⟨Y, rfl, ?_, by omega, hYL⟩
      unfold lyingK
      rw [if_pos hg]
      exact hY
    · rename_i hg D' _ F5 N5 l5
      unfold Halt
      refine LCg.CompEnd.intro F5 N5 ((L' + 1 + 1, oG) :: (L' + 1, oE) :: (En, listOf es.toArray nE) :: (Go, listOf gs.toArray nG) :: (Ba, listOf bs.toArray nB) :: ((D', tupOf [Value.int k.2 ua, Value.int (i : Int) tv] 0) :: Y ++ R)) mem_d1 ?_ trivial ⟨_, rfl, ?_, ?_, ?_⟩
      · refine LCg.Off3.of fun q hq => ?_
        rcases List.mem_cons.mp (mem_d2 q hq) with rfl | hq
        · exact ⟨Nat.ne_of_gt l5.1, Nat.ne_of_gt l5.2.1, Nat.ne_of_gt l5.2.2.1⟩
        · exact LCg.Off3.mem off q hq
      · unfold lyingK
        rw [if_neg hg, List.map_append]
        refine DatAll.append (DatAll.mono (fun q hq => List.mem_cons_of_mem _ hq) hY) (DatAll.one (DatIn.tuple (vs := [Value.int k.2 ua, Value.int (i : Int) tv]) (n := 0) (by simp) ?_))
        rw [List.getD_eq_getElem?_getD, hk1]
        exact .cons (.int _ _) (.cons (.int _ _) .nil)
      · simp; omega
      · intro q hq
        rcases List.mem_cons.mp hq with rfl | hq
        · exact Nat.lt_trans (Nat.lt_succ_self _) l5.2.2.2.2.1
        · exact hYL q hq
  · rintro ys n' ⟨Y, rfl, hY, hyl, hYL⟩ D h tk F1 N1 off
    k_steps
    change wpAny _ _ _ _ _ _
    rename_i Dr x1 x2 x3 Fr1 Nr1
    refine sorted_pairs (R := Y) (ks := lyingK ks G es.length) (by assumption) (by assumption) (.tail _ (.head _)) hY (fun q hq => by simp [hq]) lying_nodup (by omega) ?_
    intro D2 h2 tk2 zs rem2 c2 F2 N2 hD2 hz hp2 hs2
    have er : rem2 = rem := sorted_unique hs2 hSo (hp2.trans hPm.symm)
    subst er
    have hDr : L' < Dr := by exact Nat.lt_trans (Nat.lt_trans (Nat.lt_succ_self _) (Nat.lt_succ_self _)) x2.2.1
    have hzl : zs.length < 24 := by
      have e1 := hz.length
      have e2 := hY.length
      have e3 := hp2.length_eq
      rw [List.length_map] at e1 e2
      omega
    have hDD : ∀ q ∈ (Dr, listOf #[] 0) :: (D, LCg.lst ys) :: (L' + 1 + 1, oG) :: (L' + 1, oE) :: (En, listOf es.toArray nE) :: (Go, listOf gs.toArray nG) :: (Ba, listOf bs.toArray nB) :: (Y ++ R), q.1 < D2 := hD2
    have hDR : ∀ q ∈ (D, LCg.lst ys) :: (L' + 1 + 1, oG) :: (L' + 1, oE) :: (En, listOf es.toArray nE) :: (Go, listOf gs.toArray nG) :: (Ba, listOf bs.toArray nB) :: (Y ++ R), q.1 < Dr := allLt_mem x2
    have hLr : ∀ q ∈ (En, listOf es.toArray nE) :: (Go, listOf gs.toArray nG) :: (Ba, listOf bs.toArray nB) :: R, q.1 < Dr := fun q hq => Nat.lt_trans (lA q hq) hDr
    have hr2 : Dr < D2 := hDD (Dr, listOf #[] 0) (List.mem_cons_self ..)
    refine for_led [] (fun i nx => ∃ Z rs nr acc, nx = (Dr, listOf rs.toArray nr) :: (D2, listOf zs.toArray c2) :: (D, LCg.lst ys) :: (L' + 1 + 1, oG) :: (L' + 1, oE) :: (En, listOf es.toArray nE) :: (Go, listOf gs.toArray nG) :: (Ba, listOf bs.toArray nB) :: (Z ++ (Y ++ R)) ∧
      DatAll (Z ++ Y) rs acc ∧ acc ++ rowOf f (rem2.drop i) = rowOf f rem2 ∧ rs.length = i ∧ ∀ q ∈ Z, D2 < q.1) hh (.tail _ (.head _)) F2 (fun q hq => N2 q (mem_d3 q hq)) ⟨[], [], 0, [], rfl, .nil, rfl, rfl, fun q hq => nomatch hq⟩ ?_ ?_
    · rintro i v u nx h tk own hv hoo hm ⟨Z, rs, nr, acc, rfl, hacc, hrow, hrl, hZ⟩ F3 N3
      have hi : i < zs.length := by
        rcases Nat.lt_or_ge i zs.length with q | q
        · exact q
        · rw [List.getElem?_eq_none q] at hv; cases hv
      obtain ⟨d, hd1, hd2⟩ := datAll_get hz hv
      obtain ⟨k, hk1, rfl⟩ : ∃ k, rem2[i]? = some k ∧ d = kd k := by
        rw [List.getElem?_map] at hd1
        cases e : rem2[i]? with
        | none => rw [e] at hd1; cases hd1
        | some k => rw [e] at hd1; cases hd1; exact ⟨k, rfl, rfl⟩
      obtain ⟨a, ta, ua, na, rfl, ham⟩ := PairAt.ofDat hd2
      have hkm : k ∈ lyingK ks G es.length := hPm.mem_iff.mp (List.mem_of_getElem? hk1)
      obtain ⟨j, hj1, hj2, hj3⟩ := lying_mem hkm
      have ej : k.2 = (j : Int) := by rw [hj2]
      have edr : rem2.drop i = k :: rem2.drop (i + 1) := by
        have hil : i < rem2.length := by
          rcases Nat.lt_or_ge i rem2.length with q | q
          · exact q
          · rw [List.getElem?_eq_none q] at hk1; cases hk1
        rw [List.drop_eq_getElem_cons hil]
        rw [List.getElem?_eq_getElem hil] at hk1
        cases hk1; rfl
      have ham' : (a, tupOf [Value.int k.1 ta, Value.int k.2 ua] na) ∈ Z ++ (Y ++ R) ++ own := by simp [ham]
      simp only [List.cons_append] at N3
      have hoff : ∀ D' (o : Obj), Dr < D' → ∀ q ∈ (D', o) :: (D2, listOf zs.toArray c2) :: (D, LCg.lst ys) :: (L' + 1 + 1, oG) :: (L' + 1, oE) :: (En, listOf es.toArray nE) :: (Go, listOf gs.toArray nG) :: (Ba, listOf bs.toArray nB) :: (Z ++ (Y ++ R) ++ own), q.1 ≠ Dr := by
        intro D' o hD' q hq
        have hq' := mem_d4 q hq
        rcases hq' with rfl | rfl | h | h | h
        · exact Nat.ne_of_gt hD'
        · exact Nat.ne_of_gt hr2
        · exact Nat.ne_of_lt (hDR q h)
        · exact Nat.ne_of_gt (Nat.lt_trans hr2 (hZ q h))
        · exact hoo q h Dr (by simp)
      have hDat : ∀ D' (c : Int) (tc : Tok), DatAll ((D', tupOf [.ref a, .int c tc, .bool true] 0) :: Z ++ Y) (rs ++ [.ref D']) (acc ++ [tri k c]) := by
        intro D' c tc
        refine DatAll.append (DatAll.mono (fun q hq => by simp only [List.cons_append]; exact List.mem_cons_of_mem _ hq) hacc) (DatAll.one (DatIn.tuple (vs := [.ref a, .int c tc, .bool true]) (n := 0) (by simp) ?_))
        exact .cons (DatIn.pair ⟨a, ta, ua, na, rfl, by simp [ham]⟩) (.cons (.int _ _) (.cons (.bool _) .nil))
      have ebk : bk f k = decide (k.2 ∈ Bk) := by
        unfold bk
        rw [ej, Int.toNat_natCast, Bool.eq_iff_iff]
        simp [hf1 j (by omega)]
      repeat (first | (fail_if_success (with_reducible show wpAny _ _ (execs _ _) _ _ _)); (first | (k_unfold; (try dsimp only)) | walk1 | (dsimp only; walk1)))
      refine hideX ?_
      intro Q2 hq2
      by_cases hbk : k.2 ∈ Bk
      · k_steps
        · change wpAny _ _ _ _ _ _
          rename_i D' _ F5 N5 l5
          have hrD : Dr < D' := l5.1
          have h2D : D2 < D' := l5.2.1
          refine app_n (news := (Dr, listOf rs.toArray nr) :: _) F5 (fun q hq => N5 q (mem_d5 q hq)) (Upd.head (hoff _ _ hrD)) (by omega) ?_
          intro h6 F6 N6
          clear N5 F5
          k_steps
          all_goals (try (with_reducible change Q2 _ _; subst hq2; (try dsimp only); (try k_steps)))
          · unfold Halt
            obtain ⟨tq, N7⟩ : ∃ tq, News _ _ _ ((Dr, listOf (rs ++ [Value.ref D']).toArray (nr + 1)) :: (D', tupOf [Value.ref a, Value.int 1 tq, Value.bool true] 0) :: (D2, listOf zs.toArray c2) :: (D, LCg.lst ys) :: (L' + 1 + 1, oG) :: (L' + 1, oE) :: (En, listOf es.toArray nE) :: (Go, listOf gs.toArray nG) :: (Ba, listOf bs.toArray nB) :: (Z ++ (Y ++ R) ++ own)) := ⟨_, N6⟩
            refine InvEndG.intro (nx := (Dr, listOf (rs ++ [Value.ref D']).toArray (nr + 1)) :: (D2, listOf zs.toArray c2) :: (D, LCg.lst ys) :: (L' + 1 + 1, oG) :: (L' + 1, oE) :: (En, listOf es.toArray nE) :: (Go, listOf gs.toArray nG) :: (Ba, listOf bs.toArray nB) :: (((D', tupOf [Value.ref a, Value.int 1 tq, Value.bool true] 0) :: Z) ++ (Y ++ R))) (by assumption) N7 ⟨by simp, ?_, (D', tupOf [Value.ref a, Value.int 1 tq, Value.bool true] 0) :: Z, rs ++ [Value.ref D'], nr + 1, acc ++ [tri k 1], rfl, hDat _ _ _, ?_, ?_, ?_⟩ ?_ (fun q hq => mem_d10 q hq) ?_
            · intro z hz1 _
              simp [hz1]
            · rw [← hrow, edr]; simp [rowOf, ebk, hbk]
            · simp [hrl]
            · intro q hq
              rcases List.mem_cons.mp hq with rfl | hq
              · exact h2D
              · exact hZ q hq
            · intro p hp b hb
              rw [List.mem_map] at hb
              obtain ⟨q, hq, rfl⟩ := hb
              rcases mem_d9 q hq with rfl | rfl | h
              · exact hoo p hp Dr (by simp)
              · exact Nat.ne_of_lt (allLt_mem l5.2.2.2.2.2.2.2.2 p (by simp [hp]))
              · exact hoo p hp q.1 (List.mem_map_of_mem (List.mem_cons_of_mem _ h))
            · intro p hp; simp [hp]
          · exact absurd hbk (by assumption)
        · exact absurd hbk (by assumption)
      · k_steps
        change wpAny _ _ _ _ _ _
        rename_i D' _ F5 N5 l5
        have hrD : Dr < D' := l5.1
        have h2D : D2 < D' := l5.2.1
        refine app_n (news := (Dr, listOf rs.toArray nr) :: _) F5 (fun q hq => N5 q (mem_d5 q hq)) (Upd.head (hoff _ _ hrD)) (by omega) ?_
        intro h6 F6 N6
        clear N5 F5
        k_steps
        all_goals (try (with_reducible change Q2 _ _; subst hq2; (try dsimp only); (try k_steps)))
        all_goals (try (with_reducible change Q1 _ _; subst hq1; (try dsimp only); (try k_steps)))
        refine leaveK_ (by assumption) (by assumption) ?_
        intro kF kN
        refine hQ _ _ Dr ((D', tupOf [.ref a, .int 0 _, .bool true] 0) :: Z ++ Y) _ _ kF (fun q hq => kN q (mem_d6 q hq)) hLr ?_ ?_
        · intro q hq
          have hq' : Dr < q.1 ∨ (q ∈ Y) := by
            rcases List.mem_append.mp hq with h | h
            · rcases List.mem_cons.mp h with rfl | h
              · exact .inl hrD
              · exact .inl (Nat.lt_trans hr2 (hZ q h))
            · exact .inr h
          rcases hq' with h | h
          · exact ⟨fun q' hq' => Nat.lt_trans (hLr q' hq') h, Nat.ne_of_gt h⟩
          · exact ⟨fun q' hq' => Nat.lt_trans (lA q' hq') (hYL q h), Nat.ne_of_lt (hDR q (by simp [h]))⟩
        · have e : acc ++ [tri k 0] = rowOf f rem2 := by rw [← hrow, edr]; simp [rowOf, ebk, hbk]
          rw [← e]
          exact hDat _ _ _
    · rintro u nx h tk ⟨Z, rs, nr, acc, rfl, hacc, hrow, hrl, hZ⟩ F3 N3
      have hrs : rs.length < 800 := by omega
      k_steps
      rename_i l2 hp1 F5 N5 l5 hp2' F6 N6
      all_goals (try (with_reducible change Q1 _ _; subst hq1; (try dsimp only); (try k_steps)))
      refine leaveK_ F6 N6 ?_
      intro kF kN
      dsimp only at kN
      have hlt : ∀ q ∈ (Dr, listOf rs.toArray nr) :: (D2, listOf zs.toArray c2) :: (D, LCg.lst ys) :: (L' + 1 + 1, oG) :: (L' + 1, oE) :: (En, listOf es.toArray nE) :: (Go, listOf gs.toArray nG) :: (Ba, listOf bs.toArray nB) :: (Z ++ (Y ++ R)), q.1 < hp1.objs.size := fun q hq => Heap.lt_size (N5 q (List.mem_cons_of_mem _ hq)).1
      refine hQ _ _ _ (Z ++ Y) _ 0 kF (fun q hq => kN q (mem_d7 q hq)) (fun q hq => hlt q (mem_d8 q hq)) ?_ ?_
      · intro q hq
        have hq1 : (∀ q' ∈ (En, listOf es.toArray nE) :: (Go, listOf gs.toArray nG) :: (Ba, listOf bs.toArray nB) :: R, q'.1 < q.1) := by
          intro q' hq'
          rcases List.mem_append.mp hq with h | h
          · exact Nat.lt_trans (hLr q' hq') (Nat.lt_trans hr2 (hZ q h))
          · exact Nat.lt_trans (lA q' hq') (hYL q h)
        refine ⟨hq1, Nat.ne_of_lt (hlt q ?_)⟩
        rcases List.mem_append.mp hq with h | h <;> simp [h]
      · have e : acc ++ [nothingLeft] = rowOf f rem2 := by
          have hzr : zs.length = rem2.length := by have := hz.length; rwa [List.length_map] at this
          rw [← hrow, hzr, List.drop_length]; rfl
        rw [← e]; exact DatAll.append hacc (DatAll.one (.str _ _))
end
end Mine
end PartDue
section PartNorm
open PySem PySem.W PyProof.Rows PySem.Calls PySem.Spec PyProof.V
set_option maxHeartbeats 8000000
namespace Mine
theorem words_Norm : True := by
  w_top off
  k_with_none
  k_with "pyIter ref" => refine halt ?_
  k_with "InvEndG" => refine halt ?_
  trivial
theorem nrm_1 {α : Type} {a b c d e : α} {R own : List α} : ∀ q ∈ a :: b :: c :: d :: e :: R, q ∈ a :: b :: c :: d :: e :: (R ++ own) :=
  shuf [a, b, c, d, e] [R, own] (Tr.at 0 (Tr.at 1 (Tr.at 2 (Tr.at 3 (Tr.at 4 (Tr.ap (Tr.ls 0) (Tr.ls 1))))))) (Tr.at 0 (Tr.at 1 (Tr.at 2 (Tr.at 3 (Tr.at 4 (Tr.ls 0)))))) rfl rfl
section
local macro_rules | `(tactic| walk_at "exec For Name Name cons nil") => `(tactic| (k_here; (rename Fr _ _ _ _ => lF'); (with_unfolding_all refine' For_invVF lF' ?k1 ?k2 ?_; (case k1 => exact rfl); (case k2 => exact rfl); k_whole)))
theorem normpath_call {w : World} {A : Around} {h₀ : Heap} {L : Addr} {m : Str → Option Value} {s : Shared} {Q : Value → Shared → Prop} {E : Value → Shared → Prop} {R : List (Addr × Obj)} {t : Tok}
   (Z : Site w A h₀ L) (F : Fr h₀ L s.heap m) (N : News h₀ L s.heap R) (hdp : A.depth + 20 < recursionLimit) (hun : A.units + 100 < cLine)
   (hQ : ∀ h' tk t, Fr h₀ L h' m → News h₀ L h' R → Q (.str (Str.ofString "/l") t) { s with heap := h', toks := tk }) :
   wpAny (model PySem.Challenge.rw_oh0014_01.row.prog w) A (call (.ref 84) [.str (Str.ofString "/l") t]) Q E s := by
  obtain ⟨A₀, base, env, outer, p, loose, mean, mg, mb, B, X, T, hA, hf, hk, hh⟩ := Z
  obtain ⟨a1, a2, a3, a4, a5⟩ := A
  dsimp only at hA hh hdp hun
  subst hA
  subst hh
  refine wpAny_call ?_
  k_dflt (refine' kp_both B F X N T rfl hf hk ?k6 ?k7 ?k8 ?kV ?kX ?kQ ?kM ?kN ?kD ?kR ?kP ?kS ?kT ?kB ?_ ?c2 ?c3 ?c4 ?c5; (case k6 => k_is); (case k7 => k_is); (case k8 => k_room); (case kV => kp_lit); (case kX => kp_lit); (case kQ => exact rfl); (case kM => exact rfl); (case kN => exact rfl); (case kD => kp_flats); (case kR => exact rfl); (case kP => exact rfl); (case kS => exact fun _ => rfl); (case kT => exact fun _ _ => rfl); (case kB => exact fun _ _ => locs rfl); (case c5 => decide); (case c2 => exact rfl); (case c3 => exact rfl); (case c4 => exact rfl); k_whole; intro C' D' o' g' L' h' tk' l1 l2 lo' hs' fs' FG' F' N' B' X' T'; (try k_lt l1); (try k_lt2 l2); (try dsimp only); (try k_fold))
  clear N F X T
  k_steps
  change wpAny _ _ _ _ _ _
  rename_i l' _ ll _ Fx Nx
  refine for_one (fun nx => ∃ wv tl, nx = (l', listOf #[Value.str (Str.ofString "l") wv] 1) :: tl ∧ ∀ p ∈ R, p ∈ tl) rfl (.tail _ (.head _)) Fx Nx ?_ ?_
  · intro h tk own ho F3 N3
    simp only [List.cons_append] at N3
    k_steps
    refine app_n (vs := []) (by assumption) (by assumption) (Upd.head ?hoff) (by decide) ?_
    case hoff =>
      intro q hq
      simp only [List.mem_cons, List.mem_append] at hq
      rcases hq with rfl | rfl | rfl | rfl | h | h
      · exact Nat.ne_of_lt ll.1
      · exact Nat.ne_of_lt ll.2.1
      · exact Nat.ne_of_lt ll.2.2.1
      · exact Nat.ne_of_lt ll.2.2.2.1
      · exact Nat.ne_of_lt (allLt_mem ll.2.2.2.2 q h)
      · exact ho q h l' (by simp)
    intro h6 F6 N6
    k_steps
    unfold Halt
    refine InvEndG.intro (nx := _ :: (_ :: _ :: _ :: _ :: R)) (by assumption) N6 ⟨?_, ?_, _, _, rfl, ?_⟩ ?_ (fun q hq => nrm_1 q hq) ?_
    · have e : (Str.ofString "l") = ({ cps := #[108] } : Str) := by decide +kernel
      rw [e]
      exact .tail _ (.head _)
    · intro z hz1 _
      simp [hz1]
    · intro q hq; simp [hq]
    · intro p hp b hb
      exact ho p hp b hb
    · intro q hq; simp [hq]
  · rintro u nx h tk ⟨wv, tl, rfl, htl⟩ F3 N3
    k_steps
    refine leaveK_ (by assumption) (by assumption) ?_
    intro kF kN
    refine hQ _ _ _ kF fun q hq => kN q ?_
    simp [htl q hq, hq]
end
end Mine
end PartNorm
section PartReader
open PySem PySem.W PyProof.Rows PySem.Calls PySem.Spec PyProof.V
set_option maxHeartbeats 8000000
namespace Mine
theorem words_Reader : True := by
  w_top off
  k_with_none
  k_with "truthy ref" => (k_here; (with_reducible show wpAny _ _ (truthy (Value.ref _)) _ _ _); k_dflt (refine' truthy_one (by k_asm) (by k_mem) ?_; k_whole); intro _)
  k_with "call type:set cons nil" => (k_here; k_dflt (refine' newSet_str (by first | assumption | rfl) (by k_asm) (by k_asm) (by k_mem) ?_); intro _ _ _ _ _ _ lzz _; (try k_lt lzz))
  k_with "call ref" => (k_here; (with_reducible show wpAny _ _ (call (Value.ref 84) [_]) _ _ _); k_dflt (refine' normpath_call ⟨_, _, _, _, _, _, _, _, _, (by k_asm), (by k_asm), (by k_asm), rfl, rfl, rfl, rfl⟩ (by k_asm) (by k_asm) (by k_room) (by ((simp only [units_under_make, units_deeper, units_in1, units_caller]); (try dsimp only); omega)) ?_; k_whole); intro _ _ _ _ _)
  trivial
theorem truthy_one {prog : Program} {w : World} {A : Around} {E : Value → Shared → Prop} {s : Shared} {h₀ : Heap} {L l : Addr} {v : Value} {n : Nat} {news : List (Addr × Obj)} {Q : Bool → Shared → Prop} (N : News h₀ L s.heap news) (hm : (l, listOf #[v] n) ∈ news)
    (h : ∀ tk, Q true { s with toks := tk }) : wpAny (model prog w) A (truthy (.ref l)) Q E s :=
  wpAny_truthy_list (News.isList N hm) (by show ((1 : Nat) : Int) < 2 ^ 63; decide) (h _)
theorem rd_mem2 {α : Type} {g x d s l a : α} {R : List α} : ∀ q ∈ g :: x :: d :: s :: l :: R, q ∈ g :: l :: s :: x :: d :: a :: R :=
  shuf [g, x, d, s, l, a] [R] (Tr.at 0 (Tr.at 4 (Tr.at 3 (Tr.at 1 (Tr.at 2 (Tr.at 5 (Tr.ls 0))))))) (Tr.at 0 (Tr.at 1 (Tr.at 2 (Tr.at 3 (Tr.at 4 (Tr.ls 0)))))) rfl rfl
theorem rd_mem3 {α : Type} {g x d s l a b : α} {R : List α} : ∀ q ∈ g :: x :: d :: s :: l :: R, q ∈ g :: l :: s :: x :: d :: a :: b :: R :=
  shuf [g, x, d, s, l, a, b] [R] (Tr.at 0 (Tr.at 4 (Tr.at 3 (Tr.at 1 (Tr.at 2 (Tr.at 5 (Tr.at 6 (Tr.ls 0)))))))) (Tr.at 0 (Tr.at 1 (Tr.at 2 (Tr.at 3 (Tr.at 4 (Tr.ls 0)))))) rfl rfl
theorem rd_mem {α : Type} {g x d s l : α} {R : List α} : ∀ q ∈ g :: ([x, d, s, l] ++ R), q ∈ g :: l :: s :: x :: d :: R :=
  shuf [g, x, d, s, l] [R] (Tr.at 0 (Tr.at 4 (Tr.at 3 (Tr.at 1 (Tr.at 2 (Tr.ls 0)))))) (Tr.at 0 (Tr.ap (Tr.at 1 (Tr.at 2 (Tr.at 3 (Tr.at 4 Tr.nil)))) (Tr.ls 0))) rfl rfl
section
theorem reader_new {w : World} {A : Around} {h₀ : Heap} {L : Addr} {m : Str → Option Value} {s : Shared} {Q : Value → Shared → Prop} {E : Value → Shared → Prop} {R : List (Addr × Obj)}
   (Z : Site w A h₀ L) (F : Fr h₀ L s.heap m) (N : News h₀ L s.heap R) (hdp : A.depth + 40 < recursionLimit) (hun : A.units + 150 < cLine)
   (hQ : ∀ rd dx sm dl ig h1 h2 h3 t1 t2 t3 nd nl b oI kvs h' tk, Fr h₀ L h' m → News h₀ L h' ((ig, oI) :: (rdLed rd dx sm dl ig h1 h2 h3 t1 t2 t3 nd nl b ++ R)) → oI.IsDictOf (PySem.strKind PySem.Challenge.rw_oh0014_01.row.prog w) kvs → FlatPairs PyData.str kvs [(.str (Str.ofString "<string>"), .int 1)] →
     (ig == sysModules) = false → (∀ q ∈ R, q.1 < dx) → dx < rd → rd < sm → sm < dl → dl < ig → Q (.ref rd) { s with heap := h', toks := tk }) :
   wpAny (model PySem.Challenge.rw_oh0014_01.row.prog w) A (call (.ref 107) []) Q E s := by
  obtain ⟨A₀, base, env, outer, p, loose, mean, mg, mb, B, X, T, hA, hf, hk, hh⟩ := Z
  obtain ⟨a1, a2, a3, a4, a5⟩ := A
  dsimp only at hA hh hdp hun
  subst hA
  subst hh
  k_dflt (refine' call_cls ?k1 ?k2 ?k3 ?k4 ?k5 ?k6 ?_; (case k1 => k_asm); (case k2 => k_asm); (case k3 => k_asm); (case k4 => k_is); (case k5 => k_is); (case k6 => k_is); k_whole; intro x' d' h' F' N' l1 l2; (try k_lt l1); (try k_lt2 l2))
  k_dflt (refine' code_def (binds := [(Str.ofString "self", .ref x'), (Str.ofString "modules", .none), (Str.ofString "dirs", .none)]) B F' X N' T rfl hf hk ?k6 ?k7 ?k8 ?k9 ?kB ?_ ?c2 ?c3 ?c4 ?c5; (case k6 => k_is); (case k7 => k_is); (case k8 => k_room); (case k9 => first | exact BindsTo.of_eq rfl | exact binds_K (by k_in) rfl (by k_is) rfl rfl rfl); (case c5 => decide); (case kB => exact locs rfl); (case c2 => exact rfl); (case c3 => exact rfl); (case c4 => exact rfl); k_whole; intro g' L' h'' FG' F'' N'' B' X' T'; (try dsimp only); (try k_fold))
  clear N F X T N' F'
  k_steps
  refine leaveK_ (by assumption) (by assumption) ?_
  intro kF kN
  refine ⟨rfl, ?_⟩
  refine hQ x' d' _ _ _ _ _ _ _ _ _ _ _ _ _ _ _ _ kF (fun q hq => kN q (rd_mem q hq)) (by assumption) (by assumption) (by assumption) l1 l2 ?_ ?_ ?_
  · refine And.left (b := ?b1) ?_; rotate_left; assumption
  · refine And.left (b := ?b2) ?_; rotate_left; assumption
  · refine And.left (b := ?b3) ?_; rotate_left; assumption
theorem reader_one {w : World} {A : Around} {h₀ : Heap} {L : Addr} {m : Str → Option Value} {s : Shared} {Q : Value → Shared → Prop} {E : Value → Shared → Prop} {R : List (Addr × Obj)} {l : Addr} {tl : Tok}
   (Z : Site w A h₀ L) (F : Fr h₀ L s.heap m) (N : News h₀ L s.heap ((l, listOf #[.str (Str.ofString "a") tl] 0) :: R)) (hdp : A.depth + 40 < recursionLimit) (hun : A.units + 150 < cLine)
   (hQ : ∀ rd dx sm dl ig h1 h2 h3 t1 t2 t3 nd nl oS oI kvs h' tk, Fr h₀ L h' m → News h₀ L h' ((ig, oI) :: (rd, ({ cls := .ref 107, dict := some dx } : Obj)) :: (dx, dictOf (rdDict h1 h2 h3 t1 t2 t3 sm dl ig) nd) :: (sm, oS) :: (dl, listOf #[] nl) :: R) → oI.IsDictOf (PySem.strKind PySem.Challenge.rw_oh0014_01.row.prog w) kvs → FlatPairs PyData.str kvs [(.str (Str.ofString "<string>"), .int 1)] →
     oS.SetObjOf (PySem.strKind PySem.Challenge.rw_oh0014_01.row.prog w) (fun k => decide (k = Str.ofString "a")) 1 → (ig == sysModules) = false → (∀ q ∈ R, q.1 < dx) → dx < rd → rd < sm → sm < dl → dl < ig → Q (.ref rd) { s with heap := h', toks := tk }) :
   wpAny (model PySem.Challenge.rw_oh0014_01.row.prog w) A (call (.ref 107) [.ref l]) Q E s := by
  obtain ⟨A₀, base, env, outer, p, loose, mean, mg, mb, B, X, T, hA, hf, hk, hh⟩ := Z
  obtain ⟨a1, a2, a3, a4, a5⟩ := A
  dsimp only at hA hh hdp hun
  subst hA
  subst hh
  k_dflt (refine' call_cls ?k1 ?k2 ?k3 ?k4 ?k5 ?k6 ?_; (case k1 => k_asm); (case k2 => k_asm); (case k3 => k_asm); (case k4 => k_is); (case k5 => k_is); (case k6 => k_is); k_whole; intro x' d' h' F' N' l1 l2; (try k_lt l1); (try k_lt2 l2))
  k_dflt (refine' code_def (binds := [(Str.ofString "self", .ref x'), (Str.ofString "modules", .ref l), (Str.ofString "dirs", .none)]) B F' X N' T rfl hf hk ?k6 ?k7 ?k8 ?k9 ?kB ?_ ?c2 ?c3 ?c4 ?c5; (case k6 => k_is); (case k7 => k_is); (case k8 => k_room); (case k9 => first | exact BindsTo.of_eq rfl | exact binds_K (by k_in) rfl (by k_is) rfl rfl rfl); (case c5 => decide); (case kB => exact locs rfl); (case c2 => exact rfl); (case c3 => exact rfl); (case c4 => exact rfl); k_whole; intro g' L' h'' FG' F'' N'' B' X' T'; (try dsimp only); (try k_fold))
  clear N F X T N' F'
  k_steps
  refine leaveK_ (by assumption) (by assumption) ?_
  intro kF kN
  refine ⟨rfl, ?_⟩
  refine hQ x' d' _ _ _ _ _ _ _ _ _ _ _ _ _ _ _ _ kF (fun q hq => kN q (rd_mem2 q hq)) (by assumption) (by assumption) (by assumption) (by assumption) (allLt_mem l1.2) l2 ?_ ?_ ?_
  · refine And.left (b := ?b1) ?_; rotate_left; assumption
  · refine And.left (b := ?b2) ?_; rotate_left; assumption
  · refine And.left (b := ?b3) ?_; rotate_left; assumption
theorem reader_far {w : World} {A : Around} {h₀ : Heap} {L : Addr} {m : Str → Option Value} {s : Shared} {Q : Value → Shared → Prop} {E : Value → Shared → Prop} {R : List (Addr × Obj)} {l d : Addr} {td : Tok}
   (Z : Site w A h₀ L) (F : Fr h₀ L s.heap m) (N : News h₀ L s.heap ((d, listOf #[.str (Str.ofString "/l") td] 0) :: (l, listOf #[] 0) :: R)) (hdp : A.depth + 40 < recursionLimit) (hun : A.units + 150 < cLine)
   (hQ : ∀ rd dx sm dl ig h1 h2 h3 t1 t2 t3 nd nl b tq oI kvs h' tk, Fr h₀ L h' m → News h₀ L h' ((ig, oI) :: (rd, ({ cls := .ref 107, dict := some dx } : Obj)) :: (dx, dictOf (rdDict h1 h2 h3 t1 t2 t3 sm dl ig) nd) :: (sm, esetObj b) :: (dl, listOf #[.str (Str.ofString "/l") tq] nl) :: R) → oI.IsDictOf (PySem.strKind PySem.Challenge.rw_oh0014_01.row.prog w) kvs → FlatPairs PyData.str kvs [(.str (Str.ofString "<string>"), .int 1)] →
     (ig == sysModules) = false → (∀ q ∈ R, q.1 < dx) → dx < rd → rd < sm → sm < ig → dl < ig → Q (.ref rd) { s with heap := h', toks := tk }) :
   wpAny (model PySem.Challenge.rw_oh0014_01.row.prog w) A (call (.ref 107) [.ref l, .ref d]) Q E s := by
  obtain ⟨A₀, base, env, outer, p, loose, mean, mg, mb, B, X, T, hA, hf, hk, hh⟩ := Z
  obtain ⟨a1, a2, a3, a4, a5⟩ := A
  dsimp only at hA hh hdp hun
  subst hA
  subst hh
  k_dflt (refine' call_cls ?k1 ?k2 ?k3 ?k4 ?k5 ?k6 ?_; (case k1 => k_asm); (case k2 => k_asm); (case k3 => k_asm); (case k4 => k_is); (case k5 => k_is); (case k6 => k_is); k_whole; intro x' d' h' F' N' l1 l2; (try k_lt l1); (try k_lt2 l2))
  k_dflt (refine' code_def (binds := [(Str.ofString "self", .ref x'), (Str.ofString "modules", .ref l), (Str.ofString "dirs", .ref d)]) B F' X N' T rfl hf hk ?k6 ?k7 ?k8 ?k9 ?kB ?_ ?c2 ?c3 ?c4 ?c5; (case k6 => k_is); (case k7 => k_is); (case k8 => k_room); (case k9 => first | exact BindsTo.of_eq rfl | exact binds_K (by k_in) rfl (by k_is) rfl rfl rfl); (case c5 => decide); (case kB => exact locs rfl); (case c2 => exact rfl); (case c3 => exact rfl); (case c4 => exact rfl); k_whole; intro g' L' h'' FG' F'' N'' B' X' T'; (try dsimp only); (try k_fold))
  clear N F X T N' F'
  k_steps
  refine LCg.CompEnd.intro (by assumption) (by assumption) _ (fun p hp => hp) ?off (.inr ⟨_, .tail _ (.tail _ (.tail _ (.head _))), rfl, _, rfl⟩) ?_
  case off => with_unfolding_all assumption
  k_steps
  rename _ < _ ∧ _ < _ ∧ _ < _ ∧ _ < _ ∧ _ < _ ∧ _ < _ ∧ AllLt _ _ => c9
  rename _ < _ ∧ _ < _ ∧ _ < _ ∧ _ < _ ∧ AllLt _ _ => c8
  refine leaveK_ (by assumption) (by assumption) ?_
  intro kF kN
  refine ⟨rfl, ?_⟩
  exact hQ x' d' _ _ _ _ _ _ _ _ _ _ _ _ _ _ _ _ _ kF (fun q hq => kN q (rd_mem3 q hq)) (by assumption) (by assumption) (by assumption) (allLt_mem l1.2.2) l2 c8.1 c9.2.1 c9.1
end
end Mine
end PartReader
section PartNamesB
open PySem PySem.W PyProof.Rows PySem.Calls PySem.Spec PyProof.V
set_option maxHeartbeats 8000000
namespace Mine
theorem words_NamesB : True := by
  w_top off
  k_with_none
  k_with "compareOp In str ref" => (k_here; k_dflt (refine' in_oset (by k_asm) (by k_mem) (by assumption) ?_); intro _)
  k_with "compareOp In str ref" => (k_here; k_dflt (refine' in_eset (by k_asm) (by k_mem) ?_); intro _)
  k_with "pyIter ref" => (k_here; first | (k_dflt (refine' for_eset (by assumption) (by k_asm) (by k_asm) (by k_mem) ?_); intro _ _ _ _; (try k_sweep)) | refine halt ?_)
  k_with "InvEndG" => refine halt ?_
  trivial
theorem in_oset {prog : Program} {w : World} {A : Around} {E : Value → Shared → Prop} {s : Shared} {h₀ : Heap} {L sm : Addr} {oS : Obj} {news : List (Addr × Obj)} {x : Str} {t : Tok} {Q : Value → Shared → Prop} (N : News h₀ L s.heap news) (hm : (sm, oS) ∈ news)
    (hS : oS.SetObjOf (PySem.strKind prog w) (fun k => decide (k = x)) 1) (h : ∀ tk, Q (.bool true) { s with toks := tk }) : wpAny (model prog w) A (compareOp .In (.str x t) (.ref sm)) Q E s := by
  refine wpAny_inSet_of (knd := PySem.strKind prog w) (k := x) (S := fun k => decide (k = x)) (strKind_is prog w x t) rfl (hS.setOf (N _ hm).1 (by decide)) ?_
  rw [decide_eq_true rfl]
  exact h _
theorem nb_1 {α} {a b c d : α} {R own : List α} : ∀ q ∈ a :: b :: c :: d :: (R ++ own), q ∈ a :: b :: c :: d :: R ∨ q ∈ own := by
  intro p hp; simp only [List.mem_cons, List.mem_append] at hp ⊢; grind
theorem nb_2 {α : Type} {g a b c d : α} {R own : List α} : ∀ q ∈ g :: a :: b :: c :: d :: R, q ∈ g :: a :: b :: c :: d :: (R ++ own) :=
  shuf [g, a, b, c, d] [R, own] (Tr.at 0 (Tr.at 1 (Tr.at 2 (Tr.at 3 (Tr.at 4 (Tr.ap (Tr.ls 0) (Tr.ls 1))))))) (Tr.at 0 (Tr.at 1 (Tr.at 2 (Tr.at 3 (Tr.at 4 (Tr.ls 0)))))) rfl rfl
section
theorem names_one {w : World} {A : Around} {h₀ : Heap} {L : Addr} {m : Str → Option Value} {s : Shared} {Q : Value → Shared → Prop} {E : Value → Shared → Prop}
   {rd dx sm dl ig : Addr} {h1 h2 h3 : Int} {t1 t2 t3 tx : Tok} {nd nl : Nat} {oS oI : Obj} {kvs : List (Str × Value)} {Dt : List (PyData × PyData)} {R : List (Addr × Obj)} {x : Str} {fv : Value}
   (Z : Site w A h₀ L) (F : Fr h₀ L s.heap m)
   (N : News h₀ L s.heap ((ig, oI) :: (rd, ({ cls := .ref 107, dict := some dx } : Obj)) :: (dx, dictOf (rdDict h1 h2 h3 t1 t2 t3 sm dl ig) nd) :: (sm, oS) :: (dl, listOf #[] nl) :: R))
   (hS : oS.SetObjOf (PySem.strKind PySem.Challenge.rw_oh0014_01.row.prog w) (fun k => decide (k = x)) 1)
   (hI : oI.IsDictOf (PySem.strKind PySem.Challenge.rw_oh0014_01.row.prog w) kvs) (hF : FlatPairs PyData.str kvs Dt) (hig : (ig == sysModules) = false) (hR : ∀ p ∈ (rd, ({ cls := .ref 107, dict := some dx } : Obj)) :: (dx, dictOf (rdDict h1 h2 h3 t1 t2 t3 sm dl ig) nd) :: (sm, oS) :: (dl, listOf #[] nl) :: R, p.1 ≠ ig)
   (hdp : A.depth + 7 < recursionLimit) (hun : A.units + 50 < cLine) (hl : Spec.lookup (PyData.str x) Dt = none) (hz : Dt.length < 1000)
   (hQ : ∀ h' tk t, Fr h₀ L h' m → News h₀ L h' R → Q (.int 1 t) { s with heap := h', toks := tk }) :
   wpAny (model PySem.Challenge.rw_oh0014_01.row.prog w) A (call (.ref 104) [.ref rd, fv, .str x tx]) Q E s := by
  obtain ⟨A₀, base, env, outer, p, loose, mean, mg, mb, B, X, T, hA, hf, hk, hh⟩ := Z
  refine wpAny_call ?_
  k_dflt (refine' code_def (binds := [(Str.ofString "self", .ref rd), (Str.ofString "filename", fv), (Str.ofString "modulename", .str x tx)]) B F X N T hA hf hk ?k6 ?k7 ?k8 ?k9 ?kB ?_ ?c2 ?c3 ?c4 ?c5; (case k6 => k_is); (case k7 => k_is); (case k8 => omega); (case k9 => exact BindsTo.of_eq rfl); (case c5 => decide); (case kB => exact locs rfl); (case c2 => exact rfl); (case c3 => exact rfl); (case c4 => exact rfl); k_whole; intro g' L' h' FG' F' N' B' X' T'; (try dsimp only); (try k_fold))
  clear N F X T
  k_steps
  all_goals (try (exfalso; simp_all; done))
  refine leaveK_ (by assumption) (by assumption) ?_
  intro kF kN
  exact hQ _ _ _ kF fun q hq => kN q (by simp [hq])
end
section
theorem names_far1 {w : World} {A : Around} {h₀ : Heap} {L : Addr} {m : Str → Option Value} {s : Shared} {Q : Value → Shared → Prop} {E : Value → Shared → Prop}
   {rd dx sm dl ig : Addr} {h1 h2 h3 : Int} {t1 t2 t3 tx tf tq : Tok} {nd nl : Nat} {b : Bool} {oI : Obj} {kvs : List (Str × Value)} {Dt : List (PyData × PyData)} {R : List (Addr × Obj)} {x : Str}
   (Z : Site w A h₀ L) (F : Fr h₀ L s.heap m)
   (N : News h₀ L s.heap ((ig, oI) :: (rd, ({ cls := .ref 107, dict := some dx } : Obj)) :: (dx, dictOf (rdDict h1 h2 h3 t1 t2 t3 sm dl ig) nd) :: (sm, esetObj b) :: (dl, listOf #[.str (Str.ofString "/l") tq] nl) :: R))
   (hI : oI.IsDictOf (PySem.strKind PySem.Challenge.rw_oh0014_01.row.prog w) kvs) (hF : FlatPairs PyData.str kvs Dt) (hig : (ig == sysModules) = false) (hR : ∀ p ∈ (rd, ({ cls := .ref 107, dict := some dx } : Obj)) :: (dx, dictOf (rdDict h1 h2 h3 t1 t2 t3 sm dl ig) nd) :: (sm, esetObj b) :: (dl, listOf #[.str (Str.ofString "/l") tq] nl) :: R, p.1 ≠ ig)
   (hdp : A.depth + 7 < recursionLimit) (hun : A.units + 50 < cLine) (hl : Spec.lookup (PyData.str x) Dt = none) (hz : Dt.length < 1000)
   (hQ : ∀ h' tk t oI' kvs', Fr h₀ L h' m → News h₀ L h' ((ig, oI') :: (rd, ({ cls := .ref 107, dict := some dx } : Obj)) :: (dx, dictOf (rdDict h1 h2 h3 t1 t2 t3 sm dl ig) nd) :: (sm, esetObj b) :: (dl, listOf #[.str (Str.ofString "/l") tq] nl) :: R) →
      oI'.IsDictOf (PySem.strKind PySem.Challenge.rw_oh0014_01.row.prog w) kvs' → FlatPairs PyData.str kvs' (putD (.str x) (.int 1) Dt) → Q (.int 1 t) { s with heap := h', toks := tk }) :
   wpAny (model PySem.Challenge.rw_oh0014_01.row.prog w) A (call (.ref 104) [.ref rd, .str (Str.ofString "/l/f.py") tf, .str x tx]) Q E s := by
  obtain ⟨A₀, base, env, outer, p, loose, mean, mg, mb, B, X, T, hA, hf, hk, hh⟩ := Z
  refine wpAny_call ?_
  k_dflt (refine' code_def (binds := [(Str.ofString "self", .ref rd), (Str.ofString "filename", .str (Str.ofString "/l/f.py") tf), (Str.ofString "modulename", .str x tx)]) B F X N T hA hf hk ?k6 ?k7 ?k8 ?k9 ?kB ?_ ?c2 ?c3 ?c4 ?c5; (case k6 => k_is); (case k7 => k_is); (case k8 => omega); (case k9 => exact BindsTo.of_eq rfl); (case c5 => decide); (case kB => exact locs rfl); (case c2 => exact rfl); (case c3 => exact rfl); (case c4 => exact rfl); k_whole; intro g' L' h' FG' F' N' B' X' T'; (try dsimp only); (try k_fold))
  clear N F X T
  k_steps
  all_goals (try (exfalso; simp_all; done))
  change wpAny _ _ _ _ _ _
  refine for_one (fun _ => False) hh (.tail _ (.tail _ (.tail _ (.tail _ (.head _))))) (by k_asm) (by assumption) ?_ ?_
  · intro h tk own ho F3 N3
    simp only [List.cons_append] at N3
    have hR' : ∀ p ∈ (rd, ({ cls := .ref 107, dict := some dx } : Obj)) :: (dx, dictOf (rdDict h1 h2 h3 t1 t2 t3 sm dl ig) nd) :: (sm, esetObj b) :: (dl, listOf #[.str (Str.ofString "/l") tq] nl) :: (R ++ own), p.1 ≠ ig := by
      intro q hq
      rcases nb_1 q hq with h | h
      · exact hR q h
      · exact ho q h ig (by simp)
    k_steps
    refine leaveK_ (by assumption) (by assumption) ?_
    intro kF kN
    exact hQ _ _ _ _ _ kF (fun q hq => kN q (nb_2 q hq)) (by assumption) (by assumption)
  · intro u nx h tk hP
    exact hP.elim
theorem names_far2 {w : World} {A : Around} {h₀ : Heap} {L : Addr} {m : Str → Option Value} {s : Shared} {Q : Value → Shared → Prop} {E : Value → Shared → Prop}
   {rd dx sm dl ig : Addr} {h1 h2 h3 : Int} {t1 t2 t3 tx tf tq : Tok} {nd nl : Nat} {b : Bool} {oI : Obj} {kvs : List (Str × Value)} {Dt : List (PyData × PyData)} {R : List (Addr × Obj)} {x : Str}
   (Z : Site w A h₀ L) (F : Fr h₀ L s.heap m)
   (N : News h₀ L s.heap ((ig, oI) :: (rd, ({ cls := .ref 107, dict := some dx } : Obj)) :: (dx, dictOf (rdDict h1 h2 h3 t1 t2 t3 sm dl ig) nd) :: (sm, esetObj b) :: (dl, listOf #[.str (Str.ofString "/l") tq] nl) :: R))
   (hI : oI.IsDictOf (PySem.strKind PySem.Challenge.rw_oh0014_01.row.prog w) kvs) (hF : FlatPairs PyData.str kvs Dt) (hig : (ig == sysModules) = false) (hR : ∀ p ∈ (rd, ({ cls := .ref 107, dict := some dx } : Obj)) :: (dx, dictOf (rdDict h1 h2 h3 t1 t2 t3 sm dl ig) nd) :: (sm, esetObj b) :: (dl, listOf #[.str (Str.ofString "/l") tq] nl) :: R, p.1 ≠ ig)
   (hdp : A.depth + 7 < recursionLimit) (hun : A.units + 50 < cLine) (hl : Spec.lookup (PyData.str x) Dt = none) (hz : Dt.length < 1000)
   (hQ : ∀ h' tk t oI' kvs', Fr h₀ L h' m → News h₀ L h' ((ig, oI') :: (rd, ({ cls := .ref 107, dict := some dx } : Obj)) :: (dx, dictOf (rdDict h1 h2 h3 t1 t2 t3 sm dl ig) nd) :: (sm, esetObj b) :: (dl, listOf #[.str (Str.ofString "/l") tq] nl) :: R) →
      oI'.IsDictOf (PySem.strKind PySem.Challenge.rw_oh0014_01.row.prog w) kvs' → FlatPairs PyData.str kvs' (putD (.str x) (.int 0) Dt) → Q (.int 0 t) { s with heap := h', toks := tk }) :
   wpAny (model PySem.Challenge.rw_oh0014_01.row.prog w) A (call (.ref 104) [.ref rd, .str (Str.ofString "/m/f.py") tf, .str x tx]) Q E s := by
  obtain ⟨A₀, base, env, outer, p, loose, mean, mg, mb, B, X, T, hA, hf, hk, hh⟩ := Z
  refine wpAny_call ?_
  k_dflt (refine' code_def (binds := [(Str.ofString "self", .ref rd), (Str.ofString "filename", .str (Str.ofString "/m/f.py") tf), (Str.ofString "modulename", .str x tx)]) B F X N T hA hf hk ?k6 ?k7 ?k8 ?k9 ?kB ?_ ?c2 ?c3 ?c4 ?c5; (case k6 => k_is); (case k7 => k_is); (case k8 => omega); (case k9 => exact BindsTo.of_eq rfl); (case c5 => decide); (case kB => exact locs rfl); (case c2 => exact rfl); (case c3 => exact rfl); (case c4 => exact rfl); k_whole; intro g' L' h' FG' F' N' B' X' T'; (try dsimp only); (try k_fold))
  clear N F X T
  k_steps
  all_goals (try (exfalso; simp_all; done))
  change wpAny _ _ _ _ _ _
  refine for_one (fun nx => nx = (ig, oI) :: (rd, ({ cls := .ref 107, dict := some dx } : Obj)) :: (dx, dictOf (rdDict h1 h2 h3 t1 t2 t3 sm dl ig) nd) :: (sm, esetObj b) :: (dl, listOf #[.str (Str.ofString "/l") tq] nl) :: R) hh (.tail _ (.tail _ (.tail _ (.tail _ (.head _))))) (by k_asm) (by assumption) ?_ ?_
  · intro h tk own ho F3 N3
    simp only [List.cons_append] at N3
    k_steps
    unfold Halt
    refine InvEndG.intro (by assumption) N3 ⟨?_, ?_, rfl⟩ ho (fun q hq => nb_2 q hq) (fun q hq => by simp [hq])
    · simp
    · intro z hz1 _
      simp [hz1]
  · rintro u nx h tk rfl F3 N3
    k_steps
    refine leaveK_ (by assumption) (by assumption) ?_
    intro kF kN
    exact hQ _ _ _ _ _ kF kN (by assumption) (by assumption)
end
end Mine
end PartNamesB
section PartRising
open PySem PySem.W PyProof.Rows PySem.Calls PySem.Spec PyProof.V
set_option maxHeartbeats 8000000
namespace Mine
theorem words_Rising : True := by
  w_top off
  k_with_none
  k_with "pyIter ref" => refine halt ?_
  k_with "InvEndG" => refine halt ?_
  k_with "call ref" => refine halt ?_
  k_with "eval ListComp" => refine halt ?_
  k_with "CompSrc" => refine halt ?_
  k_with "CompEnd" => refine halt ?_
  trivial
/-- the whole numbers from i + 1 on, as keys -/
noncomputable def rk (i n : Nat) : List (Int × Int) := (List.range n).map fun j : Nat => ((i : Int) + 1 + (j : Int), (0 : Int))
theorem rk_succ (i n : Nat) : rk i (n + 1) = ((i : Int) + 1, 0) :: rk (i + 1) n := by
  unfold rk
  rw [List.range_succ_eq_map, List.map_cons, List.map_map]
  congr 1
  refine List.map_congr_left fun j _ => ?_
  simp only [Function.comp, Prod.mk.injEq, and_true]
  omega
theorem rk_sorted (i n : Nat) : SortedK (rk i n) := by
  unfold SortedK rk
  rw [List.pairwise_map]
  refine List.Pairwise.imp ?_ List.pairwise_lt_range
  intro a b h
  rw [lexlt_false]
  simp only
  omega
theorem intsAre_snoc {vs : List Value} {ns : List Int} {i : Int} {t : Tok} (h : IntsAre vs ns) : IntsAre (vs ++ [.int i t]) (ns ++ [i]) := by
  induction h with
  | nil => exact .cons _ _ .nil
  | cons _ _ _ ih => exact .cons _ _ ih
theorem ri_1 {α : Type} {I C D H c : α} {R : List α} : ∀ q ∈ H :: (I :: C :: D :: c :: R), q ∈ I :: C :: D :: H :: c :: R :=
  shuf [I, C, D, H, c] [R] (Tr.at 0 (Tr.at 1 (Tr.at 2 (Tr.at 3 (Tr.at 4 (Tr.ls 0)))))) (Tr.at 3 (Tr.at 0 (Tr.at 1 (Tr.at 2 (Tr.at 4 (Tr.ls 0)))))) rfl rfl
theorem ri_3 {α : Type} {H c : α} {R own : List α} : ∀ q ∈ H :: c :: R, q ∈ H :: c :: (R ++ own) :=
  shuf [H, c] [R, own] (Tr.at 0 (Tr.at 1 (Tr.ap (Tr.ls 0) (Tr.ls 1)))) (Tr.at 0 (Tr.at 1 (Tr.ls 0))) rfl rfl
theorem ri_4 {α : Type} {D H c : α} {R : List α} : ∀ q ∈ D :: R, q ∈ D :: H :: c :: R :=
  shuf [D, H, c] [R] (Tr.at 0 (Tr.at 1 (Tr.at 2 (Tr.ls 0)))) (Tr.at 0 (Tr.ls 0)) rfl rfl
theorem off1_mem {D : Addr} : ∀ {l : List (Addr × Obj)}, LCg.Off1 D l → ∀ q ∈ l, q.1 ≠ D
  | [], _, _, h => nomatch h
  | _ :: _, h, q, hq => by
    rcases List.mem_cons.mp hq with rfl | hq
    · exact h.1
    · exact off1_mem h.2 q hq
theorem ri_5 {D : Addr} {a c : Addr × Obj} {R : List (Addr × Obj)} (h : LCg.Off1 D (a :: c :: R)) : ∀ q ∈ R, q.1 ≠ D := fun q hq => off1_mem h q (by simp [hq])
theorem ri_2 {α : Type} {I C D H c : α} {R : List α} : ∀ q ∈ I :: C :: D :: H :: c :: R, q ∈ H :: (I :: C :: D :: c :: R) :=
  shuf [I, C, D, H, c] [R] (Tr.at 3 (Tr.at 0 (Tr.at 1 (Tr.at 2 (Tr.at 4 (Tr.ls 0)))))) (Tr.at 0 (Tr.at 1 (Tr.at 2 (Tr.at 3 (Tr.at 4 (Tr.ls 0)))))) rfl rfl
section
theorem rising_call {w : World} {A : Around} {h₀ : Heap} {L : Addr} {m : Str → Option Value} {s : Shared} {Q : Value → Shared → Prop} {E : Value → Shared → Prop} {R : List (Addr × Obj)} {t : Tok}
   (Z : Site w A h₀ L) (F : Fr h₀ L s.heap m) (N : News h₀ L s.heap R) (hdp : A.depth + 20 < recursionLimit) (hun : A.units + 100 < cLine)
   (hQ : ∀ h' tk D ys n, Fr h₀ L h' m → News h₀ L h' ((D, listOf ys.toArray n) :: R) → (∀ q ∈ R, q.1 ≠ D) → IntsAre ys ((List.range 18).map fun i : Nat => ((i : Int) + 1)) → Q (.ref D) { s with heap := h', toks := tk }) :
   wpAny (model PySem.Challenge.rw_oh0014_01.row.prog w) A (call (.ref 133) [.int 18 t]) Q E s := by
  obtain ⟨A₀, base, env, outer, p, loose, mean, mg, mb, B, X, T, hA, hf, hk, hh⟩ := Z
  refine wpAny_call ?_
  k_dflt (refine' code_defC (binds := [(Str.ofString "size", .int 18 t)]) B F X N T hA hf hk ?k6 ?k7 ?k8 ?k9 ?kB ?kD ?_ ?c2 ?c3 ?c4; (case k6 => k_is); (case k7 => k_is); (case k8 => omega); (case k9 => exact BindsTo.of_eq rfl); (case kB => exact rfl); (case kD => decide +kernel); (case c2 => exact rfl); (case c3 => exact rfl); (case c4 => exact rfl); k_whole; intro g' L' h' tk' cells' FG' F' N' Y' B' X' T' l1; (try k_lt l1); k_cells Y'; (try simp only [List.cons_append, List.nil_append] at N'); (try dsimp only); (try k_fold))
  clear N F X T
  have hRc : ∀ q ∈ R, q.1 ≠ L' + 1 := fun q hq => Nat.ne_of_lt (Nat.lt_succ_of_lt (l1 q hq))
  refine hideX ?_
  intro Q1 hq1
  k_steps
  change wpAny _ _ _ _ _ _
  obtain ⟨H, oC, hlt, hdat, Ng⟩ : ∃ H oC, (L' + 1 < H ∧ AllLt H R) ∧ oC.data = Data.cell (some (.ref H)) ∧ News g' L' _ ((H, listOf #[] 0) :: (L' + 1, oC) :: R) := ⟨_, _, by assumption, by assumption, by assumption⟩
  have hRH : ∀ q ∈ R, q.1 ≠ H := fun q hq => Nat.ne_of_lt (allLt_mem hlt.2 q hq)
  have hcH : L' + 1 ≠ H := Nat.ne_of_lt hlt.1
  refine for_rng (n := 18) [] (fun i nx => ∃ vs nv, nx = (H, listOf vs.toArray nv) :: (L' + 1, oC) :: R ∧ vs.length = i ∧ (∀ v ∈ vs, ∃ i t, v = Value.int i t) ∧ IsHeap intKey vs ∧ (vs.map intKey).Perm ((List.range i).map fun j : Nat => ((18 : Int) - (j : Int), (0 : Int)))) hh (by assumption) (by decide) (by decide) (by k_asm) Ng ⟨[], 0, rfl, rfl, fun v hv => absurd hv (List.not_mem_nil), fun i _ hi => absurd hi (Nat.not_lt_zero _), List.Perm.nil⟩ ?_ ?_
  · rintro i tv u nx h tk own hi ho ⟨vs, nv, rfl, hvl, hS, hH, hP⟩ F3 N3
    simp only [List.cons_append] at N3
    refine hideX ?_
    intro Q2 hq2
    k_steps
    change wpAny _ _ _ _ _ _
    refine heappush_call (S := fun v => ∃ i t, v = Value.int i t) (key := intKey) (Site.deeper B' X' T' hh) (by k_asm) N3 (dle1 hdp) (ule3 hun) ?hR (by omega) (cmp_ints _) hS ⟨_, _, rfl⟩ ?_
    case hR =>
      intro q hq
      simp only [List.mem_cons, List.mem_append] at hq
      rcases hq with rfl | h | h
      · exact hcH
      · exact hRH q h
      · exact ho q h H (by simp)
    intro h4 tk4 F4 N4
    clear N3
    k_steps
    all_goals (try (with_reducible change Q2 _ _; subst hq2; (try dsimp only); (try k_steps)))
    unfold Halt
    obtain ⟨q1, q2⟩ := push_law (x := Value.int (18 - (0 + (i : Int))) tk) hH
    refine InvEndG.intro (nx := (H, listOf (sdL intKey (Value.int (18 - (0 + (i : Int))) tk) (vs ++ [Value.int (18 - (0 + (i : Int))) tk]) vs.length).toArray (nv + 1)) :: (L' + 1, oC) :: R) (by assumption) N4 ⟨?_, _, _, rfl, ?_, ?_, q1, ?_⟩ ?_ (fun q hq => ri_3 q hq) (fun q hq => by simp [hq])
    · intro z hz1 _
      simp [hz1]
    · rw [q2.length_eq, List.length_cons, hvl]
    · intro v hv
      rcases List.mem_cons.mp (q2.mem_iff.mp hv) with rfl | hv
      · exact ⟨_, _, rfl⟩
      · exact hS v hv
    · refine (q2.map intKey).trans ?_
      rw [List.map_cons, List.range_succ, List.map_append]
      have e : intKey (Value.int (18 - (0 + (i : Int))) tk) = ((18 : Int) - (i : Int), (0 : Int)) := by
        show ((18 : Int) - (0 + (i : Int)), (0 : Int)) = _
        rw [Int.zero_add]
      rw [e]
      exact (List.Perm.cons _ hP).trans (List.perm_append_comm (l₁ := [_]))
    · exact ho
  · rintro u nx h tk ⟨vs, nv, rfl, hvl, hS, hH, hP⟩ F3 N3
    k_steps
    change wpAny _ _ _ _ _ _
    k_dflt (refine LCg.ListComp_U (F₀ := by k_asm) (by rfl) (by decide) (by rfl) (by decide) (by rfl) ?_)
    k_steps
    change LCg.CompSrc _ _ _ _ _ _ _ _ _ _ _ _ _ _
    refine LCg.CompSrc.range (n := 18) hh (by k_asm) (by k_asm) (by assumption) (by decide) (by decide) (by decide) ?_
    intro g1
    dsimp only
    refine compRest_ind (fun i ys n' => ∃ vs nv, n' = (H, listOf vs.toArray nv) :: (L' + 1, oC) :: R ∧ (∀ v ∈ vs, ∃ i t, v = Value.int i t) ∧ IsHeap intKey vs ∧ (vs.map intKey).Perm (rk i (18 - i)) ∧ IntsAre ys ((List.range i).map fun j : Nat => (j : Int) + 1)) ⟨vs, nv, rfl, hS, hH, hP.trans (by decide), .nil⟩ ?_ ?_
    · rintro i ys n' hi ⟨vs, nv, rfl, hS, hH, hP, hI⟩ v I oI C oC' D m₂ h5 tk5 E' hPv hC hx F5 N5 off ne
      obtain ⟨us, y, rfl⟩ : ∃ us y, vs = us ++ [y] := by
        rcases List.eq_nil_or_concat vs with rfl | ⟨us, y, rfl⟩
        · have := hP.length_eq
          simp [rk] at this
          omega
        · exact ⟨us, y, List.concat_eq_append⟩
      have hul : us.length < 900 := by
        have := hP.length_eq
        simp [rk] at this
        omega
      k_steps
      change wpAny _ _ _ _ _ _
      refine heappop_call (S := fun v => ∃ i t, v = Value.int i t) (key := intKey) (Site.deeper B' X' T' hh) F5 (fun q hq => N5 q (ri_1 q hq)) (dle1 hdp) (ule3 hun) ?hR2 hul (cmp_ints _) (fun v hv => hS v (by simp [hv])) (hS y (by simp)) ?_
      case hR2 =>
        intro q hq
        simp only [List.mem_cons] at hq
        have hoff := LCg.Off3.mem off (H, listOf (us ++ [y]).toArray nv) (List.mem_cons_self ..)
        rcases hq with rfl | rfl | rfl | rfl | h
        · exact Ne.symm hoff.1
        · exact Ne.symm hoff.2.1
        · exact Ne.symm hoff.2.2
        · exact hcH
        · exact hRH q h
      intro h6 tk6 F6 N6
      have ek : 18 - i = (18 - (i + 1)) + 1 := by omega
      rw [ek, rk_succ] at hP
      obtain ⟨e1, e2⟩ := pop_sorted hH hP (by rw [← rk_succ]; exact rk_sorted _ _)
      obtain ⟨q1, q2, q3⟩ := pop_law hH
      generalize hr : (if us = [] then y else us.getD 0 Value.none) = r at *
      generalize hw : (if us = [] then [] else suL intKey y (us.set 0 y) 0) = ws at *
      as_aux_lemma =>
      obtain ⟨ir, tr, rfl⟩ := hS r (q2.mem_iff.mp (List.mem_cons_self ..))
      have er : ir = (i : Int) + 1 := by
        have : (ir, (0 : Int)) = ((i : Int) + 1, (0 : Int)) := e1
        exact (Prod.mk.injEq ..).mp this |>.1
      subst er
      clear N5
      k_steps
      unfold Halt
      refine LCg.CompEnd.intro (by assumption) N6 ((H, listOf ws.toArray (nv + 1)) :: (L' + 1, oC) :: R) (fun q hq => ri_2 q hq) ?_ trivial ⟨ws, nv + 1, rfl, ?_, q1, e2, ?_⟩
      · refine LCg.Off3.of fun q hq => ?_
        rcases List.mem_cons.mp hq with rfl | hq
        · exact LCg.Off3.mem off (H, listOf (us ++ [y]).toArray nv) (List.mem_cons_self ..)
        · exact LCg.Off3.mem off q (List.mem_cons_of_mem _ hq)
      · exact fun v hv => hS v (q2.mem_iff.mp (List.mem_cons_of_mem _ hv))
      · rw [List.range_succ, List.map_append]
        exact intsAre_snoc hI
    · rintro ys n' ⟨vs, nv, rfl, hS, hH, hP, hI⟩ D h5 tk5 F5 N5 off
      k_steps
      all_goals (try (with_reducible change Q1 _ _; subst hq1; (try dsimp only); (try k_steps)))
      refine leaveK_ (by assumption) N5 ?_
      intro kF kN
      refine hQ _ _ D ys _ kF (fun q hq => kN q (ri_4 q hq)) ?_ hI
      intro q hq
      exact ri_5 off q hq
end
end Mine
end PartRising
section PartRd
open PySem PySem.W PyProof.Rows PySem.Calls PySem.Spec PyProof.V
set_option maxHeartbeats 4000000
namespace Mine
noncomputable abbrev inst (dx : Addr) : Obj := { cls := .ref 107, dict := some dx }
/-- what a reader of no list leans on, but for its table -/
noncomputable def IsRd (led : List (Addr × Obj)) (dx ig : Addr) : Prop := ∃ sm dl h1 h2 h3 t1 t2 t3 nd nl b, led = [(dx, dictOf (rdDict h1 h2 h3 t1 t2 t3 sm dl ig) nd), (sm, esetObj b), (dl, listOf #[] nl)]
noncomputable def IsOne (w : World) (led : List (Addr × Obj)) (dx ig : Addr) : Prop := ∃ sm dl h1 h2 h3 t1 t2 t3 nd nl oS, led = [(dx, dictOf (rdDict h1 h2 h3 t1 t2 t3 sm dl ig) nd), (sm, oS), (dl, listOf #[] nl)] ∧ oS.SetObjOf (PySem.strKind PRG w) (fun k => decide (k = Str.ofString "a")) 1
noncomputable def IsFar (led : List (Addr × Obj)) (dx ig : Addr) : Prop := ∃ sm dl h1 h2 h3 t1 t2 t3 nd nl b tq, led = [(dx, dictOf (rdDict h1 h2 h3 t1 t2 t3 sm dl ig) nd), (sm, esetObj b), (dl, listOf #[.str (Str.ofString "/l") tq] nl)]
/-- a reader's table -/
noncomputable def Tab (w : World) (o : Obj) (Dt : List (PyData × PyData)) : Prop := ∃ kvs, o.IsDictOf (PySem.strKind PRG w) kvs ∧ FlatPairs PyData.str kvs Dt
noncomputable abbrev Dt0 : List (PyData × PyData) := [(.str (Str.ofString "<string>"), .int 1)]
theorem news_ne {h₀ h : Heap} {L a b : Addr} {o1 o2 : Obj} {news : List (Addr × Obj)} (N : News h₀ L h news) (h1 : (a, o1) ∈ news) (h2 : (b, o2) ∈ news) (hne : o1 ≠ o2) : @Ne Nat a b := by
  rintro rfl
  have e1 := (N _ h1).1
  rw [(N _ h2).1] at e1
  exact hne (Option.some.inj e1).symm
theorem tab_ne_list {w : World} {oI : Obj} {Dt : List (PyData × PyData)} {its : Array Value} {n : Nat} (h : Tab w oI Dt) : listOf its n ≠ oI := by
  rintro rfl
  obtain ⟨_, ⟨_, _, _, hd, _⟩, _⟩ := h
  cases hd
section
variable {w : World} {A : Around} {h₀ : Heap} {L : Addr} {m : Str → Option Value} {s : Shared} {Q : Value → Shared → Prop} {E : Value → Shared → Prop} {R : List (Addr × Obj)}
theorem mk_new (Z : Site w A h₀ L) (F : Fr h₀ L s.heap m) (N : News h₀ L s.heap R) (hdp : A.depth + 40 < recursionLimit) (hun : A.units + 150 < cLine)
   (hQ : ∀ rd dx ig led oI h' tk, Fr h₀ L h' m → News h₀ L h' ((ig, oI) :: (rd, inst dx) :: (led ++ R)) → Tab w oI Dt0 → IsRd led dx ig → (ig == sysModules) = false → (∀ q ∈ (rd, inst dx) :: led, q.1 < ig ∧ ∀ q' ∈ R, q'.1 < q.1) → (∀ q ∈ led, q.1 ≠ rd) → (∀ q ∈ R, q.1 < ig) → Q (.ref rd) { s with heap := h', toks := tk }) :
   wpAny (model PySem.Challenge.rw_oh0014_01.row.prog w) A (call (.ref 107) []) Q E s := by
  refine reader_new Z F N hdp hun ?_
  intro rd dx sm dl ig h1 h2 h3 t1 t2 t3 nd nl b oI kvs h' tk F' N' D P g a1 a2 a3 a4 a5
  have p1 : @LT.lt Nat _ dx rd := a2
  have p2 : @LT.lt Nat _ rd sm := a3
  have p3 : @LT.lt Nat _ sm dl := a4
  have p4 : @LT.lt Nat _ dl ig := a5
  refine hQ rd dx ig [(dx, dictOf (rdDict h1 h2 h3 t1 t2 t3 sm dl ig) nd), (sm, esetObj b), (dl, listOf #[] nl)] oI h' tk F' N' ⟨kvs, D, P⟩ ⟨_, _, _, _, _, _, _, _, _, _, _, rfl⟩ g ?_ ?_ ?_
  · intro q hq
    simp only [List.mem_cons, List.not_mem_nil, or_false] at hq
    rcases hq with rfl | rfl | rfl | rfl
    · exact ⟨show @LT.lt Nat _ rd ig by omega, fun q' hq' => show @LT.lt Nat _ q'.1 rd from Nat.lt_trans (a1 q' hq') p1⟩
    · exact ⟨show @LT.lt Nat _ dx ig by omega, fun q' hq' => a1 q' hq'⟩
    · exact ⟨show @LT.lt Nat _ sm ig by omega, fun q' hq' => show @LT.lt Nat _ q'.1 sm from Nat.lt_trans (a1 q' hq') (by omega)⟩
    · exact ⟨show @LT.lt Nat _ dl ig by omega, fun q' hq' => show @LT.lt Nat _ q'.1 dl from Nat.lt_trans (a1 q' hq') (by omega)⟩
  · intro q hq
    simp only [List.mem_cons, List.not_mem_nil, or_false] at hq
    rcases hq with rfl | rfl | rfl
    · exact show @Ne Nat dx rd by omega
    · exact show @Ne Nat sm rd by omega
    · exact show @Ne Nat dl rd by omega
  · exact fun q hq => show @LT.lt Nat _ q.1 ig from Nat.lt_trans (a1 q hq) (by omega)
theorem mk_one {l : Addr} {tl : Tok} (Z : Site w A h₀ L) (F : Fr h₀ L s.heap m) (N : News h₀ L s.heap ((l, listOf #[.str (Str.ofString "a") tl] 0) :: R)) (hdp : A.depth + 40 < recursionLimit) (hun : A.units + 150 < cLine)
   (hQ : ∀ rd dx ig led oI h' tk, Fr h₀ L h' m → News h₀ L h' ((ig, oI) :: (rd, inst dx) :: (led ++ R)) → Tab w oI Dt0 → IsOne w led dx ig → (ig == sysModules) = false → (∀ q ∈ (rd, inst dx) :: (led ++ R), q.1 < ig) → Q (.ref rd) { s with heap := h', toks := tk }) :
   wpAny (model PySem.Challenge.rw_oh0014_01.row.prog w) A (call (.ref 107) [.ref l]) Q E s := by
  refine reader_one Z F N hdp hun ?_
  intro rd dx sm dl ig h1 h2 h3 t1 t2 t3 nd nl oS oI kvs h' tk F' N' D P S g a1 a2 a3 a4 a5
  have p1 : @LT.lt Nat _ dx rd := a2
  have p2 : @LT.lt Nat _ rd sm := a3
  have p3 : @LT.lt Nat _ sm dl := a4
  have p4 : @LT.lt Nat _ dl ig := a5
  refine hQ rd dx ig [(dx, dictOf (rdDict h1 h2 h3 t1 t2 t3 sm dl ig) nd), (sm, oS), (dl, listOf #[] nl)] oI h' tk F' N' ⟨kvs, D, P⟩ ⟨_, _, _, _, _, _, _, _, _, _, _, rfl, S⟩ g ?_
  intro q hq
  simp only [List.mem_cons, List.cons_append, List.nil_append] at hq
  rcases hq with rfl | rfl | rfl | rfl | hq
  · exact show @LT.lt Nat _ rd ig by omega
  · exact show @LT.lt Nat _ dx ig by omega
  · exact show @LT.lt Nat _ sm ig by omega
  · exact show @LT.lt Nat _ dl ig by omega
  · exact show @LT.lt Nat _ q.1 ig from Nat.lt_trans (a1 q hq) (by omega)
theorem mk_far {l d : Addr} {td : Tok} (Z : Site w A h₀ L) (F : Fr h₀ L s.heap m) (N : News h₀ L s.heap ((d, listOf #[.str (Str.ofString "/l") td] 0) :: (l, listOf #[] 0) :: R)) (hdp : A.depth + 40 < recursionLimit) (hun : A.units + 150 < cLine)
   (hQ : ∀ rd dx ig led oI h' tk, Fr h₀ L h' m → News h₀ L h' ((ig, oI) :: (rd, inst dx) :: (led ++ R)) → Tab w oI Dt0 → IsFar led dx ig → (ig == sysModules) = false → (∀ q ∈ (rd, inst dx) :: (led ++ R), q.1 < ig) → (∀ q' ∈ R, ∀ Dt, Tab w q'.2 Dt → ∀ q ∈ (rd, inst dx) :: led, q.1 ≠ q'.1) → Q (.ref rd) { s with heap := h', toks := tk }) :
   wpAny (model PySem.Challenge.rw_oh0014_01.row.prog w) A (call (.ref 107) [.ref l, .ref d]) Q E s := by
  refine reader_far Z F N hdp hun ?_
  intro rd dx sm dl ig h1 h2 h3 t1 t2 t3 nd nl b tq oI kvs h' tk F' N' D P g a1 a2 a3 a4 a5
  have p1 : @LT.lt Nat _ dx rd := a2
  have p2 : @LT.lt Nat _ rd sm := a3
  have p3 : @LT.lt Nat _ sm ig := a4
  have p4 : @LT.lt Nat _ dl ig := a5
  refine hQ rd dx ig [(dx, dictOf (rdDict h1 h2 h3 t1 t2 t3 sm dl ig) nd), (sm, esetObj b), (dl, listOf #[.str (Str.ofString "/l") tq] nl)] oI h' tk F' N' ⟨kvs, D, P⟩ ⟨_, _, _, _, _, _, _, _, _, _, _, _, rfl⟩ g ?_ ?_
  rotate_left
  · intro q' hq' Dt hTab q hq
    simp only [List.mem_cons, List.not_mem_nil, or_false] at hq
    have z := a1 q' hq'
    have z' : @LT.lt Nat _ q'.1 dx := z
    rcases hq with rfl | rfl | rfl | rfl
    · exact show @Ne Nat rd q'.1 by omega
    · exact show @Ne Nat dx q'.1 by omega
    · exact show @Ne Nat sm q'.1 by omega
    · exact news_ne N' (.tail _ (.tail _ (.tail _ (.tail _ (.head _))))) (.tail _ (.tail _ (.tail _ (.tail _ (.tail _ hq'))))) (tab_ne_list hTab)
  intro q hq
  simp only [List.mem_cons, List.cons_append, List.nil_append] at hq
  rcases hq with rfl | rfl | rfl | rfl | hq
  · exact show @LT.lt Nat _ rd ig by omega
  · exact show @LT.lt Nat _ dx ig by omega
  · exact show @LT.lt Nat _ sm ig by omega
  · exact show @LT.lt Nat _ dl ig by omega
  · exact show @LT.lt Nat _ q.1 ig from Nat.lt_trans (a1 q hq) (by omega)
variable {rd dx ig : Addr} {led : List (Addr × Obj)} {oI : Obj} {Dt : List (PyData × PyData)} {x : Str} {tx : Tok}
theorem n_one {fv : Value} (Z : Site w A h₀ L) (F : Fr h₀ L s.heap m) (N : News h₀ L s.heap ((ig, oI) :: (rd, inst dx) :: (led ++ R))) (hI : IsOne w led dx ig) (hT : Tab w oI Dt) (hig : (ig == sysModules) = false) (hR : ∀ p ∈ (rd, inst dx) :: (led ++ R), p.1 ≠ ig)
   (hdp : A.depth + 7 < recursionLimit) (hun : A.units + 50 < cLine) (hl : Spec.lookup (PyData.str (Str.ofString "a")) Dt = none) (hz : Dt.length < 1000) (hQ : ∀ h' tk t, Fr h₀ L h' m → News h₀ L h' R → Q (.int 1 t) { s with heap := h', toks := tk }) :
   wpAny (model PySem.Challenge.rw_oh0014_01.row.prog w) A (call (.ref 104) [.ref rd, fv, .str (Str.ofString "a") tx]) Q E s := by
  obtain ⟨sm, dl, h1, h2, h3, t1, t2, t3, nd, nl, oS, rfl, S⟩ := hI
  obtain ⟨kvs, D, P⟩ := hT
  exact names_one Z F N S D P hig hR hdp hun hl hz hQ
theorem n_found {fv : Value} {i : Int} (Z : Site w A h₀ L) (F : Fr h₀ L s.heap m) (N : News h₀ L s.heap ((ig, oI) :: (rd, inst dx) :: (led ++ R))) (hI : IsRd led dx ig) (hT : Tab w oI Dt) (hig : (ig == sysModules) = false) (hR : ∀ p ∈ (rd, inst dx) :: (led ++ R), p.1 ≠ ig)
   (hdp : A.depth + 7 < recursionLimit) (hun : A.units + 50 < cLine) (hl : Spec.lookup (PyData.str x) Dt = some (.int i))
   (hQ : ∀ h' tk t, Fr h₀ L h' m → News h₀ L h' ((ig, oI) :: (rd, inst dx) :: (led ++ R)) → Q (.int i t) { s with heap := h', toks := tk }) :
   wpAny (model PySem.Challenge.rw_oh0014_01.row.prog w) A (call (.ref 104) [.ref rd, fv, .str x tx]) Q E s := by
  obtain ⟨sm, dl, h1, h2, h3, t1, t2, t3, nd, nl, b, rfl⟩ := hI
  obtain ⟨kvs, D, P⟩ := hT
  exact names_found Z F N D P hig hR hdp hun hl hQ
theorem n_none (Z : Site w A h₀ L) (F : Fr h₀ L s.heap m) (N : News h₀ L s.heap ((ig, oI) :: (rd, inst dx) :: (led ++ R))) (hI : IsRd led dx ig) (hT : Tab w oI Dt) (hig : (ig == sysModules) = false) (hR : ∀ p ∈ (rd, inst dx) :: (led ++ R), p.1 ≠ ig)
   (hdp : A.depth + 7 < recursionLimit) (hun : A.units + 50 < cLine) (hl : Spec.lookup (PyData.str x) Dt = none) (hz : Dt.length < 1000)
   (hQ : ∀ h' tk t oI', Fr h₀ L h' m → News h₀ L h' ((ig, oI') :: (rd, inst dx) :: (led ++ R)) → Tab w oI' (putD (.str x) (.int 1) Dt) → Q (.int 1 t) { s with heap := h', toks := tk }) :
   wpAny (model PySem.Challenge.rw_oh0014_01.row.prog w) A (call (.ref 104) [.ref rd, .none, .str x tx]) Q E s := by
  obtain ⟨sm, dl, h1, h2, h3, t1, t2, t3, nd, nl, b, rfl⟩ := hI
  obtain ⟨kvs, D, P⟩ := hT
  exact names_none Z F N D P hig hR hdp hun hl hz fun h' tk t oI' kvs' F' N' D' P' => hQ h' tk t oI' F' N' ⟨kvs', D', P'⟩
theorem n_path {f : Str} {tf : Tok} (Z : Site w A h₀ L) (F : Fr h₀ L s.heap m) (N : News h₀ L s.heap ((ig, oI) :: (rd, inst dx) :: (led ++ R))) (hI : IsRd led dx ig) (hT : Tab w oI Dt) (hig : (ig == sysModules) = false) (hR : ∀ p ∈ (rd, inst dx) :: (led ++ R), p.1 ≠ ig)
   (hdp : A.depth + 7 < recursionLimit) (hun : A.units + 50 < cLine) (hl : Spec.lookup (PyData.str x) Dt = none) (hz : Dt.length < 1000)
   (hQ : ∀ h' tk t oI', Fr h₀ L h' m → News h₀ L h' ((ig, oI') :: (rd, inst dx) :: (led ++ R)) → Tab w oI' (putD (.str x) (.int 0) Dt) → Q (.int 0 t) { s with heap := h', toks := tk }) :
   wpAny (model PySem.Challenge.rw_oh0014_01.row.prog w) A (call (.ref 104) [.ref rd, .str f tf, .str x tx]) Q E s := by
  obtain ⟨sm, dl, h1, h2, h3, t1, t2, t3, nd, nl, b, rfl⟩ := hI
  obtain ⟨kvs, D, P⟩ := hT
  exact names_path Z F N D P hig hR hdp hun hl hz fun h' tk t oI' kvs' F' N' D' P' => hQ h' tk t oI' F' N' ⟨kvs', D', P'⟩
theorem n_far1 {tf : Tok} (Z : Site w A h₀ L) (F : Fr h₀ L s.heap m) (N : News h₀ L s.heap ((ig, oI) :: (rd, inst dx) :: (led ++ R))) (hI : IsFar led dx ig) (hT : Tab w oI Dt) (hig : (ig == sysModules) = false) (hR : ∀ p ∈ (rd, inst dx) :: (led ++ R), p.1 ≠ ig)
   (hdp : A.depth + 7 < recursionLimit) (hun : A.units + 50 < cLine) (hl : Spec.lookup (PyData.str x) Dt = none) (hz : Dt.length < 1000)
   (hQ : ∀ h' tk t oI', Fr h₀ L h' m → News h₀ L h' ((ig, oI') :: (rd, inst dx) :: (led ++ R)) → Tab w oI' (putD (.str x) (.int 1) Dt) → Q (.int 1 t) { s with heap := h', toks := tk }) :
   wpAny (model PySem.Challenge.rw_oh0014_01.row.prog w) A (call (.ref 104) [.ref rd, .str (Str.ofString "/l/f.py") tf, .str x tx]) Q E s := by
  obtain ⟨sm, dl, h1, h2, h3, t1, t2, t3, nd, nl, b, tq, rfl⟩ := hI
  obtain ⟨kvs, D, P⟩ := hT
  exact names_far1 Z F N D P hig hR hdp hun hl hz fun h' tk t oI' kvs' F' N' D' P' => hQ h' tk t oI' F' N' ⟨kvs', D', P'⟩
theorem n_far2 {tf : Tok} (Z : Site w A h₀ L) (F : Fr h₀ L s.heap m) (N : News h₀ L s.heap ((ig, oI) :: (rd, inst dx) :: (led ++ R))) (hI : IsFar led dx ig) (hT : Tab w oI Dt) (hig : (ig == sysModules) = false) (hR : ∀ p ∈ (rd, inst dx) :: (led ++ R), p.1 ≠ ig)
   (hdp : A.depth + 7 < recursionLimit) (hun : A.units + 50 < cLine) (hl : Spec.lookup (PyData.str x) Dt = none) (hz : Dt.length < 1000)
   (hQ : ∀ h' tk t oI', Fr h₀ L h' m → News h₀ L h' ((ig, oI') :: (rd, inst dx) :: (led ++ R)) → Tab w oI' (putD (.str x) (.int 0) Dt) → Q (.int 0 t) { s with heap := h', toks := tk }) :
   wpAny (model PySem.Challenge.rw_oh0014_01.row.prog w) A (call (.ref 104) [.ref rd, .str (Str.ofString "/m/f.py") tf, .str x tx]) Q E s := by
  obtain ⟨sm, dl, h1, h2, h3, t1, t2, t3, nd, nl, b, tq, rfl⟩ := hI
  obtain ⟨kvs, D, P⟩ := hT
  exact names_far2 Z F N D P hig hR hdp hun hl hz fun h' tk t oI' kvs' F' N' D' P' => hQ h' tk t oI' F' N' ⟨kvs', D', P'⟩
end
end Mine
end PartRd
section PartMeth
open PySem PySem.W PyProof.Rows PySem.Calls PySem.Spec PyProof.V
set_option maxHeartbeats 8000000
namespace Mine
/-- the own dict of a reader, in which no «names» stands -/
noncomputable def HasD (led : List (Addr × Obj)) (dx : Addr) : Prop := ∃ es n, (dx, dictOf es n) ∈ led ∧ getL (Str.ofString "names") es = some none
theorem IsRd.hasD {led : List (Addr × Obj)} {dx ig : Addr} (h : IsRd led dx ig) : HasD led dx := by
  obtain ⟨sm, dl, h1, h2, h3, t1, t2, t3, nd, nl, b, rfl⟩ := h
  exact ⟨_, _, List.mem_cons_self .., by rfl⟩
theorem IsOne.hasD {w : World} {led : List (Addr × Obj)} {dx ig : Addr} (h : IsOne w led dx ig) : HasD led dx := by
  obtain ⟨sm, dl, h1, h2, h3, t1, t2, t3, nd, nl, oS, rfl, _⟩ := h
  exact ⟨_, _, List.mem_cons_self .., by rfl⟩
theorem IsFar.hasD {led : List (Addr × Obj)} {dx ig : Addr} (h : IsFar led dx ig) : HasD led dx := by
  obtain ⟨sm, dl, h1, h2, h3, t1, t2, t3, nd, nl, b, tq, rfl⟩ := h
  exact ⟨_, _, List.mem_cons_self .., by rfl⟩
theorem meth_rd {prog : Program} {w : World} {A : Around} {E : Value → Shared → Prop} {s : Shared} {h₀ : Heap} {L rd dx : Addr} {m : Str → Option Value} {news led : List (Addr × Obj)} {pl : Sem Bool} {Q : Value × List Value → Shared → Prop}
    (F : Fr h₀ L s.heap m) (X₀ : (hd.heap_39 w.params).In h₀) (N : News h₀ L s.heap news) (hm : (rd, inst dx) ∈ news) (hd : HasD led dx) (hs : ∀ q ∈ led, q ∈ news) (h : Q (.ref 104, [.ref rd]) s) :
    wpAny (model prog w) A (getMethod (.ref rd) (Str.ofString "names") pl) Q E s := by
  obtain ⟨es, n, hd, hg⟩ := hd
  k_dflt (refine' method_inst (C := 107) (f := 104) F X₀ (InstAt.of_news N hm (hs _ hd)) ?k4 ?k5 ?k6 hg h; (case k4 => k_is); (case k5 => k_is); (case k6 => k_is))
end Mine
end PartMeth
section PartLawP
open PySem PySem.W PyProof.Rows PySem.Calls PySem.Spec PyProof.V
namespace Mine
/-- what the reader's table tells of number j -/
noncomputable def fOf (G Bk : List Int) (j : Nat) : Option Int := if (j : Int) ∈ Bk then some 1 else if (j : Int) ∈ G then some 0 else none
/-- the numbers that a deed takes off -/
noncomputable def gones (f : Nat → Option Int) : List (Int × Int) → List Int
  | [] => []
  | k :: r => if bk f k then k.2 :: gones f r else [k.2]
theorem Dic.congr {Dt : List (PyData × PyData)} {f g : Nat → Option Int} (h : Dic Dt f) (e : ∀ j < 24, f j = g j) : Dic Dt g := fun j hj => by rw [h j hj, e j hj]
theorem bk_fOf {G Bk : List Int} {k : Int × Int} {j : Nat} (e : k.2 = (j : Int)) : bk (fOf G Bk) k = decide (k.2 ∈ Bk) := by
  unfold bk fOf
  rw [e, Int.toNat_natCast]
  by_cases h : (j : Int) ∈ Bk
  · simp [h]
  · simp only [if_neg h]
    split <;> simp [h]
theorem after_fOf {G Bk : List Int} : ∀ {rem : List (Int × Int)}, (∀ k ∈ rem, ∃ j : Nat, k.2 = (j : Int)) → ∀ j, afterOf (fOf G Bk) rem j = fOf (G ++ gones (fOf G Bk) rem) Bk j
  | [], _, j => by simp [afterOf, gones]
  | k :: r, hr, j => by
    obtain ⟨i, ei⟩ := hr k (List.mem_cons_self ..)
    have eb := bk_fOf (G := G) (Bk := Bk) ei
    unfold afterOf gones
    by_cases hb : k.2 ∈ Bk
    · rw [eb, if_pos (by simpa using hb), if_pos (by simpa using hb), after_fOf (fun k' hk' => hr k' (List.mem_cons_of_mem _ hk')) j]
      unfold fOf
      by_cases h1 : (j : Int) ∈ Bk
      · simp [h1]
      · have h2 : (j : Int) ≠ k.2 := fun e => h1 (e ▸ hb)
        simp only [if_neg h1, List.mem_append, List.mem_cons, h2, false_or]
    · rw [eb, if_neg (by simpa using hb), if_neg (by simpa using hb)]
      unfold upd fOf
      rw [ei, Int.toNat_natCast]
      rw [ei] at hb
      by_cases h1 : j = i
      · subst h1
        simp [hb]
      · have h2 : (j : Int) ≠ (i : Int) := by omega
        simp [h1, h2]
theorem lying_app {ks : List (Int × Int)} {G H : List Int} : ∀ n, lyingK ks (G ++ H) n = (lyingK ks G n).filter (fun k => decide (¬ k.2 ∈ H))
  | 0 => rfl
  | n + 1 => by
    unfold lyingK
    by_cases h1 : (n : Int) ∈ G
    · rw [if_pos (by simp [h1]), if_pos h1, lying_app n]
    · by_cases h2 : (n : Int) ∈ H
      · rw [if_pos (by simp [h2]), if_neg h1, lying_app n, List.filter_append]
        simp [h2]
      · rw [if_neg (by simp [h1, h2]), if_neg h1, lying_app n, List.filter_append]
        simp [h2]
theorem filter_all {α : Type} {p : α → Bool} {l : List α} (h : ∀ a ∈ l, p a = true) : l.filter p = l := List.filter_eq_self.mpr h
theorem rest_filter {f : Nat → Option Int} : ∀ {rem : List (Int × Int)}, (rem.map (·.2)).Nodup → rem.filter (fun k => decide (¬ k.2 ∈ gones f rem)) = restOf f rem
  | [], _ => rfl
  | k :: r, hn => by
    rw [List.map_cons, List.nodup_cons] at hn
    have hne : ∀ k' ∈ r, k'.2 ≠ k.2 := fun k' hk' e => hn.1 (e ▸ List.mem_map_of_mem (f := (·.2)) hk')
    unfold gones restOf
    by_cases hb : bk f k = true
    · rw [if_pos hb, if_pos hb, ← rest_filter hn.2, List.filter_cons_of_neg (by simp)]
      refine List.filter_congr fun k' hk' => ?_
      simp [hne k' hk']
    · rw [if_neg hb, if_neg hb, List.filter_cons_of_neg (by simp)]
      exact filter_all fun k' hk' => by simp [hne k' hk']
/-- what lies, in order -/
theorem sorted_exists (l : List (Int × Int)) : ∃ rem : List (Int × Int), SortedK rem ∧ rem.Perm l := by
  induction l with
  | nil => exact ⟨[], .nil, .nil⟩
  | cons a l ih =>
    obtain ⟨r, hs, hp⟩ := ih
    have key : ∀ r : List (Int × Int), SortedK r → ∃ r', SortedK r' ∧ r'.Perm (a :: r) := by
      intro r
      induction r with
      | nil => intro _; exact ⟨[a], by simp [SortedK], .refl _⟩
      | cons b r ih =>
        intro hs
        by_cases h : lexlt b a = true
        · obtain ⟨r', h1, h2⟩ := ih (List.pairwise_cons.mp hs).2
          refine ⟨b :: r', ?_, (List.Perm.cons _ h2).trans (.swap ..)⟩
          refine List.pairwise_cons.mpr ⟨fun c hc => ?_, h1⟩
          rcases List.mem_cons.mp (h2.mem_iff.mp hc) with rfl | hc
          · exact le_of_lt' h
          · exact (List.pairwise_cons.mp hs).1 c hc
        · have h : lexlt b a = false := by simpa using h
          refine ⟨a :: b :: r, List.pairwise_cons.mpr ⟨fun c hc => ?_, hs⟩, .refl _⟩
          rcases List.mem_cons.mp hc with rfl | hc
          · exact h
          · exact le_trans' h ((List.pairwise_cons.mp hs).1 c hc)
    obtain ⟨r', h1, h2⟩ := key r hs
    exact ⟨r', h1, h2.trans (.cons _ hp)⟩
theorem lying_nodup2 {ks : List (Int × Int)} {G : List Int} : ∀ {n : Nat}, ((lyingK ks G n).map (·.2)).Nodup
  | 0 => by simp [lyingK]
  | n + 1 => by
    unfold lyingK
    split
    · exact lying_nodup2
    · rw [List.map_append, List.nodup_append]
      refine ⟨lying_nodup2, by simp, ?_⟩
      intro a ha b hb e
      rw [List.mem_map] at ha
      obtain ⟨k, hk, rfl⟩ := ha
      obtain ⟨j, h1, h2, _⟩ := lying_mem hk
      simp only [List.map_cons, List.map_nil, List.mem_singleton] at hb
      rw [hb, h2] at e
      simp only at e
      omega
theorem lying_in {ks : List (Int × Int)} {G : List Int} {j : Nat} (hG : ¬ (j : Int) ∈ G) : ∀ {n : Nat}, j < n → ∃ k ∈ lyingK ks G n, k.2 = (j : Int)
  | 0, h => absurd h (Nat.not_lt_zero _)
  | n + 1, h => by
    unfold lyingK
    by_cases e : j = n
    · subst e
      rw [if_neg hG]
      exact ⟨_, List.mem_append.mpr (.inr (List.mem_singleton.mpr rfl)), rfl⟩
    · obtain ⟨k, hk, e2⟩ := lying_in (ks := ks) hG (n := n) (by omega)
      split
      · exact ⟨k, hk, e2⟩
      · exact ⟨k, List.mem_append.mpr (.inl hk), e2⟩
/-- neither gone nor taken back -/
noncomputable def Live (G Bk : List Int) (j : Nat) : Prop := ¬ (j : Int) ∈ G ∧ ¬ (j : Int) ∈ Bk
noncomputable def kAt (ks : List (Int × Int)) (j : Nat) : Int := (ks.getD j (0, 0)).1
structure Good (ks : List (Int × Int)) (G Bk : List Int) (c : Nat) : Prop where
  low : ∀ a ∈ G ++ Bk, ∃ j : Nat, a = (j : Int) ∧ j < ks.length
  keys : ∀ j < ks.length, kAt ks j ∈ [(0 : Int), 1, 2]
  uniq : ∀ i j : Nat, i < ks.length → j < ks.length → Live G Bk i → Live G Bk j → kAt ks i = kAt ks j → i = j
  few : ∃ Ks : List Int, Ks.length ≤ c ∧ ∀ j < ks.length, Live G Bk j → kAt ks j ∈ Ks
theorem Good.nil : Good [] [] [] 3 := ⟨fun a ha => (nomatch ha), fun j hj => absurd hj (Nat.not_lt_zero _), fun i j hi => absurd hi (Nat.not_lt_zero _), [], by simp, fun j hj => absurd hj (Nat.not_lt_zero _)⟩
theorem Good.mono {ks : List (Int × Int)} {G Bk : List Int} {c c' : Nat} (h : Good ks G Bk c) (hc : c ≤ c') : Good ks G Bk c' :=
  ⟨h.low, h.keys, h.uniq, let ⟨Ks, h1, h2⟩ := h.few; ⟨Ks, Nat.le_trans h1 hc, h2⟩⟩
theorem Good.three {ks : List (Int × Int)} {G Bk : List Int} {c : Nat} (h : Good ks G Bk c) : Good ks G Bk 3 :=
  ⟨h.low, h.keys, h.uniq, [0, 1, 2], by simp, fun j hj _ => h.keys j hj⟩
theorem Good.dead {ks : List (Int × Int)} {G Bk : List Int} (h : Good ks G Bk 0) {j : Nat} (hj : j < ks.length) : ¬ Live G Bk j := by
  intro hl
  obtain ⟨Ks, h1, h2⟩ := h.few
  have : Ks = [] := List.length_eq_zero_iff.mp (by omega)
  subst this
  exact nomatch h2 j hj hl
theorem Good.back {ks : List (Int × Int)} {G Bk : List Int} {c j : Nat} (h : Good ks G Bk c) (hj : j < ks.length) : Good ks G (Bk ++ [(j : Int)]) c := by
  have hl : ∀ {i}, Live G (Bk ++ [(j : Int)]) i → Live G Bk i := fun h => ⟨h.1, fun hb => h.2 (by simp [hb])⟩
  refine ⟨fun a ha => ?_, h.keys, fun i k hi hk li lk => h.uniq i k hi hk (hl li) (hl lk), ?_⟩
  · simp only [List.mem_append, List.mem_singleton] at ha
    rcases ha with ha | ha | ha
    · exact h.low a (by simp [ha])
    · exact h.low a (by simp [ha])
    · exact ⟨j, ha, hj⟩
  · obtain ⟨Ks, h1, h2⟩ := h.few
    exact ⟨Ks, h1, fun i hi li => h2 i hi (hl li)⟩
theorem kAt_app {ks : List (Int × Int)} {k : Int × Int} {j : Nat} (h : j < ks.length) : kAt (ks ++ [k]) j = kAt ks j := by
  unfold kAt
  rw [List.getD_eq_getElem?_getD, List.getD_eq_getElem?_getD, List.getElem?_append_left h]
theorem kAt_end {ks : List (Int × Int)} {k : Int × Int} : kAt (ks ++ [k]) ks.length = k.1 := by
  unfold kAt
  rw [List.getD_eq_getElem?_getD, List.getElem?_append_right (Nat.le_refl _)]
  simp
theorem Good.push {ks : List (Int × Int)} {G Bk : List Int} {c : Nat} {k : Int × Int} (h : Good ks G Bk c) (hk : k.1 ∈ [(0 : Int), 1, 2]) (hn : ∀ j < ks.length, Live G Bk j → kAt ks j ≠ k.1) : Good (ks ++ [k]) G Bk 3 := by
  have hK : ∀ j < (ks ++ [k]).length, kAt (ks ++ [k]) j ∈ [(0 : Int), 1, 2] := by
    intro j hj
    rw [List.length_append, List.length_singleton] at hj
    by_cases e : j = ks.length
    · subst e; rw [kAt_end]; exact hk
    · rw [kAt_app (by omega)]; exact h.keys j (by omega)
  refine ⟨fun a ha => ?_, hK, ?_, [0, 1, 2], by simp, fun j hj _ => hK j hj⟩
  · obtain ⟨j, h1, h2⟩ := h.low a ha
    exact ⟨j, h1, by rw [List.length_append]; omega⟩
  · intro i j hi hj li lj e
    rw [List.length_append, List.length_singleton] at hi hj
    by_cases ei : i = ks.length
    · by_cases ej : j = ks.length
      · rw [ei, ej]
      · rw [ei, kAt_end, kAt_app (by omega)] at e
        exact absurd e.symm (hn j (by omega) lj)
    · by_cases ej : j = ks.length
      · rw [ej, kAt_end, kAt_app (by omega)] at e
        exact absurd e (hn i (by omega) li)
      · rw [kAt_app (by omega), kAt_app (by omega)] at e
        exact h.uniq i j (by omega) (by omega) li lj e
theorem gones_all {f : Nat → Option Int} : ∀ {rem : List (Int × Int)}, (∀ k ∈ rem, bk f k = true) → ∀ k ∈ rem, k.2 ∈ gones f rem
  | [], _, _, h => nomatch h
  | k :: r, hr, k', hk' => by
    unfold gones
    rw [if_pos (hr k (List.mem_cons_self ..))]
    rcases List.mem_cons.mp hk' with rfl | hk'
    · exact List.mem_cons_self ..
    · exact List.mem_cons_of_mem _ (gones_all (fun q hq => hr q (List.mem_cons_of_mem _ hq)) k' hk')
theorem gones_some {f : Nat → Option Int} : ∀ {rem : List (Int × Int)}, (∃ k ∈ rem, bk f k = false) → ∃ k ∈ rem, bk f k = false ∧ k.2 ∈ gones f rem
  | [], h => let ⟨_, h, _⟩ := h; nomatch h
  | k :: r, ⟨k', hk', hb⟩ => by
    unfold gones
    by_cases h : bk f k = true
    · rw [if_pos h]
      rcases List.mem_cons.mp hk' with rfl | hk'
      · rw [h] at hb; cases hb
      · obtain ⟨q, h1, h2, h3⟩ := gones_some ⟨k', hk', hb⟩
        exact ⟨q, List.mem_cons_of_mem _ h1, h2, List.mem_cons_of_mem _ h3⟩
    · rw [if_neg h]
      exact ⟨k, List.mem_cons_self .., by simpa using h, List.mem_singleton.mpr rfl⟩
theorem gones_sub {f : Nat → Option Int} : ∀ {rem : List (Int × Int)}, ∀ a ∈ gones f rem, ∃ k ∈ rem, k.2 = a
  | [], _, h => nomatch h
  | k :: r, a, h => by
    unfold gones at h
    split at h
    · rcases List.mem_cons.mp h with rfl | h
      · exact ⟨k, List.mem_cons_self .., rfl⟩
      · obtain ⟨q, h1, h2⟩ := gones_sub a h
        exact ⟨q, List.mem_cons_of_mem _ h1, h2⟩
    · exact ⟨k, List.mem_cons_self .., (List.mem_singleton.mp h).symm⟩
theorem gones_len {f : Nat → Option Int} : ∀ {rem : List (Int × Int)}, (gones f rem).length ≤ rem.length
  | [] => Nat.le_refl _
  | k :: r => by
    unfold gones
    split
    · have := gones_len (f := f) (rem := r); simpa using this
    · simp
theorem Good.take {ks : List (Int × Int)} {G Bk : List Int} {c : Nat} {rem : List (Int × Int)} (h : Good ks G Bk c) (hp : rem.Perm (lyingK ks G ks.length)) : Good ks (G ++ gones (fOf G Bk) rem) Bk (c - 1) := by
  have hm : ∀ k ∈ rem, ∃ j : Nat, j < ks.length ∧ k.2 = (j : Int) ∧ ¬ (j : Int) ∈ G := by
    intro k hk
    obtain ⟨j, h1, h2, h3⟩ := lying_mem (hp.mem_iff.mp hk)
    exact ⟨j, h1, by rw [h2], h3⟩
  have hl : ∀ {i}, Live (G ++ gones (fOf G Bk) rem) Bk i → Live G Bk i := fun h => ⟨fun hb => h.1 (by simp [hb]), h.2⟩
  refine ⟨fun a ha => ?_, h.keys, fun i j hi hj li lj => h.uniq i j hi hj (hl li) (hl lj), ?_⟩
  · simp only [List.mem_append] at ha
    rcases ha with (ha | ha) | ha
    · exact h.low a (by simp [ha])
    · obtain ⟨k, h1, h2⟩ := gones_sub a ha
      obtain ⟨j, h3, h4, _⟩ := hm k h1
      exact ⟨j, by rw [← h2, h4], h3⟩
    · exact h.low a (by simp [ha])
  · obtain ⟨Ks, h1, h2⟩ := h.few
    by_cases hx : ∃ k ∈ rem, bk (fOf G Bk) k = false
    · obtain ⟨k, k1, k2, k3⟩ := gones_some hx
      obtain ⟨j, j1, j2, j3⟩ := hm k k1
      rw [bk_fOf j2, j2] at k2
      have lj : Live G Bk j := ⟨j3, by simpa using k2⟩
      refine ⟨Ks.erase (kAt ks j), ?_, fun i hi li => ?_⟩
      · rw [List.length_erase_of_mem (h2 j j1 lj)]; omega
      · have hne : i ≠ j := by
          rintro rfl
          exact li.1 (List.mem_append.mpr (.inr (by rw [← j2]; exact k3)))
        refine (List.mem_erase_of_ne fun e => ?_).mpr (h2 i hi (hl li))
        exact hne (h.uniq i j hi j1 (hl li) lj e)
    · refine ⟨[], by simp, fun i hi li => ?_⟩
      obtain ⟨k, k1, k2⟩ := lying_in (ks := ks) (hl li).1 hi
      have hall : ∀ k ∈ rem, bk (fOf G Bk) k = true := fun q hq => by
        cases e : bk (fOf G Bk) q with
        | true => rfl
        | false => exact absurd ⟨q, hq, e⟩ hx
      exact absurd (List.mem_append.mpr (.inr (k2 ▸ gones_all hall k (hp.mem_iff.mpr k1)))) li.1
theorem rest_perm {ks : List (Int × Int)} {G : List Int} {n : Nat} {f : Nat → Option Int} {rem : List (Int × Int)} (hp : rem.Perm (lyingK ks G n)) : (restOf f rem).Perm (lyingK ks (G ++ gones f rem) n) := by
  rw [lying_app, ← rest_filter ((hp.map _).nodup_iff.mpr lying_nodup2)]
  exact hp.filter _
theorem upd_back {G Bk : List Int} {j : Nat} (i : Nat) : upd (fOf G Bk) j 1 i = fOf G (Bk ++ [(j : Int)]) i := by
  unfold upd fOf
  by_cases e : i = j
  · subst e; simp
  · have e2 : (i : Int) ≠ (j : Int) := by omega
    simp [e, e2]
theorem fOf_live {G Bk : List Int} {j : Nat} (h : Live G Bk j) : fOf G Bk j = none := by
  unfold fOf; rw [if_neg h.2, if_neg h.1]
theorem fOf_dead {G Bk : List Int} {j : Nat} (h : ¬ Live G Bk j) : fOf G Bk j = some (if (j : Int) ∈ Bk then 1 else 0) := by
  unfold fOf
  by_cases h1 : (j : Int) ∈ Bk
  · simp [h1]
  · by_cases h2 : (j : Int) ∈ G
    · simp [h1, h2]
    · exact absurd ⟨h2, h1⟩ h
/-- the numbers of a key that are to be taken back -/
noncomputable def jsK (ks : List (Int × Int)) (c : Int) (GB : List Int) : Nat → List Int
  | 0 => []
  | i + 1 => if kAt ks i = c ∧ ¬ (i : Int) ∈ GB then jsK ks c GB i ++ [(i : Int)] else jsK ks c GB i
theorem js_mem {ks : List (Int × Int)} {c : Int} {GB : List Int} {a : Int} : ∀ {n : Nat}, a ∈ jsK ks c GB n ↔ ∃ j : Nat, j < n ∧ a = (j : Int) ∧ kAt ks j = c ∧ ¬ (j : Int) ∈ GB
  | 0 => by simp [jsK]
  | n + 1 => by
    unfold jsK
    constructor
    · intro h
      split at h
      · rename_i hc
        rcases List.mem_append.mp h with h | h
        · obtain ⟨j, h1, h2⟩ := js_mem.mp h; exact ⟨j, by omega, h2⟩
        · exact ⟨n, by omega, List.mem_singleton.mp h, hc⟩
      · obtain ⟨j, h1, h2⟩ := js_mem.mp h; exact ⟨j, by omega, h2⟩
    · rintro ⟨j, h1, h2, h3⟩
      by_cases e : j = n
      · subst e
        rw [if_pos h3]
        exact List.mem_append.mpr (.inr (List.mem_singleton.mpr h2))
      · have := (js_mem (ks := ks) (c := c) (GB := GB) (a := a) (n := n)).mpr ⟨j, by omega, h2, h3⟩
        split
        · exact List.mem_append.mpr (.inl this)
        · exact this
theorem js_nodup {ks : List (Int × Int)} {c : Int} {GB : List Int} : ∀ {n : Nat}, (jsK ks c GB n).Nodup
  | 0 => by simp [jsK]
  | n + 1 => by
    unfold jsK
    split
    · refine List.nodup_append.mpr ⟨js_nodup, by simp, ?_⟩
      intro a ha b hb e
      obtain ⟨j, h1, h2, _⟩ := js_mem.mp ha
      rw [List.mem_singleton] at hb
      omega
    · exact js_nodup
theorem js_len {ks : List (Int × Int)} {c : Int} {GB : List Int} : ∀ {n : Nat}, (jsK ks c GB n).length ≤ n
  | 0 => Nat.le_refl _
  | n + 1 => by
    have := js_len (ks := ks) (c := c) (GB := GB) (n := n)
    unfold jsK
    split
    · simpa using this
    · omega
theorem lying_len {ks : List (Int × Int)} {G : List Int} : ∀ {n : Nat}, (lyingK ks G n).length ≤ n
  | 0 => Nat.le_refl _
  | n + 1 => by
    have := lying_len (ks := ks) (G := G) (n := n)
    unfold lyingK
    split
    · omega
    · simpa using this
theorem lying_push {ks : List (Int × Int)} {G : List Int} {k : Int × Int} : ∀ {n : Nat}, n ≤ ks.length → lyingK (ks ++ [k]) G n = lyingK ks G n
  | 0, _ => rfl
  | n + 1, h => by
    unfold lyingK
    rw [lying_push (by omega)]
    have e : (ks ++ [k]).getD n (0, 0) = ks.getD n (0, 0) := by
      rw [List.getD_eq_getElem?_getD, List.getD_eq_getElem?_getD, List.getElem?_append_left (by omega)]
    rw [e]
theorem lying_new {ks : List (Int × Int)} {G Bk : List Int} {c : Nat} {k : Int × Int} (h : Good ks G Bk c) : lyingK (ks ++ [k]) G (ks ++ [k]).length = lyingK ks G ks.length ++ [(k.2, (ks.length : Int))] := by
  rw [List.length_append, List.length_singleton]
  have hG : ¬ (ks.length : Int) ∈ G := by
    intro hg
    obtain ⟨j, h1, h2⟩ := h.low _ (List.mem_append.mpr (.inl hg))
    omega
  show (if (ks.length : Int) ∈ G then _ else _) = _
  rw [if_neg hG, lying_push (Nat.le_refl _)]
  have e : (ks ++ [k]).getD ks.length (0, 0) = k := by
    rw [List.getD_eq_getElem?_getD, List.getElem?_append_right (Nat.le_refl _)]
    simp
  rw [e]
/-- the heap: pairs of the ledger, in a heap's order, that are those that lie -/
noncomputable def HeapX (R : List (Addr × Obj)) (hs : List Value) (kl : List (Int × Int)) : Prop := (∀ v ∈ hs, ∃ k, PairAt R v k) ∧ IsHeap (pairKey R) hs ∧ (hs.map (pairKey R)).Perm kl
theorem HeapX.mono {h₀ h : Heap} {L : Addr} {R R' : List (Addr × Obj)} {hs : List Value} {kl : List (Int × Int)} (H : HeapX R hs kl) (N : News h₀ L h R') (hs' : ∀ q ∈ R, q ∈ R') : HeapX R' hs kl := by
  obtain ⟨h1, h2, h3⟩ := H
  have e : ∀ v ∈ hs, pairKey R' v = pairKey R v := by
    intro v hv
    obtain ⟨k, hk⟩ := h1 v hv
    rw [pairKey_is N (hk.mono hs'), pairKey_is (fun q hq => N q (hs' q hq)) hk]
  refine ⟨fun v hv => let ⟨k, hk⟩ := h1 v hv; ⟨k, hk.mono hs'⟩, ?_, ?_⟩
  · intro i hi hl
    have g : ∀ j, j < hs.length → pairKey R' (hs.getD j .none) = pairKey R (hs.getD j .none) := by
      intro j hj
      refine e _ ?_
      rw [List.getD_eq_getElem?_getD, List.getElem?_eq_getElem hj]
      exact List.getElem_mem hj
    rw [g i hl, g _ (by omega)]
    exact h2 i hi hl
  · rw [List.map_congr_left e]
    exact h3
theorem HeapX.down {h₀ h : Heap} {L : Addr} {R R' : List (Addr × Obj)} {hs : List Value} {kl : List (Int × Int)} (H : HeapX R' hs kl) (N : News h₀ L h R') (hs' : ∀ q ∈ R, q ∈ R') (hv : ∀ v ∈ hs, ∃ k, PairAt R v k) : HeapX R hs kl := by
  obtain ⟨h1, h2, h3⟩ := H
  have e : ∀ v ∈ hs, pairKey R v = pairKey R' v := by
    intro v hm
    obtain ⟨k, hk⟩ := hv v hm
    rw [pairKey_is N (hk.mono hs'), pairKey_is (fun q hq => N q (hs' q hq)) hk]
  refine ⟨hv, ?_, ?_⟩
  · intro i hi hl
    have g : ∀ j, j < hs.length → pairKey R (hs.getD j .none) = pairKey R' (hs.getD j .none) := by
      intro j hj
      refine e _ ?_
      rw [List.getD_eq_getElem?_getD, List.getElem?_eq_getElem hj]
      exact List.getElem_mem hj
    rw [g i hl, g _ (by omega)]
    exact h2 i hi hl
  · rw [List.map_congr_left e]
    exact h3
theorem HeapX.perm {R : List (Addr × Obj)} {hs : List Value} {kl kl' : List (Int × Int)} (H : HeapX R hs kl) (hp : kl.Perm kl') : HeapX R hs kl' := ⟨H.1, H.2.1, H.2.2.trans hp⟩
theorem HeapX.len {R : List (Addr × Obj)} {hs : List Value} {kl : List (Int × Int)} (H : HeapX R hs kl) : hs.length = kl.length := by
  have := H.2.2.length_eq; rwa [List.length_map] at this
theorem Ents.mono {R R' : List (Addr × Obj)} {es : List Value} {ks : List (Int × Int)} (h : Ents R es ks) (hs : ∀ q ∈ R, q ∈ R') : Ents R' es ks :=
  ⟨h.1, fun i v hv => let ⟨k, h1, h2⟩ := h.2 i v hv; ⟨k, h1, h2.mono hs⟩⟩
theorem Ents.push {R : List (Addr × Obj)} {es : List Value} {ks : List (Int × Int)} {v : Value} {k : Int × Int} (h : Ents R es ks) (hv : PairAt R v k) : Ents R (es ++ [v]) (ks ++ [k]) := by
  refine ⟨by simp [h.1], fun i u hu => ?_⟩
  by_cases e : i < es.length
  · rw [List.getElem?_append_left e] at hu
    obtain ⟨k', h1, h2⟩ := h.2 i u hu
    exact ⟨k', by rw [List.getElem?_append_left (h.1 ▸ e)]; exact h1, h2⟩
  · have e2 : i = es.length := by
      rcases Nat.lt_or_ge i (es ++ [v]).length with q | q
      · rw [List.length_append, List.length_singleton] at q; omega
      · rw [List.getElem?_eq_none q] at hu; cases hu
    subst e2
    rw [List.getElem?_append_right (Nat.le_refl _)] at hu
    simp at hu
    subst hu
    exact ⟨k, by rw [h.1, List.getElem?_append_right (Nat.le_refl _)]; simp, hv⟩
end Mine
end PartLawP
section PartWrap
open PySem PySem.W PyProof.Rows PySem.Calls PySem.Spec PyProof.V
set_option maxHeartbeats 4000000
namespace Mine
/-- a deed 3 at the heap -/
theorem t_taken {w : World} {A₀ A : Around} {base h₀ : Heap} {env : Env} {p : Program} {loose : List Str} {mean : ExcName → Option Value} {mg mb : Str → Option Value} {L : Addr} {m : Str → Option Value} {s : Shared} {Q : Value → Shared → Prop} {E : Value → Shared → Prop}
   {H rd dx ig : Addr} {led : List (Addr × Obj)} {nH : Nat} {oI : Obj} {Dt : List (PyData × PyData)} {R Rp : List (Addr × Obj)} {hs : List Value} {G Bk : List Int} {ks rem : List (Int × Int)}
   (B : Below A₀ base [] h₀) (X : (hd.heap_39 w.params).In h₀) (T : Top p loose mean mg mb h₀) (XB : (hd.heap_39 w.params).In base) (TB : Top p loose mean mg mb base) (hA : A.frames = some [env]) (hf : env.frame = some L) (hk : env.scope.kind = .function) (hh : A.handled = none)
   (F : Fr h₀ L s.heap m) (N : News h₀ L s.heap ((H, listOf hs.toArray nH) :: (ig, oI) :: (rd, inst dx) :: (led ++ R)))
   (hI : IsRd led dx ig) (hT : Tab w oI Dt) (hig : (ig == sysModules) = false) (hz : Dt.length < 900) (hD : Dic Dt (fOf G Bk))
   (hRH : ∀ p ∈ (ig, oI) :: (rd, inst dx) :: (led ++ R), p.1 ≠ H) (hRi : ∀ p ∈ (rd, inst dx) :: (led ++ R), p.1 ≠ ig)
   (hRp : ∀ q ∈ Rp, q ∈ R) (hH : HeapX Rp hs (lyingK ks G ks.length)) (hSo : SortedK rem) (hP : rem.Perm (lyingK ks G ks.length)) (hl : ks.length < 24)
   (hdp : A.depth + 20 < recursionLimit) (hun : A.units + 150 < cLine)
   (hQ : ∀ h' tk T hs' nH' oI' Dt' X ts nT, Fr h₀ L h' m → News h₀ L h' ((T, listOf ts.toArray nT) :: (H, listOf hs'.toArray nH') :: (ig, oI') :: (rd, inst dx) :: (led ++ (X ++ R))) →
      Tab w oI' Dt' → Dt'.length ≤ Dt.length + 1 → Dic Dt' (fOf (G ++ gones (fOf G Bk) rem) Bk) →
      (∀ q ∈ (H, listOf hs.toArray nH) :: (ig, oI) :: (rd, inst dx) :: (led ++ R), q.1 < T) → (∀ q ∈ X, ∀ q' ∈ (H, listOf hs.toArray nH) :: (ig, oI) :: (rd, inst dx) :: (led ++ R), q'.1 < q.1) →
      HeapX Rp hs' (lyingK ks (G ++ gones (fOf G Bk) rem) ks.length) → DatAll (X ++ Rp) ts (rowOf (fOf G Bk) rem) → Q (.ref T) { s with heap := h', toks := tk }) :
   wpAny (model PySem.Challenge.rw_oh0014_01.row.prog w) A (call (.ref 123) [.ref H, .ref rd]) Q E s := by
  obtain ⟨sm, dl, h1, h2, h3, t1, t2, t3, nd, nl, b, rfl⟩ := hI
  obtain ⟨kvs, D, P⟩ := hT
  have hm : ∀ k ∈ rem, ∃ j : Nat, j < ks.length ∧ k.2 = (j : Int) ∧ ¬ (j : Int) ∈ G := by
    intro k hk
    obtain ⟨j, h1, h2, h3⟩ := lying_mem (hP.mem_iff.mp hk)
    exact ⟨j, h1, by rw [h2], h3⟩
  refine taken_call B X T XB TB hA hf hk hh F N D P hig hz hD hRH hRi hRp hH.1 hH.2.1 (hH.2.2.trans hP.symm) hSo ?_ ?_ hdp hun ?_
  · rw [hH.len]; have := lying_len (ks := ks) (G := G) (n := ks.length); omega
  · intro k hk
    obtain ⟨j, j1, j2, j3⟩ := hm k hk
    refine ⟨j, j2, by omega, ?_⟩
    unfold fOf
    by_cases hb : (j : Int) ∈ Bk
    · exact .inl (by rw [if_pos hb])
    · exact .inr (by rw [if_neg hb, if_neg j3])
  · intro h' tk T hs' nH' oI' kvs' Dt' X ts nT F' N' D' P' z' d' l1 l2 s1 s2 s3 s4
    refine hQ h' tk T hs' nH' oI' Dt' X ts nT F' N' ⟨kvs', D', P'⟩ z' (d'.congr fun j _ => after_fOf (fun k hk => let ⟨j, _, e, _⟩ := hm k hk; ⟨j, e⟩) j) l1 ?_ ⟨fun v hv => (s1 v hv).2, s2, s3.trans (rest_perm hP)⟩ s4
    intro q hq q' hq'
    rcases l2 q hq with h | h
    · exact Nat.lt_trans (l1 q' hq') h
    · exact h.1 q' hq'
end Mine
end PartWrap
section PartEqD
open PySem PySem.W PyProof.Rows PySem.Calls PySem.Spec PyProof.V
namespace Mine
/-- data of our rows: no bytes, not deep -/
noncomputable def datOk : Nat → Dat → Bool
  | _, .none => true
  | _, .bool _ => true
  | _, .int _ => true
  | _, .str x => PyData.strOk x
  | n + 1, .tuple ds => ds.all (datOk n)
  | n + 1, .list ds => ds.all (datOk n)
  | _, _ => false
section
variable {h₀ h : Heap} {L : Addr} {news : List (Addr × Obj)}
mutual
theorem dat_reads (N : News h₀ L h news) : ∀ {v : Value} {d : Dat} (n : Nat), DatIn news v d → datOk n d = true → ∃ as, Reads h v (kqdP d) as
  | _, _, _, .none, _ => ⟨_, .none⟩
  | _, _, _, .bool b, _ => ⟨_, .bool b⟩
  | _, _, _, .int i t, _ => ⟨_, .int i t⟩
  | _, _, _, .str x t, _ => ⟨_, .str x t⟩
  | _, _, n, .bytes _ _, hk => by cases n <;> simp [datOk] at hk
  | _, _, 0, .tuple _ _, hk => by simp [datOk] at hk
  | _, _, 0, .list _ _, hk => by simp [datOk] at hk
  | _, _, n + 1, .tuple hm r, hk => by
    obtain ⟨as, q⟩ := dat_readsA N n r (by simpa [datOk] using hk)
    rw [kqdP]
    exact ⟨as, reads_tuple_at (N.get hm) rfl rfl (by simpa using q)⟩
  | _, _, n + 1, .list hm r, hk => by
    obtain ⟨as, q⟩ := dat_readsA N n r (by simpa [datOk] using hk)
    rw [kqdP]
    exact ⟨_, reads_list_at (N.get hm) rfl rfl (by simpa [W.listOf] using q)⟩
theorem dat_readsA (N : News h₀ L h news) : ∀ {vs : List Value} {ds : List Dat} (n : Nat), DatAll news vs ds → (∀ d ∈ ds, datOk n d = true) → ∃ as, ReadsAll h vs (kqdPs ds) as
  | _, _, _, .nil, _ => ⟨_, .nil⟩
  | _, _, n, .cons hd r, hk => by
    obtain ⟨as, q⟩ := dat_reads N n hd (hk _ (.head _))
    obtain ⟨bs, p⟩ := dat_readsA N n r fun d hm => hk d (.tail _ hm)
    rw [kqdPs]
    exact ⟨_, .cons q p⟩
end
end
theorem dat_layA {n : Nat} (ih : ∀ d, datOk n d = true → (kqdP d).canLay0 = true ∧ (kqdP d).depth ≤ n) : ∀ ds : List Dat, (∀ d ∈ ds, datOk n d = true) → PyData.canLayAll0 (kqdPs ds) = true ∧ PyData.depthAll (kqdPs ds) ≤ n
  | [], _ => by simp [kqdPs, PyData.canLayAll0, PyData.depthAll]
  | d :: ds, h => by
    have h1 := ih d (h d (.head _))
    have h2 := dat_layA ih ds fun e he => h e (.tail _ he)
    simp only [kqdPs, PyData.canLayAll0, PyData.depthAll, h1.1, h2.1, Bool.and_self, true_and]
    have a1 := h1.2
    have a2 := h2.2
    omega
theorem dat_lay (n : Nat) : ∀ d : Dat, datOk n d = true → (kqdP d).canLay0 = true ∧ (kqdP d).depth ≤ n := by
  induction n with
  | zero => intro d h; cases d <;> simp_all [datOk, kqdP, PyData.canLay0, PyData.depth]
  | succ n ih =>
    intro d h
    cases d with
    | none => simp [kqdP, PyData.canLay0, PyData.depth]
    | bool b => simp [kqdP, PyData.canLay0, PyData.depth]
    | int i => simp [kqdP, PyData.canLay0, PyData.depth]
    | str x => simp [datOk] at h; simp [kqdP, PyData.canLay0, PyData.depth, h]
    | bytes b => simp [datOk] at h
    | tuple ds =>
      have q := dat_layA ih ds (by simpa [datOk] using h)
      have q2 := q.2
      simp only [kqdP, PyData.canLay0, PyData.depth, q.1, true_and]
      omega
    | list ds =>
      have q := dat_layA ih ds (by simpa [datOk] using h)
      have q2 := q.2
      simp only [kqdP, PyData.canLay0, PyData.depth, q.1, true_and]
      omega
theorem dat_shaped {n : Nat} {d : Dat} (h : datOk n d = true) (hn : n ≤ 64) : SeqAt.shaped (kqdP d) = true := by
  have l := dat_lay n d h
  unfold SeqAt.shaped
  rw [l.1, Bool.true_and]
  exact decide_eq_true (Nat.le_trans l.2 hn)
section
variable {prog : Program} {w : World} {A : Around} {E : Value → Shared → Prop} {s : Shared} {h₀ : Heap} {L : Addr} {news : List (Addr × Obj)} {Q : Value → Shared → Prop}
/-- two lists of the same data are alike -/
theorem eq_same {a b : Addr} {xs ys : List Value} {ka kb : Nat} {D : List Dat} (N : News h₀ L s.heap news) (ma : (a, listOf xs.toArray ka) ∈ news) (mb : (b, listOf ys.toArray kb) ∈ news) (Da : DatAll news xs D) (Db : DatAll news ys D)
    (hD : ∀ d ∈ D, datOk 8 d = true) (hu : A.units + 64 < cLine) (h : Q (.bool true) s) : wpAny (model prog w) A (compareOp .Eq (.ref a) (.ref b)) Q E s := by
  have ok : datOk 9 (.list D) = true := by simpa [datOk] using hD
  obtain ⟨as, ra⟩ := dat_reads N 9 (.list ma Da) ok
  obtain ⟨bs, rb⟩ := dat_reads N 9 (.list mb Db) ok
  refine eq_dataH ra rb (dat_shaped ok (by decide)) (dat_shaped ok (by decide)) hu ?_
  rw [PySem.SeqAt.eqv_refl _ (dat_lay 9 _ ok).1]
  exact h
theorem tri_ok (k : Int × Int) (c : Int) : datOk 3 (tri k c) = true := by simp [tri, datOk]
theorem left_ok : datOk 3 nothingLeft = true := by decide +kernel
/-- what stands in a row -/
theorem row_mem {f : Nat → Option Int} : ∀ {rem : List (Int × Int)} {d : Dat}, d ∈ rowOf f rem → d = nothingLeft ∨ ∃ k c, d = tri k c
  | [], d, h => .inl (List.mem_singleton.mp h)
  | k :: r, d, h => by
    unfold rowOf at h
    split at h
    · rcases List.mem_cons.mp h with rfl | h
      · exact .inr ⟨k, 1, rfl⟩
      · exact row_mem h
    · exact .inr ⟨k, 0, List.mem_singleton.mp h⟩
noncomputable def nOf : Dat → Option Int
  | .tuple [.tuple [_, .int j], _, _] => some j
  | _ => none
theorem row_nums {f : Nat → Option Int} : ∀ {rem : List (Int × Int)}, (rowOf f rem).filterMap nOf = gones f rem
  | [] => rfl
  | k :: r => by
    unfold rowOf gones
    split
    · rw [List.filterMap_cons, row_nums]; rfl
    · rfl
theorem row_len {f : Nat → Option Int} : ∀ {rem : List (Int × Int)}, (rowOf f rem).length ≤ rem.length + 1
  | [] => Nat.le_refl _
  | k :: r => by
    unfold rowOf
    split
    · have := row_len (f := f) (rem := r); simpa using this
    · simp
theorem row_ok {f : Nat → Option Int} {rem : List (Int × Int)} : datOk 8 (.list (rowOf f rem)) = true := by
  have up : ∀ d, d ∈ rowOf f rem → datOk 7 d = true := by
    intro d hd
    rcases row_mem hd with rfl | ⟨k, c, rfl⟩
    · decide +kernel
    · simp [tri, datOk]
  simpa [datOk] using up
theorem ne_left {v : Value} {k : Int × Int} {c : Int} {t : Tok} (N : News h₀ L s.heap news) (hd : DatIn news v (tri k c)) (hu : A.units + 64 < cLine) (h : Q (.bool true) s) :
    wpAny (model prog w) A (compareOp .NotEq v (.str (Str.ofString "nothing left") t)) Q E s := by
  obtain ⟨as, ra⟩ := dat_reads N 3 hd (tri_ok k c)
  refine ne_dataH ra (Reads.str _ _) (dat_shaped (tri_ok k c) (by decide)) (dat_shaped (d := nothingLeft) left_ok (by decide)) hu ?_
  have e : PyData.eqv (kqdP (tri k c)) (.str (Str.ofString "nothing left")) = false := by simp [tri, kqdP, PyData.eqv]
  rw [e]; exact h
theorem left_left {t u : Tok} (hu : A.units + 64 < cLine) (h : Q (.bool false) s) :
    wpAny (model prog w) A (compareOp .NotEq (.str (Str.ofString "nothing left") t) (.str (Str.ofString "nothing left") u)) Q E s := by
  refine ne_dataH (Reads.str _ _) (Reads.str _ _) (dat_shaped (d := nothingLeft) left_ok (by decide)) (dat_shaped (d := nothingLeft) left_ok (by decide)) hu ?_
  have e : PyData.eqv (.str (Str.ofString "nothing left")) (.str (Str.ofString "nothing left")) = true := PySem.SeqAt.eqv_refl _ (dat_lay 3 nothingLeft left_ok).1
  rw [e]; exact h
end
end Mine
end PartEqD
section PartLawM
open PySem PySem.W PyProof.Rows PySem.Calls PySem.Spec PyProof.V
set_option maxHeartbeats 8000000
namespace Mine
/-- what the tail of the ledger is made of in a turn -/
noncomputable def TailOk (It : Nat) (own X : List (Addr × Obj)) : Prop := (∀ q ∈ X, @LT.lt Nat _ It q.1) ∧ ∀ p ∈ own, ∀ q ∈ X, p.1 ≠ q.1
theorem TailOk.add {It : Nat} {own X Y : List (Addr × Obj)} (h : TailOk It own X) (hy : ∀ q ∈ Y, (@LT.lt Nat _ It q.1) ∧ ∀ p ∈ own, @LT.lt Nat _ p.1 q.1) : TailOk It own (Y ++ X) := by
  refine ⟨fun q hq => ?_, fun p hp q hq => ?_⟩
  · rcases List.mem_append.mp hq with h1 | h1
    · exact (hy q h1).1
    · exact h.1 q h1
  · rcases List.mem_append.mp hq with h1 | h1
    · exact Nat.ne_of_lt ((hy q h1).2 p hp)
    · exact h.2 p hp q h1
theorem off_gen {k : Nat} (es tail : List (Addr × Obj)) (h : ∀ q ∈ es, q.1 ≠ k) (ht : ∀ q ∈ tail, q.1 ≠ k) : ∀ q ∈ es ++ tail, q.1 ≠ k := by
  intro q hq
  rcases List.mem_append.mp hq with hq | hq
  · exact h q hq
  · exact ht q hq
theorem own_gen {led X Y own : List (Addr × Obj)} {It' : Nat} (as : List Addr) (ho : OwnOff own (as ++ (led ++ X).map (·.1))) (t : TailOk It' own Y) : OwnOff own (as ++ (led ++ Y).map (·.1)) := by
  intro p hp b hb
  simp only [List.map_append, List.mem_append] at hb
  have h1 := ho p hp
  simp only [List.map_append, List.mem_append] at h1
  rcases hb with hb | hb | hb
  · exact h1 b (.inl hb)
  · exact h1 b (.inr (.inl hb))
  · obtain ⟨q, hq, rfl⟩ := List.mem_map.mp hb
    exact t.2 p hp q hq
theorem lb_1 {α : Type} {i2 r2 i1 r1 a b c d e : α} {l1 l2 : List α} : ∀ q ∈ i2 :: r2 :: i1 :: r1 :: a :: b :: c :: d :: e :: (l1 ++ l2), q ∈ i2 :: r2 :: (l2 ++ (i1 :: r1 :: (l1 ++ [a, b, c, d, e]))) :=
  shuf [i2, r2, i1, r1, a, b, c, d, e] [l1, l2] (Tr.at 0 (Tr.at 1 (Tr.ap (Tr.ls 1) (Tr.at 2 (Tr.at 3 (Tr.ap (Tr.ls 0) (Tr.at 4 (Tr.at 5 (Tr.at 6 (Tr.at 7 (Tr.at 8 Tr.nil))))))))))) (Tr.at 0 (Tr.at 1 (Tr.at 2 (Tr.at 3 (Tr.at 4 (Tr.at 5 (Tr.at 6 (Tr.at 7 (Tr.at 8 (Tr.ap (Tr.ls 0) (Tr.ls 1))))))))))) rfl rfl
theorem lb_2 {α : Type} {i3 r3 i2 r2 i1 r1 a b c d e : α} {l R : List α} : ∀ q ∈ i3 :: r3 :: i2 :: r2 :: i1 :: r1 :: a :: b :: c :: d :: e :: (l ++ R), q ∈ i3 :: r3 :: (l ++ (i2 :: r2 :: i1 :: r1 :: a :: b :: c :: d :: e :: R)) :=
  shuf [i3, r3, i2, r2, i1, r1, a, b, c, d, e] [l, R] (Tr.at 0 (Tr.at 1 (Tr.ap (Tr.ls 0) (Tr.at 2 (Tr.at 3 (Tr.at 4 (Tr.at 5 (Tr.at 6 (Tr.at 7 (Tr.at 8 (Tr.at 9 (Tr.at 10 (Tr.ls 1))))))))))))) (Tr.at 0 (Tr.at 1 (Tr.at 2 (Tr.at 3 (Tr.at 4 (Tr.at 5 (Tr.at 6 (Tr.at 7 (Tr.at 8 (Tr.at 9 (Tr.at 10 (Tr.ap (Tr.ls 0) (Tr.ls 1))))))))))))) rfl rfl
theorem lb_3 {α : Type} {t i3 r3 i2 r2 i1 r1 a b c d e : α} {l1 l2 l3 : List α} : ∀ q ∈ i1 :: r1 :: (l1 ++ (i3 :: r3 :: i2 :: r2 :: a :: b :: c :: d :: e :: (l3 ++ l2))), q ∈ t :: i3 :: r3 :: i2 :: r2 :: i1 :: r1 :: a :: b :: c :: d :: e :: (l3 ++ (l1 ++ l2)) :=
  shuf [t, i3, r3, i2, r2, i1, r1, a, b, c, d, e] [l1, l2, l3] (Tr.at 0 (Tr.at 1 (Tr.at 2 (Tr.at 3 (Tr.at 4 (Tr.at 5 (Tr.at 6 (Tr.at 7 (Tr.at 8 (Tr.at 9 (Tr.at 10 (Tr.at 11 (Tr.ap (Tr.ls 2) (Tr.ap (Tr.ls 0) (Tr.ls 1))))))))))))))) (Tr.at 5 (Tr.at 6 (Tr.ap (Tr.ls 0) (Tr.at 1 (Tr.at 2 (Tr.at 3 (Tr.at 4 (Tr.at 7 (Tr.at 8 (Tr.at 9 (Tr.at 10 (Tr.at 11 (Tr.ap (Tr.ls 2) (Tr.ls 1)))))))))))))) rfl rfl
theorem lb_4 {α : Type} {i3 r3 i2 r2 a b c d e : α} {l2 l3 : List α} : ∀ q ∈ i2 :: r2 :: (l2 ++ (i3 :: r3 :: a :: b :: c :: d :: e :: l3)), q ∈ i3 :: r3 :: i2 :: r2 :: a :: b :: c :: d :: e :: (l3 ++ l2) :=
  shuf [i3, r3, i2, r2, a, b, c, d, e] [l2, l3] (Tr.at 0 (Tr.at 1 (Tr.at 2 (Tr.at 3 (Tr.at 4 (Tr.at 5 (Tr.at 6 (Tr.at 7 (Tr.at 8 (Tr.ap (Tr.ls 1) (Tr.ls 0))))))))))) (Tr.at 2 (Tr.at 3 (Tr.ap (Tr.ls 0) (Tr.at 0 (Tr.at 1 (Tr.at 4 (Tr.at 5 (Tr.at 6 (Tr.at 7 (Tr.at 8 (Tr.ls 1))))))))))) rfl rfl
theorem lb_5 {α : Type} {i3 r3 i2 r2 a b c d e : α} {l2 l3 : List α} : ∀ q ∈ i3 :: r3 :: i2 :: r2 :: a :: b :: c :: d :: e :: (l3 ++ l2), q ∈ i2 :: r2 :: (l2 ++ (i3 :: r3 :: a :: b :: c :: d :: e :: l3)) :=
  shuf [i3, r3, i2, r2, a, b, c, d, e] [l2, l3] (Tr.at 2 (Tr.at 3 (Tr.ap (Tr.ls 0) (Tr.at 0 (Tr.at 1 (Tr.at 4 (Tr.at 5 (Tr.at 6 (Tr.at 7 (Tr.at 8 (Tr.ls 1))))))))))) (Tr.at 0 (Tr.at 1 (Tr.at 2 (Tr.at 3 (Tr.at 4 (Tr.at 5 (Tr.at 6 (Tr.at 7 (Tr.at 8 (Tr.ap (Tr.ls 1) (Tr.ls 0))))))))))) rfl rfl
theorem lb_6 {α : Type} {i3 r3 i2 r2 a b c d e : α} {l2 l3 : List α} : ∀ q ∈ i3 :: r3 :: (l3 ++ [a, b, c, d, e]), q ∈ i2 :: r2 :: (l2 ++ (i3 :: r3 :: a :: b :: c :: d :: e :: l3)) :=
  shuf [i3, r3, i2, r2, a, b, c, d, e] [l2, l3] (Tr.at 2 (Tr.at 3 (Tr.ap (Tr.ls 0) (Tr.at 0 (Tr.at 1 (Tr.at 4 (Tr.at 5 (Tr.at 6 (Tr.at 7 (Tr.at 8 (Tr.ls 1))))))))))) (Tr.at 0 (Tr.at 1 (Tr.ap (Tr.ls 1) (Tr.at 4 (Tr.at 5 (Tr.at 6 (Tr.at 7 (Tr.at 8 Tr.nil)))))))) rfl rfl
theorem lb_7 {α : Type} {i3 r3 a b c d e : α} {l3 : List α} : ∀ q ∈ i3 :: r3 :: a :: b :: c :: d :: e :: l3, q ∈ i3 :: r3 :: (l3 ++ [a, b, c, d, e]) :=
  shuf [i3, r3, a, b, c, d, e] [l3] (Tr.at 0 (Tr.at 1 (Tr.ap (Tr.ls 0) (Tr.at 2 (Tr.at 3 (Tr.at 4 (Tr.at 5 (Tr.at 6 Tr.nil)))))))) (Tr.at 0 (Tr.at 1 (Tr.at 2 (Tr.at 3 (Tr.at 4 (Tr.at 5 (Tr.at 6 (Tr.ls 0)))))))) rfl rfl
theorem lb_7' {α : Type} {i3 r3 a b c d e : α} {l3 : List α} : ∀ q ∈ i3 :: r3 :: (l3 ++ [a, b, c, d, e]), q ∈ i3 :: r3 :: a :: b :: c :: d :: e :: l3 :=
  shuf [i3, r3, a, b, c, d, e] [l3] (Tr.at 0 (Tr.at 1 (Tr.at 2 (Tr.at 3 (Tr.at 4 (Tr.at 5 (Tr.at 6 (Tr.ls 0)))))))) (Tr.at 0 (Tr.at 1 (Tr.ap (Tr.ls 0) (Tr.at 2 (Tr.at 3 (Tr.at 4 (Tr.at 5 (Tr.at 6 Tr.nil)))))))) rfl rfl
theorem lb_12 {α : Type} {x y a b c d e : α} : ∀ q ∈ [a, b, c, d, e], q ∈ [x, y, a, b, c, d, e] :=
  shuf [x, y, a, b, c, d, e] [] (Tr.at 0 (Tr.at 1 (Tr.at 2 (Tr.at 3 (Tr.at 4 (Tr.at 5 (Tr.at 6 Tr.nil))))))) (Tr.at 2 (Tr.at 3 (Tr.at 4 (Tr.at 5 (Tr.at 6 Tr.nil))))) rfl rfl
theorem lb_13 {α : Type} {x y h a b c d e : α} : ∀ q ∈ [h, a, b, c, d, e], q ∈ [h, x, y, a, b, c, d, e] :=
  shuf [x, y, h, a, b, c, d, e] [] (Tr.at 2 (Tr.at 0 (Tr.at 1 (Tr.at 3 (Tr.at 4 (Tr.at 5 (Tr.at 6 (Tr.at 7 Tr.nil)))))))) (Tr.at 2 (Tr.at 3 (Tr.at 4 (Tr.at 5 (Tr.at 6 (Tr.at 7 Tr.nil)))))) rfl rfl
theorem lb_14 {α : Type} {i r h a b c d e : α} {l : List α} : ∀ q ∈ i :: h :: r :: a :: b :: c :: d :: e :: l, q ∈ i :: r :: (l ++ [h, a, b, c, d, e]) :=
  shuf [i, r, h, a, b, c, d, e] [l] (Tr.at 0 (Tr.at 1 (Tr.ap (Tr.ls 0) (Tr.at 2 (Tr.at 3 (Tr.at 4 (Tr.at 5 (Tr.at 6 (Tr.at 7 Tr.nil))))))))) (Tr.at 0 (Tr.at 2 (Tr.at 1 (Tr.at 3 (Tr.at 4 (Tr.at 5 (Tr.at 6 (Tr.at 7 (Tr.ls 0))))))))) rfl rfl
theorem lb_8 {α : Type} {i3 r3 a b c d e : α} {l3 : List α} : ∀ q ∈ [a, b, c, d, e], q ∈ i3 :: r3 :: (l3 ++ [a, b, c, d, e]) :=
  shuf [i3, r3, a, b, c, d, e] [l3] (Tr.at 0 (Tr.at 1 (Tr.ap (Tr.ls 0) (Tr.at 2 (Tr.at 3 (Tr.at 4 (Tr.at 5 (Tr.at 6 Tr.nil)))))))) (Tr.at 2 (Tr.at 3 (Tr.at 4 (Tr.at 5 (Tr.at 6 Tr.nil))))) rfl rfl
theorem nsub {h₀ h : Heap} {L : Addr} {R R' : List (Addr × Obj)} (N : News h₀ L h R) (hs : ∀ q ∈ R', q ∈ R) : News h₀ L h R' := fun q hq => N q (hs q hq)
theorem lb_9 {α} {i3 r3 i2 r2 r1 a b c d e : α} {l1 l2 l3 : List α} : ∀ q ∈ r1 :: (l1 ++ (i3 :: r3 :: i2 :: r2 :: a :: b :: c :: d :: e :: (l3 ++ l2))), q ∈ r1 :: (l1 ++ [a, b, c, d, e]) ∨ q = i3 ∨ q ∈ r3 :: l3 ∨ q = i2 ∨ q ∈ r2 :: l2 := by
  intro p hp; simp only [List.mem_cons, List.mem_append, List.not_mem_nil, or_false] at hp ⊢; grind
theorem lb_10 {α} {i3 r3 r2 i1 r1 a b c d e : α} {l1 l2 l3 : List α} : ∀ q ∈ r2 :: (l2 ++ (i3 :: r3 :: a :: b :: c :: d :: e :: l3)), q ∈ i1 :: r1 :: (l1 ++ [a, b, c, d, e]) ∨ q = i3 ∨ q ∈ r3 :: l3 ∨ q ∈ r2 :: l2 := by
  intro p hp; simp only [List.mem_cons, List.mem_append, List.not_mem_nil, or_false] at hp ⊢; grind
theorem lb_11 {α : Type} {r3 i2 r2 i1 r1 a b c d e : α} {l3 R : List α} : ∀ q ∈ r3 :: (l3 ++ [a, b, c, d, e]), q ∈ r3 :: (l3 ++ (i2 :: r2 :: i1 :: r1 :: a :: b :: c :: d :: e :: R)) :=
  shuf [r3, i2, r2, i1, r1, a, b, c, d, e] [l3, R] (Tr.at 0 (Tr.ap (Tr.ls 0) (Tr.at 1 (Tr.at 2 (Tr.at 3 (Tr.at 4 (Tr.at 5 (Tr.at 6 (Tr.at 7 (Tr.at 8 (Tr.at 9 (Tr.ls 1)))))))))))) (Tr.at 0 (Tr.ap (Tr.ls 0) (Tr.at 5 (Tr.at 6 (Tr.at 7 (Tr.at 8 (Tr.at 9 Tr.nil))))))) rfl rfl
theorem with_site {M : Model} {A : Around} {α : Type} {t : Sem α} {Q : α → Shared → Prop} {E : Value → Shared → Prop} {s : Shared} (P : Around → Prop) (h : P A) (k : P A → wpAny M A t Q E s) : wpAny M A t Q E s := k h
theorem gen_E {M : Model} {A : Around} {env : Env} {body : List Stmt} {Q : Flow → Shared → Prop} {E : Value → Shared → Prop} {s : Shared} (hP : PassesOwn M A env E) (k : ∀ E', PassesOwn M A env E' → wpAny M A (execs body env) Q E' s) : wpAny M A (execs body env) Q E s := k E hP
/-- an address whose object is turned -/
noncomputable def MutOk (led own : List (Addr × Obj)) (It a : Nat) : Prop := (∀ q ∈ led, q.1 ≠ a) ∧ (∀ q ∈ own, q.1 ≠ a) ∧ a < It
theorem MutOk.tail {led own X : List (Addr × Obj)} {It a : Nat} (h : MutOk led own It a) (t : TailOk It own X) : ∀ q ∈ led ++ (X ++ own), q.1 ≠ a := by
  intro q hq
  simp only [List.mem_append] at hq
  rcases hq with h1 | h1 | h1
  · exact h.1 q h1
  · exact Nat.ne_of_gt (Nat.lt_trans h.2.2 (t.1 q h1))
  · exact h.2.1 q h1
theorem ints_get {vs : List Value} {ns : List Int} (h : IntsAre vs ns) : ∀ {i : Nat} {v : Value}, vs[i]? = some v → ∃ n t, ns[i]? = some n ∧ v = .int n t := by
  induction h with
  | nil => intro i v hv; simp at hv
  | cons n t _ ih =>
    intro i v hv
    cases i with
    | zero => simp at hv; exact ⟨n, t, rfl, hv.symm⟩
    | succ i => simp at hv; simpa using ih hv
theorem ints_len {vs : List Value} {ns : List Int} (h : IntsAre vs ns) : vs.length = ns.length := by
  induction h with
  | nil => rfl
  | cons n t _ ih => simp [ih]
theorem item_last {prog : Program} {w : World} {A : Around} {E : Value → Shared → Prop} {s : Shared} {h₀ : Heap} {L D : Addr} {news : List (Addr × Obj)} {vs : List Value} {y : Value} {n : Nat} {value slice : PySem.Expr} {u : Tok} {Q : Value → Shared → Prop}
    (N : News h₀ L s.heap news) (hm : (D, listOf (vs ++ [y]).toArray n) ∈ news) (h : Q y s)
    (hs : subscripted slice false (.ref D) (.int (-1) u) = operate [.ref D, .int (-1) u] (getItem (.ref D) (.int (-1) u)) := by with_unfolding_all rfl) :
    wpAny (model prog w) A (subscriptTail value slice (.ref D) (.int (-1) u)) Q E s := by
  refine kde_neg (vs := vs ++ [y]) (j := vs.length) (News.isList N hm) (by decide) (by decide) ?_ ?_ h hs
  · unfold seqIndex?
    simp
    try omega
  · rw [List.getElem?_append_right (Nat.le_refl _)]; simp
theorem tri_open {R : List (Addr × Obj)} {v : Value} {k : Int × Int} {c : Int} (h : DatIn R v (tri k c)) : ∃ a n1 b t1 t2 n2 tc, v = .ref a ∧ (a, tupOf [.ref b, .int c tc, .bool true] n1) ∈ R ∧ (b, tupOf [.int k.1 t1, .int k.2 t2] n2) ∈ R := by
  cases h with
  | tuple hm r =>
    cases r with
    | cons h1 r =>
      cases r with
      | cons h2 r =>
        cases r with
        | cons h3 r =>
          cases r
          cases h2
          cases h3
          obtain ⟨b, t1, t2, n2, rfl, hb⟩ := PairAt.ofDat h1
          exact ⟨_, _, b, t1, t2, n2, _, rfl, hm, hb⟩
theorem left_open {R : List (Addr × Obj)} {v : Value} (h : DatIn R v nothingLeft) : ∃ t, v = .str (Str.ofString "nothing left") t := by
  cases h; exact ⟨_, rfl⟩
theorem take_nums {l : List Dat} {i : Nat} {d : Dat} (h : l[i]? = some d) : (l.take (i + 1)).filterMap nOf = (l.take i).filterMap nOf ++ (nOf d).toList := by
  rw [List.take_succ, h, List.filterMap_append]
  cases hd : nOf d <;> simp [hd]
theorem ext_n {prog : Program} {w : World} {A : Around} {E : Value → Shared → Prop} {s : Shared} {h₀ : Heap} {L D b : Addr} {m : Str → Option Value} {R : List (Addr × Obj)} {vs ys : List Value} {n n2 : Nat} {Q : Value → Shared → Prop}
    (F : Fr h₀ L s.heap m) (N : News h₀ L s.heap ((D, W.listOf vs.toArray n) :: R)) (hb : (b, W.listOf ys.toArray n2) ∈ R) (hR : ∀ p ∈ R, p.1 ≠ D) (hz : vs.length + ys.length < 100000)
    (h : ∀ h' n', Fr h₀ L h' m → News h₀ L h' ((D, W.listOf (vs ++ ys).toArray n') :: R) → Q .none { s with heap := h' }) : wpAny (model prog w) A (call (.builtin "list.extend") [.ref D, .ref b]) Q E s := by
  have hno : ¬(!vs.toArray.isEmpty && Builtin.List.listTooLong (vs.toArray.size + ys.toArray.size)) = true := by
    unfold Builtin.List.listTooLong
    simp [sizeLine]
    omega
  by_cases e : ys = []
  · subst e
    refine kxn_extend F N (.tail _ hb) rfl (Upd.head hR) hno (by simp [sizeLine]; omega) (by simp [sizeLine]; omega) ?_
    intro h' F' N'
    exact h h' n F' (by simpa using N')
  · refine kl_extend (l := vs ++ ys) F N (.tail _ hb) (by simp) (by simpa using e) (Upd.head hR) hno (by simp [sizeLine]; omega) (by simp [sizeLine]; omega) ?_
    intro h' F' N'
    exact h h' _ F' N'
theorem intsAre_app {vs us : List Value} {ns ks : List Int} (h : IntsAre vs ns) (h2 : IntsAre us ks) : IntsAre (vs ++ us) (ns ++ ks) := by
  induction h with
  | nil => exact h2
  | cons _ _ _ ih => exact .cons _ _ ih
theorem Good.backs {ks : List (Int × Int)} {G : List Int} {c : Nat} : ∀ {js Bk : List Int}, Good ks G Bk c → (∀ a ∈ js, ∃ j : Nat, a = (j : Int) ∧ j < ks.length) → Good ks G (Bk ++ js) c
  | [], Bk, h, _ => by simpa using h
  | a :: js, Bk, h, hj => by
    obtain ⟨j, e, hl⟩ := hj a (List.mem_cons_self ..)
    have h1 := (h.back hl).backs (js := js) (fun b hb => hj b (List.mem_cons_of_mem _ hb))
    rw [← e, List.append_assoc] at h1
    exact h1
theorem js_step {js : List Int} {t : Nat} {a : Int} (hn : js.Nodup) (h : js[t]? = some a) : ¬ a ∈ js.take t ∧ js.take (t + 1) = js.take t ++ [a] := by
  have hl : t < js.length := by
    rcases Nat.lt_or_ge t js.length with q | q
    · exact q
    · rw [List.getElem?_eq_none q] at h; cases h
  have e : js.take (t + 1) = js.take t ++ [a] := by rw [List.take_succ, h]; rfl
  refine ⟨?_, e⟩
  have h1 : (js.take (t + 1)).Nodup := hn.sublist (List.take_sublist ..)
  rw [e, List.nodup_append] at h1
  intro hm
  exact h1.2.2 a hm a (List.mem_singleton.mpr rfl) rfl
theorem MutOk.more {led own own2 : List (Addr × Obj)} {It a Dn : Nat} {o : Obj} (h : MutOk led own It a) (hD : Dn ≠ a) (h2 : ∀ q ∈ own2, q.1 ≠ a) : MutOk led ((Dn, o) :: (own ++ own2)) It a := by
  refine ⟨h.1, fun q hq => ?_, h.2.2⟩
  rcases List.mem_cons.mp hq with rfl | hq
  · exact hD
  · rcases List.mem_append.mp hq with hq | hq
    · exact h.2.1 q hq
    · exact h2 q hq
theorem TailOk.more {It : Nat} {own own2 X : List (Addr × Obj)} {Dn : Nat} {o : Obj} (t : TailOk It own X) (hD : ∀ q ∈ X, q.1 ≠ Dn) (h2 : ∀ p ∈ own2, ∀ q ∈ X, p.1 ≠ q.1) : TailOk It ((Dn, o) :: (own ++ own2)) X := by
  refine ⟨t.1, fun p hp q hq => ?_⟩
  rcases List.mem_cons.mp hp with rfl | hp
  · exact Ne.symm (hD q hq)
  · rcases List.mem_append.mp hp with hp | hp
    · exact t.2 p hp q hq
    · exact h2 p hp q hq
theorem last_three {A : List Int} {i : Nat} {x : Int} (h : (A ++ [3, 3, 3, 3])[i]? = some x) (hi : A.length ≤ i) : x = 3 := by
  rw [List.getElem?_append_right hi] at h
  have hm := List.mem_of_getElem? h
  simp at hm
  exact hm
theorem key_small (y : Int) : y.fmod 3 ∈ [(0 : Int), 1, 2] := by
  rw [Int.fmod_eq_emod_of_nonneg _ (by decide)]
  have h1 := Int.emod_nonneg y (b := 3) (by decide)
  have h2 := Int.emod_lt_of_pos y (b := 3) (by decide)
  have : y % 3 = 0 ∨ y % 3 = 1 ∨ y % 3 = 2 := by omega
  simpa using this
theorem heap_push {h₀ h : Heap} {L : Addr} {X : List (Addr × Obj)} {hs : List Value} {ks : List (Int × Int)} {G Bk : List Int} {c : Nat} {k : Int × Int} {v : Value} (H : HeapX X hs (lyingK ks G ks.length)) (N : News h₀ L h X) (hv : PairAt X v (k.2, (ks.length : Int))) (hg : Good ks G Bk c) :
    HeapX X (sdL (pairKey X) v (hs ++ [v]) hs.length) (lyingK (ks ++ [k]) G (ks ++ [k]).length) := by
  obtain ⟨p1, p2⟩ := push_law (x := v) H.2.1
  refine ⟨fun u hu => ?_, p1, ?_⟩
  · rcases List.mem_cons.mp (p2.mem_iff.mp hu) with rfl | hu
    · exact ⟨_, hv⟩
    · exact H.1 u hu
  · rw [lying_new hg]
    refine (p2.map _).trans ?_
    rw [List.map_cons, pairKey_is N hv]
    exact (List.Perm.cons _ H.2.2).trans (List.perm_append_comm (l₁ := [_]))
theorem ints_dat {R : List (Addr × Obj)} {vs : List Value} {ns : List Int} (h : IntsAre vs ns) : DatAll R vs (ns.map Dat.int) := by
  induction h with
  | nil => exact .nil
  | cons n t _ ih => exact .cons (.int n t) ih
theorem ints_ok (ns : List Int) : datOk 8 (.list (ns.map Dat.int)) = true := by
  simp [datOk]
theorem dic0 : Dic Dt0 (fOf [] []) := by
  intro j hj
  have h := nameOf_top hj
  show (if Spec.same (.str (Str.ofString "<string>")) (.str (nameOf j)) = true then some (PyData.int 1) else none) = _
  rw [if_neg]
  · simp [fOf]
  · intro hs
    have : Str.ofString "<string>" = nameOf j := by simpa [Spec.same] using hs
    exact h this.symm
theorem tail14 {α : Type} {a1 a2 a3 a4 a5 a6 a7 a8 a9 a10 a11 a12 a13 a14 : α} {l : List α} : ∀ p ∈ l, p ∈ a1 :: a2 :: a3 :: a4 :: a5 :: a6 :: a7 :: a8 :: a9 :: a10 :: a11 :: a12 :: a13 :: a14 :: l := fun _ h => .tail _ (.tail _ (.tail _ (.tail _ (.tail _ (.tail _ (.tail _ (.tail _ (.tail _ (.tail _ (.tail _ (.tail _ (.tail _ (.tail _ h)))))))))))))
theorem dists {c1 c2 c3 c4 cK Hp rd ig En Go Ba To Du It : Nat} (h : c1 < c2 ∧ c2 < c3 ∧ c3 < c4 ∧ c4 < cK ∧ cK < Hp ∧ Hp < rd ∧ rd < ig ∧ ig < En ∧ En < Go ∧ Go < Ba ∧ Ba < To ∧ To < Du ∧ Du < It) : (To ≠ Hp ∧ Du ≠ Hp ∧ En ≠ Hp ∧ Go ≠ Hp ∧ Ba ≠ Hp ∧ ig ≠ Hp ∧ cK ≠ Hp ∧ rd ≠ Hp ∧ It ≠ Hp ∧ c4 ≠ Hp ∧ c3 ≠ Hp ∧ c2 ≠ Hp ∧ c1 ≠ Hp) ∧ (Hp ≠ To ∧ Du ≠ To ∧ En ≠ To ∧ Go ≠ To ∧ Ba ≠ To ∧ ig ≠ To ∧ cK ≠ To ∧ rd ≠ To ∧ It ≠ To ∧ c4 ≠ To ∧ c3 ≠ To ∧ c2 ≠ To ∧ c1 ≠ To) ∧ (Hp ≠ Du ∧ To ≠ Du ∧ En ≠ Du ∧ Go ≠ Du ∧ Ba ≠ Du ∧ ig ≠ Du ∧ cK ≠ Du ∧ rd ≠ Du ∧ It ≠ Du ∧ c4 ≠ Du ∧ c3 ≠ Du ∧ c2 ≠ Du ∧ c1 ≠ Du) ∧ (Hp ≠ En ∧ To ≠ En ∧ Du ≠ En ∧ Go ≠ En ∧ Ba ≠ En ∧ ig ≠ En ∧ cK ≠ En ∧ rd ≠ En ∧ It ≠ En ∧ c4 ≠ En ∧ c3 ≠ En ∧ c2 ≠ En ∧ c1 ≠ En) ∧ (Hp ≠ Go ∧ To ≠ Go ∧ Du ≠ Go ∧ En ≠ Go ∧ Ba ≠ Go ∧ ig ≠ Go ∧ cK ≠ Go ∧ rd ≠ Go ∧ It ≠ Go ∧ c4 ≠ Go ∧ c3 ≠ Go ∧ c2 ≠ Go ∧ c1 ≠ Go) ∧ (Hp ≠ Ba ∧ To ≠ Ba ∧ Du ≠ Ba ∧ En ≠ Ba ∧ Go ≠ Ba ∧ ig ≠ Ba ∧ cK ≠ Ba ∧ rd ≠ Ba ∧ It ≠ Ba ∧ c4 ≠ Ba ∧ c3 ≠ Ba ∧ c2 ≠ Ba ∧ c1 ≠ Ba) ∧ (Hp ≠ ig ∧ To ≠ ig ∧ Du ≠ ig ∧ En ≠ ig ∧ Go ≠ ig ∧ Ba ≠ ig ∧ cK ≠ ig ∧ rd ≠ ig ∧ It ≠ ig ∧ c4 ≠ ig ∧ c3 ≠ ig ∧ c2 ≠ ig ∧ c1 ≠ ig) := by
  obtain ⟨h0_1, h1_2, h2_3, h3_4, h4_5, h5_6, h6_7, h7_8, h8_9, h9_10, h10_11, h11_12, h12_13⟩ := h
  have h0_2 := Nat.lt_trans h0_1 h1_2
  have h1_3 := Nat.lt_trans h1_2 h2_3
  have h2_4 := Nat.lt_trans h2_3 h3_4
  have h3_5 := Nat.lt_trans h3_4 h4_5
  have h4_6 := Nat.lt_trans h4_5 h5_6
  have h5_7 := Nat.lt_trans h5_6 h6_7
  have h6_8 := Nat.lt_trans h6_7 h7_8
  have h7_9 := Nat.lt_trans h7_8 h8_9
  have h8_10 := Nat.lt_trans h8_9 h9_10
  have h9_11 := Nat.lt_trans h9_10 h10_11
  have h10_12 := Nat.lt_trans h10_11 h11_12
  have h11_13 := Nat.lt_trans h11_12 h12_13
  have h0_3 := Nat.lt_trans h0_2 h2_3
  have h1_4 := Nat.lt_trans h1_3 h3_4
  have h2_5 := Nat.lt_trans h2_4 h4_5
  have h3_6 := Nat.lt_trans h3_5 h5_6
  have h4_7 := Nat.lt_trans h4_6 h6_7
  have h5_8 := Nat.lt_trans h5_7 h7_8
  have h6_9 := Nat.lt_trans h6_8 h8_9
  have h7_10 := Nat.lt_trans h7_9 h9_10
  have h8_11 := Nat.lt_trans h8_10 h10_11
  have h9_12 := Nat.lt_trans h9_11 h11_12
  have h10_13 := Nat.lt_trans h10_12 h12_13
  have h0_4 := Nat.lt_trans h0_3 h3_4
  have h1_5 := Nat.lt_trans h1_4 h4_5
  have h2_6 := Nat.lt_trans h2_5 h5_6
  have h3_7 := Nat.lt_trans h3_6 h6_7
  have h4_8 := Nat.lt_trans h4_7 h7_8
  have h5_9 := Nat.lt_trans h5_8 h8_9
  have h6_10 := Nat.lt_trans h6_9 h9_10
  have h7_11 := Nat.lt_trans h7_10 h10_11
  have h8_12 := Nat.lt_trans h8_11 h11_12
  have h9_13 := Nat.lt_trans h9_12 h12_13
  have h0_5 := Nat.lt_trans h0_4 h4_5
  have h1_6 := Nat.lt_trans h1_5 h5_6
  have h2_7 := Nat.lt_trans h2_6 h6_7
  have h3_8 := Nat.lt_trans h3_7 h7_8
  have h4_9 := Nat.lt_trans h4_8 h8_9
  have h5_10 := Nat.lt_trans h5_9 h9_10
  have h6_11 := Nat.lt_trans h6_10 h10_11
  have h7_12 := Nat.lt_trans h7_11 h11_12
  have h8_13 := Nat.lt_trans h8_12 h12_13
  have h0_6 := Nat.lt_trans h0_5 h5_6
  have h1_7 := Nat.lt_trans h1_6 h6_7
  have h2_8 := Nat.lt_trans h2_7 h7_8
  have h3_9 := Nat.lt_trans h3_8 h8_9
  have h4_10 := Nat.lt_trans h4_9 h9_10
  have h5_11 := Nat.lt_trans h5_10 h10_11
  have h6_12 := Nat.lt_trans h6_11 h11_12
  have h7_13 := Nat.lt_trans h7_12 h12_13
  have h0_7 := Nat.lt_trans h0_6 h6_7
  have h1_8 := Nat.lt_trans h1_7 h7_8
  have h2_9 := Nat.lt_trans h2_8 h8_9
  have h3_10 := Nat.lt_trans h3_9 h9_10
  have h4_11 := Nat.lt_trans h4_10 h10_11
  have h5_12 := Nat.lt_trans h5_11 h11_12
  have h6_13 := Nat.lt_trans h6_12 h12_13
  have h0_8 := Nat.lt_trans h0_7 h7_8
  have h1_9 := Nat.lt_trans h1_8 h8_9
  have h2_10 := Nat.lt_trans h2_9 h9_10
  have h3_11 := Nat.lt_trans h3_10 h10_11
  have h4_12 := Nat.lt_trans h4_11 h11_12
  have h5_13 := Nat.lt_trans h5_12 h12_13
  have h0_9 := Nat.lt_trans h0_8 h8_9
  have h1_10 := Nat.lt_trans h1_9 h9_10
  have h2_11 := Nat.lt_trans h2_10 h10_11
  have h3_12 := Nat.lt_trans h3_11 h11_12
  have h4_13 := Nat.lt_trans h4_12 h12_13
  have h0_10 := Nat.lt_trans h0_9 h9_10
  have h1_11 := Nat.lt_trans h1_10 h10_11
  have h2_12 := Nat.lt_trans h2_11 h11_12
  have h3_13 := Nat.lt_trans h3_12 h12_13
  have h0_11 := Nat.lt_trans h0_10 h10_11
  have h1_12 := Nat.lt_trans h1_11 h11_12
  have h2_13 := Nat.lt_trans h2_12 h12_13
  have h0_12 := Nat.lt_trans h0_11 h11_12
  have h1_13 := Nat.lt_trans h1_12 h12_13
  have h0_13 := Nat.lt_trans h0_12 h12_13
  exact ⟨⟨Nat.ne_of_gt h5_11, Nat.ne_of_gt h5_12, Nat.ne_of_gt h5_8, Nat.ne_of_gt h5_9, Nat.ne_of_gt h5_10, Nat.ne_of_gt h5_7, Nat.ne_of_lt h4_5, Nat.ne_of_gt h5_6, Nat.ne_of_gt h5_13, Nat.ne_of_lt h3_5, Nat.ne_of_lt h2_5, Nat.ne_of_lt h1_5, Nat.ne_of_lt h0_5⟩, ⟨Nat.ne_of_lt h5_11, Nat.ne_of_gt h11_12, Nat.ne_of_lt h8_11, Nat.ne_of_lt h9_11, Nat.ne_of_lt h10_11, Nat.ne_of_lt h7_11, Nat.ne_of_lt h4_11, Nat.ne_of_lt h6_11, Nat.ne_of_gt h11_13, Nat.ne_of_lt h3_11, Nat.ne_of_lt h2_11, Nat.ne_of_lt h1_11, Nat.ne_of_lt h0_11⟩, ⟨Nat.ne_of_lt h5_12, Nat.ne_of_lt h11_12, Nat.ne_of_lt h8_12, Nat.ne_of_lt h9_12, Nat.ne_of_lt h10_12, Nat.ne_of_lt h7_12, Nat.ne_of_lt h4_12, Nat.ne_of_lt h6_12, Nat.ne_of_gt h12_13, Nat.ne_of_lt h3_12, Nat.ne_of_lt h2_12, Nat.ne_of_lt h1_12, Nat.ne_of_lt h0_12⟩, ⟨Nat.ne_of_lt h5_8, Nat.ne_of_gt h8_11, Nat.ne_of_gt h8_12, Nat.ne_of_gt h8_9, Nat.ne_of_gt h8_10, Nat.ne_of_lt h7_8, Nat.ne_of_lt h4_8, Nat.ne_of_lt h6_8, Nat.ne_of_gt h8_13, Nat.ne_of_lt h3_8, Nat.ne_of_lt h2_8, Nat.ne_of_lt h1_8, Nat.ne_of_lt h0_8⟩, ⟨Nat.ne_of_lt h5_9, Nat.ne_of_gt h9_11, Nat.ne_of_gt h9_12, Nat.ne_of_lt h8_9, Nat.ne_of_gt h9_10, Nat.ne_of_lt h7_9, Nat.ne_of_lt h4_9, Nat.ne_of_lt h6_9, Nat.ne_of_gt h9_13, Nat.ne_of_lt h3_9, Nat.ne_of_lt h2_9, Nat.ne_of_lt h1_9, Nat.ne_of_lt h0_9⟩, ⟨Nat.ne_of_lt h5_10, Nat.ne_of_gt h10_11, Nat.ne_of_gt h10_12, Nat.ne_of_lt h8_10, Nat.ne_of_lt h9_10, Nat.ne_of_lt h7_10, Nat.ne_of_lt h4_10, Nat.ne_of_lt h6_10, Nat.ne_of_gt h10_13, Nat.ne_of_lt h3_10, Nat.ne_of_lt h2_10, Nat.ne_of_lt h1_10, Nat.ne_of_lt h0_10⟩, ⟨Nat.ne_of_lt h5_7, Nat.ne_of_gt h7_11, Nat.ne_of_gt h7_12, Nat.ne_of_gt h7_8, Nat.ne_of_gt h7_9, Nat.ne_of_gt h7_10, Nat.ne_of_lt h4_7, Nat.ne_of_lt h6_7, Nat.ne_of_gt h7_13, Nat.ne_of_lt h3_7, Nat.ne_of_lt h2_7, Nat.ne_of_lt h1_7, Nat.ne_of_lt h0_7⟩⟩
theorem lt_head {a : Addr × Obj} {R : List (Addr × Obj)} {d : Addr} (h : ∀ p ∈ a :: R, p.1 < d) : @LT.lt Nat _ a.1 d := h a (List.mem_cons_self ..)
theorem at1 {α : Type} {a1 : α} {l : List α} : a1 ∈ a1 :: l := .head _
theorem at2 {α : Type} {a1 a2 : α} {l : List α} : a2 ∈ a1 :: a2 :: l := .tail _ (.head _)
theorem at3 {α : Type} {a1 a2 a3 : α} {l : List α} : a3 ∈ a1 :: a2 :: a3 :: l := .tail _ (.tail _ (.head _))
theorem at4 {α : Type} {a1 a2 a3 a4 : α} {l : List α} : a4 ∈ a1 :: a2 :: a3 :: a4 :: l := .tail _ (.tail _ (.tail _ (.head _)))
theorem at5 {α : Type} {a1 a2 a3 a4 a5 : α} {l : List α} : a5 ∈ a1 :: a2 :: a3 :: a4 :: a5 :: l := .tail _ (.tail _ (.tail _ (.tail _ (.head _))))
theorem at6 {α : Type} {a1 a2 a3 a4 a5 a6 : α} {l : List α} : a6 ∈ a1 :: a2 :: a3 :: a4 :: a5 :: a6 :: l := .tail _ (.tail _ (.tail _ (.tail _ (.tail _ (.head _)))))
theorem at7 {α : Type} {a1 a2 a3 a4 a5 a6 a7 : α} {l : List α} : a7 ∈ a1 :: a2 :: a3 :: a4 :: a5 :: a6 :: a7 :: l := .tail _ (.tail _ (.tail _ (.tail _ (.tail _ (.tail _ (.head _))))))
theorem at8 {α : Type} {a1 a2 a3 a4 a5 a6 a7 a8 : α} {l : List α} : a8 ∈ a1 :: a2 :: a3 :: a4 :: a5 :: a6 :: a7 :: a8 :: l := .tail _ (.tail _ (.tail _ (.tail _ (.tail _ (.tail _ (.tail _ (.head _)))))))
theorem at9 {α : Type} {a1 a2 a3 a4 a5 a6 a7 a8 a9 : α} {l : List α} : a9 ∈ a1 :: a2 :: a3 :: a4 :: a5 :: a6 :: a7 :: a8 :: a9 :: l := .tail _ (.tail _ (.tail _ (.tail _ (.tail _ (.tail _ (.tail _ (.tail _ (.head _))))))))
theorem at10 {α : Type} {a1 a2 a3 a4 a5 a6 a7 a8 a9 a10 : α} {l : List α} : a10 ∈ a1 :: a2 :: a3 :: a4 :: a5 :: a6 :: a7 :: a8 :: a9 :: a10 :: l := .tail _ (.tail _ (.tail _ (.tail _ (.tail _ (.tail _ (.tail _ (.tail _ (.tail _ (.head _)))))))))
theorem at11 {α : Type} {a1 a2 a3 a4 a5 a6 a7 a8 a9 a10 a11 : α} {l : List α} : a11 ∈ a1 :: a2 :: a3 :: a4 :: a5 :: a6 :: a7 :: a8 :: a9 :: a10 :: a11 :: l := .tail _ (.tail _ (.tail _ (.tail _ (.tail _ (.tail _ (.tail _ (.tail _ (.tail _ (.tail _ (.head _))))))))))
theorem at12 {α : Type} {a1 a2 a3 a4 a5 a6 a7 a8 a9 a10 a11 a12 : α} {l : List α} : a12 ∈ a1 :: a2 :: a3 :: a4 :: a5 :: a6 :: a7 :: a8 :: a9 :: a10 :: a11 :: a12 :: l := .tail _ (.tail _ (.tail _ (.tail _ (.tail _ (.tail _ (.tail _ (.tail _ (.tail _ (.tail _ (.tail _ (.head _)))))))))))
theorem at13 {α : Type} {a1 a2 a3 a4 a5 a6 a7 a8 a9 a10 a11 a12 a13 : α} {l : List α} : a13 ∈ a1 :: a2 :: a3 :: a4 :: a5 :: a6 :: a7 :: a8 :: a9 :: a10 :: a11 :: a12 :: a13 :: l := .tail _ (.tail _ (.tail _ (.tail _ (.tail _ (.tail _ (.tail _ (.tail _ (.tail _ (.tail _ (.tail _ (.tail _ (.head _))))))))))))
theorem at14 {α : Type} {a1 a2 a3 a4 a5 a6 a7 a8 a9 a10 a11 a12 a13 a14 : α} {l : List α} : a14 ∈ a1 :: a2 :: a3 :: a4 :: a5 :: a6 :: a7 :: a8 :: a9 :: a10 :: a11 :: a12 :: a13 :: a14 :: l := .tail _ (.tail _ (.tail _ (.tail _ (.tail _ (.tail _ (.tail _ (.tail _ (.tail _ (.tail _ (.tail _ (.tail _ (.tail _ (.head _)))))))))))))
theorem tail11 {α : Type} {a1 a2 a3 a4 a5 a6 a7 a8 a9 a10 a11 : α} {l : List α} : ∀ p ∈ l, p ∈ a1 :: a2 :: a3 :: a4 :: a5 :: a6 :: a7 :: a8 :: a9 :: a10 :: a11 :: l := fun _ h => .tail _ (.tail _ (.tail _ (.tail _ (.tail _ (.tail _ (.tail _ (.tail _ (.tail _ (.tail _ (.tail _ (h)))))))))))
theorem ords {c1 c2 c3 c4 cK Hp rd ig En Go Ba To Du It : Nat} (h : c1 < c2 ∧ c2 < c3 ∧ c3 < c4 ∧ c4 < cK ∧ cK < Hp ∧ Hp < rd ∧ rd < ig ∧ ig < En ∧ En < Go ∧ Go < Ba ∧ Ba < To ∧ To < Du ∧ Du < It) : Hp < It ∧ To < It ∧ Du < It ∧ En < It ∧ Go < It ∧ Ba < It ∧ ig < It ∧ cK < It ∧ cK ≤ Hp ∧ ig ≤ To ∧ ig ≤ Du ∧ ig ≤ En ∧ ig ≤ Go ∧ ig ≤ Ba := by
  obtain ⟨h0_1, h1_2, h2_3, h3_4, h4_5, h5_6, h6_7, h7_8, h8_9, h9_10, h10_11, h11_12, h12_13⟩ := h
  have h0_2 := Nat.lt_trans h0_1 h1_2
  have h1_3 := Nat.lt_trans h1_2 h2_3
  have h2_4 := Nat.lt_trans h2_3 h3_4
  have h3_5 := Nat.lt_trans h3_4 h4_5
  have h4_6 := Nat.lt_trans h4_5 h5_6
  have h5_7 := Nat.lt_trans h5_6 h6_7
  have h6_8 := Nat.lt_trans h6_7 h7_8
  have h7_9 := Nat.lt_trans h7_8 h8_9
  have h8_10 := Nat.lt_trans h8_9 h9_10
  have h9_11 := Nat.lt_trans h9_10 h10_11
  have h10_12 := Nat.lt_trans h10_11 h11_12
  have h11_13 := Nat.lt_trans h11_12 h12_13
  have h0_3 := Nat.lt_trans h0_2 h2_3
  have h1_4 := Nat.lt_trans h1_3 h3_4
  have h2_5 := Nat.lt_trans h2_4 h4_5
  have h3_6 := Nat.lt_trans h3_5 h5_6
  have h4_7 := Nat.lt_trans h4_6 h6_7
  have h5_8 := Nat.lt_trans h5_7 h7_8
  have h6_9 := Nat.lt_trans h6_8 h8_9
  have h7_10 := Nat.lt_trans h7_9 h9_10
  have h8_11 := Nat.lt_trans h8_10 h10_11
  have h9_12 := Nat.lt_trans h9_11 h11_12
  have h10_13 := Nat.lt_trans h10_12 h12_13
  have h0_4 := Nat.lt_trans h0_3 h3_4
  have h1_5 := Nat.lt_trans h1_4 h4_5
  have h2_6 := Nat.lt_trans h2_5 h5_6
  have h3_7 := Nat.lt_trans h3_6 h6_7
  have h4_8 := Nat.lt_trans h4_7 h7_8
  have h5_9 := Nat.lt_trans h5_8 h8_9
  have h6_10 := Nat.lt_trans h6_9 h9_10
  have h7_11 := Nat.lt_trans h7_10 h10_11
  have h8_12 := Nat.lt_trans h8_11 h11_12
  have h9_13 := Nat.lt_trans h9_12 h12_13
  have h0_5 := Nat.lt_trans h0_4 h4_5
  have h1_6 := Nat.lt_trans h1_5 h5_6
  have h2_7 := Nat.lt_trans h2_6 h6_7
  have h3_8 := Nat.lt_trans h3_7 h7_8
  have h4_9 := Nat.lt_trans h4_8 h8_9
  have h5_10 := Nat.lt_trans h5_9 h9_10
  have h6_11 := Nat.lt_trans h6_10 h10_11
  have h7_12 := Nat.lt_trans h7_11 h11_12
  have h8_13 := Nat.lt_trans h8_12 h12_13
  have h0_6 := Nat.lt_trans h0_5 h5_6
  have h1_7 := Nat.lt_trans h1_6 h6_7
  have h2_8 := Nat.lt_trans h2_7 h7_8
  have h3_9 := Nat.lt_trans h3_8 h8_9
  have h4_10 := Nat.lt_trans h4_9 h9_10
  have h5_11 := Nat.lt_trans h5_10 h10_11
  have h6_12 := Nat.lt_trans h6_11 h11_12
  have h7_13 := Nat.lt_trans h7_12 h12_13
  have h0_7 := Nat.lt_trans h0_6 h6_7
  have h1_8 := Nat.lt_trans h1_7 h7_8
  have h2_9 := Nat.lt_trans h2_8 h8_9
  have h3_10 := Nat.lt_trans h3_9 h9_10
  have h4_11 := Nat.lt_trans h4_10 h10_11
  have h5_12 := Nat.lt_trans h5_11 h11_12
  have h6_13 := Nat.lt_trans h6_12 h12_13
  have h0_8 := Nat.lt_trans h0_7 h7_8
  have h1_9 := Nat.lt_trans h1_8 h8_9
  have h2_10 := Nat.lt_trans h2_9 h9_10
  have h3_11 := Nat.lt_trans h3_10 h10_11
  have h4_12 := Nat.lt_trans h4_11 h11_12
  have h5_13 := Nat.lt_trans h5_12 h12_13
  have h0_9 := Nat.lt_trans h0_8 h8_9
  have h1_10 := Nat.lt_trans h1_9 h9_10
  have h2_11 := Nat.lt_trans h2_10 h10_11
  have h3_12 := Nat.lt_trans h3_11 h11_12
  have h4_13 := Nat.lt_trans h4_12 h12_13
  have h0_10 := Nat.lt_trans h0_9 h9_10
  have h1_11 := Nat.lt_trans h1_10 h10_11
  have h2_12 := Nat.lt_trans h2_11 h11_12
  have h3_13 := Nat.lt_trans h3_12 h12_13
  have h0_11 := Nat.lt_trans h0_10 h10_11
  have h1_12 := Nat.lt_trans h1_11 h11_12
  have h2_13 := Nat.lt_trans h2_12 h12_13
  have h0_12 := Nat.lt_trans h0_11 h11_12
  have h1_13 := Nat.lt_trans h1_12 h12_13
  have h0_13 := Nat.lt_trans h0_12 h12_13
  exact ⟨h5_13, h11_13, h12_13, h8_13, h9_13, h10_13, h7_13, h4_13, Nat.le_of_lt h4_5, Nat.le_of_lt h7_11, Nat.le_of_lt h7_12, Nat.le_of_lt h7_8, Nat.le_of_lt h7_9, Nat.le_of_lt h7_10⟩
theorem MutOk.hi {led own : List (Addr × Obj)} {It a Hp ig : Nat} (hl : ∀ q ∈ led, @LT.lt Nat _ Hp q.1 ∧ @LT.lt Nat _ q.1 ig) (ho : ∀ q ∈ own, q.1 ≠ a) (h : ig ≤ a) (hI : a < It) : MutOk led own It a := ⟨fun q hq => Nat.ne_of_lt (Nat.lt_of_lt_of_le (hl q hq).2 h), ho, hI⟩
theorem MutOk.lo {led own : List (Addr × Obj)} {It a Hp ig : Nat} (hl : ∀ q ∈ led, @LT.lt Nat _ Hp q.1 ∧ @LT.lt Nat _ q.1 ig) (ho : ∀ q ∈ own, q.1 ≠ a) (h : a ≤ Hp) (hI : a < It) : MutOk led own It a := ⟨fun q hq => Nat.ne_of_gt (Nat.lt_of_le_of_lt h (hl q hq).1), ho, hI⟩
theorem MutOk.more1 {led own : List (Addr × Obj)} {It a Dn : Nat} {o : Obj} (h : MutOk led own It a) (hD : Dn ≠ a) : MutOk led ((Dn, o) :: own) It a := ⟨h.1, List.forall_mem_cons.mpr ⟨hD, h.2.1⟩, h.2.2⟩
theorem TailOk.more1 {It : Nat} {own X : List (Addr × Obj)} {Dn : Nat} {o : Obj} (t : TailOk It own X) (hD : ∀ q ∈ X, q.1 ≠ Dn) : TailOk It ((Dn, o) :: own) X := ⟨t.1, List.forall_mem_cons.mpr ⟨fun q hq => Ne.symm (hD q hq), t.2⟩⟩
theorem TailOk.add1 {It : Nat} {own X Y : List (Addr × Obj)} {p : Addr × Obj} (h : TailOk It own X) (hp : @LT.lt Nat _ It p.1 ∧ ∀ q ∈ own, @LT.lt Nat _ q.1 p.1) (hy : ∀ q ∈ Y, (@LT.lt Nat _ It q.1) ∧ ∀ p ∈ own, @LT.lt Nat _ p.1 q.1) : TailOk It own (p :: Y ++ X) := h.add (Y := p :: Y) (List.forall_mem_cons.mpr ⟨hp, hy⟩)
theorem TailOk.one {It : Nat} {own X : List (Addr × Obj)} {p : Addr × Obj} (h : TailOk It own X) (hp : @LT.lt Nat _ It p.1 ∧ ∀ q ∈ own, @LT.lt Nat _ q.1 p.1) : TailOk It own (p :: X) := h.add1 (Y := []) hp (fun _ h => (nomatch h))
theorem in_own {α : Type} {l X own : List α} {p : α} (h : p ∈ own) : p ∈ l ++ (X ++ own) := List.mem_append_right _ (List.mem_append_right _ h)
theorem in_X {α : Type} {l X own : List α} {p : α} (h : p ∈ X) : p ∈ l ++ (X ++ own) := List.mem_append_right _ (List.mem_append_left _ h)
theorem same_j {x : Str} {js : List Str} {v : Option Value} {u m₀ : Str → Option Value} : Same x js m₀ (fun y => if y = x then v else if js.contains y = true then u y else m₀ y) := by
  intro z h1 h2
  show (if z = x then v else if js.contains z = true then u z else m₀ z) = m₀ z
  rw [if_neg h1, h2]
  rfl
theorem tail13 {α : Type} {a1 a2 a3 a4 a5 a6 a7 a8 a9 a10 a11 a12 a13 : α} {l : List α} : ∀ p ∈ l, p ∈ a1 :: a2 :: a3 :: a4 :: a5 :: a6 :: a7 :: a8 :: a9 :: a10 :: a11 :: a12 :: a13 :: l := fun _ h => .tail _ (.tail _ (.tail _ (.tail _ (.tail _ (.tail _ (.tail _ (.tail _ (.tail _ (.tail _ (.tail _ (.tail _ (.tail _ (h)))))))))))))
theorem same_jj {x j : Str} {v : Option Value} {a b u m₀ : Str → Option Value} : Same x [j] m₀ (fun y => if y = j then a y else if List.contains [] y = true then b y else if y = x then v else if List.contains [j] y = true then u y else m₀ y) := by
  intro z h1 h2
  have h3 : z ≠ j := by intro e; subst e; simp at h2
  show (if z = j then a z else if List.contains [] z = true then b z else if z = x then v else if List.contains [j] z = true then u z else m₀ z) = m₀ z
  rw [if_neg h3, if_neg (by simp), if_neg h1, h2]
  rfl
theorem fr_To {α : Type} {Hp To Du En Go Ba ig cK rd It c4 c3 c2 c1 : α} {led X own : List α} : ∀ q ∈ To :: Hp :: Du :: En :: Go :: Ba :: ig :: cK :: rd :: It :: c4 :: c3 :: c2 :: c1 :: (led ++ (X ++ own)), q ∈ Hp :: To :: Du :: En :: Go :: Ba :: ig :: cK :: rd :: It :: c4 :: c3 :: c2 :: c1 :: (led ++ (X ++ own)) :=
  shuf [Hp, To, Du, En, Go, Ba, ig, cK, rd, It, c4, c3, c2, c1] [led, X, own] (Tr.at 0 (Tr.at 1 (Tr.at 2 (Tr.at 3 (Tr.at 4 (Tr.at 5 (Tr.at 6 (Tr.at 7 (Tr.at 8 (Tr.at 9 (Tr.at 10 (Tr.at 11 (Tr.at 12 (Tr.at 13 (Tr.ap (Tr.ls 0) (Tr.ap (Tr.ls 1) (Tr.ls 2))))))))))))))))) (Tr.at 1 (Tr.at 0 (Tr.at 2 (Tr.at 3 (Tr.at 4 (Tr.at 5 (Tr.at 6 (Tr.at 7 (Tr.at 8 (Tr.at 9 (Tr.at 10 (Tr.at 11 (Tr.at 12 (Tr.at 13 (Tr.ap (Tr.ls 0) (Tr.ap (Tr.ls 1) (Tr.ls 2))))))))))))))))) rfl rfl
theorem un_To {α : Type} {Hp To Du En Go Ba ig cK rd It c4 c3 c2 c1 : α} {led X own : List α} : ∀ q ∈ Hp :: To :: Du :: En :: Go :: Ba :: ig :: cK :: rd :: It :: c4 :: c3 :: c2 :: c1 :: (led ++ (X ++ own)), q ∈ To :: Hp :: Du :: En :: Go :: Ba :: ig :: cK :: rd :: It :: c4 :: c3 :: c2 :: c1 :: (led ++ (X ++ own)) :=
  shuf [Hp, To, Du, En, Go, Ba, ig, cK, rd, It, c4, c3, c2, c1] [led, X, own] (Tr.at 1 (Tr.at 0 (Tr.at 2 (Tr.at 3 (Tr.at 4 (Tr.at 5 (Tr.at 6 (Tr.at 7 (Tr.at 8 (Tr.at 9 (Tr.at 10 (Tr.at 11 (Tr.at 12 (Tr.at 13 (Tr.ap (Tr.ls 0) (Tr.ap (Tr.ls 1) (Tr.ls 2))))))))))))))))) (Tr.at 0 (Tr.at 1 (Tr.at 2 (Tr.at 3 (Tr.at 4 (Tr.at 5 (Tr.at 6 (Tr.at 7 (Tr.at 8 (Tr.at 9 (Tr.at 10 (Tr.at 11 (Tr.at 12 (Tr.at 13 (Tr.ap (Tr.ls 0) (Tr.ap (Tr.ls 1) (Tr.ls 2))))))))))))))))) rfl rfl
theorem fr_Du {α : Type} {Hp To Du En Go Ba ig cK rd It c4 c3 c2 c1 : α} {led X own : List α} : ∀ q ∈ Du :: Hp :: To :: En :: Go :: Ba :: ig :: cK :: rd :: It :: c4 :: c3 :: c2 :: c1 :: (led ++ (X ++ own)), q ∈ Hp :: To :: Du :: En :: Go :: Ba :: ig :: cK :: rd :: It :: c4 :: c3 :: c2 :: c1 :: (led ++ (X ++ own)) :=
  shuf [Hp, To, Du, En, Go, Ba, ig, cK, rd, It, c4, c3, c2, c1] [led, X, own] (Tr.at 0 (Tr.at 1 (Tr.at 2 (Tr.at 3 (Tr.at 4 (Tr.at 5 (Tr.at 6 (Tr.at 7 (Tr.at 8 (Tr.at 9 (Tr.at 10 (Tr.at 11 (Tr.at 12 (Tr.at 13 (Tr.ap (Tr.ls 0) (Tr.ap (Tr.ls 1) (Tr.ls 2))))))))))))))))) (Tr.at 2 (Tr.at 0 (Tr.at 1 (Tr.at 3 (Tr.at 4 (Tr.at 5 (Tr.at 6 (Tr.at 7 (Tr.at 8 (Tr.at 9 (Tr.at 10 (Tr.at 11 (Tr.at 12 (Tr.at 13 (Tr.ap (Tr.ls 0) (Tr.ap (Tr.ls 1) (Tr.ls 2))))))))))))))))) rfl rfl
theorem un_Du {α : Type} {Hp To Du En Go Ba ig cK rd It c4 c3 c2 c1 : α} {led X own : List α} : ∀ q ∈ Hp :: To :: Du :: En :: Go :: Ba :: ig :: cK :: rd :: It :: c4 :: c3 :: c2 :: c1 :: (led ++ (X ++ own)), q ∈ Du :: Hp :: To :: En :: Go :: Ba :: ig :: cK :: rd :: It :: c4 :: c3 :: c2 :: c1 :: (led ++ (X ++ own)) :=
  shuf [Hp, To, Du, En, Go, Ba, ig, cK, rd, It, c4, c3, c2, c1] [led, X, own] (Tr.at 2 (Tr.at 0 (Tr.at 1 (Tr.at 3 (Tr.at 4 (Tr.at 5 (Tr.at 6 (Tr.at 7 (Tr.at 8 (Tr.at 9 (Tr.at 10 (Tr.at 11 (Tr.at 12 (Tr.at 13 (Tr.ap (Tr.ls 0) (Tr.ap (Tr.ls 1) (Tr.ls 2))))))))))))))))) (Tr.at 0 (Tr.at 1 (Tr.at 2 (Tr.at 3 (Tr.at 4 (Tr.at 5 (Tr.at 6 (Tr.at 7 (Tr.at 8 (Tr.at 9 (Tr.at 10 (Tr.at 11 (Tr.at 12 (Tr.at 13 (Tr.ap (Tr.ls 0) (Tr.ap (Tr.ls 1) (Tr.ls 2))))))))))))))))) rfl rfl
theorem fr_En {α : Type} {Hp To Du En Go Ba ig cK rd It c4 c3 c2 c1 : α} {led X own : List α} : ∀ q ∈ En :: Hp :: To :: Du :: Go :: Ba :: ig :: cK :: rd :: It :: c4 :: c3 :: c2 :: c1 :: (led ++ (X ++ own)), q ∈ Hp :: To :: Du :: En :: Go :: Ba :: ig :: cK :: rd :: It :: c4 :: c3 :: c2 :: c1 :: (led ++ (X ++ own)) :=
  shuf [Hp, To, Du, En, Go, Ba, ig, cK, rd, It, c4, c3, c2, c1] [led, X, own] (Tr.at 0 (Tr.at 1 (Tr.at 2 (Tr.at 3 (Tr.at 4 (Tr.at 5 (Tr.at 6 (Tr.at 7 (Tr.at 8 (Tr.at 9 (Tr.at 10 (Tr.at 11 (Tr.at 12 (Tr.at 13 (Tr.ap (Tr.ls 0) (Tr.ap (Tr.ls 1) (Tr.ls 2))))))))))))))))) (Tr.at 3 (Tr.at 0 (Tr.at 1 (Tr.at 2 (Tr.at 4 (Tr.at 5 (Tr.at 6 (Tr.at 7 (Tr.at 8 (Tr.at 9 (Tr.at 10 (Tr.at 11 (Tr.at 12 (Tr.at 13 (Tr.ap (Tr.ls 0) (Tr.ap (Tr.ls 1) (Tr.ls 2))))))))))))))))) rfl rfl
theorem un_En {α : Type} {Hp To Du En Go Ba ig cK rd It c4 c3 c2 c1 : α} {led X own : List α} : ∀ q ∈ Hp :: To :: Du :: En :: Go :: Ba :: ig :: cK :: rd :: It :: c4 :: c3 :: c2 :: c1 :: (led ++ (X ++ own)), q ∈ En :: Hp :: To :: Du :: Go :: Ba :: ig :: cK :: rd :: It :: c4 :: c3 :: c2 :: c1 :: (led ++ (X ++ own)) :=
  shuf [Hp, To, Du, En, Go, Ba, ig, cK, rd, It, c4, c3, c2, c1] [led, X, own] (Tr.at 3 (Tr.at 0 (Tr.at 1 (Tr.at 2 (Tr.at 4 (Tr.at 5 (Tr.at 6 (Tr.at 7 (Tr.at 8 (Tr.at 9 (Tr.at 10 (Tr.at 11 (Tr.at 12 (Tr.at 13 (Tr.ap (Tr.ls 0) (Tr.ap (Tr.ls 1) (Tr.ls 2))))))))))))))))) (Tr.at 0 (Tr.at 1 (Tr.at 2 (Tr.at 3 (Tr.at 4 (Tr.at 5 (Tr.at 6 (Tr.at 7 (Tr.at 8 (Tr.at 9 (Tr.at 10 (Tr.at 11 (Tr.at 12 (Tr.at 13 (Tr.ap (Tr.ls 0) (Tr.ap (Tr.ls 1) (Tr.ls 2))))))))))))))))) rfl rfl
theorem fr_Go {α : Type} {Hp To Du En Go Ba ig cK rd It c4 c3 c2 c1 : α} {led X own : List α} : ∀ q ∈ Go :: Hp :: To :: Du :: En :: Ba :: ig :: cK :: rd :: It :: c4 :: c3 :: c2 :: c1 :: (led ++ (X ++ own)), q ∈ Hp :: To :: Du :: En :: Go :: Ba :: ig :: cK :: rd :: It :: c4 :: c3 :: c2 :: c1 :: (led ++ (X ++ own)) :=
  shuf [Hp, To, Du, En, Go, Ba, ig, cK, rd, It, c4, c3, c2, c1] [led, X, own] (Tr.at 0 (Tr.at 1 (Tr.at 2 (Tr.at 3 (Tr.at 4 (Tr.at 5 (Tr.at 6 (Tr.at 7 (Tr.at 8 (Tr.at 9 (Tr.at 10 (Tr.at 11 (Tr.at 12 (Tr.at 13 (Tr.ap (Tr.ls 0) (Tr.ap (Tr.ls 1) (Tr.ls 2))))))))))))))))) (Tr.at 4 (Tr.at 0 (Tr.at 1 (Tr.at 2 (Tr.at 3 (Tr.at 5 (Tr.at 6 (Tr.at 7 (Tr.at 8 (Tr.at 9 (Tr.at 10 (Tr.at 11 (Tr.at 12 (Tr.at 13 (Tr.ap (Tr.ls 0) (Tr.ap (Tr.ls 1) (Tr.ls 2))))))))))))))))) rfl rfl
theorem un_Go {α : Type} {Hp To Du En Go Ba ig cK rd It c4 c3 c2 c1 : α} {led X own : List α} : ∀ q ∈ Hp :: To :: Du :: En :: Go :: Ba :: ig :: cK :: rd :: It :: c4 :: c3 :: c2 :: c1 :: (led ++ (X ++ own)), q ∈ Go :: Hp :: To :: Du :: En :: Ba :: ig :: cK :: rd :: It :: c4 :: c3 :: c2 :: c1 :: (led ++ (X ++ own)) :=
  shuf [Hp, To, Du, En, Go, Ba, ig, cK, rd, It, c4, c3, c2, c1] [led, X, own] (Tr.at 4 (Tr.at 0 (Tr.at 1 (Tr.at 2 (Tr.at 3 (Tr.at 5 (Tr.at 6 (Tr.at 7 (Tr.at 8 (Tr.at 9 (Tr.at 10 (Tr.at 11 (Tr.at 12 (Tr.at 13 (Tr.ap (Tr.ls 0) (Tr.ap (Tr.ls 1) (Tr.ls 2))))))))))))))))) (Tr.at 0 (Tr.at 1 (Tr.at 2 (Tr.at 3 (Tr.at 4 (Tr.at 5 (Tr.at 6 (Tr.at 7 (Tr.at 8 (Tr.at 9 (Tr.at 10 (Tr.at 11 (Tr.at 12 (Tr.at 13 (Tr.ap (Tr.ls 0) (Tr.ap (Tr.ls 1) (Tr.ls 2))))))))))))))))) rfl rfl
theorem fr_Ba {α : Type} {Hp To Du En Go Ba ig cK rd It c4 c3 c2 c1 : α} {led X own : List α} : ∀ q ∈ Ba :: Hp :: To :: Du :: En :: Go :: ig :: cK :: rd :: It :: c4 :: c3 :: c2 :: c1 :: (led ++ (X ++ own)), q ∈ Hp :: To :: Du :: En :: Go :: Ba :: ig :: cK :: rd :: It :: c4 :: c3 :: c2 :: c1 :: (led ++ (X ++ own)) :=
  shuf [Hp, To, Du, En, Go, Ba, ig, cK, rd, It, c4, c3, c2, c1] [led, X, own] (Tr.at 0 (Tr.at 1 (Tr.at 2 (Tr.at 3 (Tr.at 4 (Tr.at 5 (Tr.at 6 (Tr.at 7 (Tr.at 8 (Tr.at 9 (Tr.at 10 (Tr.at 11 (Tr.at 12 (Tr.at 13 (Tr.ap (Tr.ls 0) (Tr.ap (Tr.ls 1) (Tr.ls 2))))))))))))))))) (Tr.at 5 (Tr.at 0 (Tr.at 1 (Tr.at 2 (Tr.at 3 (Tr.at 4 (Tr.at 6 (Tr.at 7 (Tr.at 8 (Tr.at 9 (Tr.at 10 (Tr.at 11 (Tr.at 12 (Tr.at 13 (Tr.ap (Tr.ls 0) (Tr.ap (Tr.ls 1) (Tr.ls 2))))))))))))))))) rfl rfl
theorem un_Ba {α : Type} {Hp To Du En Go Ba ig cK rd It c4 c3 c2 c1 : α} {led X own : List α} : ∀ q ∈ Hp :: To :: Du :: En :: Go :: Ba :: ig :: cK :: rd :: It :: c4 :: c3 :: c2 :: c1 :: (led ++ (X ++ own)), q ∈ Ba :: Hp :: To :: Du :: En :: Go :: ig :: cK :: rd :: It :: c4 :: c3 :: c2 :: c1 :: (led ++ (X ++ own)) :=
  shuf [Hp, To, Du, En, Go, Ba, ig, cK, rd, It, c4, c3, c2, c1] [led, X, own] (Tr.at 5 (Tr.at 0 (Tr.at 1 (Tr.at 2 (Tr.at 3 (Tr.at 4 (Tr.at 6 (Tr.at 7 (Tr.at 8 (Tr.at 9 (Tr.at 10 (Tr.at 11 (Tr.at 12 (Tr.at 13 (Tr.ap (Tr.ls 0) (Tr.ap (Tr.ls 1) (Tr.ls 2))))))))))))))))) (Tr.at 0 (Tr.at 1 (Tr.at 2 (Tr.at 3 (Tr.at 4 (Tr.at 5 (Tr.at 6 (Tr.at 7 (Tr.at 8 (Tr.at 9 (Tr.at 10 (Tr.at 11 (Tr.at 12 (Tr.at 13 (Tr.ap (Tr.ls 0) (Tr.ap (Tr.ls 1) (Tr.ls 2))))))))))))))))) rfl rfl
theorem fr_ig {α : Type} {Hp To Du En Go Ba ig cK rd It c4 c3 c2 c1 : α} {led X own : List α} : ∀ q ∈ ig :: Hp :: To :: Du :: En :: Go :: Ba :: cK :: rd :: It :: c4 :: c3 :: c2 :: c1 :: (led ++ (X ++ own)), q ∈ Hp :: To :: Du :: En :: Go :: Ba :: ig :: cK :: rd :: It :: c4 :: c3 :: c2 :: c1 :: (led ++ (X ++ own)) :=
  shuf [Hp, To, Du, En, Go, Ba, ig, cK, rd, It, c4, c3, c2, c1] [led, X, own] (Tr.at 0 (Tr.at 1 (Tr.at 2 (Tr.at 3 (Tr.at 4 (Tr.at 5 (Tr.at 6 (Tr.at 7 (Tr.at 8 (Tr.at 9 (Tr.at 10 (Tr.at 11 (Tr.at 12 (Tr.at 13 (Tr.ap (Tr.ls 0) (Tr.ap (Tr.ls 1) (Tr.ls 2))))))))))))))))) (Tr.at 6 (Tr.at 0 (Tr.at 1 (Tr.at 2 (Tr.at 3 (Tr.at 4 (Tr.at 5 (Tr.at 7 (Tr.at 8 (Tr.at 9 (Tr.at 10 (Tr.at 11 (Tr.at 12 (Tr.at 13 (Tr.ap (Tr.ls 0) (Tr.ap (Tr.ls 1) (Tr.ls 2))))))))))))))))) rfl rfl
theorem un_ig {α : Type} {Hp To Du En Go Ba ig cK rd It c4 c3 c2 c1 : α} {led X own : List α} : ∀ q ∈ Hp :: To :: Du :: En :: Go :: Ba :: ig :: cK :: rd :: It :: c4 :: c3 :: c2 :: c1 :: (led ++ (X ++ own)), q ∈ ig :: Hp :: To :: Du :: En :: Go :: Ba :: cK :: rd :: It :: c4 :: c3 :: c2 :: c1 :: (led ++ (X ++ own)) :=
  shuf [Hp, To, Du, En, Go, Ba, ig, cK, rd, It, c4, c3, c2, c1] [led, X, own] (Tr.at 6 (Tr.at 0 (Tr.at 1 (Tr.at 2 (Tr.at 3 (Tr.at 4 (Tr.at 5 (Tr.at 7 (Tr.at 8 (Tr.at 9 (Tr.at 10 (Tr.at 11 (Tr.at 12 (Tr.at 13 (Tr.ap (Tr.ls 0) (Tr.ap (Tr.ls 1) (Tr.ls 2))))))))))))))))) (Tr.at 0 (Tr.at 1 (Tr.at 2 (Tr.at 3 (Tr.at 4 (Tr.at 5 (Tr.at 6 (Tr.at 7 (Tr.at 8 (Tr.at 9 (Tr.at 10 (Tr.at 11 (Tr.at 12 (Tr.at 13 (Tr.ap (Tr.ls 0) (Tr.ap (Tr.ls 1) (Tr.ls 2))))))))))))))))) rfl rfl
theorem ta_in {α : Type} {Hp To Du En Go Ba ig cK rd It c4 c3 c2 c1 : α} {led X own : List α} : ∀ q ∈ Hp :: ig :: rd :: (led ++ (To :: Du :: En :: Go :: Ba :: cK :: It :: c4 :: c3 :: c2 :: c1 :: (X ++ own))), q ∈ Hp :: To :: Du :: En :: Go :: Ba :: ig :: cK :: rd :: It :: c4 :: c3 :: c2 :: c1 :: (led ++ (X ++ own)) :=
  shuf [Hp, To, Du, En, Go, Ba, ig, cK, rd, It, c4, c3, c2, c1] [led, X, own] (Tr.at 0 (Tr.at 1 (Tr.at 2 (Tr.at 3 (Tr.at 4 (Tr.at 5 (Tr.at 6 (Tr.at 7 (Tr.at 8 (Tr.at 9 (Tr.at 10 (Tr.at 11 (Tr.at 12 (Tr.at 13 (Tr.ap (Tr.ls 0) (Tr.ap (Tr.ls 1) (Tr.ls 2))))))))))))))))) (Tr.at 0 (Tr.at 6 (Tr.at 8 (Tr.ap (Tr.ls 0) (Tr.at 1 (Tr.at 2 (Tr.at 3 (Tr.at 4 (Tr.at 5 (Tr.at 7 (Tr.at 9 (Tr.at 10 (Tr.at 11 (Tr.at 12 (Tr.at 13 (Tr.ap (Tr.ls 1) (Tr.ls 2))))))))))))))))) rfl rfl
theorem ta_out {α : Type} {T Hp To Du En Go Ba ig cK rd It c4 c3 c2 c1 : α} {led X1 X own : List α} : ∀ q ∈ Hp :: To :: Du :: En :: Go :: Ba :: ig :: cK :: rd :: It :: c4 :: c3 :: c2 :: c1 :: (led ++ ((T :: X1 ++ X) ++ own)), q ∈ T :: Hp :: ig :: rd :: (led ++ (X1 ++ (To :: Du :: En :: Go :: Ba :: cK :: It :: c4 :: c3 :: c2 :: c1 :: (X ++ own)))) :=
  shuf [T, Hp, To, Du, En, Go, Ba, ig, cK, rd, It, c4, c3, c2, c1] [led, X1, X, own] (Tr.at 0 (Tr.at 1 (Tr.at 7 (Tr.at 9 (Tr.ap (Tr.ls 0) (Tr.ap (Tr.ls 1) (Tr.at 2 (Tr.at 3 (Tr.at 4 (Tr.at 5 (Tr.at 6 (Tr.at 8 (Tr.at 10 (Tr.at 11 (Tr.at 12 (Tr.at 13 (Tr.at 14 (Tr.ap (Tr.ls 2) (Tr.ls 3))))))))))))))))))) (Tr.at 1 (Tr.at 2 (Tr.at 3 (Tr.at 4 (Tr.at 5 (Tr.at 6 (Tr.at 7 (Tr.at 8 (Tr.at 9 (Tr.at 10 (Tr.at 11 (Tr.at 12 (Tr.at 13 (Tr.at 14 (Tr.ap (Tr.ls 0) (Tr.ap (Tr.ap (Tr.at 0 (Tr.ls 1)) (Tr.ls 2)) (Tr.ls 3))))))))))))))))) rfl rfl
theorem du_in {α : Type} {Hp To Du En Go Ba ig cK rd It c4 c3 c2 c1 : α} {led X own : List α} : ∀ q ∈ En :: Go :: Ba :: Hp :: To :: Du :: ig :: cK :: rd :: It :: c4 :: c3 :: c2 :: c1 :: (led ++ (X ++ own)), q ∈ Hp :: To :: Du :: En :: Go :: Ba :: ig :: cK :: rd :: It :: c4 :: c3 :: c2 :: c1 :: (led ++ (X ++ own)) :=
  shuf [Hp, To, Du, En, Go, Ba, ig, cK, rd, It, c4, c3, c2, c1] [led, X, own] (Tr.at 0 (Tr.at 1 (Tr.at 2 (Tr.at 3 (Tr.at 4 (Tr.at 5 (Tr.at 6 (Tr.at 7 (Tr.at 8 (Tr.at 9 (Tr.at 10 (Tr.at 11 (Tr.at 12 (Tr.at 13 (Tr.ap (Tr.ls 0) (Tr.ap (Tr.ls 1) (Tr.ls 2))))))))))))))))) (Tr.at 3 (Tr.at 4 (Tr.at 5 (Tr.at 0 (Tr.at 1 (Tr.at 2 (Tr.at 6 (Tr.at 7 (Tr.at 8 (Tr.at 9 (Tr.at 10 (Tr.at 11 (Tr.at 12 (Tr.at 13 (Tr.ap (Tr.ls 0) (Tr.ap (Tr.ls 1) (Tr.ls 2))))))))))))))))) rfl rfl
theorem du_out {α : Type} {T Hp To Du En Go Ba ig cK rd It c4 c3 c2 c1 : α} {led X1 X own : List α} : ∀ q ∈ Hp :: To :: Du :: En :: Go :: Ba :: ig :: cK :: rd :: It :: c4 :: c3 :: c2 :: c1 :: (led ++ ((T :: X1 ++ X) ++ own)), q ∈ T :: En :: Go :: Ba :: (X1 ++ (Hp :: To :: Du :: ig :: cK :: rd :: It :: c4 :: c3 :: c2 :: c1 :: (led ++ (X ++ own)))) :=
  shuf [T, Hp, To, Du, En, Go, Ba, ig, cK, rd, It, c4, c3, c2, c1] [led, X1, X, own] (Tr.at 0 (Tr.at 4 (Tr.at 5 (Tr.at 6 (Tr.ap (Tr.ls 1) (Tr.at 1 (Tr.at 2 (Tr.at 3 (Tr.at 7 (Tr.at 8 (Tr.at 9 (Tr.at 10 (Tr.at 11 (Tr.at 12 (Tr.at 13 (Tr.at 14 (Tr.ap (Tr.ls 0) (Tr.ap (Tr.ls 2) (Tr.ls 3))))))))))))))))))) (Tr.at 1 (Tr.at 2 (Tr.at 3 (Tr.at 4 (Tr.at 5 (Tr.at 6 (Tr.at 7 (Tr.at 8 (Tr.at 9 (Tr.at 10 (Tr.at 11 (Tr.at 12 (Tr.at 13 (Tr.at 14 (Tr.ap (Tr.ls 0) (Tr.ap (Tr.ap (Tr.at 0 (Tr.ls 1)) (Tr.ls 2)) (Tr.ls 3))))))))))))))))) rfl rfl
theorem na_in {α : Type} {Hp To Du En Go Ba ig cK rd It c4 c3 c2 c1 : α} {led X own : List α} : ∀ q ∈ ig :: rd :: (led ++ (Hp :: To :: Du :: En :: Go :: Ba :: cK :: It :: c4 :: c3 :: c2 :: c1 :: (X ++ own))), q ∈ Hp :: To :: Du :: En :: Go :: Ba :: ig :: cK :: rd :: It :: c4 :: c3 :: c2 :: c1 :: (led ++ (X ++ own)) :=
  shuf [Hp, To, Du, En, Go, Ba, ig, cK, rd, It, c4, c3, c2, c1] [led, X, own] (Tr.at 0 (Tr.at 1 (Tr.at 2 (Tr.at 3 (Tr.at 4 (Tr.at 5 (Tr.at 6 (Tr.at 7 (Tr.at 8 (Tr.at 9 (Tr.at 10 (Tr.at 11 (Tr.at 12 (Tr.at 13 (Tr.ap (Tr.ls 0) (Tr.ap (Tr.ls 1) (Tr.ls 2))))))))))))))))) (Tr.at 6 (Tr.at 8 (Tr.ap (Tr.ls 0) (Tr.at 0 (Tr.at 1 (Tr.at 2 (Tr.at 3 (Tr.at 4 (Tr.at 5 (Tr.at 7 (Tr.at 9 (Tr.at 10 (Tr.at 11 (Tr.at 12 (Tr.at 13 (Tr.ap (Tr.ls 1) (Tr.ls 2))))))))))))))))) rfl rfl
theorem na_out {α : Type} {Hp To Du En Go Ba ig cK rd It c4 c3 c2 c1 : α} {led X own : List α} : ∀ q ∈ Hp :: To :: Du :: En :: Go :: Ba :: ig :: cK :: rd :: It :: c4 :: c3 :: c2 :: c1 :: (led ++ (X ++ own)), q ∈ ig :: rd :: (led ++ (Hp :: To :: Du :: En :: Go :: Ba :: cK :: It :: c4 :: c3 :: c2 :: c1 :: (X ++ own))) :=
  shuf [Hp, To, Du, En, Go, Ba, ig, cK, rd, It, c4, c3, c2, c1] [led, X, own] (Tr.at 6 (Tr.at 8 (Tr.ap (Tr.ls 0) (Tr.at 0 (Tr.at 1 (Tr.at 2 (Tr.at 3 (Tr.at 4 (Tr.at 5 (Tr.at 7 (Tr.at 9 (Tr.at 10 (Tr.at 11 (Tr.at 12 (Tr.at 13 (Tr.ap (Tr.ls 1) (Tr.ls 2))))))))))))))))) (Tr.at 0 (Tr.at 1 (Tr.at 2 (Tr.at 3 (Tr.at 4 (Tr.at 5 (Tr.at 6 (Tr.at 7 (Tr.at 8 (Tr.at 9 (Tr.at 10 (Tr.at 11 (Tr.at 12 (Tr.at 13 (Tr.ap (Tr.ls 0) (Tr.ap (Tr.ls 1) (Tr.ls 2))))))))))))))))) rfl rfl
theorem new_in {α : Type} {T Hp To Du En Go Ba ig cK rd It c4 c3 c2 c1 : α} {led X own : List α} : ∀ q ∈ Hp :: To :: Du :: En :: Go :: Ba :: ig :: cK :: rd :: It :: c4 :: c3 :: c2 :: c1 :: (led ++ ((T :: X) ++ own)), q ∈ T :: Hp :: To :: Du :: En :: Go :: Ba :: ig :: cK :: rd :: It :: c4 :: c3 :: c2 :: c1 :: (led ++ (X ++ own)) :=
  shuf [T, Hp, To, Du, En, Go, Ba, ig, cK, rd, It, c4, c3, c2, c1] [led, X, own] (Tr.at 0 (Tr.at 1 (Tr.at 2 (Tr.at 3 (Tr.at 4 (Tr.at 5 (Tr.at 6 (Tr.at 7 (Tr.at 8 (Tr.at 9 (Tr.at 10 (Tr.at 11 (Tr.at 12 (Tr.at 13 (Tr.at 14 (Tr.ap (Tr.ls 0) (Tr.ap (Tr.ls 1) (Tr.ls 2)))))))))))))))))) (Tr.at 1 (Tr.at 2 (Tr.at 3 (Tr.at 4 (Tr.at 5 (Tr.at 6 (Tr.at 7 (Tr.at 8 (Tr.at 9 (Tr.at 10 (Tr.at 11 (Tr.at 12 (Tr.at 13 (Tr.at 14 (Tr.ap (Tr.ls 0) (Tr.ap (Tr.at 0 (Tr.ls 1)) (Tr.ls 2))))))))))))))))) rfl rfl
theorem off_Hp {Hp To Du En Go Ba ig cK rd It c4 c3 c2 c1 : Nat} {oTo oDu oEn oGo oBa oig ocK ord oIt oc4 oc3 oc2 oc1 : Obj} {tail : List (Addr × Obj)} (hd : To ≠ Hp ∧ Du ≠ Hp ∧ En ≠ Hp ∧ Go ≠ Hp ∧ Ba ≠ Hp ∧ ig ≠ Hp ∧ cK ≠ Hp ∧ rd ≠ Hp ∧ It ≠ Hp ∧ c4 ≠ Hp ∧ c3 ≠ Hp ∧ c2 ≠ Hp ∧ c1 ≠ Hp) (ht : ∀ q ∈ tail, q.1 ≠ Hp) : ∀ q ∈ (To, oTo) :: (Du, oDu) :: (En, oEn) :: (Go, oGo) :: (Ba, oBa) :: (ig, oig) :: (cK, ocK) :: (rd, ord) :: (It, oIt) :: (c4, oc4) :: (c3, oc3) :: (c2, oc2) :: (c1, oc1) :: tail, q.1 ≠ Hp :=
  off_gen [(To, oTo), (Du, oDu), (En, oEn), (Go, oGo), (Ba, oBa), (ig, oig), (cK, ocK), (rd, ord), (It, oIt), (c4, oc4), (c3, oc3), (c2, oc2), (c1, oc1)] tail (List.forall_mem_cons.mpr ⟨hd.1, List.forall_mem_cons.mpr ⟨hd.2.1, List.forall_mem_cons.mpr ⟨hd.2.2.1, List.forall_mem_cons.mpr ⟨hd.2.2.2.1, List.forall_mem_cons.mpr ⟨hd.2.2.2.2.1, List.forall_mem_cons.mpr ⟨hd.2.2.2.2.2.1, List.forall_mem_cons.mpr ⟨hd.2.2.2.2.2.2.1, List.forall_mem_cons.mpr ⟨hd.2.2.2.2.2.2.2.1, List.forall_mem_cons.mpr ⟨hd.2.2.2.2.2.2.2.2.1, List.forall_mem_cons.mpr ⟨hd.2.2.2.2.2.2.2.2.2.1, List.forall_mem_cons.mpr ⟨hd.2.2.2.2.2.2.2.2.2.2.1, List.forall_mem_cons.mpr ⟨hd.2.2.2.2.2.2.2.2.2.2.2.1, List.forall_mem_cons.mpr ⟨hd.2.2.2.2.2.2.2.2.2.2.2.2, List.forall_mem_nil _⟩⟩⟩⟩⟩⟩⟩⟩⟩⟩⟩⟩⟩) ht
theorem off_To {Hp To Du En Go Ba ig cK rd It c4 c3 c2 c1 : Nat} {oHp oDu oEn oGo oBa oig ocK ord oIt oc4 oc3 oc2 oc1 : Obj} {tail : List (Addr × Obj)} (hd : Hp ≠ To ∧ Du ≠ To ∧ En ≠ To ∧ Go ≠ To ∧ Ba ≠ To ∧ ig ≠ To ∧ cK ≠ To ∧ rd ≠ To ∧ It ≠ To ∧ c4 ≠ To ∧ c3 ≠ To ∧ c2 ≠ To ∧ c1 ≠ To) (ht : ∀ q ∈ tail, q.1 ≠ To) : ∀ q ∈ (Hp, oHp) :: (Du, oDu) :: (En, oEn) :: (Go, oGo) :: (Ba, oBa) :: (ig, oig) :: (cK, ocK) :: (rd, ord) :: (It, oIt) :: (c4, oc4) :: (c3, oc3) :: (c2, oc2) :: (c1, oc1) :: tail, q.1 ≠ To :=
  off_gen [(Hp, oHp), (Du, oDu), (En, oEn), (Go, oGo), (Ba, oBa), (ig, oig), (cK, ocK), (rd, ord), (It, oIt), (c4, oc4), (c3, oc3), (c2, oc2), (c1, oc1)] tail (List.forall_mem_cons.mpr ⟨hd.1, List.forall_mem_cons.mpr ⟨hd.2.1, List.forall_mem_cons.mpr ⟨hd.2.2.1, List.forall_mem_cons.mpr ⟨hd.2.2.2.1, List.forall_mem_cons.mpr ⟨hd.2.2.2.2.1, List.forall_mem_cons.mpr ⟨hd.2.2.2.2.2.1, List.forall_mem_cons.mpr ⟨hd.2.2.2.2.2.2.1, List.forall_mem_cons.mpr ⟨hd.2.2.2.2.2.2.2.1, List.forall_mem_cons.mpr ⟨hd.2.2.2.2.2.2.2.2.1, List.forall_mem_cons.mpr ⟨hd.2.2.2.2.2.2.2.2.2.1, List.forall_mem_cons.mpr ⟨hd.2.2.2.2.2.2.2.2.2.2.1, List.forall_mem_cons.mpr ⟨hd.2.2.2.2.2.2.2.2.2.2.2.1, List.forall_mem_cons.mpr ⟨hd.2.2.2.2.2.2.2.2.2.2.2.2, List.forall_mem_nil _⟩⟩⟩⟩⟩⟩⟩⟩⟩⟩⟩⟩⟩) ht
theorem off_Du {Hp To Du En Go Ba ig cK rd It c4 c3 c2 c1 : Nat} {oHp oTo oEn oGo oBa oig ocK ord oIt oc4 oc3 oc2 oc1 : Obj} {tail : List (Addr × Obj)} (hd : Hp ≠ Du ∧ To ≠ Du ∧ En ≠ Du ∧ Go ≠ Du ∧ Ba ≠ Du ∧ ig ≠ Du ∧ cK ≠ Du ∧ rd ≠ Du ∧ It ≠ Du ∧ c4 ≠ Du ∧ c3 ≠ Du ∧ c2 ≠ Du ∧ c1 ≠ Du) (ht : ∀ q ∈ tail, q.1 ≠ Du) : ∀ q ∈ (Hp, oHp) :: (To, oTo) :: (En, oEn) :: (Go, oGo) :: (Ba, oBa) :: (ig, oig) :: (cK, ocK) :: (rd, ord) :: (It, oIt) :: (c4, oc4) :: (c3, oc3) :: (c2, oc2) :: (c1, oc1) :: tail, q.1 ≠ Du :=
  off_gen [(Hp, oHp), (To, oTo), (En, oEn), (Go, oGo), (Ba, oBa), (ig, oig), (cK, ocK), (rd, ord), (It, oIt), (c4, oc4), (c3, oc3), (c2, oc2), (c1, oc1)] tail (List.forall_mem_cons.mpr ⟨hd.1, List.forall_mem_cons.mpr ⟨hd.2.1, List.forall_mem_cons.mpr ⟨hd.2.2.1, List.forall_mem_cons.mpr ⟨hd.2.2.2.1, List.forall_mem_cons.mpr ⟨hd.2.2.2.2.1, List.forall_mem_cons.mpr ⟨hd.2.2.2.2.2.1, List.forall_mem_cons.mpr ⟨hd.2.2.2.2.2.2.1, List.forall_mem_cons.mpr ⟨hd.2.2.2.2.2.2.2.1, List.forall_mem_cons.mpr ⟨hd.2.2.2.2.2.2.2.2.1, List.forall_mem_cons.mpr ⟨hd.2.2.2.2.2.2.2.2.2.1, List.forall_mem_cons.mpr ⟨hd.2.2.2.2.2.2.2.2.2.2.1, List.forall_mem_cons.mpr ⟨hd.2.2.2.2.2.2.2.2.2.2.2.1, List.forall_mem_cons.mpr ⟨hd.2.2.2.2.2.2.2.2.2.2.2.2, List.forall_mem_nil _⟩⟩⟩⟩⟩⟩⟩⟩⟩⟩⟩⟩⟩) ht
theorem off_En {Hp To Du En Go Ba ig cK rd It c4 c3 c2 c1 : Nat} {oHp oTo oDu oGo oBa oig ocK ord oIt oc4 oc3 oc2 oc1 : Obj} {tail : List (Addr × Obj)} (hd : Hp ≠ En ∧ To ≠ En ∧ Du ≠ En ∧ Go ≠ En ∧ Ba ≠ En ∧ ig ≠ En ∧ cK ≠ En ∧ rd ≠ En ∧ It ≠ En ∧ c4 ≠ En ∧ c3 ≠ En ∧ c2 ≠ En ∧ c1 ≠ En) (ht : ∀ q ∈ tail, q.1 ≠ En) : ∀ q ∈ (Hp, oHp) :: (To, oTo) :: (Du, oDu) :: (Go, oGo) :: (Ba, oBa) :: (ig, oig) :: (cK, ocK) :: (rd, ord) :: (It, oIt) :: (c4, oc4) :: (c3, oc3) :: (c2, oc2) :: (c1, oc1) :: tail, q.1 ≠ En :=
  off_gen [(Hp, oHp), (To, oTo), (Du, oDu), (Go, oGo), (Ba, oBa), (ig, oig), (cK, ocK), (rd, ord), (It, oIt), (c4, oc4), (c3, oc3), (c2, oc2), (c1, oc1)] tail (List.forall_mem_cons.mpr ⟨hd.1, List.forall_mem_cons.mpr ⟨hd.2.1, List.forall_mem_cons.mpr ⟨hd.2.2.1, List.forall_mem_cons.mpr ⟨hd.2.2.2.1, List.forall_mem_cons.mpr ⟨hd.2.2.2.2.1, List.forall_mem_cons.mpr ⟨hd.2.2.2.2.2.1, List.forall_mem_cons.mpr ⟨hd.2.2.2.2.2.2.1, List.forall_mem_cons.mpr ⟨hd.2.2.2.2.2.2.2.1, List.forall_mem_cons.mpr ⟨hd.2.2.2.2.2.2.2.2.1, List.forall_mem_cons.mpr ⟨hd.2.2.2.2.2.2.2.2.2.1, List.forall_mem_cons.mpr ⟨hd.2.2.2.2.2.2.2.2.2.2.1, List.forall_mem_cons.mpr ⟨hd.2.2.2.2.2.2.2.2.2.2.2.1, List.forall_mem_cons.mpr ⟨hd.2.2.2.2.2.2.2.2.2.2.2.2, List.forall_mem_nil _⟩⟩⟩⟩⟩⟩⟩⟩⟩⟩⟩⟩⟩) ht
theorem off_Go {Hp To Du En Go Ba ig cK rd It c4 c3 c2 c1 : Nat} {oHp oTo oDu oEn oBa oig ocK ord oIt oc4 oc3 oc2 oc1 : Obj} {tail : List (Addr × Obj)} (hd : Hp ≠ Go ∧ To ≠ Go ∧ Du ≠ Go ∧ En ≠ Go ∧ Ba ≠ Go ∧ ig ≠ Go ∧ cK ≠ Go ∧ rd ≠ Go ∧ It ≠ Go ∧ c4 ≠ Go ∧ c3 ≠ Go ∧ c2 ≠ Go ∧ c1 ≠ Go) (ht : ∀ q ∈ tail, q.1 ≠ Go) : ∀ q ∈ (Hp, oHp) :: (To, oTo) :: (Du, oDu) :: (En, oEn) :: (Ba, oBa) :: (ig, oig) :: (cK, ocK) :: (rd, ord) :: (It, oIt) :: (c4, oc4) :: (c3, oc3) :: (c2, oc2) :: (c1, oc1) :: tail, q.1 ≠ Go :=
  off_gen [(Hp, oHp), (To, oTo), (Du, oDu), (En, oEn), (Ba, oBa), (ig, oig), (cK, ocK), (rd, ord), (It, oIt), (c4, oc4), (c3, oc3), (c2, oc2), (c1, oc1)] tail (List.forall_mem_cons.mpr ⟨hd.1, List.forall_mem_cons.mpr ⟨hd.2.1, List.forall_mem_cons.mpr ⟨hd.2.2.1, List.forall_mem_cons.mpr ⟨hd.2.2.2.1, List.forall_mem_cons.mpr ⟨hd.2.2.2.2.1, List.forall_mem_cons.mpr ⟨hd.2.2.2.2.2.1, List.forall_mem_cons.mpr ⟨hd.2.2.2.2.2.2.1, List.forall_mem_cons.mpr ⟨hd.2.2.2.2.2.2.2.1, List.forall_mem_cons.mpr ⟨hd.2.2.2.2.2.2.2.2.1, List.forall_mem_cons.mpr ⟨hd.2.2.2.2.2.2.2.2.2.1, List.forall_mem_cons.mpr ⟨hd.2.2.2.2.2.2.2.2.2.2.1, List.forall_mem_cons.mpr ⟨hd.2.2.2.2.2.2.2.2.2.2.2.1, List.forall_mem_cons.mpr ⟨hd.2.2.2.2.2.2.2.2.2.2.2.2, List.forall_mem_nil _⟩⟩⟩⟩⟩⟩⟩⟩⟩⟩⟩⟩⟩) ht
theorem off_Ba {Hp To Du En Go Ba ig cK rd It c4 c3 c2 c1 : Nat} {oHp oTo oDu oEn oGo oig ocK ord oIt oc4 oc3 oc2 oc1 : Obj} {tail : List (Addr × Obj)} (hd : Hp ≠ Ba ∧ To ≠ Ba ∧ Du ≠ Ba ∧ En ≠ Ba ∧ Go ≠ Ba ∧ ig ≠ Ba ∧ cK ≠ Ba ∧ rd ≠ Ba ∧ It ≠ Ba ∧ c4 ≠ Ba ∧ c3 ≠ Ba ∧ c2 ≠ Ba ∧ c1 ≠ Ba) (ht : ∀ q ∈ tail, q.1 ≠ Ba) : ∀ q ∈ (Hp, oHp) :: (To, oTo) :: (Du, oDu) :: (En, oEn) :: (Go, oGo) :: (ig, oig) :: (cK, ocK) :: (rd, ord) :: (It, oIt) :: (c4, oc4) :: (c3, oc3) :: (c2, oc2) :: (c1, oc1) :: tail, q.1 ≠ Ba :=
  off_gen [(Hp, oHp), (To, oTo), (Du, oDu), (En, oEn), (Go, oGo), (ig, oig), (cK, ocK), (rd, ord), (It, oIt), (c4, oc4), (c3, oc3), (c2, oc2), (c1, oc1)] tail (List.forall_mem_cons.mpr ⟨hd.1, List.forall_mem_cons.mpr ⟨hd.2.1, List.forall_mem_cons.mpr ⟨hd.2.2.1, List.forall_mem_cons.mpr ⟨hd.2.2.2.1, List.forall_mem_cons.mpr ⟨hd.2.2.2.2.1, List.forall_mem_cons.mpr ⟨hd.2.2.2.2.2.1, List.forall_mem_cons.mpr ⟨hd.2.2.2.2.2.2.1, List.forall_mem_cons.mpr ⟨hd.2.2.2.2.2.2.2.1, List.forall_mem_cons.mpr ⟨hd.2.2.2.2.2.2.2.2.1, List.forall_mem_cons.mpr ⟨hd.2.2.2.2.2.2.2.2.2.1, List.forall_mem_cons.mpr ⟨hd.2.2.2.2.2.2.2.2.2.2.1, List.forall_mem_cons.mpr ⟨hd.2.2.2.2.2.2.2.2.2.2.2.1, List.forall_mem_cons.mpr ⟨hd.2.2.2.2.2.2.2.2.2.2.2.2, List.forall_mem_nil _⟩⟩⟩⟩⟩⟩⟩⟩⟩⟩⟩⟩⟩) ht
theorem off_ig {Hp To Du En Go Ba ig cK rd It c4 c3 c2 c1 : Nat} {oHp oTo oDu oEn oGo oBa ocK ord oIt oc4 oc3 oc2 oc1 : Obj} {tail : List (Addr × Obj)} (hd : Hp ≠ ig ∧ To ≠ ig ∧ Du ≠ ig ∧ En ≠ ig ∧ Go ≠ ig ∧ Ba ≠ ig ∧ cK ≠ ig ∧ rd ≠ ig ∧ It ≠ ig ∧ c4 ≠ ig ∧ c3 ≠ ig ∧ c2 ≠ ig ∧ c1 ≠ ig) (ht : ∀ q ∈ tail, q.1 ≠ ig) : ∀ q ∈ (Hp, oHp) :: (To, oTo) :: (Du, oDu) :: (En, oEn) :: (Go, oGo) :: (Ba, oBa) :: (cK, ocK) :: (rd, ord) :: (It, oIt) :: (c4, oc4) :: (c3, oc3) :: (c2, oc2) :: (c1, oc1) :: tail, q.1 ≠ ig :=
  off_gen [(Hp, oHp), (To, oTo), (Du, oDu), (En, oEn), (Go, oGo), (Ba, oBa), (cK, ocK), (rd, ord), (It, oIt), (c4, oc4), (c3, oc3), (c2, oc2), (c1, oc1)] tail (List.forall_mem_cons.mpr ⟨hd.1, List.forall_mem_cons.mpr ⟨hd.2.1, List.forall_mem_cons.mpr ⟨hd.2.2.1, List.forall_mem_cons.mpr ⟨hd.2.2.2.1, List.forall_mem_cons.mpr ⟨hd.2.2.2.2.1, List.forall_mem_cons.mpr ⟨hd.2.2.2.2.2.1, List.forall_mem_cons.mpr ⟨hd.2.2.2.2.2.2.1, List.forall_mem_cons.mpr ⟨hd.2.2.2.2.2.2.2.1, List.forall_mem_cons.mpr ⟨hd.2.2.2.2.2.2.2.2.1, List.forall_mem_cons.mpr ⟨hd.2.2.2.2.2.2.2.2.2.1, List.forall_mem_cons.mpr ⟨hd.2.2.2.2.2.2.2.2.2.2.1, List.forall_mem_cons.mpr ⟨hd.2.2.2.2.2.2.2.2.2.2.2.1, List.forall_mem_cons.mpr ⟨hd.2.2.2.2.2.2.2.2.2.2.2.2, List.forall_mem_nil _⟩⟩⟩⟩⟩⟩⟩⟩⟩⟩⟩⟩⟩) ht
theorem li_in {α : Type} {y1 y2 y3 y4 Hp To Du En Go Ba ig cK rd It c4 c3 c2 c1 : α} {led : List α} : ∀ q ∈ Hp :: To :: Du :: En :: Go :: Ba :: ig :: cK :: rd :: It :: c4 :: c3 :: c2 :: c1 :: (led ++ []), q ∈ It :: y1 :: y2 :: y3 :: y4 :: Du :: To :: Ba :: Go :: En :: ig :: Hp :: rd :: cK :: c4 :: c3 :: c2 :: c1 :: led :=
  shuf [y1, y2, y3, y4, Hp, To, Du, En, Go, Ba, ig, cK, rd, It, c4, c3, c2, c1] [led] (Tr.at 13 (Tr.at 0 (Tr.at 1 (Tr.at 2 (Tr.at 3 (Tr.at 6 (Tr.at 5 (Tr.at 9 (Tr.at 8 (Tr.at 7 (Tr.at 10 (Tr.at 4 (Tr.at 12 (Tr.at 11 (Tr.at 14 (Tr.at 15 (Tr.at 16 (Tr.at 17 (Tr.ls 0))))))))))))))))))) (Tr.at 4 (Tr.at 5 (Tr.at 6 (Tr.at 7 (Tr.at 8 (Tr.at 9 (Tr.at 10 (Tr.at 11 (Tr.at 12 (Tr.at 13 (Tr.at 14 (Tr.at 15 (Tr.at 16 (Tr.at 17 (Tr.ap (Tr.ls 0) Tr.nil))))))))))))))) rfl rfl
/-- what holds between the turns of the law's loop -/
noncomputable def LInv (w : World) (Hp To Du En Go Ba ig cK rd dx It c4 c3 c2 c1 : Addr) (ws : List Value) (oB oG oE oR : Obj) (led : List (Addr × Obj)) (i : Nat) (nx : List (Addr × Obj)) : Prop :=
  ∀ P : Prop, (∀ hs nH ts nT us nU es nE gs nG bs nB oI Dt oK X ks G Bk D, (nx = (Hp, listOf hs.toArray nH) :: (To, listOf ts.toArray nT) :: (Du, listOf us.toArray nU) :: (En, listOf es.toArray nE) :: (Go, listOf gs.toArray nG) :: (Ba, listOf bs.toArray nB) :: (ig, oI) :: (cK, oK) :: (rd, inst dx) :: (It, listOf ws.toArray 0) :: (c4, oB) :: (c3, oG) :: (c2, oE) :: (c1, oR) :: (led ++ X)) → ∀ vK, oK.data = .cell vK → (Tab w oI Dt) → (Dt.length ≤ 1 + 30 * i) → (Dic Dt (fOf G Bk)) → (Ents X es ks) → (IntsAre gs G) → (IntsAre bs Bk) → (HeapX X hs (lyingK ks G ks.length)) → (DatAll X ts D) → (DatAll X us D) → (Good ks G Bk (3 - (i - (ws.length - 4)))) → (ks.length ≤ i) → (D.length ≤ 30 * i) → (G.length ≤ 30 * i) → (Bk.length ≤ 30 * i) → ((∀ q ∈ X, @LT.lt Nat _ It q.1)) → (∀ d ∈ D, datOk 8 d = true) → P) → P
theorem LInv.mk {w : World} {Hp To Du En Go Ba ig cK rd dx It c4 c3 c2 c1 : Addr} {ws : List Value} {oB oG oE oR : Obj} {led : List (Addr × Obj)} {i : Nat} {nx : List (Addr × Obj)} (hs : List Value) (nH : Nat) (ts : List Value) (nT : Nat) (us : List Value) (nU : Nat) (es : List Value) (nE : Nat) (gs : List Value) (nG : Nat) (bs : List Value) (nB : Nat) (oI : Obj) (Dt : List (PyData × PyData)) (oK : Obj) (X : List (Addr × Obj)) (ks : List (Int × Int)) (G Bk : List Int) (D : List Dat)
    (h1 : nx = (Hp, listOf hs.toArray nH) :: (To, listOf ts.toArray nT) :: (Du, listOf us.toArray nU) :: (En, listOf es.toArray nE) :: (Go, listOf gs.toArray nG) :: (Ba, listOf bs.toArray nB) :: (ig, oI) :: (cK, oK) :: (rd, inst dx) :: (It, listOf ws.toArray 0) :: (c4, oB) :: (c3, oG) :: (c2, oE) :: (c1, oR) :: (led ++ X)) {vK : Option Value} (eK : oK.data = .cell vK) (f0 : Tab w oI Dt) (f1 : Dt.length ≤ 1 + 30 * i) (f2 : Dic Dt (fOf G Bk)) (f3 : Ents X es ks) (f4 : IntsAre gs G) (f5 : IntsAre bs Bk) (f6 : HeapX X hs (lyingK ks G ks.length)) (f7 : DatAll X ts D) (f8 : DatAll X us D) (f9 : Good ks G Bk (3 - (i - (ws.length - 4)))) (f10 : ks.length ≤ i) (f11 : D.length ≤ 30 * i) (f12 : G.length ≤ 30 * i) (f13 : Bk.length ≤ 30 * i) (f14 : (∀ q ∈ X, @LT.lt Nat _ It q.1)) (f15 : ∀ d ∈ D, datOk 8 d = true) : LInv w Hp To Du En Go Ba ig cK rd dx It c4 c3 c2 c1 ws oB oG oE oR led i nx :=
  fun _ k => k hs nH ts nT us nU es nE gs nG bs nB oI Dt oK X ks G Bk D h1 vK eK f0 f1 f2 f3 f4 f5 f6 f7 f8 f9 f10 f11 f12 f13 f14 f15
theorem ta_m1 {α : Type} {To Du En Go Ba ig cK rd It c4 c3 c2 c1 : α} {led X own : List α} : ∀ q ∈ ig :: rd :: (led ++ (To :: Du :: En :: Go :: Ba :: cK :: It :: c4 :: c3 :: c2 :: c1 :: (X ++ own))), q ∈ To :: Du :: En :: Go :: Ba :: ig :: cK :: rd :: It :: c4 :: c3 :: c2 :: c1 :: (led ++ (X ++ own)) :=
  shuf [To, Du, En, Go, Ba, ig, cK, rd, It, c4, c3, c2, c1] [led, X, own] (Tr.at 0 (Tr.at 1 (Tr.at 2 (Tr.at 3 (Tr.at 4 (Tr.at 5 (Tr.at 6 (Tr.at 7 (Tr.at 8 (Tr.at 9 (Tr.at 10 (Tr.at 11 (Tr.at 12 (Tr.ap (Tr.ls 0) (Tr.ap (Tr.ls 1) (Tr.ls 2)))))))))))))))) (Tr.at 5 (Tr.at 7 (Tr.ap (Tr.ls 0) (Tr.at 0 (Tr.at 1 (Tr.at 2 (Tr.at 3 (Tr.at 4 (Tr.at 6 (Tr.at 8 (Tr.at 9 (Tr.at 10 (Tr.at 11 (Tr.at 12 (Tr.ap (Tr.ls 1) (Tr.ls 2)))))))))))))))) rfl rfl
theorem ta_m2 {α : Type} {Hp To Du En Go Ba cK rd It c4 c3 c2 c1 : α} {led X own : List α} : ∀ q ∈ rd :: (led ++ (To :: Du :: En :: Go :: Ba :: cK :: It :: c4 :: c3 :: c2 :: c1 :: (X ++ own))), q ∈ Hp :: To :: Du :: En :: Go :: Ba :: cK :: rd :: It :: c4 :: c3 :: c2 :: c1 :: (led ++ (X ++ own)) :=
  shuf [Hp, To, Du, En, Go, Ba, cK, rd, It, c4, c3, c2, c1] [led, X, own] (Tr.at 0 (Tr.at 1 (Tr.at 2 (Tr.at 3 (Tr.at 4 (Tr.at 5 (Tr.at 6 (Tr.at 7 (Tr.at 8 (Tr.at 9 (Tr.at 10 (Tr.at 11 (Tr.at 12 (Tr.ap (Tr.ls 0) (Tr.ap (Tr.ls 1) (Tr.ls 2)))))))))))))))) (Tr.at 7 (Tr.ap (Tr.ls 0) (Tr.at 1 (Tr.at 2 (Tr.at 3 (Tr.at 4 (Tr.at 5 (Tr.at 6 (Tr.at 8 (Tr.at 9 (Tr.at 10 (Tr.at 11 (Tr.at 12 (Tr.ap (Tr.ls 1) (Tr.ls 2))))))))))))))) rfl rfl
theorem na_m {α : Type} {Hp To Du En Go Ba cK rd It c4 c3 c2 c1 : α} {led X own : List α} : ∀ q ∈ rd :: (led ++ (Hp :: To :: Du :: En :: Go :: Ba :: cK :: It :: c4 :: c3 :: c2 :: c1 :: (X ++ own))), q ∈ Hp :: To :: Du :: En :: Go :: Ba :: cK :: rd :: It :: c4 :: c3 :: c2 :: c1 :: (led ++ (X ++ own)) :=
  shuf [Hp, To, Du, En, Go, Ba, cK, rd, It, c4, c3, c2, c1] [led, X, own] (Tr.at 0 (Tr.at 1 (Tr.at 2 (Tr.at 3 (Tr.at 4 (Tr.at 5 (Tr.at 6 (Tr.at 7 (Tr.at 8 (Tr.at 9 (Tr.at 10 (Tr.at 11 (Tr.at 12 (Tr.ap (Tr.ls 0) (Tr.ap (Tr.ls 1) (Tr.ls 2)))))))))))))))) (Tr.at 7 (Tr.ap (Tr.ls 0) (Tr.at 0 (Tr.at 1 (Tr.at 2 (Tr.at 3 (Tr.at 4 (Tr.at 5 (Tr.at 6 (Tr.at 8 (Tr.at 9 (Tr.at 10 (Tr.at 11 (Tr.at 12 (Tr.ap (Tr.ls 1) (Tr.ls 2)))))))))))))))) rfl rfl
theorem fOf_one {G Bk : List Int} : ∀ j < 24, fOf G Bk j = some 1 ↔ (j : Int) ∈ Bk := by
  intro j _
  unfold fOf
  by_cases h : (j : Int) ∈ Bk
  · simp [h]
  · by_cases h2 : (j : Int) ∈ G <;> simp [h, h2]
theorem ta_s {α : Type} {Hp To Du En Go Ba ig cK rd It c4 c3 c2 c1 : α} {led X own : List α} : ∀ q ∈ To :: Du :: En :: Go :: Ba :: cK :: It :: c4 :: c3 :: c2 :: c1 :: (X ++ own), q ∈ Hp :: ig :: rd :: (led ++ (To :: Du :: En :: Go :: Ba :: cK :: It :: c4 :: c3 :: c2 :: c1 :: (X ++ own))) :=
  shuf [Hp, To, Du, En, Go, Ba, ig, cK, rd, It, c4, c3, c2, c1] [led, X, own] (Tr.at 0 (Tr.at 6 (Tr.at 8 (Tr.ap (Tr.ls 0) (Tr.at 1 (Tr.at 2 (Tr.at 3 (Tr.at 4 (Tr.at 5 (Tr.at 7 (Tr.at 9 (Tr.at 10 (Tr.at 11 (Tr.at 12 (Tr.at 13 (Tr.ap (Tr.ls 1) (Tr.ls 2))))))))))))))))) (Tr.at 1 (Tr.at 2 (Tr.at 3 (Tr.at 4 (Tr.at 5 (Tr.at 7 (Tr.at 9 (Tr.at 10 (Tr.at 11 (Tr.at 12 (Tr.at 13 (Tr.ap (Tr.ls 1) (Tr.ls 2))))))))))))) rfl rfl
theorem ta_r {α : Type} {To Du En Go Ba cK It c4 c3 c2 c1 : α} {X own : List α} : ∀ q ∈ X, q ∈ To :: Du :: En :: Go :: Ba :: cK :: It :: c4 :: c3 :: c2 :: c1 :: (X ++ own) :=
  shuf [To, Du, En, Go, Ba, cK, It, c4, c3, c2, c1] [X, own] (Tr.at 0 (Tr.at 1 (Tr.at 2 (Tr.at 3 (Tr.at 4 (Tr.at 5 (Tr.at 6 (Tr.at 7 (Tr.at 8 (Tr.at 9 (Tr.at 10 (Tr.ap (Tr.ls 0) (Tr.ls 1))))))))))))) (Tr.ls 0) rfl rfl
theorem frD_Go {α : Type} {Dn Hp To Du En Go Ba ig cK rd It c4 c3 c2 c1 : α} {led X own : List α} : ∀ q ∈ Go :: Dn :: Hp :: To :: Du :: En :: Ba :: ig :: cK :: rd :: It :: c4 :: c3 :: c2 :: c1 :: (led ++ (X ++ own)), q ∈ Dn :: Hp :: To :: Du :: En :: Go :: Ba :: ig :: cK :: rd :: It :: c4 :: c3 :: c2 :: c1 :: (led ++ (X ++ own)) :=
  shuf [Dn, Hp, To, Du, En, Go, Ba, ig, cK, rd, It, c4, c3, c2, c1] [led, X, own] (Tr.at 0 (Tr.at 1 (Tr.at 2 (Tr.at 3 (Tr.at 4 (Tr.at 5 (Tr.at 6 (Tr.at 7 (Tr.at 8 (Tr.at 9 (Tr.at 10 (Tr.at 11 (Tr.at 12 (Tr.at 13 (Tr.at 14 (Tr.ap (Tr.ls 0) (Tr.ap (Tr.ls 1) (Tr.ls 2)))))))))))))))))) (Tr.at 5 (Tr.at 0 (Tr.at 1 (Tr.at 2 (Tr.at 3 (Tr.at 4 (Tr.at 6 (Tr.at 7 (Tr.at 8 (Tr.at 9 (Tr.at 10 (Tr.at 11 (Tr.at 12 (Tr.at 13 (Tr.at 14 (Tr.ap (Tr.ls 0) (Tr.ap (Tr.ls 1) (Tr.ls 2)))))))))))))))))) rfl rfl
theorem unD_Go {α : Type} {Dn Hp To Du En Go Ba ig cK rd It c4 c3 c2 c1 : α} {led X own : List α} : ∀ q ∈ Hp :: To :: Du :: En :: Go :: Ba :: ig :: cK :: rd :: It :: c4 :: c3 :: c2 :: c1 :: (led ++ (X ++ own)), q ∈ Go :: Dn :: Hp :: To :: Du :: En :: Ba :: ig :: cK :: rd :: It :: c4 :: c3 :: c2 :: c1 :: (led ++ (X ++ own)) :=
  shuf [Dn, Hp, To, Du, En, Go, Ba, ig, cK, rd, It, c4, c3, c2, c1] [led, X, own] (Tr.at 5 (Tr.at 0 (Tr.at 1 (Tr.at 2 (Tr.at 3 (Tr.at 4 (Tr.at 6 (Tr.at 7 (Tr.at 8 (Tr.at 9 (Tr.at 10 (Tr.at 11 (Tr.at 12 (Tr.at 13 (Tr.at 14 (Tr.ap (Tr.ls 0) (Tr.ap (Tr.ls 1) (Tr.ls 2)))))))))))))))))) (Tr.at 1 (Tr.at 2 (Tr.at 3 (Tr.at 4 (Tr.at 5 (Tr.at 6 (Tr.at 7 (Tr.at 8 (Tr.at 9 (Tr.at 10 (Tr.at 11 (Tr.at 12 (Tr.at 13 (Tr.at 14 (Tr.ap (Tr.ls 0) (Tr.ap (Tr.ls 1) (Tr.ls 2))))))))))))))))) rfl rfl
theorem end_in {α : Type} {Hp To Du En Go Ba ig cK rd It c4 c3 c2 c1 : α} {led X own : List α} : ∀ q ∈ Hp :: To :: Du :: En :: Go :: Ba :: ig :: cK :: rd :: It :: c4 :: c3 :: c2 :: c1 :: (led ++ X), q ∈ Hp :: To :: Du :: En :: Go :: Ba :: ig :: cK :: rd :: It :: c4 :: c3 :: c2 :: c1 :: (led ++ (X ++ own)) :=
  shuf [Hp, To, Du, En, Go, Ba, ig, cK, rd, It, c4, c3, c2, c1] [led, X, own] (Tr.at 0 (Tr.at 1 (Tr.at 2 (Tr.at 3 (Tr.at 4 (Tr.at 5 (Tr.at 6 (Tr.at 7 (Tr.at 8 (Tr.at 9 (Tr.at 10 (Tr.at 11 (Tr.at 12 (Tr.at 13 (Tr.ap (Tr.ls 0) (Tr.ap (Tr.ls 1) (Tr.ls 2))))))))))))))))) (Tr.at 0 (Tr.at 1 (Tr.at 2 (Tr.at 3 (Tr.at 4 (Tr.at 5 (Tr.at 6 (Tr.at 7 (Tr.at 8 (Tr.at 9 (Tr.at 10 (Tr.at 11 (Tr.at 12 (Tr.at 13 (Tr.ap (Tr.ls 0) (Tr.ls 1)))))))))))))))) rfl rfl
theorem own_next {Hp To Du En Go Ba ig cK rd It c4 c3 c2 c1 : Addr} {oHp oTo oDu oEn oGo oBa oig ocK ord oIt oc4 oc3 oc2 oc1 uHp uTo uDu uEn uGo uBa uig ucK urd uIt uc4 uc3 uc2 uc1 : Obj} {led X Y own : List (Addr × Obj)} {It' : Nat} (ho : OwnOff own (((Hp, oHp) :: (To, oTo) :: (Du, oDu) :: (En, oEn) :: (Go, oGo) :: (Ba, oBa) :: (ig, oig) :: (cK, ocK) :: (rd, ord) :: (It, oIt) :: (c4, oc4) :: (c3, oc3) :: (c2, oc2) :: (c1, oc1) :: (led ++ X)).map (·.1))) (t : TailOk It' own Y) : OwnOff own (((Hp, uHp) :: (To, uTo) :: (Du, uDu) :: (En, uEn) :: (Go, uGo) :: (Ba, uBa) :: (ig, uig) :: (cK, ucK) :: (rd, urd) :: (It, uIt) :: (c4, uc4) :: (c3, uc3) :: (c2, uc2) :: (c1, uc1) :: (led ++ Y)).map (·.1)) :=
  own_gen [Hp, To, Du, En, Go, Ba, ig, cK, rd, It, c4, c3, c2, c1] ho t
theorem ta_n {α : Type} {T Hp To Du En Go Ba ig cK rd It c4 c3 c2 c1 : α} {led X1 X own : List α} : ∀ q ∈ To :: Du :: En :: Go :: Ba :: cK :: It :: c4 :: c3 :: c2 :: c1 :: (X ++ own), q ∈ T :: Hp :: ig :: rd :: (led ++ (X1 ++ (To :: Du :: En :: Go :: Ba :: cK :: It :: c4 :: c3 :: c2 :: c1 :: (X ++ own)))) :=
  shuf [T, Hp, To, Du, En, Go, Ba, ig, cK, rd, It, c4, c3, c2, c1] [led, X1, X, own] (Tr.at 0 (Tr.at 1 (Tr.at 7 (Tr.at 9 (Tr.ap (Tr.ls 0) (Tr.ap (Tr.ls 1) (Tr.at 2 (Tr.at 3 (Tr.at 4 (Tr.at 5 (Tr.at 6 (Tr.at 8 (Tr.at 10 (Tr.at 11 (Tr.at 12 (Tr.at 13 (Tr.at 14 (Tr.ap (Tr.ls 2) (Tr.ls 3))))))))))))))))))) (Tr.at 2 (Tr.at 3 (Tr.at 4 (Tr.at 5 (Tr.at 6 (Tr.at 8 (Tr.at 10 (Tr.at 11 (Tr.at 12 (Tr.at 13 (Tr.at 14 (Tr.ap (Tr.ls 2) (Tr.ls 3))))))))))))) rfl rfl
theorem can_X {α : Type} {Hp To Du En Go Ba ig cK rd It c4 c3 c2 c1 : α} {led X own : List α} : ∀ q ∈ X, q ∈ Hp :: To :: Du :: En :: Go :: Ba :: ig :: cK :: rd :: It :: c4 :: c3 :: c2 :: c1 :: (led ++ (X ++ own)) :=
  shuf [Hp, To, Du, En, Go, Ba, ig, cK, rd, It, c4, c3, c2, c1] [led, X, own] (Tr.at 0 (Tr.at 1 (Tr.at 2 (Tr.at 3 (Tr.at 4 (Tr.at 5 (Tr.at 6 (Tr.at 7 (Tr.at 8 (Tr.at 9 (Tr.at 10 (Tr.at 11 (Tr.at 12 (Tr.at 13 (Tr.ap (Tr.ls 0) (Tr.ap (Tr.ls 1) (Tr.ls 2))))))))))))))))) (Tr.ls 1) rfl rfl
theorem inD {α : Type} {Dn Hp To Du En Go Ba ig cK rd It c4 c3 c2 c1 : α} {led X own : List α} : ∀ q ∈ Hp :: To :: Du :: En :: Go :: Ba :: ig :: cK :: rd :: It :: c4 :: c3 :: c2 :: c1 :: (led ++ (X ++ (Dn :: own))), q ∈ Dn :: Hp :: To :: Du :: En :: Go :: Ba :: ig :: cK :: rd :: It :: c4 :: c3 :: c2 :: c1 :: (led ++ (X ++ own)) :=
  shuf [Dn, Hp, To, Du, En, Go, Ba, ig, cK, rd, It, c4, c3, c2, c1] [led, X, own] (Tr.at 0 (Tr.at 1 (Tr.at 2 (Tr.at 3 (Tr.at 4 (Tr.at 5 (Tr.at 6 (Tr.at 7 (Tr.at 8 (Tr.at 9 (Tr.at 10 (Tr.at 11 (Tr.at 12 (Tr.at 13 (Tr.at 14 (Tr.ap (Tr.ls 0) (Tr.ap (Tr.ls 1) (Tr.ls 2)))))))))))))))))) (Tr.at 1 (Tr.at 2 (Tr.at 3 (Tr.at 4 (Tr.at 5 (Tr.at 6 (Tr.at 7 (Tr.at 8 (Tr.at 9 (Tr.at 10 (Tr.at 11 (Tr.at 12 (Tr.at 13 (Tr.at 14 (Tr.ap (Tr.ls 0) (Tr.ap (Tr.ls 1) (Tr.at 0 (Tr.ls 2)))))))))))))))))) rfl rfl
theorem end2 {α : Type} {Dn Hp To Du En Go Ba ig cK rd It c4 c3 c2 c1 : α} {led X own own2 : List α} : ∀ q ∈ Hp :: To :: Du :: En :: Go :: Ba :: ig :: cK :: rd :: It :: c4 :: c3 :: c2 :: c1 :: (led ++ (X ++ (Dn :: own))), q ∈ Hp :: To :: Du :: En :: Go :: Ba :: ig :: cK :: rd :: It :: c4 :: c3 :: c2 :: c1 :: (led ++ (X ++ (Dn :: (own ++ own2)))) :=
  shuf [Dn, Hp, To, Du, En, Go, Ba, ig, cK, rd, It, c4, c3, c2, c1] [led, X, own, own2] (Tr.at 1 (Tr.at 2 (Tr.at 3 (Tr.at 4 (Tr.at 5 (Tr.at 6 (Tr.at 7 (Tr.at 8 (Tr.at 9 (Tr.at 10 (Tr.at 11 (Tr.at 12 (Tr.at 13 (Tr.at 14 (Tr.ap (Tr.ls 0) (Tr.ap (Tr.ls 1) (Tr.at 0 (Tr.ap (Tr.ls 2) (Tr.ls 3))))))))))))))))))) (Tr.at 1 (Tr.at 2 (Tr.at 3 (Tr.at 4 (Tr.at 5 (Tr.at 6 (Tr.at 7 (Tr.at 8 (Tr.at 9 (Tr.at 10 (Tr.at 11 (Tr.at 12 (Tr.at 13 (Tr.at 14 (Tr.ap (Tr.ls 0) (Tr.ap (Tr.ls 1) (Tr.at 0 (Tr.ls 2)))))))))))))))))) rfl rfl
theorem inD3 {α : Type} {D1 D2 D3 Hp To Du En Go Ba ig cK rd It c4 c3 c2 c1 : α} {led X own : List α} : ∀ q ∈ Hp :: To :: Du :: En :: Go :: Ba :: ig :: cK :: rd :: It :: c4 :: c3 :: c2 :: c1 :: (led ++ (X ++ (D1 :: D2 :: D3 :: own))), q ∈ D1 :: D2 :: D3 :: Hp :: To :: Du :: En :: Go :: Ba :: ig :: cK :: rd :: It :: c4 :: c3 :: c2 :: c1 :: (led ++ (X ++ own)) :=
  shuf [D1, D2, D3, Hp, To, Du, En, Go, Ba, ig, cK, rd, It, c4, c3, c2, c1] [led, X, own] (Tr.at 0 (Tr.at 1 (Tr.at 2 (Tr.at 3 (Tr.at 4 (Tr.at 5 (Tr.at 6 (Tr.at 7 (Tr.at 8 (Tr.at 9 (Tr.at 10 (Tr.at 11 (Tr.at 12 (Tr.at 13 (Tr.at 14 (Tr.at 15 (Tr.at 16 (Tr.ap (Tr.ls 0) (Tr.ap (Tr.ls 1) (Tr.ls 2)))))))))))))))))))) (Tr.at 3 (Tr.at 4 (Tr.at 5 (Tr.at 6 (Tr.at 7 (Tr.at 8 (Tr.at 9 (Tr.at 10 (Tr.at 11 (Tr.at 12 (Tr.at 13 (Tr.at 14 (Tr.at 15 (Tr.at 16 (Tr.ap (Tr.ls 0) (Tr.ap (Tr.ls 1) (Tr.at 0 (Tr.at 1 (Tr.at 2 (Tr.ls 2)))))))))))))))))))) rfl rfl
theorem outD3 {α : Type} {D1 D2 D3 Hp To Du En Go Ba ig cK rd It c4 c3 c2 c1 : α} {led X own : List α} : ∀ q ∈ D1 :: D2 :: D3 :: Hp :: To :: Du :: En :: Go :: Ba :: ig :: cK :: rd :: It :: c4 :: c3 :: c2 :: c1 :: (led ++ (X ++ own)), q ∈ Hp :: To :: Du :: En :: Go :: Ba :: ig :: cK :: rd :: It :: c4 :: c3 :: c2 :: c1 :: (led ++ (X ++ (D1 :: D2 :: D3 :: own))) :=
  shuf [D1, D2, D3, Hp, To, Du, En, Go, Ba, ig, cK, rd, It, c4, c3, c2, c1] [led, X, own] (Tr.at 3 (Tr.at 4 (Tr.at 5 (Tr.at 6 (Tr.at 7 (Tr.at 8 (Tr.at 9 (Tr.at 10 (Tr.at 11 (Tr.at 12 (Tr.at 13 (Tr.at 14 (Tr.at 15 (Tr.at 16 (Tr.ap (Tr.ls 0) (Tr.ap (Tr.ls 1) (Tr.at 0 (Tr.at 1 (Tr.at 2 (Tr.ls 2)))))))))))))))))))) (Tr.at 0 (Tr.at 1 (Tr.at 2 (Tr.at 3 (Tr.at 4 (Tr.at 5 (Tr.at 6 (Tr.at 7 (Tr.at 8 (Tr.at 9 (Tr.at 10 (Tr.at 11 (Tr.at 12 (Tr.at 13 (Tr.at 14 (Tr.at 15 (Tr.at 16 (Tr.ap (Tr.ls 0) (Tr.ap (Tr.ls 1) (Tr.ls 2)))))))))))))))))))) rfl rfl
end Mine
end PartLawM
section PartLawF
open PySem PySem.W PyProof.Rows PySem.Calls PySem.Spec PyProof.V
set_option maxHeartbeats 8000000
namespace Mine
theorem words_LawF : True := by
  w_top off
  k_with_none
  k_with "call ref" => refine halt ?_
  k_with "getMethod ref" => (k_here; (with_reducible show wpAny _ _ (getMethod (Value.ref _) (PySem.Str.ofString "names") _) _ _ _); k_dflt (refine' meth_rd (by k_asm) (by k_asm) (by k_asm) (by k_mem) (by assumption) (by intro q hq; simp only [List.mem_cons, List.mem_append, hq, true_or, or_true]) ?_))
  k_with "pyIter ref" => refine halt ?_
  k_with "exec For Name BinOp cons nil" => refine halt ?_
  k_with "exec For Name ListComp cons nil" => refine halt ?_
  k_with "call builtin:list.append" => refine halt ?_
  k_with "eval ListComp" => refine halt ?_
  k_with "CompSrc" => refine halt ?_
  k_with "CompSrcT" => refine halt ?_
  k_with "CompEnd" => refine halt ?_
  k_with "InvEndG" => refine halt ?_
  k_with "subscriptTail Name UnaryOp ref int" => (k_here; (with_unfolding_all refine' item_last (by k_asm) (by k_mem) ?_ (by with_unfolding_all rfl); k_whole))
  k_with "compareOp NotEq ref str" => (k_here; k_dflt (refine' ne_left (by k_asm) (by assumption) (by omega) ?_))
  k_with "compareOp NotEq str str" => (k_here; k_dflt (refine' left_left (by omega) ?_))
  k_with "compareOp NotIn int ref" => (k_here; k_dflt (refine' notin_n (by k_asm) (by k_mem) (by assumption) ?_; k_whole))
  k_with "compareOp In int ref" => (k_here; k_dflt (refine' in_n (by k_asm) (by k_mem) (by assumption) ?_; k_whole))
  k_with "subscriptTail Name Name ref int" => (k_here; (with_unfolding_all refine' item_x (by k_asm) (by k_mem) (by assumption) (by omega) ?_ (by with_unfolding_all rfl); k_whole))
  k_with "call builtin:len" => (k_here; (with_reducible show wpAny _ _ (call (Value.builtin "len") [Value.ref _]) _ _ _); k_dflt (refine' len_n (by k_asm) (by k_mem) (by omega) ?_; k_whole); intro _ _)
  k_with "compareOp Eq ref ref" => refine halt ?_
  trivial
theorem end_post {l : OpenLaw} {args : List WData} : l.row.claim.post args (.bool true) args = true :=
  postW_of (r := l.row.toRowW) (X := true) (by rfl) (w_eq_bool (k := true) (l := true) (w_res rfl) w_lit) rfl
theorem end_raises {l : OpenLaw} {args : List WData} {cls : ExcName} : l.row.claim.raises args cls = false := rfl
section
local macro_rules | `(tactic| k_lt $h:ident) => `(tactic| (have hlt' := lt_head $h; dsimp only at hlt'))
local macro_rules | `(tactic| k_steps) => `(tactic| repeat' (first | (k_unfold; (try dsimp only)) | walk1 | (dsimp only; walk1) | fail "no step"))
theorem X : PySem.Challenge.rw_oh0014_01.Holds := hd (by
  k_go0
  rename_i w s₀ s₁ mg mb G Y fa oo pm doc ho hg KX XX V GL T B TE TW w14 w13 M w12 w11 hcd ns hs hlay0 hLay hr1 hl2 w9 w8 lS vsS w5 hLs ra w1 r0 hIs hr hcond hc2 K0 hD h0 tk0 F0 o5 o4 o3 o2 o1 e5 e4 e3 e2 e1 N0 CA
  replace e5 : o5.data = .cell none := e5
  replace e4 : o4.data = .cell none := e4
  replace e3 : o3.data = .cell none := e3
  replace e2 : o2.data = .cell none := e2
  replace e1 : o1.data = .cell none := e1
  replace F0 : Fr s₁.heap s₁.heap.objs.size h0 (fun y => if y = Str.ofString "script" then some (.ref lS) else none) := F0
  generalize hL : s₁.heap.objs.size = L at F0 N0 ⊢
  clear G Y XX V GL B TE TW M hs hlay0 hLay hr1 hl2 ra w1 r0 hr hc2 CA hcd hD ho
  all_goals try k_fold
  dsimp only
  refine with_site (fun A => Site w A s₁.heap L ∧ A.depth + 100 < recursionLimit ∧ A.units + 1000 < cLine) ⟨⟨_, _, _, _, _, _, _, _, _, by k_asm, by k_asm, by k_asm, rfl, rfl, rfl, rfl⟩, by simp only [depth_deeper, depth_caller]; decide, by simp only [units_deeper, units_caller]; decide⟩ ?_
  rintro ⟨Z, hdp, hun⟩
  refine hideX ?_
  intro QQ hqk
  refine gen_E ?hPE ?_
  case hPE => passes_own
  intro EE hPE
  as_aux_lemma =>
  k_steps
  change wpAny _ _ _ _ _ _
  refine mk_one Z (by k_asm) (by assumption) (dle hdp) (dle hun) ?_
  intro rd1 dx1 ig1 led1 oI1 h1 tk1 F1 N1 D1 R1 g1 a1
  dsimp only
  k_steps
  change wpAny _ _ _ _ _ _
  refine mk_new Z (by k_asm) (by assumption) (dle hdp) (dle hun) ?_
  intro rd2 dx2 ig2 led2 oI2 h2 tk2 F2 N2 D2 R2 g2 b1 b2 b3
  replace N2 : News _ _ _ ((ig2, oI2) :: (rd2, inst dx2) :: (ig1, oI1) :: (rd1, inst dx1) :: (L + 1 + 1 + 1 + 1 + 1, o5) :: (L + 1 + 1 + 1 + 1, o4) :: (L + 1 + 1 + 1, o3) :: (L + 1 + 1, o2) :: (L + 1, o1) :: (led1 ++ led2)) := fun q hq => N2 q (lb_1 q hq)
  dsimp only
  k_steps
  change wpAny _ _ _ _ _ _
  refine mk_far Z (by k_asm) (by assumption) (dle hdp) (dle hun) ?_
  intro rd3 dx3 ig3 led3 oI3 h3 tk3 F3 N3 D3 R3 g3 d1 d2
  replace N3 : News _ _ _ ((ig3, oI3) :: (rd3, inst dx3) :: (ig2, oI2) :: (rd2, inst dx2) :: (ig1, oI1) :: (rd1, inst dx1) :: (L + 1 + 1 + 1 + 1 + 1, o5) :: (L + 1 + 1 + 1 + 1, o4) :: (L + 1 + 1 + 1, o3) :: (L + 1 + 1, o2) :: (L + 1, o1) :: (led3 ++ (led1 ++ led2))) := fun q hq => N3 q (lb_2 q hq)
  have H1 := R1.hasD
  have H2 := R2.hasD
  have H3 := R3.hasD
  dsimp only
  k_steps
  change wpAny _ _ _ _ _ _
  have k1 : ∀ q ∈ (rd1, inst dx1) :: (led1 ++ ((ig3, oI3) :: (rd3, inst dx3) :: (ig2, oI2) :: (rd2, inst dx2) :: (L + 1 + 1 + 1 + 1 + 1, o5) :: (L + 1 + 1 + 1 + 1, o4) :: (L + 1 + 1 + 1, o3) :: (L + 1 + 1, o2) :: (L + 1, o1) :: (led3 ++ led2))), q.1 ≠ ig1 := by
    intro q hq
    have hq' : q ∈ (rd1, inst dx1) :: (led1 ++ [(L + 1 + 1 + 1 + 1 + 1, o5), (L + 1 + 1 + 1 + 1, o4), (L + 1 + 1 + 1, o3), (L + 1 + 1, o2), (L + 1, o1)]) ∨ q = (ig3, oI3) ∨ q ∈ (rd3, inst dx3) :: led3 ∨ q = (ig2, oI2) ∨ q ∈ (rd2, inst dx2) :: led2 := lb_9 q hq
    rcases hq' with h | rfl | h | rfl | h
    · exact Nat.ne_of_lt (a1 q h)
    · exact Nat.ne_of_gt (d1 (ig1, oI1) (by simp))
    · exact d2 (ig1, oI1) (by simp) _ D1 q h
    · exact Nat.ne_of_gt (b3 (ig1, oI1) (by simp))
    · exact Nat.ne_of_gt ((b1 q h).2 (ig1, oI1) (by simp))
  have k2 : ∀ q ∈ (rd2, inst dx2) :: (led2 ++ ((ig3, oI3) :: (rd3, inst dx3) :: (L + 1 + 1 + 1 + 1 + 1, o5) :: (L + 1 + 1 + 1 + 1, o4) :: (L + 1 + 1 + 1, o3) :: (L + 1 + 1, o2) :: (L + 1, o1) :: led3)), q.1 ≠ ig2 := by
    intro q hq
    have hq' : q ∈ (ig1, oI1) :: (rd1, inst dx1) :: (led1 ++ [(L + 1 + 1 + 1 + 1 + 1, o5), (L + 1 + 1 + 1 + 1, o4), (L + 1 + 1 + 1, o3), (L + 1 + 1, o2), (L + 1, o1)]) ∨ q = (ig3, oI3) ∨ q ∈ (rd3, inst dx3) :: led3 ∨ q ∈ (rd2, inst dx2) :: led2 := lb_10 q hq
    rcases hq' with h | rfl | h | h
    · exact Nat.ne_of_lt (b3 q h)
    · exact Nat.ne_of_gt (d1 (ig2, oI2) (by simp))
    · exact d2 (ig2, oI2) (by simp) _ D2 q h
    · exact Nat.ne_of_lt (b1 q h).1
  have k3 : ∀ q ∈ (rd3, inst dx3) :: (led3 ++ [(L + 1 + 1 + 1 + 1 + 1, o5), (L + 1 + 1 + 1 + 1, o4), (L + 1 + 1 + 1, o3), (L + 1 + 1, o2), (L + 1, o1)]), q.1 ≠ ig3 := by
    intro q hq
    exact Nat.ne_of_lt (d1 q (lb_11 q hq))
  refine n_one Z (by k_asm) (nsub (by assumption) lb_3) R1 D1 g1 k1 (dle hdp) (dle hun) (by rfl) (by decide) ?_
  intro h4 tk4 t4 F4 N4
  clear a1 b1 b2 b3 d1 d2 k1 H1 D1 R1 g1
  dsimp only
  k_steps
  change wpAny _ _ _ _ _ _
  refine n_path Z (by k_asm) (nsub (by assumption) lb_4) R2 D2 g2 k2 (dle hdp) (dle hun) (by rfl) (by decide) ?_
  intro h5 tk5 t5 oI5 F5 N5 D5
  clear D2 N4 F4
  replace N5 := nsub N5 lb_5
  dsimp only
  k_steps
  change wpAny _ _ _ _ _ _
  refine n_path Z (by k_asm) (nsub (by assumption) lb_4) R2 D5 g2 k2 (dle hdp) (dle hun) (by rfl) (by decide) ?_
  intro h6 tk6 t6 oI6 F6 N6 D6
  clear D5 N5 F5
  replace N6 := nsub N6 lb_5
  dsimp only
  k_steps
  change wpAny _ _ _ _ _ _
  refine n_none Z (by k_asm) (nsub (by assumption) lb_4) R2 D6 g2 k2 (dle hdp) (dle hun) (by rfl) (by decide) ?_
  intro h7 tk7 t7 oI7 F7 N7 D7
  replace N7 := nsub N7 lb_6
  replace N7 := nsub N7 lb_7
  clear D6 N6 F6 D7 k2 H2 R2 g2
  dsimp only
  k_steps
  change wpAny _ _ _ _ _ _
  refine n_far1 Z (by k_asm) (nsub (by assumption) lb_7') R3 D3 g3 k3 (dle hdp) (dle hun) (by rfl) (by decide) ?_
  intro h8 tk8 t8 oI8 F8 N8 D8
  replace N8 := nsub N8 lb_7
  clear D3 N7 F7
  dsimp only
  k_steps
  change wpAny _ _ _ _ _ _
  refine n_far2 Z (by k_asm) (nsub (by assumption) lb_7') R3 D8 g3 k3 (dle hdp) (dle hun) (by rfl) (by decide) ?_
  intro h9 tk9 t9 oI9 F9 N9 D9
  replace N9 := nsub N9 lb_8
  clear D8 N8 F8 D9 k3 H3 R3 g3
  dsimp only
  k_steps
  change wpAny _ _ _ _ _ _
  refine rising_call (R := [(L + 1 + 1 + 1 + 1 + 1, o5), (L + 1 + 1 + 1 + 1, o4), (L + 1 + 1 + 1, o3), (L + 1 + 1, o2), (L + 1, o1)]) Z (by k_asm) (nsub (by assumption) lb_12) (dle hdp) (dle hun) ?_
  intro h10 tk10 Dr ys10 n10 F10 N10 O10 hys
  k_sweep
  dsimp only
  k_steps
  unfold Halt
  k_dflt (refine LCg.ListComp_U (F₀ := by k_asm) (by with_unfolding_all rfl) (by decide) (by rfl) (by decide) (by rfl) ?_)
  k_steps
  unfold Halt
  refine LCg.CompSrc.range (n := 18) rfl (by k_asm) (by k_asm) (by assumption) (by decide) (by decide) (by decide) ?_
  intro g1
  dsimp only
  refine compRest_ind (fun i zs n' => n' = (Dr, listOf ys10.toArray n10) :: [(L + 1 + 1 + 1 + 1 + 1, o5), (L + 1 + 1 + 1 + 1, o4), (L + 1 + 1 + 1, o3), (L + 1 + 1, o2), (L + 1, o1)] ∧ IntsAre zs ((List.range i).map fun j : Nat => (j : Int) + 1)) ⟨rfl, .nil⟩ ?_ ?_
  · rintro i zs n' hi ⟨rfl, hzs⟩ v I oI2 C oC Dc m₂ h7 tk7 E' ⟨tv, hv7⟩ hC hx7 F7 N7 off ne
    subst hv7
    k_steps
    unfold Halt
    refine LCg.CompEnd.intro F7 N7 _ (fun p hp => hp) off trivial ⟨rfl, ?_⟩
    rw [List.range_succ, List.map_append, Int.add_comm]
    exact intsAre_snoc hzs
  rintro zs n' ⟨rfl, hzs⟩ Dz h11 tk11 F11 N11 off11
  dsimp only
  k_steps
  change wpAny _ _ _ _ _ _
  rename_i Hp hh1 hl1 hx1 hh2 FF NN
  have hHp : @LT.lt Nat _ (L + 1 + 1 + 1 + 1 + 1) Hp := hl1 (L + 1 + 1 + 1 + 1 + 1, o5) (by simp)
  refine mk_new (R := (Hp, listOf #[] 0) :: [(L + 1 + 1 + 1 + 1 + 1, o5), (L + 1 + 1 + 1 + 1, o4), (L + 1 + 1 + 1, o3), (L + 1 + 1, o2), (L + 1, o1)]) Z FF (nsub NN lb_13) (dle hdp) (dle hun) ?_
  intro rd dx ig led oI h11 tk11 F11 N12 DI hI hig b1 b2 b3
  clear NN FF hl1 hx1
  replace N12 := nsub N12 (lb_14 (l := led))
  have HD := hI.hasD
  have hig1 : @LT.lt Nat _ Hp ig := b3 (Hp, listOf #[] 0) (List.mem_cons_self ..)
  have hrd1 : @LT.lt Nat _ rd ig := (b1 (rd, inst dx) (List.mem_cons_self ..)).1
  have hrd2 : @LT.lt Nat _ Hp rd := (b1 (rd, inst dx) (List.mem_cons_self ..)).2 (Hp, listOf #[] 0) (List.mem_cons_self ..)
  have hled : ∀ q ∈ led, @LT.lt Nat _ Hp q.1 ∧ @LT.lt Nat _ q.1 ig := fun q hq => ⟨(b1 q (List.mem_cons_of_mem _ hq)).2 (Hp, listOf #[] 0) (List.mem_cons_self ..), (b1 q (List.mem_cons_of_mem _ hq)).1⟩
  clear b1 b3
  have hc1 : ∀ q ∈ led, q.1 ≠ L + 1 := fun q hq => by have := (hled q hq).1; exact show @Ne Nat q.1 _ by omega
  have hc2 : ∀ q ∈ led, q.1 ≠ L + 1 + 1 := fun q hq => by have := (hled q hq).1; exact show @Ne Nat q.1 _ by omega
  have hc3 : ∀ q ∈ led, q.1 ≠ L + 1 + 1 + 1 := fun q hq => by have := (hled q hq).1; exact show @Ne Nat q.1 _ by omega
  have hc4 : ∀ q ∈ led, q.1 ≠ L + 1 + 1 + 1 + 1 := fun q hq => by have := (hled q hq).1; exact show @Ne Nat q.1 _ by omega
  have hc5 : ∀ q ∈ led, q.1 ≠ L + 1 + 1 + 1 + 1 + 1 := fun q hq => by have := (hled q hq).1; exact show @Ne Nat q.1 _ by omega
  dsimp only
  k_steps
  rename_i hh15 oR eR tkA En hh14 lEn xEn hh13 oE eE tkB Go hh12 lGo xGo hh11 oG eG tkC Ba hh10 lBa xBa hh9 oB eB tkD To hh8 lTo xTo hh7 tkE Du hh6 lDu xDu hh5 FF NN
  obtain ⟨oK, eK, NN2⟩ : ∃ oK : Obj, oK.data = .cell none ∧ News s₁.heap L hh5 ((Du, listOf #[] 0) :: (To, listOf #[] 0) :: (Ba, listOf #[] 0) :: (Go, listOf #[] 0) :: (En, listOf #[] 0) :: (ig, oI) :: (Hp, listOf #[] 0) :: (rd, inst dx) :: (L + 1 + 1 + 1 + 1 + 1, oK) :: (L + 1 + 1 + 1 + 1, oB) :: (L + 1 + 1 + 1, oG) :: (L + 1 + 1, oE) :: (L + 1, oR) :: led) := ⟨o5, e5, NN⟩
  have hord : (@LT.lt Nat _ (L + 5) Hp ∧ @LT.lt Nat _ Hp rd ∧ @LT.lt Nat _ rd ig ∧ @LT.lt Nat _ ig En ∧ @LT.lt Nat _ En Go ∧ @LT.lt Nat _ Go Ba ∧ @LT.lt Nat _ Ba To ∧ @LT.lt Nat _ To Du) := ⟨hHp, hrd2, hrd1, xEn, xGo, xBa, xTo, xDu⟩
  clear xEn xGo xBa xTo xDu NN e1 e2 e3 e4 e5 hc1 hc2 hc3 hc4 hc5 lEn lGo lBa lTo lDu b2 hHp hig1 hrd1 hrd2
  unfold Halt
  (with_reducible rename Fr _ _ _ _ => lF')
  with_reducible refine For_invVF lF' ?h5 ?h6 ?h1 ?h2 ?h3
  case h5 => rfl
  case h6 => rfl
  case h2 => intro _; rfl
  case h3 => exact hPE
  k_steps
  unfold Halt
  rename_i It ws hIt FL NL lIt hxs xIt
  have hDI : @LT.lt Nat _ Du It := lIt (Du, listOf #[] 0) (by simp)
  clear lIt xIt
  have NL' := nsub NL li_in
  clear NL
  have hwl : ws.length = 13 + (List.take 6 ns).length := by rw [ints_len hxs]; simp only [List.length_append, List.length_cons, List.length_nil]; omega
  have hw6 : (List.take 6 ns).length ≤ 6 := by rw [List.length_take]; omega
  have hw19 : ws.length ≤ 19 := by omega
  have hchain := (⟨Nat.lt_succ_self _, Nat.lt_succ_self _, Nat.lt_succ_self _, Nat.lt_succ_self _, hord.1, hord.2.1, hord.2.2.1, hord.2.2.2.1, hord.2.2.2.2.1, hord.2.2.2.2.2.1, hord.2.2.2.2.2.2.1, hord.2.2.2.2.2.2.2, hDI⟩ : L + 1 < L + 1 + 1 ∧ L + 1 + 1 < L + 1 + 1 + 1 ∧ L + 1 + 1 + 1 < L + 1 + 1 + 1 + 1 ∧ L + 1 + 1 + 1 + 1 < L + 1 + 1 + 1 + 1 + 1 ∧ @LT.lt Nat _ (L + 1 + 1 + 1 + 1 + 1) Hp ∧ @LT.lt Nat _ Hp rd ∧ @LT.lt Nat _ rd ig ∧ @LT.lt Nat _ ig En ∧ @LT.lt Nat _ En Go ∧ @LT.lt Nat _ Go Ba ∧ @LT.lt Nat _ Ba To ∧ @LT.lt Nat _ To Du ∧ @LT.lt Nat _ Du It)
  obtain ⟨iHp, iTo, iDu, iEn, iGo, iBa, iig, icK, gcK, gTo, gDu, gEn, gGo, gBa⟩ := ords hchain
  obtain ⟨dHp, dTo, dDu, dEn, dGo, dBa, dig⟩ := dists hchain
  have FL1 := FL
  clear FL
  obtain ⟨m1, FL⟩ : ∃ m1 : Str → Option Value, Fr s₁.heap L _ (fun y => if y = Str.ofString "due" then some (.ref Du) else if y = Str.ofString "told" then some (.ref To) else if y = Str.ofString "heap" then some (.ref Hp) else m1 y) := ⟨_, FL1⟩
  clear FL1
  as_aux_lemma =>
  refine for_led [Str.ofString "j"] (LInv w Hp To Du En Go Ba ig (L + 1 + 1 + 1 + 1 + 1) rd dx It (L + 1 + 1 + 1 + 1) (L + 1 + 1 + 1) (L + 1 + 1) (L + 1) ws oB oG oE oR led) rfl (by k_mem) FL NL' ?hj ?turn ?done
  case hj => exact LInv.mk [] 0 [] 0 [] 0 [] 0 [] 0 [] 0 oI Dt0 oK [] [] [] [] [] rfl eK DI (by decide) dic0 ⟨rfl, fun i v h => by simp at h⟩ .nil .nil ⟨fun v hv => (nomatch hv), fun i hi hl => absurd hl (Nat.not_lt_zero _), .nil⟩ .nil .nil (Good.nil.mono (by omega)) (by simp) (by simp) (by simp) (by simp) (fun q hq => (nomatch hq)) (fun d hd => (nomatch hd))
  case turn =>
    clear FL NL' DI eK
    intro i v u nx h tk own hv ho hm hJ
    refine hJ _ ?_
    clear hJ
    rintro hs nH ts nT us nU es nE gs nG bs nB oI Dt oK X ks G Bk D rfl vK eK hT hDl hDic hE hG hB hH hts hus hgood hkl hD1 hG1 hB1 hX hok F1 N1
    refine hideX ?_
    intro Q2 hq2
    as_aux_lemma =>
    obtain ⟨x, tx, hx, rfl⟩ := ints_get hxs hv
    simp only [List.cons_append, List.append_assoc] at N1
    have hi : i < ws.length := by
      rcases Nat.lt_or_ge i ws.length with q | q
      · exact q
      · rw [List.getElem?_eq_none q] at hv; cases hv
    have tl : TailOk It own X := ⟨hX, fun p hp q hq => ho p hp q.1 (List.mem_map_of_mem (f := (·.1)) (tail14 q (List.mem_append_right _ hq)))⟩
    have mHp : MutOk led own It Hp := .lo hled (fun q hq => ho q hq Hp at1) (Nat.le_refl _) iHp
    have mTo : MutOk led own It To := .hi hled (fun q hq => ho q hq To at2) gTo iTo
    have mDu : MutOk led own It Du := .hi hled (fun q hq => ho q hq Du at3) gDu iDu
    have mEn : MutOk led own It En := .hi hled (fun q hq => ho q hq En at4) gEn iEn
    have mGo : MutOk led own It Go := .hi hled (fun q hq => ho q hq Go at5) gGo iGo
    have mBa : MutOk led own It Ba := .hi hled (fun q hq => ho q hq Ba at6) gBa iBa
    have mig : MutOk led own It ig := .hi hled (fun q hq => ho q hq ig at7) (Nat.le_refl _) iig
    have mcK : MutOk led own It (L + 1 + 1 + 1 + 1 + 1) := .lo hled (fun q hq => ho q hq (L + 1 + 1 + 1 + 1 + 1) at8) gcK icK
    have hi19 : i < 19 := Nat.lt_of_lt_of_le hi hw19
    have h30 : 30 * i ≤ 540 := Nat.mul_le_mul_left 30 (Nat.le_of_lt_succ hi19)
    have htl : ts.length < 100000 := by rw [hts.length]; exact Nat.lt_of_le_of_lt (Nat.le_trans hD1 h30) (by decide)
    have hul : us.length < 100000 := by rw [hus.length]; exact Nat.lt_of_le_of_lt (Nat.le_trans hD1 h30) (by decide)
    have hks : ks.length < 24 := Nat.lt_trans (Nat.lt_of_le_of_lt hkl hi19) (by decide)
    have tcK := mcK.tail tl
    k_steps
    · change wpAny _ _ _ _ _ _
      rename_i h3
      obtain ⟨rem, hSo, hP⟩ := sorted_exists (lyingK ks G ks.length)
      refine t_taken K0 KX T KX T rfl rfl rfl rfl (by k_asm) (nsub N1 ta_in) hI hT hig (by omega) hDic (fun q hq => off_Hp dHp (mHp.tail tl) q (ta_m1 q hq)) (fun q hq => off_ig (oHp := listOf hs.toArray nH) dig (mig.tail tl) q (ta_m2 q hq)) ta_r hH hSo hP hks (dle hdp) (dle hun) ?_
      intro h2 tk2 T1 hs' nH' oI' Dt' X1 row nR F2 N2 hT2 hDl2 hDic2 lt1 lt2 hH3 hrow
      replace N2 := nsub N2 ta_out
      have tl2 : TailOk It own ((T1, listOf row.toArray nR) :: X1 ++ X) := tl.add1 ⟨lt1 _ (ta_s _ at7), fun p hp => lt1 p (ta_s p (tail11 p (List.mem_append_right _ hp)))⟩ (fun q hq => ⟨lt2 q hq _ (ta_s _ at7), fun p hp => lt2 q hq p (ta_s p (tail11 p (List.mem_append_right _ hp)))⟩)
      clear lt1 lt2
      generalize hXa : ((T1, listOf row.toArray nR) :: X1 ++ X) = Xa at N2 tl2
      as_aux_lemma =>
      dsimp only
      k_steps
      change wpAny _ _ _ _ _ _
      refine app_n F2 (nsub N2 fr_To) (Upd.head (off_To dTo (mTo.tail tl2))) htl ?_
      intro h4 F4 N4
      replace N4 := nsub N4 un_To
      clear F2 N2
      dsimp only
      k_steps
      change wpAny _ _ _ _ _ _
      refine due_call (rem := rem) (f := fOf G Bk) Z (by k_asm) (nsub N4 du_in) (by rw [hE.1]; exact hks) (hE.mono ?sE) hG hB fOf_one hSo (by rw [hE.1]; exact hP) (dle hdp) (dle hun) ?_
      case sE => intro q hq; rw [← hXa]; simp [hq]
      intro h5 tk5 T2 X2 row2 nR2 F5 N5 lt3 lt4 hrow2
      replace N5 := nsub N5 du_out
      have tl5 : TailOk It own ((T2, listOf row2.toArray nR2) :: X2 ++ Xa) := tl2.add1 ⟨lt3 _ at10, fun p hp => lt3 p (tail14 p (in_own hp))⟩ (fun q hq => ⟨(lt4 q hq).1 _ at10, fun p hp => (lt4 q hq).1 p (tail14 p (in_own hp))⟩)
      clear lt3 lt4 F4 N4
      generalize hXb : ((T2, listOf row2.toArray nR2) :: X2 ++ Xa) = Xb at N5 tl5
      as_aux_lemma =>
      dsimp only
      k_steps
      change wpAny _ _ _ _ _ _
      refine app_n F5 (nsub N5 fr_Du) (Upd.head (off_Du dDu (mDu.tail tl5))) hul ?_
      intro h6 F6 N6
      replace N6 := nsub N6 un_Du
      clear F5 N5
      dsimp only
      k_steps
      change wpAny _ _ _ _ _ _
      k_dflt (refine LCt.ListComp_T (F₀ := by k_asm) (by with_unfolding_all rfl) (by decide) (by rfl) (by decide) (by rfl) ?_)
      k_steps
      unfold Halt
      have hrl : row2.length ≤ 30 := by
        rw [hrow2.length]
        have h1 := row_len (f := fOf G Bk) (rem := rem)
        have h2 := hP.length_eq
        have h3 := lying_len (ks := ks) (G := G) (n := ks.length)
        omega
      have hmT : (T2, listOf row2.toArray nR2) ∈ ((Hp, listOf hs'.toArray nH') :: (To, listOf (ts ++ [Value.ref T1]).toArray (nT + 1)) :: (Du, listOf (us ++ [Value.ref T2]).toArray (nU + 1)) :: (En, listOf es.toArray nE) :: (Go, listOf gs.toArray nG) :: (Ba, listOf bs.toArray nB) :: (ig, oI') :: (L + 1 + 1 + 1 + 1 + 1, oK) :: (rd, inst dx) :: (It, listOf ws.toArray 0) :: (L + 1 + 1 + 1 + 1, oB) :: (L + 1 + 1 + 1, oG) :: (L + 1 + 1, oE) :: (L + 1, oR) :: (led ++ (Xb ++ own))) := by rw [← hXb]; exact tail14 _ (List.mem_append_right _ (.head _))
      refine LCt.CompSrcT.ledger (its := row2.toArray) (k := nR2) rfl (by k_asm) N6 hmT (by simp [sizeLine]; omega) ?_
      intro g1
      dsimp only
      refine compRestT_ind (fun i ys n' => n' = ((Hp, listOf hs'.toArray nH') :: (To, listOf (ts ++ [Value.ref T1]).toArray (nT + 1)) :: (Du, listOf (us ++ [Value.ref T2]).toArray (nU + 1)) :: (En, listOf es.toArray nE) :: (Go, listOf gs.toArray nG) :: (Ba, listOf bs.toArray nB) :: (ig, oI') :: (L + 1 + 1 + 1 + 1 + 1, oK) :: (rd, inst dx) :: (It, listOf ws.toArray 0) :: (L + 1 + 1 + 1 + 1, oB) :: (L + 1 + 1 + 1, oG) :: (L + 1 + 1, oE) :: (L + 1, oR) :: (led ++ (Xb ++ own))) ∧ IntsAre ys (((rowOf (fOf G Bk) rem).take i).filterMap nOf)) ⟨rfl, .nil⟩ ?_ ?_
      · rintro i' ys n' hi' ⟨rfl, hys⟩ v I oI2 C oC Dc m₂ h7 tk7 E' hv7 hC hx7 F7 N7 off ne
        have hv' : row2[i']? = some v := by simpa using hv7
        obtain ⟨d, hd1, hd2⟩ := datAll_get hrow2 hv'
        have hnum := take_nums hd1
        rcases row_mem (List.mem_of_getElem? hd1) with rfl | ⟨k, c, rfl⟩
        · obtain ⟨t7, rfl⟩ := left_open hd2
          k_steps
          unfold Halt
          refine LCg.CompEnd.intro F7 N7 _ (fun p hp => hp) off (.inr ⟨_, hmT, rfl, _, rfl⟩) ⟨rfl, ?_⟩
          rw [hnum]
          simpa [nothingLeft, nOf] using hys
        · obtain ⟨a, n1, b, t1, t2, n2, tc, rfl, ha, hb⟩ := tri_open hd2
          have ha' : (a, tupOf [.ref b, .int c tc, .bool true] n1) ∈ led ++ (Xb ++ own) := by rw [← hXb]; simp [ha]
          have hb' : (b, tupOf [.int k.1 t1, .int k.2 t2] n2) ∈ led ++ (Xb ++ own) := by rw [← hXb]; simp [hb]
          have hd3 : DatIn _ (.ref a) (tri k c) := hd2.mono (fun q hq => show q ∈ (I, oI2) :: (C, oC) :: (Dc, LCg.lst ys) :: ((Hp, listOf hs'.toArray nH') :: (To, listOf (ts ++ [Value.ref T1]).toArray (nT + 1)) :: (Du, listOf (us ++ [Value.ref T2]).toArray (nU + 1)) :: (En, listOf es.toArray nE) :: (Go, listOf gs.toArray nG) :: (Ba, listOf bs.toArray nB) :: (ig, oI') :: (L + 1 + 1 + 1 + 1 + 1, oK) :: (rd, inst dx) :: (It, listOf ws.toArray 0) :: (L + 1 + 1 + 1 + 1, oB) :: (L + 1 + 1 + 1, oG) :: (L + 1 + 1, oE) :: (L + 1, oR) :: (led ++ (Xb ++ own))) by rw [← hXb]; simp [hq])
          k_steps
          unfold Halt
          refine LCg.CompEnd.intro F7 N7 _ (fun p hp => hp) off (.inr ⟨_, hmT, rfl, _, rfl⟩) ⟨rfl, ?_⟩
          rw [hnum]
          exact intsAre_snoc hys
      · rintro ys n' ⟨rfl, hys⟩ Dn h8 tk8 F8 N8 off8
        k_steps
        change wpAny _ _ _ _ _ _
        have hys' : IntsAre ys (gones (fOf G Bk) rem) := by
          have e : row2.toArray.size = (rowOf (fOf G Bk) rem).length := by rw [List.size_toArray, hrow2.length]
          rw [e, List.take_length, row_nums] at hys
          exact hys
        have hgl : (gones (fOf G Bk) rem).length ≤ 24 := by
          have h1 := gones_len (f := fOf G Bk) (rem := rem)
          have h2 := hP.length_eq
          have h3 := lying_len (ks := ks) (G := G) (n := ks.length)
          omega
        have hysl : ys.length ≤ 24 := by rw [ints_len hys']; exact hgl
        have hGD : @Ne Nat Dn Go := Ne.symm (off1_mem off8 (Go, listOf gs.toArray nG) (by simp))
        refine ext_n (n2 := ys.length) F8 (nsub N8 frD_Go) (List.mem_cons_self ..) (fun q hq => ?_) (by rw [ints_len hG]; omega) ?_
        · rcases List.mem_cons.mp hq with rfl | hq
          · exact hGD
          · exact off_Go dGo (mGo.tail tl5) q hq
        intro h9 nG' F9 N9
        replace N9 := nsub N9 unD_Go
        clear N8 F8
        dsimp only
        k_steps
        all_goals (try (with_reducible change Q2 _ _; subst hq2; (try dsimp only); (try k_steps)))
        unfold Halt
        have sXb : ∀ q ∈ X, q ∈ Xb := by rw [← hXb, ← hXa]; exact fun q hq => List.mem_append_right _ (List.mem_append_right _ hq)
        have sX1 : ∀ q ∈ X1 ++ X, q ∈ Xb := by rw [← hXb, ← hXa]; exact fun q hq => List.mem_append_right _ (.tail _ hq)
        have sX2 : ∀ q ∈ X2, q ∈ Xb := by rw [← hXb]; exact fun q hq => List.mem_append_left _ (.tail _ hq)
        have mT1 : (T1, listOf row.toArray nR) ∈ Xb := by rw [← hXb, ← hXa]; exact List.mem_append_right _ (.head _)
        have mT2 : (T2, listOf row2.toArray nR2) ∈ Xb := by rw [← hXb]; exact .head _
        have NXb := nsub N9 (can_X (X := Xb))
        refine InvEndG.intro (nx := ((Hp, listOf hs'.toArray nH') :: (To, listOf (ts ++ [Value.ref T1]).toArray (nT + 1)) :: (Du, listOf (us ++ [Value.ref T2]).toArray (nU + 1)) :: (En, listOf es.toArray nE) :: (Go, listOf (gs ++ ys).toArray nG') :: (Ba, listOf bs.toArray nB) :: (ig, oI') :: (L + 1 + 1 + 1 + 1 + 1, oK) :: (rd, inst dx) :: (It, listOf ws.toArray 0) :: (L + 1 + 1 + 1 + 1, oB) :: (L + 1 + 1 + 1, oG) :: (L + 1 + 1, oE) :: (L + 1, oR) :: (led ++ Xb))) (by assumption) N9 ⟨at10, ?_, LInv.mk hs' nH' (ts ++ [Value.ref T1]) (nT + 1) (us ++ [Value.ref T2]) (nU + 1) es nE (gs ++ ys) nG' bs nB oI' Dt' oK Xb ks (G ++ gones (fOf G Bk) rem) Bk (D ++ [.list (rowOf (fOf G Bk) rem)]) rfl eK hT2 (by omega) hDic2 (hE.mono sXb) (intsAre_app hG hys') hB (hH3.mono NXb sXb) ((hts.mono sXb).append (DatAll.one (.list mT1 (hrow.mono sX1)))) ((hus.mono sXb).append (DatAll.one (.list mT2 (hrow2.mono sX2)))) ((hgood.take hP).mono (by omega)) (by omega) (by rw [List.length_append, List.length_singleton]; omega) (by rw [List.length_append]; omega) (by omega) tl5.1 ?_⟩ (own_next ho tl5) end_in (fun q hq => tail14 q (in_own hq))
        · exact same_j
        · intro d hd
          rcases List.mem_append.mp hd with hd | hd
          · exact hok d hd
          · rw [List.mem_singleton.mp hd]; exact row_ok
    · rename_i h3 hhK oK2 FK NK eK2
      have hesl : es.length = ks.length := hE.1
      unfold Halt
      (with_reducible rename Fr _ _ _ _ => lF2)
      with_reducible refine For_invVF lF2 ?j5 ?j6 ?j1 ?j2 ?j3
      case j5 => rfl
      case j6 => rfl
      case j2 => intro _; rfl
      case j3 => exact hPE
      k_steps
      unfold Halt
      k_dflt (refine LCt.ListComp_T (F₀ := by k_asm) (by with_unfolding_all rfl) (by decide) (by rfl) (by decide) (by rfl) ?_)
      k_steps
      unfold Halt
      have hcK : ∃ c, c = (x.fdiv 4).fmod 3 := ⟨_, rfl⟩
      obtain ⟨c, hc⟩ := hcK
      rw [← hc] at eK2
      refine LCt.CompSrcT.range (n := es.length) rfl (by k_asm) (by k_asm) (by assumption) (range_small (by omega)) range_size (by simp [sizeLine]; omega) ?_
      intro g1
      dsimp only
      refine compRestT_ind (fun i ys n' => n' = ((Hp, listOf hs.toArray nH) :: (To, listOf ts.toArray nT) :: (Du, listOf us.toArray nU) :: (En, listOf es.toArray nE) :: (Go, listOf gs.toArray nG) :: (Ba, listOf bs.toArray nB) :: (ig, oI) :: (L + 1 + 1 + 1 + 1 + 1, oK2) :: (rd, inst dx) :: (It, listOf ws.toArray 0) :: (L + 1 + 1 + 1 + 1, oB) :: (L + 1 + 1 + 1, oG) :: (L + 1 + 1, oE) :: (L + 1, oR) :: (led ++ (X ++ own))) ∧ IntsAre ys (jsK ks c (G ++ Bk) i)) ⟨rfl, .nil⟩ ?_ ?_
      · rintro i' ys n' hi' ⟨rfl, hys⟩ v I oI2 C oC Dc m₂ h7 tk7 E' ⟨tv, hv7⟩ hC hx7 F7 N7 off ne
        rw [Int.zero_add] at hv7
        subst hv7
        obtain ⟨v, hv7⟩ : ∃ v, es[i']? = some v := ⟨es[i'], List.getElem?_eq_getElem hi'⟩
        obtain ⟨k, hk1, a, ta, ua, na, rfl, ham⟩ := hE.2 i' v hv7
        have ham' : (a, tupOf [Value.int k.1 ta, Value.int k.2 ua] na) ∈ led ++ (X ++ own) := in_X ham
        have hkA : kAt ks i' = k.1 := by unfold kAt; rw [List.getD_eq_getElem?_getD, hk1]; rfl
        k_steps
        · rename_i hkc D1 ws1 hh1 F1' N1' l1' hI1 x1' hin
          unfold Halt
          refine LCg.CompEnd.intro F1' N1' ((Hp, listOf hs.toArray nH) :: (To, listOf ts.toArray nT) :: (Du, listOf us.toArray nU) :: (En, listOf es.toArray nE) :: (Go, listOf gs.toArray nG) :: (Ba, listOf bs.toArray nB) :: (ig, oI) :: (L + 1 + 1 + 1 + 1 + 1, oK2) :: (rd, inst dx) :: (It, listOf ws.toArray 0) :: (L + 1 + 1 + 1 + 1, oB) :: (L + 1 + 1 + 1, oG) :: (L + 1 + 1, oE) :: (L + 1, oR) :: (led ++ (X ++ own))) (fun p hp => List.mem_cons_of_mem _ hp) off trivial ⟨rfl, ?_⟩
          show IntsAre ys (if kAt ks i' = c ∧ ¬ (i' : Int) ∈ G ++ Bk then _ else _)
          rw [if_neg (fun h => h.2 hin)]
          exact hys
        · rename_i hkc D1 ws1 hh1 F1' N1' l1' hI1 x1' hin
          unfold Halt
          refine LCg.CompEnd.intro F1' N1' ((Hp, listOf hs.toArray nH) :: (To, listOf ts.toArray nT) :: (Du, listOf us.toArray nU) :: (En, listOf es.toArray nE) :: (Go, listOf gs.toArray nG) :: (Ba, listOf bs.toArray nB) :: (ig, oI) :: (L + 1 + 1 + 1 + 1 + 1, oK2) :: (rd, inst dx) :: (It, listOf ws.toArray 0) :: (L + 1 + 1 + 1 + 1, oB) :: (L + 1 + 1 + 1, oG) :: (L + 1 + 1, oE) :: (L + 1, oR) :: (led ++ (X ++ own))) (fun p hp => List.mem_cons_of_mem _ hp) off trivial ⟨rfl, ?_⟩
          show IntsAre _ (if kAt ks i' = c ∧ ¬ (i' : Int) ∈ G ++ Bk then _ else _)
          rw [if_pos ⟨hkA.trans hkc, hin⟩]
          exact intsAre_snoc hys
        · rename_i hkc
          unfold Halt
          refine LCg.CompEnd.intro F7 N7 ((Hp, listOf hs.toArray nH) :: (To, listOf ts.toArray nT) :: (Du, listOf us.toArray nU) :: (En, listOf es.toArray nE) :: (Go, listOf gs.toArray nG) :: (Ba, listOf bs.toArray nB) :: (ig, oI) :: (L + 1 + 1 + 1 + 1 + 1, oK2) :: (rd, inst dx) :: (It, listOf ws.toArray 0) :: (L + 1 + 1 + 1 + 1, oB) :: (L + 1 + 1 + 1, oG) :: (L + 1 + 1, oE) :: (L + 1, oR) :: (led ++ (X ++ own))) (fun p hp => hp) off trivial ⟨rfl, ?_⟩
          show IntsAre ys (if kAt ks i' = c ∧ ¬ (i' : Int) ∈ G ++ Bk then _ else _)
          rw [if_neg (fun h => hkc (hkA.symm.trans h.1))]
          exact hys
      · rintro ys n' ⟨rfl, hys⟩ Dn h8 tk8 F8 N8 off8
        k_steps
        unfold Halt
        generalize hjs : jsK ks c (G ++ Bk) es.length = js at hys
        as_aux_lemma =>
        have hjm : ∀ a ∈ js, ∃ j : Nat, j < ks.length ∧ a = (j : Int) ∧ kAt ks j = c ∧ ¬ (j : Int) ∈ G ++ Bk := by
          intro a ha
          rw [← hjs, hesl] at ha
          exact js_mem.mp ha
        have hjn : js.Nodup := by rw [← hjs]; exact js_nodup
        have hjl : js.length ≤ 24 := by have := js_len (ks := ks) (c := c) (GB := G ++ Bk) (n := es.length); rw [hjs] at this; omega
        have oD := off1_mem off8
        have oX : ∀ q ∈ X, q.1 ≠ Dn := fun q hq => oD q (tail14 q (in_X hq))
        have tlD : TailOk It ((Dn, LCg.lst ys) :: own) X := tl.more1 oX
        refine for_led (vs := ys) (nn := ys.length) (news := ((Hp, listOf hs.toArray nH) :: (To, listOf ts.toArray nT) :: (Du, listOf us.toArray nU) :: (En, listOf es.toArray nE) :: (Go, listOf gs.toArray nG) :: (Ba, listOf bs.toArray nB) :: (ig, oI) :: (L + 1 + 1 + 1 + 1 + 1, oK2) :: (rd, inst dx) :: (It, listOf ws.toArray 0) :: (L + 1 + 1 + 1 + 1, oB) :: (L + 1 + 1 + 1, oG) :: (L + 1 + 1, oE) :: (L + 1, oR) :: (led ++ (X ++ ((Dn, LCg.lst ys) :: own))))) [] (fun t nx => ∃ ts2 nT2 us2 nU2 bs2 nB2 oI2 Dt2 D2, nx = ((Hp, listOf hs.toArray nH) :: (To, listOf ts2.toArray nT2) :: (Du, listOf us2.toArray nU2) :: (En, listOf es.toArray nE) :: (Go, listOf gs.toArray nG) :: (Ba, listOf bs2.toArray nB2) :: (ig, oI2) :: (L + 1 + 1 + 1 + 1 + 1, oK2) :: (rd, inst dx) :: (It, listOf ws.toArray 0) :: (L + 1 + 1 + 1 + 1, oB) :: (L + 1 + 1 + 1, oG) :: (L + 1 + 1, oE) :: (L + 1, oR) :: (led ++ (X ++ ((Dn, LCg.lst ys) :: own)))) ∧ Tab w oI2 Dt2 ∧ Dt2.length ≤ Dt.length + t ∧ Dic Dt2 (fOf G (Bk ++ js.take t)) ∧ IntsAre bs2 (Bk ++ js.take t) ∧ DatAll X ts2 D2 ∧ DatAll X us2 D2 ∧ D2.length = D.length + t ∧ ∀ d ∈ D2, datOk 8 d = true) rfl (tail14 _ (in_own (.head _))) F8 (nsub N8 inD) ?jj ?jturn ?jdone
        case jj => exact ⟨ts, nT, us, nU, bs, nB, oI, Dt, D, rfl, hT, by omega, by simpa using hDic, by simpa using hB, hts, hus, by omega, hok⟩
        case jturn =>
          rintro t v u2 nx h9 tk9 own2 hv9 ho2 hm2 ⟨ts2, nT2, us2, nU2, bs2, nB2, oI2, Dt2, D2, rfl, hT2, hDl2, hDic2, hB2, hts2, hus2, hD2, hok2⟩ F9 N9
          obtain ⟨a, tj, ha, rfl⟩ := ints_get hys hv9
          obtain ⟨j, hj1, rfl, hj3, hj4⟩ := hjm a (List.mem_of_getElem? ha)
          obtain ⟨st1, st2⟩ := js_step hjn ha
          have htl : t < js.length := by
            rcases Nat.lt_or_ge t js.length with q | q
            · exact q
            · rw [List.getElem?_eq_none q] at ha; cases ha
          have hlive : Live G (Bk ++ js.take t) j := by
            refine ⟨fun h => hj4 (by simp [h]), fun h => ?_⟩
            rcases List.mem_append.mp h with h | h
            · exact hj4 (by simp [h])
            · exact st1 h
          simp only [List.cons_append, List.append_assoc] at N9
          have tl9 : TailOk It ((Dn, LCg.lst ys) :: (own ++ own2)) X := tl.more oX (fun p hp q hq => ho2 p hp q.1 (List.mem_map_of_mem (f := (·.1)) (tail14 q (in_X hq))))
          have nTo : MutOk led ((Dn, LCg.lst ys) :: (own ++ own2)) It To := mTo.more (Ne.symm (oD _ at2)) (fun q hq => ho2 q hq To at2)
          have nDu : MutOk led ((Dn, LCg.lst ys) :: (own ++ own2)) It Du := mDu.more (Ne.symm (oD _ at3)) (fun q hq => ho2 q hq Du at3)
          have nBa : MutOk led ((Dn, LCg.lst ys) :: (own ++ own2)) It Ba := mBa.more (Ne.symm (oD _ at6)) (fun q hq => ho2 q hq Ba at6)
          have nig : MutOk led ((Dn, LCg.lst ys) :: (own ++ own2)) It ig := mig.more (Ne.symm (oD _ at7)) (fun q hq => ho2 q hq ig at7)
          have hDb : D2.length < 100000 := by omega
          refine hideX ?_
          intro Q3 hq3
          as_aux_lemma =>
          k_steps
          change wpAny _ _ _ _ _ _
          refine name_call Z (by k_asm) (by k_asm) (by omega) (dle hdp) (dle hun) ?_
          intro h10 tk10 tn F10 N10
          clear N9 F9
          dsimp only
          k_steps
          change wpAny _ _ _ _ _ _
          refine n_none Z (by k_asm) (nsub N10 na_in) hI hT2 hig (fun q hq => off_ig dig (nig.tail tl9) q (na_m q hq)) (dle hdp) (dle hun) (by rw [hDic2 j (by omega), fOf_live hlive]; rfl) (by omega) ?_
          intro h11 tk11 t11 oI3 F11 N11 hT3
          replace N11 := nsub N11 na_out
          clear N10 F10
          dsimp only
          k_steps
          change wpAny _ _ _ _ _ _
          refine app_n F11 (nsub N11 fr_To) (Upd.head (off_To dTo (nTo.tail tl9))) (by rw [hts2.length]; exact hDb) ?_
          intro h12 F12 N12
          replace N12 := nsub N12 un_To
          clear N11 F11
          dsimp only
          k_steps
          change wpAny _ _ _ _ _ _
          refine app_n F12 (nsub N12 fr_Du) (Upd.head (off_Du dDu (nDu.tail tl9))) (by rw [hus2.length]; exact hDb) ?_
          intro h13 F13 N13
          replace N13 := nsub N13 un_Du
          clear N12 F12
          dsimp only
          k_steps
          change wpAny _ _ _ _ _ _
          refine app_n F13 (nsub N13 fr_Ba) (Upd.head (off_Ba dBa (nBa.tail tl9))) (by rw [ints_len hB2, List.length_append, List.length_take]; omega) ?_
          intro h14 F14 N14
          replace N14 := nsub N14 un_Ba
          clear N13 F13
          dsimp only
          k_steps
          all_goals (try (with_reducible change Q3 _ _; subst hq3; (try dsimp only); (try k_steps)))
          unfold Halt
          obtain ⟨tq, N15⟩ : ∃ tq, News s₁.heap L h14 ((Hp, listOf hs.toArray nH) :: (To, listOf (ts2 ++ [Value.int 1 t11]).toArray (nT2 + 1)) :: (Du, listOf (us2 ++ [Value.int 1 tq]).toArray (nU2 + 1)) :: (En, listOf es.toArray nE) :: (Go, listOf gs.toArray nG) :: (Ba, listOf (bs2 ++ [Value.int (j : Int) tj]).toArray (nB2 + 1)) :: (ig, oI3) :: (L + 1 + 1 + 1 + 1 + 1, oK2) :: (rd, inst dx) :: (It, listOf ws.toArray 0) :: (L + 1 + 1 + 1 + 1, oB) :: (L + 1 + 1 + 1, oG) :: (L + 1 + 1, oE) :: (L + 1, oR) :: (led ++ (X ++ ((Dn, LCg.lst ys) :: (own ++ own2))))) := ⟨_, N14⟩
          refine InvEndG.intro (nx := ((Hp, listOf hs.toArray nH) :: (To, listOf (ts2 ++ [Value.int 1 t11]).toArray (nT2 + 1)) :: (Du, listOf (us2 ++ [Value.int 1 tq]).toArray (nU2 + 1)) :: (En, listOf es.toArray nE) :: (Go, listOf gs.toArray nG) :: (Ba, listOf (bs2 ++ [Value.int (j : Int) tj]).toArray (nB2 + 1)) :: (ig, oI3) :: (L + 1 + 1 + 1 + 1 + 1, oK2) :: (rd, inst dx) :: (It, listOf ws.toArray 0) :: (L + 1 + 1 + 1 + 1, oB) :: (L + 1 + 1 + 1, oG) :: (L + 1 + 1, oE) :: (L + 1, oR) :: (led ++ (X ++ ((Dn, LCg.lst ys) :: own))))) (by assumption) N15 ⟨tail14 _ (in_own (.head _)), ?_, ts2 ++ [Value.int 1 t11], nT2 + 1, us2 ++ [Value.int 1 tq], nU2 + 1, bs2 ++ [Value.int (j : Int) tj], nB2 + 1, oI3, _, D2 ++ [.int 1], rfl, hT3, ?_, ?_, ?_, hts2.append (DatAll.one (.int _ _)), hus2.append (DatAll.one (.int _ _)), by rw [List.length_append, List.length_singleton]; omega, ?_⟩ ho2 end2 (fun q hq => tail14 q (in_own (.tail _ (List.mem_append_right _ hq))))
          · exact same_j
          · exact Nat.le_trans (putD_length_le ..) (by omega)
          · rw [st2, ← List.append_assoc]
            exact (hDic2.put (by omega) (fOf_live hlive)).congr fun i _ => upd_back i
          · rw [st2, ← List.append_assoc]
            exact intsAre_snoc hB2
          · intro d hd
            rcases List.mem_append.mp hd with hd | hd
            · exact hok2 d hd
            · rw [List.mem_singleton.mp hd]; rfl
        case jdone =>
          rintro u2 nx h9 tk9 ⟨ts2, nT2, us2, nU2, bs2, nB2, oI2, Dt2, D2, rfl, hT2, hDl2, hDic2, hB2, hts2, hus2, hD2, hok2⟩ F9 N9
          have ejs : js.take ys.length = js := by rw [ints_len hys, List.take_length]
          rw [ejs] at hDic2 hB2
          have hyl : ys.length ≤ 24 := by rw [ints_len hys]; exact hjl
          have hlast : i + 1 ≤ ws.length - 4 := by
            rcases Nat.lt_or_ge i (ws.length - 4) with q | q
            · exact q
            · exfalso
              have e3 := last_three hx (by simp only [List.length_append, List.length_cons, List.length_nil]; omega)
              subst e3
              exact h3 (by decide)
          have hg3 : Good ks G (Bk ++ js) 3 := (hgood.mono (by omega)).backs (fun a ha => let ⟨j, h1, h2, _⟩ := hjm a ha; ⟨j, h2, h1⟩)
          have hnl : ∀ j < ks.length, Live G (Bk ++ js) j → kAt ks j ≠ c := by
            intro j hj hl e
            refine hl.2 (List.mem_append.mpr (.inr ?_))
            rw [← hjs, hesl]
            exact js_mem.mpr ⟨j, hj, rfl, e, fun h => (List.mem_append.mp h).elim hl.1 (fun h => hl.2 (by simp [h]))⟩
          have nHp : MutOk led ((Dn, LCg.lst ys) :: own) It Hp := mHp.more1 (Ne.symm (oD _ at1))
          have nTo : MutOk led ((Dn, LCg.lst ys) :: own) It To := mTo.more1 (Ne.symm (oD _ at2))
          have nDu : MutOk led ((Dn, LCg.lst ys) :: own) It Du := mDu.more1 (Ne.symm (oD _ at3))
          have nEn : MutOk led ((Dn, LCg.lst ys) :: own) It En := mEn.more1 (Ne.symm (oD _ at4))
          have hDb : D2.length < 100000 := by omega
          as_aux_lemma =>
          k_steps
          all_goals (try (with_reducible change Q2 _ _; subst hq2; (try dsimp only); (try k_steps)))
          · rename_i Tp hh5 F5 N5 l5 x5
            unfold Halt
            have l6 : ∀ p ∈ led ++ (X ++ ((Dn, LCg.lst ys) :: own)), @LT.lt Nat _ p.1 Tp := fun p hp => l5 p (tail14 p hp)
            have hIT : @LT.lt Nat _ It Tp := l5 _ at10
            clear l5 x5
            obtain ⟨ta, tb, N6⟩ : ∃ ta tb, News s₁.heap L hh5 ((Tp, tupOf [Value.int (x.fdiv 12) ta, Value.int (es.length : Int) tb] 0) :: ((Hp, listOf hs.toArray nH) :: (To, listOf ts2.toArray nT2) :: (Du, listOf us2.toArray nU2) :: (En, listOf es.toArray nE) :: (Go, listOf gs.toArray nG) :: (Ba, listOf bs2.toArray nB2) :: (ig, oI2) :: (L + 1 + 1 + 1 + 1 + 1, oK2) :: (rd, inst dx) :: (It, listOf ws.toArray 0) :: (L + 1 + 1 + 1 + 1, oB) :: (L + 1 + 1 + 1, oG) :: (L + 1 + 1, oE) :: (L + 1, oR) :: (led ++ (X ++ ((Dn, LCg.lst ys) :: own))))) := ⟨_, _, N5⟩
            replace F5 : Fr s₁.heap L hh5 _ := F5
            clear N5
            have tl5 : TailOk It ((Dn, LCg.lst ys) :: own) ((Tp, tupOf [Value.int (x.fdiv 12) ta, Value.int (es.length : Int) tb] 0) :: X) := tlD.one ⟨hIT, fun p hp => l6 p (in_own hp)⟩
            replace N6 := nsub N6 new_in
            generalize hXp : ((Tp, tupOf [Value.int (x.fdiv 12) ta, Value.int (es.length : Int) tb] 0) :: X) = Xp at N6 tl5
            as_aux_lemma =>
            have sXp : ∀ q ∈ X, q ∈ Xp := by rw [← hXp]; exact fun q hq => .tail _ hq
            have NXp := nsub N6 can_X
            have pT : PairAt Xp (Value.ref Tp) (x.fdiv 12, (ks.length : Int)) := ⟨Tp, ta, tb, 0, rfl, by rw [← hXp, ← hesl]; exact .head _⟩
            have hHp2 := hH.mono NXp sXp
            have hpush := heap_push (k := (c, x.fdiv 12)) hHp2 NXp pT hg3
            have hvl : hs.length < 900 := by rw [hH.len]; have := lying_len (ks := ks) (G := G) (n := ks.length); omega
            refine heappush_call (S := fun v => ∃ k, PairAt Xp v k) (key := pairKey Xp) Z F5 N6 (dle hdp) (dle hun) (off_Hp dHp (nHp.tail tl5)) hvl ((cmp_pairs Xp).sub (fun q hq => tail13 q (in_X hq))) hHp2.1 ⟨_, pT⟩ ?_
            intro h6 tk6 F6 N7
            clear N6 F5 l6
            dsimp only
            k_steps
            change wpAny _ _ _ _ _ _
            refine app_n F6 (nsub N7 fr_To) (Upd.head (off_To dTo (nTo.tail tl5))) (by rw [hts2.length]; exact hDb) ?_
            intro h7 F7 N8
            replace N8 := nsub N8 un_To
            clear N7 F6
            dsimp only
            k_steps
            change wpAny _ _ _ _ _ _
            refine app_n F7 (nsub N8 fr_Du) (Upd.head (off_Du dDu (nDu.tail tl5))) (by rw [hus2.length]; exact hDb) ?_
            intro h8' F8 N9'
            replace N9' := nsub N9' un_Du
            clear N8 F7
            dsimp only
            k_steps
            change wpAny _ _ _ _ _ _
            rename_i Tq hh6 F10 N10 l10 x10
            have l11 : ∀ p ∈ led ++ (Xp ++ ((Dn, LCg.lst ys) :: own)), @LT.lt Nat _ p.1 Tq := fun p hp => l10 p (tail14 p hp)
            have hIq : @LT.lt Nat _ It Tq := l10 _ at10
            clear l10 x10
            obtain ⟨tc, td, N11⟩ : ∃ tc td, News s₁.heap L hh6 ((Tq, tupOf [Value.int c tc, Value.int (x.fdiv 12) td] 0) :: ((Hp, listOf (sdL (pairKey Xp) (Value.ref Tp) (hs ++ [Value.ref Tp]) hs.length).toArray (nH + 1)) :: (To, listOf (ts2 ++ [Value.none]).toArray (nT2 + 1)) :: (Du, listOf (us2 ++ [Value.none]).toArray (nU2 + 1)) :: (En, listOf es.toArray nE) :: (Go, listOf gs.toArray nG) :: (Ba, listOf bs2.toArray nB2) :: (ig, oI2) :: (L + 1 + 1 + 1 + 1 + 1, oK2) :: (rd, inst dx) :: (It, listOf ws.toArray 0) :: (L + 1 + 1 + 1 + 1, oB) :: (L + 1 + 1 + 1, oG) :: (L + 1 + 1, oE) :: (L + 1, oR) :: (led ++ (Xp ++ ((Dn, LCg.lst ys) :: own))))) := ⟨_, _, N10⟩
            replace F10 : Fr s₁.heap L hh6 _ := F10
            clear N10
            have tl6 : TailOk It ((Dn, LCg.lst ys) :: own) ((Tq, tupOf [Value.int c tc, Value.int (x.fdiv 12) td] 0) :: Xp) := tl5.one ⟨hIq, fun p hp => l11 p (in_own hp)⟩
            replace N11 := nsub N11 new_in
            generalize hXq : ((Tq, tupOf [Value.int c tc, Value.int (x.fdiv 12) td] 0) :: Xp) = Xq at N11 tl6
            as_aux_lemma =>
            have sXq : ∀ q ∈ Xp, q ∈ Xq := by rw [← hXq]; exact fun q hq => .tail _ hq
            have pE : PairAt Xq (Value.ref Tq) (c, x.fdiv 12) := ⟨Tq, tc, td, 0, rfl, by rw [← hXq]; exact .head _⟩
            refine app_n F10 (nsub N11 fr_En) (Upd.head (off_En dEn (nEn.tail tl6))) (by omega) ?_
            intro h12 F12 N12
            replace N12 := nsub N12 un_En
            clear N11 F10 l11
            dsimp only
            k_steps
            all_goals (try (with_reducible change Q2 _ _; subst hq2; (try dsimp only); (try k_steps)))
            unfold Halt
            have NXq := nsub N12 (can_X (X := Xq))
            have sX2 : ∀ q ∈ X, q ∈ Xq := fun q hq => sXq q (sXp q hq)
            have tlo : TailOk It own Xq := ⟨tl6.1, fun p hp => tl6.2 p (List.mem_cons_of_mem _ hp)⟩
            refine InvEndG.intro (nx := ((Hp, listOf (sdL (pairKey Xp) (Value.ref Tp) (hs ++ [Value.ref Tp]) hs.length).toArray (nH + 1)) :: (To, listOf (ts2 ++ [Value.none]).toArray (nT2 + 1)) :: (Du, listOf (us2 ++ [Value.none]).toArray (nU2 + 1)) :: (En, listOf (es ++ [Value.ref Tq]).toArray (nE + 1)) :: (Go, listOf gs.toArray nG) :: (Ba, listOf bs2.toArray nB2) :: (ig, oI2) :: (L + 1 + 1 + 1 + 1 + 1, oK2) :: (rd, inst dx) :: (It, listOf ws.toArray 0) :: (L + 1 + 1 + 1 + 1, oB) :: (L + 1 + 1 + 1, oG) :: (L + 1 + 1, oE) :: (L + 1, oR) :: (led ++ Xq))) (by assumption) N12 ⟨at10, ?_, LInv.mk _ _ _ _ _ _ _ _ gs nG bs2 nB2 oI2 Dt2 oK2 Xq (ks ++ [(c, x.fdiv 12)]) G (Bk ++ js) (D2 ++ [.none]) rfl eK2 hT2 (by omega) hDic2 ((hE.mono sX2).push pE) hG hB2 (hpush.mono NXq sXq) ((hts2.mono sX2).append (DatAll.one .none)) ((hus2.mono sX2).append (DatAll.one .none)) ((hg3.push (k := (c, x.fdiv 12)) (by rw [hc]; exact key_small _) hnl).mono (by omega)) (by rw [List.length_append, List.length_singleton]; omega) (by rw [List.length_append, List.length_singleton]; omega) (by omega) (by rw [List.length_append]; omega) tl6.1 ?_⟩ (own_next ho tlo) end_in (fun q hq => tail14 q (in_own (.tail _ hq)))
            · exact same_jj
            · intro d hd
              rcases List.mem_append.mp hd with hd | hd
              · exact hok2 d hd
              · rw [List.mem_singleton.mp hd]; rfl
          · unfold Halt
            refine InvEndG.intro (nx := ((Hp, listOf hs.toArray nH) :: (To, listOf ts2.toArray nT2) :: (Du, listOf us2.toArray nU2) :: (En, listOf es.toArray nE) :: (Go, listOf gs.toArray nG) :: (Ba, listOf bs2.toArray nB2) :: (ig, oI2) :: (L + 1 + 1 + 1 + 1 + 1, oK2) :: (rd, inst dx) :: (It, listOf ws.toArray 0) :: (L + 1 + 1 + 1 + 1, oB) :: (L + 1 + 1 + 1, oG) :: (L + 1 + 1, oE) :: (L + 1, oR) :: (led ++ X))) (by assumption) N9 ⟨at10, ?_, LInv.mk hs nH ts2 nT2 us2 nU2 es nE gs nG bs2 nB2 oI2 Dt2 oK2 X ks G (Bk ++ js) D2 rfl eK2 hT2 (by omega) hDic2 hE hG hB2 hH hts2 hus2 (hg3.mono (by omega)) (by omega) (by omega) (by omega) (by rw [List.length_append]; omega) tl.1 hok2⟩ (own_next ho tl) end_in (fun q hq => tail14 q (in_own (.tail _ hq)))
            exact same_jj
  case done =>
    clear FL NL' DI eK
    intro u nx h tk hJ
    refine hJ _ ?_
    clear hJ
    rintro hs nH ts nT us nU es nE gs nG bs nB oI Dt oK X ks G Bk D rfl vK eK hT hDl hDic hE hG hB hH hts hus hgood hkl hD1 hG1 hB1 hX hok F1 N1
    as_aux_lemma =>
    have hc0 : Good ks G Bk 0 := hgood.mono (by omega)
    have hesl : es.length = ks.length := hE.1
    have hks : ks.length < 24 := by omega
    replace N1 : News s₁.heap L h ((Hp, listOf hs.toArray nH) :: (To, listOf ts.toArray nT) :: (Du, listOf us.toArray nU) :: (En, listOf es.toArray nE) :: (Go, listOf gs.toArray nG) :: (Ba, listOf bs.toArray nB) :: (ig, oI) :: (L + 1 + 1 + 1 + 1 + 1, oK) :: (rd, inst dx) :: (It, listOf ws.toArray 0) :: (L + 1 + 1 + 1 + 1, oB) :: (L + 1 + 1 + 1, oG) :: (L + 1 + 1, oE) :: (L + 1, oR) :: (led ++ (X ++ []))) := by rw [List.append_nil]; exact N1
    replace F1 : Fr s₁.heap L h _ := F1
    k_steps
    unfold Halt
    k_dflt (refine LCg.ListComp_U (F₀ := by k_asm) (by with_unfolding_all rfl) (by decide) (by rfl) (by decide) (by rfl) ?_)
    k_steps
    unfold Halt
    refine LCg.CompSrc.range (n := es.length) rfl (by k_asm) (by k_asm) (by assumption) (range_small (by omega)) range_size (by simp [sizeLine]; omega) ?_
    intro g1
    dsimp only
    refine compRest_ind (fun i ys n' => n' = ((Hp, listOf hs.toArray nH) :: (To, listOf ts.toArray nT) :: (Du, listOf us.toArray nU) :: (En, listOf es.toArray nE) :: (Go, listOf gs.toArray nG) :: (Ba, listOf bs.toArray nB) :: (ig, oI) :: (L + 1 + 1 + 1 + 1 + 1, oK) :: (rd, inst dx) :: (It, listOf ws.toArray 0) :: (L + 1 + 1 + 1 + 1, oB) :: (L + 1 + 1 + 1, oG) :: (L + 1 + 1, oE) :: (L + 1, oR) :: (led ++ (X ++ []))) ∧ IntsAre ys ((List.range i).map fun j : Nat => if (j : Int) ∈ Bk then (1 : Int) else 0)) ⟨rfl, .nil⟩ ?_ ?_
    · rintro i ys n' hi ⟨rfl, hys⟩ v I oI2 C oC Dc m₂ h7 tk7 E' ⟨tv, hv7⟩ hC hx7 F7 N7 off ne
      rw [Int.zero_add] at hv7
      subst hv7
      have oM := LCg.Off3.mem off
      have tl0 : TailOk It [(I, oI2), (C, oC), (Dc, LCg.lst ys)] X := by
        refine ⟨hX, fun p hp q hq => ?_⟩
        have o := oM q (tail14 q (in_X hq))
        simp only [List.mem_cons, List.not_mem_nil, or_false] at hp
        rcases hp with rfl | rfl | rfl
        · exact Ne.symm o.1
        · exact Ne.symm o.2.1
        · exact Ne.symm o.2.2
      have mig0 : MutOk led [(I, oI2), (C, oC), (Dc, LCg.lst ys)] It ig := by
        refine .hi hled (fun p hp => ?_) (Nat.le_refl _) iig
        have o := oM (ig, oI) at7
        simp only [List.mem_cons, List.not_mem_nil, or_false] at hp
        rcases hp with rfl | rfl | rfl
        · exact Ne.symm o.1
        · exact Ne.symm o.2.1
        · exact Ne.symm o.2.2
      k_steps
      change wpAny _ _ _ _ _ _
      refine name_call Z (by k_asm) (by k_asm) (by omega) (dle hdp) (dle hun) ?_
      intro h8 tk8 tn F8 N8
      clear N7 F7
      dsimp only
      k_steps
      change wpAny _ _ _ _ _ _
      refine n_found (i := if (i : Int) ∈ Bk then (1 : Int) else 0) Z (by k_asm) (nsub (nsub N8 inD3) na_in) hI hT hig (fun q hq => off_ig dig (mig0.tail tl0) q (na_m q hq)) (dle hdp) (dle hun) (by rw [hDic i (by omega), fOf_dead (hc0.dead (by omega))]; rfl) ?_
      intro h9 tk9 t9 F9 N9
      replace N9 := nsub (nsub N9 na_out) outD3
      clear N8 F8
      k_steps
      unfold Halt
      refine LCg.CompEnd.intro (by assumption) N9 _ (fun p hp => hp) off trivial ⟨rfl, ?_⟩
      rw [List.range_succ, List.map_append]
      exact intsAre_snoc hys
    · rintro ys n' ⟨rfl, hys⟩ Dn h8 tk8 F8 N8 off8
      have oD := off1_mem off8
      have tl1 : TailOk It [(Dn, LCg.lst ys)] X := ⟨hX, fun p hp q hq => by rw [List.mem_singleton.mp hp]; exact Ne.symm (oD q (tail14 q (in_X hq)))⟩
      have mTo1 : MutOk led [(Dn, LCg.lst ys)] It To := .hi hled (fun p hp => by rw [List.mem_singleton.mp hp]; exact Ne.symm (oD _ at2)) gTo iTo
      have mDu1 : @Ne Nat Dn Du := Ne.symm (oD _ at3)
      replace N8 := nsub N8 inD
      dsimp only
      k_steps
      change wpAny _ _ _ _ _ _
      refine app_n (by assumption) (nsub N8 fr_To) (Upd.head (off_To dTo (mTo1.tail tl1))) (by rw [hts.length]; omega) ?_
      intro h9 F9 N9
      replace N9 := nsub N9 un_To
      clear N8
      dsimp only
      k_steps
      unfold Halt
      k_dflt (refine LCg.ListComp_U (F₀ := by k_asm) (by with_unfolding_all rfl) (by decide) (by rfl) (by decide) (by rfl) ?_)
      k_steps
      unfold Halt
      refine LCg.CompSrc.range (n := es.length) rfl (by k_asm) (by k_asm) (by assumption) (range_small (by omega)) range_size (by simp [sizeLine]; omega) ?_
      intro g2
      dsimp only
      refine compRest_ind (fun i zs n' => n' = ((Hp, listOf hs.toArray nH) :: (To, listOf (ts ++ [Value.ref Dn]).toArray (nT + 1)) :: (Du, listOf us.toArray nU) :: (En, listOf es.toArray nE) :: (Go, listOf gs.toArray nG) :: (Ba, listOf bs.toArray nB) :: (ig, oI) :: (L + 1 + 1 + 1 + 1 + 1, oK) :: (rd, inst dx) :: (It, listOf ws.toArray 0) :: (L + 1 + 1 + 1 + 1, oB) :: (L + 1 + 1 + 1, oG) :: (L + 1 + 1, oE) :: (L + 1, oR) :: (led ++ (X ++ [(Dn, LCg.lst ys)]))) ∧ IntsAre zs ((List.range i).map fun j : Nat => if (j : Int) ∈ Bk then (1 : Int) else 0)) ⟨rfl, .nil⟩ ?_ ?_
      · rintro i zs n' hi ⟨rfl, hzs⟩ v I oI2 C oC Dc m₂ h7 tk7 E' ⟨tv, hv7⟩ hC hx7 F7 N7 off ne
        rw [Int.zero_add] at hv7
        subst hv7
        by_cases hb : (i : Int) ∈ Bk
        · k_steps
          · unfold Halt
            refine LCg.CompEnd.intro F7 N7 _ (fun p hp => hp) off trivial ⟨rfl, ?_⟩
            rw [List.range_succ, List.map_append, List.map_singleton, if_pos hb]
            exact intsAre_snoc hzs
          all_goals exact absurd hb (by assumption)
        · k_steps
          all_goals (try exact absurd (by assumption) hb)
          unfold Halt
          refine LCg.CompEnd.intro F7 N7 _ (fun p hp => hp) off trivial ⟨rfl, ?_⟩
          rw [List.range_succ, List.map_append, List.map_singleton, if_neg hb]
          exact intsAre_snoc hzs
      · rintro zs n' ⟨rfl, hzs⟩ Dz h10 tk10 F10 N10 off10
        have oZ := off1_mem off10
        have tl2 : TailOk It [(Dz, LCg.lst zs), (Dn, LCg.lst ys)] X := by
          refine ⟨hX, fun p hp q hq => ?_⟩
          simp only [List.mem_cons, List.not_mem_nil, or_false] at hp
          rcases hp with rfl | rfl
          · exact Ne.symm (oZ q (tail14 q (in_X hq)))
          · exact Ne.symm (oD q (tail14 q (in_X hq)))
        have mDu2 : MutOk led [(Dz, LCg.lst zs), (Dn, LCg.lst ys)] It Du := by
          refine .hi hled (fun p hp => ?_) gDu iDu
          simp only [List.mem_cons, List.not_mem_nil, or_false] at hp
          rcases hp with rfl | rfl
          · exact Ne.symm (oZ _ at3)
          · exact mDu1
        replace N10 := nsub N10 inD
        dsimp only
        k_steps
        change wpAny _ _ _ _ _ _
        refine app_n (by assumption) (nsub N10 fr_Du) (Upd.head (off_Du dDu (mDu2.tail tl2))) (by rw [hus.length]; omega) ?_
        intro h11 F11 N11
        replace N11 := nsub N11 un_Du
        clear N10
        dsimp only
        k_steps
        change wpAny _ _ _ _ _ _
        refine eq_same (D := D ++ [.list (((List.range es.length).map fun j : Nat => if (j : Int) ∈ Bk then (1 : Int) else 0).map Dat.int)]) N11 (a := To) (b := Du) (xs := ts ++ [Value.ref Dn]) (ys := us ++ [Value.ref Dz]) (ka := nT + 1) (kb := nU + 1) at2 at3 ?da ?db ?dok (dle hun) ?_
        case da => exact (hts.mono (fun q hq => tail14 q (in_X hq))).append (DatAll.one (.list (vs := ys) (n := ys.length) (tail14 _ (in_own (.tail _ (.head _)))) (ints_dat hys)))
        case db => exact (hus.mono (fun q hq => tail14 q (in_X hq))).append (DatAll.one (.list (vs := zs) (n := zs.length) (tail14 _ (in_own (.head _))) (ints_dat hzs)))
        case dok =>
          intro d hd
          rcases List.mem_append.mp hd with hd | hd
          · exact hok d hd
          · rw [List.mem_singleton.mp hd]; exact ints_ok _
        k_steps
        (try dsimp only)
        subst hqk
        (try dsimp only)
        exact goodW_bool (by assumption) (by assumption) (fun _ => end_raises) end_post
  )
end
end Mine
end PartLawF
theorem PySem.Challenge.cw_oh0014_01_holds : PySem.Challenge.rw_oh0014_01.Holds :=
  Mine.X
