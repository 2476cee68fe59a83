import PyProof.Rows.All
import Wide.All
import OpenK.AllK
import Wide.FinOn
import PyProof.GenRules
import PyProof.GenObj
import PyProof.GenQ
import PySem.Challenge.RW_pe0063_01
open PySem PySem.W PySem.Calls PyProof.Rows
set_option Elab.async false
set_option maxRecDepth 100000
set_option linter.all false
namespace Mine
set_option maxRecDepth 100000 in
set_option maxHeartbeats 8000000 in
open_top hd for PySem.Challenge.rw_pe0063_01
theorem filled : PySem.Challenge.rw_pe0063_01 = PySem.Challenge.rw_pe0063_01 ∧ hd.heap_39 = hd.heap_39 := by k_fill; exact ⟨rfl, rfl⟩
section SBase63
theorem rst_Base63 : True := by w_top off; trivial
theorem all0 {α : Type} {P : α → Prop} : ∀ q ∈ ([] : List α), P q := fun _ h => nomatch h
theorem all1 {α : Type} {P : α → Prop} {a : α} {l : List α} (h : P a) (t : ∀ q ∈ l, P q) : ∀ q ∈ a :: l, P q := List.forall_mem_cons.mpr ⟨h, t⟩
theorem o1 {a : Nat} : a ≠ a + 1 := Nat.ne_of_lt (Nat.lt_add_of_pos_right (by decide))
theorem p1 {a : Nat} : a + 1 ≠ a := Nat.ne_of_gt (Nat.lt_add_of_pos_right (by decide))
theorem o2 {a : Nat} : a ≠ a + 2 := Nat.ne_of_lt (Nat.lt_add_of_pos_right (by decide))
theorem p2 {a : Nat} : a + 2 ≠ a := Nat.ne_of_gt (Nat.lt_add_of_pos_right (by decide))
theorem o3 {a : Nat} : a ≠ a + 3 := Nat.ne_of_lt (Nat.lt_add_of_pos_right (by decide))
theorem p3 {a : Nat} : a + 3 ≠ a := Nat.ne_of_gt (Nat.lt_add_of_pos_right (by decide))
theorem o4 {a : Nat} : a ≠ a + 4 := Nat.ne_of_lt (Nat.lt_add_of_pos_right (by decide))
theorem p4 {a : Nat} : a + 4 ≠ a := Nat.ne_of_gt (Nat.lt_add_of_pos_right (by decide))
theorem o5 {a : Nat} : a ≠ a + 5 := Nat.ne_of_lt (Nat.lt_add_of_pos_right (by decide))
theorem p5 {a : Nat} : a + 5 ≠ a := Nat.ne_of_gt (Nat.lt_add_of_pos_right (by decide))
theorem r0 {a k n : Nat} (h : a + k < n) : a < n := Nat.lt_of_le_of_lt (Nat.le_add_right a k) h
theorem r1 {a i k n : Nat} (h : a + k < n) (e : Nat.ble i k = true) : a + i < n := Nat.lt_of_le_of_lt (Nat.add_le_add_left (Nat.le_of_ble_eq_true e) a) h
theorem r2 {a i j k n : Nat} (h : a + k < n) (e : Nat.ble (i + j) k = true) : a + i + j < n := (Nat.add_assoc a i j).symm ▸ r1 h e
theorem n1 {x n m : Nat} (h : x ≤ n) (e : Nat.ble n m = true) : x ≤ m := Nat.le_trans h (Nat.le_of_ble_eq_true e)
theorem n2 {x n m : Nat} (h : x ≤ n) (e : Nat.ble (n + 1) m = true) : x < m := Nat.lt_of_le_of_lt h (Nat.le_of_ble_eq_true e)
theorem n3 {x n m : Nat} (h : x < n) (e : Nat.ble n (m + 1) = true) : x ≤ m := Nat.le_of_lt_succ (Nat.lt_of_lt_of_le h (Nat.le_of_ble_eq_true e))
theorem n4 {x n m : Nat} (h : x < n) (e : Nat.ble n m = true) : x < m := Nat.lt_of_lt_of_le h (Nat.le_of_ble_eq_true e)
theorem c0 {i : Nat} : (0 : Int) ≤ (i : Int) := Int.natCast_nonneg i
theorem c1 {i n : Nat} {m : Int} (h : i < n) (e : decide ((n : Int) ≤ m + 1) = true) : (i : Int) ≤ m := by have := of_decide_eq_true e; omega
theorem c2 {i n : Nat} {m : Int} (h : i < n) (e : decide ((n : Int) ≤ m) = true) : (i : Int) < m := by have := of_decide_eq_true e; omega
theorem c3 {i n : Nat} {m : Int} (h : i ≤ n) (e : decide ((n : Int) ≤ m) = true) : (i : Int) ≤ m := by have := of_decide_eq_true e; omega
theorem c4 {i n : Nat} {m : Int} (h : i ≤ n) (e : decide ((n : Int) < m) = true) : (i : Int) < m := by have := of_decide_eq_true e; omega
theorem i1 {x lo hi c : Int} (h : lo ≤ x ∧ x ≤ hi) (e : decide (c < lo) = true) : c < x := Int.lt_of_lt_of_le (of_decide_eq_true e) h.1
theorem i2 {x lo hi c : Int} (h : lo ≤ x ∧ x ≤ hi) (e : decide (hi < c) = true) : x < c := Int.lt_of_le_of_lt h.2 (of_decide_eq_true e)
theorem i3 {x lo hi c k : Int} (h : lo ≤ x ∧ x ≤ hi) (e : decide (0 ≤ k ∧ c < k * lo) = true) : c < k * x := Int.lt_of_lt_of_le (of_decide_eq_true e).2 (Int.mul_le_mul_of_nonneg_left h.1 (of_decide_eq_true e).1)
theorem i4 {x lo hi c k : Int} (h : lo ≤ x ∧ x ≤ hi) (e : decide (0 ≤ k ∧ k * hi < c) = true) : k * x < c := Int.lt_of_le_of_lt (Int.mul_le_mul_of_nonneg_left h.2 (of_decide_eq_true e).1) (of_decide_eq_true e).2
theorem i5 {x lo hi c : Int} (h : lo ≤ x ∧ x ≤ hi) (e : decide (c < -hi) = true) : c < -x := Int.lt_of_lt_of_le (of_decide_eq_true e) (Int.neg_le_neg h.2)
theorem i6 {x lo hi c : Int} (h : lo ≤ x ∧ x ≤ hi) (e : decide (-lo < c) = true) : -x < c := Int.lt_of_le_of_lt (Int.neg_le_neg h.1) (of_decide_eq_true e)
theorem i7 {x lo hi c : Int} (h : lo ≤ x ∧ x ≤ hi) (e : decide (c ≤ lo) = true) : c ≤ x := Int.le_trans (of_decide_eq_true e) h.1
theorem i8 {x lo hi c : Int} (h : lo ≤ x ∧ x ≤ hi) (e : decide (hi ≤ c) = true) : x ≤ c := Int.le_trans h.2 (of_decide_eq_true e)
theorem q0 { x y : Prop} (H : x ∧ y) : x := H.1
theorem q1 {a x y : Prop} (H : a ∧ x ∧ y) : x := H.2.1
theorem z1 {a x : Prop} (H : a ∧ x) : x := H.2
theorem q2 {a b x y : Prop} (H : a ∧ b ∧ x ∧ y) : x := H.2.2.1
theorem z2 {a b x : Prop} (H : a ∧ b ∧ x) : x := H.2.2
theorem q3 {a b c x y : Prop} (H : a ∧ b ∧ c ∧ x ∧ y) : x := H.2.2.2.1
theorem z3 {a b c x : Prop} (H : a ∧ b ∧ c ∧ x) : x := H.2.2.2
theorem q4 {a b c d x y : Prop} (H : a ∧ b ∧ c ∧ d ∧ x ∧ y) : x := H.2.2.2.2.1
theorem z4 {a b c d x : Prop} (H : a ∧ b ∧ c ∧ d ∧ x) : x := H.2.2.2.2
theorem q5 {a b c d e x y : Prop} (H : a ∧ b ∧ c ∧ d ∧ e ∧ x ∧ y) : x := H.2.2.2.2.2.1
theorem z5 {a b c d e x : Prop} (H : a ∧ b ∧ c ∧ d ∧ e ∧ x) : x := H.2.2.2.2.2
theorem q6 {a b c d e f x y : Prop} (H : a ∧ b ∧ c ∧ d ∧ e ∧ f ∧ x ∧ y) : x := H.2.2.2.2.2.2.1
theorem z6 {a b c d e f x : Prop} (H : a ∧ b ∧ c ∧ d ∧ e ∧ f ∧ x) : x := H.2.2.2.2.2.2
theorem q7 {a b c d e f g x y : Prop} (H : a ∧ b ∧ c ∧ d ∧ e ∧ f ∧ g ∧ x ∧ y) : x := H.2.2.2.2.2.2.2.1
theorem z7 {a b c d e f g x : Prop} (H : a ∧ b ∧ c ∧ d ∧ e ∧ f ∧ g ∧ x) : x := H.2.2.2.2.2.2.2
theorem q8 {a b c d e f g h x y : Prop} (H : a ∧ b ∧ c ∧ d ∧ e ∧ f ∧ g ∧ h ∧ x ∧ y) : x := H.2.2.2.2.2.2.2.2.1
theorem z8 {a b c d e f g h x : Prop} (H : a ∧ b ∧ c ∧ d ∧ e ∧ f ∧ g ∧ h ∧ x) : x := H.2.2.2.2.2.2.2.2
/-- the goal under a name, so that taking a fact apart does not copy it -/
theorem hide {P : Prop} (h : ∀ G : Prop, (P → G) → G) : P := h P id
/-- what is wanted behind a step, under a name: the walk then carries the name alone -/
def Goes {α : Type} (Q Q' : α → Shared → Prop) : Prop := ∀ v s, Q v s → Q' v s
theorem Goes.at {α : Type} {Q Q' : α → Shared → Prop} {v : α} {s : Shared} (h : Goes Q Q') (x : Q v s) : Q' v s := h v s x
theorem Goes.same {α : Type} {Q : α → Shared → Prop} : Goes Q Q := fun _ _ h => h
theorem wp_abs {α : Type} {M : Model} {A : Around} {t : Sem α} {Q : α → Shared → Prop} {E : Value → Shared → Prop} {s : Shared} (h : ∀ Q' : α → Shared → Prop, Goes Q Q' → wpAny M A t Q' E s) : wpAny M A t Q E s := h Q .same
/-- what stands around a function's body, but for its own frame: one variable in the walk's terms -/
structure Ctx9 where
  dp : Nat
  un : Nat
  gd : Option (List Code)
  outer : List Env
abbrev base9 (x : Ctx9) : Around := { handled := none, depth := x.dp, frames := some x.outer, guards := x.gd, units := x.un }
theorem is9 {A : Around} {fr : List Env} (hh : A.handled = none) (hA : A.frames = some fr) : A = base9 ⟨A.depth, A.units, A.guards, fr⟩ := by
  obtain ⟨h, d, f, g, u⟩ := A
  subst hh hA
  rfl
theorem room9 {A : Around} {fr : List Env} (env : Env) (n : Nat) (h : A.depth + (n + 1) < recursionLimit) : ((base9 ⟨A.depth, A.units, A.guards, fr⟩).deeper env).depth + n < recursionLimit := by
  show A.depth + 1 + n < _
  rw [Nat.add_assoc, Nat.add_comm 1 n]
  exact h
theorem unit9 {A : Around} {fr : List Env} (env : Env) (n : Nat) (h : A.units + (n + 3) < cLine) : ((base9 ⟨A.depth, A.units, A.guards, fr⟩).deeper env).units + n < cLine := by
  show A.units + 3 + n < _
  rw [Nat.add_assoc, Nat.add_comm 3 n]
  exact h
theorem less9 {a m n c : Nat} (h : a + n < c) (hm : m ≤ n) : a + m < c := Nat.lt_of_le_of_lt (Nat.add_le_add_left hm a) h
theorem mem_at {α : Type} {l : List α} {q : α} (i : Nat) (h : l[i]? = some q) : q ∈ l := List.mem_of_getElem? h
theorem all_app {α : Type} {P : α → Prop} {l l' : List α} (h : ∀ q ∈ l, P q) (h' : ∀ q ∈ l', P q) : ∀ q ∈ l ++ l', P q := fun q hq => (List.mem_append.mp hq).elim (h q) (h' q)
/-- upward, a turn at a time -/
theorem up_ind {α : Type} {n : Nat} {R : Nat → Nat → α → Prop} {I : Nat → α → Prop} (h0 : ∀ a, I n a → R 0 n a) (h1 : ∀ k i a, i < n → I i a → (∀ a', I (i + 1) a' → R k (i + 1) a') → R (k + 1) i a) :
    ∀ k i a, i + k = n → I i a → R k i a
  | 0, i, a, hi, hI => by cases hi; exact h0 a hI
  | k + 1, i, a, hi, hI => h1 k i a (hi ▸ Nat.lt_add_of_pos_right (Nat.succ_pos k)) hI fun a' hI' => up_ind h0 h1 k (i + 1) a' ((Nat.add_right_comm i 1 k).trans hi) hI'
theorem down_lt {n i : Nat} (h : i < n) : n + 1 - (i + 1) < n + 1 - i := Nat.sub_lt_sub_left (Nat.lt_succ_of_lt h) (Nat.lt_succ_self i)
theorem sub_step {N n : Nat} (k : Nat) (h : n + 1 ≤ N) : N - n + k = N - (n + 1) + (k + 1) := by
  obtain ⟨d, rfl⟩ := Nat.exists_eq_add_of_le h
  rw [Nat.add_sub_cancel_left, Nat.add_assoc n 1 d, Nat.add_sub_cancel_left, Nat.add_comm 1 d, Nat.add_assoc, Nat.add_comm 1 k]
theorem nat4 : ∀ {j : Nat}, j < 4 → j = 0 ∨ j = 1 ∨ j = 2 ∨ j = 3
  | 0, _ => .inl rfl
  | 1, _ => .inr (.inl rfl)
  | 2, _ => .inr (.inr (.inl rfl))
  | 3, _ => .inr (.inr (.inr rfl))
  | _ + 4, h => absurd h (Nat.not_lt.mpr (Nat.le_add_left 4 _))
theorem int4 {k : Int} (h0 : 0 ≤ k) (h : k < 4) : k = 0 ∨ k = 1 ∨ k = 2 ∨ k = 3 := by
  obtain ⟨n, rfl⟩ := Int.eq_ofNat_of_zero_le h0
  rcases nat4 (Int.ofNat_lt.mp h) with rfl | rfl | rfl | rfl
  · exact .inl rfl
  · exact .inr (.inl rfl)
  · exact .inr (.inr (.inl rfl))
  · exact .inr (.inr (.inr rfl))
/-- a sum of marks told so far is any mark -/
theorem wp_tok {α : Type} {M : Model} {A : Around} {t : Sem α} {Q : α → Shared → Prop} {E : Value → Shared → Prop} {h : Heap} {g : Array GenState} {d : Drawn} {a b : Nat} {o : OsState}
    (H : ∀ n, wpAny M A t Q E (Shared.mk h g d n o)) : wpAny M A t Q E (Shared.mk h g d (a + b) o) := H _
theorem wp_absE {α : Type} {M : Model} {A : Around} {env : Env} {t : Sem α} {Q : α → Shared → Prop} {E : Value → Shared → Prop} {s : Shared} (hp : PassesOwn M A env E)
    (h : ∀ (Q' : α → Shared → Prop) (E' : Value → Shared → Prop), Goes Q Q' → Goes E E' → PassesOwn M A env E' → wpAny M A t Q' E' s) : wpAny M A t Q E s := h Q E .same .same hp
section
variable {prog : Program} {w : World} {A₀ A : Around} {s : Shared} {base h₀ : Heap} {outer : List Env} {L : Addr} {m mg mb : Str → Option Value} {env : Env} {K : Frag}
  {p : Program} {loose : List Str} {mean : ExcName → Option Value}
  {R : Result → Shared → Prop} {name qual : Str} {params : Arguments} {body : List Stmt} {scope : Scope} {dV kV doc pm cdv ct oc : Value} {an od : Option Addr} {osl : Array (Option Value)} {f : Addr} {args : Args} {binds : List (Str × Value)}
/-- a call of a def whose ground is the whole heap as it stands -/
theorem call_pure {sh : Heap} {sg : Array GenState} {sd : Drawn} {st : Nat} {so : OsState} (B : Below A₀ base outer h₀) (F : Fr h₀ L sh m) (X₀ : K.In h₀) (T : Top p loose mean mg mb h₀) (hA : A.frames = some (env :: outer)) (hh : A.handled = none) (hf : env.frame = some L) (hke : env.scope.kind = .function)
    (ho : K.lookup f = some ⟨oc, od, .func (fnOf name qual params body scope dV kV doc pm an cdv ct), osl⟩) (hcd : codeIn K cdv qual = true) (hroom : A.depth < recursionLimit)
    (hbind : BindsTo (Shared.mk sh sg sd st so) (fnOf name qual params body scope dV kV doc pm an cdv ct) args binds) (hloc : ∀ y ∈ binds, scope.names.lookup y.1 = some .local)
    (h : ∀ (x : Ctx9) L' h₁ tk, (∀ n, A.depth + (n + 1) < recursionLimit → ((base9 x).deeper (envOf qual scope L' f cdv)).depth + n < recursionLimit) → (∀ n, A.units + (n + 3) < cLine → ((base9 x).deeper (envOf qual scope L' f cdv)).units + n < cLine) → x.outer = env :: outer →
      Fr sh L' h₁ (fun y => binds.reverse.lookup y) → News sh L' h₁ [] → Below (base9 x) base x.outer sh → K.In sh → Top p loose mean mg mb sh →
      ∀ (Q' : Flow → Shared → Prop) (E' : Value → Shared → Prop), Goes (fun fl s' => R (.ok (.ret (match fl with | .ret v => v | _ => .none))) s') Q' →
      Goes (fun e s' => wpAny (model prog w) ((base9 x).deeper (envOf qual scope L' f cdv)) (leaving (envOf qual scope L' f cdv) e) (fun _ s'' => R (.error e) s'') (fun e' s'' => R (.error e') s'') s') E' →
      PassesOwn (model prog w) ((base9 x).deeper (envOf qual scope L' f cdv)) (envOf qual scope L' f cdv) E' →
      (∀ hd, PassesOwnAt (model prog w) (((base9 x).deeper (envOf qual scope L' f cdv)).mark hd) ((base9 x).deeper (envOf qual scope L' f cdv)) (envOf qual scope L' f cdv) E') →
      wpAny (model prog w) ((base9 x).deeper (envOf qual scope L' f cdv)) (execs body (envOf qual scope L' f cdv)) Q' E'
        (Shared.mk h₁ sg sd tk so))
    (hco : scope.isCoroutine = false) (hgen : scope.isGenerator = false) (hk : scope.kind = .function)
    (hcell : ∀ x ∈ scope.names, x.2 ≠ .cell) : codeAny (model prog w) A (.call (.ref f) args) R (Shared.mk sh sg sd st so) := by
  have X := X₀.keeps F.keep
  have T' := T.keeps F.keep
  have B₁ := pushX B F hf hke
  refine codeAny_call_def (fd := fnOf name qual params body scope dV kV doc pm an cdv ct) (body := body) (binds := binds) hroom (X _ _ ho) rfl T'.nolimit (codeRec_of X hcd) rfl hbind hcell hloc (fun h₁ hns hk₁ => ?_) hco hgen hk
  have e9 := is9 hh hA
  rw [e9]
  exact h _ _ h₁ _ (room9 _) (unit9 _) rfl ⟨hns, hk₁, Nat.le_refl _⟩ News.nil ⟨rfl, B₁.stays, B₁.frames⟩ X T' _ _ .same .same .leaving fun _ => .leaving
theorem call_pureC {sh : Heap} {sg : Array GenState} {sd : Drawn} {st : Nat} {so : OsState} (B : Below A₀ base outer h₀) (F : Fr h₀ L sh m) (X₀ : K.In h₀) (T : Top p loose mean mg mb h₀) (hA : A.frames = some (env :: outer)) (hh : A.handled = none) (hf : env.frame = some L) (hke : env.scope.kind = .function)
    (ho : K.lookup f = some ⟨oc, od, .func (fnOf name qual params body scope dV kV doc pm an cdv ct), osl⟩) (hcd : codeIn K cdv qual = true) (hroom : A.depth < recursionLimit)
    (hbind : BindsTo (Shared.mk sh sg sd st so) (fnOf name qual params body scope dV kV doc pm an cdv ct) args binds) (hkind : (binds.all fun y => scope.names.lookup y.1 == some .local || scope.names.lookup y.1 == some .cell) = true)
    (hnd : ((cellsFrom 0 scope.names []).map (·.1)).Nodup)
    (h : ∀ (x : Ctx9) L' h₁ tk cells, (∀ n, A.depth + (n + 1) < recursionLimit → ((base9 x).deeper (envOfC qual scope L' f cdv)).depth + n < recursionLimit) → (∀ n, A.units + (n + 3) < cLine → ((base9 x).deeper (envOfC qual scope L' f cdv)).units + n < cLine) → x.outer = env :: outer →
      Fr sh L' h₁ (bindL (envOfC qual scope L' f cdv).kindOf binds fun _ => none) → News sh L' h₁ cells →
      CellsAre (bindC (envOfC qual scope L' f cdv).kindOf binds fun _ => none) (cellsFrom (L' + 1) scope.names []) cells → Below (base9 x) base x.outer sh → K.In sh → Top p loose mean mg mb sh →
      ∀ (Q' : Flow → Shared → Prop) (E' : Value → Shared → Prop), Goes (fun fl s' => R (.ok (.ret (match fl with | .ret v => v | _ => .none))) s') Q' →
      Goes (fun e s' => wpAny (model prog w) ((base9 x).deeper (envOfC qual scope L' f cdv)) (leaving (envOfC qual scope L' f cdv) e) (fun _ s'' => R (.error e) s'') (fun e' s'' => R (.error e') s'') s') E' →
      PassesOwn (model prog w) ((base9 x).deeper (envOfC qual scope L' f cdv)) (envOfC qual scope L' f cdv) E' →
      wpAny (model prog w) ((base9 x).deeper (envOfC qual scope L' f cdv)) (execs body (envOfC qual scope L' f cdv)) Q' E'
        (Shared.mk h₁ sg sd tk so))
    (hco : scope.isCoroutine = false) (hgen : scope.isGenerator = false) (hk : scope.kind = .function) : codeAny (model prog w) A (.call (.ref f) args) R (Shared.mk sh sg sd st so) := by
  have X := X₀.keeps F.keep
  have T' := T.keeps F.keep
  have B₁ := pushX B F hf hke
  refine codeAny_call_function hroom (X _ _ ho) rfl hco hgen rfl (codeRec_of X hcd) (hbind _ _ _ _ ?_)
  refine wpAny_newFunctionEnv_cells hk (kindsX hkind _) fun env' he s' x => ?_
  subst he
  refine ⟨T'.nolimit.keeps x.toInCall.keep, codeAny_func ?_⟩
  obtain ⟨h₁, tk, rfl, _⟩ := x.done
  have hk₁ := x.toInCall.keep
  obtain ⟨cells, NC, Y⟩ := Cl.news (h₀ := sh) (Nat.le_refl _) fun n c hm => ⟨x.cell n c (lookup_of_mem_nodup (cellsFrom_names scope.names 0 (sh.objs.size + 1) [] [] rfl ▸ hnd) hm), x.above n c hm⟩
  have e9 := is9 hh hA
  rw [e9]
  exact h _ _ h₁ tk cells (room9 _) (unit9 _) rfl ⟨x.toInCall.ns, hk₁, Nat.le_refl _⟩ NC Y ⟨rfl, B₁.stays, B₁.frames⟩ X T' _ _ .same .same .leaving
end
end SBase63
theorem reg9 : True := by
  k_with "rel9" => (first | assumption | (refine' tabF ?tA ?tB; (case tB => assumption); (case tA => assumption)) | (refine' tabN ?tA ?tB ?tC ?tD; (case tA => assumption); (case tB => k_mem); (case tC => assumption); (case tD => assumption)))
  k_with "getMethod ref" => ((k_here; first | (refine' tab_method_values ?tT ?_; (case tT => k_extra "rel9")) | (refine' tab_method_items ?tT ?_; (case tT => k_extra "rel9")) | (refine' tab_method_get ?tT ?_; (case tT => k_extra "rel9"))))
  k_with "call builtin:dict.values" => ((k_here; with_unfolding_all refine' tab_valuesK ?tF ?tN ?tT ?_; (case tF => k_asm); (case tN => k_asm); (case tT => k_extra "rel9"); intro _ _ _ _ _))
  k_with "call builtin:dict.items" => ((k_here; with_unfolding_all refine' tab_itemsK ?tF ?tN ?tT ?_; (case tF => k_asm); (case tN => k_asm); (case tT => k_extra "rel9"); intro _ _ _ _ _))
  k_with "compareOp In int ref" => ((k_here; first | (with_unfolding_all refine' tab_in_yes ?tT ?tN ?_; (case tT => k_extra "rel9"); (case tN => assumption)) | (with_unfolding_all refine' tab_in_no ?tT ?tN ?_; (case tT => k_extra "rel9"); (case tN => assumption))))
  k_with "getItem ref int" => ((k_here; with_unfolding_all refine' tab_getItem ?tT ?tN ?_; (case tT => k_extra "rel9"); (case tN => assumption); intro _))
  k_with "setItem ref int" => ((k_here; with_unfolding_all refine' tab_set ?tF ?tN ?tU ?tT ?tZ ?_; (case tF => k_asm); (case tN => k_asm); (case tU => k_updF); (case tT => assumption); (case tZ => assumption); intro _ _ _ _ _))
  k_with "binaryOp Mult int int" => (first | (refine' mul_left ?b1 ?b2 ?_; (case b1 => omega); (case b2 => omega)) | (refine' mul_right ?b1 ?b2 ?_; (case b1 => omega); (case b2 => omega)))
  k_with "binaryOp Pow int int" => (first | (refine' pow_two ?b1 ?b2 ?_; (case b1 => omega); (case b2 => omega)) | (refine' pow_three ?b1 ?b2 ?_; (case b1 => omega); (case b2 => omega)))
  k_with "om8" => (first | decide | with_reducible assumption | (k_whole; ((with_reducible show @Ne Nat _ _); with_reducible first | exact o1 | exact p1 | exact o2 | exact p2 | exact o3 | exact p3 | exact o4 | exact p4 | exact o5 | exact p5 | k_extra "tb9" | (refine Ne.symm ?_; k_extra "tb9") | (refine Nat.ne_of_lt ?_; k_extra "tb9") | (refine Nat.ne_of_gt ?_; k_extra "tb9"))) | (k_whole; ((with_reducible show @LE.le Nat _ _ _); with_reducible first | exact n1 (by assumption) (by decide) | exact n3 (by assumption) (by decide))) | (k_whole; ((with_reducible show @LE.le Int _ _ _); with_reducible first | exact c0 | exact i7 (by assumption) (by decide) | exact i8 (by assumption) (by decide))) | (k_whole; ((with_reducible show @LT.lt Int _ _ _); with_reducible first | exact i1 (by assumption) (by decide) | exact i2 (by assumption) (by decide) | exact i3 (by assumption) (by decide) | exact i4 (by assumption) (by decide) | exact i5 (by assumption) (by decide) | exact i6 (by assumption) (by decide))) | (kjx_bare; omega (splitNatSub := true)) | ((fail_if_success (fail_if_success omega (splitNatSub := true))); law_clear; (repeat' ((with_reducible first | rename @LT.lt _ _ _ _ => h9 | rename @LE.le _ _ _ _ => h9 | rename And _ _ => h9 | rename @Ne _ _ _ => h9 | rename Not _ => h9 | rename @Eq _ _ _ => h9); first | (revert h9; kjx_bare; intro h9; omega (splitNatSub := true)) | clear h9)); done))
  k_with "tb9" => (with_reducible first | assumption | exact q0 (by assumption) | exact q1 (by assumption) | exact q2 (by assumption) | exact q3 (by assumption) | exact q4 (by assumption) | exact q5 (by assumption) | exact q6 (by assumption) | exact q7 (by assumption) | exact q8 (by assumption) | exact z1 (by assumption) | exact z2 (by assumption) | exact z3 (by assumption) | exact z4 (by assumption) | exact z5 (by assumption) | exact z6 (by assumption) | exact z7 (by assumption) | exact z8 (by assumption))
  k_with "om9" => ((k_whole; first | decide | with_reducible assumption | ((with_reducible show @Ne Nat _ _); with_reducible first | exact o1 | exact p1 | exact o2 | exact p2 | exact o3 | exact p3 | exact o4 | exact p4 | exact o5 | exact p5 | k_extra "tb9" | (refine Ne.symm ?_; k_extra "tb9") | (refine Nat.ne_of_lt ?_; k_extra "tb9") | (refine Nat.ne_of_gt ?_; k_extra "tb9")) | ((with_reducible show @LT.lt Nat _ _ _); with_reducible first | exact r0 (by assumption) | exact r1 (by assumption) (by decide) | exact r2 (by assumption) (by decide) | exact n2 (by assumption) (by decide) | exact n4 (by assumption) (by decide) | k_extra "tb9") | ((with_reducible show @LE.le Nat _ _ _); with_reducible first | exact n1 (by assumption) (by decide) | exact n3 (by assumption) (by decide)) | ((with_reducible show @LE.le Int _ _ _); with_reducible first | exact c0 | exact c1 (by assumption) (by decide) | exact c3 (by assumption) (by decide) | exact i7 (by assumption) (by decide) | exact i8 (by assumption) (by decide)) | ((with_reducible show @LT.lt Int _ _ _); with_reducible first | exact i1 (by assumption) (by decide) | exact i2 (by assumption) (by decide) | exact i3 (by assumption) (by decide) | exact i4 (by assumption) (by decide) | exact i5 (by assumption) (by decide) | exact i6 (by assumption) (by decide) | exact c2 (by assumption) (by decide) | exact c4 (by assumption) (by decide)) | (kjx_bare; omega (splitNatSub := true)) | ((fail_if_success (fail_if_success omega (splitNatSub := true))); law_clear; (repeat' ((with_reducible first | rename @LT.lt _ _ _ _ => h9 | rename @LE.le _ _ _ _ => h9 | rename And _ _ => h9 | rename @Ne _ _ _ => h9 | rename Not _ => h9 | rename @Eq _ _ _ => h9); first | (revert h9; kjx_bare; intro h9; omega (splitNatSub := true)) | clear h9)); done)))
  k_with "inst9" => ((refine' inst_ground ?F ?h1 ?h2; (case F => k_asm); (case h1 => k_asm); (case h2 => k_asm)))
  trivial
section Bare
local macro_rules | `(tactic| omega) => `(tactic| k_extra "om8")
section SLoop63
theorem rst_Loop63 : True := by w_top off; trivial
/-- what a turn of a loop must leave -/
def TurnPost (h₀ : Heap) (L I : Addr) (oi : Obj) (Jn : (Str → Option Value) → List (Addr × Obj) → Prop) (s : Shared) (Q : Flow → Shared → Prop) (fl : Flow) (s' : Shared) : Prop :=
  match fl with
  | .ret v => Q (.ret v) s'
  | .brk => Q .next s'
  | _ => ∃ h' tk m' news', s' = { s with heap := h', toks := tk } ∧ Fr h₀ L h' m' ∧ News h₀ L h' ((I, oi) :: news') ∧ (∀ p ∈ news', p.1 ≠ I) ∧ Jn m' news'
section
variable {prog : Program} {w : World} {A : Around} {E : Value → Shared → Prop} {s : Shared} {env : Env} {h₀ : Heap} {target : Expr} {body : List Stmt} {Q : Flow → Shared → Prop}
theorem turns_at {I : Addr} {fp : List Addr} {n : Nat} {P Md : Nat → Value → Heap → Prop} {St : Nat → Heap → Prop} {m : Str → Option Value} {news : List (Addr × Obj)}
    (W : KTurns prog w A target I fp [I] n P Md St) (hfp : ∀ b ∈ fp, b = I ∨ ∃ o, h₀.get? b = some o) (hI : h₀.get? I = none) (hIL : I ≠ env.locals)
    (hStI : ∀ i h, St i h → ∃ o, h.get? I = some o)
    (hst : St 0 s.heap) (F : Fr h₀ env.locals s.heap m) (N : News h₀ env.locals s.heap news) (hnw : ∀ p ∈ news, p.1 ≠ I)
    (J : Nat → (Str → Option Value) → List (Addr × Obj) → Prop) (h0 : J 0 m news)
    (turn : ∀ i v m₁ news₁ h₁ tk₁ oi, i < n → P i v h₁ → J i m₁ news₁ → (∀ p ∈ news₁, p.1 ≠ I) → Fr h₀ env.locals h₁ m₁ → News h₀ env.locals h₁ ((I, oi) :: news₁) →
      ∀ Q₁ : Flow → Shared → Prop, Goes (TurnPost h₀ env.locals I oi (J (i + 1)) s Q) Q₁ → wpAny (model prog w) A (assign target env v) (fun _ s₃ => wpAny (model prog w) A (execs body env) Q₁ E s₃) E { s with heap := h₁, toks := tk₁ })
    (done : ∀ m' news' h' tk, J n m' news' → Fr h₀ env.locals h' m' → News h₀ env.locals h' news' → Q .next { s with heap := h', toks := tk }) :
    TurnsAt prog w A h₀ env target body Q E (.ref I) s := by
  have hLf : env.locals ∉ fp := fun h => by
    rcases hfp _ h with e | ⟨o, e⟩
    · exact hIL e.symm
    · exact absurd (Nat.lt_of_lt_of_le (Heap.lt_size e) F.above) (Nat.lt_irrefl _)
  refine ⟨I, fp, [I], n, P, Md, St, m, news, J, rfl, W, hLf, ?_, ?_, hst, F, N, h0, ?_, ?_⟩
  · intro b hb; rw [List.mem_singleton.mp hb]; exact hI
  · intro p hp h; exact hnw p hp (List.mem_singleton.mp h)
  · intro i v m₁ news₁ h₁ tk₁ own hi hP hJ hw ho1 ho2 ho3 hst₁ F₁ N₁
    obtain ⟨oi, hoi⟩ := hStI _ _ hst₁
    have hIfp : I ∈ fp := W.sub _ (List.mem_singleton.mpr rfl)
    have hmem : (I, oi) ∈ own := ho3 I hIfp hI oi hoi
    have hall : ∀ q ∈ own, q = (I, oi) := fun q hq => by
      have hq1 := ho1 q hq
      have hn := (N₁ q (List.mem_append_left _ hq)).2.2
      rcases hfp _ hq1 with e | ⟨o, e⟩
      · have := ho2 q hq
        rw [e, hoi] at this
        obtain ⟨q1, q2⟩ := q
        simp only at e this
        rw [e, ← Option.some.inj this]
      · rw [e] at hn; cases hn
    refine wpAny_mono (turn i v m₁ news₁ h₁ tk₁ oi hi hP hJ (fun p hp e => hw p hp (List.mem_singleton.mpr e)) F₁ ?_ _ .same) (fun _ s₃ h₃ => wpAny_mono h₃ (fun fl s₄ h₄ => ?_) fun _ _ e => e) fun _ _ e => e
    · intro p hp
      rcases List.mem_cons.mp hp with rfl | hp
      · exact N₁ _ (List.mem_append_left _ hmem)
      · exact N₁ _ (List.mem_append_right _ hp)
    · have fin : (∃ h' tk m' news', s₄ = { s with heap := h', toks := tk } ∧ Fr h₀ env.locals h' m' ∧ News h₀ env.locals h' ((I, oi) :: news') ∧ (∀ p ∈ news', p.1 ≠ I) ∧ J (i + 1) m' news') →
          LoopStepU h₀ env.locals [I] own (J (i + 1)) { s with heap := h₁, toks := tk₁ } .next s₄ := by
        rintro ⟨h', tk, m', news', rfl, F', N', hn', hJ'⟩
        refine ⟨rfl, h', tk, m', news', rfl, F', ?_, fun p hp e => hn' p hp (List.mem_singleton.mp e), hJ'⟩
        intro p hp
        rcases List.mem_append.mp hp with hp | hp
        · rw [hall p hp]; exact N' _ (.head _)
        · exact N' _ (.tail _ hp)
      cases fl with
      | ret v => exact h₄
      | brk => exact h₄
      | cont => exact fin h₄
      | next => exact fin h₄
  · intro h' tk m' news' F' N' _ hJ
    exact done m' news' h' tk hJ F' N'
/-- a loop over a list of the ground -/
theorem iter_list {l : Addr} {items : Array Value} {m : Str → Option Value} {news : List (Addr × Obj)} (J : Nat → (Str → Option Value) → List (Addr × Obj) → Prop)
    (hh : A.handled = none) (hl : h₀.IsList l items) (F : Fr h₀ env.locals s.heap m) (N : News h₀ env.locals s.heap news) (h0 : J 0 m news)
    (turn : ∀ i v m₁ news₁ h₁ tk₁ I oi, items[i]? = some v → J i m₁ news₁ → (∀ p ∈ news₁, p.1 ≠ I) → Fr h₀ env.locals h₁ m₁ → News h₀ env.locals h₁ ((I, oi) :: news₁) →
      ∀ Q₁ : Flow → Shared → Prop, Goes (TurnPost h₀ env.locals I oi (J (i + 1)) s Q) Q₁ → wpAny (model prog w) A (assign target env v) (fun _ s₃ => wpAny (model prog w) A (execs body env) Q₁ E s₃) E { s with heap := h₁, toks := tk₁ })
    (done : ∀ m' news' h' tk, J items.size m' news' → Fr h₀ env.locals h' m' → News h₀ env.locals h' news' → Q .next { s with heap := h', toks := tk }) :
    wpAny (model prog w) A (pyIter (.ref l)) (fun it s₂ => TurnsAt prog w A h₀ env target body Q E it s₂) E s := by
  have hls : s.heap.IsList l items := hl.at fun o e => F.keep l o e
  obtain ⟨ol, hol, _⟩ := id hl
  have hlt : l < h₀.objs.size := Heap.lt_size hol
  have hne : l ≠ s.heap.objs.size := Nat.ne_of_lt (Nat.lt_trans (Nat.lt_of_lt_of_le hlt F.above) F.ns.lt)
  refine wpAny_pyIter_list hls ?_
  refine turns_at (KTurns.ofWalks (Walks.list hh s.heap.objs.size l hne items) fun i v s Q E st q => letGo_listiter st.1 q) ?_ (next_is_new F) (Nat.ne_of_gt F.ns.lt) ?_ ?_ (F.push _) (fun p hp => ⟨Heap.get?_push_of_some _ (N p hp).1, (N p hp).2⟩) (fun p hp => Nat.ne_of_lt (Heap.lt_size (N p hp).1)) J h0 ?_ ?_
  · intro b hb
    rcases List.mem_cons.mp hb with e | hb
    · exact .inl e
    · exact .inr ⟨ol, by rw [List.mem_singleton.mp hb]; exact hol⟩
  · rintro i h ⟨⟨oi, g, _⟩, _⟩
    exact ⟨oi, g⟩
  · exact ⟨⟨_, Heap.get?_push_size _ rfl, rfl, rfl⟩, hls.at fun o e => Heap.get?_push_of_some _ e⟩
  · intro i v m₁ news₁ h₁ tk₁ oi hi hP hJ hn F₁ N₁
    exact turn i v m₁ news₁ h₁ tk₁ _ oi hP hJ hn F₁ N₁
  · exact done
end
theorem fr_keep {g h h' : Heap} {L : Addr} {m : Str → Option Value} (F : Fr g L h m) (hk : ∀ b o, h.get? b = some o → h'.get? b = some o) : Fr g L h' m :=
  ⟨F.ns.at' fun o e => hk _ o e, fun b o e => hk b o (F.keep b o e), F.above⟩
theorem news_keep {g h h' : Heap} {L : Addr} {news : List (Addr × Obj)} (N : News g L h news) (hk : ∀ b o, h.get? b = some o → h'.get? b = some o) : News g L h' news :=
  fun p hp => ⟨hk _ _ (N p hp).1, (N p hp).2⟩
theorem none_of {g h : Heap} {L : Addr} {m : Str → Option Value} {d : Addr} (F : Fr g L h m) (hd : h.get? d = none) : g.get? d = none := by
  cases e : g.get? d with
  | none => rfl
  | some o => rw [F.keep _ _ e] at hd; cases hd
theorem news_add {g h h' : Heap} {L d : Addr} {m : Str → Option Value} {news : List (Addr × Obj)} {o : Obj} (F : Fr g L h m) (hd : h.get? d = none) (N : News g L h' news) (ho : h'.get? d = some o) : News g L h' ((d, o) :: news) := by
  intro p hp
  rcases List.mem_cons.mp hp with rfl | hp
  · refine ⟨ho, fun e => ?_, none_of F hd⟩
    obtain ⟨oL, _, _, hL, _⟩ := F.ns
    simp only at e
    rw [e, hL] at hd; cases hd
  · exact N p hp
section
variable {prog : Program} {w : World} {A : Around} {E : Value → Shared → Prop} {s : Shared} {a b : Int} {t u : Tok} {Q : Value → Shared → Prop}
theorem mul_left (h1 : -(2 ^ 64) < a) (h2 : a < 2 ^ 64) (h : Q (.int (a * b) s.toks) { s with toks := s.toks + 1 }) : wpAny (model prog w) A (binaryOp .Mult (.int a t) (.int b u)) Q E s :=
  PyProof.Rows.mul_int h (IntMulOk.of_left (intBits_le_64 h1 h2))
theorem mul_right (h1 : -(2 ^ 64) < b) (h2 : b < 2 ^ 64) (h : Q (.int (a * b) s.toks) { s with toks := s.toks + 1 }) : wpAny (model prog w) A (binaryOp .Mult (.int a t) (.int b u)) Q E s :=
  PyProof.Rows.mul_int h (IntMulOk.of_right (intBits_le_64 h1 h2))
theorem pow_two (h1 : -(2 ^ 63) < a) (h2 : a < 2 ^ 63) (h : Q (.int (a ^ 2) s.toks) { s with toks := s.toks + 1 }) : wpAny (model prog w) A (binaryOp .Pow (.int a t) (.int 2 u)) Q E s :=
  pow_int_small (by decide) (by decide) (by omega) h
theorem pow_three (h1 : -(2 ^ 63) < a) (h2 : a < 2 ^ 63) (h : Q (.int (a ^ 3) s.toks) { s with toks := s.toks + 1 }) : wpAny (model prog w) A (binaryOp .Pow (.int a t) (.int 3 u)) Q E s :=
  pow_int_small (by decide) (by decide) (by omega) h
end
theorem five_pow {z : Int} (h : -5 ≤ z ∧ z ≤ 5) : (0 ≤ z ^ 2 ∧ z ^ 2 ≤ 25) ∧ (-125 ≤ z ^ 3 ∧ z ^ 3 ≤ 125) := by
  obtain ⟨n, e⟩ := Int.eq_ofNat_of_zero_le (show 0 ≤ z + 5 by omega)
  have hn : n < 11 := by omega
  cases (show z = (n : Int) - 5 by omega)
  exact (show ∀ n : Fin 11, (0 ≤ ((n.1 : Int) - 5) ^ 2 ∧ ((n.1 : Int) - 5) ^ 2 ≤ 25) ∧ (-125 ≤ ((n.1 : Int) - 5) ^ 3 ∧ ((n.1 : Int) - 5) ^ 3 ≤ 125) by decide) ⟨n, hn⟩
/-- a goal that the walk leaves as it stands -/
def Wall (P : Prop) : Prop := P
theorem Wall.mk {P : Prop} (h : P) : Wall P := h
theorem Wall.out {P : Prop} (h : Wall P) : P := h
/-- names whose values are known -/
def Pins (m : Str → Option Value) : List (Str × Value) → Prop
  | [] => True
  | p :: r => m p.1 = some p.2 ∧ Pins m r
theorem pins_at {m : Str → Option Value} {z : Str} {v : Value} : ∀ {xs : List (Str × Value)}, Pins m xs → xs.lookup z = some v → m z = some v
  | [], _, h => by cases h
  | (x, u) :: r, hp, h => by
    rw [List.lookup_cons] at h
    cases e : z == x with
    | true => rw [e] at h; cases h; rw [eq_of_beq e]; exact hp.1
    | false => rw [e] at h; exact pins_at hp.2 h
theorem pin_fr {g h : Heap} {L : Addr} {m : Str → Option Value} {xs : List (Str × Value)} (F : Fr g L h m) (hx : Pins m xs) : Fr g L h (fun z => match xs.lookup z with | some v => some v | none => m z) := by
  have e : m = fun z => match xs.lookup z with | some v => some v | none => m z := by
    funext z
    cases hz : xs.lookup z with
    | none => rfl
    | some v => exact pins_at hx hz
  rw [← e]; exact F
end SLoop63
section SCmp63
theorem rst_Cmp63 : True := by w_top off; trivial
theorem inst_ground {g h : Heap} {L : Addr} {m : Str → Option Value} {x dx C : Addr} {od : Obj} (F : Fr g L h m) (h1 : g.get? x = some (instObj C dx)) (h2 : g.get? dx = some od) : InstAt h x (instObj C dx) C (some od) :=
  ⟨F.keep _ _ h1, rfl, rfl, F.keep _ _ h2⟩
local macro_rules | `(tactic| k_inst) => `(tactic| k_extra "inst9")
/-- the column of an entry -/
def col4 (c0 c1 c2 c3 : Int) (k : Int) : Int := if k = 0 then c0 else if k = 1 then c1 else if k = 2 then c2 else c3
/-- what compare tells -/
def cmpSide : List (Int × Int) → (Int → Int) → (Int → Int) → Int
  | [], _, _ => 0
  | (c, d) :: ks, l, r => if l c < r c then -d else if l c > r c then d else cmpSide ks l r
inductive EntryAt (h : Heap) (a : Addr) (c0 c1 c2 c3 : Int) (d : Addr) : Prop
  | mk (t0 t1 t2 t3 : Tok) : h.IsTuple a #[.int c0 t0, .int c1 t1, .int c2 t2, .int c3 t3, .ref d] → EntryAt h a c0 c1 c2 c3 d
def KeysAt (h : Heap) (kl : Addr) (ks : List (Int × Int)) : Prop :=
  ∃ vs : Array Value, h.IsList kl vs ∧ vs.size = ks.length ∧ ∀ (i : Nat) (v : Value), vs[i]? = some v → ∃ T c d t1 t2, ks[i]? = some (c, d) ∧ v = .ref T ∧ h.IsTuple T #[.int c t1, .int d t2]
def KeysOk (ks : List (Int × Int)) : Prop := ∀ k ∈ ks, 0 ≤ k.1 ∧ k.1 < 4
theorem cmpSide_append {l r : Int → Int} : ∀ {pre post : List (Int × Int)}, (∀ k ∈ pre, l k.1 = r k.1) → cmpSide (pre ++ post) l r = cmpSide post l r
  | [], _, _ => rfl
  | (c, d) :: pre, post, h => by
    have h1 := h (c, d) (.head _)
    simp only at h1
    show (if l c < r c then -d else if l c > r c then d else cmpSide (pre ++ post) l r) = _
    rw [if_neg (by omega), if_neg (by omega)]
    exact cmpSide_append fun k hk => h k (.tail _ hk)
section
variable {prog : Program} {w : World} {A : Around} {E : Value → Shared → Prop} {s : Shared}
theorem item_col {g : Heap} {L : Addr} {m : Str → Option Value} {value slice : Expr} {t d : Addr} {c0 c1 c2 c3 k : Int} {u : Tok} {Q : Value → Shared → Prop} (F : Fr g L s.heap m) (ht : EntryAt g t c0 c1 c2 c3 d)
    (h0 : 0 ≤ k) (h4 : k < 4) (h : ∀ t', Q (.int (col4 c0 c1 c2 c3 k) t') s)
    (hs : subscripted slice false (.ref t) (.int k u) = operate [.ref t, .int k u] (getItem (.ref t) (.int k u)) := by with_unfolding_all rfl) (hg : ∀ r, letTemporaryGo value (.ref t) r = pure () := by intro _; with_unfolding_all rfl) :
    wpAny (model prog w) A (PyProof.Rows.subscriptTail value slice (.ref t) (.int k u)) Q E s := by
  obtain ⟨t0, t1, t2, t3, o, ho, hc, n, hd⟩ := ht
  have ht' : IsTup s.heap t #[.int c0 t0, .int c1 t1, .int c2 t2, .int c3 t3, .ref d] := ⟨o, F.keep _ _ ho, hc, n, hd⟩
  have hk := int4 (k := k) (by assumption) (by assumption)
  rcases hk with rfl | rfl | rfl | rfl
  · exact item_tuple ht' (by decide) (by decide) (j := 0) rfl rfl (h _) hs hg
  · exact item_tuple ht' (by decide) (by decide) (j := 1) rfl rfl (h _) hs hg
  · exact item_tuple ht' (by decide) (by decide) (j := 2) rfl rfl (h _) hs hg
  · exact item_tuple ht' (by decide) (by decide) (j := 3) rfl rfl (h _) hs hg
end
set_option maxHeartbeats 4000000 in
theorem compare_spec {prog : Program} {w : World} {dp un : Nat} {gd : Option (List Code)} {cn : Str} {cs : Scope} {a : Addr} {ccd : Value} {cl : List (Str × Addr)} {outer : List Env} {A₀ : Around} {base h₀ : Heap} {L : Addr} {m mg mb : Str → Option Value} {sh9 : Heap} {sg9 : Array GenState} {sd9 : Drawn} {st9 : Nat} {so9 : OsState} {Q E : Value → Shared → Prop}
    {p : Program} {loose : List Str} {mean : ExcName → Option Value}
    (B : Below A₀ base outer h₀) (F : Fr h₀ L sh9 m) (X : (hd.heap_39 w.params).In h₀) (T : Top p loose mean mg mb h₀) (hk : cs.kind = .function) (hd : dp + 5 < recursionLimit) (hu : un + 40 < cLine)
    {self dself kl lt rt dl dr : Addr} {hh : Int} {tt nn : Nat} {l0 l1 l2 l3 r0 r1 r2 r3 : Int} {ks : List (Int × Int)}
    (h1 : sh9.get? self = some (instObj 38 dself)) (h2 : sh9.get? dself = some (dictOf [⟨hh, .str (Str.ofString "comp_select_list") tt, .ref kl⟩] nn))
    (h3 : KeysAt sh9 kl ks) (h4 : KeysOk ks)
    (h5 : EntryAt sh9 lt l0 l1 l2 l3 dl) (h6 : EntryAt sh9 rt r0 r1 r2 r3 dr)
    (hQ : ∀ h' tk t, (∀ b o, sh9.get? b = some o → h'.get? b = some o) → Q (.int (cmpSide ks (col4 l0 l1 l2 l3) (col4 r0 r1 r2 r3)) t) (Shared.mk h' sg9 sd9 tk so9)) :
    wpAny (model prog w) (ktrTop dp un gd cn cs L a ccd cl outer) (call (.ref 35) [.ref self, .ref lt, .ref rt]) Q E (Shared.mk sh9 sg9 sd9 st9 so9) := by
  obtain ⟨vs, hl, hsz, hit⟩ := h3
  refine wpAny_call ?_
  k_dflt (first   | (refine' call_pure ?k1 ?k2 ?k3 ?k5 ?kA ?kH ?kF ?kK ?k6 ?k7 ?k8 ?k9 ?kB ?_ ?c2 ?c3 ?c4 ?c5; (case kA => exact rfl); (case kH => exact rfl); (case kF => exact rfl); (case kK => assumption); (case k1 => k_asm); (case k2 => k_asm); (case k3 => k_asm); (case k5 => k_asm); (case k6 => k_is); (case k7 => k_is); (case k8 => (((try simp only [depth_under_make, depth_under_kw, depth_in1, depth_deeper, depth_caller]); (try dsimp only [ktrTop]); omega))); (case k9 => exact BindsTo.of_eq rfl); (case c5 => decide); (case kB => exact locs rfl); (case c2 => exact rfl); (case c3 => exact rfl); (case c4 => exact rfl); k_whole; intro x9 L' h' tk9 Hd9 Hu9 Ho9 F' N' B' X' T' Q9 E9 gQ9 gE9 pE9 rE9; (try clear Ho9); (try replace Hd9 := Hd9 _ hd); (try replace Hu9 := Hu9 _ hu); (try dsimp only); (try k_fold))   | (refine' call_pureC ?k1 ?k2 ?k3 ?k5 ?kA ?kH ?kF ?kK ?k6 ?k7 ?k8 ?k9 ?kB ?kN ?_ ?c2 ?c3 ?c4; (case kA => exact rfl); (case kH => exact rfl); (case kF => exact rfl); (case kK => assumption); (case k1 => k_asm); (case k2 => k_asm); (case k3 => k_asm); (case k5 => k_asm); (case k6 => k_is); (case k7 => k_is); (case k8 => (((try simp only [depth_under_make, depth_under_kw, depth_in1, depth_deeper, depth_caller]); (try dsimp only [ktrTop]); omega))); (case k9 => exact BindsTo.of_eq rfl); (case kB => exact rfl); (case kN => decide +kernel); (case c2 => exact rfl); (case c3 => exact rfl); (case c4 => exact rfl); k_whole; intro x9 L9 h17 tk17 cells' Hd9 Hu9 Ho9 F' N' C' B9 X9 T9 Q9 E9 gQ9 gE9 pE9; (try clear Ho9); (try replace Hd9 := Hd9 _ hd); (try replace Hu9 := Hu9 _ hu); k_cells C'; (try simp only [List.cons_append, List.nil_append] at N'); (try dsimp only); (try k_fold)))
  k_steps
  refine For_turns (by k_asm) ?_
  k_steps
  refine iter_list (fun i m₁ news₁ => news₁ = [] ∧ (∀ j c d, j < i → ks[j]? = some (c, d) → col4 l0 l1 l2 l3 c = col4 r0 r1 r2 r3 c) ∧ Pins m₁ [(Str.ofString "left", .ref lt), (Str.ofString "right", .ref rt)]) rfl hl (by k_asm) (by k_asm) ?_ ?_ ?_
  · exact ⟨rfl, fun j _ _ hj => absurd hj (Nat.not_lt_zero _), rfl, rfl, trivial⟩
  · rintro i v m₁ news₁ h₁ tk₁ I oi hv ⟨rfl, hbef, hpin⟩ hni F₁ N₁ Q₁ gQ₁
    obtain ⟨T, c, d, t1, t2, hki, rfl, hT⟩ := hit i v hv
    have hc := h4 (c, d) (List.mem_of_getElem? hki)
    replace F₁ := pin_fr F₁ hpin
    have hsplit : ks = ks.take i ++ (c, d) :: ks.drop (i + 1) := by
      obtain ⟨hlt, he⟩ := List.getElem?_eq_some_iff.mp hki
      rw [← he, ← List.drop_eq_getElem_cons hlt, List.take_append_drop]
    have hside : cmpSide ks (col4 l0 l1 l2 l3) (col4 r0 r1 r2 r3) = cmpSide ((c, d) :: ks.drop (i + 1)) (col4 l0 l1 l2 l3) (col4 r0 r1 r2 r3) := by
      conv => lhs; rw [hsplit]
      refine cmpSide_append fun k hk => ?_
      obtain ⟨j, hj⟩ := List.mem_iff_getElem?.mp hk
      have hji : j < i := by
        have := (List.getElem?_eq_some_iff.mp hj).1
        rw [List.length_take] at this; exact Nat.lt_of_lt_of_le this (Nat.min_le_left _ _)
      rw [List.getElem?_take_of_lt hji] at hj
      exact hbef j k.1 k.2 hji hj
    (try dsimp only)
    k_steps
    refine item_col (by k_asm) h5 hc.1 hc.2 (fun t' => ?_)
    k_steps
    refine item_col (by k_asm) h6 hc.1 hc.2 (fun t' => ?_)
    k_steps
    · rename_i hlt
      have e : cmpSide ks (col4 l0 l1 l2 l3) (col4 r0 r1 r2 r3) = -d := by rw [hside]; exact if_pos hlt
      rw [e] at hQ
      exact gQ₁ (.ret _) _ (gQ9 (.ret _) _ (hQ _ _ _ (Fr.keep (by assumption))))
    · rename_i hn hlt
      have e : cmpSide ks (col4 l0 l1 l2 l3) (col4 r0 r1 r2 r3) = d := by rw [hside]; exact (if_neg hn).trans (if_pos hlt)
      rw [e] at hQ
      exact gQ₁ (.ret _) _ (gQ9 (.ret _) _ (hQ _ _ _ (Fr.keep (by assumption))))
    · rename_i hn hlt
      refine gQ₁ .next _ ⟨_, _, _, _, rfl, (by assumption), (by assumption), hni, rfl, ?_, rfl, rfl, trivial⟩
      intro j c' d' hj hj'
      by_cases hji : j < i
      · exact hbef j c' d' hji hj'
      · have : j = i := Nat.le_antisymm (Nat.le_of_lt_succ hj) (Nat.not_lt.mp hji)
        subst this
        rw [hki] at hj'
        cases hj'
        exact Int.le_antisymm (Int.not_lt.mp (by assumption)) (Int.not_lt.mp (by assumption))
  · rintro m' news' h' tk ⟨rfl, hbef, hpin⟩ F₁ N₁
    have e : cmpSide ks (col4 l0 l1 l2 l3) (col4 r0 r1 r2 r3) = 0 := by
      have := cmpSide_append (l := col4 l0 l1 l2 l3) (r := col4 r0 r1 r2 r3) (pre := ks) (post := []) fun k hk => by
        obtain ⟨j, hj⟩ := List.mem_iff_getElem?.mp hk
        exact hbef j k.1 k.2 (by rw [hsz]; exact (List.getElem?_eq_some_iff.mp hj).1) hj
      rw [List.append_nil] at this
      exact this
    rw [e] at hQ
    (try dsimp only)
    k_steps
    exact gQ9 (.ret _) _ (hQ _ _ _ (Fr.keep (by assumption)))
end SCmp63
section SDictPlain
theorem rst_DictPlain : True := by w_top off; trivial
/-! tables of ints: pairs in their order -/
def put (kvs : List (Int × Int)) (k n : Int) : List (Int × Int) :=
  if kvs.any (fun kv => kv.1 = k) then kvs.map (fun kv => if kv.1 = k then (kv.1, n) else kv) else kvs ++ [(k, n)]
def look (kvs : List (Int × Int)) (k : Int) : Option Int := (kvs.find? fun kv => kv.1 = k).map (·.2)
def cnt (kvs : List (Int × Int)) (k : Int) : Int := (look kvs k).getD 0
def addTo (acc : List (Int × Int)) (kv : Int × Int) : List (Int × Int) := match look acc kv.1 with
  | some v => put acc kv.1 (v + kv.2)
  | none => put acc kv.1 kv.2
def vals (kvs : List (Int × Int)) : Int := (kvs.map (·.2)).sum
inductive IntVals : List (Int × Value) → List (Int × Int) → Prop
  | nil : IntVals [] []
  | cons {k n : Int} {t : Tok} {ps : List (Int × Value)} {kvs : List (Int × Int)} : IntVals ps kvs → IntVals ((k, .int n t) :: ps) ((k, n) :: kvs)
theorem IntVals.length {ps kvs} (h : IntVals ps kvs) : ps.length = kvs.length := by
  induction h with
  | nil => rfl
  | cons _ ih => simp [ih]
theorem IntVals.get {ps kvs} (h : IntVals ps kvs) : ∀ {i : Nat} {k : Int} {v : Value}, ps[i]? = some (k, v) → ∃ n t, v = .int n t ∧ kvs[i]? = some (k, n) := by
  induction h with
  | nil => intro i k v h; simp at h
  | cons _ ih =>
    intro i k v h
    cases i with
    | zero => simp at h; obtain ⟨rfl, rfl⟩ := h; exact ⟨_, _, rfl, rfl⟩
    | succ i => simpa using ih (by simpa using h)
theorem IntVals.keys {ps kvs} (h : IntVals ps kvs) : ps.map (·.1) = kvs.map (·.1) := by
  induction h with
  | nil => rfl
  | cons _ ih => simp [ih]
theorem IntVals.append {ps kvs} (h : IntVals ps kvs) : ∀ {ps' kvs'}, IntVals ps' kvs' → IntVals (ps ++ ps') (kvs ++ kvs') := by
  induction h with
  | nil => exact fun h' => h'
  | cons _ ih => exact fun h' => .cons (ih h')
theorem IntVals.any {ps kvs} (h : IntVals ps kvs) (k : Int) : ps.any (fun kv => decide (kv.1 = k)) = kvs.any (fun kv => decide (kv.1 = k)) := by
  induction h with
  | nil => rfl
  | cons _ ih => simp [ih]
theorem IntVals.mapSet {ps kvs} (h : IntVals ps kvs) (k n : Int) (t : Tok) : IntVals (ps.map fun kv => if kv.1 = k then (kv.1, .int n t) else kv) (kvs.map fun kv => if kv.1 = k then (kv.1, n) else kv) := by
  induction h with
  | nil => exact .nil
  | @cons k' n' t' ps kvs _ ih =>
    simp only [List.map_cons]
    by_cases e : k' = k
    · rw [if_pos e, if_pos e]; exact .cons ih
    · rw [if_neg e, if_neg e]; exact .cons ih
theorem IntVals.stored {ps kvs} (h : IntVals ps kvs) (k n : Int) (t : Tok) : IntVals (stored ps k (.int n t)) (put kvs k n) := by
  unfold PySem.stored put
  rw [h.any k]
  split
  · exact h.mapSet k n t
  · exact h.append (.cons .nil)
theorem IntVals.valueAt {ps kvs} (h : IntVals ps kvs) (k : Int) : (look kvs k = none → PySem.valueAt ps k = none) ∧ ∀ n, look kvs k = some n → ∃ t, PySem.valueAt ps k = some (.int n t) := by
  induction h with
  | nil => exact ⟨fun _ => rfl, fun n h => (by cases h)⟩
  | @cons k' n' t' ps kvs _ ih =>
    unfold PySem.valueAt look at ih ⊢
    simp only [List.find?_cons]
    by_cases e : k' = k
    · simp only [e, decide_true, Option.map_some]
      exact ⟨fun h => (by cases h), fun n h => (by cases h; exact ⟨_, rfl⟩)⟩
    · simp only [e, decide_false]
      exact ih
/-! plain facts of tables -/
theorem look_none_any {kvs : List (Int × Int)} {k : Int} (h : look kvs k = none) : kvs.any (fun kv => decide (kv.1 = k)) = false := by
  unfold look at h
  rw [Option.map_eq_none_iff, List.find?_eq_none] at h
  rw [List.any_eq_false]
  exact fun x hx => h x hx
theorem look_some_any {kvs : List (Int × Int)} {k n : Int} (h : look kvs k = some n) : kvs.any (fun kv => decide (kv.1 = k)) = true := by
  unfold look at h
  rw [Option.map_eq_some_iff] at h
  obtain ⟨x, hx, _⟩ := h
  rw [List.any_eq_true]
  have hp := List.find?_some hx
  exact ⟨x, List.mem_of_find?_eq_some hx, hp⟩
theorem put_new {kvs : List (Int × Int)} {k n : Int} (h : look kvs k = none) : put kvs k n = kvs ++ [(k, n)] := by
  unfold put; rw [look_none_any h]; rfl
theorem put_old {kvs : List (Int × Int)} {k n v : Int} (h : look kvs k = some v) : put kvs k n = kvs.map (fun kv => if kv.1 = k then (kv.1, n) else kv) := by
  unfold put; rw [look_some_any h]; rfl
theorem look_append {a b : List (Int × Int)} {k : Int} : look (a ++ b) k = (look a k).or (look b k) := by
  unfold look
  rw [List.find?_append]
  cases a.find? (fun kv => decide (kv.1 = k)) <;> rfl
theorem look_single {k n k' : Int} : look [(k, n)] k' = if k = k' then some n else none := by
  unfold look
  by_cases e : k = k' <;> simp [e]
theorem look_mapSet {kvs : List (Int × Int)} {k n k' : Int} : look (kvs.map (fun kv => if kv.1 = k then (kv.1, n) else kv)) k' = if k = k' then (look kvs k').map (fun _ => n) else look kvs k' := by
  induction kvs with
  | nil => by_cases e : k = k' <;> simp [look, e]
  | cons kv kvs ih =>
    unfold look at ih ⊢
    simp only [List.map_cons, List.find?_cons]
    by_cases e1 : kv.1 = k
    · simp only [e1, if_true]
      by_cases e : k = k'
      · simp [e]
      · simp only [e, decide_false, if_false] at ih ⊢; exact ih
    · simp only [e1, if_false]
      by_cases e : k = k'
      · have e2 : ¬ kv.1 = k' := fun h => e1 (h.trans e.symm)
        simp only [e2, decide_false]; exact ih
      · by_cases e2 : kv.1 = k'
        · simp [e2, e]
        · simp only [e2, decide_false]; exact ih
theorem look_put {kvs : List (Int × Int)} {k n k' : Int} : look (put kvs k n) k' = if k = k' then some n else look kvs k' := by
  cases h : look kvs k with
  | none =>
    rw [put_new h, look_append, look_single]
    by_cases e : k = k'
    · subst e; rw [h]; simp
    · simp [e]
  | some v =>
    rw [put_old h, look_mapSet]
    by_cases e : k = k'
    · subst e; rw [h]; simp
    · simp [e]
theorem addTo_eq (acc : List (Int × Int)) (kv : Int × Int) : addTo acc kv = put acc kv.1 (cnt acc kv.1 + kv.2) := by
  unfold addTo cnt
  cases h : look acc kv.1 with
  | some v => rfl
  | none => simp
theorem look_none_iff {kvs : List (Int × Int)} {k : Int} : look kvs k = none ↔ k ∉ kvs.map (·.1) := by
  unfold look
  rw [Option.map_eq_none_iff, List.find?_eq_none]
  constructor
  · intro h hm
    obtain ⟨x, hx, he⟩ := List.mem_map.mp hm
    exact h x hx (decide_eq_true he)
  · intro h x hx he
    exact h (List.mem_map.mpr ⟨x, hx, of_decide_eq_true he⟩)
theorem put_take {kvs : List (Int × Int)} {i : Nat} {k n : Int} (hn : (kvs.map (·.1)).Nodup) (hi : kvs[i]? = some (k, n)) : put (kvs.take i) k n = kvs.take (i + 1) := by
  have hs : kvs.take (i + 1) = kvs.take i ++ [(k, n)] := by rw [List.take_add_one, hi]; rfl
  rw [hs]
  refine put_new (look_none_iff.mpr fun hm => ?_)
  have h1 : ((kvs.take (i + 1)).map (·.1)).Nodup := by
    rw [List.map_take]; exact hn.sublist (List.take_sublist _ _)
  rw [hs, List.map_append, List.nodup_append] at h1
  exact h1.2.2 _ hm k (by simp) rfl
theorem look_of_get : ∀ {kvs : List (Int × Int)} {i : Nat} {k n : Int}, (kvs.map (·.1)).Nodup → kvs[i]? = some (k, n) → look kvs k = some n
  | [], _, _, _, _, h => by simp at h
  | kv :: kvs, 0, k, n, _, h => by
    simp at h; subst h
    simp [look]
  | kv :: kvs, i + 1, k, n, hn, h => by
    rw [List.map_cons, List.nodup_cons] at hn
    have h' : kvs[i]? = some (k, n) := by simpa using h
    have hne : ¬ kv.1 = k := fun e => hn.1 (List.mem_map.mpr ⟨(k, n), List.mem_of_getElem? h', e.symm⟩)
    have := look_of_get hn.2 h'
    unfold look at this ⊢
    simp only [List.find?_cons, hne, decide_false]
    exact this
theorem length_put {kvs : List (Int × Int)} {k n : Int} : (put kvs k n).length ≤ kvs.length + 1 := by
  unfold put; split <;> simp
theorem length_addTo {kvs : List (Int × Int)} {p : Int × Int} : (addTo kvs p).length ≤ kvs.length + 1 := by
  rw [addTo_eq]; exact length_put
theorem length_fold : ∀ {src tgt : List (Int × Int)}, (src.foldl addTo tgt).length ≤ tgt.length + src.length
  | [], tgt => by simp
  | p :: src, tgt => by
    have h1 := length_fold (src := src) (tgt := addTo tgt p)
    have h2 := length_addTo (kvs := tgt) (p := p)
    simp only [List.foldl_cons, List.length_cons]
    omega
end SDictPlain
section SDictRules
theorem rst_DictRules : True := by w_top off; trivial
def TabI (prog : Program) (w : World) (h : Heap) (d : Addr) (kvs : List (Int × Int)) : Prop :=
  (d == sysModules) = false ∧ ∃ ps : List (Int × Value), h.DictOf (intKind prog w) d ps ∧ IntVals ps kvs
def ObjTab (prog : Program) (w : World) (o : Obj) (kvs : List (Int × Int)) : Prop :=
  ∃ ps : List (Int × Value), o.IsDictOf (intKind prog w) ps ∧ IntVals ps kvs
theorem TabI.keep {prog w} {h h' : Heap} {d kvs} (T : TabI prog w h d kvs) (hk : ∀ b o, h.get? b = some o → h'.get? b = some o) : TabI prog w h' d kvs :=
  let ⟨lo, ps, hd, hi⟩ := T; ⟨lo, ps, hd.keep hk, hi⟩
theorem TabI.of_obj {prog w} {h : Heap} {d o kvs} (lo : (d == sysModules) = false) (ho : h.get? d = some o) (T : ObjTab prog w o kvs) : TabI prog w h d kvs :=
  let ⟨ps, hd, hi⟩ := T; ⟨lo, ps, Heap.dictOf_iff.mpr ⟨o, ho, hd⟩, hi⟩
theorem TabI.obj {prog w} {h : Heap} {d kvs} (T : TabI prog w h d kvs) : ∃ o, h.get? d = some o ∧ ObjTab prog w o kvs ∧ (d == sysModules) = false :=
  let ⟨lo, ps, hd, hi⟩ := T; let ⟨o, ho, hi'⟩ := Heap.dictOf_iff.mp hd; ⟨o, ho, ⟨ps, hi', hi⟩, lo⟩
theorem keyInt {prog : Program} {w : World} {k : Int} {v : Value} (h : (intKind prog w).is k v = true) : ∃ t, v = .int k t := by
  simp only [intKind, Value.isInt] at h
  cases v with
  | int i t => exact ⟨t, by simp at h; rw [h]⟩
  | _ => simp at h
section
variable {prog : Program} {w : World} {A : Around} {E : Value → Shared → Prop} {s : Shared} {env : Env} {h₀ : Heap} {target : Expr} {body : List Stmt} {Q : Flow → Shared → Prop}
theorem iter_vals {d vw : Addr} {kvs : List (Int × Int)} {m : Str → Option Value} {news : List (Addr × Obj)} (J : Nat → (Str → Option Value) → List (Addr × Obj) → Prop)
    (hh : A.handled = none) (T : TabI prog w h₀ d kvs) (hv : s.heap.IsValuesView vw d) (F : Fr h₀ env.locals s.heap m) (N : News h₀ env.locals s.heap news) (h0 : J 0 m news)
    (turn : ∀ i k n t m₁ news₁ h₁ tk₁ I oi, kvs[i]? = some (k, n) → J i m₁ news₁ → (∀ p ∈ news₁, p.1 ≠ I) → Fr h₀ env.locals h₁ m₁ → News h₀ env.locals h₁ ((I, oi) :: news₁) →
      ∀ Q₁ : Flow → Shared → Prop, Goes (TurnPost h₀ env.locals I oi (J (i + 1)) s Q) Q₁ → wpAny (model prog w) A (assign target env (.int n t)) (fun _ s₃ => wpAny (model prog w) A (execs body env) Q₁ E s₃) E { s with heap := h₁, toks := tk₁ })
    (done : ∀ m' news' h' tk, J kvs.length m' news' → Fr h₀ env.locals h' m' → News h₀ env.locals h' news' → Q .next { s with heap := h', toks := tk }) :
    wpAny (model prog w) A (pyIter (.ref vw)) (fun it s₂ => TurnsAt prog w A h₀ env target body Q E it s₂) E s := by
  obtain ⟨lo, ps, hd, hi⟩ := T
  obtain ⟨od, hod, _⟩ := Heap.dictOf_iff.mp hd
  obtain ⟨ep, hat⟩ := (hd.keep F.keep).dictAt
  have hne : d ≠ s.heap.objs.size := Nat.ne_of_lt hat.lt_size
  refine wpAny_pyIter_values hv hat ?_
  refine turns_at (KTurns.ofWalks (Walks.dictValues (knd := intKind prog w) hh s.heap.objs.size d hne ps ep) fun i v s Q E st q => letGo_valiter st.1 q) ?_ (next_is_new F) (Nat.ne_of_gt F.ns.lt) ?_ ?_ (F.push _) (fun p hp => ⟨Heap.get?_push_of_some _ (N p hp).1, (N p hp).2⟩) (fun p hp => Nat.ne_of_lt (Heap.lt_size (N p hp).1)) J h0 ?_ ?_
  · intro b hb
    rcases List.mem_cons.mp hb with e | hb
    · exact .inl e
    · exact .inr ⟨od, by rw [List.mem_singleton.mp hb]; exact hod⟩
  · rintro i h ⟨⟨oi, g, _⟩, _⟩
    exact ⟨oi, g⟩
  · exact ⟨⟨_, Heap.get?_push_size _ rfl, rfl, rfl⟩, hat.push _⟩
  · rintro i v m₁ news₁ h₁ tk₁ oi hlt ⟨k, hP⟩ hJ hn F₁ N₁
    obtain ⟨n, t, rfl, hk⟩ := hi.get hP
    exact turn i k n t m₁ news₁ h₁ tk₁ _ oi hk hJ hn F₁ N₁
  · rw [hi.length]; exact done
theorem iter_items {elts : List Expr} {kk : Nat} {pos : Pos} {d vw : Addr} {kvs : List (Int × Int)} {m : Str → Option Value} {news : List (Addr × Obj)} (J : Nat → (Str → Option Value) → List (Addr × Obj) → Prop)
    (hh : A.handled = none) (T : TabI prog w h₀ d kvs) (hv : s.heap.IsItemsView vw d) (F : Fr h₀ env.locals s.heap m) (N : News h₀ env.locals s.heap news) (h0 : J 0 m news)
    (hlen : (assignEach elts env).length = 2) (hstar : (assignEach elts env).findIdx? (·.1) = none)
    (turn : ∀ i k n t t' m₁ news₁ h₁ tk₁ I oi, kvs[i]? = some (k, n) → J i m₁ news₁ → (∀ p ∈ news₁, p.1 ≠ I) → Fr h₀ env.locals h₁ m₁ → News h₀ env.locals h₁ ((I, oi) :: news₁) →
      ∀ Q₁ : Flow → Shared → Prop, Goes (TurnPost h₀ env.locals I oi (J (i + 1)) s Q) Q₁ → wpAny (model prog w) A (assignInOrder ((assignEach elts env).map (·.2)) [.int k t', .int n t]) (fun _ s₃ => wpAny (model prog w) A (execs body env) Q₁ E s₃) E { s with heap := h₁, toks := tk₁ })
    (done : ∀ m' news' h' tk, J kvs.length m' news' → Fr h₀ env.locals h' m' → News h₀ env.locals h' news' → Q .next { s with heap := h', toks := tk }) :
    wpAny (model prog w) A (pyIter (.ref vw)) (fun it s₂ => TurnsAt prog w A h₀ env (.Tuple elts kk pos) body Q E it s₂) E s := by
  obtain ⟨lo, ps, hd, hi⟩ := T
  obtain ⟨od, hod, _⟩ := Heap.dictOf_iff.mp hd
  obtain ⟨ep, hat⟩ := (hd.keep F.keep).dictAt
  have hne : d ≠ s.heap.objs.size := Nat.ne_of_lt hat.lt_size
  refine wpAny_pyIter_items hv hat ?_
  refine turns_at (kti_itemsTurns (knd := intKind prog w) hh s.heap.objs.size d hne ps ep) ?_ (next_is_new F) (Nat.ne_of_gt F.ns.lt) ?_ ?_ (F.push _) (fun p hp => ⟨Heap.get?_push_of_some _ (N p hp).1, (N p hp).2⟩) (fun p hp => Nat.ne_of_lt (Heap.lt_size (N p hp).1)) J h0 ?_ ?_
  · intro b hb
    rcases List.mem_cons.mp hb with e | hb
    · exact .inl e
    · exact .inr ⟨od, by rw [List.mem_singleton.mp hb]; exact hod⟩
  · rintro i h ⟨⟨ok, ov, he⟩, _⟩
    exact ⟨_, he⟩
  · exact ⟨⟨.none, .none, Heap.get?_push_size _ rfl⟩, hat.push _⟩
  · rintro i v m₁ news₁ h₁ tk₁ oi hlt ⟨T', key, k, x, rfl, hP, hkey, hT⟩ hJ hn F₁ N₁ Q₁ gQ₁
    obtain ⟨n, t, rfl, hk⟩ := hi.get hP
    obtain ⟨t', rfl⟩ := keyInt hkey
    refine wpAny_assign_Tuple hh (items := #[.int k t', .int n t]) hT hlen hstar fun h' he => ?_
    exact turn i k n t t' m₁ news₁ h' tk₁ _ oi hk hJ hn (F₁.extBut he (Nat.le_refl _)) (N₁.extBut he (Nat.le_refl _)) Q₁ gQ₁
  · rw [hi.length]; exact done
theorem tab_values {d : Addr} {kvs : List (Int × Int)} {Q : Value → Shared → Prop} (T : TabI prog w s.heap d kvs)
    (h : Q (.ref s.heap.objs.size) { s with heap := s.heap.push { cls := .type "dict_values", data := .fields #[.ref d] } }) : wpAny (model prog w) A (call (.builtin "dict.values") [.ref d]) Q E s := by
  obtain ⟨lo, ps, hd, _⟩ := T
  exact call_meetsIn PySem.F.slot_dict_values hd.typeIs PySem.F.entry_dict_values (PySem.F.args_dict_values_1 _) (meets_dict_values _ d lo) ⟨⟨ps, hd⟩, h⟩
theorem tab_items {d : Addr} {kvs : List (Int × Int)} {Q : Value → Shared → Prop} (T : TabI prog w s.heap d kvs)
    (h : Q (.ref s.heap.objs.size) { s with heap := s.heap.push { cls := .type "dict_items", data := .fields #[.ref d] } }) : wpAny (model prog w) A (call (.builtin "dict.items") [.ref d]) Q E s := by
  obtain ⟨lo, ps, hd, _⟩ := T
  exact call_meetsIn PySem.F.slot_dict_items hd.typeIs PySem.F.entry_dict_items (PySem.F.args_dict_items_1 _) (meets_dict_items _ d lo) ⟨⟨ps, hd⟩, h⟩
theorem tab_method_values {d : Addr} {kvs : List (Int × Int)} {pl : Sem Bool} {Q : Value × List Value → Shared → Prop} (T : TabI prog w s.heap d kvs) (h : Q (.builtin "dict.values", [.ref d]) s) :
    wpAny (model prog w) A (getMethod (.ref d) "values" pl) Q E s := by
  obtain ⟨lo, ps, hd, _⟩ := T
  exact getMethod_builtin hd.typeIs PySem.F.plainAttrs_dict PySem.F.slot_dict_values PySem.F.type_dict_values hd.mapOf.noDict h
theorem tab_method_items {d : Addr} {kvs : List (Int × Int)} {pl : Sem Bool} {Q : Value × List Value → Shared → Prop} (T : TabI prog w s.heap d kvs) (h : Q (.builtin "dict.items", [.ref d]) s) :
    wpAny (model prog w) A (getMethod (.ref d) "items" pl) Q E s := by
  obtain ⟨lo, ps, hd, _⟩ := T
  exact getMethod_builtin hd.typeIs PySem.F.plainAttrs_dict PySem.F.slot_dict_items PySem.F.type_dict_items hd.mapOf.noDict h
theorem tab_method_get {d : Addr} {kvs : List (Int × Int)} {pl : Sem Bool} {Q : Value × List Value → Shared → Prop} (T : TabI prog w s.heap d kvs) (h : Q (.builtin "dict.get", [.ref d]) s) :
    wpAny (model prog w) A (getMethod (.ref d) "get" pl) Q E s := by
  obtain ⟨lo, ps, hd, _⟩ := T
  exact getMethod_builtin hd.typeIs PySem.F.plainAttrs_dict PySem.F.slot_dict_get PySem.F.type_dict_get hd.mapOf.noDict h
theorem tab_get {d : Addr} {kvs : List (Int × Int)} {k dn : Int} {t t' : Tok} {Q : Value → Shared → Prop} (T : TabI prog w s.heap d kvs)
    (h : ∀ t'', Q (.int ((look kvs k).getD dn) t'') { s with toks := s.toks + 1 }) : wpAny (model prog w) A (call (.builtin "dict.get") [.ref d, .int k t, .int dn t']) Q E s := by
  obtain ⟨lo, ps, hd, hi⟩ := T
  refine call_meetsIn PySem.F.slot_dict_get hd.typeIs PySem.F.entry_dict_get (PySem.F.args_dict_get_3 _ _ _) (meets_dict_get_default (intKind prog w) d (intKind_is _ _ _ _) lo _) ⟨_, hd.mapOf, ?_⟩
  cases hl : look kvs k with
  | none => rw [(hi.valueAt k).1 hl]; rw [hl] at h; exact h _
  | some n => obtain ⟨t3, e⟩ := (hi.valueAt k).2 n hl; rw [e]; rw [hl] at h; exact h _
theorem tab_in {d : Addr} {kvs : List (Int × Int)} {k : Int} {t : Tok} {Q : Value → Shared → Prop} (T : TabI prog w s.heap d kvs)
    (h : Q (.bool (look kvs k).isSome) { s with toks := s.toks + 1 }) : wpAny (model prog w) A (compareOp .In (.int k t) (.ref d)) Q E s := by
  obtain ⟨lo, ps, hd, hi⟩ := T
  refine wpAny_in_of (knd := intKind prog w) (intKind_is _ _ _ _) lo hd.mapOf ?_
  cases hl : look kvs k with
  | none => rw [(hi.valueAt k).1 hl]; rw [hl] at h; exact h
  | some n => obtain ⟨t3, e⟩ := (hi.valueAt k).2 n hl; rw [e]; rw [hl] at h; exact h
theorem tab_getItem {d : Addr} {kvs : List (Int × Int)} {k n : Int} {t : Tok} {Q : Value → Shared → Prop} (T : TabI prog w s.heap d kvs) (hn : look kvs k = some n)
    (h : ∀ t', Q (.int n t') { s with toks := s.toks + 1 }) : wpAny (model prog w) A (getItem (.ref d) (.int k t)) Q E s := by
  obtain ⟨lo, ps, hd, hi⟩ := T
  obtain ⟨t3, e⟩ := (hi.valueAt k).2 n hn
  exact wpAny_getItem_of (knd := intKind prog w) (intKind_is _ _ _ _) hd.mapOf e (h _)
theorem tab_item {value slice : Expr} {d : Addr} {kvs : List (Int × Int)} {k n : Int} {t : Tok} {Q : Value → Shared → Prop} (T : TabI prog w s.heap d kvs) (hn : look kvs k = some n)
    (h : ∀ t', Q (.int n t') { s with toks := s.toks + 1 })
    (hs : subscripted slice false (.ref d) (.int k t) = operate [.ref d, .int k t] (getItem (.ref d) (.int k t)) := by with_unfolding_all rfl) (hg : ∀ r, letTemporaryGo value (.ref d) r = pure () := by intro _; with_unfolding_all rfl) :
    wpAny (model prog w) A (PyProof.Rows.subscriptTail value slice (.ref d) (.int k t)) Q E s := by
  have T' := T
  obtain ⟨lo, ps, hd, hi⟩ := T
  exact subscriptTail_builtin hd.typeIs slot_dict_getitem.lookup (tab_getItem T' hn h) hs hg
theorem tab_set {h₀ : Heap} {L d : Addr} {m : Str → Option Value} {news : List (Addr × Obj)} {g : Obj → List (Addr × Obj)} {o : Obj} {kvs : List (Int × Int)} {k n : Int} {t t' : Tok} {Q : Unit → Shared → Prop}
    (F : Fr h₀ L s.heap m) (N : News h₀ L s.heap news) (U : UpdF d o news g) (T : ObjTab prog w o kvs) (hsz : kvs.length ≤ sizeLine)
    (h : ∀ h' o', Fr h₀ L h' m → News h₀ L h' (g o') → ObjTab prog w o' (put kvs k n) → Q () { s with heap := h', toks := s.toks + 1 }) : wpAny (model prog w) A (setItem (.ref d) (.int k t) (.int n t')) Q E s := by
  obtain ⟨ps, hd, hi⟩ := T
  exact kda_set (knd := intKind prog w) F N U hd (intKind_is _ _ _ _) (by rw [hi.length]; exact hsz) fun h' o' F' N' hd' => h h' o' F' N' ⟨_, hd', hi.stored k n t'⟩
theorem tab_in_yes {d : Addr} {kvs : List (Int × Int)} {k n : Int} {t : Tok} {Q : Value → Shared → Prop} (T : TabI prog w s.heap d kvs) (hn : look kvs k = some n)
    (h : Q (.bool true) { s with toks := s.toks + 1 }) : wpAny (model prog w) A (compareOp .In (.int k t) (.ref d)) Q E s := tab_in T (by rw [hn]; exact h)
theorem tab_in_no {d : Addr} {kvs : List (Int × Int)} {k : Int} {t : Tok} {Q : Value → Shared → Prop} (T : TabI prog w s.heap d kvs) (hn : look kvs k = none)
    (h : Q (.bool false) { s with toks := s.toks + 1 }) : wpAny (model prog w) A (compareOp .In (.int k t) (.ref d)) Q E s := tab_in T (by rw [hn]; exact h)
theorem TabI.nodup {h : Heap} {d : Addr} {kvs : List (Int × Int)} (T : TabI prog w h d kvs) : (kvs.map (·.1)).Nodup := by
  obtain ⟨_, ps, ⟨_, _, _, _, _, _, _, _, hn⟩, hi⟩ := T
  rw [← hi.keys]; exact hn
section
variable {L : Addr} {m : Str → Option Value} {news : List (Addr × Obj)} {d : Addr} {kvs : List (Int × Int)}
theorem tabF {h : Heap} (F : Fr h₀ L h m) (T : TabI prog w h₀ d kvs) : TabI prog w h d kvs := T.keep F.keep
theorem tabN {o : Obj} (N : News h₀ L s.heap news) (hm : (d, o) ∈ news) (lo : (d == sysModules) = false) (T : ObjTab prog w o kvs) : TabI prog w s.heap d kvs := .of_obj lo (N _ hm).1 T
theorem tab_valuesK {Q : Value → Shared → Prop} (F : Fr h₀ L s.heap m) (N : News h₀ L s.heap news) (T : TabI prog w s.heap d kvs)
    (h : ∀ v h', Fr h₀ L h' m → News h₀ L h' news → h'.IsValuesView v d → Q (.ref v) { s with heap := h' }) : wpAny (model prog w) A (call (.builtin "dict.values") [.ref d]) Q E s :=
  tab_values T (h _ _ (F.push _) (fun p hp => ⟨Heap.get?_push_of_some _ (N p hp).1, (N p hp).2⟩) ⟨_, Heap.get?_push_size _ rfl, rfl, rfl⟩)
theorem tab_itemsK {Q : Value → Shared → Prop} (F : Fr h₀ L s.heap m) (N : News h₀ L s.heap news) (T : TabI prog w s.heap d kvs)
    (h : ∀ v h', Fr h₀ L h' m → News h₀ L h' news → h'.IsItemsView v d → Q (.ref v) { s with heap := h' }) : wpAny (model prog w) A (call (.builtin "dict.items") [.ref d]) Q E s :=
  tab_items T (h _ _ (F.push _) (fun p hp => ⟨Heap.get?_push_of_some _ (N p hp).1, (N p hp).2⟩) ⟨_, Heap.get?_push_size _ rfl, rfl, rfl⟩)
end
end
end SDictRules
section SSeg63
theorem rst_Seg63 : True := by w_top off; trivial
section
variable {M : Model} {A : Around} {R : GenEnd} {Y : Protocol} {n : Nat} {s₀ : Shared} {c : Code} {fs : List Frame} {s : Shared} {env : Env}
  {K : Flow → Sem Fin} {H : Value → Sem Fin} {gd : Bool → Bool} {lv : List Value → List Value}
theorem seg_If {test : Expr} {body orelse : List Stmt} {pos : Pos}
    (h : wpAny M (A.over c fs) (isTrue test env (eval test env)) (fun b s' => if b = true then Seg M A R Y n s₀ c ((execs body env).wrap K H gd lv) fs s' else Seg M A R Y n s₀ c ((execs orelse env).wrap K H gd lv) fs s')
      (fun x s' => Seg M A R Y n s₀ c (H x) fs s') s) : Seg M A R Y n s₀ c ((exec (.If test body orelse pos) env).wrap K H gd lv) fs s := by
  rw [exec_If]
  show Seg M A R Y n s₀ c (.at pos fun _ => (isTrue test env (eval test env) >>= fun b => if b = true then execs body env else execs orelse env).wrap K H gd lv) fs s
  refine seg_at ?_
  rw [Sem.bind_eq_wrap', Sem.wrap_wrap]
  refine seg_wrap (wpAny_mono h (fun b s' hb => ?_) fun _ _ x => x)
  cases b with
  | true => rw [if_pos rfl] at hb; exact hb
  | false => rw [if_neg Bool.false_ne_true] at hb; exact hb
/-- what stands behind a loop in the frame's own code -/
def ownBack (env : Env) (K : Flow → Sem Fin) (H : Value → Sem Fin) (gd : Bool → Bool) (lv : List Value → List Value) : Result → Sem Fin := fun r =>
  ((match r with | .ok f => (.pure f : Sem Flow) | .error e => .raise e).onRaise fun (x : Value) => do
    if (← field x 1) == Value.none then unsupported "frame.own-activation:exception-without-traceback"
    setFlight x env.frame).wrap K H gd lv
theorem seg_While' {test : Expr} {body orelse : List Stmt} {pos : Pos}
    (h : ∀ p, Seg M A R Y n s₀ (.whileLoop test body orelse env) (M.den (.whileLoop test body orelse env)) (.ret (ownBack env K H gd lv) none (gd false) (lv []) c p [] :: fs) s) :
    Seg M A R Y n s₀ c ((exec (.While test body orelse pos) env).wrap K H gd lv) fs s := seg_While h
theorem seg_For' {target iter : Expr} {body orelse : List Stmt} {pos : Pos} (hs : ∀ x, foldedSetIterable iter env x = pure x)
    (h : wpAny M (A.over c fs) (eval iter env) (fun x s₁ => wpAny M (A.over c fs) (pyIter x) (fun it s₂ =>
      ∀ p, Seg M A R Y n s₀ (.forLoop target it body orelse env) (M.den (.forLoop target it body orelse env)) (.ret (ownBack env K H gd lv) none (gd false) (lv []) c p [] :: fs) s₂)
      (fun x s' => Seg M A R Y n s₀ c (H x) fs s') s₁) (fun x s' => Seg M A R Y n s₀ c (H x) fs s') s) :
    Seg M A R Y n s₀ c ((exec (.For target iter body orelse pos) env).wrap K H gd lv) fs s := by
  have e : exec (.For target iter body orelse pos) env = ((do standAt pos; let x ← eval iter env; let x ← foldedSetIterable iter env x; standAt iter.pos; holding [x] (pyIter x)) >>= fun it => runOwn (.forLoop target it body orelse env) env) := by
    rw [exec_For]; simp only [bind_assoc]
  rw [e, Sem.bind_eq_wrap', Sem.wrap_wrap]
  refine seg_wrap (wpAny_bind (wpAny_standAt (wpAny_bind (wpAny_mono h (fun x s₁ h₁ => wpAny_bind (wpAny_of_eq (hs x) (wpAny_bind (wpAny_standAt (wpAny_holding (wpAny_mono h₁ (fun it s₂ h₂ => ?_) fun _ _ x => x)))))) fun _ _ x => x))))
  exact seg_call h₂
end
section
variable {prog : Program} {w : World} {A : Around} {R : GenEnd} {Y : Protocol} {n : Nat} {s₀ : Shared} {fs : List Frame} {s : Shared} {env : Env}
def loopH (env : Env) : Value → Sem Fin := fun e => (do noteFrame e env; theTreesLotGoes e : Sem Unit).wrap (fun _ => .raise e) .raise id id
def forK (target : Expr) (it : Value) (body orelse : List Stmt) (env : Env) : Flow → Sem Fin := fun f => match f with
  | .next | .cont => .pure (.again (.forLoop target it body orelse env))
  | .brk => .pure (.done .next)
  | .ret v => .pure (.done (.ret v))
theorem seg_forLoop {target : Expr} {it : Value} {body orelse : List Stmt}
    (h : wpAny (model prog w) (A.over (.forLoop target it body orelse env) fs) (pyNext it) (fun r s₁ => match r with
        | none => Seg (model prog w) A R Y n s₀ (.forLoop target it body orelse env) (.pure (.again (.block orelse env))) fs s₁
        | some v => wpAny (model prog w) (A.over (.forLoop target it body orelse env) fs) (letOwnedTupleGo target it v) (fun _ s₂ => wpAny (model prog w) (A.over (.forLoop target it body orelse env) fs) (assign target env v) (fun _ s₃ =>
            Seg (model prog w) A R Y n s₀ (.forLoop target it body orelse env) ((execs body env).wrap (forK target it body orelse env) (loopH env) id id) fs s₃)
              (fun x s' => Seg (model prog w) A R Y n s₀ (.forLoop target it body orelse env) (loopH env x) fs s') s₂)
            (fun x s' => Seg (model prog w) A R Y n s₀ (.forLoop target it body orelse env) (loopH env x) fs s') s₁)
      (fun x s' => Seg (model prog w) A R Y n s₀ (.forLoop target it body orelse env) (loopH env x) fs s') s) :
    Seg (model prog w) A R Y n s₀ (.forLoop target it body orelse env) ((model prog w).den (.forLoop target it body orelse env)) fs s := by
  show Seg _ A R Y n s₀ _ ((forTurn target it body orelse env).onRaise (fun x => do noteFrame x env; theTreesLotGoes x)) fs s
  have e : forTurn target it body orelse env = (standAt target.pos >>= fun _ => (((pyNext it).onRaise (fun _ => standAt { target.pos with line := 0 })) >>= fun r => match r with
      | none => (.pure (.again (.block orelse env)) : Sem Fin)
      | some v => letOwnedTupleGo target it v >>= fun _ => assign target env v >>= fun _ => execs body env >>= fun f => forK target it body orelse env f)) := by
    unfold forTurn
    refine congrArg _ (funext fun _ => congrArg _ (funext fun r => ?_))
    cases r with
    | none => rfl
    | some v => refine congrArg _ (funext fun _ => congrArg _ (funext fun _ => congrArg _ (funext fun f => ?_))); cases f <;> rfl
  have hH : ∀ x, ((do noteFrame x env; theTreesLotGoes x : Sem Unit).bind fun _ => (.raise x : Sem Fin)) = loopH env x := fun x => by rw [Sem.bind_eq_wrap]; rfl
  rw [e, Sem.onRaise_eq_wrap]
  show Seg _ A R Y n s₀ _ (.at target.pos fun _ => (((pyNext it).onRaise (fun _ => standAt { target.pos with line := 0 })) >>= _).wrap _ _ _ _) fs s
  refine seg_at ?_
  rw [Sem.bind_eq_wrap', Sem.wrap_wrap]
  refine seg_wrap (wpAny_onRaise (wpAny_mono h (fun r s₁ h₁ => ?_) fun x s' hx => wpAny_standAt ?_))
  · cases r with
    | none => exact h₁
    | some v =>
      show Seg _ A R Y n s₀ _ ((letOwnedTupleGo target it v >>= _).wrap _ _ _ _) fs s₁
      rw [Sem.bind_eq_wrap', Sem.wrap_wrap]
      refine seg_wrap (wpAny_mono h₁ (fun _ s₂ h₂ => ?_) fun x s' hx => ?_)
      · show Seg _ A R Y n s₀ _ ((assign target env v >>= _).wrap _ _ _ _) fs s₂
        rw [Sem.bind_eq_wrap', Sem.wrap_wrap]
        refine seg_wrap (wpAny_mono h₂ (fun _ s₃ h₃ => ?_) fun x s' hx => ?_)
        · show Seg _ A R Y n s₀ _ ((execs body env >>= _).wrap _ _ _ _) fs s₃
          rw [Sem.bind_eq_wrap', Sem.wrap_wrap]
          have key := Sem.wrap_congr (execs body env) (K := fun a => Sem.wrap Sem.pure (fun e => (do noteFrame e env; theTreesLotGoes e : Sem Unit).bind fun _ => Sem.raise e) id id (forK target it body orelse env a)) (K' := forK target it body orelse env)
            (H := fun e => Sem.wrap Sem.pure (fun e => (do noteFrame e env; theTreesLotGoes e : Sem Unit).bind fun _ => Sem.raise e) id id (Sem.raise e : Sem Fin)) (H' := loopH env) (fun g => id (id g)) (fun l => id (id l)) (fun f => by cases f <;> rfl) (fun x => hH x)
          rw [key]
          exact h₃
        · show Seg _ A R Y n s₀ _ (Sem.bind _ _) fs s'
          rw [hH]; exact hx
      · show Seg _ A R Y n s₀ _ (Sem.bind _ _) fs s'
        rw [hH]; exact hx
  · show Seg _ A R Y n s₀ _ (Sem.bind _ _) fs s'
    rw [hH]; exact hx
end
end SSeg63
section SSeg64
theorem rst_Seg64 : True := by w_top off; trivial
theorem over_func (A : Around) (body : List Stmt) (env : Env) : A.over (.func body env) [] = A.deeper env := by
  obtain ⟨hd, d, fr, gs, u⟩ := A
  cases fr <;> cases gs <;> rfl
theorem over_for (A : Around) (body : List Stmt) (env : Env) (k : Result → Sem Fin) (g : Bool) (l : List Value) (p : Pos) (kp : List Value) (target : Expr) (it : Value) (b2 o2 : List Stmt) (env2 : Env) :
    A.over (.forLoop target it b2 o2 env2) [.ret k none g l (.func body env) p kp] = A.deeper env := by
  obtain ⟨hd, d, fr, gs, u⟩ := A
  cases fr <;> cases gs <;> cases hd <;> rfl
theorem over_while (A : Around) (body : List Stmt) (env : Env) (k k2 : Result → Sem Fin) (g g2 : Bool) (l l2 : List Value) (p p2 : Pos) (kp kp2 : List Value) (target : Expr) (it : Value) (b2 o2 : List Stmt) (env2 : Env) (test : Expr) (b3 o3 : List Stmt) (env3 : Env) :
    A.over (.whileLoop test b3 o3 env3) [.ret k2 none g2 l2 (.forLoop target it b2 o2 env2) p2 kp2, .ret k none g l (.func body env) p kp] = A.deeper env := by
  obtain ⟨hd, d, fr, gs, u⟩ := A
  cases fr <;> cases gs <;> cases hd <;> rfl
section
variable {prog : Program} {w : World} {A : Around} {R : GenEnd} {Y : Protocol} {n : Nat} {s₀ : Shared} {s : Shared} {env : Env} {body : List Stmt}
def funcK : Flow → Sem Fin := fun f => .pure (.done (.ret (match f with | .ret v => v | _ => .none)))
def funcH (env : Env) : Value → Sem Fin := fun e => (leaving env e).wrap (fun _ => .raise e) .raise id id
/-- the end of an exception that a loop of the generator lets go -/
theorem seg_raise_for {target : Expr} {it : Value} {b2 o2 : List Stmt} {p : Pos} {e : Value} {K : Flow → Sem Fin}
    (hP : PassesOwn (model prog w) (A.deeper env) env (fun e s' => wpAny (model prog w) (A.deeper env) (leaving env e) (fun _ s'' => R n s₀ (.error e) s'') (fun e' s'' => R n s₀ (.error e') s'') s'))
    (h : wpAny (model prog w) (A.deeper env) (leaving env e) (fun _ s'' => R n s₀ (.error e) s'') (fun e' s'' => R n s₀ (.error e') s'') s) :
    Seg (model prog w) A R Y n s₀ (.forLoop target it b2 o2 env) (loopH env e) [.ret (ownBack env K (funcH env) id id) none false [] (.func body env) p []] s := by
  have raiseEnd : ∀ (c : Code) (e : Value) (s : Shared), R n s₀ (.error e) s → Seg (model prog w) A R Y n s₀ c (.raise e) [] s := fun c e s hr => seg_end (.error e) hr
  have fin : ∀ (e : Value) (s : Shared), wpAny (model prog w) (A.deeper env) (leaving env e) (fun _ s'' => R n s₀ (.error e) s'') (fun e' s'' => R n s₀ (.error e') s'') s →
      Seg (model prog w) A R Y n s₀ (.func body env) (funcH env e) [] s := fun e s hl => by
    refine seg_wrap ?_
    rw [over_func]
    exact wpAny_mono hl (fun _ s' hr => raiseEnd _ _ _ hr) fun e' s' hr => raiseEnd _ _ _ hr
  have came : ∀ (e : Value) (s : Shared), cameBackBy (model prog w) (A.deeper env) env (fun e s' => wpAny (model prog w) (A.deeper env) (leaving env e) (fun _ s'' => R n s₀ (.error e) s'') (fun e' s'' => R n s₀ (.error e') s'') s') e s →
      Seg (model prog w) A R Y n s₀ (.forLoop target it b2 o2 env) (.raise e) [.ret (ownBack env K (funcH env) id id) none false [] (.func body env) p []] s := fun e s hc => by
    refine seg_leaf (.error e) ?_
    show Seg _ A R Y n s₀ _ (((do
      if (← field e 1) == Value.none then unsupported "frame.own-activation:exception-without-traceback"
      setFlight e env.frame : Sem Unit).bind fun _ => (.raise e : Sem Flow)).wrap K (funcH env) id id) [] s
    rw [Sem.bind_eq_wrap, Sem.wrap_wrap]
    refine seg_wrap ?_
    rw [over_func]
    exact wpAny_mono hc (fun _ s' hr => fin e s' hr) fun e' s' hr => fin e' s' hr
  refine seg_wrap ?_
  rw [over_for]
  exact wpAny_bind (wpAny_mono (hP e s h) (fun _ s' hn => wpAny_theTreesLotGoes (came e s' hn)) fun e' s' hn => came e' s' hn)
end
end SSeg64
section SGenDefs
theorem rst_GenDefs : True := by w_top off; trivial
inductive Nxt where
  | val (x : Int)
  | stop
  | err
/-- what the ruler tells at its k-th question -/
def nexts : List Int → Option Int → Nat → Nxt
  | [], _, _ => .stop
  | x :: r, last, k => if x = 127 then .stop else if x = 0 then (match last with | none => .err | some y => .val y) else match k with
    | 0 => .val x
    | k + 1 => nexts r (some x) k
def turnsB (o : Obj) : Bool := o.cls == .type "list_iterator" && (match o.data with | .fields _ => true | _ => false)
def restOf (h₀ h : Heap) (Lg : Addr) : List (Addr × Obj) :=
  (List.range h.objs.size).filterMap fun b => match h.get? b with
    | some o => if (h₀.get? b).isNone && b != Lg && !turnsB o then some (b, o) else none
    | none => none
theorem mem_rest {h₀ h : Heap} {Lg b : Addr} {o : Obj} (ho : h.get? b = some o) (hn : h₀.get? b = none) (hL : b ≠ Lg) (ht : turnsB o = false) : (b, o) ∈ restOf h₀ h Lg := by
  refine List.mem_filterMap.mpr ⟨b, List.mem_range.mpr (Heap.lt_size ho), ?_⟩
  simp [ho, hn, hL, ht]
theorem rest_mem {h₀ h : Heap} {Lg : Addr} {p : Addr × Obj} (hp : p ∈ restOf h₀ h Lg) : h.get? p.1 = some p.2 ∧ p.1 ≠ Lg ∧ h₀.get? p.1 = none ∧ turnsB p.2 = false := by
  obtain ⟨b, _, e⟩ := List.mem_filterMap.mp hp
  cases ho : h.get? b with
  | none => rw [ho] at e; cases e
  | some o =>
    rw [ho] at e
    simp only at e
    split at e
    · rename_i hc
      cases e
      simp only [Bool.and_eq_true, bne_iff_ne, ne_eq, Bool.not_eq_true', Option.isNone_iff_eq_none] at hc
      exact ⟨ho, hc.1.2, hc.1.1, hc.2⟩
    · cases e
theorem news_rest {h₀ h : Heap} {Lg : Addr} : News h₀ Lg h (restOf h₀ h Lg) := fun _ hp => let ⟨a, b, c, _⟩ := rest_mem hp; ⟨a, b, c⟩
def GEff (h₀ : Heap) (Lg : Addr) (s₀ s' : Shared) : Prop :=
  (∃ h' tk, s' = { s₀ with heap := h', toks := tk }) ∧ (∀ b o, h₀.get? b = some o → s'.heap.get? b = some o) ∧ (∀ b o, s₀.heap.get? b = some o → b ≠ Lg → turnsB o = false → s'.heap.get? b = some o)
theorem geff_of {h₀ h : Heap} {Lg : Addr} {m : Str → Option Value} {s₀ : Shared} {tk : Nat} {more : List (Addr × Obj)} (hg : ∀ b o, h₀.get? b = some o → s₀.heap.get? b = some o) (F : Fr h₀ Lg h m) (N : News h₀ Lg h (more ++ restOf h₀ s₀.heap Lg)) :
    GEff h₀ Lg s₀ { s₀ with heap := h, toks := tk } := by
  refine ⟨⟨h, tk, rfl⟩, F.keep, fun b o ho hL ht => ?_⟩
  cases hn : h₀.get? b with
  | some o' =>
    have := hg b o' hn
    rw [ho] at this
    rw [Option.some.inj this]
    exact F.keep b o' hn
  | none => exact (N _ (List.mem_append_right _ (mem_rest ho hn hL ht))).1
def GY (h₀ : Heap) (Lg : Addr) (row : List Int) (N : Nat) : Protocol := fun n s₀ v s' κ =>
  ∃ x t, v = .int x t ∧ nexts row none (N - (n + 1)) = .val x ∧ GEff h₀ Lg s₀ s' ∧ (0 < n → ∃ oL I oI, s'.heap.get? Lg = some oL ∧ s'.heap.get? I = some oI ∧ h₀.get? I = none ∧ I ≠ Lg ∧ turnsB oI = true ∧
    ∀ s'' : Shared, (∀ b o, h₀.get? b = some o → s''.heap.get? b = some o) → s''.heap.get? Lg = some oL → s''.heap.get? I = some oI → κ (.send .none) s'')
def GR (h₀ : Heap) (Lg : Addr) (row : List Int) (N : Nat) : GenEnd := fun n s₀ r s' => r = .ok (.ret .none) ∧ nexts row none (N - n) = .stop ∧ GEff h₀ Lg s₀ s'
theorem seg_ind {M : Model} {A : Around} {R : GenEnd} {Y : Protocol} {c : Code} {t : Sem Fin} {fs : List Frame} (Inv : Nat → Shared → Shared → Prop)
    (step : ∀ n s₀ s, (∀ s₀' s', Inv n s₀' s' → 0 < n → Seg M A R Y n s₀' c t fs s') → Inv (n + 1) s₀ s → Seg M A R Y (n + 1) s₀ c t fs s) :
    ∀ n s₀ s, Inv n s₀ s → 0 < n → Seg M A R Y n s₀ c t fs s
  | 0, _, _, _, h => absurd h (Nat.lt_irrefl _)
  | n + 1, s₀, s, hi, _ => step n s₀ s (fun s₀' s' h1 h2 => seg_ind Inv step n s₀' s' h1 h2) hi
theorem nexts_zero {x : Int} {r : List Int} {last : Option Int} (h1 : x ≠ 127) (h2 : x ≠ 0) : nexts (x :: r) last 0 = .val x := by
  simp [nexts, h1, h2]
theorem nexts_succ {x : Int} {r : List Int} {last : Option Int} {k : Nat} (h1 : x ≠ 127) (h2 : x ≠ 0) : nexts (x :: r) last (k + 1) = nexts r (some x) k := by
  simp [nexts, h1, h2]
end SGenDefs
section SNext63
theorem rst_Next63 : True := by w_top off; trivial
theorem next_gen {prog : Program} {w : World} {A : Around} {E : Value → Shared → Prop} {s : Shared} {G : Addr} {g n : Nat} {gs : GenState} {R : GenEnd} {Y : Protocol} {dflt : Value} {Q : Value → Shared → Prop}
    (hh : A.handled = none) (hl : s.heap.NoLimit) (hroom : A.depth < recursionLimit) (hg : s.heap.IsGen G g) (hgs : s.gens[g]? = some gs)
    (hgo : gs.Goes (model prog w) A.in1.in1 R Y n (.send .none) (s.setGen g .running))
    (hY : ∀ v s₁ gs', gs'.bare = true → Y (n - 1) (s.setGen g .running) v s₁ (fun r' s'' => match n with | 0 => False | m + 1 => gs'.Goes (model prog w) A.in1.in1 R Y m r' s'') → Q v (s₁.setGen g gs'))
    (hR : ∀ r s₁, R n (s.setGen g .running) r s₁ →
      (r = .ok (.ret .none) ∧ ∀ h' : Heap, (∀ b o, s₁.heap.get? b = some o → h'.get? b = some o) → Q dflt { s₁.setGen g .finished with heap := h' }) ∨
      (∃ e ob, r = .error (.ref e) ∧ s₁.heap.IsGen G g ∧ s₁.heap.get? e = some ob ∧ ob.cls = .type "ValueError" ∧ E (.ref e) (s₁.setGen g .finished))) :
    wpAny (model prog w) A (call (.builtin "next") [.ref G, dflt]) Q E s := by
  refine call_function_entry (by decide +kernel) (by decide +kernel) kdk_entry_next (kdk_args_next2 _ _) ?_
  unfold Builtin.«next»
  refine wpAny_bind (m := someArgs "next" 1 2 _) (wpAny_of_eq (a := [Value.ref G, dflt]) (by first | rfl | kernel_rfl!) ?_)
  (try dsimp only)
  refine wpAny_bind (wpAny_specialOf (name := Str.ofString "__next__") hg.typeIs slot_gen_next.lookup ?_)
  refine wpAny_ite_split (fun hab => absurd hab (by decide)) (fun _ => ?_)
  refine wpAny_bind ?_
  show wpAny (model prog w) A.in1 (pyNext (.ref G)) _ _ s
  unfold pyNext
  refine wpAny_bind (wpAny_attempt (wpAny_callSpecial?_slot (name := Str.ofString "__next__") hg.typeIs slot_gen_next
    (wpAny_call_entry slot_gen_next hg.typeIs entry_gen_next ?_ (args_gen_next _))))
  show wpAny _ A.in1.in1 (Builtin.Generator.genWake (.ref G) (.send .none)) _ _ s
  unfold Builtin.Generator.genWake
  refine wpAny_bind (wpAny_holding (wpAny_genNumber hg (wpAny_bind (wpAny_genState hgs ?_))))
  cases gs with
  | running => exact hgo.elim
  | finished => exact hgo.elim
  | _ =>
    refine wpAny_bind (wpAny_roomToWake hl hroom ?_)
    show wpAny _ A.in1.in1 (.resume g (.send .none) [] _) _ _ s
    refine wpAny_resumeQ hgs hgo (fun x s₁ hx => ?_) (fun v s₁ gs' hb hv => ?_)
    · rcases hR x s₁ hx with ⟨rfl, hq⟩ | ⟨e, ob, rfl, hG₁, hob, hcls, hE⟩
      · show wpAny _ A.in1.in1 (newExc (.type "StopIteration") [] >>= _) _ _ _
        refine wpAny_bind ?_
        simp only [newExc, newTuple]
        refine wpAny_bind (wpAny_newObj_type ?_ (by size_fits))
        refine wpAny_bind (m := firstArgMember _ _) (wpAny_of_eq (a := Value.none) (by first | rfl | (simp only [firstArgMember]; rfl)) ?_)
        refine wpAny_newObj_type ?_ (by size_fits)
        simp only [raiseNew]
        refine wpAny_bind (wpAny_bind (wpAny_handled ?_))
        rw [show A.in1.in1.handled = none from hh]
        refine wpAny_throw ?_
        refine wpAny_bind (wpAny_isInstance (T := "StopIteration") (b := true) ⟨_, Heap.get?_push_size _ rfl, rfl⟩ isSubtype_stop ?_)
        exact wpAny_pure (wpAny_pure ⟨_, rfl, hq _ fun b o hb => Heap.get?_push_of_some _ (Heap.get?_push_of_some _ hb)⟩)
      · have hVE : isSubtype (.type "ValueError") (.type "StopIteration") = pure false := by rw [isSubtype_type]; kernel_rfl
        have hT : (s₁.setGen g .finished).TypeIs (.ref e) "ValueError" := ⟨ob, hob, hcls⟩
        obtain ⟨o, nm, qn, ho, hc, hd, hsl⟩ := hG₁
        show wpAny _ A.in1.in1 (Builtin.Generator.genLeft (.ref G) (.ref e)) _ _ _
        unfold Builtin.Generator.genLeft
        refine wpAny_bind ?_
        unfold Builtin.Generator.madeByALambda
        refine wpAny_bind (wpAny_load (s := s₁.setGen g .finished) ho ?_)
        rw [hd]
        refine wpAny_pure ?_
        have hf : (o.cls == Value.type "generator" && (match Data.fields #[Value.int g 0, nm, qn] with | .fields vs => vs[3]? == some (.bool true) | _ => false)) = false := by
          rw [Bool.and_eq_false_iff]; right; rfl
        refine wpAny_bind (wpAny_isInstance (T := "ValueError") (b := false) hT hVE ?_)
        rw [hf]
        show wpAny _ A.in1.in1 (Builtin.Generator.genEscaped (.ref e)) _ _ _
        unfold Builtin.Generator.genEscaped
        refine wpAny_bind (wpAny_isInstance (T := "ValueError") (b := false) hT hVE ?_)
        refine wpAny_throw ?_
        refine wpAny_bind (wpAny_isInstance (T := "ValueError") (b := false) hT hVE ?_)
        exact wpAny_throw hE
    · exact wpAny_pure ⟨v, rfl, wpAny_pure (wpAny_pure ⟨_, rfl, hY v s₁ gs' hb hv⟩)⟩
end SNext63
section SRange63
theorem rst_Range63 : True := by w_top off; trivial
/-- the iterator of range(n) behind i turns -/
def rgObj (i n : Nat) : Obj := { cls := .type "range_iterator", dict := none, data := .fields #[rawInt (i : Int), rawInt ((n : Int) - i), rawInt 1], slots := #[] }
/-- what a turn must leave, when the whole state counts -/
def TurnEnd (Inv : Shared → Prop) (Q : Flow → Shared → Prop) (fl : Flow) (s' : Shared) : Prop :=
  match fl with
  | .ret v => Q (.ret v) s'
  | .brk => Q .next s'
  | _ => Inv s'
section
variable {prog : Program} {w : World} {A : Around} {E : Value → Shared → Prop} {s : Shared} {env : Env} {body : List Stmt} {Q : Flow → Shared → Prop}
def RangePost (prog : Program) (w : World) (A : Around) (E : Value → Shared → Prop) (env : Env) (body : List Stmt) (Q : Flow → Shared → Prop) (x : Str) (px : Pos) (xv : Value) (s₁ : Shared) : Prop :=
    ∃ (r : Addr) (n : Nat) (t u v : Tok), xv = .ref r ∧ IsRange s₁.heap r 0 (n : Int) 1 t u v ∧ n ≤ 1000 ∧ ∃ Inv : Nat → Shared → Prop,
      (∀ i s', Inv i s' → s'.heap.get? s₁.heap.objs.size = some (rgObj i n)) ∧
      Inv 0 { s₁ with heap := s₁.heap.push (rgObj 0 n) } ∧
      (∀ (i : Nat) s₂ h' tk t', i < n → Inv i s₂ → (∀ b o, b ≠ s₁.heap.objs.size → s₂.heap.get? b = some o → h'.get? b = some o) → h'.get? s₁.heap.objs.size = some (rgObj (i + 1) n) →
        wpAny (model prog w) A (assign (.Name x px) env (.int i t')) (fun _ s₃ => wpAny (model prog w) A (execs body env) (TurnEnd (Inv (i + 1)) Q) E s₃) E { s₂ with heap := h', toks := tk }) ∧
      (∀ s₂ h' tk, Inv n s₂ → (∀ b o, b ≠ s₁.heap.objs.size → s₂.heap.get? b = some o → h'.get? b = some o) → Q .next { s₂ with heap := h', toks := tk })
theorem for_range {x : Str} {px pos : Pos} {iter : Expr}
    (h : wpAny (model prog w) A (eval iter env) (RangePost prog w A E env body Q x px) E s)
    (hh : A.handled = none) (hs : ∀ x, foldedSetIterable iter env x = pure x := by intro _; rfl)
    (hE : PassesOwn (model prog w) A env E := by passes_own) :
    wpAny (model prog w) A (exec (.For (.Name x px) iter body [] pos) env) Q E s := by
  refine wpAny_For (wpAny_mono h (fun xv s₁ h₁ => ?_) fun _ _ e => e) hs
  obtain ⟨r, n, t, u, v, rfl, hr, hn, Inv, hI, h0, turn, done⟩ := h₁
  have hsz : Builtin.Range.rangeSize 0 (n : Int) 1 = (n : Int) := by
    unfold Builtin.Range.rangeSize
    by_cases h : (n : Int) ≤ 0
    · have : n = 0 := by omega
      subst this; decide
    · simp; omega
  refine wpAny_pyIter_range hr ?_ ?_
  · unfold Builtin.Range.small
    rw [hsz]
    unfold Builtin.Range.rangeFitsLong
    simp
    omega
  rw [hsz]
  refine codeAny_forLoop_any (fun k s' => ∃ i, Inv i s' ∧ i ≤ n ∧ k = n + 1 - i) ?_ (n + 1) ⟨0, by simpa [rgObj] using h0, Nat.zero_le _, rfl⟩
  rintro k s₂ ⟨i, hi, hle, rfl⟩
  have W := LCg.range_walks (prog := prog) (w := w) (A := A) (I := s₁.heap.objs.size) hh 0 n
  have hst : ∀ j : Nat, ∀ h : Heap, h.get? s₁.heap.objs.size = some (rgObj j n) → IsRangeIter h s₁.heap.objs.size (0 + (j : Nat) * 1) ((n : Int) - (j : Nat)) 1 := fun j h e => by
    rw [Int.mul_one, Int.zero_add]; exact e
  by_cases hlt : i < n
  · refine W.item i _ _ _ hlt (hst _ _ (hI _ _ hi)) fun v' h' tk' hP hS hk => ?_
    obtain ⟨t', rfl⟩ := hP
    show wpAny _ _ (letOwnedTupleGo (.Name x px) _ _) _ _ _
    refine wpAny_pure ?_
    have := turn i s₂ h' tk' t' hlt hi (fun b o hb e => hk b o (by simpa using hb) e) (by
      have hS' := hS
      unfold IsRangeIter at hS'
      rw [hS']
      unfold rgObj
      congr 4
      simp)
    rw [Int.zero_add]
    refine wpAny_mono this (fun _ s₃ h₃ => wpAny_passesOwn hE (wpAny_mono h₃ (fun f s₄ h₄ => ?_) fun _ _ e => e)) hE
    cases f with
    | next => exact ⟨n + 1 - (i + 1), down_lt hlt, i + 1, h₄, hlt, rfl⟩
    | cont => exact ⟨n + 1 - (i + 1), down_lt hlt, i + 1, h₄, hlt, rfl⟩
    | brk => exact h₄
    | ret v => exact h₄
  · have hin : i = n := by omega
    subst hin
    refine W.done _ _ _ (hst _ _ (hI _ _ hi)) fun h' tk' hk => wpAny_execs_nil ?_
    exact done s₂ h' tk' hi fun b o hb e => hk b o (by simpa using hb) e
end
end SRange63
section SRunPlain
theorem rst_RunPlain : True := by w_top off; trivial
/-- an entry of the profile, without the heap -/
structure Ent where
  c0 : Int
  c1 : Int
  c2 : Int
  c3 : Int
  tab : List (Int × Int)
def Ent.col (e : Ent) : Int → Int := col4 e.c0 e.c1 e.c2 e.c3
def Ent.moved (e : Ent) (z : Int) : Ent := ⟨e.c0, e.c1 + z * e.c0, e.c2 + 2 * z * e.c1 + z ^ 2 * e.c0, e.c3 + 3 * z * e.c2 + 3 * z ^ 2 * e.c1 + z ^ 3 * e.c0, e.tab.map fun kv => (kv.1 + z, kv.2)⟩
def Ent.plus (t s : Ent) : Ent := ⟨s.c0 + t.c0, s.c1 + t.c1, s.c2 + t.c2, s.c3 + t.c3, s.tab.foldl addTo t.tab⟩
def stepP (p : Ent × Ent) (z : Int) : Ent × Ent := (p.1.plus (p.2.moved z), p.2.plus (p.1.moved z))
def startP (st : Int) : Ent × Ent := (⟨1, st, st ^ 2, st ^ 3, [(st, 1)]⟩, ⟨0, 0, 0, 0, []⟩)
def pairP (st : Int) (zs : List Int) : Ent × Ent := zs.foldl stepP (startP st)
def sideP (ks : List (Int × Int)) (p : Ent × Ent) : Int := cmpSide ks p.1.col p.2.col
def sidesP (ks : List (Int × Int)) (st : Int) (zs : List Int) : List Int := (List.range (zs.length + 1)).map fun k => sideP ks (pairP st (zs.take k))
theorem pairP_snoc (st : Int) (zs : List Int) (z : Int) : pairP st (zs ++ [z]) = stepP (pairP st zs) z := by unfold pairP; rw [List.foldl_append]; rfl
theorem sidesP_snoc (ks : List (Int × Int)) (st : Int) (zs : List Int) (z : Int) : sidesP ks st (zs ++ [z]) = sidesP ks st zs ++ [sideP ks (stepP (pairP st zs) z)] := by
  unfold sidesP
  rw [List.length_append, List.length_singleton, List.range_succ, List.map_append]
  congr 1
  · refine List.map_congr_left fun k hk => ?_
    rw [List.take_append_of_le_length (by have := List.mem_range.mp hk; omega)]
  · rw [List.map_singleton, ← List.length_singleton (a := z), ← List.length_append, List.take_length, pairP_snoc]
theorem sidesP_last (ks : List (Int × Int)) (st : Int) (zs : List Int) : ∃ pre, sidesP ks st zs = pre ++ [sideP ks (pairP st zs)] := by
  unfold sidesP
  rw [List.range_succ, List.map_append]
  exact ⟨_, by rw [List.map_singleton, List.take_length]⟩
/-- the run as it went: the sizes told -/
structure RunOk (row : List Int) (ks : List (Int × Int)) (st : Int) (zs : List Int) : Prop where
  before : ∀ k z, zs[k]? = some z → sideP ks (pairP st (zs.take k)) ≠ 0 ∧ nexts row none k = .val z
  stop : sideP ks (pairP st zs) = 0 ∨ nexts row none zs.length = .stop ∨ zs.length = 9
def RunTo (row : List Int) (ks : List (Int × Int)) (st : Int) (zs : List Int) : Prop := ∀ k z, zs[k]? = some z → sideP ks (pairP st (zs.take k)) ≠ 0 ∧ nexts row none k = .val z
theorem RunTo.snoc {row : List Int} {ks : List (Int × Int)} {st : Int} {zs : List Int} {z : Int} (h : RunTo row ks st zs) (h1 : sideP ks (pairP st zs) ≠ 0) (h2 : nexts row none zs.length = .val z) : RunTo row ks st (zs ++ [z]) := by
  intro k y hk
  rcases Nat.lt_trichotomy k zs.length with hlt | rfl | hgt
  · rw [List.getElem?_append_left hlt] at hk
    rw [List.take_append_of_le_length (Nat.le_of_lt hlt)]
    exact h k y hk
  · rw [List.getElem?_append_right (Nat.le_refl _), Nat.sub_self] at hk
    cases hk
    rw [List.take_append_of_le_length (Nat.le_refl _), List.take_length]
    exact ⟨h1, h2⟩
  · rw [List.getElem?_eq_none (by rw [List.length_append, List.length_singleton]; omega)] at hk
    cases hk
theorem nexts_mem : ∀ {row : List Int} {last : Option Int} {k : Nat} {z : Int}, nexts row last k = .val z → (∀ y, last = some y → y ≠ 0 ∧ y ≠ 127) → (z ∈ row ∨ last = some z) ∧ z ≠ 0 ∧ z ≠ 127
  | [], _, _, _, h, _ => by cases h
  | x :: r, last, k, z, h, hl => by
    unfold nexts at h
    by_cases h127 : x = 127
    · rw [if_pos h127] at h; cases h
    · rw [if_neg h127] at h
      by_cases h0 : x = 0
      · rw [if_pos h0] at h
        cases last with
        | none => cases h
        | some y => cases h; exact ⟨.inr rfl, hl _ rfl⟩
      · rw [if_neg h0] at h
        cases k with
        | zero => cases h; exact ⟨.inl (.head _), h0, h127⟩
        | succ k =>
          obtain ⟨h1, h2⟩ := nexts_mem (row := r) (last := some x) h (fun y e => by cases e; exact ⟨h0, h127⟩)
          refine ⟨.inl ?_, h2⟩
          rcases h1 with h1 | h1
          · exact .tail _ h1
          · cases h1; exact .head _
theorem stepP_len {p : Ent × Ent} {z : Int} {n : Nat} (h1 : p.1.tab.length ≤ n) (h2 : p.2.tab.length ≤ n) : (stepP p z).1.tab.length ≤ 2 * n ∧ (stepP p z).2.tab.length ≤ 2 * n := by
  have l : ∀ (a b : List (Int × Int)), (a.foldl addTo b).length ≤ b.length + a.length := fun a b => length_fold
  constructor
  · have := l (p.2.moved z).tab p.1.tab
    show ((p.2.moved z).tab.foldl addTo p.1.tab).length ≤ _
    have e : (p.2.moved z).tab.length = p.2.tab.length := List.length_map ..
    omega
  · have := l (p.1.moved z).tab p.2.tab
    show ((p.1.moved z).tab.foldl addTo p.2.tab).length ≤ _
    have e : (p.1.moved z).tab.length = p.1.tab.length := List.length_map ..
    omega
theorem foldP_len {z0 : Ent × Ent} : ∀ (zs : List Int) (p : Ent × Ent) (n : Nat), p.1.tab.length ≤ n → p.2.tab.length ≤ n → (zs.foldl stepP p).1.tab.length ≤ 2 ^ zs.length * n ∧ (zs.foldl stepP p).2.tab.length ≤ 2 ^ zs.length * n
  | [], p, n, h1, h2 => by simpa using ⟨h1, h2⟩
  | z :: zs, p, n, h1, h2 => by
    obtain ⟨a, b⟩ := stepP_len (z := z) h1 h2
    have := foldP_len (z0 := z0) zs (stepP p z) (2 * n) a b
    rw [List.length_cons, Nat.pow_succ, Nat.mul_assoc]
    exact this
theorem pairP_len (st : Int) (zs : List Int) : (pairP st zs).1.tab.length ≤ 2 ^ zs.length ∧ (pairP st zs).2.tab.length ≤ 2 ^ zs.length := by
  have := foldP_len (z0 := startP st) zs (startP st) 1 (Nat.le_refl _) (Nat.zero_le _)
  rw [Nat.mul_one] at this
  exact this
end SRunPlain
section SPlain63
theorem rst_Plain63 : True := by w_top off; trivial
/-! the columns' closed formulas -/
def twiceP (st : Int) (zs : List Int) : Int := 2 * st + zs.sum
def squaresP (zs : List Int) : Int := (zs.map (fun z => z ^ 2)).sum
def prodP (zs : List Int) : Int := zs.foldl (fun p z => -z * p) 1
def bothP (t q : Int) : Nat → Int
  | 0 => 1
  | 1 => t
  | 2 => t ^ 2 + q
  | _ => t ^ 3 + 3 * t * q
def apartP (t q : Int) : Nat → Int
  | 0 => 1
  | 1 => t
  | 2 => 3 * t ^ 2 + q
  | _ => t ^ 3 + t * q
def facP : Nat → Int
  | 0 => 1
  | 1 => 1
  | 2 => 2
  | _ => 6
def denP : Nat → Int
  | 0 => 1
  | 1 => 2
  | 2 => 24
  | _ => 48
def sumsP (st : Int) (zs : List Int) (j : Nat) : Int := (2 ^ zs.length * bothP (twiceP st zs) (squaresP zs) j).fdiv (2 ^ j)
def gapsP (st : Int) (zs : List Int) (j : Nat) : Int := if j < zs.length then 0 else (facP j * prodP zs * apartP (twiceP st zs) (squaresP zs) (j - zs.length)).fdiv (denP (j - zs.length))
def Ent.colN (e : Ent) : Nat → Int
  | 0 => e.c0
  | 1 => e.c1
  | 2 => e.c2
  | _ => e.c3
theorem fdiv_of_mul {a b c : Int} (hc : c ≠ 0) (h : a = c * b) : a.fdiv c = b := by
  rw [h]; exact Int.mul_fdiv_cancel_left b hc
theorem list4 {P : List Int → Prop} (h0 : P []) (h1 : ∀ a, P [a]) (h2 : ∀ a b, P [a, b]) (h3 : ∀ a b c, P [a, b, c]) (h4 : ∀ a b c d, P [a, b, c, d]) : ∀ zs : List Int, zs.length ≤ 4 → P zs
  | [], _ => h0
  | [a], _ => h1 a
  | [a, b], _ => h2 a b
  | [a, b, c], _ => h3 a b c
  | [a, b, c, d], _ => h4 a b c d
  | _ :: _ :: _ :: _ :: _ :: _, h => by simp at h
structure SumI (p : Ent × Ent) (N T Q : Int) : Prop where
  h0 : N = p.1.c0 + p.2.c0
  h1 : N * T = 2 * (p.1.c1 + p.2.c1)
  h2 : N * (T ^ 2 + Q) = 4 * (p.1.c2 + p.2.c2)
  h3 : N * (T ^ 3 + 3 * T * Q) = 8 * (p.1.c3 + p.2.c3)
theorem sum2 {N T Q z s0 s1 s2 : Int} (h0 : N = s0) (h1 : N * T = 2 * s1) (h2 : N * (T ^ 2 + Q) = 4 * s2) : (N * 2) * ((T + z) ^ 2 + (Q + z ^ 2)) = 4 * (2 * s2 + 2 * z * s1 + z ^ 2 * s0) := by grind
theorem sum3 {N T Q z s0 s1 s2 s3 : Int} (h0 : N = s0) (h1 : N * T = 2 * s1) (h2 : N * (T ^ 2 + Q) = 4 * s2) (h3 : N * (T ^ 3 + 3 * T * Q) = 8 * s3) : (N * 2) * ((T + z) ^ 3 + 3 * (T + z) * (Q + z ^ 2)) = 8 * (2 * s3 + 3 * z * s2 + 3 * z ^ 2 * s1 + z ^ 3 * s0) := by grind
theorem sum_step {p : Ent × Ent} {N T Q z : Int} (h : SumI p N T Q) : SumI (stepP p z) (N * 2) (T + z) (Q + z ^ 2) where
  h0 := by have := h.h0; simp only [stepP, Ent.plus, Ent.moved]; omega
  h1 := by
    have a := h.h0; have b := h.h1
    simp only [stepP, Ent.plus, Ent.moved]
    grind
  h2 := (sum2 h.h0 h.h1 h.h2).trans (by simp only [stepP, Ent.plus, Ent.moved]; grind)
  h3 := (sum3 h.h0 h.h1 h.h2 h.h3).trans (by simp only [stepP, Ent.plus, Ent.moved]; grind)
theorem sum_fold : ∀ (zs : List Int) {p : Ent × Ent} {N T Q : Int}, SumI p N T Q → SumI (zs.foldl stepP p) (N * 2 ^ zs.length) (T + zs.sum) (Q + (zs.map (fun z => z ^ 2)).sum)
  | [], p, N, T, Q, h => by
    rw [List.length_nil, List.map_nil, List.sum_nil, Int.pow_zero, Int.mul_one, Int.add_zero, Int.add_zero]; exact h
  | z :: zs, p, N, T, Q, h => by
    rw [List.length_cons, List.map_cons, List.sum_cons, List.sum_cons, Int.pow_succ', ← Int.mul_assoc, ← Int.add_assoc, ← Int.add_assoc]
    exact sum_fold zs (sum_step h)
theorem sums_at {p : Ent × Ent} {N T Q : Int} (h : SumI p N T Q) : ∀ j, j < 4 → N * bothP T Q j = 2 ^ j * (Ent.colN p.1 j + Ent.colN p.2 j)
  | 0, _ => (Int.mul_one N).trans (h.h0.trans (Int.one_mul _).symm)
  | 1, _ => h.h1
  | 2, _ => h.h2
  | 3, _ => h.h3
theorem sums_eq (st : Int) (zs : List Int) (_ : zs.length ≤ 4) (j : Nat) (hj : j < 4) : sumsP st zs j = Ent.colN (pairP st zs).1 j + Ent.colN (pairP st zs).2 j := by
  have h : SumI (startP st) 1 (2 * st) 0 := ⟨rfl, by simp only [startP]; omega, by simp only [startP]; grind, by simp only [startP]; grind⟩
  have h2 := sum_fold zs h
  rw [Int.one_mul, Int.zero_add] at h2
  exact fdiv_of_mul (Int.pow_ne_zero (by decide)) (sums_at h2 j hj)
def dif (p : Ent × Ent) (j : Nat) : Int := Ent.colN p.1 j - Ent.colN p.2 j
inductive GapI (p : Ent × Ent) (T Q P : Int) : Nat → Prop
  | g0 : P = dif p 0 → P * T = 2 * dif p 1 → 2 * P * (3 * T ^ 2 + Q) = 24 * dif p 2 → 6 * P * (T ^ 3 + T * Q) = 48 * dif p 3 → GapI p T Q P 0
  | g1 : 0 = dif p 0 → P = dif p 1 → 2 * P * T = 2 * dif p 2 → 6 * P * (3 * T ^ 2 + Q) = 24 * dif p 3 → GapI p T Q P 1
  | g2 : 0 = dif p 0 → 0 = dif p 1 → 2 * P = dif p 2 → 6 * P * T = 2 * dif p 3 → GapI p T Q P 2
  | g3 : 0 = dif p 0 → 0 = dif p 1 → 0 = dif p 2 → 6 * P = dif p 3 → GapI p T Q P 3
  | g4 : 0 = dif p 0 → 0 = dif p 1 → 0 = dif p 2 → 0 = dif p 3 → GapI p T Q P 4
theorem dif_0 {p : Ent × Ent} {z : Int} : 0 = dif (stepP p z) 0 := by simp only [dif, stepP, Ent.plus, Ent.moved, Ent.colN]; omega
theorem dif_1 {p : Ent × Ent} {z d : Int} (h : d = dif p 0) : -z * d = dif (stepP p z) 1 := by subst h; simp only [dif, stepP, Ent.plus, Ent.moved, Ent.colN]; grind
theorem dif_2 {p : Ent × Ent} {z d e : Int} (h : d = dif p 0) (h1 : e = dif p 1) : -(2 * z * e + z ^ 2 * d) = dif (stepP p z) 2 := by subst h h1; simp only [dif, stepP, Ent.plus, Ent.moved, Ent.colN]; grind
theorem dif_3 {p : Ent × Ent} {z d e f : Int} (h : d = dif p 0) (h1 : e = dif p 1) (h2 : f = dif p 2) : -(3 * z * f + 3 * z ^ 2 * e + z ^ 3 * d) = dif (stepP p z) 3 := by subst h h1 h2; simp only [dif, stepP, Ent.plus, Ent.moved, Ent.colN]; grind
theorem gap02 {P T z d e : Int} (h : P * T = 2 * e) (h' : -(2 * z * e + z ^ 2 * P) = d) : 2 * (-z * P) * (T + z) = 2 * d := by subst h'; grind
theorem gap03 {P T Q z d e f : Int} (h1 : P * T = 2 * e) (h2 : 2 * P * (3 * T ^ 2 + Q) = 24 * f) (h' : -(3 * z * f + 3 * z ^ 2 * e + z ^ 3 * P) = d) : 6 * (-z * P) * (3 * (T + z) ^ 2 + (Q + z ^ 2)) = 24 * d := by subst h'; grind
theorem gap13 {P T z d f : Int} (h2 : 2 * P * T = 2 * f) (h' : -(3 * z * f + 3 * z ^ 2 * P + z ^ 3 * 0) = d) : 6 * (-z * P) * (T + z) = 2 * d := by subst h'; grind
theorem gap_step {p : Ent × Ent} {T Q P z : Int} {k : Nat} (h : GapI p T Q P k) (hk : k < 4) : GapI (stepP p z) (T + z) (Q + z ^ 2) (-z * P) (k + 1) := by
  have z1 : ∀ {d : Int}, 0 = d → ∀ {e : Int}, -z * d = e → 0 = e := fun h _ h' => by rw [← h', ← h, Int.mul_zero]
  cases h with
  | g0 h0 h1 h2 h3 => exact .g1 dif_0 (dif_1 h0) (gap02 h1 (dif_2 h0 rfl)) (gap03 h1 h2 (dif_3 h0 rfl rfl))
  | g1 h0 h1 h2 h3 => exact .g2 dif_0 (by rw [← dif_1 h0, Int.mul_zero]) (by rw [← dif_2 h0 h1, Int.mul_zero, Int.add_zero, Int.neg_mul, Int.mul_neg, Int.mul_assoc]) (gap13 h2 (dif_3 h0 h1 rfl))
  | g2 h0 h1 h2 h3 => exact .g3 dif_0 (by rw [← dif_1 h0, Int.mul_zero]) (by rw [← dif_2 h0 h1]; simp) (by rw [← dif_3 h0 h1 h2]; grind)
  | g3 h0 h1 h2 h3 => exact .g4 dif_0 (by rw [← dif_1 h0, Int.mul_zero]) (by rw [← dif_2 h0 h1]; simp) (by rw [← dif_3 h0 h1 h2]; simp)
  | g4 h0 h1 h2 h3 => exact absurd hk (Nat.lt_irrefl 4)
theorem gap_fold : ∀ (zs : List Int) {p : Ent × Ent} {T Q P : Int} {k : Nat}, k + zs.length ≤ 4 → GapI p T Q P k → GapI (zs.foldl stepP p) (T + zs.sum) (Q + (zs.map (fun z => z ^ 2)).sum) (zs.foldl (fun p z => -z * p) P) (k + zs.length)
  | [], p, T, Q, P, k, _, h => by
    rw [List.map_nil, List.sum_nil, Int.add_zero, Int.add_zero]; exact h
  | z :: zs, p, T, Q, P, k, hk, h => by
    rw [List.length_cons, ← Nat.add_assoc, Nat.add_right_comm] at hk ⊢
    rw [List.map_cons, List.sum_cons, List.sum_cons, ← Int.add_assoc, ← Int.add_assoc]
    exact gap_fold zs hk (gap_step h (Nat.lt_of_lt_of_le (Nat.lt_succ_self k) (Nat.le_trans (Nat.le_add_right _ _) hk)))
theorem gapI_at {p : Ent × Ent} {T Q P : Int} {k : Nat} (h : GapI p T Q P k) (j : Nat) (hj : j < 4) : (if j < k then 0 else (facP j * P * apartP T Q (j - k)).fdiv (denP (j - k))) = dif p j := by
  have e : ∀ (a : Int) {n d : Int}, n ≠ 0 → a * P * 1 = n * d → (a * P * 1).fdiv n = d := fun a n d hn h => fdiv_of_mul hn h
  cases h with
  | g0 h0 h1 h2 h3 => match j, hj with
    | 0, _ => exact fdiv_of_mul (by decide) (by show 1 * P * 1 = 1 * _; rw [Int.mul_one]; rw [h0])
    | 1, _ => exact fdiv_of_mul (by decide) (by show 1 * P * T = 2 * _; rw [Int.one_mul]; exact h1)
    | 2, _ => exact fdiv_of_mul (by decide) h2
    | 3, _ => exact fdiv_of_mul (by decide) h3
  | g1 h0 h1 h2 h3 => match j, hj with
    | 0, _ => exact h0
    | 1, _ => exact fdiv_of_mul (by decide) (by show 1 * P * 1 = 1 * _; rw [Int.mul_one]; rw [h1])
    | 2, _ => exact fdiv_of_mul (by decide) h2
    | 3, _ => exact fdiv_of_mul (by decide) h3
  | g2 h0 h1 h2 h3 => match j, hj with
    | 0, _ => exact h0
    | 1, _ => exact h1
    | 2, _ => exact fdiv_of_mul (by decide) (by show 2 * P * 1 = 1 * _; rw [Int.mul_one, Int.one_mul]; exact h2)
    | 3, _ => exact fdiv_of_mul (by decide) h3
  | g3 h0 h1 h2 h3 => match j, hj with
    | 0, _ => exact h0
    | 1, _ => exact h1
    | 2, _ => exact h2
    | 3, _ => exact fdiv_of_mul (by decide) (by show 6 * P * 1 = 1 * _; rw [Int.mul_one, Int.one_mul]; exact h3)
  | g4 h0 h1 h2 h3 => match j, hj with
    | 0, _ => exact h0
    | 1, _ => exact h1
    | 2, _ => exact h2
    | 3, _ => exact h3
theorem gaps_eq (st : Int) (zs : List Int) (h : zs.length ≤ 4) (j : Nat) (hj : j < 4) : gapsP st zs j = Ent.colN (pairP st zs).1 j - Ent.colN (pairP st zs).2 j := by
  have h0 : GapI (startP st) (2 * st) 0 1 0 := .g0 rfl (by simp only [startP, dif, Ent.colN]; omega) (by simp only [startP, dif, Ent.colN]; grind) (by simp only [startP, dif, Ent.colN]; grind)
  have h2 := gapI_at (gap_fold zs (by rw [Nat.zero_add]; exact h) h0) j hj
  rw [Nat.zero_add, Int.zero_add] at h2
  exact h2
theorem half_even {a b s g : Int} (h1 : s = a + b) (h2 : g = a - b) : (s + g).fdiv 2 = a ∧ (s - g).fdiv 2 = b :=
  ⟨fdiv_of_mul (by decide) (by omega), fdiv_of_mul (by decide) (by omega)⟩
/-! compare and its closed formula -/
def sideG : List (Int × Int) → (Nat → Int) → Int
  | [], _ => 0
  | (c, d) :: ks, g => if g c.toNat ≠ 0 then (if g c.toNat > 0 then d else -d) else sideG ks g
theorem col_colN (e : Ent) (k : Int) (h0 : 0 ≤ k) (h4 : k < 4) : e.col k = e.colN k.toNat := by
  have hk := int4 h0 h4
  rcases hk with rfl | rfl | rfl | rfl <;> rfl
theorem side_eq (st : Int) (zs : List Int) (h : zs.length ≤ 4) : ∀ ks : List (Int × Int), KeysOk ks → sideP ks (pairP st zs) = sideG ks (gapsP st zs)
  | [], _ => rfl
  | (c, d) :: ks, hk => by
    have hc := hk (c, d) (.head _)
    have ih := side_eq st zs h ks fun k hm => hk k (.tail _ hm)
    have hg := gaps_eq st zs h c.toNat (by simp only at hc; omega)
    simp only [sideP, cmpSide, sideG] at ih ⊢
    rw [ih, hg, col_colN _ c hc.1 hc.2, col_colN _ c hc.1 hc.2]
    generalize (pairP st zs).1.colN c.toNat = x
    generalize (pairP st zs).2.colN c.toNat = y
    by_cases h1 : x < y
    · rw [if_pos h1, if_pos (by omega), if_neg (by omega)]
    · rw [if_neg h1]
      by_cases h2 : x > y
      · rw [if_pos h2, if_pos (by omega), if_pos (by omega)]
      · rw [if_neg h2, if_neg (by omega)]
theorem prod_nonzero : ∀ (zs : List Int) (p : Int), p ≠ 0 → (∀ z ∈ zs, z ≠ 0) → zs.foldl (fun p z => -z * p) p ≠ 0
  | [], p, hp, _ => hp
  | z :: zs, p, hp, h => prod_nonzero zs _ (Int.mul_ne_zero (Int.neg_ne_zero.mpr (h z (.head _))) hp) fun y hy => h y (.tail _ hy)
theorem fac_ne (j : Nat) : facP j ≠ 0 := by
  unfold facP; split <;> decide
theorem gap_at (st : Int) (zs : List Int) (hz : ∀ z ∈ zs, z ≠ 0) : gapsP st zs zs.length ≠ 0 := by
  unfold gapsP
  rw [if_neg (Nat.lt_irrefl _), Nat.sub_self]
  show (facP zs.length * prodP zs * 1).fdiv 1 ≠ 0
  rw [Int.fdiv_one, Int.mul_one]
  exact Int.mul_ne_zero (fac_ne _) (prod_nonzero zs 1 (by decide) hz)
theorem sideG_zero : ∀ (ks : List (Int × Int)) (g : Nat → Int), (∀ k ∈ ks, g k.1.toNat = 0) → sideG ks g = 0
  | [], _, _ => rfl
  | (c, d) :: ks, g, h => by
    have := h (c, d) (.head _)
    simp only at this
    unfold sideG
    rw [if_neg (by rw [this]; decide)]
    exact sideG_zero ks g fun k hk => h k (.tail _ hk)
theorem sideG_ne : ∀ (ks : List (Int × Int)) (g : Nat → Int), (∀ k ∈ ks, k.2 ≠ 0) → (∃ k ∈ ks, g k.1.toNat ≠ 0) → sideG ks g ≠ 0
  | [], _, _, ⟨_, h, _⟩ => by cases h
  | (c, d) :: ks, g, hd, ⟨k, hk, hg⟩ => by
    have hd0 := hd (c, d) (.head _)
    simp only at hd0
    unfold sideG
    by_cases h : g c.toNat ≠ 0
    · rw [if_pos h]; split <;> omega
    · rw [if_neg h]
      refine sideG_ne ks g (fun k hk => hd k (.tail _ hk)) ⟨k, ?_, hg⟩
      rcases List.mem_cons.mp hk with rfl | hk
      · exact absurd hg h
      · exact hk
/-- what is known of the keys -/
structure KeysGood (ks : List (Int × Int)) : Prop where
  ok : KeysOk ks
  low : ∀ k ∈ ks, k.1 < (ks.length : Int)
  all : ∀ j : Nat, j < ks.length → ∃ k ∈ ks, k.1 = (j : Int)
  way : ∀ k ∈ ks, k.2 ≠ 0
  len : 1 ≤ ks.length ∧ ks.length ≤ 4
theorem side_zero_iff {ks : List (Int × Int)} (K : KeysGood ks) (st : Int) (zs : List Int) (h : zs.length ≤ 4) (hz : ∀ z ∈ zs, z ≠ 0) : sideP ks (pairP st zs) = 0 ↔ ks.length ≤ zs.length := by
  rw [side_eq st zs h ks K.ok]
  constructor
  · intro h0
    refine Nat.le_of_not_lt fun hlt => ?_
    obtain ⟨k, hk, e⟩ := K.all zs.length hlt
    exact sideG_ne ks _ K.way ⟨k, hk, by rw [e]; exact gap_at st zs hz⟩ h0
  · intro hle
    refine sideG_zero ks _ fun k hk => ?_
    have h1 := K.low k hk
    have h2 := (K.ok k hk).1
    unfold gapsP
    rw [if_pos (by omega)]
/-! the sizes told -/
def sizesR : List Int → Option Int → Nat → List Int
  | [], _, _ => []
  | x :: r, last, c => if x = 127 then [] else if x = 0 then (match last with | none => [] | some y => List.replicate c y) else x :: sizesR r (some x) c
theorem nexts_sizes : ∀ (row : List Int) (last : Option Int) (c k : Nat), k < c → (∀ z, nexts row last k = .val z → (sizesR row last c)[k]? = some z) ∧ (nexts row last k = .stop → (sizesR row last c)[k]? = none)
  | [], _, _, _, _ => ⟨fun z h => (by cases h), fun _ => rfl⟩
  | x :: r, last, c, k, hk => by
    unfold nexts sizesR
    by_cases h127 : x = 127
    · rw [if_pos h127, if_pos h127]; exact ⟨fun z h => (by cases h), fun _ => rfl⟩
    · rw [if_neg h127, if_neg h127]
      by_cases h0 : x = 0
      · rw [if_pos h0, if_pos h0]
        cases last with
        | none => exact ⟨fun z h => (by cases h), fun h => (by cases h)⟩
        | some y => exact ⟨fun z h => (by cases h; simp [hk]), fun h => (by cases h)⟩
      · rw [if_neg h0, if_neg h0]
        cases k with
        | zero => exact ⟨fun z h => (by cases h; rfl), fun h => (by cases h)⟩
        | succ k =>
          have ih := nexts_sizes r (some x) c k (by omega)
          exact ⟨fun z h => by rw [List.getElem?_cons_succ]; exact ih.1 z h, fun h => by rw [List.getElem?_cons_succ]; exact ih.2 h⟩
theorem nexts_stop_mono : ∀ (row : List Int) (last : Option Int) (k : Nat), nexts row last k = .stop → ∀ j, k ≤ j → nexts row last j = .stop
  | [], _, _, _, _, _ => rfl
  | x :: r, last, k, h, j, hj => by
    unfold nexts at h ⊢
    by_cases h127 : x = 127
    · rw [if_pos h127]
    · rw [if_neg h127] at h ⊢
      by_cases h0 : x = 0
      · rw [if_pos h0] at h ⊢; exact h
      · rw [if_neg h0] at h ⊢
        cases k with
        | zero => cases h
        | succ k =>
          cases j with
          | zero => omega
          | succ j => exact nexts_stop_mono r (some x) k h j (by omega)
def sizesP (row : List Int) (c : Nat) : List Int := (sizesR row none c).take c
theorem run_sizes {row : List Int} {ks : List (Int × Int)} {st : Int} {zs : List Int} (K : KeysGood ks) (hR : RunOk row ks st zs) : zs = sizesP row ks.length := by
  have hnz : ∀ (k : Nat) (z : Int), zs[k]? = some z → z ≠ 0 := fun k z e => (nexts_mem (hR.before k z e).2 (fun y e => by cases e)).2.1
  have hnz' : ∀ z ∈ zs, z ≠ 0 := fun z hz => let ⟨k, e⟩ := List.mem_iff_getElem?.mp hz; hnz k z e
  have hlen : zs.length ≤ ks.length := by
    refine Nat.le_of_not_lt fun hlt => ?_
    obtain ⟨z, hz⟩ : ∃ z, zs[ks.length]? = some z := ⟨_, List.getElem?_eq_getElem hlt⟩
    refine (hR.before _ z hz).1 ?_
    refine (side_zero_iff K st _ ?_ fun y hy => hnz' y (List.mem_of_mem_take hy)).mpr ?_
    · rw [List.length_take]; have := K.len; omega
    · rw [List.length_take]; omega
  have hK := K.len
  refine List.ext_getElem? fun k => ?_
  unfold sizesP
  rw [List.getElem?_take]
  by_cases hk : k < ks.length
  · rw [if_pos hk]
    have hs := nexts_sizes row none ks.length k hk
    cases e : zs[k]? with
    | some z => exact (hs.1 z (hR.before k z e).2).symm
    | none =>
      have hkz : zs.length ≤ k := List.getElem?_eq_none_iff.mp e
      rcases hR.stop with h | h | h
      · have := (side_zero_iff K st zs (by omega) hnz').mp h
        omega
      · exact (hs.2 (nexts_stop_mono row none _ h k hkz)).symm
      · omega
  · rw [if_neg hk]
    exact List.getElem?_eq_none (by omega)
/-! the tables -/
def HoldsF (t : List (Int × Int)) (f : Int → Int) : Prop := ∀ k, 0 ≤ f k ∧ look t k = if 0 < f k then some (f k) else none
theorem cnt_holds {t : List (Int × Int)} {f : Int → Int} (h : HoldsF t f) (k : Int) : cnt t k = f k := by
  obtain ⟨h1, h2⟩ := h k
  unfold cnt; rw [h2]; split
  · rfl
  · show (0 : Int) = f k; omega
theorem look_pos {t : List (Int × Int)} {f : Int → Int} (h : HoldsF t f) {k n : Int} (e : look t k = some n) : 0 < n := by
  obtain ⟨h1, h2⟩ := h k
  rw [h2] at e
  split at e
  · cases e; assumption
  · cases e
theorem holds_put {t : List (Int × Int)} {f g : Int → Int} {k n : Int} (h : HoldsF t f) (hn : 0 < n) (hg : ∀ x, g x = f x + if k = x then n else 0) : HoldsF (put t k (cnt t k + n)) g := by
  intro x
  have h1 := h x
  have h2 := hg x
  rw [look_put, cnt_holds h k]
  by_cases e : k = x
  · subst e
    rw [if_pos rfl] at h2 ⊢
    exact ⟨by omega, by rw [if_pos (by omega), h2]⟩
  · rw [if_neg e, Int.add_zero] at h2
    rw [if_neg e, h2]; exact h1
theorem holds_congr {t : List (Int × Int)} {f g : Int → Int} (h : HoldsF t f) (hg : ∀ x, g x = f x) : HoldsF t g := fun x => by rw [hg x]; exact h x
def weight (s : List (Int × Int)) (k : Int) : Int := (s.map fun kv => if kv.1 = k then kv.2 else 0).sum
theorem holds_fold : ∀ (s t : List (Int × Int)) (f : Int → Int), HoldsF t f → (∀ kv ∈ s, 0 < kv.2) → HoldsF (s.foldl addTo t) (fun k => f k + weight s k)
  | [], t, f, h, _ => holds_congr h fun x => by simp [weight]
  | kv :: s, t, f, h, hp => by
    rw [List.foldl_cons, addTo_eq]
    refine holds_congr (holds_fold s _ (fun x => f x + if kv.1 = x then kv.2 else 0) (holds_put h (hp kv (.head _)) fun x => rfl) fun q hq => hp q (.tail _ hq)) fun x => ?_
    simp only [weight, List.map_cons, List.sum_cons]
    omega
theorem weight_notin : ∀ {s : List (Int × Int)} {k : Int}, k ∉ s.map (·.1) → weight s k = 0
  | [], _, _ => rfl
  | kv :: s, k, h => by
    rw [List.map_cons, List.mem_cons, not_or] at h
    have ih := weight_notin h.2
    simp only [weight, List.map_cons, List.sum_cons] at ih ⊢
    rw [if_neg (fun e => h.1 e.symm), ih]; rfl
theorem weight_nodup : ∀ {s : List (Int × Int)} (k : Int), (s.map (·.1)).Nodup → weight s k = cnt s k
  | [], _, _ => rfl
  | kv :: s, k, h => by
    rw [List.map_cons, List.nodup_cons] at h
    have ih := weight_nodup k h.2
    have e1 : weight (kv :: s) k = (if kv.1 = k then kv.2 else 0) + weight s k := by simp [weight]
    rw [e1]
    unfold cnt look at ih ⊢
    rw [List.find?_cons]
    by_cases e : kv.1 = k
    · rw [if_pos e, weight_notin (e ▸ h.1)]
      simp [e]
    · rw [if_neg e]
      simp only [e, decide_false]
      rw [ih]; simp
theorem nodup_put {t : List (Int × Int)} {k n : Int} (h : (t.map (·.1)).Nodup) : ((put t k n).map (·.1)).Nodup := by
  cases e : look t k with
  | none =>
    rw [put_new e, List.map_append, List.nodup_append]
    refine ⟨h, by simp, fun a ha b hb hab => ?_⟩
    simp at hb
    subst hab; subst hb
    exact look_none_iff.mp e ha
  | some v =>
    rw [put_old e, List.map_map]
    have : ((fun kv : Int × Int => kv.1) ∘ fun kv => if kv.1 = k then (kv.1, n) else kv) = fun kv => kv.1 := by
      funext kv; simp only [Function.comp]; split <;> rfl
    rw [this]; exact h
theorem nodup_fold : ∀ (s t : List (Int × Int)), (t.map (·.1)).Nodup → ((s.foldl addTo t).map (·.1)).Nodup
  | [], _, h => h
  | kv :: s, t, h => by rw [List.foldl_cons, addTo_eq]; exact nodup_fold s _ (nodup_put h)
theorem nodup_shift {t : List (Int × Int)} {z : Int} (hn : (t.map (·.1)).Nodup) : ((t.map fun kv => (kv.1 + z, kv.2)).map (·.1)).Nodup := by
  rw [List.map_map]
  have : ((fun x : Int × Int => x.1) ∘ fun kv : Int × Int => (kv.1 + z, kv.2)) = (fun x => x + z) ∘ fun kv : Int × Int => kv.1 := rfl
  rw [this, ← List.map_map]
  exact List.Pairwise.map _ (fun a b h => by omega) hn
theorem look_shift (t : List (Int × Int)) (z k : Int) : look (t.map fun kv => (kv.1 + z, kv.2)) k = look t (k - z) := by
  induction t with
  | nil => rfl
  | cons kv t ih =>
    unfold look at ih ⊢
    rw [List.map_cons, List.find?_cons, List.find?_cons]
    by_cases e : kv.1 + z = k
    · have e' : kv.1 = k - z := by omega
      simp [e, e']
    · have e' : ¬ kv.1 = k - z := by omega
      simp only [e, e', decide_false]
      exact ih
theorem holds_shift {t : List (Int × Int)} {f : Int → Int} (z : Int) (h : HoldsF t f) : HoldsF (t.map fun kv => (kv.1 + z, kv.2)) (fun k => f (k - z)) := fun k => by
  rw [look_shift]; exact h (k - z)
theorem holds_pos {t : List (Int × Int)} {f : Int → Int} (h : HoldsF t f) (hn : (t.map (·.1)).Nodup) : ∀ kv ∈ t, 0 < kv.2 := fun kv hk => by
  obtain ⟨i, hi⟩ := List.mem_iff_getElem?.mp hk
  exact look_pos h (look_of_get (k := kv.1) (n := kv.2) hn hi)
theorem holds_plus {s t : List (Int × Int)} {f g : Int → Int} (ht : HoldsF t f) (hs : HoldsF s g) (hn : (s.map (·.1)).Nodup) : HoldsF (s.foldl addTo t) (fun k => f k + g k) :=
  holds_congr (holds_fold s t f ht (holds_pos hs hn)) fun x => by rw [weight_nodup x hn, cnt_holds hs x]
def cntM (M : List Int) (k : Int) : Int := (M.count k : Int)
def stepM (p : List Int × List Int) (z : Int) : List Int × List Int := (p.1 ++ p.2.map (· + z), p.2 ++ p.1.map (· + z))
def pairM (st : Int) (zs : List Int) : List Int × List Int := zs.foldl stepM ([st], [])
theorem cntM_append (M M' : List Int) (k : Int) : cntM (M ++ M') k = cntM M k + cntM M' k := by unfold cntM; rw [List.count_append]; omega
theorem cntM_shift (M : List Int) (z k : Int) : cntM (M.map (· + z)) k = cntM M (k - z) := by
  unfold cntM
  congr 1
  induction M with
  | nil => rfl
  | cons x M ih =>
    rw [List.map_cons, List.count_cons, List.count_cons, ih]
    by_cases e : x + z = k
    · have e' : x = k - z := by omega
      simp [e, e']
    · have e' : ¬ x = k - z := by omega
      have h1 : ((x + z) == k) = false := by simpa using e
      have h2 : (x == (k - z)) = false := by simpa using e'
      rw [h1, h2]
def TabOk (t : List (Int × Int)) (M : List Int) : Prop := HoldsF t (cntM M) ∧ (t.map (·.1)).Nodup
theorem step_ok {p : Ent × Ent} {q : List Int × List Int} (z : Int) (h1 : TabOk p.1.tab q.1) (h2 : TabOk p.2.tab q.2) : TabOk (stepP p z).1.tab (stepM q z).1 ∧ TabOk (stepP p z).2.tab (stepM q z).2 := by
  constructor
  · exact ⟨holds_congr (holds_plus h1.1 (holds_shift z h2.1) (nodup_shift h2.2)) fun x => by rw [stepM, cntM_append, cntM_shift], nodup_fold _ _ h1.2⟩
  · exact ⟨holds_congr (holds_plus h2.1 (holds_shift z h1.1) (nodup_shift h1.2)) fun x => by rw [stepM, cntM_append, cntM_shift], nodup_fold _ _ h2.2⟩
theorem fold_ok : ∀ (zs : List Int) {p : Ent × Ent} {q : List Int × List Int}, TabOk p.1.tab q.1 → TabOk p.2.tab q.2 → TabOk (zs.foldl stepP p).1.tab (zs.foldl stepM q).1 ∧ TabOk (zs.foldl stepP p).2.tab (zs.foldl stepM q).2
  | [], _, _, h1, h2 => ⟨h1, h2⟩
  | z :: zs, _, _, h1, h2 => let ⟨a, b⟩ := step_ok z h1 h2; fold_ok zs a b
theorem pair_ok (st : Int) (zs : List Int) : TabOk (pairP st zs).1.tab (pairM st zs).1 ∧ TabOk (pairP st zs).2.tab (pairM st zs).2 := by
  refine fold_ok zs ⟨fun k => ?_, by simp [startP]⟩ ⟨fun k => ?_, by simp [startP]⟩
  · show _ ∧ look [(st, 1)] k = _
    rw [look_single]
    unfold cntM
    rw [List.count_cons, List.count_nil]
    by_cases e : st = k
    · simp [e]
    · simp [e]
  · exact ⟨by simp [cntM], rfl⟩
/-- the sizes that a pick takes -/
def takenP (zs : List Int) (i : Nat) : List Int := (List.range zs.length).filterMap fun k => if i / 2 ^ k % 2 = 1 then zs[k]? else none
def tabStep (st : Int) (zs : List Int) (p : List (Int × Int) × List (Int × Int)) (i : Nat) : List (Int × Int) × List (Int × Int) :=
  if (takenP zs i).length % 2 = 0 then (put p.1 (st + (takenP zs i).sum) (cnt p.1 (st + (takenP zs i).sum) + 1), p.2)
  else (p.1, put p.2 (st + (takenP zs i).sum) (cnt p.2 (st + (takenP zs i).sum) + 1))
def tablesP (st : Int) (zs : List Int) (i : Nat) : List (Int × Int) × List (Int × Int) := (List.range i).foldl (tabStep st zs) ([], [])
def stepT (st : Int) (zs : List Int) (q : List Int × List Int) (i : Nat) : List Int × List Int :=
  if (takenP zs i).length % 2 = 0 then (q.1 ++ [st + (takenP zs i).sum], q.2) else (q.1, q.2 ++ [st + (takenP zs i).sum])
theorem tab_step_ok {st : Int} {zs : List Int} {p : List (Int × Int) × List (Int × Int)} {q : List Int × List Int} (i : Nat) (h1 : TabOk p.1 q.1) (h2 : TabOk p.2 q.2) : TabOk (tabStep st zs p i).1 (stepT st zs q i).1 ∧ TabOk (tabStep st zs p i).2 (stepT st zs q i).2 := by
  have hc : ∀ (M : List Int) (y x : Int), cntM (M ++ [y]) x = cntM M x + if y = x then 1 else 0 := fun M y x => by
    rw [cntM_append]; unfold cntM; rw [List.count_cons, List.count_nil]
    by_cases e : y = x <;> simp [e]
  unfold tabStep stepT
  split
  · exact ⟨⟨holds_put h1.1 (by decide) fun x => hc _ _ x, nodup_put h1.2⟩, h2⟩
  · exact ⟨h1, ⟨holds_put h2.1 (by decide) fun x => hc _ _ x, nodup_put h2.2⟩⟩
theorem tab_fold_ok {st : Int} {zs : List Int} : ∀ (l : List Nat) {p : List (Int × Int) × List (Int × Int)} {q : List Int × List Int}, TabOk p.1 q.1 → TabOk p.2 q.2 → TabOk (l.foldl (tabStep st zs) p).1 (l.foldl (stepT st zs) q).1 ∧ TabOk (l.foldl (tabStep st zs) p).2 (l.foldl (stepT st zs) q).2
  | [], _, _, h1, h2 => ⟨h1, h2⟩
  | i :: l, _, _, h1, h2 => let ⟨a, b⟩ := tab_step_ok i h1 h2; tab_fold_ok l a b
def stepT' (st : Int) (zs : List Int) (q : List Int × List Int) (i : Nat) : List Int × List Int :=
  if (takenP zs i).length % 2 = 0 then (q.1 ++ [(takenP zs i).foldl (· + ·) st], q.2) else (q.1, q.2 ++ [(takenP zs i).foldl (· + ·) st])
theorem sum_foldl : ∀ (l : List Int) (st : Int), st + l.sum = l.foldl (· + ·) st
  | [], st => Int.add_zero st
  | x :: l, st => by rw [List.sum_cons, ← Int.add_assoc]; exact sum_foldl l (st + x)
theorem picks_eq (st : Int) (zs : List Int) (h : zs.length ≤ 4) : (List.range (2 ^ zs.length)).foldl (stepT st zs) ([], []) = pairM st zs := by
  have e : stepT st zs = stepT' st zs := by funext q i; unfold stepT stepT'; rw [sum_foldl]
  rw [e]
  clear e
  revert h
  exact list4 (P := fun zs => (List.range (2 ^ zs.length)).foldl (stepT' st zs) ([], []) = pairM st zs) rfl (fun _ => by kernel_rfl!) (fun _ _ => by kernel_rfl!) (fun _ _ _ => by kernel_rfl!) (fun _ _ _ _ => by kernel_rfl!) zs
theorem tables_ok (st : Int) (zs : List Int) (h : zs.length ≤ 4) : TabOk (tablesP st zs (2 ^ zs.length)).1 (pairM st zs).1 ∧ TabOk (tablesP st zs (2 ^ zs.length)).2 (pairM st zs).2 := by
  rw [← picks_eq st zs h]
  exact tab_fold_ok (List.range (2 ^ zs.length)) ⟨fun k => ⟨by simp [cntM], rfl⟩, by simp⟩ ⟨fun k => ⟨by simp [cntM], rfl⟩, by simp⟩
theorem TabOk.look {t t' : List (Int × Int)} {M : List Int} (h : TabOk t M) (h' : TabOk t' M) (k : Int) : look t k = look t' k := by rw [(h.1 k).2, (h'.1 k).2]
/-! count_calls -/
theorem vals_put_new (t : List (Int × Int)) (k n : Int) (e : look t k = none) : vals (put t k n) = vals t + n := by
  rw [put_new e]; simp [vals]
theorem vals_mapSet : ∀ (t : List (Int × Int)) (k n v : Int), (t.map (·.1)).Nodup → look t k = some v → vals (t.map (fun kv => if kv.1 = k then (kv.1, n) else kv)) = vals t + n - v
  | [], _, _, _, _, e => by cases e
  | kv :: t, k, n, v, hn, e => by
    rw [List.map_cons, List.nodup_cons] at hn
    unfold Mine.look at e
    rw [List.find?_cons] at e
    by_cases h : kv.1 = k
    · simp only [h, decide_true, Option.map_some] at e
      cases e
      have hrest : t.map (fun kv => if kv.1 = k then (kv.1, n) else kv) = t := by
        conv => rhs; rw [← List.map_id t]
        exact List.map_congr_left fun x hx => if_neg (fun e => hn.1 (by rw [h, ← e]; exact List.mem_map_of_mem hx))
      simp only [vals, List.map_cons, List.sum_cons, if_pos h, hrest]
      omega
    · simp only [h, decide_false] at e
      have ih := vals_mapSet t k n v hn.2 e
      simp only [vals, List.map_cons, List.sum_cons, if_neg h] at ih ⊢
      omega
theorem vals_addTo {t : List (Int × Int)} (kv : Int × Int) (hn : (t.map (·.1)).Nodup) : vals (addTo t kv) = vals t + kv.2 := by
  unfold addTo
  cases e : look t kv.1 with
  | none => exact vals_put_new t _ _ e
  | some v =>
    show vals (put t kv.1 (v + kv.2)) = _
    rw [put_old e, vals_mapSet t _ _ v hn e]; omega
theorem vals_fold : ∀ (s t : List (Int × Int)), (t.map (·.1)).Nodup → vals (s.foldl addTo t) = vals t + vals s
  | [], t, _ => by simp [vals]
  | kv :: s, t, h => by
    rw [List.foldl_cons, vals_fold s _ (by rw [addTo_eq]; exact nodup_put h), vals_addTo kv h]
    simp only [vals, List.map_cons, List.sum_cons]; omega
theorem vals_shift (t : List (Int × Int)) (z : Int) : vals (t.map fun kv => (kv.1 + z, kv.2)) = vals t := by
  unfold vals; rw [List.map_map]; rfl
theorem vals_pairs : ∀ (zs : List Int) (p : Ent × Ent), (p.1.tab.map (·.1)).Nodup → (p.2.tab.map (·.1)).Nodup → vals p.1.tab = p.1.c0 → vals p.2.tab = p.2.c0 → vals (zs.foldl stepP p).1.tab = (zs.foldl stepP p).1.c0 ∧ vals (zs.foldl stepP p).2.tab = (zs.foldl stepP p).2.c0
  | [], _, _, _, h1, h2 => ⟨h1, h2⟩
  | z :: zs, p, n1, n2, h1, h2 => by
    rw [List.foldl_cons]
    refine vals_pairs zs _ (nodup_fold _ _ n1) (nodup_fold _ _ n2) ?_ ?_
    · show vals ((p.2.moved z).tab.foldl addTo p.1.tab) = (p.2.moved z).c0 + p.1.c0
      rw [vals_fold _ _ n1, h1]
      show p.1.c0 + vals (p.2.tab.map _) = _
      rw [vals_shift, h2]; exact Int.add_comm _ _
    · show vals ((p.1.moved z).tab.foldl addTo p.2.tab) = (p.1.moved z).c0 + p.2.c0
      rw [vals_fold _ _ n2, h2]
      show p.2.c0 + vals (p.1.tab.map _) = _
      rw [vals_shift, h1]; exact Int.add_comm _ _
theorem vals_pair (st : Int) (zs : List Int) : vals (pairP st zs).1.tab = (pairP st zs).1.c0 ∧ vals (pairP st zs).2.tab = (pairP st zs).2.c0 :=
  vals_pairs zs (startP st) (by simp [startP]) (by simp [startP]) (by simp [vals, startP]) (by simp [vals, startP])
end SPlain63
section SAux63
theorem rst_Aux63 : True := by w_top off; trivial
theorem news_list {g h : Heap} {L l : Addr} {news : List (Addr × Obj)} {its : Array Value} {n : Nat} (N : News g L h news) (hm : (l, W.listOf its n) ∈ news) : h.IsList l its := ⟨_, (N _ hm).1, rfl, _, rfl⟩
theorem intsAre_app : ∀ {l l' : List Value} {n n' : List Int}, IntsAre l n → IntsAre l' n' → IntsAre (l ++ l') (n ++ n')
  | _, _, _, _, .nil, h => h
  | _, _, _, _, .cons k t r, h => .cons k t (intsAre_app r h)
theorem range_size (n : Nat) : Builtin.Range.rangeSize 0 (n : Int) 1 = (n : Int) := by
  unfold Builtin.Range.rangeSize
  by_cases h : (n : Int) ≤ 0
  · have : n = 0 := by omega
    subst this; decide
  · simp; omega
theorem range_small {n : Nat} (hn : n ≤ 1000) : Builtin.Range.small 0 (n : Int) 1 = true := by
  unfold Builtin.Range.small
  rw [range_size]
  unfold Builtin.Range.rangeFitsLong
  simp
  omega
theorem ints_of_news {g h : Heap} {L D : Addr} {ys : List Value} {news : List (Addr × Obj)} {ns : List Int} (_ : News g L h ((D, LCg.lst ys) :: news)) (hi : IntsAre ys ns) : IntsAre ys ns := hi
theorem cut_at : ∀ {l : List Value} {ns : List Int} {k : Nat}, IntsAre l ns → k < l.length → ∃ p t y q p' q', kl_cut l k = some (p, .int y t, q) ∧ ns = p' ++ y :: q' ∧ IntsAre (p ++ q) (p' ++ q')
  | _, _, _, .nil, h => by simp at h
  | _, _, 0, .cons y t r, _ => ⟨[], t, y, _, [], _, rfl, rfl, r⟩
  | _, _, k + 1, .cons y t r, h => by
    obtain ⟨p, t', y', q, p', q', e1, e2, e3⟩ := cut_at (k := k) r (by simpa using h)
    exact ⟨_ :: p, t', y', q, _ :: p', q', by unfold kl_cut; rw [e1], by rw [e2]; rfl, .cons _ _ e3⟩
theorem seqIndex_of {i : Int} {n : Nat} (h0 : 0 ≤ i) (h1 : i < n) : seqIndex? i n = some i.toNat := by
  unfold seqIndex?
  have : ¬ i < 0 := by omega
  simp only [this, if_false]
  simp [h0, h1]
theorem fits_of {i : Int} (h0 : 0 ≤ i) (h1 : i < 1000) : Builtin.List.listFitsIndex i = true := by
  unfold Builtin.List.listFitsIndex
  simp; omega
theorem ints_range {ys : List Value} {f : Nat → Int} {i : Nat} {y : Int} {t : Tok} (hy : IntsAre ys ((List.range i).map f)) (e : y = f i) : IntsAre (ys ++ [.int y t]) ((List.range (i + 1)).map f) := by
  rw [List.range_succ, List.map_append, e]
  exact intsAre_app hy (.cons _ _ .nil)
end SAux63
section SCompP63
theorem rst_CompP63 : True := by w_top off; trivial
open PyProof.Rows.LCg
section
variable {prog : Program} {w : World} {A : Around} {E : Value → Shared → Prop} {s : Shared} {h₀ : Heap} {L : Addr} {m : Str → Option Value} {env : Env}
/-- the source of a comprehension over a list of pairs of the ground -/
def PairSrc (prog : Program) (w : World) (A : Around) (h₀ : Heap) (L : Addr) (m : Str → Option Value) (env : Env) (c elt : Expr) (a b : Str) (scope : Scope) (cl : List (Str × Addr)) (Fin : Shared → List Value → List (Addr × Obj) → Prop) (xv : Value) (s₁ : Shared) : Prop :=
  ∃ (l : Addr) (items : Array Value) (xs : List ((Tok → Value) × Value)) (news : List (Addr × Obj)), xv = .ref l ∧ A.handled = none ∧ Fr h₀ L s₁.heap m ∧ News h₀ L s₁.heap news ∧ h₀.IsList l items ∧ items.size ≤ sizeLine ∧ xs.length = items.size ∧
    (∀ (i : Nat) (v : Value), items[i]? = some v → ∃ (T : Addr) (p : (Tok → Value) × Value) (t : Tok), v = .ref T ∧ xs[i]? = some p ∧ h₀.IsTuple T #[p.1 t, p.2]) ∧
    ∀ g : Heap, KctRest prog w A h₀ L m env c elt a b scope cl { s₁ with heap := g } (fun _ => True) (Fin { s₁ with heap := g }) xs [] news
/-- what holds between two turns -/
def PairInv (prog : Program) (w : World) (A : Around) (h₀ : Heap) (L : Addr) (m : Str → Option Value) (env : Env) (c elt : Expr) (a b : Str) (scope : Scope) (cl : List (Str × Addr)) (Fin : List Value → List (Addr × Obj) → Prop) (s₂ : Shared) (xs : List ((Tok → Value) × Value)) (I C D l : Addr) (n : Nat) (k : Nat) (s' : Shared) : Prop :=
  ∃ h' tk i ys m' news', s' = { s₂ with heap := h', toks := tk } ∧ i ≤ n ∧ k = n + 1 - i ∧ ys.length ≤ i ∧ h'.IsListIter I l i ∧ Fr h₀ L h' m ∧ h'.Ns C m' ∧ News h₀ L h' ((D, lst ys) :: news') ∧ Off3 I C D news' ∧
    KctRest prog w A h₀ L m env c elt a b scope cl s₂ (fun _ => True) Fin (xs.drop i) ys news'
theorem get_none {h : Heap} {b : Addr} (hb : h.objs.size ≤ b) : h.get? b = none := by
  cases e : h.get? b with
  | none => rfl
  | some o => exact absurd (Heap.lt_size e) (Nat.not_lt.mpr hb)
theorem pairs_core {elt iter c : Expr} {a b : Str} {pa pb tp : Pos} {kk : Nat} {scope : Scope} {cl : List (Str × Addr)} {pos : Pos} {Fin : Shared → List Value → List (Addr × Obj) → Prop} {RR : Value → Addr → Result → Shared → Prop} {xv : Value} {s₁ : Shared}
    (hcell : ∀ y ∈ scope.names, y.2 ≠ .cell) (hkind : scope.kind = .function) (hxa : scope.names.lookup a = some .local) (hxb : scope.names.lookup b = some .local) (hab : ¬ a = b)
    (h₁ : PairSrc prog w A h₀ L m env c elt a b scope cl Fin xv s₁)
    (hRR : ∀ g D C h tk m' ys news', Fr h₀ L h m → News h₀ L h ((D, lst ys) :: news') → Off1 D news' → h.Ns C m' → h₀.get? C = none → C ≠ L → C ≠ D → (∀ p ∈ news', p.1 ≠ C) → Fin { s₁ with heap := g } ys news' → RR (.ref D) C (.ok .next) { s₁ with heap := h, toks := tk }) :
    wpAny (model prog w) A (pyIter xv) (fun it s₂ => wpAny (model prog w) A (newList []) (fun acc s₃ => wpAny (model prog w) A (newFunctionEnv scope env.globals cl [] env.qual none .none (some env)) (fun cenv s₄ =>
      codeAny (model prog w) A (.compStart (.ListComp elt [⟨.Tuple [.Name a pa, .Name b pb] kk tp, iter, [c], 0⟩] scope pos) 0 it acc { cenv with scope := relabel scope env }) (RR acc cenv.locals) s₄) E s₃) E s₂) E s₁ := by
  obtain ⟨l, items, xs, news, rfl, hh, F, N, hl, hsz, hlen, hxs, R⟩ := h₁
  have hl₁ : s₁.heap.IsList l items := hl.at fun o e => F.keep _ o e
  obtain ⟨ol, hol, _⟩ := id hl₁
  have hll := Heap.lt_size hol
  obtain ⟨ol₀, hol₀, _⟩ := id hl
  refine wpAny_pyIter_list hl₁ ?_
  -- the iterator
  obtain ⟨H1, hH1⟩ : ∃ H1, H1 = s₁.heap.push { cls := .type "list_iterator", data := .fields #[.ref l, .int 0 0] } := ⟨_, rfl⟩
  rw [← hH1]
  have up1 : ∀ b o, s₁.heap.get? b = some o → H1.get? b = some o := fun b o e => by rw [hH1]; exact Heap.get?_push_of_some _ e
  have sz1 : H1.objs.size = s₁.heap.objs.size + 1 := by rw [hH1, Heap.size_push]
  have it1 : H1.IsListIter s₁.heap.objs.size l 0 := by rw [hH1]; exact ⟨_, Heap.get?_push_size _ rfl, rfl, rfl⟩
  refine wpAny_newObj_type (wpAny_newFunctionEnv hcell (by intro y hy; simp at hy) (fun h₂ hns₂ hsb₂ => ?_) hkind)
  dsimp only at hns₂ hsb₂ ⊢
  obtain ⟨H2, hH2⟩ : ∃ H2, H2 = H1.push { cls := .type "list", dict := none, data := .seq ([] : List Value).toArray } := ⟨_, rfl⟩
  rw [← hH2] at hns₂ hsb₂ ⊢
  have sz2 : H2.objs.size = s₁.heap.objs.size + 2 := by rw [hH2, Heap.size_push, sz1]
  have up2 : ∀ b o, H1.get? b = some o → H2.get? b = some o := fun b o e => by rw [hH2]; exact Heap.get?_push_of_some _ e
  have acc2 : H2.get? H1.objs.size = some (lst []) := by rw [hH2]; exact Heap.get?_push_size _ rfl
  generalize hI : s₁.heap.objs.size = I at *
  generalize hD : H1.objs.size = D at *
  generalize hC : H2.objs.size = C at *
  have lD : @LT.lt Nat _ I D := Nat.lt_of_lt_of_eq (Nat.lt_succ_self I) sz1.symm
  have lC : @LT.lt Nat _ I C := Nat.lt_of_lt_of_eq (Nat.lt_add_of_pos_right (by decide)) sz2.symm
  have nID : I ≠ D := Nat.ne_of_lt lD
  have nIC : I ≠ C := Nat.ne_of_lt lC
  have nDC : D ≠ C := Nat.ne_of_lt (by rw [sz1, sz2]; exact Nat.lt_succ_self _)
  have old : ∀ b o, s₁.heap.get? b = some o → h₂.get? b = some o := fun b o e => hsb₂.extBut b o (Nat.ne_of_lt (by have h1 : @LT.lt Nat _ b s₁.heap.objs.size := Heap.lt_size e; rw [hI] at h1; exact Nat.lt_trans h1 lC)) (Heap.get?_push_of_some _ (up2 b o (up1 b o e)))
  have hI₀ : h₀.get? I = none := none_of F (get_none (Nat.le_of_eq hI))
  have hD₀ : h₀.get? D = none := none_of F (get_none (by rw [hI]; exact Nat.le_of_lt lD))
  have hC₀ : h₀.get? C = none := none_of F (get_none (by rw [hI]; exact Nat.le_of_lt lC))
  have hLlt : @LT.lt Nat _ L I := hI ▸ F.ns.lt
  have nLI : L ≠ I := Nat.ne_of_lt hLlt
  have nLD : L ≠ D := Nat.ne_of_lt (Nat.lt_trans hLlt lD)
  have nLC : L ≠ C := Nat.ne_of_lt (Nat.lt_trans hLlt lC)
  have nlI : l ≠ I := Nat.ne_of_lt (by omega)
  have off₀ : Off3 I C D news := Off3.of fun p hp => by
    have h1 : @LT.lt Nat _ p.1 s₁.heap.objs.size := Heap.lt_size (N p hp).1
    rw [hI] at h1
    exact ⟨Nat.ne_of_lt h1, Nat.ne_of_lt (Nat.lt_trans h1 lC), Nat.ne_of_lt (Nat.lt_trans h1 lD)⟩
  have W := Walks.list (prog := prog) (w := w) hh I l nlI items
  have st2 : h₂.IsListIter I l 0 ∧ h₂.IsList l items := by
    refine ⟨?_, hl₁.at fun o e => old _ o e⟩
    obtain ⟨o, e, r⟩ := it1
    exact ⟨o, hsb₂.extBut I o nIC (Heap.get?_push_of_some _ (up2 _ o e)), r⟩
  have N2 : News h₀ L h₂ ((D, lst []) :: news) := fun p hp => by
    rcases List.mem_cons.mp hp with rfl | hp
    · exact ⟨hsb₂.extBut _ _ nDC (Heap.get?_push_of_some _ acc2), Ne.symm nLD, hD₀⟩
    · exact ⟨old _ _ (N p hp).1, (N p hp).2⟩
  have loop : ∀ s₃ : Shared, s₃ = { s₁ with heap := h₂, toks := s₁.toks + ([] : List (Str × Value)).length } →
      codeAny (model prog w) A (.compLoop (.ListComp elt [⟨.Tuple [.Name a pa, .Name b pb] kk tp, iter, [c], 0⟩] scope pos) 0 (.ref I) (.ref D) (compEnvC scope cl C env))
        (RR (.ref D) C) s₃ := by
    rintro s₃ rfl
    refine kct_loop (PairInv prog w A h₀ L m env c elt a b scope cl (Fin { s₁ with heap := H1 }) { s₁ with heap := H1 } xs I C D l items.size) ?_ (items.size + 1)
      ⟨h₂, _, 0, [], _, news, rfl, Nat.zero_le _, rfl, Nat.le_refl _, st2.1, F.keeps old, hns₂, N2, off₀, by rw [List.drop_zero]; exact R _⟩
    rintro k s' ⟨h', tk, i, ys, m', news', rfl, hi, rfl, hyl, hit', F', hn', N', off', R'⟩
    have off3 := off'.mem
    have hl' : h'.IsList l items := hl.at fun o e => F'.keep _ o e
    by_cases hlt : i < items.size
    · refine W.item i _ _ _ hlt ⟨hit', hl'⟩ fun v h3 tk3 hPv hst3 hk3 => ?_
      obtain ⟨T, p, t, rfl, hp, hT⟩ := hxs i v hPv
      have k3 : ∀ b o, b ≠ I → h'.get? b = some o → h3.get? b = some o := fun b o hb e => hk3 b o (by simpa using hb) e
      have F3 : Fr h₀ L h3 m := LCg.fr_but F' hk3 nLI hI₀
      have N3 : News h₀ L h3 ((D, lst ys) :: news') := LCg.news_but N' hk3 fun q hq => by
        rcases List.mem_cons.mp hq with rfl | hq
        · exact Ne.symm nID
        · exact (off3 q hq).1
      have hT3 : IsTup h3 T #[p.1 t, p.2] := hT.at fun o e => F3.keep _ o e
      refine wpAny_letOwnedTupleGo_listiter hst3.1 ?_
      refine assign_Tuple_tuple hh hT3 rfl rfl fun h4 he => ?_
      have he' : ∀ b o, h3.get? b = some o → h4.get? b = some o := fun b o e => he b o (Nat.ne_of_lt (Heap.lt_size e)) e
      have ns4 := (hn'.at' fun o e => k3 C o (Ne.symm nIC) e).at' fun o e => he' C o e
      refine assignInOrder_cons (wpAny_assign_Name (wpAny_storeName_local (lookup_relabel_local hxa) ns4 (fun h5 ns5 sb5 => ?_) (by simp [compEnvC, relabel, hkind])))
      refine assignInOrder_cons (wpAny_assign_Name (wpAny_storeName_local (lookup_relabel_local hxb) ns5 (fun h6 ns6 sb6 => ?_) (by simp [compEnvC, relabel, hkind])))
      refine assignInOrder_nil ?_
      have k6 : ∀ b o, b ≠ C → h3.get? b = some o → h6.get? b = some o := fun b o hb e => sb6.extBut b o hb (sb5.extBut b o hb (he' b o e))
      obtain ⟨oI, hoI, rI⟩ := hst3.1
      obtain ⟨oC, hoC, rC⟩ := ns_obj ns6
      have F6 : Fr h₀ L h6 m := ((F3.keeps he').change sb5 (Ne.symm nLC) hC₀).change sb6 (Ne.symm nLC) hC₀
      have N6 : News h₀ L h6 ((I, oI) :: (C, oC) :: (D, lst ys) :: news') := fun q hq => by
        rcases List.mem_cons.mp hq with rfl | hq
        · exact ⟨k6 _ _ nIC hoI, Ne.symm nLI, hI₀⟩
        · rcases List.mem_cons.mp hq with rfl | hq
          · exact ⟨hoC, Ne.symm nLC, hC₀⟩
          · refine ⟨k6 _ _ ?_ (N3 q hq).1, (N3 q hq).2⟩
            rcases List.mem_cons.mp hq with rfl | hq
            · exact nDC
            · exact (off3 q hq).2.1
      have hdrop : xs.drop i = p :: xs.drop (i + 1) := by
        obtain ⟨hl9, e9⟩ := List.getElem?_eq_some_iff.mp hp
        rw [List.drop_eq_getElem_cons hl9, e9]
      rw [hdrop] at R'
      have fin : ∀ (ys' : List Value) (h7 : Heap) (tk7 : Nat) (news7 : List (Addr × Obj)), ys'.length ≤ i + 1 → Fr h₀ L h7 m → News h₀ L h7 ((I, oI) :: (C, oC) :: (D, lst ys') :: news7) → Off3 I C D news7 →
          KctRest prog w A h₀ L m env c elt a b scope cl { s₁ with heap := H1 } (fun _ => True) (Fin { s₁ with heap := H1 }) (xs.drop (i + 1)) ys' news7 →
          ∃ k', k' < items.size + 1 - i ∧ PairInv prog w A h₀ L m env c elt a b scope cl (Fin { s₁ with heap := H1 }) { s₁ with heap := H1 } xs I C D l items.size k' { s₁ with heap := h7, toks := tk7 } := by
        intro ys' h7 tk7 news7 hl7 F7 N7 off7 R7
        refine ⟨items.size + 1 - (i + 1), down_lt (by first | assumption | omega), h7, tk7, i + 1, ys', _, news7, rfl, hlt, rfl, hl7, ⟨oI, (N7 _ (.head _)).1, rI⟩, F7, rC.ns (N7 _ (.tail _ (.head _))).1, fun q hq => N7 q (.tail _ (.tail _ hq)), off7, R7⟩
      refine wpAny_mono (R' t I oI C oC D _ h6 _ _ rC (by simp [hab]) (by simp) F6 N6 off' ⟨nIC, nID, Ne.symm nDC⟩) (fun okb s5 h5 => ?_) fun _ _ e => e
      cases okb with
      | false =>
        simp only [Bool.false_eq_true, if_false] at h5 ⊢
        obtain ⟨h7, tk7, news7, rfl, F7, N7, off7, -, R7⟩ := h5
        exact fin ys h7 tk7 news7 (Nat.le_succ_of_le hyl) F7 N7 off7 R7
      | true =>
        simp only [if_true] at h5 ⊢
        refine wpAny_mono h5 (fun y s8 h8 => ?_) fun _ _ e => e
        obtain ⟨h7, tk7, news7, rfl, F7, N7, off7, -, R7⟩ := h8
        have zI := N7 (I, oI) (.head _)
        have zC := N7 (C, oC) (.tail _ (.head _))
        have zD := N7 (D, lst ys) (.tail _ (.tail _ (.head _)))
        refine append_at (hsz := by show ys.toArray.size ≤ sizeLine; rw [List.size_toArray]; exact Nat.le_trans hyl (Nat.le_trans hi hsz)) zD.1 fun h9 sb9 hD9 => ?_
        refine fin (ys ++ [y]) h9 _ news7 (by rw [List.length_append, List.length_singleton]; exact Nat.succ_le_succ hyl) (F7.change sb9 (Ne.symm nLD) hD₀) (fun q hq => ?_) off7 R7
        rcases List.mem_cons.mp hq with rfl | hq
        · exact ⟨sb9.extBut _ _ nID zI.1, zI.2⟩
        rcases List.mem_cons.mp hq with rfl | hq
        · exact ⟨sb9.extBut _ _ (Ne.symm nDC) zC.1, zC.2⟩
        rcases List.mem_cons.mp hq with rfl | hq
        · exact ⟨hD9.trans (congrArg some (lst_snoc ys y)), zD.2⟩
        · have zq := N7 q (.tail _ (.tail _ (.tail _ hq)))
          exact ⟨sb9.extBut _ _ (off7.mem q hq).2.2 zq.1, zq.2⟩
    · have hin : i = items.size := Nat.le_antisymm hi (Nat.not_lt.mp hlt)
      subst hin
      rw [← hlen, List.drop_length] at R'
      refine W.done _ _ _ ⟨hit', hl'⟩ fun h3 tk3 hk3 => ?_
      have nsd := hn'.at' fun o e => hk3 C o (by simpa using Ne.symm nIC) e
      exact hRR H1 D C h3 tk3 _ ys news' (LCg.fr_but F' hk3 nLI hI₀) (LCg.news_but N' hk3 fun q hq => by
        rcases List.mem_cons.mp hq with rfl | hq
        · exact Ne.symm nID
        · exact (off3 q hq).1) off'.one nsd hC₀ (Ne.symm nLC) (Ne.symm nDC) (fun q hq => (off3 q hq).2.1) R'
  exact codeAny_compStart_list (loop _ rfl) (W.self 0 _ _ _ st2 (loop _ rfl))
theorem assign_comp_pairs {elt iter c : Expr} {a b y : Str} {pa pb tp py : Pos} {kk : Nat} {scope : Scope} {cl : List (Str × Addr)} {pos spos : Pos} {Q : Flow → Shared → Prop} (F₀ : Fr h₀ L s.heap m) (hLe : env.locals = L)
    (hsw : swapsWith (.ListComp elt [⟨.Tuple [.Name a pa, .Name b pb] kk tp, iter, [c], 0⟩] scope pos) (some (.Name y py)) spos.line env = pure true)
    (hclos : closureFor scope env = pure cl) (hcell : ∀ y ∈ scope.names, y.2 ≠ .cell) (hkind : scope.kind = .function)
    (hnames : ∀ y ∈ scope.names, y.2 = .local → scope.names.lookup y.1 = some .local) (hxa : scope.names.lookup a = some .local) (hxb : scope.names.lookup b = some .local) (hab : ¬ a = b)
    (hy : env.kindOf y = some .local) (hp : (env.scope.kind == .class || (env.scope.kind == .module && env.locals != env.globals)) = false)
    (h : wpAny (model prog w) A (eval iter env) (PairSrc prog w A h₀ L m env c elt a b scope cl (fun s₂ => FinA h₀ L m s₂ y Q)) E s)
    (hs : ∀ x, foldedSetIterable iter env x = pure x := by intro _; rfl) :
    wpAny (model prog w) A (exec (.Assign [.Name y py] (.ListComp elt [⟨.Tuple [.Name a pa, .Name b pb] kk tp, iter, [c], 0⟩] scope pos) spos) env) Q E s := by
  subst hLe
  rw [exec_Assign_Name_used _ _ _ _ hsw]
  refine wpAny_bind (wpAny_standAt (wpAny_bind ?_))
  show wpAny _ A (do let _ ← comprehension (.ListComp elt [⟨.Tuple [.Name a pa, .Name b pb] kk tp, iter, [c], 0⟩] scope pos) scope env _ (newList []) false (eval iter env) (some (assign (.Name y py) env))) _ _ s
  refine wpAny_bind (wpAny_mono (wpAny_comprehension_free (use := some (assign (.Name y py) env)) (Q := fun _ s' => Q .next s') rfl hs hclos hkind hnames
    (wpAny_mono h (fun xv s₁ h₁ => ?_) fun _ _ e => e)) (fun _ s' hq => wpAny_pure (wpAny_pure hq)) fun _ _ e => e)
  refine pairs_core hcell hkind hxa hxb hab h₁ fun g D C h' tk m' ys news' F' N' o1 hn hC₀ hCL hCD offC fin => ?_
  show wpAny _ A (assign (.Name y py) env (.ref D)) _ _ _
  refine wpAny_assign_Name (wpAny_storeName_local hy F'.ns (fun h₂ hn₂ hs₂ => ?_) hp)
  have hL₀ : h₀.get? env.locals = none := Heap.get?_none_of_le F'.above
  have F₂ : Fr h₀ env.locals h₂ (fun z => if z = y then some (.ref D) else m z) := ⟨hn₂, fun b o e => hs₂.extBut b o (fun q => by rw [q, hL₀] at e; cases e) (F'.keep b o e), F'.above⟩
  refine ⟨m', hn.sameBut hs₂ hCL, fun h'' sb => fin D h'' _ (F₂.change sb hCL hC₀) (fun q hq => ⟨sb.extBut _ _ ?_ (hs₂.extBut _ _ (N' q hq).2.1 (N' q hq).1), (N' q hq).2⟩) o1⟩
  rcases List.mem_cons.mp hq with rfl | hq
  · exact Ne.symm hCD
  · exact offC q hq
end
end SCompP63
section SEq63
theorem rst_Eq63 : True := by w_top off; trivial
theorem ne_tuples {prog : Program} {w : World} {A : Around} {E : Value → Shared → Prop} {s : Shared} {a b : Addr} {ia ib : Array Value} {Q : Value → Shared → Prop} (ha : s.heap.IsTuple a ia) (hb : s.heap.IsTuple b ib) (hsz : ia.size = ib.size) (hu : A.units < cLine)
    (he : ∀ j (h1 : j < ia.size) (h2 : j < ib.size), SeqAt.EqAt A.in1 s ia[j] ib[j] true) (h : Q (.bool false) s) : wpAny (model prog w) A (compareOp .NotEq (.ref a) (.ref b)) Q E s := by
  refine SeqAt.RcNeAt.tuples (e := fun _ => true) ha hb hu he prog w E Q ?_
  have e : (!((List.range (min ia.size ib.size)).all (fun _ => true) && ia.size == ib.size)) = false := by
    rw [hsz]; simp
  rw [e]; exact h
theorem hits_of {A : Around} {s : Shared} {tb : List (Int × Int)} {pb : List (Int × Value)} (hb : IntVals pb tb) {pa : List (Int × Value)} {ta : List (Int × Int)} (ha : IntVals pa ta) : (∀ kv ∈ ta, look tb kv.1 = some kv.2) → KeqHits A s pb pa true := by
  induction ha with
  | nil => intro _; exact .nil
  | @cons k n t ps kvs _ ih =>
    intro h
    obtain ⟨t', e⟩ := (hb.valueAt k).2 n (h (k, n) (.head _))
    have h1 := KeqHits.hit (k := k) e (SeqAt.EqAt.int_int n t n t') (ih fun kv hk => h kv (.tail _ hk))
    simpa using h1
theorem pairs_conv {prog prog' : Program} {w w' : World} {l : List DictEntry} {kvs : List (Int × Value)} (h : Pairs (intKind prog w) l kvs) : Pairs (intKind prog' w') l kvs := by
  induction h with
  | nil => exact .nil
  | cons h1 h2 _ ih => exact .cons h1 h2 ih
theorem dict_conv {prog prog' : Program} {w w' : World} {h : Heap} {a : Addr} {kvs : List (Int × Value)} (x : h.DictOf (intKind prog w) a kvs) : h.DictOf (intKind prog' w') a kvs :=
  let ⟨o, es, ep, h1, h2, h3, h4, h5, h6⟩ := x
  ⟨o, es, ep, h1, h2, h3, h4, pairs_conv h5, h6⟩
theorem tab_rc {prog : Program} {w : World} {A : Around} {s : Shared} {a b : Addr} {ta tb : List (Int × Int)} (Ta : TabI prog w s.heap a ta) (Tb : TabI prog w s.heap b tb) (hl : ta.length = tb.length) (hh : ∀ kv ∈ ta, look tb kv.1 = some kv.2) (hu : A.units < cLine) : SeqAt.RcAt A s (.ref a) (.ref b) true := by
  intro prog' w' E Q h
  obtain ⟨la, pa, da, ia⟩ := Ta
  obtain ⟨lb, pb, db, ib⟩ := Tb
  have da' : s.heap.DictOf (intKind prog' w') a pa := dict_conv da
  have db' : s.heap.DictOf (intKind prog' w') b pb := dict_conv db
  refine keq_eq (prog := prog') (w := w') (r := true) la lb da' db' hu (fun _ => hits_of ib ia hh) ?_
  rw [ia.length, ib.length, hl]
  simpa using h
theorem tab_eq {prog : Program} {w : World} {A : Around} {s : Shared} {a b : Addr} {ta tb : List (Int × Int)} (Ta : TabI prog w s.heap a ta) (Tb : TabI prog w s.heap b tb) (hl : ta.length = tb.length) (hh : ∀ kv ∈ ta, look tb kv.1 = some kv.2) (hu : A.units < cLine) : SeqAt.EqAt A s (.ref a) (.ref b) true := by
  by_cases e : a = b
  · rw [e]; exact SeqAt.EqAt.same _
  · exact SeqAt.EqAt.of_refs e (tab_rc Ta Tb hl hh hu)
theorem nodup_len : ∀ (a b : List Int), a.Nodup → (∀ x ∈ a, x ∈ b) → a.length ≤ b.length
  | [], b, _, _ => Nat.zero_le _
  | x :: a, b, h, hs => by
    rw [List.nodup_cons] at h
    have hx := hs x (.head _)
    have ih := nodup_len a (b.erase x) h.2 fun y hy => (List.mem_erase_of_ne (fun e => h.1 (by rw [← e]; exact hy))).mpr (hs y (.tail _ hy))
    rw [List.length_erase_of_mem hx] at ih
    have := List.length_pos_of_mem hx
    rw [List.length_cons]
    omega
theorem TabOk.pair {ta tb : List (Int × Int)} {M : List Int} (ha : TabOk ta M) (hb : TabOk tb M) : ta.length = tb.length ∧ ∀ kv ∈ ta, Mine.look tb kv.1 = some kv.2 := by
  have hk : ∀ {t t' : List (Int × Int)}, TabOk t M → TabOk t' M → ∀ x ∈ t.map (·.1), x ∈ t'.map (·.1) := fun {t t'} h h' x hx => by
    refine Classical.byContradiction fun hn => ?_
    have e := look_none_iff.mpr hn
    rw [← h.look h' x] at e
    exact look_none_iff.mp e hx
  constructor
  · have h1 := nodup_len _ _ ha.2 (hk ha hb)
    have h2 := nodup_len _ _ hb.2 (hk hb ha)
    rw [List.length_map, List.length_map] at h1 h2
    omega
  · intro kv hkv
    obtain ⟨i, hi⟩ := List.mem_iff_getElem?.mp hkv
    have e := look_of_get (k := kv.1) (n := kv.2) ha.2 hi
    rw [← ha.look hb kv.1]; exact e
/-- an entry beside what the formulas tell -/
theorem entry_eq {A : Around} {s : Shared} {c0 c1 c2 c3 : Int} {t0 t1 t2 t3 : Tok} {d : Addr} {ib : Array Value} (hb : ∃ u0 u1 u2 u3 d', ib = #[.int c0 u0, .int c1 u1, .int c2 u2, .int c3 u3, .ref d'] ∧ SeqAt.EqAt A s (.ref d) (.ref d') true) :
    ∀ j (h1 : j < #[Value.int c0 t0, .int c1 t1, .int c2 t2, .int c3 t3, .ref d].size) (h2 : j < ib.size), SeqAt.EqAt A s #[Value.int c0 t0, .int c1 t1, .int c2 t2, .int c3 t3, .ref d][j] ib[j] true := by
  obtain ⟨u0, u1, u2, u3, d', rfl, hd⟩ := hb
  have hint : ∀ (c : Int) (t u : Tok), SeqAt.EqAt A s (.int c t) (.int c u) true := fun c t u => by
    have := SeqAt.EqAt.int_int (A := A) (s := s) c t c u
    simpa using this
  intro j h1 h2
  match j, h1, h2 with
  | 0, _, _ => exact hint _ _ _
  | 1, _, _ => exact hint _ _ _
  | 2, _, _ => exact hint _ _ _
  | 3, _, _ => exact hint _ _ _
  | 4, _, _ => exact hd
  | n + 5, h1, _ => exact absurd h1 (by simp)
end SEq63
local macro_rules | `(tactic| walk_at $s:str) => `(tactic| k_extra $s)
section SCols63
theorem rst_Cols63 : True := by w_top off; trivial
theorem restV_ind {prog : Program} {w : World} {A : Around} {h₀ : Heap} {L : Addr} {m : Str → Option Value} {env : Env} {elt : Expr} {x : Str} {scope : Scope} {cl : List (Str × Addr)} {s : Shared} {S : List (Addr × Obj) → Prop} {P : Nat → Value → Prop} {Fin : List Value → List (Addr × Obj) → Prop} {news : List (Addr × Obj)} {n : Nat} (f : Nat → Int)
    (hnil : ∀ ys, IntsAre ys ((List.range n).map f) → Fin ys news)
    (hturn : ∀ (k i : Nat) (ys : List Value), i < n → (∀ y t', y = f i → LCg.CompRest prog w A h₀ L m env elt x scope cl s S P Fin k (i + 1) (ys ++ [.int y t']) news) → LCg.CompRest prog w A h₀ L m env elt x scope cl s S P Fin (k + 1) i ys news) :
    ∀ (k i : Nat) (ys : List Value), i + k = n → IntsAre ys ((List.range i).map f) → LCg.CompRest prog w A h₀ L m env elt x scope cl s S P Fin k i ys news :=
  fun k i ys hi hy => up_ind (R := fun k i ys => LCg.CompRest prog w A h₀ L m env elt x scope cl s S P Fin k i ys news) (I := fun i ys => IntsAre ys ((List.range i).map f)) (fun ys h => .zero (hnil ys h)) (fun k i ys hi hy ih => hturn k i ys hi fun y t' hpy => ih _ (ints_range hy hpy)) k i ys hi hy
theorem sums_val {st : Int} {zs : List Int} {i : Nat} (hi : i < 4) : (2 ^ ((zs.length : Int)).toNat * [1, twiceP st zs, twiceP st zs ^ 2 + squaresP zs, twiceP st zs ^ 3 + 3 * twiceP st zs * squaresP zs].getD ((i : Int)).toNat 0).fdiv (2 ^ ((i : Int)).toNat) = sumsP st zs i := by
  unfold sumsP
  rw [Int.toNat_natCast, Int.toNat_natCast]
  match i, hi with
  | 0, _ => rfl
  | 1, _ => rfl
  | 2, _ => rfl
  | 3, _ => rfl
theorem two_pow_ne {i : Nat} : (2 : Int) ^ ((i : Int)).toNat ≠ 0 := by
  rw [Int.toNat_natCast]
  exact Int.ne_of_gt (Int.pow_pos (by decide))
theorem two_pow_small {i : Nat} (hi : i < 4) : ((2 : Int) ^ ((i : Int)).toNat).natAbs < 1073741824 := by
  match i, hi with
  | 0, _ => decide
  | 1, _ => decide
  | 2, _ => decide
  | 3, _ => decide
theorem gaps_zero {st : Int} {zs : List Int} {j : Nat} (h : (j : Int) < (zs.length : Int)) : 0 = gapsP st zs j := by
  unfold gapsP; rw [if_pos (by omega)]
theorem den_ne {k : Int} (h0 : 0 ≤ k) (h4 : k < 4) : [1, 2, 24, 48].getD k.toNat 0 ≠ (0 : Int) := by
  have := int4 h0 h4
  rcases this with rfl | rfl | rfl | rfl <;> decide
theorem den_small {k : Int} (h0 : 0 ≤ k) (h4 : k < 4) : ([1, 2, 24, 48].getD k.toNat (0 : Int)).natAbs < 1073741824 := by
  have := int4 h0 h4
  rcases this with rfl | rfl | rfl | rfl <;> decide
theorem gaps_val {st : Int} {zs : List Int} {j : Nat} (hj : j < 4) (h : ¬ (j : Int) < (zs.length : Int)) :
    (facP j * prodP zs * [1, twiceP st zs, 3 * twiceP st zs ^ 2 + squaresP zs, twiceP st zs ^ 3 + twiceP st zs * squaresP zs].getD ((j : Int) - (zs.length : Int)).toNat 0).fdiv ([1, 2, 24, 48].getD ((j : Int) - (zs.length : Int)).toNat 0) = gapsP st zs j := by
  unfold gapsP
  rw [if_neg (by omega), Int.toNat_sub]
  have := nat4 (Nat.lt_of_le_of_lt (Nat.sub_le j zs.length) hj)
  rcases this with e | e | e | e <;> rw [e] <;> rfl
theorem fac_getD {i : Nat} (hi : i < 4) : ([1, 1, 2, 6] : List Int).getD ((i : Int)).toNat 0 = facP i := by
  match i, hi with
  | 0, _ => rfl
  | 1, _ => rfl
  | 2, _ => rfl
  | 3, _ => rfl
theorem gaps_val' {st : Int} {zs : List Int} {j : Nat} (hj : j < 4) (h : ¬ (j : Int) < (zs.length : Int)) :
    ((([1, 1, 2, 6] : List Int).getD ((j : Int)).toNat 0) * prodP zs * [1, twiceP st zs, 3 * twiceP st zs ^ 2 + squaresP zs, twiceP st zs ^ 3 + twiceP st zs * squaresP zs].getD ((j : Int) - (zs.length : Int)).toNat 0).fdiv ([1, 2, 24, 48].getD ((j : Int) - (zs.length : Int)).toNat 0) = gapsP st zs j := by
  rw [fac_getD hj]
  exact gaps_val hj h
theorem facp_small {zs : List Int} {i : Nat} (hi : i < 4) (h : -625 ≤ prodP zs ∧ prodP zs ≤ 625) : -(2 ^ 64) < ([1, 1, 2, 6] : List Int).getD ((i : Int)).toNat 0 * prodP zs ∧ ([1, 1, 2, 6] : List Int).getD ((i : Int)).toNat 0 * prodP zs < 2 ^ 64 := by
  rw [fac_getD hi]
  match i, hi with
  | 0, _ => exact ⟨i3 h (by decide), i4 h (by decide)⟩
  | 1, _ => exact ⟨i3 h (by decide), i4 h (by decide)⟩
  | 2, _ => exact ⟨i3 h (by decide), i4 h (by decide)⟩
  | 3, _ => exact ⟨i3 h (by decide), i4 h (by decide)⟩
theorem prod_abs : ∀ (zs : List Int) (p : Int), (∀ z ∈ zs, -5 ≤ z ∧ z ≤ 5) → (zs.foldl (fun p z => -z * p) p).natAbs ≤ 5 ^ zs.length * p.natAbs
  | [], p, _ => by simp
  | z :: zs, p, h => by
    have h1 := h z (.head _)
    have ih := prod_abs zs (-z * p) fun y hy => h y (.tail _ hy)
    rw [List.foldl_cons, List.length_cons, Nat.pow_succ, Nat.mul_assoc]
    refine Nat.le_trans ih (Nat.mul_le_mul_left _ ?_)
    rw [Int.natAbs_mul]
    exact Nat.mul_le_mul_right _ (by omega)
theorem prod_bound {zs : List Int} (h : ∀ z ∈ zs, -5 ≤ z ∧ z ≤ 5) (hl : zs.length ≤ 4) : -625 ≤ prodP zs ∧ prodP zs ≤ 625 := by
  have h1 := prod_abs zs 1 h
  have h2 : (prodP zs).natAbs ≤ 5 ^ zs.length * 1 := h1
  have h3 : 5 ^ zs.length ≤ 5 ^ 4 := Nat.pow_le_pow_right (by decide) hl
  have h4 : 5 ^ 4 = 625 := by decide
  omega
theorem sum_bound : ∀ zs : List Int, (∀ z ∈ zs, -5 ≤ z ∧ z ≤ 5) → -5 * (zs.length : Int) ≤ zs.sum ∧ zs.sum ≤ 5 * (zs.length : Int)
  | [], _ => by simp
  | z :: zs, h => by
    have h1 := h z (.head _)
    have h2 := sum_bound zs fun y hy => h y (.tail _ hy)
    rw [List.sum_cons, List.length_cons]
    omega
theorem twice_bound {st : Int} {zs : List Int} (h : ∀ z ∈ zs, -5 ≤ z ∧ z ≤ 5) (hl : zs.length ≤ 4) (b : -5 ≤ st ∧ st ≤ 5) : -30 ≤ twiceP st zs ∧ twiceP st zs ≤ 30 := by
  have := sum_bound zs h
  unfold twiceP; omega
theorem pow_len {zs : List Int} (hl : zs.length ≤ 4) : (1 : Int) ≤ 2 ^ (zs.length : Int).toNat ∧ (2 : Int) ^ (zs.length : Int).toNat ≤ 16 := by
  rw [Int.toNat_natCast]
  match zs.length, hl with
  | 0, _ => decide
  | 1, _ => decide
  | 2, _ => decide
  | 3, _ => decide
  | 4, _ => decide
theorem prodP_take {zs : List Int} {i : Nat} {z : Int} (h : zs[i]? = some z) : prodP (zs.take (i + 1)) = -z * prodP (zs.take i) := by
  unfold prodP
  rw [List.take_add_one, h, List.foldl_append]
  rfl
theorem row_pow : True := by
  k_with "binaryOp Pow int int" => ((k_here; (rename (∀ z ∈ _, -5 ≤ z ∧ z ≤ 5) => hb9); (have hb8 := hb9 _ (by assumption)); refine' pow_two ?b1 ?b2 ?_; (case b1 => omega); (case b2 => omega)))
  trivial
set_option maxHeartbeats 4000000 in
theorem cols_spec {prog : Program} {w : World} {dp un : Nat} {gd : Option (List Code)} {cn : Str} {cs : Scope} {a : Addr} {ccd : Value} {cl : List (Str × Addr)} {outer : List Env} {A₀ : Around} {base h₀ : Heap} {L : Addr} {m mg mb : Str → Option Value} {sh9 : Heap} {sg9 : Array GenState} {sd9 : Drawn} {st9 : Nat} {so9 : OsState} {Q E : Value → Shared → Prop}
    {p : Program} {loose : List Str} {mean : ExcName → Option Value}
    (B : Below A₀ base outer h₀) (F : Fr h₀ L sh9 m) (X : (hd.heap_39 w.params).In h₀) (T : Top p loose mean mg mb h₀) (hk : cs.kind = .function) (hd : dp + 10 < recursionLimit) (hu : un + 160 < cLine)
    {zl : Addr} {zv : List Value} {zs : List Int} {st : Int} {ts : Tok} (h4 : sh9.IsList zl zv.toArray) (h5 : IntsAre zv zs) (h6 : zs.length ≤ 4) (h7 : ∀ z ∈ zs, -5 ≤ z ∧ z ≤ 5) (bst : -5 ≤ st ∧ st ≤ 5)
    (hQ : ∀ r rs rg us ug h' tk, (∀ b o, sh9.get? b = some o → h'.get? b = some o) → sh9.get? r = none → sh9.get? rs = none → sh9.get? rg = none → h'.IsTuple r #[.ref rs, .ref rg] → h'.get? rs = some (LCg.lst us) → h'.get? rg = some (LCg.lst ug) → IntsAre us ((List.range 4).map (sumsP st zs)) → IntsAre ug ((List.range 4).map (gapsP st zs)) → Q (.ref r) (Shared.mk h' sg9 sd9 tk so9)) :
    wpAny (model prog w) (ktrTop dp un gd cn cs L a ccd cl outer) (call (.ref 106) [.int st ts, .ref zl]) Q E (Shared.mk sh9 sg9 sd9 st9 so9) := by
  have hbt := twice_bound h7 h6 bst
  clear bst
  refine wpAny_call ?_
  k_dflt (first   | (refine' call_pure ?k1 ?k2 ?k3 ?k5 ?kA ?kH ?kF ?kK ?k6 ?k7 ?k8 ?k9 ?kB ?_ ?c2 ?c3 ?c4 ?c5; (case kA => exact rfl); (case kH => exact rfl); (case kF => exact rfl); (case kK => assumption); (case k1 => k_asm); (case k2 => k_asm); (case k3 => k_asm); (case k5 => k_asm); (case k6 => k_is); (case k7 => k_is); (case k8 => (((try simp only [depth_under_make, depth_under_kw, depth_in1, depth_deeper, depth_caller]); (try dsimp only [ktrTop]); omega))); (case k9 => exact BindsTo.of_eq rfl); (case c5 => decide); (case kB => exact locs rfl); (case c2 => exact rfl); (case c3 => exact rfl); (case c4 => exact rfl); k_whole; intro x9 L' h' tk9 Hd9 Hu9 Ho9 F' N' B' X' T' Q9 E9 gQ9 gE9 pE9 rE9; (try clear Ho9); (try replace Hd9 := Hd9 _ hd); (try replace Hu9 := Hu9 _ hu); (try dsimp only); (try k_fold))   | (refine' call_pureC ?k1 ?k2 ?k3 ?k5 ?kA ?kH ?kF ?kK ?k6 ?k7 ?k8 ?k9 ?kB ?kN ?_ ?c2 ?c3 ?c4; (case kA => exact rfl); (case kH => exact rfl); (case kF => exact rfl); (case kK => assumption); (case k1 => k_asm); (case k2 => k_asm); (case k3 => k_asm); (case k5 => k_asm); (case k6 => k_is); (case k7 => k_is); (case k8 => (((try simp only [depth_under_make, depth_under_kw, depth_in1, depth_deeper, depth_caller]); (try dsimp only [ktrTop]); omega))); (case k9 => exact BindsTo.of_eq rfl); (case kB => exact rfl); (case kN => decide +kernel); (case c2 => exact rfl); (case c3 => exact rfl); (case c4 => exact rfl); k_whole; intro x9 L9 h17 tk17 cells' Hd9 Hu9 Ho9 F' N' C' B9 X9 T9 Q9 E9 gQ9 gE9 pE9; (try clear Ho9); (try replace Hd9 := Hd9 _ hd); (try replace Hu9 := Hu9 _ hu); k_cells C'; (try simp only [List.cons_append, List.nil_append] at N'); (try dsimp only); (try k_fold)))
  clear hd hu
  ((try dsimp only); (try ((with_reducible refine wp_tok ?_); intro tk8)); repeat' ((fail_if_success (with_reducible show wpAny _ _ (exec (Stmt.For _ _ _ _ _) _) _ _ _)); (fail_if_success (with_reducible show wpAny _ _ (call (Value.ref _) _ _) _ _ _)); (first | (k_unfold; (try dsimp only)) | (k_end; wrow_close) | walk1 | (dsimp only; walk1) | (leave1; walk_say "STEP leave1"; try dsimp only) | ((try dsimp only); (with_reducible refine Goes.at (by assumption) ?_); (try dsimp only)))))
  rename_i oA oB oP0 oN0 dA dB dP0 dN0 h16 oN dN tk16 h15 tk15 t15 h14 tk14 hkl g9 hI8 hL8 D9 h13 tk13 o19 h12 tk12 t12 h11 h10 oP F9 N9 dP
  have hsq : (List.map (fun k' : Int => if -5 ≤ k' ∧ k' ≤ 5 then k' ^ 2 else k') zs).sum = squaresP zs := by
    unfold squaresP
    congr 1
    exact List.map_congr_left fun z hz => if_pos (h7 z hz)
  rw [hsq] at F9
  have htw : 2 * st + zs.sum = twiceP st zs := rfl
  rw [htw] at F9
  clear hI8 hL8 dP0 dN0
  refine For_turns F9 ?_
  ((try dsimp only); (try ((with_reducible refine wp_tok ?_); intro tk8)); repeat' ((fail_if_success (with_reducible show wpAny _ _ (exec (Stmt.For _ _ _ _ _) _) _ _ _)); (fail_if_success (with_reducible show wpAny _ _ (call (Value.ref _) _ _) _ _ _)); (first | (k_unfold; (try dsimp only)) | (k_end; wrow_close) | walk1 | (dsimp only; walk1) | (leave1; walk_say "STEP leave1"; try dsimp only) | ((try dsimp only); (with_reducible refine Goes.at (by assumption) ?_); (try dsimp only)))))
  refine iter_list (fun i m₁ news₁ => ∃ o t, news₁ = [(D9, LCg.lst ys), (L9 + 1 + 1 + 1 + 1, oA), (L9 + 1 + 1 + 1, oB), (L9 + 1 + 1, o), (L9 + 1, oN)] ∧ o.data = .cell (some (.int (prodP (zs.take i)) t)) ∧ ∃ t1 t2, Pins m₁ [(Str.ofString "twice", .int (twiceP st zs) t1), (Str.ofString "squares", .int (squaresP zs) t2)]) rfl h4 (by k_asm) (by k_asm) ?_ ?_ ?_
  · exact ⟨oP, _, rfl, dP, _, _, rfl, rfl, trivial⟩
  · rintro i v m₁ news₁ h₁ tk₁ I oi hv ⟨o, t, rfl, hd, t1, t2, hpin⟩ hni F₁ N₁ Q₁ gQ₁
    replace F₁ := pin_fr F₁ hpin
    clear F9 N9 dP
    obtain ⟨z, tz, rfl, hz⟩ : ∃ z tz, v = .int z tz ∧ zs[i]? = some z := by
      have hi : i < zs.length := by rw [← hkl]; simpa using (Array.getElem?_eq_some_iff.mp hv).1
      obtain ⟨tz, e⟩ := h5.get i zs[i] (List.getElem?_eq_getElem hi)
      have hv' : zv[i]? = some v := by simpa using hv
      rw [e] at hv'
      exact ⟨_, tz, (Option.some.inj hv').symm, List.getElem?_eq_getElem hi⟩
    have bz := h7 z (List.mem_of_getElem? hz)
    have hoff := neN (hni (L9 + 1 + 1, o) (by simp))
    dsimp only at hoff
    (try dsimp only)
    ((try dsimp only); (try ((with_reducible refine wp_tok ?_); intro tk8)); repeat' ((fail_if_success (with_reducible show wpAny _ _ (exec (Stmt.For _ _ _ _ _) _) _ _ _)); (fail_if_success (with_reducible show wpAny _ _ (call (Value.ref _) _ _) _ _ _)); (first | (k_unfold; (try dsimp only)) | (k_end; wrow_close) | walk1 | (dsimp only; walk1) | (leave1; walk_say "STEP leave1"; try dsimp only) | ((try dsimp only); (with_reducible refine Goes.at (by assumption) ?_); (try dsimp only)))))
    rename (_ = Data.cell _) => d8
    refine ⟨_, _, _, _, rfl, (by assumption), (by assumption), ?_, _, _, rfl, (by rw [prodP_take hz]; exact d8), _, _, rfl, rfl, trivial⟩
    intro q hq
    simp only [List.mem_cons, List.not_mem_nil, or_false] at hq
    rcases hq with rfl | rfl | rfl | rfl | rfl
    · exact hni (D9, _) (.head _)
    · exact hni (L9 + 1 + 1 + 1 + 1, oA) (by simp)
    · exact hni (L9 + 1 + 1 + 1, oB) (by simp)
    · exact hoff
    · exact hni (L9 + 1, oN) (by simp)
  · rintro m' news' h' tk ⟨o, t, rfl, hd, t1, t2, hpin⟩ F₁ N₁
    replace F₁ := pin_fr F₁ hpin
    clear F9 N9 dP
    rw [List.size_toArray, hkl, List.take_length] at hd
    (try dsimp only)
    repeat' ((fail_if_success (with_reducible show wpAny _ _ (exec (Stmt.Assign _ (Expr.ListComp _ _ _ _) _) _) _ _ _)); (first | (k_unfold; (try dsimp only)) | walk1 | (dsimp only; walk1) | (leave1; walk_say "STEP leave1"; try dsimp only) | ((try dsimp only); (with_reducible refine Goes.at (by assumption) ?_); (try dsimp only))))
    rename Fr _ _ _ _ => F9
    rename News _ _ _ _ => N9
    have hpw := pow_len h6
    refine LCg.Assign_ListComp_U (F₀ := F9) (by rfl) (by with_unfolding_all rfl) (by with_unfolding_all rfl) (by decide) (by rfl) (by decide) (by rfl) (by rfl) (by rfl) ?_
    repeat' ((fail_if_success (with_reducible show LCg.CompSrc _ _ _ _ _ _ _ _ _ _ _ _ _ _)); (first | (k_unfold; (try dsimp only)) | walk1 | (dsimp only; walk1) | (leave1; walk_say "STEP leave1"; try dsimp only) | ((try dsimp only); (with_reducible refine Goes.at (by assumption) ?_); (try dsimp only))))
    rename IsRange _ _ _ _ _ _ _ _ => hR
    rename_i F8 N8 hkp8
    refine LCg.CompSrc.range (n := 4) rfl F8 N8 hR (by decide) (by decide) (by rw [sizeLine_eq]; decide) fun g => ?_
    repeat (rename Fr _ _ _ _ => Fx; clear Fx)
    repeat (rename News _ _ _ _ => Nx; clear Nx)
    clear hkp8 hR
    refine restV_ind (n := 4) (sumsP st zs) (fun ys2 hys2 => ?_) (fun k i ys2 hi nxt => ?_) 4 0 [] rfl .nil
    rotate_left
    · clear hQ h4 h5 h7 hbt
      refine LCg.CompRest.succ ?_
      rintro v I oI C oC D m₂ h8 tk8 E8 ⟨t8, rfl⟩ hC8 hx8 F8 N8 off8 ne8
      rw [Int.zero_add] at hx8
      have off9 := off8
      simp only [LCg.Off3, and_true] at off8
      repeat' ((fail_if_success (with_reducible show LCg.CompEnd _ _ _ _ _ _ _ _ _ _ _ _ _ _)); (fail_if_success (with_reducible show wpAny _ _ (binaryOp Operator.FloorDiv _ _) _ _ _)); (first | (k_unfold; (try dsimp only)) | walk1 | (dsimp only; walk1) | (leave1; walk_say "STEP leave1"; try dsimp only) | ((try dsimp only); (with_reducible refine Goes.at (by assumption) ?_); (try dsimp only))))
      refine PyProof.Rows.floordiv_int two_pow_ne ?_ (.inl (PyProof.noPylong_small (two_pow_small hi)))
      exact ⟨_, _, _, rfl, F8, N8, off9, trivial, nxt _ _ (sums_val hi)⟩
    intro D1 h8 tk8 F8 N8 off8
    have hsums := hys2
    have hbp := prod_bound h7 h6
    simp only [LCg.Off1, and_true] at off8
    (try dsimp only)
    repeat' ((fail_if_success (with_reducible show wpAny _ _ (exec (Stmt.Assign _ (Expr.ListComp _ _ _ _) _) _) _ _ _)); (first | (k_unfold; (try dsimp only)) | walk1 | (dsimp only; walk1) | (leave1; walk_say "STEP leave1"; try dsimp only) | ((try dsimp only); (with_reducible refine Goes.at (by assumption) ?_); (try dsimp only))))
    rename Fr _ _ _ _ => F9
    rename News _ _ _ _ => N9
    refine LCg.Assign_ListComp_U (F₀ := F9) (by rfl) (by with_unfolding_all rfl) (by with_unfolding_all rfl) (by decide) (by rfl) (by decide) (by rfl) (by rfl) (by rfl) ?_
    repeat' ((fail_if_success (with_reducible show LCg.CompSrc _ _ _ _ _ _ _ _ _ _ _ _ _ _)); (first | (k_unfold; (try dsimp only)) | walk1 | (dsimp only; walk1) | (leave1; walk_say "STEP leave1"; try dsimp only) | ((try dsimp only); (with_reducible refine Goes.at (by assumption) ?_); (try dsimp only))))
    rename IsRange _ _ _ _ _ _ _ _ => hR
    rename_i F8 N8 hkp8
    refine LCg.CompSrc.range (n := 4) rfl F8 N8 hR (by decide) (by decide) (by rw [sizeLine_eq]; decide) fun g => ?_
    repeat (rename Fr _ _ _ _ => Fx; clear Fx)
    repeat (rename News _ _ _ _ => Nx; clear Nx)
    clear hkp8 hR
    refine restV_ind (n := 4) (gapsP st zs) (fun ys3 hys3 => ?_) (fun k i ys3 hi nxt => ?_) 4 0 [] rfl .nil
    rotate_left
    · clear hQ h4 h5 h7 hbt hsums hpw
      refine LCg.CompRest.succ ?_
      rintro v I oI C oC D m₂ h8 tk8 E8 ⟨t8, rfl⟩ hC8 hx8 F8 N8 off8 ne8
      rw [Int.zero_add] at hx8
      have off9 := off8
      simp only [LCg.Off3, and_true] at off8
      repeat' ((fail_if_success (with_reducible show LCg.CompEnd _ _ _ _ _ _ _ _ _ _ _ _ _ _)); (fail_if_success (with_reducible show wpAny _ _ (binaryOp Operator.FloorDiv _ _) _ _ _)); (first | (k_unfold; (try dsimp only)) | walk1 | (dsimp only; walk1) | (leave1; walk_say "STEP leave1"; try dsimp only) | ((try dsimp only); (with_reducible refine Goes.at (by assumption) ?_); (try dsimp only))))
      · exact ⟨_, _, _, rfl, F8, N8, off9, trivial, nxt _ _ (gaps_zero (by assumption))⟩
      · refine mul_left (facp_small hi hbp).1 (facp_small hi hbp).2 ?_
        repeat' ((fail_if_success (with_reducible show LCg.CompEnd _ _ _ _ _ _ _ _ _ _ _ _ _ _)); (fail_if_success (with_reducible show wpAny _ _ (binaryOp Operator.FloorDiv _ _) _ _ _)); (first | (k_unfold; (try dsimp only)) | walk1 | (dsimp only; walk1) | (leave1; walk_say "STEP leave1"; try dsimp only) | ((try dsimp only); (with_reducible refine Goes.at (by assumption) ?_); (try dsimp only))))
        refine PyProof.Rows.floordiv_int (den_ne (by omega) (by omega)) ?_ (.inl (PyProof.noPylong_small (den_small (by omega) (by omega))))
        rename Fr _ _ _ _ => F9
        rename News _ _ _ _ => N9
        exact ⟨_, _, _, rfl, F9, fun q hq => N9 q (.tail _ (.tail _ hq)), off9, trivial, nxt _ _ (gaps_val' hi (by assumption))⟩
    intro D2 h8 tk8 F8 N8 off8
    have hgaps := hys3
    simp only [LCg.Off1, and_true] at off8
    (try dsimp only)
    ((try dsimp only); (try ((with_reducible refine wp_tok ?_); intro tk8)); repeat' ((fail_if_success (with_reducible show wpAny _ _ (exec (Stmt.For _ _ _ _ _) _) _ _ _)); (fail_if_success (with_reducible show wpAny _ _ (call (Value.ref _) _ _) _ _ _)); (first | (k_unfold; (try dsimp only)) | (k_end; wrow_close) | walk1 | (dsimp only; walk1) | (leave1; walk_say "STEP leave1"; try dsimp only) | ((try dsimp only); (with_reducible refine Goes.at (by assumption) ?_); (try dsimp only)))))
    rename Fr _ _ _ _ => F9
    rename News _ _ _ _ => N9
    exact hQ _ D1 D2 _ _ _ _ F9.keep (N9 _ (.head _)).2.2 (N9 _ (.tail _ (.tail _ (.head _)))).2.2 (N9 _ (.tail _ (.head _))).2.2 ⟨_, (N9 _ (.head _)).1, rfl, _, rfl⟩ (N9 _ (.tail _ (.tail _ (.head _)))).1 (N9 _ (.tail _ (.head _))).1 hsums hgaps
end SCols63
end Bare
section Walks
local macro_rules | `(tactic| omega) => `(tactic| k_extra "om9")
local macro_rules | `(tactic| walk_at $s:str) => `(tactic| k_extra $s)
section SCount63
theorem rst_Count63 : True := by w_top off; trivial
set_option maxHeartbeats 4000000 in
theorem count_spec {prog : Program} {w : World} {dp un : Nat} {gd : Option (List Code)} {cn : Str} {cs : Scope} {a : Addr} {ccd : Value} {cl : List (Str × Addr)} {outer : List Env} {A₀ : Around} {base h₀ : Heap} {L : Addr} {m mg mb : Str → Option Value} {sh9 : Heap} {sg9 : Array GenState} {sd9 : Drawn} {st9 : Nat} {so9 : OsState} {Q E : Value → Shared → Prop}
    {p : Program} {loose : List Str} {mean : ExcName → Option Value}
    (B : Below A₀ base outer h₀) (F : Fr h₀ L sh9 m) (X : (hd.heap_39 w.params).In h₀) (T : Top p loose mean mg mb h₀) (hk : cs.kind = .function) (hd : dp + 5 < recursionLimit) (hu : un + 40 < cLine)
    {d : Addr} {kvs : List (Int × Int)} (hT : TabI prog w sh9 d kvs)
    (hQ : ∀ h' tk t, (∀ b o, sh9.get? b = some o → h'.get? b = some o) → Q (.int (vals kvs) t) (Shared.mk h' sg9 sd9 tk so9)) :
    wpAny (model prog w) (ktrTop dp un gd cn cs L a ccd cl outer) (call (.ref 63) [.ref d]) Q E (Shared.mk sh9 sg9 sd9 st9 so9) := by
  refine wpAny_call ?_
  k_dflt (first   | (refine' call_pure ?k1 ?k2 ?k3 ?k5 ?kA ?kH ?kF ?kK ?k6 ?k7 ?k8 ?k9 ?kB ?_ ?c2 ?c3 ?c4 ?c5; (case kA => exact rfl); (case kH => exact rfl); (case kF => exact rfl); (case kK => assumption); (case k1 => k_asm); (case k2 => k_asm); (case k3 => k_asm); (case k5 => k_asm); (case k6 => k_is); (case k7 => k_is); (case k8 => (((try simp only [depth_under_make, depth_under_kw, depth_in1, depth_deeper, depth_caller]); (try dsimp only [ktrTop]); omega))); (case k9 => exact BindsTo.of_eq rfl); (case c5 => decide); (case kB => exact locs rfl); (case c2 => exact rfl); (case c3 => exact rfl); (case c4 => exact rfl); k_whole; intro x9 L' h' tk9 Hd9 Hu9 Ho9 F' N' B' X' T' Q9 E9 gQ9 gE9 pE9 rE9; (try clear Ho9); (try replace Hd9 := Hd9 _ hd); (try replace Hu9 := Hu9 _ hu); (try dsimp only); (try k_fold))   | (refine' call_pureC ?k1 ?k2 ?k3 ?k5 ?kA ?kH ?kF ?kK ?k6 ?k7 ?k8 ?k9 ?kB ?kN ?_ ?c2 ?c3 ?c4; (case kA => exact rfl); (case kH => exact rfl); (case kF => exact rfl); (case kK => assumption); (case k1 => k_asm); (case k2 => k_asm); (case k3 => k_asm); (case k5 => k_asm); (case k6 => k_is); (case k7 => k_is); (case k8 => (((try simp only [depth_under_make, depth_under_kw, depth_in1, depth_deeper, depth_caller]); (try dsimp only [ktrTop]); omega))); (case k9 => exact BindsTo.of_eq rfl); (case kB => exact rfl); (case kN => decide +kernel); (case c2 => exact rfl); (case c3 => exact rfl); (case c4 => exact rfl); k_whole; intro x9 L9 h17 tk17 cells' Hd9 Hu9 Ho9 F' N' C' B9 X9 T9 Q9 E9 gQ9 gE9 pE9; (try clear Ho9); (try replace Hd9 := Hd9 _ hd); (try replace Hu9 := Hu9 _ hu); k_cells C'; (try simp only [List.cons_append, List.nil_append] at N'); (try dsimp only); (try k_fold)))
  ((try dsimp only); (try ((with_reducible refine wp_tok ?_); intro tk8)); repeat' ((fail_if_success (with_reducible show wpAny _ _ (exec (Stmt.For _ _ _ _ _) _) _ _ _)); (fail_if_success (with_reducible show wpAny _ _ (call (Value.ref _) _ _) _ _ _)); (first | (k_unfold; (try dsimp only)) | (k_end; wrow_close) | walk1 | (dsimp only; walk1) | (leave1; walk_say "STEP leave1"; try dsimp only) | ((try dsimp only); (with_reducible refine Goes.at (by assumption) ?_); (try dsimp only)))))
  refine For_turns (by k_asm) ?_
  ((try dsimp only); (try ((with_reducible refine wp_tok ?_); intro tk8)); repeat' ((fail_if_success (with_reducible show wpAny _ _ (exec (Stmt.For _ _ _ _ _) _) _ _ _)); (fail_if_success (with_reducible show wpAny _ _ (call (Value.ref _) _ _) _ _ _)); (first | (k_unfold; (try dsimp only)) | (k_end; wrow_close) | walk1 | (dsimp only; walk1) | (leave1; walk_say "STEP leave1"; try dsimp only) | ((try dsimp only); (with_reducible refine Goes.at (by assumption) ?_); (try dsimp only)))))
  refine iter_vals (fun i m₁ news₁ => news₁ = [] ∧ ∃ t, Pins m₁ [(Str.ofString "nc", .int (vals (kvs.take i)) t)]) rfl hT (by assumption) (by k_asm) (by k_asm) ?_ ?_ ?_
  · exact ⟨rfl, _, rfl, trivial⟩
  · rintro i k n t m₁ news₁ h₁ tk₁ I oi hkv ⟨rfl, tn, hpin⟩ hni F₁ N₁ Q₁ gQ₁
    replace F₁ := pin_fr F₁ hpin
    have e : vals (kvs.take (i + 1)) = vals (kvs.take i) + n := by
      unfold vals
      rw [List.take_add_one, hkv]; simp
    (try dsimp only)
    ((try dsimp only); (try ((with_reducible refine wp_tok ?_); intro tk8)); repeat' ((fail_if_success (with_reducible show wpAny _ _ (exec (Stmt.For _ _ _ _ _) _) _ _ _)); (fail_if_success (with_reducible show wpAny _ _ (call (Value.ref _) _ _) _ _ _)); (first | (k_unfold; (try dsimp only)) | (k_end; wrow_close) | walk1 | (dsimp only; walk1) | (leave1; walk_say "STEP leave1"; try dsimp only) | ((try dsimp only); (with_reducible refine Goes.at (by assumption) ?_); (try dsimp only)))))
    refine ⟨_, _, _, _, rfl, (by assumption), (by assumption), hni, rfl, ?_⟩
    rw [e]; exact ⟨_, rfl, trivial⟩
  · rintro m' news' h' tk ⟨rfl, tn, hpin⟩ F₁ N₁
    replace F₁ := pin_fr F₁ hpin
    rw [List.take_length] at F₁
    (try dsimp only)
    ((try dsimp only); (try ((with_reducible refine wp_tok ?_); intro tk8)); repeat' ((fail_if_success (with_reducible show wpAny _ _ (exec (Stmt.For _ _ _ _ _) _) _ _ _)); (fail_if_success (with_reducible show wpAny _ _ (call (Value.ref _) _ _) _ _ _)); (first | (k_unfold; (try dsimp only)) | (k_end; wrow_close) | walk1 | (dsimp only; walk1) | (leave1; walk_say "STEP leave1"; try dsimp only) | ((try dsimp only); (with_reducible refine Goes.at (by assumption) ?_); (try dsimp only)))))
    exact hQ _ _ _ (Fr.keep (by assumption))
end SCount63
section SCallers63
theorem rst_Callers63 : True := by w_top off; trivial
set_option maxHeartbeats 4000000 in
theorem callers_spec {prog : Program} {w : World} {dp un : Nat} {gd : Option (List Code)} {cn : Str} {cs : Scope} {a : Addr} {ccd : Value} {cl : List (Str × Addr)} {outer : List Env} {A₀ : Around} {base h₀ : Heap} {L : Addr} {m mg mb : Str → Option Value} {sh9 : Heap} {sg9 : Array GenState} {sd9 : Drawn} {st9 : Nat} {so9 : OsState} {Q E : Value → Shared → Prop}
    {p : Program} {loose : List Str} {mean : ExcName → Option Value}
    (B : Below A₀ base outer h₀) (F : Fr h₀ L sh9 m) (X : (hd.heap_39 w.params).In h₀) (T : Top p loose mean mg mb h₀) (hk : cs.kind = .function) (hd : dp + 5 < recursionLimit) (hu : un + 40 < cLine)
    {dt ds : Addr} {tgt src : List (Int × Int)} (hT : TabI prog w sh9 dt tgt) (hS : TabI prog w sh9 ds src) (hlen : tgt.length + src.length ≤ sizeLine)
    (hQ : ∀ d h' tk, (∀ b o, sh9.get? b = some o → h'.get? b = some o) → sh9.get? d = none → TabI prog w h' d (src.foldl addTo tgt) → Q (.ref d) (Shared.mk h' sg9 sd9 tk so9)) :
    wpAny (model prog w) (ktrTop dp un gd cn cs L a ccd cl outer) (call (.ref 56) [.ref dt, .ref ds]) Q E (Shared.mk sh9 sg9 sd9 st9 so9) := by
  refine wpAny_call ?_
  k_dflt (first   | (refine' call_pure ?k1 ?k2 ?k3 ?k5 ?kA ?kH ?kF ?kK ?k6 ?k7 ?k8 ?k9 ?kB ?_ ?c2 ?c3 ?c4 ?c5; (case kA => exact rfl); (case kH => exact rfl); (case kF => exact rfl); (case kK => assumption); (case k1 => k_asm); (case k2 => k_asm); (case k3 => k_asm); (case k5 => k_asm); (case k6 => k_is); (case k7 => k_is); (case k8 => (((try simp only [depth_under_make, depth_under_kw, depth_in1, depth_deeper, depth_caller]); (try dsimp only [ktrTop]); omega))); (case k9 => exact BindsTo.of_eq rfl); (case c5 => decide); (case kB => exact locs rfl); (case c2 => exact rfl); (case c3 => exact rfl); (case c4 => exact rfl); k_whole; intro x9 L' h' tk9 Hd9 Hu9 Ho9 F' N' B' X' T' Q9 E9 gQ9 gE9 pE9 rE9; (try clear Ho9); (try replace Hd9 := Hd9 _ hd); (try replace Hu9 := Hu9 _ hu); (try dsimp only); (try k_fold))   | (refine' call_pureC ?k1 ?k2 ?k3 ?k5 ?kA ?kH ?kF ?kK ?k6 ?k7 ?k8 ?k9 ?kB ?kN ?_ ?c2 ?c3 ?c4; (case kA => exact rfl); (case kH => exact rfl); (case kF => exact rfl); (case kK => assumption); (case k1 => k_asm); (case k2 => k_asm); (case k3 => k_asm); (case k5 => k_asm); (case k6 => k_is); (case k7 => k_is); (case k8 => (((try simp only [depth_under_make, depth_under_kw, depth_in1, depth_deeper, depth_caller]); (try dsimp only [ktrTop]); omega))); (case k9 => exact BindsTo.of_eq rfl); (case kB => exact rfl); (case kN => decide +kernel); (case c2 => exact rfl); (case c3 => exact rfl); (case c4 => exact rfl); k_whole; intro x9 L9 h17 tk17 cells' Hd9 Hu9 Ho9 F' N' C' B9 X9 T9 Q9 E9 gQ9 gE9 pE9; (try clear Ho9); (try replace Hd9 := Hd9 _ hd); (try replace Hu9 := Hu9 _ hu); k_cells C'; (try simp only [List.cons_append, List.nil_append] at N'); (try dsimp only); (try k_fold)))
  ((try dsimp only); (try ((with_reducible refine wp_tok ?_); intro tk8)); repeat' ((fail_if_success (with_reducible show wpAny _ _ (exec (Stmt.For _ _ _ _ _) _) _ _ _)); (fail_if_success (with_reducible show wpAny _ _ (call (Value.ref _) _ _) _ _ _)); (first | (k_unfold; (try dsimp only)) | (k_end; wrow_close) | walk1 | (dsimp only; walk1) | (leave1; walk_say "STEP leave1"; try dsimp only) | ((try dsimp only); (with_reducible refine Goes.at (by assumption) ?_); (try dsimp only)))))
  refine For_turns (by k_asm) ?_
  ((try dsimp only); (try ((with_reducible refine wp_tok ?_); intro tk8)); repeat' ((fail_if_success (with_reducible show wpAny _ _ (exec (Stmt.For _ _ _ _ _) _) _ _ _)); (fail_if_success (with_reducible show wpAny _ _ (call (Value.ref _) _ _) _ _ _)); (first | (k_unfold; (try dsimp only)) | (k_end; wrow_close) | walk1 | (dsimp only; walk1) | (leave1; walk_say "STEP leave1"; try dsimp only) | ((try dsimp only); (with_reducible refine Goes.at (by assumption) ?_); (try dsimp only)))))
  rename_i d1 h0 o1 lo1 hs1 fs1 hi1 fi1 tk1 h1 F1 N1 v1 h2 F2 N2 V2
  have hnT := hT.nodup
  refine iter_items (fun i m₁ news₁ => ∃ o, news₁ = [(d1, o)] ∧ ObjTab prog w o (tgt.take i) ∧ Pins m₁ [(Str.ofString "new_callers", .ref d1), (Str.ofString "source", .ref ds)]) rfl hT V2 F2 N2 ?_ rfl rfl ?_ ?_
  · exact ⟨o1, rfl, ⟨[], hi1, .nil⟩, rfl, rfl, trivial⟩
  · rintro i k n t t' m₁ news₁ h₁ tk₁ I oi hkv ⟨o, rfl, hO, hpin⟩ hni F₁ N₁ Q₁ gQ₁
    replace F₁ := pin_fr F₁ hpin
    have hz : (tgt.take i).length ≤ sizeLine := Nat.le_trans (List.length_take_le' ..) (Nat.le_trans (Nat.le_add_right _ _) hlen)
    have hne := neN (hni (d1, o) (.head _))
    have hp := put_take hnT hkv
    (try dsimp only)
    ((try dsimp only); (try ((with_reducible refine wp_tok ?_); intro tk8)); repeat' ((fail_if_success (with_reducible show wpAny _ _ (exec (Stmt.For _ _ _ _ _) _) _ _ _)); (fail_if_success (with_reducible show wpAny _ _ (call (Value.ref _) _ _) _ _ _)); (first | (k_unfold; (try dsimp only)) | (k_end; wrow_close) | walk1 | (dsimp only; walk1) | (leave1; walk_say "STEP leave1"; try dsimp only) | ((try dsimp only); (with_reducible refine Goes.at (by assumption) ?_); (try dsimp only)))))
    refine ⟨_, _, _, _, rfl, (by assumption), (by assumption), ?_, _, rfl, ?_, rfl, rfl, trivial⟩
    · intro q hq; rw [List.mem_singleton.mp hq]; exact hne
    · rw [← hp]; assumption
  · rintro m' news' h' tk ⟨o, rfl, hO, hpin⟩ F₁ N₁
    replace F₁ := pin_fr F₁ hpin
    rw [List.take_length] at hO
    clear hs1 fs1 hi1 fi1 V2 hpin
    (try dsimp only)
    ((try dsimp only); (try ((with_reducible refine wp_tok ?_); intro tk8)); repeat' ((fail_if_success (with_reducible show wpAny _ _ (exec (Stmt.For _ _ _ _ _) _) _ _ _)); (fail_if_success (with_reducible show wpAny _ _ (call (Value.ref _) _ _) _ _ _)); (first | (k_unfold; (try dsimp only)) | (k_end; wrow_close) | walk1 | (dsimp only; walk1) | (leave1; walk_say "STEP leave1"; try dsimp only) | ((try dsimp only); (with_reducible refine Goes.at (by assumption) ?_); (try dsimp only)))))
    refine For_turns (by k_asm) ?_
    ((try dsimp only); (try ((with_reducible refine wp_tok ?_); intro tk8)); repeat' ((fail_if_success (with_reducible show wpAny _ _ (exec (Stmt.For _ _ _ _ _) _) _ _ _)); (fail_if_success (with_reducible show wpAny _ _ (call (Value.ref _) _ _) _ _ _)); (first | (k_unfold; (try dsimp only)) | (k_end; wrow_close) | walk1 | (dsimp only; walk1) | (leave1; walk_say "STEP leave1"; try dsimp only) | ((try dsimp only); (with_reducible refine Goes.at (by assumption) ?_); (try dsimp only)))))
    rename_i v2 h3 F3 N3 V3
    refine iter_items (fun i m₁ news₁ => ∃ o, news₁ = [(d1, o)] ∧ ObjTab prog w o ((src.take i).foldl addTo tgt) ∧ Pins m₁ [(Str.ofString "new_callers", .ref d1)]) rfl hS V3 F3 N3 ?_ rfl rfl ?_ ?_
    · exact ⟨o, rfl, hO, rfl, trivial⟩
    · rintro i k n t t' m₁ news₁ h₁ tk₁ I oi hkv ⟨o, rfl, hO, hpin⟩ hni F₁ N₁ Q₁ gQ₁
      replace F₁ := pin_fr F₁ hpin
      have hz : ((src.take i).foldl addTo tgt).length ≤ sizeLine :=
        Nat.le_trans length_fold (Nat.le_trans (Nat.add_le_add_left (List.length_take_le' ..) _) hlen)
      have hne := neN (hni (d1, o) (.head _))
      have hp : (src.take (i + 1)).foldl addTo tgt = addTo ((src.take i).foldl addTo tgt) (k, n) := by
        rw [List.take_add_one, hkv]; simp
      (try dsimp only)
      generalize (src.take i).foldl addTo tgt = acc at hO hz hp
      cases hl : look acc k with
      | none =>
        have hq : addTo acc (k, n) = put acc k n := by unfold addTo; simp only [hl]
        ((try dsimp only); (try ((with_reducible refine wp_tok ?_); intro tk8)); repeat' ((fail_if_success (with_reducible show wpAny _ _ (exec (Stmt.For _ _ _ _ _) _) _ _ _)); (fail_if_success (with_reducible show wpAny _ _ (call (Value.ref _) _ _) _ _ _)); (first | (k_unfold; (try dsimp only)) | (k_end; wrow_close) | walk1 | (dsimp only; walk1) | (leave1; walk_say "STEP leave1"; try dsimp only) | ((try dsimp only); (with_reducible refine Goes.at (by assumption) ?_); (try dsimp only)))))
        refine ⟨_, _, _, _, rfl, (by assumption), (by assumption), ?_, _, rfl, ?_, rfl, trivial⟩
        · intro q hq'; rw [List.mem_singleton.mp hq']; exact hne
        · rw [hp, hq]; assumption
      | some v =>
        have hq : addTo acc (k, n) = put acc k (v + n) := by unfold addTo; simp only [hl]
        ((try dsimp only); (try ((with_reducible refine wp_tok ?_); intro tk8)); repeat' ((fail_if_success (with_reducible show wpAny _ _ (exec (Stmt.For _ _ _ _ _) _) _ _ _)); (fail_if_success (with_reducible show wpAny _ _ (call (Value.ref _) _ _) _ _ _)); (first | (k_unfold; (try dsimp only)) | (k_end; wrow_close) | walk1 | (dsimp only; walk1) | (leave1; walk_say "STEP leave1"; try dsimp only) | ((try dsimp only); (with_reducible refine Goes.at (by assumption) ?_); (try dsimp only)))))
        refine ⟨_, _, _, _, rfl, (by assumption), (by assumption), ?_, _, rfl, ?_, rfl, trivial⟩
        · intro q hq'; rw [List.mem_singleton.mp hq']; exact hne
        · rw [hp, hq]; assumption
    · rintro m' news' h' tk ⟨o, rfl, hO, hpin⟩ F₁ N₁
      replace F₁ := pin_fr F₁ hpin
      rw [List.take_length] at hO
      (try dsimp only)
      ((try dsimp only); (try ((with_reducible refine wp_tok ?_); intro tk8)); repeat' ((fail_if_success (with_reducible show wpAny _ _ (exec (Stmt.For _ _ _ _ _) _) _ _ _)); (fail_if_success (with_reducible show wpAny _ _ (call (Value.ref _) _ _) _ _ _)); (first | (k_unfold; (try dsimp only)) | (k_end; wrow_close) | walk1 | (dsimp only; walk1) | (leave1; walk_say "STEP leave1"; try dsimp only) | ((try dsimp only); (with_reducible refine Goes.at (by assumption) ?_); (try dsimp only)))))
      exact hQ _ _ _ (Fr.keep (by assumption)) (N₁ (d1, o) (.head _)).2.2 (.of_obj lo1 (N₁ (d1, o) (.head _)).1 hO)
end SCallers63
section SStats63
theorem rst_Stats63 : True := by w_top off; trivial
set_option maxHeartbeats 4000000 in
theorem stats_spec {prog : Program} {w : World} {dp un : Nat} {gd : Option (List Code)} {cn : Str} {cs : Scope} {a : Addr} {ccd : Value} {cl : List (Str × Addr)} {outer : List Env} {A₀ : Around} {base h₀ : Heap} {L : Addr} {m mg mb : Str → Option Value} {sh9 : Heap} {sg9 : Array GenState} {sd9 : Drawn} {st9 : Nat} {so9 : OsState} {Q E : Value → Shared → Prop}
    {p : Program} {loose : List Str} {mean : ExcName → Option Value}
    (B : Below A₀ base outer h₀) (F : Fr h₀ L sh9 m) (X : (hd.heap_39 w.params).In h₀) (T : Top p loose mean mg mb h₀) (hk : cs.kind = .function) (hd : dp + 10 < recursionLimit) (hu : un + 80 < cLine)
    {et es dt ds : Addr} {t0 t1 t2 t3 s0 s1 s2 s3 : Int} {tgt src : List (Int × Int)} (hEt : EntryAt sh9 et t0 t1 t2 t3 dt) (hEs : EntryAt sh9 es s0 s1 s2 s3 ds)
    (hT : TabI prog w sh9 dt tgt) (hS : TabI prog w sh9 ds src) (hlen : tgt.length + src.length ≤ sizeLine)
    (hQ : ∀ r d h' tk, (∀ b o, sh9.get? b = some o → h'.get? b = some o) → sh9.get? r = none → sh9.get? d = none → EntryAt h' r (s0 + t0) (s1 + t1) (s2 + t2) (s3 + t3) d → TabI prog w h' d (src.foldl addTo tgt) → Q (.ref r) (Shared.mk h' sg9 sd9 tk so9)) :
    wpAny (model prog w) (ktrTop dp un gd cn cs L a ccd cl outer) (call (.ref 49) [.ref et, .ref es]) Q E (Shared.mk sh9 sg9 sd9 st9 so9) := by
  obtain ⟨u0, u1, u2, u3, hEt⟩ := hEt
  obtain ⟨v0, v1, v2, v3, hEs⟩ := hEs
  refine wpAny_call ?_
  k_dflt (first   | (refine' call_pure ?k1 ?k2 ?k3 ?k5 ?kA ?kH ?kF ?kK ?k6 ?k7 ?k8 ?k9 ?kB ?_ ?c2 ?c3 ?c4 ?c5; (case kA => exact rfl); (case kH => exact rfl); (case kF => exact rfl); (case kK => assumption); (case k1 => k_asm); (case k2 => k_asm); (case k3 => k_asm); (case k5 => k_asm); (case k6 => k_is); (case k7 => k_is); (case k8 => (((try simp only [depth_under_make, depth_under_kw, depth_in1, depth_deeper, depth_caller]); (try dsimp only [ktrTop]); omega))); (case k9 => exact BindsTo.of_eq rfl); (case c5 => decide); (case kB => exact locs rfl); (case c2 => exact rfl); (case c3 => exact rfl); (case c4 => exact rfl); k_whole; intro x9 L' h' tk9 Hd9 Hu9 Ho9 F' N' B' X' T' Q9 E9 gQ9 gE9 pE9 rE9; (try clear Ho9); (try replace Hd9 := Hd9 _ hd); (try replace Hu9 := Hu9 _ hu); (try dsimp only); (try k_fold))   | (refine' call_pureC ?k1 ?k2 ?k3 ?k5 ?kA ?kH ?kF ?kK ?k6 ?k7 ?k8 ?k9 ?kB ?kN ?_ ?c2 ?c3 ?c4; (case kA => exact rfl); (case kH => exact rfl); (case kF => exact rfl); (case kK => assumption); (case k1 => k_asm); (case k2 => k_asm); (case k3 => k_asm); (case k5 => k_asm); (case k6 => k_is); (case k7 => k_is); (case k8 => (((try simp only [depth_under_make, depth_under_kw, depth_in1, depth_deeper, depth_caller]); (try dsimp only [ktrTop]); omega))); (case k9 => exact BindsTo.of_eq rfl); (case kB => exact rfl); (case kN => decide +kernel); (case c2 => exact rfl); (case c3 => exact rfl); (case c4 => exact rfl); k_whole; intro x9 L9 h17 tk17 cells' Hd9 Hu9 Ho9 F' N' C' B9 X9 T9 Q9 E9 gQ9 gE9 pE9; (try clear Ho9); (try replace Hd9 := Hd9 _ hd); (try replace Hu9 := Hu9 _ hu); k_cells C'; (try simp only [List.cons_append, List.nil_append] at N'); (try dsimp only); (try k_fold)))
  ((try dsimp only); (try ((with_reducible refine wp_tok ?_); intro tk8)); repeat' ((fail_if_success (with_reducible show wpAny _ _ (exec (Stmt.For _ _ _ _ _) _) _ _ _)); (fail_if_success (with_reducible show wpAny _ _ (call (Value.ref _) _ _) _ _ _)); (first | (k_unfold; (try dsimp only)) | (k_end; wrow_close) | walk1 | (dsimp only; walk1) | (leave1; walk_say "STEP leave1"; try dsimp only) | ((try dsimp only); (with_reducible refine Goes.at (by assumption) ?_); (try dsimp only)))))
  rename Fr _ _ _ _ => Fc
  rename News _ _ _ _ => Nc
  refine callers_spec (by k_asm) Fc (by k_asm) (by k_asm) rfl (less9 Hd9 (by decide)) (less9 Hu9 (by decide)) (tabF Fc hT) (tabF Fc hS) hlen fun d h' tk hkp hnw hD => ?_
  obtain ⟨od, hod, hO, lod⟩ := hD.obj
  replace Nc := news_add Fc hnw (news_keep Nc hkp) hod
  replace Fc := fr_keep Fc hkp
  ((try dsimp only); (try ((with_reducible refine wp_tok ?_); intro tk8)); repeat' ((fail_if_success (with_reducible show wpAny _ _ (exec (Stmt.For _ _ _ _ _) _) _ _ _)); (fail_if_success (with_reducible show wpAny _ _ (call (Value.ref _) _ _) _ _ _)); (first | (k_unfold; (try dsimp only)) | (k_end; wrow_close) | walk1 | (dsimp only; walk1) | (leave1; walk_say "STEP leave1"; try dsimp only) | ((try dsimp only); (with_reducible refine Goes.at (by assumption) ?_); (try dsimp only)))))
  rename Fr _ _ _ _ => F9
  rename News _ _ _ _ => N9
  exact hQ _ _ _ _ F9.keep (N9 _ (.head _)).2.2 (N9 _ (.tail _ (.head _))).2.2 ⟨_, _, _, _, _, (N9 _ (.head _)).1, rfl, _, rfl⟩ (.of_obj lod (N9 _ (.tail _ (.head _))).1 hO)
end SStats63
section SMoved63
theorem rst_Moved63 : True := by w_top off; trivial
theorem not_modules {p : Program} {loose : List Str} {mean : ExcName → Option Value} {mg mb : Str → Option Value} {h h' : Heap} {d : Addr} (T : Top p loose mean mg mb h) (hp : importsNone p = true) (hk : ∀ b o, h.get? b = some o → h'.get? b = some o) (hd : h'.get? d = none) : (d == sysModules) = false := by
  rw [beq_eq_false_iff_ne]
  rintro rfl
  obtain ⟨_, ⟨o, _, _, ho, _⟩, _⟩ := (T.seer hp).mods
  rw [hk _ _ ho] at hd; cases hd
theorem shifted {tab : List (Int × Int)} {z : Int} (hn : (tab.map (·.1)).Nodup) : ∀ {l : List Value} {kvs : List (Int × Value)},
    StoredAll (fun v k => ∃ a t, v = Value.int a t ∧ k = a + z) (fun v y => ∃ a t n t', v = Value.int a t ∧ look tab a = some n ∧ y = Value.int n t') l kvs →
    (∀ (j : Nat) (v : Value), l[j]? = some v → ∃ k n t, tab[j]? = some (k, n) ∧ v = Value.int k t) → IntVals kvs ((tab.map fun kv => (kv.1 + z, kv.2)).take l.length) := by
  intro l kvs h
  induction h with
  | nil => intro _; exact .nil
  | @snoc l kvs v k y hs hk hy ih =>
    intro hl
    have hi := ih fun j u hj => hl j u (by rw [List.getElem?_append_left (List.getElem?_eq_some_iff.mp hj).1]; exact hj)
    obtain ⟨k', n', t', ht, hv⟩ := hl l.length v (by simp)
    obtain ⟨a, t, e, rfl⟩ := hk
    obtain ⟨a', t2, n, t3, e2, hl2, rfl⟩ := hy
    rw [hv] at e e2
    cases e; cases e2
    have hn' : n = n' := by
      have hm := List.mem_of_getElem? ht
      obtain ⟨x, hx, hx2⟩ := Option.map_eq_some_iff.mp hl2
      have h1 := List.mem_of_find?_eq_some hx
      have h2 := List.find?_some hx
      have h3 : x.1 = k' := of_decide_eq_true h2
      obtain ⟨j, hj⟩ := List.mem_iff_getElem?.mp h1
      have hjl : (tab.map (·.1))[j]? = some k' := by rw [List.getElem?_map, hj, ← h3]; rfl
      have hll : (tab.map (·.1))[l.length]? = some k' := by rw [List.getElem?_map, ht]; rfl
      have hjeq : j = l.length := by
        have hpw := List.pairwise_iff_getElem.mp hn
        obtain ⟨q1, q2⟩ := List.getElem?_eq_some_iff.mp hjl
        obtain ⟨q3, q4⟩ := List.getElem?_eq_some_iff.mp hll
        rcases Nat.lt_trichotomy j l.length with h | h | h
        · exact absurd (q2.trans q4.symm) (hpw j l.length q1 q3 h)
        · exact h
        · exact absurd (q4.trans q2.symm) (hpw l.length j q3 q1 h)
      subst hjeq
      rw [ht] at hj
      cases hj
      exact hx2.symm
    subst hn'
    have hns : ((tab.map fun kv => (kv.1 + z, kv.2)).map (·.1)).Nodup := by
      rw [List.map_map]
      have : ((fun x : Int × Int => x.1) ∘ fun kv : Int × Int => (kv.1 + z, kv.2)) = (fun x => x + z) ∘ fun kv : Int × Int => kv.1 := rfl
      rw [this, ← List.map_map]
      exact List.Pairwise.map _ (fun a b h => by omega) hn
    have hp := put_take (k := k' + z) (n := n) hns (i := l.length) (by rw [List.getElem?_map, ht]; rfl)
    rw [List.length_append, List.length_singleton, ← hp]
    exact hi.stored _ _ _
set_option maxHeartbeats 4000000 in
theorem moved_spec {prog : Program} {w : World} {dp un : Nat} {gd : Option (List Code)} {cn : Str} {cs : Scope} {a : Addr} {ccd : Value} {cl : List (Str × Addr)} {outer : List Env} {A₀ : Around} {base h₀ : Heap} {L : Addr} {m mg mb : Str → Option Value} {sh9 : Heap} {sg9 : Array GenState} {sd9 : Drawn} {st9 : Nat} {so9 : OsState} {Q E : Value → Shared → Prop}
    {loose : List Str} {mean : ExcName → Option Value}
    (B : Below A₀ base outer h₀) (F : Fr h₀ L sh9 m) (X : (hd.heap_39 w.params).In h₀) (T : Top hd.view_39 loose mean mg mb h₀) (hk : cs.kind = .function) (hd : dp + 10 < recursionLimit) (hu : un + 80 < cLine)
    {et dt : Addr} {c0 c1 c2 c3 z : Int} {tz : Tok} {tab : List (Int × Int)} (hEt : EntryAt sh9 et c0 c1 c2 c3 dt) 
    (hT : TabI prog w sh9 dt tab) (hlen : tab.length ≤ sizeLine)
    (bz : -5 ≤ z ∧ z ≤ 5)
    (hQ : ∀ r d h' tk, (∀ b o, sh9.get? b = some o → h'.get? b = some o) → sh9.get? r = none → EntryAt h' r c0 (c1 + z * c0) (c2 + 2 * z * c1 + z ^ 2 * c0) (c3 + 3 * z * c2 + 3 * z ^ 2 * c1 + z ^ 3 * c0) d → TabI prog w h' d (tab.map fun kv => (kv.1 + z, kv.2)) → Q (.ref r) (Shared.mk h' sg9 sd9 tk so9)) :
    wpAny (model prog w) (ktrTop dp un gd cn cs L a ccd cl outer) (call (.ref 89) [.ref et, .int z tz]) Q E (Shared.mk sh9 sg9 sd9 st9 so9) := by
  obtain ⟨u0, u1, u2, u3, hEt⟩ := hEt
  refine wpAny_call ?_
  k_dflt (first   | (refine' call_pure ?k1 ?k2 ?k3 ?k5 ?kA ?kH ?kF ?kK ?k6 ?k7 ?k8 ?k9 ?kB ?_ ?c2 ?c3 ?c4 ?c5; (case kA => exact rfl); (case kH => exact rfl); (case kF => exact rfl); (case kK => assumption); (case k1 => k_asm); (case k2 => k_asm); (case k3 => k_asm); (case k5 => k_asm); (case k6 => k_is); (case k7 => k_is); (case k8 => (((try simp only [depth_under_make, depth_under_kw, depth_in1, depth_deeper, depth_caller]); (try dsimp only [ktrTop]); omega))); (case k9 => exact BindsTo.of_eq rfl); (case c5 => decide); (case kB => exact locs rfl); (case c2 => exact rfl); (case c3 => exact rfl); (case c4 => exact rfl); k_whole; intro x9 L' h' tk9 Hd9 Hu9 Ho9 F' N' B' X' T' Q9 E9 gQ9 gE9 pE9 rE9; (try clear Ho9); (try replace Hd9 := Hd9 _ hd); (try replace Hu9 := Hu9 _ hu); (try dsimp only); (try k_fold))   | (refine' call_pureC ?k1 ?k2 ?k3 ?k5 ?kA ?kH ?kF ?kK ?k6 ?k7 ?k8 ?k9 ?kB ?kN ?_ ?c2 ?c3 ?c4; (case kA => exact rfl); (case kH => exact rfl); (case kF => exact rfl); (case kK => assumption); (case k1 => k_asm); (case k2 => k_asm); (case k3 => k_asm); (case k5 => k_asm); (case k6 => k_is); (case k7 => k_is); (case k8 => (((try simp only [depth_under_make, depth_under_kw, depth_in1, depth_deeper, depth_caller]); (try dsimp only [ktrTop]); omega))); (case k9 => exact BindsTo.of_eq rfl); (case kB => exact rfl); (case kN => decide +kernel); (case c2 => exact rfl); (case c3 => exact rfl); (case c4 => exact rfl); k_whole; intro x9 L9 h17 tk17 cells' Hd9 Hu9 Ho9 F' N' C' B9 X9 T9 Q9 E9 gQ9 gE9 pE9; (try clear Ho9); (try replace Hd9 := Hd9 _ hd); (try replace Hu9 := Hu9 _ hu); k_cells C'; (try simp only [List.cons_append, List.nil_append] at N'); (try dsimp only); (try k_fold)))
  obtain ⟨hz2, hz3⟩ := five_pow bz
  repeat' ((fail_if_success (with_reducible show wpAny _ _ (eval (Expr.DictComp _ _ _ _ _) _) _ _ _)); (first | (k_unfold; (try dsimp only)) | (k_end; wrow_close) | walk1 | (dsimp only; walk1) | (leave1; walk_say "STEP leave1"; try dsimp only) | ((try dsimp only); (with_reducible refine Goes.at (by assumption) ?_); (try dsimp only))))
  have hT₂ := hT
  obtain ⟨lo, ps, hdo, hiv⟩ := hT₂
  refine wpAny_DictComp_free (intKind prog w) (fun _ => true) (fun v k => ∃ a t, v = .int a t ∧ k = a + z) (fun v y => ∃ a t n t', v = .int a t ∧ look tab a = some n ∧ y = .int n t') (by with_unfolding_all rfl) (by decide) (by rfl) (by decide) (by rfl) ?_ (by intro _; rfl)
  walk1
  (try dsimp only)
  rename Fr _ _ _ _ => Fc
  rename News _ _ _ _ => Nc
  obtain ⟨ep, hat⟩ := (hdo.keep Fc.keep).dictAt
  rename_i hc o9 d9
  refine wpAny_pyIter_dict lo hat ?_
  have hnd := hT.nodup
  refine ⟨_, _, _, _, _, _, rfl, Walks.dictKeys (knd := intKind prog w) rfl _ dt (Nat.ne_of_lt hat.lt_size) ps ep, ?_, ⟨⟨_, Heap.get?_push_size _ rfl, rfl, rfl⟩, hat.push _⟩, ?_, ⟨?_, ?_, ?_⟩, ?_⟩
  · rw [hiv.length]; exact hlen
  · intro b hb
    rw [Heap.size_push]
    rcases List.mem_cons.mp hb with rfl | hb
    · exact Nat.lt_succ_self _
    · rw [List.mem_singleton.mp hb]; exact Nat.lt_succ_of_lt hat.lt_size
  · intro C i v s₃ m₃ E' hP hns hmx hkp
    exact wpAny_tests_nil ⟨rfl, _, _, rfl, fun _ _ e => e⟩
  · rintro C i v s₃ m₃ E' ⟨k, x, hP, hkey⟩ _ hns hmx hkp
    obtain ⟨t, rfl⟩ := keyInt hkey
    have hcell := fun p hp => hkp p.1 p.2 (fun hm => absurd (Heap.lt_size (Nc p hp).1) ((List.mem_singleton.mp hm) ▸ Nat.lt_irrefl _)) (Heap.get?_push_of_some _ (Nc p hp).1)
    refine wpAny_BinOp (wpAny_Name (wpAny_loadName_local rfl rfl hns hmx (wpAny_Name (wpAny_loadName_cell rfl rfl rfl ⟨_, hcell _ (.tail _ (.head _)), by assumption⟩ ?_))))
    exact PyProof.Rows.add_int ⟨⟨k + z, intKind_is _ _ _ _, k, t, rfl, rfl⟩, _, _, rfl, fun _ _ e => e⟩
  · rintro C i v s₃ m₃ E' ⟨k, x, hP, hkey⟩ _ hns hmx hkp
    obtain ⟨t, rfl⟩ := keyInt hkey
    obtain ⟨n, t', rfl, hkn⟩ := hiv.get hP
    have hcell := fun p hp => hkp p.1 p.2 (fun hm => absurd (Heap.lt_size (Nc p hp).1) ((List.mem_singleton.mp hm) ▸ Nat.lt_irrefl _)) (Heap.get?_push_of_some _ (Nc p hp).1)
    have hTab : TabI prog w s₃.heap dt tab := hT.keep fun b o e => hkp b o (fun hm => absurd (Heap.lt_size (Fc.keep b o e)) ((List.mem_singleton.mp hm) ▸ Nat.lt_irrefl _)) (Heap.get?_push_of_some _ (Fc.keep b o e))
    refine Subscript_ (wpAny_Name (wpAny_loadName_cell rfl rfl rfl ⟨_, hcell _ (.head _), by assumption⟩ (wpAny_Name (wpAny_loadName_local rfl rfl hns hmx ?_))))
    exact tab_item hTab (look_of_get hnd hkn) fun t3 => ⟨⟨k, t, n, t3, rfl, look_of_get hnd hkn, rfl⟩, _, _, rfl, fun _ _ e => e⟩
  · rintro D h' tk kvs vs hD hDo hvl hvP hS hkp
    have hk2 : ∀ b o, hc.get? b = some o → h'.get? b = some o := fun b o e => hkp b o (fun hm => absurd (Heap.lt_size e) ((List.mem_singleton.mp hm) ▸ Nat.lt_irrefl _)) (Heap.get?_push_of_some _ e)
    have hD2 : hc.get? D = none := by
      cases e : hc.get? D with
      | none => rfl
      | some o => rw [Heap.get?_push_of_some _ e] at hD; cases hD
    have hfil : vs.filter (fun _ => true) = vs := List.filter_eq_self.mpr fun _ _ => rfl
    rw [hfil] at hS
    have hiv2 := shifted hnd hS fun j v hj => by
      obtain ⟨k, x, hP, hkey⟩ := hvP j v hj
      obtain ⟨t, rfl⟩ := keyInt hkey
      obtain ⟨n, t', rfl, hkn⟩ := hiv.get hP
      exact ⟨k, n, t, hkn, rfl⟩
    rw [hvl, hiv.length, ← List.length_map (as := tab) (f := fun kv : Int × Int => (kv.1 + z, kv.2)), List.take_length] at hiv2
    have loD := not_modules T (by decide +kernel) (fun b o e => Fc.keep b o (F.keep b o e)) hD2
    obtain ⟨oD, hoD, hDi⟩ := Heap.dictOf_iff.mp hDo
    replace Nc := news_add Fc hD2 (news_keep Nc hk2) hoD
    replace Fc := fr_keep Fc hk2
    clear hkp hvP hS hDo hat hz2 hz3
    (try dsimp only)
    ((try dsimp only); (try ((with_reducible refine wp_tok ?_); intro tk8)); repeat' ((fail_if_success (with_reducible show wpAny _ _ (exec (Stmt.For _ _ _ _ _) _) _ _ _)); (fail_if_success (with_reducible show wpAny _ _ (call (Value.ref _) _ _) _ _ _)); (first | (k_unfold; (try dsimp only)) | (k_end; wrow_close) | walk1 | (dsimp only; walk1) | (leave1; walk_say "STEP leave1"; try dsimp only) | ((try dsimp only); (with_reducible refine Goes.at (by assumption) ?_); (try dsimp only)))))
    rename Fr _ _ _ _ => F9
    rename News _ _ _ _ => N9
    exact hQ _ _ _ _ F9.keep (N9 _ (.head _)).2.2 ⟨_, _, _, _, _, (N9 _ (.head _)).1, rfl, _, rfl⟩ (.of_obj loD (N9 _ (.tail _ (.head _))).1 ⟨_, hDi, hiv2⟩)
end SMoved63
section SGen63
theorem rst_Gen63 : True := by w_top off; trivial
theorem call_gen {prog : Program} {w : World} {A : Around} {s : Shared} {h₀ : Heap} {L : Addr} {m mg mb : Str → Option Value} {K : Frag}
  {p : Program} {loose : List Str} {mean : ExcName → Option Value}
  {R : Result → Shared → Prop} {name qual : Str} {params : Arguments} {body : List Stmt} {scope : Scope} {dV kV doc pm cdv ct oc : Value} {an od : Option Addr} {osl : Array (Option Value)} {f : Addr} {args : Args} {binds : List (Str × Value)}
    (F : Fr h₀ L s.heap m) (X₀ : K.In h₀) (T : Top p loose mean mg mb h₀)
    (ho : K.lookup f = some ⟨oc, od, .func (fnOf name qual params body scope dV kV doc pm an cdv ct), osl⟩) (hcd : codeIn K cdv qual = true) (hroom : A.depth < recursionLimit)
    (hbind : BindsTo s (fnOf name qual params body scope dV kV doc pm an cdv ct) args binds) (hloc : ∀ y ∈ binds, scope.names.lookup y.1 = some .local)
    (h : ∀ (Lg : Addr) (h₁ : Heap) (G : Addr) (h₂ : Heap) (tk : Nat) (oL : Obj), Lg = s.heap.objs.size → (∀ b o, s.heap.get? b = some o → h₂.get? b = some o) → h₁.Ns Lg (fun y => binds.reverse.lookup y) → h₁.get? Lg = some oL → h₂.get? Lg = some oL → s.heap.get? G = none → s.heap.get? Lg = none → G ≠ Lg →
      h₂.get? G = some { cls := .type "generator", data := .fields #[.int s.gens.size 0, .str name tk, .str qual (tk + 1)] } →
      R (.ok (.ret (.ref G))) { s with gens := s.gens.push (.fresh (.func body (envOf qual scope Lg f cdv))), toks := tk + 1 + 1, heap := h₂ })
    (hco : scope.isCoroutine = false) (hgen : scope.isGenerator = true) (hk : scope.kind = .function)
    (hcell : ∀ x ∈ scope.names, x.2 ≠ .cell) : codeAny (model prog w) A (.call (.ref f) args) R s := by
  have X := X₀.keeps F.keep
  have T' := T.keeps F.keep
  refine codeAny_call_generator (fd := fnOf name qual params body scope dV kV doc pm an cdv ct) (body := body) hroom (X _ _ ho) rfl hco hgen rfl (codeRec_of X hcd) (hbind _ _ _ _ ?_)
  refine wpAny_newFunctionEnv hcell hloc (fun h₁ hns hsb => ⟨T'.nolimit.fresh _ hsb, ?_⟩) hk
  have hk₁ : ∀ b o, s.heap.get? b = some o → h₁.get? b = some o := fun b o e => hsb.extBut b o (Nat.ne_of_lt (Heap.lt_size e)) (Heap.get?_push_of_some _ e)
  obtain ⟨oL, es, ep, hL, hr⟩ := id hns
  have hlt : s.heap.objs.size < h₁.objs.size := Heap.lt_size hL
  have fresh : ∀ a, s.heap.objs.size ≤ a → s.heap.get? a = none := fun a ha => by
    cases e : s.heap.get? a with
    | none => rfl
    | some o' => exact absurd (Heap.lt_size e) (Nat.not_lt.mpr ha)
  exact h _ h₁ _ _ _ oL rfl (fun b o e => Heap.get?_push_of_some _ (hk₁ b o e)) hns hL (Heap.get?_push_of_some _ hL) (fresh _ (Nat.le_of_lt hlt)) (fresh _ (Nat.le_refl _)) (Nat.ne_of_gt hlt) (Heap.get?_push_size _ rfl)
set_option maxHeartbeats 4000000 in
theorem ruler_spec {prog : Program} {w : World} {dp un : Nat} {gd : Option (List Code)} {cn : Str} {cs : Scope} {a : Addr} {ccd : Value} {cl : List (Str × Addr)} {outer : List Env} {A₀ : Around} {base h₀ : Heap} {L : Addr} {m mg mb : Str → Option Value} {s : Shared} {Q E : Value → Shared → Prop}
    {p : Program} {loose : List Str} {mean : ExcName → Option Value}
    (B : Below A₀ base outer h₀) (F : Fr h₀ L s.heap m) (X : (hd.heap_39 w.params).In h₀) (T : Top p loose mean mg mb h₀) (hk : cs.kind = .function) (hd : dp + 10 < recursionLimit) (hu : un + 80 < cLine)
    {l : Addr} {row : List Int} {vs : List Value} (hl : h₀.IsList l vs.toArray) (hiv : IntsAre vs row) (N : Nat) (hN : 0 < N) (hne : ∀ k, nexts row none k ≠ .err)
    (hQ : ∀ G Lg oL gs h' tk, (∀ b o, s.heap.get? b = some o → h'.get? b = some o) → s.heap.get? Lg = none → s.heap.get? G = none → G ≠ Lg → h'.get? Lg = some oL → h'.IsGen G s.gens.size → gs.bare = true →
      (∀ un' : Nat, ∀ s'' : Shared, (∀ b o, h₀.get? b = some o → s''.heap.get? b = some o) → s''.heap.get? Lg = some oL →
        gs.Goes (model prog w) (ktrTop dp un' gd cn cs L a ccd cl outer) (GR h₀ Lg row N) (GY h₀ Lg row N) N (.send .none) s'') →
      Q (.ref G) { s with heap := h', toks := tk, gens := s.gens.push gs }) :
    wpAny (model prog w) (ktrTop dp un gd cn cs L a ccd cl outer) (call (.ref 70) [.ref l]) Q E s := by
  refine wpAny_call ?_
  k_dflt (refine' call_gen ?k2 ?k3 ?k5 ?k6 ?k7 ?k8 ?k9 ?kB ?_ ?c2 ?c3 ?c4 ?c5; (case k2 => k_asm); (case k3 => k_asm); (case k5 => k_asm); (case k6 => k_is); (case k7 => k_is); (case k8 => (((try simp only [depth_under_make, depth_under_kw, depth_in1, depth_deeper, depth_caller]); (try dsimp only [ktrTop]); omega))); (case k9 => exact BindsTo.of_eq rfl); (case c5 => decide); (case kB => exact locs rfl); (case c2 => exact rfl); (case c3 => exact rfl); (case c4 => exact rfl); k_whole)
  intro Lg h₁ G h₂ tk oL hLg hkp hns hL1 hL2 hG hLgn hGL hGo
  refine hQ G Lg oL _ h₂ _ hkp hLgn hG hGL hL2 ⟨_, _, _, hGo, rfl, rfl, rfl⟩ rfl fun un' s'' hg'' hL'' => ⟨rfl, ?_⟩
  obtain ⟨x9, hx9⟩ : ∃ x : Ctx9, base9 x = ktrTop dp un' gd cn cs L a ccd cl outer := ⟨⟨dp, un', gd, envX cn cs L a ccd cl :: outer⟩, rfl⟩
  rw [← hx9]
  have habove : h₀.objs.size ≤ Lg := by rw [hLg]; exact Nat.le_trans F.above (Nat.le_of_lt F.ns.lt)
  have F₁ : Fr h₀ Lg s''.heap _ := ⟨hns.at' (fun o e => by rw [hL1] at e; cases e; exact hL''), hg'', habove⟩
  have N₁ := news_rest (h₀ := h₀) (h := s''.heap) (Lg := Lg)
  generalize hrest : restOf h₀ s''.heap Lg = rest at N₁
  refine seg_func ?_
  refine seg_execs_cons ?_
  clear F hQ hLg hkp hL2 hG hLgn hGL hGo
  refine seg_wrap (wpAny_mono (Q := fun f s' => Wall (f = .next ∧ ∃ h' tk' m', s' = { s'' with heap := h', toks := tk' } ∧ Fr h₀ Lg h' m' ∧ News h₀ Lg h' rest ∧ Pins m' [(Str.ofString "grouping", .ref l), (Str.ofString "last_interval", .none)])) (E := fun _ _ => False) ?_ ?_ (fun _ _ h => h.elim))
  · rw [over_func]
    ((try dsimp only); (try ((with_reducible refine wp_tok ?_); intro tk8)); repeat' ((fail_if_success (with_reducible show wpAny _ _ (exec (Stmt.For _ _ _ _ _) _) _ _ _)); (fail_if_success (with_reducible show wpAny _ _ (call (Value.ref _) _ _) _ _ _)); (first | (k_unfold; (try dsimp only)) | (k_end; wrow_close) | walk1 | (dsimp only; walk1) | (leave1; walk_say "STEP leave1"; try dsimp only) | ((try dsimp only); (with_reducible refine Goes.at (by assumption) ?_); (try dsimp only)))))
    exact ⟨rfl, _, _, _, rfl, by assumption, by assumption, rfl, rfl, trivial⟩
  rintro _ s₂ ⟨rfl, h₃, tk₃, m₃, rfl, F₂, N₂, hpin⟩
  clear F₁ N₁
  replace F₂ := pin_fr F₂ hpin
  (try dsimp only)
  refine seg_execs_cons ?_
  refine seg_For' (by intro _; rfl) ?_
  rw [over_func]
  refine wpAny_mono (Q := fun v s' => Wall (v = .ref l ∧ s' = { s'' with heap := h₃, toks := tk₃ })) (E := fun _ _ => False) ?_ ?_ (fun _ _ h => h.elim)
  · ((try dsimp only); (try ((with_reducible refine wp_tok ?_); intro tk8)); repeat' ((fail_if_success (with_reducible show wpAny _ _ (exec (Stmt.For _ _ _ _ _) _) _ _ _)); (fail_if_success (with_reducible show wpAny _ _ (call (Value.ref _) _ _) _ _ _)); (first | (k_unfold; (try dsimp only)) | (k_end; wrow_close) | walk1 | (dsimp only; walk1) | (leave1; walk_say "STEP leave1"; try dsimp only) | ((try dsimp only); (with_reducible refine Goes.at (by assumption) ?_); (try dsimp only)))))
    exact ⟨rfl, rfl⟩
  rintro _ _ ⟨rfl, rfl⟩
  have hls : h₃.IsList l vs.toArray := hl.at fun o e => F₂.keep l o e
  refine wpAny_pyIter_list (s := { s'' with heap := h₃, toks := tk₃ }) hls ?_
  intro p0
  have F₃ := F₂.push { cls := .type "list_iterator", data := .fields #[.ref l, .int 0 0] }
  have N₃ := News.push F₂ N₂ { cls := .type "list_iterator", data := .fields #[.ref l, .int 0 0] }
  refine seg_ind (fun n s₀ s => n ≤ N ∧ (∀ b o, h₀.get? b = some o → s₀.heap.get? b = some o) ∧ ∃ (i : Nat) (last : Option Int) (h : Heap) (tk : Nat) (m' : Str → Option Value) (oI : Obj) (vl : Value),
      s = { s₀ with heap := h, toks := tk } ∧ (∀ k, nexts row none (N - n + k) = nexts (row.drop i) last k) ∧ Fr h₀ Lg h m' ∧ News h₀ Lg h ((h₃.objs.size, oI) :: restOf h₀ s₀.heap Lg) ∧ turnsB oI = true ∧ h.IsListIter h₃.objs.size l i ∧
      Pins m' [(Str.ofString "grouping", .ref l), (Str.ofString "last_interval", vl)] ∧ (match last with | none => vl = .none | some y => ∃ t, vl = .int y t)) ?_ N s'' _ ?_ hN
  · rintro n s₀ _ IH ⟨hnN, hg₀, i, last, h, tk, m', oI, vl, rfl, hnx, F₄, N₄, htI, hit, hpin, hlast⟩
    replace F₄ := pin_fr F₄ hpin
    have hls : h.IsList l vs.toArray := hl.at fun o e => F₄.keep l o e
    refine seg_forLoop ?_
    rw [over_for]
    cases hx : row[i]? with
    | none =>
      refine wpAny_pyNext_list_end (s := { s₀ with heap := h, toks := tk }) rfl hit hls (by rw [List.getElem?_toArray]; exact List.getElem?_eq_none (by rw [hiv.length]; exact List.getElem?_eq_none_iff.mp hx)) fun h₅ hs₅ => ?_
      (try dsimp only)
      have hI₀ := N₄ (h₃.objs.size, oI) (.head _)
      have hoff : ∀ p ∈ restOf h₀ s₀.heap Lg, p.1 ≠ h₃.objs.size := fun p hp e => by
        have h1 := (N₄ p (.tail _ hp)).1
        rw [e, hI₀.1] at h1
        have h2 := (rest_mem hp).2.2.2
        rw [← Option.some.inj h1, htI] at h2; cases h2
      have F₅ : Fr h₀ Lg h₅ _ := ⟨F₄.ns.at' fun o e => hs₅ _ o (Ne.symm hI₀.2.1) e, fun b o e => hs₅ b o (fun q => by rw [q, hI₀.2.2] at e; cases e) (F₄.keep b o e), F₄.above⟩
      have N₅ : News h₀ Lg h₅ (restOf h₀ s₀.heap Lg) := fun p hp => ⟨hs₅ _ _ (hoff p hp) (N₄ p (.tail _ hp)).1, (N₄ p (.tail _ hp)).2⟩
      refine seg_again rfl ?_
      show Seg _ _ _ _ _ _ _ (.pure (.done .next)) _ _
      refine seg_leaf (.ok .next) ?_
      refine seg_end (.ok (.ret .none)) ⟨rfl, ?_, geff_of (more := []) hg₀ F₅ N₅⟩
      have h1 := hnx 0
      rw [Nat.add_zero, List.drop_eq_nil_of_le (List.getElem?_eq_none_iff.mp hx)] at h1
      exact h1
    | some x =>
      obtain ⟨tx, hvx⟩ := hiv.get i x hx
      have hdrop : row.drop i = x :: row.drop (i + 1) := by
        obtain ⟨q1, q2⟩ := List.getElem?_eq_some_iff.mp hx
        rw [← q2]; exact List.drop_eq_getElem_cons q1
      refine wpAny_pyNext_list_item (s := { s₀ with heap := h, toks := tk }) hit hls (x := .int x tx) (by simpa using hvx) fun h₅ hit₅ hs₅ => ?_
      (try dsimp only)
      refine letGo_listiter (s' := { s₀ with heap := h₅, toks := tk }) hit₅ ?_
      have hI₀ := N₄ (h₃.objs.size, oI) (.head _)
      have hoff : ∀ p ∈ restOf h₀ s₀.heap Lg, p.1 ≠ h₃.objs.size := fun p hp e => by
        have h1 := (N₄ p (.tail _ hp)).1
        rw [e, hI₀.1] at h1
        have h2 := (rest_mem hp).2.2.2
        rw [← Option.some.inj h1, htI] at h2; cases h2
      obtain ⟨oI₅, hoI₅, hcI₅, hdI₅⟩ := id hit₅
      have ht₅ : turnsB oI₅ = true := by unfold turnsB; rw [hcI₅, hdI₅]; rfl
      have F₅ : Fr h₀ Lg h₅ _ := F₄.change hs₅ hI₀.2.1 hI₀.2.2
      have N₅ : News h₀ Lg h₅ ((h₃.objs.size, oI₅) :: restOf h₀ s₀.heap Lg) := fun p hp => by
        rcases List.mem_cons.mp hp with rfl | hp
        · exact ⟨hoI₅, hI₀.2⟩
        · exact ⟨(hs₅.2 p.1 (hoff p hp)).trans (N₄ p (.tail _ hp)).1, (N₄ p (.tail _ hp)).2⟩
      clear F₄ N₄ F₂ N₂ F₃ N₃ hit₅ hs₅ hit
      refine wpAny_mono (Q := fun _ s' => Wall (∃ h' tk' m', s' = { s₀ with heap := h', toks := tk' } ∧ Fr h₀ Lg h' m' ∧ News h₀ Lg h' ((h₃.objs.size, oI₅) :: restOf h₀ s₀.heap Lg) ∧ Pins m' [(Str.ofString "grouping", .ref l), (Str.ofString "last_interval", vl), (Str.ofString "interval", .int x tx)])) (E := fun _ _ => False) ?_ ?_ (fun _ _ h => h.elim)
      · ((try dsimp only); (try ((with_reducible refine wp_tok ?_); intro tk8)); repeat' ((fail_if_success (with_reducible show wpAny _ _ (exec (Stmt.For _ _ _ _ _) _) _ _ _)); (fail_if_success (with_reducible show wpAny _ _ (call (Value.ref _) _ _) _ _ _)); (first | (k_unfold; (try dsimp only)) | (k_end; wrow_close) | walk1 | (dsimp only; walk1) | (leave1; walk_say "STEP leave1"; try dsimp only) | ((try dsimp only); (with_reducible refine Goes.at (by assumption) ?_); (try dsimp only)))))
        exact ⟨_, _, _, rfl, by assumption, by assumption, rfl, rfl, rfl, trivial⟩
      rintro _ _ ⟨h₆, tk₆, m₆, rfl, F₆, N₆, hpin₆⟩
      clear F₅ N₅
      replace F₆ := pin_fr F₆ hpin₆
      refine seg_execs_cons ?_
      by_cases hx127 : x = 127
      · refine seg_wrap (wpAny_mono (Q := fun f s' => Wall (f = .ret .none ∧ ∃ h' tk' m', s' = { s₀ with heap := h', toks := tk' } ∧ Fr h₀ Lg h' m' ∧ News h₀ Lg h' ((h₃.objs.size, oI₅) :: restOf h₀ s₀.heap Lg))) (E := fun _ _ => False) ?_ ?_ (fun _ _ h => h.elim))
        · rw [over_for]
          ((try dsimp only); (try ((with_reducible refine wp_tok ?_); intro tk8)); repeat' ((fail_if_success (with_reducible show wpAny _ _ (exec (Stmt.For _ _ _ _ _) _) _ _ _)); (fail_if_success (with_reducible show wpAny _ _ (call (Value.ref _) _ _) _ _ _)); (first | (k_unfold; (try dsimp only)) | (k_end; wrow_close) | walk1 | (dsimp only; walk1) | (leave1; walk_say "STEP leave1"; try dsimp only) | ((try dsimp only); (with_reducible refine Goes.at (by assumption) ?_); (try dsimp only)))))
          all_goals first | contradiction | exact ⟨rfl, _, _, _, rfl, by assumption, by assumption⟩
        rintro _ _ ⟨rfl, h₇, tk₇, m₇, rfl, F₇, N₇⟩
        refine seg_leaf (.ok (.ret .none)) ?_
        refine seg_end (.ok (.ret .none)) ⟨rfl, ?_, geff_of (more := [_]) hg₀ F₇ N₇⟩
        have h1 := hnx 0
        rw [Nat.add_zero, hdrop] at h1
        rw [h1]; simp [nexts, hx127]
      · refine seg_wrap (wpAny_mono (Q := fun f s' => Wall (f = .next ∧ ∃ tk', s' = { s₀ with heap := h₆, toks := tk' })) (E := fun _ _ => False) ?_ ?_ (fun _ _ h => h.elim))
        · rw [over_for]
          ((try dsimp only); (try ((with_reducible refine wp_tok ?_); intro tk8)); repeat' ((fail_if_success (with_reducible show wpAny _ _ (exec (Stmt.For _ _ _ _ _) _) _ _ _)); (fail_if_success (with_reducible show wpAny _ _ (call (Value.ref _) _ _) _ _ _)); (first | (k_unfold; (try dsimp only)) | (k_end; wrow_close) | walk1 | (dsimp only; walk1) | (leave1; walk_say "STEP leave1"; try dsimp only) | ((try dsimp only); (with_reducible refine Goes.at (by assumption) ?_); (try dsimp only)))))
          all_goals first | contradiction | exact ⟨rfl, _, rfl⟩
        rintro _ _ ⟨rfl, tk₇, rfl⟩
        (try dsimp only)
        refine seg_execs_cons ?_
        by_cases hx0 : x = 0
        · have h1 := fun k => hnx k
          simp only [hdrop, nexts, hx127, hx0, if_false, if_true] at h1
          cases last with
          | none => exact absurd (h1 0) (hne _)
          | some y =>
            obtain ⟨ty, rfl⟩ := hlast
            refine seg_If (wpAny_mono (Q := fun b s' => Wall (b = true ∧ ∃ tk', s' = { s₀ with heap := h₆, toks := tk' })) (E := fun _ _ => False) ?_ ?_ (fun _ _ h => h.elim))
            · rw [over_for]
              ((try dsimp only); (try ((with_reducible refine wp_tok ?_); intro tk8)); repeat' ((fail_if_success (with_reducible show wpAny _ _ (exec (Stmt.For _ _ _ _ _) _) _ _ _)); (fail_if_success (with_reducible show wpAny _ _ (call (Value.ref _) _ _) _ _ _)); (first | (k_unfold; (try dsimp only)) | (k_end; wrow_close) | walk1 | (dsimp only; walk1) | (leave1; walk_say "STEP leave1"; try dsimp only) | ((try dsimp only); (with_reducible refine Goes.at (by assumption) ?_); (try dsimp only)))))
              exact ⟨beq_iff_eq.mpr hx0, _, rfl⟩
            rintro _ _ ⟨rfl, tk₈, rfl⟩
            rw [if_pos rfl]
            refine seg_execs_cons ?_
            refine seg_wrap (wpAny_mono (Q := fun f s' => Wall (f = .next ∧ ∃ tk', s' = { s₀ with heap := h₆, toks := tk' })) (E := fun _ _ => False) ?_ ?_ (fun _ _ h => h.elim))
            · rw [over_for]
              ((try dsimp only); (try ((with_reducible refine wp_tok ?_); intro tk8)); repeat' ((fail_if_success (with_reducible show wpAny _ _ (exec (Stmt.For _ _ _ _ _) _) _ _ _)); (fail_if_success (with_reducible show wpAny _ _ (call (Value.ref _) _ _) _ _ _)); (first | (k_unfold; (try dsimp only)) | (k_end; wrow_close) | walk1 | (dsimp only; walk1) | (leave1; walk_say "STEP leave1"; try dsimp only) | ((try dsimp only); (with_reducible refine Goes.at (by assumption) ?_); (try dsimp only)))))
              all_goals first | contradiction | exact ⟨rfl, _, rfl⟩
            rintro _ _ ⟨rfl, tk₉, rfl⟩
            (try dsimp only)
            refine seg_execs_cons ?_
            refine seg_While' fun p1 => ?_
            refine seg_ind (fun n s₀ s => n ≤ N ∧ (∀ b o, h₀.get? b = some o → s₀.heap.get? b = some o) ∧ ∃ (h : Heap) (tk : Nat) (m' : Str → Option Value) (oI : Obj) (vy : Tok),
                s = { s₀ with heap := h, toks := tk } ∧ (∀ k, nexts row none (N - n + k) = .val y) ∧ Fr h₀ Lg h m' ∧ News h₀ Lg h ((h₃.objs.size, oI) :: restOf h₀ s₀.heap Lg) ∧ turnsB oI = true ∧
                Pins m' [(Str.ofString "last_interval", .int y vy)]) ?_ (n + 1) s₀ _ ?_ (Nat.succ_pos _)
            · clear F₆ N₆ IH hnx hg₀ hoff hpin₆ hpin hnN h1 ht₅ hI₀ hls hoI₅ htI
              rintro n s₀ _ IHW ⟨hnN, hg₀, h, tk, m', oI, vy, rfl, hny, F₇, N₇, htI, hpin⟩
              replace F₇ := pin_fr F₇ hpin
              refine seg_whileLoop (wpAny_mono (Q := fun b s' => Wall (b = true ∧ ∃ tk', s' = { s₀ with heap := h, toks := tk' })) (E := fun _ _ => False) ?_ ?_ (fun _ _ h => h.elim))
              · rw [over_while]
                ((try dsimp only); (try ((with_reducible refine wp_tok ?_); intro tk8)); repeat' ((fail_if_success (with_reducible show wpAny _ _ (exec (Stmt.For _ _ _ _ _) _) _ _ _)); (fail_if_success (with_reducible show wpAny _ _ (call (Value.ref _) _ _) _ _ _)); (first | (k_unfold; (try dsimp only)) | (k_end; wrow_close) | walk1 | (dsimp only; walk1) | (leave1; walk_say "STEP leave1"; try dsimp only) | ((try dsimp only); (with_reducible refine Goes.at (by assumption) ?_); (try dsimp only)))))
                exact ⟨rfl, _, rfl⟩
              rintro _ _ ⟨rfl, tk', rfl⟩
              rw [if_pos rfl]
              refine seg_execs_cons ?_
              refine seg_Expr_Yield rfl rfl rfl (wpAny_mono (Q := fun v s' => Wall (v = .int y vy ∧ ∃ tk', s' = { s₀ with heap := h, toks := tk' })) (E := fun _ _ => False) ?_ ?_ (fun _ _ h => h.elim)) rfl rfl
              · rw [over_while]
                ((try dsimp only); (try ((with_reducible refine wp_tok ?_); intro tk8)); repeat' ((fail_if_success (with_reducible show wpAny _ _ (exec (Stmt.For _ _ _ _ _) _) _ _ _)); (fail_if_success (with_reducible show wpAny _ _ (call (Value.ref _) _ _) _ _ _)); (first | (k_unfold; (try dsimp only)) | (k_end; wrow_close) | walk1 | (dsimp only; walk1) | (leave1; walk_say "STEP leave1"; try dsimp only) | ((try dsimp only); (with_reducible refine Goes.at (by assumption) ?_); (try dsimp only)))))
                exact ⟨rfl, _, rfl⟩
              rintro _ _ ⟨rfl, tk2, rfl⟩ kap hkap
              obtain ⟨oL2, es2, ep2, hL2, hr2⟩ := id F₇.ns
              have hI := N₇ (h₃.objs.size, oI) (.head _)
              refine ⟨y, vy, rfl, ?_, geff_of (more := [_]) hg₀ F₇ N₇, fun hn => ⟨oL2, h₃.objs.size, oI, hL2, hI.1, hI.2.2, hI.2.1, htI, fun s₃ hg₃ hL₃ hI₃ => hkap .none s₃ ?_⟩⟩
              · have := hny 0; rwa [Nat.add_zero] at this
              · refine seg_again rfl (IHW s₃ s₃ ⟨by omega, hg₃, s₃.heap, s₃.toks, _, oI, vy, rfl, fun k => ?_, ⟨F₇.ns.at' (fun o e => by rw [hL2] at e; cases e; exact hL₃), hg₃, F₇.above⟩, fun q hq => ?_, htI, rfl, trivial⟩ hn)
                · have := hny (k + 1)
                  rw [← this]; congr 1; exact sub_step k (by omega)
                · rcases List.mem_cons.mp hq with rfl | hq
                  · exact ⟨hI₃, hI.2⟩
                  · exact news_rest q hq
            · exact ⟨hnN, hg₀, h₆, tk₉, _, oI₅, ty, rfl, h1, F₆, N₆, ht₅, rfl, trivial⟩
        · refine seg_wrap (wpAny_mono (Q := fun f s' => Wall (f = .next ∧ ∃ tk', s' = { s₀ with heap := h₆, toks := tk' })) (E := fun _ _ => False) ?_ ?_ (fun _ _ h => h.elim))
          · rw [over_for]
            ((try dsimp only); (try ((with_reducible refine wp_tok ?_); intro tk8)); repeat' ((fail_if_success (with_reducible show wpAny _ _ (exec (Stmt.For _ _ _ _ _) _) _ _ _)); (fail_if_success (with_reducible show wpAny _ _ (call (Value.ref _) _ _) _ _ _)); (first | (k_unfold; (try dsimp only)) | (k_end; wrow_close) | walk1 | (dsimp only; walk1) | (leave1; walk_say "STEP leave1"; try dsimp only) | ((try dsimp only); (with_reducible refine Goes.at (by assumption) ?_); (try dsimp only)))))
            all_goals first | contradiction | exact ⟨rfl, _, rfl⟩
          rintro _ _ ⟨rfl, tk₈, rfl⟩
          (try dsimp only)
          refine seg_execs_cons ?_
          refine seg_Expr_Yield rfl rfl rfl (wpAny_mono (Q := fun v s' => Wall (v = .int x tx ∧ ∃ tk', s' = { s₀ with heap := h₆, toks := tk' })) (E := fun _ _ => False) ?_ ?_ (fun _ _ h => h.elim)) rfl rfl
          · rw [over_for]
            ((try dsimp only); (try ((with_reducible refine wp_tok ?_); intro tk8)); repeat' ((fail_if_success (with_reducible show wpAny _ _ (exec (Stmt.For _ _ _ _ _) _) _ _ _)); (fail_if_success (with_reducible show wpAny _ _ (call (Value.ref _) _ _) _ _ _)); (first | (k_unfold; (try dsimp only)) | (k_end; wrow_close) | walk1 | (dsimp only; walk1) | (leave1; walk_say "STEP leave1"; try dsimp only) | ((try dsimp only); (with_reducible refine Goes.at (by assumption) ?_); (try dsimp only)))))
            exact ⟨rfl, _, rfl⟩
          rintro _ _ ⟨rfl, tk₉, rfl⟩ kap hkap
          obtain ⟨oL2, es2, ep2, hL2, hr2⟩ := id F₆.ns
          have hI := N₆ (h₃.objs.size, oI₅) (.head _)
          have h1 := hnx
          simp only [hdrop] at h1
          refine ⟨x, tx, rfl, ?_, geff_of (more := [_]) hg₀ F₆ N₆, fun hn => ⟨oL2, h₃.objs.size, oI₅, hL2, hI.1, hI.2.2, hI.2.1, ht₅, fun s₃ hg₃ hL₃ hI₃ => hkap .none s₃ ?_⟩⟩
          · have := h1 0; rw [Nat.add_zero, nexts_zero hx127 hx0] at this; exact this
          · have F₈ : Fr h₀ Lg s₃.heap _ := ⟨F₆.ns.at' (fun o e => by rw [hL2] at e; cases e; exact hL₃), hg₃, F₆.above⟩
            have N₈ : News h₀ Lg s₃.heap ((h₃.objs.size, oI₅) :: restOf h₀ s₃.heap Lg) := fun q hq => by
              rcases List.mem_cons.mp hq with rfl | hq
              · exact ⟨hI₃, hI.2⟩
              · exact news_rest q hq
            clear F₆ N₆
            (try dsimp only)
            refine seg_execs_cons ?_
            refine seg_wrap (wpAny_mono (Q := fun f s' => Wall (f = .next ∧ ∃ h' tk' m', s' = { s₃ with heap := h', toks := tk' } ∧ Fr h₀ Lg h' m' ∧ News h₀ Lg h' ((h₃.objs.size, oI₅) :: restOf h₀ s₃.heap Lg) ∧ Pins m' [(Str.ofString "grouping", .ref l), (Str.ofString "last_interval", .int x tx)])) (E := fun _ _ => False) ?_ ?_ (fun _ _ h => h.elim))
            · rw [over_for]
              ((try dsimp only); (try ((with_reducible refine wp_tok ?_); intro tk8)); repeat' ((fail_if_success (with_reducible show wpAny _ _ (exec (Stmt.For _ _ _ _ _) _) _ _ _)); (fail_if_success (with_reducible show wpAny _ _ (call (Value.ref _) _ _) _ _ _)); (first | (k_unfold; (try dsimp only)) | (k_end; wrow_close) | walk1 | (dsimp only; walk1) | (leave1; walk_say "STEP leave1"; try dsimp only) | ((try dsimp only); (with_reducible refine Goes.at (by assumption) ?_); (try dsimp only)))))
              exact ⟨rfl, _, _, _, rfl, by assumption, by assumption, rfl, rfl, trivial⟩
            rintro _ _ ⟨rfl, h₉, tk2, m₉, rfl, F₉, N₉, hpin₉⟩
            (try dsimp only)
            refine seg_execs_nil ?_
            refine seg_again rfl (IH s₃ _ ⟨by omega, hg₃, i + 1, some x, h₉, tk2, m₉, oI₅, _, rfl, fun k => ?_, F₉, N₉, ht₅, ⟨oI₅, (N₉ _ (.head _)).1, hcI₅, hdI₅⟩, hpin₉, tx, rfl⟩ hn)
            have := h1 (k + 1)
            rw [nexts_succ hx127 hx0] at this
            rw [← this]; congr 1; exact sub_step k (by omega)
  · refine ⟨Nat.le_refl _, hg'', 0, none, _, _, _, { cls := .type "list_iterator", data := .fields #[.ref l, .int 0 0] }, _, rfl, fun k => ?_, F₃, ?_, rfl, ⟨_, Heap.get?_push_size _ rfl, rfl, rfl⟩, ⟨rfl, rfl, trivial⟩, rfl⟩
    · rw [Nat.sub_self, Nat.zero_add]; rfl
    · rw [hrest]; exact N₃
end SGen63
section SErr63
theorem rst_Err63 : True := by w_top off; trivial
/-- the heap as far as n -/
def cut (h : Heap) (n : Nat) : Heap := { h with objs := h.objs.extract 0 n }
theorem cut_get {h : Heap} {n b : Nat} (hb : b < n) : (cut h n).get? b = h.get? b := by
  unfold cut Heap.get?
  have : (h.objs.extract 0 n)[b]? = h.objs[b]? := by
    rw [Array.getElem?_extract, Nat.sub_zero, Nat.zero_add]
    by_cases hs : b < h.objs.size
    · rw [if_pos (Nat.lt_min.mpr ⟨hb, hs⟩)]
    · rw [if_neg (fun q => hs (Nat.lt_min.mp q).2)]
      exact (Array.getElem?_eq_none (Nat.le_of_not_lt hs)).symm
  rw [this]
theorem cut_keep {h : Heap} {n : Nat} {b : Addr} {o : Obj} (e : (cut h n).get? b = some o) : h.get? b = some o := by
  have hlt := Heap.lt_size e
  have hb : b < n := Nat.lt_of_lt_of_le hlt (by unfold cut; rw [Array.size_extract]; omega)
  rw [cut_get hb] at e; exact e
theorem cut_size {h : Heap} {n : Nat} : (cut h n).objs.size ≤ n := by unfold cut; rw [Array.size_extract]; omega
/-- the heap h, with no more in it than h₀ has, and L -/
def onlyH (h₀ : Heap) (L : Addr) (h : Heap) : Heap := hideAll h ((List.range h.objs.size).filter fun b => (h₀.get? b).isNone && b != L)
theorem only_get {h₀ h : Heap} {L b : Addr} {o : Obj} (hk : ∀ b o, h₀.get? b = some o → h.get? b = some o) (e : (onlyH h₀ L h).get? b = some o) : h.get? b = some o ∧ (b = L ∨ h₀.get? b = some o) := by
  have hb := of_hideAll _ e
  refine ⟨hb, ?_⟩
  by_cases hL : b = L
  · exact .inl hL
  · right
    cases q : h₀.get? b with
    | some o' => rw [hk b o' q] at hb; exact hb
    | none =>
      have hm : b ∈ (List.range h.objs.size).filter fun b => (h₀.get? b).isNone && b != L := List.mem_filter.mpr ⟨List.mem_range.mpr (Heap.lt_size hb), by simp [q, hL]⟩
      unfold onlyH at e
      rw [hideAll_none _ hm] at e; cases e
theorem only_some {h₀ h : Heap} {L b : Addr} {o : Obj} (e : h.get? b = some o) (hx : b = L ∨ h₀.get? b = some o) : (onlyH h₀ L h).get? b = some o := by
  refine hideAll_get _ e fun hm => ?_
  have := (List.mem_filter.mp hm).2
  rcases hx with rfl | hx
  · simp at this
  · simp [hx] at this
theorem only_none {h₀ h : Heap} {L b : Addr} (hk : ∀ b o, h₀.get? b = some o → h.get? b = some o) (h0 : h₀.get? b = none) (hL : b ≠ L) : (onlyH h₀ L h).get? b = none := by
  cases e : (onlyH h₀ L h).get? b with
  | none => rfl
  | some o => rcases (only_get hk e).2 with q | q
              · exact absurd q hL
              · rw [h0] at q; cases q
theorem only_fr {h₀ h : Heap} {L : Addr} {m : Str → Option Value} (F : Fr h₀ L h m) : Fr h₀ L (onlyH h₀ L h) m :=
  ⟨F.ns.at' fun o e => only_some e (.inl rfl), fun b o e => only_some (F.keep b o e) (.inr e), F.above⟩
/-- what the ruler does when it is refused -/
def GE (base h₀ : Heap) (L : Addr) (envs : List Env) (Lg : Addr) : GenEnd := fun _ s₀ r s' =>
  ∃ e t vs h' tk, r = .error (.ref e) ∧ s' = { s₀ with heap := h', toks := tk } ∧ (onlyH h₀ L s₀.heap).UpToSlots h' ∧
    ∀ ledger, News h₀ L s₀.heap ledger → (∀ q ∈ ledger, q.1 ≠ Lg ∧ turnsB q.2 = false) → PySem.W.RaisedS base (onlyH h₀ L s₀.heap) envs e (.type "ValueError") t vs ledger h'
set_option maxHeartbeats 4000000 in
theorem ruler_err {prog : Program} {w : World} {dp un : Nat} {gd : Option (List Code)} {cn : Str} {cs : Scope} {a : Addr} {ccd : Value} {cl : List (Str × Addr)} {outer : List Env} {A₀ : Around} {base h₀ : Heap} {L : Addr} {m mg mb : Str → Option Value} {s : Shared} {Q E : Value → Shared → Prop}
    {p : Program} {loose : List Str} {mean : ExcName → Option Value}
    (B : Below A₀ base outer h₀) (F : Fr h₀ L s.heap m) (X : (hd.heap_39 w.params).In h₀) (T : Top p loose mean mg mb h₀) (hk : cs.kind = .function) (hd : dp + 10 < recursionLimit) (hu : un + 80 < cLine)
    {l : Addr} {t0 : Tok} {vs : List Value} (hl : h₀.IsList l (Value.int 0 t0 :: vs).toArray)
    (hQ : ∀ G Lg oL gs h' tk, (∀ b o, s.heap.get? b = some o → h'.get? b = some o) → s.heap.objs.size ≤ Lg → s.heap.get? Lg = none → s.heap.get? G = none → G ≠ Lg → h'.get? Lg = some oL → h'.IsGen G s.gens.size →
      (∀ un' : Nat, ∀ s'' : Shared, ∀ m'', Fr h₀ L s''.heap m'' → s''.heap.get? Lg = some oL →
        gs.Goes (model prog w) (ktrTop dp un' gd cn cs L a ccd cl outer) (GE base h₀ L (envX cn cs L a ccd cl :: outer) Lg) (fun _ _ _ _ _ => False) 1 (.send .none) s'') →
      Q (.ref G) { s with heap := h', toks := tk, gens := s.gens.push gs }) :
    wpAny (model prog w) (ktrTop dp un gd cn cs L a ccd cl outer) (call (.ref 70) [.ref l]) Q E s := by
  refine wpAny_call ?_
  k_dflt (refine' call_gen ?k2 ?k3 ?k5 ?k6 ?k7 ?k8 ?k9 ?kB ?_ ?c2 ?c3 ?c4 ?c5; (case k2 => k_asm); (case k3 => k_asm); (case k5 => k_asm); (case k6 => k_is); (case k7 => k_is); (case k8 => (((try simp only [depth_under_make, depth_under_kw, depth_in1, depth_deeper, depth_caller]); (try dsimp only [ktrTop]); omega))); (case k9 => exact BindsTo.of_eq rfl); (case c5 => decide); (case kB => exact locs rfl); (case c2 => exact rfl); (case c3 => exact rfl); (case c4 => exact rfl); k_whole)
  intro Lg h₁ G h₂ tk oL hLg hkp hns hL1 hL2 hG hLgn hGL hGo
  refine hQ G Lg oL _ h₂ _ hkp (Nat.le_of_eq hLg.symm) hLgn hG hGL hL2 ⟨_, _, _, hGo, rfl, rfl, rfl⟩ fun un' s'' m'' Fr'' hL'' => ⟨rfl, ?_⟩
  obtain ⟨x9, hx9⟩ : ∃ x : Ctx9, base9 x = ktrTop dp un' gd cn cs L a ccd cl outer := ⟨⟨dp, un', gd, envX cn cs L a ccd cl :: outer⟩, rfl⟩
  rw [← hx9]
  have hLLg : L < Lg := by rw [hLg]; exact F.ns.lt
  have hcs := cut_size (h := s''.heap) (n := Lg)
  have hkg : ∀ b o, h₀.get? b = some o → (cut s''.heap Lg).get? b = some o := fun b o e => by
    rw [cut_get (Nat.lt_trans (Nat.lt_of_lt_of_le (Heap.lt_size e) F.above) hLLg)]; exact Fr''.keep b o e
  have FL : Fr h₀ L (cut s''.heap Lg) m'' := ⟨Fr''.ns.at' (fun o e => by rw [cut_get hLLg]; exact e), hkg, F.above⟩
  have B₁ : Below (base9 x9) base (envX cn cs L a ccd cl :: outer) (cut s''.heap Lg) := by
    have b1 := pushX (env := envX cn cs L a ccd cl) B FL rfl hk
    exact ⟨by rw [hx9], b1.stays, b1.frames⟩
  clear hx9
  have hkF := Fr''.keep
  have hout : ∀ b, h₀.get? b = none → b ≠ L → b ∉ (envX cn cs L a ccd cl :: outer).filterMap (·.frame) := fun b hb hbL hm => by
    obtain ⟨env, he, hf⟩ := List.mem_filterMap.mp hm
    rcases List.mem_cons.mp he with rfl | he
    · exact hbL (Option.some.inj hf).symm
    · obtain ⟨_, o, ho, _⟩ := B.frames.mem (List.mem_filterMap.mpr ⟨env, he, hf⟩)
      rw [hb] at ho; cases ho
  have hbase : ∀ b, h₀.get? b = none → base.get? b = none := fun b hb => fresh_of_stays B.stays hb
  have hcut : ∀ b o, s''.heap.get? b = some o → b < Lg → (cut s''.heap Lg).get? b = some o := fun b o e hb => (cut_get hb).trans e
  have X₁ := X.keeps hkg
  have T₁ := T.keeps hkg
  have F₁ : Fr (cut s''.heap Lg) Lg s''.heap _ := ⟨hns.at' (fun o e => by rw [hL1] at e; cases e; exact hL''), fun b o e => cut_keep e, hcs⟩
  have N₁ := news_rest (h₀ := cut s''.heap Lg) (h := s''.heap) (Lg := Lg)
  have hl₁ : (cut s''.heap Lg).IsList l _ := hl.at fun o e => hkg l o e
  generalize hrest : restOf (cut s''.heap Lg) s''.heap Lg = rest at N₁
  generalize hgr : cut s''.heap Lg = gr at *
  refine seg_func ?_
  refine seg_execs_cons ?_
  clear F hQ hLg hkp hL2 hG hLgn hGL hGo X T FL B Fr'' hl
  refine seg_wrap (wpAny_mono (Q := fun f s' => Wall (f = .next ∧ ∃ h' tk' m', s' = { s'' with heap := h', toks := tk' } ∧ Fr gr Lg h' m' ∧ News gr Lg h' rest ∧ Pins m' [(Str.ofString "grouping", .ref l), (Str.ofString "last_interval", .none)])) (E := fun _ _ => False) ?_ ?_ (fun _ _ h => h.elim))
  · rw [over_func]
    ((try dsimp only); (try ((with_reducible refine wp_tok ?_); intro tk8)); repeat' ((fail_if_success (with_reducible show wpAny _ _ (exec (Stmt.For _ _ _ _ _) _) _ _ _)); (fail_if_success (with_reducible show wpAny _ _ (call (Value.ref _) _ _) _ _ _)); (first | (k_unfold; (try dsimp only)) | (k_end; wrow_close) | walk1 | (dsimp only; walk1) | (leave1; walk_say "STEP leave1"; try dsimp only) | ((try dsimp only); (with_reducible refine Goes.at (by assumption) ?_); (try dsimp only)))))
    exact ⟨rfl, _, _, _, rfl, by assumption, by assumption, rfl, rfl, trivial⟩
  rintro _ s₂ ⟨rfl, h₃, tk₃, m₃, rfl, F₂, N₂, hpin⟩
  clear F₁ N₁
  replace F₂ := pin_fr F₂ hpin
  (try dsimp only)
  refine seg_execs_cons ?_
  refine seg_For' (by intro _; rfl) ?_
  rw [over_func]
  refine wpAny_mono (Q := fun v s' => Wall (v = .ref l ∧ s' = { s'' with heap := h₃, toks := tk₃ })) (E := fun _ _ => False) ?_ ?_ (fun _ _ h => h.elim)
  · ((try dsimp only); (try ((with_reducible refine wp_tok ?_); intro tk8)); repeat' ((fail_if_success (with_reducible show wpAny _ _ (exec (Stmt.For _ _ _ _ _) _) _ _ _)); (fail_if_success (with_reducible show wpAny _ _ (call (Value.ref _) _ _) _ _ _)); (first | (k_unfold; (try dsimp only)) | (k_end; wrow_close) | walk1 | (dsimp only; walk1) | (leave1; walk_say "STEP leave1"; try dsimp only) | ((try dsimp only); (with_reducible refine Goes.at (by assumption) ?_); (try dsimp only)))))
    exact ⟨rfl, rfl⟩
  rintro _ _ ⟨rfl, rfl⟩
  have hls : h₃.IsList l _ := hl₁.at fun o e => F₂.keep l o e
  refine wpAny_pyIter_list (s := { s'' with heap := h₃, toks := tk₃ }) hls ?_
  intro p0
  have F₃ := F₂.push { cls := .type "list_iterator", data := .fields #[.ref l, .int 0 0] }
  have N₃ := News.push F₂ N₂ { cls := .type "list_iterator", data := .fields #[.ref l, .int 0 0] }
  have hI₀ := N₃ _ (.head _)
  refine seg_forLoop ?_
  rw [over_for]
  have hls₃ : (h₃.push { cls := .type "list_iterator", data := .fields #[.ref l, .int 0 0] }).IsList l _ := hls.at fun o e => Heap.get?_push_of_some _ e
  refine wpAny_pyNext_list_item (s := { s'' with heap := _, toks := tk₃ }) (i := 0) ⟨_, Heap.get?_push_size _ rfl, rfl, rfl⟩ hls₃ (x := .int 0 t0) rfl fun h₅ hit₅ hs₅ => ?_
  (try dsimp only)
  refine letGo_listiter (s' := { s'' with heap := h₅, toks := tk₃ }) hit₅ ?_
  have F₅ : Fr gr Lg h₅ _ := F₃.change hs₅ hI₀.2.1 hI₀.2.2
  have N₅ : News gr Lg h₅ rest := fun p hp => by
    have := N₂ p hp
    refine ⟨(hs₅.2 p.1 (Nat.ne_of_lt (Heap.lt_size this.1))).trans (Heap.get?_push_of_some _ this.1), this.2⟩
  clear F₂ N₂ F₃ N₃ hit₅ hs₅ hI₀ hls hls₃
  refine wpAny_mono (Q := fun _ s' => Wall (∃ h' tk' m', s' = { s'' with heap := h', toks := tk' } ∧ Fr gr Lg h' m' ∧ News gr Lg h' rest ∧ Pins m' [(Str.ofString "grouping", .ref l), (Str.ofString "last_interval", .none), (Str.ofString "interval", .int 0 t0)])) (E := fun _ _ => False) ?_ ?_ (fun _ _ h => h.elim)
  · ((try dsimp only); (try ((with_reducible refine wp_tok ?_); intro tk8)); repeat' ((fail_if_success (with_reducible show wpAny _ _ (exec (Stmt.For _ _ _ _ _) _) _ _ _)); (fail_if_success (with_reducible show wpAny _ _ (call (Value.ref _) _ _) _ _ _)); (first | (k_unfold; (try dsimp only)) | (k_end; wrow_close) | walk1 | (dsimp only; walk1) | (leave1; walk_say "STEP leave1"; try dsimp only) | ((try dsimp only); (with_reducible refine Goes.at (by assumption) ?_); (try dsimp only)))))
    exact ⟨_, _, _, rfl, by assumption, by assumption, rfl, rfl, rfl, trivial⟩
  rintro _ _ ⟨h₆, tk₆, m₆, rfl, F₆, N₆, hpin₆⟩
  clear F₅ N₅
  replace F₆ := pin_fr F₆ hpin₆
  refine seg_execs_cons ?_
  refine seg_wrap (wpAny_mono (Q := fun f s' => Wall (f = .next ∧ ∃ tk', s' = { s'' with heap := h₆, toks := tk' })) (E := fun _ _ => False) ?_ ?_ (fun _ _ h => h.elim))
  · rw [over_for]
    ((try dsimp only); (try ((with_reducible refine wp_tok ?_); intro tk8)); repeat' ((fail_if_success (with_reducible show wpAny _ _ (exec (Stmt.For _ _ _ _ _) _) _ _ _)); (fail_if_success (with_reducible show wpAny _ _ (call (Value.ref _) _ _) _ _ _)); (first | (k_unfold; (try dsimp only)) | (k_end; wrow_close) | walk1 | (dsimp only; walk1) | (leave1; walk_say "STEP leave1"; try dsimp only) | ((try dsimp only); (with_reducible refine Goes.at (by assumption) ?_); (try dsimp only)))))
    all_goals first | contradiction | exact ⟨rfl, _, rfl⟩
  rintro _ _ ⟨rfl, tk₇, rfl⟩
  (try dsimp only)
  refine seg_execs_cons ?_
  refine seg_If (wpAny_mono (Q := fun b s' => Wall (b = true ∧ ∃ tk', s' = { s'' with heap := h₆, toks := tk' })) (E := fun _ _ => False) ?_ ?_ (fun _ _ h => h.elim))
  · rw [over_for]
    ((try dsimp only); (try ((with_reducible refine wp_tok ?_); intro tk8)); repeat' ((fail_if_success (with_reducible show wpAny _ _ (exec (Stmt.For _ _ _ _ _) _) _ _ _)); (fail_if_success (with_reducible show wpAny _ _ (call (Value.ref _) _ _) _ _ _)); (first | (k_unfold; (try dsimp only)) | (k_end; wrow_close) | walk1 | (dsimp only; walk1) | (leave1; walk_say "STEP leave1"; try dsimp only) | ((try dsimp only); (with_reducible refine Goes.at (by assumption) ?_); (try dsimp only)))))
    exact ⟨rfl, _, rfl⟩
  rintro _ _ ⟨rfl, tk₈, rfl⟩
  rw [if_pos rfl]
  refine seg_execs_cons ?_
  refine seg_wrap (wpAny_mono (Q := fun f s' => False) (E := fun v s' => Wall (∃ e vs hm m' h' tk', v = .ref e ∧ s' = { s'' with heap := h', toks := tk' } ∧ Heap.MadeExcOf hm h' e (.type "ValueError") vs ∧ Fr gr Lg hm m' ∧ News gr Lg hm rest)) ?_ (fun _ _ h => h.elim) ?_)
  · rw [over_for]
    repeat' ((fail_if_success (with_reducible show wpAny _ _ (exec (Stmt.Raise _ _ _) _) _ _ _)); (first | (k_unfold; (try dsimp only)) | walk1 | (dsimp only; walk1)))
    refine Raise_madeB PySem.F.excCall_ValueError PySem.F.excRaise_ValueError rfl ?_
    ((try dsimp only); (try ((with_reducible refine wp_tok ?_); intro tk8)); repeat' ((fail_if_success (with_reducible show wpAny _ _ (exec (Stmt.For _ _ _ _ _) _) _ _ _)); (fail_if_success (with_reducible show wpAny _ _ (call (Value.ref _) _ _) _ _ _)); (first | (k_unfold; (try dsimp only)) | (k_end; wrow_close) | walk1 | (dsimp only; walk1) | (leave1; walk_say "STEP leave1"; try dsimp only) | ((try dsimp only); (with_reducible refine Goes.at (by assumption) ?_); (try dsimp only)))))
    rename Heap.MadeExc _ _ _ _ _ => hx
    exact ⟨_, _, _, _, _, _, rfl, rfl, hx.of, by assumption, by assumption⟩
  rintro _ _ ⟨e, vs', hm, m', h', tk', rfl, rfl, hmade, F₇, N₇⟩
  refine seg_raise_for (by passes_own) ?_
  refine PySem.W.leave_raiseS B₁ hmade F₇ N₇ fun h9 t R1 R2 U => ?_
  refine ⟨e, t, vs', h9, tk', rfl, rfl, fun b o e1 e2 => ?_, fun ledger Nl hq => ?_⟩
  · obtain ⟨e3, e4⟩ := only_get hkF e1
    rcases e4 with rfl | e4
    · exact U _ _ (hcut _ _ e3 hLLg) e2
    · exact U _ _ (hkg _ _ e4) e2
  · obtain ⟨⟨Bb, hB, hBG, hnl, hfl, hnew⟩, htup⟩ := R1
    refine ⟨⟨Bb, hB, fun b o e1 nm => ?_, fun q hqm => ?_, hfl, hnew⟩, htup⟩
    · obtain ⟨e3, e4⟩ := only_get hkF e1
      rcases e4 with rfl | e4
      · exact (nm (List.mem_filterMap.mpr ⟨envX cn cs b a ccd cl, .head _, rfl⟩)).elim
      · exact hBG b o (hkg b o e4) nm
    · obtain ⟨n1, n2, n3⟩ := Nl q hqm
      refine ⟨?_, only_none hkF n3 n2, hbase _ n3⟩
      rcases Nat.lt_or_ge q.1 Lg with hlt | hge
      · exact hBG _ _ (hcut _ _ n1 hlt) (hout _ n3 n2)
      · refine (hnl q ?_).1
        rw [← hrest]
        refine mem_rest n1 ?_ (hq q hqm).1 (hq q hqm).2
        cases e9 : gr.get? q.1 with
        | none => rfl
        | some o9 => exact absurd (Nat.lt_of_lt_of_le (Heap.lt_size e9) hcs) (Nat.not_lt.mpr hge)
end SErr63
section SComp63
theorem rst_Comp63 : True := by w_top off; trivial
set_option maxHeartbeats 4000000 in
theorem comp_spec {prog : Program} {w : World} {dp un : Nat} {gd : Option (List Code)} {cn : Str} {cs : Scope} {a : Addr} {ccd : Value} {cl : List (Str × Addr)} {outer : List Env} {A₀ : Around} {base h₀ : Heap} {L : Addr} {m mg mb : Str → Option Value} {s : Shared} {Q E : Value → Shared → Prop} {news : List (Addr × Obj)}
    {p : Program} {loose : List Str} {mean : ExcName → Option Value}
    (B : Below A₀ base outer h₀) (F : Fr h₀ L s.heap m) (N : News h₀ L s.heap news) (X : (hd.heap_39 w.params).In h₀) (T : Top p loose mean mg mb h₀) (hk : cs.kind = .function) (hd : dp + 10 < recursionLimit) (hu : un + 80 < cLine)
    {kl : Addr}
    (hQ : ∀ x dx hh tt nn h' tk, Fr h₀ L h' m → News h₀ L h' ((x, instObj 38 dx) :: (dx, dictOf [⟨hh, .str (Str.ofString "comp_select_list") tt, .ref kl⟩] nn) :: news) → (∀ p ∈ news, p.1 < dx) → dx < x → Q (.ref x) { s with heap := h', toks := tk }) :
    wpAny (model prog w) (ktrTop dp un gd cn cs L a ccd cl outer) (call (.ref 38) [.ref kl]) Q E s := by
  k_dflt (refine' call_cls ?k1 ?k2 ?k3 ?k4 ?k5 ?k6 ?_; (case k1 => k_asm); (case k2 => k_asm); (case k3 => k_asm); (case k4 => k_is); (case k5 => k_is); (case k6 => k_is); k_whole)
  intro x dx h' F' N' l1 l2
  clear F N
  k_dflt (refine' code_def ?k1 ?k2 ?k3 ?k4 ?k5 ?kA ?kF ?kK ?k6 ?k7 ?k8 ?k9 ?kB ?_ ?c2 ?c3 ?c4 ?c5; (case kA => exact rfl); (case kF => exact rfl); (case kK => assumption); (case k1 => k_asm); (case k2 => k_asm); (case k3 => k_asm); (case k4 => k_asm); (case k5 => k_asm); (case k6 => k_is); (case k7 => k_is); (case k8 => (((try simp only [depth_under_make, depth_under_kw, depth_in1, depth_deeper, depth_caller]); (try dsimp only [ktrTop]); omega))); (case k9 => exact BindsTo.of_eq rfl); (case c5 => decide); (case kB => exact locs rfl); (case c2 => exact rfl); (case c3 => exact rfl); (case c4 => exact rfl); k_whole; intro g' L' h' FG' F' N' B' X' T'; (try dsimp only); (try k_fold))
  have hxd : x ≠ dx := Nat.ne_of_gt l2
  ((try dsimp only); (try ((with_reducible refine wp_tok ?_); intro tk8)); repeat' ((fail_if_success (with_reducible show wpAny _ _ (exec (Stmt.For _ _ _ _ _) _) _ _ _)); (fail_if_success (with_reducible show wpAny _ _ (call (Value.ref _) _ _) _ _ _)); (first | (k_unfold; (try dsimp only)) | (k_end; wrow_close) | walk1 | (dsimp only; walk1) | (leave1; walk_say "STEP leave1"; try dsimp only) | ((try dsimp only); (with_reducible refine Goes.at (by assumption) ?_); (try dsimp only)))))
  rename_i kF kN _ _
  exact hQ _ _ _ _ _ _ _ kF kN l1 l2
end SComp63
section SRunE
theorem rst_RunE : True := by w_top off; trivial
inductive RunAt (prog : Program) (w : World) (g h : Heap) (r : Addr) (P : Array Value → Prop) (sd : List Int) (e0 e1 e2 e3 : Int) (te : List (Int × Int)) (o0 o1 o2 o3 : Int) (to : List (Int × Int)) : Prop
  | mk (aT aS eE eO dE dO : Addr) (tv sv : Array Value) : (∀ b ∈ [aT, aS, eE, eO, dE, dO], g.get? b = none) → h.IsTuple r #[.ref aT, .ref aS, .ref eE, .ref eO] → h.IsList aT tv → P tv → h.IsList aS sv → IntsAre sv.toList sd → EntryAt h eE e0 e1 e2 e3 dE → TabI prog w h dE te → EntryAt h eO o0 o1 o2 o3 dO → TabI prog w h dO to → RunAt prog w g h r P sd e0 e1 e2 e3 te o0 o1 o2 o3 to
theorem turns_dict {prog : Program} {w : World} {o : Obj} {K : Type} [DecidableEq K] {knd : KeyKind prog w K} {kvs : List (K × Value)} (h : o.IsDictOf knd kvs) : turnsB o = false := by
  obtain ⟨es, ep, _, hd, _⟩ := h
  unfold turnsB; rw [hd]; simp
theorem turns_tab {prog : Program} {w : World} {o : Obj} {kvs : List (Int × Int)} (h : ObjTab prog w o kvs) : turnsB o = false := let ⟨_, h, _⟩ := h; turns_dict h
theorem news_drop {g h : Heap} {L : Addr} {l : List (Addr × Obj)} (N : News g L h l) : News g L h l.dropLast := fun q hq => N q (List.dropLast_subset _ hq)
theorem fr_turn {h₀ h g' h' : Heap} {L : Addr} {m : Str → Option Value} (F : Fr h₀ L h m) (T : KtsTurn [L] h g') (hk : ∀ b o, g'.get? b = some o → h'.get? b = some o) : Fr h₀ L h' m := by
  have hL0 : h₀.get? L = none := kts_self F
  refine ⟨?_, fun b o e => hk b o (T.other b o (F.keep b o e) fun hm => ?_), F.above⟩
  · obtain ⟨oL, es, ep, hL, hLd, hLk, hLf⟩ := F.ns
    obtain ⟨sl, hs⟩ := T.up hL
    exact ⟨_, es, ep, hk _ _ hs, hLd, hLk, hLf⟩
  · rw [List.mem_singleton.mp hm, hL0] at e; cases e
theorem KeysAt.keep {h h' : Heap} {kl : Addr} {ks : List (Int × Int)} (K : KeysAt h kl ks) (hk : ∀ b o, h.get? b = some o → h'.get? b = some o) : KeysAt h' kl ks := by
  obtain ⟨vs, hl, hsz, hit⟩ := K
  exact ⟨vs, hl.at fun o e => hk _ o e, hsz, fun i v e => let ⟨T, c, d, t1, t2, h1, h2, h3⟩ := hit i v e; ⟨T, c, d, t1, t2, h1, h2, h3.at fun o e => hk _ o e⟩⟩
set_option maxHeartbeats 4000000 in
theorem run_err {prog : Program} {w : World} {dp un : Nat} {gd : Option (List Code)} {cn : Str} {cs : Scope} {a : Addr} {ccd : Value} {cl : List (Str × Addr)} {A₀ : Around} {base h₀ : Heap} {L : Addr} {m mg mb : Str → Option Value} {sh9 : Heap} {sg9 : Array GenState} {sd9 : Drawn} {st9 : Nat} {so9 : OsState} {Q E : Value → Shared → Prop}
    {loose : List Str} {mean : ExcName → Option Value}
    (B : Below A₀ base [] h₀) (F : Fr h₀ L sh9 m) (X : (hd.heap_39 w.params).In h₀) (T : Top hd.view_39 loose mean mg mb h₀) (XB : (hd.heap_39 w.params).In base) (TB : Top hd.view_39 loose mean mg mb base) (hg : sg9 = #[])
    (hk : cs.kind = .function) (hd : dp + 20 < recursionLimit) (hu : un + 160 < cLine)
    {l kl : Addr} {t0 ts : Tok} {vs : List Value} {st : Int} {ks : List (Int × Int)} (hl : sh9.IsList l (Value.int 0 t0 :: vs).toArray) (h3 : KeysAt sh9 kl ks) (h4 : KeysOk ks) (bst : -5 ≤ st ∧ st ≤ 5)
    (hne : cmpSide ks (col4 1 st (st ^ 2) (st ^ 3)) (col4 0 0 0 0) ≠ 0)
    (hQ : ∀ r h' tk gens', Fr h₀ L h' m → (∀ b o, sh9.get? b = some o → b ≠ L → h'.get? b = some o) → sh9.get? r = none → RunAt prog w sh9 h' r (fun tv => tv = #[.none]) [cmpSide ks (col4 1 st (st ^ 2) (st ^ 3)) (col4 0 0 0 0)] 1 st (st ^ 2) (st ^ 3) [(st, 1)] 0 0 0 0 [] → AllBare gens' → Q (.ref r) (Shared.mk h' (gens') sd9 tk so9)) : wpAny (model prog w) (ktrTop dp un gd cn cs L a ccd cl []) (call (.ref 96) [.ref l, .int st ts, .ref kl]) Q E (Shared.mk sh9 sg9 sd9 st9 so9) := by
  have D₀ : KtsDicts [L] sh9 := fun b hb => by
    rw [List.mem_singleton.mp hb]
    obtain ⟨oL, es, ep, hL, hLd, _⟩ := F.ns
    exact ⟨oL, es, ep, hL, hLd⟩
  obtain ⟨hz2, hz3⟩ := five_pow bst
  refine wpAny_call ?_
  k_dflt (first   | (refine' call_pure ?k1 ?k2 ?k3 ?k5 ?kA ?kH ?kF ?kK ?k6 ?k7 ?k8 ?k9 ?kB ?_ ?c2 ?c3 ?c4 ?c5; (case kA => exact rfl); (case kH => exact rfl); (case kF => exact rfl); (case kK => assumption); (case k1 => k_asm); (case k2 => k_asm); (case k3 => k_asm); (case k5 => k_asm); (case k6 => k_is); (case k7 => k_is); (case k8 => (((try simp only [depth_under_make, depth_under_kw, depth_in1, depth_deeper, depth_caller]); (try dsimp only [ktrTop]); omega))); (case k9 => exact BindsTo.of_eq rfl); (case c5 => decide); (case kB => exact locs rfl); (case c2 => exact rfl); (case c3 => exact rfl); (case c4 => exact rfl); k_whole; intro x9 L' h' tk9 Hd9 Hu9 Ho9 F' N' B' X' T' Q9 E9 gQ9 gE9 pE9 rE9; (try replace Hd9 := Hd9 _ hd); (try replace Hu9 := Hu9 _ hu); (try dsimp only); (try k_fold))   | (refine' call_pureC ?k1 ?k2 ?k3 ?k5 ?kA ?kH ?kF ?kK ?k6 ?k7 ?k8 ?k9 ?kB ?kN ?_ ?c2 ?c3 ?c4; (case kA => exact rfl); (case kH => exact rfl); (case kF => exact rfl); (case kK => assumption); (case k1 => k_asm); (case k2 => k_asm); (case k3 => k_asm); (case k5 => k_asm); (case k6 => k_is); (case k7 => k_is); (case k8 => (((try simp only [depth_under_make, depth_under_kw, depth_in1, depth_deeper, depth_caller]); (try dsimp only [ktrTop]); omega))); (case k9 => exact BindsTo.of_eq rfl); (case kB => exact rfl); (case kN => decide +kernel); (case c2 => exact rfl); (case c3 => exact rfl); (case c4 => exact rfl); k_whole; intro x9 L9 h17 tk17 cells' Hd9 Hu9 Ho9 F' N' C' B9 X9 T9 Q9 E9 gQ9 gE9 pE9; (try replace Hd9 := Hd9 _ hd); (try replace Hu9 := Hu9 _ hu); k_cells C'; (try simp only [List.cons_append, List.nil_append] at N'); (try dsimp only); (try k_fold)))
  ((try dsimp only); (try ((with_reducible refine wp_tok ?_); intro tk8)); repeat' ((fail_if_success (with_reducible show wpAny _ _ (exec (Stmt.For _ _ _ _ _) _) _ _ _)); (fail_if_success (with_reducible show wpAny _ _ (call (Value.ref _) _ _) _ _ _)); (first | (k_unfold; (try dsimp only)) | (k_end; wrow_close) | walk1 | (dsimp only; walk1) | (leave1; walk_say "STEP leave1"; try dsimp only) | ((try dsimp only); (with_reducible refine Goes.at (by assumption) ?_); (try dsimp only)))))
  rename Fr _ _ _ _ => Fc
  rename News _ _ _ _ => Nc
  refine ruler_err (by k_asm) Fc (by k_asm) (by k_asm) rfl (less9 Hd9 (by decide)) (less9 Hu9 (by decide)) hl fun G Lg oL gs h' tk hkp hge hLgn hGn hGL hL hIsG hgo => ?_
  obtain ⟨oG, nm, qn, hG, hGc, hGd, hGs⟩ := hIsG
  replace Nc := news_add Fc hGn (news_add Fc hLgn (news_keep Nc hkp) hL) hG
  replace Fc := fr_keep Fc hkp
  ((try dsimp only); (try ((with_reducible refine wp_tok ?_); intro tk8)); repeat' ((fail_if_success (with_reducible show wpAny _ _ (exec (Stmt.For _ _ _ _ _) _) _ _ _)); (fail_if_success (with_reducible show wpAny _ _ (call (Value.ref _) _ _) _ _ _)); (first | (k_unfold; (try dsimp only)) | (k_end; wrow_close) | walk1 | (dsimp only; walk1) | (leave1; walk_say "STEP leave1"; try dsimp only) | ((try dsimp only); (with_reducible refine Goes.at (by assumption) ?_); (try dsimp only)))))
  rename Fr _ _ _ _ => Fc
  rename News _ _ _ _ => Nc
  refine comp_spec (by k_asm) Fc Nc (by k_asm) (by k_asm) rfl (less9 Hd9 (by decide)) (less9 Hu9 (by decide)) fun x dx hh tt nn h₂ tk₂ Fd Nd l1 l2 => ?_
  clear Fc Nc
  ((try dsimp only); (try ((with_reducible refine wp_tok ?_); intro tk8)); repeat' ((fail_if_success (with_reducible show wpAny _ _ (exec (Stmt.For _ _ _ _ _) _) _ _ _)); (fail_if_success (with_reducible show wpAny _ _ (call (Value.ref _) _ _) _ _ _)); (first | (k_unfold; (try dsimp only)) | (k_end; wrow_close) | walk1 | (dsimp only; walk1) | (leave1; walk_say "STEP leave1"; try dsimp only) | ((try dsimp only); (with_reducible refine Goes.at (by assumption) ?_); (try dsimp only)))))
  rename Fr _ _ _ _ => Fc
  rename News _ _ _ _ => Nc
  rename Top _ _ _ _ _ sh9 => Ts
  refine kdn_eval (knd := intKind prog w) Fc Nc (Top.nolimit Ts) rfl rfl (List.cons_ne_nil _ _) (by decide) fun d₁ h₃ o₁ F₃ N₃ lt₃ lo₃ hd₃ => ?_
  clear Fc Nc
  ((try dsimp only); (try ((with_reducible refine wp_tok ?_); intro tk8)); repeat' ((fail_if_success (with_reducible show wpAny _ _ (exec (Stmt.For _ _ _ _ _) _) _ _ _)); (fail_if_success (with_reducible show wpAny _ _ (call (Value.ref _) _ _) _ _ _)); (first | (k_unfold; (try dsimp only)) | (k_end; wrow_close) | walk1 | (dsimp only; walk1) | (leave1; walk_say "STEP leave1"; try dsimp only) | ((try dsimp only); (with_reducible refine Goes.at (by assumption) ?_); (try dsimp only)))))
  refine kdn_made_int F₃ N₃ (.head fun p hp => Nat.ne_of_lt (lt₃ p hp)) hd₃ rfl (by simp [intKeyPairs]) fun h₄ o₄ F₄ N₄ hd₄ => ?_
  clear F₃ N₃ hd₃
  have O₄ : ObjTab prog w o₄ [(st, 1)] := ⟨_, hd₄, by exact .cons .nil⟩
  clear hd₄
  ((try dsimp only); (try ((with_reducible refine wp_tok ?_); intro tk8)); repeat' ((fail_if_success (with_reducible show wpAny _ _ (exec (Stmt.For _ _ _ _ _) _) _ _ _)); (fail_if_success (with_reducible show wpAny _ _ (call (Value.ref _) _ _) _ _ _)); (first | (k_unfold; (try dsimp only)) | (k_end; wrow_close) | walk1 | (dsimp only; walk1) | (leave1; walk_say "STEP leave1"; try dsimp only) | ((try dsimp only); (with_reducible refine Goes.at (by assumption) ?_); (try dsimp only)))))
  rename Fr _ _ _ _ => Fc
  rename News _ _ _ _ => Nc
  refine compare_spec (by k_asm) Fc (by k_asm) (by k_asm) rfl (less9 Hd9 (by decide)) (less9 Hu9 (by decide)) (Nc _ (.tail _ (.tail _ (.tail _ (.tail _ (.tail _ (.head _))))))).1 (Nc _ (.tail _ (.tail _ (.tail _ (.tail _ (.tail _ (.tail _ (.head _)))))))).1 (h3.keep Fc.keep) h4
    ⟨_, _, _, _, _, (Nc _ (.tail _ (.tail _ (.tail _ (.head _))))).1, rfl, _, rfl⟩ ⟨_, _, _, _, _, (Nc _ (.tail _ (.head _))).1, rfl, _, rfl⟩ fun h₅ tk₅ t₅ hkp₅ => ?_
  replace Nc := news_keep Nc hkp₅
  replace Fc := fr_keep Fc hkp₅
  clear hkp₅
  generalize hside : cmpSide ks (col4 1 st (st ^ 2) (st ^ 3)) (col4 0 0 0 0) = side at *
  ((try dsimp only); (try ((with_reducible refine wp_tok ?_); intro tk8)); repeat' ((fail_if_success (with_reducible show wpAny _ _ (exec (Stmt.For _ _ _ _ _) _) _ _ _)); (fail_if_success (with_reducible show wpAny _ _ (call (Value.ref _) _ _) _ _ _)); (first | (k_unfold; (try dsimp only)) | (k_end; wrow_close) | walk1 | (dsimp only; walk1) | (leave1; walk_say "STEP leave1"; try dsimp only) | ((try dsimp only); (with_reducible refine Goes.at (by assumption) ?_); (try dsimp only)))))
  refine for_range ?_ rfl
  ((try dsimp only); (try ((with_reducible refine wp_tok ?_); intro tk8)); repeat' ((fail_if_success (with_reducible show wpAny _ _ (exec (Stmt.For _ _ _ _ _) _) _ _ _)); (fail_if_success (with_reducible show wpAny _ _ (call (Value.ref _) _ _) _ _ _)); (first | (k_unfold; (try dsimp only)) | (k_end; wrow_close) | walk1 | (dsimp only; walk1) | (leave1; walk_say "STEP leave1"; try dsimp only) | ((try dsimp only); (with_reducible refine Goes.at (by assumption) ?_); (try dsimp only)))))
  rename IsRange _ _ _ _ _ _ _ _ => hR
  rename_i F5 N5 hkp5
  refine ⟨_, 9, _, _, _, rfl, hR, by omega, fun i s' => i = 0 ∧ s' = _, ?_, ⟨rfl, rfl⟩, ?_, ?_⟩
  · rintro i s' ⟨rfl, rfl⟩
    exact Heap.get?_push_size _ rfl
  · rintro i s₂ h₆ tk₆ t₆ hi ⟨rfl, rfl⟩ hkp₆ hI₆
    replace hkp₆ := fun b o e => hkp₆ b o (Nat.ne_of_lt (Heap.lt_size e)) (Heap.get?_push_of_some _ e)
    replace N5 := news_keep N5 hkp₆
    replace F5 := fr_keep F5 hkp₆
    clear hkp₆ hkp5
    (try dsimp only)
    ((try dsimp only); (try ((with_reducible refine wp_tok ?_); intro tk8)); repeat' ((fail_if_success (with_reducible show wpAny _ _ (exec (Stmt.For _ _ _ _ _) _) _ _ _)); (fail_if_success (with_reducible show wpAny _ _ (call (Value.ref _) _ _) _ _ _)); (first | (k_unfold; (try dsimp only)) | (k_end; wrow_close) | walk1 | (dsimp only; walk1) | (leave1; walk_say "STEP leave1"; try dsimp only) | ((try dsimp only); (with_reducible refine Goes.at (by assumption) ?_); (try dsimp only)))))
    · contradiction
    rename Fr _ _ _ _ => F7
    rename News _ _ _ _ => N7
    have hLg7 := (N7 _ (.tail _ (.tail _ (.tail _ (.tail _ (.tail _ (.tail _ (.tail _ (.tail _ (.tail _ (.head _))))))))))).1
    refine next_gen (g := sg9.size) (gs := gs) (n := 1) rfl (Top.nolimit (T.keeps fun b o e => F7.keep b o (F.keep b o e))) (Nat.lt_of_le_of_lt (Nat.le_add_right _ _) Hd9) ⟨oG, nm, qn, (N7 _ (.tail _ (.tail _ (.tail _ (.tail _ (.tail _ (.tail _ (.tail _ (.tail _ (.head _)))))))))).1, hGc, hGd, hGs⟩ (by simp) (hgo _ _ _ F7 hLg7) (fun _ _ _ _ h => h.elim) ?_
    rintro _ _ ⟨e, t, vs', h9, tk9, rfl, rfl, U, RS⟩
    right
    have N8 := news_drop N7
    simp only [List.dropLast] at N8
    have a2 := l1 (Lg, oL) (.tail _ (.head _))
    have a3 := lt₃ (Lg, oL) (.tail _ (.tail _ (.tail _ (.head _))))
    simp only at a2 a3
    have hG9 := (N7 _ (.tail _ (.tail _ (.tail _ (.tail _ (.tail _ (.tail _ (.tail _ (.tail _ (.head _)))))))))).1
    have RL := RS _ N8 (by
      intro q hq
      simp only [List.mem_cons, List.not_mem_nil, or_false] at hq
      rcases hq with rfl | rfl | rfl | rfl | rfl | rfl | rfl | rfl | rfl
      · exact ⟨Nat.ne_of_gt (show Lg < _ by omega), rfl⟩
      · exact ⟨Nat.ne_of_gt (show Lg < _ by omega), rfl⟩
      · exact ⟨Nat.ne_of_gt (show Lg < _ by omega), rfl⟩
      · exact ⟨Nat.ne_of_gt (show Lg < _ by omega), turns_dict (knd := intKind prog w) (by assumption)⟩
      · exact ⟨Nat.ne_of_gt (show Lg < _ by omega), rfl⟩
      · exact ⟨Nat.ne_of_gt (show Lg < _ by omega), turns_tab O₄⟩
      · exact ⟨Nat.ne_of_gt (Nat.lt_trans a2 l2), rfl⟩
      · exact ⟨Nat.ne_of_gt (show Lg < _ by omega), rfl⟩
      · exact ⟨hGL, by unfold turnsB; rw [hGc]; rfl⟩)
    obtain ⟨⟨Bb, hB, hBG, hnl, hfl, hnew⟩, htup⟩ := id RL
    obtain ⟨ob, hob, hobc⟩ := hfl.there
    have hG10 := hfl.1 _ _ (hnl (G, oG) (by simp)).1
    refine ⟨e, ob, rfl, ⟨oG, nm, qn, hG10, hGc, hGd, hGs⟩, hob, hobc, ?_⟩
    clear hBG hnl hB
    have pA9 := rE9 (some (.ref e))
    refine caught_S0 (T' := "ValueError") RL (only_fr F7) (by assumption) U XB TB (by rw [Ho9]; exact D₀) KtsTurn.refl (by k_is) PyProof.Rows.Boot.«ValueError» (by decide) PySem.F.isExc_ValueError PySem.F.notTuple_ValueError (by kts_sub) ?_
    intro h10 g10 news10 KT F10 N10x got10 N10 B10 X10 T10 D10
    replace KT : KtsTurn [L] sh9 g10 := by rw [Ho9] at KT; exact KT
    clear F7 N7 N8 N10x got10 RS RL U hfl htup hnew hob hobc hLg7 hG9 hG10
    ((try dsimp only); (try ((with_reducible refine wp_tok ?_); intro tk8)); repeat' ((fail_if_success (with_reducible show wpAny _ _ (exec (Stmt.For _ _ _ _ _) _) _ _ _)); (fail_if_success (with_reducible show wpAny _ _ (call (Value.ref _) _ _) _ _ _)); (first | (k_unfold; (try dsimp only)) | (k_end; wrow_close) | walk1 | (dsimp only; walk1) | (leave1; walk_say "STEP leave1"; try dsimp only) | ((try dsimp only); (with_reducible refine Goes.at (by assumption) ?_); (try dsimp only)))))
    dsimp only [TurnEnd]
    ((try dsimp only); (try ((with_reducible refine wp_tok ?_); intro tk8)); repeat' ((fail_if_success (with_reducible show wpAny _ _ (exec (Stmt.For _ _ _ _ _) _) _ _ _)); (fail_if_success (with_reducible show wpAny _ _ (call (Value.ref _) _ _) _ _ _)); (first | (k_unfold; (try dsimp only)) | (k_end; wrow_close) | walk1 | (dsimp only; walk1) | (leave1; walk_say "STEP leave1"; try dsimp only) | ((try dsimp only); (with_reducible refine Goes.at (by assumption) ?_); (try dsimp only)))))
    rename Fr _ _ _ _ => F9
    rename News _ _ _ _ => N9
    have up9 : ∀ {b : Addr}, g10.get? b = none → sh9.get? b = none := fun {b} hn => by
      cases e9 : sh9.get? b with
      | none => rfl
      | some o9 =>
        obtain ⟨sl, hs⟩ := KT.up e9
        rw [hn] at hs; cases hs
    refine hQ _ _ _ _ (fr_turn F KT F9.keep) (fun b o e hb => F9.keep b o (KT.other b o e (by simpa using hb))) ?_ ⟨_, _, _, _, _, _, _, _, ?_, ⟨_, (N9 _ (.head _)).1, rfl, _, rfl⟩, ⟨_, (N9 _ (.tail _ (.tail _ (.head _)))).1, rfl, _, rfl⟩, rfl, ⟨_, (N9 _ (.tail _ (.head _))).1, rfl, _, rfl⟩, ?_,
      ⟨_, _, _, _, _, (N9 _ (.tail _ (.tail _ (.tail _ (.tail _ (.tail _ (.head _))))))).1, rfl, _, rfl⟩, .of_obj lo₃ (N9 _ (.tail _ (.tail _ (.tail _ (.tail _ (.tail _ (.tail _ (.head _)))))))).1 O₄,
      ⟨_, _, _, _, _, (N9 _ (.tail _ (.tail _ (.tail _ (.head _))))).1, rfl, _, rfl⟩, .of_obj (by assumption) (N9 _ (.tail _ (.tail _ (.tail _ (.tail _ (.head _)))))).1 ⟨[], by assumption, .nil⟩⟩ ?_
    · exact up9 (N9 _ (.head _)).2.2
    · intro b hb
      simp only [List.mem_cons, List.not_mem_nil, or_false] at hb
      rcases hb with rfl | rfl | rfl | rfl | rfl | rfl
      · exact up9 (N9 _ (.tail _ (.tail _ (.head _)))).2.2
      · exact up9 (N9 _ (.tail _ (.head _))).2.2
      · exact up9 (N9 _ (.tail _ (.tail _ (.tail _ (.tail _ (.tail _ (.head _))))))).2.2
      · exact up9 (N9 _ (.tail _ (.tail _ (.tail _ (.head _))))).2.2
      · exact up9 (N9 _ (.tail _ (.tail _ (.tail _ (.tail _ (.tail _ (.tail _ (.head _)))))))).2.2
      · exact up9 (N9 _ (.tail _ (.tail _ (.tail _ (.tail _ (.head _)))))).2.2
    · rw [← hside]; exact .cons _ _ .nil
    · intro y hy
      simp [Shared.setGen, hg] at hy
      subst hy; rfl
  · rintro s₂ h' tk ⟨h9, _⟩
    cases h9
end SRunE
section SRunDefs
theorem rst_RunDefs : True := by w_top off; trivial
theorem range_mono {prog : Program} {w : World} {A : Around} {E : Value → Shared → Prop} {env : Env} {body : List Stmt} {Q Q' : Flow → Shared → Prop} {x : Str} {px : Pos} {xv : Value} {s₁ : Shared} (hq : ∀ s', Q' .next s' → Q .next s') (hq2 : ∀ v s', ¬ Q' (.ret v) s')
    (h : RangePost prog w A E env body Q' x px xv s₁) : RangePost prog w A E env body Q x px xv s₁ := by
  obtain ⟨r, n, t, u, v, h1, h2, h3, Inv, h4, h5, h6, h7⟩ := h
  refine ⟨r, n, t, u, v, h1, h2, h3, Inv, h4, h5, fun i s₂ h' tk t' hi hI hk hg => ?_, fun s₂ h' tk hI hk => hq _ (h7 s₂ h' tk hI hk)⟩
  refine wpAny_mono (h6 i s₂ h' tk t' hi hI hk hg) (fun _ s₃ h₃ => wpAny_mono h₃ (fun f s₄ h₄ => ?_) fun _ _ e => e) fun _ _ e => e
  cases f with
  | next => exact h₄
  | cont => exact h₄
  | brk => exact hq _ h₄
  | ret v => exact (hq2 _ _ h₄).elim
theorem range_inv {prog : Program} {w : World} {A : Around} {E : Value → Shared → Prop} {env : Env} {body : List Stmt} {Q : Flow → Shared → Prop} {x : Str} {px : Pos} {s₁ : Shared} {r : Addr} {n : Nat} {t u v : Tok} (hR : IsRange s₁.heap r 0 (n : Int) 1 t u v) (hn : n ≤ 1000)
    (Inv : Addr → Nat → Shared → Prop) (h1 : ∀ I i s', Inv I i s' → s'.heap.get? I = some (rgObj i n)) (h2 : ∀ I, I = s₁.heap.objs.size → Inv I 0 { s₁ with heap := s₁.heap.push (rgObj 0 n) })
    (h3 : ∀ (I : Addr) (i : Nat) s₂ h' tk t', i < n → Inv I i s₂ → (∀ b o, b ≠ I → s₂.heap.get? b = some o → h'.get? b = some o) → h'.get? I = some (rgObj (i + 1) n) →
        ∀ Q₁ : Flow → Shared → Prop, Goes (TurnEnd (Inv I (i + 1)) Q) Q₁ → wpAny (model prog w) A (assign (.Name x px) env (.int i t')) (fun _ s₃ => wpAny (model prog w) A (execs body env) Q₁ E s₃) E { s₂ with heap := h', toks := tk })
    (h4 : ∀ I s₂ h' tk, Inv I n s₂ → (∀ b o, b ≠ I → s₂.heap.get? b = some o → h'.get? b = some o) → Q .next { s₂ with heap := h', toks := tk }) : RangePost prog w A E env body Q x px (.ref r) s₁ :=
  ⟨r, n, t, u, v, rfl, hR, hn, Inv s₁.heap.objs.size, h1 _, h2 _ rfl, fun i s₂ h' tk t' a b c d => h3 _ i s₂ h' tk t' a b c d _ .same, h4 _⟩
theorem news_but0 {g h h' : Heap} {L I : Addr} {l : List (Addr × Obj)} (N : News g L h l) (hk : ∀ b o, b ≠ I → h.get? b = some o → h'.get? b = some o) (hl : ∀ q ∈ l, q.1 ≠ I) : News g L h' l := fun q hq => ⟨hk _ _ (hl q hq) (N q hq).1, (N q hq).2⟩
theorem news_perm12 {g h : Heap} {L : Addr} {q0 q1 q2 q3 q4 q5 q6 q7 q8 q9 q10 : Addr × Obj} (N : News g L h [q0, q1, q2, q3, q4, q5, q6, q7, q8, q9, q10]) : News g L h [q0, q1, q2, q5, q6, q3, q4, q7, q8, q9, q10, q10] := by
  exact all1 (N _ (mem_at 0 rfl)) (all1 (N _ (mem_at 1 rfl)) (all1 (N _ (mem_at 2 rfl)) (all1 (N _ (mem_at 5 rfl)) (all1 (N _ (mem_at 6 rfl)) (all1 (N _ (mem_at 3 rfl)) (all1 (N _ (mem_at 4 rfl)) (all1 (N _ (mem_at 7 rfl)) (all1 (N _ (mem_at 8 rfl)) (all1 (N _ (mem_at 9 rfl)) (all1 (N _ (mem_at 10 rfl)) (all1 (N _ (mem_at 10 rfl)) all0)))))))))))
theorem news_left {g h : Heap} {L : Addr} {l l' : List (Addr × Obj)} (N : News g L h (l ++ l')) : News g L h l := fun q hq => N q (List.mem_append_left _ hq)
theorem news_two {g h : Heap} {L a b : Addr} {oa ob : Obj} {l : List (Addr × Obj)} (N : News g L h l) (a1 : h.get? a = some oa) (a2 : a ≠ L) (a3 : g.get? a = none) (b1 : h.get? b = some ob) (b2 : b ≠ L) (b3 : g.get? b = none) : News g L h (l ++ [(a, oa), (b, ob)]) := fun q hq => by
  rcases List.mem_append.mp hq with hq | hq
  · exact N q hq
  · simp only [List.mem_cons, List.not_mem_nil, or_false] at hq
    rcases hq with rfl | rfl
    · exact ⟨a1, a2, a3⟩
    · exact ⟨b1, b2, b3⟩
theorem fr_turns {g h : Heap} {L b : Addr} {m : Str → Option Value} {o : Obj} (F : Fr g L h m) (hb : h.get? b = some o) (ht : turnsB o = true) : b ≠ L := fun e => by
  obtain ⟨oL, es, ep, hL, hd, _⟩ := F.ns
  rw [← e, hb] at hL
  cases hL
  unfold turnsB at ht; rw [hd] at ht; simp at ht
theorem range_named {prog : Program} {w : World} {A : Around} {E : Value → Shared → Prop} {env : Env} {body : List Stmt} {Q : Flow → Shared → Prop} {x : Str} {px : Pos} {xv : Value} {s₁ : Shared}
    (h : ∀ A', A' = A → RangePost prog w A E env body Q x px xv s₁) : RangePost prog w A E env body Q x px xv s₁ := h A rfl
/-- the objects of an entry -/
def EntObj (prog : Program) (w : World) (o : Obj) (d : Addr) (od : Obj) (e : Ent) : Prop :=
  (∃ t0 t1 t2 t3 n, o.cls = .type "tuple" ∧ o.data = .seq #[.int e.c0 t0, .int e.c1 t1, .int e.c2 t2, .int e.c3 t3, .ref d] n) ∧ ObjTab prog w od e.tab ∧ (d == sysModules) = false
theorem EntObj.entry {prog : Program} {w : World} {h : Heap} {a d : Addr} {o od : Obj} {e : Ent} (x : EntObj prog w o d od e) (ho : h.get? a = some o) : EntryAt h a e.c0 e.c1 e.c2 e.c3 d :=
  let ⟨⟨t0, t1, t2, t3, n, hc, hd⟩, _⟩ := x; ⟨t0, t1, t2, t3, o, ho, hc, n, hd⟩
theorem EntObj.tab {prog : Program} {w : World} {h : Heap} {a d : Addr} {o od : Obj} {e : Ent} (x : EntObj prog w o d od e) (ho : h.get? d = some od) : TabI prog w h d e.tab := .of_obj x.2.2 ho x.2.1
theorem EntObj.of {prog : Program} {w : World} {h : Heap} {a d : Addr} {e : Ent} (x : EntryAt h a e.c0 e.c1 e.c2 e.c3 d) (y : TabI prog w h d e.tab) : ∃ o od, h.get? a = some o ∧ h.get? d = some od ∧ EntObj prog w o d od e := by
  obtain ⟨t0, t1, t2, t3, o, ho, hc, n, hd⟩ := x
  obtain ⟨od, hod, hO, lo⟩ := y.obj
  exact ⟨o, od, ho, hod, ⟨t0, t1, t2, t3, n, hc, hd⟩, hO, lo⟩
def listB (o : Obj) : Bool := o.cls == .type "list"
theorem EntObj.turns {prog : Program} {w : World} {d : Addr} {o od : Obj} {e : Ent} (x : EntObj prog w o d od e) : turnsB o = false ∧ turnsB od = false ∧ listB o = false ∧ listB od = false := by
  obtain ⟨⟨t0, t1, t2, t3, n, hc, hd⟩, ⟨ps, hO, _⟩, _⟩ := x
  refine ⟨by unfold turnsB; rw [hc]; rfl, turns_dict hO, by unfold listB; rw [hc]; rfl, ?_⟩
  obtain ⟨es, ep, hx, _⟩ := hO
  unfold listB
  rw [hx.1]; rfl
theorem geff_fr {g : Heap} {L Lg : Addr} {m : Str → Option Value} {s₀ s' : Shared} (F : Fr g L s₀.heap m) (G : GEff g Lg s₀ s') (hL : L ≠ Lg) : Fr g L s'.heap m := by
  refine ⟨?_, G.2.1, F.above⟩
  obtain ⟨oL, es, ep, ho, hd, r⟩ := F.ns
  exact ⟨oL, es, ep, G.2.2 _ _ ho hL (by unfold turnsB; rw [hd]; simp), hd, r⟩
theorem geff_news {g : Heap} {L Lg : Addr} {s₀ s' : Shared} {l : List (Addr × Obj)} (N : News g L s₀.heap l) (G : GEff g Lg s₀ s') (hq : ∀ q ∈ l, q.1 ≠ Lg ∧ turnsB q.2 = false) : News g L s'.heap l :=
  fun q hm => ⟨G.2.2 _ _ (N q hm).1 (hq q hm).1 (hq q hm).2, (N q hm).2⟩
theorem ne_list {g h : Heap} {L : Addr} {l : List (Addr × Obj)} {a b : Addr} {o o' : Obj} (N : News g L h l) (h1 : (a, o) ∈ l) (h2 : (b, o') ∈ l) (e1 : listB o = true) (e2 : listB o' = false) : (a : Nat) ≠ b := by
  intro e
  have x1 := (N _ h1).1
  have x2 := (N _ h2).1
  simp only at x1 x2
  have e' : a = b := e
  rw [e', x2] at x1
  cases x1
  rw [e1] at e2; cases e2
theorem type_ne {a b : String} (h : a ≠ b) : Value.type a ≠ Value.type b := fun e => h (by injection e)
theorem ne_cls {g h : Heap} {L : Addr} {l : List (Addr × Obj)} {a b : Addr} {o o' : Obj} (N : News g L h l) (h1 : (a, o) ∈ l) (h2 : (b, o') ∈ l) (hc : o.cls ≠ o'.cls) : a ≠ b := by
  intro e
  have x1 := (N _ h1).1
  have x2 := (N _ h2).1
  simp only at x1 x2
  rw [e, x2] at x1
  cases x1
  exact hc rfl
theorem ne_fresh {h : Heap} {a b : Addr} {o : Obj} (h1 : h.get? a = none) (h2 : h.get? b = some o) : a ≠ b := fun e => by rw [e, h2] at h1; cases h1
theorem turns_cls {o : Obj} (h : turnsB o = true) : o.cls = .type "list_iterator" := by
  unfold turnsB at h
  exact eq_of_beq (Bool.and_eq_true_iff.mp h).1
theorem EntObj.cls {prog : Program} {w : World} {d : Addr} {o od : Obj} {e : Ent} (x : EntObj prog w o d od e) : o.cls = .type "tuple" ∧ od.cls = .type "dict" := by
  obtain ⟨⟨t0, t1, t2, t3, n, hc, hd⟩, ⟨ps, hO, _⟩, _⟩ := x
  obtain ⟨es, ep, hx, _⟩ := hO
  exact ⟨hc, hx.1⟩
theorem fr_but {g h h' : Heap} {L I : Addr} {m : Str → Option Value} (F : Fr g L h m) (hk : ∀ b o, b ≠ I → h.get? b = some o → h'.get? b = some o) (h1 : I ≠ L) (h2 : g.get? I = none) : Fr g L h' m :=
  ⟨F.ns.at' fun o e => hk _ o (Ne.symm h1) e, fun b o e => hk b o (fun q => by rw [q, h2] at e; cases e) (F.keep b o e), F.above⟩
theorem news_but {g h h' : Heap} {L I : Addr} {o o' : Obj} {l : List (Addr × Obj)} (N : News g L h ((I, o) :: l)) (hk : ∀ b o, b ≠ I → h.get? b = some o → h'.get? b = some o) (hI : h'.get? I = some o') (hl : ∀ q ∈ l, q.1 ≠ I) : News g L h' ((I, o') :: l) := fun q hq => by
  rcases List.mem_cons.mp hq with rfl | hq
  · exact ⟨hI, (N _ (.head _)).2⟩
  · exact ⟨hk _ _ (hl q hq) (N q (.tail _ hq)).1, (N q (.tail _ hq)).2⟩
theorem fr_ne {g h : Heap} {L b : Addr} {m : Str → Option Value} (F : Fr g L h m) (hb : h.get? b = none) : L ≠ b := by
  obtain ⟨oL, _, _, hL, _⟩ := F.ns
  exact fun e => by rw [e, hb] at hL; cases hL
theorem news_named {g h : Heap} {L : Addr} {l : List (Addr × Obj)} {P : Prop} (_ : News g L h l) (h : ∀ L', L' = L → P) : P := h L rfl
/-- the state of the run behind i turns -/
inductive LInv (prog : Program) (w : World) (A1 : Around) (sh : Heap) (sd : Drawn) (so : OsState) (L' x dx G Lg : Addr) (oG dxo : Obj) (row : List Int) (ks : List (Int × Int)) (st : Int) (I : Addr) (i : Nat) : Shared → Prop
  | mk (zs : List Int) (h : Heap) (tk : Nat) (gs : GenState) (m' : Str → Option Value) (aS aT eE dE eO dO Ig : Addr) (oE odE oO odO oLg oIg : Obj) (sv tv : Array Value) (ns nt : Nat) :
    zs.length = i → RunTo row ks st zs → Fr sh L' h m' →
    News sh L' h [(I, rgObj i 9), (aS, W.listOf sv ns), (aT, W.listOf tv nt), (eE, oE), (dE, odE), (eO, oO), (dO, odO), (x, instObj 38 dx), (dx, dxo), (G, oG), (Lg, oLg), (Ig, oIg)] →
    IntsAre sv.toList (sidesP ks st zs) → IntsAre tv.toList zs → EntObj prog w oE dE odE (pairP st zs).1 → EntObj prog w oO dO odO (pairP st zs).2 →
    aT ≠ aS → (∀ b ∈ [I, aS, aT, eE, dE, eO, dO, x, dx, G], b ≠ Lg) → (Ig = Lg ∨ turnsB oIg = true) → gs.bare = true →
    Pins m' [(Str.ofString "ruler", .ref G), (Str.ofString "comp", .ref x), (Str.ofString "even", .ref eE), (Str.ofString "odd", .ref eO), (Str.ofString "told", .ref aT), (Str.ofString "sides", .ref aS)] →
    (∀ s'' : Shared, (∀ b o, sh.get? b = some o → s''.heap.get? b = some o) → s''.heap.get? Lg = some oLg → s''.heap.get? Ig = some oIg →
      gs.Goes (model prog w) A1 (GR sh Lg row 10) (GY sh Lg row 10) (10 - i) (.send .none) s'') →
    LInv prog w A1 sh sd so L' x dx G Lg oG dxo row ks st I i ⟨h, #[gs], sd, tk, so⟩
theorem LInv.at {prog : Program} {w : World} {A1 : Around} {sh : Heap} {sd : Drawn} {so : OsState} {s₁ s' : Shared} {L' x dx G Lg : Addr} {oG dxo : Obj} {row : List Int} {ks : List (Int × Int)} {st : Int} {I : Addr} {i : Nat} (h : LInv prog w A1 sh sd so L' x dx G Lg oG dxo row ks st I i s₁) (e : s' = s₁) : LInv prog w A1 sh sd so L' x dx G Lg oG dxo row ks st I i s' := e ▸ h
/-- the state behind the loop -/
inductive LFin (prog : Program) (w : World) (sh : Heap) (sd : Drawn) (so : OsState) (L' : Addr) (row : List Int) (ks : List (Int × Int)) (st : Int) : Shared → Prop
  | mk (zs : List Int) (h : Heap) (tk : Nat) (gs : GenState) (m' : Str → Option Value) (aS aT eE dE eO dO : Addr) (oE odE oO odO : Obj) (sv tv : Array Value) (ns nt : Nat) :
    RunOk row ks st zs → Fr sh L' h m' →
    News sh L' h [(aS, W.listOf sv ns), (aT, W.listOf tv nt), (eE, oE), (dE, odE), (eO, oO), (dO, odO)] →
    IntsAre sv.toList (sidesP ks st zs) → IntsAre tv.toList zs → EntObj prog w oE dE odE (pairP st zs).1 → EntObj prog w oO dO odO (pairP st zs).2 → gs.bare = true →
    Pins m' [(Str.ofString "even", .ref eE), (Str.ofString "odd", .ref eO), (Str.ofString "told", .ref aT), (Str.ofString "sides", .ref aS)] →
    LFin prog w sh sd so L' row ks st ⟨h, #[gs], sd, tk, so⟩
end SRunDefs
section SRun63
theorem rst_Run63 : True := by w_top off; trivial
set_option maxHeartbeats 8000000 in
theorem run_ok {prog : Program} {w : World} {dp un : Nat} {gd : Option (List Code)} {cn : Str} {cs : Scope} {a : Addr} {ccd : Value} {cl : List (Str × Addr)} {A₀ : Around} {base h₀ : Heap} {L : Addr} {m mg mb : Str → Option Value} {sh9 : Heap} {sg9 : Array GenState} {sd9 : Drawn} {st9 : Nat} {so9 : OsState} {Q E : Value → Shared → Prop}
    {loose : List Str} {mean : ExcName → Option Value}
    (B : Below A₀ base [] h₀) (F : Fr h₀ L sh9 m) (X : (hd.heap_39 w.params).In h₀) (T : Top hd.view_39 loose mean mg mb h₀) (hg : sg9 = #[])
    (hk : cs.kind = .function) (hd : dp + 20 < recursionLimit) (hu : un + 160 < cLine)
    {l kl : Addr} {ts : Tok} {vs : List Value} {row : List Int} {st : Int} {ks : List (Int × Int)} (hl : sh9.IsList l vs.toArray) (hiv : IntsAre vs row) (hne : ∀ k, nexts row none k ≠ .err) (hrow : ∀ x ∈ row, x ≠ 127 → -5 ≤ x ∧ x ≤ 5) (h3 : KeysAt sh9 kl ks) (h4 : KeysOk ks) (bst : -5 ≤ st ∧ st ≤ 5)
    (hQ : ∀ zs r h' tk gens', RunOk row ks st zs → (∀ b o, sh9.get? b = some o → h'.get? b = some o) → sh9.get? r = none → RunAt prog w sh9 h' r (fun tv => IntsAre tv.toList zs) (sidesP ks st zs) (pairP st zs).1.c0 (pairP st zs).1.c1 (pairP st zs).1.c2 (pairP st zs).1.c3 (pairP st zs).1.tab (pairP st zs).2.c0 (pairP st zs).2.c1 (pairP st zs).2.c2 (pairP st zs).2.c3 (pairP st zs).2.tab → AllBare gens' → Q (.ref r) (Shared.mk h' (gens') sd9 tk so9)) :
    wpAny (model prog w) (ktrTop dp un gd cn cs L a ccd cl []) (call (.ref 96) [.ref l, .int st ts, .ref kl]) Q E (Shared.mk sh9 sg9 sd9 st9 so9) := by
  obtain ⟨hz2, hz3⟩ := five_pow bst
  refine wpAny_call ?_
  k_dflt (first   | (refine' call_pure ?k1 ?k2 ?k3 ?k5 ?kA ?kH ?kF ?kK ?k6 ?k7 ?k8 ?k9 ?kB ?_ ?c2 ?c3 ?c4 ?c5; (case kA => exact rfl); (case kH => exact rfl); (case kF => exact rfl); (case kK => assumption); (case k1 => k_asm); (case k2 => k_asm); (case k3 => k_asm); (case k5 => k_asm); (case k6 => k_is); (case k7 => k_is); (case k8 => (((try simp only [depth_under_make, depth_under_kw, depth_in1, depth_deeper, depth_caller]); (try dsimp only [ktrTop]); omega))); (case k9 => exact BindsTo.of_eq rfl); (case c5 => decide); (case kB => exact locs rfl); (case c2 => exact rfl); (case c3 => exact rfl); (case c4 => exact rfl); k_whole; intro x9 L' h' tk9 Hd9 Hu9 Ho9 F' N' B' X' T' Q9 E9 gQ9 gE9 pE9 rE9; (try clear Ho9); (try replace Hd9 := Hd9 _ hd); (try replace Hu9 := Hu9 _ hu); (try dsimp only); (try k_fold))   | (refine' call_pureC ?k1 ?k2 ?k3 ?k5 ?kA ?kH ?kF ?kK ?k6 ?k7 ?k8 ?k9 ?kB ?kN ?_ ?c2 ?c3 ?c4; (case kA => exact rfl); (case kH => exact rfl); (case kF => exact rfl); (case kK => assumption); (case k1 => k_asm); (case k2 => k_asm); (case k3 => k_asm); (case k5 => k_asm); (case k6 => k_is); (case k7 => k_is); (case k8 => (((try simp only [depth_under_make, depth_under_kw, depth_in1, depth_deeper, depth_caller]); (try dsimp only [ktrTop]); omega))); (case k9 => exact BindsTo.of_eq rfl); (case kB => exact rfl); (case kN => decide +kernel); (case c2 => exact rfl); (case c3 => exact rfl); (case c4 => exact rfl); k_whole; intro x9 L9 h17 tk17 cells' Hd9 Hu9 Ho9 F' N' C' B9 X9 T9 Q9 E9 gQ9 gE9 pE9; (try clear Ho9); (try replace Hd9 := Hd9 _ hd); (try replace Hu9 := Hu9 _ hu); k_cells C'; (try simp only [List.cons_append, List.nil_append] at N'); (try dsimp only); (try k_fold)))
  ((try dsimp only); (try ((with_reducible refine wp_tok ?_); intro tk8)); repeat' ((fail_if_success (with_reducible show wpAny _ _ (exec (Stmt.For _ _ _ _ _) _) _ _ _)); (fail_if_success (with_reducible show wpAny _ _ (call (Value.ref _) _ _) _ _ _)); (first | (k_unfold; (try dsimp only)) | (k_end; wrow_close) | walk1 | (dsimp only; walk1) | (leave1; walk_say "STEP leave1"; try dsimp only) | ((try dsimp only); (with_reducible refine Goes.at (by assumption) ?_); (try dsimp only)))))
  rename Fr _ _ _ _ => Fc
  rename News _ _ _ _ => Nc
  refine ruler_spec (by k_asm) Fc (by k_asm) (by k_asm) rfl (less9 Hd9 (by decide)) (less9 Hu9 (by decide)) hl hiv 10 (by decide) hne fun G Lg oL gs h' tk hkp hLgn hGn hGL hL hIsG hbr0 hgo => ?_
  obtain ⟨oG, nm, qn, hG, hGc, hGd, hGs⟩ := hIsG
  have hLL := fr_ne Fc hLgn
  replace Nc := news_add Fc hGn (news_add Fc hLgn (news_keep Nc hkp) hL) hG
  replace Fc := fr_keep Fc hkp
  ((try dsimp only); (try ((with_reducible refine wp_tok ?_); intro tk8)); repeat' ((fail_if_success (with_reducible show wpAny _ _ (exec (Stmt.For _ _ _ _ _) _) _ _ _)); (fail_if_success (with_reducible show wpAny _ _ (call (Value.ref _) _ _) _ _ _)); (first | (k_unfold; (try dsimp only)) | (k_end; wrow_close) | walk1 | (dsimp only; walk1) | (leave1; walk_say "STEP leave1"; try dsimp only) | ((try dsimp only); (with_reducible refine Goes.at (by assumption) ?_); (try dsimp only)))))
  rename Fr _ _ _ _ => Fc
  rename News _ _ _ _ => Nc
  refine comp_spec (by k_asm) Fc Nc (by k_asm) (by k_asm) rfl (less9 Hd9 (by decide)) (less9 Hu9 (by decide)) fun x dx hh tt nn h₂ tk₂ Fd Nd l1 l2 => ?_
  clear Fc Nc
  ((try dsimp only); (try ((with_reducible refine wp_tok ?_); intro tk8)); repeat' ((fail_if_success (with_reducible show wpAny _ _ (exec (Stmt.For _ _ _ _ _) _) _ _ _)); (fail_if_success (with_reducible show wpAny _ _ (call (Value.ref _) _ _) _ _ _)); (first | (k_unfold; (try dsimp only)) | (k_end; wrow_close) | walk1 | (dsimp only; walk1) | (leave1; walk_say "STEP leave1"; try dsimp only) | ((try dsimp only); (with_reducible refine Goes.at (by assumption) ?_); (try dsimp only)))))
  rename Fr _ _ _ _ => Fc
  rename News _ _ _ _ => Nc
  rename Top _ _ _ _ _ sh9 => Ts
  refine kdn_eval (knd := intKind prog w) Fc Nc (Top.nolimit Ts) rfl rfl (List.cons_ne_nil _ _) (by decide) fun d₁ h₃ o₁ F₃ N₃ lt₃ lo₃ hd₃ => ?_
  clear Fc Nc
  ((try dsimp only); (try ((with_reducible refine wp_tok ?_); intro tk8)); repeat' ((fail_if_success (with_reducible show wpAny _ _ (exec (Stmt.For _ _ _ _ _) _) _ _ _)); (fail_if_success (with_reducible show wpAny _ _ (call (Value.ref _) _ _) _ _ _)); (first | (k_unfold; (try dsimp only)) | (k_end; wrow_close) | walk1 | (dsimp only; walk1) | (leave1; walk_say "STEP leave1"; try dsimp only) | ((try dsimp only); (with_reducible refine Goes.at (by assumption) ?_); (try dsimp only)))))
  refine kdn_made_int F₃ N₃ (.head fun p hp => Nat.ne_of_lt (lt₃ p hp)) hd₃ rfl (by simp [intKeyPairs]) fun h₄ o₄ F₄ N₄ hd₄ => ?_
  clear F₃ N₃ hd₃
  have O₄ : ObjTab prog w o₄ [(st, 1)] := ⟨_, hd₄, by exact .cons .nil⟩
  clear hd₄
  ((try dsimp only); (try ((with_reducible refine wp_tok ?_); intro tk8)); repeat' ((fail_if_success (with_reducible show wpAny _ _ (exec (Stmt.For _ _ _ _ _) _) _ _ _)); (fail_if_success (with_reducible show wpAny _ _ (call (Value.ref _) _ _) _ _ _)); (first | (k_unfold; (try dsimp only)) | (k_end; wrow_close) | walk1 | (dsimp only; walk1) | (leave1; walk_say "STEP leave1"; try dsimp only) | ((try dsimp only); (with_reducible refine Goes.at (by assumption) ?_); (try dsimp only)))))
  rename Fr _ _ _ _ => Fc
  rename News _ _ _ _ => Nc
  refine compare_spec (by k_asm) Fc (by k_asm) (by k_asm) rfl (less9 Hd9 (by decide)) (less9 Hu9 (by decide)) (Nc _ (.tail _ (.tail _ (.tail _ (.tail _ (.tail _ (.head _))))))).1 (Nc _ (.tail _ (.tail _ (.tail _ (.tail _ (.tail _ (.tail _ (.head _)))))))).1 (h3.keep Fc.keep) h4
    ⟨_, _, _, _, _, (Nc _ (.tail _ (.tail _ (.tail _ (.head _))))).1, rfl, _, rfl⟩ ⟨_, _, _, _, _, (Nc _ (.tail _ (.head _))).1, rfl, _, rfl⟩ fun h₅ tk₅ t₅ hkp₅ => ?_
  replace Nc := news_keep Nc hkp₅
  replace Fc := fr_keep Fc hkp₅
  clear hkp₅
  have hside : cmpSide ks (col4 1 st (st ^ 2) (st ^ 3)) (col4 0 0 0 0) = sideP ks (pairP st []) := rfl
  rw [hside]
  ((try dsimp only); (try ((with_reducible refine wp_tok ?_); intro tk8)); repeat' ((fail_if_success (with_reducible show wpAny _ _ (exec (Stmt.For _ _ _ _ _) _) _ _ _)); (fail_if_success (with_reducible show wpAny _ _ (call (Value.ref _) _ _) _ _ _)); (first | (k_unfold; (try dsimp only)) | (k_end; wrow_close) | walk1 | (dsimp only; walk1) | (leave1; walk_say "STEP leave1"; try dsimp only) | ((try dsimp only); (with_reducible refine Goes.at (by assumption) ?_); (try dsimp only)))))
  refine for_range ?_ rfl
  ((try dsimp only); (try ((with_reducible refine wp_tok ?_); intro tk8)); repeat' ((fail_if_success (with_reducible show wpAny _ _ (exec (Stmt.For _ _ _ _ _) _) _ _ _)); (fail_if_success (with_reducible show wpAny _ _ (call (Value.ref _) _ _) _ _ _)); (first | (k_unfold; (try dsimp only)) | (k_end; wrow_close) | walk1 | (dsimp only; walk1) | (leave1; walk_say "STEP leave1"; try dsimp only) | ((try dsimp only); (with_reducible refine Goes.at (by assumption) ?_); (try dsimp only)))))
  rename IsRange _ _ _ _ _ _ _ _ => hR
  rename_i F5 N5 hkp5
  have hsz : sg9.size = 0 := by rw [hg]; rfl
  rw [hsz] at hGd
  refine news_named N5 fun Lr hLr => ?_
  refine range_mono (Q' := fun f s' => f = .next ∧ Wall (LFin prog w sh9 sd9 so9 Lr row ks st s')) ?_ (fun v s' h => by cases h.1) ?_
  · clear F5 N5 hkp5
    rintro s' ⟨-, zs, h, tk7, gs7, m7, aS, aT, eE, dE, eO, dO, oE, odE, oO, odO, sv, tv, ns, nt, hRO, F7, N7, hsv, htv, hE, hO, hbr, hpin⟩
    subst hLr
    replace F7 := pin_fr F7 hpin
    (try dsimp only)
    ((try dsimp only); (try ((with_reducible refine wp_tok ?_); intro tk8)); repeat' ((fail_if_success (with_reducible show wpAny _ _ (exec (Stmt.For _ _ _ _ _) _) _ _ _)); (fail_if_success (with_reducible show wpAny _ _ (call (Value.ref _) _ _) _ _ _)); (first | (k_unfold; (try dsimp only)) | (k_end; wrow_close) | walk1 | (dsimp only; walk1) | (leave1; walk_say "STEP leave1"; try dsimp only) | ((try dsimp only); (with_reducible refine Goes.at (by assumption) ?_); (try dsimp only)))))
    rename Fr _ _ _ _ => F9
    rename News _ _ _ _ => N9
    refine hQ zs _ _ _ _ hRO F9.keep (N9 _ (.head _)).2.2 ⟨_, _, _, _, _, _, _, _, ?_, ⟨_, (N9 _ (.head _)).1, rfl, _, rfl⟩, ⟨_, (N9 _ (.tail _ (.tail _ (.head _)))).1, rfl, _, rfl⟩, htv, ⟨_, (N9 _ (.tail _ (.head _))).1, rfl, _, rfl⟩, hsv,
      hE.entry (N9 _ (.tail _ (.tail _ (.tail _ (.head _))))).1, hE.tab (a := eE) (N9 _ (.tail _ (.tail _ (.tail _ (.tail _ (.head _)))))).1, hO.entry (N9 _ (.tail _ (.tail _ (.tail _ (.tail _ (.tail _ (.head _))))))).1, hO.tab (a := eO) (N9 _ (.tail _ (.tail _ (.tail _ (.tail _ (.tail _ (.tail _ (.head _)))))))).1⟩ ?_
    · refine all1 ?_ (all1 ?_ (all1 ?_ (all1 ?_ (all1 ?_ (all1 ?_ all0)))))
      · exact (N9 _ (.tail _ (.tail _ (.head _)))).2.2
      · exact (N9 _ (.tail _ (.head _))).2.2
      · exact (N9 _ (.tail _ (.tail _ (.tail _ (.head _))))).2.2
      · exact (N9 _ (.tail _ (.tail _ (.tail _ (.tail _ (.tail _ (.head _))))))).2.2
      · exact (N9 _ (.tail _ (.tail _ (.tail _ (.tail _ (.head _)))))).2.2
      · exact (N9 _ (.tail _ (.tail _ (.tail _ (.tail _ (.tail _ (.tail _ (.head _)))))))).2.2
    · intro y hy
      simp at hy
      subst hy; exact hbr
  refine range_named fun A' hA' => ?_
  refine range_inv (n := 9) hR (by decide) (LInv prog w A'.in1.in1 sh9 sd9 so9 Lr x dx G Lg oG (dictOf [⟨hh, .str (Str.ofString "comp_select_list") tt, .ref kl⟩] nn) row ks st) ?_ ?_ ?_ ?_
  · rintro I i s' ⟨zs, h, tk7, gs7, m7, aS, aT, eE, dE, eO, dO, Ig, oE, odE, oO, odO, oLg, oIg, sv, tv, ns, nt, _, _, _, N7, _⟩
    exact (N7 _ (.head _)).1
  · rintro I rfl
    subst hLr
    have N6 := News.push F5 N5 (rgObj 0 9)
    have a2 := l1 (Lg, oL) (.tail _ (.head _))
    have a3 := lt₃ (Lg, oL) (.tail _ (.tail _ (.tail _ (.head _))))
    simp only at a2 a3
    have aI := Heap.lt_size (N5 _ (.tail _ (.tail _ (.tail _ (.tail _ (.tail _ (.tail _ (.tail _ (.tail _ (.tail _ (.head _))))))))))).1
    simp only at aI
    refine LInv.at (.mk [] _ _ gs _ _ _ _ _ _ _ Lg _ _ _ _ oL oL _ _ _ _ rfl (fun k z e => by simp at e) (F5.push _) (news_perm12 N6) (.cons _ _ .nil) .nil ⟨⟨_, _, _, _, _, rfl, rfl⟩, O₄, lo₃⟩ ⟨⟨_, _, _, _, _, rfl, rfl⟩, ⟨[], by assumption, .nil⟩, by assumption⟩ ?_ ?_ (.inl rfl) hbr0 ⟨rfl, rfl, rfl, rfl, rfl, rfl, trivial⟩ fun s'' k1 k2 _ => by subst hA'; exact hgo _ s'' k1 k2) (by dsimp only; rw [hg]; rfl)
    · exact Nat.ne_of_lt (by omega)
    · refine all1 ?_ (all1 ?_ (all1 ?_ (all1 ?_ (all1 ?_ (all1 ?_ (all1 ?_ (all1 ?_ (all1 ?_ (all1 ?_ all0)))))))))
      · exact Nat.ne_of_gt aI
      · refine Nat.ne_of_gt ?_; omega
      · refine Nat.ne_of_gt ?_; omega
      · refine Nat.ne_of_gt ?_; omega
      · refine Nat.ne_of_gt ?_; omega
      · refine Nat.ne_of_gt ?_; omega
      · refine Nat.ne_of_gt ?_; omega
      · exact Nat.ne_of_gt (Nat.lt_trans a2 l2)
      · exact Nat.ne_of_gt a2
      · exact hGL
  · rintro I i s₂ h₆ tk₆ t₆ hi ⟨zs, h, tk7, gs7, m7, aS, aT, eE, dE, eO, dO, Ig, oE, odE, oO, odO, oLg, oIg, sv, tv, ns, nt, hzl, hRT, F7, N7, hsv, htv, hE, hO, hTS, hLgs, hIg, hbr, hpin, hgoes⟩ hkp₆ hI₆ Q₁ gQ₁
    have F8 := fr_but F7 hkp₆ (N7 _ (.head _)).2.1 (N7 _ (.head _)).2.2
    have N8 := news_but N7 hkp₆ hI₆ (fun q hq => Or.elim ((show ∀ q ∈ [(aS, W.listOf sv ns), (aT, W.listOf tv nt), (eE, oE), (dE, odE), (eO, oO), (dO, odO), (x, instObj 38 dx), (dx, dictOf [⟨hh, .str (Str.ofString "comp_select_list") tt, .ref kl⟩] nn), (G, oG), (Lg, oLg), (Ig, oIg)], q.1 ≠ I ∨ q.2.cls ≠ Value.type "range_iterator" by
        refine all1 ?_ (all1 ?_ (all1 ?_ (all1 ?_ (all1 ?_ (all1 ?_ (all1 ?_ (all1 ?_ (all1 ?_ (all1 ?_ (all1 ?_ all0))))))))))
        · exact .inr (type_ne (by decide))
        · exact .inr (type_ne (by decide))
        · exact .inr (by rw [hE.cls.1]; exact type_ne (by decide))
        · exact .inr (by rw [hE.cls.2]; exact type_ne (by decide))
        · exact .inr (by rw [hO.cls.1]; exact type_ne (by decide))
        · exact .inr (by rw [hO.cls.2]; exact type_ne (by decide))
        · exact .inr nofun
        · exact .inr (type_ne (by decide))
        · exact .inr (by rw [hGc]; exact type_ne (by decide))
        · exact .inl (Ne.symm (hLgs I (.head _)))
        · rcases hIg with e | e
          · exact .inl (by rw [e]; exact Ne.symm (hLgs I (.head _)))
          · exact .inr (by rw [turns_cls e]; exact type_ne (by decide))) q hq) id fun hc => ne_cls (o := q.2) N7 (.tail _ hq) (.head _) hc)
    clear F7 N7 hkp₆ F5 N5 hkp5
    obtain ⟨pre, hpre⟩ := sidesP_last ks st zs
    have hsv' := hsv
    rw [hpre] at hsv'
    replace F8 := pin_fr F8 hpin
    subst hLr
    (try dsimp only)
    ((try dsimp only); (try ((with_reducible refine wp_tok ?_); intro tk8)); repeat' ((fail_if_success (with_reducible show wpAny _ _ (exec (Stmt.For _ _ _ _ _) _) _ _ _)); (fail_if_success (with_reducible show wpAny _ _ (call (Value.ref _) _ _) _ _ _)); (first | (k_unfold; (try dsimp only)) | (k_end; wrow_close) | walk1 | (dsimp only; walk1) | (leave1; walk_say "STEP leave1"; try dsimp only) | ((try dsimp only); (with_reducible refine Goes.at (by assumption) ?_); (try dsimp only)))))
    · rename Fr _ _ _ _ => F9
      rename News _ _ _ _ => N9
      rename_i hz0
      dsimp only [TurnEnd]
      exact ⟨rfl, zs, _, _, gs7, _, aS, aT, eE, dE, eO, dO, oE, odE, oO, odO, sv, tv, ns, nt, ⟨hRT, .inl hz0⟩, F9, fun q hq => N9 q (.tail _ (List.mem_append_left [(x, instObj 38 dx), (dx, _), (G, oG), (Lg, oLg), (Ig, oIg)] hq)), hsv, htv, hE, hO, hbr, ⟨rfl, rfl, rfl, rfl, trivial⟩⟩
    rename Fr _ _ _ _ => F9
    rename News _ _ _ _ => N9
    rename_i hz0
    obtain ⟨k, hk10, hik⟩ : ∃ k, 10 - i = k + 1 ∧ i + k = 9 := ⟨9 - i, Nat.succ_sub (Nat.le_of_lt (by assumption)), Nat.add_sub_cancel' (Nat.le_of_lt (by assumption))⟩
    rw [hk10] at hgoes
    have hLgk := (N9 (Lg, oLg) (by first | exact .head _ | k_mem | simp)).1
    have hIgk := (N9 (Ig, oIg) (by first | exact .head _ | k_mem | simp)).1
    have hN10 : ∀ q ∈ [(I, rgObj (i + 1) 9), (aS, W.listOf sv ns), (aT, W.listOf tv nt), (eE, oE), (dE, odE), (eO, oO), (dO, odO), (x, instObj 38 dx), (dx, dictOf [⟨hh, .str (Str.ofString "comp_select_list") tt, .ref kl⟩] nn), (G, oG)], q.1 ≠ Lg ∧ turnsB q.2 = false := fun q hq => ⟨hLgs _ (List.mem_map_of_mem (f := Prod.fst) hq), (show ∀ q ∈ [(I, rgObj (i + 1) 9), (aS, W.listOf sv ns), (aT, W.listOf tv nt), (eE, oE), (dE, odE), (eO, oO), (dO, odO), (x, instObj 38 dx), (dx, dictOf [⟨hh, .str (Str.ofString "comp_select_list") tt, .ref kl⟩] nn), (G, oG)], turnsB q.2 = false by
      refine all1 ?_ (all1 ?_ (all1 ?_ (all1 ?_ (all1 ?_ (all1 ?_ (all1 ?_ (all1 ?_ (all1 ?_ (all1 ?_ all0)))))))))
      · rfl
      · rfl
      · rfl
      · exact hE.turns.1
      · exact hE.turns.2.1
      · exact hO.turns.1
      · exact hO.turns.2.1
      · rfl
      · rfl
      · unfold turnsB; rw [hGc]; rfl) q hq⟩
    have N10 := news_left (l := [(I, rgObj (i + 1) 9), (aS, W.listOf sv ns), (aT, W.listOf tv nt), (eE, oE), (dE, odE), (eO, oO), (dO, odO), (x, instObj 38 dx), (dx, dictOf [⟨hh, .str (Str.ofString "comp_select_list") tt, .ref kl⟩] nn), (G, oG)]) (l' := [(Lg, oLg), (Ig, oIg)]) N9
    refine next_gen (g := 0) (gs := gs7) (n := k + 1) rfl (Top.nolimit (T.keeps fun b o e => F9.keep b o (F.keep b o e))) (Nat.lt_of_le_of_lt (Nat.le_add_right _ _) Hd9) ⟨oG, nm, qn, (N9 (G, oG) (by first | exact .head _ | k_mem | simp)).1, hGc, hGd, hGs⟩ rfl (by subst hA'; exact hgoes _ F9.keep hLgk hIgk) ?_ ?_
    · intro v s₁ gs' hbr' hY
      obtain ⟨z, tz, rfl, hnx, hGE, hmore⟩ := hY
      have hFr := geff_fr F9 hGE hLL
      have hNw := geff_news N10 hGE hN10
      obtain ⟨oL9, I9, oI9, e1, e2, e3, e4, e5, hκ⟩ := hmore (show 0 < k from Nat.pos_of_ne_zero fun e => Nat.ne_of_lt hi (by rw [e] at hik; exact hik))
      obtain ⟨⟨h9, tk9, rfl⟩, -, -⟩ := hGE
      have hLg0 := (N9 (Lg, oLg) (by first | exact .head _ | k_mem | simp)).2.2
      have N11 := news_two hNw e1 (Ne.symm hLL) hLg0 e2 (fr_turns hFr e2 e5) e3
      simp only [List.cons_append, List.nil_append] at N11
      clear F9 N9 N10 hgoes hNw
      have hi10 : 10 - (k + 1 - 1 + 1) = i := by show 10 - (k + 1) = i; rw [← hk10]; exact Nat.sub_sub_self (Nat.le_trans (Nat.le_add_right i k) (Nat.le_trans (Nat.le_of_eq hik) (by decide)))
      rw [hi10] at hnx
      obtain ⟨hzm, hz00, hz127⟩ := nexts_mem hnx (fun y e => by cases e)
      have hzm' : z ∈ row := by rcases hzm with h | h; exact h; cases h
      have bz := hrow z hzm' hz127
      have mT : (aT, W.listOf tv nt) ∈ [(I, rgObj (i + 1) 9), (aS, W.listOf sv ns), (aT, W.listOf tv nt), (eE, oE), (dE, odE), (eO, oO), (dO, odO), (x, instObj 38 dx), (dx, dictOf [⟨hh, .str (Str.ofString "comp_select_list") tt, .ref kl⟩] nn), (G, oG), (Lg, oL9), (I9, oI9)] := by k_mem
      have mS : (aS, W.listOf sv ns) ∈ [(I, rgObj (i + 1) 9), (aS, W.listOf sv ns), (aT, W.listOf tv nt), (eE, oE), (dE, odE), (eO, oO), (dO, odO), (x, instObj 38 dx), (dx, dictOf [⟨hh, .str (Str.ofString "comp_select_list") tt, .ref kl⟩] nn), (G, oG), (Lg, oL9), (I9, oI9)] := by k_mem
      have lG : listB oG = false := by unfold listB; rw [hGc]; rfl
      have lI : listB oI9 = false := by unfold listB; rw [turns_cls e5]; rfl
      have nT : ∀ b o', (b, o') ∈ _ → listB o' = false → (aT : Nat) ≠ b := fun b o' hm hl => ne_list N11 mT hm rfl hl
      have nS : ∀ b o', (b, o') ∈ _ → listB o' = false → (aS : Nat) ≠ b := fun b o' hm hl => ne_list N11 mS hm rfl hl
      have oT1 : aT ≠ I := nT I _ (.head _) rfl
      have oT : ∀ p ∈ [(eE, oE), (dE, odE), (eO, oO), (dO, odO), (x, instObj 38 dx), (dx, dictOf [⟨hh, .str (Str.ofString "comp_select_list") tt, .ref kl⟩] nn), (G, oG), (Lg, oL9), (I9, oI9)], p.1 ≠ aT := by
        refine all1 ?_ (all1 ?_ (all1 ?_ (all1 ?_ (all1 ?_ (all1 ?_ (all1 ?_ (all1 ?_ (all1 ?_ all0))))))))
        · exact Ne.symm (nT eE oE (by first | exact .head _ | k_mem | simp) hE.turns.2.2.1)
        · exact Ne.symm (nT dE odE (by first | exact .head _ | k_mem | simp) hE.turns.2.2.2)
        · exact Ne.symm (nT eO oO (by first | exact .head _ | k_mem | simp) hO.turns.2.2.1)
        · exact Ne.symm (nT dO odO (by first | exact .head _ | k_mem | simp) hO.turns.2.2.2)
        · exact Ne.symm (nT x (instObj 38 dx) (by first | exact .head _ | k_mem | simp) rfl)
        · exact Ne.symm (nT dx (dictOf [⟨hh, .str (Str.ofString "comp_select_list") tt, .ref kl⟩] nn) (by first | exact .head _ | k_mem | simp) rfl)
        · exact Ne.symm (nT G oG (by first | exact .head _ | k_mem | simp) lG)
        · exact Ne.symm (hLgs aT (by first | exact .head _ | k_mem | simp))
        · exact Ne.symm (nT I9 oI9 (by first | exact .head _ | k_mem | simp) lI)
      have oS1 : aS ≠ I := nS I _ (.head _) rfl
      have oS : ∀ p ∈ [(x, instObj 38 dx), (dx, dictOf [⟨hh, .str (Str.ofString "comp_select_list") tt, .ref kl⟩] nn), (G, oG), (Lg, oL9), (I9, oI9)], p.1 ≠ aS := by
        refine all1 ?_ (all1 ?_ (all1 ?_ (all1 ?_ (all1 ?_ all0))))
        · exact Ne.symm (nS x (instObj 38 dx) (by first | exact .head _ | k_mem | simp) rfl)
        · exact Ne.symm (nS dx (dictOf [⟨hh, .str (Str.ofString "comp_select_list") tt, .ref kl⟩] nn) (by first | exact .head _ | k_mem | simp) rfl)
        · exact Ne.symm (nS G oG (by first | exact .head _ | k_mem | simp) lG)
        · exact Ne.symm (hLgs aS (by first | exact .head _ | k_mem | simp))
        · exact Ne.symm (nS I9 oI9 (by first | exact .head _ | k_mem | simp) lI)
      clear nT nS mT mS
      have hszT : tv.size ≤ sizeLine := by have := htv.length; rw [Array.length_toList] at this; rw [sizeLine_eq, this, hzl]; exact n1 (Nat.le_of_lt hi) rfl
      have hszS : sv.size ≤ sizeLine := by have := hsv.length; rw [Array.length_toList] at this; unfold sidesP at this; rw [List.length_map, List.length_range] at this; rw [sizeLine_eq, this, hzl]; exact n3 (Nat.succ_lt_succ hi) rfl
      repeat' ((fail_if_success (with_reducible show wpAny _ _ (call (Value.builtin _) [Value.ref _, _] _) _ _ _)); (first | (k_unfold; (try dsimp only)) | walk1 | (dsimp only; walk1) | (leave1; walk_say "STEP leave1"; try dsimp only) | ((try dsimp only); (with_reducible refine Goes.at (by assumption) ?_); (try dsimp only))))
      · contradiction
      rename Fr _ _ _ _ => F12
      rename News _ _ _ _ => N12
      refine append_K F12 N12 (.tail (Ne.symm oT1) (.tail (Ne.symm hTS) (.head oT))) (fun h13 F13 N13 => ?_) hszT
      clear F12 N12
      obtain ⟨hlE, hlO⟩ := pairP_len st zs
      have hpow : 2 ^ zs.length ≤ 2 ^ 9 := Nat.pow_le_pow_right (by decide) (by rw [hzl]; exact Nat.le_of_lt hi)
      ((try dsimp only); (try ((with_reducible refine wp_tok ?_); intro tk8)); repeat' ((fail_if_success (with_reducible show wpAny _ _ (exec (Stmt.For _ _ _ _ _) _) _ _ _)); (fail_if_success (with_reducible show wpAny _ _ (call (Value.ref _) _ _) _ _ _)); (first | (k_unfold; (try dsimp only)) | (k_end; wrow_close) | walk1 | (dsimp only; walk1) | (leave1; walk_say "STEP leave1"; try dsimp only) | ((try dsimp only); (with_reducible refine Goes.at (by assumption) ?_); (try dsimp only)))))
      rename Fr _ _ _ _ => F14
      rename News _ _ _ _ => N14
      refine moved_spec (by k_asm) F14 (by k_asm) (by k_asm) rfl (less9 Hd9 (by decide)) (less9 Hu9 (by decide)) (hO.entry (N14 (eO, oO) (by first | exact .head _ | k_mem | simp)).1) (hO.tab (a := eO) (N14 (dO, odO) (by first | exact .head _ | k_mem | simp)).1) (by rw [sizeLine_eq]; exact Nat.le_trans hlO (Nat.le_trans hpow (by decide))) bz fun r15 d15 h15 tk15 hkp15 hr15 hE15 hT15 => ?_
      replace N14 := news_keep N14 hkp15
      replace F14 := fr_keep F14 hkp15
      ((try dsimp only); (try ((with_reducible refine wp_tok ?_); intro tk8)); repeat' ((fail_if_success (with_reducible show wpAny _ _ (exec (Stmt.For _ _ _ _ _) _) _ _ _)); (fail_if_success (with_reducible show wpAny _ _ (call (Value.ref _) _ _) _ _ _)); (first | (k_unfold; (try dsimp only)) | (k_end; wrow_close) | walk1 | (dsimp only; walk1) | (leave1; walk_say "STEP leave1"; try dsimp only) | ((try dsimp only); (with_reducible refine Goes.at (by assumption) ?_); (try dsimp only)))))
      have hml : ((pairP st zs).2.tab.map fun kv => (kv.1 + z, kv.2)).length = (pairP st zs).2.tab.length := List.length_map ..
      refine stats_spec (by k_asm) F14 (by k_asm) (by k_asm) rfl (less9 Hd9 (by decide)) (less9 Hu9 (by decide)) (hE.entry (N14 (eE, oE) (by first | exact .head _ | k_mem | simp)).1) hE15 (hE.tab (a := eE) (N14 (dE, odE) (by first | exact .head _ | k_mem | simp)).1) hT15 (by rw [sizeLine_eq, hml]; exact Nat.le_trans (Nat.add_le_add (Nat.le_trans hlE hpow) (Nat.le_trans hlO hpow)) (by decide)) fun r16 d16 h16 tk16 hkp16 hr16 hd16 hE16 hT16 => ?_
      have n16 : r16 ≠ Lg := ne_fresh hr16 (N14 (Lg, oL9) (by first | exact .head _ | k_mem | simp)).1
      have m16 : d16 ≠ Lg := ne_fresh hd16 (N14 (Lg, oL9) (by first | exact .head _ | k_mem | simp)).1
      obtain ⟨o16, od16, ho16, hod16, X16⟩ := EntObj.of (e := (pairP st zs).1.plus ((pairP st zs).2.moved z)) hE16 hT16
      replace N14 := news_add F14 hr16 (news_add F14 hd16 (news_keep N14 hkp16) hod16) ho16
      replace F14 := fr_keep F14 hkp16
      clear hkp15 hkp16 hr15 hE15 hT15 hE16 hT16
      ((try dsimp only); (try ((with_reducible refine wp_tok ?_); intro tk8)); repeat' ((fail_if_success (with_reducible show wpAny _ _ (exec (Stmt.For _ _ _ _ _) _) _ _ _)); (fail_if_success (with_reducible show wpAny _ _ (call (Value.ref _) _ _) _ _ _)); (first | (k_unfold; (try dsimp only)) | (k_end; wrow_close) | walk1 | (dsimp only; walk1) | (leave1; walk_say "STEP leave1"; try dsimp only) | ((try dsimp only); (with_reducible refine Goes.at (by assumption) ?_); (try dsimp only)))))
      refine moved_spec (by k_asm) F14 (by k_asm) (by k_asm) rfl (less9 Hd9 (by decide)) (less9 Hu9 (by decide)) (hE.entry (N14 (eE, oE) (by first | exact .head _ | k_mem | simp)).1) (hE.tab (a := eE) (N14 (dE, odE) (by first | exact .head _ | k_mem | simp)).1) (by rw [sizeLine_eq]; exact Nat.le_trans hlE (Nat.le_trans hpow (by decide))) bz fun r17 d17 h17 tk17 hkp17 hr17 hE17 hT17 => ?_
      replace N14 := news_keep N14 hkp17
      replace F14 := fr_keep F14 hkp17
      ((try dsimp only); (try ((with_reducible refine wp_tok ?_); intro tk8)); repeat' ((fail_if_success (with_reducible show wpAny _ _ (exec (Stmt.For _ _ _ _ _) _) _ _ _)); (fail_if_success (with_reducible show wpAny _ _ (call (Value.ref _) _ _) _ _ _)); (first | (k_unfold; (try dsimp only)) | (k_end; wrow_close) | walk1 | (dsimp only; walk1) | (leave1; walk_say "STEP leave1"; try dsimp only) | ((try dsimp only); (with_reducible refine Goes.at (by assumption) ?_); (try dsimp only)))))
      have hml2 : ((pairP st zs).1.tab.map fun kv => (kv.1 + z, kv.2)).length = (pairP st zs).1.tab.length := List.length_map ..
      refine stats_spec (by k_asm) F14 (by k_asm) (by k_asm) rfl (less9 Hd9 (by decide)) (less9 Hu9 (by decide)) (hO.entry (N14 (eO, oO) (by first | exact .head _ | k_mem | simp)).1) hE17 (hO.tab (a := eO) (N14 (dO, odO) (by first | exact .head _ | k_mem | simp)).1) hT17 (by rw [sizeLine_eq, hml2]; exact Nat.le_trans (Nat.add_le_add (Nat.le_trans hlO hpow) (Nat.le_trans hlE hpow)) (by decide)) fun r18 d18 h18 tk18 hkp18 hr18 hd18 hE18 hT18 => ?_
      have n18 : r18 ≠ Lg := ne_fresh hr18 (N14 (Lg, oL9) (by first | exact .head _ | k_mem | simp)).1
      have m18 : d18 ≠ Lg := ne_fresh hd18 (N14 (Lg, oL9) (by first | exact .head _ | k_mem | simp)).1
      obtain ⟨o18, od18, ho18, hod18, X18⟩ := EntObj.of (e := (pairP st zs).2.plus ((pairP st zs).1.moved z)) hE18 hT18
      replace N14 := news_add F14 hr18 (news_add F14 hd18 (news_keep N14 hkp18) hod18) ho18
      replace F14 := fr_keep F14 hkp18
      clear hkp17 hkp18 hr17 hE17 hT17 hE18 hT18
      ((try dsimp only); (try ((with_reducible refine wp_tok ?_); intro tk8)); repeat' ((fail_if_success (with_reducible show wpAny _ _ (exec (Stmt.For _ _ _ _ _) _) _ _ _)); (fail_if_success (with_reducible show wpAny _ _ (call (Value.ref _) _ _) _ _ _)); (first | (k_unfold; (try dsimp only)) | (k_end; wrow_close) | walk1 | (dsimp only; walk1) | (leave1; walk_say "STEP leave1"; try dsimp only) | ((try dsimp only); (with_reducible refine Goes.at (by assumption) ?_); (try dsimp only)))))
      rename Fr _ _ _ _ => F19
      rename News _ _ _ _ => N19
      refine compare_spec (by k_asm) F19 (by k_asm) (by k_asm) rfl (less9 Hd9 (by decide)) (less9 Hu9 (by decide)) (N19 (x, instObj 38 dx) (by first | exact .head _ | k_mem | simp)).1 (N19 (dx, dictOf [⟨hh, .str (Str.ofString "comp_select_list") tt, .ref kl⟩] nn) (by first | exact .head _ | k_mem | simp)).1 (h3.keep F19.keep) h4
        (X16.entry (N19 (r16, o16) (by first | exact .head _ | k_mem | simp)).1) (X18.entry (N19 (r18, o18) (by first | exact .head _ | k_mem | simp)).1) fun h20 tk20 t20 hkp20 => ?_
      have hside2 : cmpSide ks (col4 ((pairP st zs).1.plus ((pairP st zs).2.moved z)).c0 ((pairP st zs).1.plus ((pairP st zs).2.moved z)).c1 ((pairP st zs).1.plus ((pairP st zs).2.moved z)).c2 ((pairP st zs).1.plus ((pairP st zs).2.moved z)).c3) (col4 ((pairP st zs).2.plus ((pairP st zs).1.moved z)).c0 ((pairP st zs).2.plus ((pairP st zs).1.moved z)).c1 ((pairP st zs).2.plus ((pairP st zs).1.moved z)).c2 ((pairP st zs).2.plus ((pairP st zs).1.moved z)).c3) = sideP ks (stepP (pairP st zs) z) := rfl
      rw [hside2]
      replace N19 := news_keep N19 hkp20
      replace F19 := fr_keep F19 hkp20
      clear hkp20
      repeat' ((fail_if_success (with_reducible show wpAny _ _ (call (Value.builtin _) [Value.ref _, _] _) _ _ _)); (first | (k_unfold; (try dsimp only)) | walk1 | (dsimp only; walk1) | (leave1; walk_say "STEP leave1"; try dsimp only) | ((try dsimp only); (with_reducible refine Goes.at (by assumption) ?_); (try dsimp only))))
      have N20 : News sh9 Lr h20 [(I, rgObj (i + 1) 9), (aS, W.listOf sv ns), (aT, W.listOf (tv.push (.int z tz)) (nt + 1)), (r16, o16), (d16, od16), (r18, o18), (d18, od18), (x, instObj 38 dx), (dx, dictOf [⟨hh, .str (Str.ofString "comp_select_list") tt, .ref kl⟩] nn), (G, oG), (Lg, oL9), (I9, oI9)] := by
        refine all1 (N19 _ (by k_mem)) (all1 (N19 _ (by k_mem)) (all1 (N19 _ (by k_mem)) (all1 (N19 _ (by k_mem)) (all1 (N19 _ (by k_mem)) (all1 (N19 _ (by k_mem)) (all1 (N19 _ (by k_mem)) (all1 (N19 _ (by k_mem)) (all1 (N19 _ (by k_mem)) (all1 (N19 _ (by k_mem)) (all1 (N19 _ (by k_mem)) (all1 (N19 _ (by k_mem)) all0)))))))))))
      clear N19
      have mS2 : (aS, W.listOf sv ns) ∈ [(I, rgObj (i + 1) 9), (aS, W.listOf sv ns), (aT, W.listOf (tv.push (.int z tz)) (nt + 1)), (r16, o16), (d16, od16), (r18, o18), (d18, od18), (x, instObj 38 dx), (dx, dictOf [⟨hh, .str (Str.ofString "comp_select_list") tt, .ref kl⟩] nn), (G, oG), (Lg, oL9), (I9, oI9)] := by k_mem
      have p1 : aS ≠ r16 := ne_list N20 mS2 (b := r16) (o' := o16) (by first | exact .head _ | k_mem | simp) rfl X16.turns.2.2.1
      have p2 : aS ≠ d16 := ne_list N20 mS2 (b := d16) (o' := od16) (by first | exact .head _ | k_mem | simp) rfl X16.turns.2.2.2
      have p3 : aS ≠ r18 := ne_list N20 mS2 (b := r18) (o' := o18) (by first | exact .head _ | k_mem | simp) rfl X18.turns.2.2.1
      have p4 : aS ≠ d18 := ne_list N20 mS2 (b := d18) (o' := od18) (by first | exact .head _ | k_mem | simp) rfl X18.turns.2.2.2
      clear mS2
      refine append_K F19 N20 (.tail (Ne.symm oS1) (.head (all1 hTS (all1 (Ne.symm p1) (all1 (Ne.symm p2) (all1 (Ne.symm p3) (all1 (Ne.symm p4) oS))))))) (fun h21 F21 N21 => ?_) hszS
      clear F19 N20
      ((try dsimp only); (try ((with_reducible refine wp_tok ?_); intro tk8)); repeat' ((fail_if_success (with_reducible show wpAny _ _ (exec (Stmt.For _ _ _ _ _) _) _ _ _)); (fail_if_success (with_reducible show wpAny _ _ (call (Value.ref _) _ _) _ _ _)); (first | (k_unfold; (try dsimp only)) | (k_end; wrow_close) | walk1 | (dsimp only; walk1) | (leave1; walk_say "STEP leave1"; try dsimp only) | ((try dsimp only); (with_reducible refine Goes.at (by assumption) ?_); (try dsimp only)))))
      dsimp only [TurnEnd]
      refine ⟨zs ++ [z], h21, _, gs', _, aS, aT, r16, d16, r18, d18, I9, o16, od16, o18, od18, oL9, oI9, _, _, _, _, by rw [List.length_append, List.length_singleton, hzl], hRT.snoc hz0 (by rw [hzl]; exact hnx), F21, N21, ?_, ?_, ?_, ?_, hTS, ?_, .inr e5, hbr', ⟨rfl, rfl, rfl, rfl, rfl, rfl, trivial⟩, ?_⟩
      · rw [sidesP_snoc]; exact intsAre_push hsv
      · exact intsAre_push htv
      · rw [pairP_snoc]; exact X16
      · rw [pairP_snoc]; exact X18
      · exact all1 (hLgs _ (by k_mem)) (all1 (hLgs _ (by k_mem)) (all1 (hLgs _ (by k_mem)) (all1 n16 (all1 m16 (all1 n18 (all1 m18 (all1 (hLgs _ (by k_mem)) (all1 (hLgs _ (by k_mem)) (all1 (hLgs _ (by k_mem)) all0)))))))))
      · intro s'' k1 k2 k3
        have hk' : 10 - (i + 1) = k := by rw [Nat.sub_succ, hk10]; rfl
        rw [hk']
        subst hA'
        exact hκ s'' k1 k2 k3
    · rintro _ s₁ ⟨rfl, hstop, hGE⟩
      left
      refine ⟨rfl, fun h' hkp => ?_⟩
      have hFr := geff_fr F9 hGE hLL
      have hNw := geff_news N10 hGE hN10
      obtain ⟨⟨h9, tk9, rfl⟩, -, -⟩ := hGE
      replace hFr := fr_keep hFr hkp
      replace hNw := news_keep hNw hkp
      clear F9 N9 N10 hgoes
      (try dsimp only)
      ((try dsimp only); (try ((with_reducible refine wp_tok ?_); intro tk8)); repeat' ((fail_if_success (with_reducible show wpAny _ _ (exec (Stmt.For _ _ _ _ _) _) _ _ _)); (fail_if_success (with_reducible show wpAny _ _ (call (Value.ref _) _ _) _ _ _)); (first | (k_unfold; (try dsimp only)) | (k_end; wrow_close) | walk1 | (dsimp only; walk1) | (leave1; walk_say "STEP leave1"; try dsimp only) | ((try dsimp only); (with_reducible refine Goes.at (by assumption) ?_); (try dsimp only)))))
      rename Fr _ _ _ _ => F11
      rename News _ _ _ _ => N11
      dsimp only [TurnEnd]
      have hi10 : 10 - (k + 1) = i := by rw [← hk10]; exact Nat.sub_sub_self (Nat.le_trans (Nat.le_add_right i k) (Nat.le_trans (Nat.le_of_eq hik) (by decide)))
      rw [hi10] at hstop
      exact ⟨rfl, zs, _, _, .finished, _, aS, aT, eE, dE, eO, dO, oE, odE, oO, odO, sv, tv, ns, nt, ⟨hRT, .inr (.inl (by rw [hzl]; exact hstop))⟩, F11, fun q hq => N11 q (.tail _ (List.mem_append_left [(x, instObj 38 dx), (dx, _), (G, oG)] hq)), hsv, htv, hE, hO, rfl, ⟨rfl, rfl, rfl, rfl, trivial⟩⟩
  · rintro I s₂ h' tk ⟨zs, h, tk7, gs7, m7, aS, aT, eE, dE, eO, dO, Ig, oE, odE, oO, odO, oLg, oIg, sv, tv, ns, nt, hzl, hRT, F7, N7, hsv, htv, hE, hO, hTS, hLgs, hIg, hbr, hpin, hgoes⟩ hkp₆
    refine ⟨rfl, zs, h', tk, gs7, m7, aS, aT, eE, dE, eO, dO, oE, odE, oO, odO, sv, tv, ns, nt, ⟨hRT, .inr (.inr hzl)⟩, fr_but F7 hkp₆ (N7 _ (.head _)).2.1 (N7 _ (.head _)).2.2, ?_, hsv, htv, hE, hO, hbr, ⟨hpin.2.2.1, hpin.2.2.2.1, hpin.2.2.2.2.1, hpin.2.2.2.2.2.1, trivial⟩⟩
    refine news_but0 (fun q hq => N7 q (.tail _ (List.mem_append_left [(x, instObj 38 dx), (dx, _), (G, oG), (Lg, oLg), (Ig, oIg)] hq))) hkp₆ fun q hq => ?_
    refine Ne.symm (ne_cls N7 (.head _) (o' := q.2) (.tail _ (List.mem_append_left [(x, instObj 38 dx), (dx, _), (G, oG), (Lg, oLg), (Ig, oIg)] hq)) ?_)
    refine (show ∀ q ∈ [(aS, W.listOf sv ns), (aT, W.listOf tv nt), (eE, oE), (dE, odE), (eO, oO), (dO, odO)], (rgObj _ 9).cls ≠ q.2.cls from ?_) q hq
    refine all1 ?_ (all1 ?_ (all1 ?_ (all1 ?_ (all1 ?_ (all1 ?_ all0)))))
    · exact type_ne (by decide)
    · exact type_ne (by decide)
    · rw [hE.cls.1]; exact type_ne (by decide)
    · rw [hE.cls.2]; exact type_ne (by decide)
    · rw [hO.cls.1]; exact type_ne (by decide)
    · rw [hO.cls.2]; exact type_ne (by decide)
end SRun63
section SRunS63
theorem rst_RunS63 : True := by w_top off; trivial
theorem nexts_some : ∀ (r : List Int) (y : Int) (k : Nat), nexts r (some y) k ≠ .err
  | [], _, _, h => by cases h
  | x :: r, y, k, h => by
    unfold nexts at h
    by_cases h127 : x = 127
    · rw [if_pos h127] at h; cases h
    · rw [if_neg h127] at h
      by_cases h0 : x = 0
      · rw [if_pos h0] at h; cases h
      · rw [if_neg h0] at h
        cases k with
        | zero => cases h
        | succ k => exact nexts_some r x k h
theorem nexts_ok {x : Int} {r : List Int} (h : x ≠ 0) (k : Nat) : nexts (x :: r) none k ≠ .err := fun e => by
  unfold nexts at e
  by_cases h127 : x = 127
  · rw [if_pos h127] at e; cases e
  · rw [if_neg h127, if_neg h] at e
    cases k with
    | zero => cases e
    | succ k => exact nexts_some r x k e
theorem run_spec {prog : Program} {w : World} {dp un : Nat} {gd : Option (List Code)} {cn : Str} {cs : Scope} {a : Addr} {ccd : Value} {cl : List (Str × Addr)} {A₀ : Around} {base h₀ : Heap} {L : Addr} {m mg mb : Str → Option Value} {sh9 : Heap} {sg9 : Array GenState} {sd9 : Drawn} {st9 : Nat} {so9 : OsState} {Q E : Value → Shared → Prop}
    {loose : List Str} {mean : ExcName → Option Value}
    (B : Below A₀ base [] h₀) (F : Fr h₀ L sh9 m) (X : (hd.heap_39 w.params).In h₀) (T : Top hd.view_39 loose mean mg mb h₀) (XB : (hd.heap_39 w.params).In base) (TB : Top hd.view_39 loose mean mg mb base) (hg : sg9 = #[])
    (hk : cs.kind = .function) (hd : dp + 20 < recursionLimit) (hu : un + 160 < cLine)
    {l kl : Addr} {ts : Tok} {vs : List Value} {row : List Int} {st : Int} {ks : List (Int × Int)} (hl : sh9.IsList l vs.toArray) (hiv : IntsAre vs row) (h1 : 1 ≤ row.length) (hrow : ∀ x ∈ row, x = 127 ∨ -5 ≤ x ∧ x ≤ 5) (h3 : KeysAt sh9 kl ks) (hK : KeysGood ks) (bst : -5 ≤ st ∧ st ≤ 5)
    (hQ : ∀ zs r h' tk gens', zs = sizesP row ks.length → (∀ z ∈ zs, -5 ≤ z ∧ z ≤ 5) → zs.length ≤ 4 → Fr h₀ L h' m → (∀ b o, sh9.get? b = some o → b ≠ L → h'.get? b = some o) → sh9.get? r = none →
      RunAt prog w sh9 h' r (fun tv => (row.head? = some 0 ∧ tv = #[.none]) ∨ (row.head? ≠ some 0 ∧ IntsAre tv.toList zs)) (sidesP ks st zs) (pairP st zs).1.c0 (pairP st zs).1.c1 (pairP st zs).1.c2 (pairP st zs).1.c3 (pairP st zs).1.tab (pairP st zs).2.c0 (pairP st zs).2.c1 (pairP st zs).2.c2 (pairP st zs).2.c3 (pairP st zs).2.tab →
      AllBare gens' → Q (.ref r) (Shared.mk h' (gens') sd9 tk so9)) :
    wpAny (model prog w) (ktrTop dp un gd cn cs L a ccd cl []) (call (.ref 96) [.ref l, .int st ts, .ref kl]) Q E (Shared.mk sh9 sg9 sd9 st9 so9) := by
  cases hiv with
  | nil => simp at h1
  | @cons x t0 vs row hiv =>
    by_cases h0 : x = 0
    · subst h0
      have hz : sizesP (0 :: row) ks.length = [] := by unfold sizesP; rw [show sizesR (0 :: row) none ks.length = [] from rfl]; simp
      have hne : sideP ks (pairP st []) ≠ 0 := fun e => by
        have h2 := (side_zero_iff hK st [] (by simp) (fun z hz => nomatch hz)).mp e
        rw [List.length_nil] at h2
        have h3 := hK.len.1
        omega
      refine run_err B F X T XB TB hg hk hd hu hl h3 hK.ok bst hne fun r h' tk gens' F' hkp hr hRA hb => ?_
      refine hQ [] r h' tk gens' hz.symm (fun z hz => nomatch hz) (Nat.zero_le _) F' hkp hr ?_ hb
      obtain ⟨aT, aS, eE, eO, dE, dO, tv, sv, q1, q2, q3, q4, q5, q6, q7, q8, q9, q10⟩ := hRA
      exact ⟨aT, aS, eE, eO, dE, dO, tv, sv, q1, q2, q3, .inl ⟨rfl, q4⟩, q5, q6, q7, q8, q9, q10⟩
    · have hrow' : ∀ y ∈ x :: row, y ≠ 127 → -5 ≤ y ∧ y ≤ 5 := fun y hy hn => (hrow y hy).resolve_left hn
      refine run_ok B F X T hg hk hd hu hl (.cons x t0 hiv) (nexts_ok h0) hrow' h3 hK.ok bst fun zs r h' tk gens' hR hkp hr hRA hb => ?_
      have hz := run_sizes hK hR
      have hzb : ∀ z ∈ zs, -5 ≤ z ∧ z ≤ 5 := fun z hz => by
        obtain ⟨k, e⟩ := List.mem_iff_getElem?.mp hz
        have hm := nexts_mem (hR.before k z e).2 (fun y e => by cases e)
        rcases hm.1 with hm1 | hm1
        · exact hrow' z hm1 hm.2.2
        · cases hm1
      have hzl : zs.length ≤ 4 := by
        rw [hz]; unfold sizesP
        exact Nat.le_trans (List.length_take_le ..) hK.len.2
      refine hQ zs r h' tk gens' hz hzb hzl (fr_keep F hkp) (fun b o e _ => hkp b o e) hr ?_ hb
      obtain ⟨aT, aS, eE, eO, dE, dO, tv, sv, q1, q2, q3, q4, q5, q6, q7, q8, q9, q10⟩ := hRA
      exact ⟨aT, aS, eE, eO, dE, dO, tv, sv, q1, q2, q3, .inr ⟨by simpa using h0, q4⟩, q5, q6, q7, q8, q9, q10⟩
end SRunS63
section SKeys63
theorem rst_Keys63 : True := by w_top off; trivial
/-- the tuples of a list of keys, in the ledger -/
def TupL (kv : Array Value) (ks : List (Int × Int)) (tups : List (Addr × Obj)) : Prop :=
  kv.size = ks.length ∧ ∀ (i : Nat) (v : Value), kv[i]? = some v → ∃ T c d t1 t2 o n, ks[i]? = some (c, d) ∧ v = .ref T ∧ (T, o) ∈ tups ∧ o.cls = .type "tuple" ∧ o.data = .seq #[.int c t1, .int d t2] n
structure KInv (c : Int) (left : List Int) (ks : List (Int × Int)) : Prop where
  len : (ks.length : Int) + left.length = c
  all : ∀ j : Nat, (j : Int) < c → (j : Int) ∈ left ∨ ∃ k ∈ ks, k.1 = (j : Int)
  lo : ∀ x ∈ left, 0 ≤ x ∧ x < c
  ok : ∀ k ∈ ks, 0 ≤ k.1 ∧ k.1 < c ∧ k.2 ≠ 0
theorem keysAt_of {g h : Heap} {L kl : Addr} {news tups : List (Addr × Obj)} {kv : Array Value} {kn : Nat} {ks : List (Int × Int)} (N : News g L h news) (hm : (kl, W.listOf kv kn) ∈ news) (hs : ∀ q ∈ tups, q ∈ news) (hT : TupL kv ks tups) : KeysAt h kl ks := by
  refine ⟨kv, news_list N hm, hT.1, fun i v hi => ?_⟩
  obtain ⟨T, c', d, t1, t2, o, n, e1, e2, e3, e4, e5⟩ := hT.2 i v hi
  exact ⟨T, c', d, t1, t2, e1, e2, o, (N _ (hs _ e3)).1, e4, n, e5⟩
theorem KInv.step {c y d : Int} {left p q : List Int} {ks : List (Int × Int)} (h : KInv c left ks) (e : left = p ++ y :: q) (hd : d ≠ 0) : KInv c (p ++ q) (ks ++ [(y, d)]) := by
  subst e
  have hy := h.lo y (by simp)
  constructor
  · have := h.len
    simp only [List.length_append, List.length_cons, List.length_nil] at this ⊢; omega
  · intro j hj
    rcases h.all j hj with hm | ⟨k, hk, e⟩
    · rcases List.mem_append.mp hm with hm | hm
      · exact .inl (List.mem_append_left _ hm)
      · rcases List.mem_cons.mp hm with e | hm
        · exact .inr ⟨(y, d), by simp, e.symm⟩
        · exact .inl (List.mem_append_right _ hm)
    · exact .inr ⟨k, List.mem_append_left _ hk, e⟩
  · intro x hx
    refine h.lo x ?_
    rcases List.mem_append.mp hx with hx | hx
    · exact List.mem_append_left _ hx
    · exact List.mem_append_right _ (.tail _ hx)
  · intro k hk
    rcases List.mem_append.mp hk with hk | hk
    · exact h.ok k hk
    · rw [List.mem_singleton.mp hk]; exact ⟨hy.1, hy.2, hd⟩
theorem KInv.good {c : Int} {ks : List (Int × Int)} (h : KInv c [] ks) (hc : 1 ≤ c ∧ c ≤ 4) : KeysGood ks ∧ (ks.length : Int) = c := by
  have hl := h.len
  simp only [List.length_nil] at hl
  have e : (ks.length : Int) = c := (Int.add_zero _).symm.trans hl
  refine ⟨⟨fun k hk => ⟨(h.ok k hk).1, Int.lt_of_lt_of_le (h.ok k hk).2.1 hc.2⟩, fun k hk => by rw [e]; exact (h.ok k hk).2.1, fun j hj => ?_, fun k hk => (h.ok k hk).2.2, Int.ofNat_le.mp (by rw [e]; exact hc.1), Int.ofNat_le.mp (by rw [e]; exact hc.2)⟩, e⟩
  rcases h.all j (by rw [← e]; exact Int.ofNat_lt.mpr hj) with hm | h
  · cases hm
  · exact h
theorem kinv_start {c : Int} (hc : 1 ≤ c ∧ c ≤ 4) : KInv c (rangeKs 0 (c - 0).toNat) [] := by
  have h3 := int4 (k := c - 1) (by omega) (by omega)
  have d : ∀ n : Nat, n ≤ 4 → ∀ j : Nat, (j : Int) < (n : Int) → (j : Int) ∈ rangeKs 0 n := fun n hn j hj => (show ∀ n : Fin 5, ∀ j : Fin 4, (j.1 : Int) < (n.1 : Int) → (j.1 : Int) ∈ rangeKs 0 n.1 by decide) ⟨n, Nat.lt_succ_of_le hn⟩ ⟨j, Nat.lt_of_lt_of_le (Int.ofNat_lt.mp hj) hn⟩ hj
  rcases h3 with e | e | e | e
  · cases (show c = 1 by omega); exact ⟨by decide, fun j hj => .inl (d 1 (by decide) j hj), by decide, by decide⟩
  · cases (show c = 2 by omega); exact ⟨by decide, fun j hj => .inl (d 2 (by decide) j hj), by decide, by decide⟩
  · cases (show c = 3 by omega); exact ⟨by decide, fun j hj => .inl (d 3 (by decide) j hj), by decide, by decide⟩
  · cases (show c = 4 by omega); exact ⟨by decide, fun j hj => .inl (d 4 (by decide) j hj), by decide, by decide⟩
set_option maxHeartbeats 4000000 in
theorem keys_spec {prog : Program} {w : World} {dp un : Nat} {gd : Option (List Code)} {cn : Str} {cs : Scope} {a : Addr} {ccd : Value} {cl : List (Str × Addr)} {outer : List Env} {A₀ : Around} {base h₀ : Heap} {L : Addr} {m mg mb : Str → Option Value} {sh9 : Heap} {sg9 : Array GenState} {sd9 : Drawn} {st9 : Nat} {so9 : OsState} {Q E : Value → Shared → Prop}
    {p : Program} {loose : List Str} {mean : ExcName → Option Value}
    (B : Below A₀ base outer h₀) (F : Fr h₀ L sh9 m) (X : (hd.heap_39 w.params).In h₀) (T : Top p loose mean mg mb h₀) (hk : cs.kind = .function) (hd : dp + 10 < recursionLimit) (hu : un + 160 < cLine)
    {c num : Int} {tc tn : Tok} (hc : 1 ≤ c ∧ c ≤ 4)
    (hQ : ∀ kl kv kn tups ks h' tk, (∀ b o, sh9.get? b = some o → h'.get? b = some o) → sh9.get? kl = none → h'.get? kl = some (W.listOf kv kn) → TupL kv ks tups → (∀ q ∈ tups, h'.get? q.1 = some q.2 ∧ sh9.get? q.1 = none) → KeysGood ks → (ks.length : Int) = c → Q (.ref kl) (Shared.mk h' sg9 sd9 tk so9)) :
    wpAny (model prog w) (ktrTop dp un gd cn cs L a ccd cl outer) (call (.ref 84) [.int c tc, .int num tn]) Q E (Shared.mk sh9 sg9 sd9 st9 so9) := by
  refine wpAny_call ?_
  k_dflt (first   | (refine' call_pure ?k1 ?k2 ?k3 ?k5 ?kA ?kH ?kF ?kK ?k6 ?k7 ?k8 ?k9 ?kB ?_ ?c2 ?c3 ?c4 ?c5; (case kA => exact rfl); (case kH => exact rfl); (case kF => exact rfl); (case kK => assumption); (case k1 => k_asm); (case k2 => k_asm); (case k3 => k_asm); (case k5 => k_asm); (case k6 => k_is); (case k7 => k_is); (case k8 => (((try simp only [depth_under_make, depth_under_kw, depth_in1, depth_deeper, depth_caller]); (try dsimp only [ktrTop]); omega))); (case k9 => exact BindsTo.of_eq rfl); (case c5 => decide); (case kB => exact locs rfl); (case c2 => exact rfl); (case c3 => exact rfl); (case c4 => exact rfl); k_whole; intro x9 L' h' tk9 Hd9 Hu9 Ho9 F' N' B' X' T' Q9 E9 gQ9 gE9 pE9 rE9; (try clear Ho9); (try replace Hd9 := Hd9 _ hd); (try replace Hu9 := Hu9 _ hu); (try dsimp only); (try k_fold))   | (refine' call_pureC ?k1 ?k2 ?k3 ?k5 ?kA ?kH ?kF ?kK ?k6 ?k7 ?k8 ?k9 ?kB ?kN ?_ ?c2 ?c3 ?c4; (case kA => exact rfl); (case kH => exact rfl); (case kF => exact rfl); (case kK => assumption); (case k1 => k_asm); (case k2 => k_asm); (case k3 => k_asm); (case k5 => k_asm); (case k6 => k_is); (case k7 => k_is); (case k8 => (((try simp only [depth_under_make, depth_under_kw, depth_in1, depth_deeper, depth_caller]); (try dsimp only [ktrTop]); omega))); (case k9 => exact BindsTo.of_eq rfl); (case kB => exact rfl); (case kN => decide +kernel); (case c2 => exact rfl); (case c3 => exact rfl); (case c4 => exact rfl); k_whole; intro x9 L9 h17 tk17 cells' Hd9 Hu9 Ho9 F' N' C' B9 X9 T9 Q9 E9 gQ9 gE9 pE9; (try clear Ho9); (try replace Hd9 := Hd9 _ hd); (try replace Hu9 := Hu9 _ hu); k_cells C'; (try simp only [List.cons_append, List.nil_append] at N'); (try dsimp only); (try k_fold)))
  repeat' ((fail_if_success (with_reducible show wpAny _ _ (exec (Stmt.While _ _ _ _) _) _ _ _)); (first | (k_unfold; (try dsimp only)) | walk1 | (dsimp only; walk1) | (leave1; walk_say "STEP leave1"; try dsimp only) | ((try dsimp only); (with_reducible refine Goes.at (by assumption) ?_); (try dsimp only))))
  rename IntsAre _ _ => hI0
  rename_i aL vs0 c0 h3 tk3 l1a h2 tk2 aK h1 l1 h0 F0 N0
  refine While_inv (fun n m₁ news₁ => ∃ lv ln kv kn left ks tups number tnum, news₁ = (aK, W.listOf kv kn) :: (aL, W.listOf (List.toArray lv) ln) :: tups ∧ n = left.length ∧ IntsAre lv left ∧ TupL kv ks tups ∧ (∀ q ∈ tups, q.1 ≠ aL ∧ q.1 ≠ aK) ∧ KInv c left ks ∧
    Pins m₁ [(Str.ofString "left", .ref aL), (Str.ofString "keys", .ref aK), (Str.ofString "number", .int number tnum)]) F0 N0 (n₀ := (rangeKs 0 (c - 0).toNat).length) ?_ ?_
  · exact ⟨vs0, _, #[], _, _, [], [], num, tn, rfl, rfl, hI0, ⟨rfl, fun i v h => by simp at h⟩, fun q hq => (nomatch hq), kinv_start hc, rfl, rfl, rfl, trivial⟩
  · rintro n m₁ news₁ h₁ tk₁ F₁ N₁ ⟨lv, ln, kv, kn, left, ks, tups, number, tnum, rfl, rfl, hlv, hTup, hoff, hKI, hpin⟩
    replace F₁ := pin_fr F₁ hpin
    clear F0 N0 hI0
    (try dsimp only)
    ((try dsimp only); (try ((with_reducible refine wp_tok ?_); intro tk8)); repeat' ((fail_if_success (with_reducible show wpAny _ _ (exec (Stmt.For _ _ _ _ _) _) _ _ _)); (fail_if_success (with_reducible show wpAny _ _ (call (Value.ref _) _ _) _ _ _)); (first | (k_unfold; (try dsimp only)) | (k_end; wrow_close) | walk1 | (dsimp only; walk1) | (leave1; walk_say "STEP leave1"; try dsimp only) | ((try dsimp only); (with_reducible refine Goes.at (by assumption) ?_); (try dsimp only)))))
    all_goals rename Fr _ _ _ _ => F2
    all_goals rename News _ _ _ _ => N2
    all_goals rename (decide (left = []) = _) => hle
    · have hle : left = [] := of_decide_eq_true hle
      subst hle
      (try dsimp only)
      exact hQ aK kv kn tups ks _ _ F2.keep (N2 _ (.tail _ (.head _))).2.2 (N2 _ (.tail _ (.head _))).1 hTup (fun q hq => ⟨(N2 _ (.tail _ (.tail _ (.tail _ hq)))).1, (N2 _ (.tail _ (.tail _ (.tail _ hq)))).2.2⟩) (hKI.good hc).1 (hKI.good hc).2
    · have hle : ¬ left = [] := by simpa using hle
      have hlen := hKI.len
      have hlvl := hlv.length
      have hpos : 0 < left.length := List.length_pos_iff.mpr hle
      have hl4 : left.length ≤ 4 := by omega
      have hk4 : ks.length ≤ 4 := by omega
      refine len_list (items := lv.toArray) (news_list N2 (.tail _ (.tail _ (.head _)))) (by rw [List.size_toArray, hlvl]; exact c4 hl4 (by decide)) ?_
      rw [List.size_toArray, hlvl]
      generalize hnL : (left.length : Int) = nL at hlen hpos ⊢
      have hnL1 : 1 ≤ nL ∧ nL ≤ 4 := ⟨by rw [← hnL]; exact Int.ofNat_le.mpr hpos, by rw [← hnL]; exact c3 hl4 (by decide)⟩
      have b1 := Int.fmod_nonneg_of_pos number (Int.lt_of_lt_of_le (by decide) hnL1.1)
      have b2 := Int.fmod_lt_of_pos number (Int.lt_of_lt_of_le (by decide) hnL1.1)
      ((try dsimp only); (try ((with_reducible refine wp_tok ?_); intro tk8)); repeat' ((fail_if_success (with_reducible show wpAny _ _ (exec (Stmt.For _ _ _ _ _) _) _ _ _)); (fail_if_success (with_reducible show wpAny _ _ (call (Value.ref _) _ _) _ _ _)); (first | (k_unfold; (try dsimp only)) | (k_end; wrow_close) | walk1 | (dsimp only; walk1) | (leave1; walk_say "STEP leave1"; try dsimp only) | ((try dsimp only); (with_reducible refine Goes.at (by assumption) ?_); (try dsimp only)))))
      skip
      obtain ⟨p, ty, y, q, p', q', e1, e2, e3⟩ := cut_at (k := (number.fmod nL).toNat) hlv (by rw [hlvl]; exact (Int.toNat_lt b1).mpr (by rw [hnL]; exact b2))
      have hsz : lv.length ≤ sizeLine := by rw [sizeLine_eq, hlvl]; exact n1 hl4 rfl
      refine kl_popAt F2 N2 (fits_of b1 (Int.lt_trans b2 (Int.lt_of_le_of_lt hnL1.2 (by decide)))) (seqIndex_of b1 (by rw [List.size_toArray, hlvl, hnL]; exact b2)) e1 (.tail (Nat.ne_of_gt (by omega)) (.tail (Nat.ne_of_gt l1) (.head fun r hr => (hoff r hr).1))) hsz fun h3 F3 N3 => ?_
      clear F2 N2
      ((try dsimp only); (try ((with_reducible refine wp_tok ?_); intro tk8)); repeat' ((fail_if_success (with_reducible show wpAny _ _ (exec (Stmt.For _ _ _ _ _) _) _ _ _)); (fail_if_success (with_reducible show wpAny _ _ (call (Value.ref _) _ _) _ _ _)); (first | (k_unfold; (try dsimp only)) | (k_end; wrow_close) | walk1 | (dsimp only; walk1) | (leave1; walk_say "STEP leave1"; try dsimp only) | ((try dsimp only); (with_reducible refine Goes.at (by assumption) ?_); (try dsimp only)))))
      rename Fr _ _ _ _ => F4
      rename News _ _ _ _ => N4
      rename (_ < _ ∧ _ < _ ∧ aK < _ ∧ _) => l4
      rename_i D9 h9
      have hks : kv.size ≤ sizeLine := by rw [hTup.1, sizeLine_eq]; exact n1 hk4 rfl
      refine append_K F4 N4 (.tail (Nat.ne_of_gt (by omega)) (.tail (Nat.ne_of_gt (by omega)) (.tail (Nat.ne_of_gt (by omega)) (.head fun r hr => by
        rcases List.mem_cons.mp hr with rfl | hr
        · exact Nat.ne_of_lt l1
        · exact (hoff r hr).2)))) (fun h5 F5 N5 => ?_) hks
      clear F4 N4
      ((try dsimp only); (try ((with_reducible refine wp_tok ?_); intro tk8)); repeat' ((fail_if_success (with_reducible show wpAny _ _ (exec (Stmt.For _ _ _ _ _) _) _ _ _)); (fail_if_success (with_reducible show wpAny _ _ (call (Value.ref _) _ _) _ _ _)); (first | (k_unfold; (try dsimp only)) | (k_end; wrow_close) | walk1 | (dsimp only; walk1) | (leave1; walk_say "STEP leave1"; try dsimp only) | ((try dsimp only); (with_reducible refine Goes.at (by assumption) ?_); (try dsimp only)))))
      rename Fr _ _ _ _ => F6
      rename News _ _ _ _ => N6
      skip
      have hd : [1, -1, 3, -2].getD ((number.fdiv 4).fmod 4).toNat 0 ≠ (0 : Int) := by
        have c1 := Int.fmod_lt_of_pos (number.fdiv 4) (show (0 : Int) < 4 by decide)
        have c2 := Int.fmod_nonneg_of_pos (number.fdiv 4) (show (0 : Int) < 4 by decide)
        generalize (number.fdiv 4).fmod 4 = z at c1 c2 ⊢
        have := int4 c2 c1
        rcases this with rfl | rfl | rfl | rfl <;> decide
      refine hide fun G9 hG9 => ?_
      obtain ⟨oD, tD, nD, hoD, hcD, hdD⟩ : ∃ (o : Obj) (t : Tok) (n : Nat), (Heap.get? _ D9 = some o ∧ D9 ≠ _ ∧ sh9.get? D9 = none) ∧ o.cls = .type "tuple" ∧ o.data = .seq #[.int y ty, .int ([1, -1, 3, -2].getD ((number.fdiv 4).fmod 4).toNat 0) t] n := ⟨_, _, _, N6 _ (.head _), rfl, rfl⟩
      refine hG9 ?_
      clear hG9 G9
      refine WhileStep.intro F6 (news₂ := (aK, W.listOf (kv.push (.ref D9)) (kn + 1)) :: (aL, W.listOf (List.toArray (p ++ q)) (ln + 1)) :: ((D9, oD) :: tups)) (fun r hr => ?_) (n' := (p' ++ q').length) ?g1 ⟨p ++ q, ln + 1, _, kn + 1, p' ++ q', ks ++ [(y, [1, -1, 3, -2].getD ((number.fdiv 4).fmod 4).toNat 0)], _, number.fdiv 16, _, rfl, rfl, e3, ?_, ?_, hKI.step e2 hd, rfl, rfl, rfl, trivial⟩
      · simp only [List.mem_cons] at hr
        rcases hr with rfl | rfl | rfl | hr
        · exact N6 _ (.tail _ (.tail _ (.tail _ (.head _))))
        · exact N6 _ (.tail _ (.tail _ (.tail _ (.tail _ (.head _)))))
        · exact hoD
        · exact N6 _ (.tail _ (.tail _ (.tail _ (.tail _ (.tail _ hr)))))
      · rw [e2]; simp
      · refine ⟨by rw [Array.size_push, List.length_append, hTup.1]; rfl, fun i v hv => ?_⟩
        rw [Array.getElem?_push] at hv
        by_cases hi : i = kv.size
        · rw [if_pos hi] at hv
          cases hv
          exact ⟨_, y, _, _, _, _, _, by rw [hi, hTup.1, List.getElem?_append_right (Nat.le_refl _), Nat.sub_self]; rfl, rfl, .head _, hcD, hdD⟩
        · rw [if_neg hi] at hv
          refine hide fun G9 hG9 => ?_
          obtain ⟨T, c', d, t1, t2, o, n, g1, g2, g3, g4, g5⟩ := hTup.2 i v hv
          refine hG9 ?_
          clear hG9 G9
          exact ⟨T, c', d, t1, t2, o, n, by rw [List.getElem?_append_left (List.getElem?_eq_some_iff.mp g1).1]; exact g1, g2, .tail _ g3, g4, g5⟩
      · intro r hr
        rcases List.mem_cons.mp hr with rfl | hr
        · exact ⟨Nat.ne_of_gt l4.2.2.2.1, Nat.ne_of_gt l4.2.2.1⟩
        · exact hoff r hr
end SKeys63
section SSide63
theorem rst_Side63 : True := by w_top off; trivial
/-- the pairs of a list of keys, as values -/
inductive PairsAre : List ((Tok → Value) × Value) → List (Int × Int) → Prop
  | nil : PairsAre [] []
  | cons {c d : Int} {t : Tok} {xs : List ((Tok → Value) × Value)} {ks : List (Int × Int)} : PairsAre xs ks → PairsAre ((fun u => .int c u, .int d t) :: xs) ((c, d) :: ks)
theorem pairs_of {h : Heap} : ∀ (ks : List (Int × Int)) (l : List Value), l.length = ks.length → (∀ (i : Nat) (v : Value), l[i]? = some v → ∃ T c d t1 t2, ks[i]? = some (c, d) ∧ v = .ref T ∧ h.IsTuple T #[.int c t1, .int d t2]) →
    ∃ xs, PairsAre xs ks ∧ xs.length = l.length ∧ ∀ (i : Nat) (v : Value), l[i]? = some v → ∃ (T : Addr) (p : (Tok → Value) × Value) (t : Tok), v = .ref T ∧ xs[i]? = some p ∧ h.IsTuple T #[p.1 t, p.2]
  | [], [], _, _ => ⟨[], .nil, rfl, fun i v e => by simp at e⟩
  | [], _ :: _, h, _ => by simp at h
  | _ :: _, [], h, _ => by simp at h
  | (c, d) :: ks, v :: l, hl, hit => by
    obtain ⟨xs, h1, h2, h3⟩ := pairs_of ks l (by simpa using hl) fun i u e => by simpa using hit (i + 1) u (by simpa using e)
    obtain ⟨T, c', d', t1, t2, e1, rfl, e3⟩ := hit 0 v rfl
    simp at e1
    obtain ⟨rfl, rfl⟩ := e1
    refine ⟨(fun u => .int c u, .int d t2) :: xs, .cons h1, by rw [List.length_cons, List.length_cons, h2], fun i u e => ?_⟩
    cases i with
    | zero => simp at e; subst e; exact ⟨T, _, t1, rfl, rfl, e3⟩
    | succ i => simpa using h3 i u (by simpa using e)
/-- the ways of the keys whose columns differ -/
def wayG : List (Int × Int) → (Nat → Int) → List Int
  | [], _ => []
  | (c, d) :: ks, g => if g c.toNat ≠ 0 then (if g c.toNat > 0 then d else -d) :: wayG ks g else wayG ks g
theorem sideG_way : ∀ (ks : List (Int × Int)) (g : Nat → Int), sideG ks g = match wayG ks g with | [] => 0 | y :: _ => y
  | [], _ => rfl
  | (c, d) :: ks, g => by
    unfold sideG wayG
    by_cases h : g c.toNat ≠ 0
    · rw [if_pos h, if_pos h]
    · rw [if_neg h, if_neg h]; exact sideG_way ks g
theorem wayG_len : ∀ (ks : List (Int × Int)) (g : Nat → Int), (wayG ks g).length ≤ ks.length
  | [], _ => Nat.le_refl _
  | (c, d) :: ks, g => by
    have := wayG_len ks g
    unfold wayG
    split
    · rw [List.length_cons, List.length_cons]; omega
    · rw [List.length_cons]; omega
theorem rest_ind {prog : Program} {w : World} {A : Around} {h₀ : Heap} {L : Addr} {m : Str → Option Value} {env : Env} {c elt : Expr} {a b : Str} {scope : Scope} {cl : List (Str × Addr)} {s : Shared} {S : List (Addr × Obj) → Prop} {Fin : List Value → List (Addr × Obj) → Prop} {news : List (Addr × Obj)} {g : Nat → Int} {W : List Int}
    (hnil : ∀ ys, IntsAre ys W → Fin ys news)
    (hturn : ∀ (c0 d : Int) (t : Tok) (r : List ((Tok → Value) × Value)) (ys : List Value), 0 ≤ c0 ∧ c0 < 4 →
      (∀ y t', g c0.toNat ≠ 0 → y = (if g c0.toNat > 0 then d else -d) → KctRest prog w A h₀ L m env c elt a b scope cl s S Fin r (ys ++ [.int y t']) news) → (g c0.toNat = 0 → KctRest prog w A h₀ L m env c elt a b scope cl s S Fin r ys news) →
      KctRest prog w A h₀ L m env c elt a b scope cl s S Fin ((fun u => .int c0 u, .int d t) :: r) ys news) :
    ∀ {xs : List ((Tok → Value) × Value)} {ks : List (Int × Int)}, PairsAre xs ks → KeysOk ks → ∀ (ys : List Value) (acc : List Int), IntsAre ys acc → W = acc ++ wayG ks g → KctRest prog w A h₀ L m env c elt a b scope cl s S Fin xs ys news := by
  intro xs ks hp
  induction hp with
  | nil =>
    intro _ ys acc hy hW
    rw [show wayG [] g = [] from rfl, List.append_nil] at hW
    subst hW
    exact hnil ys hy
  | @cons c0 d t xs ks _ ih =>
    intro hk ys acc hy hW
    have hk' : KeysOk ks := fun k hm => hk k (.tail _ hm)
    refine hturn c0 d t xs ys (hk (c0, d) (.head _)) (fun y t' h1 h2 => ?_) fun h1 => ?_
    · refine ih hk' _ (acc ++ [y]) (intsAre_app hy (.cons _ _ .nil)) ?_
      have e : wayG ((c0, d) :: ks) g = (if g c0.toNat > 0 then d else -d) :: wayG ks g := if_pos h1
      rw [hW, e, h2]; exact List.append_cons _ _ _
    · refine ih hk' _ acc hy ?_
      rw [hW]
      have e : wayG ((c0, d) :: ks) g = wayG ks g := if_neg (fun h => h h1)
      rw [e]
set_option maxHeartbeats 4000000 in
theorem side_spec {prog : Program} {w : World} {dp un : Nat} {gd : Option (List Code)} {cn : Str} {cs : Scope} {a : Addr} {ccd : Value} {cl : List (Str × Addr)} {outer : List Env} {A₀ : Around} {base h₀ : Heap} {L : Addr} {m mg mb : Str → Option Value} {sh9 : Heap} {sg9 : Array GenState} {sd9 : Drawn} {st9 : Nat} {so9 : OsState} {Q E : Value → Shared → Prop}
    {p : Program} {loose : List Str} {mean : ExcName → Option Value}
    (B : Below A₀ base outer h₀) (F : Fr h₀ L sh9 m) (X : (hd.heap_39 w.params).In h₀) (T : Top p loose mean mg mb h₀) (hk : cs.kind = .function) (hd : dp + 10 < recursionLimit) (hu : un + 160 < cLine)
    {kl gl : Addr} {ks : List (Int × Int)} {gv : List Value} {gs : List Int} (h1 : KeysAt sh9 kl ks) (h2 : KeysOk ks) (h3 : ks.length ≤ 4) (h4 : sh9.IsList gl gv.toArray) (h5 : IntsAre gv gs) (h6 : gs.length = 4)
    (hQ : ∀ h' tk t, (∀ b o, sh9.get? b = some o → h'.get? b = some o) → Q (.int (sideG ks fun j => gs.getD j 0) t) (Shared.mk h' sg9 sd9 tk so9)) :
    wpAny (model prog w) (ktrTop dp un gd cn cs L a ccd cl outer) (call (.ref 111) [.ref kl, .ref gl]) Q E (Shared.mk sh9 sg9 sd9 st9 so9) := by
  refine wpAny_call ?_
  k_dflt (first   | (refine' call_pure ?k1 ?k2 ?k3 ?k5 ?kA ?kH ?kF ?kK ?k6 ?k7 ?k8 ?k9 ?kB ?_ ?c2 ?c3 ?c4 ?c5; (case kA => exact rfl); (case kH => exact rfl); (case kF => exact rfl); (case kK => assumption); (case k1 => k_asm); (case k2 => k_asm); (case k3 => k_asm); (case k5 => k_asm); (case k6 => k_is); (case k7 => k_is); (case k8 => (((try simp only [depth_under_make, depth_under_kw, depth_in1, depth_deeper, depth_caller]); (try dsimp only [ktrTop]); omega))); (case k9 => exact BindsTo.of_eq rfl); (case c5 => decide); (case kB => exact locs rfl); (case c2 => exact rfl); (case c3 => exact rfl); (case c4 => exact rfl); k_whole; intro x9 L' h' tk9 Hd9 Hu9 Ho9 F' N' B' X' T' Q9 E9 gQ9 gE9 pE9 rE9; (try clear Ho9); (try replace Hd9 := Hd9 _ hd); (try replace Hu9 := Hu9 _ hu); (try dsimp only); (try k_fold))   | (refine' call_pureC ?k1 ?k2 ?k3 ?k5 ?kA ?kH ?kF ?kK ?k6 ?k7 ?k8 ?k9 ?kB ?kN ?_ ?c2 ?c3 ?c4; (case kA => exact rfl); (case kH => exact rfl); (case kF => exact rfl); (case kK => assumption); (case k1 => k_asm); (case k2 => k_asm); (case k3 => k_asm); (case k5 => k_asm); (case k6 => k_is); (case k7 => k_is); (case k8 => (((try simp only [depth_under_make, depth_under_kw, depth_in1, depth_deeper, depth_caller]); (try dsimp only [ktrTop]); omega))); (case k9 => exact BindsTo.of_eq rfl); (case kB => exact rfl); (case kN => decide +kernel); (case c2 => exact rfl); (case c3 => exact rfl); (case c4 => exact rfl); k_whole; intro x9 L9 h17 tk17 cells' Hd9 Hu9 Ho9 F' N' C' B9 X9 T9 Q9 E9 gQ9 gE9 pE9; (try clear Ho9); (try replace Hd9 := Hd9 _ hd); (try replace Hu9 := Hu9 _ hu); k_cells C'; (try simp only [List.cons_append, List.nil_append] at N'); (try dsimp only); (try k_fold)))
  repeat' ((fail_if_success (with_reducible show wpAny _ _ (exec (Stmt.Assign _ (Expr.ListComp _ _ _ _) _) _) _ _ _)); (first | (k_unfold; (try dsimp only)) | walk1 | (dsimp only; walk1) | (leave1; walk_say "STEP leave1"; try dsimp only) | ((try dsimp only); (with_reducible refine Goes.at (by assumption) ?_); (try dsimp only))))
  rename Fr _ _ _ _ => Fc
  rename News _ _ _ _ => Nc
  refine assign_comp_pairs Fc rfl (by rfl) (by rfl) (by decide) (by rfl) (by decide) (by rfl) (by rfl) (by decide +kernel) (by rfl) (by rfl) ?_ (by intro _; rfl)
  ((try dsimp only); (try ((with_reducible refine wp_tok ?_); intro tk8)); repeat' ((fail_if_success (with_reducible show wpAny _ _ (exec (Stmt.For _ _ _ _ _) _) _ _ _)); (fail_if_success (with_reducible show wpAny _ _ (call (Value.ref _) _ _) _ _ _)); (first | (k_unfold; (try dsimp only)) | (k_end; wrow_close) | walk1 | (dsimp only; walk1) | (leave1; walk_say "STEP leave1"; try dsimp only) | ((try dsimp only); (with_reducible refine Goes.at (by assumption) ?_); (try dsimp only)))))
  obtain ⟨vs, hl, hsz, hit⟩ := h1
  obtain ⟨xs, hxs, hxl, hxt⟩ := pairs_of ks vs.toList (by rw [Array.length_toList]; exact hsz) fun i v e => hit i v (by simpa using e)
  refine ⟨kl, vs, xs, _, rfl, rfl, Fc, Nc, hl, by rw [hsz, sizeLine_eq]; omega, by rw [hxl, Array.length_toList], fun i v e => hxt i v (by simpa using e), fun g => ?_⟩
  obtain ⟨W, hW⟩ : ∃ W, W = wayG ks fun j => gs.getD j 0 := ⟨_, rfl⟩
  have hWl : W.length ≤ 4 := by rw [hW]; exact Nat.le_trans (wayG_len ..) h3
  refine rest_ind (g := fun j => gs.getD j 0) (W := W) (fun ys hy => ?_) (fun c0 d t r ys hc hyes hno => ?_) hxs h2 [] [] .nil (by rw [hW]; rfl)
  · intro D h8 tk8 F8 N8 off8
    (try dsimp only)
    clear Fc Nc
    ((try dsimp only); (try ((with_reducible refine wp_tok ?_); intro tk8)); repeat' ((fail_if_success (with_reducible show wpAny _ _ (exec (Stmt.For _ _ _ _ _) _) _ _ _)); (fail_if_success (with_reducible show wpAny _ _ (call (Value.ref _) _ _) _ _ _)); (first | (k_unfold; (try dsimp only)) | (k_end; wrow_close) | walk1 | (dsimp only; walk1) | (leave1; walk_say "STEP leave1"; try dsimp only) | ((try dsimp only); (with_reducible refine Goes.at (by assumption) ?_); (try dsimp only)))))
    · rename (decide (W = []) = true) => hWe
      have e : sideG ks (fun j => gs.getD j 0) = 0 := by rw [sideG_way, ← hW, of_decide_eq_true hWe]
      rw [e] at hQ
      exact hQ _ _ _ (Fr.keep (by assumption))
    · rename (decide (W = []) = false) => hWe
      rename News _ _ _ _ => N9
      have hs := sideG_way ks fun j => gs.getD j 0
      rw [← hW] at hs
      clear hW
      cases hy with
      | nil => simp at hWe
      | cons y t r =>
        simp only at hs
        rw [hs] at hQ
        refine item_list ⟨_, (N9 _ (.tail _ (.head _))).1, rfl, _, rfl⟩ (by decide) (by decide) rfl ?_
        ((try dsimp only); (try ((with_reducible refine wp_tok ?_); intro tk8)); repeat' ((fail_if_success (with_reducible show wpAny _ _ (exec (Stmt.For _ _ _ _ _) _) _ _ _)); (fail_if_success (with_reducible show wpAny _ _ (call (Value.ref _) _ _) _ _ _)); (first | (k_unfold; (try dsimp only)) | (k_end; wrow_close) | walk1 | (dsimp only; walk1) | (leave1; walk_say "STEP leave1"; try dsimp only) | ((try dsimp only); (with_reducible refine Goes.at (by assumption) ?_); (try dsimp only)))))
        exact hQ _ _ _ (Fr.keep (by assumption))
  · refine KctRest.cons ?_
    intro t' I' oI' C' oC' D' m' h' tk' E' hC' ha' hb' F' N' off' ne'
    dsimp only at ha' hb'
    try simp only [LCg.Off3, and_true] at off'
    clear Fc Nc
    ((try dsimp only); (try ((with_reducible refine wp_tok ?_); intro tk8)); repeat' ((fail_if_success (with_reducible show wpAny _ _ (exec (Stmt.For _ _ _ _ _) _) _ _ _)); (fail_if_success (with_reducible show wpAny _ _ (call (Value.ref _) _ _) _ _ _)); (first | (k_unfold; (try dsimp only)) | (k_end; wrow_close) | walk1 | (dsimp only; walk1) | (leave1; walk_say "STEP leave1"; try dsimp only) | ((try dsimp only); (with_reducible refine Goes.at (by assumption) ?_); (try dsimp only)))))
    · exact hyes _ _ (by assumption) (by rw [if_pos (by assumption)])
    · exact hyes _ _ (by assumption) (by rw [if_neg (by assumption)])
    · exact hno (by assumption)
end SSide63
section SSizes63
theorem rst_Sizes63 : True := by w_top off; trivial
open PyProof.Rows.LCt PyProof.Rows.LCg
/-- the places of the ends of a row -/
def endsFrom : List Int → Nat → List Int
  | [], _ => []
  | x :: r, i => if x = 0 ∨ x = 127 then (i : Int) :: endsFrom r (i + 1) else endsFrom r (i + 1)
theorem endsFrom_nil : ∀ (row : List Int) (i : Nat), endsFrom row i = [] → ∀ x ∈ row, x ≠ 0 ∧ x ≠ 127
  | [], _, _, _, h => by cases h
  | x :: r, i, h, y, hy => by
    unfold endsFrom at h
    by_cases hx : x = 0 ∨ x = 127
    · rw [if_pos hx] at h; cases h
    · rw [if_neg hx] at h
      rcases List.mem_cons.mp hy with rfl | hy
      · exact ⟨fun e => hx (.inl e), fun e => hx (.inr e)⟩
      · exact endsFrom_nil r (i + 1) h y hy
theorem endsFrom_cons : ∀ (row : List Int) (i : Nat) {e : Int} {t : List Int}, endsFrom row i = e :: t → ∃ pre x post, row = pre ++ x :: post ∧ e = (i : Int) + pre.length ∧ (∀ y ∈ pre, y ≠ 0 ∧ y ≠ 127) ∧ (x = 0 ∨ x = 127)
  | [], _, _, _, h => by cases h
  | x :: r, i, e, t, h => by
    unfold endsFrom at h
    by_cases hx : x = 0 ∨ x = 127
    · rw [if_pos hx] at h; cases h
      exact ⟨[], x, r, rfl, by simp, fun y hy => (by cases hy), hx⟩
    · rw [if_neg hx] at h
      obtain ⟨pre, y, post, e1, e2, e3, e4⟩ := endsFrom_cons r (i + 1) h
      refine ⟨x :: pre, y, post, by rw [e1]; rfl, by rw [e2, List.length_cons]; omega, fun z hz => ?_, e4⟩
      rcases List.mem_cons.mp hz with rfl | hz
      · exact ⟨fun e => hx (.inl e), fun e => hx (.inr e)⟩
      · exact e3 z hz
theorem endsFrom_len : ∀ (row : List Int) (i : Nat), (endsFrom row i).length ≤ row.length
  | [], _ => Nat.le_refl _
  | x :: r, i => by
    have := endsFrom_len r (i + 1)
    unfold endsFrom
    split
    · rw [List.length_cons, List.length_cons]; omega
    · rw [List.length_cons]; omega
theorem sizesR_pre : ∀ (pre rest : List Int) (last : Option Int) (c : Nat), (∀ x ∈ pre, x ≠ 0 ∧ x ≠ 127) → sizesR (pre ++ rest) last c = pre ++ sizesR rest (pre.getLast?.or last) c
  | [], rest, last, c, _ => by simp
  | x :: pre, rest, last, c, h => by
    have hx := h x (.head _)
    have ih := sizesR_pre pre rest (some x) c fun y hy => h y (.tail _ hy)
    have e : sizesR (x :: pre ++ rest) last c = x :: sizesR (pre ++ rest) (some x) c := by
      show (if x = 127 then _ else if x = 0 then _ else _) = _
      rw [if_neg hx.2, if_neg hx.1]; rfl
    rw [e, ih]
    congr 2
    cases pre with
    | nil => rfl
    | cons y p =>
      rw [List.getLast?_cons_cons, List.getLast?_eq_some_getLast (by simp)]
      simp
theorem rep_last (pre : List Int) (c : Nat) : (List.replicate c (pre.drop (pre.length - 1))).flatten = match pre.getLast? with | none => [] | some y => List.replicate c y := by
  rcases List.eq_nil_or_concat pre with rfl | ⟨p, y, rfl⟩
  · simp
  · have e : List.drop ((p ++ [y]).length - 1) (p ++ [y]) = [y] := by simp
    rw [List.concat_eq_append, e, List.getLast?_append]
    simp
theorem sizes_zero {pre post : List Int} {c : Nat} (h : ∀ y ∈ pre, y ≠ 0 ∧ y ≠ 127) : sizesP (pre ++ 0 :: post) c = (pre ++ (List.replicate c (pre.drop (pre.length - 1))).flatten).take c := by
  unfold sizesP
  rw [sizesR_pre pre _ none c h, rep_last, Option.or_none]
  rfl
theorem sizes_max {pre post : List Int} {c : Nat} (h : ∀ y ∈ pre, y ≠ 0 ∧ y ≠ 127) : sizesP (pre ++ 127 :: post) c = pre.take c := by
  unfold sizesP
  rw [sizesR_pre pre _ none c h, Option.or_none, show sizesR (127 :: post) pre.getLast? c = [] from rfl, List.append_nil]
theorem rep_len (pre : List Int) (c : Nat) : (List.replicate c (pre.drop (pre.length - 1))).flatten.length ≤ c := by
  rw [rep_last]
  cases pre.getLast? <;> simp
theorem any_ends (z : Int) : ([0, 127].any fun x => x == z) = true ↔ (z = 0 ∨ z = 127) := by
  show ((0 : Int) == z || ((127 : Int) == z || false)) = true ↔ _
  rw [Bool.or_false, Bool.or_eq_true, beq_iff_eq, beq_iff_eq]
  exact ⟨fun h => h.imp Eq.symm Eq.symm, fun h => h.imp Eq.symm Eq.symm⟩
theorem restT_ind {prog : Program} {w : World} {A : Around} {h₀ : Heap} {L : Addr} {m : Str → Option Value} {env : Env} {ct elt : Expr} {x : Str} {scope : Scope} {cl : List (Str × Addr)} {s : Shared} {S : List (Addr × Obj) → Prop} {P : Nat → Value → Prop} {Fin : List Value → List (Addr × Obj) → Prop} {news : List (Addr × Obj)} {row W : List Int}
    (hnil : ∀ ys, IntsAre ys W → Fin ys news)
    (hturn : ∀ (k i : Nat) (ys : List Value) (z : Int), row[i]? = some z →
      (∀ y t', (z = 0 ∨ z = 127) → y = (i : Int) → CompRestT prog w A h₀ L m env ct elt x scope cl s S P Fin k (i + 1) (ys ++ [.int y t']) news) → (¬ (z = 0 ∨ z = 127) → CompRestT prog w A h₀ L m env ct elt x scope cl s S P Fin k (i + 1) ys news) →
      CompRestT prog w A h₀ L m env ct elt x scope cl s S P Fin (k + 1) i ys news) :
    ∀ (k i : Nat) (ys : List Value) (acc : List Int), i + k = row.length → IntsAre ys acc → W = acc ++ endsFrom (row.drop i) i → CompRestT prog w A h₀ L m env ct elt x scope cl s S P Fin k i ys news
  | 0, i, ys, acc, hi, hy, hW => by
    rw [List.drop_of_length_le (by omega), show endsFrom [] i = [] from rfl, List.append_nil] at hW
    subst hW
    exact CompRestT.zero (hnil ys hy)
  | k + 1, i, ys, acc, hi, hy, hW => by
    have hlt : i < row.length := by omega
    rw [List.drop_eq_getElem_cons hlt] at hW
    have ih := restT_ind hnil hturn k (i + 1)
    refine hturn k i ys row[i] (List.getElem?_eq_getElem hlt) (fun y t' h1 h2 => ?_) fun h1 => ?_
    · refine ih _ (acc ++ [y]) ((Nat.add_right_comm i 1 k).trans hi) (intsAre_app hy (.cons _ _ .nil)) ?_
      have e : endsFrom (row[i] :: row.drop (i + 1)) i = (i : Int) :: endsFrom (row.drop (i + 1)) (i + 1) := if_pos h1
      rw [hW, e, h2]; exact List.append_cons _ _ _
    · refine ih _ acc ((Nat.add_right_comm i 1 k).trans hi) hy ?_
      have e : endsFrom (row[i] :: row.drop (i + 1)) i = endsFrom (row.drop (i + 1)) (i + 1) := if_neg h1
      rw [hW, e]
set_option maxHeartbeats 4000000 in
theorem sizes_spec {prog : Program} {w : World} {dp un : Nat} {gd : Option (List Code)} {cn : Str} {cs : Scope} {a : Addr} {ccd : Value} {cl : List (Str × Addr)} {outer : List Env} {A₀ : Around} {base h₀ : Heap} {L : Addr} {m mg mb : Str → Option Value} {sh9 : Heap} {sg9 : Array GenState} {sd9 : Drawn} {st9 : Nat} {so9 : OsState} {Q E : Value → Shared → Prop}
    {p : Program} {loose : List Str} {mean : ExcName → Option Value}
    (B : Below A₀ base outer h₀) (F : Fr h₀ L sh9 m) (X : (hd.heap_39 w.params).In h₀) (T : Top p loose mean mg mb h₀) (hk : cs.kind = .function) (hd : dp + 10 < recursionLimit) (hu : un + 160 < cLine)
    {rl : Addr} {rv : List Value} {row : List Int} {c : Int} {tc : Tok} (h4 : sh9.IsList rl rv.toArray) (h5 : IntsAre rv row) (h6 : 1 ≤ row.length ∧ row.length ≤ 5) (hc : 1 ≤ c ∧ c ≤ 4)
    (hQ : ∀ r us h' tk, (∀ b o, sh9.get? b = some o → h'.get? b = some o) → sh9.get? r = none → h'.get? r = some (W.listOf (List.toArray us) 0) → IntsAre us (sizesP row c.toNat) → Q (.ref r) (Shared.mk h' sg9 sd9 tk so9)) :
    wpAny (model prog w) (ktrTop dp un gd cn cs L a ccd cl outer) (call (.ref 101) [.ref rl, .int c tc]) Q E (Shared.mk sh9 sg9 sd9 st9 so9) := by
  refine wpAny_call ?_
  k_dflt (first   | (refine' call_pure ?k1 ?k2 ?k3 ?k5 ?kA ?kH ?kF ?kK ?k6 ?k7 ?k8 ?k9 ?kB ?_ ?c2 ?c3 ?c4 ?c5; (case kA => exact rfl); (case kH => exact rfl); (case kF => exact rfl); (case kK => assumption); (case k1 => k_asm); (case k2 => k_asm); (case k3 => k_asm); (case k5 => k_asm); (case k6 => k_is); (case k7 => k_is); (case k8 => (((try simp only [depth_under_make, depth_under_kw, depth_in1, depth_deeper, depth_caller]); (try dsimp only [ktrTop]); omega))); (case k9 => exact BindsTo.of_eq rfl); (case c5 => decide); (case kB => exact locs rfl); (case c2 => exact rfl); (case c3 => exact rfl); (case c4 => exact rfl); k_whole; intro x9 L' h' tk9 Hd9 Hu9 Ho9 F' N' B' X' T' Q9 E9 gQ9 gE9 pE9 rE9; (try clear Ho9); (try replace Hd9 := Hd9 _ hd); (try replace Hu9 := Hu9 _ hu); (try dsimp only); (try k_fold))   | (refine' call_pureC ?k1 ?k2 ?k3 ?k5 ?kA ?kH ?kF ?kK ?k6 ?k7 ?k8 ?k9 ?kB ?kN ?_ ?c2 ?c3 ?c4; (case kA => exact rfl); (case kH => exact rfl); (case kF => exact rfl); (case kK => assumption); (case k1 => k_asm); (case k2 => k_asm); (case k3 => k_asm); (case k5 => k_asm); (case k6 => k_is); (case k7 => k_is); (case k8 => (((try simp only [depth_under_make, depth_under_kw, depth_in1, depth_deeper, depth_caller]); (try dsimp only [ktrTop]); omega))); (case k9 => exact BindsTo.of_eq rfl); (case kB => exact rfl); (case kN => decide +kernel); (case c2 => exact rfl); (case c3 => exact rfl); (case c4 => exact rfl); k_whole; intro x9 L9 h17 tk17 cells' Hd9 Hu9 Ho9 F' N' C' B9 X9 T9 Q9 E9 gQ9 gE9 pE9; (try clear Ho9); (try replace Hd9 := Hd9 _ hd); (try replace Hu9 := Hu9 _ hu); k_cells C'; (try simp only [List.cons_append, List.nil_append] at N'); (try dsimp only); (try k_fold)))
  repeat' ((fail_if_success (with_reducible show wpAny _ _ (exec (Stmt.Assign _ (Expr.ListComp _ _ _ _) _) _) _ _ _)); (first | (k_unfold; (try dsimp only)) | walk1 | (dsimp only; walk1) | (leave1; walk_say "STEP leave1"; try dsimp only) | ((try dsimp only); (with_reducible refine Goes.at (by assumption) ?_); (try dsimp only))))
  rename Fr _ _ _ _ => Fc
  rename News _ _ _ _ => Nc
  refine LCt.Assign_ListComp_T (F₀ := Fc) (by rfl) (by with_unfolding_all rfl) (by with_unfolding_all rfl) (by decide) (by rfl) (by decide) (by rfl) (by rfl) (by rfl) ?_
  repeat' ((fail_if_success (with_reducible show LCt.CompSrcT _ _ _ _ _ _ _ _ _ _ _ _ _ _ _)); (first | (k_unfold; (try dsimp only)) | walk1 | (dsimp only; walk1) | (leave1; walk_say "STEP leave1"; try dsimp only) | ((try dsimp only); (with_reducible refine Goes.at (by assumption) ?_); (try dsimp only))))
  rename IsRange _ _ _ _ _ _ _ _ => hR
  rename_i F9 N9 hkp9
  obtain ⟨W, hW⟩ : ∃ W, W = endsFrom row 0 := ⟨_, rfl⟩
  have hWl : W.length ≤ 5 := by rw [hW]; exact Nat.le_trans (endsFrom_len ..) h6.2
  refine CompSrcT.range (n := row.length) rfl F9 N9 hR (range_small (Nat.le_trans h6.2 (by decide))) (range_size _) (by rw [sizeLine_eq]; exact Nat.le_trans h6.2 (by decide)) fun g => ?_
  refine restT_ind (row := row) (W := W) (fun ys hy => ?_) (fun k i ys z hz hyes hno => ?_) row.length 0 [] [] (Nat.zero_add _) .nil (by rw [hW]; rfl)
  · repeat (rename Fr _ _ _ _ => Fx; clear Fx)
    repeat (rename News _ _ _ _ => Nx; clear Nx)
    clear hkp9 hR
    intro D h8 tk8 F8 N8 off8
    (try dsimp only)
    ((try dsimp only); (try ((with_reducible refine wp_tok ?_); intro tk8)); repeat' ((fail_if_success (with_reducible show wpAny _ _ (exec (Stmt.For _ _ _ _ _) _) _ _ _)); (fail_if_success (with_reducible show wpAny _ _ (call (Value.ref _) _ _) _ _ _)); (first | (k_unfold; (try dsimp only)) | (k_end; wrow_close) | walk1 | (dsimp only; walk1) | (leave1; walk_say "STEP leave1"; try dsimp only) | ((try dsimp only); (with_reducible refine Goes.at (by assumption) ?_); (try dsimp only)))))
    · rename (decide (W = []) = true) => hWe
      rename News _ _ _ _ => N9
      have hne := endsFrom_nil row 0 (by rw [← hW]; exact of_decide_eq_true hWe)
      have hsz : sizesP row c.toNat = row.take c.toNat := by
        unfold sizesP
        have := sizesR_pre row [] none c.toNat hne
        rw [List.append_nil, show ∀ l k, sizesR [] l k = [] from fun _ _ => rfl, List.append_nil] at this
        rw [this]
      (try dsimp only)
      refine hQ _ _ _ _ (Fr.keep (by assumption)) (N9 _ (.head _)).2.2 (N9 _ (.head _)).1 ?_
      rw [hsz]; assumption
    · rename (decide (W = []) = false) => hWe
      rename News _ _ _ _ => N9
      obtain ⟨e0, W', hWc⟩ : ∃ e0 W', W = e0 :: W' := by
        cases hWW : W with
        | nil => rw [hWW] at hWe; simp at hWe
        | cons x r => exact ⟨x, r, rfl⟩
      obtain ⟨pre, x, post, e1, e2, e3, e4⟩ := endsFrom_cons row 0 (hW.symm.trans hWc)
      rw [hWc] at hy
      clear hWe hW hWc hWl
      cases hy with
      | cons y t r =>
        refine item_list ⟨_, (N9 _ (.tail _ (.head _))).1, rfl, _, rfl⟩ (by decide) (by decide) rfl ?_
        have hpl : pre.length ≤ 5 := by have := congrArg List.length e1; simp at this; omega
        have he0 : 0 ≤ e0 ∧ e0 < (row.length : Int) := by rw [e1, e2]; simp; omega
        have he5 : 0 ≤ e0 ∧ e0 ≤ 5 := by omega
        ((try dsimp only); (try ((with_reducible refine wp_tok ?_); intro tk8)); repeat' ((fail_if_success (with_reducible show wpAny _ _ (exec (Stmt.For _ _ _ _ _) _) _ _ _)); (fail_if_success (with_reducible show wpAny _ _ (call (Value.ref _) _ _) _ _ _)); (first | (k_unfold; (try dsimp only)) | (k_end; wrow_close) | walk1 | (dsimp only; walk1) | (leave1; walk_say "STEP leave1"; try dsimp only) | ((try dsimp only); (with_reducible refine Goes.at (by assumption) ?_); (try dsimp only)))))
        rename Fr _ _ _ _ => F9
        rename News _ _ _ _ => N9
        rename IntsAre _ (List.take _ _) => hpre
        have hte : List.take e0.toNat row = pre := by rw [e1, e2, show ((0 : Nat) : Int) + (pre.length : Int) = (pre.length : Int) by omega, Int.toNat_natCast]; simp
        rw [hte] at hpre
        rename (List.take e0.toNat row).length = _ => hx1
        rename (List.take e0.toNat row).length ≤ _ => hx2
        clear hx1 hx2
        obtain ⟨tx, htx⟩ := h5.get pre.length x (by rw [e1]; simp)
        refine item_list (k := e0) (h4.at fun o e => F9.keep _ o e) he0.1 (by omega) (x := .int x tx) (by rw [e2, show ((0 : Nat) : Int) + (pre.length : Int) = (pre.length : Int) by omega, Int.toNat_natCast]; simpa using htx) ?_
        ((try dsimp only); (try ((with_reducible refine wp_tok ?_); intro tk8)); repeat' ((fail_if_success (with_reducible show wpAny _ _ (exec (Stmt.For _ _ _ _ _) _) _ _ _)); (fail_if_success (with_reducible show wpAny _ _ (call (Value.ref _) _ _) _ _ _)); (first | (k_unfold; (try dsimp only)) | (k_end; wrow_close) | walk1 | (dsimp only; walk1) | (leave1; walk_say "STEP leave1"; try dsimp only) | ((try dsimp only); (with_reducible refine Goes.at (by assumption) ?_); (try dsimp only)))))
        all_goals rename Fr _ _ _ _ => F9
        all_goals rename News _ _ _ _ => N9
        · rename IntsAre (List.flatten _) _ => hrep
          have hrl := rep_len pre c.toNat
          rename (x = 0) => hx0
          rw [hx0] at e1
          refine kmk_add_ints F9 N9 (news_list N9 (.tail _ (.tail _ (.head _)))) (news_list N9 (.head _)) hpre hrep (fun D us h3 F3 N3 l3 hI3 => ?_) (by rw [sizeLine_eq]; exact Nat.le_trans (Nat.add_le_add hpl (Nat.le_trans hrl (Int.toNat_le.mpr (i8 (by assumption) (by decide) : c ≤ ((4 : Nat) : Int))))) (by decide))
          clear F9 N9
          ((try dsimp only); (try ((with_reducible refine wp_tok ?_); intro tk8)); repeat' ((fail_if_success (with_reducible show wpAny _ _ (exec (Stmt.For _ _ _ _ _) _) _ _ _)); (fail_if_success (with_reducible show wpAny _ _ (call (Value.ref _) _ _) _ _ _)); (first | (k_unfold; (try dsimp only)) | (k_end; wrow_close) | walk1 | (dsimp only; walk1) | (leave1; walk_say "STEP leave1"; try dsimp only) | ((try dsimp only); (with_reducible refine Goes.at (by assumption) ?_); (try dsimp only)))))
          rename Fr _ _ _ _ => F9
          rename News _ _ _ _ => N9
          (try dsimp only)
          refine hQ _ _ _ _ F9.keep (N9 _ (.head _)).2.2 (N9 _ (.head _)).1 ?_
          rw [e1, sizes_zero e3]; assumption
        · have hx0 : x = 127 := e4.resolve_left (by assumption)
          rw [hx0] at e1
          (try dsimp only)
          refine hQ _ _ _ _ F9.keep (N9 _ (.head _)).2.2 (N9 _ (.head _)).1 ?_
          rw [e1, sizes_max e3]; assumption
  · repeat (rename Fr _ _ _ _ => Fx; clear Fx)
    repeat (rename News _ _ _ _ => Nx; clear Nx)
    clear hkp9 hR
    have hi5 : i < 5 := Nat.lt_of_lt_of_le (List.getElem?_eq_some_iff.mp hz).1 h6.2
    refine CompRestT.succ ?_
    rintro v I oI C oC D m₂ h8 tk8 E8 ⟨t8, rfl⟩ hC8 hx8 F8 N8 off8 ne8
    rw [Int.zero_add] at hx8
    try simp only [LCg.Off3, and_true] at off8
    have hil : i < row.length := (List.getElem?_eq_some_iff.mp hz).1
    repeat' ((fail_if_success (with_reducible show LCg.CompEnd _ _ _ _ _ _ _ _ _ _ _ _ _ _)); (first | (k_unfold; (try dsimp only)) | walk1 | (dsimp only; walk1) | (leave1; walk_say "STEP leave1"; try dsimp only) | ((try dsimp only); (with_reducible refine Goes.at (by assumption) ?_); (try dsimp only))))
    all_goals rename Fr _ _ _ _ => F9
    all_goals rename News _ _ _ _ => N9
    all_goals rename (List.any _ _ = _) => ha
    all_goals rw [show row.getD (i : Int).toNat 0 = z by rw [Int.toNat_natCast, List.getD_eq_getElem?_getD, hz]; rfl] at ha
    · have hz' : z = 0 ∨ z = 127 := (any_ends z).mp ha
      exact ⟨_, _, _, rfl, F9, fun q hq => N9 q (.tail _ hq), ⟨off8, trivial⟩, trivial, hyes _ _ hz' rfl⟩
    · have hz' : ¬ (z = 0 ∨ z = 127) := fun h => by rw [(any_ends z).mpr h] at ha; cases ha
      exact ⟨_, _, _, rfl, F9, fun q hq => N9 q (.tail _ hq), ⟨off8, trivial⟩, trivial, hno hz'⟩
end SSizes63
section STabs63
theorem rst_Tabs63 : True := by w_top off; trivial
open PyProof.Rows.LCt PyProof.Rows.LCg
theorem iter_range {prog : Program} {w : World} {A : Around} {E : Value → Shared → Prop} {s : Shared} {env : Env} {h₀ : Heap} {x : Str} {px : Pos} {body : List Stmt} {Q : Flow → Shared → Prop} {r : Addr} {n : Nat} {t u v : Tok} {m : Str → Option Value} {news : List (Addr × Obj)} (J : Nat → (Str → Option Value) → List (Addr × Obj) → Prop)
    (hh : A.handled = none) (hr : IsRange s.heap r 0 (n : Int) 1 t u v) (hn : n ≤ 1000) (F : Fr h₀ env.locals s.heap m) (N : News h₀ env.locals s.heap news) (h0 : J 0 m news)
    (turn : ∀ i m₁ news₁ h₁ tk₁ I oi t', i < n → J i m₁ news₁ → (∀ p ∈ news₁, p.1 ≠ I) → Fr h₀ env.locals h₁ m₁ → News h₀ env.locals h₁ ((I, oi) :: news₁) →
      ∀ Q₁ : Flow → Shared → Prop, Goes (TurnPost h₀ env.locals I oi (J (i + 1)) s Q) Q₁ → wpAny (model prog w) A (assign (.Name x px) env (.int i t')) (fun _ s₃ => wpAny (model prog w) A (execs body env) Q₁ E s₃) E { s with heap := h₁, toks := tk₁ })
    (done : ∀ m' news' h' tk, J n m' news' → Fr h₀ env.locals h' m' → News h₀ env.locals h' news' → Q .next { s with heap := h', toks := tk }) :
    wpAny (model prog w) A (pyIter (.ref r)) (fun it s₂ => TurnsAt prog w A h₀ env (.Name x px) body Q E it s₂) E s := by
  refine wpAny_pyIter_range hr (range_small hn) ?_
  rw [range_size]
  refine turns_at (KTurns.ofWalks (LCg.range_walks (I := s.heap.objs.size) hh 0 n) fun i v s Q E st q => by
    show wpAny _ _ (letOwnedTupleGo (.Name x px) _ _) _ _ _
    exact wpAny_pure q) ?_ (next_is_new F) (Nat.ne_of_gt F.ns.lt) ?_ ?_ (F.push _) (fun p hp => ⟨Heap.get?_push_of_some _ (N p hp).1, (N p hp).2⟩) (fun p hp => Nat.ne_of_lt (Heap.lt_size (N p hp).1)) J h0 ?_ ?_
  · intro b hb
    exact .inl (List.mem_singleton.mp hb)
  · intro i h st
    exact ⟨_, st⟩
  · show IsRangeIter _ _ _ _ _
    simpa using Heap.get?_push_size _ rfl
  · rintro i v m₁ news₁ h₁ tk₁ oi hi ⟨t', rfl⟩ hJ hn F₁ N₁
    rw [Int.zero_add]
    exact turn i m₁ news₁ h₁ tk₁ _ oi t' hi hJ hn F₁ N₁
  · exact done
theorem restF_ind {prog : Program} {w : World} {A : Around} {h₀ : Heap} {L : Addr} {m : Str → Option Value} {env : Env} {ct elt : Expr} {x : Str} {scope : Scope} {cl : List (Str × Addr)} {s : Shared} {S : List (Addr × Obj) → Prop} {P : Nat → Value → Prop} {Fin : List Value → List (Addr × Obj) → Prop} {news : List (Addr × Obj)} {n : Nat} {f : Nat → Option Int} {W : List Int}
    (hnil : ∀ ys, IntsAre ys W → Fin ys news)
    (hturn : ∀ (k i : Nat) (ys : List Value), i < n →
      (∀ y t', f i = some y → CompRestT prog w A h₀ L m env ct elt x scope cl s S P Fin k (i + 1) (ys ++ [.int y t']) news) → (f i = none → CompRestT prog w A h₀ L m env ct elt x scope cl s S P Fin k (i + 1) ys news) →
      CompRestT prog w A h₀ L m env ct elt x scope cl s S P Fin (k + 1) i ys news) :
    ∀ (k i : Nat) (ys : List Value) (acc : List Int), i + k = n → IntsAre ys acc → W = acc ++ (List.range' i k).filterMap f → CompRestT prog w A h₀ L m env ct elt x scope cl s S P Fin k i ys news
  | 0, i, ys, acc, hi, hy, hW => by
    rw [show (List.range' i 0).filterMap f = [] from rfl, List.append_nil] at hW
    subst hW
    exact CompRestT.zero (hnil ys hy)
  | k + 1, i, ys, acc, hi, hy, hW => by
    have ih := restF_ind hnil hturn k (i + 1)
    rw [List.range'_succ, List.filterMap_cons] at hW
    refine hturn k i ys (hi ▸ Nat.lt_add_of_pos_right (Nat.succ_pos k)) (fun y t' h1 => ?_) fun h1 => ?_
    · refine ih _ (acc ++ [y]) ((Nat.add_right_comm i 1 k).trans hi) (intsAre_app hy (.cons _ _ .nil)) ?_
      rw [hW, h1]; exact List.append_cons _ _ _
    · refine ih _ acc ((Nat.add_right_comm i 1 k).trans hi) hy ?_
      rw [hW, h1]
theorem pick_test (i j : Nat) : (((i : Int).fdiv (2 ^ (j : Int).toNat)).fmod 2 = 1) ↔ i / 2 ^ j % 2 = 1 := by
  have e : (2 : Int) ^ (j : Int).toNat = ((2 ^ j : Nat) : Int) := by rw [Int.toNat_natCast]; simp
  rw [e, Int.fdiv_eq_ediv_of_nonneg _ (Int.natCast_nonneg _), Int.fmod_eq_emod_of_nonneg _ (by decide)]
  generalize 2 ^ j = q
  exact (show ((i / q % 2 : Nat) : Int) = ((1 : Nat) : Int) ↔ i / q % 2 = 1 from Int.ofNat_inj)
theorem taken_len (zs : List Int) (i : Nat) : (takenP zs i).length ≤ zs.length := by
  unfold takenP
  exact Nat.le_trans (List.length_filterMap_le ..) (by rw [List.length_range]; exact Nat.le_refl _)
theorem even_mod {n : Nat} (h : n % 2 = 0) : (n : Int).fmod 2 = 0 := by
  rw [Int.fmod_eq_emod_of_nonneg _ (by decide)]; exact (show ((n % 2 : Nat) : Int) = ((0 : Nat) : Int) from congrArg _ h)
theorem odd_mod {n : Nat} (h : ¬ n % 2 = 0) : (n : Int).fmod 2 = 1 := by
  rw [Int.fmod_eq_emod_of_nonneg _ (by decide)]; exact (show ((n % 2 : Nat) : Int) = ((1 : Nat) : Int) from congrArg _ ((Nat.mod_two_eq_zero_or_one n).resolve_left h))
theorem pow_le16 {n : Nat} (h : n ≤ 4) : 2 ^ n ≤ 16 := Nat.pow_le_pow_right (n := 2) (by decide) h
theorem tablesP_succ (st : Int) (zs : List Int) (i : Nat) : tablesP st zs (i + 1) = tabStep st zs (tablesP st zs i) i := by
  unfold tablesP; rw [List.range_succ, List.foldl_append]; rfl
theorem tabStep_len {st : Int} {zs : List Int} {p : List (Int × Int) × List (Int × Int)} {i n : Nat} (h1 : p.1.length ≤ n) (h2 : p.2.length ≤ n) : (tabStep st zs p i).1.length ≤ n + 1 ∧ (tabStep st zs p i).2.length ≤ n + 1 := by
  have hp : ∀ (t : List (Int × Int)) (k v : Int), (put t k v).length ≤ t.length + 1 := fun t k v => length_put
  unfold tabStep
  split
  · exact ⟨Nat.le_trans (hp ..) (Nat.add_le_add_right h1 1), Nat.le_succ_of_le h2⟩
  · exact ⟨Nat.le_succ_of_le h1, Nat.le_trans (hp ..) (Nat.add_le_add_right h2 1)⟩
theorem tablesP_len (st : Int) (zs : List Int) : ∀ i, (tablesP st zs i).1.length ≤ i ∧ (tablesP st zs i).2.length ≤ i
  | 0 => ⟨Nat.le_refl _, Nat.le_refl _⟩
  | i + 1 => by
    rw [tablesP_succ]
    exact tabStep_len (tablesP_len st zs i).1 (tablesP_len st zs i).2
set_option maxHeartbeats 4000000 in
theorem tables_spec {prog : Program} {w : World} {dp un : Nat} {gd : Option (List Code)} {cn : Str} {cs : Scope} {a : Addr} {ccd : Value} {cl : List (Str × Addr)} {outer : List Env} {A₀ : Around} {base h₀ : Heap} {L : Addr} {m mg mb : Str → Option Value} {sh9 : Heap} {sg9 : Array GenState} {sd9 : Drawn} {st9 : Nat} {so9 : OsState} {Q E : Value → Shared → Prop}
    {p : Program} {loose : List Str} {mean : ExcName → Option Value}
    (B : Below A₀ base outer h₀) (F : Fr h₀ L sh9 m) (X : (hd.heap_39 w.params).In h₀) (T : Top p loose mean mg mb h₀) (hk : cs.kind = .function) (hd : dp + 10 < recursionLimit) (hu : un + 160 < cLine)
    {zl : Addr} {zv : List Value} {zs : List Int} {st : Int} {ts : Tok} (h4 : sh9.IsList zl zv.toArray) (h5 : IntsAre zv zs) (h6 : zs.length ≤ 4)
    (hQ : ∀ r d0 d1 q0 q1 h' tk, (∀ b o, sh9.get? b = some o → h'.get? b = some o) → sh9.get? r = none ∧ sh9.get? d0 = none ∧ sh9.get? d1 = none → h'.get? r = some (W.listOf #[.ref d0, .ref d1] 0) → h'.get? d0 = some q0 → h'.get? d1 = some q1 → (d0 == sysModules) = false ∧ (d1 == sysModules) = false → ObjTab prog w q0 (tablesP st zs (2 ^ zs.length)).1 → ObjTab prog w q1 (tablesP st zs (2 ^ zs.length)).2 → Q (.ref r) (Shared.mk h' sg9 sd9 tk so9)) :
    wpAny (model prog w) (ktrTop dp un gd cn cs L a ccd cl outer) (call (.ref 116) [.int st ts, .ref zl]) Q E (Shared.mk sh9 sg9 sd9 st9 so9) := by
  refine wpAny_call ?_
  k_dflt (first   | (refine' call_pure ?k1 ?k2 ?k3 ?k5 ?kA ?kH ?kF ?kK ?k6 ?k7 ?k8 ?k9 ?kB ?_ ?c2 ?c3 ?c4 ?c5; (case kA => exact rfl); (case kH => exact rfl); (case kF => exact rfl); (case kK => assumption); (case k1 => k_asm); (case k2 => k_asm); (case k3 => k_asm); (case k5 => k_asm); (case k6 => k_is); (case k7 => k_is); (case k8 => (((try simp only [depth_under_make, depth_under_kw, depth_in1, depth_deeper, depth_caller]); (try dsimp only [ktrTop]); omega))); (case k9 => exact BindsTo.of_eq rfl); (case c5 => decide); (case kB => exact locs rfl); (case c2 => exact rfl); (case c3 => exact rfl); (case c4 => exact rfl); k_whole; intro x9 L' h' tk9 Hd9 Hu9 Ho9 F' N' B' X' T' Q9 E9 gQ9 gE9 pE9 rE9; (try clear Ho9); (try replace Hd9 := Hd9 _ hd); (try replace Hu9 := Hu9 _ hu); (try dsimp only); (try k_fold))   | (refine' call_pureC ?k1 ?k2 ?k3 ?k5 ?kA ?kH ?kF ?kK ?k6 ?k7 ?k8 ?k9 ?kB ?kN ?_ ?c2 ?c3 ?c4; (case kA => exact rfl); (case kH => exact rfl); (case kF => exact rfl); (case kK => assumption); (case k1 => k_asm); (case k2 => k_asm); (case k3 => k_asm); (case k5 => k_asm); (case k6 => k_is); (case k7 => k_is); (case k8 => (((try simp only [depth_under_make, depth_under_kw, depth_in1, depth_deeper, depth_caller]); (try dsimp only [ktrTop]); omega))); (case k9 => exact BindsTo.of_eq rfl); (case kB => exact rfl); (case kN => decide +kernel); (case c2 => exact rfl); (case c3 => exact rfl); (case c4 => exact rfl); k_whole; intro x9 L9 h17 tk17 cells' Hd9 Hu9 Ho9 F' N' C' B9 X9 T9 Q9 E9 gQ9 gE9 pE9; (try clear Ho9); (try replace Hd9 := Hd9 _ hd); (try replace Hu9 := Hu9 _ hu); k_cells C'; (try simp only [List.cons_append, List.nil_append] at N'); (try dsimp only); (try k_fold)))
  repeat' ((fail_if_success (with_reducible show wpAny _ _ (exec (Stmt.For _ _ _ _ _) _) _ _ _)); (first | (k_unfold; (try dsimp only)) | walk1 | (dsimp only; walk1) | (leave1; walk_say "STEP leave1"; try dsimp only) | ((try dsimp only); (with_reducible refine Goes.at (by assumption) ?_); (try dsimp only))))
  rename_i oP0 oS dP0 dS d0 h16 o0 lo0 hs0 fs0 hi0 fi0 l10 d1 h15 o1 lo1 hs1 fs1 hi1 fi1 l11 aT h14 l12 h13 F9 N9
  have hp16 := pow_le16 h6
  refine For_turns F9 ?_
  repeat' ((fail_if_success (with_reducible show wpAny _ _ (pyIter _) _ _ _)); (first | (k_unfold; (try dsimp only)) | walk1 | (dsimp only; walk1) | (leave1; walk_say "STEP leave1"; try dsimp only) | ((try dsimp only); (with_reducible refine Goes.at (by assumption) ?_); (try dsimp only))))
  rename IsRange _ _ _ _ _ _ _ _ => hR
  rename_i F8 N8 hkp8
  have he : (2 : Int) ^ (zs.length : Int).toNat = ((2 ^ zs.length : Nat) : Int) := by rw [Int.toNat_natCast]; simp
  rw [he] at hR
  refine iter_range (n := 2 ^ zs.length) (fun i m₁ news₁ => ∃ q0 q1 oP v tS, news₁ = [(aT, W.listOf #[.ref d0, .ref d1] 0), (d1, q1), (d0, q0), (L9 + 1 + 1, oP), (L9 + 1, oS)] ∧ ObjTab prog w q0 (tablesP st zs i).1 ∧ ObjTab prog w q1 (tablesP st zs i).2 ∧ oP.data = .cell v ∧
    Pins m₁ [(Str.ofString "tables", .ref aT), (Str.ofString "start", .int st tS)]) rfl hR (by omega) F8 N8 ?_ ?_ ?_
  · exact ⟨o0, o1, oP0, _, ts, rfl, ⟨[], hi0, .nil⟩, ⟨[], hi1, .nil⟩, dP0, rfl, rfl, trivial⟩
  · rintro i m₁ news₁ h₁ tk₁ I oi t' hi ⟨q0, q1, oP, v, tS, rfl, hq0, hq1, dP, hpin⟩ hni F₁ N₁ Q₁ gQ₁
    replace F₁ := pin_fr F₁ hpin
    clear F8 N8 hkp8 hs0 fs0 hi0 fi0 hs1 fs1 hi1 fi1 hR
    have n1 := neN (hni (L9 + 1 + 1, oP) (by simp))
    dsimp only at n1
    (try dsimp only)
    repeat' ((fail_if_success (with_reducible show wpAny _ _ (exec (Stmt.Assign _ (Expr.ListComp _ _ _ _) _) _) _ _ _)); (first | (k_unfold; (try dsimp only)) | walk1 | (dsimp only; walk1) | (leave1; walk_say "STEP leave1"; try dsimp only) | ((try dsimp only); (with_reducible refine Goes.at (by assumption) ?_); (try dsimp only))))
    rename Fr _ _ _ _ => Fc
    rename News _ _ _ _ => Nc
    rename (_ = Data.cell (some (Value.int (i : Int) t'))) => dPi
    refine LCt.Assign_ListComp_T (F₀ := Fc) (by rfl) (by with_unfolding_all rfl) (by with_unfolding_all rfl) (by decide) (by rfl) (by decide) (by rfl) (by rfl) (by rfl) ?_
    repeat' ((fail_if_success (with_reducible show LCt.CompSrcT _ _ _ _ _ _ _ _ _ _ _ _ _ _ _)); (first | (k_unfold; (try dsimp only)) | walk1 | (dsimp only; walk1) | (leave1; walk_say "STEP leave1"; try dsimp only) | ((try dsimp only); (with_reducible refine Goes.at (by assumption) ?_); (try dsimp only))))
    rename IsRange _ _ _ _ _ _ _ _ => hR
    rename_i F9 N9 hkp9
    refine CompSrcT.range (n := zs.length) rfl F9 N9 hR (range_small (by omega)) (range_size _) (by rw [sizeLine_eq]; omega) fun g => ?_
    refine restF_ind (n := zs.length) (f := fun k => if i / 2 ^ k % 2 = 1 then zs[k]? else none) (W := takenP zs i) (fun ys hy => ?_) (fun k j ys hj hyes hno => ?_) zs.length 0 [] [] (by omega) .nil (by unfold takenP; rw [List.nil_append, List.range_eq_range'])
    · repeat (rename Fr _ _ _ _ => Fx; clear Fx)
      repeat (rename News _ _ _ _ => Nx; clear Nx)
      clear hkp9 hR
      intro D h8 tk8 F8 N8 off8
      (try dsimp only)
      simp only [LCg.Off1, and_true] at off8
      ((try dsimp only); (try ((with_reducible refine wp_tok ?_); intro tk8)); repeat' ((fail_if_success (with_reducible show wpAny _ _ (exec (Stmt.For _ _ _ _ _) _) _ _ _)); (fail_if_success (with_reducible show wpAny _ _ (call (Value.ref _) _ _) _ _ _)); (first | (k_unfold; (try dsimp only)) | (k_end; wrow_close) | walk1 | (dsimp only; walk1) | (leave1; walk_say "STEP leave1"; try dsimp only) | ((try dsimp only); (with_reducible refine Goes.at (by assumption) ?_); (try dsimp only)))))
      have hyl := hy.length
      have htl := taken_len zs i
      refine len_list (items := ys.toArray) ⟨_, (N8 _ (.head _)).1, rfl, _, rfl⟩ (by rw [List.size_toArray, hyl]; exact c4 (Nat.le_trans htl h6) (by decide)) ?_
      rw [List.size_toArray, hyl]
      repeat' ((fail_if_success (with_reducible show wpAny _ _ (PyProof.Rows.subscriptTail _ _ _ _) _ _ _)); (first | (k_unfold; (try dsimp only)) | walk1 | (dsimp only; walk1) | (leave1; walk_say "STEP leave1"; try dsimp only) | ((try dsimp only); (with_reducible refine Goes.at (by assumption) ?_); (try dsimp only))))
      by_cases hpar : (takenP zs i).length % 2 = 0
      · rw [even_mod hpar]
        refine item_list (k := 0) (x := .ref d0) ⟨_, (N8 _ (.tail _ (.tail _ (.head _)))).1, rfl, _, rfl⟩ (by decide) (by decide) rfl ?_
        ((try dsimp only); (try ((with_reducible refine wp_tok ?_); intro tk8)); repeat' ((fail_if_success (with_reducible show wpAny _ _ (exec (Stmt.For _ _ _ _ _) _) _ _ _)); (fail_if_success (with_reducible show wpAny _ _ (call (Value.ref _) _ _) _ _ _)); (first | (k_unfold; (try dsimp only)) | (k_end; wrow_close) | walk1 | (dsimp only; walk1) | (leave1; walk_say "STEP leave1"; try dsimp only) | ((try dsimp only); (with_reducible refine Goes.at (by assumption) ?_); (try dsimp only)))))
        rename Fr _ _ _ _ => F9
        rename News _ _ _ _ => N9
        refine tab_get (.of_obj lo0 (N9 (d0, q0) (by simp)).1 hq0) fun t9 => ?_
        have hz := tablesP_len st zs i
        have hz9 : (tablesP st zs i).1.length ≤ sizeLine := by rw [sizeLine_eq]; exact Nat.le_trans hz.1 (Nat.le_trans (Nat.le_of_lt (Nat.lt_of_lt_of_le hi hp16)) (by decide))
        have nI := neN (hni (d0, q0) (by simp))
        dsimp only at nI
        ((try dsimp only); (try ((with_reducible refine wp_tok ?_); intro tk8)); repeat' ((fail_if_success (with_reducible show wpAny _ _ (exec (Stmt.For _ _ _ _ _) _) _ _ _)); (fail_if_success (with_reducible show wpAny _ _ (call (Value.ref _) _ _) _ _ _)); (first | (k_unfold; (try dsimp only)) | (k_end; wrow_close) | walk1 | (dsimp only; walk1) | (leave1; walk_say "STEP leave1"; try dsimp only) | ((try dsimp only); (with_reducible refine Goes.at (by assumption) ?_); (try dsimp only)))))
        rename Fr _ _ _ _ => F7
        rename News _ _ _ _ => N7
        rename ObjTab _ _ _ (put _ _ _) => hput
        rename_i h9 o9
        refine ⟨_, _, _, _, rfl, F7, fun q hq => N7 q ?_, ?_, o9, q1, _, _, tS, rfl, ?_, ?_, dPi, rfl, rfl, trivial⟩
        · simp only [List.mem_cons, List.not_mem_nil, or_false] at hq ⊢
          exact .inr hq
        · intro q hq
          simp only [List.mem_cons, List.not_mem_nil, or_false] at hq
          rcases hq with rfl | rfl | rfl | rfl | rfl
          · exact hni (aT, _) (.head _)
          · exact hni (d1, q1) (by simp)
          · exact hni (d0, q0) (by simp)
          · exact n1
          · exact hni (L9 + 1, oS) (by simp)
        · rw [tablesP_succ]; unfold tabStep; rw [if_pos hpar]; exact hput
        · rw [tablesP_succ]; unfold tabStep; rw [if_pos hpar]; exact hq1
      · rw [odd_mod hpar]
        refine item_list (k := 1) (x := .ref d1) ⟨_, (N8 _ (.tail _ (.tail _ (.head _)))).1, rfl, _, rfl⟩ (by decide) (by decide) rfl ?_
        ((try dsimp only); (try ((with_reducible refine wp_tok ?_); intro tk8)); repeat' ((fail_if_success (with_reducible show wpAny _ _ (exec (Stmt.For _ _ _ _ _) _) _ _ _)); (fail_if_success (with_reducible show wpAny _ _ (call (Value.ref _) _ _) _ _ _)); (first | (k_unfold; (try dsimp only)) | (k_end; wrow_close) | walk1 | (dsimp only; walk1) | (leave1; walk_say "STEP leave1"; try dsimp only) | ((try dsimp only); (with_reducible refine Goes.at (by assumption) ?_); (try dsimp only)))))
        rename Fr _ _ _ _ => F9
        rename News _ _ _ _ => N9
        refine tab_get (.of_obj lo1 (N9 (d1, q1) (by simp)).1 hq1) fun t9 => ?_
        have hz := tablesP_len st zs i
        have hz9 : (tablesP st zs i).2.length ≤ sizeLine := by rw [sizeLine_eq]; exact Nat.le_trans hz.2 (Nat.le_trans (Nat.le_of_lt (Nat.lt_of_lt_of_le hi hp16)) (by decide))
        have nI := neN (hni (d1, q1) (by simp))
        dsimp only at nI
        ((try dsimp only); (try ((with_reducible refine wp_tok ?_); intro tk8)); repeat' ((fail_if_success (with_reducible show wpAny _ _ (exec (Stmt.For _ _ _ _ _) _) _ _ _)); (fail_if_success (with_reducible show wpAny _ _ (call (Value.ref _) _ _) _ _ _)); (first | (k_unfold; (try dsimp only)) | (k_end; wrow_close) | walk1 | (dsimp only; walk1) | (leave1; walk_say "STEP leave1"; try dsimp only) | ((try dsimp only); (with_reducible refine Goes.at (by assumption) ?_); (try dsimp only)))))
        rename Fr _ _ _ _ => F7
        rename News _ _ _ _ => N7
        rename ObjTab _ _ _ (put _ _ _) => hput
        rename_i h9 o9
        refine ⟨_, _, _, _, rfl, F7, fun q hq => N7 q ?_, ?_, q0, o9, _, _, tS, rfl, ?_, ?_, dPi, rfl, rfl, trivial⟩
        · simp only [List.mem_cons, List.not_mem_nil, or_false] at hq ⊢
          exact .inr hq
        · intro q hq
          simp only [List.mem_cons, List.not_mem_nil, or_false] at hq
          rcases hq with rfl | rfl | rfl | rfl | rfl
          · exact hni (aT, _) (.head _)
          · exact hni (d1, q1) (by simp)
          · exact hni (d0, q0) (by simp)
          · exact n1
          · exact hni (L9 + 1, oS) (by simp)
        · rw [tablesP_succ]; unfold tabStep; rw [if_neg hpar]; exact hq0
        · rw [tablesP_succ]; unfold tabStep; rw [if_neg hpar]; exact hput
    · repeat (rename Fr _ _ _ _ => Fx; clear Fx)
      repeat (rename News _ _ _ _ => Nx; clear Nx)
      clear hkp9 hR
      have hj4 : j < 4 := Nat.lt_of_lt_of_le hj h6
      refine CompRestT.succ ?_
      rintro v I oI C oC D m₂ h8 tk8 E8 ⟨t8, rfl⟩ hC8 hx8 F8 N8 off8 ne8
      rw [Int.zero_add] at hx8
      have off9 := off8
      simp only [LCg.Off3, and_true] at off8
      repeat' ((fail_if_success (with_reducible show LCg.CompEnd _ _ _ _ _ _ _ _ _ _ _ _ _ _)); (first | (k_unfold; (try dsimp only)) | walk1 | (dsimp only; walk1) | (leave1; walk_say "STEP leave1"; try dsimp only) | ((try dsimp only); (with_reducible refine Goes.at (by assumption) ?_); (try dsimp only))))
      · rename (_ = (1 : Int)) => ht
        refine ⟨_, _, _, rfl, F8, N8, off9, trivial, hyes _ _ ?_⟩
        rw [if_pos ((pick_test i j).mp ht), Int.toNat_natCast, List.getD_eq_getElem?_getD, List.getElem?_eq_getElem hj]
        rfl
      · rename (¬ (_ = (1 : Int))) => ht
        exact ⟨_, _, _, rfl, F8, N8, off9, trivial, hno (if_neg fun h => ht ((pick_test i j).mpr h))⟩
  · rintro m' news' h' tk ⟨q0, q1, oP, v, tS, rfl, hq0, hq1, dP, hpin⟩ F₁ N₁
    replace F₁ := pin_fr F₁ hpin
    clear F8 N8 hkp8 hs0 fs0 hi0 fi0 hs1 fs1 hi1 fi1 hR
    (try dsimp only)
    ((try dsimp only); (try ((with_reducible refine wp_tok ?_); intro tk8)); repeat' ((fail_if_success (with_reducible show wpAny _ _ (exec (Stmt.For _ _ _ _ _) _) _ _ _)); (fail_if_success (with_reducible show wpAny _ _ (call (Value.ref _) _ _) _ _ _)); (first | (k_unfold; (try dsimp only)) | (k_end; wrow_close) | walk1 | (dsimp only; walk1) | (leave1; walk_say "STEP leave1"; try dsimp only) | ((try dsimp only); (with_reducible refine Goes.at (by assumption) ?_); (try dsimp only)))))
    rename Fr _ _ _ _ => F9
    rename News _ _ _ _ => N9
    (try dsimp only)
    exact hQ aT d0 d1 q0 q1 _ _ F9.keep ⟨(N9 _ (.head _)).2.2, (N9 _ (.tail _ (.tail _ (.head _)))).2.2, (N9 _ (.tail _ (.head _))).2.2⟩ (N9 _ (.head _)).1 (N9 _ (.tail _ (.tail _ (.head _)))).1 (N9 _ (.tail _ (.head _))).1 ⟨lo0, lo1⟩ hq0 hq1
end STabs63
section SSize63
theorem rst_Size63 : True := by w_top off; trivial
set_option maxHeartbeats 4000000 in
theorem size_spec {prog : Program} {w : World} {dp un : Nat} {gd : Option (List Code)} {cn : Str} {cs : Scope} {a : Addr} {ccd : Value} {cl : List (Str × Addr)} {outer : List Env} {A₀ : Around} {base h₀ : Heap} {L : Addr} {m mg mb : Str → Option Value} {sh9 : Heap} {sg9 : Array GenState} {sd9 : Drawn} {st9 : Nat} {so9 : OsState} {Q E : Value → Shared → Prop}
    {p : Program} {loose : List Str} {mean : ExcName → Option Value}
    (B : Below A₀ base outer h₀) (F : Fr h₀ L sh9 m) (X : (hd.heap_39 w.params).In h₀) (T : Top p loose mean mg mb h₀) (hk : cs.kind = .function) (hd : dp + 5 < recursionLimit) (hu : un + 40 < cLine)
    {c : Int} {tc : Tok}
    (hQ : ∀ y h' tk t, (∀ b o, sh9.get? b = some o → h'.get? b = some o) → (y = 127 ∨ -5 ≤ y ∧ y ≤ 5) → Q (.int y t) (Shared.mk h' sg9 sd9 tk so9)) :
    wpAny (model prog w) (ktrTop dp un gd cn cs L a ccd cl outer) (call (.ref 77) [.int c tc]) Q E (Shared.mk sh9 sg9 sd9 st9 so9) := by
  refine wpAny_call ?_
  k_dflt (first   | (refine' call_pure ?k1 ?k2 ?k3 ?k5 ?kA ?kH ?kF ?kK ?k6 ?k7 ?k8 ?k9 ?kB ?_ ?c2 ?c3 ?c4 ?c5; (case kA => exact rfl); (case kH => exact rfl); (case kF => exact rfl); (case kK => assumption); (case k1 => k_asm); (case k2 => k_asm); (case k3 => k_asm); (case k5 => k_asm); (case k6 => k_is); (case k7 => k_is); (case k8 => (((try simp only [depth_under_make, depth_under_kw, depth_in1, depth_deeper, depth_caller]); (try dsimp only [ktrTop]); omega))); (case k9 => exact BindsTo.of_eq rfl); (case c5 => decide); (case kB => exact locs rfl); (case c2 => exact rfl); (case c3 => exact rfl); (case c4 => exact rfl); k_whole; intro x9 L' h' tk9 Hd9 Hu9 Ho9 F' N' B' X' T' Q9 E9 gQ9 gE9 pE9 rE9; (try clear Ho9); (try replace Hd9 := Hd9 _ hd); (try replace Hu9 := Hu9 _ hu); (try dsimp only); (try k_fold))   | (refine' call_pureC ?k1 ?k2 ?k3 ?k5 ?kA ?kH ?kF ?kK ?k6 ?k7 ?k8 ?k9 ?kB ?kN ?_ ?c2 ?c3 ?c4; (case kA => exact rfl); (case kH => exact rfl); (case kF => exact rfl); (case kK => assumption); (case k1 => k_asm); (case k2 => k_asm); (case k3 => k_asm); (case k5 => k_asm); (case k6 => k_is); (case k7 => k_is); (case k8 => (((try simp only [depth_under_make, depth_under_kw, depth_in1, depth_deeper, depth_caller]); (try dsimp only [ktrTop]); omega))); (case k9 => exact BindsTo.of_eq rfl); (case kB => exact rfl); (case kN => decide +kernel); (case c2 => exact rfl); (case c3 => exact rfl); (case c4 => exact rfl); k_whole; intro x9 L9 h17 tk17 cells' Hd9 Hu9 Ho9 F' N' C' B9 X9 T9 Q9 E9 gQ9 gE9 pE9; (try clear Ho9); (try replace Hd9 := Hd9 _ hd); (try replace Hu9 := Hu9 _ hu); k_cells C'; (try simp only [List.cons_append, List.nil_append] at N'); (try dsimp only); (try k_fold)))
  ((try dsimp only); (try ((with_reducible refine wp_tok ?_); intro tk8)); repeat' ((fail_if_success (with_reducible show wpAny _ _ (exec (Stmt.For _ _ _ _ _) _) _ _ _)); (fail_if_success (with_reducible show wpAny _ _ (call (Value.ref _) _ _) _ _ _)); (first | (k_unfold; (try dsimp only)) | (k_end; wrow_close) | walk1 | (dsimp only; walk1) | (leave1; walk_say "STEP leave1"; try dsimp only) | ((try dsimp only); (with_reducible refine Goes.at (by assumption) ?_); (try dsimp only)))))
  all_goals rename Fr _ _ _ _ => F9
  all_goals (try dsimp only)
  all_goals refine hQ _ _ _ _ F9.keep ?_
  · right; decide
  · left; rfl
  · right; decide
  · right
    have h1 := Int.fmod_lt_of_pos (c.fdiv 8) (show (0 : Int) < 9 by decide)
    have h2 := Int.fmod_nonneg_of_pos (c.fdiv 8) (show (0 : Int) < 9 by decide)
    omega
end SSize63
end Walks
section Law
local macro_rules | `(tactic| omega) => `(tactic| k_extra "om8")
local macro_rules | `(tactic| walk_at $s:str) => `(tactic| k_extra $s)
section SLaw63
theorem rst_Law63 : True := by w_top off; trivial
theorem news_isl {g h : Heap} {L l : Addr} {o : Obj} {news : List (Addr × Obj)} {us : List Value} {n : Nat} (N : News g L h news) (hm : (l, o) ∈ news) (hc : o.cls = .type "list") (hd : o.data = .seq us.toArray n) : h.IsList l us.toArray := ⟨_, (N _ hm).1, hc, _, hd⟩
theorem pick_some {vs : List Value} {ns : List Int} (h : IntsAre vs ns) : ∀ idx : List Nat, ∃ ms, IntsAre (idx.filterMap (vs.toArray[·]?)) ms
  | [] => ⟨[], .nil⟩
  | j :: r => by
    obtain ⟨ms, hm⟩ := pick_some h r
    rw [List.filterMap_cons]
    cases e : vs.toArray[j]? with
    | none => exact ⟨ms, hm⟩
    | some v =>
      have hj : j < ns.length := by
        rw [← h.length]
        simpa using (Array.getElem?_eq_some_iff.mp e).1
      obtain ⟨t, ht⟩ := h.get j ns[j] (List.getElem?_eq_getElem hj)
      have e' : vs[j]? = some v := by simpa using e
      rw [ht] at e'
      cases e'
      exact ⟨_, .cons _ _ hm⟩
theorem pick_ints {vs : List Value} {ns : List Int} (h : IntsAre vs ns) (lo hi st : Option Int) : ∃ us ms, slicePick vs.toArray lo hi st = List.toArray us ∧ IntsAre us ms :=
  let ⟨ms, hm⟩ := pick_some h _
  ⟨_, ms, rfl, hm⟩
theorem restU_ind {prog : Program} {w : World} {A : Around} {h₀ : Heap} {L : Addr} {m : Str → Option Value} {env : Env} {elt : Expr} {x : Str} {scope : Scope} {cl : List (Str × Addr)} {s : Shared} {S : List (Addr × Obj) → Prop} {P : Nat → Value → Prop} {Fin : List Value → List (Addr × Obj) → Prop} {news : List (Addr × Obj)} {n : Nat} {Pp : Int → Prop}
    (hnil : ∀ ys cs, IntsAre ys cs → cs.length = n → (∀ y ∈ cs, Pp y) → Fin ys news)
    (hturn : ∀ (k i : Nat) (ys : List Value), i < n → (∀ y t', Pp y → LCg.CompRest prog w A h₀ L m env elt x scope cl s S P Fin k (i + 1) (ys ++ [.int y t']) news) → LCg.CompRest prog w A h₀ L m env elt x scope cl s S P Fin (k + 1) i ys news) :
    ∀ (k i : Nat) (ys : List Value) (cs : List Int), i + k = n → IntsAre ys cs → cs.length = i → (∀ y ∈ cs, Pp y) → LCg.CompRest prog w A h₀ L m env elt x scope cl s S P Fin k i ys news :=
  fun k i ys cs hi hy hl hp => up_ind (R := fun k i ys => LCg.CompRest prog w A h₀ L m env elt x scope cl s S P Fin k i ys news) (I := fun i ys => ∃ cs, IntsAre ys cs ∧ cs.length = i ∧ ∀ y ∈ cs, Pp y) (fun ys h => let ⟨cs, a, b, c⟩ := h; .zero (hnil ys cs a b c)) (fun k i ys hi hI ih => hturn k i ys hi fun y t' hpy => let ⟨cs, a, b, c⟩ := hI; ih _ ⟨cs ++ [y], intsAre_app a (.cons _ _ .nil), by rw [List.length_append, b]; rfl, all_app c (all1 hpy all0)⟩) k i ys hi ⟨cs, hy, hl, hp⟩
theorem led_keys {g h h' : Heap} {L kl : Addr} {m : Str → Option Value} {q0 q1 q2 q3 q4 q5 q6 q7 q8 q9 : Addr × Obj} {kv : Array Value} {kn : Nat} {tups : List (Addr × Obj)} (N : News g L h [q0, q1, q2, q3, q4, q5, q6, q7, q8, q9]) (F : Fr g L h m) (hkp : ∀ b o, h.get? b = some o → h'.get? b = some o)
    (h1 : h.get? kl = none) (h2 : h'.get? kl = some (W.listOf kv kn)) (ht : ∀ q ∈ tups, h'.get? q.1 = some q.2 ∧ h.get? q.1 = none) : News g L h' ((kl, W.listOf kv kn) :: q0 :: q4 :: q5 :: q6 :: q7 :: q8 :: q9 :: tups) := by
  have old : ∀ q ∈ [q0, q1, q2, q3, q4, q5, q6, q7, q8, q9], h'.get? q.1 = some q.2 ∧ q.1 ≠ L ∧ g.get? q.1 = none := fun q hm => ⟨hkp _ _ (N q hm).1, (N q hm).2⟩
  exact all1 ⟨h2, Ne.symm (fr_ne F h1), none_of F h1⟩ (all1 (old _ (mem_at 0 rfl)) (all1 (old _ (mem_at 4 rfl)) (all1 (old _ (mem_at 5 rfl)) (all1 (old _ (mem_at 6 rfl)) (all1 (old _ (mem_at 7 rfl)) (all1 (old _ (mem_at 8 rfl)) (all1 (old _ (mem_at 9 rfl)) (fun q hq => ⟨(ht q hq).1, Ne.symm (fr_ne F (ht q hq).2), none_of F (ht q hq).2⟩))))))))
theorem new_ne {g h : Heap} {L a k : Addr} {o : Obj} {l : List (Addr × Obj)} (N : News g L h l) (hm : (a, o) ∈ l) (hk : h.get? k = none) : k ≠ a := fun e => by
  rw [e, (N _ hm).1] at hk; cases hk
theorem off_tups {g h h' : Heap} {L : Addr} {l tups : List (Addr × Obj)} {a : Addr} {o : Obj} (N : News g L h l) (hm : (a, o) ∈ l) (ht : ∀ q ∈ tups, h'.get? q.1 = some q.2 ∧ h.get? q.1 = none) : ∀ p ∈ tups, p.1 ≠ a :=
  fun p hp => ne_fresh (ht p hp).2 (N _ hm).1
theorem cut_len {z : Int} : 3 ≤ min (5 - z.fmod 3).toNat 5 ∧ min (5 - z.fmod 3).toNat 5 ≤ 5 := by
  have h1 := Int.fmod_lt_of_pos z (show (0 : Int) < 3 by decide)
  have h2 := Int.fmod_nonneg_of_pos z (show (0 : Int) < 3 by decide)
  obtain ⟨n, e⟩ := Int.eq_ofNat_of_zero_le h2
  rw [e] at h1 ⊢
  exact (show ∀ n : Fin 3, 3 ≤ min (5 - (n.1 : Int)).toNat 5 ∧ min (5 - (n.1 : Int)).toNat 5 ≤ 5 by decide) ⟨n, Int.ofNat_lt.mp h1⟩
theorem keys_many {z : Int} : 1 ≤ 4 - z.fmod 4 ∧ 4 - z.fmod 4 ≤ 4 := by
  have h1 := Int.fmod_lt_of_pos z (show (0 : Int) < 4 by decide)
  obtain ⟨n, e⟩ := Int.eq_ofNat_of_zero_le (Int.fmod_nonneg_of_pos z (show (0 : Int) < 4 by decide))
  rw [e] at h1 ⊢
  exact (show ∀ n : Fin 4, 1 ≤ 4 - (n.1 : Int) ∧ 4 - (n.1 : Int) ≤ 4 by decide) ⟨n, Int.ofNat_lt.mp h1⟩
local macro_rules | `(tactic| k_all) => `(tactic| assumption)
local macro_rules | `(tactic| k_ne) => `(tactic| assumption)
theorem start_bound {z : Int} : -5 ≤ z.fmod 11 - 5 ∧ z.fmod 11 - 5 ≤ 5 :=
  ⟨Int.sub_le_sub_right (Int.fmod_nonneg_of_pos z (show (0 : Int) < 11 by decide)) 5, Int.sub_le_sub_right (Int.lt_add_one_iff.mp (show z.fmod 11 < 10 + 1 from Int.fmod_lt_of_pos z (show (0 : Int) < 11 by decide))) 5⟩
theorem run_objs {g h : Heap} {a0 a1 a2 a3 a4 a5 : Addr} {o0 o1 o2 o3 o4 o5 : Obj} (hf : ∀ b ∈ [a0, a1, a2, a3, a4, a5], g.get? b = none) (h0 : h.get? a0 = some o0) (h1 : h.get? a1 = some o1) (h2 : h.get? a2 = some o2) (h3 : h.get? a3 = some o3) (h4 : h.get? a4 = some o4) (h5 : h.get? a5 = some o5) :
    ∀ q ∈ [(a0, o0), (a1, o1), (a2, o2), (a3, o3), (a4, o4), (a5, o5)], h.get? q.1 = some q.2 ∧ g.get? q.1 = none := by
  exact all1 ⟨h0, hf _ (mem_at 0 rfl)⟩ (all1 ⟨h1, hf _ (mem_at 1 rfl)⟩ (all1 ⟨h2, hf _ (mem_at 2 rfl)⟩ (all1 ⟨h3, hf _ (mem_at 3 rfl)⟩ (all1 ⟨h4, hf _ (mem_at 4 rfl)⟩ (all1 ⟨h5, hf _ (mem_at 5 rfl)⟩ all0)))))
/-- the ledger behind the run: what stood, and what it made ahead of the keys' tuples -/
theorem led_run {g h h' : Heap} {L : Addr} {m : Str → Option Value} {q0 q1 q2 q3 q4 q5 q6 q7 r0 r1 r2 r3 r4 r5 : Addr × Obj} {tups : List (Addr × Obj)} (N : News g L h (q0 :: q1 :: q2 :: q3 :: q4 :: q5 :: q6 :: q7 :: tups)) (F : Fr g L h m)
    (hkp : ∀ b o, h.get? b = some o → b ≠ L → h'.get? b = some o) (hr : ∀ q ∈ [r0, r1, r2, r3, r4, r5], h'.get? q.1 = some q.2 ∧ h.get? q.1 = none) : News g L h' (q2 :: q3 :: q4 :: q5 :: q6 :: q7 :: q0 :: q1 :: r0 :: r1 :: r2 :: r3 :: r4 :: r5 :: tups) := by
  have old : ∀ q ∈ (q0 :: q1 :: q2 :: q3 :: q4 :: q5 :: q6 :: q7 :: tups), h'.get? q.1 = some q.2 ∧ q.1 ≠ L ∧ g.get? q.1 = none := fun q hm => ⟨hkp _ _ (N q hm).1 (N q hm).2.1, (N q hm).2⟩
  have new : ∀ q ∈ [r0, r1, r2, r3, r4, r5], h'.get? q.1 = some q.2 ∧ q.1 ≠ L ∧ g.get? q.1 = none := fun q hm => ⟨(hr q hm).1, Ne.symm (fr_ne F (hr q hm).2), none_of F (hr q hm).2⟩
  exact all1 (old _ (mem_at 2 rfl)) (all1 (old _ (mem_at 3 rfl)) (all1 (old _ (mem_at 4 rfl)) (all1 (old _ (mem_at 5 rfl)) (all1 (old _ (mem_at 6 rfl)) (all1 (old _ (mem_at 7 rfl)) (all1 (old _ (mem_at 0 rfl)) (all1 (old _ (mem_at 1 rfl)) (all1 (new _ (mem_at 0 rfl)) (all1 (new _ (mem_at 1 rfl)) (all1 (new _ (mem_at 2 rfl)) (all1 (new _ (mem_at 3 rfl)) (all1 (new _ (mem_at 4 rfl)) (all1 (new _ (mem_at 5 rfl)) (fun q hq => old q (.tail _ (.tail _ (.tail _ (.tail _ (.tail _ (.tail _ (.tail _ (.tail _ hq))))))))))))))))))))))
theorem rest_off {g h h' : Heap} {L c : Addr} {oc : Obj} {l tups : List (Addr × Obj)} {a0 a1 : Addr} {o0 o1 : Obj} {r0 r1 r2 r3 r4 r5 : Addr × Obj} (N : News g L h l) (hc : (c, oc) ∈ l) (k0 : a0 ≠ c) (k1 : a1 ≠ c) (hr : ∀ q ∈ [r0, r1, r2, r3, r4, r5], h'.get? q.1 = some q.2 ∧ h.get? q.1 = none) (ht : ∀ p ∈ tups, p.1 ≠ c) :
    ∀ p ∈ (a0, o0) :: (a1, o1) :: r0 :: r1 :: r2 :: r3 :: r4 :: r5 :: tups, p.1 ≠ c := by
  exact all1 k0 (all1 k1 (all1 (ne_fresh (hr _ (mem_at 0 rfl)).2 (N _ hc).1) (all1 (ne_fresh (hr _ (mem_at 1 rfl)).2 (N _ hc).1) (all1 (ne_fresh (hr _ (mem_at 2 rfl)).2 (N _ hc).1) (all1 (ne_fresh (hr _ (mem_at 3 rfl)).2 (N _ hc).1) (all1 (ne_fresh (hr _ (mem_at 4 rfl)).2 (N _ hc).1) (all1 (ne_fresh (hr _ (mem_at 5 rfl)).2 (N _ hc).1) ht)))))))
theorem wp_join {M : Model} {A : Around} {E : Value → Shared → Prop} {env : Env} {st : Stmt} {rest : List Stmt} {Q : Flow → Shared → Prop} {s : Shared} {g : Heap} {L : Addr} {m : Str → Option Value} {news : List (Addr × Obj)} (_F : Fr g L s.heap m) (_N : News g L s.heap news)
    (h1 : wpAny M A (exec st env) (fun f s' => f = .next ∧ ∃ h tk, s' = { s with heap := h, toks := tk } ∧ Fr g L h m ∧ News g L h news) E s)
    (h2 : ∀ h tk, Fr g L h m → News g L h news → wpAny M A (execs rest env) Q E { s with heap := h, toks := tk }) : wpAny M A (execs (st :: rest) env) Q E s :=
  wpAny_execs_cons (wpAny_mono h1 (fun f s' h => by obtain ⟨rfl, h, tk, rfl, F, N⟩ := h; exact h2 h tk F N) fun _ _ e => e)
theorem reads_none1 {h : Heap} {a : Addr} (ha : h.IsList a #[.none]) : Reads h (.ref a) (.list [.none]) [a] := by
  obtain ⟨o, ho, hc, n, hd⟩ := ha
  exact Reads.list ho hc hd (by simpa using ReadsAll.cons (Reads.none (h := h)) .nil)
theorem ne_none1 {prog : Program} {w : World} {A : Around} {E : Value → Shared → Prop} {s : Shared} {a b : Addr} {Q : Value → Shared → Prop} (ha : s.heap.IsList a #[.none]) (hb : s.heap.IsList b #[.none]) (hu : A.units + 64 < cLine) (h : Q (.bool false) s) :
    wpAny (model prog w) A (compareOp .NotEq (.ref a) (.ref b)) Q E s :=
  ne_dataH_same (reads_none1 ha) (reads_none1 hb) (by decide +kernel) (by decide +kernel) hu (by decide +kernel) (by
    have e : PySem.Spec.same (.list [.none]) (.list [.none]) = true := by decide +kernel
    rw [e]; exact h)
theorem head_getD {row : List Int} (h : 1 ≤ row.length) : row.head? = some 0 ↔ row.getD 0 0 = 0 := by
  cases row with
  | nil => simp at h
  | cons x r => simp
theorem cols_ind {prog : Program} {w : World} {A : Around} {h₀ : Heap} {L : Addr} {m : Str → Option Value} {env : Env} {elt : Expr} {x : Str} {scope : Scope} {cl : List (Str × Addr)} {s : Shared} {S : List (Addr × Obj) → Prop} {P : Nat → Value → Prop} {Fin : List Value → List (Addr × Obj) → Prop} {q0 q1 q2 q3 q4 q5 q6 q7 q8 q9 q10 q11 q12 q13 q14 : Addr × Obj} {n : Nat} {Inv : Nat → List Value → List (Addr × Obj) → Prop}
    (hnil : ∀ ys tl, Inv n ys tl → Fin ys (q0 :: q1 :: q2 :: q3 :: q4 :: q5 :: q6 :: q7 :: q8 :: q9 :: q10 :: q11 :: q12 :: q13 :: q14 :: tl))
    (hturn : ∀ (k i : Nat) (ys : List Value) (tl : List (Addr × Obj)), i < n → Inv i ys tl → (∀ y tl', Inv (i + 1) (ys ++ [y]) tl' → LCg.CompRest prog w A h₀ L m env elt x scope cl s S P Fin k (i + 1) (ys ++ [y]) (q0 :: q1 :: q2 :: q3 :: q4 :: q5 :: q6 :: q7 :: q8 :: q9 :: q10 :: q11 :: q12 :: q13 :: q14 :: tl')) → LCg.CompRest prog w A h₀ L m env elt x scope cl s S P Fin (k + 1) i ys (q0 :: q1 :: q2 :: q3 :: q4 :: q5 :: q6 :: q7 :: q8 :: q9 :: q10 :: q11 :: q12 :: q13 :: q14 :: tl)) :
    ∀ (k i : Nat) (ys : List Value) (tl : List (Addr × Obj)), i + k = n → Inv i ys tl → LCg.CompRest prog w A h₀ L m env elt x scope cl s S P Fin k i ys (q0 :: q1 :: q2 :: q3 :: q4 :: q5 :: q6 :: q7 :: q8 :: q9 :: q10 :: q11 :: q12 :: q13 :: q14 :: tl) :=
  fun k i ys tl hi hI => up_ind (R := fun k i (p : List Value × List (Addr × Obj)) => LCg.CompRest prog w A h₀ L m env elt x scope cl s S P Fin k i p.1 (q0 :: q1 :: q2 :: q3 :: q4 :: q5 :: q6 :: q7 :: q8 :: q9 :: q10 :: q11 :: q12 :: q13 :: q14 :: p.2)) (I := fun i p => Inv i p.1 p.2) (fun p h => LCg.CompRest.zero (hnil p.1 p.2 h)) (fun k i p hi hI ih => hturn k i p.1 p.2 hi hI fun y tl' hI' => ih (_, tl') hI') k i (ys, tl) hi hI
/-- a column as it stands in the ledger -/
inductive ColAt (st : Int) (zs : List Int) (tl : List (Addr × Obj)) (j : Nat) (v : Value) : Prop
  | mk (T : Addr) (ot : Obj) (rs rg : Addr) (us ug : List Value) (nt : Nat) : v = .ref T → (T, ot) ∈ tl → ot.cls = .type "tuple" → ot.data = .seq #[.ref rs, .ref rg] nt → (rs, LCg.lst us) ∈ tl → (rg, LCg.lst ug) ∈ tl →
    IntsAre us ((List.range 4).map (sumsP st (zs.take j))) → IntsAre ug ((List.range 4).map (gapsP st (zs.take j))) → ColAt st zs tl j v
/-- the columns told so far, in the ledger -/
structure ColsI (st : Int) (zs : List Int) (tups : List (Addr × Obj)) (cA cD : Addr) (i : Nat) (ys : List Value) (tl : List (Addr × Obj)) : Prop where
  len : ys.length = i
  all : ∀ (j : Nat) (v : Value), ys[j]? = some v → ColAt st zs tl j v
  sub : ∀ q ∈ tups, q ∈ tl
  oA : ∀ p ∈ tl, p.1 ≠ cA
  oD : ∀ p ∈ tl, p.1 ≠ cD
theorem last_at {α : Type} {ys : List α} {x v : α} {j : Nat} (e : (ys ++ [x])[j]? = some v) : ys[j]? = some v ∨ (j = ys.length ∧ v = x) := by
  rcases Nat.lt_or_ge j ys.length with h | h
  · rw [List.getElem?_append_left h] at e; exact .inl e
  · rw [List.getElem?_append_right h, List.getElem?_singleton] at e
    split at e
    · rename_i h0
      cases e
      exact .inr ⟨Nat.le_antisymm (Nat.le_of_sub_eq_zero h0) h, rfl⟩
    · cases e
theorem ColsI.step {st : Int} {zs : List Int} {tups : List (Addr × Obj)} {cA cD r rs rg : Addr} {oR : Obj} {u g : List Value} {nR i : Nat} {ys : List Value} {tl : List (Addr × Obj)} (h : ColsI st zs tups cA cD i ys tl) (hc : oR.cls = .type "tuple") (hd : oR.data = .seq #[.ref rs, .ref rg] nR)
    (hu : IntsAre u ((List.range 4).map (sumsP st (zs.take i)))) (hg : IntsAre g ((List.range 4).map (gapsP st (zs.take i)))) (hA : ∀ b ∈ [r, rs, rg], b ≠ cA) (hD : ∀ b ∈ [r, rs, rg], b ≠ cD) : ColsI st zs tups cA cD (i + 1) (ys ++ [.ref r]) ((r, oR) :: (rs, LCg.lst u) :: (rg, LCg.lst g) :: tl) := by
  have up : ∀ {q : Addr × Obj}, q ∈ tl → q ∈ (r, oR) :: (rs, LCg.lst u) :: (rg, LCg.lst g) :: tl := fun hq => .tail _ (.tail _ (.tail _ hq))
  refine ⟨by rw [List.length_append, h.len]; rfl, fun j v e => ?_, fun q hq => up (h.sub q hq), all1 (hA _ (mem_at 0 rfl)) (all1 (hA _ (mem_at 1 rfl)) (all1 (hA _ (mem_at 2 rfl)) h.oA)), all1 (hD _ (mem_at 0 rfl)) (all1 (hD _ (mem_at 1 rfl)) (all1 (hD _ (mem_at 2 rfl)) h.oD))⟩
  rcases last_at e with e | ⟨rfl, rfl⟩
  · obtain ⟨T, ot, rs', rg', us', ug', nt, e1, e2, e3, e4, e5, e6, e7, e8⟩ := h.all j v e
    exact .mk T ot rs' rg' us' ug' nt e1 (up e2) e3 e4 (up e5) (up e6) e7 e8
  · rw [h.len]
    exact .mk r oR rs rg u g nR rfl (.head _) hc hd (mem_at 1 rfl) (mem_at 2 rfl) hu hg
theorem led_col {g h h' : Heap} {L : Addr} {m : Str → Option Value} {sl i0 i1 i2 r0 r1 r2 : Addr × Obj} {pre tl : List (Addr × Obj)} (N : News g L h (sl :: i0 :: i1 :: i2 :: (pre ++ tl))) (F : Fr g L h m) (hkp : ∀ b o, h.get? b = some o → h'.get? b = some o) (hr : ∀ q ∈ [r0, r1, r2], h'.get? q.1 = some q.2 ∧ h.get? q.1 = none) :
    News g L h' (i0 :: i1 :: i2 :: (pre ++ (r0 :: r1 :: r2 :: tl))) := by
  have old : ∀ q ∈ (sl :: i0 :: i1 :: i2 :: (pre ++ tl)), h'.get? q.1 = some q.2 ∧ q.1 ≠ L ∧ g.get? q.1 = none := fun q hm => ⟨hkp _ _ (N q hm).1, (N q hm).2⟩
  have new : ∀ q ∈ [r0, r1, r2], h'.get? q.1 = some q.2 ∧ q.1 ≠ L ∧ g.get? q.1 = none := fun q hm => ⟨(hr q hm).1, Ne.symm (fr_ne F (hr q hm).2), none_of F (hr q hm).2⟩
  exact all1 (old _ (mem_at 1 rfl)) (all1 (old _ (mem_at 2 rfl)) (all1 (old _ (mem_at 3 rfl)) (all_app (fun q hq => old _ (.tail _ (.tail _ (.tail _ (.tail _ (List.mem_append_left _ hq)))))) (all1 (new _ (mem_at 0 rfl)) (all1 (new _ (mem_at 1 rfl)) (all1 (new _ (mem_at 2 rfl)) fun q hq => old _ (.tail _ (.tail _ (.tail _ (.tail _ (List.mem_append_right _ hq)))))))))))
theorem off_col {h h' : Heap} {I C D : Addr} {oI oC oD : Obj} {r0 r1 r2 : Addr × Obj} {pre tl : List (Addr × Obj)} (off : LCg.Off3 I C D (pre ++ tl)) (hI : h.get? I = some oI) (hC : h.get? C = some oC) (hD : h.get? D = some oD) (hr : ∀ q ∈ [r0, r1, r2], h'.get? q.1 = some q.2 ∧ h.get? q.1 = none) :
    LCg.Off3 I C D (pre ++ (r0 :: r1 :: r2 :: tl)) := LCg.Off3.of fun p hp => by
  rcases List.mem_append.mp hp with hp | hp
  · exact off.mem p (List.mem_append_left _ hp)
  rw [show r0 :: r1 :: r2 :: tl = [r0, r1, r2] ++ tl from rfl] at hp
  rcases List.mem_append.mp hp with hp | hp
  · exact ⟨ne_fresh (hr p hp).2 hI, ne_fresh (hr p hp).2 hC, ne_fresh (hr p hp).2 hD⟩
  · exact off.mem p (List.mem_append_right _ hp)
theorem three_objs {g h : Heap} {a0 a1 a2 : Addr} {o0 o1 o2 : Obj} (f0 : g.get? a0 = none) (f1 : g.get? a1 = none) (f2 : g.get? a2 = none) (h0 : h.get? a0 = some o0) (h1 : h.get? a1 = some o1) (h2 : h.get? a2 = some o2) : ∀ q ∈ [(a0, o0), (a1, o1), (a2, o2)], h.get? q.1 = some q.2 ∧ g.get? q.1 = none := by
  exact all1 ⟨h0, f0⟩ (all1 ⟨h1, f1⟩ (all1 ⟨h2, f2⟩ all0))
theorem three_ne {g h : Heap} {L a0 a1 a2 c : Addr} {oc : Obj} {l : List (Addr × Obj)} (N : News g L h l) (hm : (c, oc) ∈ l) (f0 : h.get? a0 = none) (f1 : h.get? a1 = none) (f2 : h.get? a2 = none) : ∀ b ∈ [a0, a1, a2], b ≠ c := by
  exact all1 (new_ne N hm f0) (all1 (new_ne N hm f1) (all1 (new_ne N hm f2) all0))
theorem wp_joinF {M : Model} {A : Around} {E : Value → Shared → Prop} {env : Env} {st : Stmt} {rest : List Stmt} {Q : Flow → Shared → Prop} {s : Shared} {g : Heap} {L : Addr} {m : Str → Option Value} {news : List (Addr × Obj)} (_F : Fr g L s.heap m) (_N : News g L s.heap news)
    (h1 : wpAny M A (exec st env) (fun f s' => f = .next ∧ ∃ h tk, s' = { s with heap := h, toks := tk } ∧ Fr g L h m ∧ News g L h news) E s)
    (h2 : ∀ h tk, Fr g L h m → News g L h news → wpAny M A (execs rest env) Q E { s with heap := h, toks := tk }) : wpAny M A (execs (st :: rest) env) Q E s := wp_join _F _N h1 h2
theorem restP_ind {prog : Program} {w : World} {A : Around} {h₀ : Heap} {L : Addr} {m : Str → Option Value} {env : Env} {elt : Expr} {x x₂ : Str} {scope : Scope} {cl : List (Str × Addr)} {s : Shared} {S : List (Addr × Obj) → Prop} {P : Nat → Value → Prop} {Fin : List Value → List (Addr × Obj) → Prop} {news : List (Addr × Obj)} {n : Nat} {f : Nat → Int}
    (hnil : ∀ ys, IntsAre ys ((List.range n).map f) → Fin ys news)
    (hturn : ∀ (k i : Nat) (ys : List Value), i < n → (∀ y t', y = f i → LCp.CompRestP prog w A h₀ L m env elt x x₂ scope cl s S P Fin k (i + 1) (ys ++ [.int y t']) news) → LCp.CompRestP prog w A h₀ L m env elt x x₂ scope cl s S P Fin (k + 1) i ys news) :
    ∀ (k i : Nat) (ys : List Value), i + k = n → IntsAre ys ((List.range i).map f) → LCp.CompRestP prog w A h₀ L m env elt x x₂ scope cl s S P Fin k i ys news :=
  fun k i ys hi hy => up_ind (R := fun k i ys => LCp.CompRestP prog w A h₀ L m env elt x x₂ scope cl s S P Fin k i ys news) (I := fun i ys => IntsAre ys ((List.range i).map f)) (fun ys h => .zero (hnil ys h)) (fun k i ys hi hy ih => hturn k i ys hi fun y t' hpy => ih _ (ints_range hy hpy)) k i ys hi hy
theorem sideG_congr {g g' : Nat → Int} : ∀ {ks : List (Int × Int)}, (∀ k ∈ ks, g k.1.toNat = g' k.1.toNat) → sideG ks g = sideG ks g'
  | [], _ => rfl
  | (c, d) :: ks, h => by
    have h1 := h (c, d) (.head _)
    simp only at h1
    unfold sideG
    rw [h1, sideG_congr fun k hk => h k (.tail _ hk)]
theorem range4_getD (g : Nat → Int) {j : Nat} (h : j < 4) : ((List.range 4).map g).getD j 0 = g j := by
  have := nat4 h
  rcases this with rfl | rfl | rfl | rfl <;> rfl
theorem sides_eq {ks : List (Int × Int)} (hK : KeysGood ks) {st : Int} {zs : List Int} (hl : zs.length ≤ 4) : sidesP ks st zs = (List.range (zs.length + 1)).map fun i => sideG ks fun j => ((List.range 4).map (gapsP st (zs.take i))).getD j 0 := by
  unfold sidesP
  refine List.map_congr_left fun k hk => ?_
  rw [side_eq st (zs.take k) (by rw [List.length_take]; exact Nat.le_trans (Nat.min_le_right _ _) hl) ks hK.ok]
  refine sideG_congr fun q hq => ?_
  have := hK.ok q hq
  rw [range4_getD _ (by omega)]
theorem col_even {st : Int} {zs : List Int} (h : zs.length ≤ 4) {j : Nat} (hj : j < 4) : (pairP st zs).1.colN j = (sumsP st zs j + gapsP st zs j).fdiv 2 := (half_even (sums_eq st zs h j hj) (gaps_eq st zs h j hj)).1.symm
theorem col_odd {st : Int} {zs : List Int} (h : zs.length ≤ 4) {j : Nat} (hj : j < 4) : (pairP st zs).2.colN j = (sumsP st zs j - gapsP st zs j).fdiv 2 := (half_even (sums_eq st zs h j hj) (gaps_eq st zs h j hj)).2.symm
theorem ints_cons {ys : List Value} {n : Int} {ns : List Int} (h : IntsAre ys (n :: ns)) : ∃ t vs, ys = .int n t :: vs ∧ IntsAre vs ns := by
  cases h with
  | cons _ t h => exact ⟨t, _, rfl, h⟩
theorem ints4 {ys : List Value} {f : Nat → Int} (h : IntsAre ys ((List.range 4).map f)) : ∃ t0 t1 t2 t3, ys = [.int (f 0) t0, .int (f 1) t1, .int (f 2) t2, .int (f 3) t3] := by
  obtain ⟨t0, v0, rfl, h0⟩ := ints_cons h
  obtain ⟨t1, v1, rfl, h1⟩ := ints_cons h0
  obtain ⟨t2, v2, rfl, h2⟩ := ints_cons h1
  obtain ⟨t3, v3, rfl, h3⟩ := ints_cons h2
  cases h3
  exact ⟨t0, t1, t2, t3, rfl⟩
theorem off_swap {c : Addr} {q0 q1 q2 q3 q4 q5 q6 q7 : Addr × Obj} {tups tl : List (Addr × Obj)} (h : ∀ p ∈ q0 :: q1 :: q2 :: q3 :: q4 :: q5 :: q6 :: q7 :: tups, p.1 ≠ c) (h' : ∀ p ∈ tl, p.1 ≠ c) : ∀ p ∈ q0 :: q1 :: q2 :: q3 :: q4 :: q5 :: q6 :: q7 :: tl, p.1 ≠ c := by
  exact all1 (h _ (mem_at 0 rfl)) (all1 (h _ (mem_at 1 rfl)) (all1 (h _ (mem_at 2 rfl)) (all1 (h _ (mem_at 3 rfl)) (all1 (h _ (mem_at 4 rfl)) (all1 (h _ (mem_at 5 rfl)) (all1 (h _ (mem_at 6 rfl)) (all1 (h _ (mem_at 7 rfl)) h')))))))
theorem item_end {prog : Program} {w : World} {A : Around} {E : Value → Shared → Prop} {s : Shared} {value slice : Expr} {l : Addr} {ys : List Value} {n : Nat} {u : Tok} {x : Value} {Q : Value → Shared → Prop} (hl : s.heap.IsList l ys.toArray) (hn : ys.length = n + 1) (hb : n < 1000) (hx : ys[n]? = some x) (h : Q x s)
    (hs : subscripted slice false (.ref l) (.int (-1) u) = operate [.ref l, .int (-1) u] (getItem (.ref l) (.int (-1) u)) := by with_unfolding_all rfl) (hg : ∀ r, letTemporaryGo value (.ref l) r = pure () := by intro _; with_unfolding_all rfl) :
    wpAny (model prog w) A (PyProof.Rows.subscriptTail value slice (.ref l) (.int (-1) u)) Q E s := by
  have hsz : ys.toArray.size = n + 1 := List.size_toArray.trans hn
  refine subscriptTail_builtin hl.typeIs slot_list_getitem.lookup (wpAny_getItem_list_neg (x := x) hl (by decide) (by rw [hsz]; omega) (by decide) ?_ h) hs hg
  have e : ((-1 : Int) + ys.toArray.size).toNat = n := by rw [hsz]; omega
  rw [e]
  simpa using hx
theorem goodG_bool {c : ClaimW} {cl : Str → Option Addr} {mean : ExcName → Option Value} {args : List WData} {s₁ s' : Shared} {L : Addr} {m : Str → Option Value} {b : Bool} (F : Fr s₁.heap L s'.heap m) (hg : AllBare s'.gens) (hn : ∀ cls, c.raises args cls = false) (hp : c.post args (.bool b) args = true) (hos : s'.os = s₁.os := by rfl) :
    GoodWG c cl mean args s₁ (.ok (.ret (.bool b))) s' := ⟨.inl ⟨_, .bool b, [], rfl, hn, .bool b, hp, unshared_nil⟩, .of_keep F.keep, hos, hg⟩
structure Put (p : Prop) : Prop where
  get : p
set_option maxHeartbeats 80000000 in
noncomputable def law_0 : PSigma fun P : Prop => Put P → PySem.Challenge.rw_pe0063_01.Holds := ⟨_, fun put9 => Mine.hd (by
  k_fill
  intro w s₀ s₁ mg mb G Y fa o pm cd doc dV kV ho hdd hcd hD hmg hg args vals as hpre hlay hrd hwl hlo
  have KX := kIn_of Y
  have X := (Ground.X G).1
  have V := (Ground.X G).2
  try w_nolog (first | (have GL := glob_more (Ground.glob G (by first | k_qdec | decide +kernel) (by first | k_qdec | decide +kernel)) V) | (have GL := glob_more (Ground.glob G (by decide +kernel)) V))
  refine Ground.open G ?_
  intro T B D TE TW
  try (refine guard_noD D (by decide +kernel) ?_; clear D)
  refine hide fun G9 hG9 => ?_
  obtain ⟨_, _, M⟩ := bmod_of_top T
  refine hG9 ?_
  clear hG9 G9
  have TA := at_of_top T
  try (obtain ⟨_, _, he, B0⟩ := based_of_top T rfl hmg ho hdd; have he' : cd = _ := he; subst he'; clear he)
  clear hmg
  wrow_args hpre hlay hrd hwl hlo
  all_goals (
    first | refine callC_kw (enter_call ?_) | refine enter_call ?_ | refine callC_kw (enter_callW ?_) | refine enter_callW ?_ | w_how
    w_top on
    have K0 := below_caller (Top.heap T)
    w_call any ho hdd hcd hD T F
    clear hdd TA
    k_drop
    skip)
  replace F : Fr s₁.heap s₁.heap.objs.size _ (fun _ => none) := F
  refine wp_absE (by passes_own) fun Q9 E9 gQ9 gE9 pE9 => ?_
  all_goals try k_fold
  ((try k_fold); repeat' ((fail_if_success (with_reducible show wpAny _ _ (exec (Stmt.Assign _ (Expr.ListComp _ _ _ _) _) _) _ _ _)); (first | (k_unfold; (try dsimp only)) | walk1 | (dsimp only; walk1) | (leave1; walk_say "STEP leave1"; try dsimp only) | ((try dsimp only); (with_reducible refine Goes.at (by assumption) ?_); (try dsimp only)))))
  rename Fr _ _ _ _ => Fc
  rename News _ _ _ _ => Nc
  refine LCg.Assign_ListComp_U (F₀ := Fc) (by rfl) (by with_unfolding_all rfl) (by with_unfolding_all rfl) (by decide) (by rfl) (by decide) (by rfl) (by rfl) (by rfl) ?_
  ((try k_fold); repeat' ((fail_if_success (with_reducible show LCg.CompSrc _ _ _ _ _ _ _ _ _ _ _ _ _ _)); (first | (k_unfold; (try dsimp only)) | walk1 | (dsimp only; walk1) | (leave1; walk_say "STEP leave1"; try dsimp only) | ((try dsimp only); (with_reducible refine Goes.at (by assumption) ?_); (try dsimp only)))))
  rename IsRange _ _ _ _ _ _ _ _ => hR
  rename_i F8 N8 hkp8
  refine LCg.CompSrc.range (n := 6) rfl F8 N8 hR (by decide) (by decide) (by rw [sizeLine_eq]; decide) fun g => ?_
  refine restU_ind (n := 6) (Pp := fun _ => True) (fun ys cs hys hcl _ => ?_) (fun k i ys hi nxt => ?_) 6 0 [] [] rfl .nil rfl (fun _ h => nomatch h)
  rotate_left
  · repeat (rename Fr _ _ _ _ => Fx; clear Fx)
    repeat (rename News _ _ _ _ => Nx; clear Nx)
    clear hkp8 hR
    refine LCg.CompRest.succ ?_
    rintro v I oI C oC D m₂ h8 tk8 E8 ⟨t8, rfl⟩ hC8 hx8 F8 N8 off8 ne8
    rw [Int.zero_add] at hx8
    have off9 := off8
    simp only [LCg.Off3, and_true] at off8
    ((try k_fold); repeat' ((fail_if_success (with_reducible show LCg.CompEnd _ _ _ _ _ _ _ _ _ _ _ _ _ _)); (first | (k_unfold; (try dsimp only)) | walk1 | (dsimp only; walk1) | (leave1; walk_say "STEP leave1"; try dsimp only) | ((try dsimp only); (with_reducible refine Goes.at (by assumption) ?_); (try dsimp only)))))
    (try dsimp only)
    rename Fr _ _ _ _ => F9
    rename News _ _ _ _ => N9
    dsimp only at F9 N9
    rename IntsAre _ _ => hscr
    have hp := pick_ints hscr (some (i : Int)) none (some 6)
    refine hide fun G9 hG9 => ?_
    obtain ⟨us, ms, e, hms⟩ := hp
    refine hG9 ?_
    clear hG9 G9
    rw [e] at N9
    have hL9 := news_isl N9 (.head _) (us := us) rfl rfl
    refine' sumK ?k0 F9 N9 hL9 hms ?_
    case k0 => rfl
    intro h7 tk7 t7 F7 N7
    clear F9 N9
    ((try k_fold); repeat' ((fail_if_success (with_reducible show LCg.CompEnd _ _ _ _ _ _ _ _ _ _ _ _ _ _)); (first | (k_unfold; (try dsimp only)) | walk1 | (dsimp only; walk1) | (leave1; walk_say "STEP leave1"; try dsimp only) | ((try dsimp only); (with_reducible refine Goes.at (by assumption) ?_); (try dsimp only)))))
    exact ⟨_, _, _, rfl, F7, fun q hq => N7 q (.tail _ (.tail _ hq)), off9, trivial, nxt _ _ trivial⟩
  repeat (rename Fr _ _ _ _ => Fx; clear Fx)
  repeat (rename News _ _ _ _ => Nx; clear Nx)
  clear hkp8 hR
  intro D8 h8 tk8 F8 N8 off8
  simp only [LCg.Off1, and_true] at off8
  (try dsimp only)
  ((try k_fold); repeat' ((fail_if_success (with_reducible show wpAny _ _ (eval (Expr.ListComp _ _ _ _) _) _ _ _)); (first | (k_unfold; (try dsimp only)) | walk1 | (dsimp only; walk1) | (leave1; walk_say "STEP leave1"; try dsimp only) | ((try dsimp only); (with_reducible refine Goes.at (by assumption) ?_); (try dsimp only)))))
  rename Fr _ _ _ _ => Fc
  rename News _ _ _ _ => Nc
  rename (_ = Data.cell (some (Value.int (_ - 5) _))) => dst
  generalize hstv : Int.fmod _ 11 - 5 = st at dst
  have bst : -5 ≤ st ∧ st ≤ 5 := by rw [← hstv]; exact start_bound
  clear hstv
  refine LCg.ListComp_U (F₀ := Fc) (by with_unfolding_all rfl) (by decide) (by rfl) (by decide) (by rfl) ?_
  ((try k_fold); repeat' ((fail_if_success (with_reducible show LCg.CompSrc _ _ _ _ _ _ _ _ _ _ _ _ _ _)); (first | (k_unfold; (try dsimp only)) | walk1 | (dsimp only; walk1) | (leave1; walk_say "STEP leave1"; try dsimp only) | ((try dsimp only); (with_reducible refine Goes.at (by assumption) ?_); (try dsimp only)))))
  rename Fr _ _ _ _ => F8
  rename News _ _ _ _ => N8
  rename IntsAre _ (List.drop _ _) => hdr
  have hdl : (List.drop 1 cs).length = 5 := by rw [List.length_drop, hcl]
  have hwl := hdr.length
  rw [hdl] at hwl
  refine LCg.CompSrc.ledger rfl F8 N8 (.head _) (by rw [sizeLine_eq, List.size_toArray, hwl]; decide) fun g => ?_
  have hsz9 := List.size_toArray.trans hwl
  rw [hsz9]
  refine restU_ind (n := 5) (Pp := fun y => y = 127 ∨ -5 ≤ y ∧ y ≤ 5) (fun ys2 row0 hys2 hrl hrow0 => ?_) (fun k i ys2 hi nxt => ?_) 5 0 [] [] rfl .nil rfl (fun _ h => nomatch h)
  rotate_left
  · repeat (rename Fr _ _ _ _ => Fx; clear Fx)
    repeat (rename News _ _ _ _ => Nx; clear Nx)
    refine LCg.CompRest.succ ?_
    rintro v I oI C oC D m₂ h8 tk8 E8 hv hC8 hx8 F8 N8 off8 ne8
    obtain ⟨c9, t9, rfl⟩ : ∃ c t, v = Value.int c t := by
      have hj : i < (List.drop 1 cs).length := by rw [hdl]; exact hi
      refine hide fun G9 hG9 => ?_
      obtain ⟨t, ht⟩ := hdr.get i (List.drop 1 cs)[i] (List.getElem?_eq_getElem hj)
      refine hG9 ?_
      clear hG9 G9
      have hv' : _ := hv
      simp only [List.getElem?_toArray] at hv'
      rw [ht] at hv'
      exact ⟨_, t, (Option.some.inj hv').symm⟩
    have off9 := off8
    simp only [LCg.Off3, and_true] at off8
    ((try dsimp only); (try ((with_reducible refine wp_tok ?_); intro tk8)); ((try k_fold); repeat' ((fail_if_success (with_reducible show wpAny _ _ (exec (Stmt.For _ _ _ _ _) _) _ _ _)); (fail_if_success (with_reducible show wpAny _ _ (call (Value.ref _) _ _) _ _ _)); (first | (k_unfold; (try dsimp only)) | (k_end; wrow_close) | walk1 | (dsimp only; walk1) | (leave1; walk_say "STEP leave1"; try dsimp only) | ((try dsimp only); (with_reducible refine Goes.at (by assumption) ?_); (try dsimp only))))))
    refine size_spec K0 F8 KX T rfl (by decide) (by decide) fun y h7 tk7 t7 hkp7 hy7 => ?_
    exact ⟨_, _, _, rfl, fr_keep F8 hkp7, news_keep N8 hkp7, off9, .inr ⟨_, .head _, rfl, _, rfl⟩, nxt _ _ hy7⟩
  repeat (rename Fr _ _ _ _ => Fx; clear Fx)
  repeat (rename News _ _ _ _ => Nx; clear Nx)
  intro D7 h8 tk8 F8 N8 off8
  simp only [LCg.Off1, and_true] at off8
  ((try k_fold); repeat' ((fail_if_success (with_reducible show wpAny _ _ (PyProof.Rows.subscriptTail _ _ _ _) _ _ _)); (first | (k_unfold; (try dsimp only)) | walk1 | (dsimp only; walk1) | (leave1; walk_say "STEP leave1"; try dsimp only) | ((try dsimp only); (with_reducible refine Goes.at (by assumption) ?_); (try dsimp only)))))
  refine kba_turn (value' := PySem.Expr.Name (PySem.Str.ofString "_") ⟨0, 0, 0, 0⟩) (fun _ => rfl) ?_
  (refine' kmk_slice_ints ?slF ?slN ?sll ?slp ?slq ?sli ?slm ?slc ?_ ?sls ?slt ?slz; (case slF => k_asm); (case slN => k_asm); (case sll => kmk_list); (case slp => kmk_part); (case slq => kmk_part); (case sli => l_ints); (case slm => kmk_nums); (case slc => kmk_len); (case sls => with_unfolding_all rfl); (case slt => kmk_pure); (case slz => kmk_size))
  intro Dr wsr hq9 Fq Nq l1 hI9 hC9 hL9
  (try simp only [Int.reduceNeg, Int.neg_neg, Int.reduceToNat] at hI9 hC9 hL9)
  (try k_lt l1); (try k_sweep)
  ((try dsimp only); (try ((with_reducible refine wp_tok ?_); intro tk8)); ((try k_fold); repeat' ((fail_if_success (with_reducible show wpAny _ _ (exec (Stmt.For _ _ _ _ _) _) _ _ _)); (fail_if_success (with_reducible show wpAny _ _ (call (Value.ref _) _ _) _ _ _)); (first | (k_unfold; (try dsimp only)) | (k_end; wrow_close) | walk1 | (dsimp only; walk1) | (leave1; walk_say "STEP leave1"; try dsimp only) | ((try dsimp only); (with_reducible refine Goes.at (by assumption) ?_); (try dsimp only))))))
  rename Fr _ _ _ _ => F9
  rename News _ _ _ _ => N9
  rename (List.length (List.take _ row0) = _) => hC9
  rename (List.length (List.take _ row0) ≤ _) => hL9
  rename IntsAre _ (List.take _ row0) => hrow
  generalize hrr : List.take _ row0 = row at hrow hC9
  have hrl2 : 3 ≤ row.length ∧ row.length ≤ 5 := by
    rw [hC9, hrl]; exact cut_len
  have hrow1 : ∀ x ∈ row, x = 127 ∨ -5 ≤ x ∧ x ≤ 5 := fun x hx => hrow0 x (List.mem_of_mem_take (by rw [← hrr] at hx; exact hx))
  clear hC9 hL9 hrr
  rename (D7 < _ ∧ _) => lrow
  have rA := Nat.ne_of_gt lrow.2.2.2.1
  have rD := Nat.ne_of_gt lrow.2.2.2.2.1
  have rS := Nat.ne_of_gt lrow.2.2.2.2.2.1
  refine keys_spec K0 F9 KX T rfl (by decide) (by decide) keys_many fun kl kv kn tups ks h7 tk7 hkp7 hklN hkl hTup htups hKG hkn => ?_
  have oA := off_tups N9 (.tail _ (.tail _ (.tail _ (.tail _ (.head _))))) htups
  have oD := off_tups N9 (.tail _ (.tail _ (.tail _ (.tail _ (.tail _ (.head _)))))) htups
  have oS := off_tups N9 (.tail _ (.tail _ (.tail _ (.tail _ (.tail _ (.tail _ (.head _))))))) htups
  have oK := off_tups N9 (.tail _ (.tail _ (.tail _ (.tail _ (.tail _ (.tail _ (.tail _ (.head _)))))))) htups
  have kK := new_ne N9 (.tail _ (.tail _ (.tail _ (.tail _ (.tail _ (.tail _ (.tail _ (.head _)))))))) hklN
  have kS := new_ne N9 (.tail _ (.tail _ (.tail _ (.tail _ (.tail _ (.tail _ (.head _))))))) hklN
  have kD := new_ne N9 (.tail _ (.tail _ (.tail _ (.tail _ (.tail _ (.head _)))))) hklN
  have kA := new_ne N9 (.tail _ (.tail _ (.tail _ (.tail _ (.head _))))) hklN
  have N10 := led_keys N9 F9 hkp7 hklN hkl htups
  have F10 := fr_keep F9 hkp7
  clear N9 F9 hkp7 hklN hkl htups hys hdr hys2
  walk1
  clear kK
  ((try dsimp only); (try ((with_reducible refine wp_tok ?_); intro tk8)); ((try k_fold); repeat' ((fail_if_success (with_reducible show wpAny _ _ (exec (Stmt.For _ _ _ _ _) _) _ _ _)); (fail_if_success (with_reducible show wpAny _ _ (call (Value.ref _) _ _) _ _ _)); (first | (k_unfold; (try dsimp only)) | (k_end; wrow_close) | walk1 | (dsimp only; walk1) | (leave1; walk_say "STEP leave1"; try dsimp only) | ((try dsimp only); (with_reducible refine Goes.at (by assumption) ?_); (try dsimp only))))))
  rename Fr _ _ _ _ => F9
  rename News _ _ _ _ => N9
  clear oK
  refine run_spec K0 F9 KX T KX T (by exact hg) rfl (by decide) (by decide) (news_list N9 (.tail _ (.head _))) hrow (Nat.le_trans (by decide) hrl2.1) hrow1 (keysAt_of N9 (.head _) (fun q hq => .tail _ (.tail _ (.tail _ (.tail _ (.tail _ (.tail _ (.tail _ (.tail _ hq)))))))) hTup) hKG bst fun zs r h8 tk8 gens8 hzs hzb hzl F8 hkp8 hrN hRA hbare => ?_
  (try dsimp only)
  refine hide fun G9 hG9 => ?_
  obtain ⟨aT, aS, eE, eO, dE, dO, tv, sv, hfresh, hrT, hTl, hTv, hSl, hSv, hEE, hTE, hEO, hTO⟩ := hRA
  refine hG9 ?_
  clear hG9 G9
  refine hide fun G9 hG9 => ?_
  obtain ⟨oT, hoT, hcT, nT, hdT⟩ := hTl
  refine hG9 ?_
  clear hG9 G9
  refine hide fun G9 hG9 => ?_
  obtain ⟨oS9, hoS, hcS, nS, hdS⟩ := hSl
  refine hG9 ?_
  clear hG9 G9
  refine hide fun G9 hG9 => ?_
  obtain ⟨oE, odE, hoE, hodE, XE⟩ := EntObj.of hEE hTE
  refine hG9 ?_
  clear hG9 G9
  refine hide fun G9 hG9 => ?_
  obtain ⟨oO, odO, hoO, hodO, XO⟩ := EntObj.of hEO hTO
  refine hG9 ?_
  clear hG9 G9
  have hrO := run_objs hfresh hoT hoS hoE hoO hodE hodO
  have pA := rest_off (a0 := kl) (o0 := W.listOf kv kn) (a1 := Dr) (o1 := W.listOf wsr.toArray 0) N9 (.tail _ (.tail _ (.head _))) kA rA hrO oA
  have pD := rest_off (a0 := kl) (o0 := W.listOf kv kn) (a1 := Dr) (o1 := W.listOf wsr.toArray 0) N9 (.tail _ (.tail _ (.tail _ (.head _)))) kD rD hrO oD
  have pS := rest_off (a0 := kl) (o0 := W.listOf kv kn) (a1 := Dr) (o1 := W.listOf wsr.toArray 0) N9 (.tail _ (.tail _ (.tail _ (.tail _ (.head _))))) kS rS hrO oS
  have N8 := led_run N9 F9 hkp8 hrO
  clear N9 F9 hkp8 hfresh hoT hoS hoE hoO hodE hodO hrow1 hcl hEE hTE hEO hTO hrO oA oD oS kA kD kS rA rD rS lrow
  rename (_ = Data.cell (some (Value.ref kl))) => dkl
  refine assign_Tuple_tuple (by rfl) hrT rfl rfl fun h9 he => ?_
  have he' : ∀ b o, Heap.get? h8 b = some o → Heap.get? h9 b = some o := fun b o e => he b o (Nat.ne_of_lt (Heap.lt_size e)) e
  replace N8 := news_keep N8 he'
  replace F8 := fr_keep F8 he'
  clear he he' hrT hrN
  replace F8 : Fr s₁.heap _ _ _ := F8
  (try dsimp only)
  ((try k_fold); repeat' ((fail_if_success (with_reducible show wpAny _ _ (call (Value.builtin _) [Value.ref _] _) _ _ _)); (first | (k_unfold; (try dsimp only)) | walk1 | (dsimp only; walk1) | (leave1; walk_say "STEP leave1"; try dsimp only) | ((try dsimp only); (with_reducible refine Goes.at (by assumption) ?_); (try dsimp only)))))
  rename Fr _ _ _ _ => F9
  rename News _ _ _ _ => N9
  w_top off
  refine len_list (items := kv) (news_list N9 (.tail _ (.tail _ (.tail _ (.tail _ (.tail _ (.tail _ (.head _)))))))) (by rw [hTup.1]; exact c4 hKG.len.2 (by decide)) ?_
  rw [hTup.1]
  ((try dsimp only); (try ((with_reducible refine wp_tok ?_); intro tk8)); ((try k_fold); repeat' ((fail_if_success (with_reducible show wpAny _ _ (exec (Stmt.For _ _ _ _ _) _) _ _ _)); (fail_if_success (with_reducible show wpAny _ _ (call (Value.ref _) _ _) _ _ _)); (first | (k_unfold; (try dsimp only)) | (k_end; wrow_close) | walk1 | (dsimp only; walk1) | (leave1; walk_say "STEP leave1"; try dsimp only) | ((try dsimp only); (with_reducible refine Goes.at (by assumption) ?_); (try dsimp only))))))
  refine sizes_spec K0 F9 KX T rfl (by decide) (by decide) (news_list N9 (.tail _ (.tail _ (.tail _ (.tail _ (.tail _ (.tail _ (.tail _ (.head _))))))))) hrow ⟨Nat.le_trans (by decide) hrl2.1, hrl2.2⟩ ⟨Int.ofNat_le.mpr hKG.len.1, c3 hKG.len.2 (by decide)⟩ fun zl us h10 tk10 hkp10 hzN hzL hzI => ?_
  have zS := new_ne N9 (.tail _ (.tail _ (.head _))) hzN
  have zD := new_ne N9 (.tail _ (.head _)) hzN
  have zA := new_ne N9 (.head _) hzN
  replace N9 := news_add F9 hzN (news_keep N9 hkp10) hzL
  replace F9 := fr_keep F9 hkp10
  (try clear hzL); (try clear hzN); (try clear hkp10); (try clear hkp10); (try clear hzN); (try clear hzL)
  rw [Int.toNat_natCast, ← hzs] at hzI
  (try dsimp only)
  ((try k_fold); repeat' ((fail_if_success (with_reducible show wpAny _ _ (execs (Stmt.If _ _ _ _ :: _) _) _ _ _)); (first | (k_unfold; (try dsimp only)) | walk1 | (dsimp only; walk1) | (leave1; walk_say "STEP leave1"; try dsimp only) | ((try dsimp only); (with_reducible refine Goes.at (by assumption) ?_); (try dsimp only)))))
  rename Fr _ _ _ _ => F9
  rename News _ _ _ _ => N9
  rename (_ = Data.cell (some (Value.ref zl))) => dzl
  refine wp_join F9 N9 ?_ ?_
  · have hT9 : ∀ {h : Heap}, h.get? aT = some oT → h.IsList aT tv := fun e => ⟨oT, e, hcT, nT, hdT⟩
    ((try dsimp only); (try ((with_reducible refine wp_tok ?_); intro tk8)); ((try k_fold); repeat' ((fail_if_success (with_reducible show wpAny _ _ (exec (Stmt.For _ _ _ _ _) _) _ _ _)); (fail_if_success (with_reducible show wpAny _ _ (call (Value.ref _) _ _) _ _ _)); (first | (k_unfold; (try dsimp only)) | (k_end; wrow_close) | walk1 | (dsimp only; walk1) | (leave1; walk_say "STEP leave1"; try dsimp only) | ((try dsimp only); (with_reducible refine Goes.at (by assumption) ?_); (try dsimp only))))))
    all_goals rename Fr _ _ _ _ => F8
    all_goals rename News _ _ _ _ => N8
    · have htv : tv = #[.none] := by
        rcases hTv with ⟨_, e⟩ | ⟨e, _⟩
        · exact e
        · exact absurd ((head_getD (Nat.le_trans (by decide) hrl2.1)).mpr (by assumption)) e
      subst htv
      refine ne_none1 (hT9 (N8 (aT, oT) (by simp)).1) (news_list N8 (.head _)) (by units_room) ?_
      ((try dsimp only); (try ((with_reducible refine wp_tok ?_); intro tk8)); ((try k_fold); repeat' ((fail_if_success (with_reducible show wpAny _ _ (exec (Stmt.For _ _ _ _ _) _) _ _ _)); (fail_if_success (with_reducible show wpAny _ _ (call (Value.ref _) _ _) _ _ _)); (first | (k_unfold; (try dsimp only)) | (k_end; wrow_close) | walk1 | (dsimp only; walk1) | (leave1; walk_say "STEP leave1"; try dsimp only) | ((try dsimp only); (with_reducible refine Goes.at (by assumption) ?_); (try dsimp only))))))
      · assumption
      · exact fun q hq => N8 q (.tail _ hq)
    · have htv : IntsAre tv.toList zs := by
        rcases hTv with ⟨e, _⟩ | ⟨_, e⟩
        · exact absurd ((head_getD (Nat.le_trans (by decide) hrl2.1)).mp e) (by assumption)
        · exact e
      refine ne_intsK (vs := tv.toList) (by rw [Array.toArray_toList]; exact hT9 (N8 (aT, oT) (by simp)).1) htv (news_list N8 (.head _)) hzI (by units_room) ?_
      simp only [decide_true, Bool.not_true]
      ((try dsimp only); (try ((with_reducible refine wp_tok ?_); intro tk8)); ((try k_fold); repeat' ((fail_if_success (with_reducible show wpAny _ _ (exec (Stmt.For _ _ _ _ _) _) _ _ _)); (fail_if_success (with_reducible show wpAny _ _ (call (Value.ref _) _ _) _ _ _)); (first | (k_unfold; (try dsimp only)) | (k_end; wrow_close) | walk1 | (dsimp only; walk1) | (leave1; walk_say "STEP leave1"; try dsimp only) | ((try dsimp only); (with_reducible refine Goes.at (by assumption) ?_); (try dsimp only))))))
      · assumption
      · assumption
  (try clear hrow); (try clear hTv); (try clear N9); (try clear F9); (try clear F9); (try clear N9); (try clear hTv); (try clear hrow)
  intro h11 tk11 F9 N9
  (try dsimp only)
  rename_i z2x1 z2x2 z2x3 z2x4 z2x5 z2x6 z2x7 z2x8 z2x9 z2x10 z2x11 z2x12 z2x13 z2x14 z2x15 z2x16 z2x17 z2x18 z2x19 z2x20 z2x21 z2x22 z2x23 z2x24 z2x25 z2x26 z2x27 z2x28 z2x29 z2x30 z2x31 z2x32 z2x33 z2x34 z2x35 z2x36 z2x37 z2x38 z2x39 z2x40 z2x41 z2x42 z2x43 z2x44 z2x45 z2x46 z2x47 z2x48 z2x49 z2x50 z2x51 z2x52 z2x53 z2x54 z2x55 z2x56 z2x57 z2x58 z2x59 z2x60 z2x61 z2x62 z2x63 z2x64 z2x65 z2x66 z2x67 z2x68 z2x69 z2x70 z2x71 z2x72 z2x73 z2x74 z2x75 z2x76 z2x77 z2x78 z2x79 z2x80 z2x81 z2x82 z2x83 z2x84 z2x85 z2x86
  clear G Y o ho hg X V GL B TE TW z2x1 z2x2 M z2x4 hcd z2x6 z2x7 z2x8 z2x9 z2x10 z2x11 z2x12 z2x14 z2x15 z2x16 z2x17 z2x18 z2x19 z2x20 z2x21 z2x22 z2x23 hD z2x24 z2x25 z2x28 z2x29 z2x30 z2x34 z2x35 z2x36 z2x37 z2x38 gE9 pE9 z2x39 z2x40 z2x42 z2x43 z2x44 z2x45 z2x46 z2x47 z2x48 z2x49 z2x50 z2x51 z2x52 z2x53 ys cs z2x54 z2x57 z2x58 z2x59 z2x61 z2x62 z2x63 z2x64 z2x65 z2x66 z2x67 z2x68 hdl hwl g hsz9 ys2 row0 hrl hrow0 D7 z2x69 z2x70 off8 z2x71 z2x72 hq9 z2x73 z2x74 z2x75 z2x76 z2x77 hrl2 h7 tk7 hkn z2x78 r h8 z2x80 tv hcT nT hdT pS h9 z2x81 z2x82 z2x83 z2x84 tk tk8 qk ek h10 tk10 zS z2x85
  revert w s₀ s₁ mg mb fa pm doc KX T z2x3 z2x5 z2x13 K0 z2x26 z2x27 z2x31 z2x32 z2x33 Q9 E9 gQ9 z2x41 D8 z2x55 z2x56 z2x60 st dst bst Dr wsr row kl kv kn tups ks hTup hKG z2x79 dkl zs gens8 hzs hzb hzl hbare aT aS eE eO dE dO sv hSv oT oS9 hcS nS hdS oE odE XE oO odO XO pA pD zl us hzI zD zA z2x86 dzl h11 tk11 F9 N9
  exact put9.get)⟩
set_option maxHeartbeats 80000000 in
noncomputable def law_1 : PSigma fun P : Prop => Put P → law_0.1 := ⟨_, fun put9 => by
  intro w
  set_option tactic.hygienic false in intros
  w_top off
  ((try k_fold); repeat' ((fail_if_success (with_reducible show wpAny _ _ (exec (Stmt.Assign _ (Expr.ListComp _ _ _ _) _) _) _ _ _)); (first | (k_unfold; (try dsimp only)) | walk1 | (dsimp only; walk1) | (leave1; walk_say "STEP leave1"; try dsimp only) | ((try dsimp only); (with_reducible refine Goes.at (by assumption) ?_); (try dsimp only)))))
  refine LCg.Assign_ListComp_U (F₀ := F9) (by rfl) (by with_unfolding_all rfl) (by with_unfolding_all rfl) (by decide) (by rfl) (by decide) (by rfl) (by rfl) (by rfl) ?_
  ((try k_fold); repeat' ((fail_if_success (with_reducible show LCg.CompSrc _ _ _ _ _ _ _ _ _ _ _ _ _ _)); (fail_if_success (with_reducible show wpAny _ _ (call (Value.builtin "len") _ _) _ _ _)); (first | (k_unfold; (try dsimp only)) | walk1 | (dsimp only; walk1) | (leave1; walk_say "STEP leave1"; try dsimp only) | ((try dsimp only); (with_reducible refine Goes.at (by assumption) ?_); (try dsimp only)))))
  have hzsz : us.toArray.size = zs.length := List.size_toArray.trans hzI.length
  refine len_list (items := us.toArray) (news_list N9 (.head _)) (by rw [hzsz]; exact c4 hzl (by decide)) ?_
  rw [hzsz]
  ((try k_fold); repeat' ((fail_if_success (with_reducible show LCg.CompSrc _ _ _ _ _ _ _ _ _ _ _ _ _ _)); (first | (k_unfold; (try dsimp only)) | walk1 | (dsimp only; walk1) | (leave1; walk_say "STEP leave1"; try dsimp only) | ((try dsimp only); (with_reducible refine Goes.at (by assumption) ?_); (try dsimp only)))))
  rename IsRange _ _ _ _ _ _ _ _ => hR
  rename_i F8 N8 hkp8
  have hn1 : ((zs.length : Int) + 1) = ((zs.length + 1 : Nat) : Int) := rfl
  rw [hn1] at hR
  refine LCg.CompSrc.range (n := zs.length + 1) rfl F8 N8 hR (range_small (Nat.le_trans (Nat.succ_le_succ hzl) (by decide))) (range_size _) (by rw [sizeLine_eq]; exact Nat.le_trans (Nat.succ_le_succ hzl) (by decide)) fun g => ?_
  refine cols_ind (n := zs.length + 1) (Inv := ColsI st zs tups (s₁.heap.objs.size + 1 + 1 + 1 + 1 + 1 + 1) (s₁.heap.objs.size + 1 + 1 + 1 + 1 + 1)) (fun ysC tlC hIC => ?_) (fun k i ys tl hi hI nxt => ?_) (zs.length + 1) 0 [] tups (Nat.zero_add _) ⟨rfl, fun j v e => by simp at e, fun q hq => hq, fun p hp => pA p (by simp [hp]), fun p hp => pD p (by simp [hp])⟩
  · repeat (rename Fr _ _ _ _ => Fx; clear Fx)
    repeat (rename News _ _ _ _ => Nx; clear Nx)
    (try clear hR); (try clear hkp8); (try clear hkp8); (try clear hR)
    intro DC h8C tkC FC NC offC
    (try dsimp only)
    w_top off
    refine wp_join FC NC ?_ ?_
    · ((try k_fold); repeat' ((fail_if_success (with_reducible show wpAny _ _ (eval (Expr.ListComp _ _ _ _) _) _ _ _)); (first | (k_unfold; (try dsimp only)) | walk1 | (dsimp only; walk1) | (leave1; walk_say "STEP leave1"; try dsimp only) | ((try dsimp only); (with_reducible refine Goes.at (by assumption) ?_); (try dsimp only)))))
      refine LCp.ListComp_P (F₀ := FC) (by with_unfolding_all rfl) (by decide) (by rfl) (by decide) (by rfl) (by rfl) (by decide +kernel) ?_
      ((try k_fold); repeat' ((fail_if_success (with_reducible show LCp.SrcLP _ _ _ _ _ _ _ _ _ _ _ _ _ _ _)); (first | (k_unfold; (try dsimp only)) | walk1 | (dsimp only; walk1) | (leave1; walk_say "STEP leave1"; try dsimp only) | ((try dsimp only); (with_reducible refine Goes.at (by assumption) ?_); (try dsimp only)))))
      have hysz : ysC.toArray.size = zs.length + 1 := List.size_toArray.trans hIC.len
      refine LCp.SrcLP.ledger rfl FC NC (.head _) (by rw [hysz, sizeLine_eq]; exact Nat.le_trans (Nat.succ_le_succ hzl) (by decide)) fun g => ?_
      rw [hysz]
      refine restP_ind (n := zs.length + 1) (f := fun i => sideG ks fun j => ((List.range 4).map (gapsP st (zs.take i))).getD j 0) (fun ys2 hys2 => ?_) (fun k i ys2 hi nxt => ?_) (zs.length + 1) 0 [] (Nat.zero_add _) .nil
      · clear FC NC
        intro D9 h9 tk9 F9 N9 off9
        (try dsimp only)
        rw [← sides_eq hKG hzl] at hys2
        refine ne_intsK (vs := sv.toList) (us := ys2) (by rw [Array.toArray_toList]; exact ⟨oS9, (N9 (aS, oS9) (.tail _ (.tail _ (.tail _ (.tail _ (.tail _ (.tail _ (.tail _ (.tail _ (.tail _ (.tail _ (.tail _ (.tail _ (.head _)))))))))))))).1, hcS, nS, hdS⟩) hSv ⟨_, (N9 _ (.head _)).1, rfl, _, rfl⟩ hys2 (by units_room) ?_
        simp only [decide_true, Bool.not_true]
        ((try dsimp only); (try ((with_reducible refine wp_tok ?_); intro tk8)); ((try k_fold); repeat' ((fail_if_success (with_reducible show wpAny _ _ (exec (Stmt.For _ _ _ _ _) _) _ _ _)); (fail_if_success (with_reducible show wpAny _ _ (call (Value.ref _) _ _) _ _ _)); (first | (k_unfold; (try dsimp only)) | (k_end; wrow_close) | walk1 | (dsimp only; walk1) | (leave1; walk_say "STEP leave1"; try dsimp only) | ((try dsimp only); (with_reducible refine Goes.at (by assumption) ?_); (try dsimp only))))))
        · assumption
        · exact fun q hq => N9 q (.tail _ hq)
      · clear FC NC
        refine LCp.CompRestP.succ fun v hv => ?_
        have hv' : ysC[i]? = some v := by simpa using hv
        refine hide fun G9 hG9 => ?_
        obtain ⟨T9, ot, rs, rg, u9, g9, nt, rfl, m1, hct, hdt, m2, m3, hu9, hg9⟩ := hIC.all i v hv'
        refine hG9 ?_
        (try clear G9); (try clear hG9); (try clear hG9); (try clear G9)
        refine ⟨T9, ot, .ref rs, .ref rg, nt, rfl, (.tail _ (.tail _ (.tail _ (.tail _ (.tail _ (.tail _ (.tail _ (.tail _ (.tail _ (.tail _ (.tail _ (.tail _ (.tail _ (.tail _ (.tail _ (.tail _ m1)))))))))))))))), hct, hdt, ?_⟩
        intro I oI C oC D m₂ h8 tk8 E8 hC8 hx1 hx2 F8 N8 off8 ne8
        have off9 := off8
        simp only [LCg.Off3] at off8
        ((try dsimp only); (try ((with_reducible refine wp_tok ?_); intro tk8)); ((try k_fold); repeat' ((fail_if_success (with_reducible show wpAny _ _ (exec (Stmt.For _ _ _ _ _) _) _ _ _)); (fail_if_success (with_reducible show wpAny _ _ (call (Value.ref _) _ _) _ _ _)); (first | (k_unfold; (try dsimp only)) | (k_end; wrow_close) | walk1 | (dsimp only; walk1) | (leave1; walk_say "STEP leave1"; try dsimp only) | ((try dsimp only); (with_reducible refine Goes.at (by assumption) ?_); (try dsimp only))))))
        refine side_spec K0 F8 KX T rfl (by decide) (by decide) (keysAt_of N8 (.tail _ (.tail _ (.tail _ (.tail _ (.tail _ (.tail _ (.tail _ (.tail _ (.tail _ (.tail _ (.tail _ (.head _)))))))))))) (fun q hq => (.tail _ (.tail _ (.tail _ (.tail _ (.tail _ (.tail _ (.tail _ (.tail _ (.tail _ (.tail _ (.tail _ (.tail _ (.tail _ (.tail _ (.tail _ (.tail _ (.tail _ (.tail _ (.tail _ (hIC.sub q hq))))))))))))))))))))) hTup) hKG.ok hKG.len.2 ⟨_, (N8 (rg, LCg.lst g9) (.tail _ (.tail _ (.tail _ (.tail _ (.tail _ (.tail _ (.tail _ (.tail _ (.tail _ (.tail _ (.tail _ (.tail _ (.tail _ (.tail _ (.tail _ (.tail _ (.tail _ (.tail _ (.tail _ m3)))))))))))))))))))).1, rfl, _, rfl⟩ hg9 (by simp) fun h9 tk9 t9 hkp9 => ?_
        exact ⟨_, _, _, rfl, fr_keep F8 hkp9, news_keep N8 hkp9, off9, .inr ⟨_, .head _, rfl, _, rfl⟩, nxt _ _ rfl⟩
    intro h10D tk10D FD ND
    (try clear NC); (try clear FC); (try clear FC); (try clear NC)
    (try dsimp only)
    w_top off
    have dA : DC ≠ _ := Ne.symm offC.2.1
    have dD : DC ≠ _ := Ne.symm offC.2.2.1
    have pD9 := off_swap pD hIC.oD
    have pA9 := off_swap pA hIC.oA
    (try clear zS); (try clear pS); (try clear pD); (try clear pA); (try clear offC); (try clear offC); (try clear pA); (try clear pD); (try clear pS); (try clear zS)
    ((try k_fold); repeat' ((fail_if_success (with_reducible show wpAny _ _ (PyProof.Rows.subscriptTail _ _ _ _) _ _ _)); (first | (k_unfold; (try dsimp only)) | walk1 | (dsimp only; walk1) | (leave1; walk_say "STEP leave1"; try dsimp only) | ((try dsimp only); (with_reducible refine Goes.at (by assumption) ?_); (try dsimp only)))))
    have hlast : ∃ v, ysC[zs.length]? = some v := ⟨_, List.getElem?_eq_getElem (by rw [hIC.len]; exact Nat.lt_succ_self _)⟩
    refine hide fun G9 hG9 => ?_
    obtain ⟨vT, hvT⟩ := hlast
    refine hG9 ?_
    (try clear G9); (try clear hG9); (try clear hG9); (try clear G9)
    refine hide fun G9 hG9 => ?_
    obtain ⟨TE9, otE, rsE, rgE, uE, gE, ntE, rfl, m1, hct, hdt, m2, m3, huE, hgE⟩ := hIC.all _ vT hvT
    refine hG9 ?_
    (try clear G9); (try clear hG9); (try clear hG9); (try clear G9)
    rw [List.take_length] at huE hgE
    refine item_end ⟨_, (ND _ (.head _)).1, rfl, _, rfl⟩ hIC.len (Nat.lt_of_le_of_lt hzl (by decide)) hvT ?_
    (try dsimp only)
    refine assign_Tuple_tuple (by rfl) (t := TE9) ⟨otE, (ND (TE9, otE) (.tail _ (.tail _ (.tail _ (.tail _ (.tail _ (.tail _ (.tail _ (.tail _ (.tail _ (.tail _ (.tail _ (.tail _ (.tail _ (.tail _ (.tail _ (.tail _ m1))))))))))))))))).1, hct, ntE, hdt⟩ rfl rfl fun h9 he => ?_
    have he' : ∀ b o, Heap.get? h10D b = some o → Heap.get? h9 b = some o := fun b o e => he b o (Nat.ne_of_lt (Heap.lt_size e)) e
    replace ND := news_keep ND he'
    replace FD := fr_keep FD he'
    (try clear he'); (try clear he); (try clear he); (try clear he')
    (try dsimp only)
    ((try dsimp only); (try ((with_reducible refine wp_tok ?_); intro tk8)); ((try k_fold); repeat' ((fail_if_success (with_reducible show wpAny _ _ (exec (Stmt.For _ _ _ _ _) _) _ _ _)); (fail_if_success (with_reducible show wpAny _ _ (call (Value.ref _) _ _) _ _ _)); (first | (k_unfold; (try dsimp only)) | (k_end; wrow_close) | walk1 | (dsimp only; walk1) | (leave1; walk_say "STEP leave1"; try dsimp only) | ((try dsimp only); (with_reducible refine Goes.at (by assumption) ?_); (try dsimp only))))))
    rename Fr _ _ _ _ => F9
    rename News _ _ _ _ => N9
    refine tables_spec K0 F9 KX T rfl (by decide) (by decide) (news_list N9 (.tail _ (.head _))) hzI hzl fun rT d0 d1 q0 q1 h10T tk10T hkpT hfr hrT hd0 hd1 hlo hT0 hT1 => ?_
    have NT := news_add F9 hfr.1 (news_add F9 hfr.2.1 (news_add F9 hfr.2.2 (news_keep N9 hkpT) hd1) hd0) hrT
    have NU : News s₁.heap s₁.heap.objs.size h10T ((rsE, LCg.lst uE) :: (rgE, LCg.lst gE) :: _) := fun q hq => by
      rcases List.mem_cons.mp hq with rfl | hq
      · exact NT _ (.tail _ (.tail _ (.tail _ (.tail _ (.tail _ (.tail _ (.tail _ (.tail _ (.tail _ (.tail _ (.tail _ (.tail _ (.tail _ (.tail _ (.tail _ (.tail _ (.tail _ (.tail _ (.tail _ m2)))))))))))))))))))
      rcases List.mem_cons.mp hq with rfl | hq
      · exact NT _ (.tail _ (.tail _ (.tail _ (.tail _ (.tail _ (.tail _ (.tail _ (.tail _ (.tail _ (.tail _ (.tail _ (.tail _ (.tail _ (.tail _ (.tail _ (.tail _ (.tail _ (.tail _ (.tail _ m3)))))))))))))))))))
      · exact NT q hq
    have FU := fr_keep F9 hkpT
    (try clear pD9); (try clear pA9); (try clear zD); (try clear zA); (try clear dD); (try clear dA); (try clear NT); (try clear hd1); (try clear hd0); (try clear hrT); (try clear hfr); (try clear hkpT); (try clear F9); (try clear N9); (try clear N9); (try clear F9); (try clear hkpT); (try clear hfr); (try clear hrT); (try clear hd0); (try clear hd1); (try clear NT); (try clear dA); (try clear dD); (try clear zA); (try clear zD); (try clear pA9); (try clear pD9)
    (try dsimp only)
    ((try k_fold); repeat' ((fail_if_success (with_reducible show wpAny _ _ (execs (Stmt.If _ _ _ _ :: _) _) _ _ _)); (first | (k_unfold; (try dsimp only)) | walk1 | (dsimp only; walk1) | (leave1; walk_say "STEP leave1"; try dsimp only) | ((try dsimp only); (with_reducible refine Goes.at (by assumption) ?_); (try dsimp only)))))
    rename Fr _ _ _ _ => FE
    rename News _ _ _ _ => NE
    refine wp_join FE NE ?_ ?_
    · ((try k_fold); repeat' ((fail_if_success (with_reducible show wpAny _ _ (eval (Expr.ListComp _ _ _ _) _) _ _ _)); (first | (k_unfold; (try dsimp only)) | walk1 | (dsimp only; walk1) | (leave1; walk_say "STEP leave1"; try dsimp only) | ((try dsimp only); (with_reducible refine Goes.at (by assumption) ?_); (try dsimp only)))))
      (try dsimp only)
      rename Fr _ _ _ _ => FA
      rename News _ _ _ _ => NA
      dsimp only at FA NA
      refine LCg.ListComp_U (F₀ := FA) (by with_unfolding_all rfl) (by decide) (by rfl) (by decide) (by rfl) ?_
      ((try k_fold); repeat' ((fail_if_success (with_reducible show LCg.CompSrc _ _ _ _ _ _ _ _ _ _ _ _ _ _)); (first | (k_unfold; (try dsimp only)) | walk1 | (dsimp only; walk1) | (leave1; walk_say "STEP leave1"; try dsimp only) | ((try dsimp only); (with_reducible refine Goes.at (by assumption) ?_); (try dsimp only)))))
      (try dsimp only)
      rename IsRange _ _ _ _ _ _ _ _ => hR
      rename_i F8 N8 hkp8
      refine LCg.CompSrc.range (n := 4) rfl F8 N8 hR (by decide) (by decide) (by rw [sizeLine_eq]; decide) fun g => ?_
      refine restV_ind (n := 4) (fun j => (sumsP st zs j + gapsP st zs j).fdiv 2) (fun ys2 hys2 => ?_) (fun k i ys2 hi nxt => ?_) 4 0 [] rfl .nil
      rotate_left
      · repeat (rename Fr _ _ _ _ => Fx; clear Fx)
        repeat (rename News _ _ _ _ => Nx; clear Nx)
        (try clear hR); (try clear hkp8); (try clear hkp8); (try clear hR)
        refine LCg.CompRest.succ ?_
        rintro v I oI C oC D m₂ h8 tk8 E8 ⟨t8, rfl⟩ hC8 hx8 F8 N8 off8 ne8
        rw [Int.zero_add] at hx8
        have off9 := off8
        simp only [LCg.Off3] at off8
        ((try k_fold); repeat' ((fail_if_success (with_reducible show LCg.CompEnd _ _ _ _ _ _ _ _ _ _ _ _ _ _)); (first | (k_unfold; (try dsimp only)) | walk1 | (dsimp only; walk1) | (leave1; walk_say "STEP leave1"; try dsimp only) | ((try dsimp only); (with_reducible refine Goes.at (by assumption) ?_); (try dsimp only)))))
        exact ⟨_, _, _, rfl, F8, N8, off9, trivial, nxt _ _ (by rw [Int.toNat_natCast, range4_getD _ hi, range4_getD _ hi])⟩
      repeat (rename Fr _ _ _ _ => Fx; clear Fx)
      repeat (rename News _ _ _ _ => Nx; clear Nx)
      (try clear hR); (try clear hkp8); (try clear hkp8); (try clear hR)
      intro D9 h9 tk9 F9 N9 off9
      (try dsimp only)
      refine hide fun G9 hG9 => ?_
      obtain ⟨t0, t1, t2, t3, rfl⟩ := ints4 hys2
      refine hG9 ?_
      (try clear G9); (try clear hG9); (try clear hG9); (try clear G9)
      (try clear hys2)
      simp only [LCg.Off1] at off9
      ((try dsimp only); (try ((with_reducible refine wp_tok ?_); intro tk8)); ((try k_fold); repeat' ((fail_if_success (with_reducible show wpAny _ _ (exec (Stmt.For _ _ _ _ _) _) _ _ _)); (fail_if_success (with_reducible show wpAny _ _ (call (Value.ref _) _ _) _ _ _)); (first | (k_unfold; (try dsimp only)) | (k_end; wrow_close) | walk1 | (dsimp only; walk1) | (leave1; walk_say "STEP leave1"; try dsimp only) | ((try dsimp only); (with_reducible refine Goes.at (by assumption) ?_); (try dsimp only))))))
      rename News _ _ _ _ => N7
      refine hide fun G9 hG9 => ?_
      obtain ⟨⟨e0, e1, e2, e3, en, hec, hed⟩, -, -⟩ := id XE
      refine hG9 ?_
      (try clear G9); (try clear hG9); (try clear hG9); (try clear G9)
      have c0 : (pairP st zs).1.c0 = _ := col_even hzl (j := 0) (by decide)
      have c1 : (pairP st zs).1.c1 = _ := col_even hzl (j := 1) (by decide)
      have c2 : (pairP st zs).1.c2 = _ := col_even hzl (j := 2) (by decide)
      have c3 : (pairP st zs).1.c3 = _ := col_even hzl (j := 3) (by decide)
      have hpr := TabOk.pair (pair_ok st zs).1 (tables_ok st zs hzl).1
      refine ne_tuples ⟨oE, (N7 (eE, oE) (.tail _ (.tail _ (.tail _ (.tail _ (.tail _ (.tail _ (.tail _ (.tail _ (.tail _ (.tail _ (.tail _ (.tail _ (.tail _ (.tail _ (.tail _ (.tail _ (.tail _ (.tail _ (.tail _ (.tail _ (.tail _ (.head _))))))))))))))))))))))).1, hec, en, hed⟩ ⟨_, (N7 _ (.head _)).1, rfl, _, rfl⟩ rfl (by units_room) (entry_eq ⟨_, _, _, _, d0, (by rw [c0, c1, c2, c3]), tab_eq (XE.tab (a := eE) (N7 (dE, odE) (.tail _ (.tail _ (.tail _ (.tail _ (.tail _ (.tail _ (.tail _ (.tail _ (.tail _ (.tail _ (.tail _ (.tail _ (.tail _ (.tail _ (.tail _ (.tail _ (.tail _ (.tail _ (.tail _ (.tail _ (.tail _ (.tail _ (.tail _ (.head _))))))))))))))))))))))))).1) (.of_obj hlo.1 (N7 (d0, _) (.tail _ (.tail _ (.tail _ (.tail _ (.tail _ (.tail _ (.tail _ (.head _))))))))).1 hT0) hpr.1 hpr.2 (by units_room)⟩) ?_
      ((try dsimp only); (try ((with_reducible refine wp_tok ?_); intro tk8)); ((try k_fold); repeat' ((fail_if_success (with_reducible show wpAny _ _ (exec (Stmt.For _ _ _ _ _) _) _ _ _)); (fail_if_success (with_reducible show wpAny _ _ (call (Value.ref _) _ _) _ _ _)); (first | (k_unfold; (try dsimp only)) | (k_end; wrow_close) | walk1 | (dsimp only; walk1) | (leave1; walk_say "STEP leave1"; try dsimp only) | ((try dsimp only); (with_reducible refine Goes.at (by assumption) ?_); (try dsimp only))))))
      · assumption
      · exact fun q hq => N7 q (.tail _ (.tail _ (.tail _ (.tail _ hq))))
    intro h11E tk11E FG NG
    (try clear NE); (try clear FE); (try clear FE); (try clear NE)
    (try dsimp only)
    rename_i z5x1 z5x2 z5x3 z5x4 z5x5 z5x6 z5x7 z5x8 z5x9 z5x10 z5x11 z5x12 z5x13 z5x14 z5x15 z5x16
    clear pm doc z2x13 z2x26 z2x27 z2x32 z2x33 z2x55 z2x56 dst bst tups hTup hKG dkl hzb sv hSv hcS nS hdS hzI dzl h11 tk11 z5x1 z5x2 hzsz z5x3 z5x4 z5x5 z5x6 z5x7 z5x8 z5x9 hn1 g hIC h8C tkC h10D tk10D TE9 otE ntE m1 hct hdt m2 m3 hvT h9 tk8 qk ek z5x10 z5x13 h10T tk10T hT0 z5x16
    revert w s₀ s₁ mg mb fa KX T z2x3 z2x5 K0 z2x31 Q9 E9 gQ9 z2x41 D8 z2x60 st Dr wsr row kl kv kn ks z2x79 zs gens8 hzs hzl hbare aT aS eE eO dE dO oT oS9 oE odE XE oO odO XO zl us z2x86 ysC tlC DC rsE rgE uE gE huE hgE z5x11 z5x12 z5x14 z5x15 rT d0 d1 q0 q1 hlo hT1 h11E tk11E FG NG
    exact put9.get
  · repeat (rename Fr _ _ _ _ => Fx; clear Fx)
    repeat (rename News _ _ _ _ => Nx; clear Nx)
    (try clear hR); (try clear hkp8); (try clear hkp8); (try clear hR)
    refine LCg.CompRest.succ ?_
    rintro v I oI C oC D m₂ h8 tk8 E8 ⟨t8, rfl⟩ hC8 hx8 F8 N8 off8 ne8
    rw [Int.zero_add] at hx8
    have off9 := off8
    simp only [LCg.Off3] at off8
    ((try dsimp only); (try ((with_reducible refine wp_tok ?_); intro tk8)); ((try k_fold); repeat' ((fail_if_success (with_reducible show wpAny _ _ (exec (Stmt.For _ _ _ _ _) _) _ _ _)); (fail_if_success (with_reducible show wpAny _ _ (call (Value.ref _) _ _) _ _ _)); (first | (k_unfold; (try dsimp only)) | (k_end; wrow_close) | walk1 | (dsimp only; walk1) | (leave1; walk_say "STEP leave1"; try dsimp only) | ((try dsimp only); (with_reducible refine Goes.at (by assumption) ?_); (try dsimp only))))))
    rename Fr _ _ _ _ => F9
    rename News _ _ _ _ => N9
    rename IntsAre _ (List.take _ zs) => hsl
    rw [Int.toNat_natCast] at hsl
    refine cols_spec K0 F9 KX T rfl (by decide) (by decide) (news_list N9 (.head _)) hsl (by rw [List.length_take]; exact Nat.le_trans (Nat.min_le_right _ _) hzl) (fun z hz => hzb z (List.mem_of_mem_take hz)) bst fun r rs rg u2 g2 h10 tk10 hkp hrN hrsN hrgN hrT hrs hrg hsu hga => ?_
    refine hide fun G9 hG9 => ?_
    obtain ⟨oR, hoR, hcR, nR, hdR⟩ := hrT
    refine hG9 ?_
    (try clear G9); (try clear hG9); (try clear hG9); (try clear G9)
    have hr3 := three_objs hrN hrsN hrgN hoR hrs hrg
    exact ⟨_, _, _, rfl, fr_keep F9 hkp, led_col (pre := [_, _, _, _, _, _, _, _, _, _, _, _, _, _, _]) N9 F9 hkp hr3, off_col (pre := [_, _, _, _, _, _, _, _, _, _, _, _, _, _, _]) off9 (N9 _ (.tail _ (.head _))).1 (N9 _ (.tail _ (.tail _ (.head _)))).1 (N9 _ (.tail _ (.tail _ (.tail _ (.head _))))).1 hr3, trivial,
      nxt (.ref r) _ (hI.step hcR hdR hsu hga (three_ne N9 (.tail _ (.tail _ (.tail _ (.tail _ (.tail _ (.head _)))))) hrN hrsN hrgN) (three_ne N9 (.tail _ (.tail _ (.tail _ (.tail _ (.tail _ (.tail _ (.head _))))))) hrN hrsN hrgN))⟩⟩
set_option maxHeartbeats 80000000 in
theorem law_2 : law_1.1 := by
  intro w
  set_option tactic.hygienic false in intros
  w_top off
  refine wp_join FG NG ?_ ?_
  · ((try k_fold); repeat' ((fail_if_success (with_reducible show wpAny _ _ (eval (Expr.ListComp _ _ _ _) _) _ _ _)); (first | (k_unfold; (try dsimp only)) | walk1 | (dsimp only; walk1) | (leave1; walk_say "STEP leave1"; try dsimp only) | ((try dsimp only); (with_reducible refine Goes.at (by assumption) ?_); (try dsimp only)))))
    (try dsimp only)
    rename Fr _ _ _ _ => FA
    rename News _ _ _ _ => NA
    dsimp only at FA NA
    refine LCg.ListComp_U (F₀ := FA) (by with_unfolding_all rfl) (by decide) (by rfl) (by decide) (by rfl) ?_
    ((try k_fold); repeat' ((fail_if_success (with_reducible show LCg.CompSrc _ _ _ _ _ _ _ _ _ _ _ _ _ _)); (first | (k_unfold; (try dsimp only)) | walk1 | (dsimp only; walk1) | (leave1; walk_say "STEP leave1"; try dsimp only) | ((try dsimp only); (with_reducible refine Goes.at (by assumption) ?_); (try dsimp only)))))
    (try dsimp only)
    rename IsRange _ _ _ _ _ _ _ _ => hR
    rename_i F8 N8 hkp8
    refine LCg.CompSrc.range (n := 4) rfl F8 N8 hR (by decide) (by decide) (by rw [sizeLine_eq]; decide) fun g => ?_
    refine restV_ind (n := 4) (fun j => (sumsP st zs j - gapsP st zs j).fdiv 2) (fun ys2 hys2 => ?_) (fun k i ys2 hi nxt => ?_) 4 0 [] rfl .nil
    rotate_left
    · repeat (rename Fr _ _ _ _ => Fx; clear Fx)
      repeat (rename News _ _ _ _ => Nx; clear Nx)
      (try clear hR); (try clear hkp8); (try clear hkp8); (try clear hR)
      refine LCg.CompRest.succ ?_
      rintro v I oI C oC D m₂ h8 tk8 E8 ⟨t8, rfl⟩ hC8 hx8 F8 N8 off8 ne8
      rw [Int.zero_add] at hx8
      have off9 := off8
      simp only [LCg.Off3] at off8
      ((try k_fold); repeat' ((fail_if_success (with_reducible show LCg.CompEnd _ _ _ _ _ _ _ _ _ _ _ _ _ _)); (first | (k_unfold; (try dsimp only)) | walk1 | (dsimp only; walk1) | (leave1; walk_say "STEP leave1"; try dsimp only) | ((try dsimp only); (with_reducible refine Goes.at (by assumption) ?_); (try dsimp only)))))
      exact ⟨_, _, _, rfl, F8, N8, off9, trivial, nxt _ _ (by rw [Int.toNat_natCast, range4_getD _ hi, range4_getD _ hi])⟩
    repeat (rename Fr _ _ _ _ => Fx; clear Fx)
    repeat (rename News _ _ _ _ => Nx; clear Nx)
    (try clear hR); (try clear hkp8); (try clear hkp8); (try clear hR)
    intro D9 h9 tk9 F9 N9 off9
    (try dsimp only)
    refine hide fun G9 hG9 => ?_
    obtain ⟨t0, t1, t2, t3, rfl⟩ := ints4 hys2
    refine hG9 ?_
    (try clear G9); (try clear hG9); (try clear hG9); (try clear G9)
    (try clear hys2)
    simp only [LCg.Off1] at off9
    ((try dsimp only); (try ((with_reducible refine wp_tok ?_); intro tk8)); ((try k_fold); repeat' ((fail_if_success (with_reducible show wpAny _ _ (exec (Stmt.For _ _ _ _ _) _) _ _ _)); (fail_if_success (with_reducible show wpAny _ _ (call (Value.ref _) _ _) _ _ _)); (first | (k_unfold; (try dsimp only)) | (k_end; wrow_close) | walk1 | (dsimp only; walk1) | (leave1; walk_say "STEP leave1"; try dsimp only) | ((try dsimp only); (with_reducible refine Goes.at (by assumption) ?_); (try dsimp only))))))
    rename News _ _ _ _ => N7
    refine hide fun G9 hG9 => ?_
    obtain ⟨⟨e0, e1, e2, e3, en, hec, hed⟩, -, -⟩ := id XO
    refine hG9 ?_
    (try clear G9); (try clear hG9); (try clear hG9); (try clear G9)
    have c0 : (pairP st zs).2.c0 = _ := col_odd hzl (j := 0) (by decide)
    have c1 : (pairP st zs).2.c1 = _ := col_odd hzl (j := 1) (by decide)
    have c2 : (pairP st zs).2.c2 = _ := col_odd hzl (j := 2) (by decide)
    have c3 : (pairP st zs).2.c3 = _ := col_odd hzl (j := 3) (by decide)
    have hpr := TabOk.pair (pair_ok st zs).2 (tables_ok st zs hzl).2
    refine ne_tuples ⟨oO, (N7 (eO, oO) (.tail _ (.tail _ (.tail _ (.tail _ (.tail _ (.tail _ (.tail _ (.tail _ (.tail _ (.tail _ (.tail _ (.tail _ (.tail _ (.tail _ (.tail _ (.tail _ (.tail _ (.tail _ (.tail _ (.tail _ (.tail _ (.tail _ (.head _)))))))))))))))))))))))).1, hec, en, hed⟩ ⟨_, (N7 _ (.head _)).1, rfl, _, rfl⟩ rfl (by units_room) (entry_eq ⟨_, _, _, _, d1, (by rw [c0, c1, c2, c3]), tab_eq (XO.tab (a := eO) (N7 (dO, odO) (.tail _ (.tail _ (.tail _ (.tail _ (.tail _ (.tail _ (.tail _ (.tail _ (.tail _ (.tail _ (.tail _ (.tail _ (.tail _ (.tail _ (.tail _ (.tail _ (.tail _ (.tail _ (.tail _ (.tail _ (.tail _ (.tail _ (.tail _ (.tail _ (.head _)))))))))))))))))))))))))).1) (.of_obj hlo.2 (N7 (d1, _) (.tail _ (.tail _ (.tail _ (.tail _ (.tail _ (.tail _ (.tail _ (.tail _ (.head _)))))))))).1 hT1) hpr.1 hpr.2 (by units_room)⟩) ?_
    ((try dsimp only); (try ((with_reducible refine wp_tok ?_); intro tk8)); ((try k_fold); repeat' ((fail_if_success (with_reducible show wpAny _ _ (exec (Stmt.For _ _ _ _ _) _) _ _ _)); (fail_if_success (with_reducible show wpAny _ _ (call (Value.ref _) _ _) _ _ _)); (first | (k_unfold; (try dsimp only)) | (k_end; wrow_close) | walk1 | (dsimp only; walk1) | (leave1; walk_say "STEP leave1"; try dsimp only) | ((try dsimp only); (with_reducible refine Goes.at (by assumption) ?_); (try dsimp only))))))
    · assumption
    · exact fun q hq => N7 q (.tail _ (.tail _ (.tail _ (.tail _ hq))))
  intro h12E tk12E FH NH
  (try clear NG); (try clear FG); (try clear FG); (try clear NG)
  (try dsimp only)
  w_top off
  refine hide fun G9 hG9 => ?_
  obtain ⟨⟨e0, e1, e2, e3, en, hec, hed⟩, -, -⟩ := id XE
  refine hG9 ?_
  (try clear G9); (try clear hG9); (try clear hG9); (try clear G9)
  refine hide fun G9 hG9 => ?_
  obtain ⟨⟨f0, f1, f2, f3, fn, hfc, hfd⟩, -, -⟩ := id XO
  refine hG9 ?_
  (try clear G9); (try clear hG9); (try clear hG9); (try clear G9)
  ((try dsimp only); (try ((with_reducible refine wp_tok ?_); intro tk8)); ((try k_fold); repeat' ((fail_if_success (with_reducible show wpAny _ _ (exec (Stmt.For _ _ _ _ _) _) _ _ _)); (fail_if_success (with_reducible show wpAny _ _ (call (Value.ref _) _ _) _ _ _)); (first | (k_unfold; (try dsimp only)) | (k_end; wrow_close) | walk1 | (dsimp only; walk1) | (leave1; walk_say "STEP leave1"; try dsimp only) | ((try dsimp only); (with_reducible refine Goes.at (by assumption) ?_); (try dsimp only))))))
  refine item_tuple ⟨oE, (NH (eE, oE) (.tail _ (.tail _ (.tail _ (.tail _ (.tail _ (.tail _ (.tail _ (.tail _ (.tail _ (.tail _ (.tail _ (.tail _ (.tail _ (.tail _ (.tail _ (.tail _ (.tail _ (.head _))))))))))))))))))).1, hec, en, hed⟩ (by decide) (by decide) (j := 4) (x := .ref dE) rfl rfl ?_
  ((try dsimp only); (try ((with_reducible refine wp_tok ?_); intro tk8)); ((try k_fold); repeat' ((fail_if_success (with_reducible show wpAny _ _ (exec (Stmt.For _ _ _ _ _) _) _ _ _)); (fail_if_success (with_reducible show wpAny _ _ (call (Value.ref _) _ _) _ _ _)); (first | (k_unfold; (try dsimp only)) | (k_end; wrow_close) | walk1 | (dsimp only; walk1) | (leave1; walk_say "STEP leave1"; try dsimp only) | ((try dsimp only); (with_reducible refine Goes.at (by assumption) ?_); (try dsimp only))))))
  refine count_spec K0 FH KX T rfl (by decide) (by decide) (XE.tab (a := eE) (NH (dE, odE) (.tail _ (.tail _ (.tail _ (.tail _ (.tail _ (.tail _ (.tail _ (.tail _ (.tail _ (.tail _ (.tail _ (.tail _ (.tail _ (.tail _ (.tail _ (.tail _ (.tail _ (.tail _ (.tail _ (.head _))))))))))))))))))))).1) fun hX tkX tX hkpX => ?_
  rw [(vals_pair st zs).1]
  replace NH := news_keep NH hkpX
  replace FH := fr_keep FH hkpX
  (try clear hkpX)
  (try dsimp only)
  ((try dsimp only); (try ((with_reducible refine wp_tok ?_); intro tk8)); ((try k_fold); repeat' ((fail_if_success (with_reducible show wpAny _ _ (exec (Stmt.For _ _ _ _ _) _) _ _ _)); (fail_if_success (with_reducible show wpAny _ _ (call (Value.ref _) _ _) _ _ _)); (first | (k_unfold; (try dsimp only)) | (k_end; wrow_close) | walk1 | (dsimp only; walk1) | (leave1; walk_say "STEP leave1"; try dsimp only) | ((try dsimp only); (with_reducible refine Goes.at (by assumption) ?_); (try dsimp only))))))
  refine item_tuple ⟨oE, (NH (eE, oE) (.tail _ (.tail _ (.tail _ (.tail _ (.tail _ (.tail _ (.tail _ (.tail _ (.tail _ (.tail _ (.tail _ (.tail _ (.tail _ (.tail _ (.tail _ (.tail _ (.tail _ (.head _))))))))))))))))))).1, hec, en, hed⟩ (by decide) (by decide) (j := 0) (x := .int (pairP st zs).1.c0 e0) rfl rfl ?_
  ((try dsimp only); (try ((with_reducible refine wp_tok ?_); intro tk8)); ((try k_fold); repeat' ((fail_if_success (with_reducible show wpAny _ _ (exec (Stmt.For _ _ _ _ _) _) _ _ _)); (fail_if_success (with_reducible show wpAny _ _ (call (Value.ref _) _ _) _ _ _)); (first | (k_unfold; (try dsimp only)) | (k_end; wrow_close) | walk1 | (dsimp only; walk1) | (leave1; walk_say "STEP leave1"; try dsimp only) | ((try dsimp only); (with_reducible refine Goes.at (by assumption) ?_); (try dsimp only))))))
  refine item_tuple ⟨oO, (NH (eO, oO) (.tail _ (.tail _ (.tail _ (.tail _ (.tail _ (.tail _ (.tail _ (.tail _ (.tail _ (.tail _ (.tail _ (.tail _ (.tail _ (.tail _ (.tail _ (.tail _ (.tail _ (.tail _ (.head _)))))))))))))))))))).1, hfc, fn, hfd⟩ (by decide) (by decide) (j := 4) (x := .ref dO) rfl rfl ?_
  ((try dsimp only); (try ((with_reducible refine wp_tok ?_); intro tk8)); ((try k_fold); repeat' ((fail_if_success (with_reducible show wpAny _ _ (exec (Stmt.For _ _ _ _ _) _) _ _ _)); (fail_if_success (with_reducible show wpAny _ _ (call (Value.ref _) _ _) _ _ _)); (first | (k_unfold; (try dsimp only)) | (k_end; wrow_close) | walk1 | (dsimp only; walk1) | (leave1; walk_say "STEP leave1"; try dsimp only) | ((try dsimp only); (with_reducible refine Goes.at (by assumption) ?_); (try dsimp only))))))
  refine count_spec K0 FH KX T rfl (by decide) (by decide) (XO.tab (a := eO) (NH (dO, odO) (.tail _ (.tail _ (.tail _ (.tail _ (.tail _ (.tail _ (.tail _ (.tail _ (.tail _ (.tail _ (.tail _ (.tail _ (.tail _ (.tail _ (.tail _ (.tail _ (.tail _ (.tail _ (.tail _ (.tail _ (.head _)))))))))))))))))))))).1) fun hX2 tkX2 tX2 hkpX2 => ?_
  rw [(vals_pair st zs).2]
  replace NH := news_keep NH hkpX2
  replace FH := fr_keep FH hkpX2
  (try clear hkpX2)
  (try dsimp only)
  ((try dsimp only); (try ((with_reducible refine wp_tok ?_); intro tk8)); ((try k_fold); repeat' ((fail_if_success (with_reducible show wpAny _ _ (exec (Stmt.For _ _ _ _ _) _) _ _ _)); (fail_if_success (with_reducible show wpAny _ _ (call (Value.ref _) _ _) _ _ _)); (first | (k_unfold; (try dsimp only)) | (k_end; wrow_close) | walk1 | (dsimp only; walk1) | (leave1; walk_say "STEP leave1"; try dsimp only) | ((try dsimp only); (with_reducible refine Goes.at (by assumption) ?_); (try dsimp only))))))
  refine item_tuple ⟨oO, (NH (eO, oO) (.tail _ (.tail _ (.tail _ (.tail _ (.tail _ (.tail _ (.tail _ (.tail _ (.tail _ (.tail _ (.tail _ (.tail _ (.tail _ (.tail _ (.tail _ (.tail _ (.tail _ (.tail _ (.head _)))))))))))))))))))).1, hfc, fn, hfd⟩ (by decide) (by decide) (j := 0) (x := .int (pairP st zs).2.c0 f0) rfl rfl ?_
  ((try dsimp only); (try ((with_reducible refine wp_tok ?_); intro tk8)); ((try k_fold); repeat' ((fail_if_success (with_reducible show wpAny _ _ (exec (Stmt.For _ _ _ _ _) _) _ _ _)); (fail_if_success (with_reducible show wpAny _ _ (call (Value.ref _) _ _) _ _ _)); (first | (k_unfold; (try dsimp only)) | (k_end; wrow_close) | walk1 | (dsimp only; walk1) | (leave1; walk_say "STEP leave1"; try dsimp only) | ((try dsimp only); (with_reducible refine Goes.at (by assumption) ?_); (try dsimp only))))))
  · rw [beq_self_eq_true]
    refine goodG_bool FH hbare (raisesW_false ?_) ?_
    · wrow_none_raised
    · wrow_post
  · contradiction
theorem law_ok : PySem.Challenge.rw_pe0063_01.Holds := law_0.2 ⟨law_1.2 ⟨law_2⟩⟩
end SLaw63
end Law
end Mine
theorem PySem.Challenge.cw_pe0063_01_holds : PySem.Challenge.rw_pe0063_01.Holds := by
  exact Mine.law_ok
