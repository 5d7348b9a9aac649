import PyProof.Rows.All
import Wide.All
import OpenK.AllK
import Wide.FinOn
import PySem.Challenge.RW_gb0002_01
set_option Elab.async false
open PySem PySem.W PyProof.Rows
namespace Mine

section
def dval (b : Int) : List Int → Int
  | [] => 0
  | d :: r => d + b * dval b r
def dspan (ns : List Int) (n i j : Int) : Int := dval (2 ^ n.toNat) ((ns.drop i.toNat).take (j - i).toNat)
theorem dval_append (b : Int) (xs ys : List Int) : dval b (xs ++ ys) = dval b xs + b ^ xs.length * dval b ys := by
  induction xs with
  | nil => simp [dval]
  | cons x r ih =>
    simp only [List.cons_append, dval, ih, List.length_cons, Int.pow_succ]
    rw [Int.mul_add, Int.add_assoc, ← Int.mul_assoc, Int.mul_comm b (b ^ r.length)]
theorem dval_bound {b : Int} (hb : 0 < b) : ∀ {ns : List Int}, (∀ x ∈ ns, 0 ≤ x ∧ x < b) → 0 ≤ dval b ns ∧ dval b ns < b ^ ns.length
  | [], _ => by simp [dval]
  | x :: r, h => by
    obtain ⟨h0, h1⟩ := dval_bound hb (ns := r) fun y hy => h y (.tail _ hy)
    obtain ⟨x0, x1⟩ := h x (.head _)
    have e : b ^ (x :: r).length = b * b ^ r.length := by rw [List.length_cons, Int.pow_succ, Int.mul_comm]
    have h2 : b * (dval b r + 1) ≤ b * b ^ r.length := Int.mul_le_mul_of_nonneg_left (by omega) (by omega)
    have h3 : 0 ≤ b * dval b r := Int.mul_nonneg (by omega) h0
    rw [Int.mul_add, Int.mul_one] at h2
    simp only [dval, e]
    omega
theorem pow2_pos (k : Nat) : (0 : Int) < 2 ^ k := Int.pow_pos (by decide)
theorem pow2_mono {a b : Nat} (h : a ≤ b) : (2 : Int) ^ a ≤ 2 ^ b := by
  have := Nat.pow_le_pow_right (n := 2) (by decide) h
  exact_mod_cast this
theorem dspan_bound {ns : List Int} {n i j : Int} (hlen : ns.length ≤ 8) (hn : 0 ≤ n ∧ n ≤ 8) (hdig : ∀ x ∈ ns, 0 ≤ x ∧ x < 2 ^ n.toNat) : (dspan ns n i j).natAbs < 2 ^ 64 := by
  unfold dspan
  have h := dval_bound (pow2_pos n.toNat) (ns := (ns.drop i.toNat).take (j - i).toNat) fun x hx => hdig x (List.mem_of_mem_drop (List.mem_of_mem_take hx))
  have hl : ((ns.drop i.toNat).take (j - i).toNat).length ≤ 8 := by rw [List.length_take, List.length_drop]; omega
  have e : ((2 : Int) ^ n.toNat) ^ ((ns.drop i.toNat).take (j - i).toNat).length ≤ 2 ^ 64 := by
    rw [← Int.pow_mul]
    refine pow2_mono ?_
    exact Nat.le_trans (Nat.mul_le_mul (show n.toNat ≤ 8 by omega) hl) (by decide)
  have := Int.lt_of_lt_of_le h.2 e
  omega
theorem mid_facts (i j : Int) : 2 * (i + j).fdiv (2 ^ Int.toNat 1) ≤ i + j ∧ i + j < 2 * (i + j).fdiv (2 ^ Int.toNat 1) + 2 := by
  have e : (i + j).fdiv (2 ^ Int.toNat 1) = (i + j) / 2 := Int.fdiv_eq_ediv_of_nonneg _ (by decide)
  rw [e]
  omega
theorem sh_facts {x n : Int} (hx : 0 ≤ x ∧ x ≤ 8) (hn : 0 ≤ n ∧ n ≤ 8) : 0 ≤ x * n ∧ x * n ≤ 64 := by
  refine ⟨Int.mul_nonneg hx.1 hn.1, ?_⟩
  exact Int.le_trans (Int.mul_le_mul hx.2 hn.2 hn.1 (by decide)) (by decide)
theorem dspan_one {ns : List Int} {n i j : Int} (h : i + 1 = j) (h0 : 0 ≤ i) (h1 : j ≤ (ns.length : Int)) : ns.getD i.toNat 0 = dspan ns n i j := by
  unfold dspan
  have hi : i.toNat < ns.length := by omega
  rw [show (j - i).toNat = 1 by omega, List.take_one, List.head?_drop, List.getElem?_eq_getElem hi, List.getD_eq_getElem?_getD, List.getElem?_eq_getElem hi]
  simp [dval]
theorem dspan_split {ns : List Int} {n i k j : Int} (h0 : 0 ≤ i) (h1 : i ≤ k) (h2 : k ≤ j) (h3 : j ≤ (ns.length : Int)) (hn : 0 ≤ n) :
    dspan ns n k j * 2 ^ ((k - i) * n).toNat + dspan ns n i k = dspan ns n i j := by
  unfold dspan
  have e : (ns.drop i.toNat).take (j - i).toNat = (ns.drop i.toNat).take (k - i).toNat ++ (ns.drop k.toNat).take (j - k).toNat := by
    rw [show (j - i).toNat = (k - i).toNat + (j - k).toNat by omega, List.take_add, List.drop_drop, show i.toNat + (k - i).toNat = k.toNat by omega]
  rw [e, dval_append, List.length_take, List.length_drop, Nat.min_eq_left (by omega), ← Int.pow_mul]
  have e2 : ((k - i) * n).toNat = n.toNat * (k - i).toNat := by
    rw [Nat.mul_comm]
    have := Int.toNat_of_nonneg (show 0 ≤ k - i by omega)
    have := Int.toNat_of_nonneg hn
    have h4 : (((k - i).toNat * n.toNat : Nat) : Int) = (k - i) * n := by rw [Int.natCast_mul]; rw [Int.toNat_of_nonneg (show 0 ≤ k - i by omega), Int.toNat_of_nonneg hn]
    rw [← h4]; rfl
  rw [e2, Int.mul_comm, Int.add_comm]
theorem dspan_full {ns : List Int} {n : Int} : dspan ns n 0 (ns.length : Int) = dval (2 ^ n.toNat) ns := by
  unfold dspan
  simp
end

section
open Sem (wp)
set_option maxRecDepth 100000

/-- the ids whose activation may hold a buffer -/
def holderIds : List String := ["bytearray.__contains__", "bytearray.__mod__", "bytearray.__rmod__", "_struct.pack_into.held", "bytearray.find.held"] ++ Builtin.Bytes.decodersThatHold
def holder : Code → Bool
  | .builtin id _ => holderIds.contains id
  | _ => false
def Clean (l : List (Code × Pos)) : Prop := ∀ q ∈ l, holder q.1 = false
theorem Clean.cons {c : Code} {p : Pos} {l : List (Code × Pos)} (hc : holder c = false) (h : Clean l) : Clean ((c, p) :: l) := fun q hq => by
  rcases List.mem_cons.mp hq with rfl | hq
  · exact hc
  · exact h q hq

/-- wpAny over the contexts whose stack is clean -/
def wpG {α : Type} (M : Model) (A : Around) (t : Sem α) (Q : α → Shared → Prop) (E : Value → Shared → Prop) (s : Shared) : Prop :=
  ∀ Γ p, Γ.In A → holder Γ.code = false → Clean Γ.below → wp M Γ t (fun a _ s' => Q a s') (fun e _ s' => E e s') p s
def codeG (M : Model) (A : Around) (c : Code) (R : Result → Shared → Prop) (s : Shared) : Prop :=
  ∀ Γ p, Γ.code = c → Γ.Below A → Clean Γ.below → wpCode M Γ R p s

section
variable {α β : Type} {M : Model} {A : Around} {E : Value → Shared → Prop} {s : Shared}
theorem wpG_of_any {t : Sem α} {Q : α → Shared → Prop} (h : wpAny M A t Q E s) : wpG M A t Q E s := fun Γ p hΓ _ _ => h Γ p hΓ
theorem codeG_of_any {c : Code} {R : Result → Shared → Prop} (h : codeAny M A c R s) : codeG M A c R s := fun Γ p hc hΓ _ => h Γ p hc hΓ
theorem wpG_mono {t : Sem α} {Q Q' : α → Shared → Prop} {E' : Value → Shared → Prop} (h : wpG M A t Q E s) (hQ : ∀ a s, Q a s → Q' a s) (hE : ∀ e s, E e s → E' e s) : wpG M A t Q' E' s :=
  fun Γ p hΓ h1 h2 => Sem.wp_mono M Γ t (fun a _ s => hQ a s) (fun e _ s => hE e s) p s (h Γ p hΓ h1 h2)
theorem wpG_bind {m : Sem α} {f : α → Sem β} {Q : β → Shared → Prop} (h : wpG M A m (fun a s' => wpG M A (f a) Q E s') E s) : wpG M A (m >>= f) Q E s := fun Γ p hΓ h1 h2 => by
  rw [Sem.wp_bind']
  exact Sem.wp_mono M Γ m (fun a p' s' h' => h' Γ p' hΓ h1 h2) (fun _ _ _ h' => h') p s (h Γ p hΓ h1 h2)
theorem wpG_pure {a : α} {Q : α → Shared → Prop} (h : Q a s) : wpG M A (pure a) Q E s := wpG_of_any (wpAny_pure h)
theorem wpG_holding {vs : List Value} {m : Sem α} {Q : α → Shared → Prop} (h : wpG M A m Q E s) : wpG M A (holding vs m) Q E s :=
  fun Γ p hΓ h1 h2 => by rw [Sem.wp_holding]; exact h Γ p hΓ h1 h2
theorem wpG_keep {vs : List Value} {m : Sem α} {Q : α → Shared → Prop} (h : wpG M A m Q E s) : wpG M A (m.keep vs) Q E s :=
  fun Γ p hΓ h1 h2 => by rw [Sem.wp_keep]; exact h Γ p hΓ h1 h2
theorem wpG_onRaise {m : Sem α} {k : Value → Sem Unit} {Q : α → Shared → Prop}
    (h : wpG M A m Q (fun e s' => wpAny M A (k e) (fun _ s'' => E e s'') E s') s) : wpG M A (m.onRaise k) Q E s := fun Γ p hΓ h1 h2 => by
  rw [Sem.wp_onRaise]
  exact Sem.wp_mono M Γ m (fun _ _ _ h' => h') (fun e p' s' h' => h' Γ p' hΓ) p s (h Γ p hΓ h1 h2)
theorem wpG_then {m : Sem α} {f : α → Sem β} {Q : β → Shared → Prop} (h : wpAny M A m (fun a s' => wpG M A (f a) Q E s') E s) : wpG M A (m >>= f) Q E s := wpG_bind (wpG_of_any h)
theorem wpG_standAt {pos : Pos} {t : Sem α} {Q : α → Shared → Prop} (h : wpG M A t Q E s) : wpG M A (standAt pos >>= fun _ => t) Q E s := wpG_then (wpAny_standAt h)
theorem wpG_run {c : Code} {Q : Flow → Shared → Prop}
    (hc : codeG M A c (fun r s' => match r with | .ok f => Q f s' | .error e => E e s') s) : wpG M A (run c none) Q E s :=
  fun Γ p hΓ h1 h2 => by rw [Sem.wp_run]; exact hc _ p rfl (hΓ.enter c none p (by intro x; cases x)) (Clean.cons h1 h2)
theorem wpG_runValue {c : Code} {Q : Value → Shared → Prop}
    (hc : codeG M A c (fun r s' => match r with | .ok (.ret v) => Q v s' | .ok _ => False | .error e => E e s') s) :
    wpG M A (runValue c) Q E s := fun Γ p hΓ h1 h2 => by rw [Sem.wp_runValue]; exact hc _ p rfl (hΓ.enter c none p (by intro x; cases x)) (Clean.cons h1 h2)
theorem wpG_call {f : Value} {pos : List Value} {kw : List (Str × Value)} {Q : Value → Shared → Prop}
    (hc : codeG M A (.call f ⟨pos, kw⟩) (fun r s' => match r with | .ok (.ret v) => Q v s' | .ok _ => False | .error e => E e s') s) :
    wpG M A (call f pos kw) Q E s := wpG_runValue hc
theorem codeG_mono {c : Code} {R R' : Result → Shared → Prop} (h : codeG M A c R s) (hR : ∀ r s, R r s → R' r s) : codeG M A c R' s :=
  fun Γ p hc hΓ h2 => wpCode_mono hR (h Γ p hc hΓ h2)
theorem codeG_of_tree {c : Code} {R : Result → Shared → Prop} (hh : holder c = false)
    (h : wpG M (A.under c) (M.den c) (fun fin s' => match fin with | .done f => R (.ok f) s' | .again c' => c'.quiet = true ∧ codeG M A c' R s')
      (fun e s' => R (.error e) s') s) : codeG M A c R s := fun Γ p hc hΓ h2 => by
  rw [wpCode_iff_wp, hc]
  refine Sem.wp_mono M Γ _ (fun fin p' s' h' => ?_) (fun _ _ _ h' => h') p s (h Γ p (hc ▸ hΓ.in) (hc ▸ hh) h2)
  cases fin with
  | done f => exact h'
  | again c' => exact ⟨h'.1, h'.2 (Γ.goto c') p' rfl (hΓ.goto c') h2⟩
end

section
variable {prog : Program} {w : World} {A : Around} {s : Shared} {R : Result → Shared → Prop}
theorem codeG_builtin {id : String} {args : Args} {b : Builtin} (hh : holder (.builtin id args) = false) (hb : entryFor table id = some b)
    (h : wpG (model prog w) (A.under (.builtin id args)) (b args)
      (fun fin s' => match fin with | .done f => R (.ok f) s' | .again c' => c'.quiet = true ∧ codeG (model prog w) A c' R s') (fun e s' => R (.error e) s') s) :
    codeG (model prog w) A (.builtin id args) R s := by
  refine codeG_of_tree hh ?_
  show wpG _ _ (match entryFor table id with | some b => b args | none => unsupported ((withoutEnding? id "#data").getD id)) _ _ s
  rw [hb]; exact h
theorem codeG_func {body : List Stmt} {env : Env}
    (h : wpG (model prog w) (A.deeper env) (execs body env) (fun f s' => R (.ok (.ret (match f with | .ret v => v | _ => .none))) s')
      (fun e s' => wpAny (model prog w) (A.deeper env) (leaving env e) (fun _ s'' => R (.error e) s'') (fun e' s'' => R (.error e') s'') s') s) :
    codeG (model prog w) A (.func body env) R s := by
  refine codeG_of_tree rfl ?_
  show wpG _ (A.deeper env) (do point; match ← (execs body env).onRaise (leaving env) with | .ret v => ret v | _ => ret .none) _ _ s
  refine wpG_then (wpAny_point (wpG_bind (wpG_onRaise (wpG_mono h (fun f s' h' => ?_) fun _ _ h' => h'))))
  cases f <;> exact wpG_pure h'
theorem codeG_function {a : Addr} {args : Args} {o : Obj} {fd : FuncData} {body : List Stmt} (hroom : A.depth < recursionLimit)
    (ho : s.heap.get? a = some o) (hd' : o.data = .func fd) (hco : fd.scope.isCoroutine = false) (hgen : fd.scope.isGenerator = false) (hbody : fd.body = .stmts body) (hcd : s.heap.CodeRec fd.code fd.qualname)
    (h : wpAny (model prog w) A.in1 (bindArgs fd args) (fun binds s₁ =>
      wpAny (model prog w) A.in1 (newFunctionEnv fd.scope fd.globals fd.closure binds (fd.qualname ++ ".<locals>.") (some a) fd.code none fd.builtins)
        (fun env s₂ => s₂.heap.NoLimit ∧ codeG (model prog w) A (.func body env) R s₂) (fun e s' => R (.error e) s') s₁) (fun e s' => R (.error e) s') s) :
    codeG (model prog w) A (.call (.ref a) args) R s := by
  refine codeG_of_tree rfl ?_
  show wpG _ A.in1 (callAny (.ref a) args) _ _ s
  simp only [callAny]
  refine wpG_of_any (wpAny_bind (wpAny_load ho ?_))
  obtain ⟨c, oc, vs, tq, hc, hoc, hdc, hq⟩ := hcd
  simp only [hd', callFunction, hco, hgen, hbody, hc]
  rw [hc] at h
  refine wpAny_bind (m := field (.ref c) 1) (wpAny_field hoc hdc hq (wpAny_bind (wpAny_pure ?_)))
  exact wpAny_bind (wpAny_mono h (fun binds s₁ h₁ => wpAny_bind (wpAny_mono h₁ (fun env s₂ h₂ => wpAny_bind (wpAny_enterFrame h₂.1 hroom
    (wpAny_pure (And.intro rfl h₂.2)))) fun _ _ h' => h')) fun _ _ h' => h')
end

section
open PySem.Spec PySem.Calls
variable {prog : Program} {w : World} {A₀ A : Around} {s : Shared} {base h₀ : Heap} {outer : List Env} {L : Addr} {m : Str → Option Value} {env : Env} {news : List (Addr × Obj)}
  {R : Result → Shared → Prop} {name qual : Str} {params : Arguments} {body : List Stmt} {scope : Scope} {cl : List (Str × Addr)} {dV kV doc pm cdv ct : Value} {an : Option Addr} {fo : Obj} {f : Addr} {args : Args} {binds : List (Str × Value)}

/-- a def without cells is entered over clean contexts -/
theorem codeG_plain (B : Below A₀ base outer h₀) (F : Fr h₀ L s.heap m) (N : News h₀ L s.heap news) (hlim : h₀.NoLimit) (hA : A.frames = some (env :: outer)) (hf : env.frame = some L) (hke : env.scope.kind = .function)
    (ho : s.heap.get? f = some fo) (hd : fo.data = .func (fnX name qual params body scope cl dV kV doc pm an cdv ct)) (hcd : s.heap.CodeRec cdv qual) (hroom : A.depth < recursionLimit)
    (hbind : BindsTo s (fnX name qual params body scope cl dV kV doc pm an cdv ct) args binds) (hloc : ∀ y ∈ binds, scope.names.lookup y.1 = some .local)
    (h : ∀ g L' h₁, Fr h₀ L g m → Fr g L' h₁ (fun y => binds.reverse.lookup y) → News g L' h₁ news → Below A base (env :: outer) g → h₀.StaysIn g → (∀ p ∈ news, p.1 < L') →
      wpG (model prog w) (A.deeper (envX qual scope L' f cdv cl)) (execs body (envX qual scope L' f cdv cl))
        (fun fl s' => LeaveK h₀ L m g R (match fl with | .ret v => v | _ => .none) s')
        (fun e s' => wpAny (model prog w) (A.deeper (envX qual scope L' f cdv cl)) (leaving (envX qual scope L' f cdv cl) e) (fun _ s'' => R (.error e) s'') (fun e' s'' => R (.error e') s'') s')
        { s with heap := h₁, toks := s.toks + binds.length })
    (hcell : ∀ x ∈ scope.names, x.2 ≠ .cell) (hco : scope.isCoroutine = false) (hgen : scope.isGenerator = false) (hk : scope.kind = .function) : codeG (model prog w) A (.call (.ref f) args) R s := by
  obtain ⟨FG, BG, st, lv⟩ := groundX (R := R) B F N hA hf hke
  refine codeG_function hroom ho hd hco hgen rfl hcd (hbind _ _ _ _ ?_)
  refine wpAny_newFunctionEnv hcell hloc (fun h₁ hns hsb => ⟨(hlim.keeps F.keep).fresh _ hsb, codeG_func ?_⟩) hk
  have hk₁ : ∀ b o, s.heap.get? b = some o → h₁.get? b = some o := fun b o e => hsb.extBut b o (Nat.ne_of_lt (Heap.lt_size e)) (Heap.get?_push_of_some _ e)
  exact wpG_mono (h _ s.heap.objs.size h₁ FG ⟨hns, fun b o e => hk₁ b o (of_hideAll _ e), Nat.le_of_eq (hideAll_size _ _)⟩
    (fun p hp => ⟨hk₁ _ _ (N p hp).1, Nat.ne_of_lt (Heap.lt_size (N p hp).1), hideAll_none _ (List.mem_map_of_mem hp)⟩) BG st (fun p hp => Heap.lt_size (N p hp).1)) (fun fl s' hl => lv _ _ hl) fun _ _ y => y

end
end

section
open Sem (wp)
set_option maxRecDepth 100000

/-- a thread at the claim's caller ends, from wpG -/
theorem threadG {prog : Program} {w : World} {t : Sem Fin} {s : Shared} {R : Result → Shared → Prop} (hz : s.asleep)
    (h : wpG (model prog w) callerA t (fun fin s' => ∃ f, fin = .done f ∧ (R (.ok f) s' ∧ leftWithCleanup s'.gens = false)) (fun e s' => R (.error e) s' ∧ leftWithCleanup s'.gens = false) s) :
    ∃ n r s' s'', runN (denote table) prog w n s ⟨t, .builtin "claim.caller" {}, default, []⟩ = .halted (outcomeOf r) s' ∧
      schedN (denote table) prog w n (.single s ⟨t, .builtin "claim.caller" {}, default, []⟩) = .halted (outcomeOf r) s' ∧ s'.forget = s''.forget ∧ R r s'' := by
  have hw := h ⟨.builtin "claim.caller" {}, none, none, [], none⟩ default caller_in (by decide +kernel) (fun q hq => nomatch hq)
  obtain ⟨n, r, s₁, s₂, hs, hn, hfo, hR⟩ := wp_halts_full (M := model prog w) (R := R) (c := .builtin "claim.caller" {}) (t := t) (p := default) hz
    (Sem.wp_mono (model prog w) _ t (fun fin p' s' h' => by obtain ⟨f, rfl, hf⟩ := h'; exact hf) (fun _ _ _ h' => h') default s hw)
  exact ⟨n, r, s₂, s₁, hn, hs, hfo, hR⟩

open PySem.Calls in
abbrev WalkG (q : Program) (loose : List Str) (XP : (Str → Option Value) → Heap → Prop) (YP : World → Heap → Prop) (r : RowW) (d : DefRec) (kwd : List (Str × Expr)) (run : Value → List Value → Sem Value) : Prop :=
  ∀ (w : World) (s₀ s₁ : Shared) (mg mb : Str → Option Value), Ground q loose r.records XP w s₀ mg mb s₁.heap → YP w s₁.heap → ∀ (a : Addr) (o : Obj) (pm cd doc dV kV : Value), s₁.heap.get? a = some o →
    o.data = .func { docDef d.name d.params d.body d.scope pm cd doc with defaults := dV, kwdefaults := kV } → s₁.heap.CodeRec cd d.name → Dflts mg s₁.heap d.params kwd dV kV → mg d.name = some (.ref a) → s₁.gens = #[] →
    ∀ (args : List WData) (vals : List Value) (as : List Addr), r.claim.pre args = true → WData.layableAll args = true → ReadsAllW r.records (classAt s₀.heap) s₁.heap vals args as → WellAll w.params s₁.heap vals args → (∀ a ∈ as, (a == sysModules) = false) →
      wpG (model r.prog w) callerA (run (.ref a) vals) (fun v s' => GoodWG r.claim (classAt s₀.heap) (ExcName.means s₀.heap) args s₁ (.ok (.ret v)) s')
        (fun e s' => GoodWG r.claim (classAt s₀.heap) (ExcName.means s₀.heap) args s₁ (.error e) s') s₁

open PySem.Calls in
theorem PySem.W.holds_open {r : OpenRow} {q : Program} {loose : List Str} {Xt : Shared → Bool} {XP : (Str → Option Value) → Heap → Prop} {α : Type} {Yf : Shared → α} {Ya : World → α} {YP : World → Heap → Prop} {d : DefRec} {kwd : List (Str × Expr)} {N : Nat}
    (left : LeftO r.prog q loose Xt Yf Ya N) (hY : ∀ w s, Yf s = Ya w → YP w s.heap) (hYk : ∀ w h h', YP w h → (∀ b o, h.get? b = some o → h'.get? b = some o) → YP w h')
    (hX : ∀ s, Xt s = true → XP (s.heap.nsMap mainGlobals) s.heap) (hXk : ∀ mg h h', XP mg h → (∀ b o, h.get? b = some o → h'.get? b = some o) → XP mg h')
    (hdef : defOf q r.name = some (d, kwd)) (hp : r.prog.theDef r.name = some (d.params, d.body, d.scope)) (hk : kwWritten? d.params.kwonlyargs d.params.kw_defaults = some kwd) (hRf : ∀ s, Xt s = true → RecFacts r.records s.heap) (hwr : (!r.writes || r.records.isEmpty) = true)
    (k1 : r.wellSaid = true) (ok : (chainsOk q && opensWell r.prog && (frees r.toRowW && r.within.isEmpty)) = true) (hb : r.prog.bare) (hw : r.toRowW.promised)
    (walk : WalkG q loose XP YP r.toRowW d kwd fun f vs => PySem.call f vs) : r.Holds := by
  simp only [Bool.and_eq_true] at ok
  obtain ⟨⟨hch, ow⟩, hfr, hwn⟩ := ok
  have hwi : r.toRowW.claim.within = [] := List.isEmpty_iff.mp hwn
  obtain ⟨hsame, hu, ha, hap, hmk⟩ := frees_parts hfr
  have hi := ident_freeW hu ha hap
  refine ⟨k1, hw, ⟨hb, ow, by show r.toRowW.makers.map _ = []; rw [hmk]; rfl⟩, hw.witness, fun w => ⟨(left.behind hX hch w).1, fun s' hs' => ?_⟩⟩
  obtain ⟨s₀, hf, hg0, s, hT, hz, hgens, hg, GX, y⟩ := (left.behind (XP := fun mg h => XP mg h ∧ RecFacts r.records h) (fun s hs => ⟨hX s hs, hRf s hs⟩) hch w).2 s' hs'
  have G0 : Ground q loose [] XP w s (s.heap.nsMap mainGlobals) (s.heap.nsMap builtinsNs) s.heap := ⟨GX.T, GX.B, GX.D, GX.TE, GX.TD, GX.W, GX.X.1, GX.cls, GX.has, GX.apart, GX.once, GX.K⟩
  have hgens : s.gens = #[] := Array.eq_empty_of_size_eq_zero (beq_iff_eq.mp hgens)
  have G : Ground q loose r.records XP w s _ _ s.heap := GX.X.2.ground G0
  refine ⟨s₀, hf, hg0, s, hT, fun n hn => ?_, GX.X.2.1, GX.X.2.2.1, fun args hpre hlay ord hord => ?_⟩
  · obtain rfl : n = r.name := by split at hn <;> simp_all
    exact pinned_of_view hg G0 hdef hp hk
  · obtain ⟨⟨vs, s₁⟩, hlaid⟩ := Option.isSome_iff_exists.mp (layAllW_isSome (P := w.params) (ord := ord) G.has args r.toRowW.args s (pre_splitW hpre).1)
    have keeps := layAllW_keeps _ _ _ hlaid
    have hal := layAllW_rest _ _ _ hlaid
    obtain ⟨as, hrd, hin, hold⟩ := reads_layAllW hord _ _ _ hlaid hlay s₁.heap (fun _ _ e => e)
    have L : Laid r.toRowW.records w s s₁ args vs as := ⟨⟨ord, hord, hlaid⟩, hrd, hin, hold, keeps, hal.1.trans hgens, hal.2.2.1⟩
    have G₁ := G.keeps hXk keeps
    obtain ⟨a, o, pm, cd, doc, dV, kV, h1, h2, h3, h4, h5⟩ := G₁.fn hdef
    have H := walk w s s₁ _ _ G₁ (hYk _ _ _ (hY w s y) keeps) a o pm cd doc dV kV h2 h3 h4 h5 (defOf_name hdef ▸ h1) L.gens args vs as hpre hlay L.reads L.well (L.low G.low)
    have kept : ∀ {res : Result} {s' : Shared}, GoodWG r.toRowW.claim (classAt s.heap) (ExcName.means s.heap) args s₁ res s' →
        (r.toRowW.claim.Ends s args vs s₁ res s' ∧ s'.os = s.os ∧ (r.writes = true → namesKept r.prog r.keeps s.heap s'.heap ∧ ∀ x ∈ r.records, ∀ a, classAt s.heap x.1 = some a → recordClass s'.heap a x.1 (x.2.map (·.1)) = true)) ∧ leftWithCleanup s'.gens = false := fun g =>
      have z := g.laid (c := r.toRowW.claim) hsame hwi hi L
      ⟨⟨z.1, z.2.1, fun qw => ⟨namesKept_of hT hg r.keeps keeps g.2.1.old, noTable hwr qw⟩⟩, leftWithCleanup_false_of_bare z.2.2⟩
    obtain ⟨k, res, s₂, s₃, hrun, hsched, hfo, hcase, hos, hkp⟩ := threadG (prog := r.prog) (w := w) (s := s₁)
      (t := (do match ← nsGet mainNs r.name with
        | some f => do ret (← PySem.call f vs)
        | none => unsupported "claim.caller:no-such-global"))
      (R := fun res s' => r.toRowW.claim.Ends s args vs s₁ res s' ∧ s'.os = s.os ∧ (r.writes = true → namesKept r.prog r.keeps s.heap s'.heap ∧ ∀ x ∈ r.records, ∀ a, classAt s.heap x.1 = some a → recordClass s'.heap a x.1 (x.2.map (·.1)) = true))
      (Shared.asleep_of_life hal.2.2.2 hz)
      (wpG_then (wpAny_nsGet G₁.T.g (by
        rw [h1]
        exact wpG_bind (wpG_mono H (fun v s' g => wpG_pure ⟨_, rfl, kept g⟩) fun e s' g => kept g))))
    obtain ⟨eh, _, _, eo, _⟩ := Shared.forget_eq hfo
    have hcase := hcase.congr eh
    have hlife : s₂.heap.life = s.heap.life := (runN_life _ _ _ hrun).trans hal.2.2.2
    refine ⟨vs, s₁, hlaid, k, _, s₂, hsched, ?_, (fun _ i x hx => by rw [hgens] at hx; simp at hx), eh ▸ hkp, by rw [hlife], Shared.rest_eq (eo ▸ hos)⟩
    rcases hcase with ⟨v, rfl, d1, d2, d3, d4, d5⟩ | ⟨e, ob, cls, rfl, d1, d2, d3, d4, d5⟩
    · exact .inl ⟨v, rfl, d1, d2, d3, fun b o y _ => d4 b o y, d5⟩
    · exact .inr ⟨e, ob, cls, rfl, d1, d2, d3, d4, fun b o y _ => d5 b o y⟩

set_option maxHeartbeats 8000000 in
open_top hd for PySem.Challenge.rw_gb0002_01
end

section
open Sem (wp)
set_option maxRecDepth 100000

section
variable {M : Model} {A : Around} {s s₁ : Shared} {f : Value} {pos : List Value} {kw : List (Str × Value)} {c : ClaimW} {cl : Str → Option Addr} {mean : ExcName → Option Value} {args : List WData}
theorem enter_callG (h : codeG M A (.call f ⟨pos, kw⟩) (GoodWG c cl mean args s₁) s) :
    wpG M A (PySem.call f pos kw) (fun v s' => GoodWG c cl mean args s₁ (.ok (.ret v)) s') (fun e s' => GoodWG c cl mean args s₁ (.error e) s') s :=
  wpG_call (codeG_mono h fun res s' g => by rcases g.1 with ⟨v, _, _, rfl, _⟩ | ⟨e, _, _, rfl, _⟩ <;> exact g)

/-- what carries one end to another at every model carries it at once -/
theorem post_pure (prog : Program) (w : World) {R R' : Result → Shared → Prop} (H : ∀ (M : Model) (c : Code) (s : Shared), codeAny M callerA c R s → codeAny M callerA c R' s) : ∀ r s, R r s → R' r s := fun r s h => by
  let M : Model := ⟨fun _ => match r with | .ok f => pure (.done f) | .error e => throw e, prog, w⟩
  have h1 : codeAny M callerA (.builtin "x" {}) R s := fun Γ p hc _ => by
    rw [wpCode_iff_wp]
    cases r <;> exact h
  have h2 := H M _ s h1 ⟨.builtin "x" {}, none, none, [], none⟩ default rfl ⟨rfl, Nat.zero_le _, fun l hl => by cases hl; rfl, fun g hg => by cases hg; rfl, Nat.zero_le _⟩
  rw [wpCode_iff_wp] at h2
  cases r <;> exact h2
end

theorem kn_postG {prog : Program} {w : World} {cd : Code} {s s₁ : Shared} {cw : ClaimW} {cl : Str → Option Addr} {mean : ExcName → Option Value} {args : List WData} {tabs : List (Addr × Addr)} (hT : TabsAt tabs s₁.heap) (hr : ∀ a x, cw.raises a x = false)
    (h : codeG (model prog w) callerA cd (fun r s' => GoodW cw cl mean args { s₁ with heap := ghostOf s₁.heap tabs } r s' ∧ GrownAll tabs s'.heap) s) : codeG (model prog w) callerA cd (GoodWG cw cl mean args s₁) s :=
  codeG_mono h (post_pure prog w fun _ _ _ x => kn_post hT hr x)

theorem call_cellsG {prog : Program} {w : World} {A : Around} {R : Result → Shared → Prop} {s : Shared} {name : Str} {params : Arguments} {body : List Stmt} {scope : Scope}
    {pm cd doc : Value} {a : Addr} {o : Obj} {args : List Value} {binds : List (Str × Value)}
    (hroom : A.depth < recursionLimit) (ho : s.heap.get? a = some o) (hdata : o.data = .func (Calls.docDef name params body scope pm cd doc)) (hlim : s.heap.NoLimit) (hcd : s.heap.CodeRec cd name)
    (hbind : bindArgs (Calls.docDef name params body scope pm cd doc) ⟨args, []⟩ = pure binds)
    (hkind : ∀ x ∈ binds, scope.names.lookup x.1 = some .local ∨ (scope.names.lookup x.1 = some .cell ∧ ((cellsFrom (s.heap.objs.size + 1) scope.names []).lookup x.1).isSome = true))
    (hnd : ((cellsFrom 0 scope.names []).map (·.1)).Nodup)
    (h : ∀ h₁ tk cells, Fr s.heap s.heap.objs.size h₁ (bindL (envOfC name scope s.heap.objs.size a cd).kindOf binds fun _ => none) → News s.heap s.heap.objs.size h₁ cells →
      CellsAre (bindC (envOfC name scope s.heap.objs.size a cd).kindOf binds fun _ => none) (cellsFrom (s.heap.objs.size + 1) scope.names []) cells →
      wpG (model prog w) (A.deeper (envOfC name scope s.heap.objs.size a cd)) (execs body (envOfC name scope s.heap.objs.size a cd))
        (fun f s' => R (.ok (.ret (match f with | .ret v => v | _ => .none))) s')
        (fun e s' => wpAny (model prog w) (A.deeper (envOfC name scope s.heap.objs.size a cd)) (leaving (envOfC name scope s.heap.objs.size a cd) e)
          (fun _ s'' => R (.error e) s'') (fun e' s'' => R (.error e') s'') s')
        { s with heap := h₁, toks := tk })
    (hco : scope.isCoroutine = false := by rfl) (hgen : scope.isGenerator = false := by rfl) (hk : scope.kind = .function := by rfl) :
    codeG (model prog w) A (.call (.ref a) ⟨args, []⟩) R s := by
  refine codeG_function hroom ho hdata hco hgen rfl hcd ?_
  rw [hbind]
  refine wpAny_pure (wpAny_newFunctionEnv_cells hk hkind fun env' he s' x => ?_)
  subst he
  refine ⟨hlim.keeps x.toInCall.keep, codeG_func ?_⟩
  obtain ⟨h₁, tk, rfl, _⟩ := x.done
  obtain ⟨cells, N, Y⟩ := Cl.news (h₀ := s.heap) (Nat.le_refl _) fun n c hm => ⟨x.cell n c (lookup_of_mem_nodup (cellsFrom_names scope.names 0 (s.heap.objs.size + 1) [] [] rfl ▸ hnd) hm), x.above n c hm⟩
  exact h h₁ tk cells ⟨x.toInCall.ns, x.toInCall.keep, Nat.le_refl _⟩ N Y
end
local macro_rules | `(tactic| walk_at "g_steps") => `(tactic| repeat' ((fail_if_success (with_reducible show wpAny _ _ (call (Value.ref _) _ _) _ _ _)); (fail_if_success (with_reducible show wpG _ _ _ _ _ _)); first | (k_unfold; (try dsimp only)) | (k_end; wrow_close) | walk1 | (dsimp only; walk1) | (leave1; walk_say "STEP leave1"; try dsimp only) | fail "no step"))

section
open Sem (wp)
set_option maxRecDepth 100000
namespace BF
theorem mro : mroOf (.type "bytearray") = pure [.type "bytearray", .type "object"] := by rw [mroOf_type]; kernel_rfl
theorem lookup_new : typeLookup (.type "bytearray") "__new__" = pure (some (.builtin "bytearray.__new__")) := by rw [typeLookup_type, builtinLookup_eq_fast]; kernel_rfl
theorem made : Bind.madeBy (.type "bytearray") = pure (some "bytearray.__new__") := madeBy_type mro lookup_new (by decide +kernel)
theorem slot_init : Slot "bytearray" "__init__" "bytearray.__init__" :=
  .of (owner := "bytearray") (n := "__init__") (by rw [typeLookup_type, builtinLookup_eq_fast]; kernel_rfl) (by decide +kernel) (by decide +kernel) (by decide +kernel)
    (by first | exact .inl (by decide +kernel) | exact .inr (by decide +kernel)) (by rw [isSubtype_type]; kernel_rfl)
theorem called : TypeCalled "bytearray" "bytearray.__new__" "bytearray.__init__" :=
  ⟨by decide +kernel, by decide +kernel, ⟨_, _, mro⟩, made, by decide +kernel, by rw [isSubtype_type]; kernel_rfl, slot_init⟩
theorem typeCall (a : Value) : checkTypeCall "bytearray" ⟨[a], []⟩ = pure () := by kernel_rfl
theorem newCall (a : Value) : checkBuiltinCall "bytearray.__new__" ⟨[.type "bytearray", a], []⟩ = pure () := by kernel_rfl
theorem entry_new : entryFor table "bytearray.__new__" = some Builtin.«list.__new__» := entryFor_alias (id' := "list.__new__") (by kernel_rfl) (by decide +kernel) (by decide +kernel) (by kernel_rfl)
theorem entry_init : entryFor table "bytearray.__init__" = some Builtin.«bytearray.__init__» := entryFor_of_tree (by kernel_rfl)
theorem plain_new : plainId "bytearray.__new__" = true := by decide +kernel
theorem plain_init : plainId "bytearray.__init__" = true := by decide +kernel
theorem sub : isSubtype (.type "bytearray") (.type "bytearray") = pure true := by rw [isSubtype_type]; kernel_rfl
theorem args_init (a b : Value) : argsOk "bytearray.__init__" ⟨[a, b], []⟩ := by unfold argsOk; kernel_rfl
theorem bindOpt (v : Value) : Builtin.Bytes.bindOptional "bytearray.__init__" "bytearray" ["source", "encoding", "errors"] [v] [] = pure [some v, none, none] := by kernel_rfl
set_option maxRecDepth 1000000 in
set_option maxHeartbeats 4000000 in
theorem owner_new : ("bytearray.__new__".splitOn ".__new__").headD "" = "bytearray" := by simp +decide [String.splitOn, String.splitOnAux]
theorem look_rel : typeLookup (.type "bytearray") "__release_buffer__" = pure (some (.builtin "bytearray.__release_buffer__")) := by rw [typeLookup_type, builtinLookup_eq_fast]; kernel_rfl
theorem look_buf : typeLookup (.type "bytearray") "__buffer__" = pure (some (.builtin "bytearray.__buffer__")) := by rw [typeLookup_type, builtinLookup_eq_fast]; kernel_rfl
theorem look_int_index : typeLookup (.type "int") "__index__" = pure (some (.builtin "int.__index__")) := by rw [typeLookup_type, builtinLookup_eq_fast]; kernel_rfl
end BF

section
variable {prog : Program} {w : World} {A : Around} {E : Value → Shared → Prop} {s : Shared}
theorem ba_new (a : Value) {Q₁ : Value → Shared → Prop}
    (h : Q₁ (.ref s.heap.objs.size) { s with heap := s.heap.push { cls := .type "bytearray", data := .bytearray #[] } }) :
    codeAny (model prog w) A (.call (.builtin "bytearray.__new__") ⟨[.type "bytearray", a], []⟩) (wants Q₁ E) s := by
  refine codeAny_of_tree ?_
  show wpAny _ A.in1 (do checkBuiltinCall "bytearray.__new__" ⟨[.type "bytearray", a], []⟩; again (.builtin "bytearray.__new__" ⟨[.type "bytearray", a], []⟩)) _ _ s
  refine wpAny_bind (wpAny_of_eq (BF.newCall a) (wpAny_pure ⟨plainId_quiet BF.plain_new _, codeAny_builtin_stack BF.entry_new rfl fun p st => ?_⟩))
  rw [Around.under_plainId BF.plain_new _]
  have hsub := BF.sub
  have hown := BF.owner_new
  obtain ⟨hp, g, d, tk, os⟩ := s
  simp only [hown]
  wp_walk
  exact h
theorem codeG_call_builtin {R : Result → Shared → Prop} {id : String} {args : Args} {b : Builtin} (hq : plainId id = true) (hb : entryFor table id = some b) (hh : holder (.builtin id args) = false)
    (h : wpAny (model prog w) A.in1 (checkBuiltinCall id args) (fun _ s₁ => wpG (model prog w) A.in1 (b args)
      (fun fin s' => match fin with | .done f => R (.ok f) s' | .again c' => c'.quiet = true ∧ codeG (model prog w) A c' R s') (fun e s' => R (.error e) s') s₁)
      (fun e s' => R (.error e) s') s) : codeG (model prog w) A (.call (.builtin id) args) R s := by
  refine codeG_of_tree rfl ?_
  show wpG _ A.in1 (do checkBuiltinCall id args; again (.builtin id args)) _ _ s
  refine wpG_then (wpAny_mono h (fun _ s₁ h₁ => wpG_pure ⟨plainId_quiet hq args, codeG_builtin hh hb (by rw [Around.under_plainId hq args]; exact h₁)⟩) fun _ _ h' => h')
theorem wpAny_writeBa {M : Model} {a : Addr} {b : Array UInt8} {f : Array UInt8 → Array UInt8} {Q : Unit → Shared → Prop} (hS : s.heap.get? a = some { cls := .type "bytearray", data := .bytearray b }) (hz : (f b).size ≤ sizeLine)
    (h : ∀ h', h'.get? a = some { cls := .type "bytearray", data := .bytearray (f b) } → Heap.SameBut a s.heap h' → Q () { s with heap := h' }) : wpAny M A (Builtin.Bytes.write (.ref a) f) Q E s := by
  show wpAny _ _ (updateBytearray a f) _ _ _
  unfold updateBytearray
  refine wpAny_bind (wpAny_load hS ?_)
  show wpAny _ _ (update a (Obj.mapBytearray f) >>= fun _ => lookBehind a) _ _ _
  have e := Heap.get?_update_self (Obj.mapBytearray f) hS rfl
  refine wpAny_bind (wpAny_update hS (wpAny_lookBehind e ?_ (h _ e (Heap.SameBut.update ..))))
  show (if (f b).size > sizeLine then some "bytearray:memory" else none) = none
  rw [if_neg (by omega)]
theorem any_ownRelease {M : Model} {v : Value} {Q : Bool → Shared → Prop} (hT : s.TypeIs v "bytearray") (h : Q false s) : wpAny M A (Builtin.Bytes.ownRelease v) Q E s := by
  unfold Builtin.Bytes.ownRelease Builtin.Bytes.slotIsOwn
  refine wpAny_bind (wpAny_bind (wpAny_specialOf hT BF.look_rel ?_))
  dsimp only
  rw [if_neg (by decide +kernel)]
  rw [show ("bytearray.__release_buffer__".dropRight ("__release_buffer__".length + 1)) = "bytearray" from by decide +kernel]
  refine wpAny_isInstance hT BF.sub ?_
  exact wpAny_pure h
theorem wpG_exported {M : Model} {v : Value} {Q : Bool → Shared → Prop} (h : Q false s) : wpG M A (Builtin.Bytes.exported v) Q E s := fun Γ p hΓ hc hb => by
  unfold Builtin.Bytes.exported
  show Q (((Γ.code, p) :: Γ.below).any _) s
  rw [show ((Γ.code, p) :: Γ.below).any _ = false from ?_]
  · exact h
  · refine List.any_eq_false.mpr fun q hq => ?_
    have hh : holder q.1 = false := by
      rcases List.mem_cons.mp hq with rfl | hq
      · exact hc
      · exact hb q hq
    obtain ⟨c, p'⟩ := q
    cases c with
    | builtin id args =>
      have hid : holderIds.contains id = false := hh
      have hd : Builtin.Bytes.decodersThatHold.contains id = false := by
        cases e : Builtin.Bytes.decodersThatHold.contains id with
        | false => rfl
        | true =>
          have : holderIds.contains id = true := List.contains_iff_mem.mpr (List.mem_append_right _ (List.contains_iff_mem.mp e))
          rw [this] at hid; cases hid
      split <;> rename_i e
      · cases e; exact absurd hid (by decide +kernel)
      · cases e; exact absurd hid (by decide +kernel)
      · cases e; exact absurd hid (by decide +kernel)
      · cases e; exact absurd hid (by decide +kernel)
      · cases e; exact absurd hid (by decide +kernel)
      · cases e; rw [hd, Bool.and_false]; exact Bool.false_ne_true
      · exact Bool.false_ne_true
    | _ => exact Bool.false_ne_true
theorem G_bytearray {n : Int} {t : Tok} {Q : Value → Shared → Prop} (h0 : 0 < n) (h1 : n ≤ 1000)
    (h : ∀ h', (∀ b o, s.heap.get? b = some o → h'.get? b = some o) → h'.get? s.heap.objs.size = some { cls := .type "bytearray", data := .bytearray (Array.replicate n.toNat 0) } → Q (.ref s.heap.objs.size) { s with heap := h' }) :
    wpG (model prog w) A (call (.type "bytearray") [.int n t]) Q E s := by
  refine wpG_call (codeG_of_tree rfl ?_)
  show wpG _ _ (callAny (.type "bytearray") _) _ _ _
  refine wpG_pure ⟨Code.quiet_builtin _ (by decide +kernel), codeG_builtin (by show holderIds.contains "type.__call__" = false; decide +kernel) F.entry_type_call ?_⟩
  rw [Around.under_plain (weight_type_call_type "bytearray" _ []) rfl]
  have h1 := BF.called.notType
  have h2 := BF.called.canCreate
  unfold Builtin.«type.__call__»
  dsimp only
  rw [if_neg (by rw [h1]; decide), if_neg (by rw [h2]; decide), BF.typeCall, BF.mro, BF.made]
  refine wpG_bind (wpG_pure ?_)
  refine wpG_bind (wpG_pure ?_)
  rw [if_neg (by decide)]
  refine wpG_bind (wpG_pure ?_)
  dsimp only
  refine wpG_bind (wpG_pure ?_)
  refine wpG_then (wpAny_holding (wpAny_call (ba_new _ ?_)))
  have hS : (s.heap.push { cls := .type "bytearray", data := .bytearray #[] }).get? s.heap.objs.size = some { cls := .type "bytearray", data := .bytearray #[] } := Heap.get?_push_size _ rfl
  have hT : ({ s with heap := s.heap.push { cls := .type "bytearray", data := .bytearray #[] } } : Shared).TypeIs (.ref s.heap.objs.size) "bytearray" := ⟨_, hS, rfl⟩
  refine wpG_then (wpAny_isInstance hT BF.sub ?_)
  rw [if_neg (by decide)]
  refine wpG_bind (wpG_holding ?_)
  unfold callSpecial?
  refine wpG_then (wpAny_specialOf hT BF.slot_init.lookup ?_)
  dsimp only
  refine wpG_holding ?_
  rw [BF.slot_init.bind]
  refine wpG_bind (wpG_pure ?_)
  dsimp only
  refine wpG_bind (wpG_call (codeG_call_builtin BF.plain_init BF.entry_init (by show holderIds.contains "bytearray.__init__" = false; decide +kernel) (BF.slot_init.check _ _ _ _ _ _ _ _ hT (BF.args_init _ _) ?_)))
  show wpG _ _ (Builtin.Bytes.ownRelease (.ref s.heap.objs.size) >>= _) _ _ _
  refine wpG_then (any_ownRelease hT ?_)
  rw [if_neg (by decide)]
  refine wpG_then (wpAny_of_eq (BF.bindOpt _) ?_)
  dsimp only
  refine wpG_then (wpAny_of_eq (a := ()) rfl ?_)
  refine wpG_then (wpAny_of_eq (a := ()) rfl ?_)
  refine wpG_bind ?_
  show wpG _ _ (Builtin.Bytes.exported (.ref s.heap.objs.size) >>= _) _ _ _
  refine wpG_bind (wpG_exported ?_)
  show wpG _ _ (Builtin.Bytes.exportsOf (.ref s.heap.objs.size) >>= fun k => pure (decide (k > 0))) _ _ _
  unfold Builtin.Bytes.exportsOf
  refine wpG_then (wpAny_bind (wpAny_load hS (wpAny_pure ?_)))
  refine wpG_pure ?_
  rw [if_neg (by decide)]
  refine wpG_of_any ?_
  refine wpAny_bind (wpAny_writeBa hS (by decide) fun h1' e1 k1 => ?_)
  refine wpAny_bind (wpAny_of_eq (a := none) rfl ?_)
  rw [if_neg (by decide)]
  refine wpAny_bind (wpAny_of_eq (a := ()) rfl ?_)
  refine wpAny_bind (wpAny_specialOf (typeIs_int _ n t) BF.look_int_index ?_)
  rw [if_pos (by decide)]
  refine wpAny_bind (wpAny_attempt (wpAny_of_eq (a := n) rfl ?_))
  dsimp only
  rw [if_neg (by simp [Builtin.Bytes.fitsIndex]; omega), if_neg (by omega), if_neg (by simp; omega), if_neg (by simp [Builtin.Bytes.tooLong, sizeLine_eq]; omega)]
  refine wpAny_bind (wpAny_rule ?_)
  rw [if_pos (by omega)]
  refine wpAny_bind (wpAny_writeBa e1 (by rw [sizeLine_eq, Array.size_replicate]; omega) fun h2' e2 k2 => ?_)
  refine wpAny_pure ?_
  dsimp only
  refine wpG_pure ?_
  dsimp only
  rw [if_neg (by decide)]
  refine wpG_pure (h h2' (fun b o e => ?_) e2)
  have hb : b ≠ s.heap.objs.size := Nat.ne_of_lt (Heap.lt_size e)
  exact (k2.2 b hb).trans ((k1.2 b hb).trans (Heap.get?_push_of_some _ e))
end
end

section
open Sem (wp)
set_option maxRecDepth 100000
namespace BF
theorem slot_setitem : Slot "bytearray" "__setitem__" "bytearray.__setitem__" :=
  .of (owner := "bytearray") (n := "__setitem__") (by rw [typeLookup_type, builtinLookup_eq_fast]; kernel_rfl) (by decide +kernel) (by decide +kernel) (by decide +kernel)
    (by first | exact .inl (by decide +kernel) | exact .inr (by decide +kernel)) (by rw [isSubtype_type]; kernel_rfl)
theorem entry_setitem : entryFor table "bytearray.__setitem__" = some Builtin.«bytearray.__setitem__» := entryFor_of_tree (by kernel_rfl)
theorem args_setitem (a b c : Value) : argsOk "bytearray.__setitem__" ⟨[a, b, c], []⟩ := by unfold argsOk; kernel_rfl
theorem look_bytes : typeLookup (.type "bytearray") "__bytes__" = pure none := by rw [typeLookup_type, builtinLookup_eq_fast]; kernel_rfl
theorem look_index : typeLookup (.type "bytearray") "__index__" = pure none := by rw [typeLookup_type, builtinLookup_eq_fast]; kernel_rfl
end BF
section
variable {prog : Program} {w : World} {A : Around} {E : Value → Shared → Prop} {s : Shared}
theorem ba_setItem {a : Addr} {b : Array UInt8} {k v : Int} {t u : Tok} {Q : Unit → Shared → Prop} (hS : s.heap.get? a = some { cls := .type "bytearray", data := .bytearray b }) (hz : b.size ≤ sizeLine)
    (h0 : 0 ≤ k) (hk : k < b.size) (hv : 0 ≤ v ∧ v < 256)
    (h : ∀ h', h'.get? a = some { cls := .type "bytearray", data := .bytearray (b.setIfInBounds k.toNat v.toNat.toUInt8) } → Heap.SameBut a s.heap h' → Q () { s with heap := h' }) :
    wpAny (model prog w) A (setItem (.ref a) (.int k t) (.int v u)) Q E s := by
  have hT : s.TypeIs (.ref a) "bytearray" := ⟨_, hS, rfl⟩
  unfold setItem
  try with_reducible refine wpAny_holding ?_
  first | refine wpAny_bind (wpAny_pure ?_) | skip
  refine wpAny_bind (wpAny_sequenceKey hT (by decide) ?_)
  refine wpAny_bind (wpAny_callSpecial?_slot (name := Str.ofString "__setitem__") hT BF.slot_setitem
    (wpAny_call_entry BF.slot_setitem hT BF.entry_setitem ?_ (BF.args_setitem _ _ _)))
  have hk63 : k < 2 ^ 63 := by rw [sizeLine_eq] at hz; omega
  show wpAny _ _ (Builtin.Bytes.subscript? (.int k t) >>= _) _ _ _
  unfold Builtin.Bytes.subscript?
  refine wpAny_bind (wpAny_bind (wpAny_specialOf (typeIs_int _ k t) BF.look_int_index ?_))
  rw [if_neg (by decide)]
  refine wpAny_bind (wpAny_of_eq (a := k) rfl ?_)
  rw [if_neg (by simp [Builtin.Bytes.fitsIndex]; omega)]
  refine wpAny_pure ?_
  show wpAny _ _ (Builtin.Bytes.byteValue (.int v u) >>= _) _ _ _
  unfold Builtin.Bytes.byteValue
  refine wpAny_bind (wpAny_bind (wpAny_of_eq (a := v) rfl ?_))
  rw [if_neg (by simp; omega)]
  refine wpAny_pure ?_
  show wpAny _ _ (Builtin.Bytes.payload (.ref a) >>= _) _ _ _
  unfold Builtin.Bytes.payload Builtin.Bytes.payload?
  refine wpAny_bind (wpAny_bind (wpAny_bind (wpAny_load hS (wpAny_pure ?_))))
  refine wpAny_pure ?_
  have hq : seqIndex? k b.size = some k.toNat := by
    have hn : ¬ k < 0 := by omega
    simp only [seqIndex?, hn, if_false, h0, decide_true, hk, Bool.and_self, if_true]
  rw [hq]
  refine wpAny_bind (wpAny_writeBa hS (by rw [Array.size_setIfInBounds]; exact hz) fun h' e' k' => ?_)
  exact wpAny_pure ⟨_, rfl, wpAny_pure (h h' e' k')⟩
theorem any_slotIsOwn {M : Model} {v : Value} {Q : Bool → Shared → Prop} (hT : s.TypeIs v "bytearray") (h : Q true s) : wpAny M A (Builtin.Bytes.slotIsOwn v "__buffer__") Q E s := by
  unfold Builtin.Bytes.slotIsOwn
  refine wpAny_bind (wpAny_specialOf hT BF.look_buf ?_)
  dsimp only
  rw [if_neg (by decide +kernel)]
  rw [show ("bytearray.__buffer__".dropRight ("__buffer__".length + 1)) = "bytearray" from by decide +kernel]
  exact wpAny_isInstance hT BF.sub h
theorem bytes_of_ba {a : Addr} {b : Array UInt8} {Q : Value → Shared → Prop} (hS : s.heap.get? a = some { cls := .type "bytearray", data := .bytearray b }) (hz : b.size ≤ sizeLine)
    (h : ∀ t, Q (.bytes b t) { s with toks := t + 1 }) : wpAny (model prog w) A (call (.type "bytes") [.ref a]) Q E s := by
  have hT : s.TypeIs (.ref a) "bytearray" := ⟨_, hS, rfl⟩
  refine callType_codes (Q₁ := fun obj s₁ => s₁.TypeIs obj "bytes" ∧ Q obj s₁) F.bm_called (F.bm_typeCall _) F.entry_object_init ?_ fun obj s₁ h₁ =>
    ⟨h₁.1, F.args_object_init_2 obj _, object_init_meets F.bm_called.init.lookup F.bm_called.made (by decide) prog w A.in1 _ s₁ ⟨h₁.1, rfl, h₁.2⟩⟩
  refine codeAny_of_tree ?_
  show wpAny _ A.in1.in1 (do checkBuiltinCall "bytes.__new__" ⟨[.type "bytes", .ref a], []⟩; again (.builtin "bytes.__new__" ⟨[.type "bytes", .ref a], []⟩)) _ _ s
  refine wpAny_bind (wpAny_of_eq (F.bm_newCall _) (wpAny_pure ⟨plainId_quiet F.bm_plain _, codeAny_builtin F.bm_entry ?_⟩))
  rw [Around.under_plainId F.bm_plain _]
  unfold Builtin.«bytes.__new__»
  refine wpAny_bind (wpAny_of_eq (a := true) rfl ?_)
  refine bm_if_false rfl ?_
  refine wpAny_bind (wpAny_of_eq F.bm_sub ?_)
  refine bm_if_false rfl ?_
  refine wpAny_bind (wpAny_of_eq (F.bm_bind _) ?_)
  refine wpAny_bind (wpAny_of_eq (a := ()) rfl ?_)
  refine wpAny_bind (wpAny_of_eq (a := ()) rfl ?_)
  refine bm_if_false rfl ?_
  refine wpAny_bind (wpAny_specialOf hT BF.look_bytes ?_)
  refine wpAny_bind (wpAny_bind ?_)
  show wpAny _ _ (load a >>= _) _ _ _
  refine wpAny_bind (wpAny_load hS ?_)
  refine wpAny_pure (wpAny_pure ?_)
  refine bm_if_false rfl ?_
  refine wpAny_bind (wpAny_specialOf hT BF.look_index ?_)
  refine bm_if_true rfl ?_
  first
    | show wpAny _ _ (Builtin.Bytes.buffer? "bytes.__new__" (.ref a) true >>= _) _ _ _
    | (refine wpAny_bind ?_; show wpAny _ _ (Builtin.Bytes.buffer? "bytes.__new__" (.ref a) true >>= _) _ _ _)
  refine wpAny_bind ?_
  unfold Builtin.Bytes.buffer?
  refine wpAny_bind (wpAny_specialOf hT BF.look_buf ?_)
  (try dsimp only)
  refine wpAny_bind (any_slotIsOwn hT ?_)
  refine bm_if_false rfl ?_
  refine wpAny_bind (wpAny_specialOf hT BF.look_buf ?_)
  (try dsimp only)
  refine wpAny_bind (any_ownRelease hT ?_)
  refine bm_if_false rfl ?_
  unfold Builtin.Bytes.payload Builtin.Bytes.payload?
  refine wpAny_bind (wpAny_bind (wpAny_bind (wpAny_load hS (wpAny_pure ?_))))
  refine wpAny_pure (wpAny_pure ?_)
  refine wpAny_bind (wpAny_rule ?_)
  refine wpAny_bind (wpAny_mkBytes ?_ hz)
  show wpAny _ _ (if (Value.type "bytes" == Value.type "bytes") = true then _ else _) _ _ _
  refine bm_if_true (by decide) ?_
  first
    | exact wpAny_pure ⟨PySem.W.typeIs_bytes _ _ _, h _⟩
    | exact wpAny_bind (wpAny_pure (wpAny_pure ⟨PySem.W.typeIs_bytes _ _ _, h _⟩))
end
end

section
open Sem (wp)
set_option maxRecDepth 100000

section
variable {M : Model} {A : Around} {E : Value → Shared → Prop} {s : Shared} {env : Env}
theorem any_operate {vs : List Value} {m : Sem Value} {Q : Value → Shared → Prop} (h : wpAny M A m Q E s) : wpAny M A (operate vs m) Q E s :=
  fun Γ p hΓ => by rw [Sem.wp_operate]; exact h Γ p hΓ
theorem wpG_execs_cons {st : Stmt} {rest : List Stmt} {Q : Flow → Shared → Prop}
    (h : wpG M A (exec st env) (fun f s' => match f with | .next => wpG M A (execs rest env) Q E s' | f => Q f s') E s) :
    wpG M A (execs (st :: rest) env) Q E s := by
  rw [execs_cons]
  refine wpG_bind (wpG_mono h (fun f s' h' => ?_) fun _ _ x => x)
  cases f <;> first | exact h' | exact wpG_pure h'
theorem wpG_Return {e : Expr} {pos : Pos} {Q : Flow → Shared → Prop} (h : wpG M A (eval e env) (fun v => Q (.ret v)) E s) : wpG M A (exec (.Return (some e) pos) env) Q E s := by
  rw [exec_Return_some]
  exact wpG_standAt (wpG_bind (wpG_mono h (fun v s' h' => wpG_pure h') fun _ _ x => x))
theorem wpG_Assign_Name {x : Str} {pos' pos : Pos} {value : Expr} {Q : Flow → Shared → Prop}
    (h : wpG M A (eval value env) (fun v s₁ => wpAny M A (storeName env x v) (fun _ => Q .next) E s₁) E s)
    (hs : swapsWith value (some (.Name x pos')) pos.line env = pure false := by rfl) :
    wpG M A (exec (.Assign [.Name x pos'] value pos) env) Q E s := by
  rw [exec_Assign_Name env x pos' value pos hs]
  refine wpG_standAt (wpG_bind (wpG_mono h (fun v s₁ h₁ => ?_) fun _ _ x => x))
  refine wpG_of_any (wpAny_bind (wpAny_standAt (wpAny_bind (wpAny_bindName (wpAny_mono h₁ (fun _ _ h' => wpAny_pure h') fun _ _ x => x)))))
theorem wpG_If {test : Expr} {body orelse : List Stmt} {pos : Pos} {Q : Flow → Shared → Prop}
    (h : wpG M A (isTrue test env (eval test env)) (fun b s₂ => if b then wpG M A (execs body env) Q E s₂ else wpG M A (execs orelse env) Q E s₂) E s) :
    wpG M A (exec (.If test body orelse pos) env) Q E s := by
  rw [exec_If]
  refine wpG_standAt (wpG_bind (wpG_mono h (fun b s₂ h₂ => ?_) fun _ _ x => x))
  cases b <;> exact h₂
theorem wpG_isTrue_or {x : Expr} {rest : List Expr} {pos : Pos} {whole : Sem Value} {Q : Bool → Shared → Prop}
    (h : wpG M A (isTrue x env (eval x env)) (fun c s' => if c then Q true s' else wpG M A (isTrue (.BoolOp .Or rest pos) env whole) Q E s') E s) :
    wpG M A (isTrue (.BoolOp .Or (x :: rest) pos) env whole) Q E s := by
  show wpG M A (do
    match BoolOp.Or, ← isTrue x env (eval x env) with
    | .And, false => pure false
    | .Or, true => pure true
    | _, _ => allTrue .Or rest env) Q E s
  refine wpG_bind (wpG_mono h (fun c s' h' => ?_) fun _ _ x => x)
  cases c with
  | false => exact h'
  | true => exact wpG_pure h'
theorem wpG_isTrue_Compare1 {l : Expr} {op : CmpOp} {r : Expr} {pos : Pos} {whole : Sem Value} {Q : Bool → Shared → Prop}
    (h : wpG M A (eval l env) (fun a s₁ => wpAny M A (eval r env) (fun b s₂ => wpAny M A (compareOp op a b) (fun c s₃ => wpAny M A (truthy c) Q E s₃) E s₂) E s₁) E s)
    (hm : behindInMarks op r = false := by with_unfolding_all rfl) : wpG M A (isTrue (.Compare l [op] [r] pos) env whole) Q E s := by
  rw [isTrue_Compare1, markedBehindIn_of_false hm]
  refine wpG_bind (wpG_mono h (fun a s₁ h₁ => wpG_of_any ?_) fun _ _ x => x)
  refine wpAny_bind (wpAny_holding (wpAny_mono h₁ (fun b s₂ h₂ => wpAny_bind (wpAny_standAt (wpAny_bind (wpAny_mono (any_operate h₂) (fun c s₃ h₃ => wpAny_holding h₃) fun _ _ x => x)))) fun _ _ x => x))
theorem wpG_BinOp {l : Expr} {op : Operator} {r : Expr} {pos : Pos} {Q : Value → Shared → Prop}
    (h : wpAny M A (eval l env) (fun a s₁ => wpG M A (eval r env) (fun b s₂ => wpAny M A (binaryOp op a b) Q E s₂) E s₁) E s) :
    wpG M A (eval (.BinOp l op r pos) env) Q E s := by
  rw [eval_BinOp]
  refine wpG_then (wpAny_mono h (fun a s₁ h₁ => ?_) fun _ _ x => x)
  exact wpG_bind (wpG_holding (wpG_mono h₁ (fun b s₂ h₂ => wpG_of_any (wpAny_bind (wpAny_standAt (any_operate h₂)))) fun _ _ x => x))
theorem wpG_Subscript {value slice : Expr} {pos : Pos} {Q : Value → Shared → Prop}
    (h : wpG M A (eval value env) (fun o s₁ => wpAny M A (eval slice env) (fun i s₂ => wpAny M A (subscriptTail value slice o i) Q E s₂) E s₁) E s) :
    wpG M A (eval (.Subscript value slice pos) env) Q E s := by
  rw [eval_Subscript]
  exact wpG_bind (wpG_mono h (fun o s₁ h₁ => wpG_of_any (wpAny_bind (wpAny_holding (wpAny_mono h₁ (fun i s₂ h₂ => wpAny_bind (wpAny_standAt h₂)) fun _ _ x => x)))) fun _ _ x => x)
theorem wpG_Tuple {elts : List Expr} {k : Nat} {pos : Pos} {Q : Value → Shared → Prop}
    (h : wpG M A (spliced (backTo pos (starEach elts env))) (fun vs s₁ => wpAny M A (newTuple vs) Q E s₁) E s) : wpG M A (eval (.Tuple elts k pos) env) Q E s := by
  rw [arm_eval_Tuple]
  exact wpG_standAt (wpG_bind (wpG_mono h (fun vs s₁ h₁ => wpG_of_any h₁) fun _ _ x => x))
theorem wpG_args_nil {pos : Pos} {Q : List Value → Shared → Prop} (h : Q [] s) : wpG M A (spliced (backTo pos (starEach [] env))) Q E s := wpG_pure h
theorem wpG_spliced_cons {x : Sem Value} {rest : List (Bool × Sem Value)} {Q : List Value → Shared → Prop}
    (h : wpG M A x (fun v s₁ => wpG M A (spliced rest) (fun vs s₂ => Q (v :: vs) s₂) E s₁) E s) : wpG M A (spliced ((false, x) :: rest)) Q E s := by
  rw [spliced]
  refine wpG_bind (wpG_mono h (fun v s₁ h₁ => ?_) fun _ _ x => x)
  simp only [Bool.false_eq_true, if_false]
  exact wpG_bind (wpG_pure (wpG_bind (wpG_holding (wpG_mono h₁ (fun vs s₂ h₂ => wpG_pure h₂) fun _ _ x => x))))
theorem wpG_args_cons {e : Expr} {rest : List Expr} {pos : Pos} {Q : List Value → Shared → Prop}
    (h : wpG M A (eval e env) (fun v s₁ => wpG M A (spliced (backTo pos (starEach rest env))) (fun vs s₂ => Q (v :: vs) s₂) E s₁) E s)
    (he : starEach (e :: rest) env = (false, eval e env) :: starEach rest env := by rfl) :
    wpG M A (spliced (backTo pos (starEach (e :: rest) env))) Q E s := by
  rw [he]
  exact wpG_spliced_cons h
theorem wpG_Call {func : Expr} {args : List Expr} {pos : Pos} {Q : Value → Shared → Prop}
    (h : wpAny M A (eval func env) (fun f s₁ => wpG M A (callWith pos f [] (backTo pos (starEach args env)) []) Q E s₁) E s)
    (he : eval (.Call func args [] pos) env = (do callWith pos (← eval func env) [] (backTo pos (starEach args env)) (backToKw pos (keywordEach [] env))) := by rfl) :
    wpG M A (eval (.Call func args [] pos) env) Q E s := by
  rw [he]; exact wpG_then h
theorem wpG_evalArgs {f : Value} {x : Sem Value} {rest : List (Bool × Sem Value)} {Q : Args → Shared → Prop}
    (h : wpG M A (spliced ((false, x) :: rest)) (fun vs s' => Q ⟨vs, []⟩ s') E s) : wpG M A (evalArgs f true ((false, x) :: rest) []) Q E s := by
  unfold evalArgs
  show wpG M A (spliced ((false, x) :: rest) >>= _) Q E s
  refine wpG_bind (wpG_mono h (fun vs s' h' => ?_) fun _ _ x => x)
  refine wpG_of_any (wpAny_holding ?_)
  exact wpAny_bind (wpAny_pure (wpAny_bind (wpAny_pure (wpAny_pure h'))))
theorem wpG_callWith {P : Heap → Prop} {pos : Pos} {f : Value} {first : List Value} {args : List (Bool × Sem Value)} {Q : Value → Shared → Prop} (hplain : args.any (·.1) = false)
    (hk : ∀ h, P h → ∃ k, (k = Keeper.frame ∨ k = Keeper.machine ∨ k = Keeper.boundFrame) ∧ Looks M h (keeperOf f) k)
    (h : wpG M A (evalArgs f true args []) (fun a s₁ => P s₁.heap ∧ wpG M A (call f (first ++ a.pos) a.kw) Q E s₁) E s) : wpG M A (callWith pos f first args []) Q E s := by
  unfold callWith
  refine wpG_bind (wpG_holding (wpG_mono h (fun a s₁ h₁ => wpG_standAt ?_) fun _ _ x => x))
  obtain ⟨k, hk', L⟩ := hk _ h₁.1
  simp only [hplain, List.any_nil, Bool.or_false]
  refine wpG_then (L.here ?_)
  have tail : ∀ {t : Sem Value}, wpG M A t Q E s₁ → wpG M A (t >>= fun r => holding [r] point >>= fun _ => pure r) Q E s₁ :=
    fun ht => wpG_bind (wpG_mono ht (fun r s₂ hr => wpG_of_any (wpAny_bind (wpAny_holding (wpAny_point (wpAny_pure hr))))) fun _ _ x => x)
  have marked (mk : Value) : wpG M A (callMarked mk f (first ++ a.pos) a.kw) Q E s₁ := by unfold callMarked; exact wpG_keep h₁.2
  rcases hk' with rfl | rfl | rfl <;> dsimp only <;> first | exact tail h₁.2 | (split <;> first | exact tail h₁.2 | exact tail (marked _))
theorem wpG_callWith_K {K : Frag} {h₀ : Heap} {pos : Pos} {f : Value} {e : Expr} {rest : List Expr} {Q : Value → Shared → Prop} (_X : K.In h₀) (hk : keepIn K f = true)
    (h : wpG M A (spliced (backTo pos (starEach (e :: rest) env))) (fun vs s₁ => K.In s₁.heap ∧ wpG M A (call f vs) Q E s₁) E s)
    (he : starEach (e :: rest) env = (false, eval e env) :: starEach rest env := by rfl) (hplain : (backTo pos (starEach rest env)).any (·.1) = false := by rfl) :
    wpG M A (callWith pos f [] (backTo pos (starEach (e :: rest) env)) []) Q E s := by
  rw [he] at h ⊢
  exact wpG_callWith (by show (false || (backTo pos (starEach rest env)).any (·.1)) = false; rw [hplain]; rfl) (keeps_K hk) (wpG_evalArgs h)
theorem wpG_callWith_type {T : String} {pos : Pos} {e : Expr} {rest : List Expr} {Q : Value → Shared → Prop}
    (h : wpG M A (spliced (backTo pos (starEach (e :: rest) env))) (fun vs s₁ => wpG M A (call (.type T) vs) Q E s₁) E s)
    (he : starEach (e :: rest) env = (false, eval e env) :: starEach rest env := by rfl) (hplain : (backTo pos (starEach rest env)).any (·.1) = false := by rfl) :
    wpG M A (callWith pos (.type T) [] (backTo pos (starEach (e :: rest) env)) []) Q E s := by
  rw [he] at h ⊢
  exact wpG_callWith (P := fun _ => True) (by show (false || (backTo pos (starEach rest env)).any (·.1)) = false; rw [hplain]; rfl)
    (fun _ _ => ⟨.machine, .inr (.inl rfl), Looks.of_pure rfl⟩) (wpG_evalArgs (wpG_mono h (fun _ _ h' => ⟨trivial, h'⟩) fun _ _ x => x))
theorem wpG_callWith_builtin {id : String} {pos : Pos} {e : Expr} {rest : List Expr} {Q : Value → Shared → Prop}
    (h : wpG M A (spliced (backTo pos (starEach (e :: rest) env))) (fun vs s₁ => wpG M A (call (.builtin id) vs) Q E s₁) E s)
    (he : starEach (e :: rest) env = (false, eval e env) :: starEach rest env := by rfl) (hplain : (backTo pos (starEach rest env)).any (·.1) = false := by rfl) :
    wpG M A (callWith pos (.builtin id) [] (backTo pos (starEach (e :: rest) env)) []) Q E s := by
  rw [he] at h ⊢
  exact wpG_callWith (P := fun _ => True) (by show (false || (backTo pos (starEach rest env)).any (·.1)) = false; rw [hplain]; rfl)
    (fun _ _ => ⟨.machine, .inr (.inl rfl), Looks.of_pure rfl⟩) (wpG_evalArgs (wpG_mono h (fun _ _ h' => ⟨trivial, h'⟩) fun _ _ x => x))
end

theorem ints_of_bytes {b : Array UInt8} : ∀ {vs : List Value}, vs.length = b.size → (∀ (j : Nat) (v : Value), vs[j]? = some v → ∃ (c : UInt8) (u : Tok), b[j]? = some c ∧ v = Value.int (c.toNat : Int) u) → IntsAre vs (KBw.bInts b) := by
  obtain ⟨l⟩ := b
  rw [KBw.ints_list]
  induction l with
  | nil => intro vs hl _; cases vs with | nil => exact .nil | cons _ _ => cases hl
  | cons c r ih =>
    intro vs hl h
    cases vs with
    | nil => cases hl
    | cons v vs =>
      obtain ⟨c', u, h1, rfl⟩ := h 0 v (by simp)
      obtain rfl : c = c' := by simpa using h1
      exact .cons _ _ (ih (by simpa using hl) fun j v hv => by
        obtain ⟨c2, u2, e2, e3⟩ := h (j + 1) v (by simpa using hv)
        exact ⟨c2, u2, by simpa using e2, e3⟩)
theorem paired_eq : ∀ {l ys : List Value}, Paired (fun v y => y = v) l ys → ys = l
  | _, _, .nil => rfl
  | _, _, .cons e t => by rw [e, paired_eq t]

section
variable {prog : Program} {w : World} {A : Around} {E : Value → Shared → Prop} {s : Shared} {env : Env} {h₀ : Heap} {m : Str → Option Value} {news : List (Addr × Obj)}
theorem comp_bytes {iter : Expr} {x : Str} {pe px : Pos} {scope : Scope} {pos cpos : Pos} {Q : Value → Shared → Prop} {b : Array UInt8} {t : Tok}
    (hfree : ∀ y ∈ scope.names, y.2 ≠ .free) (hcell : ∀ y ∈ scope.names, y.2 ≠ .cell) (hkind : scope.kind = .function)
    (hnames : ∀ y ∈ scope.names, y.2 = .local → scope.names.lookup y.1 = some .local) (hx : scope.names.lookup x = some .local) (hd : (x == ("__debug__" : Str)) = false)
    (hh : A.handled = none) (hb : b.size ≤ sizeLine) (F : Fr h₀ env.locals s.heap m) (N : News h₀ env.locals s.heap news)
    (h : ∀ D h' tk vs k, Fr h₀ env.locals h' m → News h₀ env.locals h' ((D, listOf vs.toArray k) :: news) → (∀ p ∈ news, p.1 ≠ D) → IntsAre vs (KBw.bInts b) → Q (.ref D) { s with heap := h', toks := tk })
    (hs : ∀ x, foldedSetIterable iter env x = pure x) :
    wpAny (model prog w) A (comprehension (.ListComp (.Name x pe) [⟨.Name x px, iter, [], 0⟩] scope pos) scope env cpos (newList []) false (pure (.bytes b t))) Q E s := by
  refine wpAny_comprehension rfl hs hfree hkind hnames (wpAny_pure (KBw.pyIter_bytes ?_))
  have up : ∀ b' o, s.heap.get? b' = some o → (s.heap.push { cls := .type "bytes_iterator", data := .fields #[.bytes b t, .int 0 0] }).get? b' = some o := fun b' o e => Heap.get?_push_of_some _ e
  refine comp_block_walk (s₂ := { s with heap := s.heap.push { cls := .type "bytes_iterator", data := .fields #[.bytes b t, .int 0 0] } }) (RR := fun acc cenv r s' => ∃ m, s'.heap.Ns cenv.locals m ∧ ∀ h', Heap.SameBut cenv.locals s'.heap h' →
    match r with | .ok _ => Q acc { s' with heap := h' } | .error x => wpAny (model prog w) A (PySem.passOn "comprehension.variables-let-go" x cenv) Q E { s' with heap := h' }) (F := fun v y => y = v) (KBw.walks hh s.heap.objs.size b t) hb (fun _ => true) hcell hkind hx (show KBw.IsBytesIter (s.heap.push _) _ b t 0 from ⟨_, Heap.get?_push_size _ rfl, rfl, rfl⟩) (fun b' hb' => ?_) ⟨?_, ?_⟩ ?_
  · rw [List.mem_singleton.mp hb']
    show s.heap.objs.size < (s.heap.push _).objs.size
    rw [Heap.size_push]; exact Nat.lt_succ_self _
  · intro C i v s₃ m₃ E' _ _ _ _ _
    exact wpAny_pure ⟨rfl, s₃.heap, s₃.toks, rfl, fun _ _ e => e⟩
  · intro C i v s₃ m₃ E' _ _ hn hm _ _
    exact wpAny_Name (wpAny_loadName_local (env := compEnv scope C env) hkind hx hn hm ⟨rfl, s₃.heap, s₃.toks, rfl, fun _ _ e => e⟩) hd
  · intro D C h' tk m' ys vs hD hC hDC hn hl hpl hlen hP hF hk
    refine ⟨m', hn, fun h'' hs'' => ?_⟩
    have e : ys.toList = vs := by rw [paired_eq hF, List.filter_eq_self.mpr fun _ _ => rfl]
    obtain ⟨k, hpl⟩ := hpl
    have lt : ∀ b' o, s.heap.get? b' = some o → h''.get? b' = some o := fun b' o e' => by
      have e2 := up b' o e'
      refine (hs''.2 b' ?_).trans (hk b' o ?_ e2)
      · rintro rfl; rw [hC] at e2; cases e2
      · intro q; rw [List.mem_singleton.mp q] at e'; exact absurd (Heap.lt_size e') (Nat.lt_irrefl _)
    have hD0 : s.heap.get? D = none := by
      cases q : s.heap.get? D with
      | none => rfl
      | some o => rw [up D o q] at hD; cases hD
    have hF0 : ∀ o, h₀.get? D = some o → False := fun o q => by rw [F.keep _ _ q] at hD0; cases hD0
    refine h D h'' tk vs k (F.keeps lt) (fun p hp => ?_) (fun p hp q => ?_) (ints_of_bytes hlen hP)
    · rcases List.mem_cons.mp hp with rfl | hp
      · refine ⟨(hs''.2 D hDC).trans ?_, fun q => ?_, ?_⟩
        · rw [← e]; simpa using hpl
        · obtain ⟨oL, _, _, hL, _⟩ := F.ns
          rw [← q, hD0] at hL; cases hL
        · cases q : h₀.get? D with
          | none => rfl
          | some o => exact (hF0 o q).elim
      · exact ⟨lt _ _ (N p hp).1, (N p hp).2⟩
    · rw [← q, (N p hp).1] at hD0; cases hD0
theorem wpG_ListComp {elt iter : Expr} {x : Str} {px : Pos} {scope : Scope} {pos : Pos} {Q : Value → Shared → Prop}
    (h : wpG (model prog w) A (eval iter env) (fun v s₁ => wpAny (model prog w) A (comprehension (.ListComp elt [⟨.Name x px, iter, [], 0⟩] scope pos) scope env iter.pos (newList []) false (pure v)) Q E s₁) E s) :
    wpG (model prog w) A (eval (.ListComp elt [⟨.Name x px, iter, [], 0⟩] scope pos) env) Q E s := by
  rw [eval_ListComp]
  unfold comprehension
  exact wpG_bind (wpG_mono h (fun v s₁ h₁ => wpG_of_any h₁) fun _ _ x => x)
end
end
section
def GG (gg : Obj → List (Addr × Obj)) (b : Addr) : Prop := ∀ o p, p ∈ gg o → p.1 < b
theorem GG.lt {gg : Obj → List (Addr × Obj)} {b : Addr} {o : Obj} {p : Addr × Obj} (h : GG gg b) (hp : p ∈ gg o) : @LT.lt Nat _ p.1 b := h o p hp
def GM (gg : Obj → List (Addr × Obj)) (a : Addr) (ob : Obj) : Prop := ∀ o, (a, ob) ∈ gg o
theorem GM.mem {gg : Obj → List (Addr × Obj)} {a : Addr} {ob o : Obj} (h : GM gg a ob) : (a, ob) ∈ gg o := h o
local macro_rules | `(tactic| k_all) => `(tactic| (intro p9 h9; (first | (have q9 := ltN ((by assumption : ∀ p ∈ _, Prod.fst p < _) p9 h9); refine neN ?_; omega) | (have q9 := ltN (ktn_ltOf (by assumption) p9 h9); refine neN ?_; omega) | (have q9 := GG.lt (by assumption) h9; refine neN ?_; omega))))
local macro_rules | `(tactic| k_mem) => `(tactic| first | exact List.Mem.head _ | assumption | exact GM.mem (by assumption) | (refine' List.Mem.tail _ ?_; k_mem))
local macro_rules | `(tactic| k_updF) => `(tactic| first | assumption | (refine' UpdF.head ?a; (case a => k_all)) | (refine' UpdF.tail ?a ?b; (case b => k_updF); (case a => k_ne)))
local macro_rules | `(tactic| is_list) => `(tactic| exact News.isList (by assumption) (by k_mem))

section
set_option maxRecDepth 100000



abbrev ICl (prog : Program) (w : World) (K : Frag) (p : Program) (loose : List Str) (mean : ExcName → Option Value) (mg mb : Str → Option Value) (base : Heap) (f : Addr) (led : List (Addr × Obj)) (val : Int → Int → Int) (i j : Int) : Prop :=
  ∀ (ti tj : Tok) (dp un : Nat) (gd : Option (List Code)) (cn : Str) (cs : Scope) (a : Addr) (ccd : Value) (cl : List (Str × Addr)) (outer : List Env) (A₀ : Around) (h₀ : Heap) (L : Addr) (m : Str → Option Value) (s : Shared) (Q E : Value → Shared → Prop),
    Below A₀ base outer h₀ → Fr h₀ L s.heap m → K.In h₀ → News h₀ L s.heap led → Top p loose mean mg mb h₀ → cs.kind = .function →
    dp + (j - i).toNat + 2 < recursionLimit → un + 8 * ((j - i).toNat + 2) < cLine →
    (∀ (t : Tok) (h' : Heap) (tk' : Nat), Fr h₀ L h' m → News h₀ L h' led → Q (.int (val i j) t) { s with heap := h', toks := tk' }) →
    wpAny (model prog w) (ktrTop dp un gd cn cs L a ccd cl outer) (call (.ref f) [.int i ti, .int j tj]) Q E s

def IHyp (prog : Program) (w : World) (K : Frag) (p : Program) (loose : List Str) (mean : ExcName → Option Value) (mg mb : Str → Option Value) (base : Heap) (f : Addr) (led : List (Addr × Obj)) (val : Int → Int → Int) (pre : Int → Int → Prop) (n : Nat) : Prop :=
  ∀ i' j', pre i' j' → (j' - i').toNat < n → ICl prog w K p loose mean mg mb base f led val i' j'
theorem ind_of {P : Int → Int → Prop} {pre : Int → Int → Prop} (step : ∀ i j, pre i j → (∀ i' j', pre i' j' → (j' - i').toNat < (j - i).toNat → P i' j') → P i j) : ∀ i j, pre i j → P i j := by
  have all : ∀ n : Nat, ∀ i j, pre i j → (j - i).toNat < n → P i j := by
    intro n
    induction n with
    | zero => intro i j _ h; exact absurd h (Nat.not_lt_zero _)
    | succ n ih => exact fun i j hp h => step i j hp fun i' j' hp' h' => ih i' j' hp' (Nat.lt_of_lt_of_le h' (Nat.le_of_lt_succ h))
  exact fun i j hp => all _ i j hp (Nat.lt_succ_self _)

theorem inner_use {prog : Program} {w : World} {K : Frag} {p : Program} {loose : List Str} {mean : ExcName → Option Value} {mg mb : Str → Option Value} {base : Heap} {f : Addr} {led : List (Addr × Obj)} {i j : Int} {ti tj : Tok}
    {dp un : Nat} {gd : Option (List Code)} {cn : Str} {cs : Scope} {a : Addr} {ccd : Value} {cl : List (Str × Addr)} {outer : List Env} {A₀ : Around} {h₀ : Heap} {L : Addr} {m : Str → Option Value} {s : Shared} {Q E : Value → Shared → Prop}
    (val : Int → Int → Int) (pre : Int → Int → Prop)
    (B : Below A₀ base outer h₀) (F : Fr h₀ L s.heap m) (X : K.In h₀) (N : News h₀ L s.heap led) (T : Top p loose mean mg mb h₀) (hk : cs.kind = .function)
    (hp : pre i j) (hd : dp + (j - i).toNat + 2 < recursionLimit) (hu : un + 8 * ((j - i).toNat + 2) < cLine)
    (step : ∀ i j, pre i j → IHyp prog w K p loose mean mg mb base f led val pre (j - i).toNat → ICl prog w K p loose mean mg mb base f led val i j)
    (ret : ∀ (t : Tok) (h' : Heap) (tk' : Nat), Fr h₀ L h' m → News h₀ L h' led → Q (.int (val i j) t) { s with heap := h', toks := tk' }) :
    wpAny (model prog w) (ktrTop dp un gd cn cs L a ccd cl outer) (call (.ref f) [.int i ti, .int j tj]) Q E s :=
  ind_of step i j hp ti tj dp un gd cn cs a ccd cl outer A₀ h₀ L m s Q E B F X N T hk hd hu ret

theorem ihyp_use {prog : Program} {w : World} {K : Frag} {p : Program} {loose : List Str} {mean : ExcName → Option Value} {mg mb : Str → Option Value} {base : Heap} {f : Addr} {led : List (Addr × Obj)} {val : Int → Int → Int} {pre : Int → Int → Prop} {i j : Int} {n : Nat} {ti tj : Tok}
    {dp un : Nat} {gd : Option (List Code)} {cn : Str} {cs : Scope} {a : Addr} {ccd : Value} {cl : List (Str × Addr)} {outer : List Env} {A₀ : Around} {h₀ : Heap} {L : Addr} {m : Str → Option Value} {s : Shared} {Q E : Value → Shared → Prop}
    (C : IHyp prog w K p loose mean mg mb base f led val pre n) (hp : pre i j) (hlt : (j - i).toNat < n)
    (B : Below A₀ base outer h₀) (F : Fr h₀ L s.heap m) (X : K.In h₀) (N : News h₀ L s.heap led) (T : Top p loose mean mg mb h₀) (hk : cs.kind = .function)
    (hd : dp + (j - i).toNat + 2 < recursionLimit) (hu : un + 8 * ((j - i).toNat + 2) < cLine)
    (ret : ∀ (t : Tok) (h' : Heap) (tk' : Nat), Fr h₀ L h' m → News h₀ L h' led → Q (.int (val i j) t) { s with heap := h', toks := tk' }) :
    wpAny (model prog w) (ktrTop dp un gd cn cs L a ccd cl outer) (call (.ref f) [.int i ti, .int j tj]) Q E s :=
  C i j hp hlt ti tj dp un gd cn cs a ccd cl outer A₀ h₀ L m s Q E B F X N T hk hd hu ret

local macro_rules | `(tactic| walk_at "g_ih") => `(tactic| (refine' ihyp_use (by assumption) ?q1 ?q2 ?qB ?qF ?qX ?qN ?qT ?qK ?qd ?qu ?qret; (case qB | qF | qX | qN | qT => k_asm); (case qK => first | exact rfl | assumption); (case q1 | q2 => omega); (case qd => ((try dsimp only [Around.deeper]); simp only [recursionLimit] at *; omega)); (case qu => ((try dsimp only [Around.deeper]); omega)); intro t9 h9 tk9 F9 N9; (try dsimp only); (try k_fold)))
local macro_rules | `(tactic| walk_at "call ref") => `(tactic| walk_at "g_ih")
set_option maxHeartbeats 8000000 in
theorem d2i_fresh (w : World) {p : Program} {loose : List Str} {mean : ExcName → Option Value} {mg mb : Str → Option Value}
    {news : List (Addr × Obj)} {l : Addr} {vs : List Value} {ns : List Int} {k : Nat} {n : Int} {tn : Tok}
    {dp un : Nat} {gd : Option (List Code)} {cn : Str} {cs : Scope} {a : Addr} {ccd : Value} {cl : List (Str × Addr)} {outer : List Env} {A₀ : Around} {base h₀ : Heap} {L : Addr} {m : Str → Option Value} {s : Shared} {Q E : Value → Shared → Prop}
    (B : Below A₀ base outer h₀) (F : Fr h₀ L s.heap m) (X : (hd.heap_39 w.params).In h₀) (N : News h₀ L s.heap news) (T : Top p loose mean mg mb h₀) (hk : cs.kind = .function)
    (C : CodeHd base 48 44)
    (hl : (l, W.listOf vs.toArray k) ∈ news) (hi : IntsAre vs ns) (hlen : ns.length ≤ 8) (hn : 0 ≤ n ∧ n ≤ 8) (hdig : ∀ x ∈ ns, 0 ≤ x ∧ x < 2 ^ n.toNat)
    {gg : Obj → List (Addr × Obj)} (hP : (44, tabObj #[]) ∈ news) (hU : UpdF 44 (tabObj #[]) news gg) (hlg : GM gg l (W.listOf vs.toArray k)) (hgl : ∀ o, ∀ p ∈ gg o, ∃ q ∈ news, q.1 = p.1)
    (hroom : dp + 100 < recursionLimit) (hu : un + 1024 < cLine)
    (hret : ∀ (c' : Addr) (oc : Obj) (cvs : Array Value) (tq : Tok), oc.data = .fields cvs → cvs[1]? = some (.str (Str.ofString "_digits2int.<locals>.inner") tq) → (∀ q ∈ news, q.1 < c') →
      ∀ (t : Tok) (h' : Heap) (tk' : Nat), Fr h₀ L h' m → News h₀ L h' ((c', oc) :: gg (tabObj #[rawInt 54, rawInt 4, .ref c'])) → Q (.int (dval (2 ^ n.toNat) ns) t) { s with heap := h', toks := tk' }) :
    wpAny (model Challenge.rw_gb0002_01.row.prog w) (ktrTop dp un gd cn cs L a ccd cl outer) (call (.ref 49) [.ref l, .int n tn]) Q E s := by
  w_top off
  refine wpAny_call ?_
  k_dflt (((refine' code_defC ?k1_1 ?k2_1 ?k3_1 ?k4_1 ?k5_1 ?kA_1 ?kF_1 ?kK_1 ?k6_1 ?k7_1 ?k8_1 ?k9_1 ?kB_1 ?kD_1 ?_ ?c2_1 ?c3_1 ?c4_1; (case kA_1 => exact rfl); (case kF_1 => exact rfl); (case kK_1 => assumption); (case k1_1 => k_asm); (case k2_1 => k_asm); (case k3_1 => k_asm); (case k4_1 => k_asm); (case k5_1 => k_asm); (case k6_1 => k_is); (case k7_1 => k_is); (case k8_1 => ktr_room); (case k9_1 => first | exact BindsTo.of_eq rfl | exact binds_K (by k_in) rfl (by k_is) rfl rfl rfl); (case kB_1 => exact rfl); (case kD_1 => decide +kernel); (case c2_1 => exact rfl); (case c3_1 => exact rfl); (case c4_1 => exact rfl); k_whole; intro g' L' h' tk' cells' FG' F' N' Y' B' X' T' l1; (try k_lt l1); k_cells Y'; (try simp only [List.cons_append, List.nil_append] at N'); (try dsimp only); (try k_lift B'); (try k_fold))))
  rename (∀ p ∈ _, Prod.fst p < _) => l1
  have h44 := ltN (l1 _ hP)
  have hgl1 : GG gg _ := fun o p (hp : p ∈ gg o) => (let ⟨q, hq, e⟩ := hgl o p hp; e ▸ l1 q hq)
  dsimp only at h44
  walk_at "g_steps"
  · refine' inner_use (dspan ns n) (fun i j => 0 ≤ i ∧ i < j ∧ j ≤ (ns.length : Int)) ?kB ?kF ?kX ?kN ?kT ?kK ?kp ?kd ?ku ?kstep ?kret
    (case kB => k_asm)
    (case kF => k_asm)
    (case kX => k_asm)
    (case kN => k_asm)
    (case kT => k_asm)
    (case kK => exact rfl)
    (case kp => omega)
    (case kd => (simp only [recursionLimit, Int.sub_zero, Int.toNat_natCast] at *; omega))
    (case ku => (have hcL9 := cLine_is; simp only [Int.sub_zero, Int.toNat_natCast] at *; omega))
    (case kstep =>
      intro i j hp IH
      unfold ICl
      intro ti tj dp2 un2 gd2 cn2 cs2 a2 ccd2 cl2 outer2 A2 h2 L2 m2 s2 Q2 E2 B2 F2 X2 N2 T2 hk2 hd2 hu2 hret2
      refine wpAny_call ?_
      k_dflt (((refine' code_nest ?k1_2 ?k2_2 ?k3_2 ?k4_2 ?k5_2 ?kA_2 ?kF_2 ?kK_2 ?k6_2 ?k7_2 ?k8_2 ?k9_2 ?kB_2 ?_ ?c2_2 ?c3_2 ?c4_2 ?c5_2; (case kA_2 => exact rfl); (case kF_2 => exact rfl); (case kK_2 => assumption); (case k1_2 => k_asm); (case k2_2 => k_asm); (case k3_2 => k_asm); (case k4_2 => k_asm); (case k5_2 => k_asm); (case k6_2 => k_mem); (case k7_2 => exact codeRec_news (by k_asm) (by k_mem) (by assumption) (by assumption)); (case k8_2 => ktr_room); (case k9_2 => exact BindsTo.of_eq rfl); (case c5_2 => decide); (case kB_2 => exact locs rfl); (case c2_2 => exact rfl); (case c3_2 => exact rfl); (case c4_2 => exact rfl); k_whole; intro g' L' h' FG' F' N' B' X' T'; (try dsimp only); (try k_lift B'); (try k_fold))))
      have hm := mid_facts i j
      have hb1 := @dspan_bound ns n ((i + j).fdiv (2 ^ Int.toNat 1)) j hlen hn hdig
      have hsh := @sh_facts ((i + j).fdiv (2 ^ Int.toNat 1) - i) n (by omega) hn
      k_steps
      · refine cb_retI hret2 (dspan_one (by assumption) hp.1 hp.2.2) (by k_asm) (by k_asm)
      · refine cb_retI hret2 (dspan_split hp.1 (by omega) (by omega) hp.2.2 hn.1) (by k_asm) (by k_asm))
    (case kret =>
      intro t9 h9 tk9 F9 N9
      (try dsimp only)
      k_steps
      rename (_ ∧ _ ∧ _ ∧ AllLt _ news) => l9
      refine cb_retI (hret _ _ _ _ (by assumption) (by assumption) (ktn_ltOf l9.2.2.2)) dspan_full (by k_asm) (cb_drop (by k_asm) ?_)
      intro p hp
      rcases List.mem_cons.mp hp with rfl | hp
      · exact .tail _ (.head _)
      · exact .tail _ (.tail _ (.tail _ (.tail _ (.tail _ hp)))))
  · have e : ns = [] := List.eq_nil_of_length_eq_zero (by omega)
    subst e
    rename (_ ∧ _ ∧ _ ∧ AllLt _ news) => l9
    refine cb_retI (hret _ _ _ _ (by assumption) (by assumption) (ktn_ltOf l9.2.2.2)) rfl (by k_asm) (cb_drop (by k_asm) ?_)
    intro p hp
    rcases List.mem_cons.mp hp with rfl | hp
    · exact .tail _ (.head _)
    · exact .tail _ (.tail _ (.tail _ (.tail _ (.tail _ hp))))
set_option maxRecDepth 100000



set_option maxHeartbeats 8000000 in
theorem d2i_hit (w : World) {p : Program} {loose : List Str} {mean : ExcName → Option Value} {mg mb : Str → Option Value}
    {news : List (Addr × Obj)} {l : Addr} {vs : List Value} {ns : List Int} {k : Nat} {n : Int} {tn : Tok}
    {dp un : Nat} {gd : Option (List Code)} {cn : Str} {cs : Scope} {a : Addr} {ccd : Value} {cl : List (Str × Addr)} {outer : List Env} {A₀ : Around} {base h₀ : Heap} {L : Addr} {m : Str → Option Value} {s : Shared} {Q E : Value → Shared → Prop}
    (B : Below A₀ base outer h₀) (F : Fr h₀ L s.heap m) (X : (hd.heap_39 w.params).In h₀) (N : News h₀ L s.heap news) (T : Top p loose mean mg mb h₀) (hk : cs.kind = .function)
    (C : CodeHd base 48 44)
    (hl : (l, W.listOf vs.toArray k) ∈ news) (hi : IntsAre vs ns) (hlen : ns.length ≤ 8) (hn : 0 ≤ n ∧ n ≤ 8) (hdig : ∀ x ∈ ns, 0 ≤ x ∧ x < 2 ^ n.toNat)
    {c' : Addr} {oc : Obj} {cvs : Array Value} {tq : Tok} (hP : (44, tabObj #[rawInt 54, rawInt 4, .ref c']) ∈ news) (hc : (c', oc) ∈ news) (hcd : oc.data = .fields cvs) (hcv : cvs[1]? = some (.str (Str.ofString "_digits2int.<locals>.inner") tq))
    (hroom : dp + 100 < recursionLimit) (hu : un + 1024 < cLine)
    (hret : ∀ (t : Tok) (h' : Heap) (tk' : Nat), Fr h₀ L h' m → News h₀ L h' news → Q (.int (dval (2 ^ n.toNat) ns) t) { s with heap := h', toks := tk' }) :
    wpAny (model Challenge.rw_gb0002_01.row.prog w) (ktrTop dp un gd cn cs L a ccd cl outer) (call (.ref 49) [.ref l, .int n tn]) Q E s := by
  w_top off
  refine wpAny_call ?_
  k_dflt (((refine' code_defC ?k1_3 ?k2_3 ?k3_3 ?k4_3 ?k5_3 ?kA_3 ?kF_3 ?kK_3 ?k6_3 ?k7_3 ?k8_3 ?k9_3 ?kB_3 ?kD_3 ?_ ?c2_3 ?c3_3 ?c4_3; (case kA_3 => exact rfl); (case kF_3 => exact rfl); (case kK_3 => assumption); (case k1_3 => k_asm); (case k2_3 => k_asm); (case k3_3 => k_asm); (case k4_3 => k_asm); (case k5_3 => k_asm); (case k6_3 => k_is); (case k7_3 => k_is); (case k8_3 => ktr_room); (case k9_3 => first | exact BindsTo.of_eq rfl | exact binds_K (by k_in) rfl (by k_is) rfl rfl rfl); (case kB_3 => exact rfl); (case kD_3 => decide +kernel); (case c2_3 => exact rfl); (case c3_3 => exact rfl); (case c4_3 => exact rfl); k_whole; intro g' L' h' tk' cells' FG' F' N' Y' B' X' T' l1; (try k_lt l1); k_cells Y'; (try simp only [List.cons_append, List.nil_append] at N'); (try dsimp only); (try k_lift B'); (try k_fold))))
  walk_at "g_steps"
  · refine' inner_use (dspan ns n) (fun i j => 0 ≤ i ∧ i < j ∧ j ≤ (ns.length : Int)) ?kB ?kF ?kX ?kN ?kT ?kK ?kp ?kd ?ku ?kstep ?kret
    (case kB => k_asm)
    (case kF => k_asm)
    (case kX => k_asm)
    (case kN => k_asm)
    (case kT => k_asm)
    (case kK => exact rfl)
    (case kp => omega)
    (case kd => (simp only [recursionLimit, Int.sub_zero, Int.toNat_natCast] at *; omega))
    (case ku => (have hcL9 := cLine_is; simp only [Int.sub_zero, Int.toNat_natCast] at *; omega))
    (case kstep =>
      intro i j hp IH
      unfold ICl
      intro ti tj dp2 un2 gd2 cn2 cs2 a2 ccd2 cl2 outer2 A2 h2 L2 m2 s2 Q2 E2 B2 F2 X2 N2 T2 hk2 hd2 hu2 hret2
      refine wpAny_call ?_
      k_dflt (((refine' code_nest ?k1_4 ?k2_4 ?k3_4 ?k4_4 ?k5_4 ?kA_4 ?kF_4 ?kK_4 ?k6_4 ?k7_4 ?k8_4 ?k9_4 ?kB_4 ?_ ?c2_4 ?c3_4 ?c4_4 ?c5_4; (case kA_4 => exact rfl); (case kF_4 => exact rfl); (case kK_4 => assumption); (case k1_4 => k_asm); (case k2_4 => k_asm); (case k3_4 => k_asm); (case k4_4 => k_asm); (case k5_4 => k_asm); (case k6_4 => k_mem); (case k7_4 => exact codeRec_news (by k_asm) (by k_mem) (by assumption) (by assumption)); (case k8_4 => ktr_room); (case k9_4 => exact BindsTo.of_eq rfl); (case c5_4 => decide); (case kB_4 => exact locs rfl); (case c2_4 => exact rfl); (case c3_4 => exact rfl); (case c4_4 => exact rfl); k_whole; intro g' L' h' FG' F' N' B' X' T'; (try dsimp only); (try k_lift B'); (try k_fold))))
      have hm := mid_facts i j
      have hb1 := @dspan_bound ns n ((i + j).fdiv (2 ^ Int.toNat 1)) j hlen hn hdig
      have hsh := @sh_facts ((i + j).fdiv (2 ^ Int.toNat 1) - i) n (by omega) hn
      k_steps
      · refine cb_retI hret2 (dspan_one (by assumption) hp.1 hp.2.2) (by k_asm) (by k_asm)
      · refine cb_retI hret2 (dspan_split hp.1 (by omega) (by omega) hp.2.2 hn.1) (by k_asm) (by k_asm))
    (case kret =>
      intro t9 h9 tk9 F9 N9
      (try dsimp only)
      k_steps
      refine cb_retI hret dspan_full (by k_asm) (cb_drop (by k_asm) ?_)
      exact fun p hp => .tail _ (.tail _ (.tail _ (.tail _ hp))))
  · have e : ns = [] := List.eq_nil_of_length_eq_zero (by omega)
    subst e
    refine cb_retI hret rfl (by k_asm) (cb_drop (by k_asm) ?_)
    exact fun p hp => .tail _ (.tail _ (.tail _ (.tail _ hp)))
end

section
open Sem (wp)
open PySem.Spec PySem.Calls
set_option maxRecDepth 100000

abbrev baObj (b : Array UInt8) : Obj := { cls := .type "bytearray", data := .bytearray b }

section
variable {prog : Program} {w : World} {A A₀ : Around} {E : Value → Shared → Prop} {s : Shared} {K : Frag} {L : Addr} {h₀ base : Heap} {m mg mb : Str → Option Value} {news : List (Addr × Obj)} {p : Program} {loose : List Str} {mean : ExcName → Option Value}
theorem code_defG {env : Env} {outer : List Env} {R : Result → Shared → Prop} {name qual : Str} {params : Arguments} {body : List Stmt} {scope : Scope} {dV kV doc pm cdv ct oc : Value} {an od : Option Addr} {osl : Array (Option Value)} {f : Addr} {args : Args} {binds : List (Str × Value)}
    (B : Below A₀ base outer h₀) (F : Fr h₀ L s.heap m) (X₀ : K.In h₀) (N : News h₀ L s.heap news) (T : Top p loose mean mg mb h₀) (hA : A.frames = some (env :: outer)) (hf : env.frame = some L) (hke : env.scope.kind = .function)
    (ho : K.lookup f = some ⟨oc, od, .func (fnOf name qual params body scope dV kV doc pm an cdv ct), osl⟩) (hcd : codeIn K cdv qual = true) (hroom : A.depth < recursionLimit)
    (hbind : BindsTo s (fnOf name qual params body scope dV kV doc pm an cdv ct) args binds) (hloc : ∀ y ∈ binds, scope.names.lookup y.1 = some .local)
    (h : ∀ g L' h₁, Fr h₀ L g m → Fr g L' h₁ (fun y => binds.reverse.lookup y) → News g L' h₁ news → Below A base (env :: outer) g → K.In g → Top p loose mean mg mb g → (∀ p ∈ news, p.1 < L') →
      wpG (model prog w) (A.deeper (envOf qual scope L' f cdv)) (execs body (envOf qual scope L' f cdv))
        (fun fl s' => LeaveK h₀ L m g R (match fl with | .ret v => v | _ => .none) s')
        (fun e s' => wpAny (model prog w) (A.deeper (envOf qual scope L' f cdv)) (leaving (envOf qual scope L' f cdv) e) (fun _ s'' => R (.error e) s'') (fun e' s'' => R (.error e') s'') s')
        { s with heap := h₁, toks := s.toks + binds.length })
    (hco : scope.isCoroutine = false) (hgen : scope.isGenerator = false) (hk : scope.kind = .function)
    (hcell : ∀ x ∈ scope.names, x.2 ≠ .cell) : codeG (model prog w) A (.call (.ref f) args) R s :=
  codeG_plain (cl := []) B F N T.nolimit hA hf hke ((X₀.keeps F.keep) _ _ ho) rfl (codeRec_of (X₀.keeps F.keep) hcd) hroom hbind hloc (fun g L' h₁ FG F' N' B' st l => h g L' h₁ FG F' N' B' (X₀.keeps st) (T.keeps st) l) hcell hco hgen hk

theorem bytearrayK {n : Int} {t : Tok} {Q : Value → Shared → Prop} (h0 : 0 < n) (h1 : n ≤ 1000) (F : Fr h₀ L s.heap m) (N : News h₀ L s.heap news)
    (h : ∀ a h', Fr h₀ L h' m → News h₀ L h' ((a, baObj (Array.replicate n.toNat 0)) :: news) → (∀ p ∈ news, p.1 < a) → Q (.ref a) { s with heap := h' }) :
    wpG (model prog w) A (call (.type "bytearray") [.int n t]) Q E s := by
  refine G_bytearray h0 h1 fun h' k e => h _ h' (F.keeps k) (fun q hq => ?_) fun q hq => Heap.lt_size (N q hq).1
  rcases List.mem_cons.mp hq with rfl | hq
  · exact ⟨e, Nat.ne_of_gt F.ns.lt, next_is_new F⟩
  · exact ⟨k _ _ (N q hq).1, (N q hq).2⟩
theorem baSetK {a : Addr} {b : Array UInt8} {g : Obj → List (Addr × Obj)} {k : Int} {u : UInt8} {t t' : Tok} {Q : Unit → Shared → Prop} (F : Fr h₀ L s.heap m) (N : News h₀ L s.heap news) (U : UpdF a (baObj b) news g)
    (h0 : 0 ≤ k) (hk : k < b.size) (hz : b.size ≤ 1000) (h : ∀ h', Fr h₀ L h' m → News h₀ L h' (g (baObj (b.setIfInBounds k.toNat u))) → Q () { s with heap := h' }) :
    wpAny (model prog w) A (setItem (.ref a) (.int k t) (.int (u.toNat : Int) t')) Q E s := by
  obtain ⟨own, rest, rfl, hg, h1, h2⟩ := U.split
  have hm := N (a, baObj b) (List.mem_append_right _ (.head _))
  have hu := u.toNat_lt
  refine ba_setItem hm.1 (by rw [sizeLine_eq]; omega) h0 hk (by omega) fun h' e hs => ?_
  have e2 : ((u.toNat : Int)).toNat.toUInt8 = u := by
    rw [Int.toNat_natCast]; exact UInt8.ofNat_toNat
  rw [e2] at e
  exact h h' (F.change hs hm.2.1 hm.2.2) (by rw [hg]; exact N.setAt h1 h2 hs e)
theorem bytesBaK {a : Addr} {b : Array UInt8} {Q : Value → Shared → Prop} (N : News h₀ L s.heap news) (hm : (a, baObj b) ∈ news) (hz : b.size ≤ 1000)
    (h : ∀ t, Q (.bytes b t) { s with toks := t + 1 }) : wpAny (model prog w) A (call (.type "bytes") [.ref a]) Q E s :=
  bytes_of_ba (N _ hm).1 (by rw [sizeLine_eq]; omega) h
end

theorem ret_bytes {h₀ : Heap} {L : Addr} {m : Str → Option Value} {news : List (Addr × Obj)} {Q : Value → Shared → Prop} {s : Shared} {x y : Array UInt8} {t : Tok} {h' : Heap} {tk' : Nat} (hret : ∀ (t : Tok) (h' : Heap) (tk' : Nat), Fr h₀ L h' m → News h₀ L h' news → Q (.bytes x t) { s with heap := h', toks := tk' }) (e : y = x) (F : Fr h₀ L h' m) (N : News h₀ L h' news) : Q (.bytes y t) { s with heap := h', toks := tk' } := by
  subst e
  exact hret t h' tk' F N
abbrev SwapCl (w : World) (bs rs : List UInt8) (n : Int) : Prop :=
  ∀ {p : Program} {loose : List Str} {mean : ExcName → Option Value} {mg mb : Str → Option Value} (news : List (Addr × Obj)) (tb tw : Tok)
    (dp un : Nat) (gd : Option (List Code)) (cn : Str) (cs : Scope) (a : Addr) (ccd : Value) (cl : List (Str × Addr)) (outer : List Env) (A₀ : Around) (base h₀ : Heap) (L : Addr) (m : Str → Option Value) (s : Shared) (Q E : Value → Shared → Prop)
    (_ : Below A₀ base outer h₀) (_ : Fr h₀ L s.heap m) (_ : (hd.heap_39 w.params).In h₀) (_ : News h₀ L s.heap news) (_ : Top p loose mean mg mb h₀) (_ : cs.kind = .function)
    (_ : dp + 10 < recursionLimit) (_ : un + 100 < cLine)
    (_ : ∀ (t : Tok) (h' : Heap) (tk' : Nat), Fr h₀ L h' m → News h₀ L h' news → Q (.bytes rs.toArray t) { s with heap := h', toks := tk' }),
    wpG (model Challenge.rw_gb0002_01.row.prog w) (ktrTop dp un gd cn cs L a ccd cl outer) (call (.ref 21) [.bytes bs.toArray tb, .int n tw]) Q E s
theorem unr_head {L I : Addr} {it : Obj} {rest : (Str → Option Value) → List (Addr × Obj) → Prop} {s₁ : Shared} {h' : Heap} {tk : Nat} {m' : Str → Option Value} {h₀ : Heap} {news' : List (Addr × Obj)} (F : Fr h₀ L h' m') (N : News h₀ L h' ((I, it) :: news'))
    (off : ∀ p ∈ news', p.1 ≠ I) (r : rest m' news') : UnrEnd h₀ L s₁ I it rest { s₁ with heap := h', toks := tk } := UnrEnd.intro F N news' (fun _ h => h) off r
local macro_rules | `(tactic| walk_at "UnrEnd") => `(tactic| (refine' unr_head ?F ?N ?off ?_; (case F | N => k_asm); (case off => ((repeat (refine List.forall_mem_cons.mpr ⟨by (refine neN ?_; (try dsimp only); omega), ?_⟩)); k_all))))
local macro_rules | `(tactic| walk_at "setItem ref int") => `(tactic| (k_here; (with_reducible show wpAny _ _ (PySem.setItem (Value.ref _) (Value.int _ _) (Value.int _ _)) _ _ _); k_dflt (refine' baSetK ?F ?N ?U ?a ?b ?z ?_; (case F | N => k_asm); (case U => k_updF); (case a => omega); (case b | z => (simp only [Array.size_setIfInBounds, Array.size_replicate]; omega))); intro h' F' N'; (try dsimp only [List.nil_append, List.cons_append] at N'); (try k_sweep)))
local macro_rules | `(tactic| walk_at "call type:bytes") => `(tactic| (k_here; (with_reducible show wpAny _ _ (call (Value.type "bytes") [Value.ref _]) _ _ _); k_dflt (refine' bytesBaK ?F ?N ?z ?_; (case F => k_asm); (case N => k_mem); (case z => (simp only [Array.size_setIfInBounds, Array.size_replicate]; omega))); intro t'))

theorem sz1 (b1 : UInt8) : (((List.toArray [b1]).size : Nat) : Int) = 1 := rfl
theorem sz2 (b1 b2 : UInt8) : (((List.toArray [b1, b2]).size : Nat) : Int) = 2 := rfl
theorem sz3 (b1 b2 b3 : UInt8) : (((List.toArray [b1, b2, b3]).size : Nat) : Int) = 3 := rfl
theorem sz4 (b1 b2 b3 b4 : UInt8) : (((List.toArray [b1, b2, b3, b4]).size : Nat) : Int) = 4 := rfl
theorem sz5 (b1 b2 b3 b4 b5 : UInt8) : (((List.toArray [b1, b2, b3, b4, b5]).size : Nat) : Int) = 5 := rfl
theorem sz6 (b1 b2 b3 b4 b5 b6 : UInt8) : (((List.toArray [b1, b2, b3, b4, b5, b6]).size : Nat) : Int) = 6 := rfl
local macro_rules | `(tactic| walk_at "call type:range") => `(tactic| (simp only [sz1, sz2, sz3, sz4, sz5, sz6]; walk1))
set_option maxHeartbeats 8000000 in
theorem swap1 (w : World) (b1 : UInt8) : SwapCl w [b1] [b1] 1 := by
  intro p loose mean mg mb news tb tw dp un gd cn cs a ccd cl outer A₀ base h₀ L m s Q E B F X N T hk hroom hu hret
  w_top off
  refine wpG_call ?_
  k_dflt (((refine' code_defG ?k1_5 ?k2_5 ?k3_5 ?k4_5 ?k5_5 ?kA_5 ?kF_5 ?kK_5 ?k6_5 ?k7_5 ?k8_5 ?k9_5 ?kB_5 ?_ ?c2_5 ?c3_5 ?c4_5 ?c5_5; (case kA_5 => exact rfl); (case kF_5 => exact rfl); (case kK_5 => assumption); (case k1_5 => k_asm); (case k2_5 => k_asm); (case k3_5 => k_asm); (case k4_5 => k_asm); (case k5_5 => k_asm); (case k6_5 => k_is); (case k7_5 => k_is); (case k8_5 => ktr_room); (case k9_5 => exact BindsTo.of_eq rfl); (case c5_5 => decide); (case kB_5 => exact locs rfl); (case c2_5 => exact rfl); (case c3_5 => exact rfl); (case c4_5 => exact rfl); k_whole; intro g' L' h' FG' F' N' B' X' T' l1; (try dsimp only); (try k_lift B'))))
  refine wpG_execs_cons ?_
  refine wpG_Assign_Name ?_
  refine wpG_Call ?_
  walk_at "g_steps"
  refine wpG_callWith_type ?_
  refine wpG_args_cons (wpG_of_any ?_)
  walk_at "g_steps"
  refine wpG_args_nil ?_
  refine bytearrayK (n := 1) (by decide) (by decide) (by k_asm) (by k_asm) ?_
  intro a' h' F' N' l1'
  try k_lt l1'
  walk_at "g_steps"
  refine wpG_of_any ?_
  walk_at "g_steps"
  refine ret_bytes hret rfl (by k_asm) (cb_drop (by k_asm) ?_)
  first | exact fun p hp => hp | exact fun p hp => .tail _ hp
set_option maxHeartbeats 8000000 in
theorem swap2 (w : World) (b1 b2 : UInt8) : SwapCl w [b1, b2] [b2, b1] 2 := by
  intro p loose mean mg mb news tb tw dp un gd cn cs a ccd cl outer A₀ base h₀ L m s Q E B F X N T hk hroom hu hret
  w_top off
  refine wpG_call ?_
  k_dflt (((refine' code_defG ?k1_6 ?k2_6 ?k3_6 ?k4_6 ?k5_6 ?kA_6 ?kF_6 ?kK_6 ?k6_6 ?k7_6 ?k8_6 ?k9_6 ?kB_6 ?_ ?c2_6 ?c3_6 ?c4_6 ?c5_6; (case kA_6 => exact rfl); (case kF_6 => exact rfl); (case kK_6 => assumption); (case k1_6 => k_asm); (case k2_6 => k_asm); (case k3_6 => k_asm); (case k4_6 => k_asm); (case k5_6 => k_asm); (case k6_6 => k_is); (case k7_6 => k_is); (case k8_6 => ktr_room); (case k9_6 => exact BindsTo.of_eq rfl); (case c5_6 => decide); (case kB_6 => exact locs rfl); (case c2_6 => exact rfl); (case c3_6 => exact rfl); (case c4_6 => exact rfl); k_whole; intro g' L' h' FG' F' N' B' X' T' l1; (try dsimp only); (try k_lift B'))))
  refine wpG_execs_cons ?_
  refine wpG_Assign_Name ?_
  refine wpG_Call ?_
  walk_at "g_steps"
  refine wpG_callWith_type ?_
  refine wpG_args_cons (wpG_of_any ?_)
  walk_at "g_steps"
  refine wpG_args_nil ?_
  refine bytearrayK (n := 2) (by decide) (by decide) (by k_asm) (by k_asm) ?_
  intro a' h' F' N' l1'
  try k_lt l1'
  walk_at "g_steps"
  refine wpG_of_any ?_
  walk_at "g_steps"
  refine ret_bytes hret rfl (by k_asm) (cb_drop (by k_asm) ?_)
  first | exact fun p hp => hp | exact fun p hp => .tail _ hp
set_option maxHeartbeats 8000000 in
theorem swap3 (w : World) (b1 b2 b3 : UInt8) : SwapCl w [b1, b2, b3] [b3, b2, b1] 3 := by
  intro p loose mean mg mb news tb tw dp un gd cn cs a ccd cl outer A₀ base h₀ L m s Q E B F X N T hk hroom hu hret
  w_top off
  refine wpG_call ?_
  k_dflt (((refine' code_defG ?k1_7 ?k2_7 ?k3_7 ?k4_7 ?k5_7 ?kA_7 ?kF_7 ?kK_7 ?k6_7 ?k7_7 ?k8_7 ?k9_7 ?kB_7 ?_ ?c2_7 ?c3_7 ?c4_7 ?c5_7; (case kA_7 => exact rfl); (case kF_7 => exact rfl); (case kK_7 => assumption); (case k1_7 => k_asm); (case k2_7 => k_asm); (case k3_7 => k_asm); (case k4_7 => k_asm); (case k5_7 => k_asm); (case k6_7 => k_is); (case k7_7 => k_is); (case k8_7 => ktr_room); (case k9_7 => exact BindsTo.of_eq rfl); (case c5_7 => decide); (case kB_7 => exact locs rfl); (case c2_7 => exact rfl); (case c3_7 => exact rfl); (case c4_7 => exact rfl); k_whole; intro g' L' h' FG' F' N' B' X' T' l1; (try dsimp only); (try k_lift B'))))
  refine wpG_execs_cons ?_
  refine wpG_Assign_Name ?_
  refine wpG_Call ?_
  walk_at "g_steps"
  refine wpG_callWith_type ?_
  refine wpG_args_cons (wpG_of_any ?_)
  walk_at "g_steps"
  refine wpG_args_nil ?_
  refine bytearrayK (n := 3) (by decide) (by decide) (by k_asm) (by k_asm) ?_
  intro a' h' F' N' l1'
  try k_lt l1'
  walk_at "g_steps"
  refine wpG_of_any ?_
  walk_at "g_steps"
  refine ret_bytes hret rfl (by k_asm) (cb_drop (by k_asm) ?_)
  first | exact fun p hp => hp | exact fun p hp => .tail _ hp
set_option maxHeartbeats 8000000 in
theorem swap4 (w : World) (b1 b2 b3 b4 : UInt8) : SwapCl w [b1, b2, b3, b4] [b4, b3, b2, b1] 4 := by
  intro p loose mean mg mb news tb tw dp un gd cn cs a ccd cl outer A₀ base h₀ L m s Q E B F X N T hk hroom hu hret
  w_top off
  refine wpG_call ?_
  k_dflt (((refine' code_defG ?k1_8 ?k2_8 ?k3_8 ?k4_8 ?k5_8 ?kA_8 ?kF_8 ?kK_8 ?k6_8 ?k7_8 ?k8_8 ?k9_8 ?kB_8 ?_ ?c2_8 ?c3_8 ?c4_8 ?c5_8; (case kA_8 => exact rfl); (case kF_8 => exact rfl); (case kK_8 => assumption); (case k1_8 => k_asm); (case k2_8 => k_asm); (case k3_8 => k_asm); (case k4_8 => k_asm); (case k5_8 => k_asm); (case k6_8 => k_is); (case k7_8 => k_is); (case k8_8 => ktr_room); (case k9_8 => exact BindsTo.of_eq rfl); (case c5_8 => decide); (case kB_8 => exact locs rfl); (case c2_8 => exact rfl); (case c3_8 => exact rfl); (case c4_8 => exact rfl); k_whole; intro g' L' h' FG' F' N' B' X' T' l1; (try dsimp only); (try k_lift B'))))
  refine wpG_execs_cons ?_
  refine wpG_Assign_Name ?_
  refine wpG_Call ?_
  walk_at "g_steps"
  refine wpG_callWith_type ?_
  refine wpG_args_cons (wpG_of_any ?_)
  walk_at "g_steps"
  refine wpG_args_nil ?_
  refine bytearrayK (n := 4) (by decide) (by decide) (by k_asm) (by k_asm) ?_
  intro a' h' F' N' l1'
  try k_lt l1'
  walk_at "g_steps"
  refine wpG_of_any ?_
  walk_at "g_steps"
  refine ret_bytes hret rfl (by k_asm) (cb_drop (by k_asm) ?_)
  first | exact fun p hp => hp | exact fun p hp => .tail _ hp
set_option maxHeartbeats 8000000 in
theorem swap5 (w : World) (b1 b2 b3 b4 b5 : UInt8) : SwapCl w [b1, b2, b3, b4, b5] [b5, b4, b3, b2, b1] 5 := by
  intro p loose mean mg mb news tb tw dp un gd cn cs a ccd cl outer A₀ base h₀ L m s Q E B F X N T hk hroom hu hret
  w_top off
  refine wpG_call ?_
  k_dflt (((refine' code_defG ?k1_9 ?k2_9 ?k3_9 ?k4_9 ?k5_9 ?kA_9 ?kF_9 ?kK_9 ?k6_9 ?k7_9 ?k8_9 ?k9_9 ?kB_9 ?_ ?c2_9 ?c3_9 ?c4_9 ?c5_9; (case kA_9 => exact rfl); (case kF_9 => exact rfl); (case kK_9 => assumption); (case k1_9 => k_asm); (case k2_9 => k_asm); (case k3_9 => k_asm); (case k4_9 => k_asm); (case k5_9 => k_asm); (case k6_9 => k_is); (case k7_9 => k_is); (case k8_9 => ktr_room); (case k9_9 => exact BindsTo.of_eq rfl); (case c5_9 => decide); (case kB_9 => exact locs rfl); (case c2_9 => exact rfl); (case c3_9 => exact rfl); (case c4_9 => exact rfl); k_whole; intro g' L' h' FG' F' N' B' X' T' l1; (try dsimp only); (try k_lift B'))))
  refine wpG_execs_cons ?_
  refine wpG_Assign_Name ?_
  refine wpG_Call ?_
  walk_at "g_steps"
  refine wpG_callWith_type ?_
  refine wpG_args_cons (wpG_of_any ?_)
  walk_at "g_steps"
  refine wpG_args_nil ?_
  refine bytearrayK (n := 5) (by decide) (by decide) (by k_asm) (by k_asm) ?_
  intro a' h' F' N' l1'
  try k_lt l1'
  walk_at "g_steps"
  refine wpG_of_any ?_
  walk_at "g_steps"
  refine ret_bytes hret rfl (by k_asm) (cb_drop (by k_asm) ?_)
  first | exact fun p hp => hp | exact fun p hp => .tail _ hp
set_option maxHeartbeats 8000000 in
theorem swap6 (w : World) (b1 b2 b3 b4 b5 b6 : UInt8) : SwapCl w [b1, b2, b3, b4, b5, b6] [b6, b5, b4, b3, b2, b1] 6 := by
  intro p loose mean mg mb news tb tw dp un gd cn cs a ccd cl outer A₀ base h₀ L m s Q E B F X N T hk hroom hu hret
  w_top off
  refine wpG_call ?_
  k_dflt (((refine' code_defG ?k1_10 ?k2_10 ?k3_10 ?k4_10 ?k5_10 ?kA_10 ?kF_10 ?kK_10 ?k6_10 ?k7_10 ?k8_10 ?k9_10 ?kB_10 ?_ ?c2_10 ?c3_10 ?c4_10 ?c5_10; (case kA_10 => exact rfl); (case kF_10 => exact rfl); (case kK_10 => assumption); (case k1_10 => k_asm); (case k2_10 => k_asm); (case k3_10 => k_asm); (case k4_10 => k_asm); (case k5_10 => k_asm); (case k6_10 => k_is); (case k7_10 => k_is); (case k8_10 => ktr_room); (case k9_10 => exact BindsTo.of_eq rfl); (case c5_10 => decide); (case kB_10 => exact locs rfl); (case c2_10 => exact rfl); (case c3_10 => exact rfl); (case c4_10 => exact rfl); k_whole; intro g' L' h' FG' F' N' B' X' T' l1; (try dsimp only); (try k_lift B'))))
  refine wpG_execs_cons ?_
  refine wpG_Assign_Name ?_
  refine wpG_Call ?_
  walk_at "g_steps"
  refine wpG_callWith_type ?_
  refine wpG_args_cons (wpG_of_any ?_)
  walk_at "g_steps"
  refine wpG_args_nil ?_
  refine bytearrayK (n := 6) (by decide) (by decide) (by k_asm) (by k_asm) ?_
  intro a' h' F' N' l1'
  try k_lt l1'
  walk_at "g_steps"
  refine wpG_of_any ?_
  walk_at "g_steps"
  refine ret_bytes hret rfl (by k_asm) (cb_drop (by k_asm) ?_)
  first | exact fun p hp => hp | exact fun p hp => .tail _ hp

theorem swap_all (w : World) {bs : List UInt8} (h0 : 0 < bs.length) (h1 : bs.length ≤ 6) : SwapCl w bs bs.reverse bs.length := by
  rcases bs with _ | ⟨b1, _ | ⟨b2, _ | ⟨b3, _ | ⟨b4, _ | ⟨b5, _ | ⟨b6, _ | ⟨b7, r⟩⟩⟩⟩⟩⟩⟩
  · cases h0
  · exact swap1 w b1
  · exact swap2 w b1 b2
  · exact swap3 w b1 b2 b3
  · exact swap4 w b1 b2 b3 b4
  · exact swap5 w b1 b2 b3 b4 b5
  · exact swap6 w b1 b2 b3 b4 b5 b6
  · simp only [List.length_cons] at h1; omega
end

section
open Sem (wp)
open PySem.Spec PySem.Calls
set_option maxRecDepth 100000
theorem turn_ints {ns : List Int} (hr : KBa.In ns) : KBw.bInts ((byteArr ns).toList.reverse.toArray) = ns.reverse := by
  have e := KBa.ints_make hr
  unfold KBw.bInts at e ⊢
  rw [List.toList_toArray, List.map_reverse, e]
theorem swap_use (w : World) {ns : List Int} (h0 : 0 < ns.length) (h1 : ns.length ≤ 6) {p : Program} {loose : List Str} {mean : ExcName → Option Value} {mg mb : Str → Option Value} {news : List (Addr × Obj)} {tb tw : Tok}
    {dp un : Nat} {gd : Option (List Code)} {cn : Str} {cs : Scope} {a : Addr} {ccd : Value} {cl : List (Str × Addr)} {outer : List Env} {A₀ : Around} {base h₀ : Heap} {L : Addr} {m : Str → Option Value} {s : Shared} {Q E : Value → Shared → Prop}
    (B : Below A₀ base outer h₀) (F : Fr h₀ L s.heap m) (X : (hd.heap_39 w.params).In h₀) (N : News h₀ L s.heap news) (T : Top p loose mean mg mb h₀) (hk : cs.kind = .function)
    (hroom : dp + 10 < recursionLimit) (hu : un + 100 < cLine)
    (hret : ∀ (t : Tok) (h' : Heap) (tk' : Nat), Fr h₀ L h' m → News h₀ L h' news → Q (.bytes ((byteArr ns).toList.reverse.toArray) t) { s with heap := h', toks := tk' }) :
    wpG (model Challenge.rw_gb0002_01.row.prog w) (ktrTop dp un gd cn cs L a ccd cl outer) (call (.ref 21) [.bytes (byteArr ns) tb, .int (ns.length : Int) tw]) Q E s := by
  have hz : (byteArr ns).toList.length = ns.length := by rw [Array.length_toList, byteArr_size]
  have e := swap_all w (bs := (byteArr ns).toList) (by omega) (by omega) news tb tw dp un gd cn cs a ccd cl outer A₀ base h₀ L m s Q E B F X N T hk hroom hu hret
  rw [hz] at e
  exact e
set_option maxHeartbeats 8000000 in
theorem turned (w : World) {p : Program} {loose : List Str} {mean : ExcName → Option Value} {mg mb : Str → Option Value}
    {news : List (Addr × Obj)} {l : Addr} {vs : List Value} {ns : List Int} {k : Nat} 
    {dp un : Nat} {gd : Option (List Code)} {cn : Str} {cs : Scope} {a : Addr} {ccd : Value} {cl : List (Str × Addr)} {outer : List Env} {A₀ : Around} {base h₀ : Heap} {L : Addr} {m : Str → Option Value} {s : Shared} {Q E : Value → Shared → Prop}
    (B : Below A₀ base outer h₀) (F : Fr h₀ L s.heap m) (X : (hd.heap_39 w.params).In h₀) (N : News h₀ L s.heap news) (T : Top p loose mean mg mb h₀) (hk : cs.kind = .function)
    (hl : (l, W.listOf vs.toArray k) ∈ news) (hi : IntsAre vs ns) (hlen : ns.length ≤ 6) (hlen0 : 0 < ns.length) (hby : ∀ x ∈ ns, 0 ≤ x ∧ x < 256)
    (hroom : dp + 100 < recursionLimit) (hu : un + 1024 < cLine)
    (hret : ∀ D h' tk vs' k', Fr h₀ L h' m → News h₀ L h' ((D, W.listOf vs'.toArray k') :: news) → (∀ p ∈ news, p.1 ≠ D) → IntsAre vs' ns.reverse → Q (.ref D) { s with heap := h', toks := tk }) :
    wpG (model Challenge.rw_gb0002_01.row.prog w) (ktrTop dp un gd cn cs L a ccd cl outer) (call (.ref 68) [.ref l]) Q E s := by
  w_top off
  refine wpG_call ?_
  k_dflt (((refine' code_defG ?k1_11 ?k2_11 ?k3_11 ?k4_11 ?k5_11 ?kA_11 ?kF_11 ?kK_11 ?k6_11 ?k7_11 ?k8_11 ?k9_11 ?kB_11 ?_ ?c2_11 ?c3_11 ?c4_11 ?c5_11; (case kA_11 => exact rfl); (case kF_11 => exact rfl); (case kK_11 => assumption); (case k1_11 => k_asm); (case k2_11 => k_asm); (case k3_11 => k_asm); (case k4_11 => k_asm); (case k5_11 => k_asm); (case k6_11 => k_is); (case k7_11 => k_is); (case k8_11 => ktr_room); (case k9_11 => exact BindsTo.of_eq rfl); (case c5_11 => decide); (case kB_11 => exact locs rfl); (case c2_11 => exact rfl); (case c3_11 => exact rfl); (case c4_11 => exact rfl); k_whole; intro g' L' h' FG' F' N' B' X' T' l1; (try dsimp only); (try k_lift B'))))
  refine wpG_execs_cons ?_
  refine wpG_Return ?_
  refine wpG_ListComp ?_
  refine wpG_Call ?_
  walk_at "g_steps"
  refine wpG_callWith_K (K := hd.heap_39 w.params) X rfl ?_
  refine wpG_args_cons (wpG_of_any ?_)
  walk_at "g_steps"
  refine wpG_args_cons (wpG_of_any ?_)
  walk_at "g_steps"
  refine wpG_args_nil ?_
  refine ⟨Frag.In.keeps (by k_asm) (Fr.keep (by k_asm)), ?_⟩
  refine' swap_use w hlen0 hlen ?qB ?qF ?qX ?qN ?qT ?qK ?qd ?qu ?qret
  (case qB => k_asm)
  (case qF => k_asm)
  (case qX => k_asm)
  (case qN => k_asm)
  (case qT => k_asm)
  (case qK => exact rfl)
  (case qd => ((try dsimp only [Around.deeper]); simp only [recursionLimit] at *; omega))
  (case qu => ((try dsimp only [Around.deeper]); omega))
  intro t9 h9 tk9 F9 N9
  (try dsimp only)
  refine comp_bytes (by decide) (by decide) rfl (by decide) (by decide) (by decide) rfl (by rw [sizeLine_eq, List.size_toArray, List.length_reverse, Array.length_toList, byteArr_size]; omega) F9 N9 (fun D hD tkD vD kD FD ND hDn hiD => ?_) (fun _ => rfl)
  rw [turn_ints (by assumption)] at hiD
  (try dsimp only)
  walk_at "g_steps"
  exact hret D hD tkD vD kD (by k_asm) (by k_asm) hDn hiD
end

section
open Sem (wp)
open PySem.Spec PySem.Calls
set_option maxRecDepth 100000

def digs (b : Int) : Nat → Int → List Int
  | 0, _ => []
  | c + 1, x => x % b :: digs b c (x / b)
theorem digs_length (b : Int) : ∀ (c : Nat) (x : Int), (digs b c x).length = c
  | 0, _ => rfl
  | c + 1, x => by rw [digs, List.length_cons, digs_length b c]
theorem digs_add {b : Int} (hb : 0 < b) (c2 : Nat) : ∀ (c1 : Nat) (x : Int), digs b (c1 + c2) x = digs b c1 (x % b ^ c1) ++ digs b c2 (x / b ^ c1)
  | 0, x => by simp [digs]
  | c + 1, x => by
    have e : c + 1 + c2 = (c + c2) + 1 := by omega
    rw [e, digs, digs, digs_add hb c2 c, List.cons_append]
    have e1 : (b ^ (c + 1) : Int) = b * b ^ c := by rw [Int.pow_succ, Int.mul_comm]
    have e2 : x % b ^ (c + 1) % b = x % b := by rw [e1]; exact Int.emod_emod_of_dvd _ ⟨_, rfl⟩
    have e3 : x / b / b ^ c = x / b ^ (c + 1) := by rw [e1, Int.ediv_ediv_of_nonneg (by omega)]
    have e4 : x % b ^ (c + 1) / b = x / b % b ^ c := by
      have h1 := Int.mul_ediv_add_emod x (b * b ^ c)
      rw [e1]
      have h2 : x % (b * b ^ c) = x - b * (b ^ c * (x / (b * b ^ c))) := by rw [← Int.mul_assoc]; omega
      rw [h2, Int.sub_eq_add_neg, ← Int.mul_neg, Int.add_mul_ediv_left _ _ (by omega)]
      have h3 := Int.mul_ediv_add_emod (x / b) (b ^ c)
      rw [Int.ediv_ediv_of_nonneg (by omega)] at h3
      omega
    rw [e2, e3, e4]
def place (ns : List Int) (i : Nat) (ds : List Int) : List Int := ns.take i ++ ds ++ ns.drop (i + ds.length)
theorem place_length {ns ds : List Int} {i : Nat} (h : i + ds.length ≤ ns.length) : (place ns i ds).length = ns.length := by
  unfold place
  rw [List.length_append, List.length_append, List.length_take, List.length_drop]
  omega
theorem place_place {ns A B : List Int} {i : Nat} (h : i + A.length + B.length ≤ ns.length) : place (place ns i A) (i + A.length) B = place ns i (A ++ B) := by
  have hl : (ns.take i ++ A).length = i + A.length := by rw [List.length_append, List.length_take]; omega
  unfold place
  rw [List.take_append_of_le_length (by omega), List.take_of_length_le (by omega), List.drop_append, List.drop_of_length_le (by omega), hl, List.drop_drop, List.length_append]
  rw [show i + A.length + (i + A.length + B.length - (i + A.length)) = i + (A.length + B.length) by omega]
  simp
theorem place_one {ns : List Int} {i : Nat} {x : Int} (h : i < ns.length) : ns.set i x = place ns i [x] := by
  unfold place
  rw [List.set_eq_take_append_cons_drop, if_pos h]
  simp
theorem place_full {ns ds : List Int} (h : ds.length = ns.length) : place ns 0 ds = ds := by
  unfold place
  simp [h]

theorem xor_high {x s : Nat} : x ||| (x / 2 ^ s * 2 ^ s) = x ∧ x &&& (x / 2 ^ s * 2 ^ s) = x / 2 ^ s * 2 ^ s := by
  have e : x / 2 ^ s * 2 ^ s = (x >>> s) <<< s := by rw [Nat.shiftRight_eq_div_pow, Nat.shiftLeft_eq]
  rw [e]
  constructor
  · apply Nat.eq_of_testBit_eq
    intro i
    rw [Nat.testBit_or, Nat.testBit_shiftLeft, Nat.testBit_shiftRight]
    by_cases h : s ≤ i
    · simp [h]
    · simp [h]
  · apply Nat.eq_of_testBit_eq
    intro i
    rw [Nat.testBit_and, Nat.testBit_shiftLeft, Nat.testBit_shiftRight]
    by_cases h : s ≤ i
    · simp [h]
    · simp [h]
theorem bitXor_nat (a b : Nat) : Builtin.bitXor (a : Int) (b : Int) = ((a ||| b : Nat) : Int) - ((a &&& b : Nat) : Int) := by
  have n1 : decide ((0 : Int) ≤ (a : Int)) = true := by simp
  have n2 : decide ((0 : Int) ≤ (b : Int)) = true := by simp
  have n3 : decide ((0 : Int) ≤ Builtin.bitNot (a : Int)) = false := by simp [Builtin.bitNot]; omega
  have n4 : decide ((0 : Int) ≤ Builtin.bitNot (b : Int)) = false := by simp [Builtin.bitNot]; omega
  have e1 : (Builtin.bitNot (Builtin.bitNot (a : Int))).toNat = a := by simp only [Builtin.bitNot]; omega
  have e2 : (Builtin.bitNot (Builtin.bitNot (b : Int))).toNat = b := by simp only [Builtin.bitNot]; omega
  have h1 : Builtin.bitAnd (a : Int) (b : Int) = ((a &&& b : Nat) : Int) := by
    unfold Builtin.bitAnd
    rw [n1, n2]; rfl
  have h2 : Builtin.bitOr (a : Int) (b : Int) = ((a ||| b : Nat) : Int) := by
    unfold Builtin.bitOr Builtin.bitAnd
    rw [n3, n4]
    show Builtin.bitNot (Builtin.bitNot _) = _
    rw [e1, e2]
    simp only [Builtin.bitNot]; omega
  unfold Builtin.bitXor
  rw [h1, h2]
theorem xor_low {x : Int} {s : Nat} (h : 0 ≤ x) : Builtin.bitXor x (x.fdiv (2 ^ s) * 2 ^ s) = x % 2 ^ s := by
  obtain ⟨a, rfl⟩ := Int.eq_ofNat_of_zero_le h
  have e : ((a : Int).fdiv (2 ^ s) * 2 ^ s) = ((a / 2 ^ s * 2 ^ s : Nat) : Int) := by
    rw [Int.fdiv_eq_ediv_of_nonneg _ (Int.le_of_lt (pow2_pos s))]
    simp
  rw [e, bitXor_nat, (xor_high).1, (xor_high).2]
  have h1 := Nat.div_add_mod a (2 ^ s)
  rw [Nat.mul_comm] at h1
  have h2 : ((a : Int) % 2 ^ s) = ((a % 2 ^ s : Nat) : Int) := by simp
  rw [h2]
  omega
theorem pow_shift {i k n : Int} (h : i ≤ k) (hn : 0 ≤ n) : ((2 : Int) ^ n.toNat) ^ (k - i).toNat = 2 ^ ((k - i) * n).toNat := by
  rw [← Int.pow_mul]
  congr 1
  have h4 : (((k - i).toNat * n.toNat : Nat) : Int) = (k - i) * n := by rw [Int.natCast_mul, Int.toNat_of_nonneg (show 0 ≤ k - i by omega), Int.toNat_of_nonneg hn]
  rw [← h4, Nat.mul_comm]; rfl
/-- what inner's one step has of its number -/
theorem split_facts {x i k j n : Int} (hx : 0 ≤ x) (hn : 0 ≤ n) (h1 : i ≤ k) (h2 : k ≤ j) (hb : x < (2 ^ n.toNat) ^ (j - i).toNat) :
    Builtin.bitXor x (x.fdiv (2 ^ ((k - i) * n).toNat) * 2 ^ ((k - i) * n).toNat) = x % (2 ^ n.toNat) ^ (k - i).toNat ∧ x.fdiv (2 ^ ((k - i) * n).toNat) = x / (2 ^ n.toNat) ^ (k - i).toNat ∧
    0 ≤ x % (2 ^ n.toNat) ^ (k - i).toNat ∧ x % (2 ^ n.toNat) ^ (k - i).toNat < (2 ^ n.toNat) ^ (k - i).toNat ∧ x % (2 ^ n.toNat) ^ (k - i).toNat ≤ x ∧
    0 ≤ x / (2 ^ n.toNat) ^ (k - i).toNat ∧ x / (2 ^ n.toNat) ^ (k - i).toNat < (2 ^ n.toNat) ^ (j - k).toNat ∧ x / (2 ^ n.toNat) ^ (k - i).toNat ≤ x := by
  have hp : (0 : Int) < (2 ^ n.toNat) ^ (k - i).toNat := Int.pow_pos (pow2_pos _)
  have e : (j - i).toNat = (k - i).toNat + (j - k).toNat := by omega
  refine ⟨?_, ?_, Int.emod_nonneg _ (by omega), Int.emod_lt_of_pos _ hp, ?_, Int.ediv_nonneg hx (by omega), ?_, Int.ediv_le_self _ hx⟩
  · rw [xor_low hx, pow_shift h1 hn]
  · rw [Int.fdiv_eq_ediv_of_nonneg _ (Int.le_of_lt (pow2_pos _)), pow_shift h1 hn]
  · have := Int.emod_def x ((2 ^ n.toNat) ^ (k - i).toNat)
    have h3 : 0 ≤ (2 ^ n.toNat) ^ (k - i).toNat * (x / (2 ^ n.toNat) ^ (k - i).toNat) := Int.mul_nonneg (by omega) (Int.ediv_nonneg hx (by omega))
    omega
  · apply Int.ediv_lt_of_lt_mul hp
    rw [← Int.pow_add, Nat.add_comm, ← e]
    exact hb
theorem digs_split {ns : List Int} {x i k j n : Int} (h0 : 0 ≤ i) (h1 : i ≤ k) (h2 : k ≤ j) (h3 : j ≤ (ns.length : Int)) :
    place (place ns i.toNat (digs (2 ^ n.toNat) (k - i).toNat (x % (2 ^ n.toNat) ^ (k - i).toNat))) k.toNat (digs (2 ^ n.toNat) (j - k).toNat (x / (2 ^ n.toNat) ^ (k - i).toNat)) = place ns i.toNat (digs (2 ^ n.toNat) (j - i).toNat x) := by
  have e : (j - i).toNat = (k - i).toNat + (j - k).toNat := by omega
  have hk : k.toNat = i.toNat + (digs (2 ^ n.toNat) (k - i).toNat (x % (2 ^ n.toNat) ^ (k - i).toNat)).length := by rw [digs_length]; omega
  rw [e, digs_add (pow2_pos _), hk, place_place (by rw [digs_length, digs_length]; omega)]
theorem digs_one {ns : List Int} {x i j n : Int} (h : i + 1 = j) (h0 : 0 ≤ i) (h1 : j ≤ (ns.length : Int)) (hx : 0 ≤ x) (hb : x < (2 ^ n.toNat) ^ (j - i).toNat) : ns.set i.toNat x = place ns i.toNat (digs (2 ^ n.toNat) (j - i).toNat x) := by
  have e : (j - i).toNat = 1 := by omega
  rw [e] at hb ⊢
  rw [Int.pow_one] at hb
  rw [digs, digs, Int.emod_eq_of_lt hx hb]
  exact place_one (by omega)

section
variable {prog : Program} {w : World} {A : Around} {E : Value → Shared → Prop} {s : Shared} {h₀ : Heap} {L D : Addr} {m : Str → Option Value} {news : List (Addr × Obj)} {g : Obj → List (Addr × Obj)} {vs : List Value} {ns : List Int} {n : Nat} {k x : Int} {t u : Tok}
theorem li_set {Q : Unit → Shared → Prop} (F : Fr h₀ L s.heap m) (N : News h₀ L s.heap news) (U : UpdF D (listOf vs.toArray n) news g) (hi : IntsAre vs ns) (h0 : 0 ≤ k) (h1 : k < ns.length) (hfit : k < 2 ^ 63)
    (h : ∀ h', Fr h₀ L h' m → News h₀ L h' (g (listOf (vs.set k.toNat (.int x u)).toArray n)) → IntsAre (vs.set k.toNat (.int x u)) (ns.set k.toNat x) → Q () { s with heap := h' }) :
    wpAny (model prog w) A (setItem (.ref D) (.int k t) (.int x u)) Q E s := by
  obtain ⟨pre, post, rfl, hg, a, b⟩ := U.split
  have z := N (D, listOf vs.toArray n) (List.mem_append.mpr (.inr (.head _)))
  have hl : vs.length = ns.length := hi.length
  have hs : vs.toArray.size = ns.length := by rw [List.size_toArray]; exact hl
  have hj : k.toNat < ns.length := by omega
  have e1 : vs.toArray.setIfInBounds k.toNat (.int x u) = (vs.set k.toNat (.int x u)).toArray := by
    apply Array.toList_inj.mp
    simp
  refine ki_setAt z.1 h0 hfit (by omega) (h _ (F.change (Heap.SameBut.update ..) z.2.1 z.2.2) ?_ (ints_set hi _))
  rw [hg]
  exact ki_turn _ N a b e1 (by simp)
theorem mul0 {Q : Value → Shared → Prop} (Fm : Fr h₀ L s.heap m) (N : News h₀ L s.heap news) (hl : s.heap.IsList D [Value.int 0 t].toArray) (hlo : -1000 ≤ x) (hhi : x ≤ 1000)
    (h : ∀ D h' vs, Fr h₀ L h' m → News h₀ L h' ((D, listOf vs.toArray 0) :: news) → (∀ p ∈ news, p.1 < D) → IntsAre vs (List.replicate x.toNat 0) → (List.replicate x.toNat (0 : Int)).length = x.toNat → Q (.ref D) { s with heap := h' }) :
    wpAny (model prog w) A (binaryOp .Mult (.ref D) (.int x u)) Q E s := by
  refine KM.mul Fm N hl (.cons 0 t .nil) (by omega) (by omega) (by simp; omega) fun D' h' F' N' lt hi _ _ _ _ _ => h D' h' _ F' N' lt ?_ List.length_replicate
  have e : (List.replicate x.toNat [(0 : Int)]).flatten = List.replicate x.toNat 0 := by
    generalize x.toNat = c
    induction c with
    | zero => rfl
    | succ c ih => rw [List.replicate_succ, List.flatten_cons, ih, List.replicate_succ]; rfl
  rw [← e]; exact hi
end
end

section
set_option maxRecDepth 100000
/-- how many figures _int2digits lays -/
def cnt (n x : Int) : Int := ((Builtin.Int.intBits x : Int) + n - 1).fdiv n
theorem intBits_le {k : Nat} {x : Int} (h0 : 0 ≤ x) (h : x < 2 ^ k) : Builtin.Int.intBits x ≤ k := by
  refine intBits_le_iff.mpr ?_
  have e : ((2 : Int) ^ k) = ((2 ^ k : Nat) : Int) := by simp
  omega
theorem intBits_pos {x : Int} (h : 0 < x) : 0 < Builtin.Int.intBits x := by
  unfold Builtin.Int.intBits
  have hb : (x == 0) = false := by simpa using (show x ≠ 0 by omega)
  rw [hb]; simp
theorem lt_intBits {x : Int} (h0 : 0 ≤ x) : x < 2 ^ Builtin.Int.intBits x := by
  have h := intBits_le_iff.mp (Nat.le_refl (Builtin.Int.intBits x))
  have e : ((2 : Int) ^ Builtin.Int.intBits x) = ((2 ^ Builtin.Int.intBits x : Nat) : Int) := by simp
  omega
theorem sh_facts60 {x n : Int} (hx : 0 ≤ x ∧ x ≤ 64) (hn : 1 ≤ n ∧ n ≤ 8) : 0 ≤ x * n ∧ x * n ≤ 512 :=
  ⟨Int.mul_nonneg hx.1 (by omega), Int.le_trans (Int.mul_le_mul hx.2 hn.2 (by omega) (by decide)) (by decide)⟩
theorem digs_zero {b : Int} : ∀ (c : Nat), digs b c 0 = List.replicate c 0
  | 0 => rfl
  | c + 1 => by rw [digs, List.replicate_succ, Int.zero_emod, Int.zero_ediv, digs_zero c]
theorem cnt_eq {n x : Int} (hn : 1 ≤ n) : cnt n x = ((Builtin.Int.intBits x : Int) + n - 1) / n := Int.fdiv_eq_ediv_of_nonneg _ (by omega)
theorem cnt_mul {n x : Int} (hn : 1 ≤ n) : (Builtin.Int.intBits x : Int) ≤ n * cnt n x ∧ n * cnt n x ≤ (Builtin.Int.intBits x : Int) + n - 1 := by
  rw [cnt_eq hn]
  have h1 := Int.mul_ediv_add_emod ((Builtin.Int.intBits x : Int) + n - 1) n
  have h2 := Int.emod_nonneg ((Builtin.Int.intBits x : Int) + n - 1) (show n ≠ 0 by omega)
  have h3 := Int.emod_lt_of_pos ((Builtin.Int.intBits x : Int) + n - 1) (show 0 < n by omega)
  omega
theorem cnt_nonneg {n x : Int} (hn : 1 ≤ n) : 0 ≤ cnt n x := by
  rw [cnt_eq hn]; exact Int.ediv_nonneg (by omega) (by omega)
theorem cnt_facts {x n : Int} (hx : 0 ≤ x ∧ x < 2 ^ 60) (hn : 1 ≤ n ∧ n ≤ 8) : 0 ≤ cnt n x ∧ cnt n x ≤ 60 ∧ (x ≠ 0 → 1 ≤ cnt n x) ∧ x < (2 ^ n.toNat) ^ (cnt n x).toNat := by
  have hm := cnt_mul (x := x) hn.1
  have h0 := cnt_nonneg (x := x) hn.1
  have hb := intBits_le (k := 60) hx.1 hx.2
  refine ⟨h0, ?_, fun hne => ?_, ?_⟩
  · have h1 : 1 * cnt n x ≤ n * cnt n x := Int.mul_le_mul_of_nonneg_right hn.1 h0
    by_cases h60 : cnt n x ≤ 60
    · exact h60
    · exfalso
      have h2 : n * 61 ≤ n * cnt n x := Int.mul_le_mul_of_nonneg_left (by omega) (by omega)
      omega
  · have hp := intBits_pos (show 0 < x by omega)
    by_cases h1 : 1 ≤ cnt n x
    · exact h1
    · have e : cnt n x = 0 := by omega
      rw [e, Int.mul_zero] at hm
      omega
  · rw [← Int.pow_mul]
    refine Int.lt_of_lt_of_le (lt_intBits hx.1) (pow2_mono ?_)
    have e : ((n.toNat * (cnt n x).toNat : Nat) : Int) = n * cnt n x := by
      rw [Int.natCast_mul, Int.toNat_of_nonneg (by omega), Int.toNat_of_nonneg h0]
    omega
theorem cnt_le {x n : Int} {k : Nat} (h0 : 0 ≤ x) (hn : 1 ≤ n) (h : x < (2 ^ n.toNat) ^ k) : cnt n x ≤ k := by
  rw [← Int.pow_mul] at h
  have hb := intBits_le h0 h
  have hm := cnt_mul (x := x) hn
  have e : ((n.toNat * k : Nat) : Int) = n * k := by rw [Int.natCast_mul, Int.toNat_of_nonneg (by omega)]
  by_cases h1 : cnt n x ≤ k
  · exact h1
  · exfalso
    have h2 : n * ((k : Int) + 1) ≤ n * cnt n x := Int.mul_le_mul_of_nonneg_left (by omega) (by omega)
    rw [Int.mul_add, Int.mul_one] at h2
    omega
theorem digs_dval {b : Int} (hb : 0 < b) : ∀ {ns : List Int}, (∀ x ∈ ns, 0 ≤ x ∧ x < b) → digs b ns.length (dval b ns) = ns
  | [], _ => rfl
  | d :: r, h => by
    have hd := h d (.head _)
    rw [List.length_cons, digs, dval, Int.add_mul_emod_self_left, Int.emod_eq_of_lt hd.1 hd.2, Int.add_mul_ediv_left _ _ (by omega), Int.ediv_eq_zero_of_lt hd.1 hd.2, Int.zero_add, digs_dval hb fun y hy => h y (.tail _ hy)]
theorem digs_pad {b x : Int} {K c : Nat} (hb : 0 < b) (hx : 0 ≤ x) (h : x < b ^ K) : digs b (K + c) x = digs b K x ++ List.replicate c 0 := by
  rw [digs_add hb, Int.emod_eq_of_lt hx h, Int.ediv_eq_zero_of_lt hx h, digs_zero]
end

section
set_option maxRecDepth 100000




abbrev ICd (prog : Program) (w : World) (K : Frag) (p : Program) (loose : List Str) (mean : ExcName → Option Value) (mg mb : Str → Option Value) (base : Heap) (f : Addr) (led : Obj → List (Addr × Obj)) (n : Int) (Kn : Nat) (i j : Int) : Prop :=
  ∀ (x : Int) (vs : List Value) (ns : List Int) (tx ti tj : Tok) (dp un : Nat) (gd : Option (List Code)) (cn : Str) (cs : Scope) (a : Addr) (ccd : Value) (cl : List (Str × Addr)) (outer : List Env) (A₀ : Around) (h₀ : Heap) (L : Addr) (m : Str → Option Value) (s : Shared) (Q E : Value → Shared → Prop),
    Below A₀ base outer h₀ → Fr h₀ L s.heap m → K.In h₀ → News h₀ L s.heap (led (W.listOf vs.toArray 0)) → Top p loose mean mg mb h₀ → cs.kind = .function →
    IntsAre vs ns → ns.length = Kn → 0 ≤ x → x < (2 ^ n.toNat) ^ (j - i).toNat → x < 2 ^ 60 →
    dp + (j - i).toNat + 2 < recursionLimit → un + 8 * ((j - i).toNat + 2) < cLine →
    (∀ (vs' : List Value) (h' : Heap) (tk' : Nat), Fr h₀ L h' m → News h₀ L h' (led (W.listOf vs'.toArray 0)) → IntsAre vs' (place ns i.toNat (digs (2 ^ n.toNat) (j - i).toNat x)) → Q .none { s with heap := h', toks := tk' }) →
    wpAny (model prog w) (ktrTop dp un gd cn cs L a ccd cl outer) (call (.ref f) [.int x tx, .int i ti, .int j tj]) Q E s

def IHd (prog : Program) (w : World) (K : Frag) (p : Program) (loose : List Str) (mean : ExcName → Option Value) (mg mb : Str → Option Value) (base : Heap) (f : Addr) (led : Obj → List (Addr × Obj)) (n : Int) (Kn : Nat) (pre : Int → Int → Prop) (c : Nat) : Prop :=
  ∀ i' j', pre i' j' → (j' - i').toNat < c → ICd prog w K p loose mean mg mb base f led n Kn i' j'

theorem innerd_use {prog : Program} {w : World} {K : Frag} {p : Program} {loose : List Str} {mean : ExcName → Option Value} {mg mb : Str → Option Value} {base : Heap} {f D : Addr} {news : List (Addr × Obj)} {led : Obj → List (Addr × Obj)} {x i j : Int} {vs : List Value} {ns : List Int} {tx ti tj : Tok}
    {dp un : Nat} {gd : Option (List Code)} {cn : Str} {cs : Scope} {a : Addr} {ccd : Value} {cl : List (Str × Addr)} {outer : List Env} {A₀ : Around} {h₀ : Heap} {L : Addr} {m : Str → Option Value} {s : Shared} {Q E : Value → Shared → Prop}
    (n : Int) (pre : Int → Int → Prop)
    (B : Below A₀ base outer h₀) (F : Fr h₀ L s.heap m) (X : K.In h₀) (N : News h₀ L s.heap news) (U : UpdF D (W.listOf vs.toArray 0) news led) (T : Top p loose mean mg mb h₀) (hk : cs.kind = .function)
    (hi : IntsAre vs ns) (hx : 0 ≤ x) (hxb : x < (2 ^ n.toNat) ^ (j - i).toNat) (hx60 : x < 2 ^ 60)
    (hp : pre i j) (hd : dp + (j - i).toNat + 2 < recursionLimit) (hu : un + 8 * ((j - i).toNat + 2) < cLine)
    (step : ∀ i j, pre i j → IHd prog w K p loose mean mg mb base f led n ns.length pre (j - i).toNat → ICd prog w K p loose mean mg mb base f led n ns.length i j)
    (ret : ∀ (vs' : List Value) (h' : Heap) (tk' : Nat), Fr h₀ L h' m → News h₀ L h' (led (W.listOf vs'.toArray 0)) → IntsAre vs' (place ns i.toNat (digs (2 ^ n.toNat) (j - i).toNat x)) → Q .none { s with heap := h', toks := tk' }) :
    wpAny (model prog w) (ktrTop dp un gd cn cs L a ccd cl outer) (call (.ref f) [.int x tx, .int i ti, .int j tj]) Q E s := by
  obtain ⟨pr, po, rfl, hg, _, _⟩ := U.split
  exact ind_of step i j hp x vs ns tx ti tj dp un gd cn cs a ccd cl outer A₀ h₀ L m s Q E B F X (by rw [hg]; exact N) T hk hi rfl hx hxb hx60 hd hu ret

theorem ihyd_use {prog : Program} {w : World} {K : Frag} {p : Program} {loose : List Str} {mean : ExcName → Option Value} {mg mb : Str → Option Value} {base : Heap} {f : Addr} {led : Obj → List (Addr × Obj)} {n : Int} {Kn : Nat} {pre : Int → Int → Prop} {x i j : Int} {vs : List Value} {ns : List Int} {c : Nat} {tx ti tj : Tok}
    {dp un : Nat} {gd : Option (List Code)} {cn : Str} {cs : Scope} {a : Addr} {ccd : Value} {cl : List (Str × Addr)} {outer : List Env} {A₀ : Around} {h₀ : Heap} {L : Addr} {m : Str → Option Value} {s : Shared} {Q E : Value → Shared → Prop}
    (C : IHd prog w K p loose mean mg mb base f led n Kn pre c) (hp : pre i j) (hlt : (j - i).toNat < c)
    (B : Below A₀ base outer h₀) (F : Fr h₀ L s.heap m) (X : K.In h₀) (N : News h₀ L s.heap (led (W.listOf vs.toArray 0))) (T : Top p loose mean mg mb h₀) (hk : cs.kind = .function)
    (hi : IntsAre vs ns) (hl : ns.length = Kn) (hx : 0 ≤ x) (hxb : x < (2 ^ n.toNat) ^ (j - i).toNat) (hx60 : x < 2 ^ 60)
    (hd : dp + (j - i).toNat + 2 < recursionLimit) (hu : un + 8 * ((j - i).toNat + 2) < cLine)
    (ret : ∀ (vs' : List Value) (h' : Heap) (tk' : Nat), Fr h₀ L h' m → News h₀ L h' (led (W.listOf vs'.toArray 0)) → IntsAre vs' (place ns i.toNat (digs (2 ^ n.toNat) (j - i).toNat x)) → (place ns i.toNat (digs (2 ^ n.toNat) (j - i).toNat x)).length = Kn → Q .none { s with heap := h', toks := tk' })
    (hij : i.toNat + (j - i).toNat ≤ Kn) :
    wpAny (model prog w) (ktrTop dp un gd cn cs L a ccd cl outer) (call (.ref f) [.int x tx, .int i ti, .int j tj]) Q E s :=
  C i j hp hlt x vs ns tx ti tj dp un gd cn cs a ccd cl outer A₀ h₀ L m s Q E B F X N T hk hi hl hx hxb hx60 hd hu fun vs' h' tk' F' N' I' => ret vs' h' tk' F' N' I' (by rw [place_length (by rw [digs_length]; omega)]; exact hl)

local macro_rules | `(tactic| walk_at "g_ihd") => `(tactic| (refine' ihyd_use (by assumption) ?q1 ?q2 ?qB ?qF ?qX ?qN ?qT ?qK ?qi ?ql ?qx ?qxb ?qx6 ?qd ?qu ?qret ?qij; (case qB | qF | qX | qN | qT => k_asm); (case qK => first | exact rfl | assumption); (case q1 | q2 => omega); (case qi | ql | qx | qxb => assumption); (case qx6 | qij => omega); (case qd => ((try dsimp only [Around.deeper]); simp only [recursionLimit] at *; omega)); (case qu => ((try dsimp only [Around.deeper]); omega)); intro vs9 h9 tk9 F9 N9 i9 l9; (try dsimp only at N9); (try dsimp only); (try k_fold)))
local macro_rules | `(tactic| walk_at "call ref") => `(tactic| walk_at "g_ihd")
local macro_rules | `(tactic| walk_at "setItem ref int") => `(tactic| (k_here; (with_reducible show wpAny _ _ (setItem (Value.ref _) (Value.int _ _) (Value.int _ _)) _ _ _); k_dflt (refine' li_set ?k1 ?k2 ?k3 ?k4 ?k5 ?k6 ?k7 ?_; (case k1 | k2 => k_asm); (case k3 => k_updF); (case k4 => with_reducible assumption); (case k5 | k6 | k7 => omega)); intro h' F' N' hi'; (try dsimp only at N'); (try k_sweep)))
local macro_rules | `(tactic| walk_at "binaryOp Mult ref int") => `(tactic| (k_here; (with_reducible show wpAny _ _ (binaryOp Operator.Mult (Value.ref _) (Value.int _ _)) _ _ _); (refine mul0 (by k_asm) (by k_asm) (by is_list) (by omega) (by omega) ?_); (intro D' h' vs' F' N' l1 i1 n1); (try k_lt l1)))
set_option maxHeartbeats 8000000 in
theorem i2d_hit (w : World) {p : Program} {loose : List Str} {mean : ExcName → Option Value} {mg mb : Str → Option Value}
    {news : List (Addr × Obj)} {x n : Int} {tx tn : Tok}
    {dp un : Nat} {gd : Option (List Code)} {cn : Str} {cs : Scope} {a : Addr} {ccd : Value} {cl : List (Str × Addr)} {outer : List Env} {A₀ : Around} {base h₀ : Heap} {L : Addr} {m : Str → Option Value} {s : Shared} {Q E : Value → Shared → Prop}
    (B : Below A₀ base outer h₀) (F : Fr h₀ L s.heap m) (X : (hd.heap_39 w.params).In h₀) (N : News h₀ L s.heap news) (T : Top p loose mean mg mb h₀) (hk : cs.kind = .function)
    (C : CodeHd base 41 37) (hx : 0 ≤ x ∧ x < 2 ^ 60) (hn : 1 ≤ n ∧ n ≤ 8)
    {c' : Addr} {oc : Obj} {cvs : Array Value} {tq : Tok} (hP : (37, tabObj #[rawInt 39, rawInt 4, .ref c']) ∈ news) (hc : (c', oc) ∈ news) (hcd : oc.data = .fields cvs) (hcv : cvs[1]? = some (.str (Str.ofString "_int2digits.<locals>.inner") tq))
    (hroom : dp + 100 < recursionLimit) (hu : un + 1024 < cLine)
    (hret : ∀ (D : Addr) (vs' : List Value) (h' : Heap) (tk' : Nat), Fr h₀ L h' m → News h₀ L h' ((D, W.listOf vs'.toArray 0) :: news) → (∀ q ∈ news, q.1 < D) → IntsAre vs' (digs (2 ^ n.toNat) (cnt n x).toNat x) → Q (.ref D) { s with heap := h', toks := tk' }) :
    wpAny (model Challenge.rw_gb0002_01.row.prog w) (ktrTop dp un gd cn cs L a ccd cl outer) (call (.ref 42) [.int x tx, .int n tn]) Q E s := by
  w_top off
  refine wpAny_call ?_
  k_dflt (((refine' code_defC ?k1_12 ?k2_12 ?k3_12 ?k4_12 ?k5_12 ?kA_12 ?kF_12 ?kK_12 ?k6_12 ?k7_12 ?k8_12 ?k9_12 ?kB_12 ?kD_12 ?_ ?c2_12 ?c3_12 ?c4_12; (case kA_12 => exact rfl); (case kF_12 => exact rfl); (case kK_12 => assumption); (case k1_12 => k_asm); (case k2_12 => k_asm); (case k3_12 => k_asm); (case k4_12 => k_asm); (case k5_12 => k_asm); (case k6_12 => k_is); (case k7_12 => k_is); (case k8_12 => ktr_room); (case k9_12 => first | exact BindsTo.of_eq rfl | exact binds_K (by k_in) rfl (by k_is) rfl rfl rfl); (case kB_12 => exact rfl); (case kD_12 => decide +kernel); (case c2_12 => exact rfl); (case c3_12 => exact rfl); (case c4_12 => exact rfl); k_whole; intro g' L' h' tk' cells' FG' F' N' Y' B' X' T' l1; (try k_lt l1); k_cells Y'; (try simp only [List.cons_append, List.nil_append] at N'); (try dsimp only); (try k_lift B'); (try k_fold))))
  have hK := cnt_facts hx hn
  unfold cnt at hK
  walk_at "g_steps"
  · have hK2 := hK.2.2.1 (by omega)
    refine' innerd_use n (fun i j => 0 ≤ i ∧ i < j ∧ j ≤ ((((Builtin.Int.intBits x : Int) + n - 1).fdiv n).toNat : Int)) ?kB ?kF ?kX ?kN ?kU ?kT ?kK ?ki ?kx ?kxb ?kx6 ?kp ?kd ?ku ?kstep ?kret
    (case kB => k_asm)
    (case kF => k_asm)
    (case kX => k_asm)
    (case kN => k_asm)
    (case ki => assumption)
    (case kU => k_updF)
    (case kT => k_asm)
    (case kK => exact rfl)
    (case kx => exact hx.1)
    (case kxb => (rw [List.length_replicate, Int.sub_zero, Int.toNat_natCast]; exact hK.2.2.2))
    (case kx6 => exact hx.2)
    (case kp => (rw [List.length_replicate]; omega))
    (case kd => (simp only [recursionLimit, Int.sub_zero, Int.toNat_natCast] at *; omega))
    (case ku => (have hcL9 := cLine_is; simp only [Int.sub_zero, Int.toNat_natCast] at *; omega))
    (case kstep =>
      intro i j hp IH
      rw [List.length_replicate] at IH ⊢
      unfold ICd
      intro x2 vs2 ns2 tx2 ti2 tj2 dp2 un2 gd2 cn2 cs2 a2 ccd2 cl2 outer2 A2 h2 L2 m2 s2 Q2 E2 B2 F2 X2 N2 T2 hk2 hi2 hl2 hx20 hx2b hx26 hd2 hu2 hret2
      dsimp only at N2 hret2
      refine wpAny_call ?_
      k_dflt (((refine' code_nest ?k1_13 ?k2_13 ?k3_13 ?k4_13 ?k5_13 ?kA_13 ?kF_13 ?kK_13 ?k6_13 ?k7_13 ?k8_13 ?k9_13 ?kB_13 ?_ ?c2_13 ?c3_13 ?c4_13 ?c5_13; (case kA_13 => exact rfl); (case kF_13 => exact rfl); (case kK_13 => assumption); (case k1_13 => k_asm); (case k2_13 => k_asm); (case k3_13 => k_asm); (case k4_13 => k_asm); (case k5_13 => k_asm); (case k6_13 => k_mem); (case k7_13 => exact codeRec_news (by k_asm) (by k_mem) (by assumption) (by assumption)); (case k8_13 => ktr_room); (case k9_13 => exact BindsTo.of_eq rfl); (case c5_13 => decide); (case kB_13 => exact locs rfl); (case c2_13 => exact rfl); (case c3_13 => exact rfl); (case c4_13 => exact rfl); k_whole; intro g' L' h' FG' F' N' B' X' T'; (try dsimp only); (try k_lift B'); (try k_fold))))
      have hm := mid_facts i j
      have hsp := @split_facts x2 i ((i + j).fdiv (2 ^ Int.toNat 1)) j n hx20 (by omega) (by omega) (by omega) hx2b
      obtain ⟨hs1, hs2, hs3, hs4, hs5, hs6, hs7, hs8⟩ := hsp
      rw [← hs1] at hs3 hs4 hs5
      rw [← hs2] at hs6 hs7 hs8
      have hsh := @sh_facts60 ((i + j).fdiv (2 ^ Int.toNat 1) - i) n (by omega) hn
      k_steps
      · refine' hret2 _ _ _ ?za ?zb ?zc
        (case zb => k_asm)
        (case za => k_asm)
        rename IntsAre (vs2.set _ _) _ => h8
        rw [digs_one (by assumption) hp.1 (by omega) hx20 hx2b] at h8
        exact h8
      · refine' hret2 _ _ _ ?ya ?yb ?yc
        (case yb => k_asm)
        (case ya => k_asm)
        rename IntsAre _ (place (place _ _ _) _ _) => h8
        rw [hs1, hs2, digs_split hp.1 (by omega) (by omega) (by omega)] at h8
        exact h8)
    (case kret =>
      intro vs9 h9 tk9 F9 N9 i9
      (try dsimp only at N9)
      (try dsimp only)
      walk_at "g_steps"
      rename (_ ∧ _ ∧ _ ∧ _ ∧ AllLt _ news) => l9
      rw [List.length_replicate, show Int.toNat 0 = 0 from rfl, Int.sub_zero, Int.toNat_natCast, place_full (by rw [digs_length, List.length_replicate])] at i9
      refine hret _ _ _ _ (by k_asm) (cb_drop (by k_asm) ?_) (ktn_ltOf l9.2.2.2.2) i9
      intro p hp
      rcases List.mem_cons.mp hp with rfl | hp
      · k_mem
      · k_mem)
  · rename (_ ∧ _ ∧ _ ∧ _ ∧ AllLt _ news) => l9
    rename x = 0 => hx0
    rename IntsAre _ (List.replicate _ _) => i9
    refine hret _ _ _ _ (by k_asm) (cb_drop (by k_asm) ?_) (ktn_ltOf l9.2.2.2.2) (by subst hx0; rw [digs_zero]; exact i9)
    intro p hp
    rcases List.mem_cons.mp hp with rfl | hp
    · k_mem
    · k_mem
set_option maxRecDepth 100000




set_option maxHeartbeats 8000000 in
theorem i2d_fresh (w : World) {p : Program} {loose : List Str} {mean : ExcName → Option Value} {mg mb : Str → Option Value}
    {news : List (Addr × Obj)} {x n : Int} {tx tn : Tok}
    {dp un : Nat} {gd : Option (List Code)} {cn : Str} {cs : Scope} {a : Addr} {ccd : Value} {cl : List (Str × Addr)} {outer : List Env} {A₀ : Around} {base h₀ : Heap} {L : Addr} {m : Str → Option Value} {s : Shared} {Q E : Value → Shared → Prop}
    (B : Below A₀ base outer h₀) (F : Fr h₀ L s.heap m) (X : (hd.heap_39 w.params).In h₀) (N : News h₀ L s.heap news) (T : Top p loose mean mg mb h₀) (hk : cs.kind = .function)
    (C : CodeHd base 41 37) (hx : 0 ≤ x ∧ x < 2 ^ 60) (hn : 1 ≤ n ∧ n ≤ 8)
    {gg : Obj → List (Addr × Obj)} (hP : (37, tabObj #[]) ∈ news) (hU : UpdF 37 (tabObj #[]) news gg) (hgl : ∀ o, ∀ p ∈ gg o, ∃ q ∈ news, q.1 = p.1)
    (hroom : dp + 100 < recursionLimit) (hu : un + 1024 < cLine)
    (hret : ∀ (c' : Addr) (oc : Obj) (cvs : Array Value) (tq : Tok), oc.data = .fields cvs → cvs[1]? = some (.str (Str.ofString "_int2digits.<locals>.inner") tq) → (∀ q ∈ news, q.1 < c') →
      ∀ (D : Addr) (vs' : List Value) (h' : Heap) (tk' : Nat), Fr h₀ L h' m → News h₀ L h' ((D, W.listOf vs'.toArray 0) :: (c', oc) :: gg (tabObj #[rawInt 39, rawInt 4, .ref c'])) → D < c' → (∀ q ∈ news, q.1 < D) → IntsAre vs' (digs (2 ^ n.toNat) (cnt n x).toNat x) → Q (.ref D) { s with heap := h', toks := tk' }) :
    wpAny (model Challenge.rw_gb0002_01.row.prog w) (ktrTop dp un gd cn cs L a ccd cl outer) (call (.ref 42) [.int x tx, .int n tn]) Q E s := by
  w_top off
  refine wpAny_call ?_
  k_dflt (((refine' code_defC ?k1_14 ?k2_14 ?k3_14 ?k4_14 ?k5_14 ?kA_14 ?kF_14 ?kK_14 ?k6_14 ?k7_14 ?k8_14 ?k9_14 ?kB_14 ?kD_14 ?_ ?c2_14 ?c3_14 ?c4_14; (case kA_14 => exact rfl); (case kF_14 => exact rfl); (case kK_14 => assumption); (case k1_14 => k_asm); (case k2_14 => k_asm); (case k3_14 => k_asm); (case k4_14 => k_asm); (case k5_14 => k_asm); (case k6_14 => k_is); (case k7_14 => k_is); (case k8_14 => ktr_room); (case k9_14 => first | exact BindsTo.of_eq rfl | exact binds_K (by k_in) rfl (by k_is) rfl rfl rfl); (case kB_14 => exact rfl); (case kD_14 => decide +kernel); (case c2_14 => exact rfl); (case c3_14 => exact rfl); (case c4_14 => exact rfl); k_whole; intro g' L' h' tk' cells' FG' F' N' Y' B' X' T' l1; (try k_lt l1); k_cells Y'; (try simp only [List.cons_append, List.nil_append] at N'); (try dsimp only); (try k_lift B'); (try k_fold))))
  rename (∀ p ∈ _, Prod.fst p < _) => l1
  have h37 := ltN (l1 _ hP)
  have hgl1 : GG gg _ := fun o p (hp : p ∈ gg o) => (let ⟨q, hq, e⟩ := hgl o p hp; e ▸ l1 q hq)
  dsimp only at h37
  have hK := cnt_facts hx hn
  unfold cnt at hK
  walk_at "g_steps"
  · have hK2 := hK.2.2.1 (by omega)
    refine' innerd_use n (fun i j => 0 ≤ i ∧ i < j ∧ j ≤ ((((Builtin.Int.intBits x : Int) + n - 1).fdiv n).toNat : Int)) ?kB ?kF ?kX ?kN ?kU ?kT ?kK ?ki ?kx ?kxb ?kx6 ?kp ?kd ?ku ?kstep ?kret
    (case kB => k_asm)
    (case kF => k_asm)
    (case kX => k_asm)
    (case kN => k_asm)
    (case ki => assumption)
    (case kU => k_updF)
    (case kT => k_asm)
    (case kK => exact rfl)
    (case kx => exact hx.1)
    (case kxb => (rw [List.length_replicate, Int.sub_zero, Int.toNat_natCast]; exact hK.2.2.2))
    (case kx6 => exact hx.2)
    (case kp => (rw [List.length_replicate]; omega))
    (case kd => (simp only [recursionLimit, Int.sub_zero, Int.toNat_natCast] at *; omega))
    (case ku => (have hcL9 := cLine_is; simp only [Int.sub_zero, Int.toNat_natCast] at *; omega))
    (case kstep =>
      intro i j hp IH
      rw [List.length_replicate] at IH ⊢
      unfold ICd
      intro x2 vs2 ns2 tx2 ti2 tj2 dp2 un2 gd2 cn2 cs2 a2 ccd2 cl2 outer2 A2 h2 L2 m2 s2 Q2 E2 B2 F2 X2 N2 T2 hk2 hi2 hl2 hx20 hx2b hx26 hd2 hu2 hret2
      dsimp only at N2 hret2
      refine wpAny_call ?_
      k_dflt (((refine' code_nest ?k1_15 ?k2_15 ?k3_15 ?k4_15 ?k5_15 ?kA_15 ?kF_15 ?kK_15 ?k6_15 ?k7_15 ?k8_15 ?k9_15 ?kB_15 ?_ ?c2_15 ?c3_15 ?c4_15 ?c5_15; (case kA_15 => exact rfl); (case kF_15 => exact rfl); (case kK_15 => assumption); (case k1_15 => k_asm); (case k2_15 => k_asm); (case k3_15 => k_asm); (case k4_15 => k_asm); (case k5_15 => k_asm); (case k6_15 => k_mem); (case k7_15 => exact codeRec_news (by k_asm) (by k_mem) (by assumption) (by assumption)); (case k8_15 => ktr_room); (case k9_15 => exact BindsTo.of_eq rfl); (case c5_15 => decide); (case kB_15 => exact locs rfl); (case c2_15 => exact rfl); (case c3_15 => exact rfl); (case c4_15 => exact rfl); k_whole; intro g' L' h' FG' F' N' B' X' T'; (try dsimp only); (try k_lift B'); (try k_fold))))
      have hm := mid_facts i j
      have hsp := @split_facts x2 i ((i + j).fdiv (2 ^ Int.toNat 1)) j n hx20 (by omega) (by omega) (by omega) hx2b
      obtain ⟨hs1, hs2, hs3, hs4, hs5, hs6, hs7, hs8⟩ := hsp
      rw [← hs1] at hs3 hs4 hs5
      rw [← hs2] at hs6 hs7 hs8
      have hsh := @sh_facts60 ((i + j).fdiv (2 ^ Int.toNat 1) - i) n (by omega) hn
      k_steps
      · refine' hret2 _ _ _ ?za ?zb ?zc
        (case zb => k_asm)
        (case za => k_asm)
        rename IntsAre (vs2.set _ _) _ => h8
        rw [digs_one (by assumption) hp.1 (by omega) hx20 hx2b] at h8
        exact h8
      · refine' hret2 _ _ _ ?ya ?yb ?yc
        (case yb => k_asm)
        (case ya => k_asm)
        rename IntsAre _ (place (place _ _ _) _ _) => h8
        rw [hs1, hs2, digs_split hp.1 (by omega) (by omega) (by omega)] at h8
        exact h8)
    (case kret =>
      intro vs9 h9 tk9 F9 N9 i9
      (try dsimp only at N9)
      (try dsimp only)
      walk_at "g_steps"
      rename (_ ∧ _ ∧ _ ∧ _ ∧ AllLt _ news) => l9
      rw [List.length_replicate, show Int.toNat 0 = 0 from rfl, Int.sub_zero, Int.toNat_natCast, place_full (by rw [digs_length, List.length_replicate])] at i9
      rename (_ ∧ _ ∧ _ ∧ _ ∧ _ ∧ AllLt _ news) => l8
      refine hret _ _ _ _ (by assumption) (by assumption) (ktn_ltOf l8.2.2.2.2.2) _ _ _ _ (by k_asm) (cb_drop (by k_asm) ?_) l8.1 (ktn_ltOf l9.2.2.2.2) i9
      intro p hp
      rcases List.mem_cons.mp hp with rfl | hp
      · k_mem
      · rcases List.mem_cons.mp hp with rfl | hp
        · k_mem
        · k_mem)
  · rename (_ ∧ _ ∧ _ ∧ _ ∧ AllLt _ news) => l9
    rename x = 0 => hx0
    rename IntsAre _ (List.replicate _ _) => i9
    rename (_ ∧ _ ∧ _ ∧ _ ∧ _ ∧ AllLt _ news) => l8
    refine hret _ _ _ _ (by assumption) (by assumption) (ktn_ltOf l8.2.2.2.2.2) _ _ _ _ (by k_asm) (cb_drop (by k_asm) ?_) l8.1 (ktn_ltOf l9.2.2.2.2) (by subst hx0; rw [digs_zero]; exact i9)
    intro p hp
    rcases List.mem_cons.mp hp with rfl | hp
    · k_mem
    · rcases List.mem_cons.mp hp with rfl | hp
      · k_mem
      · k_mem
end

section
set_option maxRecDepth 100000


abbrev pairObj (q r : Int) (t u : Tok) : Obj := { cls := .type "tuple", data := .seq #[.int q t, .int r u] }
section
variable {prog : Program} {w : World} {A : Around} {E : Value → Shared → Prop} {s : Shared} {h₀ : Heap} {L D : Addr} {m : Str → Option Value} {news : List (Addr × Obj)} {a b : Int} {t u : Tok}
theorem divmod_K {Q : Value → Shared → Prop} (F : Fr h₀ L s.heap m) (N : News h₀ L s.heap news) (h0 : 1 ≤ b) (h1 : b < 1000)
    (h : ∀ T h' t1 t2 tk, Fr h₀ L h' m → News h₀ L h' ((T, pairObj (a.fdiv b) (a.fmod b) t1 t2) :: news) → (∀ p ∈ news, p.1 < T) → Q (.ref T) { s with heap := h', toks := tk }) :
    wpAny (model prog w) A (call (.builtin "divmod") [.int a t, .int b u]) Q E s :=
  divmod_N F N (by omega) (fun h' F' N' => h _ h' _ _ _ F' N' fun p hp => Heap.lt_size (N p hp).1) (.inl (PyProof.noPylong_small (by omega)))
end
local macro_rules | `(tactic| walk_at "call builtin:divmod") => `(tactic| (k_here; (with_reducible show wpAny _ _ (call _ [Value.int _ _, Value.int _ _]) _ _ _); (refine divmod_K (by k_asm) (by k_asm) (by omega) (by omega) ?_); (intro T' h' t1 t2 tk' F' N' l1); (try k_lt l1)))
set_option maxHeartbeats 8000000 in
theorem div2 (w : World) {p : Program} {loose : List Str} {mean : ExcName → Option Value} {mg mb : Str → Option Value}
    {news : List (Addr × Obj)} {x b n : Int} {tx tb tn : Tok}
    {dp un : Nat} {gd : Option (List Code)} {cn : Str} {cs : Scope} {a : Addr} {ccd : Value} {cl : List (Str × Addr)} {outer : List Env} {A₀ : Around} {base h₀ : Heap} {L : Addr} {m : Str → Option Value} {s : Shared} {Q E : Value → Shared → Prop}
    (B : Below A₀ base outer h₀) (F : Fr h₀ L s.heap m) (X : (hd.heap_39 w.params).In h₀) (N : News h₀ L s.heap news) (T : Top p loose mean mg mb h₀) (hk : cs.kind = .function)
    (hx : 0 ≤ x ∧ x < 2 ^ 60) (hb : 1 ≤ b ∧ b < 1000) (hn : 0 ≤ n)
    (hroom : dp + 10 < recursionLimit) (hu : un + 100 < cLine)
    (hret : ∀ T h' t1 t2 tk, Fr h₀ L h' m → News h₀ L h' ((T, pairObj (x.fdiv b) (x.fmod b) t1 t2) :: news) → (∀ p ∈ news, p.1 < T) → Q (.ref T) { s with heap := h', toks := tk }) :
    wpAny (model Challenge.rw_gb0002_01.row.prog w) (ktrTop dp un gd cn cs L a ccd cl outer) (call (.ref 28) [.int x tx, .int b tb, .int n tn]) Q E s := by
  w_top off
  have hbits := intBits_le (k := 60) hx.1 hx.2
  refine wpAny_call ?_
  k_dflt (((refine' code_def ?k1_16 ?k2_16 ?k3_16 ?k4_16 ?k5_16 ?kA_16 ?kF_16 ?kK_16 ?k6_16 ?k7_16 ?k8_16 ?k9_16 ?kB_16 ?_ ?c2_16 ?c3_16 ?c4_16 ?c5_16; (case kA_16 => exact rfl); (case kF_16 => exact rfl); (case kK_16 => assumption); (case k1_16 => k_asm); (case k2_16 => k_asm); (case k3_16 => k_asm); (case k4_16 => k_asm); (case k5_16 => k_asm); (case k6_16 => k_is); (case k7_16 => k_is); (case k8_16 => ktr_room); (case k9_16 => exact BindsTo.of_eq rfl); (case c5_16 => decide); (case kB_16 => exact locs rfl); (case c2_16 => exact rfl); (case c3_16 => exact rfl); (case c4_16 => exact rfl); k_whole; intro g' L' h' FG' F' N' B' X' T'; (try dsimp only); (try k_fold))))
  walk_at "g_steps"
  refine hret _ _ _ _ _ (by k_asm) (by k_asm) (by assumption)
end

section
open Sem (wp)
open PySem.Spec PySem.Calls
set_option maxRecDepth 100000
def horner (B : Int) : Int → List Int → Int
  | r, [] => r
  | r, d :: ds => horner B (r * B + d) ds
theorem horner_append (B : Int) : ∀ (xs : List Int) (r d : Int), horner B r (xs ++ [d]) = horner B r xs * B + d
  | [], _, _ => rfl
  | x :: xs, r, d => by rw [List.cons_append, horner, horner, horner_append B xs]
theorem horner_dval (B : Int) : ∀ ds : List Int, horner B 0 ds.reverse = dval B ds
  | [] => rfl
  | d :: r => by rw [List.reverse_cons, horner_append, horner_dval B r, dval, Int.mul_comm, Int.add_comm]
theorem horner_mod (B b : Int) : ∀ (xs : List Int) (r r' : Int), r % b = r' % b → horner B r xs % b = horner B r' xs % b
  | [], _, _, h => h
  | d :: ds, r, r', h => by
    rw [horner, horner]
    refine horner_mod B b ds _ _ ?_
    rw [Int.add_emod, Int.mul_emod, h, ← Int.mul_emod, ← Int.add_emod]
theorem dval_digs {b : Int} (hb : 0 < b) : ∀ (c : Nat) {x : Int}, 0 ≤ x → x < b ^ c → dval b (digs b c x) = x
  | 0, x, h0, h1 => by rw [Int.pow_zero] at h1; rw [digs, dval]; omega
  | c + 1, x, h0, h1 => by
    have e1 : (b ^ (c + 1) : Int) = b * b ^ c := by rw [Int.pow_succ, Int.mul_comm]
    rw [digs, dval, dval_digs hb c (Int.ediv_nonneg h0 (by omega)) (Int.ediv_lt_of_lt_mul hb (by rw [Int.mul_comm, ← e1]; exact h1))]
    have := Int.mul_ediv_add_emod x b
    omega
theorem digs_range {b : Int} (hb : 0 < b) : ∀ (c : Nat) (x : Int), ∀ y ∈ digs b c x, 0 ≤ y ∧ y < b
  | 0, _, _, h => nomatch h
  | c + 1, x, y, h => by
    rw [digs] at h
    rcases List.mem_cons.mp h with rfl | h
    · exact ⟨Int.emod_nonneg _ (by omega), Int.emod_lt_of_pos _ hb⟩
    · exact digs_range hb c _ y h
/-- one figure of the long division -/
theorem div_step {B b rr d : Int} (hb : 0 < b) (_hB : 0 < B) (hr : 0 ≤ rr ∧ rr < b) (hd : 0 ≤ d ∧ d < B) (hBb : B ≤ 1000) (hb1 : b < 1000) :
    0 ≤ rr * B + d ∧ rr * B + d < 2 ^ 60 ∧ 0 ≤ (rr * B + d).fmod b ∧ (rr * B + d).fmod b < b ∧ 0 ≤ (rr * B + d).fdiv b ∧ (rr * B + d).fdiv b < B := by
  have h1 : 0 ≤ rr * B := Int.mul_nonneg hr.1 (by omega)
  have h2 : rr * B ≤ (b - 1) * B := Int.mul_le_mul_of_nonneg_right (by omega) (by omega)
  have h3 : (b - 1) * B = b * B - B := by rw [Int.sub_mul, Int.one_mul]
  have h4 : b * B ≤ 1000 * 1000 := Int.mul_le_mul (by omega) hBb (by omega) (by decide)
  rw [Int.fmod_eq_emod_of_nonneg _ (by omega), Int.fdiv_eq_ediv_of_nonneg _ (by omega)]
  refine ⟨by omega, by omega, Int.emod_nonneg _ (by omega), Int.emod_lt_of_pos _ hb, Int.ediv_nonneg (by omega) (by omega), ?_⟩
  apply Int.ediv_lt_of_lt_mul hb
  rw [Int.mul_comm B b]; omega

theorem offI_of {I : Addr} {it : Obj} : ∀ {l : List (Addr × Obj)}, (∀ p ∈ l, p.1 ≠ I) → OffI I it l
  | [], _ => trivial
  | p :: _, h => ⟨.inl (h p (.head _)), offI_of fun q hq => h q (.tail _ hq)⟩
section
variable {prog : Program} {w : World} {A : Around} {E : Value → Shared → Prop} {s : Shared} {env : Env} {h₀ : Heap} {x : Str} {body : List Stmt} {Q : Flow → Shared → Prop}
theorem li_append {L D : Addr} {m : Str → Option Value} {news : List (Addr × Obj)} {g : Obj → List (Addr × Obj)} {vs : List Value} {ns : List Int} {n : Nat} {y : Int} {t : Tok} {Q : Value → Shared → Prop} (F : Fr h₀ L s.heap m) (N : News h₀ L s.heap news) (U : UpdF D (listOf vs.toArray n) news g) (hi : IntsAre vs ns) (hz : ns.length ≤ 1000)
    (h : ∀ h', Fr h₀ L h' m → News h₀ L h' (g (listOf (vs ++ [Value.int y t]).toArray (n + 1))) → IntsAre (vs ++ [Value.int y t]) (ns ++ [y]) → Q .none { s with heap := h' }) :
    wpAny (model prog w) A (call (.builtin "list.append") [.ref D, .int y t]) Q E s := by
  obtain ⟨pre, post, rfl, hg, a, b⟩ := U.split
  have z := N (D, listOf vs.toArray n) (List.mem_append.mpr (.inr (.head _)))
  have hl : vs.length = ns.length := hi.length
  refine append_at (hsz := by rw [sizeLine_eq, List.size_toArray]; omega) z.1 fun h' hs ho' => h h' (F.change hs z.2.1 z.2.2) ?_ (hi.append (.cons y t .nil))
  rw [hg]
  refine news_set N a b hs ?_
  rw [ho']
  simp [W.listOf]
theorem li_reverse {L D : Addr} {m : Str → Option Value} {news : List (Addr × Obj)} {g : Obj → List (Addr × Obj)} {vs : List Value} {ns : List Int} {n : Nat} {Q : Value → Shared → Prop} (F : Fr h₀ L s.heap m) (N : News h₀ L s.heap news) (U : UpdF D (listOf vs.toArray n) news g) (hi : IntsAre vs ns) (hz : ns.length ≤ 1000)
    (h : ∀ h', Fr h₀ L h' m → News h₀ L h' (g (listOf vs.reverse.toArray n)) → IntsAre vs.reverse ns.reverse → Q .none { s with heap := h' }) :
    wpAny (model prog w) A (call (.builtin "list.reverse") [.ref D]) Q E s := by
  obtain ⟨pre, post, rfl, hg, a, c⟩ := U.split
  have z := N (D, listOf vs.toArray n) (List.mem_append.mpr (.inr (.head _)))
  have hl : vs.length = ns.length := hi.length
  have e1 : vs.toArray.reverse = vs.reverse.toArray := by
    apply Array.toList_inj.mp
    simp
  refine call_meets PySem.F.slot_list_reverse ⟨_, z.1, rfl⟩ PySem.F.entry_list_reverse (PySem.F.args_list_reverse_1 _) (PySem.AutoSeq1.list_reverse_list_0 D vs.toArray n (by rw [sizeLine_eq, List.size_toArray]; omega)) ⟨z.1, h _ (F.change (Heap.SameBut.update ..) z.2.1 z.2.2) ?_ hi.reverse⟩
  rw [hg]
  exact kl_turn0 (fun x => x.reverse) N a c e1 (by simp)
theorem revRest_ind {J : List Value → (Str → Option Value) → List (Addr × Obj) → Prop} {I : Addr} {lp : Addr × Obj}
    (h0 : ∀ m news, J [] m news → ∀ h tk, Fr h₀ env.locals h m → News h₀ env.locals h news → Q .next { s with heap := h, toks := tk })
    (h1 : ∀ v r m news, J (v :: r) m news → ∀ (it : Obj) h tk, it.cls = .type "list_reverseiterator" → Fr h₀ env.locals h (fun y => if y = x then some v else m y) → News h₀ env.locals h ((I, it) :: news) →
      wpAny (model prog w) A (execs body env) (UnrPost h₀ env.locals { s with heap := h, toks := tk } I it (fun m' n' => lp ∈ n' ∧ J r m' n') Q) E { s with heap := h, toks := tk }) :
    ∀ r m news, J r m news → RevRest prog w A E h₀ env x body Q s I lp r m news
  | [], m, news, hj => RevRest.zero fun h tk F N => h0 m news hj h tk F N
  | v :: r, m, news, hj => RevRest.succ fun it h tk hc F N => by
    have hend : ∀ s₂, UnrEnd h₀ env.locals { s with heap := h, toks := tk } I it (fun m' n' => lp ∈ n' ∧ J r m' n') s₂ → UnrEnd h₀ env.locals { s with heap := h, toks := tk } I it (fun m' n' => lp ∈ n' ∧ RevRest prog w A E h₀ env x body Q s I lp r m' n') s₂ := by
      rintro s₂ ⟨h', tk', m', n', e, F', N', o, hm, hj'⟩
      exact ⟨h', tk', m', n', e, F', N', o, hm, revRest_ind h0 h1 r m' n' hj'⟩
    refine wpAny_mono (h1 v r m news hj it h tk hc F N) (fun f s₂ p => ?_) fun _ _ e => e
    cases f with
    | ret v => exact p
    | brk => exact p
    | next => exact hend _ p
    | cont => exact hend _ p
/-- the frame within the long division's loop -/
def MD (m₀ : Str → Option Value) (ad qd : Option Value) (r : Value) : Str → Option Value := fun y =>
  if y = Str.ofString "r" then some r else if y = Str.ofString "q_digit" then qd else if y = Str.ofString "a_digit" then ad else m₀ y
theorem MD_step (m₀ : Str → Option Value) (ad qd : Option Value) (r : Value) (ad' qd' : Option Value) (r' : Value) :
    (fun y => if y = Str.ofString "r" then some r' else if y = Str.ofString "q_digit" then qd' else if y = Str.ofString "a_digit" then ad' else MD m₀ ad qd r y) = MD m₀ ad' qd' r' := by
  funext y
  unfold MD
  by_cases e1 : y = Str.ofString "r"
  · rw [if_pos e1, if_pos e1]
  · by_cases e2 : y = Str.ofString "q_digit"
    · simp only [if_neg e1, if_pos e2]
    · by_cases e3 : y = Str.ofString "a_digit"
      · simp only [if_neg e1, if_neg e2, if_pos e3]
      · simp only [if_neg e1, if_neg e2, if_neg e3]
theorem unr_drop {L I : Addr} {it : Obj} {R : (Str → Option Value) → List (Addr × Obj) → Prop} {s₁ : Shared} {h' : Heap} {tk : Nat} {m' : Str → Option Value} {h₀ : Heap} {T : Addr × Obj} {rest : List (Addr × Obj)} (F : Fr h₀ L h' m') (N : News h₀ L h' (T :: (I, it) :: rest))
    (off : ∀ p ∈ rest, p.1 ≠ I) (r : R m' rest) : UnrEnd h₀ L s₁ I it R { s₁ with heap := h', toks := tk } := UnrEnd.intro F N rest (fun _ h => .tail _ h) off r
theorem news_cut2 {h₀ h : Heap} {L : Addr} {a b c : Addr × Obj} {r : List (Addr × Obj)} (N : News h₀ L h (a :: b :: c :: r)) : News h₀ L h (a :: r) := fun p hp => N p (by
  rcases List.mem_cons.mp hp with rfl | hp
  · exact .head _
  · exact .tail _ (.tail _ (.tail _ hp)))
def DivJ (m₀ : Str → Option Value) (Qd : Addr) (rest : List (Addr × Obj)) (B b x : Int) (total : Nat) (r : List Value) (m : Str → Option Value) (news : List (Addr × Obj)) : Prop :=
  ∃ xs qs vq k ad qd rr tr, IntsAre r xs ∧ (∀ y ∈ xs, 0 ≤ y ∧ y < B) ∧ (0 ≤ rr ∧ rr < b) ∧ IntsAre vq qs ∧ (∀ y ∈ qs, 0 ≤ y ∧ y < B) ∧ qs.length + xs.length = total ∧ horner B rr xs % b = x % b ∧
    m = MD m₀ ad qd (.int rr tr) ∧ news = (Qd, listOf vq.toArray k) :: rest
theorem rev_divs {I Qd : Addr} {lp : Addr × Obj} {m₀ : Str → Option Value} {rest : List (Addr × Obj)} {vs : List Value} {ds : List Int} {B b X : Int} {t0 : Tok}
    (hi : IntsAre vs ds) (hds : ∀ y ∈ ds, 0 ≤ y ∧ y < B) (hB : 0 < B) (hb : 0 < b) (hBb : B ≤ 1000) (hb1 : b < 1000) (hX : dval B ds = X)
    (hr : m₀ (Str.ofString "r") = some (.int 0 t0)) (hq : m₀ (Str.ofString "q_digit") = none) (ha : m₀ (Str.ofString "a_digit") = none)
    (h0 : ∀ qs vq k ad qd tr, IntsAre vq qs → (∀ y ∈ qs, 0 ≤ y ∧ y < B) → qs.length = ds.length → ∀ h tk, Fr h₀ env.locals h (MD m₀ ad qd (.int (X.fmod b) tr)) → News h₀ env.locals h ((Qd, listOf vq.toArray k) :: rest) → Q .next { s with heap := h, toks := tk })
    (h1 : ∀ rr tr d td qs vq k ad qd, IntsAre vq qs → qs.length < ds.length → (0 ≤ rr ∧ rr < b) → (0 ≤ d ∧ d < B) → (0 ≤ rr * B + d ∧ rr * B + d < 2 ^ 60) →
      ∀ J : (Str → Option Value) → List (Addr × Obj) → Prop, (∀ t1 vq' k' tq ad', IntsAre vq' (qs ++ [(rr * B + d).fdiv b]) → J (MD m₀ ad' (some (.int ((rr * B + d).fdiv b) tq)) (.int ((rr * B + d).fmod b) t1)) ((Qd, listOf vq'.toArray k') :: rest)) →
      ∀ (it : Obj) h tk, it.cls = .type "list_reverseiterator" → Fr h₀ env.locals h (fun y => if y = x then some (.int d td) else MD m₀ ad qd (.int rr tr) y) → News h₀ env.locals h ((I, it) :: (Qd, listOf vq.toArray k) :: rest) →
      wpAny (model prog w) A (execs body env) (UnrPost h₀ env.locals { s with heap := h, toks := tk } I it (fun m' n' => lp ∈ n' ∧ J m' n') Q) E { s with heap := h, toks := tk }) :
    RevRest prog w A E h₀ env x body Q s I lp vs.reverse m₀ ((Qd, listOf #[] 0) :: rest) := by
  have start : DivJ m₀ Qd rest B b X ds.length vs.reverse m₀ ((Qd, listOf #[] 0) :: rest) := by
    refine ⟨ds.reverse, [], [], 0, none, none, 0, t0, hi.reverse, fun y hy => hds y (List.mem_reverse.mp hy), ⟨by omega, hb⟩, .nil, (fun _ h => nomatch h), by simp, by rw [horner_dval, hX], ?_, rfl⟩
    funext y
    unfold MD
    by_cases e1 : y = Str.ofString "r"
    · rw [if_pos e1, e1]; exact hr
    · rw [if_neg e1]
      by_cases e2 : y = Str.ofString "q_digit"
      · rw [if_pos e2, e2]; exact hq
      · rw [if_neg e2]
        by_cases e3 : y = Str.ofString "a_digit"
        · rw [if_pos e3, e3]; exact ha
        · rw [if_neg e3]
  refine revRest_ind (J := DivJ m₀ Qd rest B b X ds.length) ?_ ?_ _ _ _ start
  · rintro m news ⟨xs, qs, vq, k, ad, qd, rr, tr, i1, _, hrr, iq, hqs, hl, hh, rfl, rfl⟩ h tk F N
    cases i1
    have e : X.fmod b = rr := by
      rw [horner, Int.emod_eq_of_lt hrr.1 hrr.2] at hh
      rw [Int.fmod_eq_emod_of_nonneg _ (by omega), hh]
    exact h0 qs vq k ad qd tr iq hqs (by simpa using hl) h tk (by rw [e]; exact F) N
  · rintro v r m news ⟨xs, qs, vq, k, ad, qd, rr, tr, i1, hxs, hrr, iq, hqs, hl, hh, rfl, rfl⟩ it h tk hc F N
    cases i1 with
    | cons d td i1 =>
    rename_i xs
    have hd := hxs d (.head _)
    have hs := div_step hb hB hrr hd hBb hb1
    refine h1 rr tr d td qs vq k ad qd iq (by rw [← hl, List.length_cons]; omega) hrr hd ⟨hs.1, hs.2.1⟩ (DivJ m₀ Qd rest B b X ds.length r) ?_ it h tk hc F N
    intro t1 vq' k' tq ad' iq'
    refine ⟨xs, _, vq', k', ad', _, _, t1, i1, fun y hy => hxs y (.tail _ hy), ⟨hs.2.2.1, hs.2.2.2.1⟩, iq', ?_, ?_, ?_, rfl, rfl⟩
    · intro y hy
      rcases List.mem_append.mp hy with hy | hy
      · exact hqs y hy
      · rw [List.mem_singleton.mp hy]; exact ⟨hs.2.2.2.2.1, hs.2.2.2.2.2⟩
    · rw [List.length_append, List.length_singleton, ← hl, List.length_cons]; omega
    · rw [← hh, horner]
      refine horner_mod B b xs _ _ ?_
      rw [Int.fmod_eq_emod_of_nonneg _ (by omega), Int.emod_emod_of_dvd _ (Int.dvd_refl b)]
end
end

section
set_option maxRecDepth 100000

local macro_rules | `(tactic| walk_at "g_c42") => `(tactic| (k_here; (with_reducible show wpAny _ _ (call (Value.ref 42) _) _ _ _); k_dflt (refine' i2d_hit _ ?qB ?qF ?qX ?qN ?qT ?qK ?qC ?qx ?qn ?qP ?qc ?qcd ?qcv ?qd ?qu ?qret; (case qB | qF | qX | qN | qT => k_asm); (case qK => first | exact rfl | assumption); (case qC => assumption); (case qx | qn => first | assumption | omega); (case qP | qc => k_mem); (case qcd | qcv => assumption); (case qd => ((try dsimp only [Around.deeper]); simp only [recursionLimit] at *; omega)); (case qu => ((try dsimp only [Around.deeper]); omega))); intro D9 vs9 h9 tk9 F9 N9 l9 i9; (try k_lt l9); (try dsimp only); (try k_fold)))
local macro_rules | `(tactic| walk_at "g_c28") => `(tactic| (k_here; (with_reducible show wpAny _ _ (call (Value.ref 28) _) _ _ _); k_dflt (refine' div2 _ ?qB ?qF ?qX ?qN ?qT ?qK ?qx ?qn ?qb ?qd ?qu ?qret; (case qB | qF | qX | qN | qT => k_asm); (case qK => first | exact rfl | assumption); (case qx | qn | qb => first | assumption | omega); (case qd => ((try dsimp only [Around.deeper]); simp only [recursionLimit] at *; omega)); (case qu => ((try dsimp only [Around.deeper]); omega))); intro T9 h9 t9 u9 tk9 F9 N9 l9; (try k_lt l9); (try dsimp only); (try k_fold)))
local macro_rules | `(tactic| walk_at "g_c49") => `(tactic| (k_here; (with_reducible show wpAny _ _ (call (Value.ref 49) _) _ _ _); k_dflt (refine' d2i_hit _ ?qB ?qF ?qX ?qN ?qT ?qK ?qC ?ql ?qi ?qlen ?qn ?qdig ?qP ?qc ?qcd ?qcv ?qd ?qu ?qret; (case qB | qF | qX | qN | qT => k_asm); (case qK => first | exact rfl | assumption); (case qC => assumption); (case ql => k_mem); (case qi => assumption); (case qlen | qn => first | assumption | omega); (case qdig => assumption); (case qP | qc => k_mem); (case qcd | qcv => assumption); (case qd => ((try dsimp only [Around.deeper]); simp only [recursionLimit] at *; omega)); (case qu => ((try dsimp only [Around.deeper]); omega))); intro t9 h9 tk9 F9 N9; (try dsimp only); (try k_fold)))

local macro_rules | `(tactic| walk_at "call ref") => `(tactic| first | walk_at "g_c42" | walk_at "g_c28" | walk_at "g_c49")
local macro_rules | `(tactic| walk_at "call builtin:list.append") => `(tactic| (k_here; (with_reducible show wpAny _ _ (call (Value.builtin _) [Value.ref _, Value.int _ _]) _ _ _); k_dflt (refine' li_append ?k1 ?k2 ?k3 ?k4 ?k5 ?_; (case k1 | k2 => k_asm); (case k3 => k_updF); (case k4 => with_reducible assumption); (case k5 => omega)); intro h' F' N' hi'; (try dsimp only at N'); (try k_sweep)))
local macro_rules | `(tactic| walk_at "call builtin:list.reverse") => `(tactic| (k_here; (with_reducible show wpAny _ _ (call (Value.builtin _) [Value.ref _]) _ _ _); k_dflt (refine' li_reverse ?k1 ?k2 ?k3 ?k4 ?k5 ?_; (case k1 | k2 => k_asm); (case k3 => k_updF); (case k4 => with_reducible assumption); (case k5 => omega)); intro h' F' N' hi'; (try dsimp only at N'); (try k_sweep)))
set_option maxHeartbeats 8000000 in
theorem divpos (w : World) {p : Program} {loose : List Str} {mean : ExcName → Option Value} {mg mb : Str → Option Value}
    {news : List (Addr × Obj)} {x b : Int} {tx tb : Tok}
    {dp un : Nat} {gd : Option (List Code)} {cn : Str} {cs : Scope} {a : Addr} {ccd : Value} {cl : List (Str × Addr)} {outer : List Env} {A₀ : Around} {base h₀ : Heap} {L : Addr} {m : Str → Option Value} {s : Shared} {Q E : Value → Shared → Prop}
    (B : Below A₀ base outer h₀) (F : Fr h₀ L s.heap m) (X : (hd.heap_39 w.params).In h₀) (N : News h₀ L s.heap news) (T : Top p loose mean mg mb h₀) (hk : cs.kind = .function)
    (C1 : CodeHd base 41 37) (C2 : CodeHd base 48 44)
    {c1 : Addr} {oc1 : Obj} {cv1 : Array Value} {tq1 : Tok} (hP1 : (37, tabObj #[rawInt 39, rawInt 4, .ref c1]) ∈ news) (hc1 : (c1, oc1) ∈ news) (hcd1 : oc1.data = .fields cv1) (hcv1 : cv1[1]? = some (.str (Str.ofString "_int2digits.<locals>.inner") tq1))
    {c2 : Addr} {oc2 : Obj} {cv2 : Array Value} {tq2 : Tok} (hP2 : (44, tabObj #[rawInt 54, rawInt 4, .ref c2]) ∈ news) (hc2 : (c2, oc2) ∈ news) (hcd2 : oc2.data = .fields cv2) (hcv2 : cv2[1]? = some (.str (Str.ofString "_digits2int.<locals>.inner") tq2))
    (hx : 0 ≤ x ∧ x < 2 ^ 60) (hb : 1 ≤ b ∧ b < 200) (hcnt : cnt (Builtin.Int.intBits b) x ≤ 8)
    (hroom : dp + 200 < recursionLimit) (hu : un + 2048 < cLine)
    (hret : ∀ T q h' t1 t2 tk, Fr h₀ L h' m → News h₀ L h' ((T, pairObj q (x.fmod b) t1 t2) :: news) → (∀ p ∈ news, p.1 < T) → Q (.ref T) { s with heap := h', toks := tk }) :
    wpAny (model Challenge.rw_gb0002_01.row.prog w) (ktrTop dp un gd cn cs L a ccd cl outer) (call (.ref 56) [.int x tx, .int b tb]) Q E s := by
  w_top off
  have hbits := intBits_le (k := 8) (by omega) (show b < 2 ^ 8 by omega)
  have hbits1 := intBits_pos (show 0 < b by omega)
  refine wpAny_call ?_
  k_dflt (((refine' code_def ?k1_17 ?k2_17 ?k3_17 ?k4_17 ?k5_17 ?kA_17 ?kF_17 ?kK_17 ?k6_17 ?k7_17 ?k8_17 ?k9_17 ?kB_17 ?_ ?c2_17 ?c3_17 ?c4_17 ?c5_17; (case kA_17 => exact rfl); (case kF_17 => exact rfl); (case kK_17 => assumption); (case k1_17 => k_asm); (case k2_17 => k_asm); (case k3_17 => k_asm); (case k4_17 => k_asm); (case k5_17 => k_asm); (case k6_17 => k_is); (case k7_17 => k_is); (case k8_17 => ktr_room); (case k9_17 => exact BindsTo.of_eq rfl); (case c5_17 => decide); (case kB_17 => exact locs rfl); (case c2_17 => exact rfl); (case c3_17 => exact rfl); (case c4_17 => exact rfl); k_whole; intro g' L' h' FG' F' N' B' X' T'; (try dsimp only); (try k_lift B'); (try k_fold))))
  k_steps
  rename IntsAre _ (digs _ _ _) => i9
  have hcf := @cnt_facts x (Builtin.Int.intBits b : Int) hx (by omega)
  have hB : (2 : Int) ^ (Builtin.Int.intBits b : Int).toNat ≤ 1000 := Int.le_trans (pow2_mono (show (Builtin.Int.intBits b : Int).toNat ≤ 8 by omega)) (by decide)
  refine' iter_revUnr (lo := W.listOf _ 0) (n := 0) rfl ?zF ?zN (offI_of ?zo) ?zm rfl rfl ?_
  (case zF => k_asm)
  (case zN => k_asm)
  (case zm => k_mem)
  (case zo => ((repeat (refine List.forall_mem_cons.mpr ⟨by (refine neN ?_; (try dsimp only); omega), ?_⟩)); k_all))
  refine' rev_divs (b := b) i9 (digs_range (pow2_pos _) _ _) (pow2_pos _) ?zb hB ?zc (dval_digs (pow2_pos _) _ hx.1 hcf.2.2.2) ?zr ?zq ?za ?z0 ?z1
  (case zb => omega)
  (case zc => omega)
  (case zr => with_unfolding_all rfl)
  (case zq => with_unfolding_all rfl)
  (case za => with_unfolding_all rfl)
  (case z1 =>
    intro rr tr d td qs vq k ad qd iq hql hrr hd hv J hJ it h tk hc F8 N8
    dsimp only [MD] at F8
    rw [digs_length] at hql
    k_steps
    rename IntsAre (_ ++ _) (_ ++ _) => i8
    refine' unr_drop ?wF ?wN ?wo ⟨?wm, ?wj⟩
    (case wF => k_asm)
    (case wN => k_asm)
    (case wo => ((repeat (refine List.forall_mem_cons.mpr ⟨by (refine neN ?_; (try dsimp only); omega), ?_⟩)); k_all))
    (case wm => k_mem)
    (case wj => exact Eq.mpr (congr (congrArg J (MD_step _ ad qd (.int rr tr) _ _ _)) rfl) (hJ _ _ _ _ _ i8)))
  (case z0 =>
    intro qs vq k ad qd tr iq hqs hql h tk F8 N8
    dsimp only [MD] at F8
    rw [digs_length] at hql
    have hql2 : qs.reverse.length = qs.length := List.length_reverse
    have hqs2 : ∀ y ∈ qs.reverse, 0 ≤ y ∧ y < 2 ^ (Builtin.Int.intBits b : Int).toNat := fun y hy => hqs y (List.mem_reverse.mp hy)
    k_steps
    rename (_ ∧ _ ∧ AllLt _ news) => l8
    refine' hret _ _ _ _ _ _ ?y1 (news_cut2 ?y2) ?y3
    (case y2 => k_asm)
    (case y1 => k_asm)
    (case y3 => exact ktn_ltOf l8.2.2))
end

section
set_option maxRecDepth 100000

local macro_rules | `(tactic| walk_at "g_c56") => `(tactic| (k_here; (with_reducible show wpAny _ _ (call (Value.ref 56) _) _ _ _); k_dflt (refine' divpos _ ?qB ?qF ?qX ?qN ?qT ?qK ?qC ?qC2 ?qP ?qc ?qcd ?qcv ?qP2 ?qc2 ?qcd2 ?qcv2 ?qx ?qb ?qn ?qd ?qu ?qret; (case qB | qF | qX | qN | qT => k_asm); (case qK => first | exact rfl | assumption); (case qC | qC2 => assumption); (case qP | qc => k_mem); (case qcd | qcv => assumption); (case qP2 | qc2 => k_mem); (case qcd2 | qcv2 => assumption); (case qx | qb | qn => first | assumption | omega); (case qd => ((try dsimp only [Around.deeper]); simp only [recursionLimit] at *; omega)); (case qu => ((try dsimp only [Around.deeper]); omega))); intro T9 q9 h9 t9 u9 tk9 F9 N9 l9; (try k_lt l9); (try dsimp only); (try k_fold)))
local macro_rules | `(tactic| walk_at "call ref") => `(tactic| walk_at "g_c56")
set_option maxHeartbeats 8000000 in
theorem idivmod (w : World) {p : Program} {loose : List Str} {mean : ExcName → Option Value} {mg mb : Str → Option Value}
    {news : List (Addr × Obj)} {x b : Int} {tx tb : Tok}
    {dp un : Nat} {gd : Option (List Code)} {cn : Str} {cs : Scope} {a : Addr} {ccd : Value} {cl : List (Str × Addr)} {outer : List Env} {A₀ : Around} {base h₀ : Heap} {L : Addr} {m : Str → Option Value} {s : Shared} {Q E : Value → Shared → Prop}
    (B : Below A₀ base outer h₀) (F : Fr h₀ L s.heap m) (X : (hd.heap_39 w.params).In h₀) (N : News h₀ L s.heap news) (T : Top p loose mean mg mb h₀) (hk : cs.kind = .function)
    (C1 : CodeHd base 41 37) (C2 : CodeHd base 48 44)
    {c1 : Addr} {oc1 : Obj} {cv1 : Array Value} {tq1 : Tok} (hP1 : (37, tabObj #[rawInt 39, rawInt 4, .ref c1]) ∈ news) (hc1 : (c1, oc1) ∈ news) (hcd1 : oc1.data = .fields cv1) (hcv1 : cv1[1]? = some (.str (Str.ofString "_int2digits.<locals>.inner") tq1))
    {c2 : Addr} {oc2 : Obj} {cv2 : Array Value} {tq2 : Tok} (hP2 : (44, tabObj #[rawInt 54, rawInt 4, .ref c2]) ∈ news) (hc2 : (c2, oc2) ∈ news) (hcd2 : oc2.data = .fields cv2) (hcv2 : cv2[1]? = some (.str (Str.ofString "_digits2int.<locals>.inner") tq2))
    (hx : 0 ≤ x ∧ x < 2 ^ 60) (hb : 1 ≤ b ∧ b < 200) (hcnt : cnt (Builtin.Int.intBits b) x ≤ 8)
    (hroom : dp + 202 < recursionLimit) (hu : un + 3000 < cLine)
    (hret : ∀ T q h' t1 t2 tk, Fr h₀ L h' m → News h₀ L h' ((T, pairObj q (x.fmod b) t1 t2) :: news) → (∀ p ∈ news, p.1 < T) → Q (.ref T) { s with heap := h', toks := tk }) :
    wpAny (model Challenge.rw_gb0002_01.row.prog w) (ktrTop dp un gd cn cs L a ccd cl outer) (call (.ref 63) [.int x tx, .int b tb]) Q E s := by
  w_top off
  refine wpAny_call ?_
  k_dflt (((refine' code_def ?k1_18 ?k2_18 ?k3_18 ?k4_18 ?k5_18 ?kA_18 ?kF_18 ?kK_18 ?k6_18 ?k7_18 ?k8_18 ?k9_18 ?kB_18 ?_ ?c2_18 ?c3_18 ?c4_18 ?c5_18; (case kA_18 => exact rfl); (case kF_18 => exact rfl); (case kK_18 => assumption); (case k1_18 => k_asm); (case k2_18 => k_asm); (case k3_18 => k_asm); (case k4_18 => k_asm); (case k5_18 => k_asm); (case k6_18 => k_is); (case k7_18 => k_is); (case k8_18 => ktr_room); (case k9_18 => exact BindsTo.of_eq rfl); (case c5_18 => decide); (case kB_18 => exact locs rfl); (case c2_18 => exact rfl); (case c3_18 => exact rfl); (case c4_18 => exact rfl); k_whole; intro g' L' h' FG' F' N' B' X' T'; (try dsimp only); (try k_lift B'); (try k_fold))))
  k_steps
  all_goals try (exfalso; omega)
  refine' hret _ _ _ _ _ _ ?y1 ?y2 ?y3
  (case y2 => k_asm)
  (case y1 => k_asm)
  (case y3 => first | assumption | exact ktn_ltOf (by assumption))
end
end

section
theorem fm {x b : Int} (hb : 0 < b) : x.fmod b = x % b := Int.fmod_eq_emod_of_nonneg _ (by omega)
def absI (x : Int) : Int := if x < 0 then -x else x
/-- the figures' sum, by turns added and taken away -/
def alt : List Int → Int
  | [] => 0
  | d :: r => d - alt r
theorem alt_snoc (d : Int) : ∀ xs : List Int, alt (xs ++ [d]) = if xs.length % 2 = 0 then alt xs + d else alt xs - d
  | [] => by simp [alt]
  | x :: xs => by
    have ih := alt_snoc d xs
    rw [List.cons_append, alt, alt, ih, List.length_cons]
    rcases Nat.mod_two_eq_zero_or_one xs.length with h | h
    · rw [if_pos h, if_neg (by omega)]; omega
    · rw [if_neg (by omega), if_pos (by omega)]; omega
theorem alt_reverse : ∀ xs : List Int, alt xs.reverse = if xs.length % 2 = 0 then -alt xs else alt xs
  | [] => by simp [alt]
  | x :: xs => by
    have ih := alt_reverse xs
    rw [List.reverse_cons, alt_snoc, List.length_reverse, ih, alt, List.length_cons]
    rcases Nat.mod_two_eq_zero_or_one xs.length with h | h
    · rw [if_pos h, if_pos h, if_neg (by omega)]; omega
    · rw [if_neg (by omega), if_neg (by omega), if_pos (by omega)]; omega
theorem dval_less (B : Int) : ∀ ns : List Int, ∃ k, dval B ns = ns.sum + (B - 1) * k
  | [] => ⟨0, by simp [dval]⟩
  | d :: r => by
    obtain ⟨k, hk⟩ := dval_less B r
    refine ⟨k + dval B r, ?_⟩
    rw [dval, List.sum_cons, Int.mul_add, Int.sub_mul B 1 (dval B r), Int.one_mul]
    omega
theorem dval_more (B : Int) : ∀ ns : List Int, ∃ k, dval B ns = alt ns + (B + 1) * k
  | [] => ⟨0, by simp [dval, alt]⟩
  | d :: r => by
    obtain ⟨k, hk⟩ := dval_more B r
    refine ⟨dval B r - k, ?_⟩
    rw [dval, alt, Int.mul_sub, Int.add_mul B 1 (dval B r), Int.one_mul]
    omega
theorem sum_snoc (d : Int) : ∀ xs : List Int, (xs ++ [d]).sum = xs.sum + d
  | [] => by simp
  | x :: xs => by rw [List.cons_append, List.sum_cons, List.sum_cons, sum_snoc d xs, Int.add_assoc]
theorem sum_rev : ∀ xs : List Int, xs.reverse.sum = xs.sum
  | [] => rfl
  | x :: xs => by rw [List.reverse_cons, sum_snoc, sum_rev xs, List.sum_cons, Int.add_comm]
theorem absI_dvd {m x : Int} (h : m ∣ x) : absI x % m = 0 := by
  unfold absI
  split
  · exact Int.emod_eq_zero_of_dvd ((Int.dvd_neg).mpr h)
  · exact Int.emod_eq_zero_of_dvd h
theorem pow_six {B : Int} {n : Nat} (hB : 1 ≤ B) (hn : n ≤ 6) : B ^ n ≤ B * B * B * B * B * B := by
  have e : B * B * B * B * B * B = B ^ 6 := by simp only [Int.pow_succ, Int.pow_zero, Int.one_mul]
  rw [e]
  obtain ⟨k, hk⟩ := Nat.exists_eq_add_of_le hn
  rw [hk, Int.pow_add]
  have h1 : (0 : Int) < B ^ n := Int.pow_pos (by omega)
  have h2 : (0 : Int) < B ^ k := Int.pow_pos (by omega)
  have h3 : B ^ n * 1 ≤ B ^ n * B ^ k := Int.mul_le_mul_of_nonneg_left (by omega) (by omega)
  rw [Int.mul_one] at h3
  exact h3
/-- a row of two to six figures, turned about: what the law asks of it -/
theorem rows {ns : List Int} {B : Int} (hl : 2 ≤ ns.length ∧ ns.length ≤ 6) (hB : B = 4 ∨ B = 8 ∨ B = 16) (hr : ∀ x ∈ ns, 0 ≤ x ∧ x < B) :
    (((ns.length : Int) % 2 = 0) → (dval B ns + dval B ns.reverse) % (B + 1) = 0) ∧ absI (dval B ns - dval B ns.reverse) % (B - 1) = 0 ∧
    (((ns.length : Int) % 2 = 1) → absI (dval B ns - dval B ns.reverse) % (B + 1) = 0) ∧ 0 ≤ dval B ns ∧ dval B ns < B * B * B * B * B * B ∧ 0 ≤ dval B ns.reverse ∧ dval B ns.reverse < B * B * B * B * B * B := by
  have hB1 : 1 ≤ B := by omega
  have h6 := pow_six hB1 hl.2
  have b1 := dval_bound (by omega) hr
  have b2 := dval_bound (show 0 < B by omega) (ns := ns.reverse) fun x hx => hr x (List.mem_reverse.mp hx)
  rw [List.length_reverse] at b2
  obtain ⟨k1, e1⟩ := dval_less B ns
  obtain ⟨k2, e2⟩ := dval_less B ns.reverse
  obtain ⟨k3, e3⟩ := dval_more B ns
  obtain ⟨k4, e4⟩ := dval_more B ns.reverse
  rw [sum_rev] at e2
  rw [alt_reverse] at e4
  refine ⟨fun he => ?_, absI_dvd ⟨k1 - k2, by rw [Int.mul_sub, e1, e2]; omega⟩, fun ho => absI_dvd ⟨k3 - k4, ?_⟩, b1.1, Int.lt_of_lt_of_le b1.2 h6, b2.1, Int.lt_of_lt_of_le b2.2 h6⟩
  · rw [if_pos (by omega)] at e4
    exact Int.emod_eq_zero_of_dvd ⟨k3 + k4, by rw [Int.mul_add, e3, e4]; omega⟩
  · rw [if_neg (by omega)] at e4
    rw [Int.mul_sub, e3, e4]; omega
theorem B_cases {bits : Int} (hb : 2 ≤ bits ∧ bits ≤ 4) : (2 : Int) ^ bits.toNat = 4 ∨ (2 : Int) ^ bits.toNat = 8 ∨ (2 : Int) ^ bits.toNat = 16 := by
  obtain h | h | h : bits = 2 ∨ bits = 3 ∨ bits = 4 := by omega
  · subst h; exact .inl rfl
  · subst h; exact .inr (.inl rfl)
  · subst h; exact .inr (.inr rfl)
/-- 1089 -/
theorem three_far {B a b c : Int} (hB : B = 4 ∨ B = 8 ∨ B = 16) (ha : 0 ≤ a ∧ a < B) (hb : 0 ≤ b ∧ b < B) (hc : 0 ≤ c ∧ c < B) (hne : a ≠ c) :
    0 < absI (dval B [a, b, c] - dval B [c, b, a]) ∧ absI (dval B [a, b, c] - dval B [c, b, a]) < B ^ 3 ∧
    absI (dval B [a, b, c] - dval B [c, b, a]) + dval B (digs B 3 (absI (dval B [a, b, c] - dval B [c, b, a]))).reverse = (B + 1) * (B + 1) * (B - 1) := by
  obtain ⟨t, ht, e⟩ : ∃ t : Int, (1 ≤ t ∧ t < B) ∧ absI (dval B [a, b, c] - dval B [c, b, a]) = t * (B * B - 1) := by
    by_cases h : a < c
    · refine ⟨c - a, ⟨by omega, by omega⟩, ?_⟩
      rcases hB with rfl | rfl | rfl <;> simp [dval, absI] <;> (try split) <;> omega
    · refine ⟨a - c, ⟨by omega, by omega⟩, ?_⟩
      rcases hB with rfl | rfl | rfl <;> simp [dval, absI] <;> (try split) <;> omega
  rw [e]
  rcases hB with rfl | rfl | rfl
  · obtain h | h | h : t = 1 ∨ t = 2 ∨ t = 3 := by omega
    all_goals (subst h; decide)
  · obtain h | h | h | h | h | h | h : t = 1 ∨ t = 2 ∨ t = 3 ∨ t = 4 ∨ t = 5 ∨ t = 6 ∨ t = 7 := by omega
    all_goals (subst h; decide)
  · obtain h | h | h | h | h | h | h | h | h | h | h | h | h | h | h : t = 1 ∨ t = 2 ∨ t = 3 ∨ t = 4 ∨ t = 5 ∨ t = 6 ∨ t = 7 ∨ t = 8 ∨ t = 9 ∨ t = 10 ∨ t = 11 ∨ t = 12 ∨ t = 13 ∨ t = 14 ∨ t = 15 := by omega
    all_goals (subst h; decide)
/-- a row that is its own other way round -/
theorem mirror_facts {ns : List Int} {many : Int} (hl : (ns.length : Int) = many) (hm : 2 ≤ many ∧ many ≤ 6) :
    (ns.take ((many + 1) / 2).toNat ++ (ns.take ((many + 1) / 2).toNat).reverse.drop (many % 2).toNat).length = ns.length ∧
    (ns.take ((many + 1) / 2).toNat ++ (ns.take ((many + 1) / 2).toNat).reverse.drop (many % 2).toNat).reverse = ns.take ((many + 1) / 2).toNat ++ (ns.take ((many + 1) / 2).toNat).reverse.drop (many % 2).toNat ∧
    (ns.take ((many + 1) / 2).toNat ++ (ns.take ((many + 1) / 2).toNat).reverse.drop (many % 2).toNat).take (ns.take ((many + 1) / 2).toNat).length = ns.take ((many + 1) / 2).toNat := by
  subst hl
  rcases ns with _ | ⟨a, _ | ⟨b, _ | ⟨c, _ | ⟨d, _ | ⟨e, _ | ⟨f, _ | ⟨g, r⟩⟩⟩⟩⟩⟩⟩
  · simp at hm
  · simp at hm
  all_goals (try (simp only [List.length_cons] at hm; omega))
  all_goals (refine ⟨?_, ?_, ?_⟩ <;> simp)
/-- an even palindrome -/
theorem pal_even {ns : List Int} {B : Int} (hl : 2 ≤ ns.length ∧ ns.length ≤ 6) (hB : B = 4 ∨ B = 8 ∨ B = 16) (hr : ∀ x ∈ ns, 0 ≤ x ∧ x < B) (hp : ns.reverse = ns) (he : (ns.length : Int) % 2 = 0) : dval B ns % (B + 1) = 0 := by
  have h := (rows hl hB hr).1 he
  rw [hp] at h
  rcases hB with rfl | rfl | rfl <;> omega
/-- how many figures the long division lays -/
theorem cnt_small {x B : Int} (hB : B = 4 ∨ B = 8 ∨ B = 16) (hx : 0 ≤ x ∧ x < 2 * (B * B * B * B * B * B)) : cnt (Builtin.Int.intBits (B + 1)) x ≤ 8 ∧ cnt (Builtin.Int.intBits (B - 1)) x ≤ 8 := by
  rcases hB with rfl | rfl | rfl
  · have e1 : (Builtin.Int.intBits (4 + 1) : Int) = 3 := by decide +kernel
    have e2 : (Builtin.Int.intBits (4 - 1) : Int) = 2 := by decide +kernel
    rw [e1, e2]
    exact ⟨cnt_le (k := 8) hx.1 (by decide) (Int.lt_of_lt_of_le hx.2 (by decide)), cnt_le (k := 8) hx.1 (by decide) (Int.lt_of_lt_of_le hx.2 (by decide))⟩
  · have e1 : (Builtin.Int.intBits (8 + 1) : Int) = 4 := by decide +kernel
    have e2 : (Builtin.Int.intBits (8 - 1) : Int) = 3 := by decide +kernel
    rw [e1, e2]
    exact ⟨cnt_le (k := 8) hx.1 (by decide) (Int.lt_of_lt_of_le hx.2 (by decide)), cnt_le (k := 8) hx.1 (by decide) (Int.lt_of_lt_of_le hx.2 (by decide))⟩
  · have e1 : (Builtin.Int.intBits (16 + 1) : Int) = 5 := by decide +kernel
    have e2 : (Builtin.Int.intBits (16 - 1) : Int) = 4 := by decide +kernel
    rw [e1, e2]
    exact ⟨cnt_le (k := 8) hx.1 (by decide) (Int.lt_of_lt_of_le hx.2 (by decide)), cnt_le (k := 8) hx.1 (by decide) (Int.lt_of_lt_of_le hx.2 (by decide))⟩
end

section
open Sem (wp)
open PyProof.Rows.LCg
set_option maxRecDepth 100000
section
variable {prog : Program} {w : World} {A : Around} {E : Value → Shared → Prop} {s : Shared} {env : Env} {h₀ : Heap} {L : Addr} {m : Str → Option Value} {news : List (Addr × Obj)}

/-- one turn's element over enumerate -/
def GElt (prog : Program) (w : World) (A : Around) (h₀ : Heap) (L : Addr) (m : Str → Option Value) (env : Env) (elt : Expr) (a b : Str) (scope : Scope) (cl : List (Str × Addr)) (s : Shared) (news : List (Addr × Obj)) (ns : List Int) (f : Nat → Int → Int) : Prop :=
  ∀ (i : Nat) (c : Int) (t t' : Tok) (C : Addr) (oC : Obj) (m₂ : Str → Option Value) (h : Heap) (tk : Nat) (QQ : Value → Shared → Prop) (E' : Value → Shared → Prop),
    ns[i]? = some c → NsObj oC m₂ → m₂ a = some (.int (i : Int) t) → m₂ b = some (.int c t') → Fr h₀ L h m → News h₀ L h ((C, oC) :: news) →
    (∀ tk' u, QQ (.int (f i c) u) { s with heap := h, toks := tk' }) → wpAny (model prog w) A (eval elt (compEnvC scope cl C env)) QQ E' { s with heap := h, toks := tk }

theorem ints_get : ∀ {ys : List Value} {ns : List Int}, IntsAre ys ns → ∀ {i : Nat} {x : Value}, ys[i]? = some x → ∃ c t, ns[i]? = some c ∧ x = .int c t
  | _, _, .cons n t r, 0, x, h => ⟨n, t, rfl, by simpa using h.symm⟩
  | _, _, .cons n t r, i + 1, x, h => by
    obtain ⟨c, t, h1, h2⟩ := ints_get r (i := i) (x := x) (by simpa using h)
    exact ⟨c, t, by simpa using h1, h2⟩
theorem ints_len : ∀ {ys : List Value} {ns : List Int}, IntsAre ys ns → ys.length = ns.length
  | _, _, .nil => rfl
  | _, _, .cons _ _ r => by rw [List.length_cons, List.length_cons, ints_len r]
theorem ints_snoc : ∀ {ys : List Value} {ns : List Int} {c : Int} {t : Tok}, IntsAre ys ns → IntsAre (ys ++ [.int c t]) (ns ++ [c])
  | _, _, _, _, .nil => .cons _ _ .nil
  | _, _, _, _, .cons _ _ r => .cons _ _ (ints_snoc r)
theorem mapIdx_take_succ {ns : List Int} {f : Nat → Int → Int} {i : Nat} {c : Int} (h : ns[i]? = some c) : (ns.mapIdx f).take (i + 1) = (ns.mapIdx f).take i ++ [f i c] := by
  rw [List.take_succ, List.getElem?_mapIdx, h]; rfl

theorem enum_block {elt iter : PySem.Expr} {a b : Str} {pa pb tp : Pos} {kk : Nat} {scope : Scope} {cl : List (Str × Addr)} {pos : Pos} {s₂ : Shared} {e it l : Addr} {items : List Value} {kl : Nat} {ns : List Int} {f : Nat → Int → Int}
    {RR : Value → Addr → Result → Shared → Prop}
    (hh : A.handled = none) (hsz : items.length ≤ sizeLine) (hi : IntsAre items ns) (hml : (l, W.listOf items.toArray kl) ∈ news)
    (he : IsEnum s₂.heap e it 0 .none) (hit : s₂.heap.IsListIter it l 0) (hei : e ≠ it) (hLe : L ≠ e) (hLi : L ≠ it) (he0 : h₀.get? e = none) (hi0 : h₀.get? it = none) (off : ∀ p ∈ news, p.1 ≠ e ∧ p.1 ≠ it)
    (hcell : ∀ y ∈ scope.names, y.2 ≠ .cell) (hkind : scope.kind = .function) (hxa : scope.names.lookup a = some .local) (hxb : scope.names.lookup b = some .local) (hab : ¬ a = b)
    (F : Fr h₀ L s₂.heap m) (N : News h₀ L s₂.heap news)
    (G : GElt prog w A h₀ L m env elt a b scope cl s₂ news ns f)
    (hRR : ∀ D C h tk m' ys, Fr h₀ L h m → News h₀ L h ((D, lst ys) :: news) → (∀ p ∈ news, p.1 ≠ D) → h.Ns C m' → h₀.get? C = none → h₀.get? D = none → C ≠ L → D ≠ L → C ≠ D → (∀ p ∈ news, p.1 ≠ C) → IntsAre ys (ns.mapIdx f) → RR (.ref D) C (.ok .next) { s₂ with heap := h, toks := tk }) :
    wpAny (model prog w) A (newList []) (fun acc s₃ => wpAny (model prog w) A (newFunctionEnv scope env.globals cl [] env.qual none .none (some env)) (fun cenv s₄ =>
      codeAny (model prog w) A (.compStart (.ListComp elt [⟨.Tuple [.Name a pa, .Name b pb] kk tp, iter, [], 0⟩] scope pos) 0 (.ref e) acc { cenv with scope := relabel scope env }) (RR acc cenv.locals) s₄) E s₃) E s₂ := by
  refine wpAny_newObj_type (wpAny_newFunctionEnv hcell (by intro y hy; simp at hy) (fun h₁ hns₁ hsb₁ => ?_) hkind)
  dsimp only at hns₁ hsb₁ ⊢
  generalize hH2 : s₂.heap.push { cls := .type "list", dict := none, data := .seq ([] : List Value).toArray } = H2 at hns₁ hsb₁ ⊢
  have hC : H2.objs.size = s₂.heap.objs.size + 1 := by rw [← hH2, Heap.size_push]
  have hDC : s₂.heap.objs.size ≠ H2.objs.size := by rw [hC]; exact Nat.ne_of_lt (Nat.lt_succ_self _)
  have below : ∀ b, b < s₂.heap.objs.size → b ≠ H2.objs.size ∧ b ≠ s₂.heap.objs.size := fun b hb => ⟨by rw [hC]; exact Nat.ne_of_lt (Nat.lt_succ_of_lt hb), Nat.ne_of_lt hb⟩
  have hilt : it < s₂.heap.objs.size := by obtain ⟨_, x, _⟩ := hit; exact Heap.lt_size x
  have helt : e < s₂.heap.objs.size := Heap.lt_size he
  have old : ∀ b o, s₂.heap.get? b = some o → h₁.get? b = some o := fun b o e => hsb₁.extBut b o (below b (Heap.lt_size e)).1 (Heap.get?_push_of_some _ (hH2 ▸ Heap.get?_push_of_some _ e))
  have hacc : h₁.get? s₂.heap.objs.size = some (lst []) := hsb₁.extBut _ _ hDC (Heap.get?_push_of_some _ (hH2 ▸ Heap.get?_push_size _ rfl))
  have fresh₀ : ∀ a, s₂.heap.objs.size ≤ a → h₀.get? a = none := fun a ha => by
    cases q : h₀.get? a with
    | none => rfl
    | some o' => exact absurd (Heap.lt_size (F.keep a o' q)) (Nat.not_lt.mpr ha)
  have hD₀ : h₀.get? s₂.heap.objs.size = none := fresh₀ _ (Nat.le_refl _)
  have hC₀ : h₀.get? H2.objs.size = none := fresh₀ _ (by rw [hC]; exact Nat.le_succ _)
  have hDL : s₂.heap.objs.size ≠ L := Ne.symm (below L F.ns.lt).2
  have hCL : H2.objs.size ≠ L := Ne.symm (below L F.ns.lt).1
  have offD : ∀ p ∈ news, p.1 ≠ H2.objs.size ∧ p.1 ≠ s₂.heap.objs.size := fun p hp => below _ (Heap.lt_size (N p hp).1)
  have hle := (off _ hml).1
  have hli := (off _ hml).2
  have W := WalksT.enumerate (prog := prog) (w := w) (A := A) hh e it l hei hle hli items.toArray
  have wr : ∀ {c : Addr}, c ≠ e → c ≠ it → c ∉ [e, it] := fun h1 h2 hm => by
    rcases List.mem_cons.mp hm with q | hm
    · exact h1 q
    · exact h2 (List.mem_singleton.mp hm)
  have loop : ∀ s₃ : Shared, s₃ = { s₂ with heap := h₁, toks := s₂.toks + ([] : List (Str × Value)).length } →
      codeAny (model prog w) A (.compLoop (.ListComp elt [⟨.Tuple [.Name a pa, .Name b pb] kk tp, iter, [], 0⟩] scope pos) 0 (.ref e) (.ref s₂.heap.objs.size) (compEnvC scope cl H2.objs.size env))
        (RR (.ref s₂.heap.objs.size) H2.objs.size) s₃ := by
    rintro s₃ rfl
    refine kcp_loop
      (fun k s' => ∃ h' tk i ys m', s' = { s₂ with heap := h', toks := tk } ∧ i ≤ items.length ∧ k = items.length + 1 - i ∧ IntsAre ys ((ns.mapIdx f).take i) ∧ ((∃ old, IsEnum h' e it i old) ∧ h'.IsListIter it l i) ∧ Fr h₀ L h' m ∧ h'.Ns H2.objs.size m' ∧
        News h₀ L h' ((s₂.heap.objs.size, lst ys) :: news)) ?_ (items.length + 1)
      ⟨h₁, _, 0, [], _, rfl, Nat.zero_le _, rfl, .nil, ⟨⟨_, old _ _ he⟩, hit.at fun o x => old _ o x⟩, F.keeps old, hns₁, fun p hp => ?_⟩
    · rintro k s' ⟨h', tk, i, ys, m', rfl, hi', rfl, hys, ⟨⟨oe, hen⟩, hit'⟩, F', hn', N'⟩
      have hL' : h'.IsList l items.toArray := ⟨_, (N' _ (List.mem_cons_of_mem _ hml)).1, rfl, _, rfl⟩
      by_cases hlt : i < items.length
      · refine W.item i _ _ _ (by simpa using hlt) ⟨⟨oe, hen⟩, hit', hL'⟩ fun T vals h₂ tk₂ hP hTs hT hMd hk₂ => ?_
        obtain ⟨t, x, hx, rfl⟩ := hP
        have hTw := W.apart i T h₂ hMd
        refine W.go _ _ _ i T _ _ _ hMd fun h₃ hst₃ hk₃ => ?_
        have hT₃ : h₃.IsTuple T #[.int i t, x] := by
          obtain ⟨o, ho, r⟩ := hT
          exact ⟨o, hk₃ _ _ hTw ho, r⟩
        have up₃ : ∀ c o, c ≠ e → c ≠ it → h'.get? c = some o → h₃.get? c = some o := fun c o h1 h2 q => hk₃ c o (wr h1 h2) (hk₂ c o (wr h1 h2) q)
        have hCe : H2.objs.size ≠ e := Ne.symm (below e helt).1
        have hCi : H2.objs.size ≠ it := Ne.symm (below it hilt).1
        refine kcp_assign (env := compEnvC scope cl H2.objs.size env) hh hT₃ (lookup_relabel_local hxa) (lookup_relabel_local hxb) (by simp [compEnvC, relabel, hkind]) (hn'.at' fun o q => up₃ _ o hCe hCi q) fun h₄ tk₄ hn₄ hs₄ => ?_
        have up : ∀ c o, c ≠ e → c ≠ it → c ≠ H2.objs.size → h'.get? c = some o → h₄.get? c = some o := fun c o h1 h2 h3 q => hs₄ c o h3 (up₃ c o h1 h2 q)
        obtain ⟨⟨oe₃, hen₃⟩, hit₃, _⟩ := hst₃
        have hen₄ : IsEnum h₄ e it ((i + 1 : Nat) : Int) oe₃ := hs₄ e _ (Ne.symm hCe) hen₃
        have hit₄ : h₄.IsListIter it l (i + 1) := hit₃.at fun o q => hs₄ it o (Ne.symm hCi) q
        obtain ⟨oC, heC, hoC⟩ := ns_obj hn₄
        have F₄ : Fr h₀ L h₄ m := ⟨F'.ns.at' fun o q => up _ o hLe hLi (Ne.symm hCL) q, fun c o q => up c o (fun z => by rw [z, he0] at q; cases q) (fun z => by rw [z, hi0] at q; cases q) (fun z => by rw [z, hC₀] at q; cases q) (F'.keep c o q), F'.above⟩
        have N₄ : News h₀ L h₄ ((s₂.heap.objs.size, lst ys) :: news) := fun q hq => by
          have z := N' q hq
          refine ⟨up _ _ ?_ ?_ ?_ z.1, z.2⟩
          · rcases List.mem_cons.mp hq with rfl | hq
            · exact Ne.symm (below e helt).2
            · exact (off q hq).1
          · rcases List.mem_cons.mp hq with rfl | hq
            · exact Ne.symm (below it hilt).2
            · exact (off q hq).2
          · rcases List.mem_cons.mp hq with rfl | hq
            · exact hDC
            · exact (offD q hq).1
        obtain ⟨c, t', hc, rfl⟩ := ints_get hi (i := i) (x := x) (by simpa using hx)
        refine G i c t t' H2.objs.size oC _ h₄ _ _ _ hc hoC (by simp [hab]) (by simp) F₄ (fun q hq => ?_) fun tk₅ u => ?_
        · rcases List.mem_cons.mp hq with rfl | hq
          · exact ⟨heC, hCL, hC₀⟩
          · exact N₄ q (List.mem_cons_of_mem _ hq)
        have hyl : ys.length ≤ i := by rw [ints_len hys, List.length_take]; exact Nat.min_le_left _ _
        refine append_at (hsz := by show ys.toArray.size ≤ sizeLine; rw [List.size_toArray]; exact Nat.le_trans (Nat.le_trans hyl hi') hsz) (N₄ _ List.mem_cons_self).1 fun h₆ hs₆ hD₆ => ?_
        refine ⟨items.length + 1 - (i + 1), by omega, h₆, _, i + 1, ys ++ [.int (f i c) u], _, rfl, hlt, rfl, ?_, ⟨⟨_, hs₆.extBut e _ (below e helt).2 hen₄⟩, hit₄.at fun o q => hs₆.extBut it o (below it hilt).2 q⟩, F₄.change hs₆ hDL hD₀,
          (hoC.ns heC).sameBut hs₆ (Ne.symm hDC), fun q hq => ?_⟩
        · rw [mapIdx_take_succ hc]; exact ints_snoc hys
        · rcases List.mem_cons.mp hq with rfl | hq
          · exact ⟨hD₆.trans (congrArg some (lst_snoc ys _)), hDL, hD₀⟩
          · exact ⟨hs₆.extBut _ _ (offD q hq).2 (N₄ q (List.mem_cons_of_mem _ hq)).1, (N₄ q (List.mem_cons_of_mem _ hq)).2⟩
      · have hin : i = items.length := Nat.le_antisymm hi' (Nat.not_lt.mp hlt)
        subst hin
        refine W.done _ _ _ ⟨⟨oe, by simpa using hen⟩, by simpa using hit', hL'⟩ fun h₂ tk₂ hk₂ => ?_
        have up : ∀ c o, c ≠ e → c ≠ it → h'.get? c = some o → h₂.get? c = some o := fun c o h1 h2 q => hk₂ c o (wr h1 h2) q
        have hfull : (ns.mapIdx f).take items.length = ns.mapIdx f := List.take_of_length_le (by rw [List.length_mapIdx, ints_len hi]; exact Nat.le_refl _)
        rw [hfull] at hys
        refine hRR _ _ h₂ tk₂ _ ys ⟨F'.ns.at' fun o q => up _ o hLe hLi q, fun c o q => up c o (fun z => by rw [z, he0] at q; cases q) (fun z => by rw [z, hi0] at q; cases q) (F'.keep c o q), F'.above⟩
          (fun q hq => ?_) (fun p hp => (offD p hp).2) (hn'.at' fun o q => up _ o (Ne.symm (below e helt).1) (Ne.symm (below it hilt).1) q) hC₀ hD₀ hCL hDL (Ne.symm hDC) (fun p hp => (offD p hp).1) hys
        have z := N' q hq
        refine ⟨up _ _ ?_ ?_ z.1, z.2⟩
        · rcases List.mem_cons.mp hq with rfl | hq
          · exact Ne.symm (below e helt).2
          · exact (off q hq).1
        · rcases List.mem_cons.mp hq with rfl | hq
          · exact Ne.symm (below it hilt).2
          · exact (off q hq).2
    · rcases List.mem_cons.mp hp with rfl | hp
      · exact ⟨hacc, hDL, hD₀⟩
      · exact ⟨old _ _ (N p hp).1, (N p hp).2⟩
  have hen₁ : IsEnum h₁ e it 0 .none := old _ _ he
  have hit₁ : h₁.IsListIter it l 0 := hit.at fun o x => old _ o x
  exact codeAny_compStart_list (loop _ rfl) (W.self 0 _ _ _ ⟨⟨_, hen₁⟩, hit₁, ⟨_, old _ _ (N _ hml).1, rfl, _, rfl⟩⟩ (loop _ rfl))

theorem enum_ListComp {elt iter : PySem.Expr} {a b : Str} {pa pb tp : Pos} {kk : Nat} {scope : Scope} {cl : List (Str × Addr)} {pos : Pos} {l : Addr} {items : List Value} {kl : Nat} {ns : List Int} {Q : Value → Shared → Prop} (f : Nat → Int → Int)
    (hh : A.handled = none) (F : Fr h₀ L s.heap m) (N : News h₀ L s.heap news) (hml : (l, W.listOf items.toArray kl) ∈ news) (hi : IntsAre items ns) (hsz : items.length ≤ sizeLine)
    (hclos : closureFor scope env = pure cl) (hcell : ∀ y ∈ scope.names, y.2 ≠ .cell) (hkind : scope.kind = .function)
    (hnames : ∀ y ∈ scope.names, y.2 = .local → scope.names.lookup y.1 = some .local) (hxa : scope.names.lookup a = some .local) (hxb : scope.names.lookup b = some .local) (hab : ¬ a = b)
    (hiter : ∀ QQ : Value → Shared → Prop, wpAny (model prog w) A (call (.type "enumerate") [.ref l]) QQ E s → wpAny (model prog w) A (eval iter env) QQ E s)
    (G : ∀ s₂ : Shared, s₂.gens = s.gens → (∃ h tk, s₂ = { s with heap := h, toks := tk }) → GElt prog w A h₀ L m env elt a b scope cl s₂ news ns f)
    (h : ∀ D h' tk ys, Fr h₀ L h' m → News h₀ L h' ((D, lst ys) :: news) → (∀ p ∈ news, p.1 ≠ D) → IntsAre ys (ns.mapIdx f) → Q (.ref D) { s with heap := h', toks := tk })
    (hs : ∀ x, foldedSetIterable iter env x = pure x := by intro _; rfl) :
    wpAny (model prog w) A (eval (.ListComp elt [⟨.Tuple [.Name a pa, .Name b pb] kk tp, iter, [], 0⟩] scope pos) env) Q E s := by
  rw [eval_ListComp]
  refine wpAny_comprehension_free (use := none) rfl hs hclos hkind hnames (hiter _ ?_)
  refine call_enumerate_list ⟨_, (N _ hml).1, rfl, _, rfl⟩ fun h₁ he hit hsz₁ hk => wpAny_pyIter_enum he ?_
  have up : ∀ p ∈ news, p.1 < s.heap.objs.size := fun p hp => Heap.lt_size (N p hp).1
  have fr : ∀ b, s.heap.objs.size ≤ b → h₀.get? b = none := fun b hb => by
    cases q : h₀.get? b with
    | none => rfl
    | some o' => exact absurd (Heap.lt_size (F.keep b o' q)) (Nat.not_lt.mpr hb)
  refine enum_block (m := m) (news := news) (h₀ := h₀) (L := L) hh hsz hi hml he hit (Nat.succ_ne_self _) (Nat.ne_of_lt (Nat.lt_succ_of_lt F.ns.lt)) (Nat.ne_of_lt F.ns.lt) (fr _ (Nat.le_succ _)) (fr _ (Nat.le_refl _))
    (fun p hp => ⟨Nat.ne_of_lt (Nat.lt_succ_of_lt (up p hp)), Nat.ne_of_lt (up p hp)⟩) hcell hkind hxa hxb hab (F.keeps hk) (fun p hp => ⟨hk _ _ (N p hp).1, (N p hp).2⟩) (G { s with heap := h₁ } rfl ⟨h₁, s.toks, rfl⟩) ?_
  intro D C h' tk m' ys F' N' o1 hn hC₀ hD₀ hCL hDL hCD offC hys
  refine ⟨m', hn, fun h'' hs'' => h D h'' tk ys (F'.change hs'' hCL hC₀) (fun p hp => ?_) o1 hys⟩
  refine ⟨hs''.extBut _ _ ?_ (N' p hp).1, (N' p hp).2⟩
  rcases List.mem_cons.mp hp with rfl | hp
  · exact Ne.symm hCD
  · exact offC p hp
end

theorem dval_sum {B : Int} : ∀ (ns : List Int) (k : Nat), (ns.mapIdx fun i c => c * B ^ (i + k)).sum = B ^ k * dval B ns
  | [], _ => by simp [dval]
  | c :: r, k => by
    rw [List.mapIdx_cons, List.sum_cons]
    have e : (fun i => (fun (i : Nat) (c : Int) => c * B ^ (i + k)) (i + 1)) = fun (i : Nat) (c : Int) => c * B ^ (i + (k + 1)) := by
      funext i c; simp only [Nat.add_assoc, Nat.add_comm 1 k]
    rw [e, dval_sum r (k + 1), dval, Nat.zero_add, Int.pow_succ, Int.mul_add, Int.mul_comm c, Int.mul_assoc]
theorem dval_sum0 {B : Int} (ns : List Int) : (ns.mapIdx fun i c => c * B ^ i).sum = dval B ns := by
  have h := dval_sum (B := B) ns 0
  simpa using h
end

section
open Sem (wp)
set_option maxRecDepth 100000
section
variable {M : Model} {A : Around} {E : Value → Shared → Prop} {s : Shared} {env : Env}
theorem wpG_isTrue_Compare1R {l : Expr} {op : CmpOp} {r : Expr} {pos : Pos} {whole : Sem Value} {Q : Bool → Shared → Prop}
    (h : wpAny M A (eval l env) (fun a s₁ => wpG M A (eval r env) (fun b s₂ => wpAny M A (compareOp op a b) (fun c s₃ => wpAny M A (truthy c) Q E s₃) E s₂) E s₁) E s)
    (hm : behindInMarks op r = false := by with_unfolding_all rfl) : wpG M A (isTrue (.Compare l [op] [r] pos) env whole) Q E s := by
  rw [isTrue_Compare1, markedBehindIn_of_false hm]
  refine wpG_bind (wpG_of_any (wpAny_mono h (fun a s₁ h₁ => ?_) fun _ _ x => x))
  refine wpG_bind (wpG_holding (wpG_mono h₁ (fun b s₂ h₂ => ?_) fun _ _ x => x))
  exact wpG_of_any (wpAny_bind (wpAny_standAt (wpAny_bind (wpAny_mono (any_operate h₂) (fun c s₃ h₃ => wpAny_holding h₃) fun _ _ x => x))))
end
section
variable {prog : Program} {w : World} {A : Around} {E : Value → Shared → Prop} {s : Shared} {h₀ : Heap} {L D : Addr} {m : Str → Option Value} {news : List (Addr × Obj)}
theorem sum_ints {vs : List Value} {ns : List Int} {k : Nat} {Q : Value → Shared → Prop} (hh : A.handled = none) (F : Fr h₀ L s.heap m) (N : News h₀ L s.heap news) (hm : (D, W.listOf vs.toArray k) ∈ news) (hi : IntsAre vs ns)
    (h : ∀ h' tk t', Fr h₀ L h' m → News h₀ L h' news → Q (.int ns.sum t') { s with heap := h', toks := tk }) :
    wpAny (model prog w) A (call (.builtin "sum") [.ref D]) Q E s := by
  have hl : s.heap.IsList D vs.toArray := ⟨_, (N _ hm).1, rfl, _, rfl⟩
  obtain ⟨xs, hx⟩ := hi.allInts.items
  have hn : numsOf vs.toArray.toList = ns := by rw [show vs.toArray.toList = vs from rfl, hi.numsOf]
  rw [hx] at hl hn
  rw [nums_intItems] at hn
  have hlt : D < s.heap.objs.size := Heap.lt_size (N _ hm).1
  have hne : D ≠ s.heap.objs.size := Nat.ne_of_lt hlt
  have hsz : (intItems xs).size = xs.size := by simp [intItems]
  have W := (Walks.list (prog := prog) (w := w) (A := A.in1) hh s.heap.objs.size D hne (intItems xs)).toS
  rw [hsz] at W
  refine call_sum_walkAnyS (wpAny_pyIter_list hl ?_)
  refine ⟨s.heap.objs.size, _, _, _, _, _, _, numAt xs, rfl, W, ⟨⟨_, Heap.get?_push_size _ rfl, rfl, rfl⟩, hl.at fun o e => Heap.get?_push_of_some _ e⟩, fun b hb => ?_, fun i v hP => intItems_at hP, fun s' t' hm => ?_⟩
  · rcases List.mem_cons.mp hb with rfl | hb
    · exact Heap.lt_size (Heap.get?_push_size _ rfl)
    · obtain rfl := List.mem_singleton.mp hb
      exact Nat.lt_of_lt_of_le hlt (by rw [Heap.size_push]; exact Nat.le_succ _)
  · obtain ⟨h', g', d', tk', os'⟩ := s'
    have e1 : g' = s.gens := hm.gens
    have e2 : d' = s.drawn := hm.drawn
    have e3 : os' = s.os := hm.os
    subst e1 e2 e3
    have hk : ∀ b o, s.heap.get? b = some o → h'.get? b = some o := fun b o e => hm.heap b o (fun hb => absurd (Heap.lt_size e) ((List.mem_singleton.mp hb) ▸ Nat.lt_irrefl _)) (Heap.get?_push_of_some _ e)
    have := h h' tk' t' (F.keeps hk) (N.grown hk)
    rw [preSum_eq, List.take_of_length_le (by simp), hn]
    exact this
end
end

section
set_option maxRecDepth 100000
theorem base_all {bits : Int} (hb : 2 ≤ bits ∧ bits ≤ 4) : (1 ≤ bits ∧ bits ≤ 8) ∧ (0 ≤ bits ∧ bits ≤ 8) ∧ (4 ≤ (2 : Int) ^ bits.toNat ∧ (2 : Int) ^ bits.toNat ≤ 16) ∧ (1 ≤ (2 : Int) ^ bits.toNat + 1 ∧ (2 : Int) ^ bits.toNat + 1 < 200) ∧ (1 ≤ (2 : Int) ^ bits.toNat - 1 ∧ (2 : Int) ^ bits.toNat - 1 < 200) := by
  have h := B_cases hb
  generalize (2 : Int) ^ bits.toNat = B at h ⊢
  refine ⟨⟨?_, ?_⟩, ⟨?_, ?_⟩, ⟨?_, ?_⟩, ⟨?_, ?_⟩, ?_, ?_⟩ <;> omega
theorem dval_24 {ns : List Int} {bits : Int} (hl : ns.length ≤ 6) (hb : 2 ≤ bits ∧ bits ≤ 4) (hr : ∀ x ∈ ns, 0 ≤ x ∧ x < 2 ^ bits.toNat) : 0 ≤ dval (2 ^ bits.toNat) ns ∧ dval (2 ^ bits.toNat) ns < 2 ^ 60 := by
  have h := dval_bound (pow2_pos bits.toNat) hr
  refine ⟨h.1, Int.lt_of_lt_of_le h.2 ?_⟩
  rw [← Int.pow_mul]
  exact pow2_mono (Nat.le_trans (Nat.mul_le_mul (show bits.toNat ≤ 4 by omega) hl) (by decide))
/-- what the sixth and seventh test ask of the two numbers -/
theorem facts_xy {ns : List Int} {bits many : Int} (hlen : (ns.length : Int) = many) (hbits : 2 ≤ bits ∧ bits ≤ 4) (hmany : 2 ≤ many ∧ many ≤ 6) (hrange : ∀ x ∈ ns, 0 ≤ x ∧ x < 2 ^ bits.toNat) :
    (0 ≤ dval (2 ^ bits.toNat) ns + dval (2 ^ bits.toNat) ns.reverse ∧ dval (2 ^ bits.toNat) ns + dval (2 ^ bits.toNat) ns.reverse < 2 ^ 60) ∧
    (0 ≤ (if dval (2 ^ bits.toNat) ns - dval (2 ^ bits.toNat) ns.reverse < 0 then -(dval (2 ^ bits.toNat) ns - dval (2 ^ bits.toNat) ns.reverse) else dval (2 ^ bits.toNat) ns - dval (2 ^ bits.toNat) ns.reverse) ∧ (if dval (2 ^ bits.toNat) ns - dval (2 ^ bits.toNat) ns.reverse < 0 then -(dval (2 ^ bits.toNat) ns - dval (2 ^ bits.toNat) ns.reverse) else dval (2 ^ bits.toNat) ns - dval (2 ^ bits.toNat) ns.reverse) < 2 ^ 60) ∧
    cnt (Builtin.Int.intBits (2 ^ bits.toNat + 1)) (dval (2 ^ bits.toNat) ns + dval (2 ^ bits.toNat) ns.reverse) ≤ 8 ∧
    cnt (Builtin.Int.intBits (2 ^ bits.toNat - 1)) (if dval (2 ^ bits.toNat) ns - dval (2 ^ bits.toNat) ns.reverse < 0 then -(dval (2 ^ bits.toNat) ns - dval (2 ^ bits.toNat) ns.reverse) else dval (2 ^ bits.toNat) ns - dval (2 ^ bits.toNat) ns.reverse) ≤ 8 ∧
    cnt (Builtin.Int.intBits (2 ^ bits.toNat + 1)) (if dval (2 ^ bits.toNat) ns - dval (2 ^ bits.toNat) ns.reverse < 0 then -(dval (2 ^ bits.toNat) ns - dval (2 ^ bits.toNat) ns.reverse) else dval (2 ^ bits.toNat) ns - dval (2 ^ bits.toNat) ns.reverse) ≤ 8 ∧
    (many.fmod 2 = 0 → (dval (2 ^ bits.toNat) ns + dval (2 ^ bits.toNat) ns.reverse).fmod (2 ^ bits.toNat + 1) = 0) ∧
    (if dval (2 ^ bits.toNat) ns - dval (2 ^ bits.toNat) ns.reverse < 0 then -(dval (2 ^ bits.toNat) ns - dval (2 ^ bits.toNat) ns.reverse) else dval (2 ^ bits.toNat) ns - dval (2 ^ bits.toNat) ns.reverse).fmod (2 ^ bits.toNat - 1) = 0 ∧
    (many.fmod 2 = 1 → (if dval (2 ^ bits.toNat) ns - dval (2 ^ bits.toNat) ns.reverse < 0 then -(dval (2 ^ bits.toNat) ns - dval (2 ^ bits.toNat) ns.reverse) else dval (2 ^ bits.toNat) ns - dval (2 ^ bits.toNat) ns.reverse).fmod (2 ^ bits.toNat + 1) = 0) := by
  have hB := B_cases hbits
  have hR := rows (ns := ns) (B := 2 ^ bits.toNat) ⟨by omega, by omega⟩ hB hrange
  have h1 := dval_24 (ns := ns) (by omega) hbits hrange
  have h2 := dval_24 (ns := ns.reverse) (by rw [List.length_reverse]; omega) hbits fun x hx => hrange x (List.mem_reverse.mp hx)
  have hp : (2 : Int) ^ bits.toNat * 2 ^ bits.toNat * 2 ^ bits.toNat * 2 ^ bits.toNat * 2 ^ bits.toNat * 2 ^ bits.toNat ≤ 2 ^ 24 := by
    rcases hB with e | e | e <;> rw [e] <;> decide
  rw [hlen] at hR
  generalize dval (2 ^ bits.toNat) ns = X at hR h1 ⊢
  generalize dval (2 ^ bits.toNat) ns.reverse = Y at hR h2 ⊢
  generalize (2 : Int) ^ bits.toNat = B at hB hR hp ⊢
  obtain ⟨r1, r2, r3, r4, r5, r6, r7⟩ := hR
  generalize hT : B * B * B * B * B * B = T at r5 r7 hp
  have hab : 0 ≤ absI (X - Y) ∧ absI (X - Y) < 2 * (B * B * B * B * B * B) := by
    rw [hT]; unfold absI; split <;> exact ⟨by omega, by omega⟩
  have hs : 0 ≤ X + Y ∧ X + Y < 2 * (B * B * B * B * B * B) := by rw [hT]; exact ⟨by omega, by omega⟩
  have c1 := cnt_small hB hab
  have c2 := cnt_small hB hs
  rw [hT] at hab hs
  unfold absI at r2 r3 hab c1
  have f1 : many.fmod 2 = many % 2 := fm (by decide)
  rw [f1]
  have f2 : ∀ z : Int, z.fmod (B + 1) = z % (B + 1) := fun z => fm (by omega)
  have f3 : ∀ z : Int, z.fmod (B - 1) = z % (B - 1) := fun z => fm (by omega)
  rw [f2, f2, f3]
  exact ⟨⟨hs.1, by omega⟩, ⟨hab.1, Int.lt_of_lt_of_le hab.2 (by omega)⟩, c2.1, c1.2, c1.1, r1, r2, r3⟩
/-- the number's own figures -/
theorem told_all {ns : List Int} {bits many : Int} (hl : (ns.length : Int) = many) (hb : 2 ≤ bits ∧ bits ≤ 4) (hm : 2 ≤ many ∧ many ≤ 6) (hr : ∀ x ∈ ns, 0 ≤ x ∧ x < 2 ^ bits.toNat) :
    (digs (2 ^ bits.toNat) (cnt bits (dval (2 ^ bits.toNat) ns)).toNat (dval (2 ^ bits.toNat) ns)).length ≤ 6 ∧
    digs (2 ^ bits.toNat) (cnt bits (dval (2 ^ bits.toNat) ns)).toNat (dval (2 ^ bits.toNat) ns) ++ List.replicate (many - ((digs (2 ^ bits.toNat) (cnt bits (dval (2 ^ bits.toNat) ns)).toNat (dval (2 ^ bits.toNat) ns)).length : Int)).toNat 0 = ns := by
  have h := dval_bound (pow2_pos bits.toNat) hr
  have h60 := dval_24 (ns := ns) (by omega) hb hr
  have hc := cnt_facts (x := dval (2 ^ bits.toNat) ns) (n := bits) h60 (by omega)
  have hk := cnt_le (n := bits) h.1 (by omega) h.2
  rw [digs_length]
  have e := digs_pad (K := (cnt bits (dval (2 ^ bits.toNat) ns)).toNat) (c := (many - ((cnt bits (dval (2 ^ bits.toNat) ns)).toNat : Int)).toNat) (pow2_pos bits.toNat) h.1 hc.2.2.2
  refine ⟨by omega, ?_⟩
  rw [← e]
  have e2 : (cnt bits (dval (2 ^ bits.toNat) ns)).toNat + (many - ((cnt bits (dval (2 ^ bits.toNat) ns)).toNat : Int)).toNat = ns.length := by omega
  rw [e2, digs_dval (pow2_pos _) hr]
/-- the greater less the less, of three figures -/
theorem left_all {bits a b c : Int} (hbits : 2 ≤ bits ∧ bits ≤ 4) (ha : 0 ≤ a ∧ a < 2 ^ bits.toNat) (hb : 0 ≤ b ∧ b < 2 ^ bits.toNat) (hc : 0 ≤ c ∧ c < 2 ^ bits.toNat) (hne : a ≠ c) {f : Int} (hf : f = absI (dval (2 ^ bits.toNat) [a, b, c] - dval (2 ^ bits.toNat) [c, b, a])) :
    (0 ≤ f ∧ f < 2 ^ 60) ∧ (digs (2 ^ bits.toNat) (cnt bits f).toNat f).length ≤ 3 ∧
    (digs (2 ^ bits.toNat) (cnt bits f).toNat f ++ List.replicate (3 - ((digs (2 ^ bits.toNat) (cnt bits f).toNat f).length : Int)).toNat 0).length = 3 ∧
    (∀ x ∈ digs (2 ^ bits.toNat) (cnt bits f).toNat f ++ List.replicate (3 - ((digs (2 ^ bits.toNat) (cnt bits f).toNat f).length : Int)).toNat 0, 0 ≤ x ∧ x < 2 ^ bits.toNat) ∧
    f + dval (2 ^ bits.toNat) (digs (2 ^ bits.toNat) (cnt bits f).toNat f ++ List.replicate (3 - ((digs (2 ^ bits.toNat) (cnt bits f).toNat f).length : Int)).toNat 0).reverse = (2 ^ bits.toNat + 1) * (2 ^ bits.toNat + 1) * (2 ^ bits.toNat - 1) := by
  have h := three_far (B_cases hbits) ha hb hc hne
  rw [← hf] at h
  have h4 : f < 4096 := Int.lt_of_lt_of_le h.2.1 (by rcases B_cases hbits with e | e | e <;> rw [e] <;> decide)
  have hcf := cnt_facts (x := f) (n := bits) ⟨by omega, by omega⟩ (by omega)
  have hk := cnt_le (x := f) (n := bits) (k := 3) (by omega) (by omega) h.2.1
  have e0 : digs (2 ^ bits.toNat) (cnt bits f).toNat f ++ List.replicate (3 - ((digs (2 ^ bits.toNat) (cnt bits f).toNat f).length : Int)).toNat 0 = digs (2 ^ bits.toNat) 3 f := by
    rw [digs_length]
    have e := digs_pad (K := (cnt bits f).toNat) (c := (3 - ((cnt bits f).toNat : Int)).toNat) (pow2_pos bits.toNat) (by omega) hcf.2.2.2
    rw [← e]
    have e2 : (cnt bits f).toNat + (3 - ((cnt bits f).toNat : Int)).toNat = 3 := by omega
    rw [e2]
  rw [e0]
  refine ⟨⟨by omega, by omega⟩, ?_, digs_length _ _ _, digs_range (pow2_pos _) _ _, h.2.2⟩
  rw [digs_length]; omega
/-- a row that is its own other way round, and its number -/
theorem half_all {ns : List Int} {bits many : Int} (hlen : (ns.length : Int) = many) (hbits : 2 ≤ bits ∧ bits ≤ 4) (hmany : 2 ≤ many ∧ many ≤ 6) (hrange : ∀ x ∈ ns, 0 ≤ x ∧ x < 2 ^ bits.toNat) :
    0 < (ns.take ((many + 1).fdiv 2).toNat).length ∧ (ns.take ((many + 1).fdiv 2).toNat).length ≤ 3 ∧ (∀ x ∈ (ns.take ((many + 1).fdiv 2).toNat), 0 ≤ x ∧ x < 2 ^ bits.toNat) ∧
    (((ns.take ((many + 1).fdiv 2).toNat) ++ (ns.take ((many + 1).fdiv 2).toNat).reverse.drop (many.fmod 2).toNat).length : Int) = many ∧ ((ns.take ((many + 1).fdiv 2).toNat) ++ (ns.take ((many + 1).fdiv 2).toNat).reverse.drop (many.fmod 2).toNat).reverse = ((ns.take ((many + 1).fdiv 2).toNat) ++ (ns.take ((many + 1).fdiv 2).toNat).reverse.drop (many.fmod 2).toNat) ∧ ((ns.take ((many + 1).fdiv 2).toNat) ++ (ns.take ((many + 1).fdiv 2).toNat).reverse.drop (many.fmod 2).toNat).take ((ns.take ((many + 1).fdiv 2).toNat).length : Int).toNat = (ns.take ((many + 1).fdiv 2).toNat) ∧ (∀ x ∈ ((ns.take ((many + 1).fdiv 2).toNat) ++ (ns.take ((many + 1).fdiv 2).toNat).reverse.drop (many.fmod 2).toNat), 0 ≤ x ∧ x < 2 ^ bits.toNat) ∧
    (0 ≤ dval (2 ^ bits.toNat) ((ns.take ((many + 1).fdiv 2).toNat) ++ (ns.take ((many + 1).fdiv 2).toNat).reverse.drop (many.fmod 2).toNat) ∧ dval (2 ^ bits.toNat) ((ns.take ((many + 1).fdiv 2).toNat) ++ (ns.take ((many + 1).fdiv 2).toNat).reverse.drop (many.fmod 2).toNat) < 2 ^ 60) ∧ cnt (Builtin.Int.intBits (2 ^ bits.toNat + 1)) (dval (2 ^ bits.toNat) ((ns.take ((many + 1).fdiv 2).toNat) ++ (ns.take ((many + 1).fdiv 2).toNat).reverse.drop (many.fmod 2).toNat)) ≤ 8 ∧
    (many.fmod 2 ≠ 1 → (dval (2 ^ bits.toNat) ((ns.take ((many + 1).fdiv 2).toNat) ++ (ns.take ((many + 1).fdiv 2).toNat).reverse.drop (many.fmod 2).toNat)).fmod (2 ^ bits.toNat + 1) = 0) := by
  have hmf := mirror_facts hlen hmany
  have e1 : (many + 1).fdiv 2 = (many + 1) / 2 := Int.fdiv_eq_ediv_of_nonneg _ (by decide)
  have e2 : many.fmod 2 = many % 2 := fm (by decide)
  rw [e1, e2]
  have hl : (ns.take ((many + 1) / 2).toNat).length = ((many + 1) / 2).toNat := by rw [List.length_take]; omega
  have hm : ∀ x ∈ ns.take ((many + 1) / 2).toNat, x ∈ ns := fun x hx => List.mem_of_mem_take hx
  generalize ns.take ((many + 1) / 2).toNat = H at hmf hl hm ⊢
  have hM : ∀ x ∈ H ++ H.reverse.drop (many % 2).toNat, x ∈ ns := fun x hx => by
    rcases List.mem_append.mp hx with hx | hx
    · exact hm x hx
    · exact hm x (List.mem_reverse.mp (List.mem_of_mem_drop hx))
  obtain ⟨hMl, hMr, hMt⟩ := hmf
  generalize H ++ H.reverse.drop (many % 2).toNat = M at hMl hMr hMt hM ⊢
  have hMg : ∀ x ∈ M, 0 ≤ x ∧ x < 2 ^ bits.toNat := fun x hx => hrange x (hM x hx)
  have hM6 : 2 ≤ M.length ∧ M.length ≤ 6 := by rw [hMl]; exact ⟨by omega, by omega⟩
  have hd := dval_24 hM6.2 hbits hMg
  have hB := B_cases hbits
  have hR := rows hM6 hB hMg
  have hc := cnt_small hB (x := dval (2 ^ bits.toNat) M) ⟨hR.2.2.2.1, Int.lt_of_lt_of_le hR.2.2.2.2.1 (by rw [Int.two_mul]; exact Int.le_add_of_nonneg_left (Int.le_of_lt (Int.lt_of_le_of_lt hR.2.2.2.1 hR.2.2.2.2.1)))⟩
  refine ⟨by rw [hl]; omega, by rw [hl]; omega, fun x hx => hrange x (hm x hx), by rw [hMl]; exact hlen, hMr, by rw [Int.toNat_natCast]; exact hMt, hMg, hd, hc.1, fun h => ?_⟩
  rw [fm (by rcases hB with e | e | e <;> rw [e] <;> decide)]
  exact pal_even hM6 hB hMg hMr (by rw [hMl, hlen]; omega)
end

section
open Sem (wp)
set_option maxRecDepth 100000
section
variable {M : Model} {A : Around} {E : Value → Shared → Prop} {s : Shared} {env : Env}
theorem wpG_stmt {st : Stmt} {rest : List Stmt} {Q : Flow → Shared → Prop}
    (h : ∀ (QQ : Flow → Shared → Prop) (EE : Value → Shared → Prop), (∀ s', wpG M A (execs rest env) Q E s' → QQ .next s') → (∀ v s', Q (.ret v) s' → QQ (.ret v) s') → (∀ e s', E e s' → EE e s') → wpAny M A (exec st env) QQ EE s) :
    wpG M A (execs (st :: rest) env) Q E s := by
  refine wpG_execs_cons (wpG_of_any (wpAny_mono (h (fun f s' => match f with | .next => wpG M A (execs rest env) Q E s' | f => Q f s') E (fun _ h => h) (fun _ _ h => h) (fun _ _ h => h)) (fun f s' h => h) fun _ _ h => h))
end
local macro_rules | `(tactic| walk_at "subscriptTail Call Name cons nil Constant ref int") => `(tactic| walk_at "last subscriptTail")
local macro_rules | `(tactic| walk_at "subscriptTail BinOp Name Add List Slice ref ref") => `(tactic| walk_at "last subscriptTail")
local macro_rules | `(tactic| walk_at "subscriptTail Call") => `(tactic| (k_here; k_dflt (refine kba_turn (value' := PySem.Expr.Name (PySem.Str.ofString "_") ⟨0, 0, 0, 0⟩) (fun _ => rfl) ?_); k_dflt (refine' kmk_slice_ints ?F ?N ?l ?p ?q ?i ?m ?c ?_ ?s ?t ?z; (case F | N => k_asm); (case l => kmk_list); (case p => exact IsPart.int _ _); (case q => exact IsPart.none); (case i => assumption); (case m => exact kmk_from (by assumption) (by omega)); (case c => exact List.length_drop ..); (case s => with_unfolding_all rfl); (case t => kmk_pure); (case z => (refine kmk_sz (by assumption) ?_; rw [PySem.sizeLine_eq]; omega))); intro D' ws' h' F' N' l1 hI' hC' hL'; (try k_lt l1); (try k_sweep)))
local macro_rules | `(tactic| walk_at "CompSrc BinOp cons ref") => `(tactic| (k_here; (try kcf_lens); k_dflt (refine LCg.CompSrc.ledger (by rfl) (by k_asm) (by k_asm) (by k_mem) (by kcf_size) ?_; intro g'; (refine' kcf_list _ (by first | assumption | l_ints) (fun k' t' I' oI' C' oC' D' m' ys' h' tk' E' hk' hC' hx' F' N' off' ne' hMark' => ?_) ?_); (all_goals (try (simp only [LCg.Off3, and_true] at off'))); kcf_last)))
theorem take_facts {ns : List Int} {many : Int} {b : Int} (hb : 0 < b) (hm : 2 ≤ many ∧ many ≤ 6) :
    ((List.map (fun k' : Int => k'.fmod b) (List.take many.toNat (ns ++ [1, 2, 3, 0, 1, 2]))).length : Int) = many ∧ ∀ x ∈ List.map (fun k' : Int => k'.fmod b) (List.take many.toNat (ns ++ [1, 2, 3, 0, 1, 2])), 0 ≤ x ∧ x < b := by
  constructor
  · rw [List.length_map, List.length_take, List.length_append]
    simp only [List.length_cons, List.length_nil]
    omega
  · intro x hx
    obtain ⟨y, _, rfl⟩ := List.mem_map.mp hx
    rw [Int.fmod_eq_emod_of_nonneg _ (by omega)]
    exact ⟨Int.emod_nonneg _ (by omega), Int.emod_lt_of_pos _ hb⟩
section
variable {prog : Program} {w : World} {A : Around} {E : Value → Shared → Prop} {s : Shared} {env : Env} {Q : Flow → Shared → Prop} {rest : List Stmt} {h₀ : Heap} {L : Addr} {m : Str → Option Value} {news : List (Addr × Obj)}
theorem cutL {sc Fg cl : Addr} {oc : Obj} {ys : List Value} {ns : List Int} {bits many : Int} {t1 t2 tb : Tok}
    (F : Fr h₀ L s.heap m) (N : News h₀ L s.heap news)
    (m1 : m (Str.ofString "script") = some (.ref sc)) (m2 : m (Str.ofString "bits") = some (.int bits t1)) (m3 : m (Str.ofString "many") = some (.int many t2)) (m4 : m (Str.ofString "figures") = some (.ref Fg))
    (n1 : (Fg, LCg.lst ys) ∈ news) (n2 : (cl, oc) ∈ news) (n3 : (44, tabObj #[]) ∈ news) (n4 : (37, tabObj #[]) ∈ news)
    (hoc : oc.data = .cell (some (.int (2 ^ bits.toNat) tb)))
    (o1 : Fg ≠ cl) (o2 : Fg ≠ 44) (o3 : Fg ≠ 37)
    (hb : 2 ≤ bits ∧ bits ≤ 4) (hm : 2 ≤ many ∧ many ≤ 6) (hi : IntsAre ys ns) (hns : (ns.length : Int) = many ∧ ∀ x ∈ ns, 0 ≤ x ∧ x < 2 ^ bits.toNat)
    (H : ∀ (Fg : Addr) (oc : Obj) (ys : List Value) (ns : List Int) (bits many : Int) (t1 t2 tb : Tok) (m₀ : Str → Option Value) (h : Heap) (tk : Nat),
      oc.data = .cell (some (.int (2 ^ bits.toNat) tb)) → @Ne Nat Fg cl → @Ne Nat Fg 44 → @Ne Nat Fg 37 → 2 ≤ bits ∧ bits ≤ 4 → 2 ≤ many ∧ many ≤ 6 → IntsAre ys ns → (ns.length : Int) = many → (∀ x ∈ ns, 0 ≤ x ∧ x < 2 ^ bits.toNat) →
      Fr h₀ L h (fun y => if y = Str.ofString "figures" then some (.ref Fg) else if y = Str.ofString "many" then some (.int many t2) else if y = Str.ofString "bits" then some (.int bits t1) else if y = Str.ofString "script" then some (.ref sc) else m₀ y) →
      News h₀ L h [(Fg, W.listOf ys.toArray ys.length), (cl, oc), (44, tabObj #[]), (37, tabObj #[])] →
      wpG (model prog w) A (execs rest env) Q E { s with heap := h, toks := tk }) :
    wpG (model prog w) A (execs rest env) Q E s := by
  have e : (fun y => if y = Str.ofString "figures" then some (.ref Fg) else if y = Str.ofString "many" then some (.int many t2) else if y = Str.ofString "bits" then some (.int bits t1) else if y = Str.ofString "script" then some (.ref sc) else m y) = m := by
    funext y
    by_cases e1 : y = Str.ofString "figures"
    · rw [if_pos e1, e1]; exact m4.symm
    · rw [if_neg e1]
      by_cases e2 : y = Str.ofString "many"
      · rw [if_pos e2, e2]; exact m3.symm
      · rw [if_neg e2]
        by_cases e3 : y = Str.ofString "bits"
        · rw [if_pos e3, e3]; exact m2.symm
        · rw [if_neg e3]
          by_cases e4 : y = Str.ofString "script"
          · rw [if_pos e4, e4]; exact m1.symm
          · rw [if_neg e4]
  refine H Fg oc ys ns bits many t1 t2 tb m s.heap s.toks hoc o1 o2 o3 hb hm hi hns.1 hns.2 (by rw [e]; exact F) (fun p hp => N p ?_)
  simp only [List.mem_cons, List.not_mem_nil, or_false] at hp
  rcases hp with rfl | rfl | rfl | rfl
  · exact n1
  · exact n2
  · exact n3
  · exact n4
/-- the end of the law, once: what the claim asks of True -/
theorem top_cut {body : List Stmt} (P : Heap → Prop) (hend : ∀ h' tk, P h' → Q (.ret (.bool true)) { s with heap := h', toks := tk })
    (walk : ∀ Q' : Flow → Shared → Prop, (∀ h' tk, P h' → Q' (.ret (.bool true)) { s with heap := h', toks := tk }) → wpG (model prog w) A (execs body env) Q' E s) :
    wpG (model prog w) A (execs body env) Q E s := walk Q hend
end
theorem bits_ok (x : Int) : 2 ≤ 2 + x.fmod 3 ∧ 2 + x.fmod 3 ≤ 4 := by
  rw [Int.fmod_eq_emod_of_nonneg _ (by decide)]; omega
theorem many_ok (x : Int) : 2 ≤ 2 + x.fmod 5 ∧ 2 + x.fmod 5 ≤ 6 := by
  rw [Int.fmod_eq_emod_of_nonneg _ (by decide)]; omega

theorem neAllN {l : List (Addr × Obj)} {D : Addr} (h : ∀ p ∈ l, p.1 ≠ D) : ∀ p ∈ l, @Ne Nat p.1 D := h
section
variable {prog : Program} {w : World} {A : Around} {E : Value → Shared → Prop} {s : Shared} {env : Env} {Q : Flow → Shared → Prop} {rest : List Stmt} {h₀ : Heap} {L : Addr} {m : Str → Option Value} {news : List (Addr × Obj)}
theorem wpG_stmtM {st : Stmt} (F : Fr h₀ L s.heap m) (N : News h₀ L s.heap news)
    (hk : ∀ h' tk, Fr h₀ L h' m → News h₀ L h' news → wpG (model prog w) A (execs rest env) Q E { s with heap := h', toks := tk })
    (h : ∀ (QQ : Flow → Shared → Prop) (EE : Value → Shared → Prop), (∀ h' tk, Fr h₀ L h' m → News h₀ L h' news → QQ .next { s with heap := h', toks := tk }) → wpAny (model prog w) A (exec st env) QQ EE s) :
    wpG (model prog w) A (execs (st :: rest) env) Q E s :=
  wpG_execs_cons (wpG_of_any (h (fun f s' => match f with | .next => wpG (model prog w) A (execs rest env) Q E s' | f => Q f s') E fun h' tk F N => hk h' tk F N))
end
theorem gl_of {d : Addr} {o : Obj} {l : List (Addr × Obj)} {g : Obj → List (Addr × Obj)} (U : UpdF d o l g) : ∀ o', ∀ p ∈ g o', ∃ q ∈ l, q.1 = p.1 := by
  obtain ⟨pre, post, rfl, hg, _, _⟩ := U.split
  intro o' p hp
  rw [hg] at hp
  rcases List.mem_append.mp hp with hp | hp
  · exact ⟨p, List.mem_append_left _ hp, rfl⟩
  · rcases List.mem_cons.mp hp with rfl | hp
    · exact ⟨(d, o), List.mem_append_right _ (.head _), rfl⟩
    · exact ⟨p, List.mem_append_right _ (.tail _ hp), rfl⟩
theorem gm_of {d a : Addr} {o ob : Obj} {l : List (Addr × Obj)} {g : Obj → List (Addr × Obj)} (U : UpdF d o l g) (hm : (a, ob) ∈ l) (ne : @Ne Nat a d) : GM g a ob := by
  obtain ⟨pre, post, rfl, hg, _, _⟩ := U.split
  intro o'
  rw [hg]
  rcases List.mem_append.mp hm with hp | hp
  · exact List.mem_append_left _ hp
  · rcases List.mem_cons.mp hp with e | hp
    · cases e; exact absurd rfl ne
    · exact List.mem_append_right _ (.tail _ hp)
section
variable {M : Model} {A : Around} {E : Value → Shared → Prop} {s : Shared} {env : Env}
theorem wpG_Assign_Swap {elts : List Expr} {k : Nat} {tpos pos : Pos} {value : Expr} {names : List Str} {Q : Flow → Shared → Prop}
    (h : wpG M A (eval value env) (fun v s₁ => wpAny M A (unpackItems v names.length none) (fun items s₂ =>
      wpAny M A (assignInOrder (names.reverse.map fun n => bindName env n) items.reverse) (fun _ => Q .next) E s₂) E s₁) E s)
    (hs : swapsWithSole [.Tuple elts k tpos] value pos.line env = pure false := by rfl)
    (hw : swappedStores [.Tuple elts k tpos] value env = pure (some names) := by rfl) :
    wpG M A (exec (.Assign [.Tuple elts k tpos] value pos) env) Q E s := by
  rw [exec_Assign]
  refine wpG_standAt ?_
  rw [hs]
  refine wpG_bind (wpG_pure ?_)
  rw [if_neg (by decide)]
  refine wpG_bind (wpG_mono h (fun v s₁ h₁ => ?_) fun _ _ x => x)
  rw [hw]
  refine wpG_bind (wpG_pure (wpG_of_any ?_))
  show wpAny M A (do rule "assign.swapped-stores"; let items ← unpackItems v names.length none; assignInOrder (names.reverse.map fun n => bindName env n) items.reverse; pure .next) Q E s₁
  exact wpAny_bind (wpAny_rule (wpAny_bind (wpAny_mono h₁ (fun items s₂ h₂ => wpAny_bind (wpAny_mono h₂ (fun _ _ x => wpAny_pure x) fun _ _ x => x)) fun _ _ x => x)))
theorem wpG_isTrue_or_nil {pos : Pos} {whole : Sem Value} {Q : Bool → Shared → Prop} (h : Q false s) : wpG M A (isTrue (.BoolOp .Or [] pos) env whole) Q E s := by
  show wpG M A (pure false) Q E s
  exact wpG_pure h
theorem wpG_execs_nil {Q : Flow → Shared → Prop} (h : Q .next s) : wpG M A (execs [] env) Q E s := by
  rw [execs_nil]; exact wpG_pure h
theorem wpG_stmtG {st : Stmt} {rest : List Stmt} {Q : Flow → Shared → Prop}
    (h : ∀ (QQ : Flow → Shared → Prop) (EE : Value → Shared → Prop), (∀ s', wpG M A (execs rest env) Q E s' → QQ .next s') → (∀ v s', Q (.ret v) s' → QQ (.ret v) s') → wpG M A (exec st env) QQ EE s) :
    wpG M A (execs (st :: rest) env) Q E s :=
  wpG_execs_cons (h (fun f s' => match f with | .next => wpG M A (execs rest env) Q E s' | f => Q f s') E (fun _ h => h) (fun _ _ h => h))
end
local macro_rules | `(tactic| walk_at "binaryOp Mult ref int") => `(tactic| (k_here; (with_reducible show wpAny _ _ (binaryOp Operator.Mult (Value.ref _) (Value.int _ _)) _ _ _); (refine mul0 (by k_asm) (by k_asm) (by is_list) (by omega) (by omega) ?_); (intro D' h' vs' F' N' l1 i1 n1); (try k_lt l1)))
section
variable {prog : Program} {w : World} {A : Around} {E : Value → Shared → Prop} {s : Shared} {env : Env} {Q : Flow → Shared → Prop} {rest : List Stmt} {h₀ : Heap} {L : Addr} {m : Str → Option Value} {news : List (Addr × Obj)}
theorem cutT {Th Fg cl c1 c2 : Addr} {oc oc1 oc2 T44 T37 : Obj} {ys : List Value} {k : Nat} {a b c bits many B : Int} {ta tb tc t1 t2 tq1 tq2 tbs : Tok} {cv1 cv2 : Array Value}
    (F : Fr h₀ L s.heap m) (N : News h₀ L s.heap news)
    (m1 : m (Str.ofString "three") = some (.ref Th)) (m2 : m (Str.ofString "bits") = some (.int bits t1)) (m3 : m (Str.ofString "many") = some (.int many t2)) (m4 : m (Str.ofString "figures") = some (.ref Fg))
    (n0 : (Th, W.listOf #[.int a ta, .int b tb, .int c tc] 0) ∈ news) (n1 : (Fg, W.listOf ys.toArray k) ∈ news) (n2 : (cl, oc) ∈ news) (n3 : (44, T44) ∈ news) (n4 : (37, T37) ∈ news) (n5 : (c1, oc1) ∈ news) (n6 : (c2, oc2) ∈ news)
    (_v1 : cv1[1]? = some (.str (Str.ofString "_int2digits.<locals>.inner") tq1)) (_d1 : oc1.data = .fields cv1) (_v2 : cv2[1]? = some (.str (Str.ofString "_digits2int.<locals>.inner") tq2)) (_d2 : oc2.data = .fields cv2) (_d3 : oc.data = .cell (some (.int B tbs)))
    (hr : (0 ≤ a ∧ a < B) ∧ (0 ≤ b ∧ b < B) ∧ (0 ≤ c ∧ c < B))
    (H : ∀ (Th : Addr) (vs3 : List Value) (a b c : Int) (m₀ : Str → Option Value) (h : Heap) (tk : Nat), IntsAre vs3 [a, b, c] → (0 ≤ a ∧ a < B) → (0 ≤ b ∧ b < B) → (0 ≤ c ∧ c < B) → (∀ x ∈ [a, b, c], 0 ≤ x ∧ x < B) → 
      Fr h₀ L h (fun y => if y = Str.ofString "three" then some (.ref Th) else if y = Str.ofString "figures" then some (.ref Fg) else if y = Str.ofString "many" then some (.int many t2) else if y = Str.ofString "bits" then some (.int bits t1) else m₀ y) →
      News h₀ L h [(Th, W.listOf vs3.toArray 0), (Fg, W.listOf ys.toArray k), (c1, oc1), (c2, oc2), (cl, oc), (44, T44), (37, T37)] →
      wpG (model prog w) A (execs rest env) Q E { s with heap := h, toks := tk }) :
    wpG (model prog w) A (execs rest env) Q E s := by
  have e : (fun y => if y = Str.ofString "three" then some (.ref Th) else if y = Str.ofString "figures" then some (.ref Fg) else if y = Str.ofString "many" then some (.int many t2) else if y = Str.ofString "bits" then some (.int bits t1) else m y) = m := by
    funext y
    by_cases e1 : y = Str.ofString "three"
    · rw [if_pos e1, e1]; exact m1.symm
    · rw [if_neg e1]
      by_cases e2 : y = Str.ofString "figures"
      · rw [if_pos e2, e2]; exact m4.symm
      · rw [if_neg e2]
        by_cases e3 : y = Str.ofString "many"
        · rw [if_pos e3, e3]; exact m3.symm
        · rw [if_neg e3]
          by_cases e4 : y = Str.ofString "bits"
          · rw [if_pos e4, e4]; exact m2.symm
          · rw [if_neg e4]
  refine H Th [.int a ta, .int b tb, .int c tc] a b c m s.heap s.toks (.cons _ _ (.cons _ _ (.cons _ _ .nil))) hr.1 hr.2.1 hr.2.2 ?_ (by rw [e]; exact F) (fun p hp => N p ?_)
  · intro x hx
    simp only [List.mem_cons, List.not_mem_nil, or_false] at hx
    rcases hx with rfl | rfl | rfl
    · exact hr.1
    · exact hr.2.1
    · exact hr.2.2
  · simp only [List.mem_cons, List.not_mem_nil, or_false] at hp
    rcases hp with rfl | rfl | rfl | rfl | rfl | rfl | rfl
    · exact n0
    · exact n1
    · exact n5
    · exact n6
    · exact n2
    · exact n3
    · exact n4
theorem wpG_stmtGF {st : Stmt} (F : Fr h₀ L s.heap m) (N : News h₀ L s.heap news)
    (hk : ∀ h' tk fo lo, Fr h₀ L h' (fun y => if y = Str.ofString "left" then lo else if y = Str.ofString "far" then fo else m y) → News h₀ L h' news → wpG (model prog w) A (execs rest env) Q E { s with heap := h', toks := tk })
    (h : ∀ (QQ : Flow → Shared → Prop) (EE : Value → Shared → Prop), (∀ h' tk, Fr h₀ L h' m → News h₀ L h' news → QQ .next { s with heap := h', toks := tk }) →
      (∀ h' tk fo l1 l2, Fr h₀ L h' (fun y => if y = Str.ofString "left" then l2 else if y = Str.ofString "left" then l1 else if y = Str.ofString "far" then fo else m y) → News h₀ L h' news → QQ .next { s with heap := h', toks := tk }) → wpG (model prog w) A (exec st env) QQ EE s) :
    wpG (model prog w) A (execs (st :: rest) env) Q E s := by
  refine wpG_execs_cons (h (fun f s' => match f with | .next => wpG (model prog w) A (execs rest env) Q E s' | f => Q f s') E (fun h' tk F' N' => hk h' tk (m (Str.ofString "far")) (m (Str.ofString "left")) ?_ N') (fun h' tk fo l1 l2 F' N' => hk h' tk fo l2 ?_ N'))
  · have e : (fun y => if y = Str.ofString "left" then m (Str.ofString "left") else if y = Str.ofString "far" then m (Str.ofString "far") else m y) = m := by
      funext y
      by_cases e1 : y = Str.ofString "left"
      · rw [if_pos e1, e1]
      · rw [if_neg e1]
        by_cases e2 : y = Str.ofString "far"
        · rw [if_pos e2, e2]
        · rw [if_neg e2]
    rw [e]; exact F'
  · have e : (fun y => if y = Str.ofString "left" then l2 else if y = Str.ofString "left" then l1 else if y = Str.ofString "far" then fo else m y) = (fun y => if y = Str.ofString "left" then l2 else if y = Str.ofString "far" then fo else m y) := by
      funext y
      by_cases e1 : y = Str.ofString "left"
      · rw [if_pos e1, if_pos e1]
      · rw [if_neg e1, if_neg e1, if_neg e1]
    rw [← e]; exact F'
end
theorem getD_range {ns : List Int} {B : Int} {i : Nat} (hr : ∀ x ∈ ns, 0 ≤ x ∧ x < B) (h : i < ns.length) : 0 ≤ ns.getD i 0 ∧ ns.getD i 0 < B := by
  rw [List.getD_eq_getElem?_getD, List.getElem?_eq_getElem h]
  exact hr _ (List.getElem_mem h)
theorem fmod_range {x B : Int} (hB : 0 < B) : 0 ≤ x.fmod B ∧ x.fmod B < B := by
  rw [fm hB]; exact ⟨Int.emod_nonneg _ (by omega), Int.emod_lt_of_pos _ hB⟩
set_option maxHeartbeats 8000000 in
theorem law_t : PySem.Challenge.rw_gb0002_01.Holds := hd (by
  k_fill
  intro w s₀ s₁ mg mb G Y fa o pm cd doc dV kV ho hd hcd hD hmg hg args vals as hpre hlay hrd hwl hlo
  have KX := km_in_of Y
  km_tabs Y
  have X := (Ground.X G).1
  have V := (Ground.X G).2
  refine Ground.open G ?_
  intro T B D TE TW
  try (refine guard_noD D (by decide +kernel) ?_; clear D)
  km_lay T hmg ho hd cd
  clear hmg
  wrow_args hpre hlay hrd hwl hlo
  refine enter_callG ?_
  w_top on
  refine kn_postG hT9 (fun _ _ => rfl) ?_
  have he := Dflts.none hD rfl; subst he; have he := Dflts.noKw hD; subst he
  refine call_cellsG (by decide) ho (fd_plain hd) (Top.nolimit T) hcd rfl (kinds_of (by kinds_ok)) (by decide) fun h₁ tk₁ cells F N0 X0 => ?_
  cells_open X0
  clear hd
  kn_ghosts F T
  k_drop
  try clear G
  try clear Y
  try clear X
  try clear V
  try clear B
  try clear TE
  try clear TW
  try clear hT8
  refine top_cut (fun h' => (∀ b o, (ghostOf s₁.heap [(48, 44), (41, 37)]).get? b = some o → h'.get? b = some o) ∧ GrownAt 44 h' ∧ GrownAt 37 h') ?_ ?_
  · rintro h' tk ⟨hk, g1, g2⟩
    refine ⟨⟨.inl ⟨.bool true, .bool true, [], rfl, ?_, ?_, ?_, ?_⟩, hk, rfl, hg⟩, g1, g2, trivial⟩
    · intro _; rfl
    · first | exact .bool _ | constructor
    · first | with_unfolding_all rfl | wrow_close
    · intro _; exact ⟨List.nodup_nil, fun _ h => nomatch h⟩
  intro R' hend
  refine wpG_stmt fun QQ1 EE1 hN1 hR1 _ => ?_
  walk_at "g_steps"
  refine hN1 _ ?_; clear hN1 hR1
  try dsimp only
  refine wpG_stmt fun QQ1 EE1 hN1 hR1 _ => ?_
  walk_at "g_steps"
  refine hN1 _ ?_; clear hN1 hR1
  try dsimp only
  refine wpG_stmt fun QQ1 EE1 hN1 hR1 _ => ?_
  walk_at "g_steps"
  refine hN1 _ ?_; clear hN1 hR1
  try dsimp only
  refine wpG_stmt fun QQ1 EE1 hN1 hR1 _ => ?_
  k_dflt (refine LCg.Assign_ListComp_U (F₀ := by k_asm) (by rfl) (by with_unfolding_all rfl) (by with_unfolding_all rfl) (by decide) (by rfl) (by decide) (by rfl) (by rfl) (by rfl) ?_)
  walk_at "g_steps"
  refine hN1 _ ?_; clear hN1 hR1
  try dsimp only
  refine' cutL ?F ?N ?m1 ?m2 ?m3 ?m4 ?n1 ?n2 ?n3 ?n4 ?hoc ?o1 ?o2 ?o3 (bits_ok _) (many_ok _) ?hi (take_facts (pow2_pos _) (many_ok _)) ?H
  (case F => k_asm)
  (case N => k_asm)
  (case m1 => with_unfolding_all rfl)
  (case m2 => with_unfolding_all rfl)
  (case m3 => with_unfolding_all rfl)
  (case m4 => with_unfolding_all rfl)
  (case n1 => exact .head _)
  (case hoc => assumption)
  (case n2 => k_mem)
  (case n3 => k_mem)
  (case n4 => k_mem)
  (case o1 => (refine neN ?_; (try dsimp only); omega))
  (case o2 => (refine neN ?_; (try dsimp only); omega))
  (case o3 => (refine neN ?_; (try dsimp only); omega))
  (case hi => assumption)
  (case H =>
  have keep : Unit → ((44 : Nat) < s₁.heap.objs.size ∧ (37 : Nat) < s₁.heap.objs.size) := fun _ => by assumption
  intro Fg oc ys ns bits many t1 t2 tb m₀ hh tk hoc o1 o2 o3 hbits hmany hi hlen hrange F9 N9
  (((repeat (rename (@LT.lt Nat _ _ _ ∧ _) => zz; clear zz)); (repeat (rename (@Ne Nat _ _ ∧ _) => zz; clear zz))))
  (((repeat (rename (@Eq Nat (List.length _) _) => zz; clear zz)); (repeat (rename (@LE.le Nat _ (List.length _) _) => zz; clear zz)); (repeat (rename (@LT.lt Int _ (Int.fmod _ _) _) => zz; clear zz)); (repeat (rename (@LE.le Int _ 0 (Int.fmod _ _)) => zz; clear zz))))
  have l0 := keep ⟨⟩
  clear keep
  obtain ⟨hb18, hb08, hB16, hBp, hBm⟩ := base_all hbits
  have hl6 : ns.length ≤ 6 := by omega
  have hl8 : ns.length ≤ 8 := by omega
  have hl0 : 0 < ns.length := by omega
  have hl2 : 1 < ns.length := by omega
  have hby : ∀ x ∈ ns, 0 ≤ x ∧ x < 256 := fun x hx => ⟨(hrange x hx).1, Int.lt_of_lt_of_le (hrange x hx).2 (Int.le_trans hB16.2 (by decide))⟩
  refine wpG_stmtG fun QQ1 EE1 hN1 hR1 => ?_
  refine wpG_Assign_Swap ?_
  refine wpG_Tuple ?_
  refine wpG_args_cons (wpG_of_any ?_)
  walk_at "g_steps"
  ((k_here; (with_reducible show wpAny _ _ (call (Value.ref 49) _) _ _ _); k_dflt (refine' d2i_fresh _ ?qB_19 ?qF_19 ?qX_19 ?qN_19 ?qT_19 ?qK_19 ?qC_19 ?ql_19 ?qi_19 ?qlen_19 ?qn_19 ?qdig_19 ?qP_19 ?qU_19 (gm_of ?qU_19 ?ql2_19 ?qne_19) (gl_of ?qU_19) ?qd_19 ?qu_19 ?qret_19; (case qB_19 => k_asm); (case qF_19 => k_asm); (case qX_19 => k_asm); (case qN_19 => k_asm); (case qT_19 => k_asm); (case qK_19 => first | exact rfl | assumption); (case qC_19 => assumption); (case ql_19 => k_mem); (case qi_19 => assumption); (case qlen_19 => (first | assumption | omega)); (case qn_19 => (first | assumption | (refine ⟨?_, ?_⟩ <;> omega) | omega)); (case qdig_19 => assumption); (case qP_19 => k_mem); (case qU_19 => k_updF); (case ql2_19 => k_mem); (case qne_19 => (refine neN ?_; (try dsimp only); omega)); (case qd_19 => ((try dsimp only [Around.deeper]); first | decide | (simp only [recursionLimit] at *; omega))); (case qu_19 => ((try dsimp only [Around.deeper]); first | decide | omega))); intro c9 oc9 cv9 tq9 hcd9 hcv9 lt9 t9 h9 tk9 F9 N9; (try dsimp only at N9); (try k_lt lt9); (try dsimp only)))
  refine wpG_args_cons ?_
  refine wpG_Call ?_
  walk_at "g_steps"
  refine wpG_callWith_K (K := hd.heap_39 w.params) (by assumption) rfl ?_
  refine wpG_args_cons ?_
  refine wpG_Call ?_
  walk_at "g_steps"
  refine wpG_callWith_K (K := hd.heap_39 w.params) (by assumption) rfl ?_
  refine wpG_args_cons (wpG_of_any ?_)
  walk_at "g_steps"
  refine wpG_args_nil ?_
  refine ⟨Frag.In.keeps (by k_asm) (Fr.keep (by k_asm)), ?_⟩
  ((k_dflt (refine' turned _ ?qB_25 ?qF_25 ?qX_25 ?qN_25 ?qT_25 ?qK_25 ?ql_25 ?qi_25 ?qlen_25 ?qlen0_25 ?qdig_25 ?qd_25 ?qu_25 ?qret_25; (case qB_25 => k_asm); (case qF_25 => k_asm); (case qX_25 => k_asm); (case qN_25 => k_asm); (case qT_25 => k_asm); (case qK_25 => first | exact rfl | assumption); (case ql_25 => k_mem); (case qi_25 => assumption); (case qlen_25 => (first | assumption | omega)); (case qlen0_25 => (first | assumption | omega)); (case qdig_25 => assumption); (case qd_25 => ((try dsimp only [Around.deeper]); first | decide | (simp only [recursionLimit] at *; omega))); (case qu_25 => ((try dsimp only [Around.deeper]); first | decide | omega))); intro D9 h9 tk9 vs9 k9 F9 N9 l9 i9; (replace l9 := neAllN l9); (try simp only [List.mem_cons, List.not_mem_nil, or_false, forall_eq_or_imp, forall_eq] at l9); (try dsimp only)))
  refine wpG_args_cons (wpG_of_any ?_)
  walk_at "g_steps"
  refine wpG_args_nil ?_
  refine ⟨Frag.In.keeps (by k_asm) (Fr.keep (by k_asm)), wpG_of_any ?_⟩
  have hrev : ∀ x ∈ ns.reverse, 0 ≤ x ∧ x < 2 ^ bits.toNat := fun x hx => hrange x (List.mem_reverse.mp hx)
  have hlrev : ns.reverse.length ≤ 8 := by rw [List.length_reverse]; exact hl8
  ((k_here; (with_reducible show wpAny _ _ (call (Value.ref 49) _) _ _ _); k_dflt (refine' d2i_hit _ ?qB_20 ?qF_20 ?qX_20 ?qN_20 ?qT_20 ?qK_20 ?qC_20 ?ql_20 ?qi_20 ?qlen_20 ?qn_20 ?qdig_20 ?qP_20 ?qc_20 ?qcd_20 ?qcv_20 ?qd_20 ?qu_20 ?qret_20; (case qB_20 => k_asm); (case qF_20 => k_asm); (case qX_20 => k_asm); (case qN_20 => k_asm); (case qT_20 => k_asm); (case qK_20 => first | exact rfl | assumption); (case qC_20 => assumption); (case ql_20 => k_mem); (case qi_20 => assumption); (case qlen_20 => (first | assumption | omega)); (case qn_20 => (first | assumption | (refine ⟨?_, ?_⟩ <;> omega) | omega)); (case qdig_20 => assumption); (case qP_20 => k_mem); (case qc_20 => k_mem); (case qcd_20 => assumption); (case qcv_20 => assumption); (case qd_20 => ((try dsimp only [Around.deeper]); first | decide | (simp only [recursionLimit] at *; omega))); (case qu_20 => ((try dsimp only [Around.deeper]); first | decide | omega))); intro t9 h9 tk9 F9 N9; (try dsimp only)))
  refine wpG_args_nil ?_
  walk_at "g_steps"
  refine hN1 _ ?_; clear hN1 hR1
  try dsimp only
  refine wpG_stmtG fun QQ1 EE1 hN1 hR1 => ?_
  refine wpG_If ?_
  refine wpG_isTrue_or ?_
  refine wpG_isTrue_Compare1 ?_
  refine wpG_Call ?_
  walk_at "g_steps"
  refine wpG_callWith_K (K := hd.heap_39 w.params) (by assumption) rfl ?_
  refine wpG_args_cons (wpG_of_any ?_)
  walk_at "g_steps"
  refine wpG_args_nil ?_
  refine ⟨Frag.In.keeps (by k_asm) (Fr.keep (by k_asm)), ?_⟩
  ((k_dflt (refine' turned _ ?qB_26 ?qF_26 ?qX_26 ?qN_26 ?qT_26 ?qK_26 ?ql_26 ?qi_26 ?qlen_26 ?qlen0_26 ?qdig_26 ?qd_26 ?qu_26 ?qret_26; (case qB_26 => k_asm); (case qF_26 => k_asm); (case qX_26 => k_asm); (case qN_26 => k_asm); (case qT_26 => k_asm); (case qK_26 => first | exact rfl | assumption); (case ql_26 => k_mem); (case qi_26 => assumption); (case qlen_26 => (first | assumption | omega)); (case qlen0_26 => (first | assumption | omega)); (case qdig_26 => assumption); (case qd_26 => ((try dsimp only [Around.deeper]); first | decide | (simp only [recursionLimit] at *; omega))); (case qu_26 => ((try dsimp only [Around.deeper]); first | decide | omega))); intro D9 h9 tk9 vs9 k9 F9 N9 l9 i9; (replace l9 := neAllN l9); (try simp only [List.mem_cons, List.not_mem_nil, or_false, forall_eq_or_imp, forall_eq] at l9); (try dsimp only)))
  walk_at "g_steps"
  refine wpG_isTrue_or ?_
  refine wpG_isTrue_Compare1R ?_
  walk_at "g_steps"
  refine wpG_Call ?_
  walk_at "g_steps"
  refine wpG_callWith_builtin ?_
  refine wpG_args_cons (wpG_of_any ?_)
  refine' enum_ListComp (l := Fg) (ns := ns) (fun i c => c * (2 ^ bits.toNat) ^ i) ?hh ?F ?N ?hml hi ?hsz ?hclos ?hcell ?hkind ?hnames ?hxa ?hxb ?hab ?hiter ?G ?h ?hs
  (case hh => exact rfl)
  (case F => k_asm)
  (case N => k_asm)
  (case hml => k_mem)
  (case hsz => (rw [sizeLine_eq, ints_len hi]; omega))
  (case hclos => with_unfolding_all rfl)
  (case hcell => decide)
  (case hkind => rfl)
  (case hnames => decide)
  (case hxa => rfl)
  (case hxb => rfl)
  (case hab => decide)
  (case hs => (intro _; rfl))
  (case hiter =>
    intro QQ hq
    walk_at "g_steps"
    exact hq)
  (case G =>
    rintro s₂ - ⟨h6, tk6, rfl⟩
    intro i c t t' C oC m₂ h tk QQ E' hc hoC ha hb F6 N6 hQ
    have hi6 : i < ns.length := by
      rcases Nat.lt_or_ge i ns.length with q | q
      · exact q
      · rw [List.getElem?_eq_none q] at hc; cases hc
    have hcr := hrange c (List.mem_of_getElem? hc)
    walk_at "g_steps"
    exact hQ _ _)
  (case h =>
    intro D h6 tk6 vs6 F6 N6 l6 i6
    replace l6 := neAllN l6
    (try simp only [List.mem_cons, List.not_mem_nil, or_false, forall_eq_or_imp, forall_eq] at l6)
    refine wpG_args_nil (wpG_of_any ?_)
    refine sum_ints rfl F6 N6 (.head _) i6 fun h7 tk7 t7 F7 N7 => ?_
    rw [dval_sum0]
    walk_at "g_steps"
    · exact absurd rfl (by assumption)
    refine wpG_isTrue_or_nil ?_
    try dsimp only
    rw [if_neg (by decide)]
    refine wpG_execs_nil ?_
    refine hN1 _ ?_; clear hN1 hR1
    try dsimp only
    have hd60 := dval_24 hl6 hbits hrange
    refine wpG_stmt fun QQ1 EE1 hN1 hR1 _ => ?_
    walk_at "g_steps"
    ((k_here; (with_reducible show wpAny _ _ (call (Value.ref 42) _) _ _ _); k_dflt (refine' i2d_fresh _ ?qB_31 ?qF_31 ?qX_31 ?qN_31 ?qT_31 ?qK_31 ?qC_31 ?qx_31 ?qn_31 ?qP_31 ?qU_31 (gl_of ?qU_31) ?qd_31 ?qu_31 ?qret_31; (case qB_31 => k_asm); (case qF_31 => k_asm); (case qX_31 => k_asm); (case qN_31 => k_asm); (case qT_31 => k_asm); (case qK_31 => first | exact rfl | assumption); (case qC_31 => assumption); (case qx_31 => (first | assumption | (refine ⟨?_, ?_⟩ <;> omega) | omega)); (case qn_31 => (first | assumption | (refine ⟨?_, ?_⟩ <;> omega) | omega)); (case qP_31 => k_mem); (case qU_31 => k_updF); (case qd_31 => ((try dsimp only [Around.deeper]); first | decide | (simp only [recursionLimit] at *; omega))); (case qu_31 => ((try dsimp only [Around.deeper]); first | decide | omega))); intro c9 oc9 cv9 tq9 hcd9 hcv9 lt9 D9 vs9 h9 tk9 F9 N9 lc9 l9 i9; (try dsimp only at N9); (try k_lt lt9); (try k_lt l9); (try dsimp only)))
    walk_at "g_steps"
    refine hN1 _ ?_; clear hN1 hR1
    try dsimp only
    (((repeat (rename (@LT.lt Nat _ _ _ ∧ _) => zz; clear zz)); (repeat (rename (@Ne Nat _ _ ∧ _) => zz; clear zz))))
    obtain ⟨hD6, hte⟩ := told_all hlen hbits hmany hrange
    generalize digs (2 ^ bits.toNat) (cnt bits (dval (2 ^ bits.toNat) ns)).toNat (dval (2 ^ bits.toNat) ns) = D0 at *
    refine wpG_stmt fun QQ1 EE1 hN1 hR1 _ => ?_
    walk_at "g_steps"
    refine hN1 _ ?_; clear hN1 hR1
    try dsimp only
    clear hte hD6 hd60
    (((repeat (rename (@LT.lt Nat _ _ _ ∧ _) => zz; clear zz)); (repeat (rename (@Ne Nat _ _ ∧ _) => zz; clear zz))))
    obtain ⟨hS, hA, hcA, hcB, hcC, hrA, hrB, hrC⟩ := facts_xy hlen hbits hmany hrange
    refine wpG_stmtM (by k_asm) (by k_asm) ?_ fun QQ1 EE1 hN1 => ?_
    · intro h5 tk5 F5 N5
      try dsimp only
      refine wpG_stmtM (by k_asm) (by k_asm) ?_ fun QQ1 EE1 hN1 => ?_
      · intro h6 tk6 F6 N6
        clear hS hA hcA hcB hcC hrA hrB hrC
        (((repeat (rename (@LT.lt Nat _ _ _ ∧ _) => zz; clear zz)); (repeat (rename (@Ne Nat _ _ ∧ _) => zz; clear zz))))
        try dsimp only
        refine wpG_stmt fun QQ1 EE1 hN1 hR1 _ => ?_
        walk_at "g_steps"
        refine hN1 _ ?_; clear hN1 hR1
        try dsimp only
        refine' cutT (B := 2 ^ bits.toNat) ?F ?N ?m1 ?m2 ?m3 ?m4 ?n0 ?n1 ?n2 ?n3 ?n4 ?n5 ?n6 ?v1 ?d1 ?v2 ?d2 ?d3 ⟨getD_range hrange ?g0, getD_range hrange ?g1, fmod_range (pow2_pos _)⟩ ?H2
        (case F => k_asm)
        (case N => k_asm)
        (case m1 => with_unfolding_all rfl)
        (case m2 => with_unfolding_all rfl)
        (case m3 => with_unfolding_all rfl)
        (case m4 => with_unfolding_all rfl)
        (case v1 => assumption)
        (case d1 => assumption)
        (case v2 => assumption)
        (case d2 => assumption)
        (case d3 => assumption)
        (case n0 => k_mem)
        (case n1 => k_mem)
        (case n2 => k_mem)
        (case n3 => k_mem)
        (case n4 => k_mem)
        (case n5 => k_mem)
        (case n6 => k_mem)
        (case g0 => (simp only [Int.toNat_zero]; exact hl0))
        (case g1 => exact hl2)
        (case H2 =>
        intro Th vs3 a b c m₁ h7 tk7 i3 hra hrb hrc hr3 F7 N7
        try dsimp only
        have hr3r : ∀ x ∈ [a, b, c].reverse, 0 ≤ x ∧ x < 2 ^ bits.toNat := fun x hx => hr3 x (List.mem_reverse.mp hx)
        have hby3 : ∀ x ∈ [a, b, c], 0 ≤ x ∧ x < 256 := fun x hx => ⟨(hr3 x hx).1, Int.lt_of_lt_of_le (hr3 x hx).2 (Int.le_trans hB16.2 (by decide))⟩
        have hl3 : [a, b, c].length = 3 := rfl
        have hl3r : [a, b, c].reverse.length = 3 := rfl
        refine wpG_stmtGF (by k_asm) (by k_asm) ?_ fun QQ1 EE1 hN1 hN2 => ?_
        · intro h8 tk8 fo lo F8 N8
          try dsimp only
          (((repeat (rename (@LT.lt Nat _ _ _ ∧ _) => zz; clear zz)); (repeat (rename (@Ne Nat _ _ ∧ _) => zz; clear zz))))
          obtain ⟨hH0, hH3, hHg, hMl, hMr, hMt, hMg, hMd, hMc, hMe⟩ := half_all hlen hbits hmany hrange
          have hk0 : 0 ≤ (many + 1).fdiv 2 := by rw [Int.fdiv_eq_ediv_of_nonneg _ (by decide)]; omega
          have hfm2 : 0 ≤ many.fmod 2 ∧ many.fmod 2 < 2 := by rw [fm (by decide)]; exact ⟨Int.emod_nonneg _ (by decide), Int.emod_lt_of_pos _ (by decide)⟩
          refine wpG_stmt fun QQ1 EE1 hN1 hR1 _ => ?_
          walk_at "g_steps"
          refine hN1 _ ?_; clear hN1 hR1
          try dsimp only
          generalize List.take ((many + 1).fdiv 2).toNat ns = H at *
          clear hk0
          have hHb : ∀ x ∈ H, 0 ≤ x ∧ x < 256 := fun x hx => ⟨(hHg x hx).1, Int.lt_of_lt_of_le (hHg x hx).2 (Int.le_trans hB16.2 (by decide))⟩
          have hHlr : H.reverse.length = H.length := List.length_reverse
          have hH6 : H.length ≤ 6 := Nat.le_trans hH3 (by decide)
          refine wpG_stmtG fun QQ1 EE1 hN1 hR1 => ?_
          refine wpG_Assign_Name ?_
          refine wpG_BinOp ?_
          walk_at "g_steps"
          refine wpG_Subscript ?_
          refine wpG_Call ?_
          walk_at "g_steps"
          refine wpG_callWith_K (K := hd.heap_39 w.params) (by assumption) rfl ?_
          refine wpG_args_cons (wpG_of_any ?_)
          walk_at "g_steps"
          refine wpG_args_nil ?_
          refine ⟨Frag.In.keeps (by k_asm) (Fr.keep (by k_asm)), ?_⟩
          ((k_dflt (refine' turned _ ?qB_27 ?qF_27 ?qX_27 ?qN_27 ?qT_27 ?qK_27 ?ql_27 ?qi_27 ?qlen_27 ?qlen0_27 ?qdig_27 ?qd_27 ?qu_27 ?qret_27; (case qB_27 => k_asm); (case qF_27 => k_asm); (case qX_27 => k_asm); (case qN_27 => k_asm); (case qT_27 => k_asm); (case qK_27 => first | exact rfl | assumption); (case ql_27 => k_mem); (case qi_27 => assumption); (case qlen_27 => (first | assumption | omega)); (case qlen0_27 => (first | assumption | omega)); (case qdig_27 => assumption); (case qd_27 => ((try dsimp only [Around.deeper]); first | decide | (simp only [recursionLimit] at *; omega))); (case qu_27 => ((try dsimp only [Around.deeper]); first | decide | omega))); intro D9 h9 tk9 vs9 k9 F9 N9 l9 i9; (replace l9 := neAllN l9); (try simp only [List.mem_cons, List.not_mem_nil, or_false, forall_eq_or_imp, forall_eq] at l9); (try dsimp only)))
          walk_at "g_steps"
          refine hN1 _ ?_; clear hN1 hR1
          try dsimp only
          generalize H ++ List.drop (many.fmod 2).toNat H.reverse = M at *
          (((repeat (rename (@LT.lt Nat _ _ _ ∧ _) => zz; clear zz)); (repeat (rename (@Ne Nat _ _ ∧ _) => zz; clear zz))))
          have hM6 : M.length ≤ 6 := by omega
          have hM8 : M.length ≤ 8 := by omega
          have hM0 : 0 < M.length := by omega
          have hMb : ∀ x ∈ M, 0 ≤ x ∧ x < 256 := fun x hx => ⟨(hMg x hx).1, Int.lt_of_lt_of_le (hMg x hx).2 (Int.le_trans hB16.2 (by decide))⟩
          refine wpG_stmtG fun QQ1 EE1 hN1 hR1 => ?_
          refine wpG_If ?_
          refine wpG_isTrue_or (wpG_of_any ?_)
          walk_at "g_steps"
          all_goals (try (exact absurd hMl (by assumption)))
          refine wpG_isTrue_or ?_
          refine wpG_isTrue_Compare1 ?_
          refine wpG_Call ?_
          walk_at "g_steps"
          refine wpG_callWith_K (K := hd.heap_39 w.params) (by assumption) rfl ?_
          refine wpG_args_cons (wpG_of_any ?_)
          walk_at "g_steps"
          refine wpG_args_nil ?_
          refine ⟨Frag.In.keeps (by k_asm) (Fr.keep (by k_asm)), ?_⟩
          ((k_dflt (refine' turned _ ?qB_28 ?qF_28 ?qX_28 ?qN_28 ?qT_28 ?qK_28 ?ql_28 ?qi_28 ?qlen_28 ?qlen0_28 ?qdig_28 ?qd_28 ?qu_28 ?qret_28; (case qB_28 => k_asm); (case qF_28 => k_asm); (case qX_28 => k_asm); (case qN_28 => k_asm); (case qT_28 => k_asm); (case qK_28 => first | exact rfl | assumption); (case ql_28 => k_mem); (case qi_28 => assumption); (case qlen_28 => (first | assumption | omega)); (case qlen0_28 => (first | assumption | omega)); (case qdig_28 => assumption); (case qd_28 => ((try dsimp only [Around.deeper]); first | decide | (simp only [recursionLimit] at *; omega))); (case qu_28 => ((try dsimp only [Around.deeper]); first | decide | omega))); intro D9 h9 tk9 vs9 k9 F9 N9 l9 i9; (replace l9 := neAllN l9); (try simp only [List.mem_cons, List.not_mem_nil, or_false, forall_eq_or_imp, forall_eq] at l9); (try dsimp only)))
          walk_at "g_steps"
          all_goals (try (exact absurd hMr (by assumption)))
          refine wpG_isTrue_or (wpG_of_any ?_)
          walk_at "g_steps"
          all_goals (try (exact absurd hMt (by assumption)))
          refine wpG_isTrue_or_nil ?_
          try dsimp only
          rw [if_neg (by decide)]
          refine wpG_execs_nil ?_
          refine hN1 _ ?_; clear hN1 hR1
          try dsimp only
          refine wpG_stmt fun QQ1 EE1 hN1 hR1 _ => ?_
          walk_at "g_steps"
          ((k_here; (with_reducible show wpAny _ _ (call (Value.ref 49) _) _ _ _); k_dflt (refine' d2i_hit _ ?qB_21 ?qF_21 ?qX_21 ?qN_21 ?qT_21 ?qK_21 ?qC_21 ?ql_21 ?qi_21 ?qlen_21 ?qn_21 ?qdig_21 ?qP_21 ?qc_21 ?qcd_21 ?qcv_21 ?qd_21 ?qu_21 ?qret_21; (case qB_21 => k_asm); (case qF_21 => k_asm); (case qX_21 => k_asm); (case qN_21 => k_asm); (case qT_21 => k_asm); (case qK_21 => first | exact rfl | assumption); (case qC_21 => assumption); (case ql_21 => k_mem); (case qi_21 => assumption); (case qlen_21 => (first | assumption | omega)); (case qn_21 => (first | assumption | (refine ⟨?_, ?_⟩ <;> omega) | omega)); (case qdig_21 => assumption); (case qP_21 => k_mem); (case qc_21 => k_mem); (case qcd_21 => assumption); (case qcv_21 => assumption); (case qd_21 => ((try dsimp only [Around.deeper]); first | decide | (simp only [recursionLimit] at *; omega))); (case qu_21 => ((try dsimp only [Around.deeper]); first | decide | omega))); intro t9 h9 tk9 F9 N9; (try dsimp only)))
          walk_at "g_steps"
          refine hN1 _ ?_; clear hN1 hR1
          try dsimp only
          refine wpG_stmt fun QQ1 EE1 hN1 hR1 _ => ?_
          walk_at "g_steps"
          · rename (many.fmod 2 = 1) => hm1
            refine hR1 _ _ ?_
            rw [show (many.fmod 2 == 1) = true by rw [hm1]; rfl]
            exact hend _ _ ⟨Fr.keep (by k_asm), GrownAt.of (by k_asm) (by k_mem), GrownAt.of (by k_asm) (by k_mem)⟩
          rename (many.fmod 2 ≠ 1) => hm1
          have hMe2 := hMe hm1
          ((k_here; (with_reducible show wpAny _ _ (call (Value.ref 63) _) _ _ _); k_dflt (refine' idivmod _ ?qB_38 ?qF_38 ?qX_38 ?qN_38 ?qT_38 ?qK_38 ?qC_38 ?qC2_38 ?qP_38 ?qc_38 ?qcd_38 ?qcv_38 ?qP2_38 ?qc2_38 ?qcd2_38 ?qcv2_38 ?qx_38 ?qb_38 ?qn_38 ?qd_38 ?qu_38 ?qret_38; (case qB_38 => k_asm); (case qF_38 => k_asm); (case qX_38 => k_asm); (case qN_38 => k_asm); (case qT_38 => k_asm); (case qK_38 => first | exact rfl | assumption); (case qC_38 => assumption); (case qC2_38 => assumption); (case qP_38 => k_mem); (case qc_38 => k_mem); (case qcd_38 => assumption); (case qcv_38 => assumption); (case qP2_38 => k_mem); (case qc2_38 => k_mem); (case qcd2_38 => assumption); (case qcv2_38 => assumption); (case qx_38 => (first | assumption | (refine ⟨?_, ?_⟩ <;> omega) | omega)); (case qb_38 => (first | assumption | (refine ⟨?_, ?_⟩ <;> omega) | omega)); (case qn_38 => (first | assumption | (refine ⟨?_, ?_⟩ <;> omega) | omega)); (case qd_38 => ((try dsimp only [Around.deeper]); first | decide | (simp only [recursionLimit] at *; omega))); (case qu_38 => ((try dsimp only [Around.deeper]); first | decide | omega))); intro T9 q9 h9 t9 u9 tk9 F9 N9 l9; (try k_lt l9); (try dsimp only)))
          walk_at "g_steps"
          refine hR1 _ _ ?_
          rw [hMe2]
          exact hend _ _ ⟨Fr.keep (by k_asm), GrownAt.of (by k_asm) (by k_mem), GrownAt.of (by k_asm) (by k_mem)⟩
        refine wpG_If (wpG_of_any ?_)
        walk_at "g_steps"
        · rename (_ ≠ _) => hac0
          have hac : a ≠ c := hac0
          refine wpG_stmtG fun QQ2 EE2 hM1 hR2 => ?_
          refine wpG_Assign_Name ?_
          refine wpG_Call ?_
          walk_at "g_steps"
          refine wpG_callWith_builtin ?_
          refine wpG_args_cons ?_
          refine wpG_BinOp ?_
          walk_at "g_steps"
          ((k_here; (with_reducible show wpAny _ _ (call (Value.ref 49) _) _ _ _); k_dflt (refine' d2i_hit _ ?qB_22 ?qF_22 ?qX_22 ?qN_22 ?qT_22 ?qK_22 ?qC_22 ?ql_22 ?qi_22 ?qlen_22 ?qn_22 ?qdig_22 ?qP_22 ?qc_22 ?qcd_22 ?qcv_22 ?qd_22 ?qu_22 ?qret_22; (case qB_22 => k_asm); (case qF_22 => k_asm); (case qX_22 => k_asm); (case qN_22 => k_asm); (case qT_22 => k_asm); (case qK_22 => first | exact rfl | assumption); (case qC_22 => assumption); (case ql_22 => k_mem); (case qi_22 => assumption); (case qlen_22 => (first | assumption | omega)); (case qn_22 => (first | assumption | (refine ⟨?_, ?_⟩ <;> omega) | omega)); (case qdig_22 => assumption); (case qP_22 => k_mem); (case qc_22 => k_mem); (case qcd_22 => assumption); (case qcv_22 => assumption); (case qd_22 => ((try dsimp only [Around.deeper]); first | decide | (simp only [recursionLimit] at *; omega))); (case qu_22 => ((try dsimp only [Around.deeper]); first | decide | omega))); intro t9 h9 tk9 F9 N9; (try dsimp only)))
          refine wpG_Call ?_
          walk_at "g_steps"
          refine wpG_callWith_K (K := hd.heap_39 w.params) (by assumption) rfl ?_
          refine wpG_args_cons ?_
          refine wpG_Call ?_
          walk_at "g_steps"
          refine wpG_callWith_K (K := hd.heap_39 w.params) (by assumption) rfl ?_
          refine wpG_args_cons (wpG_of_any ?_)
          walk_at "g_steps"
          refine wpG_args_nil ?_
          refine ⟨Frag.In.keeps (by k_asm) (Fr.keep (by k_asm)), ?_⟩
          ((k_dflt (refine' turned _ ?qB_29 ?qF_29 ?qX_29 ?qN_29 ?qT_29 ?qK_29 ?ql_29 ?qi_29 ?qlen_29 ?qlen0_29 ?qdig_29 ?qd_29 ?qu_29 ?qret_29; (case qB_29 => k_asm); (case qF_29 => k_asm); (case qX_29 => k_asm); (case qN_29 => k_asm); (case qT_29 => k_asm); (case qK_29 => first | exact rfl | assumption); (case ql_29 => k_mem); (case qi_29 => assumption); (case qlen_29 => (first | assumption | omega)); (case qlen0_29 => (first | assumption | omega)); (case qdig_29 => assumption); (case qd_29 => ((try dsimp only [Around.deeper]); first | decide | (simp only [recursionLimit] at *; omega))); (case qu_29 => ((try dsimp only [Around.deeper]); first | decide | omega))); intro D9 h9 tk9 vs9 k9 F9 N9 l9 i9; (replace l9 := neAllN l9); (try simp only [List.mem_cons, List.not_mem_nil, or_false, forall_eq_or_imp, forall_eq] at l9); (try dsimp only)))
          refine wpG_args_cons (wpG_of_any ?_)
          walk_at "g_steps"
          refine wpG_args_nil ?_
          refine ⟨Frag.In.keeps (by k_asm) (Fr.keep (by k_asm)), wpG_of_any ?_⟩
          ((k_here; (with_reducible show wpAny _ _ (call (Value.ref 49) _) _ _ _); k_dflt (refine' d2i_hit _ ?qB_23 ?qF_23 ?qX_23 ?qN_23 ?qT_23 ?qK_23 ?qC_23 ?ql_23 ?qi_23 ?qlen_23 ?qn_23 ?qdig_23 ?qP_23 ?qc_23 ?qcd_23 ?qcv_23 ?qd_23 ?qu_23 ?qret_23; (case qB_23 => k_asm); (case qF_23 => k_asm); (case qX_23 => k_asm); (case qN_23 => k_asm); (case qT_23 => k_asm); (case qK_23 => first | exact rfl | assumption); (case qC_23 => assumption); (case ql_23 => k_mem); (case qi_23 => assumption); (case qlen_23 => (first | assumption | omega)); (case qn_23 => (first | assumption | (refine ⟨?_, ?_⟩ <;> omega) | omega)); (case qdig_23 => assumption); (case qP_23 => k_mem); (case qc_23 => k_mem); (case qcd_23 => assumption); (case qcv_23 => assumption); (case qd_23 => ((try dsimp only [Around.deeper]); first | decide | (simp only [recursionLimit] at *; omega))); (case qu_23 => ((try dsimp only [Around.deeper]); first | decide | omega))); intro t9 h9 tk9 F9 N9; (try dsimp only)))
          walk_at "g_steps"
          refine wpG_args_nil ?_
          refine wpG_of_any ?_
          walk_at "g_steps"
          refine hM1 _ ?_; clear hM1 hR2
          try dsimp only
          (((repeat (rename (@LT.lt Nat _ _ _ ∧ _) => zz; clear zz)); (repeat (rename (@Ne Nat _ _ ∧ _) => zz; clear zz))))
          obtain ⟨hf60, hD3, hG3, hGr, hGe⟩ := left_all hbits hra hrb hrc hac (f := (if dval (2 ^ bits.toNat) [a, b, c] - dval (2 ^ bits.toNat) [a, b, c].reverse < 0 then -(dval (2 ^ bits.toNat) [a, b, c] - dval (2 ^ bits.toNat) [a, b, c].reverse) else dval (2 ^ bits.toNat) [a, b, c] - dval (2 ^ bits.toNat) [a, b, c].reverse)) rfl
          generalize (if dval (2 ^ bits.toNat) [a, b, c] - dval (2 ^ bits.toNat) [a, b, c].reverse < 0 then -(dval (2 ^ bits.toNat) [a, b, c] - dval (2 ^ bits.toNat) [a, b, c].reverse) else dval (2 ^ bits.toNat) [a, b, c] - dval (2 ^ bits.toNat) [a, b, c].reverse) = f at *
          refine wpG_stmt fun QQ2 EE2 hM1 hR2 _ => ?_
          walk_at "g_steps"
          ((k_here; (with_reducible show wpAny _ _ (call (Value.ref 42) _) _ _ _); k_dflt (refine' i2d_hit _ ?qB_37 ?qF_37 ?qX_37 ?qN_37 ?qT_37 ?qK_37 ?qC_37 ?qx_37 ?qn_37 ?qP_37 ?qc_37 ?qcd_37 ?qcv_37 ?qd_37 ?qu_37 ?qret_37; (case qB_37 => k_asm); (case qF_37 => k_asm); (case qX_37 => k_asm); (case qN_37 => k_asm); (case qT_37 => k_asm); (case qK_37 => first | exact rfl | assumption); (case qC_37 => assumption); (case qx_37 => (first | assumption | (refine ⟨?_, ?_⟩ <;> omega) | omega)); (case qn_37 => (first | assumption | (refine ⟨?_, ?_⟩ <;> omega) | omega)); (case qP_37 => k_mem); (case qc_37 => k_mem); (case qcd_37 => assumption); (case qcv_37 => assumption); (case qd_37 => ((try dsimp only [Around.deeper]); first | decide | (simp only [recursionLimit] at *; omega))); (case qu_37 => ((try dsimp only [Around.deeper]); first | decide | omega))); intro D9 vs9 h9 tk9 F9 N9 l9 i9; (try k_lt l9); (try dsimp only)))
          walk_at "g_steps"
          refine hM1 _ ?_; clear hM1 hR2
          try dsimp only
          generalize digs (2 ^ bits.toNat) (cnt bits f).toNat f = D at *
          (((repeat (rename (@LT.lt Nat _ _ _ ∧ _) => zz; clear zz)); (repeat (rename (@Ne Nat _ _ ∧ _) => zz; clear zz))))
          refine wpG_stmt fun QQ2 EE2 hM1 hR2 _ => ?_
          walk_at "g_steps"
          refine hM1 _ ?_; clear hM1 hR2
          try dsimp only
          generalize D ++ List.replicate (3 - (D.length : Int)).toNat 0 = G at *
          clear hD3
          (((repeat (rename (@LT.lt Nat _ _ _ ∧ _) => zz; clear zz)); (repeat (rename (@Ne Nat _ _ ∧ _) => zz; clear zz))))
          have hG6 : G.length ≤ 6 := by omega
          have hG0 : 0 < G.length := by omega
          have hGb : ∀ x ∈ G, 0 ≤ x ∧ x < 256 := fun x hx => ⟨(hGr x hx).1, Int.lt_of_lt_of_le (hGr x hx).2 (Int.le_trans hB16.2 (by decide))⟩
          have hGrr : ∀ x ∈ G.reverse, 0 ≤ x ∧ x < 2 ^ bits.toNat := fun x hx => hGr x (List.mem_reverse.mp hx)
          have hGl8 : G.reverse.length ≤ 8 := by rw [List.length_reverse, hG3]; decide
          refine wpG_stmtG fun QQ2 EE2 hM1 hR2 => ?_
          refine wpG_If ?_
          refine wpG_isTrue_or (wpG_of_any ?_)
          walk_at "g_steps"
          all_goals (try (exfalso; omega))
          refine wpG_isTrue_or ?_
          refine wpG_isTrue_Compare1 ?_
          refine wpG_BinOp ?_
          walk_at "g_steps"
          refine wpG_Call ?_
          walk_at "g_steps"
          refine wpG_callWith_K (K := hd.heap_39 w.params) (by assumption) rfl ?_
          refine wpG_args_cons ?_
          refine wpG_Call ?_
          walk_at "g_steps"
          refine wpG_callWith_K (K := hd.heap_39 w.params) (by assumption) rfl ?_
          refine wpG_args_cons (wpG_of_any ?_)
          walk_at "g_steps"
          refine wpG_args_nil ?_
          refine ⟨Frag.In.keeps (by k_asm) (Fr.keep (by k_asm)), ?_⟩
          ((k_dflt (refine' turned _ ?qB_30 ?qF_30 ?qX_30 ?qN_30 ?qT_30 ?qK_30 ?ql_30 ?qi_30 ?qlen_30 ?qlen0_30 ?qdig_30 ?qd_30 ?qu_30 ?qret_30; (case qB_30 => k_asm); (case qF_30 => k_asm); (case qX_30 => k_asm); (case qN_30 => k_asm); (case qT_30 => k_asm); (case qK_30 => first | exact rfl | assumption); (case ql_30 => k_mem); (case qi_30 => assumption); (case qlen_30 => (first | assumption | omega)); (case qlen0_30 => (first | assumption | omega)); (case qdig_30 => assumption); (case qd_30 => ((try dsimp only [Around.deeper]); first | decide | (simp only [recursionLimit] at *; omega))); (case qu_30 => ((try dsimp only [Around.deeper]); first | decide | omega))); intro D9 h9 tk9 vs9 k9 F9 N9 l9 i9; (replace l9 := neAllN l9); (try simp only [List.mem_cons, List.not_mem_nil, or_false, forall_eq_or_imp, forall_eq] at l9); (try dsimp only)))
          refine wpG_args_cons (wpG_of_any ?_)
          walk_at "g_steps"
          refine wpG_args_nil ?_
          refine ⟨Frag.In.keeps (by k_asm) (Fr.keep (by k_asm)), wpG_of_any ?_⟩
          ((k_here; (with_reducible show wpAny _ _ (call (Value.ref 49) _) _ _ _); k_dflt (refine' d2i_hit _ ?qB_24 ?qF_24 ?qX_24 ?qN_24 ?qT_24 ?qK_24 ?qC_24 ?ql_24 ?qi_24 ?qlen_24 ?qn_24 ?qdig_24 ?qP_24 ?qc_24 ?qcd_24 ?qcv_24 ?qd_24 ?qu_24 ?qret_24; (case qB_24 => k_asm); (case qF_24 => k_asm); (case qX_24 => k_asm); (case qN_24 => k_asm); (case qT_24 => k_asm); (case qK_24 => first | exact rfl | assumption); (case qC_24 => assumption); (case ql_24 => k_mem); (case qi_24 => assumption); (case qlen_24 => (first | assumption | omega)); (case qn_24 => (first | assumption | (refine ⟨?_, ?_⟩ <;> omega) | omega)); (case qdig_24 => assumption); (case qP_24 => k_mem); (case qc_24 => k_mem); (case qcd_24 => assumption); (case qcv_24 => assumption); (case qd_24 => ((try dsimp only [Around.deeper]); first | decide | (simp only [recursionLimit] at *; omega))); (case qu_24 => ((try dsimp only [Around.deeper]); first | decide | omega))); intro t9 h9 tk9 F9 N9; (try dsimp only)))
          walk_at "g_steps"
          all_goals (try (exact absurd hGe (by assumption)))
          refine wpG_isTrue_or_nil ?_
          try dsimp only
          rw [if_neg (by decide)]
          refine wpG_execs_nil ?_
          refine hM1 _ ?_; clear hM1 hR2
          try dsimp only
          refine wpG_execs_nil ?_
          refine hN2 _ _ _ _ _ (by k_asm) (cb_drop (by k_asm) (by ((intro p hp; first | exact hp | exact .tail _ hp | exact .tail _ (.tail _ hp) | exact .tail _ (.tail _ (.tail _ hp)) | exact .tail _ (.tail _ (.tail _ (.tail _ hp))) | exact .tail _ (.tail _ (.tail _ (.tail _ (.tail _ hp)))) | exact .tail _ (.tail _ (.tail _ (.tail _ (.tail _ (.tail _ hp)))))))))
        · refine wpG_execs_nil ?_
          refine hN1 _ _ (by k_asm) (by k_asm))
      walk_at "g_steps"
      · ((k_here; (with_reducible show wpAny _ _ (call (Value.ref 63) _) _ _ _); k_dflt (refine' idivmod _ ?qB_39 ?qF_39 ?qX_39 ?qN_39 ?qT_39 ?qK_39 ?qC_39 ?qC2_39 ?qP_39 ?qc_39 ?qcd_39 ?qcv_39 ?qP2_39 ?qc2_39 ?qcd2_39 ?qcv2_39 ?qx_39 ?qb_39 ?qn_39 ?qd_39 ?qu_39 ?qret_39; (case qB_39 => k_asm); (case qF_39 => k_asm); (case qX_39 => k_asm); (case qN_39 => k_asm); (case qT_39 => k_asm); (case qK_39 => first | exact rfl | assumption); (case qC_39 => assumption); (case qC2_39 => assumption); (case qP_39 => k_mem); (case qc_39 => k_mem); (case qcd_39 => assumption); (case qcv_39 => assumption); (case qP2_39 => k_mem); (case qc2_39 => k_mem); (case qcd2_39 => assumption); (case qcv2_39 => assumption); (case qx_39 => (first | assumption | (refine ⟨?_, ?_⟩ <;> omega) | omega)); (case qb_39 => (first | assumption | (refine ⟨?_, ?_⟩ <;> omega) | omega)); (case qn_39 => (first | assumption | (refine ⟨?_, ?_⟩ <;> omega) | omega)); (case qd_39 => ((try dsimp only [Around.deeper]); first | decide | (simp only [recursionLimit] at *; omega))); (case qu_39 => ((try dsimp only [Around.deeper]); first | decide | omega))); intro T9 q9 h9 t9 u9 tk9 F9 N9 l9; (try k_lt l9); (try dsimp only)))
        have hrC2 := hrC (by assumption)
        walk_at "g_steps"
        · exact absurd hrC2 (by assumption)
        · refine hN1 _ _ (by k_asm) (cb_drop (by k_asm) (by ((intro p hp; first | exact hp | exact .tail _ hp | exact .tail _ (.tail _ hp) | exact .tail _ (.tail _ (.tail _ hp)) | exact .tail _ (.tail _ (.tail _ (.tail _ hp))) | exact .tail _ (.tail _ (.tail _ (.tail _ (.tail _ hp)))) | exact .tail _ (.tail _ (.tail _ (.tail _ (.tail _ (.tail _ hp)))))))))
      · refine hN1 _ _ (by k_asm) (cb_drop (by k_asm) (by ((intro p hp; first | exact hp | exact .tail _ hp | exact .tail _ (.tail _ hp) | exact .tail _ (.tail _ (.tail _ hp)) | exact .tail _ (.tail _ (.tail _ (.tail _ hp))) | exact .tail _ (.tail _ (.tail _ (.tail _ (.tail _ hp)))) | exact .tail _ (.tail _ (.tail _ (.tail _ (.tail _ (.tail _ hp)))))))))
    walk_at "g_steps"
    · ((k_here; (with_reducible show wpAny _ _ (call (Value.ref 63) _) _ _ _); k_dflt (refine' idivmod _ ?qB_40 ?qF_40 ?qX_40 ?qN_40 ?qT_40 ?qK_40 ?qC_40 ?qC2_40 ?qP_40 ?qc_40 ?qcd_40 ?qcv_40 ?qP2_40 ?qc2_40 ?qcd2_40 ?qcv2_40 ?qx_40 ?qb_40 ?qn_40 ?qd_40 ?qu_40 ?qret_40; (case qB_40 => k_asm); (case qF_40 => k_asm); (case qX_40 => k_asm); (case qN_40 => k_asm); (case qT_40 => k_asm); (case qK_40 => first | exact rfl | assumption); (case qC_40 => assumption); (case qC2_40 => assumption); (case qP_40 => k_mem); (case qc_40 => k_mem); (case qcd_40 => assumption); (case qcv_40 => assumption); (case qP2_40 => k_mem); (case qc2_40 => k_mem); (case qcd2_40 => assumption); (case qcv2_40 => assumption); (case qx_40 => (first | assumption | (refine ⟨?_, ?_⟩ <;> omega) | omega)); (case qb_40 => (first | assumption | (refine ⟨?_, ?_⟩ <;> omega) | omega)); (case qn_40 => (first | assumption | (refine ⟨?_, ?_⟩ <;> omega) | omega)); (case qd_40 => ((try dsimp only [Around.deeper]); first | decide | (simp only [recursionLimit] at *; omega))); (case qu_40 => ((try dsimp only [Around.deeper]); first | decide | omega))); intro T9 q9 h9 t9 u9 tk9 F9 N9 l9; (try k_lt l9); (try dsimp only)))
      have hrA2 := hrA (by assumption)
      walk_at "g_steps"
      · exact absurd hrA2 (by assumption)
      · ((k_here; (with_reducible show wpAny _ _ (call (Value.ref 63) _) _ _ _); k_dflt (refine' idivmod _ ?qB_41 ?qF_41 ?qX_41 ?qN_41 ?qT_41 ?qK_41 ?qC_41 ?qC2_41 ?qP_41 ?qc_41 ?qcd_41 ?qcv_41 ?qP2_41 ?qc2_41 ?qcd2_41 ?qcv2_41 ?qx_41 ?qb_41 ?qn_41 ?qd_41 ?qu_41 ?qret_41; (case qB_41 => k_asm); (case qF_41 => k_asm); (case qX_41 => k_asm); (case qN_41 => k_asm); (case qT_41 => k_asm); (case qK_41 => first | exact rfl | assumption); (case qC_41 => assumption); (case qC2_41 => assumption); (case qP_41 => k_mem); (case qc_41 => k_mem); (case qcd_41 => assumption); (case qcv_41 => assumption); (case qP2_41 => k_mem); (case qc2_41 => k_mem); (case qcd2_41 => assumption); (case qcv2_41 => assumption); (case qx_41 => (first | assumption | (refine ⟨?_, ?_⟩ <;> omega) | omega)); (case qb_41 => (first | assumption | (refine ⟨?_, ?_⟩ <;> omega) | omega)); (case qn_41 => (first | assumption | (refine ⟨?_, ?_⟩ <;> omega) | omega)); (case qd_41 => ((try dsimp only [Around.deeper]); first | decide | (simp only [recursionLimit] at *; omega))); (case qu_41 => ((try dsimp only [Around.deeper]); first | decide | omega))); intro T9 q9 h9 t9 u9 tk9 F9 N9 l9; (try k_lt l9); (try dsimp only)))
        walk_at "g_steps"
        · exact absurd hrB (by assumption)
        · refine hN1 _ _ (by k_asm) (cb_drop (by k_asm) (by ((intro p hp; first | exact hp | exact .tail _ hp | exact .tail _ (.tail _ hp) | exact .tail _ (.tail _ (.tail _ hp)) | exact .tail _ (.tail _ (.tail _ (.tail _ hp))) | exact .tail _ (.tail _ (.tail _ (.tail _ (.tail _ hp)))) | exact .tail _ (.tail _ (.tail _ (.tail _ (.tail _ (.tail _ hp)))))))))
    · ((k_here; (with_reducible show wpAny _ _ (call (Value.ref 63) _) _ _ _); k_dflt (refine' idivmod _ ?qB_42 ?qF_42 ?qX_42 ?qN_42 ?qT_42 ?qK_42 ?qC_42 ?qC2_42 ?qP_42 ?qc_42 ?qcd_42 ?qcv_42 ?qP2_42 ?qc2_42 ?qcd2_42 ?qcv2_42 ?qx_42 ?qb_42 ?qn_42 ?qd_42 ?qu_42 ?qret_42; (case qB_42 => k_asm); (case qF_42 => k_asm); (case qX_42 => k_asm); (case qN_42 => k_asm); (case qT_42 => k_asm); (case qK_42 => first | exact rfl | assumption); (case qC_42 => assumption); (case qC2_42 => assumption); (case qP_42 => k_mem); (case qc_42 => k_mem); (case qcd_42 => assumption); (case qcv_42 => assumption); (case qP2_42 => k_mem); (case qc2_42 => k_mem); (case qcd2_42 => assumption); (case qcv2_42 => assumption); (case qx_42 => (first | assumption | (refine ⟨?_, ?_⟩ <;> omega) | omega)); (case qb_42 => (first | assumption | (refine ⟨?_, ?_⟩ <;> omega) | omega)); (case qn_42 => (first | assumption | (refine ⟨?_, ?_⟩ <;> omega) | omega)); (case qd_42 => ((try dsimp only [Around.deeper]); first | decide | (simp only [recursionLimit] at *; omega))); (case qu_42 => ((try dsimp only [Around.deeper]); first | decide | omega))); intro T9 q9 h9 t9 u9 tk9 F9 N9 l9; (try k_lt l9); (try dsimp only)))
      walk_at "g_steps"
      · exact absurd hrB (by assumption)
      · refine hN1 _ _ (by k_asm) (cb_drop (by k_asm) (by ((intro p hp; first | exact hp | exact .tail _ hp | exact .tail _ (.tail _ hp) | exact .tail _ (.tail _ (.tail _ hp)) | exact .tail _ (.tail _ (.tail _ (.tail _ hp))) | exact .tail _ (.tail _ (.tail _ (.tail _ (.tail _ hp)))) | exact .tail _ (.tail _ (.tail _ (.tail _ (.tail _ (.tail _ hp)))))))))
    )
  ))
end
end Mine

theorem PySem.Challenge.cw_gb0002_01_holds : PySem.Challenge.rw_gb0002_01.Holds :=
  Mine.law_t
