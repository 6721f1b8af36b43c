import PyProof.Rows.All
import PyProof.StrWalks
import Wide.All
import OpenK.AllK
import KE.KTryDeep
import Wide.FinOn
import PySem.Challenge.RW_zo0023_01

set_option Elab.async false
set_option linter.unusedVariables false

section
open PySem PySem.W PyProof.Rows
set_option maxRecDepth 100000
set_option maxHeartbeats 8000000
namespace Mine
open_top hd for PySem.Challenge.rw_zo0023_01
end Mine
end

section
open PySem PySem.W PyProof.Rows
set_option maxRecDepth 100000
set_option maxHeartbeats 8000000

namespace Mine

abbrev Pg : Program := PySem.Challenge.rw_zo0023_01.row.prog
noncomputable abbrev Kf (w : World) : Frag := hd.heap_39 w.params
abbrev KeepsH (h h' : Heap) : Prop := ∀ b o, h.get? b = some o → h'.get? b = some o
abbrev Tp (mean : ExcName → Option Value) (mg mb : Str → Option Value) (h : Heap) : Prop :=
  Top hd.view_39 (looseW hd.view_39 [Str.ofString "IPV4_RE", Str.ofString "bisect_right", Str.ofString "insort_left", Str.ofString "bisect_left"]) mean mg mb h


theorem binds_of_peek {K : Frag} {s : Shared} {fd : FuncData} {args : Args} {binds : List (Str × Value)} (x : K.In s.heap) (e : ∀ S, peek K S (bindArgs fd args) = some binds) : BindsTo s fd args binds :=
  fun M A E Q q => (Looks.of_peek (M := M) x (e _)).here q

/-- entering a def that raises nothing: the base is the whole heap at the call -/
theorem enter_def {w : World} {A : Around} {s : Shared} {E : Value → Shared → Prop} {Q : Value → Shared → Prop} {K : Frag} {binds : List (Str × Value)}
    {f : Addr} {name qual : Str} {params : Arguments} {body : List Stmt} {scope : Scope} {dV kV doc pm cdv ct oc : Value} {an od : Option Addr} {osl : Array (Option Value)}
    {pos : List Value} {kw : List (Str × Value)}
    (X : K.In s.heap) (hlim : s.heap.NoLimit) (hroom : A.depth < recursionLimit)
    (ho : K.lookup f = some ⟨oc, od, .func (fnOf name qual params body scope dV kV doc pm an cdv ct), osl⟩) (hcd : codeIn K cdv qual = true)
    (hbind : BindsTo s (fnOf name qual params body scope dV kV doc pm an cdv ct) ⟨pos, kw⟩ binds)
    (hcell : ∀ x ∈ scope.names, x.2 ≠ .cell) (hloc : (binds.all fun x => decide (scope.names.lookup x.1 = some .local)) = true)
    (h : ∀ h₁, Fr s.heap s.heap.objs.size h₁ (fun x => binds.reverse.lookup x) →
      wpAny (model Pg w) (A.deeper (envOf qual scope s.heap.objs.size f cdv)) (execs body (envOf qual scope s.heap.objs.size f cdv)) (fun fl s' => Q (match fl with | .ret v => v | _ => .none) s')
        (fun _ _ => False)
        { s with heap := h₁, toks := s.toks + binds.length })
    (hco : scope.isCoroutine = false := by rfl) (hgen : scope.isGenerator = false := by rfl) (hk : scope.kind = .function := by rfl) :
    wpAny (model Pg w) A (call (.ref f) pos kw) Q E s := by
  refine wpAny_call (codeAny_call_def hroom (X _ _ ho) rfl hlim (codeRec_of X hcd) rfl hbind hcell (locs hloc) (fun h₁ hns hkeep => ?_) hco hgen hk)
  refine wpAny_mono (h h₁ ⟨hns, hkeep, Nat.le_refl _⟩) (fun fl s' q => q) (fun _ _ x => x.elim)

theorem frUp {h₀ h h' : Heap} {L : Addr} {m : Str → Option Value} (F : Fr h₀ L h m) (k : KeepsH h h') : Fr h₀ L h' m :=
  ⟨F.ns.keeps k, fun b o e => k b o (F.keep b o e), F.above⟩
theorem newsUp {h₀ h h' : Heap} {L : Addr} {news : List (Addr × Obj)} (N : News h₀ L h news) (k : KeepsH h h') : News h₀ L h' news :=
  fun p hp => ⟨k _ _ (N p hp).1, (N p hp).2⟩

end Mine
namespace Mine
theorem frSee {h₀ h : Heap} {L : Addr} {m : Str → Option Value} {x : Str} {v : Value} (F : Fr h₀ L h m) (e : m x = some v) : Fr h₀ L h (fun y => if y = x then some v else m y) := by
  have : (fun y => if y = x then some v else m y) = m := by
    funext y
    by_cases h : y = x
    · rw [if_pos h, h, e]
    · rw [if_neg h]
  rw [this]; exact F

section
variable {prog : Program} {w : World} {A : Around} {E : Value → Shared → Prop} {s : Shared}
theorem item_list {value slice : PySem.Expr} {l : Addr} {vs : List Value} {k : Int} {u : Tok} {Q : Value → Shared → Prop}
    (hl : s.heap.IsList l vs.toArray) (h0 : 0 ≤ k) (hlt : k < vs.length) (hfit : vs.length < 2 ^ 62) (h : ∀ v, vs[k.toNat]? = some v → Q v s)
    (hs : subscripted slice false (.ref l) (.int k u) = operate [.ref l, .int k u] (getItem (.ref l) (.int k u)) := by with_unfolding_all rfl) :
    wpAny (model prog w) A (subscriptTail value slice (.ref l) (.int k u)) Q E s := by
  have hk : k.toNat < vs.length := by omega
  exact tail_any hl.typeIs slot_list_getitem.lookup (wpAny_getItem_list hl h0 (by omega) (x := vs[k.toNat]) (by simp [hk]) (h _ (by simp [hk]))) hs
end
end Mine
namespace Mine
def Hold (P : Prop) : Prop := P
theorem hold {P : Prop} (h : Hold P) : P := h
theorem Hold.out {P : Prop} (h : P) : Hold P := h
end Mine
namespace Mine
def AllAt (m : Str → Option Value) : List (Str × Value) → Prop
  | [] => True
  | p :: r => m p.1 = some p.2 ∧ AllAt m r
theorem frSees {h₀ h : Heap} {L : Addr} {m : Str → Option Value} (l : List (Str × Value)) (F : Fr h₀ L h m) (e : AllAt m l) : Fr h₀ L h (fun y => (l.lookup y).or (m y)) := by
  have : (fun y => (l.lookup y).or (m y)) = m := by
    funext y
    induction l with
    | nil => rfl
    | cons p r ih =>
      rw [List.lookup_cons]
      by_cases h : (y == p.1) = true
      · rw [h]
        rw [beq_iff_eq.mp h, e.1]; rfl
      · rw [Bool.not_eq_true] at h
        rw [h]
        exact ih e.2
  rw [this]; exact F
theorem natMod (a b : Nat) : Int.fmod (a : Int) (b : Int) = ((a % b : Nat) : Int) := by
  rw [Int.fmod_eq_emod_of_nonneg _ (by omega)]; rfl
theorem natDiv (a b : Nat) : Int.fdiv (a : Int) (b : Int) = ((a / b : Nat) : Int) := by
  rw [Int.fdiv_eq_ediv_of_nonneg _ (by omega)]; rfl
end Mine
namespace Mine
/-- the end of a call that keeps all that stood -/
def Ends (s : Shared) (R : Value → Heap → Prop) (v : Value) (s' : Shared) : Prop := R v s'.heap ∧ Keeps s s'
theorem Ends.mk {s : Shared} {R : Value → Heap → Prop} {v : Value} {h : Heap} {tk : Nat} (hR : R v h) (k : KeepsH s.heap h) : Ends s R v { s with heap := h, toks := tk } := ⟨hR, h, tk, rfl, k⟩
theorem use {w : World} {A : Around} {s : Shared} {t : Sem Value} {E : Value → Shared → Prop} {R : Value → Heap → Prop} {Q : Value → Shared → Prop} (c : wpAny (model Pg w) A t (Ends s R) (fun _ _ => False) s)
    (h : ∀ v h' tk, R v h' → KeepsH s.heap h' → Q v { s with heap := h', toks := tk }) : wpAny (model Pg w) A t Q E s :=
  wpAny_mono c (fun v s' ⟨hR, h', tk, e, k⟩ => by subst e; exact h v h' tk hR k) (fun _ _ x => x.elim)
end Mine
namespace Mine
/-- the end of a call that changes one object alone -/
def EndsBut (l : Addr) (s : Shared) (R : Value → Heap → Prop) (v : Value) (s' : Shared) : Prop :=
  R v s'.heap ∧ ∃ h' tk, s' = { s with heap := h', toks := tk } ∧ ∀ b o, b ≠ l → s.heap.get? b = some o → h'.get? b = some o
theorem EndsBut.mk {l : Addr} {s : Shared} {R : Value → Heap → Prop} {v : Value} {h : Heap} {tk : Nat} (hR : R v h) (k : KeepsH (s.heap.hide l) h) : EndsBut l s R v { s with heap := h, toks := tk } :=
  ⟨hR, h, tk, rfl, fun b o hb e => k b o ((Heap.hide_ne _ hb).trans e)⟩
theorem useBut {w : World} {A : Around} {s : Shared} {l : Addr} {t : Sem Value} {E : Value → Shared → Prop} {R : Value → Heap → Prop} {Q : Value → Shared → Prop} (c : wpAny (model Pg w) A t (EndsBut l s R) (fun _ _ => False) s)
    (h : ∀ v h' tk, R v h' → (∀ b o, b ≠ l → s.heap.get? b = some o → h'.get? b = some o) → Q v { s with heap := h', toks := tk }) : wpAny (model Pg w) A t Q E s :=
  wpAny_mono c (fun v s' ⟨hR, h', tk, e, k⟩ => by subst e; exact h v h' tk hR k) (fun _ _ x => x.elim)
theorem hide_sub {h : Heap} {l b : Addr} {o : Obj} (e : (h.hide l).get? b = some o) : h.get? b = some o ∧ b ≠ l := by
  have hb : b ≠ l := fun q => by rw [q, Heap.hide_self] at e; cases e
  exact ⟨(Heap.hide_ne h hb).symm.trans e, hb⟩
theorem frHide {h h₁ : Heap} {L l : Addr} {m : Str → Option Value} (F : Fr h L h₁ m) : Fr (h.hide l) L h₁ m :=
  ⟨F.ns, fun b o e => F.keep b o (hide_sub e).1, by rw [Heap.hide_size]; exact F.above⟩
theorem newsHide {h h₁ : Heap} {L l : Addr} {m : Str → Option Value} {o : Obj} (F : Fr h L h₁ m) (e : h.get? l = some o) : News (h.hide l) L h₁ [(l, o)] := fun p hp => by
  rw [List.mem_singleton.mp hp]
  exact ⟨F.keep _ _ e, Nat.ne_of_lt (Nat.lt_of_lt_of_le (Heap.lt_size e) F.above), Heap.hide_self _ _⟩
theorem keepsHide {h₀ h : Heap} {l : Addr} (k : KeepsH h₀ h) (hn : h₀.get? l = none) : KeepsH h₀ (h.hide l) := fun b o e =>
  (Heap.hide_ne h (fun q : b = l => by rw [q, hn] at e; cases e)).trans (k b o e)
end Mine
end

section
open PySem PySem.W PyProof.Rows PySem.Calls
set_option maxRecDepth 100000
set_option maxHeartbeats 8000000
namespace Mine
theorem range_size1 (n : Nat) : Builtin.Range.rangeSize 0 (n : Int) 1 = (n : Int) := by
  unfold Builtin.Range.rangeSize
  rw [if_pos (by omega)]
  by_cases h : (0 : Int) < n
  · rw [if_pos h]; omega
  · rw [if_neg h]; omega
theorem range_one {n : Nat} (h : 0 < n) : Builtin.Range.rangeSize 0 (n : Int) (n : Int) = 1 := by
  unfold Builtin.Range.rangeSize
  rw [if_pos (by omega), if_pos (by omega), Int.ediv_eq_zero_of_lt (by omega) (by omega)]; rfl
theorem fitsLong_of {i : Int} (h0 : -1000000 ≤ i) (h1 : i < 1000000) : Builtin.Range.rangeFitsLong i = true := by
  unfold Builtin.Range.rangeFitsLong
  rw [Bool.and_eq_true, decide_eq_true_eq, decide_eq_true_eq]
  omega
theorem range_small1 {n : Nat} (h : n < 1000) : Builtin.Range.small 0 (n : Int) 1 = true := by
  unfold Builtin.Range.small
  rw [range_size1, fitsLong_of (by omega) (by omega), fitsLong_of (by omega) (by omega), fitsLong_of (by omega) (by omega), if_pos (by omega), fitsLong_of (by omega) (by omega)]
  simp
theorem range_smallN {n : Nat} (h0 : 0 < n) (h : n < 1000) : Builtin.Range.small 0 (n : Int) (n : Int) = true := by
  unfold Builtin.Range.small
  rw [range_one h0, fitsLong_of (by omega) (by omega), fitsLong_of (by omega) (by omega), fitsLong_of (by omega) (by omega), if_pos (by omega), fitsLong_of (by omega) (by omega)]
  simp
section
variable {prog : Program} {w : World} {A : Around} {E : Value → Shared → Prop} {s : Shared} {env : Env} {h₀ : Heap} {x : Str} {body : List Stmt} {Q : Flow → Shared → Prop}

/-- a turn's end: the frame, the ledger (its addresses as they were), the word; what the iterator owns stands behind it -/
def TurnTo (h₀ : Heap) (L : Addr) (J : (Str → Option Value) → List (Addr × Obj) → Prop) (own : List (Addr × Obj)) (adr : List Addr) (s₁ : Shared) (Q : Flow → Shared → Prop) (f : Flow) (s₂ : Shared) : Prop :=
  match f with
  | .ret v => Q (.ret v) s₂
  | .brk => Q .next s₂
  | _ => ∃ h' tk m' nx, s₂ = { s₁ with heap := h', toks := tk } ∧ Fr h₀ L h' m' ∧ News h₀ L h' (nx ++ own) ∧ nx.map (·.1) = adr ∧ J m' nx
theorem TurnTo.next {L : Addr} {J : (Str → Option Value) → List (Addr × Obj) → Prop} {own : List (Addr × Obj)} {adr : List Addr} {s₁ : Shared} {h' : Heap} {tk : Nat} {m' : Str → Option Value} {nx : List (Addr × Obj)}
    (F : Fr h₀ L h' m') (N : News h₀ L h' (nx ++ own)) (ha : nx.map (·.1) = adr) (hJ : J m' nx) : TurnTo h₀ L J own adr s₁ Q .next { s₁ with heap := h', toks := tk } := ⟨h', tk, m', nx, rfl, F, N, ha, hJ⟩
theorem TurnTo.nextN {L : Addr} {J : (Str → Option Value) → List (Addr × Obj) → Prop} {own : List (Addr × Obj)} {adr : List Addr} {s₁ : Shared} {h' : Heap} {tk : Nat} {m' : Str → Option Value}
    (nx : List (Addr × Obj)) {news : List (Addr × Obj)} (F : Fr h₀ L h' m') (N : News h₀ L h' news) (hn : ∀ p ∈ nx ++ own, p ∈ news) (ha : nx.map (·.1) = adr) (hJ : J m' nx) : TurnTo h₀ L J own adr s₁ Q .next { s₁ with heap := h', toks := tk } :=
  ⟨h', tk, m', nx, rfl, F, fun p hp => N p (hn p hp), ha, hJ⟩

theorem loopM {I : Addr} {fp : List Addr} {n : Nat} {P : Nat → Value → Prop} {St : Nat → Heap → Prop} {m₀ : Str → Option Value} {news : List (Addr × Obj)} (mu : List Addr) (J : Nat → (Str → Option Value) → List (Addr × Obj) → Prop)
    (W : Walks prog w A I fp [I] n P St) (hLf : env.locals ∉ fp) (hI : h₀.get? I = none) (hnI : ∀ p ∈ news, p.1 ≠ I) (hfp : ∀ b ∈ fp, b ∉ mu) (hst : St 0 s.heap) (F : Fr h₀ env.locals s.heap m₀) (N : News h₀ env.locals s.heap news) (hj : J 0 m₀ news)
    (turn : ∀ i v m₁ nx h tk own, i < n → P i v → nx.map (·.1) = news.map (·.1) → (∀ p ∈ own, p.1 ∉ mu) → J i m₁ nx → Fr h₀ env.locals h (fun y => if y = x then some v else m₁ y) → News h₀ env.locals h (nx ++ own) →
      wpAny (model prog w) A (execs body env) (TurnTo h₀ env.locals (J (i + 1)) own (news.map (·.1)) { s with heap := h, toks := tk } Q) E { s with heap := h, toks := tk })
    (done : ∀ m₁ nx h tk, J n m₁ nx → nx.map (·.1) = news.map (·.1) → Fr h₀ env.locals h m₁ → News h₀ env.locals h nx → Q .next { s with heap := h, toks := tk }) :
    LoopAtV prog w A h₀ env x body Q E (.ref I) s := by
  refine ⟨I, fp, [I], n, P, St, m₀, news, fun i m₁ nx => nx.map (·.1) = news.map (·.1) ∧ J i m₁ nx, rfl, W, hLf, fun b hb => by rw [List.mem_singleton.mp hb]; exact hI, fun p hp hq => hnI p hp (List.mem_singleton.mp hq), hst, F, N, ⟨rfl, hj⟩, ?_, ?_⟩
  · rintro i v m₁ nx s₁ own ⟨h, tk, rfl⟩ hin hP ⟨hadr, hJ⟩ hoff hown _ _ _ F₁ N₁
    have N₂ : News h₀ env.locals h (nx ++ own) := fun p hp => N₁ p ((List.mem_append.mp hp).elim (fun q => List.mem_append.mpr (.inr q)) fun q => List.mem_append.mpr (.inl q))
    refine wpAny_mono (turn i v m₁ nx h tk own hin hP hadr (fun p hp => hfp _ (hown p hp)) hJ F₁ N₂) (fun f s₂ p => ?_) fun _ _ e => e
    have fin : (∃ h' tk' m' nx', s₂ = { { s with heap := h, toks := tk } with heap := h', toks := tk' } ∧ Fr h₀ env.locals h' m' ∧ News h₀ env.locals h' (nx' ++ own) ∧ nx'.map (·.1) = news.map (·.1) ∧ J (i + 1) m' nx') →
        LoopStepU h₀ env.locals [I] own (fun m₁ nx => nx.map (·.1) = news.map (·.1) ∧ J (i + 1) m₁ nx) { s with heap := h, toks := tk } .next s₂ := by
      rintro ⟨h', tk', m', nx', e, F', N', ha, hm⟩
      refine ⟨rfl, h', tk', m', nx', e, F', fun p hp => N' p ((List.mem_append.mp hp).elim (fun q => List.mem_append.mpr (.inr q)) fun q => List.mem_append.mpr (.inl q)), fun p hp hq => ?_, ha, hm⟩
      have h1 : p.1 ∈ nx'.map (·.1) := List.mem_map.mpr ⟨p, hp, rfl⟩
      rw [ha] at h1
      obtain ⟨q, hq1, hq2⟩ := List.mem_map.mp h1
      exact hnI q hq1 (by rw [hq2]; exact List.mem_singleton.mp hq)
    cases f with
    | ret v => exact .ret p
    | brk => exact .brk p
    | next => exact .next (fin p)
    | cont => exact .cont (fin p)
  · rintro h' tk m' nx F' N' _ ⟨ha, hJ⟩
    exact done m' nx h' tk hJ ha F' N'

theorem newsPush {h : Heap} {L : Addr} {news : List (Addr × Obj)} (N : News h₀ L h news) (o : Obj) : News h₀ L (h.push o) news := fun p hp => ⟨Heap.get?_push_of_some _ (N p hp).1, (N p hp).2⟩
theorem baseNew {h : Heap} {L : Addr} {m : Str → Option Value} (F : Fr h₀ L h m) : h₀.get? h.objs.size = none := by
  cases e : h₀.get? h.objs.size with
  | none => rfl
  | some o => exact absurd (Heap.lt_size (F.keep _ _ e)) (Nat.lt_irrefl _)
theorem newsNe {h : Heap} {L : Addr} {news : List (Addr × Obj)} (N : News h₀ L h news) : ∀ p ∈ news, p.1 ≠ h.objs.size := fun p hp e => absurd (Heap.lt_size (N p hp).1) (e ▸ Nat.lt_irrefl _)
theorem mutNe {h : Heap} {L : Addr} {news : List (Addr × Obj)} {mu : List Addr} (N : News h₀ L h news) (hm : ∀ a ∈ mu, a ∈ news.map (·.1)) : h.objs.size ∉ mu := fun e => by
  obtain ⟨p, hp, hq⟩ := List.mem_map.mp (hm _ e)
  exact newsNe N p hp hq

/-- for over a list that the turns leave alone -/
theorem iterList {l : Addr} {vs : List Value} {m₀ : Str → Option Value} {news : List (Addr × Obj)} (mu : List Addr) (J : Nat → (Str → Option Value) → List (Addr × Obj) → Prop)
    (hh : A.handled = none) (hl : s.heap.IsList l vs.toArray) (hlL : l ≠ env.locals) (hlm : l ∉ mu) (hm : ∀ a ∈ mu, a ∈ news.map (·.1)) (F : Fr h₀ env.locals s.heap m₀) (N : News h₀ env.locals s.heap news) (hj : J 0 m₀ news)
    (turn : ∀ i v m₁ nx h tk own, vs[i]? = some v → nx.map (·.1) = news.map (·.1) → (∀ p ∈ own, p.1 ∉ mu) → J i m₁ nx → Fr h₀ env.locals h (fun y => if y = x then some v else m₁ y) → News h₀ env.locals h (nx ++ own) →
      wpAny (model prog w) A (execs body env) (TurnTo h₀ env.locals (J (i + 1)) own (news.map (·.1)) { s with heap := h, toks := tk } Q) E { s with heap := h, toks := tk })
    (done : ∀ m₁ nx h tk, J vs.length m₁ nx → nx.map (·.1) = news.map (·.1) → Fr h₀ env.locals h m₁ → News h₀ env.locals h nx → Q .next { s with heap := h, toks := tk }) :
    wpAny (model prog w) A (pyIter (.ref l)) (fun it s₂ => LoopAtV prog w A h₀ env x body Q E it s₂) E s := by
  obtain ⟨ol, hol, _⟩ := id hl
  have hne : l ≠ s.heap.objs.size := Nat.ne_of_lt (Heap.lt_size hol)
  refine wpAny_pyIter_list hl ?_
  have W := Walks.list (prog := prog) (w := w) hh s.heap.objs.size l hne vs.toArray
  rw [List.size_toArray] at W
  refine loopM mu J W ?_ (baseNew F) (newsNe N) ?_ ⟨⟨_, Heap.get?_push_size _ rfl, rfl, rfl⟩, hl.at fun o e => Heap.get?_push_of_some _ e⟩ (F.push _) (newsPush N _) hj (fun i v m₁ nx h tk own hi hP => turn i v m₁ nx h tk own (by simpa using hP)) done
  · intro hm
    rcases List.mem_cons.mp hm with e | hm
    · exact absurd F.ns.lt (e ▸ Nat.lt_irrefl _)
    · exact hlL (List.mem_singleton.mp hm).symm
  · intro b hb
    rcases List.mem_cons.mp hb with e | hb
    · rw [e]; exact mutNe N hm
    · rw [List.mem_singleton.mp hb]; exact hlm

/-- for over a range by ones -/
theorem iterRange {r : Addr} {a₀ b₀ : Int} {t₀ u₀ v₀ : Tok} (n : Nat) {m₀ : Str → Option Value} {news : List (Addr × Obj)} (mu : List Addr) (J : Nat → (Str → Option Value) → List (Addr × Obj) → Prop)
    (hh : A.handled = none) (hr : IsRange s.heap r a₀ b₀ 1 t₀ u₀ v₀) (hsmall : Builtin.Range.small a₀ b₀ 1 = true) (hn : Builtin.Range.rangeSize a₀ b₀ 1 = (n : Int)) (hm : ∀ a ∈ mu, a ∈ news.map (·.1)) (F : Fr h₀ env.locals s.heap m₀) (N : News h₀ env.locals s.heap news) (hj : J 0 m₀ news)
    (turn : ∀ i t m₁ nx h tk own, i < n → nx.map (·.1) = news.map (·.1) → (∀ p ∈ own, p.1 ∉ mu) → J i m₁ nx → Fr h₀ env.locals h (fun y => if y = x then some (.int (a₀ + (i : Nat)) t) else m₁ y) → News h₀ env.locals h (nx ++ own) →
      wpAny (model prog w) A (execs body env) (TurnTo h₀ env.locals (J (i + 1)) own (news.map (·.1)) { s with heap := h, toks := tk } Q) E { s with heap := h, toks := tk })
    (done : ∀ m₁ nx h tk, J n m₁ nx → nx.map (·.1) = news.map (·.1) → Fr h₀ env.locals h m₁ → News h₀ env.locals h nx → Q .next { s with heap := h, toks := tk }) :
    wpAny (model prog w) A (pyIter (.ref r)) (fun it s₂ => LoopAtV prog w A h₀ env x body Q E it s₂) E s := by
  refine wpAny_pyIter_range hr hsmall ?_
  have W := Walks.range (prog := prog) (w := w) hh s.heap.objs.size a₀ 1 n
  refine loopM mu J W ?_ (baseNew F) (newsNe N) ?_ (by show IsRangeIter _ _ _ _ _; rw [hn]; simpa using Heap.get?_push_size _ rfl) (F.push _) (newsPush N _) hj ?_ done
  · intro hm
    exact absurd F.ns.lt ((List.mem_singleton.mp hm) ▸ Nat.lt_irrefl _)
  · intro b hb
    rw [List.mem_singleton.mp hb]; exact mutNe N hm
  · rintro i v m₁ nx h tk own hi ⟨t, rfl⟩ ha ho hJ F₁ N₁
    rw [Int.mul_one] at F₁
    exact turn i t m₁ nx h tk own hi ha ho hJ F₁ N₁
/-- for over a range by a step -/
theorem iterRangeC {r : Addr} {a₀ b₀ c₀ : Int} {t₀ u₀ v₀ : Tok} (n : Nat) {m₀ : Str → Option Value} {news : List (Addr × Obj)} (mu : List Addr) (J : Nat → (Str → Option Value) → List (Addr × Obj) → Prop)
    (hh : A.handled = none) (hr : IsRange s.heap r a₀ b₀ c₀ t₀ u₀ v₀) (hsmall : Builtin.Range.small a₀ b₀ c₀ = true) (hn : Builtin.Range.rangeSize a₀ b₀ c₀ = (n : Int)) (hm : ∀ a ∈ mu, a ∈ news.map (·.1)) (F : Fr h₀ env.locals s.heap m₀) (N : News h₀ env.locals s.heap news) (hj : J 0 m₀ news)
    (turn : ∀ i t m₁ nx h tk own, i < n → nx.map (·.1) = news.map (·.1) → (∀ p ∈ own, p.1 ∉ mu) → J i m₁ nx → Fr h₀ env.locals h (fun y => if y = x then some (.int (a₀ + (i : Nat) * c₀) t) else m₁ y) → News h₀ env.locals h (nx ++ own) →
      wpAny (model prog w) A (execs body env) (TurnTo h₀ env.locals (J (i + 1)) own (news.map (·.1)) { s with heap := h, toks := tk } Q) E { s with heap := h, toks := tk })
    (done : ∀ m₁ nx h tk, J n m₁ nx → nx.map (·.1) = news.map (·.1) → Fr h₀ env.locals h m₁ → News h₀ env.locals h nx → Q .next { s with heap := h, toks := tk }) :
    wpAny (model prog w) A (pyIter (.ref r)) (fun it s₂ => LoopAtV prog w A h₀ env x body Q E it s₂) E s := by
  refine wpAny_pyIter_range hr hsmall ?_
  have W := Walks.range (prog := prog) (w := w) hh s.heap.objs.size a₀ c₀ n
  refine loopM mu J W ?_ (baseNew F) (newsNe N) ?_ (by show IsRangeIter _ _ _ _ _; rw [hn]; simpa using Heap.get?_push_size _ rfl) (F.push _) (newsPush N _) hj ?_ done
  · intro hm
    exact absurd F.ns.lt ((List.mem_singleton.mp hm) ▸ Nat.lt_irrefl _)
  · intro b hb
    rw [List.mem_singleton.mp hb]; exact mutNe N hm
  · rintro i v m₁ nx h tk own hi ⟨t, rfl⟩ ha ho hJ F₁ N₁
    exact turn i t m₁ nx h tk own hi ha ho hJ F₁ N₁
end
end Mine
end

section
open PySem PySem.W PyProof.Rows
set_option maxRecDepth 100000
set_option maxHeartbeats 8000000
namespace Mine
local macro_rules | `(tactic| walk_at "call builtin:len") => `(tactic| (k_here; (with_reducible show wpAny _ _ (call (Value.builtin "len") [Value.ref _]) _ _ _); (with_unfolding_all refine' Calls.call_len_list ?k1 ?k2 ?_; (case k1 => is_list); (case k2 => ((try simp only [List.size_toArray]); omega)); k_whole)))
local macro_rules | `(tactic| walk_at "exec While Compare cons nil") => `(tactic| refine hold ?_)
local macro_rules | `(tactic| walk_at "subscriptTail Name Name ref int") => `(tactic| refine hold ?_)
local macro_rules | `(tactic| walk_at "compareOp Lt") => `(tactic| refine hold ?_)

/-- the comparison of the list's items with x, told by p -/
def LtIs (w : World) (vs : List Value) (x : Value) (p : Nat → Bool) : Prop :=
  ∀ i v, vs[i]? = some v → ∀ (A : Around) (Q E : Value → Shared → Prop) (s : Shared), Q (.bool (p i)) s → wpAny (model Pg w) A (compareOp .Lt v x) Q E s

theorem bisect_left_spec {w : World} {A : Around} {s : Shared} {mean mg mb} {E : Value → Shared → Prop} {l : Addr} {vs : List Value} {x : Value} {p : Nat → Bool} {k : Nat}
    (KX : (hd.heap_39 w.params).In s.heap) (T : Tp mean mg mb s.heap) (hA : A.handled = none) (hroom : A.depth < 600) (hunits : A.units < 9000)
    (hl : s.heap.IsList l vs.toArray) (hfit : vs.length < 2 ^ 62) {pos : List Value} (hpos : pos = [.ref l, x] ∨ ∃ t, pos = [.ref l, x, .int 0 t, .none]) (hp : LtIs w vs x p) (hk : k ≤ vs.length) (h1 : ∀ i, i < k → p i = true) (h2 : ∀ i, k ≤ i → i < vs.length → p i = false) :
    wpAny (model Pg w) A (call (.ref 77) pos []) (Ends s fun v _ => ∃ t, v = .int k t) E s := by
  have dummy : (fun (_ : OpenLaw) (_ : Params → Frag) => True) PySem.Challenge.rw_zo0023_01 hd.heap_39 := by
    k_fill
    trivial
  obtain ⟨t, ht⟩ : ∃ t, (pos = [.ref l, x] ∧ t = 359) ∨ pos = [.ref l, x, .int 0 t, .none] := by
    rcases hpos with h | ⟨t, h⟩
    · exact ⟨359, .inl ⟨h, rfl⟩⟩
    · exact ⟨t, .inr h⟩
  refine enter_def (binds := [("a", .ref l), ("x", x), ("lo", .int 0 t), ("hi", .none), ("key", .none)]) KX T.nolimit (by unfold recursionLimit; omega) rfl (by rfl) (by rcases ht with ⟨rfl, rfl⟩ | rfl <;> exact binds_of_peek KX fun S => by kernel_rfl) (by decide) (by rfl) ?_
  intro h₁ F
  have N : News s.heap s.heap.objs.size h₁ [] := News.nil
  k_steps
  refine Hold.out ?_
  rename_i h₂ F₂ N₂
  refine While_inv2 (fun n m news => news = [] ∧ ∃ lo hi tl th, m "a" = some (.ref l) ∧ m "x" = some x ∧ m "lo" = some (.int lo tl) ∧ m "hi" = some (.int hi th) ∧ 0 ≤ lo ∧ lo ≤ k ∧ k ≤ hi ∧ hi ≤ vs.length ∧ n = (hi - lo).toNat)
    F₂ N₂ ⟨rfl, 0, vs.length, _, _, rfl, rfl, rfl, rfl, by omega, by omega, by omega, by omega, rfl⟩ ?_
  rintro n m₁ _ h₃ tk₃ F₃ N₃ ⟨rfl, lo, hi, tl, th, ea, ex, el, eh, b1, b2, b3, b4, rfl⟩
  replace F₃ := frSees [("a", .ref l), ("x", x), ("lo", .int lo tl), ("hi", .int hi th)] F₃ ⟨ea, ex, el, eh, trivial⟩
  k_steps
  · refine Hold.out ?_
    rename_i h₄ F₄ N₄
    have hm : Int.fdiv (lo + hi) 2 = (lo + hi) / 2 := Int.fdiv_eq_ediv_of_nonneg _ (by omega)
    refine item_list (Fr.lst F₄ hl) (by omega) (by omega) hfit fun v hv => ?_
    k_steps
    refine Hold.out (hp _ _ hv _ _ _ _ ?_)
    k_steps
    · rename_i hpt _ F₅ N₅
      have hlt : (Int.fdiv (lo + hi) 2).toNat < k := by
        rcases Nat.lt_or_ge (Int.fdiv (lo + hi) 2).toNat k with h | h
        · exact h
        · rw [h2 _ h (by omega)] at hpt; cases hpt
      exact ⟨_, _, _, _, _, rfl, F₅, N₅, by omega, rfl, Int.fdiv (lo + hi) 2 + 1, hi, _, _, rfl, rfl, rfl, rfl, by omega, by omega, by omega, by omega, rfl⟩
    · rename_i hpt _ F₅ N₅
      have hge : k ≤ (Int.fdiv (lo + hi) 2).toNat := by
        rcases Nat.lt_or_ge (Int.fdiv (lo + hi) 2).toNat k with h | h
        · rw [h1 _ h] at hpt; cases hpt
        · exact h
      exact ⟨_, _, _, _, _, rfl, F₅, N₅, by omega, rfl, lo, Int.fdiv (lo + hi) 2, _, _, rfl, rfl, rfl, rfl, by omega, by omega, by omega, by omega, rfl⟩
  · have e : lo = k := by omega
    subst e
    exact Ends.mk ⟨_, rfl⟩ F₃.keep

/-- x compared with the list's items, told by p -/
def GtIs (w : World) (vs : List Value) (x : Value) (p : Nat → Bool) : Prop :=
  ∀ i v, vs[i]? = some v → ∀ (A : Around) (Q E : Value → Shared → Prop) (s : Shared), Q (.bool (p i)) s → wpAny (model Pg w) A (compareOp .Lt x v) Q E s

theorem bisect_right_spec {w : World} {A : Around} {s : Shared} {mean mg mb} {E : Value → Shared → Prop} {l : Addr} {vs : List Value} {x : Value} {p : Nat → Bool} {k : Nat}
    (KX : (hd.heap_39 w.params).In s.heap) (T : Tp mean mg mb s.heap) (hA : A.handled = none) (hroom : A.depth < 600) (hunits : A.units < 9000)
    (hl : s.heap.IsList l vs.toArray) (hfit : vs.length < 2 ^ 62) (hp : GtIs w vs x p) (hk : k ≤ vs.length) (h1 : ∀ i, i < k → p i = false) (h2 : ∀ i, k ≤ i → i < vs.length → p i = true) :
    wpAny (model Pg w) A (call (.ref 59) [.ref l, x] []) (Ends s fun v _ => ∃ t, v = .int k t) E s := by
  have dummy : (fun (_ : OpenLaw) (_ : Params → Frag) => True) PySem.Challenge.rw_zo0023_01 hd.heap_39 := by
    k_fill
    trivial
  refine enter_def (binds := [("a", .ref l), ("x", x), ("lo", .int 0 332), ("hi", .none), ("key", .none)]) KX T.nolimit (by unfold recursionLimit; omega) rfl (by rfl) (binds_of_peek KX fun S => by kernel_rfl) (by decide) (by rfl) ?_
  intro h₁ F
  have N : News s.heap s.heap.objs.size h₁ [] := News.nil
  k_steps
  refine Hold.out ?_
  rename_i h₂ F₂ N₂
  refine While_inv2 (fun n m news => news = [] ∧ ∃ lo hi tl th, m "a" = some (.ref l) ∧ m "x" = some x ∧ m "lo" = some (.int lo tl) ∧ m "hi" = some (.int hi th) ∧ 0 ≤ lo ∧ lo ≤ k ∧ k ≤ hi ∧ hi ≤ vs.length ∧ n = (hi - lo).toNat)
    F₂ N₂ ⟨rfl, 0, vs.length, _, _, rfl, rfl, rfl, rfl, by omega, by omega, by omega, by omega, rfl⟩ ?_
  rintro n m₁ _ h₃ tk₃ F₃ N₃ ⟨rfl, lo, hi, tl, th, ea, ex, el, eh, b1, b2, b3, b4, rfl⟩
  replace F₃ := frSees [("a", .ref l), ("x", x), ("lo", .int lo tl), ("hi", .int hi th)] F₃ ⟨ea, ex, el, eh, trivial⟩
  k_steps
  · refine Hold.out ?_
    rename_i h₄ F₄ N₄
    have hm : Int.fdiv (lo + hi) 2 = (lo + hi) / 2 := Int.fdiv_eq_ediv_of_nonneg _ (by omega)
    refine item_list (Fr.lst F₄ hl) (by omega) (by omega) hfit fun v hv => ?_
    k_steps
    refine Hold.out (hp _ _ hv _ _ _ _ ?_)
    k_steps
    · rename_i hpt _ F₅ N₅
      have hge : k ≤ (Int.fdiv (lo + hi) 2).toNat := by
        rcases Nat.lt_or_ge (Int.fdiv (lo + hi) 2).toNat k with h | h
        · rw [h1 _ h] at hpt; cases hpt
        · exact h
      exact ⟨_, _, _, _, _, rfl, F₅, N₅, by omega, rfl, lo, Int.fdiv (lo + hi) 2, _, _, rfl, rfl, rfl, rfl, by omega, by omega, by omega, by omega, rfl⟩
    · rename_i hpt _ F₅ N₅
      have hlt : (Int.fdiv (lo + hi) 2).toNat < k := by
        rcases Nat.lt_or_ge (Int.fdiv (lo + hi) 2).toNat k with h | h
        · exact h
        · rw [h2 _ h (by omega)] at hpt; cases hpt
      exact ⟨_, _, _, _, _, rfl, F₅, N₅, by omega, rfl, Int.fdiv (lo + hi) 2 + 1, hi, _, _, rfl, rfl, rfl, rfl, by omega, by omega, by omega, by omega, rfl⟩
  · have e : lo = k := by omega
    subst e
    exact Ends.mk ⟨_, rfl⟩ F₃.keep

end Mine
end

section
open PySem PySem.W PyProof.Rows
set_option maxRecDepth 100000
set_option maxHeartbeats 8000000
namespace Mine
local macro_rules | `(tactic| walk_at "call ref") => `(tactic| refine hold ?_)
local macro_rules | `(tactic| walk_at "call builtin:list.insert") => `(tactic| refine hold ?_)

theorem insort_left_spec {w : World} {A : Around} {s : Shared} {mean mg mb} {E : Value → Shared → Prop} {h₀ : Heap} {l : Addr} {vs : List Value} {n : Nat} {x : Value} {p : Nat → Bool} {k : Nat}
    (k₀ : KeepsH h₀ s.heap) (KX₀ : (hd.heap_39 w.params).In h₀) (T₀ : Tp mean mg mb h₀) (hA : A.handled = none) (hroom : A.depth < 590) (hunits : A.units < 8900)
    (hn : h₀.get? l = none) (hl : s.heap.get? l = some (listOf vs.toArray n)) (hfit : vs.length < 1000) (hp : LtIs w vs x p) (hk : k ≤ vs.length) (h1 : ∀ i, i < k → p i = true) (h2 : ∀ i, k ≤ i → i < vs.length → p i = false) :
    wpAny (model Pg w) A (call (.ref 68) [.ref l, x] []) (EndsBut l s fun v h' => v = .none ∧ h'.get? l = some (listOf (vs.take k ++ x :: vs.drop k).toArray (n + 1))) E s := by
  have dummy : (fun (_ : OpenLaw) (_ : Params → Frag) => True) PySem.Challenge.rw_zo0023_01 hd.heap_39 := by
    k_fill
    trivial
  refine enter_def (binds := [("a", .ref l), ("x", x), ("lo", .int 0 346), ("hi", .none), ("key", .none)]) (KX₀.keeps k₀) (T₀.nolimit.keeps k₀) (by unfold recursionLimit; omega) rfl (by rfl) (binds_of_peek (KX₀.keeps k₀) fun S => by kernel_rfl) (by decide) (by rfl) ?_
  intro h₁ F
  have N := newsHide F hl
  replace F := frHide (l := l) F
  have KX := KX₀.keeps (keepsHide k₀ hn)
  have T := T₀.keeps (keepsHide k₀ hn)
  k_steps
  refine Hold.out (use (R := fun v _ => ∃ t, v = .int k t) ?_ ?_)
  · exact bisect_left_spec (KX.keeps F.keep) (T.keeps F.keep) (by exact hA) (by show A.depth + 1 < 600; omega) (by show A.units + 3 < 9000; omega) (N.isList (.head _)) (by omega) (.inr ⟨_, rfl⟩) hp hk h1 h2
  rintro v h₂ tk₂ ⟨t, rfl⟩ k₂
  replace F := frUp F k₂
  replace N := newsUp N k₂
  dsimp only
  k_steps
  refine Hold.out ?_
  rename_i h₃ F₃ N₃
  refine kl_insert F₃ N₃ ?_ (l := vs.take k ++ x :: vs.drop k) ?_ (.head (by intro q hq; cases hq)) (by simp only [List.length_append]; rw [sizeLine_eq]; omega) ?_
  · unfold Builtin.List.listFitsIndex; simp; omega
  · unfold kl_ins
    have e : (if (k : Int) < 0 then ((k : Int) + (vs.length : Int)).toNat else min (k : Int).toNat vs.length) = k := by
      rw [if_neg (by omega)]; omega
    show List.take (if (k : Int) < 0 then ((k : Int) + (vs.length : Int)).toNat else min (k : Int).toNat vs.length) vs ++ x :: List.drop (if (k : Int) < 0 then ((k : Int) + (vs.length : Int)).toNat else min (k : Int).toNat vs.length) vs = _
    rw [e]
  intro h₄ F₄ N₄
  dsimp only
  k_steps
  exact EndsBut.mk ⟨rfl, N₄.get (.head _)⟩ F₄.keep

end Mine
end

section
open PySem PySem.W PyProof.Rows PySem.Calls
set_option maxRecDepth 100000
set_option maxHeartbeats 8000000
namespace Mine
local macro_rules | `(tactic| walk_at "zz no such key") => `(tactic| refine hold ?_)
local macro_rules | `(tactic| walk_at "pyIter ref") => `(tactic| refine hold ?_)
local macro_rules | `(tactic| walk_at "exec For Name Name cons nil") => `(tactic| (k_here; (with_unfolding_all refine' For_invVF (by assumption) ?k1 ?k2 ?_; (case k1 => exact rfl); (case k2 => exact rfl)); k_whole))

/-- the place that the law tells -/
def placeOf : Nat → List Nat → Nat
  | _, [] => 0
  | n, b :: r => n % b * (n / b + 1) + placeOf (n / b) r

theorem law_place_spec {w : World} {A : Around} {s : Shared} {mean mg mb} {E : Value → Shared → Prop} {l : Addr} {vs : List Value} {bs : List Nat} {n : Nat} {tn : Tok}
    (KX : (hd.heap_39 w.params).In s.heap) (T : Tp mean mg mb s.heap) (hA : A.handled = none) (hroom : A.depth < 600) (hunits : A.units < 9000)
    (hl : s.heap.IsList l vs.toArray) (hI : IntsAre vs (bs.map Int.ofNat)) (hb : ∀ b ∈ bs, 2 ≤ b ∧ b ≤ 4) (hlen : bs.length ≤ 3) (hn : n < 100) :
    wpAny (model Pg w) A (call (.ref 144) [.int n tn, .ref l] []) (Ends s fun v _ => ∃ t, v = .int (placeOf n bs) t) E s := by
  have dummy : (fun (_ : OpenLaw) (_ : Params → Frag) => True) PySem.Challenge.rw_zo0023_01 hd.heap_39 := by
    k_fill
    trivial
  refine enter_def (binds := [("number", .int n tn), ("bases", .ref l)]) KX T.nolimit (by unfold recursionLimit; omega) rfl (by rfl) (binds_of_peek KX fun S => by kernel_rfl) (by decide) (by rfl) ?_
  intro h₁ F
  have N : News s.heap s.heap.objs.size h₁ [] := News.nil
  k_steps
  refine Hold.out ?_
  rename_i h₂ F₂ N₂
  have hL : l ≠ s.heap.objs.size := by obtain ⟨o, ho, _⟩ := id hl; exact Nat.ne_of_lt (Heap.lt_size ho)
  refine iterList (mu := []) (fun i m nx => nx = [] ∧ ∃ (pl num : Nat) (tp tk : Tok), m "place" = some (.int pl tp) ∧ m "number" = some (.int num tk) ∧ num < 100 ∧ pl ≤ 10000 * i ∧ pl + placeOf num (bs.drop i) = placeOf n bs)
    (by exact hA) (Fr.lst F₂ hl) hL (by simp) (by simp) F₂ N₂ ⟨rfl, 0, n, _, _, rfl, rfl, hn, by simp, by simp⟩ ?_ ?_
  · rintro i v m₁ _ h₃ tk₃ own hv - hown ⟨rfl, pl, num, tp, tk, ep, en, b1, b2, b3⟩ F₃ N₃
    have hi : i < bs.length := by
      have := hI.length
      rw [List.length_map] at this
      rw [← this]
      exact (List.getElem?_eq_some_iff.mp hv).1
    obtain ⟨tb, hb'⟩ := hI.get i (bs[i] : Int) (by simp [hi])
    rw [hv] at hb'
    obtain rfl := Option.some.inj hb'
    have hbi := hb bs[i] (List.getElem_mem hi)
    generalize hbe : bs[i] = b at *
    replace F₃ := frSees [("base", .int b tb), ("place", .int pl tp), ("number", .int num tk)] F₃ ⟨rfl, ep, en, trivial⟩
    k_steps
    rename_i h₄ F₄ N₄
    have e1 : (pl : Int) + Int.fmod num b * (Int.fdiv num b + 1) = ((pl + num % b * (num / b + 1) : Nat) : Int) := by
      rw [natMod, natDiv]; simp
    refine TurnTo.nextN [] F₄ N₄ (fun p hp => hp) rfl ⟨rfl, pl + num % b * (num / b + 1), num / b, _, _, congrArg (fun z => some (Value.int z _)) e1, congrArg (fun z => some (Value.int z _)) (natDiv num b), ?_, ?_, ?_⟩
    · exact Nat.lt_of_le_of_lt (Nat.div_le_self _ _) b1
    · have h1 : num % b < 100 := Nat.lt_of_le_of_lt (Nat.mod_le _ _) b1
      have h2 : num / b + 1 ≤ 100 := by have := Nat.div_le_self num b; omega
      have h3 := Nat.mul_le_mul (Nat.le_of_lt h1) h2
      omega
    · rw [← b3, List.drop_eq_getElem_cons hi, hbe]
      simp only [placeOf]
      omega
  · rintro m₁ _ h₃ tk₃ ⟨rfl, pl, num, tp, tk, ep, en, b1, b2, b3⟩ - F₃ N₃
    replace F₃ := frSees [("place", .int pl tp), ("number", .int num tk)] F₃ ⟨ep, en, trivial⟩
    have hlen' := hI.length
    rw [List.length_map] at hlen'
    rw [hlen', List.drop_length] at b3
    k_steps
    rw [← b3]
    exact Ends.mk ⟨_, rfl⟩ F₃.keep
end Mine
end

section
open PySem PySem.W PyProof.Rows PySem.Calls
set_option maxRecDepth 100000
set_option maxHeartbeats 8000000
namespace Mine
open PySem (Ctx)
/-! A layer of my own: runs under a stack on which nothing holds a bytearray's buffer. -/

def holdIds : List String := ["bytearray.__contains__", "bytearray.__mod__", "bytearray.__rmod__", "_struct.pack_into.held", "bytearray.find.held"] ++ Builtin.Bytes.decodersThatHold
def okCode : Code → Bool
  | .builtin id _ => !holdIds.contains id
  | _ => true
def OkCtx (Γ : PySem.Ctx) : Prop := okCode Γ.code = true ∧ ∀ x ∈ Γ.below, okCode x.1 = true
theorem OkCtx.enter {Γ : PySem.Ctx} (h : OkCtx Γ) {c : Code} (hc : okCode c = true) (hd : Option Value) (p : Pos) : OkCtx (Γ.enter c hd p) :=
  ⟨hc, fun x hx => by
    rcases List.mem_cons.mp hx with rfl | hx
    · exact h.1
    · exact h.2 x hx⟩
theorem OkCtx.goto {Γ : PySem.Ctx} (h : OkCtx Γ) {c : Code} (hc : okCode c = true) : OkCtx (Γ.goto c) := ⟨hc, h.2⟩

def wpS {α : Type} (M : Model) (A : Around) (t : Sem α) (Q : α → Shared → Prop) (s : Shared) : Prop :=
  ∀ Γ p, PySem.Ctx.In Γ A → OkCtx Γ → Sem.wp M Γ t (fun a _ s' => Q a s') (fun _ _ _ => False) p s
/-- what a flow that comes back must meet; an exception meets nothing -/
abbrev only (Q : Flow → Shared → Prop) : Result → Shared → Prop := fun r s' => match r with | .ok f => Q f s' | .error _ => False
def codeS (M : Model) (A : Around) (c : Code) (Q : Flow → Shared → Prop) (s : Shared) : Prop :=
  ∀ Γ p, Γ.code = c → PySem.Ctx.Below Γ A → OkCtx Γ → wpCode M Γ (only Q) p s

section
variable {α β : Type} {M : Model} {A : Around} {s : Shared}
theorem wpS_of {t : Sem α} {Q : α → Shared → Prop} (h : wpAny M A t Q (fun _ _ => False) s) : wpS M A t Q s := fun Γ p i _ => h Γ p i
theorem codeS_of {c : Code} {Q : Flow → Shared → Prop} (h : codeAny M A c (only Q) s) : codeS M A c Q s := fun Γ p hc hb _ => h Γ p hc hb
theorem wpS_pure {a : α} {Q : α → Shared → Prop} (h : Q a s) : wpS M A (pure a) Q s := fun _ _ _ _ => h
theorem wpS_mono {t : Sem α} {Q Q' : α → Shared → Prop} (h : wpS M A t Q s) (hQ : ∀ a s, Q a s → Q' a s) : wpS M A t Q' s :=
  fun Γ p i o => Sem.wp_mono M Γ t (fun a _ s => hQ a s) (fun _ _ _ x => x) p s (h Γ p i o)
theorem wpS_bind {m : Sem α} {f : α → Sem β} {Q : β → Shared → Prop} (h : wpS M A m (fun a s' => wpS M A (f a) Q s') s) : wpS M A (m >>= f) Q s := fun Γ p i o => by
  rw [Sem.wp_bind']
  exact Sem.wp_mono M Γ m (fun a p' s' h' => h' Γ p' i o) (fun _ _ _ h' => h') p s (h Γ p i o)
theorem wpS_bindA {m : Sem α} {f : α → Sem β} {Q : β → Shared → Prop} (h : wpAny M A m (fun a s' => wpS M A (f a) Q s') (fun _ _ => False) s) : wpS M A (m >>= f) Q s := wpS_bind (wpS_of h)
theorem wpS_onRaise {m : Sem α} {k : Value → Sem Unit} {Q : α → Shared → Prop} (h : wpS M A m Q s) : wpS M A (m.onRaise k) Q s := fun Γ p i o => by
  rw [Sem.wp_onRaise]
  exact Sem.wp_mono M Γ m (fun _ _ _ x => x) (fun _ _ _ x => x.elim) p s (h Γ p i o)
theorem wpS_holding {vs : List Value} {m : Sem α} {Q : α → Shared → Prop} (h : wpS M A m Q s) : wpS M A (holding vs m) Q s := fun Γ p i o => by
  rw [Sem.wp_holding]; exact h Γ p i o
theorem wpS_keep {vs : List Value} {m : Sem α} {Q : α → Shared → Prop} (h : wpS M A m Q s) : wpS M A (m.keep vs) Q s := fun Γ p i o => by
  rw [Sem.wp_keep]; exact h Γ p i o
theorem wpS_run {c : Code} {hd : Option Value} {Q : Flow → Shared → Prop} (hc : codeS M (A.mark hd) c Q s) (ok : okCode c = true) (hnb : hd ≠ some byPass := by intro x; cases x) : wpS M A (run c hd) Q s := fun Γ p i o => by
  rw [Sem.wp_run]
  exact wpCode_mono (fun r s' h => by cases r <;> exact h) (hc _ p rfl (i.enter c hd p hnb) (o.enter ok hd p))
theorem wpS_call {f : Value} {pos : List Value} {kw : List (Str × Value)} {Q : Value → Shared → Prop} (hc : codeS M A (.call f ⟨pos, kw⟩) (fun fl s' => match fl with | .ret v => Q v s' | _ => False) s) : wpS M A (call f pos kw) Q s := fun Γ p i o => by
  rw [Sem.wp_cmd_call]
  refine wpCode_mono (fun r s' h => ?_) (hc _ p rfl (i.enter _ none p (by intro x; cases x)) (o.enter rfl none p))
  cases r with
  | error e => exact h
  | ok f => cases f <;> exact h
theorem codeS_of_tree {c : Code} {Q : Flow → Shared → Prop}
    (h : wpS M (A.under c) (M.den c) (fun fin s' => match fin with | .done f => Q f s' | .again c' => c'.quiet = true ∧ okCode c' = true ∧ codeS M A c' Q s') s) : codeS M A c Q s := fun Γ p hc hb o => by
  rw [wpCode_iff_wp, hc]
  refine Sem.wp_mono M Γ _ (fun fin p' s' h' => ?_) (fun _ _ _ h' => h') p s (h Γ p (hc ▸ hb.in) o)
  cases fin with
  | done f => exact h'
  | again c' => exact ⟨h'.1, h'.2.2 (Γ.goto c') p' rfl (hb.goto c') (o.goto h'.2.1)⟩
theorem codeS_loop {c : Code} {Q : Flow → Shared → Prop} (hq : c.quiet = true) (hok : okCode c = true) (I : Nat → Shared → Prop)
    (turn : ∀ n s, I n s → wpS M (A.under c) (M.den c) (fun fin s' => match fin with
      | .done f => Q f s'
      | .again c' => (c' = c ∧ ∃ m, m < n ∧ I m s') ∨ (c'.quiet = true ∧ okCode c' = true ∧ codeS M A c' Q s')) s)
    (n : Nat) (h : I n s) : codeS M A c Q s := by
  induction n using Nat.strongRecOn generalizing s with
  | ind n ih =>
    refine codeS_of_tree (wpS_mono (turn n s h) (fun fin s' hf => ?_))
    cases fin with
    | done f => exact hf
    | again c' =>
      rcases hf with ⟨rfl, m, hm, hI⟩ | hf
      · exact ⟨hq, hok, ih m hm hI⟩
      · exact hf
end

section
variable {prog : Program} {w : World} {A : Around} {s : Shared} {env : Env}

theorem execsS {st : Stmt} {rest : List Stmt} {Q : Flow → Shared → Prop} (h : wpS (model prog w) A (exec st env) (fun f s' => match f with | .next => wpS (model prog w) A (execs rest env) Q s' | f => Q f s') s) :
    wpS (model prog w) A (execs (st :: rest) env) Q s := by
  rw [execs_cons]
  exact wpS_bind (wpS_mono h fun f s' h' => by cases f <;> first | exact h' | exact wpS_pure h')
theorem execsA {st : Stmt} {rest : List Stmt} {Q : Flow → Shared → Prop} (h : wpAny (model prog w) A (exec st env) (fun f s' => match f with | .next => wpS (model prog w) A (execs rest env) Q s' | f => Q f s') (fun _ _ => False) s) :
    wpS (model prog w) A (execs (st :: rest) env) Q s := execsS (wpS_of h)

theorem codeS_func {body : List Stmt} {Q : Flow → Shared → Prop} (h : wpS (model prog w) (A.deeper env) (execs body env) (fun f s' => Q (.ret (match f with | .ret v => v | _ => .none)) s') s) :
    codeS (model prog w) A (.func body env) Q s := by
  refine codeS_of_tree ?_
  show wpS _ (A.deeper env) (do point; match ← (execs body env).onRaise (leaving env) with | .ret v => ret v | _ => ret .none) _ s
  refine wpS_bindA (wpAny_point (wpS_bind (wpS_onRaise (wpS_mono h (fun f s' h' => ?_)))))
  cases f <;> exact wpS_pure h'

theorem codeS_call_function {a : Addr} {args : Args} {o : Obj} {fd : FuncData} {body : List Stmt} {Q : Flow → Shared → Prop} (hroom : A.depth < recursionLimit)
    (ho : s.heap.get? a = some o) (hd' : o.data = .func fd) (hco : fd.scope.isCoroutine = false) (hgen : fd.scope.isGenerator = false) (hbody : fd.body = .stmts body) (hcd : s.heap.CodeRec fd.code fd.qualname)
    (h : wpAny (model prog w) A.in1 (bindArgs fd args) (fun binds s₁ =>
      wpAny (model prog w) A.in1 (newFunctionEnv fd.scope fd.globals fd.closure binds (fd.qualname ++ ".<locals>.") (some a) fd.code none fd.builtins)
        (fun env s₂ => s₂.heap.NoLimit ∧ codeS (model prog w) A (.func body env) Q s₂) (fun _ _ => False) s₁) (fun _ _ => False) s) :
    codeS (model prog w) A (.call (.ref a) args) Q s := by
  refine codeS_of_tree ?_
  show wpS _ A.in1 (callAny (.ref a) args) _ s
  simp only [callAny]
  refine wpS_bindA (wpAny_load ho ?_)
  obtain ⟨c, oc, vs, tq, hc, hoc, hdc, hq⟩ := hcd
  simp only [hd', callFunction, hco, hgen, hbody, hc]
  rw [hc] at h
  refine wpS_bindA (m := field (.ref c) 1) (wpAny_field hoc hdc hq (wpS_bindA (wpAny_pure ?_)))
  exact wpS_bindA (wpAny_mono h (fun binds s₁ h₁ => wpS_bindA (wpAny_mono h₁ (fun env s₂ h₂ => wpS_bindA (wpAny_enterFrame h₂.1 hroom
    (wpS_pure ⟨rfl, rfl, h₂.2⟩))) fun _ _ h' => h')) fun _ _ h' => h')

theorem enterS {K : Frag} {binds : List (Str × Value)} {Q : Value → Shared → Prop}
    {f : Addr} {name qual : Str} {params : Arguments} {body : List Stmt} {scope : Scope} {dV kV doc pm cdv ct oc : Value} {an od : Option Addr} {osl : Array (Option Value)}
    {pos : List Value} {kw : List (Str × Value)}
    (X : K.In s.heap) (hlim : s.heap.NoLimit) (hroom : A.depth < recursionLimit)
    (ho : K.lookup f = some ⟨oc, od, .func (fnOf name qual params body scope dV kV doc pm an cdv ct), osl⟩) (hcd : codeIn K cdv qual = true)
    (hbind : BindsTo s (fnOf name qual params body scope dV kV doc pm an cdv ct) ⟨pos, kw⟩ binds)
    (hcell : ∀ x ∈ scope.names, x.2 ≠ .cell) (hloc : (binds.all fun x => decide (scope.names.lookup x.1 = some .local)) = true)
    (h : ∀ h₁, Fr s.heap s.heap.objs.size h₁ (fun x => binds.reverse.lookup x) →
      wpS (model prog w) (A.deeper (envOf qual scope s.heap.objs.size f cdv)) (execs body (envOf qual scope s.heap.objs.size f cdv)) (fun fl s' => Q (match fl with | .ret v => v | _ => .none) s')
        { s with heap := h₁, toks := s.toks + binds.length })
    (hco : scope.isCoroutine = false := by rfl) (hgen : scope.isGenerator = false := by rfl) (hk : scope.kind = .function := by rfl) :
    wpS (model prog w) A (call (.ref f) pos kw) Q s := by
  refine wpS_call (codeS_call_function (fd := fnOf name qual params body scope dV kV doc pm an cdv ct) (body := body) hroom (X _ _ ho) rfl hco hgen rfl (codeRec_of X hcd) (hbind _ _ _ _ ?_))
  refine wpAny_newFunctionEnv hcell (locs hloc) (fun h₀ hns₀ hsb₀ => ⟨hlim.fresh _ hsb₀, codeS_func (h h₀ ⟨hns₀, fun b o e => ?_, Nat.le_refl _⟩)⟩) hk
  exact hsb₀.extBut b o (Nat.ne_of_lt (Heap.lt_size e)) (Heap.get?_push_of_some _ e)

theorem wpS_For {target iter : Expr} {body : List Stmt} {pos : Pos} {Q : Flow → Shared → Prop}
    (h : wpAny (model prog w) A (eval iter env) (fun x s₁ => wpAny (model prog w) A (pyIter x) (fun it s₂ => codeS (model prog w) A (.forLoop target it body [] env) Q s₂) (fun _ _ => False) s₁) (fun _ _ => False) s)
    (hs : ∀ x, foldedSetIterable iter env x = pure x := by intro _; rfl) : wpS (model prog w) A (exec (.For target iter body [] pos) env) Q s := by
  rw [exec_For]
  refine wpS_bindA (wpAny_standAt (wpS_bindA (wpAny_mono h (fun x s₁ h₁ => wpS_bindA (wpAny_of_eq (hs x) (wpS_bindA (wpAny_standAt (wpS_bindA (wpAny_holding
    (wpAny_mono h₁ (fun it s₂ h₂ => ?_) fun _ _ h' => h'))))))) fun _ _ h' => h')))
  unfold runOwn
  exact wpS_onRaise (wpS_run h₂ rfl)

theorem codeS_forLoop {Q : Flow → Shared → Prop} {target : Expr} {it : Value} {body : List Stmt} (I : Nat → Shared → Prop)
    (turn : ∀ n s, I n s → wpAny (model prog w) A (pyNext it) (fun r s₁ => match r with
      | none => Q .next s₁
      | some v => wpAny (model prog w) A (assign target env v) (fun _ s₂ => wpS (model prog w) A (execs body env) (fun f s₃ => match f with
          | .next | .cont => ∃ m, m < n ∧ I m s₃
          | .brk => Q .next s₃
          | .ret v => Q (.ret v) s₃) s₂) (fun _ _ => False) s₁) (fun _ _ => False) s)
    (n : Nat) (h : I n s) (ht : ∀ v, letOwnedTupleGo target it v = pure () := by intro _; rfl) : codeS (model prog w) A (.forLoop target it body [] env) Q s := by
  refine codeS_loop rfl rfl I (fun n s hI => ?_) n h
  show wpS _ A ((forTurn target it body [] env).onRaise (fun x => do noteFrame x env; theTreesLotGoes x)) _ s
  refine wpS_onRaise ?_
  simp only [forTurn]
  refine wpS_bindA (wpAny_standAt (wpS_bind (wpS_onRaise (wpS_of (wpAny_mono (turn n s hI) (fun r s₁ h₁ => ?_) fun _ _ h' => h')))))
  cases r with
  | none => exact wpS_pure (.inr ⟨rfl, rfl, codeS_of (codeAny_block (wpAny_execs_nil h₁))⟩)
  | some v =>
    refine wpS_bindA (wpAny_of_eq (ht v) ?_)
    refine wpS_bindA (wpAny_mono h₁ (fun _ s₂ h₂ => wpS_bind (wpS_mono h₂ (fun f s₃ h₃ => ?_))) fun _ _ h' => h')
    cases f with
    | next => exact wpS_pure (.inl ⟨rfl, h₃⟩)
    | cont => exact wpS_pure (.inl ⟨rfl, h₃⟩)
    | brk => exact wpS_pure h₃
    | ret v => exact wpS_pure h₃
end
end Mine
end

section
open PySem PySem.W PyProof.Rows PySem.Calls
set_option maxRecDepth 100000
set_option maxHeartbeats 8000000
namespace Mine
section
variable {prog : Program} {w : World} {A : Around} {s : Shared} {env : Env} {h₀ : Heap} {x : Str} {body : List Stmt} {Q : Flow → Shared → Prop}

/-- the loop's turns in wpS, over the frame and the ledger -/
theorem loopS {I : Addr} {fp : List Addr} {n : Nat} {P : Nat → Value → Prop} {St : Nat → Heap → Prop} {m₀ : Str → Option Value} {news : List (Addr × Obj)} {px : Pos} (mu : List Addr) (J : Nat → (Str → Option Value) → List (Addr × Obj) → Prop)
    (W : Walks prog w A I fp [I] n P St) (hx : env.kindOf x = some .local) (hp : (env.scope.kind == .class || (env.scope.kind == .module && env.locals != env.globals)) = false)
    (hLf : env.locals ∉ fp) (hI : h₀.get? I = none) (hnI : ∀ p ∈ news, p.1 ≠ I) (hfp : ∀ b ∈ fp, b ∉ mu) (hst : St 0 s.heap) (F : Fr h₀ env.locals s.heap m₀) (N : News h₀ env.locals s.heap news) (hj : J 0 m₀ news)
    (turn : ∀ i v m₁ nx h tk own, i < n → P i v → nx.map (·.1) = news.map (·.1) → (∀ p ∈ own, p.1 ∉ mu) → J i m₁ nx → Fr h₀ env.locals h (fun y => if y = x then some v else m₁ y) → News h₀ env.locals h (nx ++ own) →
      wpS (model prog w) A (execs body env) (TurnTo h₀ env.locals (J (i + 1)) own (news.map (·.1)) { s with heap := h, toks := tk } Q) { s with heap := h, toks := tk })
    (done : ∀ m₁ nx h tk, J n m₁ nx → nx.map (·.1) = news.map (·.1) → Fr h₀ env.locals h m₁ → News h₀ env.locals h nx → Q .next { s with heap := h, toks := tk }) :
    codeS (model prog w) A (.forLoop (.Name x px) (.ref I) body [] env) Q s := by
  have hLI : env.locals ≠ I := fun e => hLf (W.sub _ (by rw [e]; simp))
  have old : ∀ b o, h₀.get? b = some o → b ∉ [I] := fun b o e hb => by rw [List.mem_singleton.mp hb, hI] at e; cases e
  have ne : ∀ nx : List (Addr × Obj), nx.map (·.1) = news.map (·.1) → ∀ p ∈ nx, p.1 ∉ [I] := fun nx e p hp hq => by
    have h1 : p.1 ∈ nx.map (·.1) := List.mem_map.mpr ⟨p, hp, rfl⟩
    rw [e] at h1
    obtain ⟨q, hq1, hq2⟩ := List.mem_map.mp h1
    exact hnI q hq1 (hq2.trans (List.mem_singleton.mp hq))
  refine codeS_forLoop (fun k s' => ∃ h' tk m' nx i, s' = { s with heap := h', toks := tk } ∧ St i h' ∧ Fr h₀ env.locals h' m' ∧ News h₀ env.locals h' nx ∧ nx.map (·.1) = news.map (·.1) ∧ J i m' nx ∧ i ≤ n ∧ k = n + 1 - i) ?_ (n + 1)
    ⟨s.heap, s.toks, m₀, news, 0, rfl, hst, F, N, rfl, hj, Nat.zero_le _, rfl⟩
  rintro k s' ⟨h', tk, m', nx, i, rfl, hst', F', N', ha, hJ, hi, rfl⟩
  have next : ∀ h₁ : Heap, (∀ b o, b ∉ [I] → h'.get? b = some o → h₁.get? b = some o) → Fr h₀ env.locals h₁ m' ∧ News h₀ env.locals h₁ nx := fun h₁ hk₁ =>
    ⟨⟨F'.ns.at' fun o e => hk₁ _ o (fun q => hLI (List.mem_singleton.mp q)) e, fun b o e => hk₁ b o (old b o e) (F'.keep b o e), F'.above⟩, fun p hp => ⟨hk₁ _ _ (ne nx ha p hp) (N' p hp).1, (N' p hp).2⟩⟩
  by_cases hlt : i < n
  · refine W.item i _ _ _ hlt hst' fun v h₁ tk₁ hP hst₁ hk₁ => ?_
    obtain ⟨F₁, N₁⟩ := next h₁ hk₁
    refine wpAny_assign_Name (wpAny_storeName_local hx F₁.ns (fun h₂ hn₂ hs₂ => ?_) hp)
    have F₂ := F₁.set hn₂ hs₂
    have Nown : News h₀ env.locals h₂ (ownOf h₀ fp h₂) := news_ownOf hLf
    have hst₂ : St (i + 1) h₂ := W.frame _ _ _ hst₁ fun b hb o e => (hs₂.2 b fun q => hLf (q ▸ hb)).trans e
    have NN : News h₀ env.locals h₂ (nx ++ ownOf h₀ fp h₂) := fun p hp => (List.mem_append.mp hp).elim (fun q => N₁.set hs₂ p q) fun q => Nown p q
    refine wpS_mono (turn i v m' nx h₂ _ (ownOf h₀ fp h₂) hlt hP ha (fun p hp => hfp _ (ownOf_sub p hp)) hJ F₂ NN) (fun f s₃ h₃ => ?_)
    have fin : (∃ h' tk m₂ nx₂, s₃ = { { s with heap := h₂, toks := tk₁ + 1 } with heap := h', toks := tk } ∧ Fr h₀ env.locals h' m₂ ∧ News h₀ env.locals h' (nx₂ ++ ownOf h₀ fp h₂) ∧ nx₂.map (·.1) = news.map (·.1) ∧ J (i + 1) m₂ nx₂) →
        ∃ m, m < n + 1 - i ∧ ∃ h' tk m' nx i', s₃ = { s with heap := h', toks := tk } ∧ St i' h' ∧ Fr h₀ env.locals h' m' ∧ News h₀ env.locals h' nx ∧ nx.map (·.1) = news.map (·.1) ∧ J i' m' nx ∧ i' ≤ n ∧ m = n + 1 - i' := by
      rintro ⟨h₃', tk₃, m₂, nx₂, rfl, F₃, N₃, ha₃, hJ₃⟩
      refine ⟨n + 1 - (i + 1), by omega, h₃', tk₃, m₂, nx₂, i + 1, rfl, ?_, F₃, fun p hp => N₃ p (List.mem_append_left _ hp), ha₃, hJ₃, hlt, rfl⟩
      refine W.frame _ _ _ hst₂ fun b hb o e => ?_
      cases hn : h₀.get? b with
      | some o₀ =>
        have : o₀ = o := by have := F₂.keep b o₀ hn; rw [e] at this; exact (Option.some.inj this).symm
        exact this ▸ F₃.keep b o₀ hn
      | none => exact (N₃ _ (List.mem_append_right _ (mem_ownOf hb hn e))).1
    cases f with
    | ret v => exact h₃
    | brk => exact h₃
    | cont => exact fin h₃
    | next => exact fin h₃
  · have hin : i = n := by omega
    subst hin
    refine W.done _ _ _ hst' fun h₁ tk₁ hk₁ => ?_
    obtain ⟨F₁, N₁⟩ := next h₁ hk₁
    exact done m' nx h₁ tk₁ hJ ha F₁ N₁

theorem iterListS {l : Addr} {vs : List Value} {m₀ : Str → Option Value} {news : List (Addr × Obj)} {px : Pos} (mu : List Addr) (J : Nat → (Str → Option Value) → List (Addr × Obj) → Prop)
    (hx : env.kindOf x = some .local) (hp : (env.scope.kind == .class || (env.scope.kind == .module && env.locals != env.globals)) = false)
    (hh : A.handled = none) (hl : s.heap.IsList l vs.toArray) (hlL : l ≠ env.locals) (hlm : l ∉ mu) (hm : ∀ a ∈ mu, a ∈ news.map (·.1)) (F : Fr h₀ env.locals s.heap m₀) (N : News h₀ env.locals s.heap news) (hj : J 0 m₀ news)
    (turn : ∀ i v m₁ nx h tk own, vs[i]? = some v → nx.map (·.1) = news.map (·.1) → (∀ p ∈ own, p.1 ∉ mu) → J i m₁ nx → Fr h₀ env.locals h (fun y => if y = x then some v else m₁ y) → News h₀ env.locals h (nx ++ own) →
      wpS (model prog w) A (execs body env) (TurnTo h₀ env.locals (J (i + 1)) own (news.map (·.1)) { s with heap := h, toks := tk } Q) { s with heap := h, toks := tk })
    (done : ∀ m₁ nx h tk, J vs.length m₁ nx → nx.map (·.1) = news.map (·.1) → Fr h₀ env.locals h m₁ → News h₀ env.locals h nx → Q .next { s with heap := h, toks := tk }) :
    wpAny (model prog w) A (pyIter (.ref l)) (fun it s₂ => codeS (model prog w) A (.forLoop (.Name x px) it body [] env) Q s₂) (fun _ _ => False) s := by
  obtain ⟨ol, hol, _⟩ := id hl
  have hne : l ≠ s.heap.objs.size := Nat.ne_of_lt (Heap.lt_size hol)
  refine wpAny_pyIter_list hl ?_
  have W := Walks.list (prog := prog) (w := w) hh s.heap.objs.size l hne vs.toArray
  rw [List.size_toArray] at W
  refine loopS mu J W hx hp ?_ (baseNew F) (newsNe N) ?_ ⟨⟨_, Heap.get?_push_size _ rfl, rfl, rfl⟩, hl.at fun o e => Heap.get?_push_of_some _ e⟩ (F.push _) (newsPush N _) hj (fun i v m₁ nx h tk own hi hP => turn i v m₁ nx h tk own (by simpa using hP)) done
  · intro hm
    rcases List.mem_cons.mp hm with e | hm
    · exact absurd F.ns.lt (e ▸ Nat.lt_irrefl _)
    · exact hlL (List.mem_singleton.mp hm).symm
  · intro b hb
    rcases List.mem_cons.mp hb with e | hb
    · rw [e]; exact mutNe N hm
    · rw [List.mem_singleton.mp hb]; exact hlm

theorem iterRangeS {r : Addr} {a₀ b₀ : Int} {t₀ u₀ v₀ : Tok} (n : Nat) {m₀ : Str → Option Value} {news : List (Addr × Obj)} {px : Pos} (mu : List Addr) (J : Nat → (Str → Option Value) → List (Addr × Obj) → Prop)
    (hx : env.kindOf x = some .local) (hp : (env.scope.kind == .class || (env.scope.kind == .module && env.locals != env.globals)) = false)
    (hh : A.handled = none) (hr : IsRange s.heap r a₀ b₀ 1 t₀ u₀ v₀) (hsmall : Builtin.Range.small a₀ b₀ 1 = true) (hn : Builtin.Range.rangeSize a₀ b₀ 1 = (n : Int)) (hm : ∀ a ∈ mu, a ∈ news.map (·.1)) (F : Fr h₀ env.locals s.heap m₀) (N : News h₀ env.locals s.heap news) (hj : J 0 m₀ news)
    (turn : ∀ i t m₁ nx h tk own, i < n → nx.map (·.1) = news.map (·.1) → (∀ p ∈ own, p.1 ∉ mu) → J i m₁ nx → Fr h₀ env.locals h (fun y => if y = x then some (.int (a₀ + (i : Nat)) t) else m₁ y) → News h₀ env.locals h (nx ++ own) →
      wpS (model prog w) A (execs body env) (TurnTo h₀ env.locals (J (i + 1)) own (news.map (·.1)) { s with heap := h, toks := tk } Q) { s with heap := h, toks := tk })
    (done : ∀ m₁ nx h tk, J n m₁ nx → nx.map (·.1) = news.map (·.1) → Fr h₀ env.locals h m₁ → News h₀ env.locals h nx → Q .next { s with heap := h, toks := tk }) :
    wpAny (model prog w) A (pyIter (.ref r)) (fun it s₂ => codeS (model prog w) A (.forLoop (.Name x px) it body [] env) Q s₂) (fun _ _ => False) s := by
  refine wpAny_pyIter_range hr hsmall ?_
  have W := Walks.range (prog := prog) (w := w) hh s.heap.objs.size a₀ 1 n
  refine loopS mu J W hx hp ?_ (baseNew F) (newsNe N) ?_ (by show IsRangeIter _ _ _ _ _; rw [hn]; simpa using Heap.get?_push_size _ rfl) (F.push _) (newsPush N _) hj ?_ done
  · intro hm
    exact absurd F.ns.lt ((List.mem_singleton.mp hm) ▸ Nat.lt_irrefl _)
  · intro b hb
    rw [List.mem_singleton.mp hb]; exact mutNe N hm
  · rintro i v m₁ nx h tk own hi ⟨t, rfl⟩ ha ho hJ F₁ N₁
    rw [Int.mul_one] at F₁
    exact turn i t m₁ nx h tk own hi ha ho hJ F₁ N₁

/-! calls as expressions -/
theorem wpS_after {t : Sem Value} {Q : Value → Shared → Prop} (h : wpS (model prog w) A t Q s) : wpS (model prog w) A (t >>= fun r => holding [r] point >>= fun _ => pure r) Q s :=
  wpS_bind (wpS_mono h fun r s₂ hr => wpS_bindA (wpAny_holding (wpAny_point (wpS_pure hr))))
theorem callWithS_fn {pos : Pos} {a : Addr} {fo : Obj} {fd : FuncData} {args : List (Bool × Sem Value)} {Q : Value → Shared → Prop} (hplain : args.any (·.1) = false)
    (h : wpAny (model prog w) A (evalArgs (.ref a) true args []) (fun x s₁ => (s₁.heap.get? a = some fo ∧ fo.data = .func fd) ∧ wpS (model prog w) A (call (.ref a) x.pos x.kw) Q s₁) (fun _ _ => False) s) :
    wpS (model prog w) A (callWith pos (.ref a) [] args []) Q s := by
  unfold callWith
  refine wpS_bindA (wpAny_holding (wpAny_mono h (fun x s₁ h₁ => wpS_bindA (wpAny_standAt ?_)) fun _ _ x => x))
  simp only [hplain, List.any_nil, Bool.or_false, List.nil_append]
  refine wpS_bindA (m := keeperOf (.ref a)) ?_
  unfold keeperOf
  refine wpAny_bind (wpAny_load h₁.1.1 ?_)
  rw [h₁.1.2]
  refine wpAny_pure ?_
  dsimp only
  split
  · exact wpS_after h₁.2
  · exact wpS_after (wpS_keep h₁.2)
theorem callWithS_type {pos : Pos} {T : String} {args : List (Bool × Sem Value)} {Q : Value → Shared → Prop} (hplain : args.any (·.1) = false)
    (h : wpAny (model prog w) A (evalArgs (.type T) true args []) (fun x s₁ => wpS (model prog w) A (call (.type T) x.pos x.kw) Q s₁) (fun _ _ => False) s) :
    wpS (model prog w) A (callWith pos (.type T) [] args []) Q s := by
  unfold callWith
  refine wpS_bindA (wpAny_holding (wpAny_mono h (fun x s₁ h₁ => wpS_bindA (wpAny_standAt ?_)) fun _ _ x => x))
  simp only [hplain, List.any_nil, Bool.or_false, List.nil_append]
  refine wpS_bindA (m := keeperOf (.type T)) (wpAny_pure ?_)
  exact wpS_after h₁

theorem callS_fn {pos p : Pos} {f : Str} {a : Addr} {fo : Obj} {fd : FuncData} {e : Expr} {rest : List Expr} {Q : Value → Shared → Prop}
    (h : wpAny (model prog w) A (eval (.Name f p) env) (fun fv s₁ => fv = .ref a ∧ wpAny (model prog w) A (spliced (backTo pos (starEach (e :: rest) env))) (fun vs s₂ => (s₂.heap.get? a = some fo ∧ fo.data = .func fd) ∧ wpS (model prog w) A (call (.ref a) vs []) Q s₂) (fun _ _ => False) s₁) (fun _ _ => False) s)
    (he : starEach (e :: rest) env = (false, eval e env) :: starEach rest env := by rfl)
    (hplain : (backTo pos (starEach rest env)).any (·.1) = false := by rfl) :
    wpS (model prog w) A (eval (.Call (.Name f p) (e :: rest) [] pos) env) Q s := by
  rw [arm_eval_Call_Name']
  refine wpS_bindA (wpAny_mono h (fun fv s₁ h₁ => ?_) fun _ _ x => x)
  obtain ⟨rfl, h₁⟩ := h₁
  show wpS _ A (callWith pos (.ref a) [] (backTo pos (starEach (e :: rest) env)) []) Q s₁
  rw [he] at h₁ ⊢
  exact callWithS_fn (by show (false || (backTo pos (starEach rest env)).any (·.1)) = false; rw [hplain]; rfl) (evalArgs_plain h₁)
theorem callS_type {pos p : Pos} {f : Str} {T : String} {e : Expr} {rest : List Expr} {Q : Value → Shared → Prop}
    (h : wpAny (model prog w) A (eval (.Name f p) env) (fun fv s₁ => fv = .type T ∧ wpAny (model prog w) A (spliced (backTo pos (starEach (e :: rest) env))) (fun vs s₂ => wpS (model prog w) A (call (.type T) vs []) Q s₂) (fun _ _ => False) s₁) (fun _ _ => False) s)
    (he : starEach (e :: rest) env = (false, eval e env) :: starEach rest env := by rfl)
    (hplain : (backTo pos (starEach rest env)).any (·.1) = false := by rfl) :
    wpS (model prog w) A (eval (.Call (.Name f p) (e :: rest) [] pos) env) Q s := by
  rw [arm_eval_Call_Name']
  refine wpS_bindA (wpAny_mono h (fun fv s₁ h₁ => ?_) fun _ _ x => x)
  obtain ⟨rfl, h₁⟩ := h₁
  show wpS _ A (callWith pos (.type T) [] (backTo pos (starEach (e :: rest) env)) []) Q s₁
  rw [he] at h₁ ⊢
  exact callWithS_type (by show (false || (backTo pos (starEach rest env)).any (·.1)) = false; rw [hplain]; rfl) (evalArgs_plain h₁)

theorem assignS {x : Str} {pos' pos : Pos} {value : Expr} {Q : Flow → Shared → Prop}
    (h : wpS (model prog w) A (eval value env) (fun v s₁ => wpAny (model prog w) A (storeName env x v) (fun _ => Q .next) (fun _ _ => False) s₁) s)
    (hs : swapsWith value (some (.Name x pos')) pos.line env = pure false := by rfl) :
    wpS (model prog w) A (exec (.Assign [.Name x pos'] value pos) env) Q s := fun Γ p i o => by
  simp only [exec_Assign_Name env x pos' value pos hs, Sem.wp_bind', Sem.wp_cmd_standAt, Sem.wp_bindName, Sem.wp_pure']
  exact Sem.wp_mono (model prog w) Γ _ (fun v _ s₁ h₁ => h₁ Γ _ i) (fun _ _ _ h' => h') _ _ (h Γ _ i o)
theorem ifNotS {x : Expr} {p pos : Pos} {body orelse : List Stmt} {Q : Flow → Shared → Prop}
    (h : wpS (model prog w) A (isTrue x env (eval x env)) (fun b s₂ => if (!b) = true then wpS (model prog w) A (execs body env) Q s₂ else wpS (model prog w) A (execs orelse env) Q s₂) s) :
    wpS (model prog w) A (exec (.If (.UnaryOp .Not x p) body orelse pos) env) Q s := by
  rw [exec_If]
  refine wpS_bindA (wpAny_standAt ?_)
  refine wpS_bind ?_
  show wpS _ A (do return !(← isTrue x env (eval x env))) _ s
  refine wpS_bind (wpS_mono h fun b s₂ h₂ => wpS_pure ?_)
  cases b <;> exact h₂
end
end Mine
end

section
open PySem PySem.W PyProof.Rows PySem.Calls
set_option maxRecDepth 100000
set_option maxHeartbeats 8000000
namespace Mine

abbrev callerCtx : PySem.Ctx := ⟨.builtin "claim.caller" {}, none, none, [], none⟩
theorem caller_ok : OkCtx callerCtx := ⟨by decide +kernel, fun x hx => by cases hx⟩
theorem wp_of_wpS {M : Model} {t : Sem Fin} {R : Result → Shared → Prop} {s : Shared}
    (h : wpS M callerA t (fun fin s' => ∃ f, fin = .done f ∧ R (.ok f) s') s) (p : Pos) :
    Sem.wp M callerCtx t (Sem.finPost M callerCtx R) (fun e _ s' => R (.error e) s') p s := by
  refine Sem.wp_mono M callerCtx t (fun fin p' s' h' => ?_) (fun _ _ _ x => x.elim) p s (h callerCtx p caller_in caller_ok)
  obtain ⟨f, rfl, hf⟩ := h'
  exact hf

/-- the claim from the call's run under the real caller -/
theorem callFrom_S {c : ClaimW} {tree : List Value → Sem Fin} {w : World} {s : Shared} {free : Addr → Prop} {gens : Prop} {kept : Heap → Prop} (hz : s.asleep) (hgens : s.gens = #[])
    (hspec : ∀ args, c.pre args = true → WData.layableAll args = true → ∀ ord : List DictEntry → List DictEntry, (∀ l, (ord l).Perm l) →
      ∃ vs s₁, layAllW c.records (classAt s.heap) w.params ord args s = some (vs, s₁) ∧
        wpS (model c.prog w) callerA (tree vs) (fun fin s' => ∃ f, fin = .done f ∧ (c.Ends s args vs s₁ (.ok f) s' ∧ s'.os = s.os ∧ AllBare s'.gens ∧ kept s'.heap)) s₁) :
    c.CallFrom (fun vs => ⟨tree vs, .builtin "claim.caller" {}, default, []⟩) w free gens kept s := by
  intro args hpre hlay ord hord
  obtain ⟨vs, s₁, hlaid, hcode⟩ := hspec args hpre hlay ord hord
  have hal := layAllW_rest _ _ _ hlaid
  obtain ⟨k, r, s₂, s₃, hsched, hrun, hfo, hR⟩ := wp_halts_full (M := model c.prog w) (c := .builtin "claim.caller" {}) (t := tree vs) (p := default) (s := s₁)
    (R := fun r s' => c.Ends s args vs s₁ r s' ∧ s'.os = s.os ∧ kept s'.heap) (Shared.asleep_of_life hal.2.2.2 hz)
    (wp_of_wpS (R := fun r s' => (c.Ends s args vs s₁ r s' ∧ s'.os = s.os ∧ kept s'.heap) ∧ leftWithCleanup s'.gens = false)
      (wpS_mono hcode fun fin s' ⟨f, e, h1, h2, h3, h4⟩ => ⟨f, e, ⟨h1, h2, h4⟩, leftWithCleanup_false_of_bare h3⟩) default)
  obtain ⟨hends, hos, hkp⟩ := hR
  obtain ⟨eh, _, _, eo, _⟩ := Shared.forget_eq hfo
  have hends := hends.congr eh
  rw [← eh] at hkp
  rw [← eo] at hos
  have hlife : s₃.heap.life = s.heap.life := (runN_life _ _ _ hrun).trans hal.2.2.2
  refine ⟨vs, s₁, hlaid, k, _, s₃, hsched, ?_, (fun _ i x hx => by rw [hgens] at hx; simp at hx), hkp, by rw [hlife], Shared.rest_eq hos⟩
  rcases hends with ⟨v, rfl, d1, d2, d3, d4, d5⟩ | ⟨e, ob, cls, rfl, d1, d2, d3, d4, d5⟩
  · exact .inl ⟨v, rfl, d1, d2, d3, fun b o y _ => d4 b o y, d5⟩
  · exact .inr ⟨e, ob, cls, rfl, d1, d2, d3, d4, fun b o y _ => d5 b o y⟩

/-- what is asked of the law's call -/
abbrev WalkS (q : Program) (loose : List Str) (XP : (Str → Option Value) → Heap → Prop) (YP : World → Heap → Prop) (r : RowW) (d : DefRec) (kwd : List (Str × Expr)) : Prop :=
  ∀ (w : World) (s₀ s₁ : Shared) (mg mb : Str → Option Value), Ground q loose r.records XP w s₀ mg mb s₁.heap → YP w s₁.heap → ∀ (a : Addr) (o : Obj) (pm cd doc dV kV : Value), s₁.heap.get? a = some o →
    o.data = .func { docDef d.name d.params d.body d.scope pm cd doc with defaults := dV, kwdefaults := kV } → s₁.heap.CodeRec cd d.name → Dflts mg s₁.heap d.params kwd dV kV → mg d.name = some (.ref a) → s₁.gens = #[] →
    ∀ (args : List WData) (vals : List Value) (as : List Addr), r.claim.pre args = true → WData.layableAll args = true → ReadsAllW r.records (classAt s₀.heap) s₁.heap vals args as → WellAll w.params s₁.heap vals args → (∀ a ∈ as, (a == sysModules) = false) →
      wpS (model r.prog w) callerA (call (.ref a) vals) (fun v s' => GoodWG r.claim (classAt s₀.heap) (ExcName.means s₀.heap) args s₁ (.ok (.ret v)) s') s₁

theorem holds_S {r : OpenRow} {q : Program} {loose : List Str} {Xt : Shared → Bool} {XP : (Str → Option Value) → Heap → Prop} {α : Type} {Yf : Shared → α} {Ya : World → α} {YP : World → Heap → Prop} {d : DefRec} {kwd : List (Str × Expr)} {N : Nat}
    (left : LeftO r.prog q loose Xt Yf Ya N) (hY : ∀ w s, Yf s = Ya w → YP w s.heap) (hYk : ∀ w h h', YP w h → (∀ b o, h.get? b = some o → h'.get? b = some o) → YP w h')
    (hX : ∀ s, Xt s = true → XP (s.heap.nsMap mainGlobals) s.heap) (hXk : ∀ mg h h', XP mg h → (∀ b o, h.get? b = some o → h'.get? b = some o) → XP mg h')
    (hdef : defOf q r.name = some (d, kwd)) (hp : r.prog.theDef r.name = some (d.params, d.body, d.scope)) (hk : kwWritten? d.params.kwonlyargs d.params.kw_defaults = some kwd) (hRf : ∀ s, Xt s = true → RecFacts r.records s.heap) (hwr : (!r.writes || r.records.isEmpty) = true)
    (k1 : r.wellSaid = true) (ok : (chainsOk q && opensWell r.prog && (frees r.toRowW && r.within.isEmpty)) = true) (hb : r.prog.bare) (hw : r.toRowW.promised)
    (walk : WalkS q loose XP YP r.toRowW d kwd) : r.Holds := by
  obtain ⟨ok, k5⟩ := Bool.and_eq_true_iff.mp ok
  obtain ⟨hch, o1⟩ := Bool.and_eq_true_iff.mp ok
  obtain ⟨k5, k6⟩ := Bool.and_eq_true_iff.mp k5
  obtain ⟨hsame, hu, ha, hap, hm⟩ := frees_parts k5
  refine ⟨k1, hw, ⟨hb, o1, by show r.makers.map _ = []; rw [hm]; rfl⟩, hw.witness, fun w => ⟨(left.behind hX hch w).1, fun s' hs' => ?_⟩⟩
  obtain ⟨s₀, hf, hg0, s, hT, hz, hgens, hg, G00, y⟩ := (left.behind (XP := fun mg h => XP mg h ∧ RecFacts r.records h) (fun s hs => ⟨hX s hs, hRf s hs⟩) hch w).2 s' hs'
  have G0 : Ground q loose [] XP w s (s.heap.nsMap mainGlobals) (s.heap.nsMap builtinsNs) s.heap := ⟨G00.T, G00.B, G00.D, G00.TE, G00.TD, G00.W, G00.X.1, G00.cls, G00.has, G00.apart, G00.once, G00.K⟩
  have RF := G00.X.2
  have hT' := hT
  refine ⟨s₀, hf, hg0, s, hT, ?_, RF.1, RF.2.1, ?_⟩
  · intro n hn
    obtain rfl : n = r.name := by split at hn <;> simp_all
    exact pinned_of_view hg G0 hdef hp hk
  have hgens : s.gens = #[] := Array.eq_empty_of_size_eq_zero (beq_iff_eq.mp hgens)
  have G : Ground q loose r.records XP w s _ _ s.heap := RF.ground G0
  refine callFrom_S (c := r.toRowW.claim) (tree := fun vs => do match ← nsGet mainNs r.name with
      | some f => do ret (← PySem.call f vs)
      | none => unsupported "claim.caller:no-such-global") hz hgens fun args hpre hlay ord hord => ?_
  obtain ⟨⟨vs, s₁⟩, hlaid⟩ := Option.isSome_iff_exists.mp (layAllW_isSome (P := w.params) (ord := ord) G.has args r.args s (pre_splitW hpre).1)
  have keeps := layAllW_keeps _ _ _ hlaid
  have hal := layAllW_rest _ _ _ hlaid
  obtain ⟨as, hrd, hin, hold⟩ := reads_layAllW hord _ _ _ hlaid hlay s₁.heap (fun _ _ e => e)
  have L : Laid r.records w s s₁ args vs as := ⟨⟨ord, hord, hlaid⟩, hrd, hin, hold, keeps, hal.1.trans hgens, hal.2.2.1⟩
  have G₁ := G.keeps hXk keeps
  have hi := ident_freeW hu ha hap
  have hwi : r.toRowW.claim.within = [] := List.isEmpty_iff.mp k6
  obtain ⟨a, o, pm, cd, doc, dV, kV, h1, h2, h3, h4, h5⟩ := G₁.fn hdef
  have h := walk w s s₁ _ _ G₁ (hYk _ _ _ (hY w s y) keeps) a o pm cd doc dV kV h2 h3 h4 h5 (defOf_name hdef ▸ h1) L.gens args vs as hpre hlay L.reads L.well (L.low G.low)
  refine ⟨vs, s₁, hlaid, ?_⟩
  refine wpS_bindA (wpAny_nsGet G₁.T.g ?_)
  rw [h1]
  refine wpS_bind (wpS_mono h fun v s' g => wpS_pure ⟨_, rfl, ?_⟩)
  have z := g.laid (c := r.toRowW.claim) hsame hwi hi L
  exact ⟨z.1, z.2.1, z.2.2, fun q => ⟨namesKept_of hT' hg _ keeps g.2.1.old, noTable hwr q⟩⟩
end Mine
end

section
open PySem PySem.W PyProof.Rows PySem.Calls
set_option maxRecDepth 100000
set_option maxHeartbeats 8000000
namespace Mine
def writtenAddrs : List Addr :=
  [2, 3, 6, 11, 12, 35, 36, 37, 39, 40, 42, 43, 44, 46, 47, 49, 50, 51, 52, 53, 55, 56, 58, 59, 60, 61, 62, 64,
   65, 67, 68, 69, 70, 71, 73, 74, 76, 77, 78, 85, 86, 87, 88, 91, 98, 99, 100, 103, 105, 106, 108, 109, 110,
   112, 113, 115, 116, 117, 119, 120, 122, 123, 124, 126, 127, 129, 130, 131, 133, 134, 136, 137, 138, 140, 141,
   143, 144, 145, 148, 149, 150, 153, 154]
theorem written_eq (P : Params) : writtenAddrs = (hd.heap_39 P).map (·.1) := by kernel_rfl
/-- what the head's own check says, told of its hook -/
theorem of_head (P : Hook → Prop) {H : Hook} {loose : List Str} {XP : (Str → Option Value) → Heap → Prop} {r : RowW} {d : DefRec} {kwd : List (Str × Expr)} {run : Value → List Value → Sem Value} {R : Prop}
    (_ : WalkO hd.view_39 loose XP (Hook.says H) r d kwd run → R) (h : P H) : P H := h
/-- the top's run. In one file with the head, the check that the head made is found again by its type (aux lemmas are kept by their types) -/
theorem left : LeftO PySem.Challenge.rw_zo0023_01.row.prog hd.view_39 [Str.ofString "IPV4_RE", Str.ofString "bisect_right", Str.ofString "insort_left", Str.ofString "bisect_left"]
    (fun s => xlAt hd.view_39 [] s && recOk (RowW.records PySem.Challenge.rw_zo0023_01.row.toRowW) s)
    (fun s => writtenAddrs.map s.heap.get?) (fun w => (hd.heap_39 w.params).map fun p => some p.2) 2032 := by
  have h := of_head (fun H => LeftO PySem.Challenge.rw_zo0023_01.row.toRowW.prog hd.view_39 [Str.ofString "IPV4_RE", Str.ofString "bisect_right", Str.ofString "insort_left", Str.ofString "bisect_left"]
    (fun s => xlAt hd.view_39 [] s && recOk (RowW.records PySem.Challenge.rw_zo0023_01.row.toRowW) s) (Hook.obs H) (Hook.val H) 2032) hd (by unfold LeftO; classical decide +kernel)
  exact h
end Mine
end

section
open PySem PySem.W PyProof.Rows PySem.Calls
set_option maxRecDepth 100000
set_option maxHeartbeats 8000000
namespace Mine
abbrev WalkLaw (d : DefRec) (kwd : List (Str × Expr)) : Prop := WalkS hd.view_39 [Str.ofString "IPV4_RE", Str.ofString "bisect_right", Str.ofString "insort_left", Str.ofString "bisect_left"] (XL hd.view_39 []) (InK hd.heap_39) PySem.Challenge.rw_zo0023_01.row.toRowW d kwd
theorem top_of (h : ∀ d kwd, defOf hd.view_39 (Str.ofString "law") = some (d, kwd) → WalkLaw d kwd) : PySem.Challenge.rw_zo0023_01.Holds := by
  w_on
  o_law
  refine holds_S (q := hd.view_39) (XP := XL hd.view_39 []) (YP := InK hd.heap_39) left (InK.of written_eq) InK.keeps (fun s e => xl_of s (Bool.and_eq_true_iff.mp e).1) XL.keeps (by rfl) (by rfl) (by rfl) (fun s e => recFacts_of (Bool.and_eq_true_iff.mp e).2) (by rfl) (by first | assumption | decide +kernel) (by decide +kernel) ⟨rfl, rfl, rfl, rfl, rfl, by decide +kernel⟩ ?hw ?hc
  case hw => w_witness2
  case hc => exact h _ _ (by rfl)
end Mine
end

section
open PySem PySem.W PyProof.Rows PySem.Calls
set_option maxRecDepth 100000
set_option maxHeartbeats 8000000
namespace Mine
open PySem (Slot)
theorem ba_mro : mroOf (.type "bytearray") = pure [.type "bytearray", .type "object"] := by rw [mroOf_type]; kernel_rfl
theorem ba_lookup_new : typeLookup (.type "bytearray") "__new__" = pure (some (.builtin "bytearray.__new__")) := by rw [typeLookup_type, builtinLookup_eq_fast]; kernel_rfl
theorem ba_slot_init : Slot "bytearray" "__init__" "bytearray.__init__" :=
  .of (owner := "bytearray") (n := "__init__") (by rw [typeLookup_type, builtinLookup_eq_fast]; kernel_rfl) (by decide +kernel) (by decide +kernel) (by decide +kernel)
    (by first | exact .inl (by decide +kernel) | exact .inr (by decide +kernel)) (by rw [isSubtype_type]; kernel_rfl)
theorem ba_sub : isSubtype (.type "bytearray") (.type "bytearray") = pure true := by rw [isSubtype_type]; kernel_rfl
theorem ba_called : TypeCalled "bytearray" "bytearray.__new__" "bytearray.__init__" :=
  ⟨by decide +kernel, by decide +kernel, ⟨_, _, ba_mro⟩, madeBy_type ba_mro ba_lookup_new (by decide +kernel), by decide +kernel, ba_sub, ba_slot_init⟩
theorem ba_typeCall (a : Value) : checkTypeCall "bytearray" ⟨[a], []⟩ = pure () := by kernel_rfl
theorem ba_newCall (a : Value) : checkBuiltinCall "bytearray.__new__" ⟨[.type "bytearray", a], []⟩ = pure () := by kernel_rfl
theorem ba_plain_new : plainId "bytearray.__new__" = true := by decide +kernel
theorem ba_plain_init : plainId "bytearray.__init__" = true := by decide +kernel
theorem ba_entry_new : entryFor table "bytearray.__new__" = some Builtin.«list.__new__» :=
  entryFor_alias (id' := "list.__new__") (by rw [fastTable_eq_tree]; kernel_rfl) (by first | rfl | decide +kernel | (unfold String.splitOn; simp +decide [String.splitOnAux])) (by decide +kernel) (by rw [fastTable_eq_tree]; kernel_rfl)
theorem ba_entry_init : entryFor table "bytearray.__init__" = some Builtin.«bytearray.__init__» := entryFor_of_tree (by kernel_rfl)
theorem ba_args_init (a b : Value) : argsOk "bytearray.__init__" ⟨[a, b], []⟩ := by unfold argsOk; kernel_rfl
set_option maxRecDepth 1000000 in
theorem ba_owner : ("bytearray.__new__".splitOn ".__new__").headD "" = "bytearray" := by simp +decide [String.splitOn, String.splitOnAux]
theorem ba_bind (v : Value) : Builtin.Bytes.bindOptional "bytearray.__init__" "bytearray" ["source", "encoding", "errors"] [v] [] = pure [some v, none, none] := by kernel_rfl
theorem ba_release : typeLookup (.type "bytearray") "__release_buffer__" = pure (some (.builtin "bytearray.__release_buffer__")) := by rw [typeLookup_type, builtinLookup_eq_fast]; kernel_rfl

section
variable {prog : Program} {w : World} {A : Around} {s : Shared} {E : Value → Shared → Prop}
theorem ba_new (a : Value) {Q₁ : Value → Shared → Prop}
    (h : Q₁ (.ref s.heap.objs.size) { s with heap := s.heap.push { cls := .type "bytearray", data := .bytearray #[] } }) :
    codeAny (model prog w) A (.call (.builtin "bytearray.__new__") ⟨[.type "bytearray", a], []⟩) (wants Q₁ E) s := by
  refine codeAny_of_tree ?_
  show wpAny _ A.in1 (do checkBuiltinCall "bytearray.__new__" ⟨[.type "bytearray", a], []⟩; again (.builtin "bytearray.__new__" ⟨[.type "bytearray", a], []⟩)) _ _ s
  refine wpAny_bind (wpAny_of_eq (ba_newCall a) (wpAny_pure ⟨plainId_quiet ba_plain_new _, codeAny_builtin_stack ba_entry_new rfl fun p st => ?_⟩))
  rw [Around.under_plainId ba_plain_new _]
  have hsub := ba_sub
  have hown := ba_owner
  obtain ⟨hp, g, d, tk, os⟩ := s
  simp only [hown]
  wp_walk
  exact h
end
end Mine
end

section
open PySem PySem.W PyProof.Rows PySem.Calls
set_option maxRecDepth 100000
set_option maxHeartbeats 8000000
namespace Mine
open PySem (Slot)
theorem rel_ends : ("bytearray.__release_buffer__".endsWith ("." ++ "__release_buffer__")) = true := by decide +kernel
theorem rel_drop : ("bytearray.__release_buffer__".dropRight ("__release_buffer__".length + 1)) = "bytearray" := by decide +kernel
theorem ba_no_index_int : True := trivial

section
variable {prog : Program} {w : World} {A : Around} {s : Shared} {E : Value → Shared → Prop}
theorem exported_any {self : Value} {l : List (Code × Pos)} (h : ∀ x ∈ l, okCode x.1 = true) :
    (l.any fun
    | (.builtin "bytearray.__contains__" ⟨v :: _, _⟩, _) | (.builtin "bytearray.__mod__" ⟨v :: _, _⟩, _)
    | (.builtin "bytearray.__rmod__" ⟨_ :: v :: _, _⟩, _) | (.builtin "_struct.pack_into.held" ⟨v :: _, _⟩, _) => Builtin.Bytes.sameRef v self
    | (.builtin "bytearray.find.held" ⟨_ :: _ :: held, _⟩, _) => held.any (Builtin.Bytes.sameRef self)
    | (.builtin id ⟨v :: _, _⟩, _) => Builtin.Bytes.sameRef v self && Builtin.Bytes.decodersThatHold.contains id
    | _ => false) = false := by
  rw [List.any_eq_false]
  intro x hx
  have hc := h x hx
  obtain ⟨c, p⟩ := x
  cases c with
  | builtin id args =>
    have hid : holdIds.contains id = false := by simpa [okCode] using hc
    have hdec : Builtin.Bytes.decodersThatHold.contains id = false := by
      cases q : Builtin.Bytes.decodersThatHold.contains id with
      | false => rfl
      | true =>
        have : holdIds.contains id = true := by
          unfold holdIds
          rw [List.contains_eq_mem, decide_eq_true_eq] at q ⊢
          exact List.mem_append_right _ q
        rw [this] at hid; cases hid
    split
    all_goals first
      | (rename_i q; obtain ⟨q1, q2⟩ := Prod.mk.inj q; obtain ⟨q3, q4⟩ := Code.builtin.inj q1; subst q3; exact absurd hid (by decide))
      | (rename_i q; obtain ⟨q1, q2⟩ := Prod.mk.inj q; obtain ⟨q3, q4⟩ := Code.builtin.inj q1; subst q3; rw [hdec]; simp)
      | simp
  | _ => simp

theorem wpS_exported {self : Value} {Q : Bool → Shared → Prop} (h : Q false s) : wpS (model prog w) A (Builtin.Bytes.exported self) Q s := fun Γ p i o => by
  show Q (List.any ((Γ.code, p) :: Γ.below) _) s
  have e := exported_any (self := self) (l := (Γ.code, p) :: Γ.below) (fun x hx => by
    rcases List.mem_cons.mp hx with rfl | hx
    · exact o.1
    · exact o.2 x hx)
  exact cast (congrArg (fun b => Q b s) e).symm h
end
end Mine
end

section
open PySem PySem.W PyProof.Rows PySem.Calls
set_option maxRecDepth 100000
set_option maxHeartbeats 8000000
namespace Mine
open PySem (Slot)
section
variable {prog : Program} {w : World} {A : Around} {s : Shared} {E : Value → Shared → Prop}
theorem sub_ba (M : Model) : True := trivial
theorem ownRelease_ba {M : Model} {S : Addr} {o : Obj} {Q : Bool → Shared → Prop} (hS : s.heap.get? S = some o) (hc : o.cls = .type "bytearray") (h : Q false s) :
    wpAny M A (Builtin.Bytes.ownRelease (.ref S)) Q E s := by
  have hT : s.TypeIs (.ref S) "bytearray" := ⟨o, hS, hc⟩
  unfold Builtin.Bytes.ownRelease Builtin.Bytes.slotIsOwn
  refine wpAny_bind (wpAny_bind (wpAny_specialOf hT ba_release ?_))
  dsimp only
  have e1 := rel_ends
  have e2 := rel_drop
  simp only [e1, e2]
  refine wpAny_isInstance hT ba_sub ?_
  exact wpAny_pure h

theorem bm_neg {α : Type} {M : Model} {c : Prop} [Decidable c] {a b : Sem α} {Q : α → Shared → Prop} (hc : ¬ c) (h : wpAny M A b Q E s) : wpAny M A (if c then a else b) Q E s := by rw [if_neg hc]; exact h
theorem bm_pos {α : Type} {M : Model} {c : Prop} [Decidable c] {a b : Sem α} {Q : α → Shared → Prop} (hc : c) (h : wpAny M A a Q E s) : wpAny M A (if c then a else b) Q E s := by rw [if_pos hc]; exact h
theorem notAStandIn_int (i : Int) (t : Tok) : notAStandIn (.int i t) = pure () := by unfold notAStandIn; rfl
theorem asStr_int (i : Int) (t : Tok) : asStr? (.int i t) = pure none := by
  unfold asStr?
  dsimp only
  rw [notAStandIn_int]
  rfl
theorem asIndex_int (i : Int) (t : Tok) : asIndex (.int i t) = pure i := rfl
theorem write_ba {M : Model} {S : Addr} {b : Array UInt8} {f : Array UInt8 → Array UInt8} {Q : Unit → Shared → Prop} (hS : s.heap.get? S = some { cls := .type "bytearray", data := .bytearray b }) (hz : (f b).size ≤ sizeLine)
    (h : ∀ h', h'.get? S = some { cls := .type "bytearray", data := .bytearray (f b) } → Heap.SameBut S s.heap h' → Q () { s with heap := h' }) : wpAny M A (Builtin.Bytes.write (.ref S) f) Q E s := by
  show wpAny _ _ (updateBytearray S f) _ _ _
  unfold updateBytearray
  refine wpAny_bind (wpAny_load hS ?_)
  show wpAny _ _ (update S (Obj.mapBytearray f) >>= fun _ => lookBehind S) _ _ _
  refine wpAny_bind (wpAny_update hS ?_)
  have hS₂ : (s.heap.update S (Obj.mapBytearray f)).get? S = some { cls := .type "bytearray", data := .bytearray (f b) } := Heap.get?_update_self (Obj.mapBytearray f) hS rfl
  refine wpAny_lookBehind hS₂ ?_ ?_
  · show (if (f b).size > sizeLine then some "bytearray:memory" else none) = none
    rw [if_neg]; omega
  · exact h _ hS₂ (Heap.SameBut.update ..)
theorem payload_ba {M : Model} {S : Addr} {b : Array UInt8} {Q : Array UInt8 → Shared → Prop} (hS : s.heap.get? S = some { cls := .type "bytearray", data := .bytearray b }) (h : Q b s) : wpAny M A (Builtin.Bytes.payload (.ref S)) Q E s := by
  unfold Builtin.Bytes.payload Builtin.Bytes.payload?
  exact wpAny_bind (wpAny_bind (wpAny_load hS (wpAny_pure (wpAny_pure h))))
theorem int_index : typeLookup (.type "int") "__index__" = pure (some (.builtin "int.__index__")) := by rw [typeLookup_type, builtinLookup_eq_fast]; kernel_rfl

theorem ba_init {S : Addr} {n : Nat} {t : Tok} {Q : Fin → Shared → Prop} (hn : n < 1000) (hS : s.heap.get? S = some { cls := .type "bytearray", data := .bytearray #[] })
    (h : ∀ h', h'.get? S = some { cls := .type "bytearray", data := .bytearray (Array.replicate n 0) } → Heap.SameBut S s.heap h' → Q (.done (.ret .none)) { s with heap := h' }) :
    wpS (model prog w) A (Builtin.«bytearray.__init__» ⟨[.ref S, .int n t], []⟩) Q s := by
  unfold Builtin.«bytearray.__init__»
  dsimp only
  refine wpS_bindA (ownRelease_ba hS rfl ?_)
  have hT : s.TypeIs (.ref S) "bytearray" := ⟨_, hS, rfl⟩
  simp only [Bool.false_eq_true, if_false]
  refine wpS_bindA (wpAny_of_eq (ba_bind _) ?_)
  dsimp only
  refine wpS_bindA (wpAny_of_eq (a := ()) rfl ?_)
  refine wpS_bindA (wpAny_of_eq (a := ()) rfl ?_)
  refine wpS_bind (wpS_bind (wpS_exported ?_))
  refine wpS_of ?_
  show wpAny _ A (Builtin.Bytes.exportsOf (.ref S) >>= fun l => pure (decide (l > 0))) _ _ s
  unfold Builtin.Bytes.exportsOf
  refine wpAny_bind (wpAny_bind (wpAny_load hS (wpAny_pure (wpAny_pure ?_))))
  refine wpS_of ?_
  refine bm_if_false rfl ?_
  refine wpAny_bind (write_ba hS (Nat.zero_le _) fun h₁ hS₁ hs₁ => ?_)
  have e1 := asStr_int (n : Int) t
  have e2 := int_index
  have e3 := asIndex_int (n : Int) t
  have e4 : ∀ s' : Shared, s'.TypeIs (.int (n : Int) t) "int" := fun s' => typeIs_int _ _ _
  have e5 : (!Builtin.Bytes.fitsIndex (n : Int)) = false := by unfold Builtin.Bytes.fitsIndex; simp; omega
  have e6 : Builtin.Bytes.tooLong (n : Int).toNat = false := by unfold Builtin.Bytes.tooLong; rw [sizeLine_eq]; simp; omega
  have e7 : ((n : Int) == 2 ^ 63 - 1) = false := by rw [beq_eq_false_iff_ne]; omega
  with_reducible refine wpAny_bind ?_
  with_reducible refine wpAny_of_eq e1 ?_
  simp only [Option.isSome_none, Bool.false_eq_true, if_false]
  with_reducible refine wpAny_bind ?_
  with_reducible refine wpAny_pure ?_
  with_reducible refine wpAny_bind ?_
  with_reducible refine wpAny_specialOf (e4 _) e2 ?_
  simp only [Option.isSome_some, if_true]
  with_reducible refine wpAny_bind ?_
  with_reducible refine wpAny_attempt ?_
  with_reducible refine wpAny_of_eq e3 ?_
  dsimp only
  simp only [e5, e6, e7, Bool.false_eq_true, if_false]
  refine bm_neg (by omega) ?_
  refine wpAny_bind (wpAny_rule ?_)
  by_cases h0 : 0 < n
  · refine bm_pos (by omega) ?_
    refine wpAny_bind (write_ba hS₁ (by rw [sizeLine_eq]; simp; omega) fun h₂ hS₂ hs₂ => ?_)
    refine wpAny_pure (h h₂ ?_ (hs₁.trans hs₂))
    simpa using hS₂
  · have : n = 0 := by omega
    subst this
    refine bm_neg (by omega) ?_
    exact wpAny_pure (h h₁ (by simpa using hS₁) hs₁)

end
end Mine
end

section
open PySem PySem.W PyProof.Rows PySem.Calls
set_option maxRecDepth 100000
set_option maxHeartbeats 8000000
namespace Mine
section
variable {prog : Program} {w : World} {A : Around} {s : Shared} {E : Value → Shared → Prop}
theorem codeS_builtin {id : String} {args : Args} {b : Builtin} {Q : Flow → Shared → Prop} (hb : entryFor table id = some b)
    (h : wpS (model prog w) (A.under (.builtin id args)) (b args) (fun fin s' => match fin with | .done f => Q f s' | .again c' => c'.quiet = true ∧ okCode c' = true ∧ codeS (model prog w) A c' Q s') s) : codeS (model prog w) A (.builtin id args) Q s := by
  refine codeS_of_tree ?_
  show wpS _ _ (match entryFor table id with | some b => b args | none => unsupported ((withoutEnding? id "#data").getD id)) _ s
  rw [hb]; exact h

theorem codeS_call_builtin {id : String} {args : Args} {b : Builtin} {Q : Flow → Shared → Prop} (hq : plainId id = true) (hok : okCode (.builtin id args) = true) (hb : entryFor table id = some b)
    (h : wpAny (model prog w) A.in1 (checkBuiltinCall id args) (fun _ s₁ => wpS (model prog w) A.in1 (b args) (fun fin s' => match fin with | .done f => Q f s' | .again c' => c'.quiet = true ∧ okCode c' = true ∧ codeS (model prog w) A c' Q s') s₁) (fun _ _ => False) s) :
    codeS (model prog w) A (.call (.builtin id) args) Q s := by
  refine codeS_of_tree ?_
  show wpS _ A.in1 (do checkBuiltinCall id args; again (.builtin id args)) _ s
  refine wpS_bindA (wpAny_mono h (fun _ s₁ h₁ => wpS_pure ⟨plainId_quiet hq args, hok, codeS_builtin hb (by rw [Around.under_plainId hq args]; exact h₁)⟩) fun _ _ h' => h')

/-- bytearray(n), under a stack that holds no buffer -/
theorem call_bytearray {n : Nat} {t : Tok} {Q : Value → Shared → Prop} (hn : n < 1000)
    (h : ∀ h', h'.get? s.heap.objs.size = some { cls := .type "bytearray", data := .bytearray (Array.replicate n 0) } → (∀ b o, s.heap.get? b = some o → h'.get? b = some o) → Q (.ref s.heap.objs.size) { s with heap := h' }) :
    wpS (model prog w) A (call (.type "bytearray") [.int n t] []) Q s := by
  obtain ⟨c, tl, hmro⟩ := ba_called.mro
  have hmade := ba_called.made
  have hsub := ba_called.sub
  have okT : okCode (.builtin "type.__call__" ⟨[.type "bytearray", .int n t], []⟩) = true := by
    show (!holdIds.contains "type.__call__") = true
    decide +kernel
  have okI : ∀ a, okCode (.builtin "bytearray.__init__" ⟨a, []⟩) = true := fun a => by
    show (!holdIds.contains "bytearray.__init__") = true
    decide +kernel
  refine wpS_call (codeS_of_tree ?_)
  show wpS _ _ (callAny (.type "bytearray") _) _ _
  refine wpS_pure ⟨Code.quiet_builtin _ (by decide +kernel), okT, codeS_builtin F.entry_type_call ?_⟩
  have h1 := ba_called.notType
  have h2 := ba_called.canCreate
  have hct := ba_typeCall (.int n t)
  unfold Builtin.«type.__call__»
  dsimp only
  simp only [h1, h2, Bool.false_eq_true, if_false]
  with_reducible refine wpS_bindA ?_
  with_reducible refine wpAny_of_eq hct ?_
  with_reducible refine wpS_bindA ?_
  with_reducible refine wpAny_of_eq hmro ?_
  simp only [List.isEmpty_cons, Bool.false_eq_true, if_false]
  with_reducible refine wpS_bindA ?_
  with_reducible refine wpAny_of_eq hmade ?_
  dsimp only
  with_reducible refine wpS_bindA ?_
  with_reducible refine wpAny_pure ?_
  with_reducible refine wpS_bindA ?_
  refine wpAny_holding (wpAny_call (codeAny_mono (ba_new _ (Q₁ := fun v s' => v = .ref s.heap.objs.size ∧ s' = { s with heap := s.heap.push { cls := .type "bytearray", data := .bytearray #[] } }) (E := fun _ _ => False) ⟨rfl, rfl⟩) ?_))
  rintro r s₁ hr
  rcases r with e | (_ | _ | _ | v)
  · exact hr
  · exact hr
  · exact hr
  · exact hr
  obtain ⟨rfl, rfl⟩ := hr
  have hS : (s.heap.push { cls := .type "bytearray", data := .bytearray #[] }).get? s.heap.objs.size = some { cls := .type "bytearray", data := .bytearray #[] } := Heap.get?_push_size _ rfl
  have hT : ({ s with heap := s.heap.push { cls := .type "bytearray", data := .bytearray #[] } } : Shared).TypeIs (.ref s.heap.objs.size) "bytearray" := ⟨_, hS, rfl⟩
  dsimp only
  with_reducible refine wpS_bindA ?_
  with_reducible refine wpAny_isInstance hT ba_sub ?_
  simp only [Bool.not_true, Bool.false_eq_true, if_false]
  with_reducible refine wpS_bind ?_
  with_reducible refine wpS_holding ?_
  unfold callSpecial?
  with_reducible refine wpS_bindA ?_
  with_reducible refine wpAny_specialOf hT ba_slot_init.lookup ?_
  dsimp only
  with_reducible refine wpS_holding ?_
  with_reducible refine wpS_bindA ?_
  with_reducible refine wpAny_of_eq (ba_slot_init.bind _) ?_
  dsimp only
  with_reducible refine wpS_bind ?_
  refine wpS_call (codeS_call_builtin ba_plain_init (okI _) ba_entry_init ?_)
  refine ba_slot_init.check _ _ _ _ _ _ _ _ hT (ba_args_init _ _) ?_
  refine ba_init hn hS fun h' hS' hs' => ?_
  dsimp only
  refine wpS_pure ?_
  dsimp only
  simp only [bne_self_eq_false, Bool.false_eq_true, if_false]
  exact wpS_pure (h h' hS' fun b o e => hs'.extBut b o (Nat.ne_of_lt (Heap.lt_size e)) (Heap.get?_push_of_some _ e))
end
end Mine
end

section
open PySem PySem.W PyProof.Rows PySem.Calls
set_option maxRecDepth 100000
set_option maxHeartbeats 8000000
namespace Mine
open PySem (Slot)
theorem ba_slot_setitem : Slot "bytearray" "__setitem__" "bytearray.__setitem__" :=
  .of (owner := "bytearray") (n := "__setitem__") (by rw [typeLookup_type, builtinLookup_eq_fast]; kernel_rfl) (by decide +kernel) (by decide +kernel) (by decide +kernel)
    (by first | exact .inl (by decide +kernel) | exact .inr (by decide +kernel)) (by rw [isSubtype_type]; kernel_rfl)
theorem ba_entry_setitem : entryFor table "bytearray.__setitem__" = some Builtin.«bytearray.__setitem__» := by first | exact entryFor_of_fast (by kernel_rfl) | exact entryFor_of_tree (by kernel_rfl)
theorem ba_args_setitem (a b c : Value) : argsOk "bytearray.__setitem__" ⟨[a, b, c], []⟩ := by unfold argsOk; kernel_rfl
section
variable {prog : Program} {w : World} {A : Around} {s : Shared} {E : Value → Shared → Prop}
theorem subscript_int {M : Model} {k : Int} {t : Tok} {Q : Option Int → Shared → Prop} (h0 : 0 ≤ k) (h1 : k < 2 ^ 63) (h : Q (some k) s) : wpAny M A (Builtin.Bytes.subscript? (.int k t)) Q E s := by
  unfold Builtin.Bytes.subscript?
  with_reducible refine wpAny_bind ?_
  with_reducible refine wpAny_specialOf (typeIs_int _ _ _) int_index ?_
  simp only [Option.isNone_some, Bool.false_eq_true, if_false]
  with_reducible refine wpAny_bind ?_
  with_reducible refine wpAny_of_eq (asIndex_int _ _) ?_
  have e5 : Builtin.Bytes.fitsIndex k = true := by unfold Builtin.Bytes.fitsIndex; simp; omega
  simp only [e5, Bool.not_true, Bool.false_eq_true, if_false]
  exact wpAny_pure h
theorem setItem_ba {D : Addr} {b : Array UInt8} {k v : Int} {t u : Tok} {Q : Unit → Shared → Prop} (hD : s.heap.get? D = some { cls := .type "bytearray", data := .bytearray b }) (h0 : 0 ≤ k) (h1 : k < b.size) (hb : b.size < 1000) (hv : 0 ≤ v) (hv' : v < 256)
    (h : ∀ h', h'.get? D = some { cls := .type "bytearray", data := .bytearray (b.setIfInBounds k.toNat v.toNat.toUInt8) } → Heap.SameBut D s.heap h' → Q () { s with heap := h' }) :
    wpAny (model prog w) A (setItem (.ref D) (.int k t) (.int v u)) Q E s := by
  have hT : s.TypeIs (.ref D) "bytearray" := ⟨_, hD, rfl⟩
  unfold setItem
  with_reducible refine wpAny_holding ?_
  refine wpAny_bind (wpAny_sequenceKey hT (by decide) ?_)
  refine wpAny_bind (wpAny_callSpecial?_slot (name := Str.ofString "__setitem__") hT ba_slot_setitem
    (wpAny_call_entry ba_slot_setitem hT ba_entry_setitem ?_ (ba_args_setitem _ _ _)))
  unfold Builtin.«bytearray.__setitem__»
  dsimp only
  simp only [List.isEmpty_nil, Bool.not_true, Bool.false_eq_true, if_false]
  with_reducible refine wpAny_bind ?_
  refine subscript_int h0 (by omega) ?_
  dsimp only
  with_reducible refine wpAny_bind ?_
  unfold Builtin.Bytes.byteValue
  with_reducible refine wpAny_bind ?_
  with_reducible refine wpAny_of_eq (asIndex_int _ _) ?_
  have e1 : (decide (v < 0) || decide (v ≥ 256)) = false := by simp; omega
  simp only [e1, Bool.false_eq_true, if_false]
  with_reducible refine wpAny_pure ?_
  with_reducible refine wpAny_bind ?_
  refine payload_ba hD ?_
  have e2 : seqIndex? k b.size = some k.toNat := by
    unfold seqIndex?
    have : (decide (0 ≤ k) && decide (k < (b.size : Int))) = true := by simp; omega
    simp only [if_neg (show ¬ k < 0 by omega), this, if_true]
  simp only [e2]
  with_reducible refine wpAny_bind ?_
  refine write_ba hD (by rw [sizeLine_eq]; simp; omega) fun h' hS' hs' => ?_
  exact wpAny_pure ⟨_, rfl, wpAny_pure (h h' hS' hs')⟩

theorem ba_no_bytes : typeLookup (.type "bytearray") "__bytes__" = pure none := by rw [typeLookup_type, builtinLookup_eq_fast]; kernel_rfl
theorem ba_no_index : typeLookup (.type "bytearray") "__index__" = pure none := by rw [typeLookup_type, builtinLookup_eq_fast]; kernel_rfl
theorem ba_buffer : typeLookup (.type "bytearray") "__buffer__" = pure (some (.builtin "bytearray.__buffer__")) := by rw [typeLookup_type, builtinLookup_eq_fast]; kernel_rfl
theorem buf_ends : ("bytearray.__buffer__".endsWith ("." ++ "__buffer__")) = true := by decide +kernel
theorem buf_drop : ("bytearray.__buffer__".dropRight ("__buffer__".length + 1)) = "bytearray" := by decide +kernel

theorem wpAny_of_asStr {M : Model} {D : Addr} {b : Array UInt8} {Q : Option Str → Shared → Prop} (hD : s.heap.get? D = some { cls := .type "bytearray", data := .bytearray b }) (h : Q none s) : wpAny M A (asStr? (.ref D)) Q E s := by
  unfold asStr?
  dsimp only
  refine wpAny_bind (wpAny_load hD ?_)
  exact wpAny_pure h
theorem slotIsOwn_ba {M : Model} {D : Addr} {b : Array UInt8} {Q : Bool → Shared → Prop} (hD : s.heap.get? D = some { cls := .type "bytearray", data := .bytearray b }) (h : Q true s) : wpAny M A (Builtin.Bytes.slotIsOwn (.ref D) "__buffer__") Q E s := by
  have hT : s.TypeIs (.ref D) "bytearray" := ⟨_, hD, rfl⟩
  unfold Builtin.Bytes.slotIsOwn
  with_reducible refine wpAny_bind ?_
  refine wpAny_specialOf hT ba_buffer ?_
  dsimp only
  have e1 := buf_ends
  have e2 := buf_drop
  simp only [e1, e2]
  exact wpAny_isInstance hT ba_sub h
theorem buffer_ba {M : Model} {D : Addr} {b : Array UInt8} {id : String} {f : Bool} {Q : Option (Array UInt8) → Shared → Prop} (hD : s.heap.get? D = some { cls := .type "bytearray", data := .bytearray b }) (h : Q (some b) s) : wpAny M A (Builtin.Bytes.buffer? id (.ref D) f) Q E s := by
  have hT : s.TypeIs (.ref D) "bytearray" := ⟨_, hD, rfl⟩
  unfold Builtin.Bytes.buffer?
  with_reducible refine wpAny_bind ?_
  refine wpAny_specialOf hT ba_buffer ?_
  dsimp only
  with_reducible refine wpAny_bind ?_
  refine slotIsOwn_ba hD ?_
  simp only [Bool.not_true, Bool.false_eq_true, if_false]
  with_reducible refine wpAny_bind ?_
  refine wpAny_specialOf hT ba_buffer ?_
  show wpAny M A (Builtin.Bytes.ownRelease (.ref D) >>= _) _ _ _
  with_reducible refine wpAny_bind ?_
  refine ownRelease_ba hD rfl ?_
  simp only [Bool.false_eq_true, if_false]
  with_reducible refine wpAny_bind ?_
  exact payload_ba hD (wpAny_pure h)

theorem bytes_new_ba {D : Addr} {b : Array UInt8} {Q : Value → Shared → Prop} (hD : s.heap.get? D = some { cls := .type "bytearray", data := .bytearray b }) (hb : b.size < 1000)
    (hQ : Q (.bytes b s.toks) { s with toks := s.toks + 1 }) :
    codeAny (model prog w) A (.call (.builtin "bytes.__new__") ⟨[.type "bytes", .ref D], []⟩) (wants Q E) s := by
  have hT : s.TypeIs (.ref D) "bytearray" := ⟨_, hD, rfl⟩
  refine codeAny_of_tree ?_
  show wpAny _ A.in1 (do checkBuiltinCall "bytes.__new__" ⟨[.type "bytes", .ref D], []⟩; again (.builtin "bytes.__new__" ⟨[.type "bytes", .ref D], []⟩)) _ _ s
  refine wpAny_bind (wpAny_of_eq (F.bm_newCall _) (wpAny_pure ⟨plainId_quiet F.bm_plain _, codeAny_builtin F.bm_entry ?_⟩))
  rw [Around.under_plainId F.bm_plain _]
  unfold Builtin.«bytes.__new__»
  refine wpAny_bind (wpAny_of_eq (a := true) rfl ?_)
  simp only [Bool.not_true, Bool.false_eq_true, if_false]
  with_reducible refine wpAny_bind ?_
  with_reducible refine wpAny_of_eq F.bm_sub ?_
  simp only [Bool.not_true, Bool.false_eq_true, if_false]
  with_reducible refine wpAny_bind ?_
  with_reducible refine wpAny_of_eq (F.bm_bind _) ?_
  dsimp only
  refine wpAny_bind (wpAny_of_eq (a := ()) rfl ?_)
  refine wpAny_bind (wpAny_of_eq (a := ()) rfl ?_)
  simp only [Option.isSome_none, Bool.false_eq_true, if_false]
  with_reducible refine wpAny_bind ?_
  with_reducible refine wpAny_specialOf hT ba_no_bytes ?_
  dsimp only
  with_reducible refine wpAny_bind ?_
  with_reducible refine wpAny_bind ?_
  with_reducible refine wpAny_of_asStr hD ?_
  with_reducible refine wpAny_pure ?_
  simp only [Option.isSome_none, Bool.false_eq_true, if_false]
  with_reducible refine wpAny_bind ?_
  with_reducible refine wpAny_specialOf hT ba_no_index ?_
  simp only [Option.isNone_none, if_true]
  first
    | show wpAny _ _ (Builtin.Bytes.buffer? "bytes.__new__" (.ref D) true >>= _) _ _ _
    | (refine wpAny_bind ?_; show wpAny _ _ (Builtin.Bytes.buffer? "bytes.__new__" (.ref D) true >>= _) _ _ _)
  refine wpAny_bind ?_
  refine buffer_ba hD ?_
  dsimp only
  refine wpAny_bind (wpAny_rule ?_)
  with_reducible refine wpAny_bind ?_
  refine wpAny_mkBytes ?_ (by rw [sizeLine_eq]; omega)
  show wpAny _ _ (if (Value.type "bytes" == Value.type "bytes") = true then _ else _) _ _ _
  refine bm_if_true (by decide) ?_
  first
    | exact wpAny_pure hQ
    | exact wpAny_bind (wpAny_pure (wpAny_pure hQ))

/-- bytes(bytearray) -/
theorem call_bytes_ba {D : Addr} {b : Array UInt8} {Q : Value → Shared → Prop} (hD : s.heap.get? D = some { cls := .type "bytearray", data := .bytearray b }) (hb : b.size < 1000)
    (hQ : ∀ t tk, Q (.bytes b t) { s with toks := tk }) : wpAny (model prog w) A (call (.type "bytes") [.ref D]) Q E s := by
  refine callType_codes (Q₁ := fun obj s₁ => s₁.TypeIs obj "bytes" ∧ Q obj s₁) F.bm_called (F.bm_typeCall _) F.entry_object_init
    (bytes_new_ba hD hb ⟨PySem.W.typeIs_bytes _ _ _, hQ _ _⟩) fun obj s₁ h₁ => ?_
  exact ⟨h₁.1, F.args_object_init_2 obj _, object_init_meets F.bm_called.init.lookup F.bm_called.made (by decide) prog w A.in1 _ s₁ ⟨h₁.1, rfl, h₁.2⟩⟩
end
end Mine
end

section
open PySem PySem.W PyProof.Rows PySem.Calls
set_option maxRecDepth 100000
set_option maxHeartbeats 8000000
namespace Mine
abbrev baObj (b : Array UInt8) : Obj := { cls := .type "bytearray", data := .bytearray b }
theorem newsAdd {h₀ h h' : Heap} {L : Addr} {m : Str → Option Value} {news : List (Addr × Obj)} {o : Obj} (F : Fr h₀ L h m) (N : News h₀ L h news) (k : KeepsH h h') (e : h'.get? h.objs.size = some o) : News h₀ L h' ((h.objs.size, o) :: news) := fun p hp => by
  rcases List.mem_cons.mp hp with rfl | hp
  · exact ⟨e, Nat.ne_of_gt F.ns.lt, baseNew F⟩
  · exact ⟨k _ _ (N p hp).1, (N p hp).2⟩

local macro_rules | `(tactic| walk_at "zz no such key") => `(tactic| refine hold ?_)
local macro_rules | `(tactic| walk_at "exec For Name Call cons nil") => `(tactic| (k_here; (with_unfolding_all refine' For_invVF (by assumption) ?k1 ?k2 ?_; (case k1 => exact rfl); (case k2 => exact rfl)); k_whole))
local macro_rules | `(tactic| walk_at "pyIter ref") => `(tactic| refine hold ?_)
local macro_rules | `(tactic| walk_at "setItem ref int int") => `(tactic| refine hold ?_)

section
variable {prog : Program} {w : World} {A : Around} {E : Value → Shared → Prop} {s : Shared}
theorem item_bytes {value slice : PySem.Expr} {b : Array UInt8} {k : Int} {t u : Tok} {Q : Value → Shared → Prop} (h0 : 0 ≤ k) (h1 : k < b.size) (hb : b.size < 1000)
    (h : Q (.int (b.getD k.toNat 0).toNat s.toks) { s with toks := s.toks + 1 })
    (hs : subscripted slice false (.bytes b t) (.int k u) = operate [.bytes b t, .int k u] (getItem (.bytes b t) (.int k u)) := by with_unfolding_all rfl)
    (ht : ∀ r, letTemporaryGo value (.bytes b t) r = pure () := by intro _; rfl) : wpAny (model prog w) A (subscriptTail value slice (.bytes b t) (.int k u)) Q E s := by
  obtain ⟨l, rfl⟩ : ∃ l : List UInt8, b = l.toArray := ⟨b.toList, by simp⟩
  simp only [List.size_toArray] at h1 hb
  refine subscriptTail_builtin (PySem.W.typeIs_bytes _ _ _) PySem.W.FB.slot_bytes_getitem.lookup (PySem.W.getItem_bytes (by omega) h0 h1 ?_) hs ht
  simpa using h
theorem newsSet {h₀ h h' : Heap} {L D : Addr} {o o' : Obj} {rest : List (Addr × Obj)} (N : News h₀ L h ((D, o) :: rest)) (hr : ∀ p ∈ rest, p.1 ≠ D) (hs : Heap.SameBut D h h') (ho : h'.get? D = some o') : News h₀ L h' ((D, o') :: rest) :=
  news_set (pre := []) N (fun _ hp => by cases hp) hr hs ho
theorem frSet {h₀ h h' : Heap} {L D : Addr} {o : Obj} {m : Str → Option Value} {rest : List (Addr × Obj)} (F : Fr h₀ L h m) (N : News h₀ L h ((D, o) :: rest)) (hs : Heap.SameBut D h h') : Fr h₀ L h' m :=
  F.change hs (N _ (.head _)).2.1 (N _ (.head _)).2.2
end

theorem byteswap_spec {w : World} {A : Around} {s : Shared} {mean mg mb} {b : Array UInt8} {tb tn : Tok}
    (KX : (hd.heap_39 w.params).In s.heap) (T : Tp mean mg mb s.heap) (hA : A.handled = none) (hroom : A.depth < 600) (hunits : A.units < 9000) (h1 : 0 < b.size) (h2 : b.size < 1000) :
    wpS (model Pg w) A (call (.ref 116) [.bytes b tb, .int (b.size : Int) tn] []) (Ends s fun v _ => ∃ t, v = .bytes b.reverse t) s := by
  have dummy : (fun (_ : OpenLaw) (_ : Params → Frag) => True) PySem.Challenge.rw_zo0023_01 hd.heap_39 := by
    k_fill
    trivial
  refine enterS (K := hd.heap_39 w.params) (binds := [("data", .bytes b tb), ("width", .int (b.size : Int) tn)]) KX T.nolimit (by unfold recursionLimit; omega) rfl (by rfl) (binds_of_peek KX fun S => by kernel_rfl) (by decide) (by rfl) ?_
  intro h₁ F
  have N : News s.heap s.heap.objs.size h₁ [] := News.nil
  refine execsS (assignS (callS_type (T := "bytearray") ?_))
  k_steps
  refine call_bytearray h2 fun h₂ hD k₂ => ?_
  rename Fr _ _ _ _ => F
  rename News _ _ _ _ => N
  have F₂ := frUp F k₂
  have N₂ := newsAdd F N k₂ hD
  dsimp only
  k_steps
  refine wpS_of ?_
  k_steps
  refine Hold.out ?_
  rename IsRange _ _ _ _ _ _ _ _ => hR
  rename Fr _ _ _ _ => F₃
  rename News _ _ _ _ => N₃
  have hDh : h₁.objs.size ≠ s.heap.objs.size := (N₃ _ (.head _)).2.1
  generalize h₁.objs.size = D at *
  refine iterRangeC 1 [D] (fun i m nx => nx = [(D, baObj (if i = 0 then Array.replicate b.size 0 else b.reverse))] ∧ m "data" = some (.bytes b tb) ∧ m "width" = some (.int (b.size : Int) tn) ∧ m "swapped_data" = some (.ref D))
    (by exact hA) hR (range_smallN h1 h2) (range_one h1) (by simp) F₃ N₃ ⟨rfl, rfl, rfl, rfl⟩ ?_ ?_
  · rintro i t m₁ nx h₄ tk₄ own hi - hown ⟨rfl, ed, ew, es⟩ F₄ N₄
    obtain rfl : i = 0 := by omega
    replace F₄ := frSees [("i", .int (0 + ((0 : Nat) : Int) * (b.size : Int)) t), ("data", .bytes b tb), ("width", .int (b.size : Int) tn), ("swapped_data", .ref D)] F₄ ⟨rfl, ed, ew, es, trivial⟩
    k_steps
    refine Hold.out ?_
    rename IsRange _ _ _ _ _ _ _ _ => hR'
    rename Fr _ _ _ _ => F₅
    rename News _ _ _ _ => N₅
    have N₆ : News s.heap s.heap.objs.size _ ((D, baObj (Array.replicate b.size 0)) :: own) := fun p hp => N₅ p (by simp at hp ⊢; exact hp)
    have hlt : ∀ p ∈ own, p.1 ≠ D := fun p hp q => hown p hp (by simp [q])
    refine iterRange b.size [D] (fun j m nx => ∃ a : Array UInt8, nx = (D, baObj a) :: own ∧ a.size = b.size ∧ (∀ k, k < b.size → b.size ≤ k + j → a[k]? = b[b.size - 1 - k]?) ∧ m "i" = some (.int 0 t) ∧ m "data" = some (.bytes b tb) ∧ m "width" = some (.int (b.size : Int) tn) ∧ m "swapped_data" = some (.ref D))
      (by exact hA) hR' (range_small1 h2) (range_size1 _) (by simp) F₅ N₆ ⟨Array.replicate b.size 0, rfl, by simp, fun k h h' => by omega, congrArg (fun z => some (Value.int z t)) (by simp), rfl, rfl, rfl⟩ ?_ ?_
    · rintro j t' m₂ nx h₅ tk₅ own' hj - hown' ⟨a, rfl, ha, hak, ei, ed', ew', es'⟩ F₇ N₇
      replace F₇ := frSees [("j", .int (0 + (j : Nat)) t'), ("i", .int 0 t), ("data", .bytes b tb), ("width", .int (b.size : Int) tn), ("swapped_data", .ref D)] F₇ ⟨rfl, ei, ed', ew', es', trivial⟩
      k_steps
      refine item_bytes (by omega) (by omega) h2 ?_
      k_steps
      refine Hold.out ?_
      refine setItem_ba (N₇.get (.head _)) (by omega) (by omega) (by omega) (by omega) (by have := (b.getD (0 + (0 + (j : Int))).toNat 0).toNat_lt; omega) fun h₆ hD₆ hs₆ => ?_
      have hoo : ∀ p ∈ own ++ own', p.1 ≠ D := fun p hp => by
        rcases List.mem_append.mp hp with hp | hp
        · exact hlt p hp
        · exact fun q => hown' p hp (by simp [q])
      have N₈ := newsSet N₇ hoo hs₆ hD₆
      have F₈ := frSet F₇ N₇ hs₆
      dsimp only
      k_steps
      refine TurnTo.nextN ((D, baObj _) :: own) F₈ N₈ (fun p hp => hp) rfl ⟨_, rfl, ?_, ?_, rfl, rfl, rfl, rfl⟩
      · simpa using ha
      · intro k hk hkj
        rw [Array.getElem?_setIfInBounds]
        have e1 : (0 + (b.size : Int) - 1 - (0 + (j : Int))).toNat = b.size - 1 - j := by omega
        have e2 : (0 + (0 + (j : Int))).toNat = j := by omega
        rw [e1, e2]
        by_cases hkk : b.size - 1 - j = k
        · rw [if_pos hkk, if_pos (by omega)]
          have e3 : b.size - 1 - k = j := by omega
          rw [e3, Array.getElem?_eq_getElem hj]
          simp [Array.getD, hj]
        · rw [if_neg hkk]
          exact hak k hk (by omega)
    · rintro m₂ nx h₅ tk₅ ⟨a, rfl, ha, hak, ei, ed', ew', es'⟩ - F₇ N₇
      have hrev : a = b.reverse := by
        apply Array.ext
        · simpa using ha
        · intro k h3 h4
          have := hak k (by omega) (by omega)
          rw [Array.getElem?_eq_getElem h3, Array.getElem?_eq_getElem (by omega)] at this
          rw [Array.getElem_reverse]
          exact Option.some.inj this
      subst hrev
      dsimp only
      k_steps
      exact TurnTo.nextN [(D, baObj b.reverse)] F₇ N₇ (fun p hp => hp) rfl ⟨rfl, ed', ew', es'⟩
  · rintro m₁ nx h₄ tk₄ ⟨rfl, ed, ew, es⟩ - F₄ N₄
    replace F₄ := frSees [("data", .bytes b tb), ("width", .int (b.size : Int) tn), ("swapped_data", .ref D)] F₄ ⟨ed, ew, es, trivial⟩
    k_steps
    refine call_bytes_ba (N₄.get (.head _)) (by simpa using h2) fun t tk => Ends.mk ⟨t, rfl⟩ F₄.keep
end Mine
end

section
open PySem PySem.W PyProof.Rows PySem.Calls
set_option maxRecDepth 100000
set_option maxHeartbeats 8000000
namespace Mine
open PySem (Slot)
theorem slot_bytes_lt : Slot "bytes" (cmpInfo .Lt).2.1 "bytes.__lt__" :=
  .of (owner := "bytes") (n := "__lt__") (by rw [typeLookup_type, builtinLookup_eq_fast]; kernel_rfl) (by decide +kernel) (by decide +kernel) (by decide +kernel)
    (by first | exact .inl (by decide +kernel) | exact .inr (by decide +kernel)) (by rw [isSubtype_type]; kernel_rfl)
theorem entry_bytes_lt : entryFor table "bytes.__lt__" = some Builtin.«bytes.__lt__» := entryFor_of_tree (by kernel_rfl)
theorem args_bytes_lt_2 (a b : Value) : argsOk "bytes.__lt__" ⟨[a, b], []⟩ := by
  unfold argsOk; kernel_rfl
/-- the order of bytes as the law reads it -/
def bLt (b c : Array UInt8) : Bool := Builtin.Bytes.order b.toList c.toList == .lt
theorem gives_bytes_lt (b c : Array UInt8) (t u : Tok) : Gives (Builtin.«bytes.__lt__» ⟨[.bytes b t, .bytes c u], []⟩) (.val (.bool (bLt b c))) := by
  refine .of_wp fun M A E s Q hq => ?_
  show wpAny M A (isInstance (.bytes c u) (.type "bytes") >>= fun r => _) _ E s
  refine wpAny_bind (wpAny_isInstance (PySem.W.typeIs_bytes s c u) F.sub_bytes_bytes ?_)
  exact wpAny_pure ⟨_, rfl, hq⟩
section
variable {prog : Program} {w : World} {A : Around} {E : Value → Shared → Prop} {s : Shared} {b c : Array UInt8} {t u : Tok}
theorem lt_bytes {Q : Value → Shared → Prop} (h : Q (.bool (bLt b c)) s) : wpAny (model prog w) A (compareOp .Lt (.bytes b t) (.bytes c u)) Q E s :=
  compareOp_gives (op := .Lt) (PySem.W.typeIs_bytes s b t) (PySem.W.typeIs_bytes s c u) slot_bytes_lt entry_bytes_lt (args_bytes_lt_2 _ _) (gives_bytes_lt b c t u) (fun e => nomatch e) h
end
end Mine
end

section
namespace Mine
/-! the plain law: numbers, places and the order of the hosts -/

/-- the place that the law tells -/
def placeN : Nat → List Nat → Nat
  | _, [] => 0
  | n, b :: r => n % b * (n / b + 1) + placeN (n / b) r
/-- the order of the hosts, read off the numbers -/
def keyLt : List Nat → Nat → Nat → Bool
  | [], _, _ => false
  | b :: r, n, m => if n % b < m % b then true else if m % b < n % b then false else keyLt r (n / b) (m / b)
def prodN : List Nat → Nat
  | [] => 1
  | b :: r => b * prodN r
/-- a number put in at a place -/
def putAt (l : List Nat) (k x : Nat) : List Nat := l.take k ++ x :: l.drop k
/-- the line after n hosts -/
def lineN (bs : List Nat) : Nat → List Nat
  | 0 => []
  | n + 1 => putAt (lineN bs n) (placeN n bs) n
/-- how many of the numbers are below x -/
def below (l : List Nat) (x : Nat) : Nat := (l.filter (· < x)).length
/-- the row after some numbers -/
def rowOf : List Nat → List Nat
  | [] => []
  | x :: l => x :: l
def rowN (l : List Nat) : Nat → List Nat
  | 0 => []
  | t + 1 => putAt (rowN l t) (below (rowN l t) (l.getD t 0)) (l.getD t 0)
/-- all that a list is split by: p holds below k and not from k on -/
def splits (l : List Nat) (k : Nat) (p : Nat → Bool) : Bool := k ≤ l.length && (l.take k).all p && (l.drop k).all fun x => !p x
def okLine (bs : List Nat) (n : Nat) : Bool := (List.range n).all fun j => splits (lineN bs j) (placeN j bs) fun i => keyLt bs i j
def okRow (bs : List Nat) (n : Nat) : Bool :=
  (List.range n).all fun t => let x := (lineN bs n).getD t 0; let r := rowN (lineN bs n) t
    decide (x < n) && splits r (below r x) (fun y => decide (y < x)) && splits (putAt r (below r x) x) (below r x + 1) (fun y => !decide (x < y)) && (below r x == placeN x bs)
def okAll (bs : List Nat) (n : Nat) : Bool :=
  okLine bs n && okRow bs n && (lineN bs n).length == n && (rowN (lineN bs n) n == List.range n)
def allBases : List (List Nat) :=
  let d := [2, 3, 4]
  d.map (fun a => [a]) ++ d.flatMap (fun a => d.map fun b => [a, b]) ++ d.flatMap (fun a => d.flatMap fun b => d.map fun c => [a, b, c])
/-- the same looked at once along the line -/
def rowCond (bs : List Nat) (n x : Nat) (r : List Nat) : Bool :=
  decide (x < n) && splits r (below r x) (fun y => decide (y < x)) && splits (putAt r (below r x) x) (below r x + 1) (fun y => !decide (x < y)) && (below r x == placeN x bs)
def chk (bs : List Nat) (n : Nat) : List Nat → List Nat → Bool
  | [], r => r == List.range n
  | x :: l, r => rowCond bs n x r && chk bs n l (putAt r (below r x) x)
theorem chk_at {bs : List Nat} {n : Nat} (line : List Nat) : ∀ (l : List Nat) (t : Nat), line.drop t = l → t ≤ line.length → chk bs n l (rowN line t) = true →
    (∀ t', t ≤ t' → t' < line.length → rowCond bs n (line.getD t' 0) (rowN line t') = true) ∧ (rowN line line.length == List.range n) = true
  | [], t, hd, ht, h => by
    have : line.length ≤ t := List.drop_eq_nil_iff.mp hd
    obtain rfl : t = line.length := by omega
    exact ⟨fun t' h1 h2 => by omega, h⟩
  | x :: l, t, hd, ht, h => by
    have hlt : t < line.length := by
      rcases Nat.lt_or_ge t line.length with h1 | h1
      · exact h1
      · rw [List.drop_eq_nil_iff.mpr h1] at hd; cases hd
    rw [List.drop_eq_getElem_cons hlt] at hd
    injection hd with e1 e2
    have hx : line.getD t 0 = x := by rw [List.getD_eq_getElem?_getD, List.getElem?_eq_getElem hlt]; exact e1
    rw [chk, Bool.and_eq_true] at h
    have hr : rowN line (t + 1) = putAt (rowN line t) (below (rowN line t) x) x := by rw [rowN, hx]
    rw [← hr] at h
    obtain ⟨h3, h4⟩ := chk_at line l (t + 1) e2 hlt h.2
    refine ⟨fun t' h1 h2 => ?_, h4⟩
    rcases Nat.eq_or_lt_of_le h1 with rfl | h5
    · rw [hx]; exact h.1
    · exact h3 t' h5 h2
def okQuick (bs : List Nat) (n : Nat) : Bool := okLine bs n && (lineN bs n).length == n && chk bs n (lineN bs n) []
theorem okAll_quick {bs : List Nat} {n : Nat} (h : okQuick bs n = true) : okAll bs n = true := by
  rw [okQuick, Bool.and_eq_true, Bool.and_eq_true] at h
  obtain ⟨⟨h1, h2⟩, h3⟩ := h
  have hl : (lineN bs n).length = n := eq_of_beq h2
  obtain ⟨h4, h5⟩ := chk_at (lineN bs n) (lineN bs n) 0 rfl (Nat.zero_le _) h3
  rw [hl] at h4 h5
  rw [okAll, Bool.and_eq_true, Bool.and_eq_true, Bool.and_eq_true]
  refine ⟨⟨⟨h1, ?_⟩, h2⟩, h5⟩
  rw [okRow, List.all_eq_true]
  exact fun t ht => h4 t (Nat.zero_le _) (List.mem_range.mp ht)
theorem okQuick_all : (allBases.all fun bs => (List.range (min 13 (prodN bs) + 1)).all fun n => okQuick bs n) = true := by decide +kernel
theorem okAll_all : (allBases.all fun bs => (List.range (min 13 (prodN bs) + 1)).all fun n => okAll bs n) = true := by
  rw [List.all_eq_true]
  intro bs hb
  rw [List.all_eq_true]
  intro n hn
  exact okAll_quick (List.all_eq_true.mp (List.all_eq_true.mp okQuick_all bs hb) n hn)
end Mine
end

section
open PySem PySem.W PyProof.Rows PySem.Calls
set_option maxRecDepth 100000
set_option maxHeartbeats 8000000
namespace Mine
section
variable {prog : Program} {w : World} {A : Around} {s : Shared} {env : Env}
/-- entering a def with cells; the base is the whole heap at the call -/
theorem enterSC {K : Frag} {binds : List (Str × Value)} {Q : Value → Shared → Prop}
    {f : Addr} {name qual : Str} {params : Arguments} {body : List Stmt} {scope : Scope} {dV kV doc pm cdv ct oc : Value} {an od : Option Addr} {osl : Array (Option Value)}
    {pos : List Value} {kw : List (Str × Value)}
    (X : K.In s.heap) (hlim : s.heap.NoLimit) (hroom : A.depth < recursionLimit)
    (ho : K.lookup f = some ⟨oc, od, .func (fnOf name qual params body scope dV kV doc pm an cdv ct), osl⟩) (hcd : codeIn K cdv qual = true)
    (hbind : BindsTo s (fnOf name qual params body scope dV kV doc pm an cdv ct) ⟨pos, kw⟩ binds)
    (hkind : (binds.all fun y => scope.names.lookup y.1 == some .local || scope.names.lookup y.1 == some .cell) = true)
    (hnd : ((cellsFrom 0 scope.names []).map (·.1)).Nodup)
    (h : ∀ h₁ tk cells, Fr s.heap s.heap.objs.size h₁ (bindL (envOfC qual scope s.heap.objs.size f cdv).kindOf binds fun _ => none) → News s.heap s.heap.objs.size h₁ cells →
      CellsAre (bindC (envOfC qual scope s.heap.objs.size f cdv).kindOf binds fun _ => none) (cellsFrom (s.heap.objs.size + 1) scope.names []) cells →
      wpS (model prog w) (A.deeper (envOfC qual scope s.heap.objs.size f cdv)) (execs body (envOfC qual scope s.heap.objs.size f cdv)) (fun fl s' => Q (match fl with | .ret v => v | _ => .none) s')
        { s with heap := h₁, toks := tk })
    (hco : scope.isCoroutine = false := by rfl) (hgen : scope.isGenerator = false := by rfl) (hk : scope.kind = .function := by rfl) :
    wpS (model prog w) A (call (.ref f) pos kw) Q s := by
  refine wpS_call (codeS_call_function (fd := fnOf name qual params body scope dV kV doc pm an cdv ct) (body := body) hroom (X _ _ ho) rfl hco hgen rfl (codeRec_of X hcd) (hbind _ _ _ _ ?_))
  refine wpAny_newFunctionEnv_cells hk (kindsX hkind _) fun env' he s' x => ?_
  subst he
  refine ⟨hlim.keeps x.toInCall.keep, codeS_func ?_⟩
  obtain ⟨h₁, tk, rfl, _⟩ := x.done
  have hk₁ := x.toInCall.keep
  obtain ⟨cells, NC, Y⟩ := Cl.news (h₀ := s.heap) (Nat.le_refl _) fun n c hm => ⟨x.cell n c (lookup_of_mem_nodup (cellsFrom_names scope.names 0 (s.heap.objs.size + 1) [] [] rfl ▸ hnd) hm), x.above n c hm⟩
  exact h h₁ tk cells ⟨x.toInCall.ns, hk₁, Nat.le_refl _⟩ NC Y
end
end Mine
end

section
open PySem PySem.W PyProof.Rows PySem.Calls
set_option maxRecDepth 100000
set_option maxHeartbeats 8000000
namespace Mine
section
variable {prog : Program} {w : World} {A : Around} {E : Value → Shared → Prop} {env : Env} {s : Shared}

def CompAt (prog : Program) (w : World) (A : Around) (env : Env) (scope : Scope) (cl : List (Str × Addr)) (x : Str) (elt : Expr) (Q : Value → Shared → Prop) (it : Value) (s₂ : Shared) : Prop :=
  ∃ F I fp wr n P St, it = .ref I ∧ Walks prog w A I fp wr n P St ∧ n ≤ sizeLine ∧ St 0 s₂.heap ∧ (∀ b ∈ fp, b < s₂.heap.objs.size) ∧
    QuietOnC prog w A env scope cl x [] elt wr P (fun _ => true) F s₂ ∧
    (∀ D h' tk ys (vs : List Value), s₂.heap.get? D = none → h'.IsList D ys → h'.PlainList D ys → vs.length = n → (∀ j v, vs[j]? = some v → P j v) → Paired F (vs.filter fun _ => true) ys.toList →
        (∀ b o, b ∉ wr → s₂.heap.get? b = some o → h'.get? b = some o) → Q (.ref D) { s₂ with heap := h', toks := tk })

theorem evalComp {elt iter : Expr} {x : Str} {px : Pos} {scope : Scope} {cl : List (Str × Addr)} {pos : Pos} {Q : Value → Shared → Prop}
    (hclos : closureFor scope env = pure cl) (hcell : ∀ y ∈ scope.names, y.2 ≠ .cell) (hkind : scope.kind = .function)
    (hnames : ∀ y ∈ scope.names, y.2 = .local → scope.names.lookup y.1 = some .local) (hx : scope.names.lookup x = some .local)
    (h : wpAny (model prog w) A (eval iter env) (fun xv s₁ => wpAny (model prog w) A (pyIter xv) (CompAt prog w A env scope cl x elt Q) E s₁) E s)
    (hs : ∀ x, foldedSetIterable iter env x = pure x := by intro _; rfl) :
    wpAny (model prog w) A (eval (.ListComp elt [⟨.Name x px, iter, [], 0⟩] scope pos) env) Q E s := by
  rw [eval_ListComp]
  refine wpAny_comprehension_free (use := none) rfl hs hclos hkind hnames (wpAny_mono h (fun xv s₁ h₁ => wpAny_mono h₁ (fun it s₂ h₂ => ?_) fun _ _ e => e) fun _ _ e => e)
  obtain ⟨F, I, fp, wr, n, P, St, rfl, W, hsz, hst, hfp, hq, hQ⟩ := h₂
  refine comp_block_walkC (RR := fun acc C => compPost (model prog w) A E none Q acc C) W hsz (fun _ => true) F hcell hkind hx hst hfp hq ?_
  intro D C h' tk m' ys vs hD hC hDC hn hl hpl hlen hP hF hk
  exact ⟨m', hn, fun h'' hs'' => hQ D h'' tk ys vs hD (hl.extBut hs''.extBut hDC) (hpl.extBut hs''.extBut hDC) hlen hP hF fun b o hbf e => hs''.extBut b o (by rintro rfl; rw [hC] at e; cases e) (hk b o hbf e)⟩

def AsgAt (prog : Program) (w : World) (A : Around) (env : Env) (scope : Scope) (cl : List (Str × Addr)) (x y : Str) (elt : Expr) (Q : Flow → Shared → Prop) (it : Value) (s₂ : Shared) : Prop :=
  ∃ F I fp wr n P St m, it = .ref I ∧ Walks prog w A I fp wr n P St ∧ n ≤ sizeLine ∧ St 0 s₂.heap ∧ (∀ b ∈ fp, b < s₂.heap.objs.size) ∧
    env.locals ∉ wr ∧ s₂.heap.Ns env.locals m ∧ QuietOnC prog w A env scope cl x [] elt wr P (fun _ => true) F s₂ ∧
    (∀ D h' tk ys (vs : List Value), s₂.heap.get? D = none → h'.IsList D ys → h'.PlainList D ys → vs.length = n → (∀ j v, vs[j]? = some v → P j v) → Paired F (vs.filter fun _ => true) ys.toList →
        h'.Ns env.locals (fun z => if z = y then some (.ref D) else m z) → (∀ b o, b ≠ env.locals → b ∉ wr → s₂.heap.get? b = some o → h'.get? b = some o) → Q .next { s₂ with heap := h', toks := tk })

theorem asgComp {elt iter : Expr} {x y : Str} {px py : Pos} {scope : Scope} {cl : List (Str × Addr)} {pos spos : Pos} {Q : Flow → Shared → Prop}
    (hsw : swapsWith (.ListComp elt [⟨.Name x px, iter, [], 0⟩] scope pos) (some (.Name y py)) spos.line env = pure true)
    (hclos : closureFor scope env = pure cl) (hcell : ∀ z ∈ scope.names, z.2 ≠ .cell) (hkind : scope.kind = .function)
    (hnames : ∀ z ∈ scope.names, z.2 = .local → scope.names.lookup z.1 = some .local) (hx : scope.names.lookup x = some .local)
    (hy : env.kindOf y = some .local) (hp : (env.scope.kind == .class || (env.scope.kind == .module && env.locals != env.globals)) = false)
    (h : wpAny (model prog w) A (eval iter env) (fun xv s₁ => wpAny (model prog w) A (pyIter xv) (AsgAt prog w A env scope cl x y elt Q) E s₁) E s)
    (hs : ∀ x, foldedSetIterable iter env x = pure x := by intro _; rfl) :
    wpAny (model prog w) A (exec (.Assign [.Name y py] (.ListComp elt [⟨.Name x px, iter, [], 0⟩] scope pos) spos) env) Q E s := by
  rw [exec_Assign_Name_used _ _ _ _ hsw]
  refine wpAny_bind (wpAny_standAt (wpAny_bind ?_))
  show wpAny _ A (do let _ ← comprehension (.ListComp elt [⟨.Name x px, iter, [], 0⟩] scope pos) scope env _ (newList []) false (eval iter env) (some (assign (.Name y py) env))) _ _ s
  refine wpAny_bind (wpAny_mono (wpAny_comprehension_free (use := some (assign (.Name y py) env)) (Q := fun _ s' => Q .next s') rfl hs hclos hkind hnames
    (wpAny_mono h (fun xv s₁ h₁ => wpAny_mono h₁ (fun it s₂ h₂ => ?_) fun _ _ e => e) fun _ _ e => e)) (fun _ s' hq => wpAny_pure (wpAny_pure hq)) fun _ _ e => e)
  obtain ⟨F, I, fp, wr, n, P, St, m, rfl, W, hsz, hst, hfp, hLf, hn, hq, hQ⟩ := h₂
  refine comp_block_walkC (RR := fun acc C => compPost (model prog w) A E (some (assign (.Name y py) env)) (fun _ s' => Q .next s') acc C) W hsz (fun _ => true) F hcell hkind hx hst hfp hq ?_
  intro D C h' tk m' ys vs hD hC hDC hnC hlD hplD hlen hP hF hk
  have hLC : env.locals ≠ C := by rintro rfl; obtain ⟨o, _, _, ho, _⟩ := hn; rw [hC] at ho; cases ho
  have hLD : env.locals ≠ D := by rintro rfl; obtain ⟨o, _, _, ho, _⟩ := hn; rw [hD] at ho; cases ho
  show wpAny _ A (assign (.Name y py) env (.ref D)) _ _ _
  refine wpAny_assign_Name (wpAny_storeName_local hy (hn.at' fun o e => hk _ o hLf e) (fun h₂ hn₂ hs₂ => ?_) hp)
  refine ⟨m', hnC.sameBut hs₂ (Ne.symm hLC), fun h₃ hs₃ => ?_⟩
  exact hQ D h₃ _ ys vs hD ((hlD.extBut hs₂.extBut (Ne.symm hLD)).extBut hs₃.extBut hDC) ((hplD.extBut hs₂.extBut (Ne.symm hLD)).extBut hs₃.extBut hDC) hlen hP hF (hn₂.sameBut hs₃ hLC) fun b o hbL hbf e =>
    hs₃.extBut b o (by rintro rfl; rw [hC] at e; cases e) (hs₂.extBut b o hbL (hk b o hbf e))

theorem filter_true (l : List Value) : (l.filter fun _ => true) = l := by induction l with | nil => rfl | cons a r ih => rw [List.filter_cons, if_pos rfl, ih]

/-- an element that keeps all that stands, told of the iterated value -/
def EltOk (prog : Program) (w : World) (A : Around) (env : Env) (scope : Scope) (cl : List (Str × Addr)) (x : Str) (elt : Expr) (P : Nat → Value → Prop) (F : Value → Value → Prop) (h : Heap) : Prop :=
  ∀ C i v s₃ m₃ E', P i v → Fr h C s₃.heap m₃ → m₃ x = some v →
    wpAny (model prog w) A (eval elt (compEnvC scope cl C env)) (fun y s₄ => F v y ∧ Keeps s₃ s₄) E' s₃

theorem quietOf {scope : Scope} {cl : List (Str × Addr)} {x : Str} {elt : Expr} {P : Nat → Value → Prop} {F : Value → Value → Prop} {o : Obj}
    (h : EltOk prog w A env scope cl x elt P F s.heap) : QuietOnC prog w A env scope cl x [] elt [s.heap.objs.size] P (fun _ => true) F { s with heap := s.heap.push o } where
  tests := fun C i v s₃ m₃ E' _ _ _ _ _ _ => wpAny_tests_nil ⟨rfl, s₃.heap, s₃.toks, rfl, fun _ _ e => e⟩
  elt := fun C i v s₃ m₃ E' hC hv _ hn hm hk _ => h C i v s₃ m₃ E' hv
    ⟨hn, fun b ob e => hk b ob (fun q => by rw [List.mem_singleton.mp q] at e; exact Nat.lt_irrefl _ (Heap.lt_size e)) (Heap.get?_push_of_some _ e), Nat.le_of_succ_le (by rw [show ({ s with heap := s.heap.push o } : Shared).heap.objs.size = s.heap.objs.size + 1 from Heap.size_push ..] at hC; exact hC)⟩ hm

theorem compOf {scope : Scope} {cl : List (Str × Addr)} {x : Str} {elt : Expr} {Q : Value → Shared → Prop} {fp : List Addr} {n : Nat} {P : Nat → Value → Prop} {St : Nat → Heap → Prop} {o : Obj} (F : Value → Value → Prop)
    (W : Walks prog w A s.heap.objs.size fp [s.heap.objs.size] n P St) (hst : St 0 (s.heap.push o)) (hfp : ∀ b ∈ fp, b ≤ s.heap.objs.size) (hn : n ≤ sizeLine)
    (he : EltOk prog w A env scope cl x elt P F s.heap)
    (fin : ∀ D h' tk (vs ys : List Value) k, vs.length = n → (∀ j v, vs[j]? = some v → P j v) → Paired F vs ys → h'.get? D = some (listOf ys.toArray k) → s.heap.get? D = none → KeepsH s.heap h' → Q (.ref D) { s with heap := h', toks := tk }) :
    CompAt prog w A env scope cl x elt Q (.ref s.heap.objs.size) { s with heap := s.heap.push o } := by
  refine ⟨F, _, fp, _, n, P, St, rfl, W, hn, hst, fun b hb => ?_, quietOf he, ?_⟩
  · show b < (s.heap.push o).objs.size
    rw [Heap.size_push]; exact Nat.lt_succ_of_le (hfp b hb)
  · intro D h' tk ys vs hD hl ⟨k, hpl⟩ hlen hP hF hk
    have hF' : Paired F vs ys.toList := by rw [filter_true] at hF; exact hF
    refine fin D h' tk vs ys.toList k hlen hP hF' (by simpa using hpl) ?_ fun b ob e => hk b ob (fun q => by rw [List.mem_singleton.mp q] at e; exact Nat.lt_irrefl _ (Heap.lt_size e)) (Heap.get?_push_of_some _ e)
    cases e : s.heap.get? D with
    | none => rfl
    | some ob => have := Heap.get?_push_of_some o e; rw [show ({ s with heap := s.heap.push o } : Shared).heap.get? D = none from hD] at this; cases this

theorem asgOf {scope : Scope} {cl : List (Str × Addr)} {x y : Str} {elt : Expr} {Q : Flow → Shared → Prop} {fp : List Addr} {n : Nat} {P : Nat → Value → Prop} {St : Nat → Heap → Prop} {o : Obj} {h₀ : Heap} {m : Str → Option Value} {news : List (Addr × Obj)} (F : Value → Value → Prop)
    (Fm : Fr h₀ env.locals s.heap m) (N : News h₀ env.locals s.heap news)
    (W : Walks prog w A s.heap.objs.size fp [s.heap.objs.size] n P St) (hst : St 0 (s.heap.push o)) (hfp : ∀ b ∈ fp, b ≤ s.heap.objs.size) (hn : n ≤ sizeLine)
    (he : EltOk prog w A env scope cl x elt P F s.heap)
    (fin : ∀ D h' tk (vs ys : List Value) k, vs.length = n → (∀ j v, vs[j]? = some v → P j v) → Paired F vs ys → Fr h₀ env.locals h' (fun z => if z = y then some (.ref D) else m z) → News h₀ env.locals h' ((D, listOf ys.toArray k) :: news) → s.heap.get? D = none →
      Q .next { s with heap := h', toks := tk }) :
    AsgAt prog w A env scope cl x y elt Q (.ref s.heap.objs.size) { s with heap := s.heap.push o } := by
  have hL : env.locals < s.heap.objs.size := Fm.ns.lt
  refine ⟨F, _, fp, _, n, P, St, m, rfl, W, hn, hst, fun b hb => ?_, ?_, (Fm.push o).ns, quietOf he, ?_⟩
  · show b < (s.heap.push o).objs.size
    rw [Heap.size_push]; exact Nat.lt_succ_of_le (hfp b hb)
  · intro q; rw [List.mem_singleton.mp q] at hL; exact Nat.lt_irrefl _ hL
  · intro D h' tk ys vs hD hl ⟨k, hpl⟩ hlen hP hF hns hk
    have hF' : Paired F vs ys.toList := by rw [filter_true] at hF; exact hF
    have hD' : s.heap.get? D = none := by
      cases e : s.heap.get? D with
      | none => rfl
      | some ob => have := Heap.get?_push_of_some o e; rw [show ({ s with heap := s.heap.push o } : Shared).heap.get? D = none from hD] at this; cases this
    have up : ∀ b ob, b ≠ env.locals → s.heap.get? b = some ob → h'.get? b = some ob := fun b ob hb e => hk b ob hb (fun q => by rw [List.mem_singleton.mp q] at e; exact Nat.lt_irrefl _ (Heap.lt_size e)) (Heap.get?_push_of_some _ e)
    refine fin D h' tk vs ys.toList k hlen hP hF' ⟨hns, fun b ob e => up b ob (fun q => ?_) (Fm.keep b ob e), Fm.above⟩ (fun p hp => ?_) hD'
    · have := Heap.get?_none_of_le Fm.above
      rw [q, this] at e; cases e
    · rcases List.mem_cons.mp hp with rfl | hp
      · refine ⟨by simpa using hpl, ?_, ?_⟩
        · rintro rfl
          obtain ⟨ob, _, _, ho, _⟩ := Fm.ns
          rw [hD'] at ho; cases ho
        · cases e : h₀.get? D with
          | none => rfl
          | some ob => rw [Fm.keep D ob e] at hD'; cases hD'
      · exact ⟨up _ _ (N p hp).2.1 (N p hp).1, (N p hp).2⟩

/-- the lists as sources -/
theorem walkList {l : Addr} {vs : List Value} (hh : A.handled = none) (hl : s.heap.IsList l vs.toArray) :
    Walks prog w A s.heap.objs.size [s.heap.objs.size, l] [s.heap.objs.size] vs.length (fun i v => vs[i]? = some v) (fun i h => h.IsListIter s.heap.objs.size l i ∧ h.IsList l vs.toArray) := by
  obtain ⟨o, ho, _⟩ := id hl
  have W := Walks.list (prog := prog) (w := w) hh s.heap.objs.size l (Nat.ne_of_lt (Heap.lt_size ho)) vs.toArray
  simpa using W
theorem compList {l : Addr} {vs : List Value} {scope : Scope} {cl : List (Str × Addr)} {x : Str} {elt : Expr} {Q : Value → Shared → Prop} (F : Value → Value → Prop)
    (hh : A.handled = none) (hl : s.heap.IsList l vs.toArray) (hn : vs.length < 1000)
    (he : EltOk prog w A env scope cl x elt (fun i v => vs[i]? = some v) F s.heap)
    (fin : ∀ D h' tk ys k, Paired F vs ys → h'.get? D = some (listOf ys.toArray k) → s.heap.get? D = none → KeepsH s.heap h' → Q (.ref D) { s with heap := h', toks := tk }) :
    wpAny (model prog w) A (pyIter (.ref l)) (CompAt prog w A env scope cl x elt Q) E s := by
  refine wpAny_pyIter_list hl ?_
  refine compOf F (walkList hh hl) ⟨⟨_, Heap.get?_push_size _ rfl, rfl, rfl⟩, hl.push _⟩ (fun b hb => ?_) (by rw [sizeLine_eq]; omega) he ?_
  · obtain ⟨o, ho, _⟩ := id hl
    rcases List.mem_cons.mp hb with rfl | hb
    · exact Nat.le_refl _
    · rw [List.mem_singleton.mp hb]; exact Nat.le_of_lt (Heap.lt_size ho)
  · intro D h' tk vs' ys k hlen hP hF
    have : vs' = vs := List.ext_getElem? fun j => by
      by_cases hj : j < vs'.length
      · rw [List.getElem?_eq_getElem hj]; exact (hP j _ (List.getElem?_eq_getElem hj)).symm
      · rw [List.getElem?_eq_none (by omega), List.getElem?_eq_none (by omega)]
    exact fin D h' tk ys k (this ▸ hF)
theorem asgList {l : Addr} {vs : List Value} {scope : Scope} {cl : List (Str × Addr)} {x y : Str} {elt : Expr} {Q : Flow → Shared → Prop} {h₀ : Heap} {m : Str → Option Value} {news : List (Addr × Obj)} (F : Value → Value → Prop)
    (hh : A.handled = none) (Fm : Fr h₀ env.locals s.heap m) (N : News h₀ env.locals s.heap news) (hl : s.heap.IsList l vs.toArray) (hn : vs.length < 1000)
    (he : EltOk prog w A env scope cl x elt (fun i v => vs[i]? = some v) F s.heap)
    (fin : ∀ D h' tk ys k, Paired F vs ys → Fr h₀ env.locals h' (fun z => if z = y then some (.ref D) else m z) → News h₀ env.locals h' ((D, listOf ys.toArray k) :: news) → s.heap.get? D = none → Q .next { s with heap := h', toks := tk }) :
    wpAny (model prog w) A (pyIter (.ref l)) (AsgAt prog w A env scope cl x y elt Q) E s := by
  refine wpAny_pyIter_list hl ?_
  refine asgOf F Fm N (walkList hh hl) ⟨⟨_, Heap.get?_push_size _ rfl, rfl, rfl⟩, hl.push _⟩ (fun b hb => ?_) (by rw [sizeLine_eq]; omega) he ?_
  · obtain ⟨o, ho, _⟩ := id hl
    rcases List.mem_cons.mp hb with rfl | hb
    · exact Nat.le_refl _
    · rw [List.mem_singleton.mp hb]; exact Nat.le_of_lt (Heap.lt_size ho)
  · intro D h' tk vs' ys k hlen hP hF
    have : vs' = vs := List.ext_getElem? fun j => by
      by_cases hj : j < vs'.length
      · rw [List.getElem?_eq_getElem hj]; exact (hP j _ (List.getElem?_eq_getElem hj)).symm
      · rw [List.getElem?_eq_none (by omega), List.getElem?_eq_none (by omega)]
    exact fin D h' tk ys k (this ▸ hF)
/-- ranges as sources -/
theorem walkRange (hh : A.handled = none) (n : Nat) (a : Int) :
    Walks prog w A s.heap.objs.size [s.heap.objs.size] [s.heap.objs.size] n (fun i v => i < n ∧ ∃ t, v = .int (a + (i : Nat)) t) (fun i h => IsRangeIter h s.heap.objs.size (a + (i : Nat) * 1) ((n : Int) - (i : Nat)) 1) := by
  have W := (Walks.range (prog := prog) (w := w) hh s.heap.objs.size a 1 n).bound
  simpa using W
theorem compRange {r : Addr} {a₀ b₀ : Int} {t₀ u₀ v₀ : Tok} (n : Nat) {scope : Scope} {cl : List (Str × Addr)} {x : Str} {elt : Expr} {Q : Value → Shared → Prop} (F : Value → Value → Prop)
    (hh : A.handled = none) (hr : IsRange s.heap r a₀ b₀ 1 t₀ u₀ v₀) (hsmall : Builtin.Range.small a₀ b₀ 1 = true) (hsz : Builtin.Range.rangeSize a₀ b₀ 1 = (n : Int)) (hn : n < 1000)
    (he : EltOk prog w A env scope cl x elt (fun i v => i < n ∧ ∃ t, v = .int (a₀ + (i : Nat)) t) F s.heap)
    (fin : ∀ D h' tk (vs ys : List Value) k, vs.length = n → (∀ j v, vs[j]? = some v → ∃ t : Tok, v = Value.int (a₀ + (j : Nat)) t) → Paired F vs ys → h'.get? D = some (listOf ys.toArray k) → s.heap.get? D = none → KeepsH s.heap h' → Q (.ref D) { s with heap := h', toks := tk }) :
    wpAny (model prog w) A (pyIter (.ref r)) (CompAt prog w A env scope cl x elt Q) E s := by
  refine wpAny_pyIter_range hr hsmall ?_
  refine compOf F (walkRange hh n a₀) (by show IsRangeIter _ _ _ _ _; rw [hsz]; simpa using Heap.get?_push_size _ rfl) (fun b hb => by rw [List.mem_singleton.mp hb]; exact Nat.le_refl _) (by rw [sizeLine_eq]; omega) he ?_
  intro D h' tk vs' ys k hlen hP hF
  exact fin D h' tk vs' ys k hlen (fun j v hv => (hP j v hv).2) hF
theorem asgRange {r : Addr} {a₀ b₀ : Int} {t₀ u₀ v₀ : Tok} (n : Nat) {scope : Scope} {cl : List (Str × Addr)} {x y : Str} {elt : Expr} {Q : Flow → Shared → Prop} {h₀ : Heap} {m : Str → Option Value} {news : List (Addr × Obj)} (F : Value → Value → Prop)
    (hh : A.handled = none) (Fm : Fr h₀ env.locals s.heap m) (N : News h₀ env.locals s.heap news) (hr : IsRange s.heap r a₀ b₀ 1 t₀ u₀ v₀) (hsmall : Builtin.Range.small a₀ b₀ 1 = true) (hsz : Builtin.Range.rangeSize a₀ b₀ 1 = (n : Int)) (hn : n < 1000)
    (he : EltOk prog w A env scope cl x elt (fun i v => i < n ∧ ∃ t, v = .int (a₀ + (i : Nat)) t) F s.heap)
    (fin : ∀ D h' tk (vs ys : List Value) k, vs.length = n → (∀ j v, vs[j]? = some v → ∃ t : Tok, v = Value.int (a₀ + (j : Nat)) t) → Paired F vs ys → Fr h₀ env.locals h' (fun z => if z = y then some (.ref D) else m z) → News h₀ env.locals h' ((D, listOf ys.toArray k) :: news) → s.heap.get? D = none → Q .next { s with heap := h', toks := tk }) :
    wpAny (model prog w) A (pyIter (.ref r)) (AsgAt prog w A env scope cl x y elt Q) E s := by
  refine wpAny_pyIter_range hr hsmall ?_
  refine asgOf F Fm N (walkRange hh n a₀) (by show IsRangeIter _ _ _ _ _; rw [hsz]; simpa using Heap.get?_push_size _ rfl) (fun b hb => by rw [List.mem_singleton.mp hb]; exact Nat.le_refl _) (by rw [sizeLine_eq]; omega) he ?_
  intro D h' tk vs' ys k hlen hP hF
  exact fin D h' tk vs' ys k hlen (fun j v hv => (hP j v hv).2) hF
/-- texts and tuples as sources -/
theorem compStr {z : Str} {t : Tok} {scope : Scope} {cl : List (Str × Addr)} {x : Str} {elt : Expr} {Q : Value → Shared → Prop} (F : Value → Value → Prop)
    (hh : A.handled = none) (hn : z.cps.size < 1000)
    (he : EltOk prog w A env scope cl x elt (SignAt z) F s.heap)
    (fin : ∀ D h' tk (vs ys : List Value) k, vs.length = z.cps.size → (∀ j v, vs[j]? = some v → SignAt z j v) → Paired F vs ys → h'.get? D = some (listOf ys.toArray k) → s.heap.get? D = none → KeepsH s.heap h' → Q (.ref D) { s with heap := h', toks := tk }) :
    wpAny (model prog w) A (pyIter (.str z t)) (CompAt prog w A env scope cl x elt Q) E s :=
  wpAny_pyIter_str fun o St W hst => compOf F (W A hh) hst (fun b hb => by rw [List.mem_singleton.mp hb]; exact Nat.le_refl _) (by rw [sizeLine_eq]; omega) he fin
theorem compTuple {l : Addr} {vs : List Value} {scope : Scope} {cl : List (Str × Addr)} {x : Str} {elt : Expr} {Q : Value → Shared → Prop} (F : Value → Value → Prop)
    (hh : A.handled = none) (hl : s.heap.IsTuple l vs.toArray) (hn : vs.length < 1000)
    (he : EltOk prog w A env scope cl x elt (fun i v => vs[i]? = some v) F s.heap)
    (fin : ∀ D h' tk ys k, Paired F vs ys → h'.get? D = some (listOf ys.toArray k) → s.heap.get? D = none → KeepsH s.heap h' → Q (.ref D) { s with heap := h', toks := tk }) :
    wpAny (model prog w) A (pyIter (.ref l)) (CompAt prog w A env scope cl x elt Q) E s := by
  obtain ⟨o, ho, _⟩ := id hl
  have hlt := Heap.lt_size ho
  have W := Walks.tuple (prog := prog) (w := w) hh s.heap.objs.size l (Nat.ne_of_lt hlt) vs.toArray
  refine wpAny_pyIter_tuple hl ?_
  refine compOf F W ⟨⟨_, Heap.get?_push_size _ rfl, rfl, rfl⟩, hl.at fun _ e => Heap.get?_push_of_some _ e⟩ (fun b hb => ?_) (by rw [sizeLine_eq]; simp; omega) (fun C i v s₃ m₃ E' hv => he C i v s₃ m₃ E' (by simpa using hv)) ?_
  · rcases List.mem_cons.mp hb with rfl | hb
    · exact Nat.le_refl _
    · rw [List.mem_singleton.mp hb]; exact Nat.le_of_lt hlt
  · intro D h' tk vs' ys k hlen hP hF
    have : vs' = vs := List.ext_getElem? fun j => by
      by_cases hj : j < vs'.length
      · rw [List.getElem?_eq_getElem hj]; exact (by simpa using hP j _ (List.getElem?_eq_getElem hj) : vs[j]? = some vs'[j]).symm
      · rw [List.getElem?_eq_none (by omega), List.getElem?_eq_none (by simp at hlen; omega)]
    exact fin D h' tk ys k (this ▸ hF)
end
end Mine
end

section
open PySem PySem.W PyProof.Rows PySem.Calls
set_option maxRecDepth 100000
set_option maxHeartbeats 8000000
namespace Mine
section
variable {α β γ : Type} {R : α → β → Prop}
theorem Paired.get? : ∀ {l : List α} {vs : List β}, Paired R l vs → ∀ {i : Nat} {a : α}, l[i]? = some a → ∃ b, vs[i]? = some b ∧ R a b
  | _, _, .cons h t, 0, a, e => by cases e; exact ⟨_, rfl, h⟩
  | _, _, .cons h t, i + 1, a, e => by
    obtain ⟨b, hb, hr⟩ := Paired.get? t (i := i) (a := a) (by simpa using e)
    exact ⟨b, by simpa using hb, hr⟩
theorem Paired.back {l : List α} {vs : List β} (p : Paired R l vs) {i : Nat} {b : β} (e : vs[i]? = some b) : ∃ a, l[i]? = some a ∧ R a b := by
  have hi : i < l.length := by rw [p.length]; exact (List.getElem?_eq_some_iff.mp e).1
  obtain ⟨b', hb', hr⟩ := Paired.get? p (List.getElem?_eq_getElem hi)
  rw [e] at hb'; cases hb'
  exact ⟨_, List.getElem?_eq_getElem hi, hr⟩
theorem Paired.take : ∀ {l : List α} {vs : List β}, Paired R l vs → ∀ k, Paired R (l.take k) (vs.take k)
  | _, _, _, 0 => by simpa using Paired.nil
  | _, _, .nil, k + 1 => by simpa using Paired.nil
  | _, _, .cons h t, k + 1 => by simpa using Paired.cons h (Paired.take t k)
theorem Paired.drop : ∀ {l : List α} {vs : List β}, Paired R l vs → ∀ k, Paired R (l.drop k) (vs.drop k)
  | _, _, p, 0 => by simpa using p
  | _, _, .nil, k + 1 => by simpa using Paired.nil
  | _, _, .cons h t, k + 1 => by simpa using Paired.drop t k
theorem Paired.app : ∀ {l l' : List α} {vs vs' : List β}, Paired R l vs → Paired R l' vs' → Paired R (l ++ l') (vs ++ vs')
  | _, _, _, _, .nil, q => q
  | _, _, _, _, .cons h t, q => .cons h (Paired.app t q)
theorem Paired.of_get : ∀ {l : List α} {vs : List β}, l.length = vs.length → (∀ (i : Nat) a b, l[i]? = some a → vs[i]? = some b → R a b) → Paired R l vs
  | [], [], _, _ => .nil
  | [], _ :: _, h, _ => by simp at h
  | _ :: _, [], h, _ => by simp at h
  | a :: l, b :: vs, h, g => .cons (g 0 a b rfl rfl) (Paired.of_get (by simpa using h) fun i a b ha hb => g (i + 1) a b (by simpa using ha) (by simpa using hb))
theorem Paired.imp {S : α → β → Prop} : ∀ {l : List α} {vs : List β}, Paired R l vs → (∀ a b, a ∈ l → R a b → S a b) → Paired S l vs
  | _, _, .nil, _ => .nil
  | _, _, .cons h t, g => .cons (g _ _ (.head _) h) (Paired.imp t fun a b m => g a b (.tail _ m))
theorem Paired.map {f : γ → α} : ∀ {l : List γ} {vs : List β}, Paired (fun c b => R (f c) b) l vs → Paired R (l.map f) vs
  | _, _, .nil => .nil
  | _, _, .cons h t => .cons h (Paired.map t)
end
theorem Paired.put {R : Nat → Value → Prop} {l : List Nat} {vs : List Value} {x : Nat} {v : Value} (p : Paired R l vs) (k : Nat) (h : R x v) : Paired R (putAt l k x) (vs.take k ++ v :: vs.drop k) :=
  Paired.app (Paired.take p k) (.cons h (Paired.drop p k))

/-- the values that stand for numbers, hosts, words -/
def IsNum (n : Nat) (v : Value) : Prop := ∃ t, v = .int (n : Nat) t
def IsTxt (H : Nat → Str) (n : Nat) (v : Value) : Prop := ∃ t, v = .str (H n) t
def IsWrd (W : Nat → Array UInt8) (n : Nat) (v : Value) : Prop := ∃ t, v = .bytes (W n) t

theorem splits_iff {l : List Nat} {k : Nat} {p : Nat → Bool} (h : splits l k p = true) : k ≤ l.length ∧ (∀ (i : Nat) x, l[i]? = some x → i < k → p x = true) ∧ (∀ (i : Nat) x, l[i]? = some x → k ≤ i → p x = false) := by
  simp only [splits, Bool.and_eq_true, decide_eq_true_eq, List.all_eq_true] at h
  obtain ⟨⟨h1, h2⟩, h3⟩ := h
  refine ⟨h1, fun i x e hi => h2 x ?_, fun i x e hi => ?_⟩
  · exact List.mem_of_getElem? (i := i) (by rw [List.getElem?_take, if_pos hi]; exact e)
  · have := h3 x (List.mem_of_getElem? (i := i - k) (by rw [List.getElem?_drop]; rw [show k + (i - k) = i by omega]; exact e))
    simpa using this

theorem okAll_of {bs : List Nat} {n : Nat} (hb : bs ∈ allBases) (hn : n ≤ min 13 (prodN bs)) : okAll bs n = true := by
  have h := List.all_eq_true.mp okAll_all bs hb
  exact List.all_eq_true.mp h n (List.mem_range.mpr (by omega))
structure LineLaw (bs : List Nat) (n : Nat) : Prop where
  put : ∀ j, j < n → placeN j bs ≤ (lineN bs j).length ∧ (∀ (i : Nat) x, (lineN bs j)[i]? = some x → i < placeN j bs → keyLt bs x j = true) ∧ (∀ (i : Nat) x, (lineN bs j)[i]? = some x → placeN j bs ≤ i → keyLt bs x j = false)
  len : (lineN bs n).length = n
  lt : ∀ (t : Nat) x, (lineN bs n)[t]? = some x → x < n
  row : ∀ (t : Nat) x, (lineN bs n)[t]? = some x → placeN x bs ≤ (rowN (lineN bs n) t).length ∧ (∀ (i : Nat) y, (rowN (lineN bs n) t)[i]? = some y → i < placeN x bs → y < x) ∧ (∀ (i : Nat) y, (rowN (lineN bs n) t)[i]? = some y → placeN x bs ≤ i → ¬ y < x)
  rowPut : ∀ (t : Nat) x, (lineN bs n)[t]? = some x → rowN (lineN bs n) (t + 1) = putAt (rowN (lineN bs n) t) (placeN x bs) x
  right : ∀ (t : Nat) x, (lineN bs n)[t]? = some x → placeN x bs + 1 ≤ (rowN (lineN bs n) (t + 1)).length ∧ (∀ (i : Nat) y, (rowN (lineN bs n) (t + 1))[i]? = some y → i < placeN x bs + 1 → ¬ x < y) ∧ (∀ (i : Nat) y, (rowN (lineN bs n) (t + 1))[i]? = some y → placeN x bs + 1 ≤ i → x < y)
  full : rowN (lineN bs n) n = List.range n
theorem lineLaw {bs : List Nat} {n : Nat} (hb : bs ∈ allBases) (hn : n ≤ min 13 (prodN bs)) : LineLaw bs n := by
  have h := okAll_of hb hn
  simp only [okAll, Bool.and_eq_true, beq_iff_eq] at h
  obtain ⟨⟨⟨h1, h2⟩, h3⟩, h4⟩ := h
  have hget : ∀ (t : Nat) x, (lineN bs n)[t]? = some x → t < n ∧ (lineN bs n).getD t 0 = x := fun t x e => by
    refine ⟨by rw [← h3]; exact (List.getElem?_eq_some_iff.mp e).1, ?_⟩
    rw [List.getD_eq_getElem?_getD, e]; rfl
  have hrow : ∀ (t : Nat) x, (lineN bs n)[t]? = some x → (x < n ∧ splits (rowN (lineN bs n) t) (below (rowN (lineN bs n) t) x) (fun y => decide (y < x)) = true ∧ splits (putAt (rowN (lineN bs n) t) (below (rowN (lineN bs n) t) x) x) (below (rowN (lineN bs n) t) x + 1) (fun y => !decide (x < y)) = true) ∧ below (rowN (lineN bs n) t) x = placeN x bs := fun t x e => by
    obtain ⟨ht, hx⟩ := hget t x e
    have := List.all_eq_true.mp h2 t (List.mem_range.mpr ht)
    simp only [Bool.and_eq_true, decide_eq_true_eq, beq_iff_eq, hx] at this
    exact ⟨⟨this.1.1.1, this.1.1.2, this.1.2⟩, this.2⟩
  have hput : ∀ (t : Nat) x, (lineN bs n)[t]? = some x → rowN (lineN bs n) (t + 1) = putAt (rowN (lineN bs n) t) (placeN x bs) x := fun t x e => by
    obtain ⟨_, q⟩ := hrow t x e
    obtain ⟨ht, hx⟩ := hget t x e
    show putAt _ _ _ = _
    rw [hx, q]
  refine ⟨fun j hj => splits_iff (List.all_eq_true.mp h1 j (List.mem_range.mpr hj)), h3, fun t x e => (hrow t x e).1.1, fun t x e => ?_, hput, fun t x e => ?_, h4⟩
  · obtain ⟨⟨_, q1, _⟩, q⟩ := hrow t x e
    rw [q] at q1
    obtain ⟨a, b, c⟩ := splits_iff q1
    exact ⟨a, fun i y e hi => by simpa using b i y e hi, fun i y e hi => by simpa using c i y e hi⟩
  · obtain ⟨⟨_, _, q1⟩, q⟩ := hrow t x e
    rw [q] at q1
    rw [hput t x e]
    obtain ⟨a, b, c⟩ := splits_iff q1
    exact ⟨a, fun i y e hi => by simpa using b i y e hi, fun i y e hi => by simpa using c i y e hi⟩
end Mine
namespace Mine
theorem putAt_len (l : List Nat) (k x : Nat) : (putAt l k x).length = l.length + 1 := by
  unfold putAt
  rw [List.length_append, List.length_cons, List.length_take, List.length_drop]; omega
theorem rowN_len (l : List Nat) : ∀ t, (rowN l t).length = t
  | 0 => rfl
  | t + 1 => by rw [rowN, putAt_len, rowN_len l t]
theorem putAt_mem {l : List Nat} {k x y : Nat} (h : y ∈ putAt l k x) : y = x ∨ y ∈ l := by
  rcases List.mem_append.mp h with h | h
  · exact .inr (List.mem_of_mem_take h)
  · rcases List.mem_cons.mp h with h | h
    · exact .inl h
    · exact .inr (List.mem_of_mem_drop h)
theorem lineN_lt' {bs : List Nat} : ∀ {n : Nat}, ∀ q ∈ lineN bs n, q < n
  | 0, q, h => by cases h
  | n + 1, q, h => by
    rcases putAt_mem h with rfl | h
    · exact Nat.lt_succ_self _
    · exact Nat.lt_succ_of_lt (lineN_lt' q h)
theorem rowN_mem {l : List Nat} : ∀ {t : Nat}, t ≤ l.length → ∀ y ∈ rowN l t, y ∈ l
  | 0, _, y, h => by cases h
  | t + 1, ht, y, h => by
    rcases putAt_mem h with rfl | h
    · have : t < l.length := ht
      rw [List.getD_eq_getElem?_getD, List.getElem?_eq_getElem this]
      exact List.getElem_mem this
    · exact rowN_mem (Nat.le_of_succ_le ht) y h
theorem rowN_lt {bs : List Nat} {n t q : Nat} (hq : (lineN bs n)[t]? = some q) : ∀ y ∈ rowN (lineN bs n) t, y < n := fun y hy =>
  lineN_lt' y (rowN_mem (Nat.le_of_lt (List.getElem?_eq_some_iff.mp hq).1) y hy)
end Mine
end

section
open PySem PySem.W PyProof.Rows PySem.Calls PySem.Spec PySem.SeqAt
set_option maxRecDepth 100000
set_option maxHeartbeats 8000000
namespace Mine
inductive FlatD : PyData → Value → Prop
  | int (k : Int) (t : Tok) : FlatD (.int k) (.int k t)
  | str (x : Str) (t : Tok) (h : PyData.strOk x = true) : FlatD (.str x) (.str x t)
  | none : FlatD .none .none
theorem FlatD.reads {h : Heap} {d : PyData} {v : Value} (x : FlatD d v) : Reads h v d [] := by cases x <;> constructor
theorem flat_reads {h : Heap} : ∀ {ds : List PyData} {vs : List Value}, Paired FlatD ds vs → ReadsAll h vs ds []
  | _, _, .nil => .nil
  | _, _, .cons x t => by
    have := ReadsAll.cons (FlatD.reads (h := h) x) (flat_reads (h := h) t)
    simpa using this
theorem flat_lay : ∀ {ds : List PyData} {vs : List Value}, Paired FlatD ds vs → PyData.canLayAll0 ds = true
  | _, _, .nil => by simp [PyData.canLayAll0]
  | _, _, .cons x t => by cases x <;> simp_all [PyData.canLayAll0, PyData.canLay0, flat_lay t]
theorem flat_depth : ∀ {ds : List PyData} {vs : List Value}, Paired FlatD ds vs → PyData.depthAll ds ≤ 1
  | _, _, .nil => by simp [PyData.depthAll]
  | _, _, .cons x t => by
    have := flat_depth t
    cases x <;> simp only [PyData.depthAll, PyData.depth] <;> omega
theorem flat_mix : ∀ {ds : List PyData} {vs : List Value}, Paired FlatD ds vs → noMixAll ds ds = true
  | _, _, .nil => by simp [noMixAll]
  | _, _, .cons x t => by cases x <;> simp [noMixAll, noMix, flat_mix t]
theorem flat_shaped {ds : List PyData} {vs : List Value} (p : Paired FlatD ds vs) : shaped (.list ds) = true := by
  have h1 := flat_depth p
  have h2 : PyData.depth (.list ds) ≤ 64 := by simp only [PyData.depth]; omega
  show (PyData.canLay0 (.list ds) && decide (PyData.depth (.list ds) ≤ 64)) = true
  rw [Bool.and_eq_true]
  exact ⟨by simp only [PyData.canLay0]; exact flat_lay p, decide_eq_true h2⟩
theorem flat_list {h : Heap} {a : Addr} {ds : List PyData} {vs : List Value} (hl : h.IsList a vs.toArray) (p : Paired FlatD ds vs) : Reads h (.ref a) (.list ds) [a] := by
  obtain ⟨o, ho, hc, n, hd⟩ := hl
  exact Reads.list ho hc hd (by simpa using flat_reads p)
section
variable {prog : Program} {w : World} {A : Around} {E : Value → Shared → Prop} {s : Shared}
theorem eq_flat {a b : Addr} {vs us : List Value} {ds : List PyData} {Q : Value → Shared → Prop} (hl : s.heap.IsList a vs.toArray) (hi : Paired FlatD ds vs) (hl' : s.heap.IsList b us.toArray) (hi' : Paired FlatD ds us) (hu : A.units < 9800)
    (h : Q (.bool true) s) : wpAny (model prog w) A (compareOp .Eq (.ref a) (.ref b)) Q E s :=
  eq_dataH_same (flat_list hl hi) (flat_list hl' hi') (flat_shaped hi) (flat_shaped hi) (by show A.units + 64 < 9900; omega) (by simp only [noMix]; exact flat_mix hi) (by rw [Spec.same_self]; exact h)
theorem ne_flat {a b : Addr} {vs us : List Value} {ds : List PyData} {Q : Value → Shared → Prop} (hl : s.heap.IsList a vs.toArray) (hi : Paired FlatD ds vs) (hl' : s.heap.IsList b us.toArray) (hi' : Paired FlatD ds us) (hu : A.units < 9800)
    (h : Q (.bool false) s) : wpAny (model prog w) A (compareOp .NotEq (.ref a) (.ref b)) Q E s :=
  ne_dataH_same (flat_list hl hi) (flat_list hl' hi') (flat_shaped hi) (flat_shaped hi) (by show A.units + 64 < 9900; omega) (by simp only [noMix]; exact flat_mix hi) (by rw [Spec.same_self]; exact h)

/-- names in a comprehension's block -/
theorem nameC_local {scope : Scope} {cl : List (Str × Addr)} {C : Addr} {env : Env} {h₀ : Heap} {m : Str → Option Value} {x : Str} {pos : Pos} {v : Value} {Q : Value → Shared → Prop} (F : Fr h₀ C s.heap m) (hv : m x = some v) (h : Q v s)
    (hk : scope.kind = .function := by rfl) (hx : (compEnvC scope cl C env).kindOf x = some .local := by rfl) (hd : (x == ("__debug__" : Str)) = false := by decide) :
    wpAny (model prog w) A (eval (.Name x pos) (compEnvC scope cl C env)) Q E s := wpAny_Name (wpAny_loadName_local (env := compEnvC scope cl C env) hk hx F.ns hv h) hd
theorem nameC_cell {scope : Scope} {cl : List (Str × Addr)} {C c : Addr} {env : Env} {x : Str} {pos : Pos} {v : Value} {Q : Value → Shared → Prop} (hc : cl.lookup x = some c) (hv : s.heap.IsCell c (some v)) (h : Q v s)
    (hk : scope.kind = .function := by rfl) (hx : (compEnvC scope cl C env).kindOf x = some .cell := by rfl) (hd : (x == ("__debug__" : Str)) = false := by decide) :
    wpAny (model prog w) A (eval (.Name x pos) (compEnvC scope cl C env)) Q E s := wpAny_Name (wpAny_loadName_cell (env := compEnvC scope cl C env) hk hx hc hv h) hd
end
end Mine
end

section
open PySem PySem.W PyProof.Rows PySem.Calls
set_option maxRecDepth 100000
set_option maxHeartbeats 8000000
namespace Mine
section
variable {prog : Program} {w : World} {A : Around} {s : Shared} {env : Env}
/-- one statement that goes on, told by what holds after it -/
theorem execsK {st : Stmt} {rest : List Stmt} {Q : Flow → Shared → Prop} (Qn : Shared → Prop)
    (h1 : wpAny (model prog w) A (exec st env) (fun f s' => f = .next ∧ Qn s') (fun _ _ => False) s) (h2 : ∀ s', Qn s' → wpS (model prog w) A (execs rest env) Q s') :
    wpS (model prog w) A (execs (st :: rest) env) Q s :=
  execsA (wpAny_mono h1 (fun f s' ⟨e, q⟩ => by subst e; exact h2 s' q) fun _ _ x => x)
theorem execsKS {st : Stmt} {rest : List Stmt} {Q : Flow → Shared → Prop} (Qn : Shared → Prop)
    (h1 : wpS (model prog w) A (exec st env) (fun f s' => f = .next ∧ Qn s') s) (h2 : ∀ s', Qn s' → wpS (model prog w) A (execs rest env) Q s') :
    wpS (model prog w) A (execs (st :: rest) env) Q s :=
  execsS (wpS_mono h1 (fun f s' ⟨e, q⟩ => by subst e; exact h2 s' q))
end
/-- where a body stands: the frame and the ledger over the heap at the call -/
def At (s : Shared) (L : Addr) (R : (Str → Option Value) → List (Addr × Obj) → Prop) (s' : Shared) : Prop :=
  ∃ h tk m news, s' = { s with heap := h, toks := tk } ∧ Fr s.heap L h m ∧ News s.heap L h news ∧ R m news
theorem At.mk {s : Shared} {L : Addr} {R : (Str → Option Value) → List (Addr × Obj) → Prop} {h : Heap} {tk : Nat} {m : Str → Option Value} {all : List (Addr × Obj)} (news : List (Addr × Obj))
    (F : Fr s.heap L h m) (N : News s.heap L h all) (sub : ∀ p ∈ news, p ∈ all) (r : R m news) : At s L R { s with heap := h, toks := tk } :=
  ⟨h, tk, m, news, rfl, F, fun p hp => N p (sub p hp), r⟩
end Mine
namespace Mine
def Goes (Qn : Shared → Prop) (f : Flow) (s' : Shared) : Prop := f = .next ∧ Qn s'
section
variable {prog : Program} {w : World} {A : Around} {s : Shared} {env : Env}
theorem execsG {st : Stmt} {rest : List Stmt} {Q : Flow → Shared → Prop} (Qn : Shared → Prop)
    (h1 : wpAny (model prog w) A (exec st env) (Goes Qn) (fun _ _ => False) s) (h2 : ∀ s', Qn s' → wpS (model prog w) A (execs rest env) Q s') :
    wpS (model prog w) A (execs (st :: rest) env) Q s := execsK Qn h1 h2
theorem execsGS {st : Stmt} {rest : List Stmt} {Q : Flow → Shared → Prop} (Qn : Shared → Prop)
    (h1 : wpS (model prog w) A (exec st env) (Goes Qn) s) (h2 : ∀ s', Qn s' → wpS (model prog w) A (execs rest env) Q s') :
    wpS (model prog w) A (execs (st :: rest) env) Q s := execsKS Qn h1 h2
end
/-- what bisect asks of a line of hosts -/
theorem ltIs_txt {w : World} {lv : List Value} {ln : List Nat} {H : Nat → Str} {x : Value} {j n : Nat} {bs : List Nat} (h : Paired (IsTxt H) ln lv) (hx : IsTxt H j x) (hj : j < n) (hb : ∀ q ∈ ln, q < n)
    (hlt : ∀ i j, i < n → j < n → decide ((H i).cps.toList < (H j).cps.toList) = keyLt bs i j) : LtIs w lv x (fun i => match ln[i]? with | some q => keyLt bs q j | none => false) := by
  intro i v hv A Q E s hQ
  obtain ⟨q, hq, t, rfl⟩ := Paired.back h hv
  obtain ⟨u, rfl⟩ := hx
  refine P.lt_str ?_
  dsimp only at hQ
  rw [hq] at hQ
  dsimp only at hQ
  rw [hlt q j (hb q (List.mem_of_getElem? hq)) hj]
  exact hQ
theorem ltIs_wrd {w : World} {lv : List Value} {ln : List Nat} {W : Nat → Array UInt8} {x : Value} {j n : Nat} (h : Paired (IsWrd W) ln lv) (hx : IsWrd W j x) (hj : j < n) (hb : ∀ q ∈ ln, q < n)
    (hrev : ∀ i j, i < n → j < n → bLt (W i) (W j) = decide (i < j)) : LtIs w lv x (fun i => match ln[i]? with | some q => decide (q < j) | none => false) := by
  intro i v hv A Q E s hQ
  obtain ⟨q, hq, t, rfl⟩ := Paired.back h hv
  obtain ⟨u, rfl⟩ := hx
  refine lt_bytes ?_
  dsimp only at hQ
  rw [hq] at hQ
  dsimp only at hQ
  rw [hrev q j (hb q (List.mem_of_getElem? hq)) hj]
  exact hQ
theorem gtIs_wrd {w : World} {lv : List Value} {ln : List Nat} {W : Nat → Array UInt8} {x : Value} {j n : Nat} (h : Paired (IsWrd W) ln lv) (hx : IsWrd W j x) (hj : j < n) (hb : ∀ q ∈ ln, q < n)
    (hrev : ∀ i j, i < n → j < n → bLt (W i) (W j) = decide (i < j)) : GtIs w lv x (fun i => match ln[i]? with | some q => decide (j < q) | none => true) := by
  intro i v hv A Q E s hQ
  obtain ⟨q, hq, t, rfl⟩ := Paired.back h hv
  obtain ⟨u, rfl⟩ := hx
  refine lt_bytes ?_
  dsimp only at hQ
  rw [hq] at hQ
  dsimp only at hQ
  rw [hrev j q hj (hb q (List.mem_of_getElem? hq))]
  exact hQ
theorem lineN_lt {bs : List Nat} : ∀ {n : Nat}, ∀ q ∈ lineN bs n, q < n
  | 0, q, h => by cases h
  | n + 1, q, h => by
    rcases List.mem_append.mp h with h | h
    · exact Nat.lt_succ_of_lt (lineN_lt q (List.mem_of_mem_take h))
    · rcases List.mem_cons.mp h with rfl | h
      · exact Nat.lt_succ_self _
      · exact Nat.lt_succ_of_lt (lineN_lt q (List.mem_of_mem_drop h))
theorem lineN_len {bs : List Nat} : ∀ n, (lineN bs n).length = n
  | 0 => rfl
  | n + 1 => by
    show ((lineN bs n).take _ ++ n :: (lineN bs n).drop _).length = _
    rw [List.length_append, List.length_cons, List.length_take, List.length_drop, lineN_len n]; omega
end Mine
namespace Mine
theorem subC {p : Addr × Obj} {l all : List (Addr × Obj)} (h : p ∈ all) (t : ∀ q ∈ l, q ∈ all) : ∀ q ∈ p :: l, q ∈ all := fun q hq => by
  rcases List.mem_cons.mp hq with rfl | hq
  · exact h
  · exact t q hq
theorem subN {all : List (Addr × Obj)} : ∀ q ∈ ([] : List (Addr × Obj)), q ∈ all := fun q hq => nomatch hq
end Mine
namespace Mine
theorem updTail {d : Addr} {o o' : Obj} {p : Addr × Obj} {r r' : List (Addr × Obj)} (h : p.1 ≠ d) (u : Upd d o o' r r') : Upd d o o' (p :: r) (p :: r') := .tail h u
end Mine
namespace Mine
section
variable {prog : Program} {w : World} {A : Around} {E : Value → Shared → Prop} {s : Shared} {env : Env}
/-- a name that stands for a value, as things are -/
def NameIs (prog : Program) (w : World) (A : Around) (env : Env) (s : Shared) (x : Str) (v : Value) : Prop :=
  ∀ (pos : Pos) (E Q : Value → Shared → Prop), Q v s → wpAny (model prog w) A (eval (.Name x pos) env) Q E s
theorem eltCall2 {f x y : Str} {pf px py pos : Pos} {a : Addr} {fo : Obj} {fd : FuncData} {vx vy : Value} {Q : Value → Shared → Prop}
    (hf : NameIs prog w A env s f (.ref a)) (hx : NameIs prog w A env s x vx) (hy : NameIs prog w A env s y vy) (ho : s.heap.get? a = some fo) (hd : fo.data = .func fd)
    (h : wpAny (model prog w) A (call (.ref a) [vx, vy] []) Q E s) : wpAny (model prog w) A (eval (.Call (.Name f pf) [.Name x px, .Name y py] [] pos) env) Q E s := by
  rw [arm_eval_Call_Name']
  refine wpAny_bind (hf _ _ _ ?_)
  show wpAny _ A (callWith pos (.ref a) [] (backTo pos (starEach [.Name x px, .Name y py] env)) []) Q E s
  refine callWith_def hd (PyProof.Rows.spliced_more (hx _ _ _ (PyProof.Rows.spliced_more (hy _ _ _ (PyProof.Rows.spliced_none ⟨ho, h⟩)))))
theorem eltCall1 {f x : Str} {pf px pos : Pos} {id : String} {vx : Value} {Q : Value → Shared → Prop}
    (hf : NameIs prog w A env s f (.builtin id)) (hx : NameIs prog w A env s x vx)
    (h : wpAny (model prog w) A (call (.builtin id) [vx] []) Q E s) : wpAny (model prog w) A (eval (.Call (.Name f pf) [.Name x px] [] pos) env) Q E s := by
  rw [arm_eval_Call_Name']
  refine wpAny_bind (hf _ _ _ ?_)
  show wpAny _ A (callWith pos (.builtin id) [] (backTo pos (starEach [.Name x px] env)) []) Q E s
  exact Calls.callWith_builtin rfl (Calls.evalArgs_plain (Calls.spliced_cons (hx _ _ _ (Calls.spliced_nil h))))
theorem eltItem {x y : Str} {px py pos : Pos} {l : Addr} {vs : List Value} {k : Int} {u : Tok} {Q : Value → Shared → Prop}
    (hx : NameIs prog w A env s x (.ref l)) (hy : NameIs prog w A env s y (.int k u))
    (hl : s.heap.IsList l vs.toArray) (h0 : 0 ≤ k) (hlt : k < vs.length) (hfit : vs.length < 2 ^ 62) (h : ∀ v, vs[k.toNat]? = some v → Q v s) :
    wpAny (model prog w) A (eval (.Subscript (.Name x px) (.Name y py) pos) env) Q E s := by
  refine Subscript_ (hx _ _ _ (hy _ _ _ ?_))
  exact item_list hl h0 hlt hfit h
end
end Mine
namespace Mine
theorem placeOf_eq : ∀ (bs : List Nat) (n : Nat), placeOf n bs = placeN n bs
  | [], _ => rfl
  | b :: r, n => by simp only [placeOf, placeN, placeOf_eq r]
theorem bases_ok {bs : List Nat} (h : bs ∈ allBases) : (∀ b ∈ bs, 2 ≤ b ∧ b ≤ 4) ∧ bs.length ≤ 3 := by
  have : ∀ bs ∈ allBases, (∀ b ∈ bs, 2 ≤ b ∧ b ≤ 4) ∧ bs.length ≤ 3 := by decide +kernel
  exact this bs h
theorem flat_nums {l : List Nat} {vs : List Value} {f : Nat → Nat} (p : Paired (fun j v => IsNum (f j) v) l vs) : Paired FlatD (l.map fun j => PyData.int (f j : Nat)) vs :=
  Paired.map (Paired.imp p fun a b _ ⟨t, e⟩ => by subst e; exact .int _ _)
theorem flat_txts {l : List Nat} {vs : List Value} {H : Nat → Str} (h : ∀ j ∈ l, ∀ c ∈ (H j).cps.toList, c < 128) (p : Paired (IsTxt H) l vs) : Paired FlatD (l.map fun j => PyData.str (H j)) vs :=
  Paired.map (Paired.imp p fun a b m ⟨t, e⟩ => by
    subst e
    refine .str _ _ ?_
    unfold PyData.strOk
    rw [← Array.all_toList, List.all_eq_true]
    intro c hc
    have := h a m c hc
    simp; omega)
theorem isNum_get {vs ys : List Value} {f : Nat → Nat} {n : Nat} {F : Value → Value → Prop} (hv : vs.length = n) (hP : ∀ j v, vs[j]? = some v → ∃ t : Tok, v = Value.int (0 + (j : Nat)) t) (hF : Paired F vs ys)
    (h : ∀ (j : Nat) (t : Tok) y, F (.int (0 + (j : Nat)) t) y → IsNum (f j) y) : Paired (fun j v => IsNum (f j) v) (List.range n) ys :=
  Paired.of_get (by rw [List.length_range, ← hF.length, hv]) fun i a b ha hb => by
    obtain ⟨v, hvv, hr⟩ := Paired.back hF hb
    obtain ⟨t, rfl⟩ := hP i v hvv
    have hi : i < n := by rw [← hv]; exact (List.getElem?_eq_some_iff.mp hvv).1
    rw [List.getElem?_range hi] at ha
    cases ha
    exact h i t b hr
end Mine
namespace Mine
theorem nameG_B {M : Model} {A : Around} {E : Value → Shared → Prop} {s : Shared} {h₀ : Heap} {L : Addr} {m : Str → Option Value} {env : Env} {K : Frag} {mg mb : Str → Option Value} {p : Program} {loose : List Str} {x : Str} {pos : Pos} {v : Value} {Q : Value → Shared → Prop} (F : Fr h₀ L s.heap m) (X : K.In h₀) (T : TopRead p loose mg mb h₀)
    (e : nsIn K mainGlobals x = some none) (hv : bootBuiltins x = some v) (hn : x ≠ "__name__") (h : Q v s) (hg : env.globals = mainGlobals) (hb : env.builtins = builtinsNs) (hk : env.scope.kind = .function) (hx : env.kindOf x = some .globalImplicit) (hd : (x == ("__debug__" : Str)) = false) :
    wpAny M A (eval (.Name x pos) env) Q E s :=
  Name_function_global hk hx (loadGlobal_builtin (env := env) (by rw [hg]; exact T.g.keeps F.keep) (mg_none_of X T.g e) (by rw [hb]; exact T.b.keeps F.keep) ((T.builtins x hn).trans hv) h) hd
end Mine
namespace Mine
def IsFn (h : Heap) (a : Addr) : Prop := ∃ fo fd, h.get? a = some fo ∧ fo.data = Data.func fd
section
variable {prog : Program} {w : World} {A : Around} {s : Shared} {env : Env}
theorem callWithS_fn' {pos : Pos} {a : Addr} {args : List (Bool × Sem Value)} {Q : Value → Shared → Prop} (hplain : args.any (·.1) = false)
    (h : wpAny (model prog w) A (evalArgs (.ref a) true args []) (fun x s₁ => IsFn s₁.heap a ∧ wpS (model prog w) A (call (.ref a) x.pos x.kw) Q s₁) (fun _ _ => False) s) :
    wpS (model prog w) A (callWith pos (.ref a) [] args []) Q s := by
  unfold callWith
  refine wpS_bindA (wpAny_holding (wpAny_mono h (fun x s₁ h₁ => wpS_bindA (wpAny_standAt ?_)) fun _ _ x => x))
  simp only [hplain, List.any_nil, Bool.or_false, List.nil_append]
  obtain ⟨⟨fo, fd, h2, h3⟩, h₁⟩ := h₁
  refine wpS_bindA (m := keeperOf (.ref a)) ?_
  unfold keeperOf
  refine wpAny_bind (wpAny_load h2 ?_)
  rw [h3]
  refine wpAny_pure ?_
  dsimp only
  split
  · exact wpS_after h₁
  · exact wpS_after (wpS_keep h₁)
theorem callS_fn' {pos p : Pos} {f : Str} {a : Addr} {e : Expr} {rest : List Expr} {Q : Value → Shared → Prop}
    (h : wpAny (model prog w) A (eval (.Name f p) env) (fun fv s₁ => fv = .ref a ∧ wpAny (model prog w) A (spliced (backTo pos (starEach (e :: rest) env))) (fun vs s₂ => IsFn s₂.heap a ∧ wpS (model prog w) A (call (.ref a) vs []) Q s₂) (fun _ _ => False) s₁) (fun _ _ => False) s)
    (he : starEach (e :: rest) env = (false, eval e env) :: starEach rest env := by rfl)
    (hplain : (backTo pos (starEach rest env)).any (·.1) = false := by rfl) :
    wpS (model prog w) A (eval (.Call (.Name f p) (e :: rest) [] pos) env) Q s := by
  rw [arm_eval_Call_Name']
  refine wpS_bindA (wpAny_mono h (fun fv s₁ h₁ => ?_) fun _ _ x => x)
  obtain ⟨rfl, h₁⟩ := h₁
  show wpS _ A (callWith pos (.ref a) [] (backTo pos (starEach (e :: rest) env)) []) Q s₁
  rw [he] at h₁ ⊢
  exact callWithS_fn' (by show (false || (backTo pos (starEach rest env)).any (·.1)) = false; rw [hplain]; rfl) (evalArgs_plain h₁)
end
end Mine
namespace Mine
theorem useS {w : World} {A : Around} {s : Shared} {t : Sem Value} {R : Value → Heap → Prop} {Q : Value → Shared → Prop} (c : wpS (model Pg w) A t (Ends s R) s)
    (h : ∀ v h' tk, R v h' → KeepsH s.heap h' → Q v { s with heap := h', toks := tk }) : wpS (model Pg w) A t Q s :=
  wpS_mono c (fun v s' ⟨hR, h', tk, e, k⟩ => by subst e; exact h v h' tk hR k)
end Mine
namespace Mine
theorem frBut {h₀ h h' : Heap} {L l : Addr} {m : Str → Option Value} (F : Fr h₀ L h m) (hl : h₀.get? l = none) (hL : L ≠ l) (k : ∀ b o, b ≠ l → h.get? b = some o → h'.get? b = some o) : Fr h₀ L h' m :=
  ⟨F.ns.at' fun o e => k L o hL e, fun b o e => k b o (fun q => by rw [q, hl] at e; cases e) (F.keep b o e), F.above⟩
theorem newsBut {h₀ h h' : Heap} {L l : Addr} {o' : Obj} {news rest : List (Addr × Obj)} (N : News h₀ L h news) (k : ∀ b o, b ≠ l → h.get? b = some o → h'.get? b = some o)
    (hl : h₀.get? l = none) (hL : l ≠ L) (ho : h'.get? l = some o') (sub : ∀ p ∈ rest, p ∈ news) (off : ∀ p ∈ rest, p.1 ≠ l) : News h₀ L h' ((l, o') :: rest) := fun p hp => by
  rcases List.mem_cons.mp hp with rfl | hp
  · exact ⟨ho, hL, hl⟩
  · exact ⟨k _ _ (off p hp) (N p (sub p hp)).1, (N p (sub p hp)).2⟩
/-- the ledger in another order -/
theorem newsSub {h₀ h : Heap} {L : Addr} {news l : List (Addr × Obj)} (N : News h₀ L h news) (sub : ∀ p ∈ l, p ∈ news) : News h₀ L h l := fun p hp => N p (sub p hp)
def OffL (D : Addr) : List (Addr × Obj) → List (Addr × Obj) → Prop
  | [], own => ∀ p ∈ own, p.1 ≠ D
  | p :: r, own => p.1 ≠ D ∧ OffL D r own
theorem OffL.out {D : Addr} {own : List (Addr × Obj)} : ∀ {l : List (Addr × Obj)}, OffL D l own → ∀ p ∈ l ++ own, p.1 ≠ D
  | [], h, p, hp => h p hp
  | _ :: _, h, p, hp => by
    rcases List.mem_cons.mp hp with rfl | hp
    · exact h.1
    · exact OffL.out h.2 p hp
theorem offOwn {own : List (Addr × Obj)} {mu : List Addr} {D : Addr} (h : ∀ p ∈ own, p.1 ∉ mu) (hD : D ∈ mu) : ∀ p ∈ own, p.1 ≠ D := fun p hp e => h p hp (e ▸ hD)
theorem splits_getB {l : List Nat} {i : Nat} {p : Nat → Bool} {b : Bool} (hi : i < l.length) (h : ∀ x, l[i]? = some x → p x = b) (d : Bool) : (match l[i]? with | some q => p q | none => d) = b := by
  rw [List.getElem?_eq_getElem hi]; exact h _ (List.getElem?_eq_getElem hi)
end Mine
namespace Mine
theorem minVal {a b : Int} {t u : Tok} : ∃ x, (if b < a then Value.int b u else Value.int a t) = Value.int (min a b) x := by
  by_cases h : b < a
  · exact ⟨u, by rw [if_pos h, Int.min_eq_right (by omega)]⟩
  · exact ⟨t, by rw [if_neg h, Int.min_eq_left (by omega)]⟩
end Mine
namespace Mine
theorem newsHead {h₀ h : Heap} {L D : Addr} {o : Obj} {rest : List (Addr × Obj)} (N : News h₀ L h ((D, o) :: rest)) : ∃ D', D' = D := ⟨D, rfl⟩
end Mine
end

section
open PySem PySem.W PyProof.Rows PySem.Calls
set_option maxRecDepth 100000
set_option maxHeartbeats 8000000
namespace Mine
theorem intsAre_get : ∀ {vs : List Value} {ns : List Int}, vs.length = ns.length → (∀ (i : Nat) v k, vs[i]? = some v → ns[i]? = some k → ∃ t : Tok, v = Value.int k t) → IntsAre vs ns
  | [], [], _, _ => .nil
  | [], _ :: _, h, _ => by simp at h
  | _ :: _, [], h, _ => by simp at h
  | v :: vs, k :: ns, h, g => by
    obtain ⟨t, rfl⟩ := g 0 v k rfl rfl
    exact .cons k t (intsAre_get (by simpa using h) fun i v k hv hk => g (i + 1) v k (by simpa using hv) (by simpa using hk))
section
variable {w : World} {A : Around} {E : Value → Shared → Prop} {s : Shared} {env : Env}
theorem boot_ord : bootBuiltins "ord" = some (.builtin "ord") := by boot_by_name
theorem ordStr {z : Str} {t : Tok} {scope : Scope} {cl : List (Str × Addr)} {pf px pos : Pos} {Q : Value → Shared → Prop} {mean mg mb} (hh : A.handled = none) (hn : z.cps.size < 1000)
    (KX : (hd.heap_39 w.params).In s.heap) (T : Tp mean mg mb s.heap) (hk : scope.kind = .function) (hg : env.globals = mainGlobals) (hb : env.builtins = builtinsNs)
    (h1 : ∀ C, (compEnvC scope cl C env).kindOf "sign" = some .local) (h2 : ∀ C, (compEnvC scope cl C env).kindOf "ord" = some .globalImplicit)
    (fin : ∀ D h' tk ys k, IntsAre ys (z.cps.toList.map Int.ofNat) → h'.get? D = some (listOf ys.toArray k) → s.heap.get? D = none → KeepsH s.heap h' → Q (.ref D) { s with heap := h', toks := tk }) :
    wpAny (model Pg w) A (pyIter (.str z t)) (CompAt Pg w A env scope cl "sign" (.Call (.Name "ord" pf) [.Name "sign" px] [] pos) Q) E s := by
  have hn0 : nsIn (hd.heap_39 w.params) mainGlobals "ord" = some none := by rfl
  refine compStr (fun v y => ∀ c u, v = .str ⟨#[c]⟩ u → IsNum c y) hh hn ?_ fun D h' tk vs ys k hl hP hF hD hDn k' => fin D h' tk ys k (intsAre_get ?_ ?_) hD hDn k'
  · rintro C i v s₃ m₃ E' ⟨c, u, hc, rfl⟩ Fc hm
    refine eltCall1 (id := "ord") (fun _ _ _ q => nameG_B Fc KX (topRead_of T) hn0 boot_ord (by decide) q hg hb hk (h2 C) (by decide)) (fun _ _ _ q => nameC_local Fc hm q hk (h1 C)) ?_
    exact P.ord_of_char ⟨fun c' u' e => by cases e; exact ⟨_, rfl⟩, _, _, rfl, fun _ _ e => e⟩
  · rw [← hF.length, hl, List.length_map, Array.length_toList]
  · intro i v k' hv hk'
    obtain ⟨a, ha, hr⟩ := Paired.back hF hv
    obtain ⟨c, u, hc, rfl⟩ := hP i a ha
    rw [List.getElem?_map, Array.getElem?_toList, hc] at hk'
    cases hk'
    exact hr c u rfl
end
/-- the octets of a text -/
theorem sized {z : Str} : True := trivial
def octs (z : Str) : Array UInt8 := z.cps.map Nat.toUInt8
theorem byteArr_octs (z : Str) : byteArr (z.cps.toList.map Int.ofNat) = octs z := by
  unfold byteArr octs
  apply Array.ext'
  simp only [Array.toList_map, List.map_map]
  rfl
theorem slice_rev (x : Str) (u : Tok) : Txt.sliceBy x none none (-1, u) = ⟨x.cps.reverse⟩ := by
  have h := step_rev_list x u
  have e : (Txt.sliceBy x none none (-1, u)).cps = x.cps.reverse := by
    apply Array.ext'
    rw [h, Array.toList_reverse]
    apply List.ext_getElem?
    intro i
    have hl : x.length = x.cps.toList.length := by rw [Array.length_toList]; rfl
    by_cases hi : i < x.cps.toList.length
    · rw [List.getElem?_map, List.getElem?_range (by omega), List.getElem?_reverse hi, hl, Array.getElem?_toList]
      have h2 : x.cps.toList.length - 1 - i < x.cps.size := by rw [Array.length_toList] at *; omega
      simp [Array.getD, h2]
      rw [Array.length_toList] at h2
      simp [h2]
    · rw [List.getElem?_eq_none (by simp; rw [hl]; omega), List.getElem?_eq_none (by rw [List.length_reverse]; omega)]
  cases hx : Txt.sliceBy x none none (-1, u) with
  | mk c => rw [hx] at e; exact congrArg Str.mk e
theorem octs_rev (x : Str) : octs ⟨x.cps.reverse⟩ = (octs x).reverse := by
  unfold octs
  exact Array.map_reverse ..
end Mine
end

section
open PySem PySem.W PyProof.Rows PySem.Calls
set_option maxRecDepth 100000
set_option maxHeartbeats 8000000
namespace Mine
local macro_rules | `(tactic| walk_at "call ref") => `(tactic| refine hold ?_)
local macro_rules | `(tactic| walk_at "call builtin:list.insert") => `(tactic| refine hold ?_)
local macro_rules | `(tactic| walk_at "call builtin:list.append") => `(tactic| refine hold ?_)
local macro_rules | `(tactic| walk_at "eval Name") => `(tactic| (k_inBlock; first
  | (refine' nameC_local ?F ?v ?_ ?a ?b; (case a => rfl); (case b => rfl); (case F => assumption); (case v => assumption))
  | (refine' nameC_cell ?c ?v ?_ ?a ?b; (case a => rfl); (case b => rfl); (case c => rfl); (case v => assumption))))
local macro_rules | `(tactic| walk_at "call builtin:len") => `(tactic| (k_here; (with_reducible show wpAny _ _ (call (Value.builtin "len") [Value.ref _]) _ _ _); (with_unfolding_all refine' Calls.call_len_list ?k1 ?k2 ?_; (case k1 => is_list); (case k2 => ((try simp only [List.size_toArray]); omega)); k_whole)))
local macro_rules | `(tactic| walk_at "eval ListComp") => `(tactic| refine hold ?_)
local macro_rules | `(tactic| walk_at "pyIter str") => `(tactic| refine hold ?_)
local macro_rules | `(tactic| walk_at "call type:bytes") => `(tactic| refine hold ?_)
local macro_rules | `(tactic| walk_at "compareOp NotEq bytes bytes") => `(tactic| refine hold ?_)
local macro_rules | `(tactic| walk_at "exec Assign cons ListComp") => `(tactic| refine hold ?_)
local macro_rules | `(tactic| walk_at "compareOp NotEq ref ref") => `(tactic| refine hold ?_)
local macro_rules | `(tactic| walk_at "compareOp Eq ref ref") => `(tactic| refine hold ?_)
local macro_rules | `(tactic| walk_at "pyIter ref") => `(tactic| refine hold ?_)
local macro_rules | `(tactic| walk_at "exec For Name Name cons nil") => `(tactic| (k_here; (with_unfolding_all refine' For_invVF (by assumption) ?k1 ?k2 ?_; (case k1 => exact rfl); (case k2 => exact rfl)); k_whole))

theorem told_spec {w : World} {A : Around} {s : Shared} {mean mg mb} {lh lb : Addr} {hv bv : List Value} {bs : List Nat} {n : Nat} {H : Nat → Str} {W : Nat → Array UInt8}
    (KX : (hd.heap_39 w.params).In s.heap) (T : Tp mean mg mb s.heap) (hA : A.handled = none) (hroom : A.depth < 500) (hunits : A.units < 8000)
    (hlh : s.heap.IsList lh hv.toArray) (hlb : s.heap.IsList lb bv.toArray) (hbv : IntsAre bv (bs.map Int.ofNat)) (hbs : bs ∈ allBases) (hn : n ≤ min 13 (prodN bs))
    (hhv : Paired (IsTxt H) (List.range n) hv)
    (hlt : ∀ i j, i < n → j < n → decide ((H i).cps.toList < (H j).cps.toList) = keyLt bs i j)
    (hsz : ∀ i, i < n → 0 < (H i).cps.size ∧ (H i).cps.size < 1000) (hasc : ∀ i, i < n → ∀ c ∈ (H i).cps.toList, c < 128)
    (hW : ∀ i, i < n → W i = (((H i).cps.map Nat.toUInt8).reverse)) (hrev : ∀ i j, i < n → j < n → bLt (W i) (W j) = decide (i < j)) :
    wpS (model Pg w) A (call (.ref 149) [.ref lh, .ref lb] []) (Ends s fun v _ => v = .bool true) s := by
  have dummy : (fun (_ : OpenLaw) (_ : Params → Frag) => True) PySem.Challenge.rw_zo0023_01 hd.heap_39 := by
    k_fill
    trivial
  refine enterSC (K := hd.heap_39 w.params) (binds := [("hosts", .ref lh), ("bases", .ref lb)]) KX T.nolimit (by unfold recursionLimit; omega) rfl (by rfl) (binds_of_peek KX fun S => by kernel_rfl) (by rfl) (by decide +kernel) ?_
  intro h₁ tk₁ cells F N Y
  obtain ⟨o_r, o_p, o_b, o_h, rfl, d_r, d_p, d_b, d_h⟩ := CellsAre.four Y
  clear Y
  change o_r.data = .cell none at d_r
  change o_p.data = .cell none at d_p
  change o_b.data = .cell (some (.ref lb)) at d_b
  change o_h.data = .cell (some (.ref lh)) at d_h
  change Fr s.heap s.heap.objs.size h₁ (fun _ => none) at F
  have LL := lineLaw hbs hn
  refine execsG (At s s.heap.objs.size fun m news => ∃ D, s.heap.objs.size + 4 < D ∧ news = [(D, listOf #[] 0), (s.heap.objs.size + 4, o_r), (s.heap.objs.size + 3, o_p), (s.heap.objs.size + 2, o_b), (s.heap.objs.size + 1, o_h)] ∧ m "line" = some (.ref D)) ?_ ?_
  · k_steps
    rename Fr _ _ _ _ => F₂
    rename News _ _ _ _ => N₂
    exact ⟨rfl, At.mk _ F₂ N₂ (fun _ hp => hp) ⟨_, by omega, rfl, rfl⟩⟩
  rintro s' ⟨h₂, tk₂, m₂, _, rfl, F₂, N₂, D, hD, rfl, em⟩
  replace F₂ := frSees [("line", .ref D)] F₂ ⟨em, trivial⟩
  refine execsG (At s s.heap.objs.size fun m news => ∃ D P o_p, s.heap.objs.size + 4 < D ∧ D < P ∧ o_p.data = .cell (some (.ref P)) ∧ news = [(D, listOf #[] 0), (P, listOf #[] 0), (s.heap.objs.size + 4, o_r), (s.heap.objs.size + 3, o_p), (s.heap.objs.size + 2, o_b), (s.heap.objs.size + 1, o_h)] ∧ m "line" = some (.ref D)) ?_ ?_
  · k_steps
    rename Fr _ _ _ _ => F₃
    rename News _ _ _ _ => N₃
    refine ⟨rfl, At.mk [_, _, _, _, _, _] F₃ N₃ ?_ ⟨_, _, _, hD, ?_, by assumption, rfl, rfl⟩⟩
    · repeat (first | exact subN | refine subC (by k_mem) ?_)
    · omega
  clear F N F₂ N₂ d_p o_p
  rintro s' ⟨h₃, tk₃, m₃, _, rfl, F₃, N₃, D, P, o_p, hD, hP, d_p, rfl, em⟩
  replace F₃ := frSees [("line", .ref D)] F₃ ⟨em, trivial⟩
  refine execsG (At s s.heap.objs.size fun m news => ∃ lv pv k₁ k₂, Paired (IsTxt H) (lineN bs n) lv ∧ Paired (fun j v => IsNum (placeN j bs) v) (List.range n) pv ∧ news = [(D, listOf lv.toArray k₁), (P, listOf pv.toArray k₂), (s.heap.objs.size + 4, o_r), (s.heap.objs.size + 3, o_p), (s.heap.objs.size + 2, o_b), (s.heap.objs.size + 1, o_h)] ∧ m "line" = some (.ref D)) ?_ ?_
  · k_steps
    refine Hold.out ?_
    rename Fr _ _ _ _ => F₄
    rename News _ _ _ _ => N₄
    have hlen : hv.length = n := by rw [← hhv.length, List.length_range]
    have hL : lh ≠ s.heap.objs.size := by obtain ⟨o, ho, _⟩ := id hlh; exact Nat.ne_of_lt (Heap.lt_size ho)
    have hn13 : n ≤ 13 := by omega
    have hlhD : s.heap.get? lh ≠ none := by obtain ⟨o, ho, _⟩ := id hlh; rw [ho]; simp
    have neq : ∀ p : Addr × Obj, s.heap.get? p.1 = none → p.1 ≠ lh := fun p hp e => hlhD (e ▸ hp)
    refine iterList (mu := [D, P]) (fun j m news => ∃ lv pv k₁ k₂, Paired (IsTxt H) (lineN bs j) lv ∧ Paired (fun j v => IsNum (placeN j bs) v) (List.range j) pv ∧ news = [(D, listOf lv.toArray k₁), (P, listOf pv.toArray k₂), (s.heap.objs.size + 4, o_r), (s.heap.objs.size + 3, o_p), (s.heap.objs.size + 2, o_b), (s.heap.objs.size + 1, o_h)] ∧ m "line" = some (.ref D))
      (by exact hA) (Fr.lst F₄ hlh) hL (fun hm => ?_) (by simp) F₄ N₄ ⟨[], [], 0, 0, .nil, .nil, rfl, rfl⟩ ?_ ?_
    · rcases List.mem_cons.mp hm with e | hm
      · exact neq _ (N₄ (D, _) (.head _)).2.2 e.symm
      · exact neq _ (N₄ (P, _) (.tail _ (.head _))).2.2 (List.mem_singleton.mp hm).symm
    · rintro j v m₁ _ h₅ tk₅ own hvj - hown ⟨lv, pv, k₁, k₂, hlv, hpv, rfl, em⟩ F₅ N₅
      replace F₅ := frSees [("host", v), ("line", .ref D)] F₅ ⟨rfl, em, trivial⟩
      simp only [List.cons_append, List.nil_append] at N₅
      k_steps
      refine Hold.out ?_
      have hj : j < n := by rw [← hlen]; exact (List.getElem?_eq_some_iff.mp hvj).1
      obtain ⟨q, hq, t, rfl⟩ := Paired.back hhv hvj
      obtain rfl : j = q := by rw [List.getElem?_range hj] at hq; exact Option.some.inj hq
      obtain ⟨hk, hk1, hk2⟩ := LL.put j hj
      have hll : lv.length = j := by rw [← hlv.length, lineN_len]
      rename Fr _ _ _ _ => F₆
      rename News _ _ _ _ => N₆
      refine use (R := fun v _ => ∃ t, v = .int (placeN j bs) t) ?_ ?_
      · refine bisect_left_spec (KX.keeps F₆.keep) (T.keeps F₆.keep) (by exact hA) (by show A.depth + 1 < 600; omega) (by show A.units + 3 < 9000; omega) (N₆.isList (.head _)) (by omega) (.inl rfl)
          (ltIs_txt hlv ⟨t, rfl⟩ hj (fun q hq => Nat.lt_trans (lineN_lt q hq) hj) hlt) (by rw [lineN_len] at hk; rw [hll]; exact hk) ?_ ?_
        · intro i hi
          have hi' : i < (lineN bs j).length := by omega
          rw [List.getElem?_eq_getElem hi']
          exact hk1 i _ (List.getElem?_eq_getElem hi') hi
        · intro i hi hi2
          have hi' : i < (lineN bs j).length := by rw [lineN_len]; omega
          rw [List.getElem?_eq_getElem hi']
          exact hk2 i _ (List.getElem?_eq_getElem hi') hi
      rintro v h₇ tk₇ ⟨t', rfl⟩ k₇
      replace F₆ := frUp F₆ k₇
      replace N₆ := newsUp N₆ k₇
      dsimp only
      k_steps
      refine Hold.out ?_
      rename Fr _ _ _ _ => F₈
      rename News _ _ _ _ => N₈
      have offD : ∀ (o₁ o₂ o₃ o₄ o₅ : Obj), ∀ p ∈ ((P, o₁) :: (s.heap.objs.size + 4, o₂) :: (s.heap.objs.size + 3, o₃) :: (s.heap.objs.size + 2, o₄) :: (s.heap.objs.size + 1, o₅) :: own), p.1 ≠ D := fun _ _ _ _ _ p hp => by
        simp only [List.mem_cons] at hp
        rcases hp with rfl | rfl | rfl | rfl | rfl | hp
        · dsimp only; omega
        · dsimp only; omega
        · dsimp only; omega
        · dsimp only; omega
        · dsimp only; omega
        · exact fun q => hown p hp (by simp [q])
      have offP : ∀ (o₂ o₃ o₄ o₅ : Obj), ∀ p ∈ ((s.heap.objs.size + 4, o₂) :: (s.heap.objs.size + 3, o₃) :: (s.heap.objs.size + 2, o₄) :: (s.heap.objs.size + 1, o₅) :: own), p.1 ≠ P := fun _ _ _ _ p hp => by
        simp only [List.mem_cons] at hp
        rcases hp with rfl | rfl | rfl | rfl | hp
        · dsimp only; omega
        · dsimp only; omega
        · dsimp only; omega
        · dsimp only; omega
        · exact fun q => hown p hp (by simp [q])
      refine kl_insert F₈ N₈ ?_ (l := lv.take (placeN j bs) ++ .str (H j) t :: lv.drop (placeN j bs)) ?_ (.head (offD _ _ _ _ _)) (by rw [sizeLine_eq]; show lv.length ≤ _; omega) ?_
      · unfold Builtin.List.listFitsIndex; simp; rw [lineN_len] at hk; omega
      · unfold kl_ins
        have e : (if (placeN j bs : Int) < 0 then ((placeN j bs : Int) + (lv.length : Int)).toNat else min (placeN j bs : Int).toNat lv.length) = placeN j bs := by
          rw [if_neg (by omega)]; rw [lineN_len] at hk; omega
        show List.take (if (placeN j bs : Int) < 0 then ((placeN j bs : Int) + (lv.length : Int)).toNat else min (placeN j bs : Int).toNat lv.length) lv ++ .str (H j) t :: List.drop (if (placeN j bs : Int) < 0 then ((placeN j bs : Int) + (lv.length : Int)).toNat else min (placeN j bs : Int).toNat lv.length) lv = _
        rw [e]
      intro h₉ F₉ N₉
      dsimp only
      k_steps
      refine Hold.out ?_
      have hpl : pv.length = j := by rw [← hpv.length, List.length_range]
      rename Fr _ _ _ _ => F₁₀
      rename News _ _ _ _ => N₁₀
      refine append_K F₁₀ N₁₀ (.tail (Nat.ne_of_lt hP) (.head (offP _ _ _ _))) (fun h₁₁ F₁₁ N₁₁ => ?_) (by rw [sizeLine_eq, List.size_toArray]; omega)
      dsimp only
      k_steps
      rename Fr _ _ _ _ => F₁₂
      rename News _ _ _ _ => N₁₂
      refine TurnTo.nextN [(D, listOf (lv.take (placeN j bs) ++ .str (H j) t :: lv.drop (placeN j bs)).toArray (k₁ + 1)), (P, listOf (pv.toArray.push (.int (placeN j bs) t')) (k₂ + 1)), (s.heap.objs.size + 4, o_r), (s.heap.objs.size + 3, o_p), (s.heap.objs.size + 2, o_b), (s.heap.objs.size + 1, o_h)] F₁₂ N₁₂ (fun p hp => hp) rfl ⟨_, pv ++ [.int (placeN j bs) t'], k₁ + 1, k₂ + 1, Paired.put hlv (placeN j bs) ⟨t, rfl⟩, ?_, ?_, rfl⟩
      · rw [List.range_succ]
        exact Paired.snoc hpv ⟨t', rfl⟩
      · rw [List.push_toArray]
    · rintro m₁ _ h₅ tk₅ ⟨lv, pv, k₁, k₂, hlv, hpv, rfl, em⟩ - F₅ N₅
      rw [hlen] at hlv hpv
      exact ⟨rfl, At.mk _ F₅ N₅ (fun _ hp => hp) ⟨lv, pv, k₁, k₂, hlv, hpv, rfl, em⟩⟩
  clear F₃ N₃ em
  rintro s' ⟨h₄, tk₄, m₄, _, rfl, F₄, N₄, lv, pv, k₁, k₂, hlv, hpv, rfl, em⟩
  replace F₄ := frSees [("line", .ref D)] F₄ ⟨em, trivial⟩
  have hlen : hv.length = n := by rw [← hhv.length, List.length_range]
  have hn13 : n ≤ 13 := by omega
  refine execsG (At s s.heap.objs.size fun m news => news = [(D, listOf lv.toArray k₁), (P, listOf pv.toArray k₂), (s.heap.objs.size + 4, o_r), (s.heap.objs.size + 3, o_p), (s.heap.objs.size + 2, o_b), (s.heap.objs.size + 1, o_h)] ∧ m "line" = some (.ref D)) ?_ ?_
  · k_steps
    refine Hold.out ?_
    refine evalComp (by with_unfolding_all rfl) (by decide) (by rfl) (by decide) (by rfl) ?_
    k_steps
    refine Hold.out ?_
    rename Fr _ _ _ _ => F₅
    rename News _ _ _ _ => N₅
    rename IsRange _ _ _ _ _ _ _ _ => hR
    have hlen : hv.length = n := by rw [← hhv.length, List.length_range]
    have hn13 : n ≤ 13 := by omega
    rw [hlen] at hR
    have KX' := KX.keeps F₅.keep
    have T' := T.keeps F₅.keep
    have hcb := (N₅.get (show (s.heap.objs.size + 2, o_b) ∈ _ by k_mem))
    have hlb' := Fr.lst F₅ hlb
    refine compRange n (fun v y => ∀ j t, v = .int (0 + ((j : Nat) : Int)) t → IsNum (placeN j bs) y) (by exact hA) hR (range_small1 (by omega)) (range_size1 _) (by omega) ?_ ?_
    · rintro C i v s₃ m₃ E' ⟨hi, t, rfl⟩ Fc hm
      have hC : s₃.heap.IsCell (s.heap.objs.size + 2) (some (.ref lb)) := ⟨_, Fc.keep _ _ hcb, d_b⟩
      have k₃ := Fc.keep
      refine eltCall2 (a := 144) (fun _ _ _ q => nameG_K Fc KX' (topRead_of T') (by rfl) q rfl rfl rfl (by decide)) (fun _ _ _ q => nameC_local Fc hm q) (fun _ _ _ q => nameC_cell rfl hC q) (KX'.keeps k₃ _ _ rfl) rfl ?_
      rw [Int.zero_add]
      refine use (R := fun v _ => ∃ t, v = .int (placeOf i bs) t) ?_ ?_
      · exact law_place_spec (KX'.keeps k₃) (T'.keeps k₃) (by exact hA) (by show A.depth + 1 < 600; omega) (by show A.units + 3 < 9000; omega) (hlb'.at fun o e => k₃ _ o e) (by assumption) (bases_ok hbs).1 (bases_ok hbs).2 (by omega)
      rintro v h₇ tk₇ ⟨t', rfl⟩ k₇
      refine ⟨fun j t₂ e => ?_, _, _, rfl, k₇⟩
      obtain rfl : j = i := by injection e with e1 e2; omega
      exact ⟨t', by rw [placeOf_eq]⟩
    · intro D' h' tk vs ys k hvs hP' hF hD' hDn k'
      have F₆ := frUp F₅ k'
      have N₆ := newsUp N₅ k'
      dsimp only
      k_steps
      refine Hold.out ?_
      refine ne_flat (ds := (List.range n).map fun j => PyData.int (placeN j bs : Nat)) (N₆.isList (show (P, listOf pv.toArray k₂) ∈ _ by k_mem)) (flat_nums hpv) ⟨_, hD', rfl, _, rfl⟩ (flat_nums (isNum_get hvs hP' hF fun j t y hy => hy j t rfl)) (by show A.units + 3 < 9800; omega) ?_
      k_steps
      rename Fr _ _ _ _ => F₇
      rename News _ _ _ _ => N₇
      exact ⟨rfl, At.mk _ F₇ N₇ (fun _ hp => hp) ⟨rfl, rfl⟩⟩
  clear F₄ N₄ em
  rintro s' ⟨h₅, tk₅, m₅, _, rfl, F₅, N₅, rfl, em⟩
  replace F₅ := frSees [("line", .ref D)] F₅ ⟨em, trivial⟩
  refine execsG (At s s.heap.objs.size fun m news => ∃ R o_r, P < R ∧ o_r.data = .cell (some (.ref R)) ∧ news = [(R, listOf #[] 0), (D, listOf lv.toArray k₁), (P, listOf pv.toArray k₂), (s.heap.objs.size + 4, o_r), (s.heap.objs.size + 3, o_p), (s.heap.objs.size + 2, o_b), (s.heap.objs.size + 1, o_h)] ∧ m "line" = some (.ref D)) ?_ ?_
  · k_steps
    rename Fr _ _ _ _ => F₆
    rename News _ _ _ _ => N₆
    exact ⟨rfl, At.mk _ F₆ N₆ (fun _ hp => hp) ⟨_, _, by omega, by assumption, rfl, rfl⟩⟩
  clear F₅ N₅ em d_r o_r
  rintro s' ⟨h₆, tk₆, m₆, _, rfl, F₆, N₆, R, o_r, hR, d_r, rfl, em⟩
  replace F₆ := frSees [("line", .ref D)] F₆ ⟨em, trivial⟩
  refine execsG (At s s.heap.objs.size fun m news => ∃ V, R < V ∧ news = [(V, listOf #[] 0), (R, listOf #[] 0), (D, listOf lv.toArray k₁), (P, listOf pv.toArray k₂), (s.heap.objs.size + 4, o_r), (s.heap.objs.size + 3, o_p), (s.heap.objs.size + 2, o_b), (s.heap.objs.size + 1, o_h)] ∧ m "line" = some (.ref D) ∧ m "words" = some (.ref V)) ?_ ?_
  · k_steps
    rename Fr _ _ _ _ => F₇
    rename News _ _ _ _ => N₇
    exact ⟨rfl, At.mk _ F₇ N₇ (fun _ hp => hp) ⟨_, by omega, rfl, rfl, rfl⟩⟩
  clear F₆ N₆ em
  rintro s' ⟨h₇, tk₇, m₇, _, rfl, F₇, N₇, V, hV, rfl, em, em'⟩
  replace F₇ := frSees [("line", .ref D), ("words", .ref V)] F₇ ⟨em, em', trivial⟩
  refine execsG (At s s.heap.objs.size fun m news => ∃ G, V < G ∧ news = [(G, listOf #[] 0), (V, listOf #[] 0), (R, listOf #[] 0), (D, listOf lv.toArray k₁), (P, listOf pv.toArray k₂), (s.heap.objs.size + 4, o_r), (s.heap.objs.size + 3, o_p), (s.heap.objs.size + 2, o_b), (s.heap.objs.size + 1, o_h)] ∧ m "line" = some (.ref D) ∧ m "words" = some (.ref V) ∧ m "found" = some (.ref G)) ?_ ?_
  · k_steps
    rename Fr _ _ _ _ => F₈
    rename News _ _ _ _ => N₈
    exact ⟨rfl, At.mk _ F₈ N₈ (fun _ hp => hp) ⟨_, by omega, rfl, rfl, rfl, rfl⟩⟩
  clear F₇ N₇ em em'
  rintro s' ⟨h₈, tk₈, m₈, _, rfl, F₈, N₈, G, hG, rfl, em, em', em''⟩
  replace F₈ := frSees [("line", .ref D), ("words", .ref V), ("found", .ref G)] F₈ ⟨em, em', em'', trivial⟩
  refine execsGS (At s s.heap.objs.size fun m news => ∃ rv wv fv k₃ k₄ k₅, Paired (IsWrd W) (List.range n) rv ∧ Paired (IsWrd W) (lineN bs n) wv ∧ Paired (fun q v => IsNum (placeN q bs) v) (lineN bs n) fv ∧
      news = [(G, listOf fv.toArray k₅), (V, listOf wv.toArray k₄), (R, listOf rv.toArray k₃), (D, listOf lv.toArray k₁), (P, listOf pv.toArray k₂), (s.heap.objs.size + 4, o_r), (s.heap.objs.size + 3, o_p), (s.heap.objs.size + 2, o_b), (s.heap.objs.size + 1, o_h)] ∧ m "line" = some (.ref D) ∧ m "words" = some (.ref V) ∧ m "found" = some (.ref G)) ?_ ?_
  · refine wpS_For ?_
    k_steps
    refine Hold.out ?_
    rename Fr _ _ _ _ => F₉
    rename News _ _ _ _ => N₉
    have hllen : lv.length = n := by rw [← hlv.length, lineN_len]
    refine iterListS (mu := [R, V, G]) (fun t m news => ∃ rv wv fv k₃ k₄ k₅, Paired (IsWrd W) (rowN (lineN bs n) t) rv ∧ Paired (IsWrd W) ((lineN bs n).take t) wv ∧ Paired (fun q v => IsNum (placeN q bs) v) ((lineN bs n).take t) fv ∧
        news = [(G, listOf fv.toArray k₅), (V, listOf wv.toArray k₄), (R, listOf rv.toArray k₃), (D, listOf lv.toArray k₁), (P, listOf pv.toArray k₂), (s.heap.objs.size + 4, o_r), (s.heap.objs.size + 3, o_p), (s.heap.objs.size + 2, o_b), (s.heap.objs.size + 1, o_h)] ∧ m "line" = some (.ref D) ∧ m "words" = some (.ref V) ∧ m "found" = some (.ref G))
      rfl rfl (by exact hA) (N₉.isList (show (D, listOf lv.toArray k₁) ∈ _ by k_mem)) (show D ≠ s.heap.objs.size from Nat.ne_of_gt (by omega)) (by intro hm; simp only [List.mem_cons, List.not_mem_nil, or_false] at hm; rcases hm with e | e | e <;> exact absurd e (Nat.ne_of_lt (by omega))) (by simp) F₉ N₉ ⟨[], [], [], 0, 0, 0, .nil, by simpa using Paired.nil, by simpa using Paired.nil, rfl, rfl, rfl, rfl⟩ ?_ ?_
    · rintro t v m₁ _ h₅ tk₅ own hvt - hown ⟨rv, wv, fv, k₃, k₄, k₅, hrv, hwv, hfv, rfl, em, em', em''⟩ F₅ N₅
      replace F₅ := frSees [("host", v), ("line", .ref D), ("words", .ref V), ("found", .ref G)] F₅ ⟨rfl, em, em', em'', trivial⟩
      simp only [List.cons_append, List.nil_append] at N₅
      obtain ⟨q, hq, u, rfl⟩ := Paired.back hlv hvt
      have hqn : q < n := lineN_lt q (List.mem_of_getElem? hq)
      refine execsS (assignS (callS_fn' (a := 116) ?_))
      k_steps
      refine Hold.out ?_
      obtain ⟨hz0, hz1⟩ := hsz q hqn
      refine evalComp (by with_unfolding_all rfl) (by decide) (by rfl) (by decide) (by rfl) ?_
      k_steps
      refine Hold.out ?_
      rename Fr _ _ _ _ => F₆
      rename News _ _ _ _ => N₆
      refine ordStr (by exact hA) hz1 (KX.keeps F₆.keep) (T.keeps F₆.keep) rfl rfl rfl (fun _ => rfl) (fun _ => rfl) ?_
      intro D₁ h₆ tk₆ ys k₆ hys hD₁ hDn₁ kk₆
      replace F₆ := frUp F₆ kk₆
      replace N₆ := newsUp N₆ kk₆
      dsimp only
      k_steps
      refine Hold.out ?_
      refine call_bytes_ints ⟨_, hD₁, rfl, _, rfl⟩ hys (fun c hc => ?_) (by rw [sizeLine_eq, hys.length, List.length_map, Array.length_toList]; omega) (by exact hA) fun h₇ t₇ tk₇ kk₇ => ?_
      · obtain ⟨c', hc', rfl⟩ := List.mem_map.mp hc
        have := hasc q hqn c' hc'
        exact ⟨Int.natCast_nonneg _, by show (c' : Int) < 256; omega⟩
      rw [byteArr_octs]
      replace F₆ := frUp F₆ kk₇
      replace N₆ := newsUp N₆ kk₇
      dsimp only
      k_steps
      have hzl : (H q).length = (H q).cps.size := rfl
      refine PySem.P.len_str (by rw [hzl]; omega) ?_
      k_steps
      · exact ⟨_, _, (KX.keeps F₆.keep) _ _ rfl, rfl⟩
      have hos : ((H q).length : Int) = ((octs (H q)).size : Int) := by rw [hzl]; simp [octs]
      rw [hos]
      refine useS (byteswap_spec (KX.keeps F₆.keep) (T.keeps F₆.keep) (by exact hA) (by show A.depth + 1 < 600; omega) (by show A.units + 3 < 9000; omega) (by simp [octs]; omega) (by simp [octs]; omega)) ?_
      rintro v₉ h₉ tk₉ ⟨t₉, rfl⟩ kk₉
      replace F₆ := frUp F₆ kk₉
      replace N₆ := newsUp N₆ kk₉
      have hWq : (octs (H q)).reverse = W q := (hW q hqn).symm
      rw [hWq]
      dsimp only
      k_steps
      refine execsA ?_
      k_steps
      refine Hold.out ?_
      refine evalComp (by with_unfolding_all rfl) (by decide) (by rfl) (by decide) (by rfl) ?_
      k_steps
      refine Hold.out ?_
      rw [slice_rev]
      rename Fr _ _ _ _ => F₆
      rename News _ _ _ _ => N₆
      refine ordStr (by exact hA) (by simp; omega) (KX.keeps F₆.keep) (T.keeps F₆.keep) rfl rfl rfl (fun _ => rfl) (fun _ => rfl) ?_
      intro D₁ h₆ tk₆ ys k₆ hys hD₁ hDn₁ kk₆
      replace F₆ := frUp F₆ kk₆
      replace N₆ := newsUp N₆ kk₆
      dsimp only
      k_steps
      refine Hold.out ?_
      refine call_bytes_ints ⟨_, hD₁, rfl, _, rfl⟩ hys (fun c hc => ?_) (by rw [sizeLine_eq, hys.length]; simp; omega) (by exact hA) fun h₇ t₇ tk₇ kk₇ => ?_
      · obtain ⟨c', hc', rfl⟩ := List.mem_map.mp hc
        have := hasc q hqn c' (by simpa using hc')
        exact ⟨Int.natCast_nonneg _, by show (c' : Int) < 256; omega⟩
      rw [byteArr_octs, octs_rev, hWq]
      replace F₆ := frUp F₆ kk₇
      replace N₆ := newsUp N₆ kk₇
      dsimp only
      k_steps
      refine Hold.out (PySem.W.ne_bytes ?_)
      rw [show ((W q).toList != (W q).toList) = false by simp]
      k_steps
      rename Fr _ _ _ _ => F₇
      rename News _ _ _ _ => N₇
      refine execsA ?_
      k_steps
      refine Hold.out ?_
      have hrl : rv.length = (rowN (lineN bs n) t).length := hrv.length.symm
      obtain ⟨ha, hb1, hb2⟩ := LL.row t q hq
      have hRn : s.heap.get? R = none := (N₇ (R, listOf rv.toArray k₃) (by k_mem)).2.2
      have hrn : ∀ y ∈ rowN (lineN bs n) t, y < n := rowN_lt hq
      have hrlen : rv.length < 1000 := by rw [hrl, rowN_len]; have := (List.getElem?_eq_some_iff.mp hq).1; rw [lineN_len] at this; omega
      refine useBut (l := R) (R := fun v h' => v = .none ∧ h'.get? R = some (listOf (rv.take (placeN q bs) ++ .bytes (W q) t₉ :: rv.drop (placeN q bs)).toArray (k₃ + 1))) ?_ ?_
      · refine insort_left_spec F₇.keep KX T (by exact hA) (by show A.depth + 1 < 590; omega) (by show A.units + 3 < 8900; omega) hRn (N₇.get (show (R, listOf rv.toArray k₃) ∈ _ by k_mem)) hrlen
          (ltIs_wrd hrv ⟨_, rfl⟩ hqn hrn hrev) (by rw [hrl]; exact ha) ?_ ?_
        · intro i hi
          exact splits_getB (p := fun y => decide (y < q)) (by omega) (fun x hx => by simpa using hb1 i x hx hi) _
        · intro i hi hi2
          exact splits_getB (p := fun y => decide (y < q)) (by omega) (fun x hx => by simpa using hb2 i x hx hi) _
      rintro v₈ h₈ tk₈ ⟨rfl, hR₈⟩ kk₈
      have oR := offOwn hown (D := R) (by simp)
      have oV := offOwn hown (D := V) (by simp)
      have oG := offOwn hown (D := G) (by simp)
      have F₈' := frBut F₇ hRn (show s.heap.objs.size ≠ R from Nat.ne_of_lt (by omega)) kk₈
      have N₈' := newsBut (rest := (G, listOf fv.toArray k₅) :: (V, listOf wv.toArray k₄) :: (D, listOf lv.toArray k₁) :: (P, listOf pv.toArray k₂) :: (s.heap.objs.size + 4, o_r) :: (s.heap.objs.size + 3, o_p) :: (s.heap.objs.size + 2, o_b) :: (s.heap.objs.size + 1, o_h) :: own) N₇ kk₈ hRn (show R ≠ s.heap.objs.size from Nat.ne_of_gt (by omega)) hR₈ ?_ ?_
      rotate_left
      · intro p hp
        simp only [List.mem_cons] at hp ⊢
        rcases hp with h | h | h | h | h | h | h | h | h <;> simp only [h, true_or, or_true]
      · refine OffL.out (l := [_, _, _, _, _, _, _, _]) ⟨?_, ?_, ?_, ?_, ?_, ?_, ?_, ?_, oR⟩ <;> dsimp only
        · exact Nat.ne_of_gt (by omega)
        · exact Nat.ne_of_gt (by omega)
        · exact Nat.ne_of_lt (by omega)
        · exact Nat.ne_of_lt (by omega)
        · exact Nat.ne_of_lt (by omega)
        · exact Nat.ne_of_lt (by omega)
        · exact Nat.ne_of_lt (by omega)
        · exact Nat.ne_of_lt (by omega)
      clear F₇ N₇
      dsimp only
      k_steps
      refine execsA ?_
      k_steps
      refine Hold.out ?_
      rename Fr _ _ _ _ => F₉
      rename News _ _ _ _ => N₉
      have hwl : wv.length < 1000 := by rw [← hwv.length, List.length_take, lineN_len]; omega
      have hfl : fv.length < 1000 := by rw [← hfv.length, List.length_take, lineN_len]; omega
      refine append_K F₉ N₉ (.tail (Nat.ne_of_lt hV) (.tail (Nat.ne_of_gt hG) (.head (OffL.out (l := [_, _, _, _, _, _]) ⟨?_, ?_, ?_, ?_, ?_, ?_, oV⟩)))) (fun h₁₀ F₁₀ N₁₀ => ?_) (by rw [sizeLine_eq, List.size_toArray]; omega)
      rotate_left 6
      all_goals try (exact Nat.ne_of_lt (by omega))
      rw [List.push_toArray] at N₁₀
      clear F₉ N₉
      dsimp only
      k_steps
      refine execsA ?_
      k_steps
      refine Hold.out ?_
      rename Fr _ _ _ _ => F₁₁
      rename News _ _ _ _ => N₁₁
      obtain ⟨hc, hd1, hd2⟩ := LL.right t q hq
      have hrv' : Paired (IsWrd W) (rowN (lineN bs n) (t + 1)) (rv.take (placeN q bs) ++ .bytes (W q) t₉ :: rv.drop (placeN q bs)) := by
        rw [LL.rowPut t q hq]
        exact Paired.put hrv (placeN q bs) ⟨_, rfl⟩
      have hrl' := hrv'.length
      refine use (R := fun v _ => ∃ t, v = .int ((placeN q bs + 1 : Nat) : Int) t) ?_ ?_
      · refine bisect_right_spec (KX.keeps F₁₁.keep) (T.keeps F₁₁.keep) (by exact hA) (by show A.depth + 1 < 600; omega) (by show A.units + 3 < 9000; omega) (N₁₁.isList (.head _)) (by rw [← hrl', rowN_len]; have := (List.getElem?_eq_some_iff.mp hq).1; rw [lineN_len] at this; omega)
          (gtIs_wrd hrv' ⟨_, rfl⟩ hqn (fun y hy => lineN_lt' y (rowN_mem (by rw [lineN_len]; have := (List.getElem?_eq_some_iff.mp hq).1; rw [lineN_len] at this; omega) y hy)) hrev) (by rw [← hrl']; exact hc) ?_ ?_
        · intro i hi
          exact splits_getB (p := fun y => decide (q < y)) (by omega) (fun x hx => by simpa using hd1 i x hx hi) _
        · intro i hi hi2
          exact splits_getB (p := fun y => decide (q < y)) (by omega) (fun x hx => by simpa using hd2 i x hx hi) _
      rintro v₁₂ h₁₂ tk₁₂ ⟨t₁₂, rfl⟩ kk₁₂
      replace F₁₁ := frUp F₁₁ kk₁₂
      replace N₁₁ := newsUp N₁₁ kk₁₂
      dsimp only
      k_steps
      refine Hold.out ?_
      rename Fr _ _ _ _ => F₁₃
      rename News _ _ _ _ => N₁₃
      have he : ((placeN q bs + 1 : Nat) : Int) - 1 = ((placeN q bs : Nat) : Int) := by omega
      rw [he]
      refine append_K F₁₃ N₁₃ (.tail (Nat.ne_of_lt (Nat.lt_trans hV hG)) (.head (OffL.out (l := [_, _, _, _, _, _, _]) ⟨?_, ?_, ?_, ?_, ?_, ?_, ?_, oG⟩))) (fun h₁₄ F₁₄ N₁₄ => ?_) (by rw [sizeLine_eq, List.size_toArray]; omega)
      rotate_left 7
      all_goals try (exact Nat.ne_of_lt (by omega))
      rw [List.push_toArray] at N₁₄
      clear F₁₃ N₁₃
      dsimp only
      refine wpS_of ?_
      k_steps
      have htk : (lineN bs n).take (t + 1) = (lineN bs n).take t ++ [q] := by rw [List.take_add_one, hq]; rfl
      refine TurnTo.nextN [(G, listOf (fv ++ [Value.int (placeN q bs : Nat) (tk₁₂ + 1)]).toArray (k₅ + 1)), (V, listOf (wv ++ [Value.bytes (W q) t₉]).toArray (k₄ + 1)), (R, listOf (rv.take (placeN q bs) ++ .bytes (W q) t₉ :: rv.drop (placeN q bs)).toArray (k₃ + 1)), (D, listOf lv.toArray k₁), (P, listOf pv.toArray k₂), (s.heap.objs.size + 4, o_r), (s.heap.objs.size + 3, o_p), (s.heap.objs.size + 2, o_b), (s.heap.objs.size + 1, o_h)] F₁₄ N₁₄ ?_ rfl
        ⟨_, wv ++ [.bytes (W q) t₉], fv ++ [.int (placeN q bs : Nat) (tk₁₂ + 1)], k₃ + 1, k₄ + 1, k₅ + 1, hrv', ?_, ?_, rfl, rfl, rfl, rfl⟩
      · intro p hp
        simp only [List.cons_append, List.nil_append, List.mem_cons] at hp ⊢
        rcases hp with h | h | h | h | h | h | h | h | h | h <;> simp only [h, true_or, or_true]
      · rw [htk]
        exact Paired.snoc hwv ⟨_, rfl⟩
      · rw [htk]
        exact Paired.snoc hfv ⟨_, rfl⟩
    · rintro m₁ _ h₅ tk₅ ⟨rv, wv, fv, k₃, k₄, k₅, hrv, hwv, hfv, rfl, em, em', em''⟩ - F₅ N₅
      rw [hllen] at hrv hwv hfv
      rw [LL.full] at hrv
      rw [List.take_of_length_le (by rw [lineN_len]; exact Nat.le_refl _)] at hwv hfv
      exact ⟨rfl, At.mk _ F₅ N₅ (fun _ hp => hp) ⟨rv, wv, fv, k₃, k₄, k₅, hrv, hwv, hfv, rfl, em, em', em''⟩⟩
  clear F₈ N₈ em em' em''
  rintro s' ⟨h₉, tk₉, m₉, _, rfl, F₉, N₉, rv, wv, fv, k₃, k₄, k₅, hrv, hwv, hfv, rfl, em, em', em''⟩
  replace F₉ := frSees [("line", .ref D), ("words", .ref V), ("found", .ref G)] F₉ ⟨em, em', em'', trivial⟩
  refine wpS_of ?_
  k_steps
  refine Hold.out ?_
  refine asgComp (by with_unfolding_all rfl) (by with_unfolding_all rfl) (by decide) (by rfl) (by decide) (by rfl) (by rfl) (by rfl) ?_
  k_steps
  refine Hold.out ?_
  rename Fr _ _ _ _ => F₁₀
  rename News _ _ _ _ => N₁₀
  have hwl : wv.length = n := by rw [← hwv.length, lineN_len]
  have KX' := KX.keeps F₁₀.keep
  have T' := T.keeps F₁₀.keep
  have hcr := (N₁₀.get (show (s.heap.objs.size + 4, o_r) ∈ _ by k_mem))
  have hrl := (N₁₀.get (show (R, listOf rv.toArray k₃) ∈ _ by k_mem))
  have hWinj : ∀ i j, i < n → j < n → W i = W j → i = j := fun i j hi hj e => by
    have h1 := hrev i j hi hj
    have h2 := hrev j i hj hi
    rw [e, hrev j j hj hj] at h1
    rw [e, hrev j j hj hj] at h2
    simp at h1 h2
    omega
  refine asgList (fun v y => ∀ q t, q < n → v = .bytes (W q) t → IsNum q y) (by exact hA) F₁₀ N₁₀ (N₁₀.isList (show (V, listOf wv.toArray k₄) ∈ _ by k_mem)) (by omega) ?_ ?_
  · rintro C i v s₃ m₃ E' hv Fc hm
    have k₃' := Fc.keep
    obtain ⟨q, hq, t, rfl⟩ := Paired.back hwv hv
    have hqn : q < n := lineN_lt q (List.mem_of_getElem? hq)
    have hrvl : rv.length = n := by rw [← hrv.length, List.length_range]
    refine eltCall2 (a := 77) (fun _ _ _ q => nameG_K Fc KX' (topRead_of T') (by rfl) q rfl rfl rfl (by decide)) (fun _ _ _ q => nameC_cell rfl ⟨o_r, k₃' _ _ hcr, d_r⟩ q) (fun _ _ _ q => nameC_local Fc hm q) (KX'.keeps k₃' _ _ rfl) rfl ?_
    refine use (R := fun v _ => ∃ t, v = .int ((q : Nat) : Int) t) ?_ ?_
    · refine bisect_left_spec (KX'.keeps k₃') (T'.keeps k₃') (by exact hA) (by show A.depth + 1 < 600; omega) (by show A.units + 3 < 9000; omega) ⟨_, k₃' _ _ hrl, rfl, _, rfl⟩ (by omega) (.inl rfl)
        (ltIs_wrd hrv ⟨t, rfl⟩ hqn (fun y hy => by simpa using hy) hrev) (by omega) ?_ ?_
      · intro i hi
        exact splits_getB (p := fun y => decide (y < q)) (by rw [List.length_range]; omega) (fun x hx => by rw [List.getElem?_range (by omega)] at hx; cases hx; simpa using hi) _
      · intro i hi hi2
        exact splits_getB (p := fun y => decide (y < q)) (by rw [List.length_range]; omega) (fun x hx => by rw [List.getElem?_range (by omega)] at hx; cases hx; simpa using hi) _
    rintro v₇ h₇ tk₇ ⟨t', rfl⟩ k₇
    refine ⟨fun j t₂ hj e => ?_, _, _, rfl, k₇⟩
    obtain rfl : q = j := by
      injection e with e1 e2
      exact hWinj q j hqn hj e1
    exact ⟨t', rfl⟩
  intro U h₁₁ tk₁₁ nv k₆ hnF F₁₁ N₁₁ hU
  have hnv : Paired IsNum (lineN bs n) nv := Paired.of_get (by rw [lineN_len, ← hnF.length, hwl]) fun i a b ha hb => by
    obtain ⟨v, hv, hr⟩ := Paired.back hnF hb
    obtain ⟨q, hq, t, rfl⟩ := Paired.back hwv hv
    rw [ha] at hq
    cases hq
    exact hr a t (lineN_lt a (List.mem_of_getElem? ha)) rfl
  clear F₁₀ N₁₀
  dsimp only
  k_steps
  refine Hold.out ?_
  refine evalComp (by with_unfolding_all rfl) (by decide) (by rfl) (by decide) (by rfl) ?_
  k_steps
  refine Hold.out ?_
  rename Fr _ _ _ _ => F₁₂
  rename News _ _ _ _ => N₁₂
  have hnl : nv.length = n := by rw [← hnv.length, lineN_len]
  have hhl : hv.length = n := by rw [← hhv.length, List.length_range]
  have hch := (N₁₂.get (show (s.heap.objs.size + 1, o_h) ∈ _ by k_mem))
  have hlh' := Fr.lst F₁₂ hlh
  refine compList (fun v y => ∀ q t, q < n → v = .int (q : Nat) t → IsTxt H q y) (by exact hA) (N₁₂.isList (.head _)) (by omega) ?_ ?_
  · rintro C i v s₃ m₃ E' hv Fc hm
    have k₃' := Fc.keep
    obtain ⟨q, hq, t, rfl⟩ := Paired.back hnv hv
    have hqn : q < n := lineN_lt q (List.mem_of_getElem? hq)
    refine eltItem (fun _ _ _ q => nameC_cell rfl ⟨o_h, k₃' _ _ hch, d_h⟩ q) (fun _ _ _ q => nameC_local Fc hm q) (hlh'.at fun o e => k₃' _ o e) (by omega) (by omega) (by omega) fun y hy => ?_
    refine ⟨fun j t₂ hj e => ?_, _, _, rfl, fun _ _ e => e⟩
    obtain rfl : q = j := by injection e with e1 e2; omega
    obtain ⟨j', hj', hr⟩ := Paired.back hhv hy
    rw [Int.toNat_natCast, List.getElem?_range hqn] at hj'
    cases hj'
    exact hr
  intro D₂ h₁₃ tk₁₃ ys₂ k₇ hF₂ hD₂ hDn₂ kk₂
  have hys₂ : Paired (IsTxt H) (lineN bs n) ys₂ := Paired.of_get (by rw [lineN_len, ← hF₂.length, hnl]) fun i a b ha hb => by
    obtain ⟨v, hv, hr⟩ := Paired.back hF₂ hb
    obtain ⟨q, hq, t, rfl⟩ := Paired.back hnv hv
    rw [ha] at hq
    cases hq
    exact hr a t (lineN_lt a (List.mem_of_getElem? ha)) rfl
  have F₁₃ := frUp F₁₂ kk₂
  have N₁₃ := newsUp N₁₂ kk₂
  clear F₁₂ N₁₂
  have hasl : ∀ j ∈ lineN bs n, ∀ c ∈ (H j).cps.toList, c < 128 := fun j hj => hasc j (lineN_lt j hj)
  dsimp only
  k_steps
  refine Hold.out ?_
  rename Fr _ _ _ _ => F₁₄
  rename News _ _ _ _ => N₁₄
  refine ne_flat (ds := (lineN bs n).map fun j => PyData.str (H j)) ⟨_, hD₂, rfl, _, rfl⟩ (flat_txts hasl hys₂) (N₁₄.isList (show (D, listOf lv.toArray k₁) ∈ _ by k_mem)) (flat_txts hasl hlv) (by show A.units + 3 < 9800; omega) ?_
  k_steps
  refine Hold.out ?_
  refine evalComp (by with_unfolding_all rfl) (by decide) (by rfl) (by decide) (by rfl) ?_
  k_steps
  refine Hold.out ?_
  rename Fr _ _ _ _ => F₁₅
  rename News _ _ _ _ => N₁₅
  have hcp := (N₁₅.get (show (s.heap.objs.size + 3, o_p) ∈ _ by k_mem))
  have hpp := (N₁₅.get (show (P, listOf pv.toArray k₂) ∈ _ by k_mem))
  have hpl : pv.length = n := by rw [← hpv.length, List.length_range]
  refine compList (fun v y => ∀ q t, q < n → v = .int (q : Nat) t → IsNum (placeN q bs) y) (by exact hA) (N₁₅.isList (show (U, listOf nv.toArray k₆) ∈ _ by k_mem)) (by omega) ?_ ?_
  · rintro C i v s₃ m₃ E' hv Fc hm
    have k₃' := Fc.keep
    obtain ⟨q, hq, t, rfl⟩ := Paired.back hnv hv
    have hqn : q < n := lineN_lt q (List.mem_of_getElem? hq)
    refine eltItem (fun _ _ _ q => nameC_cell rfl ⟨o_p, k₃' _ _ hcp, d_p⟩ q) (fun _ _ _ q => nameC_local Fc hm q) ⟨_, k₃' _ _ hpp, rfl, _, rfl⟩ (by omega) (by omega) (by omega) fun y hy => ?_
    refine ⟨fun j t₂ hj e => ?_, _, _, rfl, fun _ _ e => e⟩
    obtain rfl : q = j := by injection e with e1 e2; omega
    obtain ⟨j', hj', hr⟩ := Paired.back hpv hy
    rw [Int.toNat_natCast, List.getElem?_range hqn] at hj'
    cases hj'
    exact hr
  intro D₃ h₁₆ tk₁₆ ys₃ k₈ hF₃ hD₃ hDn₃ kk₃
  have hys₃ : Paired (fun q v => IsNum (placeN q bs) v) (lineN bs n) ys₃ := Paired.of_get (by rw [lineN_len, ← hF₃.length, hnl]) fun i a b ha hb => by
    obtain ⟨v, hv, hr⟩ := Paired.back hF₃ hb
    obtain ⟨q, hq, t, rfl⟩ := Paired.back hnv hv
    rw [ha] at hq
    cases hq
    exact hr a t (lineN_lt a (List.mem_of_getElem? ha)) rfl
  have F₁₆ := frUp F₁₅ kk₃
  have N₁₆ := newsUp N₁₅ kk₃
  clear F₁₅ N₁₅
  dsimp only
  k_steps
  refine Hold.out ?_
  rename Fr _ _ _ _ => F₁₇
  rename News _ _ _ _ => N₁₇
  refine eq_flat (ds := (lineN bs n).map fun j => PyData.int (placeN j bs : Nat)) ⟨_, hD₃, rfl, _, rfl⟩ (flat_nums hys₃) (N₁₇.isList (show (G, listOf fv.toArray k₅) ∈ _ by k_mem)) (flat_nums hfv) (by show A.units + 3 < 9800; omega) ?_
  k_steps
  rename Fr _ _ _ _ => F₁₈
  exact Ends.mk rfl F₁₈.keep
end Mine
end

section
open PySem PySem.W PyProof.Rows PySem.Calls
set_option maxRecDepth 100000
set_option maxHeartbeats 8000000
namespace Mine
local macro_rules | `(tactic| walk_at "pyIter ref") => `(tactic| refine hold ?_)
local macro_rules | `(tactic| walk_at "setItem ref int int") => `(tactic| refine hold ?_)
local macro_rules | `(tactic| walk_at "subscriptTail Name Name ref int") => `(tactic| refine hold ?_)
local macro_rules | `(tactic| walk_at "getItem ref int") => `(tactic| refine hold ?_)
local macro_rules | `(tactic| walk_at "call builtin:min") => `(tactic| refine hold ?_)
local macro_rules | `(tactic| walk_at "call builtin:len") => `(tactic| (k_here; (with_reducible show wpAny _ _ (call (Value.builtin "len") [Value.ref _]) _ _ _); (with_unfolding_all refine' Calls.call_len_list ?k1 ?k2 ?_; (case k1 => is_list); (case k2 => ((try simp only [List.size_toArray]); omega)); k_whole)))
local macro_rules | `(tactic| walk_at "exec For Name Call cons nil") => `(tactic| (k_here; (with_unfolding_all refine' For_invVF (by assumption) ?k1 ?k2 ?_; (case k1 => exact rfl); (case k2 => exact rfl)); k_whole))

/-- the draws are numbers from 0 on -/
def DrawsAt (D : Addr) (h : Heap) (dv : List Value) (ds : List Nat) : Prop := (∃ k, h.get? D = some (listOf dv.toArray k)) ∧ Paired IsNum ds dv ∧ ds.length = 5

theorem nums_of_ints : ∀ {vs : List Value} {ns : List Int}, IntsAre vs ns → (∀ x ∈ ns, 0 ≤ x) → Paired (fun k v => IsNum (Int.toNat k) v) ns vs
  | _, _, .nil, _ => .nil
  | _, _, .cons n t r, h => .cons ⟨t, by rw [Int.toNat_of_nonneg (h n (.head _))]⟩ (nums_of_ints r fun x hx => h x (.tail _ hx))
theorem draws_spec {w : World} {A : Around} {s : Shared} {mean mg mb} {E : Value → Shared → Prop} {l : Addr} {vs : List Value} {ns : List Int}
    (KX : (hd.heap_39 w.params).In s.heap) (T : Tp mean mg mb s.heap) (hA : A.handled = none) (hroom : A.depth < 600) (hunits : A.units < 9000)
    (hl : s.heap.IsList l vs.toArray) (hI : IntsAre vs ns) (hlen : vs.length < 1000) :
    wpAny (model Pg w) A (call (.ref 123) [.ref l] []) (Ends s fun v h' => ∃ D dv ds, v = .ref D ∧ s.heap.get? D = none ∧ DrawsAt D h' dv ds) E s := by
  have dummy : (fun (_ : OpenLaw) (_ : Params → Frag) => True) PySem.Challenge.rw_zo0023_01 hd.heap_39 := by
    k_fill
    trivial
  refine enter_def (binds := [("script", .ref l)]) KX T.nolimit (by unfold recursionLimit; omega) rfl (by rfl) (binds_of_peek KX fun S => by kernel_rfl) (by decide) (by rfl) ?_
  intro h₁ F
  have N : News s.heap s.heap.objs.size h₁ [] := News.nil
  k_steps
  refine Hold.out ?_
  rename Fr _ _ _ _ => F₂
  rename News _ _ _ _ => N₂
  obtain ⟨D, rfl⟩ := newsHead N₂
  refine PySem.min_two_ints (by exact hA) fun h₃ tk₃ k₃ => ?_
  obtain ⟨x, hx⟩ := minVal (a := (vs.toArray.size : Int)) (b := 60) (t := _) (u := _)
  rw [hx]
  have hmin : min (vs.toArray.size : Int) 60 = ((min vs.length 60 : Nat) : Int) := by rw [List.size_toArray]; omega
  rw [hmin]
  replace F₂ := frUp F₂ k₃
  replace N₂ := newsUp N₂ k₃
  dsimp only
  k_steps
  refine Hold.out ?_
  rename IsRange _ _ _ _ _ _ _ _ => hR
  rename Fr _ _ _ _ => F₄
  rename News _ _ _ _ => N₄
  rename vs.length = ns.length => hvn
  have hlL : l ≠ s.heap.objs.size := by obtain ⟨o, ho, _⟩ := id hl; exact Nat.ne_of_lt (Heap.lt_size ho)
  refine iterRange (min ns.length 60) [D] (fun i m nx => ∃ dv es, nx = [(D, listOf dv.toArray 0)] ∧ IntsAre dv es ∧ es.length = 5 ∧ (∀ x ∈ es, 0 ≤ x) ∧ m "draws" = some (.ref D) ∧ m "script" = some (.ref l))
    (by exact hA) hR (range_small1 (by omega)) (range_size1 _) (by simp) F₄ N₄ ⟨[.int 1 _, .int 3 _, .int 6 _, .int 2 _, .int 0 _], [1, 3, 6, 2, 0], rfl, .cons _ _ (.cons _ _ (.cons _ _ (.cons _ _ (.cons _ _ .nil)))), rfl, by decide, rfl, rfl⟩ ?_ ?_
  · rintro i t m₁ nx h₅ tk₅ own hi - hown ⟨dv, ds, rfl, hds, hd5, hd0, ed, es⟩ F₅ N₅
    replace F₅ := frSees [("k", .int (0 + (i : Nat)) t), ("draws", .ref D), ("script", .ref l)] F₅ ⟨rfl, ed, es, trivial⟩
    simp only [List.cons_append, List.nil_append] at N₅
    have hmod : Int.fmod (0 + (i : Int)) 5 = ((i % 5 : Nat) : Int) := by rw [Int.zero_add]; exact natMod i 5
    have hj : i % 5 < 5 := Nat.mod_lt _ (by omega)
    k_steps
    refine Hold.out ?_
    rw [hmod]
    rename News _ _ _ _ => N₆
    refine ksa_get N₆ (.head _) hds (by omega) (by omega) (by omega) fun t₁ => ?_
    rw [Int.toNat_natCast]
    k_steps
    refine Hold.out ?_
    rename Fr _ _ _ _ => F₇
    have hI' : IntsAre vs ns := by assumption
    obtain ⟨t₂, ht₂⟩ := hI'.get i (ns[i]'(by omega)) (List.getElem?_eq_getElem _)
    refine item_list (Fr.lst F₇ hl) (by omega) (by omega) (by omega) fun v hv => ?_
    rw [Int.zero_add, Int.toNat_natCast, ht₂] at hv
    cases hv
    k_steps
    refine Hold.out ?_
    rename Fr _ _ _ _ => F₈
    rename News _ _ _ _ => N₈
    refine ksa_set F₈ N₈ (.head (offOwn hown (by simp))) hds (by omega) (by omega) (by omega) fun h₉ F₉ N₉ hi₉ hl₉ _ => ?_
    dsimp only
    k_steps
    refine TurnTo.nextN [(D, listOf (dv.set (((i % 5 : Nat) : Int).toNat) _).toArray 0)] F₉ N₉ (fun p hp => hp) rfl ⟨_, _, rfl, hi₉, by rw [hl₉]; exact hd5, ?_, rfl, rfl⟩
    intro x hx
    rcases List.mem_or_eq_of_mem_set hx with hx | rfl
    · exact hd0 x hx
    · have h1 : 0 ≤ ds.getD (i % 5) 0 := by
        rw [List.getD_eq_getElem?_getD, List.getElem?_eq_getElem (by omega)]
        exact hd0 _ (List.getElem_mem _)
      have h2 : 0 ≤ Int.fmod (ns[i]'(by omega)) 1000000 := Int.fmod_nonneg_of_pos _ (by decide)
      omega
  · rintro m₁ nx h₅ tk₅ ⟨dv, ds, rfl, hds, hd5, hd0, ed, es⟩ - F₅ N₅
    replace F₅ := frSees [("draws", .ref D), ("script", .ref l)] F₅ ⟨ed, es, trivial⟩
    k_steps
    refine Ends.mk ⟨D, dv, ds.map Int.toNat, rfl, (N₅ _ (.head _)).2.2, ⟨_, (N₅ _ (.head _)).1⟩, ?_, by rw [List.length_map]; exact hd5⟩ F₅.keep
    exact Paired.map (nums_of_ints hds hd0)
end Mine
end

section
open PySem PySem.W PyProof.Rows PySem.Calls
set_option maxRecDepth 100000
set_option maxHeartbeats 8000000
namespace Mine
local macro_rules | `(tactic| walk_at "pyIter ref") => `(tactic| refine hold ?_)
local macro_rules | `(tactic| walk_at "subscriptTail Name Name ref int") => `(tactic| refine hold ?_)
local macro_rules | `(tactic| walk_at "subscriptTail Subscript BinOp str int") => `(tactic| refine hold ?_)
local macro_rules | `(tactic| walk_at "exec For Name Call cons nil") => `(tactic| (k_here; (with_unfolding_all refine' For_invVF (by assumption) ?k1 ?k2 ?_; (case k1 => exact rfl); (case k2 => exact rfl)); k_whole))

/-- the signs of a host -/
def hostL : List Str → List Nat → Nat → Str → List Nat
  | f :: fs, b :: bs, n, top => f.cps.getD (n % b) 0 :: 46 :: hostL fs bs (n / b) top
  | _, _, _, top => top.cps.toList
def hostS (fs : List Str) (bs : List Nat) (n : Nat) (top : Str) : Str := ⟨(hostL fs bs n top).toArray⟩
def IsStr (x : Str) (v : Value) : Prop := ∃ t, v = Value.str x t

theorem item_nat {x : Str} {k : Nat} (h : k < x.cps.size) : Txt.item x (k : Int) = ⟨#[x.cps.getD k 0]⟩ := by
  unfold Txt.item Txt.charAt seqIndex?
  have hl : x.length = x.cps.size := rfl
  have : (decide (0 ≤ (k : Int)) && decide ((k : Int) < (x.length : Int))) = true := by simp; omega
  simp only [if_neg (show ¬ (k : Int) < 0 by omega), this, if_true, Option.bind_some, Int.toNat_natCast, Array.getElem?_eq_getElem h, Option.getD_some]
  rw [Array.getD_eq_getD_getElem?, Array.getElem?_eq_getElem h]; rfl
theorem host_spec {w : World} {A : Around} {s : Shared} {mean mg mb} {E : Value → Shared → Prop} {lb lf : Addr} {bv fv : List Value} {bs : List Nat} {fs : List Str} {top : Str} {n : Nat} {tn tt : Tok}
    (KX : (hd.heap_39 w.params).In s.heap) (T : Tp mean mg mb s.heap) (hA : A.handled = none) (hroom : A.depth < 600) (hunits : A.units < 9000)
    (hlb : s.heap.IsList lb bv.toArray) (hI : IntsAre bv (bs.map Int.ofNat)) (hlf : s.heap.IsList lf fv.toArray) (hf : Paired IsStr fs fv)
    (hb3 : bs.length = 3) (hf3 : fs.length = 3) (hb : ∀ b ∈ bs, 2 ≤ b ∧ b ≤ 4) (hfb : ∀ i (h1 : i < fs.length) (h2 : i < bs.length), bs[i] ≤ fs[i].cps.size) (hn : n < 100) (htop : top.cps.size < 100) (hf7 : ∀ f ∈ fs, f.cps.size < 100) :
    wpAny (model Pg w) A (call (.ref 130) [.int n tn, .ref lb, .ref lf, .str top tt] []) (Ends s fun v _ => ∃ t, v = .str (hostS fs bs n top) t) E s := by
  have dummy : (fun (_ : OpenLaw) (_ : Params → Frag) => True) PySem.Challenge.rw_zo0023_01 hd.heap_39 := by
    k_fill
    trivial
  refine enter_def (binds := [("number", .int n tn), ("bases", .ref lb), ("figures", .ref lf), ("top", .str top tt)]) KX T.nolimit (by unfold recursionLimit; omega) rfl (by rfl) (binds_of_peek KX fun S => by kernel_rfl) (by decide) (by rfl) ?_
  intro h₁ F
  have N : News s.heap s.heap.objs.size h₁ [] := News.nil
  k_steps
  refine Hold.out ?_
  rename IsRange _ _ _ _ _ _ _ _ => hR
  rename Fr _ _ _ _ => F₄
  rename News _ _ _ _ => N₄
  refine iterRange 3 [] (fun i m nx => nx = [] ∧ ∃ (num : Nat) (x : Str) (tx tk : Tok), m "host" = some (.str x tx) ∧ m "number" = some (.int num tk) ∧ m "bases" = some (.ref lb) ∧ m "figures" = some (.ref lf) ∧ m "top" = some (.str top tt) ∧ num < 100 ∧ x.cps.size ≤ 2 * i ∧ x.cps.toList ++ hostL (fs.drop i) (bs.drop i) num top = hostL fs bs n top)
    (by exact hA) hR (range_small1 (n := 3) (by omega)) (range_size1 _) (by simp) F₄ N₄ ⟨rfl, n, _, _, _, rfl, rfl, rfl, rfl, rfl, hn, by decide, by simp; rfl⟩ ?_ ?_
  · rintro i t m₁ nx h₅ tk₅ own hi - hown ⟨rfl, num, x, tx, tk, eh, en, eb, ef, et, hnum, hxs, hx⟩ F₅ N₅
    replace F₅ := frSees [("level", .int (0 + (i : Nat)) t), ("host", .str x tx), ("number", .int num tk), ("bases", .ref lb), ("figures", .ref lf), ("top", .str top tt)] F₅ ⟨rfl, eh, en, eb, ef, et, trivial⟩
    simp only [List.nil_append] at N₅
    k_steps
    refine Hold.out ?_
    rename Fr _ _ _ _ => F₆
    obtain ⟨vf, hvf, tf, rfl⟩ := Paired.get? hf (List.getElem?_eq_getElem (show i < fs.length by omega))
    have hfl := hf.length
    refine item_list (Fr.lst F₆ hlf) (by omega) (by omega) (by omega) fun v hv => ?_
    rw [Int.zero_add, Int.toNat_natCast, hvf] at hv
    cases hv
    k_steps
    refine Hold.out ?_
    rename Fr _ _ _ _ => F₇
    have hI' : IntsAre bv (bs.map Int.ofNat) := by assumption
    have hil := hI'.length
    rw [List.length_map] at hil
    obtain ⟨t₂, ht₂⟩ := hI'.get i (bs[i]'(by omega) : Int) (by simp [show i < bs.length by omega])
    refine item_list (Fr.lst F₇ hlb) (by omega) (by omega) (by omega) fun v hv => ?_
    rw [Int.zero_add, Int.toNat_natCast, ht₂] at hv
    cases hv
    have hbi := hb bs[i] (List.getElem_mem (by omega))
    have hfi := hfb i (by omega) (by omega)
    generalize hbe : bs[i] = b at *
    generalize hfe : fs[i] = f at *
    k_steps
    rw [natMod]
    have hmb : num % b < b := Nat.mod_lt _ (by omega)
    have hfl' : f.length = f.cps.size := rfl
    have hf100 : f.cps.size < 100 := by rw [← hfe]; exact hf7 _ (List.getElem_mem _)
    refine item_str (fitsSsize_of (N := 9223372036854775808) (by omega) (by omega) (Int.le_refl _)) (by omega) (by omega) fun _ => ?_
    rw [item_nat (by omega)]
    k_steps
    have hx1 : x.length = x.cps.size := rfl
    have hy1 : (({ cps := #[f.cps.getD (num % b) 0] } : Str) ++ Str.ofString ".").length = 2 := rfl
    refine PyProof.Rows.iadd_str (hsz := by rw [sizeLine_eq, hy1]; omega) fun t₈ tk₈ => ?_
    k_steps
    refine Hold.out ?_
    rename Fr _ _ _ _ => F₉
    refine item_list (Fr.lst F₉ hlb) (by omega) (by omega) (by omega) fun v hv => ?_
    rw [Int.zero_add, Int.toNat_natCast, ht₂] at hv
    cases hv
    k_steps
    rename Fr _ _ _ _ => F₁₀
    rename News _ _ _ _ => N₁₀
    have hcps : (x ++ (({ cps := #[f.cps.getD (num % b) 0] } : Str) ++ Str.ofString ".")).cps = x.cps ++ #[f.cps.getD (num % b) 0, 46] := rfl
    refine TurnTo.nextN [] F₁₀ N₁₀ (fun p hp => hp) rfl ⟨rfl, num / b, _, _, _, rfl, congrArg (fun z => some (Value.int z _)) (natDiv num b), rfl, rfl, rfl, ?_, ?_, ?_⟩
    · exact Nat.lt_of_le_of_lt (Nat.div_le_self _ _) hnum
    · rw [hcps, Array.size_append]; show _ + 2 ≤ _; omega
    · rw [hcps, Array.toList_append, ← hx, List.drop_eq_getElem_cons (show i < fs.length by omega), List.drop_eq_getElem_cons (show i < bs.length by omega), hfe, hbe]
      simp [hostL]
  · rintro m₁ nx h₅ tk₅ ⟨rfl, num, x, tx, tk, eh, en, eb, ef, et, hnum, hxs, hx⟩ - F₅ N₅
    replace F₅ := frSees [("host", .str x tx), ("number", .int num tk), ("bases", .ref lb), ("figures", .ref lf), ("top", .str top tt)] F₅ ⟨eh, en, eb, ef, et, trivial⟩
    have hx1 : x.length = x.cps.size := rfl
    have ht1 : top.length = top.cps.size := rfl
    k_steps
    have he : x ++ top = hostS fs bs n top := by
      show Str.mk (x.cps ++ top.cps) = Str.mk _
      congr 1
      apply Array.ext'
      rw [Array.toList_append]
      show x.cps.toList ++ top.cps.toList = hostL fs bs n top
      rw [← hx, List.drop_of_length_le (by omega)]
      simp [hostL]
    rw [he]
    exact Ends.mk ⟨_, rfl⟩ F₅.keep
end Mine
end

section
open PySem PySem.W PyProof.Rows PySem.Calls
set_option maxRecDepth 100000
set_option maxHeartbeats 8000000
namespace Mine
local macro_rules | `(tactic| walk_at "compareOp NotEq str str") => `(tactic| refine hold ?_)
local macro_rules | `(tactic| walk_at "compareOp Eq str str") => `(tactic| refine hold ?_)
local macro_rules | `(tactic| walk_at "exec While Compare cons nil") => `(tactic| refine hold ?_)
local macro_rules | `(tactic| walk_at "subscriptTail Name Name str int") => `(tactic| refine hold ?_)

local macro_rules | `(tactic| walk_at "binaryOp Add str str") => `(tactic| refine hold ?_)
theorem slice_of {x : Str} {i j : Nat} (h1 : i ≤ j) (h2 : j ≤ x.cps.size) : Txt.slice x (some (i : Int)) (some (j : Int)) = ⟨((x.cps.toList.drop i).take (j - i)).toArray⟩ := by
  have := slice_closes (x := x) (i := i) (j := j) ⟨by omega, by omega, by rw [Array.length_toList]; omega⟩
  have := eq_of_beq this
  rw [this]
  congr 3
  omega
theorem slice_to {x : Str} {j : Nat} (h2 : j ≤ x.cps.size) : Txt.slice x none (some (j : Int)) = ⟨(x.cps.toList.take j).toArray⟩ := by
  have := slice_closes_to (x := x) (j := j) ⟨by omega, by rw [Array.length_toList]; omega⟩
  have := eq_of_beq this
  rw [this]
  simp
/-- a host with each mark doubled -/
def esc : List Nat → List Nat
  | [] => []
  | c :: r => if c = 34 then 34 :: 34 :: esc r else c :: esc r
def TailOk (tl : List Nat) : Prop := tl = [] ∨ ∃ rest, tl = 34 :: rest ∧ rest.head? ≠ some 34

section
variable {prog : Program} {w : World} {A : Around} {E : Value → Shared → Prop} {s : Shared} {x y : Str} {t u : Tok} {Q : Value → Shared → Prop}
theorem eq_yes (e : x.cps.toList = y.cps.toList) (h : Q (.bool true) s) : wpAny (model prog w) A (compareOp .Eq (.str x t) (.str y u)) Q E s := PySem.P.eq_str (by rw [show (x.cps.toList == y.cps.toList) = true by simpa using e]; exact h)
theorem eq_no (e : x.cps.toList ≠ y.cps.toList) (h : Q (.bool false) s) : wpAny (model prog w) A (compareOp .Eq (.str x t) (.str y u)) Q E s := PySem.P.eq_str (by rw [show (x.cps.toList == y.cps.toList) = false from beq_eq_false_iff_ne.mpr e]; exact h)
theorem ne_yes (e : x.cps.toList ≠ y.cps.toList) (h : Q (.bool true) s) : wpAny (model prog w) A (compareOp .NotEq (.str x t) (.str y u)) Q E s := PySem.P.ne_str (by rw [show (x.cps.toList != y.cps.toList) = true from bne_iff_ne.mpr e]; exact h)
theorem ne_no (e : x.cps.toList = y.cps.toList) (h : Q (.bool false) s) : wpAny (model prog w) A (compareOp .NotEq (.str x t) (.str y u)) Q E s := PySem.P.ne_str (by rw [show (x.cps.toList != y.cps.toList) = false by simp [e]]; exact h)
end
theorem step2_brk {h₀ : Heap} {L : Addr} {s : Shared} {J : Nat → (Str → Option Value) → List (Addr × Obj) → Prop} {Q : Flow → Shared → Prop} {n : Nat} {s₃ : Shared} (h : Q .next s₃) : WhileStep2 h₀ L s J Q n .brk s₃ := h
theorem str_snoc (l : List Nat) (a : Nat) : (Str.mk l.toArray) ++ Str.mk #[a] = Str.mk (l ++ [a]).toArray := by
  show Str.mk (l.toArray ++ #[a]) = _
  simp
theorem drop_cons {x : Str} {j a : Nat} {l : List Nat} (h : x.cps.toList.drop j = a :: l) : x.cps.getD j 0 = a ∧ j < x.cps.size ∧ x.cps.toList.drop (j + 1) = l := by
  have hj : j < x.cps.toList.length := by
    apply Classical.byContradiction
    intro hn
    rw [List.drop_of_length_le (by omega)] at h
    cases h
  rw [List.drop_eq_getElem_cons hj] at h
  injection h with h1 h2
  rw [Array.length_toList] at hj
  refine ⟨?_, hj, h2⟩
  rw [Array.getD_eq_getD_getElem?, Array.getElem?_eq_getElem hj]
  simpa using h1
theorem esc_nil {l : List Nat} (h : esc l = []) : l = [] := by
  cases l with
  | nil => rfl
  | cons a r => rw [esc] at h; split at h <;> cases h
theorem parse_spec {w : World} {A : Around} {s : Shared} {mean mg mb} {E : Value → Shared → Prop} {x r : Str} {t : Tok}
    (KX : (hd.heap_39 w.params).In s.heap) (T : Tp mean mg mb s.heap) (hA : A.handled = none) (hroom : A.depth < 600) (hunits : A.units < 9000)
    (hx : x.cps.size < 1000) (h5 : 5 ≤ x.cps.size) (h3 : x.cps.toList.take 3 = [50, 53, 55])
    (h : ((x.cps.toList.drop 3).take 2 ≠ [32, 34] ∧ r = ⟨#[]⟩) ∨ ((x.cps.toList.drop 3).take 2 = [32, 34] ∧ ∃ tl, TailOk tl ∧ x.cps.toList.drop 5 = esc r.cps.toList ++ tl)) :
    wpAny (model Pg w) A (call (.ref 109) [.str x t] []) (Ends s fun v _ => ∃ t, v = .str r t) E s := by
  have dummy : (fun (_ : OpenLaw) (_ : Params → Frag) => True) PySem.Challenge.rw_zo0023_01 hd.heap_39 := by
    k_fill
    trivial
  refine enter_def (binds := [("resp", .str x t)]) KX T.nolimit (by unfold recursionLimit; omega) rfl (by rfl) (binds_of_peek KX fun S => by kernel_rfl) (by decide) (by rfl) ?_
  intro h₁ F
  have N : News s.heap s.heap.objs.size h₁ [] := News.nil
  have hxl : x.length = x.cps.size := rfl
  k_steps
  refine Hold.out (PySem.P.ne_str ?_)
  have e1 : Txt.slice x none (some 3) = ⟨(x.cps.toList.take 3).toArray⟩ := slice_to (j := 3) (by omega)
  rw [e1, h3]
  rw [show (((⟨[50, 53, 55].toArray⟩ : Str).cps.toList != (Str.ofString "257").cps.toList)) = false by decide +kernel]
  k_steps
  refine Hold.out (PySem.P.ne_str ?_)
  have e2 : Txt.slice x (some 3) (some 5) = ⟨((x.cps.toList.drop 3).take 2).toArray⟩ := slice_of (i := 3) (j := 5) (by omega) (by omega)
  rw [e2]
  have e3 : (Str.ofString " \"").cps.toList = [32, 34] := by decide +kernel
  rw [e3]
  rcases h with ⟨hne, rfl⟩ | ⟨heq, tl, htl, hl⟩
  · have : (((⟨((x.cps.toList.drop 3).take 2).toArray⟩ : Str).cps.toList != [32, 34])) = true := by simpa [bne_iff_ne] using hne
    rw [this]
    k_steps
    rename Fr _ _ _ _ => F₂
    exact Ends.mk ⟨_, rfl⟩ F₂.keep
  · have : (((⟨((x.cps.toList.drop 3).take 2).toArray⟩ : Str).cps.toList != [32, 34])) = false := by simp [heq]
    rw [this]
    k_steps
    refine Hold.out ?_
    rename Fr _ _ _ _ => F₂
    rename News _ _ _ _ => N₂
    refine While_inv2 (fun n m news => news = [] ∧ ∃ (k : Nat) (done rest : List Nat) (td ti tn : Tok), m "resp" = some (.str x t) ∧ m "dirname" = some (.str ⟨done.toArray⟩ td) ∧ m "i" = some (.int ((5 + k : Nat) : Int) ti) ∧ m "n" = some (.int (x.length : Int) tn) ∧
        done ++ rest = r.cps.toList ∧ x.cps.toList.drop (5 + k) = esc rest ++ tl ∧ 5 + k ≤ x.cps.size ∧ done.length ≤ k ∧ n = x.cps.size - (5 + k))
      F₂ N₂ ⟨rfl, 0, [], r.cps.toList, _, _, _, rfl, rfl, rfl, rfl, rfl, hl, by omega, by simp, rfl⟩ ?_
    rintro n m₁ _ h₃ tk₃ F₃ N₃ ⟨rfl, k, done, rest, td, ti, tn, er, ed, ei, en, hdr, hdl, hk, hdk, rfl⟩
    replace F₃ := frSees [("resp", .str x t), ("dirname", .str ⟨done.toArray⟩ td), ("i", .int ((5 + k : Nat) : Int) ti), ("n", .int (x.length : Int) tn)] F₃ ⟨er, ed, ei, en, trivial⟩
    k_steps
    · refine Hold.out ?_
      rename ((5 + k : Nat) : Int) < (x.length : Int) => hlt
      have hk' : 5 + k < x.cps.size := by omega
      refine item_str (fitsSsize_of (N := 9223372036854775808) (by omega) (by omega) (Int.le_refl _)) (by omega) (by omega) fun _ => ?_
      rw [item_nat hk']
      rcases rest with _ | ⟨a, rest⟩
      · rw [esc, List.nil_append] at hdl
        rcases htl with rfl | ⟨r2, rfl, hr2⟩
        · have := congrArg List.length hdl
          rw [List.length_drop, Array.length_toList] at this
          simp at this
          omega
        obtain ⟨g1, g2, g3⟩ := drop_cons hdl
        rw [g1]
        have hdn : r = ⟨done.toArray⟩ := by
          cases r with
          | mk c => rw [List.append_nil] at hdr; exact congrArg Str.mk (by rw [hdr])
        k_steps
        refine Hold.out (eq_yes rfl ?_)
        k_steps
        · dsimp only
          refine step2_brk ?_
          dsimp only
          k_steps
          rename Fr _ _ _ _ => F₅
          exact Ends.mk ⟨_, by rw [hdn]⟩ F₅.keep
        · refine Hold.out ?_
          have hk2 : 5 + k + 1 < x.cps.size := by omega
          have hcast : ((5 + k : Nat) : Int) + 1 = ((5 + k + 1 : Nat) : Int) := by omega
          rw [hcast]
          refine item_str (fitsSsize_of (N := 9223372036854775808) (by omega) (by omega) (Int.le_refl _)) (by omega) (by omega) fun _ => ?_
          rw [item_nat hk2]
          k_steps
          refine Hold.out (ne_yes ?_ ?_)
          · intro e
            have e' : x.cps.getD (5 + k + 1) 0 = 34 := by injection e
            apply hr2
            rw [← g3, List.head?_drop]
            rw [Array.getD_eq_getD_getElem?, Array.getElem?_eq_getElem hk2] at e'
            rw [Array.getElem?_toList, Array.getElem?_eq_getElem hk2]
            exact congrArg some e'
          k_steps
          dsimp only
          refine step2_brk ?_
          dsimp only
          k_steps
          rename Fr _ _ _ _ => F₅
          exact Ends.mk ⟨_, by rw [hdn]⟩ F₅.keep
      · by_cases ha : a = 34
        · subst ha
          rw [esc, if_pos rfl] at hdl
          obtain ⟨g1, g2, g3⟩ := drop_cons hdl
          obtain ⟨q1, q2, q3⟩ := drop_cons g3
          rw [g1]
          k_steps
          refine Hold.out (eq_yes rfl ?_)
          k_steps
          refine Hold.out ?_
          have hcast : ((5 + k : Nat) : Int) + 1 = ((5 + k + 1 : Nat) : Int) := by omega
          rw [hcast]
          refine item_str (fitsSsize_of (N := 9223372036854775808) (by omega) (by omega) (Int.le_refl _)) (by omega) (by omega) fun _ => ?_
          rw [item_nat q2, q1]
          k_steps
          refine Hold.out (ne_no rfl ?_)
          k_steps
          refine Hold.out (PyProof.Rows.add_str (hsz := by rw [sizeLine_eq]; show done.toArray.size + 1 ≤ _; rw [List.size_toArray]; omega) fun t₈ tk₈ => ?_)
          k_steps
          rename Fr _ _ _ _ => F₅
          rename News _ _ _ _ => N₅
          have hcast2 : ((5 + k : Nat) : Int) + 1 + 1 = ((5 + (k + 2) : Nat) : Int) := by omega
          refine ⟨_, _, _, _, _, rfl, F₅, N₅, ?_, rfl, k + 2, done ++ [34], rest, t₈, _, _, rfl, ?_, congrArg (fun z => some (Value.int z _)) hcast2, rfl, ?_, ?_, ?_, ?_, rfl⟩
          · omega
          · exact congrArg (fun z => some (Value.str z t₈)) (str_snoc done 34)
          · rw [List.append_assoc]; exact hdr
          · rw [show 5 + (k + 2) = 5 + k + 1 + 1 by omega]; exact q3
          · omega
          · simp; omega
        · rw [esc, if_neg ha] at hdl
          obtain ⟨g1, g2, g3⟩ := drop_cons hdl
          rw [g1]
          k_steps
          refine Hold.out (eq_no (fun e => ha (by injection e)) ?_)
          k_steps
          refine Hold.out (PyProof.Rows.add_str (hsz := by rw [sizeLine_eq]; show done.toArray.size + 1 ≤ _; rw [List.size_toArray]; omega) fun t₈ tk₈ => ?_)
          k_steps
          rename Fr _ _ _ _ => F₅
          rename News _ _ _ _ => N₅
          have hcast2 : ((5 + k : Nat) : Int) + 1 = ((5 + (k + 1) : Nat) : Int) := by omega
          refine ⟨_, _, _, _, _, rfl, F₅, N₅, ?_, rfl, k + 1, done ++ [a], rest, t₈, _, _, rfl, ?_, congrArg (fun z => some (Value.int z _)) hcast2, rfl, ?_, ?_, ?_, ?_, rfl⟩
          · omega
          · exact congrArg (fun z => some (Value.str z t₈)) (str_snoc done a)
          · rw [List.append_assoc]; exact hdr
          · rw [show 5 + (k + 1) = 5 + k + 1 by omega]; exact g3
          · omega
          · simp; omega
    · rename ¬ ((5 + k : Nat) : Int) < (x.length : Int) => hge
      rw [List.drop_of_length_le (by rw [Array.length_toList]; omega)] at hdl
      have h0 := List.append_eq_nil_iff.mp hdl.symm
      have h1 := esc_nil h0.1
      subst h1
      have hdn : r = ⟨done.toArray⟩ := by
        cases r with
        | mk c => rw [List.append_nil] at hdr; exact congrArg Str.mk (by rw [hdr])
      exact Ends.mk ⟨_, by rw [hdn]⟩ F₃.keep
end Mine
end

section
open PySem PySem.W PyProof.Rows PySem.Calls
set_option maxRecDepth 100000
set_option maxHeartbeats 8000000
namespace Mine
section
local macro_rules | `(tactic| walk_at "call ref") => `(tactic| refine hold ?_)

theorem read_spec {w : World} {A : Around} {s : Shared} {mean mg mb} {E : Value → Shared → Prop} {x r : Str} {t : Tok}
    (KX : (hd.heap_39 w.params).In s.heap) (T : Tp mean mg mb s.heap) (hA : A.handled = none) (hroom : A.depth < 590) (hunits : A.units < 8900)
    (hx : x.cps.size < 1000) (h5 : 5 ≤ x.cps.size) (h3 : x.cps.toList.take 3 = [50, 53, 55])
    (h : ((x.cps.toList.drop 3).take 2 ≠ [32, 34] ∧ r = ⟨#[]⟩) ∨ ((x.cps.toList.drop 3).take 2 = [32, 34] ∧ ∃ tl, TailOk tl ∧ x.cps.toList.drop 5 = esc r.cps.toList ++ tl)) :
    wpAny (model Pg w) A (call (.ref 137) [.str x t] []) (Ends s fun v _ => ∃ t, v = .str r t) E s := by
  have dummy : (fun (_ : OpenLaw) (_ : Params → Frag) => True) PySem.Challenge.rw_zo0023_01 hd.heap_39 := by
    k_fill
    trivial
  refine enter_def (binds := [("reply", .str x t)]) KX T.nolimit (by unfold recursionLimit; omega) rfl (by rfl) (binds_of_peek KX fun S => by kernel_rfl) (by decide) (by rfl) ?_
  intro h₁ F
  have N : News s.heap s.heap.objs.size h₁ [] := News.nil
  k_steps
  refine Hold.out (use (R := fun v _ => ∃ t, v = .str r t) ?_ ?_)
  · exact parse_spec (KX.keeps F.keep) (T.keeps F.keep) (by exact hA) (by show A.depth + 1 < 600; omega) (by show A.units + 3 < 9000; omega) hx h5 h3 h
  rintro v h₂ tk₂ ⟨t₂, rfl⟩ k₂
  have F₂ := frUp F k₂
  dsimp only
  k_steps
  exact Ends.mk ⟨_, rfl⟩ F₂.keep
end

end Mine
end

section
open PySem PySem.W PyProof.Rows PySem.Calls
set_option maxRecDepth 100000
set_option maxHeartbeats 8000000
namespace Mine
/-- the end of a call that lets the frames above take notes of an exception's way -/
def EndsT (fs : List Addr) (s : Shared) (R : Value → Heap → Prop) (v : Value) (s' : Shared) : Prop :=
  R v s'.heap ∧ ∃ h' tk g', s' = { s with heap := h', toks := tk } ∧ KtsTurn fs s.heap g' ∧ KeepsH g' h'
section
local macro_rules | `(tactic| walk_at "leaving ref") => `(tactic| refine hold ?_)
local macro_rules | `(tactic| walk_at "compareOp NotEq str str") => `(tactic| refine hold ?_)
theorem read_err {w : World} {env : Env} {base : Heap} {s : Shared} {mean mg mb} {E : Value → Shared → Prop} {x : Str} {t : Tok}
    (KX : (hd.heap_39 w.params).In s.heap) (T : Tp mean mg mb s.heap) (B : Below (callerA.deeper env) base [env] s.heap) (XB : (hd.heap_39 w.params).In base) (TB : Tp mean mg mb base) (D : KtsDicts ([env].filterMap (·.frame)) s.heap)
    (hx : x.cps.size < 1000) (h5 : 5 ≤ x.cps.size) (h3 : x.cps.toList.take 3 ≠ [50, 53, 55]) :
    wpAny (model Pg w) (callerA.deeper env) (call (.ref 137) [.str x t] []) (EndsT ([env].filterMap (·.frame)) s fun v _ => v = .none) E s := by
  have dummy : (fun (_ : OpenLaw) (_ : Params → Frag) => True) PySem.Challenge.rw_zo0023_01 hd.heap_39 := by
    k_fill
    trivial
  refine enter_def (binds := [("reply", .str x t)]) KX T.nolimit (by show 1 + claimMargin + 1 < recursionLimit; decide) rfl (by rfl) (binds_of_peek KX fun S => by kernel_rfl) (by decide) (by rfl) ?_
  intro h₁ F
  have N : News s.heap s.heap.objs.size h₁ [] := News.nil
  have hxl : x.length = x.cps.size := rfl
  k_steps
  have e1 : Txt.slice x none (some 3) = ⟨(x.cps.toList.take 3).toArray⟩ := slice_to (j := 3) (by omega)
  rw [e1]
  refine Hold.out (ne_yes (fun e => h3 (e.trans (by decide +kernel))) ?_)
  k_steps
  refine Hold.out ?_
  rename Heap.MadeExcOf _ _ _ _ _ => hx'
  rename Below _ _ _ _ => B'
  rename Fr _ _ _ _ => F'
  rename News _ _ _ _ => N'
  refine leave_raiseS B' hx' F' N' (fun h₃ t₃ R₃ _ U₃ => ?_)
  refine caught_SO0 R₃ (by assumption) B U₃ XB TB D KtsTurn.refl (by rfl) (by rfl) (fun h₄ g₄ news₄ T₄ F₄ N₄ _ _ B₄ X₄ P₄ D₄ => ?_)
  clear F' N' F N
  k_steps
  exact ⟨rfl, _, _, g₄, rfl, T₄, F₄.keep⟩
end
end Mine
end

section
open PySem
set_option maxRecDepth 100000
namespace Mine
open Sre
def reCode : Array Nat := #[14, 8, 1, 2, 4294967295, 1, 1, 46, 0, 16, 46, 24, 9, 1, 4294967295, 13, 4, 8, 0, 0, 1, 6, 5, 1]
/-- the machine as it tries a start -/
def St (T : Array Nat) (n p : Nat) (first : Bool) (seen : Seen) : M :=
  { code := reCode, text := T, lim := n, start := p, lastStart := n, pc := 9, pos := p, handed := p, outermost := first, marks := #[], frames := [{ wait := .nextStart, pc := 9, pos := p, outermost := first }], weight := 1, seen := seen }
theorem op9 : ops[reCode.getD 9 0]? = some .LITERAL := by rfl
theorem op11 : ops[reCode.getD 11 0]? = some .REPEAT_ONE := by rfl
theorem op15 : ops[reCode.getD 15 0]? = some .IN := by rfl
theorem op21 : ops[reCode.getD 21 0]? = some .AT := by rfl
theorem op23 : ops[reCode.getD 23 0]? = some .SUCCESS := by rfl
theorem op0 : ops[reCode.getD 0 0]? = some .INFO := by rfl

theorem stepLit (T : Array Nat) (n p : Nat) (first : Bool) (seen : Seen) (hp : p < n) :
    (St T n p first seen).step = if (T.getD p 0 == 46) = true then { St T n p first (seen.add 16) with pc := 11, pos := p + 1 } else { St T n p first (seen.add 16) with answer := some false } := by
  have h1 : ¬ p ≥ n := by omega
  show (if p ≥ n then _ else _) = _
  rw [if_neg h1]
  show (match (Except.ok (T.getD p 0 == 46, _) : Except String (Bool × Seen)) with | .error why => _ | .ok (false, seen) => _ | .ok (true, seen) => _) = _
  cases T.getD p 0 == 46 <;> rfl
theorem stepEnd (T : Array Nat) (n : Nat) (first : Bool) (seen : Seen) :
    (St T n n first seen).step = { St T n n first (seen.add 16) with answer := some false } := by
  show (if n ≥ n then _ else _) = _
  rw [if_pos (Nat.le_refl _)]
  rfl
theorem stepNext (T : Array Nat) (n p x y hd : Nat) (om : Bool) (first : Bool) (seen : Seen) (m : M) (hp : p < n) (hm : m = { St T n p first seen with answer := some false, pc := x, pos := y, handed := hd, outermost := om }) :
    m.step = St T n (p + 1) false seen := by
  subst hm
  show (if p < n then _ else _) = _
  rw [if_pos hp]
  rfl
theorem stepLast (T : Array Nat) (n : Nat) (first : Bool) (seen : Seen) :
    ({ St T n n first seen with answer := some false } : M).step.step.outcome = some .failed := by
  have : ({ St T n n first seen with answer := some false } : M).step = (if n < n then _ else _) := rfl
  rw [this, if_neg (Nat.lt_irrefl _)]
  rfl
/-- a sign's test at the set -/
theorem accDigit (c : Nat) (seen : Seen) : ∃ seen', accepts reCode 15 c seen = .ok (isDigit c, seen') := by
  have h : accepts reCode 15 c seen = (do if ← category 0 c then pure (true, (seen.add 8).add 55) else inSet reCode c 23 19 true ((seen.add 8).add 55)) := rfl
  have h2 : category 0 c = .ok (isDigit c != false) := rfl
  rw [h, h2]
  cases hd : isDigit c
  · exact ⟨_, rfl⟩
  · exact ⟨_, rfl⟩
theorem run0 (T : Array Nat) (p f : Nat) (seen : Seen) : run reCode T 15 0 p f seen = .ok (f, seen) := rfl
theorem runS (T : Array Nat) (k p f : Nat) (seen : Seen) : ∃ seen', run reCode T 15 (k + 1) p f seen = if isDigit (T.getD p 0) = true then run reCode T 15 k (p + 1) (f + 1) seen' else .ok (f, seen') := by
  obtain ⟨s', hs'⟩ := accDigit (T.getD p 0) seen
  refine ⟨s', ?_⟩
  show (do let (yes, seen) ← accepts reCode 15 (T.getD p 0) seen; if yes then run reCode T 15 k (p + 1) (f + 1) seen else pure (f, seen)) = _
  rw [hs']
  cases isDigit (T.getD p 0) <;> rfl
abbrev Dot (T : Array Nat) (n p : Nat) (first : Bool) (seen : Seen) : M := { St T n p first seen with pc := 11, pos := p + 1 }
theorem stepRep (T : Array Nat) (n p : Nat) (first : Bool) (seen : Seen) (r : Nat × Seen) (hp : p + 1 < n) (hr : run reCode T 15 (min 4294967295 (n - (p + 1))) (p + 1) 0 ((seen.add 24).add 13) = .ok r) :
    (Dot T n p first seen).step = if r.1 < 1 then { Dot T n p first r.2 with answer := some false }
      else { Dot T n p first r.2 with pos := p + 1 + r.1, pc := 21, handed := p + 1 + r.1, weight := 2, frames := [{ wait := .giveBack, pc := 11, pos := p + 1 + r.1, outermost := first, count := r.1, kept := { lastmark := -1, lastindex := -1, whole := false, marks := #[] } }, { wait := .nextStart, pc := 9, pos := p, outermost := first }] } := by
  have e : ((n : Int) - ((p + 1 : Nat) : Int)).toNat = n - (p + 1) := by omega
  have h1 : ¬ ((1 : Nat) : Int) > (n : Int) - ((p + 1 : Nat) : Int) := by omega
  show (if ((1 : Nat) : Int) > (n : Int) - ((p + 1 : Nat) : Int) then _ else match run reCode T 15 (min 4294967295 ((n : Int) - ((p + 1 : Nat) : Int)).toNat) (p + 1) 0 ((seen.add 24).add 13) with | .error why => _ | .ok (k, seen) => _) = _
  rw [if_neg h1, e, hr]
  obtain ⟨k, s'⟩ := r
  show (if k < 1 then _ else _) = _
  by_cases hk : k < 1
  · rw [if_pos hk, if_pos hk]
    rfl
  · rw [if_neg hk, if_neg hk]
    rfl
theorem stepRepEnd (T : Array Nat) (n p : Nat) (first : Bool) (seen : Seen) (hp : p + 1 ≥ n) :
    (Dot T n p first seen).step = { Dot T n p first (seen.add 24) with answer := some false } := by
  have h1 : ((1 : Nat) : Int) > (n : Int) - ((p + 1 : Nat) : Int) := by omega
  show (if ((1 : Nat) : Int) > (n : Int) - ((p + 1 : Nat) : Int) then _ else _) = _
  rw [if_pos h1]
  rfl
/-- the machine past the figures -/
abbrev Past (T : Array Nat) (n p : Nat) (first : Bool) (seen : Seen) (k : Nat) : M :=
  { Dot T n p first seen with pos := p + 1 + k, pc := 21, handed := p + 1 + k, weight := 2, frames := [{ wait := .giveBack, pc := 11, pos := p + 1 + k, outermost := first, count := k, kept := { lastmark := -1, lastindex := -1, whole := false, marks := #[] } }, { wait := .nextStart, pc := 9, pos := p, outermost := first }] }
theorem stepAtNo (T : Array Nat) (n p : Nat) (first : Bool) (seen : Seen) (k : Nat) (h : (p + 1 + k == n || (p + 1 + k + 1 == n && T.getD (p + 1 + k) 0 == 10)) = false) :
    ∃ seen', (Past T n p first seen k).step = { Past T n p first seen' k with answer := some false } := by
  refine ⟨(seen.add 6).add 48, ?_⟩
  have hA : M.isAt { Past T n p first seen k with seen := seen.add 6 } 5 = .ok false := by
    show Except.ok (p + 1 + k == n || (p + 1 + k + 1 == n && T.getD (p + 1 + k) 0 == 10)) = _
    rw [h]
  have hs : (Past T n p first seen k).step = (match M.isAt { Past T n p first seen k with seen := seen.add 6 } 5 with
    | .error why => M.stick { Past T n p first seen k with seen := seen.add 6 } why
    | .ok yes => let m : M := { Past T n p first seen k with seen := (seen.add 6).add 48 }; if yes then { m with pc := m.pc + 2 } else m.say false) := rfl
  rw [hs, hA]
  rfl
theorem stepAtYes (T : Array Nat) (n p : Nat) (first : Bool) (seen : Seen) (k : Nat) (h : (p + 1 + k == n || (p + 1 + k + 1 == n && T.getD (p + 1 + k) 0 == 10)) = true) :
    ∃ seen', (Past T n p first seen k).step = { Past T n p first seen' k with pc := 23 } := by
  refine ⟨(seen.add 6).add 48, ?_⟩
  have hA : M.isAt { Past T n p first seen k with seen := seen.add 6 } 5 = .ok true := by
    show Except.ok (p + 1 + k == n || (p + 1 + k + 1 == n && T.getD (p + 1 + k) 0 == 10)) = _
    rw [h]
  have hs : (Past T n p first seen k).step = (match M.isAt { Past T n p first seen k with seen := seen.add 6 } 5 with
    | .error why => M.stick { Past T n p first seen k with seen := seen.add 6 } why
    | .ok yes => let m : M := { Past T n p first seen k with seen := (seen.add 6).add 48 }; if yes then { m with pc := m.pc + 2 } else m.say false) := rfl
  rw [hs, hA]
  rfl
theorem stepGb (T : Array Nat) (n p : Nat) (first : Bool) (seen : Seen) :
    ({ Past T n p first seen 1 with answer := some false } : M).step = { St T n p first seen with answer := some false, pc := 11, pos := p + 2, handed := p + 2, outermost := first } := by
  rfl
theorem stepWon (T : Array Nat) (n p : Nat) (first : Bool) (seen : Seen) (k : Nat) :
    (({ Past T n p first seen k with pc := 23 } : M).step.step.step.step).outcome = some .matched := by
  cases first <;> rfl
def it : Nat → M → M
  | 0, m => m
  | k + 1, m => it k m.step
def Runs (b : Nat) (m : M) (o : Sre.Outcome) : Prop := ∃ k, k ≤ b ∧ (it k m).outcome = some o
theorem Runs.one {b : Nat} {m m' : M} {o : Sre.Outcome} (e : m.step = m') (h : Runs b m' o) : Runs (b + 1) m o := by
  obtain ⟨k, hk, ho⟩ := h
  exact ⟨k + 1, by omega, by show (it k m.step).outcome = _; rw [e]; exact ho⟩
theorem Runs.le {b b' : Nat} {m : M} {o : Sre.Outcome} (h : Runs b m o) (hb : b ≤ b') : Runs b' m o := by
  obtain ⟨k, hk, ho⟩ := h
  exact ⟨k, by omega, ho⟩
/-- does a text end in a dot and one figure -/
def findsL : List Nat → Bool
  | [] => false
  | c :: r => if c = 46 then (match r with | [d] => if isDigit d = true then true else findsL r | _ => findsL r) else findsL r
/-- no two figures side by side, no line's end -/
def OneDig : List Nat → Prop
  | [] => True
  | c :: r => c ≠ 10 ∧ (match r with | [] => True | d :: _ => isDigit c = true → isDigit d = false) ∧ OneDig r
theorem getD_of_drop {l : List Nat} {p c : Nat} {r : List Nat} (h : l.drop p = c :: r) : l.toArray.getD p 0 = c ∧ p < l.length ∧ l.drop (p + 1) = r := by
  have hj : p < l.length := by
    apply Classical.byContradiction
    intro hn
    rw [List.drop_of_length_le (by omega)] at h
    cases h
  rw [List.drop_eq_getElem_cons hj] at h
  injection h with h1 h2
  refine ⟨?_, hj, h2⟩
  simp [Array.getD, hj, h1]
theorem re_runs {l : List Nat} (hn : l.length < 100000) : ∀ (suf : List Nat) (p : Nat) (first : Bool) (seen : Seen), l.drop p = suf → p ≤ l.length → OneDig suf →
    Runs (8 * suf.length + 3) (St l.toArray l.length p first seen) (if findsL suf = true then Sre.Outcome.matched else Sre.Outcome.failed)
  | [], p, first, seen, hd, hp, _ => by
    have : p = l.length := by
      have := congrArg List.length hd
      rw [List.length_drop] at this
      simp at this; omega
    subst this
    exact ⟨3, by simp, by
      show (M.step (M.step (M.step (St l.toArray l.length l.length first seen)))).outcome = _
      rw [stepEnd, stepLast]; rfl⟩
  | c :: r, p, first, seen, hd, hp, ho => by
    obtain ⟨g1, g2, g3⟩ := getD_of_drop hd
    have ih := fun first seen => re_runs hn r (p + 1) first seen g3 (by omega) ho.2.2
    by_cases hc : c = 46
    · subst hc
      have hlit : (St l.toArray l.length p first seen).step = Dot l.toArray l.length p first (seen.add 16) := by
        rw [stepLit _ _ _ _ _ g2, if_pos (by rw [g1]; rfl)]
      rcases r with _ | ⟨d, r'⟩
      · have hlen : p + 1 ≥ l.length := by
          have := congrArg List.length hd
          rw [List.length_drop] at this
          simp at this; omega
        have e : findsL [46] = findsL [] := rfl
        rw [e]
        exact (Runs.one hlit (Runs.one (stepRepEnd _ _ _ _ _ hlen) (Runs.one (stepNext _ _ _ _ _ _ _ _ _ _ g2 rfl) (ih false _)))).le (by simp)
      · obtain ⟨q1, q2, q3⟩ := getD_of_drop g3
        have hmin : min 4294967295 (l.length - (p + 1)) = (l.length - (p + 2)) + 1 := by omega
        obtain ⟨s₁, hs₁⟩ := runS l.toArray (l.length - (p + 2)) (p + 1) 0 (((seen.add 16).add 24).add 13)
        rw [q1] at hs₁
        by_cases hdig : isDigit d = true
        · rw [if_pos hdig] at hs₁
          rcases r' with _ | ⟨e, r''⟩
          · have hlen : l.length = p + 2 := by
              have := congrArg List.length hd
              rw [List.length_drop] at this
              simp at this; omega
            have hr : run reCode l.toArray 15 (min 4294967295 (l.length - (p + 1))) (p + 1) 0 (((seen.add 16).add 24).add 13) = .ok (1, s₁) := by
              rw [hmin, hs₁, show l.length - (p + 2) = 0 by omega]; rfl
            have hst := stepRep l.toArray l.length p first (seen.add 16) (1, s₁) q2 hr
            rw [if_neg (show ¬ (1 < 1) from Nat.lt_irrefl 1)] at hst
            obtain ⟨s₂, hat⟩ := stepAtYes l.toArray l.length p first s₁ 1 (by rw [hlen]; simp)
            have hf : findsL [46, d] = true := by simp [findsL, hdig]
            rw [if_pos hf]
            refine (Runs.one hlit (Runs.one hst (Runs.one hat (⟨4, Nat.le_refl _, ?_⟩ : Runs 4 _ _)))).le (by simp)
            exact stepWon l.toArray l.length p first s₂ 1
          · obtain ⟨z1, z2, z3⟩ := getD_of_drop q3
            have hde : isDigit e = false := ho.2.2.2.1 hdig
            have he10 : e ≠ 10 := ho.2.2.2.2.1
            obtain ⟨s₂, hs₂⟩ := runS l.toArray (l.length - (p + 3)) (p + 1 + 1) 1 s₁
            rw [z1, hde, if_neg (by decide)] at hs₂
            have hr : run reCode l.toArray 15 (min 4294967295 (l.length - (p + 1))) (p + 1) 0 (((seen.add 16).add 24).add 13) = .ok (1, s₂) := by
              rw [hmin, hs₁, show l.length - (p + 2) = l.length - (p + 3) + 1 by omega]; exact hs₂
            have hst := stepRep l.toArray l.length p first (seen.add 16) (1, s₂) q2 hr
            rw [if_neg (show ¬ (1 < 1) from Nat.lt_irrefl 1)] at hst
            obtain ⟨s₃, hat⟩ := stepAtNo l.toArray l.length p first s₂ 1 (by
              have h1 : (p + 1 + 1 == l.length) = false := by simp; omega
              rw [z1, h1]
              simp [he10])
            have hf : findsL (46 :: d :: e :: r'') = findsL (d :: e :: r'') := rfl
            rw [hf]
            exact (Runs.one hlit (Runs.one hst (Runs.one hat (Runs.one (stepGb _ _ _ _ _) (Runs.one (stepNext _ _ _ _ _ _ _ _ _ _ g2 rfl) (ih false _)))))).le (by simp; omega)
        · rw [if_neg hdig] at hs₁
          have hr : run reCode l.toArray 15 (min 4294967295 (l.length - (p + 1))) (p + 1) 0 (((seen.add 16).add 24).add 13) = .ok (0, s₁) := by rw [hmin]; exact hs₁
          have hst := stepRep l.toArray l.length p first (seen.add 16) (0, s₁) q2 hr
          rw [if_pos (show 0 < 1 from Nat.one_pos)] at hst
          have hf : findsL (46 :: d :: r') = findsL (d :: r') := by
            cases r' <;> simp [findsL, hdig]
          rw [hf]
          exact (Runs.one hlit (Runs.one hst (Runs.one (stepNext _ _ _ _ _ _ _ _ _ _ g2 rfl) (ih false _)))).le (by simp; omega)
    · have hlit : (St l.toArray l.length p first seen).step = { St l.toArray l.length p first (seen.add 16) with answer := some false } := by
        rw [stepLit _ _ _ _ _ g2, if_neg (by rw [g1]; simpa using hc)]
      have hf : findsL (c :: r) = findsL r := by simp [findsL, hc]
      rw [hf]
      exact (Runs.one hlit (Runs.one (stepNext _ _ _ _ _ _ _ _ _ _ g2 rfl) (ih false _))).le (by simp; omega)
end Mine
end

section
open PySem PySem.W PyProof.Rows PySem.Calls
set_option maxRecDepth 100000
set_option maxHeartbeats 8000000
namespace Mine
open Builtin.Re
theorem step_done {m : Sre.M} (h : m.outcome.isSome = true) : m.step = m := by
  unfold Sre.M.step
  rw [if_pos h]
theorem it_done {m : Sre.M} (h : m.outcome.isSome = true) : ∀ k, it k m = m
  | 0 => rfl
  | k + 1 => by rw [it, step_done h]; exact it_done h k
theorem runFor_it : ∀ (k : Nat) (m : Sre.M), m.runFor k = it k m
  | 0, _ => rfl
  | k + 1, m => by
    rw [Sre.M.runFor, it]
    by_cases h : m.outcome.isSome = true
    · rw [if_pos h, step_done h, it_done h]
    · rw [if_neg h]; exact runFor_it k _
theorem it_add : ∀ (a b : Nat) (m : Sre.M), it (a + b) m = it b (it a m)
  | 0, b, m => by rw [Nat.zero_add]; rfl
  | a + 1, b, m => by rw [Nat.succ_add]; show it (a + b) m.step = _; rw [it_add a b]; rfl
section
variable {M : Model} {A : Around} {s : Shared} {E : Value → Shared → Prop}
theorem drive_ok {o : Sre.Outcome} {Q : Sre.M → Shared → Prop} : ∀ (t k : Nat) (m : Sre.M), k < 4 * t → (it k m).outcome = some o → (∀ m', m'.outcome = some o → Q m' s) → wpAny M A (reDrive t m) Q E s
  | 0, k, m, hk, _, _ => by omega
  | t + 1, k, m, hk, ho, h => by
    unfold reDrive
    show wpAny M A (if ((m.runFor reTurnSteps).outcome.isSome) = true then pure (m.runFor reTurnSteps) else do rule "sre.turn"; reDrive t (m.runFor reTurnSteps)) Q E s
    rw [show m.runFor reTurnSteps = it 4 m from runFor_it 4 m]
    by_cases h4 : (it 4 m).outcome.isSome = true
    · rw [if_pos h4]
      refine wpAny_pure (h _ ?_)
      by_cases hk4 : k ≤ 4
      · have e : it 4 m = it (4 - k) (it k m) := by rw [← it_add, Nat.add_sub_cancel' hk4]
        rw [e, it_done (by rw [ho]; rfl)]
        exact ho
      · have e : it k m = it (k - 4) (it 4 m) := by rw [← it_add, Nat.add_sub_cancel' (by omega)]
        rw [e, it_done h4] at ho
        exact ho
    · rw [if_neg h4]
      have hk4 : 4 < k := by
        apply Classical.byContradiction
        intro hn
        have e : it 4 m = it (4 - k) (it k m) := by rw [← it_add, Nat.add_sub_cancel' (by omega)]
        rw [e, it_done (by rw [ho]; rfl), ho] at h4
        exact h4 rfl
      refine wpAny_bind (wpAny_rule ?_)
      exact drive_ok t (k - 4) _ (by omega) (by rw [← it_add, Nat.add_sub_cancel' (by omega)]; exact ho) h
theorem forUnit {α : Type} (f : α → PUnit → Sem (ForInStep PUnit)) (hf : ∀ a u (s : Shared) (Q : ForInStep PUnit → Shared → Prop), Q (.yield ⟨⟩) s → wpAny M A (f a u) Q E s) {Q : PUnit → Shared → Prop} (l : List α) (h : Q ⟨⟩ s) : wpAny M A (forIn l ⟨⟩ f) Q E s := by
  induction l with
  | nil => rw [List.forIn_nil]; exact wpAny_pure h
  | cons a r ih => rw [List.forIn_cons]; exact wpAny_bind (hf a ⟨⟩ s _ ih)
theorem runToEnd_ok {o : Sre.Outcome} {k : Nat} {m : Sre.M} {Q : Option Sre.M → Shared → Prop} (hk : k < 2 ^ 62) (ho : (it k m).outcome = some o)
    (h : match o with | .matched => ∀ m', Q (some m') s | .failed => Q none s | .stuck _ => False) : wpAny M A (reRunToEnd m) Q E s := by
  unfold reRunToEnd
  refine wpAny_bind (drive_ok (o := o) _ k m (by omega) ho fun m' hm' => ?_)
  refine wpAny_bind (forUnit _ (fun a u s Q q => ?_) _ ?_)
  · by_cases hs : m'.seen.has a = true
    · simp only [hs, if_true]
      exact wpAny_bind (wpAny_rule (wpAny_pure q))
    · simp only [hs, if_false]
      first
        | exact wpAny_pure q
        | exact wpAny_bind (wpAny_pure (wpAny_pure q))
  · rw [hm']
    cases o with
    | matched => exact wpAny_pure (h m')
    | failed => exact wpAny_pure h
    | stuck w => exact h.elim
end
end Mine
end

section
open PySem PySem.W PyProof.Rows PySem.Calls
set_option maxRecDepth 100000
set_option maxHeartbeats 8000000
namespace Mine
open Builtin.Re
open PySem (Slot)
theorem re_attrs : PlainAttrs "re.Pattern" :=
  ⟨⟨"object.__getattribute__", by rw [typeLookup_type, builtinLookup_eq_fast]; kernel_rfl, by decide +kernel⟩, by rw [typeLookup_type, builtinLookup_eq_fast]; kernel_rfl⟩
theorem re_slot : Slot "re.Pattern" "search" "re.Pattern.search" :=
  .of (owner := "re.Pattern") (n := "search") (by rw [typeLookup_type, builtinLookup_eq_fast]; kernel_rfl) (by decide +kernel) (by decide +kernel) (by decide +kernel)
    (by first | exact .inl (by decide +kernel) | exact .inr (by decide +kernel)) (by rw [isSubtype_type]; kernel_rfl)
theorem re_type : typeOf (.builtin "re.Pattern.search") = pure (.type "method_descriptor") := by show builtinType _ = _; rw [builtinType_eq_fast]; kernel_rfl
theorem re_entry : entryFor table "re.Pattern.search" = some Builtin.«re.Pattern.search» := entryFor_of_tree (by kernel_rfl)
theorem re_args (a b : Value) : argsOk "re.Pattern.search" ⟨[a, b], []⟩ := by unfold argsOk; kernel_rfl
theorem re_named (v : Value) : reNamed "re.Pattern.search" "search" ["string", "pos", "endpos"] 1 [v] [] = pure [some v, none, none] := by rfl
def rePat : Array Value := #[Value.str (Str.ofString "\\.\\d+$") 285, Value.int 256 312, Value.int 0 0, Value.none, Value.none, Value.ref 35, Value.int 0 0]
theorem forSearch_St {T : Array Nat} (h : 2 ≤ T.size) : Sre.forSearch reCode T 0 0 T.size false = St T T.size 0 true (({} : Sre.Seen).add 14) := by
  have h1 : (decide (0 > T.size) || decide (T.size - 0 < 2)) = false := by simp; omega
  show (if (decide (0 > T.size) || decide (T.size - 0 < 2)) = true then _ else _) = _
  rw [h1, if_neg (by decide)]
  rfl
theorem m_noBool : typeLookup (.type "re.Match") "__bool__" = pure none := by rw [typeLookup_type, builtinLookup_eq_fast]; kernel_rfl
theorem m_noLen : typeLookup (.type "re.Match") "__len__" = pure none := by rw [typeLookup_type, builtinLookup_eq_fast]; kernel_rfl
section
variable {prog : Program} {w : World} {A : Around} {s : Shared} {E : Value → Shared → Prop}
theorem wpIfNo {α : Type} {M : Model} {c : Prop} [Decidable c] {x y : Sem α} {Q : α → Shared → Prop} (h : ¬ c) (k : wpAny M A y Q E s) : wpAny M A (if c then x else y) Q E s := by rw [if_neg h]; exact k
theorem call_search {a b : Addr} {cs : Array Value} {oa ob : Obj} {nb : Nat} {x : Str} {t : Tok} {Q : Value → Shared → Prop}
    (ha : s.heap.get? a = some oa) (hc : oa.cls = .type "re.Pattern") (hda : oa.data = .fields #[Value.str (Str.ofString "\\.\\d+$") 285, Value.int 256 312, Value.int 0 0, Value.none, Value.none, Value.ref b, Value.int 0 0])
    (hb : s.heap.get? b = some ob) (hdb : ob.data = .seq cs nb) (hcs : (cs.map reRawOf).map (·.toNat) = reCode)
    (hx : x.cps.size < 100000) (h2 : 2 ≤ x.cps.size) (ho : OneDig x.cps.toList)
    (hno : findsL x.cps.toList = false → Q .none s)
    (hyes : findsL x.cps.toList = true → ∀ h' m om, (∀ b o, s.heap.get? b = some o → h'.get? b = some o) → h'.get? m = some om → om.cls = .type "re.Match" → Q (.ref m) { s with heap := h' }) :
    wpAny (model prog w) A (call (.builtin "re.Pattern.search") [.ref a, .str x t]) Q E s := by
  refine wpAny_call_entry re_slot ⟨oa, ha, hc⟩ re_entry ?_ (re_args _ _)
  unfold Builtin.«re.Pattern.search» reTarget
  dsimp only
  with_reducible refine wpAny_bind ?_
  with_reducible refine wpAny_bind ?_
  with_reducible refine wpAny_of_eq (re_named _) ?_
  dsimp only
  with_reducible refine wpAny_bind ?_
  with_reducible refine wpAny_pure ?_
  with_reducible refine wpAny_bind ?_
  with_reducible refine wpAny_pure ?_
  with_reducible refine wpAny_bind ?_
  with_reducible refine wpAny_fieldsOf ha hda ?_
  with_reducible refine wpAny_bind ?_
  refine wpAny_of_eq (a := (x.cps, 0)) rfl ?_
  refine wpIfNo (show ¬ (false = true) from Bool.false_ne_true) ?_
  refine wpIfNo (show ¬ (false = true) from Bool.false_ne_true) ?_
  with_reducible refine wpAny_bind ?_
  refine wpAny_of_eq (a := ()) rfl ?_
  with_reducible refine wpAny_bind ?_
  show wpAny _ _ (reRawItems (.ref b)) _ _ _
  unfold reRawItems seqItems?
  dsimp only
  with_reducible refine wpAny_bind ?_
  with_reducible refine wpAny_bind ?_
  with_reducible refine wpAny_load hb ?_
  rw [hdb]
  dsimp only
  with_reducible refine wpAny_pure ?_
  with_reducible refine wpAny_pure ?_
  with_reducible refine wpAny_pure ?_
  dsimp only [Option.getD_some]
  rw [hcs]
  have hlim : min ((2 ^ 63 - 1 : Int)).toNat x.cps.size = x.cps.size := by
    have : ((2 ^ 63 - 1 : Int)).toNat = 9223372036854775807 := rfl
    rw [this]; omega
  have hpos : min (Int.toNat 0) x.cps.size = 0 := by simp
  rw [hlim, hpos]
  unfold reAnswer
  dsimp only
  have hg : reRawNat ((#[Value.str (Str.ofString "\\.\\d+$") 285, Value.int 256 312, Value.int 0 0, Value.none, Value.none, Value.ref b, Value.int 0 0] : Array Value).getD 2 .none) = 0 := rfl
  rw [hg, forSearch_St h2]
  have hT : x.cps.toList.toArray = x.cps := Array.toArray_toList
  have hr := re_runs (l := x.cps.toList) (by rw [Array.length_toList]; exact hx) x.cps.toList 0 true (({} : Sre.Seen).add 14) rfl (Nat.zero_le _) ho
  rw [hT, Array.length_toList] at hr
  obtain ⟨k, hk, hko⟩ := hr
  with_reducible refine wpAny_bind ?_
  by_cases hf : findsL x.cps.toList = true
  · rw [if_pos hf] at hko
    refine runToEnd_ok (o := .matched) (k := k) (by omega) hko ?_
    intro m'
    dsimp only
    unfold reNewMatch
    with_reducible refine wpAny_bind ?_
    dsimp only
    refine wpIfNo (show ¬ (false = true) from Bool.false_ne_true) ?_
    with_reducible refine wpAny_bind ?_
    refine wpAny_newTuple ?_ (by rw [sizeLine_eq]; simp [List.range_zero])
    unfold newFields
    refine wpAny_newObj_type ?_ (by size_fits)
    refine wpAny_pure ⟨_, rfl, ?_⟩
    refine hyes hf _ _ _ (fun b o e => Heap.get?_push_of_some _ (Heap.get?_push_of_some _ e)) (Heap.get?_push_size _ rfl) rfl
  · rw [if_neg hf] at hko
    refine runToEnd_ok (o := .failed) (k := k) (by omega) hko ?_
    dsimp only
    have := hno (by simpa using hf)
    exact wpAny_pure ⟨_, rfl, this⟩
end
end Mine
end

section
open PySem PySem.W PyProof.Rows PySem.Calls
set_option maxRecDepth 100000
set_option maxHeartbeats 8000000
namespace Mine
local macro_rules | `(tactic| walk_at "compareOp Eq str str") => `(tactic| refine hold ?_)
local macro_rules | `(tactic| walk_at "getMethod ref") => `(tactic| refine hold ?_)
theorem item_last {x : Str} (h : 0 < x.cps.size) : Txt.item x (-1) = ⟨#[x.cps.getD (x.cps.size - 1) 0]⟩ := by
  have hl : x.length = x.cps.size := rfl
  have h1 : seqIndex? (-1) x.length = some (x.cps.size - 1) := by
    unfold seqIndex?
    have : (decide (0 ≤ (-1 : Int) + (x.length : Int)) && decide ((-1 : Int) + (x.length : Int) < (x.length : Int))) = true := by simp; omega
    simp only [if_pos (show (-1 : Int) < 0 by omega), this, if_true]
    congr 1; omega
  unfold Txt.item Txt.charAt
  rw [h1, Option.bind_some, Array.getElem?_eq_getElem (show x.cps.size - 1 < x.cps.size by omega), Option.getD_some, Array.getD_eq_getD_getElem?, Array.getElem?_eq_getElem (show x.cps.size - 1 < x.cps.size by omega)]
  rfl
theorem truthy_match {prog : Program} {w : World} {A : Around} {s : Shared} {E : Value → Shared → Prop} {m : Addr} {om : Obj} {Q : Bool → Shared → Prop} (hm : s.heap.get? m = some om) (hc : om.cls = .type "re.Match") (h : Q true s) :
    wpAny (model prog w) A (truthy (.ref m)) Q E s := by
  have hT : s.TypeIs (.ref m) "re.Match" := ⟨om, hm, hc⟩
  unfold truthy
  dsimp only
  refine wpAny_bind ?_
  unfold callSpecial?
  refine wpAny_bind (wpAny_specialOf hT m_noBool ?_)
  refine wpAny_pure ?_
  dsimp only
  refine wpAny_bind (wpAny_specialOf hT m_noLen ?_)
  exact wpAny_pure h
local macro_rules | `(tactic| walk_at "call builtin:re.Pattern.search") => `(tactic| refine hold ?_)
theorem hdn_spec {w : World} {A : Around} {s : Shared} {mean mg mb} {E : Value → Shared → Prop} {x : Str} {t : Tok}
    (KX : (hd.heap_39 w.params).In s.heap) (T : Tp mean mg mb s.heap) (hA : A.handled = none) (hroom : A.depth < 600) (hunits : A.units < 9000)
    (hx : x.cps.size < 1000) (h0 : 2 ≤ x.cps.size) (ho : OneDig x.cps.toList) (hfst : x.cps.toList.head? ≠ some 46) (hlst : x.cps.toList.getLast? ≠ some 46) :
    wpAny (model Pg w) A (call (.ref 43) [.str x t] []) (Ends s fun v _ => v = .bool (!findsL x.cps.toList)) E s := by
  have dummy : (fun (_ : OpenLaw) (_ : Params → Frag) => True) PySem.Challenge.rw_zo0023_01 hd.heap_39 := by
    k_fill
    trivial
  refine enter_def (binds := [("text", .str x t)]) KX T.nolimit (by unfold recursionLimit; omega) rfl (by rfl) (binds_of_peek KX fun S => by kernel_rfl) (by decide) (by rfl) ?_
  intro h₁ F
  have N : News s.heap s.heap.objs.size h₁ [] := News.nil
  have hxl : x.length = x.cps.size := rfl
  k_steps
  refine Hold.out ?_
  have k₁ := F.keep
  refine getMethod_builtin (id := "re.Pattern.search") ⟨_, k₁ _ _ (KX 36 _ rfl), rfl⟩ re_attrs re_slot re_type (fun a e => by cases e; exact ⟨_, k₁ _ _ (KX 36 _ rfl), rfl⟩) ?_
  k_steps
  refine Hold.out ?_
  refine call_search (k₁ _ _ (KX 36 _ rfl)) rfl rfl (k₁ _ _ (KX 35 _ rfl)) rfl (by simp [reCode, Builtin.Re.reRawOf]) (by omega) (by omega) ho (fun hf => ?_) (fun hf h₂ m om k₂ hm hc => ?_)
  · rw [hf]
    k_steps
    refine Hold.out (eq_no (fun e => ?_) ?_)
    · have := congrArg List.length e
      rw [Array.length_toList] at this
      have h9 : (Str.ofString "").cps.toList.length = 0 := by decide +kernel
      omega
    k_steps
    have i0 : Txt.item x 0 = ⟨#[x.cps.getD 0 0]⟩ := item_nat (k := 0) (by omega)
    rw [i0]
    refine Hold.out (eq_no (fun e => ?_) ?_)
    · have e' : x.cps.getD 0 0 = 46 := by injection e
      apply hfst
      rw [← e', Array.getD_eq_getD_getElem?, List.head?_eq_getElem?, Array.getElem?_toList, Array.getElem?_eq_getElem (by omega)]
      rfl
    k_steps
    rw [item_last (by omega)]
    refine Hold.out (eq_no (fun e => ?_) ?_)
    · have e' : x.cps.getD (x.cps.size - 1) 0 = 46 := by injection e
      apply hlst
      rw [← e', Array.getD_eq_getD_getElem?, List.getLast?_eq_getElem?, Array.length_toList, Array.getElem?_toList, Array.getElem?_eq_getElem (by omega)]
      rfl
    k_steps
    rename Fr _ _ _ _ => F₃
    exact Ends.mk rfl F₃.keep
  · rw [hf]
    replace F := frUp F k₂
    replace N := newsUp N k₂
    refine truthy_match hm hc ?_
    k_steps
    exact Ends.mk rfl F.keep
end Mine
end

section
open PySem PySem.W PyProof.Rows PySem.Calls
set_option maxRecDepth 100000
set_option maxHeartbeats 8000000
namespace Mine
local macro_rules | `(tactic| walk_at "compareOp Eq str str") => `(tactic| refine hold ?_)
local macro_rules | `(tactic| walk_at "call ref") => `(tactic| refine hold ?_)
theorem find_at {x : Str} {i : Nat} (h : x.cps.toList[i]? = some 46) (hn : ∀ k, k < i → x.cps.toList[k]? ≠ some 46) : Txt.find x (Str.ofString ".") = (i : Int) := by
  have hs : Str.ofString "." = ⟨#[46]⟩ := by decide +kernel
  rw [hs]
  rcases PyProof.Rows.find_whole x ⟨#[46]⟩ with ⟨_, h2⟩ | ⟨j, h1, h2, h3⟩
  · exact absurd ((StrLaws.subAt_one x 46 i).mpr h) (h2 i)
  · rw [h1]
    rcases Nat.lt_trichotomy i j with hij | rfl | hij
    · exact absurd ((StrLaws.subAt_one x 46 i).mpr h) (h3 i hij)
    · rfl
    · exact absurd ((StrLaws.subAt_one x 46 j).mp h2) (hn j hij)
theorem find_no {x : Str} (hn : ∀ k : Nat, x.cps.toList[k]? ≠ some 46) : Txt.find x (Str.ofString ".") = -1 := by
  have hs : Str.ofString "." = ⟨#[46]⟩ := by decide +kernel
  rw [hs]
  rcases PyProof.Rows.find_whole x ⟨#[46]⟩ with ⟨h1, _⟩ | ⟨j, _, h2, _⟩
  · exact h1
  · exact absurd ((StrLaws.subAt_one x 46 j).mp h2) (hn j)
def afterDot : List Nat → Option (List Nat)
  | [] => none
  | c :: r => if c = 46 then some r else afterDot r
theorem afterDot_some : ∀ {l b : List Nat}, afterDot l = some b → ∃ i : Nat, l[i]? = some 46 ∧ (∀ k, k < i → l[k]? ≠ some 46) ∧ b = l.drop (i + 1)
  | c :: r, b, h => by
    rw [afterDot] at h
    by_cases hc : c = 46
    · rw [if_pos hc] at h
      cases h
      exact ⟨0, by simp [hc], fun k hk => by omega, rfl⟩
    · rw [if_neg hc] at h
      obtain ⟨i, h1, h2, h3⟩ := afterDot_some h
      refine ⟨i + 1, by simpa using h1, fun k hk => ?_, by simpa using h3⟩
      cases k with
      | zero => simpa using hc
      | succ k => simpa using h2 k (by omega)
theorem afterDot_none : ∀ {l : List Nat}, afterDot l = none → ∀ k : Nat, l[k]? ≠ some 46
  | [], _, k => by simp
  | c :: r, h, k => by
    rw [afterDot] at h
    by_cases hc : c = 46
    · rw [if_pos hc] at h; cases h
    · rw [if_neg hc] at h
      cases k with
      | zero => simpa using hc
      | succ k => simpa using afterDot_none h k
/-- what reach tells -/
def reachL (l : List Nat) : List Nat := match afterDot l with
  | none => l
  | some b => if (!findsL l && ((afterDot b).isSome || b == [108, 111, 99, 97, 108])) = true then 46 :: b else l
theorem reach_spec {w : World} {A : Around} {s : Shared} {mean mg mb} {E : Value → Shared → Prop} {x : Str} {t : Tok}
    (KX : (hd.heap_39 w.params).In s.heap) (T : Tp mean mg mb s.heap) (hA : A.handled = none) (hroom : A.depth < 590) (hunits : A.units < 8900)
    (hx : x.cps.size < 1000) (h0 : 2 ≤ x.cps.size) (ho : OneDig x.cps.toList) (hfst : x.cps.toList.head? ≠ some 46) (hlst : x.cps.toList.getLast? ≠ some 46) :
    wpAny (model Pg w) A (call (.ref 50) [.str x t] []) (Ends s fun v _ => ∃ t, v = .str ⟨(reachL x.cps.toList).toArray⟩ t) E s := by
  have dummy : (fun (_ : OpenLaw) (_ : Params → Frag) => True) PySem.Challenge.rw_zo0023_01 hd.heap_39 := by
    k_fill
    trivial
  refine enter_def (binds := [("h", .str x t)]) KX T.nolimit (by unfold recursionLimit; omega) rfl (by rfl) (binds_of_peek KX fun S => by kernel_rfl) (by decide) (by rfl) ?_
  intro h₁ F
  have N : News s.heap s.heap.objs.size h₁ [] := News.nil
  have hxl : x.length = x.cps.size := rfl
  have hxx : x = ⟨x.cps.toList.toArray⟩ := by rw [Array.toArray_toList]
  cases had : afterDot x.cps.toList with
  | none =>
    have hr : reachL x.cps.toList = x.cps.toList := by unfold reachL; rw [had]
    have hf := find_no (afterDot_none had)
    k_steps
    rename Fr _ _ _ _ => F₂
    exact Ends.mk ⟨_, by rw [hr, ← hxx]⟩ F₂.keep
  | some b =>
    obtain ⟨i, hi1, hi2, hb⟩ := afterDot_some had
    have hf := find_at hi1 hi2
    have hilt : i < x.cps.size := by
      have := (List.getElem?_eq_some_iff.mp hi1).1
      rwa [Array.length_toList] at this
    have hsl : Txt.slice x (some ((i : Int) + 1)) none = ⟨b.toArray⟩ := by
      rw [slice_from_eq (b := x.length) (by omega) (by omega) rfl]
      have e1 : ((i : Int) + 1).toNat = i + 1 := by omega
      have e2 : ((x.length : Int) - ((i : Int) + 1)).toNat = x.cps.size - (i + 1) := by omega
      rw [e1, e2, hb, List.take_of_length_le (by rw [List.length_drop, Array.length_toList]; exact Nat.le_refl _)]
    have hbl : b.length = x.cps.size - (i + 1) := by rw [hb, List.length_drop, Array.length_toList]
    k_steps
    refine Hold.out (use (R := fun v _ => v = .bool (!findsL x.cps.toList)) ?_ ?_)
    · rename Fr _ _ _ _ => F₂
      exact hdn_spec (KX.keeps F₂.keep) (T.keeps F₂.keep) (by exact hA) (by show A.depth + 1 < 600; omega) (by show A.units + 3 < 9000; omega) hx h0 ho hfst hlst
    rintro v₃ h₃ tk₃ rfl k₃
    rename Fr _ _ _ _ => F₂
    rename News _ _ _ _ => N₂
    replace F₂ := frUp F₂ k₃
    replace N₂ := newsUp N₂ k₃
    rw [hf, hsl] at F₂
    dsimp only
    have hdot : Str.ofString "." = ⟨#[46]⟩ := by decide +kernel
    cases hfl : findsL x.cps.toList
    · have hr : reachL x.cps.toList = if ((afterDot b).isSome || b == [108, 111, 99, 97, 108]) = true then 46 :: b else x.cps.toList := by unfold reachL; rw [had]; simp [hfl]
      have hadd : Str.ofString "." ++ (⟨b.toArray⟩ : Str) = ⟨(46 :: b).toArray⟩ := by
        rw [hdot]
        show Str.mk (#[46] ++ b.toArray) = _
        congr 1
        apply Array.ext'
        simp
      cases hab : afterDot b with
      | some b' =>
        obtain ⟨j, hj1, hj2, _⟩ := afterDot_some hab
        have hfb : Txt.find (⟨b.toArray⟩ : Str) (Str.ofString ".") = (j : Int) := find_at (x := ⟨b.toArray⟩) (by simpa using hj1) (fun k hk => by simpa using hj2 k hk)
        rw [hab] at hr
        rw [hfb] at F₂
        k_steps
        have hr2 : reachL x.cps.toList = 46 :: b := by rw [hr]; simp
        rename Fr _ _ _ _ => F₅
        exact Ends.mk ⟨_, by rw [hadd, hr2]⟩ F₅.keep
      | none =>
        have hfb : Txt.find (⟨b.toArray⟩ : Str) (Str.ofString ".") = -1 := find_no (x := ⟨b.toArray⟩) (fun k => by simpa using afterDot_none hab k)
        rw [hab] at hr
        rw [hfb] at F₂
        k_steps
        refine Hold.out ?_
        by_cases hloc : b = [108, 111, 99, 97, 108]
        · refine eq_yes (by subst hloc; decide +kernel) ?_
          k_steps
          have hr2 : reachL x.cps.toList = 46 :: b := by rw [hr]; simp [hloc]
          rename Fr _ _ _ _ => F₅
          exact Ends.mk ⟨_, by rw [hadd, hr2]⟩ F₅.keep
        · refine eq_no (fun e => hloc (by simpa using e.trans (show (Str.ofString "local").cps.toList = [108, 111, 99, 97, 108] by decide +kernel))) ?_
          k_steps
          have hr2 : reachL x.cps.toList = x.cps.toList := by rw [hr]; simp [hloc]
          rename Fr _ _ _ _ => F₅
          exact Ends.mk ⟨_, by rw [hr2, ← hxx]⟩ F₅.keep
    · have hr : reachL x.cps.toList = x.cps.toList := by unfold reachL; rw [had]; simp [hfl]
      k_steps
      rename Fr _ _ _ _ => F₄
      exact Ends.mk ⟨_, by rw [hr, ← hxx]⟩ F₄.keep
end Mine
end

section
open PySem PySem.W PyProof.Rows PySem.Calls
set_option maxRecDepth 100000
set_option maxHeartbeats 8000000
namespace Mine
def signs7 : List Nat := [33, 34, 45, 55, 65, 97, 122]
theorem sign_ok : ∀ c ∈ signs7, c < 128 ∧ c ≠ 46 ∧ c ≠ 10 := by decide
def FigOk (f : Str) (b : Nat) : Prop := f.cps.size = b ∧ (∀ i j, i < j → j < b → f.cps.getD i 0 < f.cps.getD j 0) ∧ ∀ i, i < b → f.cps.getD i 0 ∈ signs7
def FigsOk : List Str → List Nat → Prop
  | [], [] => True
  | f :: fs, b :: bs => (FigOk f b ∧ 2 ≤ b ∧ b ≤ 4) ∧ FigsOk fs bs
  | _, _ => False
def tops : List (List Nat) := [[108, 111, 99, 97, 108], [99, 111, 46, 110, 101, 116], [110, 101, 116], [48, 46, 55]]
theorem fig_lt {f : Str} {b i j : Nat} (h : FigOk f b) (hi : i < b) (hj : j < b) : (f.cps.getD i 0 < f.cps.getD j 0 ↔ i < j) := by
  constructor
  · intro h1
    rcases Nat.lt_trichotomy i j with h2 | h2 | h2
    · exact h2
    · subst h2; exact absurd h1 (Nat.lt_irrefl _)
    · exact absurd (Nat.lt_trans h1 (h.2.1 j i h2 hi)) (Nat.lt_irrefl _)
  · exact fun h1 => h.2.1 i j h1 hj
theorem fig_eq {f : Str} {b i j : Nat} (h : FigOk f b) (hi : i < b) (hj : j < b) (e : f.cps.getD i 0 = f.cps.getD j 0) : i = j := by
  rcases Nat.lt_trichotomy i j with h2 | h2 | h2
  · have := h.2.1 i j h2 hj; omega
  · exact h2
  · have := h.2.1 j i h2 hi; omega
theorem host_lt (top : Str) : ∀ {fs : List Str} {bs : List Nat}, FigsOk fs bs → ∀ i j, i < prodN bs → j < prodN bs → (hostL fs bs i top < hostL fs bs j top ↔ keyLt bs i j = true)
  | [], [], _, i, j, hi, hj => by
    simp [hostL, keyLt]
  | f :: fs, b :: bs, h, i, j, hi, hj => by
    have hb : 0 < b := by have := h.1.2.1; omega
    have ih := host_lt top h.2 (i / b) (j / b) (Nat.div_lt_of_lt_mul hi) (Nat.div_lt_of_lt_mul hj)
    have hmi := Nat.mod_lt i hb
    have hmj := Nat.mod_lt j hb
    rw [hostL, hostL, List.cons_lt_cons_iff, List.cons_lt_cons_iff, fig_lt h.1.1 hmi hmj, ih, keyLt]
    rcases Nat.lt_trichotomy (i % b) (j % b) with h2 | h2 | h2
    · simp [h2]
    · rw [h2]; simp
    · have h3 : ¬ i % b < j % b := by omega
      have h4 : f.cps.getD (i % b) 0 ≠ f.cps.getD (j % b) 0 := fun e => by have := fig_eq h.1.1 hmi hmj e; omega
      generalize f.cps.getD (i % b) 0 = ci at *
      generalize f.cps.getD (j % b) 0 = cj at *
      simp [h3, h2, h4]
  | [], _ :: _, h, _, _, _, _ => h.elim
  | _ :: _, [], h, _, _, _, _ => h.elim
theorem host_len (top : Str) : ∀ {fs : List Str} {bs : List Nat}, FigsOk fs bs → ∀ i, (hostL fs bs i top).length = 2 * bs.length + top.cps.size
  | [], [], _, i => by simp [hostL]
  | f :: fs, b :: bs, h, i => by
    rw [hostL, List.length_cons, List.length_cons, host_len top h.2, List.length_cons]; omega
  | [], _ :: _, h, _ => h.elim
  | _ :: _, [], h, _ => h.elim
theorem host_asc {top : Str} (ht : ∀ c ∈ top.cps.toList, c < 128) : ∀ {fs : List Str} {bs : List Nat}, FigsOk fs bs → ∀ i, ∀ c ∈ hostL fs bs i top, c < 128
  | [], [], _, i => by simpa [hostL] using ht
  | f :: fs, b :: bs, h, i => by
    intro c hc
    rw [hostL] at hc
    rcases List.mem_cons.mp hc with rfl | hc
    · exact (sign_ok _ (h.1.1.2.2 (i % b) (Nat.mod_lt _ (by have := h.1.2.1; omega)))).1
    · rcases List.mem_cons.mp hc with rfl | hc
      · omega
      · exact host_asc ht h.2 _ c hc
  | [], _ :: _, h, _ => h.elim
  | _ :: _, [], h, _ => h.elim

open Builtin.Bytes (order)
theorem order_self : ∀ x : List UInt8, order x x = .eq
  | [] => rfl
  | a :: r => by simp [order, UInt8.lt_irrefl, order_self r]
theorem order_app : ∀ {x y s t : List UInt8}, x.length = y.length → order (x ++ s) (y ++ t) = (match order x y with | .eq => order s t | o => o)
  | [], [], s, t, _ => rfl
  | a :: x, b :: y, s, t, h => by
    have ih := @order_app x y s t (by simpa using h)
    simp only [List.cons_append, order]
    by_cases h1 : a < b
    · simp [h1]
    · by_cases h2 : a > b
      · simp [h1, h2]
      · simp only [h1, h2, if_false]; exact ih
  | [], _ :: _, _, _, h => by simp at h
  | _ :: _, [], _, _, h => by simp at h
def revO (l : List Nat) : List UInt8 := (l.map Nat.toUInt8).reverse
theorem revO_cons (c : Nat) (l : List Nat) : revO (c :: 46 :: l) = revO l ++ [46, c.toUInt8] := by simp [revO]
theorem u8_lt {a b : Nat} (ha : a < 256) (hb : b < 256) : (a.toUInt8 < b.toUInt8 ↔ a < b) := by
  rw [UInt8.lt_iff_toNat_lt]
  simp [Nat.toUInt8, UInt8.toNat_ofNat', Nat.mod_eq_of_lt ha, Nat.mod_eq_of_lt hb]
theorem order_one {c d : Nat} (hc : c < 256) (hd : d < 256) : order [46, c.toUInt8] [46, d.toUInt8] = if c < d then .lt else if d < c then .gt else .eq := by
  have h0 : ¬ ((46 : UInt8) < 46) := UInt8.lt_irrefl _
  simp only [order, h0, gt_iff_lt, if_false, u8_lt hc hd, u8_lt hd hc]
theorem host_rev (top : Str) : ∀ {fs : List Str} {bs : List Nat}, FigsOk fs bs → ∀ i j, i < prodN bs → j < prodN bs →
    order (revO (hostL fs bs i top)) (revO (hostL fs bs j top)) = if i < j then .lt else if j < i then .gt else .eq
  | [], [], _, i, j, hi, hj => by
    have e1 : i = 0 := by simp [prodN] at hi; omega
    have e2 : j = 0 := by simp [prodN] at hj; omega
    subst e1; subst e2
    simp [hostL, order_self]
  | f :: fs, b :: bs, h, i, j, hi, hj => by
    have hb : 0 < b := by have := h.1.2.1; omega
    have ih := host_rev top h.2 (i / b) (j / b) (Nat.div_lt_of_lt_mul hi) (Nat.div_lt_of_lt_mul hj)
    have hmi := Nat.mod_lt i hb
    have hmj := Nat.mod_lt j hb
    have ci : f.cps.getD (i % b) 0 < 256 := Nat.lt_trans (sign_ok _ (h.1.1.2.2 _ hmi)).1 (by decide)
    have cj : f.cps.getD (j % b) 0 < 256 := Nat.lt_trans (sign_ok _ (h.1.1.2.2 _ hmj)).1 (by decide)
    have lij := fig_lt h.1.1 hmi hmj
    have lji := fig_lt h.1.1 hmj hmi
    have eij := fig_eq h.1.1 hmi hmj
    have hl : (revO (hostL fs bs (i / b) top)).length = (revO (hostL fs bs (j / b) top)).length := by simp [revO, host_len top h.2]
    have di := Nat.div_add_mod i b
    have dj := Nat.div_add_mod j b
    rw [hostL, hostL, revO_cons, revO_cons, order_app hl, ih, order_one ci cj]
    have eji : i % b = j % b → f.cps.getD (i % b) 0 = f.cps.getD (j % b) 0 := fun e => by rw [e]
    generalize f.cps.getD (i % b) 0 = p at *
    generalize f.cps.getD (j % b) 0 = q at *
    rcases Nat.lt_trichotomy (i / b) (j / b) with h1 | h1 | h1
    · have : i < j := by
        have := Nat.mul_le_mul_left b h1
        rw [Nat.mul_succ] at this
        omega
      simp [h1, this]
    · have h2 : ¬ i / b < j / b := by omega
      have h3 : ¬ j / b < i / b := by omega
      simp only [h2, h3, if_false]
      rw [h1] at di
      rcases Nat.lt_trichotomy (i % b) (j % b) with h4 | h4 | h4
      · have := lij.mpr h4
        have h5 : i < j := by omega
        simp [this, h5]
      · have h5 : i = j := by omega
        have h6 := eji h4
        subst h6
        have h7 : ¬ i < j := by omega
        have h8 : ¬ j < i := by omega
        simp [h7, h8]
      · have := lji.mpr h4
        have h5 : j < i := by omega
        have h6 : ¬ i < j := by omega
        have h7 : ¬ p < q := by omega
        simp [this, h5, h6, h7]
    · have h2 : ¬ i / b < j / b := by omega
      have h5 : j < i := by
        have := Nat.mul_le_mul_left b h1
        rw [Nat.mul_succ] at this
        omega
      have h6 : ¬ i < j := by omega
      simp [h1, h2, h5, h6]
  | [], _ :: _, h, _, _, _, _ => h.elim
  | _ :: _, [], h, _, _, _, _ => h.elim
end Mine
namespace Mine
theorem oneDig_cons {c : Nat} {l : List Nat} (hc : c ≠ 10) (h : OneDig l) : OneDig (c :: 46 :: l) := by
  refine ⟨hc, fun _ => by decide, by decide, ?_, h⟩
  cases l with
  | nil => trivial
  | cons d r => exact fun e => by simp [Sre.isDigit] at e
theorem host_oneDig {top : Str} (ht : OneDig top.cps.toList) : ∀ {fs : List Str} {bs : List Nat}, FigsOk fs bs → ∀ i, OneDig (hostL fs bs i top)
  | [], [], _, i => by simpa [hostL] using ht
  | f :: fs, b :: bs, h, i => by
    rw [hostL]
    exact oneDig_cons (sign_ok _ (h.1.1.2.2 (i % b) (Nat.mod_lt _ (by have := h.1.2.1; omega)))).2.2 (host_oneDig ht h.2 _)
  | [], _ :: _, h, _ => h.elim
  | _ :: _, [], h, _ => h.elim
theorem findsL_skip {c : Nat} {l : List Nat} (hc : c ≠ 46) (hl : 2 ≤ l.length) : findsL (c :: 46 :: l) = findsL l := by
  match l, hl with
  | d :: e :: r, _ =>
    have h1 : findsL (c :: 46 :: d :: e :: r) = if c = 46 then findsL (46 :: d :: e :: r) else findsL (46 :: d :: e :: r) := rfl
    rw [h1, if_neg hc]
    rfl
theorem host_finds {top : Str} (ht : 2 ≤ top.cps.size) : ∀ {fs : List Str} {bs : List Nat}, FigsOk fs bs → ∀ i, findsL (hostL fs bs i top) = findsL top.cps.toList
  | [], [], _, i => by simp [hostL]
  | f :: fs, b :: bs, h, i => by
    rw [hostL, findsL_skip (sign_ok _ (h.1.1.2.2 (i % b) (Nat.mod_lt _ (by have := h.1.2.1; omega)))).2.1 (by rw [host_len top h.2]; omega)]
    exact host_finds ht h.2 _
  | [], _ :: _, h, _ => h.elim
  | _ :: _, [], h, _ => h.elim
theorem host_last {top : Str} (ht : 2 ≤ top.cps.size) (hl : top.cps.toList.getLast? ≠ some 46) : ∀ {fs : List Str} {bs : List Nat}, FigsOk fs bs → ∀ i, (hostL fs bs i top).getLast? ≠ some 46
  | [], [], _, i => by simpa [hostL] using hl
  | f :: fs, b :: bs, h, i => by
    have ih := host_last ht hl h.2 (i / b)
    have hlen := host_len top h.2 (i / b)
    rw [hostL]
    match hr : hostL fs bs (i / b) top with
    | [] => rw [hr] at hlen; simp at hlen; omega
    | d :: r => rw [hr] at ih; simpa [List.getLast?_cons_cons] using ih
  | [], _ :: _, h, _ => h.elim
  | _ :: _, [], h, _ => h.elim
theorem host_head {top : Str} (hl : top.cps.toList.head? ≠ some 46) : ∀ {fs : List Str} {bs : List Nat}, FigsOk fs bs → ∀ i, (hostL fs bs i top).head? ≠ some 46
  | [], [], _, i => by simpa [hostL] using hl
  | f :: fs, b :: bs, h, i => by
    rw [hostL]
    have := (sign_ok _ (h.1.1.2.2 (i % b) (Nat.mod_lt _ (by have := h.1.2.1; omega)))).2.1
    intro e
    rw [List.head?_cons] at e
    exact this (Option.some.inj e)
  | [], _ :: _, h, _ => h.elim
  | _ :: _, [], h, _ => h.elim
/-- reach on a host of one figure at least -/
theorem host_reach {top f : Str} {fs : List Str} {b : Nat} {bs : List Nat} (ht : 2 ≤ top.cps.size) (h : FigsOk (f :: fs) (b :: bs)) (i : Nat) :
    reachL (hostL (f :: fs) (b :: bs) i top) = if (!findsL top.cps.toList && ((afterDot (hostL fs bs (i / b) top)).isSome || hostL fs bs (i / b) top == [108, 111, 99, 97, 108])) = true then 46 :: hostL fs bs (i / b) top else hostL (f :: fs) (b :: bs) i top := by
  have hc := (sign_ok _ (h.1.1.2.2 (i % b) (Nat.mod_lt _ (by have := h.1.2.1; omega)))).2.1
  have hf := host_finds ht h i
  unfold reachL
  rw [hf]
  have had : afterDot (hostL (f :: fs) (b :: bs) i top) = some (hostL fs bs (i / b) top) := by
    rw [hostL, afterDot, if_neg hc, afterDot, if_pos rfl]
  rw [had]
/-- the tops -/
structure TopOk (top : Str) : Prop where
  is : top.cps.toList ∈ tops
theorem tops_facts : ∀ l ∈ tops, 2 ≤ l.length ∧ l.length < 100 ∧ (∀ c ∈ l, c < 128) ∧ l.head? ≠ some 46 ∧ l.getLast? ≠ some 46 ∧ reachL l = l := by decide +kernel
theorem tops_dig : ∀ l ∈ tops, OneDig l := by
  intro l hl
  simp only [tops, List.mem_cons, List.not_mem_nil, or_false] at hl
  rcases hl with rfl | rfl | rfl | rfl <;> simp [OneDig, Sre.isDigit]
theorem esc_free : ∀ {p : List Nat} (l : List Nat), 34 ∉ p → esc (p ++ l) = p ++ esc l
  | [], _, _ => rfl
  | c :: p, l, h => by
    have hc : c ≠ 34 := fun e => h (by rw [e]; exact .head _)
    rw [List.cons_append, esc, if_neg hc, esc_free l fun m => h (.tail _ m)]
    rfl
theorem esc_join : ∀ ps : List Str, (∀ p ∈ ps, 34 ∉ p.cps.toList) → esc (Str.join ⟨#[34]⟩ ps).cps.toList = (Str.join ⟨#[34, 34]⟩ ps).cps.toList
  | [], _ => rfl
  | [p], h => by
    rw [join_one, join_one]
    have := esc_free [] (h p (.head _))
    simpa [esc] using this
  | p :: q :: r, h => by
    rw [join_cons_cons, join_cons_cons]
    have e1 : (p ++ (⟨#[34]⟩ : Str) ++ Str.join ⟨#[34]⟩ (q :: r)).cps.toList = p.cps.toList ++ 34 :: (Str.join ⟨#[34]⟩ (q :: r)).cps.toList := by
      show ((p.cps ++ #[34]) ++ (Str.join ⟨#[34]⟩ (q :: r)).cps).toList = _
      simp
    have e2 : (p ++ (⟨#[34, 34]⟩ : Str) ++ Str.join ⟨#[34, 34]⟩ (q :: r)).cps.toList = p.cps.toList ++ 34 :: 34 :: (Str.join ⟨#[34, 34]⟩ (q :: r)).cps.toList := by
      show ((p.cps ++ #[34, 34]) ++ (Str.join ⟨#[34, 34]⟩ (q :: r)).cps).toList = _
      simp
    rw [e1, e2, esc_free _ (h p (.head _)), ← esc_join (q :: r) fun z hz => h z (.tail _ hz)]
    rw [esc, if_pos rfl]
theorem replace_esc (x : Str) : Txt.replace x ⟨#[34]⟩ ⟨#[34, 34]⟩ = ⟨(esc x.cps.toList).toArray⟩ := by
  rw [StrLaws.replace_one]
  have h := esc_join (Txt.split x ⟨#[34]⟩) (StrLaws.split_free x 34)
  rw [StrLaws.join_split] at h
  rw [h, Array.toArray_toList]
theorem esc_len : ∀ l : List Nat, (esc l).length ≤ 2 * l.length
  | [] => by simp [esc]
  | c :: r => by
    have := esc_len r
    rw [esc]
    split <;> simp <;> omega
end Mine
end

section
open PySem PySem.W PyProof.Rows PySem.Calls
set_option maxRecDepth 100000
set_option maxHeartbeats 8000000
namespace Mine
theorem newsFresh {h₀ h h' : Heap} {L D : Addr} {o : Obj} {m : Str → Option Value} {news : List (Addr × Obj)} (F : Fr h₀ L h m) (N : News h₀ L h news) (k : KeepsH h h') (hD : h.get? D = none) (e : h'.get? D = some o) : News h₀ L h' ((D, o) :: news) := fun p hp => by
  rcases List.mem_cons.mp hp with rfl | hp
  · refine ⟨e, ?_, ?_⟩
    · intro e0
      obtain ⟨ob, _, _, ho, _⟩ := F.ns
      have e1 : D = L := e0
      rw [← e1, hD] at ho; cases ho
    · cases q : h₀.get? D with
      | none => rfl
      | some ob => have hD' : h.get? D = none := hD; rw [F.keep _ _ q] at hD'; cases hD'
  · exact ⟨k _ _ (N p hp).1, (N p hp).2⟩
theorem freshNe {h₀ h : Heap} {L D : Addr} {news : List (Addr × Obj)} (N : News h₀ L h news) (hD : h.get? D = none) {p : Addr × Obj} (hp : p ∈ news) : (@Ne Nat D p.1) := fun e => by
  have := (N p hp).1
  rw [← e, hD] at this; cases this
end Mine
namespace Mine
theorem ints_of_paired {g : Nat → Nat} : ∀ {l : List Nat} {vs : List Value}, Paired (fun j v => IsNum (g j) v) l vs → IntsAre vs ((l.map g).map Int.ofNat)
  | _, _, .nil => .nil
  | _, _, .cons ⟨t, e⟩ r => by subst e; exact .cons _ t (ints_of_paired r)
theorem num_at {ds : List Nat} {dv : List Value} (h : Paired IsNum ds dv) {i : Nat} (hi : i < ds.length) : ∃ t, dv[i]? = some (.int (ds.getD i 0 : Nat) t) := by
  obtain ⟨v, hv, t, e⟩ := Paired.get? h (List.getElem?_eq_getElem hi)
  refine ⟨t, ?_⟩
  rw [hv, e, List.getD_eq_getElem?_getD, List.getElem?_eq_getElem hi]; rfl
/-- the bases that the draws tell -/
def basesOf (ds : List Nat) : List Nat := (List.range 3).map fun j => 2 + ds.getD j 0 % 3
end Mine
namespace Mine
/-- what an element tells of the level it is read for -/
def AtLev (G : Nat → Value → Prop) (v y : Value) : Prop := ∀ (j : Nat) (t : Tok), v = .int (0 + (j : Int)) t → G j y
theorem AtLev.mk {G : Nat → Value → Prop} {i : Nat} {t : Tok} {y : Value} (h : G i y) : AtLev G (.int (0 + (i : Int)) t) y := fun j t' e => by
  obtain rfl : i = j := by injection e with e1 e2; omega
  exact h
theorem lev_get {vs ys : List Value} {G : Nat → Value → Prop} {n : Nat} (hv : vs.length = n) (hP : ∀ (j : Nat) v, vs[j]? = some v → ∃ t : Tok, v = Value.int (0 + (j : Nat)) t) (hF : Paired (AtLev G) vs ys) : Paired G (List.range n) ys :=
  Paired.of_get (by rw [List.length_range, ← hF.length, hv]) fun i a b ha hb => by
    obtain ⟨v, hvv, hr⟩ := Paired.back hF hb
    obtain ⟨t, rfl⟩ := hP i v hvv
    have hi : i < n := by rw [← hv]; exact (List.getElem?_eq_some_iff.mp hvv).1
    rw [List.getElem?_range hi] at ha
    cases ha
    exact hr i t rfl
/-- the figures that the draws tell -/
def figOf (ds : List Nat) (j : Nat) : Str := ⟨((signs7.drop (ds.getD j 0 / 3 % 4)).take (2 + ds.getD j 0 % 3)).toArray⟩
def figCheck (st b : Nat) : Bool := let f := ((signs7.drop st).take b).toArray
  decide (f.size = b) && ((List.range b).all fun j => (List.range j).all fun i => decide (f.getD i 0 < f.getD j 0)) && (List.range b).all fun i => signs7.contains (f.getD i 0)
theorem figChecks : ((List.range 4).all fun st => [2, 3, 4].all fun b => figCheck st b) = true := by decide +kernel
theorem fig_all (st : Nat) (h : st < 4) (b : Nat) (h2 : 2 ≤ b) (h4 : b ≤ 4) : ((signs7.drop st).take b).toArray.size = b ∧ (∀ j, j < b → ∀ i, i < j → ((signs7.drop st).take b).toArray.getD i 0 < ((signs7.drop st).take b).toArray.getD j 0) ∧ ∀ i, i < b → ((signs7.drop st).take b).toArray.getD i 0 ∈ signs7 := by
  have h1 := List.all_eq_true.mp figChecks st (List.mem_range.mpr h)
  have hb : b ∈ [2, 3, 4] := by
    have : b = 2 ∨ b = 3 ∨ b = 4 := by omega
    rcases this with rfl | rfl | rfl <;> simp
  have h3 := List.all_eq_true.mp h1 b hb
  simp only [figCheck, Bool.and_eq_true, decide_eq_true_eq, List.all_eq_true, List.mem_range, List.contains_iff_mem] at h3
  exact ⟨h3.1.1, h3.1.2, h3.2⟩
theorem figOf_ok (ds : List Nat) (j : Nat) : FigOk (figOf ds j) (2 + ds.getD j 0 % 3) := by
  obtain ⟨a, b, c⟩ := fig_all (ds.getD j 0 / 3 % 4) (Nat.mod_lt _ (by decide)) (2 + ds.getD j 0 % 3) (by omega) (by have := Nat.mod_lt (ds.getD j 0) (show 3 > 0 by decide); omega)
  exact ⟨a, fun i k h1 h2 => b k h2 i h1, c⟩
theorem figs_ok (ds : List Nat) : FigsOk ((List.range 3).map (figOf ds)) (basesOf ds) := by
  have h : ∀ j, 2 ≤ 2 + ds.getD j 0 % 3 ∧ 2 + ds.getD j 0 % 3 ≤ 4 := fun j => by have := Nat.mod_lt (ds.getD j 0) (show 3 > 0 by decide); omega
  exact ⟨⟨figOf_ok ds 0, (h 0).1, (h 0).2⟩, ⟨figOf_ok ds 1, (h 1).1, (h 1).2⟩, ⟨figOf_ok ds 2, (h 2).1, (h 2).2⟩, trivial⟩
end Mine
namespace Mine
theorem isNum_of {n : Nat} {k : Int} {t : Tok} (h : k = (n : Int)) : IsNum n (.int k t) := ⟨t, by rw [h]⟩
theorem fmod3 (a : Nat) : (2 : Int) + Int.fmod (a : Int) 3 = ((2 + a % 3 : Nat) : Int) := by
  have h : Int.fmod (a : Int) 3 = ((a % 3 : Nat) : Int) := natMod a 3
  rw [h]; omega
theorem fdm (a b c : Nat) : Int.fmod (Int.fdiv (a : Int) (b : Int)) (c : Int) = ((a / b % c : Nat) : Int) := by rw [natDiv, natMod]
theorem fdm34 (a : Nat) : Int.fmod (Int.fdiv (a : Int) 3) 4 = ((a / 3 % 4 : Nat) : Int) := fdm a 3 4
theorem fdm43 (a : Nat) : Int.fmod (Int.fdiv (a : Int) 4) 3 = ((a / 4 % 3 : Nat) : Int) := fdm a 4 3
end Mine
namespace Mine
theorem nameC_cellK {prog : Program} {w : World} {A : Around} {E : Value → Shared → Prop} {s : Shared} {scope : Scope} {cl : List (Str × Addr)} {C c : Addr} {env : Env} {x : Str} {pos : Pos} {v : Value} {Q : Value → Shared → Prop} {h₀ : Heap} {m : Str → Option Value} {o : Obj}
    (F : Fr h₀ C s.heap m) (hc : cl.lookup x = some c) (ho : h₀.get? c = some o) (hv : o.data = .cell (some v)) (h : Q v s)
    (hk : scope.kind = .function := by rfl) (hx : (compEnvC scope cl C env).kindOf x = some .cell := by rfl) (hd : (x == ("__debug__" : Str)) = false := by decide) :
    wpAny (model prog w) A (eval (.Name x pos) (compEnvC scope cl C env)) Q E s := nameC_cell hc ⟨o, F.keep _ _ ho, hv⟩ h hk hx hd
end Mine
namespace Mine
section
variable {prog : Program} {w : World} {A : Around} {E : Value → Shared → Prop} {s : Shared} {value slice : Expr} {x : Str} {t : Tok} {Q : Value → Shared → Prop}
theorem keptK {h : Heap} : PySem.KeptH (KeepsH h) := fun g o k b ob e => Heap.get?_push_of_some _ (k b ob e)
/-- slices of texts that keep all that stands -/
theorem sliceK_ns {j : Int} {uj : Tok} (h : ∀ h' t' k, KeepsH s.heap h' → Q (.str (Txt.slice x none (some j)) t') { s with heap := h', toks := k })
    (hs : subscripted slice false (.str x t) (.ref s.heap.objs.size) = operate [.ref s.heap.objs.size, .str x t] (getItem (.str x t) (.ref s.heap.objs.size)) := by with_unfolding_all rfl)
    (ht : ∀ r, letTemporaryGo value (.str x t) r = pure () := by intro _; with_unfolding_all rfl) (hsz : x.length ≤ sizeLine) :
    wpAny (model prog w) A (subscriptTail value slice (.str x t) (.ref s.heap.objs.size)) Q E { s with heap := s.heap.push { cls := .type "slice", data := .fields #[.none, .int j uj, .none] } } :=
  PyProof.Rows.tail_of_ItemOn (SBH.sliceItem_ns keptK (fun _ _ e => e) h hsz) hs ht
theorem sliceK_sn {i : Int} {ui : Tok} (h : ∀ h' t' k, KeepsH s.heap h' → Q (.str (Txt.slice x (some i) none) t') { s with heap := h', toks := k })
    (hs : subscripted slice false (.str x t) (.ref s.heap.objs.size) = operate [.ref s.heap.objs.size, .str x t] (getItem (.str x t) (.ref s.heap.objs.size)) := by with_unfolding_all rfl)
    (ht : ∀ r, letTemporaryGo value (.str x t) r = pure () := by intro _; with_unfolding_all rfl) (hsz : x.length ≤ sizeLine) :
    wpAny (model prog w) A (subscriptTail value slice (.str x t) (.ref s.heap.objs.size)) Q E { s with heap := s.heap.push { cls := .type "slice", data := .fields #[.int i ui, .none, .none] } } :=
  PyProof.Rows.tail_of_ItemOn (SBH.sliceItem_sn keptK (fun _ _ e => e) h hsz) hs ht
end
theorem fig_slice (ds : List Nat) (j : Nat) : Txt.slice (Txt.slice (Str.ofString "!\"-7Aaz") (some (Int.fmod (Int.fdiv (ds.getD j 0 : Int) 3) 4)) none) none (some ((2 + ds.getD j 0 % 3 : Nat) : Int)) = figOf ds j := by
  have hs : Str.ofString "!\"-7Aaz" = ⟨signs7.toArray⟩ := by decide +kernel
  have h4 : ds.getD j 0 / 3 % 4 < 4 := Nat.mod_lt _ (by decide)
  have h3 : ds.getD j 0 % 3 < 3 := Nat.mod_lt _ (by decide)
  rw [fdm34, hs]
  have hl : (⟨signs7.toArray⟩ : Str).length = 7 := rfl
  rw [slice_from_eq (b := 7) (by omega) (by rw [hl]; omega) (by rw [hl]; rfl)]
  have e1 : ((ds.getD j 0 / 3 % 4 : Nat) : Int).toNat = ds.getD j 0 / 3 % 4 := by omega
  have e2 : ((7 : Int) - ((ds.getD j 0 / 3 % 4 : Nat) : Int)).toNat = 7 - ds.getD j 0 / 3 % 4 := by omega
  rw [e1, e2]
  have e3 : (signs7.toArray.toList.drop (ds.getD j 0 / 3 % 4)).take (7 - ds.getD j 0 / 3 % 4) = signs7.drop (ds.getD j 0 / 3 % 4) := by
    rw [List.take_of_length_le (by rw [List.length_drop]; exact Nat.le_refl _)]
  rw [e3, slice_to (by rw [List.size_toArray, List.length_drop]; show _ ≤ 7 - _; omega)]
  rfl
end Mine
namespace Mine
def topsS : List Str := [Str.ofString "local", Str.ofString "co.net", Str.ofString "net", Str.ofString "0.7"]
def tailsS : List Str := [Str.ofString "\"", Str.ofString "\" is \"made\"", Str.ofString ""]
def topOf (ds : List Nat) : Str := topsS.getD (ds.getD 4 0 % 4) ⟨#[]⟩
def tailOf (ds : List Nat) : Str := tailsS.getD (ds.getD 4 0 / 4 % 3) ⟨#[]⟩
theorem topOf_in (ds : List Nat) : (topOf ds).cps.toList ∈ tops := by
  have h : ∀ k, k < 4 → (topsS.getD k ⟨#[]⟩).cps.toList ∈ tops := by
    intro k hk
    have : k = 0 ∨ k = 1 ∨ k = 2 ∨ k = 3 := by omega
    rcases this with rfl | rfl | rfl | rfl <;> decide +kernel
  exact h _ (Nat.mod_lt _ (by decide))
theorem tailOf_ok (ds : List Nat) : TailOk (tailOf ds).cps.toList ∧ (tailOf ds).cps.size ≤ 20 := by
  have h : ∀ k, k < 3 → TailOk (tailsS.getD k ⟨#[]⟩).cps.toList ∧ (tailsS.getD k ⟨#[]⟩).cps.size ≤ 20 := by
    intro k hk
    have : k = 0 ∨ k = 1 ∨ k = 2 := by omega
    rcases this with rfl | rfl | rfl
    · exact ⟨.inr ⟨[], by decide +kernel, by simp⟩, by decide +kernel⟩
    · exact ⟨.inr ⟨[32, 105, 115, 32, 34, 109, 97, 100, 101, 34], by decide +kernel, by simp⟩, by decide +kernel⟩
    · exact ⟨.inl (by decide +kernel), by decide +kernel⟩
  exact h _ (Nat.mod_lt _ (by decide))
end Mine
namespace Mine
theorem pick_of {xs : List Str} {vs : List Value} (p : Paired IsStr xs vs) {k : Nat} {v : Value} (hv : vs[k]? = some v) : ∃ t, v = Value.str (xs.getD k ⟨#[]⟩) t := by
  obtain ⟨x, hx, t, e⟩ := Paired.back p hv
  exact ⟨t, by rw [e, List.getD_eq_getElem?_getD, hx]; rfl⟩
theorem fmod4 (a : Nat) : Int.fmod (a : Int) 4 = ((a % 4 : Nat) : Int) := natMod a 4
end Mine
namespace Mine
/-- how many hosts -/
def countOf (ds : List Nat) : Nat := min (prodN (basesOf ds)) (6 + ds.getD 3 0 % 8)
theorem count_min (ds : List Nat) : min (((2 + ds.getD 0 0 % 3 : Nat) : Int) * ((2 + ds.getD 1 0 % 3 : Nat) : Int) * ((2 + ds.getD 2 0 % 3 : Nat) : Int)) (6 + Int.fmod (ds.getD 3 0 : Int) 8) = (countOf ds : Int) := by
  have h : Int.fmod (ds.getD 3 0 : Int) 8 = ((ds.getD 3 0 % 8 : Nat) : Int) := natMod _ 8
  rw [h]
  have hp : prodN (basesOf ds) = (2 + ds.getD 0 0 % 3) * (2 + ds.getD 1 0 % 3) * (2 + ds.getD 2 0 % 3) := by
    show (2 + ds.getD 0 0 % 3) * ((2 + ds.getD 1 0 % 3) * ((2 + ds.getD 2 0 % 3) * 1)) = _
    rw [Nat.mul_one, Nat.mul_assoc]
  unfold countOf
  rw [hp]
  have e : (((2 + ds.getD 0 0 % 3 : Nat) : Int) * ((2 + ds.getD 1 0 % 3 : Nat) : Int) * ((2 + ds.getD 2 0 % 3 : Nat) : Int)) = (((2 + ds.getD 0 0 % 3) * (2 + ds.getD 1 0 % 3) * (2 + ds.getD 2 0 % 3) : Nat) : Int) := by push_cast; rfl
  rw [e]
  generalize (2 + ds.getD 0 0 % 3) * (2 + ds.getD 1 0 % 3) * (2 + ds.getD 2 0 % 3) = p
  omega
theorem count_ok (ds : List Nat) : countOf ds ≤ min 13 (prodN (basesOf ds)) := by
  have := Nat.mod_lt (ds.getD 3 0) (show 8 > 0 by decide)
  unfold countOf; omega
theorem bases_all : ((List.range 3).all fun x => (List.range 3).all fun y => (List.range 3).all fun z => (List.range 3).all fun k => allBases.contains ([2 + x, 2 + y, 2 + z].drop k)) = true := by decide +kernel
theorem bases_drop (ds : List Nat) (k : Nat) (hk : k < 3) : (basesOf ds).drop k ∈ allBases := by
  have m : ∀ a, a % 3 ∈ List.range 3 := fun a => List.mem_range.mpr (Nat.mod_lt _ (by decide))
  have h1 := List.all_eq_true.mp bases_all _ (m (ds.getD 0 0))
  have h2 := List.all_eq_true.mp h1 _ (m (ds.getD 1 0))
  have h3 := List.all_eq_true.mp h2 _ (m (ds.getD 2 0))
  have h4 := List.all_eq_true.mp h3 k (List.mem_range.mpr hk)
  exact List.contains_iff_mem.mp h4
end Mine
namespace Mine
theorem figs_size (ds : List Nat) (j : Nat) : (figOf ds j).cps.size = 2 + ds.getD j 0 % 3 := (figOf_ok ds j).1
def figsOf (ds : List Nat) : List Str := (List.range 3).map (figOf ds)
theorem figs_fit (ds : List Nat) : ∀ i (h1 : i < (figsOf ds).length) (h2 : i < (basesOf ds).length), (basesOf ds)[i] ≤ (figsOf ds)[i].cps.size := by
  intro i h1 h2
  simp only [basesOf, figsOf, List.getElem_map, List.getElem_range]
  rw [figs_size]; exact Nat.le_refl _
theorem bases_bound (ds : List Nat) : ∀ b ∈ basesOf ds, 2 ≤ b ∧ b ≤ 4 := by
  intro b hb
  obtain ⟨j, _, rfl⟩ := List.mem_map.mp hb
  have := Nat.mod_lt (ds.getD j 0) (show 3 > 0 by decide)
  omega
theorem figs_bound (ds : List Nat) : ∀ f ∈ figsOf ds, f.cps.size < 100 := by
  intro f hf
  obtain ⟨j, _, rfl⟩ := List.mem_map.mp hf
  rw [figs_size]
  have := Nat.mod_lt (ds.getD j 0) (show 3 > 0 by decide)
  omega
theorem top_bound (ds : List Nat) : (topOf ds).cps.size < 100 := by
  have := (tops_facts _ (topOf_in ds)).2.1
  rwa [Array.length_toList] at this
end Mine
namespace Mine
theorem host_size (ds : List Nat) (i : Nat) : (hostS (figsOf ds) (basesOf ds) i (topOf ds)).cps.size < 200 := by
  have h := host_len (topOf ds) (figs_ok ds) i
  have ht := top_bound ds
  show (hostL (figsOf ds) (basesOf ds) i (topOf ds)).toArray.size < 200
  rw [List.size_toArray]
  have e : (basesOf ds).length = 3 := rfl
  have h' : (hostL (figsOf ds) (basesOf ds) i (topOf ds)).length = 2 * (basesOf ds).length + (topOf ds).cps.size := h
  omega
end Mine
end

section
open PySem PySem.W PyProof.Rows PySem.Calls
set_option maxRecDepth 100000
set_option maxHeartbeats 8000000
namespace Mine
/-- a frame with cells over what lies below -/
theorem below_cells {A : Around} {base h₀ h : Heap} {outer : List Env} {L a : Addr} {m : Str → Option Value} {name : Str} {scope : Scope} {cd : Value} (K : Below A base outer h₀) (F : Fr h₀ L h m) (hk : scope.kind = .function := by rfl) :
    Below (A.deeper (envOfC name scope L a cd)) base (envOfC name scope L a cd :: outer) h := by
  have hL : base.get? L = none := by
    cases q : base.get? L with
    | none => rfl
    | some o => exact absurd (Nat.lt_of_lt_of_le (Heap.lt_size (K.stays L o q)) F.above) (Nat.lt_irrefl _)
  refine ⟨Around.frames_deeper K.stack, fun b o e => F.keep b o (K.stays b o e), ?_⟩
  exact .cons (by show scope.kind ≠ .module; rw [hk]; decide) rfl F.ns hL (K.frames.of_keeps fun b o e _ => ⟨o, F.keep b o e, rfl⟩)
theorem frNone {h₀ h : Heap} {L : Addr} {m : Str → Option Value} (F : Fr h₀ L h m) : h₀.get? L = none := Heap.get?_none_of_le F.above
theorem frTurn {h₀ h g h' : Heap} {L : Addr} {m : Str → Option Value} (F : Fr h₀ L h m) (T : KtsTurn [L] h g) (k : KeepsH g h') : Fr h₀ L h' m := by
  obtain ⟨o, es, ep, ho, hd, hs, hf⟩ := F.ns
  obtain ⟨sl, e⟩ := T.up ho
  refine ⟨⟨_, es, ep, k _ _ e, hd, hs, hf⟩, fun b o e => k b o (T.other b o (F.keep b o e) fun hm => ?_), F.above⟩
  rw [List.mem_singleton.mp hm, frNone F] at e
  cases e
theorem newsTurn {h₀ h g h' : Heap} {L : Addr} {news : List (Addr × Obj)} (N : News h₀ L h news) (T : KtsTurn [L] h g) (k : KeepsH g h') : News h₀ L h' news := fun p hp =>
  ⟨k _ _ (T.other _ _ (N p hp).1 fun hm => (N p hp).2.1 (List.mem_singleton.mp hm)), (N p hp).2⟩
section
variable {prog : Program} {w : World} {A : Around} {E : Value → Shared → Prop} {s : Shared} {env : Env}
/-- a tuple that the ledger holds -/
def TupIn (ax : Addr) (its : Array Value) (nw : List (Addr × Obj)) : Prop := ∃ o, (ax, o) ∈ nw ∧ ∀ h : Heap, h.get? ax = some o → h.IsTuple ax its
/-- what a comprehension over a tuple of the ledger asks -/
def TupSrc (prog : Program) (w : World) (A : Around) (h₀ : Heap) (L : Addr) (m : Str → Option Value) (env : Env) (elt : Expr) (x : Str) (scope : Scope) (cl : List (Str × Addr)) (Q : Value → Shared → Prop) (xv : Value) (s₁ : Shared) : Prop :=
  ∃ ax its news, xv = .ref ax ∧ A.handled = none ∧ Fr h₀ L s₁.heap m ∧ News h₀ L s₁.heap news ∧ TupIn ax its news ∧ its.size ≤ sizeLine ∧
    ∀ g, LCg.CompRest prog w A h₀ L m env elt x scope cl { s₁ with heap := g } (TupIn ax its) (fun i v => its[i]? = some v) (LCg.FinE h₀ L m { s₁ with heap := g } Q) its.size 0 [] news
theorem compTupleU {elt iter : Expr} {x : Str} {px : Pos} {scope : Scope} {cl : List (Str × Addr)} {pos : Pos} {Q : Value → Shared → Prop} {h₀ : Heap} {L : Addr} {m : Str → Option Value} (F₀ : Fr h₀ L s.heap m)
    (hclos : closureFor scope env = pure cl) (hcell : ∀ y ∈ scope.names, y.2 ≠ .cell) (hkind : scope.kind = .function)
    (hnames : ∀ y ∈ scope.names, y.2 = .local → scope.names.lookup y.1 = some .local) (hx : scope.names.lookup x = some .local)
    (h : wpAny (model prog w) A (eval iter env) (TupSrc prog w A h₀ L m env elt x scope cl Q) E s)
    (hs : ∀ x, foldedSetIterable iter env x = pure x := by intro _; rfl) :
    wpAny (model prog w) A (eval (.ListComp elt [⟨.Name x px, iter, [], 0⟩] scope pos) env) Q E s := by
  rw [eval_ListComp]
  refine wpAny_comprehension_free (use := none) rfl hs hclos hkind hnames (wpAny_mono h (fun xv s₁ h₁ => ?_) fun _ _ e => e)
  obtain ⟨ax, its, news, rfl, hh, F, N, ht, hsz, R⟩ := h₁
  have hl : s₁.heap.IsTuple ax its := by obtain ⟨o, ho, hi⟩ := id ht; exact hi _ (N _ ho).1
  have hlt : ax < s₁.heap.objs.size := by obtain ⟨_, e, _⟩ := hl; exact Heap.lt_size e
  refine wpAny_pyIter_tuple hl ?_
  have up : KeepsH s₁.heap (s₁.heap.push { cls := .type "tuple_iterator", data := .fields #[.ref ax, .int 0 0] }) := fun b o e => Heap.get?_push_of_some _ e
  refine LCg.block_U (Walks.tuple hh s₁.heap.objs.size ax (Nat.ne_of_lt hlt) its) hsz (fun i h st => by obtain ⟨o, e, _⟩ := st.1; exact ⟨o, e⟩) ?_ hcell hkind hx ⟨⟨_, Heap.get?_push_size _ rfl, rfl, rfl⟩, hl.at fun _ e => up _ _ e⟩ (fun b hb => ?_)
    (frUp F up) (newsUp N up) (Nat.ne_of_lt F.ns.lt) (baseNew F) (newsNe N) ht (R _) ?_
  · intro i h h' o nw st e e' k N' S'
    refine ⟨?_, by obtain ⟨o, ho, hi⟩ := S'; exact hi _ (N' _ ho).1⟩
    obtain ⟨o', q, r⟩ := st.1
    rw [e] at q; cases q
    exact ⟨o, e', r⟩
  · show b < (s₁.heap.push _).objs.size
    rw [Heap.size_push]
    rcases List.mem_cons.mp hb with rfl | hb
    · exact Nat.lt_succ_self _
    · rw [List.mem_singleton.mp hb]; exact Nat.lt_succ_of_lt hlt
  · intro D C h' tk m' ys news' F' N' o1 hn hC₀ hD₀ hCL hDL hCD offC fin
    refine ⟨m', hn, fun h'' hs'' => fin D h'' tk (F'.change hs'' hCL hC₀) (fun p hp => ?_) o1⟩
    refine ⟨hs''.extBut _ _ ?_ (N' p hp).1, (N' p hp).2⟩
    rcases List.mem_cons.mp hp with rfl | hp
    · exact Ne.symm hCD
    · exact offC p hp
/-- a call of a def on two texts joined -/
theorem eltJoin {f x y : Str} {pf px py pp pos : Pos} {a : Addr} {u v : Str} {tu tv : Tok} {Q : Value → Shared → Prop}
    (hf : NameIs prog w A env s f (.ref a)) (hx : NameIs prog w A env s x (.str u tu)) (hy : NameIs prog w A env s y (.str v tv)) (ho : IsFn s.heap a) (hsz : u.length + v.length ≤ sizeLine)
    (h : ∀ t tk, wpAny (model prog w) A (call (.ref a) [.str (u ++ v) t] []) Q E { s with toks := tk }) : wpAny (model prog w) A (eval (.Call (.Name f pf) [.BinOp (.Name x px) .Add (.Name y py) pp] [] pos) env) Q E s := by
  rw [arm_eval_Call_Name']
  refine wpAny_bind (hf _ _ _ ?_)
  show wpAny _ A (callWith pos (.ref a) [] (backTo pos (starEach [.BinOp (.Name x px) .Add (.Name y py) pp] env)) []) Q E s
  obtain ⟨fo, fd, ho, hd⟩ := ho
  refine callWith_def hd (PyProof.Rows.spliced_more (wpAny_BinOp (hx _ _ _ (hy _ _ _ (PyProof.Rows.add_str (fun t tk => PyProof.Rows.spliced_none ⟨ho, h t tk⟩) hsz)))))
end
end Mine
end

section
open PySem PySem.W PyProof.Rows PySem.Calls
set_option maxRecDepth 100000
set_option maxHeartbeats 8000000
namespace Mine
/-! the plain law, level by level -/
abbrev baseOf (ds : List Nat) (k : Nat) : Nat := 2 + ds.getD k 0 % 3
theorem baseOf_in (ds : List Nat) (k : Nat) : 2 ≤ baseOf ds k ∧ baseOf ds k ≤ 4 := by
  have := Nat.mod_lt (ds.getD k 0) (show 3 > 0 by decide)
  unfold baseOf; omega
def lvF (ds : List Nat) (k : Nat) : List Str := (figsOf ds).drop k
def lvB (ds : List Nat) (k : Nat) : List Nat := (basesOf ds).drop k
def lvH (ds : List Nat) (k i : Nat) : Str := hostS (lvF ds k) (lvB ds k) i (topOf ds)
def lvW (ds : List Nat) (k i : Nat) : Array UInt8 := ((lvH ds k i).cps.map Nat.toUInt8).reverse
def stepN (n b : Nat) : Nat := (n + b - 1) / b
def levN (ds : List Nat) : Nat → Nat
  | 0 => countOf ds
  | k + 1 => stepN (levN ds k) (baseOf ds k)
theorem lvB_cons (ds : List Nat) {k : Nat} (h : k < 3) : lvB ds k = baseOf ds k :: lvB ds (k + 1) := by
  have : k = 0 ∨ k = 1 ∨ k = 2 := by omega
  rcases this with rfl | rfl | rfl <;> rfl
theorem lvF_cons (ds : List Nat) {k : Nat} (h : k < 3) : lvF ds k = figOf ds k :: lvF ds (k + 1) := by
  have : k = 0 ∨ k = 1 ∨ k = 2 := by omega
  rcases this with rfl | rfl | rfl <;> rfl
theorem figs_drop : ∀ {fs : List Str} {bs : List Nat}, FigsOk fs bs → ∀ k, FigsOk (fs.drop k) (bs.drop k)
  | _, _, h, 0 => h
  | [], [], h, k + 1 => by simpa using h
  | f :: fs, b :: bs, h, k + 1 => by simpa using figs_drop h.2 k
  | [], _ :: _, h, _ => h.elim
  | _ :: _, [], h, _ => h.elim
theorem lv_ok (ds : List Nat) (k : Nat) : FigsOk (lvF ds k) (lvB ds k) := figs_drop (figs_ok ds) k
theorem lv_len (ds : List Nat) (k : Nat) : (lvB ds k).length = 3 - k := by
  show ((basesOf ds).drop k).length = _
  rw [List.length_drop]; rfl
theorem step_le {n b p : Nat} (hb : 2 ≤ b) (h : n ≤ b * p) (h13 : n ≤ 13) : stepN n b ≤ min 13 p := by
  have h1 : stepN n b < p + 1 := by
    apply Nat.div_lt_of_lt_mul
    rw [Nat.mul_succ]; omega
  have h2 : stepN n b < 14 := by
    apply Nat.div_lt_of_lt_mul
    omega
  omega
theorem lev_le (ds : List Nat) : ∀ k, k ≤ 3 → levN ds k ≤ min 13 (prodN (lvB ds k))
  | 0, _ => count_ok ds
  | k + 1, h => by
    have ih := lev_le ds k (by omega)
    rw [lvB_cons ds (by omega)] at ih
    exact step_le (baseOf_in ds k).1 (Nat.le_trans ih (Nat.min_le_right _ _)) (Nat.le_trans ih (Nat.min_le_left _ _))
theorem lvH_list (ds : List Nat) (k i : Nat) : (lvH ds k i).cps.toList = hostL (lvF ds k) (lvB ds k) i (topOf ds) := rfl
theorem lv_lt (ds : List Nat) {k i j : Nat} (hi : i < prodN (lvB ds k)) (hj : j < prodN (lvB ds k)) : decide ((lvH ds k i).cps.toList < (lvH ds k j).cps.toList) = keyLt (lvB ds k) i j := by
  have h := host_lt (topOf ds) (lv_ok ds k) i j hi hj
  rw [lvH_list, lvH_list]
  cases q : keyLt (lvB ds k) i j with
  | true => exact decide_eq_true (h.mpr q)
  | false => exact decide_eq_false fun e => by rw [h.mp e] at q; cases q
theorem lv_size (ds : List Nat) (k i : Nat) : (lvH ds k i).cps.size = 2 * (3 - k) + (topOf ds).cps.size := by
  have h := host_len (topOf ds) (lv_ok ds k) i
  rw [lv_len] at h
  rw [← h]; exact List.size_toArray
theorem top_facts (ds : List Nat) : 2 ≤ (topOf ds).cps.size ∧ (topOf ds).cps.size < 100 := by
  have h := tops_facts _ (topOf_in ds)
  rw [Array.length_toList] at h
  exact ⟨h.1, h.2.1⟩
theorem lv_sizes (ds : List Nat) (k i : Nat) : 2 ≤ (lvH ds k i).cps.size ∧ (lvH ds k i).cps.size < 200 := by
  have h := top_facts ds
  rw [lv_size]; omega
theorem lv_asc (ds : List Nat) (k i : Nat) : ∀ c ∈ (lvH ds k i).cps.toList, c < 128 := host_asc (tops_facts _ (topOf_in ds)).2.2.1 (lv_ok ds k) i
theorem lvW_list (ds : List Nat) (k i : Nat) : (lvW ds k i).toList = revO (hostL (lvF ds k) (lvB ds k) i (topOf ds)) := by
  unfold lvW revO
  rw [Array.toList_reverse, Array.toList_map, lvH_list]
theorem lv_rev (ds : List Nat) {k i j : Nat} (hi : i < prodN (lvB ds k)) (hj : j < prodN (lvB ds k)) : bLt (lvW ds k i) (lvW ds k j) = decide (i < j) := by
  have h := host_rev (topOf ds) (lv_ok ds k) i j hi hj
  unfold bLt
  rw [lvW_list, lvW_list, h]
  by_cases h1 : i < j
  · rw [if_pos h1, decide_eq_true h1]; rfl
  · rw [if_neg h1, decide_eq_false h1]
    by_cases h2 : j < i
    · rw [if_pos h2]; rfl
    · rw [if_neg h2]; rfl
theorem lv_dig (ds : List Nat) (k i : Nat) : OneDig (lvH ds k i).cps.toList := host_oneDig (tops_dig _ (topOf_in ds)) (lv_ok ds k) i
theorem lv_head (ds : List Nat) (k i : Nat) : (lvH ds k i).cps.toList.head? ≠ some 46 := host_head (tops_facts _ (topOf_in ds)).2.2.2.1 (lv_ok ds k) i
theorem lv_last (ds : List Nat) (k i : Nat) : (lvH ds k i).cps.toList.getLast? ≠ some 46 := host_last (top_facts ds).1 (tops_facts _ (topOf_in ds)).2.2.2.2.1 (lv_ok ds k) i
/-- does a host of level k climb -/
def climbs (ds : List Nat) (k : Nat) : Bool := (topOf ds != Str.ofString "0.7") && (decide (k < 2) || topOf ds != Str.ofString "net")
theorem top_case {P : Str → Prop} (h : ∀ k, k < 4 → P (topsS.getD k ⟨#[]⟩)) (ds : List Nat) : P (topOf ds) := h _ (Nat.mod_lt _ (by decide))
theorem top_dec {P : Str → Prop} [d : DecidablePred P] (h : (topsS.all fun x => decide (P x)) = true) (ds : List Nat) : P (topOf ds) := by
  refine top_case (fun k hk => ?_) ds
  have h1 := List.all_eq_true.mp h
  have : topsS.getD k ⟨#[]⟩ ∈ topsS := by
    rw [List.getD_eq_getElem?_getD, List.getElem?_eq_getElem (show k < topsS.length from hk)]
    exact List.getElem_mem _
  exact of_decide_eq_true (h1 _ this)
theorem top_finds (ds : List Nat) : (!findsL (topOf ds).cps.toList) = (topOf ds != Str.ofString "0.7") := top_dec (P := fun x => (!findsL x.cps.toList) = (x != Str.ofString "0.7")) (by decide +kernel) ds
theorem top_net (ds : List Nat) : (!findsL (topOf ds).cps.toList && ((afterDot (topOf ds).cps.toList).isSome || (topOf ds).cps.toList == [108, 111, 99, 97, 108])) = ((topOf ds != Str.ofString "0.7") && (topOf ds != Str.ofString "net")) :=
  top_dec (P := fun x => (!findsL x.cps.toList && ((afterDot x.cps.toList).isSome || x.cps.toList == [108, 111, 99, 97, 108])) = ((x != Str.ofString "0.7") && (x != Str.ofString "net"))) (by decide +kernel) ds
theorem lv_reach (ds : List Nat) {k : Nat} (hk : k < 3) (i : Nat) : (⟨(reachL (lvH ds k i).cps.toList).toArray⟩ : Str) = if climbs ds k = true then (⟨(46 :: (lvH ds (k + 1) (i / baseOf ds k)).cps.toList).toArray⟩ : Str) else lvH ds k i := by
  have ok := lv_ok ds k
  have hB := lvB_cons ds hk
  have hF := lvF_cons ds hk
  rw [hB, hF] at ok
  have h := host_reach (top := topOf ds) (top_facts ds).1 ok i
  have hc : (!findsL (topOf ds).cps.toList && ((afterDot (hostL (lvF ds (k + 1)) (lvB ds (k + 1)) (i / baseOf ds k) (topOf ds))).isSome || hostL (lvF ds (k + 1)) (lvB ds (k + 1)) (i / baseOf ds k) (topOf ds) == [108, 111, 99, 97, 108])) = climbs ds k := by
    unfold climbs
    by_cases h2 : k < 2
    · rw [decide_eq_true h2, Bool.true_or, Bool.and_true, top_finds]
      rw [lvB_cons ds (show k + 1 < 3 by omega), lvF_cons ds (show k + 1 < 3 by omega), hostL]
      have : (afterDot ((figOf ds (k + 1)).cps.getD (i / baseOf ds k % baseOf ds (k + 1)) 0 :: 46 :: hostL (lvF ds (k + 1 + 1)) (lvB ds (k + 1 + 1)) (i / baseOf ds k / baseOf ds (k + 1)) (topOf ds))).isSome = true := by
        unfold afterDot
        split
        · rfl
        · unfold afterDot; rw [if_pos rfl]; rfl
      rw [this, Bool.true_or, Bool.and_true]
    · have : k = 2 := by omega
      subst this
      rw [decide_eq_false h2, Bool.false_or]
      have e : hostL (lvF ds (2 + 1)) (lvB ds (2 + 1)) (i / baseOf ds 2) (topOf ds) = (topOf ds).cps.toList := rfl
      rw [e, top_net]
  rw [hc] at h
  rw [lvH_list, hB, hF, h]
  by_cases hcl : climbs ds k = true
  · rw [if_pos hcl, if_pos hcl]; rfl
  · rw [if_neg hcl, if_neg hcl]
    show hostS _ _ _ _ = hostS _ _ _ _
    rw [hB, hF]
/-- the first label and its dot taken off -/
theorem lv_tail (ds : List Nat) {k : Nat} (hk : k < 3) (i : Nat) : (lvH ds k i).cps.toList.drop 2 = (lvH ds (k + 1) (i / baseOf ds k)).cps.toList := by
  rw [lvH_list, lvH_list, lvB_cons ds hk, lvF_cons ds hk, hostL]; rfl
theorem slice_2 {x : Str} (h : 2 ≤ x.cps.size) : Txt.slice x (some 2) none = ⟨(x.cps.toList.drop 2).toArray⟩ := by
  have hl : x.length = x.cps.size := rfl
  rw [slice_from_eq (b := x.cps.size) (by omega) (by rw [hl]; omega) (by rw [hl])]
  congr 2
  rw [List.take_of_length_le]
  · rfl
  · rw [List.length_drop, Array.length_toList]
    show x.cps.size - 2 ≤ ((x.cps.size : Int) - 2).toNat
    omega
theorem lv_slice (ds : List Nat) {k : Nat} (hk : k < 3) (i : Nat) : Txt.slice (lvH ds k i) (some 2) none = lvH ds (k + 1) (i / baseOf ds k) := by
  rw [slice_2 (lv_sizes ds k i).1, lv_tail ds hk]
/-- each base-th of the hosts -/
theorem pick_all : ((List.range 14).all fun n => [2, 3, 4].all fun b => sliceRange (sliceBounds none none (some ((b : Nat) : Int)) n).1 (sliceBounds none none (some ((b : Nat) : Int)) n).2.1 (sliceBounds none none (some ((b : Nat) : Int)) n).2.2 == (List.range (stepN n b)).map fun j => j * b) = true := by decide +kernel
theorem pick_step {n b : Nat} (hn : n ≤ 13) (h2 : 2 ≤ b) (h4 : b ≤ 4) : sliceRange (sliceBounds none none (some ((b : Nat) : Int)) n).1 (sliceBounds none none (some ((b : Nat) : Int)) n).2.1 (sliceBounds none none (some ((b : Nat) : Int)) n).2.2 = (List.range (stepN n b)).map fun j => j * b := by
  have h1 := List.all_eq_true.mp pick_all n (List.mem_range.mpr (by omega))
  have hb : b ∈ [2, 3, 4] := by
    have : b = 2 ∨ b = 3 ∨ b = 4 := by omega
    rcases this with rfl | rfl | rfl <;> simp
  exact eq_of_beq (List.all_eq_true.mp h1 b hb)
theorem paired_pick {R : Nat → Value → Prop} {n : Nat} {vs : List Value} (p : Paired R (List.range n) vs) : ∀ idx : List Nat, (∀ i ∈ idx, i < n) → Paired R idx (idx.filterMap (vs[·]?))
  | [], _ => .nil
  | i :: r, h => by
    obtain ⟨v, hv, hr⟩ := Paired.get? p (List.getElem?_range (h i (.head _)))
    rw [List.filterMap_cons, hv]
    exact .cons hr (paired_pick p r fun j hj => h j (.tail _ hj))
theorem paired_unmap {α β γ : Type} {R : α → β → Prop} {f : γ → α} : ∀ {l : List γ} {vs : List β}, Paired R (l.map f) vs → Paired (fun c b => R (f c) b) l vs
  | [], [], _ => .nil
  | [], _ :: _, p => nomatch p
  | _ :: _, [], p => nomatch p
  | _ :: _, _ :: _, .cons h t => .cons h (paired_unmap t)
theorem lv_pick {H : Nat → Str} {n b : Nat} {vs : List Value} (hn : n ≤ 13) (h2 : 2 ≤ b) (h4 : b ≤ 4) (p : Paired (IsTxt H) (List.range n) vs) :
    Paired (IsTxt fun j => H (j * b)) (List.range (stepN n b)) (slicePick vs.toArray none none (some ((b : Nat) : Int))).toList := by
  have hl : vs.length = n := by rw [← p.length, List.length_range]
  have e : (slicePick vs.toArray none none (some ((b : Nat) : Int))).toList = ((List.range (stepN n b)).map fun j => j * b).filterMap (vs[·]?) := by
    unfold slicePick
    rw [List.size_toArray, hl, pick_step hn h2 h4]
    simp
  rw [e]
  refine paired_unmap (R := IsTxt H) (paired_pick p _ fun i hi => ?_)
  obtain ⟨j, hj, rfl⟩ := List.mem_map.mp hi
  have hj := List.mem_range.mp hj
  unfold stepN at hj
  have := (Nat.lt_div_iff_mul_lt (by omega : 0 < b)).mp hj
  rw [Nat.mul_comm] at this
  have h3 : j * b = b * j := Nat.mul_comm _ _
  omega
end Mine
namespace Mine
theorem rep_q (x : Str) : Txt.replace x (Str.ofString "\"") (Str.ofString "\"\"") = ⟨(esc x.cps.toList).toArray⟩ := by
  have e1 : Str.ofString "\"" = ⟨#[34]⟩ := by decide +kernel
  have e2 : Str.ofString "\"\"" = ⟨#[34, 34]⟩ := by decide +kernel
  rw [e1, e2, replace_esc]
/-- the reply's body -/
def bodyOf (ds : List Nat) (i : Nat) : Str := (⟨(esc (lvH ds 0 i).cps.toList).toArray⟩ : Str) ++ tailOf ds
theorem body_list (ds : List Nat) (i : Nat) : (bodyOf ds i).cps.toList = esc (lvH ds 0 i).cps.toList ++ (tailOf ds).cps.toList := by
  show ((esc (lvH ds 0 i).cps.toList).toArray ++ (tailOf ds).cps).toList = _
  simp
theorem esc_size (ds : List Nat) (i : Nat) : (esc (lvH ds 0 i).cps.toList).length < 400 := by
  have h1 := esc_len (lvH ds 0 i).cps.toList
  have h2 := (lv_sizes ds 0 i).2
  have h3 : (lvH ds 0 i).cps.toList.length = (lvH ds 0 i).cps.size := Array.length_toList
  omega
theorem body_size (ds : List Nat) (i : Nat) : (bodyOf ds i).cps.size < 420 := by
  have h1 := esc_size ds i
  have h3 := (tailOf_ok ds).2
  have h4 : (tailOf ds).cps.toList.length = (tailOf ds).cps.size := Array.length_toList
  have h5 : (bodyOf ds i).cps.toList.length = (bodyOf ds i).cps.size := Array.length_toList
  rw [body_list, List.length_append] at h5
  omega
end Mine
namespace Mine
theorem climbs_07 {ds : List Nat} {k : Nat} (h : topOf ds = Str.ofString "0.7") : climbs ds k = false := by
  unfold climbs; rw [h]; simp
theorem climbs_lo {ds : List Nat} {k : Nat} (h : ¬ topOf ds = Str.ofString "0.7") (hk : k < 2) : climbs ds k = true := by
  unfold climbs
  simp [h, hk]
theorem climbs_net {ds : List Nat} {k : Nat} (hk : ¬ k < 2) (h : topOf ds = Str.ofString "net") : climbs ds k = false := by
  unfold climbs; rw [h, decide_eq_false hk]; simp
theorem climbs_hi {ds : List Nat} {k : Nat} (h : ¬ topOf ds = Str.ofString "0.7") (h3 : ¬ topOf ds = Str.ofString "net") : climbs ds k = true := by
  unfold climbs
  simp [h, h3]
end Mine
namespace Mine
theorem dot_list (x : Str) : (⟨(46 :: x.cps.toList).toArray⟩ : Str).cps.toList = (Str.ofString "." ++ x).cps.toList := by
  have e : Str.ofString "." = ⟨#[46]⟩ := by decide +kernel
  rw [e]
  show 46 :: x.cps.toList = (#[46] ++ x.cps).toList
  simp
theorem dot_len : (Str.ofString ".").length = 1 := by decide +kernel
end Mine
end

section
open PySem PySem.W PyProof.Rows PySem.Calls
set_option maxRecDepth 100000
set_option maxHeartbeats 8000000
namespace Mine
theorem ahead_list (p : Str) (ds : List Nat) (i : Nat) : (p ++ bodyOf ds i).cps.toList = p.cps.toList ++ (bodyOf ds i).cps.toList := by
  show (p.cps ++ (bodyOf ds i).cps).toList = _
  simp
theorem ahead_size {p : Str} (hp : p.cps.toList.length = 5) (ds : List Nat) (i : Nat) : (p ++ bodyOf ds i).cps.size < 1000 ∧ 5 ≤ (p ++ bodyOf ds i).cps.size := by
  have h1 := body_size ds i
  have h2 : (p ++ bodyOf ds i).cps.toList.length = (p ++ bodyOf ds i).cps.size := Array.length_toList
  have h3 : (bodyOf ds i).cps.toList.length = (bodyOf ds i).cps.size := Array.length_toList
  rw [ahead_list, List.length_append] at h2
  omega
theorem a1 : (Str.ofString "257 \"").cps.toList = [50, 53, 55, 32, 34] := by decide +kernel
theorem a2 : (Str.ofString "257 '").cps.toList = [50, 53, 55, 32, 39] := by decide +kernel
theorem a3 : (Str.ofString "257-\"").cps.toList = [50, 53, 55, 45, 34] := by decide +kernel
theorem a4 : (Str.ofString "250 \"").cps.toList = [50, 53, 48, 32, 34] := by decide +kernel
section
variable {w : World} {s : Shared} {h₀ : Heap} {L a : Addr} {m : Str → Option Value} {name : Str} {sc scope : Scope} {cd : Value} {cl : List (Str × Addr)} {mean : ExcName → Option Value} {mg mb : Str → Option Value} {ds : List Nat} {i : Nat} {c : Addr} {o_x : Obj} {news : List (Addr × Obj)} {tb : Tok} {S : List (Addr × Obj) → Prop}
/-- what the block's names stand for -/
structure BlockOk (sc scope : Scope) (cl : List (Str × Addr)) (name : Str) (L a : Addr) (cd : Value) (c : Addr) : Prop where
  fn : sc.kind = .function
  kd : scope.kind = .function
  cell : cl.lookup (Str.ofString "body") = some c
  k1 : ∀ C, (compEnvC scope cl C (envOfC name sc L a cd)).kindOf (Str.ofString "_law_read") = some .globalImplicit
  k2 : ∀ C, (compEnvC scope cl C (envOfC name sc L a cd)).kindOf (Str.ofString "ahead") = some .local
  k3 : ∀ C, (compEnvC scope cl C (envOfC name sc L a cd)).kindOf (Str.ofString "body") = some .cell
theorem block_call {h : Heap} {tk : Nat} {C : Addr} {m₂ : Str → Option Value} {pf px py pp pos : Pos} {u : Str} {tu : Tok} {Q E : Value → Shared → Prop}
    (b : BlockOk sc scope cl name L a cd c) (KX : (hd.heap_39 w.params).In h₀) (T : Tp mean mg mb h₀) (F : Fr h₀ L h m) (N : News h₀ L h news) (hC : h.Ns C m₂) (hu : m₂ (Str.ofString "ahead") = some (.str u tu)) (hm : (c, o_x) ∈ news) (hx : o_x.data = .cell (some (.str (bodyOf ds i) tb))) (hul : u.cps.toList.length = 5)
    (hQ : ∀ t tk', wpAny (model Pg w) (callerA.deeper (envOfC name sc L a cd)) (call (.ref 137) [.str (u ++ bodyOf ds i) t] []) Q E { s with heap := h, toks := tk' }) :
    wpAny (model Pg w) (callerA.deeper (envOfC name sc L a cd)) (eval (.Call (.Name (Str.ofString "_law_read") pf) [.BinOp (.Name (Str.ofString "ahead") px) .Add (.Name (Str.ofString "body") py) pp] [] pos) (compEnvC scope cl C (envOfC name sc L a cd))) Q E { s with heap := h, toks := tk } := by
  refine eltJoin (a := 137) (fun _ _ _ q => nameG_K F KX (topRead_of T) (by rfl) q rfl b.kd (b.k1 C) (by decide))
    (fun _ _ _ q => wpAny_Name (wpAny_loadName_local (env := compEnvC scope cl C (envOfC name sc L a cd)) b.kd (b.k2 C) hC hu q) (by decide))
    (fun _ _ _ q => nameC_cell b.cell ⟨o_x, (N _ hm).1, hx⟩ q b.kd (b.k3 C) (by decide)) ⟨_, _, (KX.keeps F.keep) _ _ rfl, rfl⟩ ?_ hQ
  have h1 := body_size ds i
  have h2 : u.cps.toList.length = u.cps.size := Array.length_toList
  rw [sizeLine_eq]
  show u.cps.size + (bodyOf ds i).cps.size ≤ _
  omega
theorem read4 {Fin : List Value → List (Addr × Obj) → Prop} {u1 u2 u3 u4 : Tok} {pf px py pp pos : Pos}
    (b : BlockOk sc scope cl name L a cd c) (KX : (hd.heap_39 w.params).In h₀) (T : Tp mean mg mb h₀) (hS : S news) (hm : (c, o_x) ∈ news) (hx : o_x.data = .cell (some (.str (bodyOf ds i) tb)))
    (fin : ∀ t₁ t₂ t₃, Fin [.str (lvH ds 0 i) t₁, .str ⟨#[]⟩ t₂, .str ⟨#[]⟩ t₃, .none] news) :
    LCg.CompRest Pg w (callerA.deeper (envOfC name sc L a cd)) h₀ L m (envOfC name sc L a cd) (.Call (.Name (Str.ofString "_law_read") pf) [.BinOp (.Name (Str.ofString "ahead") px) .Add (.Name (Str.ofString "body") py) pp] [] pos) (Str.ofString "ahead") scope cl s S
      (fun i v => (#[.str (Str.ofString "257 \"") u1, .str (Str.ofString "257 '") u2, .str (Str.ofString "257-\"") u3, .str (Str.ofString "250 \"") u4] : Array Value)[i]? = some v) Fin 4 0 [] news := by
  have hr : (callerA.deeper (envOfC name sc L a cd)).depth < 590 := by show 1 + claimMargin + 1 < 590; decide
  have hun : (callerA.deeper (envOfC name sc L a cd)).units < 8900 := by show 4 + 3 < 8900; decide
  refine LCg.CompRest.succ fun v I oI C oC D m₂ h tk E' hv hoC hm₂ F N off ne => ?_
  obtain rfl : Value.str (Str.ofString "257 \"") u1 = v := Option.some.inj hv
  have N' : News h₀ L h news := fun p hp => N p (.tail _ (.tail _ (.tail _ hp)))
  refine block_call b KX T F N' (hoC.ns (N (C, oC) (.tail _ (.head _))).1) hm₂ hm hx (by rw [a1]; rfl) fun t tk' => ?_
  obtain ⟨z1, z2⟩ := ahead_size (p := Str.ofString "257 \"") (by rw [a1]; rfl) ds i
  refine use (read_spec (r := lvH ds 0 i) (KX.keeps F.keep) (T.keeps F.keep) rfl hr hun z1 z2 (by rw [ahead_list, a1]; rfl) (.inr ⟨by rw [ahead_list, a1]; rfl, _, (tailOf_ok ds).1, by rw [ahead_list, a1, ← body_list]; rfl⟩)) ?_
  rintro v h' tk₂ ⟨t₁, rfl⟩ k
  refine LCg.CompEnd.intro (frUp F k) (newsUp N k) news (fun p hp => hp) off hS ?_
  clear k F N N' off z1 z2
  refine LCg.CompRest.succ fun v I oI C oC D m₂ h tk E' hv hoC hm₂ F N off ne => ?_
  obtain rfl : Value.str (Str.ofString "257 '") u2 = v := Option.some.inj hv
  have N' : News h₀ L h news := fun p hp => N p (.tail _ (.tail _ (.tail _ hp)))
  refine block_call b KX T F N' (hoC.ns (N (C, oC) (.tail _ (.head _))).1) hm₂ hm hx (by rw [a2]; rfl) fun t tk' => ?_
  obtain ⟨z1, z2⟩ := ahead_size (p := Str.ofString "257 '") (by rw [a2]; rfl) ds i
  refine use (read_spec (r := ⟨#[]⟩) (KX.keeps F.keep) (T.keeps F.keep) rfl hr hun z1 z2 (by rw [ahead_list, a2]; rfl) (.inl ⟨by rw [ahead_list, a2]; exact fun e => absurd (show [32, 39] = [32, 34] from e) (by decide), rfl⟩)) ?_
  rintro v h' tk₂ ⟨t₂, rfl⟩ k
  refine LCg.CompEnd.intro (frUp F k) (newsUp N k) news (fun p hp => hp) off hS ?_
  clear k F N N' off z1 z2
  refine LCg.CompRest.succ fun v I oI C oC D m₂ h tk E' hv hoC hm₂ F N off ne => ?_
  obtain rfl : Value.str (Str.ofString "257-\"") u3 = v := Option.some.inj hv
  have N' : News h₀ L h news := fun p hp => N p (.tail _ (.tail _ (.tail _ hp)))
  refine block_call b KX T F N' (hoC.ns (N (C, oC) (.tail _ (.head _))).1) hm₂ hm hx (by rw [a3]; rfl) fun t tk' => ?_
  obtain ⟨z1, z2⟩ := ahead_size (p := Str.ofString "257-\"") (by rw [a3]; rfl) ds i
  refine use (read_spec (r := ⟨#[]⟩) (KX.keeps F.keep) (T.keeps F.keep) rfl hr hun z1 z2 (by rw [ahead_list, a3]; rfl) (.inl ⟨by rw [ahead_list, a3]; exact fun e => absurd (show [45, 34] = [32, 34] from e) (by decide), rfl⟩)) ?_
  rintro v h' tk₂ ⟨t₃, rfl⟩ k
  refine LCg.CompEnd.intro (frUp F k) (newsUp N k) news (fun p hp => hp) off hS ?_
  clear k F N N' off z1 z2
  refine LCg.CompRest.succ fun v I oI C oC D m₂ h tk E' hv hoC hm₂ F N off ne => ?_
  obtain rfl : Value.str (Str.ofString "250 \"") u4 = v := Option.some.inj hv
  have N' : News h₀ L h news := fun p hp => N p (.tail _ (.tail _ (.tail _ hp)))
  refine block_call b KX T F N' (hoC.ns (N (C, oC) (.tail _ (.head _))).1) hm₂ hm hx (by rw [a4]; rfl) fun t tk' => ?_
  obtain ⟨z1, z2⟩ := ahead_size (p := Str.ofString "250 \"") (by rw [a4]; rfl) ds i
  refine wpAny_mono (read_err (KX.keeps F.keep) (T.keeps F.keep) (below_cells (below_caller h₀) F b.fn) KX T ?_ z1 z2 (by rw [ahead_list, a4]; exact fun e => absurd (show [50, 53, 48] = [50, 53, 55] from e) (by decide))) ?_ (fun _ _ x => x)
  · intro q hq
    obtain rfl : q = L := by
      obtain ⟨env, he, hf⟩ := List.mem_filterMap.mp hq
      rw [List.mem_singleton.mp he] at hf
      exact (Option.some.inj hf).symm
    obtain ⟨o, es, ep, ho, hd, _⟩ := F.ns
    exact ⟨o, es, ep, ho, hd⟩
  · rintro v s' ⟨rfl, h', tk₂, g, rfl, hT, k⟩
    have hT : KtsTurn [L] h g := hT
    exact LCg.CompEnd.intro (frTurn F hT k) (newsTurn N hT k) news (fun p hp => hp) off hS (LCg.CompRest.zero (fin _ _ _))
end
end Mine
namespace Mine
/-- a cell's store, the ledger told anew -/
theorem storeCell {M : Model} {A : Around} {E : Value → Shared → Prop} {s : Shared} {h₀ : Heap} {L : Addr} {m : Str → Option Value} {news rest : List (Addr × Obj)} {env : Env} {x : Str} {c : Addr} {o : Obj} {v₀ : Option Value} {v : Value} {Q : Unit → Shared → Prop}
    (F : Fr h₀ L s.heap m) (N : News h₀ L s.heap news) (hk : env.scope.kind = .function) (hl : env.kindOf x = some .cell) (hc : env.cells.lookup x = some c) (hm : (c, o) ∈ news) (hd : o.data = .cell v₀)
    (sub : ∀ p ∈ rest, p ∈ news) (off : ∀ p ∈ rest, p.1 ≠ c)
    (h : ∀ h' o', Fr h₀ L h' m → News h₀ L h' ((c, o') :: rest) → o'.data = .cell (some v) → Q () { s with heap := h' }) : wpAny M A (storeName env x v) Q E s := by
  have hmem := N (c, o) hm
  refine wpAny_storeName_cell hk hl hc ⟨o, hmem.1, hd⟩ fun h' hv hs => ?_
  obtain ⟨o', ho', hd'⟩ := hv
  refine h h' o' ⟨F.ns.sameBut hs (Ne.symm hmem.2.1), fun b ob e => (hs.2 b (fun q => ?_)).trans (F.keep b ob e), F.above⟩ (fun p hp => ?_) hd'
  · rw [q, hmem.2.2] at e; cases e
  · rcases List.mem_cons.mp hp with rfl | hp
    · exact ⟨ho', hmem.2⟩
    · exact ⟨(hs.2 _ (off p hp)).trans (N p (sub p hp)).1, (N p (sub p hp)).2⟩
end Mine
namespace Mine
theorem strOk_asc {x : Str} (h : ∀ c ∈ x.cps.toList, c < 128) : PyData.strOk x = true := by
  unfold PyData.strOk
  rw [← Array.all_toList, List.all_eq_true]
  intro c hc
  have := h c hc
  simp; omega
theorem flat4 {x : Str} (h : ∀ c ∈ x.cps.toList, c < 128) (t₁ t₂ t₃ : Tok) : Paired FlatD [.str x, .str ⟨#[]⟩, .str ⟨#[]⟩, .none] [.str x t₁, .str ⟨#[]⟩ t₂, .str ⟨#[]⟩ t₃, .none] :=
  .cons (.str _ _ (strOk_asc h)) (.cons (.str _ _ (by decide +kernel)) (.cons (.str _ _ (by decide +kernel)) (.cons .none .nil)))
theorem empty_str : Str.ofString "" = ⟨#[]⟩ := by decide +kernel
end Mine
end

section
open PySem PySem.W PyProof.Rows PySem.Calls
set_option maxRecDepth 100000
set_option maxHeartbeats 8000000
namespace Mine
/-! the law's body, cut into its statements: each cut is read off the program by unification -/
def lawDef : (x : List Stmt × Scope) ×' ∃ p, Pg.theDef (Str.ofString "law") = some (p, x.1, x.2) := ⟨(_, _), _, rfl⟩
def turn1B : (x : List Stmt) ×' ∃ a b c d, lawDef.1.1[6]? = some (.For a b x c d) := ⟨_, _, _, _, _, rfl⟩
def turn2B : (x : List Stmt) ×' ∃ a b c d, lawDef.1.1[7]? = some (.For a b x c d) := ⟨_, _, _, _, _, rfl⟩
abbrev lawEnv (L : Addr) : Env := envOfC (Str.ofString "law") lawDef.1.2 L 154 (.ref 153)
end Mine
end

section
open PySem PySem.W PyProof.Rows PySem.Calls
set_option maxRecDepth 100000
set_option maxHeartbeats 4000000
namespace Mine
local macro_rules | `(tactic| walk_at "pyIter ref") => `(tactic| refine hold ?_)
local macro_rules | `(tactic| walk_at "eval ListComp") => `(tactic| refine hold ?_)
local macro_rules | `(tactic| walk_at "eval Name") => `(tactic| (k_inBlock; with_unfolding_all first
  | (refine' nameC_local ?F ?v ?_ ?a ?b; (case a => rfl); (case b => rfl); (case F => assumption); (case v => assumption))
  | (refine' nameC_cellK ?F ?c ?o ?v ?_ ?a ?b; (case a => rfl); (case b => rfl); (case c => rfl); (case F => assumption); (case o => assumption); (case v => assumption))))
local macro_rules | `(tactic| walk_at "subscriptTail Name Name ref int") => `(tactic| refine hold ?_)
local macro_rules | `(tactic| walk_at "subscriptTail Name Slice str ref") => `(tactic| refine hold ?_)
local macro_rules | `(tactic| walk_at "subscriptTail Subscript Slice str ref") => `(tactic| refine hold ?_)
local macro_rules | `(tactic| walk_at "subscriptTail List") => `(tactic| refine hold ?_)
local macro_rules | `(tactic| walk_at "subscriptTail Name Constant ref int") => `(tactic| refine hold ?_)
local macro_rules | `(tactic| walk_at "call builtin:min") => `(tactic| refine hold ?_)
local macro_rules | `(tactic| walk_at "exec For Name Call cons nil") => `(tactic| (k_here; (with_unfolding_all refine' For_invVF (by assumption) ?k1 ?k2 ?_; (case k1 => exact rfl); (case k2 => exact rfl)); k_whole))
local macro_rules | `(tactic| walk_at "execs cons") => `(tactic| refine wpAny_execs_cons ?_)
local macro_rules | `(tactic| walk_at "compareOp NotEq ref ref") => `(tactic| refine hold ?_)
local macro_rules | `(tactic| walk_at "call builtin:list.append") => `(tactic| refine hold ?_)
local macro_rules | `(tactic| walk_at "call ref") => `(tactic| refine hold ?_)
/-- one turn of the first loop -/
theorem turn1 {w : World} {s : Shared} {mean mg mb} {ds : List Nat} {X G B D : Nat} {xv gv bv dv : List Value} {kx kg kb kd : Nat} {o_x o_b o_d : Obj} {vx : Option Value} {tt tl t : Tok} {i : Nat} {m₁ : Str → Option Value} {h₅ : Heap} {tk₅ : Nat} {own : List (Addr × Obj)} {Q : Flow → Shared → Prop} {E : Value → Shared → Prop}
    (KX : (hd.heap_39 w.params).In s.heap) (T : Tp mean mg mb s.heap)
    (n3 : s.heap.objs.size + 3 ≠ D) (p3 : s.heap.objs.size + 3 ≠ B) (q3 : s.heap.objs.size + 3 ≠ G) (r3 : s.heap.objs.size + 3 ≠ X) (r2 : s.heap.objs.size + 2 ≠ X) (r1 : s.heap.objs.size + 1 ≠ X) (hXD : X ≠ D) (hXB : X ≠ B) (hXG : X ≠ G)
    (hbv : Paired (fun j v => IsNum (2 + ds.getD j 0 % 3) v) (List.range 3) bv) (hgv : Paired (fun j v => IsStr (figOf ds j) v) (List.range 3) gv)
    (d_b : o_b.data = .cell (some (.ref B))) (d_x : o_x.data = .cell vx) (hxv : Paired (IsTxt fun j => hostS (figsOf ds) (basesOf ds) j (topOf ds)) (List.range i) xv)
    (hi : i < countOf ds) (hown : ∀ p ∈ own, p.1 ∉ [X, s.heap.objs.size + 3])
    (em : m₁ (Str.ofString "figures") = some (.ref G)) (et : m₁ (Str.ofString "top") = some (.str (topOf ds) tt)) (el : m₁ (Str.ofString "tail") = some (.str (tailOf ds) tl)) (eh : m₁ (Str.ofString "hosts") = some (.ref X))
    (F₅ : Fr s.heap s.heap.objs.size h₅ (fun y => if y = Str.ofString "number" then some (.int (0 + (i : Nat)) t) else m₁ y))
    (N₅ : News s.heap s.heap.objs.size h₅ ((X, listOf xv.toArray kx) :: (G, listOf gv.toArray kg) :: (B, listOf bv.toArray kb) :: (D, listOf dv.toArray kd) :: (s.heap.objs.size + 3, o_x) :: (s.heap.objs.size + 2, o_b) :: (s.heap.objs.size + 1, o_d) :: own)) :
    wpAny (model Pg w) (callerA.deeper (lawEnv s.heap.objs.size)) (execs turn1B.1 (lawEnv s.heap.objs.size))
      (TurnTo s.heap (lawEnv s.heap.objs.size).locals (fun m nx => ∃ xv kx o_x vx, o_x.data = .cell vx ∧ Paired (IsTxt fun j => hostS (figsOf ds) (basesOf ds) j (topOf ds)) (List.range (i + 1)) xv ∧ nx = [(X, listOf xv.toArray kx), (G, listOf gv.toArray kg), (B, listOf bv.toArray kb), (D, listOf dv.toArray kd), (s.heap.objs.size + 3, o_x), (s.heap.objs.size + 2, o_b), (s.heap.objs.size + 1, o_d)] ∧
        m (Str.ofString "figures") = some (.ref G) ∧ m (Str.ofString "top") = some (.str (topOf ds) tt) ∧ m (Str.ofString "tail") = some (.str (tailOf ds) tl) ∧ m (Str.ofString "hosts") = some (.ref X)) own [X, G, B, D, s.heap.objs.size + 3, s.heap.objs.size + 2, s.heap.objs.size + 1] { s with heap := h₅, toks := tk₅ } Q) E { s with heap := h₅, toks := tk₅ } := by
  have dummy : (fun (_ : OpenLaw) (_ : Params → Frag) => True) PySem.Challenge.rw_zo0023_01 hd.heap_39 := by
    k_fill
    trivial
  have hcnt := count_ok ds
  have hbI := ints_of_paired hbv
  have hbl3 := hbv.length
  rw [List.length_range] at hbl3
  have hA : callerA.handled = none := rfl
  dsimp only [lawEnv, lawDef, turn1B]
  replace F₅ := frSees [(Str.ofString "number", .int (0 + (i : Nat)) t), (Str.ofString "figures", .ref G), (Str.ofString "top", .str (topOf ds) tt), (Str.ofString "tail", .str (tailOf ds) tl), (Str.ofString "hosts", .ref X)] F₅ ⟨rfl, em, et, el, eh, trivial⟩
  k_steps
  refine Hold.out ?_
  rename Fr _ _ _ _ => F₆
  rename News _ _ _ _ => N₆
  rw [Int.zero_add]
  refine use (R := fun v _ => ∃ t, v = .str (hostS (figsOf ds) (basesOf ds) i (topOf ds)) t) ?_ ?_
  · exact host_spec (KX.keeps F₆.keep) (T.keeps F₆.keep) rfl (by show 1 + claimMargin + 1 < 600; decide) (by show 4 + 3 < 9000; decide) (N₆.isList (show (B, listOf bv.toArray kb) ∈ _ by k_mem)) hbI (N₆.isList (show (G, listOf gv.toArray kg) ∈ _ by k_mem)) (Paired.map hgv) rfl rfl (bases_bound ds) (figs_fit ds) (by omega) (top_bound ds) (figs_bound ds)
  rintro v h₇ tk₇ ⟨th, rfl⟩ k₇
  have F₇ := frUp F₆ k₇
  have N₇ := newsUp N₆ k₇
  clear F₆ N₆
  have hhs := host_size ds i
  have hhl : (hostS (figsOf ds) (basesOf ds) i (topOf ds)).length ≤ 1048576 := by show (hostS (figsOf ds) (basesOf ds) i (topOf ds)).cps.size ≤ _; omega
  dsimp only
  k_steps
  rw [rep_q]
  refine PyProof.Rows.add_str (fun t₈ tk₈ => ?_) (by
    have h1 := esc_size ds i
    have h2 := (tailOf_ok ds).2
    rw [sizeLine_eq]
    show (esc (lvH ds 0 i).cps.toList).toArray.size + (tailOf ds).cps.size ≤ _
    rw [List.size_toArray]; omega)
  have hbe : (⟨(esc (hostS (figsOf ds) (basesOf ds) i (topOf ds)).cps.toList).toArray⟩ : Str) ++ tailOf ds = bodyOf ds i := rfl
  rw [hbe]
  k_steps
  rename Fr _ _ _ _ => F₈
  rename News _ _ _ _ => N₈
  have oX := offOwn hown (D := X) (by simp)
  have oC := offOwn hown (D := s.heap.objs.size + 3) (by simp)
  refine storeCell F₈ N₈ rfl rfl rfl (show (s.heap.objs.size + 3, o_x) ∈ _ by k_mem) d_x (rest := (X, listOf xv.toArray kx) :: (G, listOf gv.toArray kg) :: (B, listOf bv.toArray kb) :: (D, listOf dv.toArray kd) :: (s.heap.objs.size + 2, o_b) :: (s.heap.objs.size + 1, o_d) :: own) ?_ ?_ fun h₉ o_x' F₉ N₉ d_x' => ?_
  · intro p hp
    simp only [List.mem_cons] at hp ⊢
    rcases hp with h | h | h | h | h | h | h <;> simp only [h, true_or, or_true]
  · refine OffL.out (l := [_, _, _, _, _, _]) ⟨?_, ?_, ?_, ?_, ?_, ?_, oC⟩
    · exact Ne.symm r3
    · exact Ne.symm q3
    · exact Ne.symm p3
    · exact Ne.symm n3
    · exact Nat.ne_of_lt (by omega)
    · exact Nat.ne_of_lt (by omega)
  clear F₈ N₈
  k_steps
  refine Hold.out ?_
  rename Fr _ _ _ _ => F₁₀
  rename News _ _ _ _ => N₁₀
  refine compTupleU F₁₀ (by with_unfolding_all rfl) (by decide) (by rfl) (by decide) (by rfl) ?_
  k_steps
  rename Fr _ _ _ _ => F₁₁
  rename News _ _ _ _ => N₁₁
  refine ⟨_, _, _, rfl, rfl, F₁₁, N₁₁, ⟨_, .head _, fun h e => ⟨_, e, rfl, _, rfl⟩⟩, by show 4 ≤ sizeLine; rw [sizeLine_eq]; decide, fun g => ?_⟩
  refine read4 (c := s.heap.objs.size + 1 + 1 + 1) (o_x := o_x') (ds := ds) (i := i) (tb := t₈) ⟨rfl, rfl, rfl, fun _ => rfl, fun _ => rfl, fun _ => rfl⟩ KX T ⟨_, .head _, fun h e => ⟨_, e, rfl, _, rfl⟩⟩ (.tail _ (.head _)) d_x' fun t₁ t₂ t₃ D' h₁₂ tk₁₂ F₁₂ N₁₂ off => ?_
  have N₁₃ := newsSub (l := (D', LCg.lst [.str (lvH ds 0 i) t₁, .str ⟨#[]⟩ t₂, .str ⟨#[]⟩ t₃, .none]) :: (X, listOf xv.toArray kx) :: (G, listOf gv.toArray kg) :: (B, listOf bv.toArray kb) :: (D, listOf dv.toArray kd) :: (s.heap.objs.size + 3, o_x') :: (s.heap.objs.size + 2, o_b) :: (s.heap.objs.size + 1, o_d) :: own) N₁₂ (by
    intro p hp
    simp only [List.mem_cons] at hp ⊢
    rcases hp with h | h | h | h | h | h | h | h | h <;> simp only [h, true_or, or_true])
  clear F₁₁ N₁₁ N₁₂ off
  dsimp only
  k_steps
  refine Hold.out ?_
  rename Fr _ _ _ _ => F₁₄
  rename News _ _ _ _ => N₁₄
  rw [empty_str] at N₁₄
  have hfl := flat4 (lv_asc ds 0 i)
  refine ne_flat (vs := [.str (lvH ds 0 i) t₁, .str ⟨#[]⟩ t₂, .str ⟨#[]⟩ t₃, .none]) (us := [.str (lvH ds 0 i) th, .str ⟨#[]⟩ _, .str ⟨#[]⟩ _, .none]) ⟨_, (N₁₄ _ (.tail _ (.head _))).1, rfl, _, rfl⟩ (hfl _ _ _) ⟨_, (N₁₄ _ (.head _)).1, rfl, _, rfl⟩ (hfl _ _ _) (by show 4 + 3 < 9800; decide) ?_
  k_steps
  refine Hold.out ?_
  rename Fr _ _ _ _ => F₁₅
  rename News _ _ _ _ => N₁₅
  have hxl : xv.length = i := by rw [← hxv.length, List.length_range]
  have N₁₆ := newsSub (l := (X, listOf xv.toArray kx) :: (G, listOf gv.toArray kg) :: (B, listOf bv.toArray kb) :: (D, listOf dv.toArray kd) :: (s.heap.objs.size + 3, o_x') :: (s.heap.objs.size + 2, o_b) :: (s.heap.objs.size + 1, o_d) :: own) N₁₅ (by
    intro p hp
    simp only [List.mem_cons] at hp ⊢
    rcases hp with h | h | h | h | h | h | h | h <;> simp only [h, true_or, or_true])
  clear N₁₅
  refine append_K F₁₅ N₁₆ (.head (OffL.out (l := [_, _, _, _, _, _]) ⟨?_, ?_, ?_, ?_, ?_, ?_, oX⟩)) (fun h₁₇ F₁₇ N₁₇ => ?_) (by rw [sizeLine_eq, List.size_toArray]; omega)
  · exact Ne.symm hXG
  · exact Ne.symm hXB
  · exact Ne.symm hXD
  · exact r3
  · exact r2
  · exact r1
  rw [List.push_toArray] at N₁₇
  clear F₁₅ N₁₆
  dsimp only
  k_steps
  rename Fr _ _ _ _ => F₁₈
  rename News _ _ _ _ => N₁₈
  refine TurnTo.nextN [(X, listOf (xv ++ [Value.str (hostS (figsOf ds) (basesOf ds) i (topOf ds)) th]).toArray (kx + 1)), (G, listOf gv.toArray kg), (B, listOf bv.toArray kb), (D, listOf dv.toArray kd), (s.heap.objs.size + 3, o_x'), (s.heap.objs.size + 2, o_b), (s.heap.objs.size + 1, o_d)] F₁₈ N₁₈ (fun p hp => hp) rfl ⟨_, kx + 1, o_x', _, d_x', ?_, rfl, rfl, rfl, rfl, rfl⟩
  rw [List.range_succ]
  exact Paired.snoc hxv ⟨_, rfl⟩
end Mine
end

section
open PySem PySem.W PyProof.Rows PySem.Calls
set_option maxRecDepth 100000
set_option maxHeartbeats 8000000
namespace Mine
section
variable {prog : Program} {w : World} {A : Around} {s : Shared} {env : Env} {h₀ : Heap} {x : Str} {body : List Stmt} {Q : Flow → Shared → Prop}
theorem isTrueS {e : Expr} {whole : Sem Value} {Q : Bool → Shared → Prop} (h : wpS (model prog w) A whole (fun v s₁ => wpAny (model prog w) A (truthy v) Q (fun _ _ => False) s₁) s)
    (he : isTrue e env whole = (do let v ← whole; standAt e.pos; holding [v] (truthy v)) := by rfl) : wpS (model prog w) A (isTrue e env whole) Q s := by
  rw [he]
  exact wpS_bind (wpS_mono h fun v s₁ h₁ => wpS_bindA (wpAny_standAt (wpS_of (wpAny_holding h₁))))
/-- a turn's end where the ledger's places may be others -/
def TurnV (h₀ : Heap) (L : Addr) (J : (Str → Option Value) → List (Addr × Obj) → Prop) (own : List (Addr × Obj)) (s₁ : Shared) (Q : Flow → Shared → Prop) (f : Flow) (s₂ : Shared) : Prop :=
  match f with
  | .ret v => Q (.ret v) s₂
  | .brk => Q .next s₂
  | _ => ∃ h' tk m' nx, s₂ = { s₁ with heap := h', toks := tk } ∧ Fr h₀ L h' m' ∧ News h₀ L h' (nx ++ own) ∧ (∀ p ∈ nx, ∀ q ∈ own, p.1 ≠ q.1) ∧ J m' nx
theorem iterRangeV {r : Addr} {a₀ b₀ : Int} {t₀ u₀ v₀ : Tok} (n : Nat) {m₀ : Str → Option Value} {news : List (Addr × Obj)} {px : Pos} (J : Nat → (Str → Option Value) → List (Addr × Obj) → Prop)
    (hx : env.kindOf x = some .local) (hp : (env.scope.kind == .class || (env.scope.kind == .module && env.locals != env.globals)) = false)
    (hh : A.handled = none) (hr : IsRange s.heap r a₀ b₀ 1 t₀ u₀ v₀) (hsmall : Builtin.Range.small a₀ b₀ 1 = true) (hn : Builtin.Range.rangeSize a₀ b₀ 1 = (n : Int)) (F : Fr h₀ env.locals s.heap m₀) (N : News h₀ env.locals s.heap news) (hj : J 0 m₀ news)
    (turn : ∀ i t m₁ nx h tk own, i < n → (∀ p ∈ nx, ∀ q ∈ own, p.1 ≠ q.1) → J i m₁ nx → Fr h₀ env.locals h (fun y => if y = x then some (.int (a₀ + (i : Nat)) t) else m₁ y) → News h₀ env.locals h (nx ++ own) →
      wpS (model prog w) A (execs body env) (TurnV h₀ env.locals (J (i + 1)) own { s with heap := h, toks := tk } Q) { s with heap := h, toks := tk })
    (done : ∀ m₁ nx h tk, J n m₁ nx → Fr h₀ env.locals h m₁ → News h₀ env.locals h nx → Q .next { s with heap := h, toks := tk }) :
    wpAny (model prog w) A (pyIter (.ref r)) (fun it s₂ => codeS (model prog w) A (.forLoop (.Name x px) it body [] env) Q s₂) (fun _ _ => False) s := by
  refine wpAny_pyIter_range hr hsmall ?_
  have W := Walks.range (prog := prog) (w := w) hh s.heap.objs.size a₀ 1 n
  have hI : h₀.get? s.heap.objs.size = none := baseNew F
  have hLI : env.locals ≠ s.heap.objs.size := Nat.ne_of_lt F.ns.lt
  have hLf : env.locals ∉ [s.heap.objs.size] := fun q => hLI (List.mem_singleton.mp q)
  have hnI := newsNe N
  generalize hIe : s.heap.objs.size = I at *
  have hst : IsRangeIter (s.heap.push { cls := .type "range_iterator", data := .fields #[.int a₀ 0, .int (Builtin.Range.rangeSize a₀ b₀ 1) 0, .int 1 0] }) I (a₀ + (0 : Nat) * 1) ((n : Int) - (0 : Nat)) 1 := by
    subst hIe
    have e1 : a₀ + ((0 : Nat) : Int) * 1 = a₀ := by simp
    have e2 : (n : Int) - ((0 : Nat) : Int) = n := by simp
    rw [hn, e1, e2]
    exact Heap.get?_push_size _ rfl
  have F0 := F.push { cls := .type "range_iterator", data := .fields #[.int a₀ 0, .int (Builtin.Range.rangeSize a₀ b₀ 1) 0, .int 1 0] }
  have N0 := newsPush N { cls := .type "range_iterator", data := .fields #[.int a₀ 0, .int (Builtin.Range.rangeSize a₀ b₀ 1) 0, .int 1 0] }
  have old : ∀ b o, h₀.get? b = some o → b ∉ [I] := fun b o e hb => by rw [List.mem_singleton.mp hb, hI] at e; cases e
  refine codeS_forLoop (fun k s' => ∃ h' tk m' nx i, s' = { s with heap := h', toks := tk } ∧ IsRangeIter h' I (a₀ + (i : Nat) * 1) ((n : Int) - (i : Nat)) 1 ∧ Fr h₀ env.locals h' m' ∧ News h₀ env.locals h' nx ∧ (∀ p ∈ nx, p.1 ≠ I) ∧ J i m' nx ∧ i ≤ n ∧ k = n + 1 - i) ?_ (n + 1)
    ⟨_, s.toks, m₀, news, 0, rfl, hst, F0, N0, hnI, hj, Nat.zero_le _, rfl⟩
  rintro k s' ⟨h', tk, m', nx, i, rfl, hst', F', N', ha, hJ, hi, rfl⟩
  have next : ∀ h₁ : Heap, (∀ b o, b ∉ [I] → h'.get? b = some o → h₁.get? b = some o) → Fr h₀ env.locals h₁ m' ∧ News h₀ env.locals h₁ nx := fun h₁ hk₁ =>
    ⟨⟨F'.ns.at' fun o e => hk₁ _ o hLf e, fun b o e => hk₁ b o (old b o e) (F'.keep b o e), F'.above⟩, fun p hp => ⟨hk₁ _ _ (fun q => ha p hp (List.mem_singleton.mp q)) (N' p hp).1, (N' p hp).2⟩⟩
  by_cases hlt : i < n
  · refine W.item i _ _ _ hlt hst' fun v h₁ tk₁ hP hst₁ hk₁ => ?_
    obtain ⟨F₁, N₁⟩ := next h₁ hk₁
    refine wpAny_assign_Name (wpAny_storeName_local hx F₁.ns (fun h₂ hn₂ hs₂ => ?_) hp)
    have F₂ := F₁.set hn₂ hs₂
    have Nown : News h₀ env.locals h₂ (ownOf h₀ [I] h₂) := news_ownOf hLf
    have hst₂ : IsRangeIter h₂ I (a₀ + ((i + 1 : Nat) : Int) * 1) ((n : Int) - ((i + 1 : Nat) : Int)) 1 := W.frame _ _ _ hst₁ fun b hb o e => (hs₂.2 b fun q => hLf (q ▸ hb)).trans e
    have hIo : ∃ o, h₂.get? I = some o := ⟨_, hst₂⟩
    obtain ⟨oI, heI⟩ := hIo
    have hIown : (I, oI) ∈ ownOf h₀ [I] h₂ := mem_ownOf (List.mem_singleton.mpr rfl) hI heI
    have NN : News h₀ env.locals h₂ (nx ++ ownOf h₀ [I] h₂) := fun p hp => (List.mem_append.mp hp).elim (fun q => N₁.set hs₂ p q) fun q => Nown p q
    obtain ⟨t, rfl⟩ := hP
    rw [Int.mul_one] at F₂
    refine wpS_mono (turn i t m' nx h₂ _ (ownOf h₀ [I] h₂) hlt (fun p hp q hq => by rw [List.mem_singleton.mp (ownOf_sub q hq)]; exact ha p hp) hJ F₂ NN) (fun f s₃ h₃ => ?_)
    have fin : (∃ h' tk m₂ nx₂, s₃ = { { s with heap := h₂, toks := tk₁ + 1 } with heap := h', toks := tk } ∧ Fr h₀ env.locals h' m₂ ∧ News h₀ env.locals h' (nx₂ ++ ownOf h₀ [I] h₂) ∧ (∀ p ∈ nx₂, ∀ q ∈ ownOf h₀ [I] h₂, p.1 ≠ q.1) ∧ J (i + 1) m₂ nx₂) →
        ∃ m, m < n + 1 - i ∧ ∃ h' tk m' nx i', s₃ = { s with heap := h', toks := tk } ∧ IsRangeIter h' I (a₀ + (i' : Nat) * 1) ((n : Int) - (i' : Nat)) 1 ∧ Fr h₀ env.locals h' m' ∧ News h₀ env.locals h' nx ∧ (∀ p ∈ nx, p.1 ≠ I) ∧ J i' m' nx ∧ i' ≤ n ∧ m = n + 1 - i' := by
      rintro ⟨h₃', tk₃, m₂, nx₂, rfl, F₃, N₃, ha₃, hJ₃⟩
      refine ⟨n + 1 - (i + 1), by omega, h₃', tk₃, m₂, nx₂, i + 1, rfl, ?_, F₃, fun p hp => N₃ p (List.mem_append_left _ hp), fun p hp => ha₃ p hp _ hIown, hJ₃, hlt, rfl⟩
      refine W.frame _ _ _ hst₂ fun b hb o e => ?_
      obtain rfl := List.mem_singleton.mp hb
      rw [heI] at e
      cases e
      exact (N₃ _ (List.mem_append_right _ hIown)).1
    cases f with
    | ret v => exact h₃
    | brk => exact h₃
    | cont => exact fin h₃
    | next => exact fin h₃
  · have hin : i = n := by omega
    subst hin
    refine W.done _ _ _ hst' fun h₁ tk₁ hk₁ => ?_
    obtain ⟨F₁, N₁⟩ := next h₁ hk₁
    exact done m' nx h₁ tk₁ hJ F₁ N₁
end
end Mine
namespace Mine
theorem str_of {x y : Str} (e : x.cps.toList = y.cps.toList) : x = y := by
  cases x; cases y
  congr 1
  exact Array.ext' e
end Mine
end

section
open PySem PySem.W PyProof.Rows PySem.Calls
set_option maxRecDepth 100000
set_option maxHeartbeats 4000000
namespace Mine
local macro_rules | `(tactic| walk_at "pyIter ref") => `(tactic| refine hold ?_)
local macro_rules | `(tactic| walk_at "eval ListComp") => `(tactic| refine hold ?_)
local macro_rules | `(tactic| walk_at "exec Assign cons ListComp") => `(tactic| refine hold ?_)
local macro_rules | `(tactic| walk_at "eval Name") => `(tactic| (k_inBlock; with_unfolding_all first
  | (refine' nameC_local ?F ?v ?_ ?a ?b; (case a => rfl); (case b => rfl); (case F => assumption); (case v => assumption))
  | (refine' nameC_cellK ?F ?c ?o ?v ?_ ?a ?b; (case a => rfl); (case b => rfl); (case c => rfl); (case F => assumption); (case o => assumption); (case v => assumption))))
local macro_rules | `(tactic| walk_at "subscriptTail Name Slice ref ref") => `(tactic| refine hold ?_)
local macro_rules | `(tactic| walk_at "subscriptTail Name Slice str ref") => `(tactic| refine hold ?_)
local macro_rules | `(tactic| walk_at "subscriptTail Name Name ref int") => `(tactic| refine hold ?_)
local macro_rules | `(tactic| walk_at "compareOp NotEq str str") => `(tactic| refine hold ?_)
local macro_rules | `(tactic| walk_at "exec For Name Name cons nil") => `(tactic| (k_here; (with_unfolding_all refine' For_invVF (by assumption) ?k1 ?k2 ?_; (case k1 => exact rfl); (case k2 => exact rfl)); k_whole))
local macro_rules | `(tactic| walk_at "execs cons") => `(tactic| refine wpAny_execs_cons ?_)
local macro_rules | `(tactic| walk_at "call ref") => `(tactic| refine hold ?_)
/-- one turn of the loop over the levels -/
theorem turn2 {w : World} {s : Shared} {mean mg mb} {ds : List Nat} {Y B : Nat} {yv bv : List Value} {ky kb : Nat} {o_b : Obj} {tt t : Tok} {k : Nat} {m₁ : Str → Option Value} {h₅ : Heap} {tk₅ : Nat} {own : List (Addr × Obj)} {Q : Flow → Shared → Prop}
    (KX : (hd.heap_39 w.params).In s.heap) (T : Tp mean mg mb s.heap) (hk : k < 3)
    (hbv : Paired (fun j v => IsNum (2 + ds.getD j 0 % 3) v) (List.range 3) bv) (d_b : o_b.data = .cell (some (.ref B))) (hyv : Paired (IsTxt (lvH ds k)) (List.range (levN ds k)) yv)
    (hown : ∀ p ∈ [(Y, listOf yv.toArray ky), (B, listOf bv.toArray kb), (s.heap.objs.size + 2, o_b)], ∀ q ∈ own, p.1 ≠ q.1)
    (et : m₁ (Str.ofString "top") = some (.str (topOf ds) tt)) (eh : m₁ (Str.ofString "hosts") = some (.ref Y))
    (F₅ : Fr s.heap s.heap.objs.size h₅ (fun y => if y = Str.ofString "level" then some (.int (0 + (k : Nat)) t) else m₁ y))
    (N₅ : News s.heap s.heap.objs.size h₅ ((Y, listOf yv.toArray ky) :: (B, listOf bv.toArray kb) :: (s.heap.objs.size + 2, o_b) :: own)) :
    wpS (model Pg w) (callerA.deeper (lawEnv s.heap.objs.size)) (execs turn2B.1 (lawEnv s.heap.objs.size))
      (TurnV s.heap (lawEnv s.heap.objs.size).locals (fun m nx => ∃ Y yv ky, Paired (IsTxt (lvH ds (k + 1))) (List.range (levN ds (k + 1))) yv ∧ nx = [(Y, listOf yv.toArray ky), (B, listOf bv.toArray kb), (s.heap.objs.size + 2, o_b)] ∧
        m (Str.ofString "top") = some (.str (topOf ds) tt) ∧ m (Str.ofString "hosts") = some (.ref Y)) own { s with heap := h₅, toks := tk₅ } Q) { s with heap := h₅, toks := tk₅ } := by
  have dummy : (fun (_ : OpenLaw) (_ : Params → Frag) => True) PySem.Challenge.rw_zo0023_01 hd.heap_39 := by
    k_fill
    trivial
  have hbI := ints_of_paired hbv
  have hbl3 := hbv.length
  rw [List.length_range] at hbl3
  have hn13 := lev_le ds k (by omega)
  have hyl : yv.length = levN ds k := by rw [← hyv.length, List.length_range]
  have hA : callerA.handled = none := rfl
  dsimp only [lawEnv, lawDef, turn2B]
  replace F₅ := frSees [(Str.ofString "level", .int (0 + (k : Nat)) t), (Str.ofString "top", .str (topOf ds) tt), (Str.ofString "hosts", .ref Y)] F₅ ⟨rfl, et, eh, trivial⟩
  refine execsS (ifNotS (isTrueS (callS_fn' (a := 149) ?_)))
  k_steps
  refine Hold.out ?_
  refine slice_list (lo := some (0 + (k : Int))) (hi := none) F₅ N₅ (N₅.isList (show (B, listOf bv.toArray kb) ∈ _ by k_mem)) (.int _ _) .none (fun h₆ F₆ N₆ => ?_) (hsz := by rw [sizeLine_eq, List.size_toArray]; omega)
  have epick : slicePick bv.toArray (some (0 + (k : Int))) none none = (bv.drop k).toArray := by
    rw [kms_pick_eq]
    congr 1
    show (bv.drop (kms_lo (some (0 + (k : Int))) bv.length)).take (kms_hi none bv.length - kms_lo (some (0 + (k : Int))) bv.length) = _
    have e1 : kms_lo (some (0 + (k : Int))) bv.length = k := by
      show (if 0 + (k : Int) < 0 then bv.length - (-(0 + (k : Int))).toNat else min (0 + (k : Int)).toNat bv.length) = k
      rw [if_neg (by omega)]; omega
    have e2 : kms_hi none bv.length = bv.length := rfl
    rw [e1, e2, List.take_of_length_le (by rw [List.length_drop]; exact Nat.le_refl _)]
  rw [epick] at N₆
  clear F₅ N₅
  k_steps
  · exact ⟨_, _, (KX.keeps F₆.keep) _ _ rfl, rfl⟩
  have hd : IntsAre (bv.drop k) ((lvB ds k).map Int.ofNat) := by
    have := hbI.drop k
    rw [← List.map_drop] at this
    exact this
  refine useS (told_spec (H := lvH ds k) (W := lvW ds k) (n := levN ds k) (bs := lvB ds k) (bv := bv.drop k) (KX.keeps F₆.keep) (T.keeps F₆.keep) rfl (by show 1 + claimMargin + 1 < 500; decide) (by show 4 + 3 < 8000; decide) (N₆.isList (show (Y, listOf yv.toArray ky) ∈ _ by k_mem)) ⟨_, (N₆ _ (.head _)).1, rfl, _, rfl⟩ hd (bases_drop ds k hk) hn13 hyv
    (fun i j hi hj => lv_lt ds (by omega) (by omega)) (fun i _ => by have := lv_sizes ds k i; omega) (fun i _ => lv_asc ds k i) (fun _ _ => rfl) (fun i j hi hj => lv_rev ds (by omega) (by omega))) ?_
  rintro v h₇ tk₇ rfl k₇
  have F₇ := frUp F₆ k₇
  have N₇ := newsUp N₆ k₇
  clear F₆ N₆
  dsimp only
  k_steps
  refine wpS_of (wpAny_execs_nil ?_)
  dsimp only
  refine execsG (At s s.heap.objs.size fun m news => news = [(Y, listOf yv.toArray ky), (B, listOf bv.toArray kb), (s.heap.objs.size + 2, o_b)] ++ own ∧ m (Str.ofString "climbs") = some (.bool (climbs ds k)) ∧ m (Str.ofString "level") = some (.int (0 + (k : Nat)) t) ∧ m (Str.ofString "top") = some (.str (topOf ds) tt) ∧ m (Str.ofString "hosts") = some (.ref Y)) ?_ ?_
  · k_steps
    refine Hold.out ?_
    by_cases h1 : topOf ds = Str.ofString "0.7"
    · refine ne_no (congrArg (fun x : Str => x.cps.toList) h1) ?_
      k_steps
      rename Fr _ _ _ _ => F₈
      rename News _ _ _ _ => N₈
      exact ⟨rfl, At.mk _ F₈ N₈ (fun p hp => .tail _ hp) ⟨rfl, congrArg (fun b => some (Value.bool b)) (climbs_07 h1).symm, rfl, rfl, rfl⟩⟩
    · refine ne_yes (fun e => h1 (str_of e)) ?_
      k_steps
      · rename Fr _ _ _ _ => F₈
        rename News _ _ _ _ => N₈
        refine ⟨rfl, At.mk _ F₈ N₈ (fun p hp => .tail _ hp) ⟨rfl, congrArg (fun b => some (Value.bool b)) ?_, rfl, rfl, rfl⟩⟩
        rw [climbs_lo h1 (by omega)]
        exact decide_eq_true (by omega)
      · refine Hold.out ?_
        by_cases h3 : topOf ds = Str.ofString "net"
        · refine ne_no (congrArg (fun x : Str => x.cps.toList) h3) ?_
          k_steps
          rename Fr _ _ _ _ => F₈
          rename News _ _ _ _ => N₈
          exact ⟨rfl, At.mk _ F₈ N₈ (fun p hp => .tail _ hp) ⟨rfl, congrArg (fun b => some (Value.bool b)) (climbs_net (by omega) h3).symm, rfl, rfl, rfl⟩⟩
        · refine ne_yes (fun e => h3 (str_of e)) ?_
          k_steps
          rename Fr _ _ _ _ => F₈
          rename News _ _ _ _ => N₈
          exact ⟨rfl, At.mk _ F₈ N₈ (fun p hp => .tail _ hp) ⟨rfl, congrArg (fun b => some (Value.bool b)) (climbs_hi h1 h3).symm, rfl, rfl, rfl⟩⟩
  clear F₇ N₇
  rintro s' ⟨h₈, tk₈, m₈, _, rfl, F₈, N₈, rfl, ec, ev, et, eh⟩
  replace F₈ := frSees [(Str.ofString "climbs", .bool (climbs ds k)), (Str.ofString "level", .int (0 + (k : Nat)) t), (Str.ofString "top", .str (topOf ds) tt), (Str.ofString "hosts", .ref Y)] F₈ ⟨ec, ev, et, eh, trivial⟩
  refine execsG (At s s.heap.objs.size fun m news => news = [(Y, listOf yv.toArray ky), (B, listOf bv.toArray kb), (s.heap.objs.size + 2, o_b)] ++ own ∧ m (Str.ofString "level") = some (.int (0 + (k : Nat)) t) ∧ m (Str.ofString "top") = some (.str (topOf ds) tt) ∧ m (Str.ofString "hosts") = some (.ref Y)) ?_ ?_
  · k_steps
    refine Hold.out ?_
    rename Fr _ _ _ _ => F₉
    rename News _ _ _ _ => N₉
    have hYL : Y ≠ s.heap.objs.size := (N₉ (Y, listOf yv.toArray ky) (.head _)).2.1
    refine iterList (mu := []) (fun i m nx => nx = [(Y, listOf yv.toArray ky), (B, listOf bv.toArray kb), (s.heap.objs.size + 2, o_b)] ++ own ∧ m (Str.ofString "climbs") = some (.bool (climbs ds k)) ∧ m (Str.ofString "level") = some (.int (0 + (k : Nat)) t) ∧ m (Str.ofString "top") = some (.str (topOf ds) tt) ∧ m (Str.ofString "hosts") = some (.ref Y))
      (by exact hA) (N₉.isList (show (Y, listOf yv.toArray ky) ∈ _ by k_mem)) hYL (by simp) (by simp) F₉ N₉ ⟨rfl, rfl, rfl, rfl, rfl⟩ ?_ ?_
    · rintro i v m₂ _ h₁₀ tk₁₀ own' hv - hown' ⟨rfl, ec, ev, et, eh⟩ F₁₀ N₁₀
      obtain ⟨j, hj, u, rfl⟩ := Paired.back hyv hv
      replace F₁₀ := frSees [(Str.ofString "host", .str (lvH ds k j) u), (Str.ofString "climbs", .bool (climbs ds k)), (Str.ofString "level", .int (0 + (k : Nat)) t), (Str.ofString "top", .str (topOf ds) tt), (Str.ofString "hosts", .ref Y)] F₁₀ ⟨rfl, ec, ev, et, eh, trivial⟩
      have hz := lv_sizes ds k j
      k_steps
      refine Hold.out ?_
      rename Fr _ _ _ _ => F₁₁
      rename News _ _ _ _ => N₁₁
      refine use (R := fun v _ => ∃ t, v = .str ⟨(reachL (lvH ds k j).cps.toList).toArray⟩ t) (reach_spec (KX.keeps F₁₁.keep) (T.keeps F₁₁.keep) rfl (by show 1 + claimMargin + 1 < 590; decide) (by show 4 + 3 < 8900; decide) (by omega) hz.1 (lv_dig ds k j) (lv_head ds k j) (lv_last ds k j)) ?_
      rintro v h₁₂ tk₁₂ ⟨t', rfl⟩ k₁₂
      have F₁₂ := frUp F₁₁ k₁₂
      have N₁₂ := newsUp N₁₁ k₁₂
      clear F₁₁ N₁₁
      rw [lv_reach ds hk j]
      dsimp only
      cases hc : climbs ds k
      · rw [hc] at F₁₂
        rw [if_neg (by simp)]
        k_steps
        refine Hold.out (ne_no rfl ?_)
        k_steps
        rename Fr _ _ _ _ => F₁₃
        rename News _ _ _ _ => N₁₃
        exact TurnTo.nextN ([(Y, listOf yv.toArray ky), (B, listOf bv.toArray kb), (s.heap.objs.size + 2, o_b)] ++ own) F₁₃ N₁₃ (fun p hp => hp) rfl ⟨rfl, rfl, rfl, rfl, rfl⟩
      · rw [hc] at F₁₂
        rw [if_pos rfl]
        k_steps
        refine Hold.out ?_
        have hzl : (lvH ds k j).length = (lvH ds k j).cps.size := rfl
        refine sliceK_sn (fun h₁₃ t₁₃ tk₁₃ k₁₃ => ?_) (hsz := by rw [sizeLine_eq, hzl]; omega)
        rw [lv_slice ds hk j]
        have F₁₃ := frUp F₁₂ k₁₃
        have N₁₃ := newsUp N₁₂ k₁₃
        clear F₁₂ N₁₂
        dsimp only
        k_steps
        have hz2 := lv_sizes ds (k + 1) (j / baseOf ds k)
        have hzl2 : (lvH ds (k + 1) (j / baseOf ds k)).length = (lvH ds (k + 1) (j / baseOf ds k)).cps.size := rfl
        refine PyProof.Rows.add_str (fun t₁₄ tk₁₄ => ?_) (by rw [sizeLine_eq, dot_len, hzl2]; omega)
        k_steps
        refine Hold.out (ne_no (dot_list _) ?_)
        k_steps
        rename Fr _ _ _ _ => F₁₄
        rename News _ _ _ _ => N₁₄
        exact TurnTo.nextN ([(Y, listOf yv.toArray ky), (B, listOf bv.toArray kb), (s.heap.objs.size + 2, o_b)] ++ own) F₁₄ N₁₄ (fun p hp => hp) rfl ⟨rfl, rfl, rfl, rfl, rfl⟩
    · rintro m₂ _ h₁₀ tk₁₀ ⟨rfl, ec, ev, et, eh⟩ - F₁₀ N₁₀
      exact ⟨rfl, At.mk _ F₁₀ N₁₀ (fun _ hp => hp) ⟨rfl, ev, et, eh⟩⟩
  clear F₈ N₈
  rintro s' ⟨h₉, tk₉, m₉, _, rfl, F₉, N₉, rfl, ev, et, eh⟩
  replace F₉ := frSees [(Str.ofString "level", .int (0 + (k : Nat)) t), (Str.ofString "top", .str (topOf ds) tt), (Str.ofString "hosts", .ref Y)] F₉ ⟨ev, et, eh, trivial⟩
  refine wpS_of ?_
  k_steps
  refine Hold.out ?_
  refine asgComp (by with_unfolding_all rfl) (by with_unfolding_all rfl) (by decide) (by rfl) (by decide) (by rfl) (by rfl) (by rfl) ?_
  k_steps
  refine Hold.out ?_
  obtain ⟨vb, hvb, tb, rfl⟩ := Paired.get? hbv (i := k) (a := k) (List.getElem?_range hk)
  refine item_list (l := B) (vs := bv) (N₉.isList (show (B, listOf bv.toArray kb) ∈ _ by k_mem)) (by omega) (by omega) (by omega) fun v hv => ?_
  rw [Int.zero_add, Int.toNat_natCast, hvb] at hv
  cases hv
  k_steps
  refine Hold.out ?_
  have hb24 := baseOf_in ds k
  refine slice_list3 (lo := none) (hi := none) (st := some ((2 + ds.getD k 0 % 3 : Nat) : Int)) F₉ N₉ (N₉.isList (show (Y, listOf yv.toArray ky) ∈ _ by k_mem)) .none .none (.int _ _) (fun e => by have := Option.some.inj e; omega) (fun h₁₀ F₁₀ N₁₀ => ?_) (hsz := by rw [sizeLine_eq, List.size_toArray]; omega)
  have hp := lv_pick (b := 2 + ds.getD k 0 % 3) (by omega) hb24.1 hb24.2 hyv
  obtain ⟨zv, hzv⟩ : ∃ zv : List Value, slicePick yv.toArray none none (some ((2 + ds.getD k 0 % 3 : Nat) : Int)) = zv.toArray := ⟨(slicePick yv.toArray none none (some ((2 + ds.getD k 0 % 3 : Nat) : Int))).toList, (Array.toArray_toList).symm⟩
  rw [hzv] at N₁₀ hp
  rw [List.toList_toArray] at hp
  clear F₉ N₉
  k_steps
  refine Hold.out ?_
  rename Fr _ _ _ _ => F₁₁
  rename News _ _ _ _ => N₁₁
  have hzl : zv.length ≤ 13 := by
    rw [← hp.length, List.length_range]
    have := lev_le ds (k + 1) (by omega)
    have e : levN ds (k + 1) = stepN (levN ds k) (2 + ds.getD k 0 % 3) := rfl
    omega
  refine asgList (vs := zv) (fun v y => ∀ x t, v = .str x t → ∃ t', y = .str (Txt.slice x (some 2) none) t') (by exact hA) F₁₁ N₁₁ ⟨_, (N₁₁ _ (.head _)).1, rfl, _, rfl⟩ (by omega) ?_ ?_
  · intro C i v s₃ m₃ E' hv Fc hm
    obtain ⟨j, hj, u, rfl⟩ := Paired.back hp hv
    have hz := lv_sizes ds k (j * (2 + ds.getD k 0 % 3))
    clear F₁₁ N₁₁
    k_steps
    refine Hold.out ?_
    refine sliceK_sn (fun h₁₃ t₁₃ tk₁₃ k₁₃ => ?_) (hsz := by rw [sizeLine_eq]; show (lvH ds k (j * (2 + ds.getD k 0 % 3))).cps.size ≤ _; omega)
    refine ⟨fun x t e => ?_, _, _, rfl, k₁₃⟩
    obtain ⟨rfl, rfl⟩ := Value.str.inj e
    exact ⟨_, rfl⟩
  · intro D h₁₂ tk₁₂ ys k' hF F₁₂ N₁₂ hDn
    dsimp only
    k_steps
    refine ⟨h₁₂, _, _, [(D, listOf ys.toArray k'), (B, listOf bv.toArray kb), (s.heap.objs.size + 2, o_b)], rfl, F₁₂, newsSub N₁₂ ?_, ?_, D, ys, k', ?_, rfl, rfl, rfl⟩
    · intro p hp
      simp only [List.cons_append, List.nil_append, List.mem_cons] at hp ⊢
      rcases hp with h | h | h | h <;> simp only [h, true_or, or_true]
    · intro p hp q hq e
      rcases List.mem_cons.mp hp with rfl | hp
      · have hq' := (N₁₁ q (.tail _ (List.mem_append_right _ hq))).1
        rw [← show D = q.1 from e, hDn] at hq'
        cases hq'
      · exact hown p (.tail _ hp) q hq e
    · have hl1 := hp.length
      have hl2 := hF.length
      refine Paired.of_get (by rw [← hl2, ← hl1]; rfl) fun i a b ha hb => ?_
      obtain ⟨v, hv, u, rfl⟩ := Paired.get? hp (i := i) (a := a) ha
      obtain ⟨y, hy, hFy⟩ := Paired.get? hF hv
      rw [hb] at hy
      cases hy
      obtain ⟨t', rfl⟩ := hFy _ _ rfl
      refine ⟨t', ?_⟩
      show Value.str (Txt.slice (lvH ds k (a * (2 + ds.getD k 0 % 3))) (some 2) none) t' = _
      rw [lv_slice ds hk, Nat.mul_div_cancel _ (show 0 < baseOf ds k by omega)]
end Mine
end

section
open PySem PySem.W PyProof.Rows PySem.Calls
set_option maxRecDepth 100000
set_option maxHeartbeats 1500000
namespace Mine
local macro_rules | `(tactic| walk_at "pyIter ref") => `(tactic| refine hold ?_)
local macro_rules | `(tactic| walk_at "eval ListComp") => `(tactic| refine hold ?_)
local macro_rules | `(tactic| walk_at "eval Name") => `(tactic| (k_inBlock; with_unfolding_all first
  | (refine' nameC_local ?F ?v ?_ ?a ?b; (case a => rfl); (case b => rfl); (case F => assumption); (case v => assumption))
  | (refine' nameC_cellK ?F ?c ?o ?v ?_ ?a ?b; (case a => rfl); (case b => rfl); (case c => rfl); (case F => assumption); (case o => assumption); (case v => assumption))))
local macro_rules | `(tactic| walk_at "subscriptTail Name Name ref int") => `(tactic| refine hold ?_)
local macro_rules | `(tactic| walk_at "subscriptTail Name Slice str ref") => `(tactic| refine hold ?_)
local macro_rules | `(tactic| walk_at "subscriptTail Subscript Slice str ref") => `(tactic| refine hold ?_)
local macro_rules | `(tactic| walk_at "subscriptTail List") => `(tactic| refine hold ?_)
local macro_rules | `(tactic| walk_at "subscriptTail Name Constant ref int") => `(tactic| refine hold ?_)
local macro_rules | `(tactic| walk_at "call builtin:min") => `(tactic| refine hold ?_)
local macro_rules | `(tactic| walk_at "exec For Name Call cons nil") => `(tactic| (k_here; (with_unfolding_all refine' For_invVF (by assumption) ?k1 ?k2 ?_; (case k1 => exact rfl); (case k2 => exact rfl)); k_whole))
local macro_rules | `(tactic| walk_at "execs cons") => `(tactic| refine wpAny_execs_cons ?_)
local macro_rules | `(tactic| walk_at "compareOp Eq str str") => `(tactic| refine hold ?_)
local macro_rules | `(tactic| walk_at "call ref") => `(tactic| refine hold ?_)
theorem law_spec {w : World} {s : Shared} {mean mg mb} {l : Addr} {vs : List Value} {ns : List Int}
    (KX : (hd.heap_39 w.params).In s.heap) (T : Tp mean mg mb s.heap) (hl : s.heap.IsList l vs.toArray) (hI : IntsAre vs ns) (hlen : vs.length < 1000) :
    wpS (model Pg w) callerA (call (.ref 154) [.ref l] []) (Ends s fun v _ => v = .bool true) s := by
  have dummy : (fun (_ : OpenLaw) (_ : Params → Frag) => True) PySem.Challenge.rw_zo0023_01 hd.heap_39 := by
    k_fill
    trivial
  refine enterSC (K := hd.heap_39 w.params) (binds := [("script", .ref l)]) KX T.nolimit (by decide) rfl (by rfl) (binds_of_peek KX fun S => by kernel_rfl) (by rfl) (by decide +kernel) ?_
  intro h₁ tk₁ cells F N Y
  obtain ⟨o_x, o_b, o_d, rfl, d_x, d_b, d_d⟩ := CellsAre.three Y
  clear Y
  change o_x.data = .cell none at d_x
  change o_b.data = .cell none at d_b
  change o_d.data = .cell none at d_d
  have F : Fr s.heap s.heap.objs.size h₁ (fun y => if y = "script" then some (.ref l) else none) := F
  have hA : callerA.handled = none := rfl
  refine execsG (At s s.heap.objs.size fun m news => ∃ D dv ds kd o_d, s.heap.objs.size + 3 ≠ D ∧ s.heap.objs.size + 2 ≠ D ∧ s.heap.objs.size + 1 ≠ D ∧ Paired IsNum ds dv ∧ ds.length = 5 ∧ o_d.data = .cell (some (.ref D)) ∧ news = [(D, listOf dv.toArray kd), (s.heap.objs.size + 3, o_x), (s.heap.objs.size + 2, o_b), (s.heap.objs.size + 1, o_d)] ∧ m "script" = some (.ref l)) ?_ ?_
  · k_steps
    refine Hold.out (use (R := fun v h' => ∃ D dv ds, v = .ref D ∧ h₁.get? D = none ∧ DrawsAt D h' dv ds) ?_ ?_)
    · exact draws_spec (KX.keeps F.keep) (T.keeps F.keep) rfl (by show 1 + claimMargin + 1 < 600; decide) (by show 4 + 3 < 9000; decide) (hl.at fun o e => F.keep _ o e) hI hlen
    rintro v h₂ tk₂ ⟨D, dv, ds, rfl, hDn, ⟨kd, hD⟩, hds, hd5⟩ k₂
    have F₂ := frUp F k₂
    have N₂ := newsFresh F N k₂ hDn hD
    have n3 := freshNe N hDn (show (s.heap.objs.size + 1 + 1 + 1, o_x) ∈ _ by k_mem)
    have n2 := freshNe N hDn (show (s.heap.objs.size + 1 + 1, o_b) ∈ _ by k_mem)
    have n1 := freshNe N hDn (show (s.heap.objs.size + 1, o_d) ∈ _ by k_mem)
    clear F N
    dsimp only at n1 n2 n3 ⊢
    k_steps
    rename Fr _ _ _ _ => F₃
    rename News _ _ _ _ => N₃
    exact ⟨rfl, At.mk _ F₃ N₃ (fun _ hp => hp) ⟨D, dv, ds, kd, _, by omega, by omega, by omega, hds, hd5, by assumption, rfl, rfl⟩⟩
  clear F N d_d o_d
  rintro s' ⟨h₂, tk₂, m₂, _, rfl, F₂, N₂, D, dv, ds, kd, o_d, n3, n2, n1, hds, hd5, d_d, rfl, em⟩
  replace F₂ := frSees [("script", .ref l)] F₂ ⟨em, trivial⟩
  refine execsG (At s s.heap.objs.size fun m news => ∃ B bv kb o_b, s.heap.objs.size + 3 ≠ B ∧ s.heap.objs.size + 2 ≠ B ∧ s.heap.objs.size + 1 ≠ B ∧ B ≠ D ∧ Paired (fun j v => IsNum (2 + ds.getD j 0 % 3) v) (List.range 3) bv ∧ o_b.data = .cell (some (.ref B)) ∧ news = [(B, listOf bv.toArray kb), (D, listOf dv.toArray kd), (s.heap.objs.size + 3, o_x), (s.heap.objs.size + 2, o_b), (s.heap.objs.size + 1, o_d)] ∧ m "script" = some (.ref l)) ?_ ?_
  · k_steps
    refine Hold.out ?_
    refine evalComp (by with_unfolding_all rfl) (by decide) (by rfl) (by decide) (by rfl) ?_
    k_steps
    refine Hold.out ?_
    rename Fr _ _ _ _ => F₃
    rename News _ _ _ _ => N₃
    rename IsRange _ _ _ _ _ _ _ _ => hR
    have hcd := (N₃.get (show (s.heap.objs.size + 1, o_d) ∈ _ by k_mem))
    have hDD := (N₃.get (show (D, listOf dv.toArray kd) ∈ _ by k_mem))
    have hdl := hds.length
    refine compRange 3 (AtLev fun j y => IsNum (2 + ds.getD j 0 % 3) y) rfl hR (range_small1 (n := 3) (by omega)) (range_size1 _) (by omega) ?_ ?_
    · rintro C i v s₃ m₃ E' ⟨hi, t, rfl⟩ Fc hm
      have hD3 : s₃.heap.IsList D dv.toArray := ⟨_, Fc.keep _ _ hDD, rfl, _, rfl⟩
      clear F₃ N₃ hR
      k_steps
      refine Hold.out ?_
      obtain ⟨td, htd⟩ := num_at hds (show i < ds.length by omega)
      refine item_list hD3 (by omega) (by omega) (by omega) fun v hv => ?_
      rw [Int.zero_add, Int.toNat_natCast, htd] at hv
      cases hv
      k_steps
      · exact AtLev.mk (isNum_of (fmod3 _))
      · exact ⟨_, _, rfl, fun _ _ e => e⟩
    · intro B h₄ tk₄ ws bv kb hws hP hF hB hBn k₄
      have hbv := lev_get hws hP hF
      have F₄ := frUp F₃ k₄
      have N₄ := newsFresh F₃ N₃ k₄ hBn hB
      have m3 := freshNe N₃ hBn (show (s.heap.objs.size + 3, o_x) ∈ _ by k_mem)
      have m2 := freshNe N₃ hBn (show (s.heap.objs.size + 2, o_b) ∈ _ by k_mem)
      have m1 := freshNe N₃ hBn (show (s.heap.objs.size + 1, o_d) ∈ _ by k_mem)
      have m0 := freshNe N₃ hBn (show (D, listOf dv.toArray kd) ∈ _ by k_mem)
      clear F₃ N₃
      dsimp only at m0 m1 m2 m3 ⊢
      k_steps
      rename Fr _ _ _ _ => F₅
      rename News _ _ _ _ => N₅
      refine ⟨rfl, At.mk [_, _, _, _, _] F₅ N₅ (fun _ hp => hp) ⟨B, bv, kb, _, by omega, by omega, by omega, m0, hbv, by assumption, rfl, rfl⟩⟩
  clear F₂ N₂ em d_b o_b
  rintro s' ⟨h₃, tk₃, m₃, _, rfl, F₃, N₃, B, bv, kb, o_b, p3, p2, p1, hBD, hbv, d_b, rfl, em⟩
  replace F₃ := frSees [("script", .ref l)] F₃ ⟨em, trivial⟩
  refine execsG (At s s.heap.objs.size fun m news => ∃ G gv kg, s.heap.objs.size + 3 ≠ G ∧ s.heap.objs.size + 2 ≠ G ∧ s.heap.objs.size + 1 ≠ G ∧ G ≠ D ∧ G ≠ B ∧ Paired (fun j v => IsStr (figOf ds j) v) (List.range 3) gv ∧ news = [(G, listOf gv.toArray kg), (B, listOf bv.toArray kb), (D, listOf dv.toArray kd), (s.heap.objs.size + 3, o_x), (s.heap.objs.size + 2, o_b), (s.heap.objs.size + 1, o_d)] ∧ m "figures" = some (.ref G)) ?_ ?_
  · refine asgComp (by with_unfolding_all rfl) (by with_unfolding_all rfl) (by decide) (by rfl) (by decide) (by rfl) (by rfl) (by rfl) ?_
    k_steps
    refine Hold.out ?_
    rename Fr _ _ _ _ => F₄
    rename News _ _ _ _ => N₄
    rename IsRange _ _ _ _ _ _ _ _ => hR
    have hcd := (N₄.get (show (s.heap.objs.size + 1, o_d) ∈ _ by k_mem))
    have hcb := (N₄.get (show (s.heap.objs.size + 2, o_b) ∈ _ by k_mem))
    have hDD := (N₄.get (show (D, listOf dv.toArray kd) ∈ _ by k_mem))
    have hBB := (N₄.get (show (B, listOf bv.toArray kb) ∈ _ by k_mem))
    have hdl := hds.length
    refine asgRange 3 (AtLev fun j y => IsStr (figOf ds j) y) rfl F₄ N₄ hR (range_small1 (n := 3) (by omega)) (range_size1 _) (by omega) ?_ ?_
    · rintro C i v s₃ m₃ E' ⟨hi, t, rfl⟩ Fc hm
      have hD3 : s₃.heap.IsList D dv.toArray := ⟨_, Fc.keep _ _ hDD, rfl, _, rfl⟩
      have hB3 : s₃.heap.IsList B bv.toArray := ⟨_, Fc.keep _ _ hBB, rfl, _, rfl⟩
      clear F₄ N₄ hR
      have hkeep : KeepsH s₃.heap s₃.heap := fun _ _ e => e
      k_steps
      refine Hold.out ?_
      obtain ⟨td, htd⟩ := num_at hds (show i < ds.length by omega)
      refine item_list hD3 (by omega) (by omega) (by omega) fun v hv => ?_
      rw [Int.zero_add, Int.toNat_natCast, htd] at hv
      cases hv
      k_steps
      refine Hold.out ?_
      refine sliceK_sn (fun h₅ t₅ tk₅ k₅ => ?_) (hsz := by rw [sizeLine_eq]; decide)
      have Fz := frUp Fc k₅
      dsimp only
      clear Fc
      k_steps
      refine Hold.out ?_
      obtain ⟨vb, hvb, tb, rfl⟩ := Paired.get? hbv (i := i) (a := i) (List.getElem?_range hi)
      have hbl := hbv.length
      rw [List.length_range] at hbl
      refine item_list (l := B) (vs := bv) ⟨_, Fz.keep _ _ hBB, rfl, _, rfl⟩ (by omega) (by omega) (by omega) fun v hv => ?_
      rw [Int.zero_add, Int.toNat_natCast, hvb] at hv
      cases hv
      k_steps
      refine Hold.out ?_
      refine sliceK_ns (fun h₆ t₆ tk₆ k₆ => ?_) (hsz := Nat.le_trans (Txt.slice_le _ _ _) (by rw [sizeLine_eq]; decide))
      rw [fig_slice]
      exact ⟨AtLev.mk ⟨_, rfl⟩, _, _, rfl, fun b o e => k₆ _ _ (k₅ _ _ e)⟩
    · intro G h₄ tk₄ ws gv kg hws hP hF F₅ N₅ hGn
      have hgv := lev_get hws hP hF
      have m3 := freshNe N₄ hGn (show (s.heap.objs.size + 3, o_x) ∈ _ by k_mem)
      have m2 := freshNe N₄ hGn (show (s.heap.objs.size + 2, o_b) ∈ _ by k_mem)
      have m1 := freshNe N₄ hGn (show (s.heap.objs.size + 1, o_d) ∈ _ by k_mem)
      have m0 := freshNe N₄ hGn (show (D, listOf dv.toArray kd) ∈ _ by k_mem)
      have mB := freshNe N₄ hGn (show (B, listOf bv.toArray kb) ∈ _ by k_mem)
      dsimp only at m0 m1 m2 m3 mB
      exact ⟨rfl, At.mk _ F₅ N₅ (fun _ hp => hp) ⟨G, gv, kg, by omega, by omega, by omega, m0, mB, hgv, rfl, rfl⟩⟩
  clear F₃ N₃ em
  rintro s' ⟨h₄, tk₄, m₄, _, rfl, F₄, N₄, G, gv, kg, q3, q2, q1, hGD, hGB, hgv, rfl, em⟩
  replace F₄ := frSees [("figures", .ref G)] F₄ ⟨em, trivial⟩
  have hdl := hds.length
  refine execsG (At s s.heap.objs.size fun m news => news = [(G, listOf gv.toArray kg), (B, listOf bv.toArray kb), (D, listOf dv.toArray kd), (s.heap.objs.size + 3, o_x), (s.heap.objs.size + 2, o_b), (s.heap.objs.size + 1, o_d)] ∧ m "figures" = some (.ref G) ∧ ∃ tt, m "top" = some (.str (topOf ds) tt)) ?_ ?_
  · k_steps
    rename Fr _ _ _ _ => F₅
    rename News _ _ _ _ => N₅
    refine Hold.out ?_
    obtain ⟨td, htd⟩ := num_at hds (show 4 < ds.length by omega)
    refine item_list (l := D) (vs := dv) (N₅.isList (show (D, listOf dv.toArray kd) ∈ _ by k_mem)) (by omega) (by omega) (by omega) fun v hv => ?_
    have hv' : dv[4]? = some v := hv
    rw [htd] at hv'
    cases hv'
    k_steps
    refine Hold.out ?_
    rename Fr _ _ _ _ => F₆
    rename News _ _ _ _ => N₆
    rw [fmod4]
    have hk4 : ds.getD 4 0 % 4 < 4 := Nat.mod_lt _ (by decide)
    refine item_list (vs := [_, _, _, _]) (N₆.isList (.head _)) (by omega) (by simp only [List.length_cons, List.length_nil]; omega) (by show 4 < 2 ^ 62; decide) fun v hv => ?_
    rw [Int.toNat_natCast] at hv
    obtain ⟨tt, rfl⟩ := pick_of (xs := topsS) (.cons ⟨_, rfl⟩ (.cons ⟨_, rfl⟩ (.cons ⟨_, rfl⟩ (.cons ⟨_, rfl⟩ .nil)))) hv
    k_steps
    rename Fr _ _ _ _ => F₇
    rename News _ _ _ _ => N₇
    exact ⟨rfl, At.mk [(G, listOf gv.toArray kg), (B, listOf bv.toArray kb), (D, listOf dv.toArray kd), (s.heap.objs.size + 3, o_x), (s.heap.objs.size + 2, o_b), (s.heap.objs.size + 1, o_d)] F₇ N₇ (fun p hp => .tail _ hp) ⟨rfl, rfl, tt, rfl⟩⟩
  clear F₄ N₄ em
  rintro s' ⟨h₅, tk₅, m₅, _, rfl, F₅, N₅, rfl, em, tt, et⟩
  replace F₅ := frSees [("figures", .ref G), ("top", .str (topOf ds) tt)] F₅ ⟨em, et, trivial⟩
  refine execsG (At s s.heap.objs.size fun m news => news = [(G, listOf gv.toArray kg), (B, listOf bv.toArray kb), (D, listOf dv.toArray kd), (s.heap.objs.size + 3, o_x), (s.heap.objs.size + 2, o_b), (s.heap.objs.size + 1, o_d)] ∧ m "figures" = some (.ref G) ∧ m "top" = some (.str (topOf ds) tt) ∧ ∃ tl, m "tail" = some (.str (tailOf ds) tl)) ?_ ?_
  · k_steps
    rename Fr _ _ _ _ => F₆
    rename News _ _ _ _ => N₆
    refine Hold.out ?_
    obtain ⟨td, htd⟩ := num_at hds (show 4 < ds.length by omega)
    refine item_list (l := D) (vs := dv) (N₆.isList (show (D, listOf dv.toArray kd) ∈ _ by k_mem)) (by omega) (by omega) (by omega) fun v hv => ?_
    have hv' : dv[4]? = some v := hv
    rw [htd] at hv'
    cases hv'
    k_steps
    refine Hold.out ?_
    rename Fr _ _ _ _ => F₇
    rename News _ _ _ _ => N₇
    rw [fdm43]
    have hk3 : ds.getD 4 0 / 4 % 3 < 3 := Nat.mod_lt _ (by decide)
    refine item_list (vs := [_, _, _]) (N₇.isList (.head _)) (by omega) (by simp only [List.length_cons, List.length_nil]; omega) (by show 3 < 2 ^ 62; decide) fun v hv => ?_
    rw [Int.toNat_natCast] at hv
    obtain ⟨tl, rfl⟩ := pick_of (xs := tailsS) (.cons ⟨_, rfl⟩ (.cons ⟨_, rfl⟩ (.cons ⟨_, rfl⟩ .nil))) hv
    k_steps
    rename Fr _ _ _ _ => F₈
    rename News _ _ _ _ => N₈
    exact ⟨rfl, At.mk [(G, listOf gv.toArray kg), (B, listOf bv.toArray kb), (D, listOf dv.toArray kd), (s.heap.objs.size + 3, o_x), (s.heap.objs.size + 2, o_b), (s.heap.objs.size + 1, o_d)] F₈ N₈ (fun p hp => .tail _ hp) ⟨rfl, rfl, rfl, tl, rfl⟩⟩
  clear F₅ N₅ em et
  rintro s' ⟨h₆, tk₆, m₆, _, rfl, F₆, N₆, rfl, em, et, tl, el⟩
  replace F₆ := frSees [("figures", .ref G), ("top", .str (topOf ds) tt), ("tail", .str (tailOf ds) tl)] F₆ ⟨em, et, el, trivial⟩
  refine execsG (At s s.heap.objs.size fun m news => ∃ X, s.heap.objs.size + 3 ≠ X ∧ s.heap.objs.size + 2 ≠ X ∧ s.heap.objs.size + 1 ≠ X ∧ X ≠ D ∧ X ≠ B ∧ X ≠ G ∧ news = [(X, listOf #[] 0), (G, listOf gv.toArray kg), (B, listOf bv.toArray kb), (D, listOf dv.toArray kd), (s.heap.objs.size + 3, o_x), (s.heap.objs.size + 2, o_b), (s.heap.objs.size + 1, o_d)] ∧ m "figures" = some (.ref G) ∧ m "top" = some (.str (topOf ds) tt) ∧ m "tail" = some (.str (tailOf ds) tl) ∧ m "hosts" = some (.ref X)) ?_ ?_
  · k_steps
    rename Fr _ _ _ _ => F₇
    rename News _ _ _ _ => N₇
    exact ⟨rfl, At.mk _ F₇ N₇ (fun _ hp => hp) ⟨_, by omega, by omega, by omega, by omega, by omega, by omega, rfl, rfl, rfl, rfl, rfl⟩⟩
  clear F₆ N₆ em et el
  rintro s' ⟨h₇, tk₇, m₇, _, rfl, F₇, N₇, X, r3, r2, r1, hXD, hXB, hXG, rfl, em, et, el, eh⟩
  replace F₇ := frSees [("figures", .ref G), ("top", .str (topOf ds) tt), ("tail", .str (tailOf ds) tl), ("hosts", .ref X)] F₇ ⟨em, et, el, eh, trivial⟩
  have hbI := ints_of_paired hbv
  have hbl3 := hbv.length
  rw [List.length_range] at hbl3
  refine execsG (At s s.heap.objs.size fun m news => ∃ xv kx o_x vx, o_x.data = .cell vx ∧ Paired (IsTxt fun j => hostS (figsOf ds) (basesOf ds) j (topOf ds)) (List.range (countOf ds)) xv ∧ news = [(X, listOf xv.toArray kx), (G, listOf gv.toArray kg), (B, listOf bv.toArray kb), (D, listOf dv.toArray kd), (s.heap.objs.size + 3, o_x), (s.heap.objs.size + 2, o_b), (s.heap.objs.size + 1, o_d)] ∧
      m "top" = some (.str (topOf ds) tt) ∧ m "hosts" = some (.ref X)) ?_ ?_
  · k_steps
    refine Hold.out ?_
    rename Fr _ _ _ _ => F₈
    rename News _ _ _ _ => N₈
    obtain ⟨v0, hv0, t0, rfl⟩ := Paired.get? hbv (i := 0) (a := 0) (List.getElem?_range (by omega))
    obtain ⟨v1, hv1, t1, rfl⟩ := Paired.get? hbv (i := 1) (a := 1) (List.getElem?_range (by omega))
    obtain ⟨v2, hv2, t2, rfl⟩ := Paired.get? hbv (i := 2) (a := 2) (List.getElem?_range (by omega))
    refine item_list (l := B) (vs := bv) (N₈.isList (show (B, listOf bv.toArray kb) ∈ _ by k_mem)) (by omega) (by omega) (by omega) fun v hv => ?_
    have hv' : bv[0]? = some v := hv
    rw [hv0] at hv'
    cases hv'
    k_steps
    refine Hold.out ?_
    rename News _ _ _ _ => N₉
    refine item_list (l := B) (vs := bv) (N₉.isList (show (B, listOf bv.toArray kb) ∈ _ by k_mem)) (by omega) (by omega) (by omega) fun v hv => ?_
    have hv' : bv[1]? = some v := hv
    rw [hv1] at hv'
    cases hv'
    k_steps
    refine Hold.out ?_
    rename News _ _ _ _ => N₁₀
    refine item_list (l := B) (vs := bv) (N₁₀.isList (show (B, listOf bv.toArray kb) ∈ _ by k_mem)) (by omega) (by omega) (by omega) fun v hv => ?_
    have hv' : bv[2]? = some v := hv
    rw [hv2] at hv'
    cases hv'
    k_steps
    refine Hold.out ?_
    rename News _ _ _ _ => N₁₁
    obtain ⟨td, htd⟩ := num_at hds (show 3 < ds.length by omega)
    refine item_list (l := D) (vs := dv) (N₁₁.isList (show (D, listOf dv.toArray kd) ∈ _ by k_mem)) (by omega) (by omega) (by omega) fun v hv => ?_
    have hv' : dv[3]? = some v := hv
    rw [htd] at hv'
    cases hv'
    k_steps
    refine Hold.out ?_
    rename Fr _ _ _ _ => F₁₂
    rename News _ _ _ _ => N₁₂
    refine PySem.min_two_ints rfl fun h₁₃ tk₁₃ k₁₃ => ?_
    obtain ⟨xt, hxt⟩ := minVal (a := ((2 + ds.getD 0 0 % 3 : Nat) : Int) * ((2 + ds.getD 1 0 % 3 : Nat) : Int) * ((2 + ds.getD 2 0 % 3 : Nat) : Int)) (b := 6 + Int.fmod (ds.getD 3 0 : Int) 8) (t := _) (u := _)
    rw [hxt, count_min]
    have F₁₃ := frUp F₁₂ k₁₃
    have N₁₃ := newsUp N₁₂ k₁₃
    clear F₁₂ N₁₂
    dsimp only
    k_steps
    refine Hold.out ?_
    rename IsRange _ _ _ _ _ _ _ _ => hR
    rename Fr _ _ _ _ => F₁₄
    rename News _ _ _ _ => N₁₄
    have hcnt := count_ok ds
    refine iterRange (countOf ds) [X, s.heap.objs.size + 3] (fun i m nx => ∃ xv kx o_x vx, o_x.data = .cell vx ∧ Paired (IsTxt fun j => hostS (figsOf ds) (basesOf ds) j (topOf ds)) (List.range i) xv ∧ nx = [(X, listOf xv.toArray kx), (G, listOf gv.toArray kg), (B, listOf bv.toArray kb), (D, listOf dv.toArray kd), (s.heap.objs.size + 3, o_x), (s.heap.objs.size + 2, o_b), (s.heap.objs.size + 1, o_d)] ∧
        m "figures" = some (.ref G) ∧ m "top" = some (.str (topOf ds) tt) ∧ m "tail" = some (.str (tailOf ds) tl) ∧ m "hosts" = some (.ref X))
      rfl hR (range_small1 (by omega)) (range_size1 _) (by simp) F₁₄ N₁₄ ⟨[], 0, o_x, none, d_x, .nil, rfl, rfl, rfl, rfl, rfl⟩ ?_ ?_
    · rintro i t m₁ _ h₅ tk₅ own hi - hown ⟨xv, kx, o_x, vx, d_x, hxv, rfl, em, et, el, eh⟩ F₅ N₅
      simp only [List.cons_append, List.nil_append] at N₅
      exact turn1 KX T n3 p3 q3 r3 r2 r1 hXD hXB hXG hbv hgv d_b d_x hxv hi hown em et el eh F₅ N₅
    · rintro m₁ _ h₅ tk₅ ⟨xv, kx, o_x, vx, d_x, hxv, rfl, em, et, el, eh⟩ - F₅ N₅
      exact ⟨rfl, At.mk _ F₅ N₅ (fun _ hp => hp) ⟨xv, kx, o_x, vx, d_x, hxv, rfl, et, eh⟩⟩
  clear F₇ N₇ em et el eh d_x o_x
  rintro s' ⟨h₈, tk₈, m₈, _, rfl, F₈, N₈, xv, kx, o_x, vx, d_x, hxv, rfl, et, eh⟩
  replace F₈ := frSees [("top", .str (topOf ds) tt), ("hosts", .ref X)] F₈ ⟨et, eh, trivial⟩
  refine execsGS (At s s.heap.objs.size fun m news => m "top" = some (.str (topOf ds) tt)) ?_ ?_
  · refine wpS_For ?_
    k_steps
    refine Hold.out ?_
    rename IsRange _ _ _ _ _ _ _ _ => hR
    rename Fr _ _ _ _ => F₉
    rename News _ _ _ _ => N₉
    refine iterRangeV 3 (fun k m nx => ∃ Y yv ky, Paired (IsTxt (lvH ds k)) (List.range (levN ds k)) yv ∧ nx = [(Y, listOf yv.toArray ky), (B, listOf bv.toArray kb), (s.heap.objs.size + 2, o_b)] ∧ m "top" = some (.str (topOf ds) tt) ∧ m "hosts" = some (.ref Y))
      rfl rfl rfl hR (range_small1 (n := 3) (by omega)) (range_size1 _) F₉ (newsSub (l := [(X, listOf xv.toArray kx), (B, listOf bv.toArray kb), (s.heap.objs.size + 2, o_b)]) N₉ ?_) ⟨X, xv, kx, hxv, rfl, rfl, rfl⟩ ?_ ?_
    · intro p hp
      simp only [List.mem_cons, List.not_mem_nil, or_false] at hp ⊢
      rcases hp with h | h | h <;> simp only [h, true_or, or_true]
    · rintro k t m₁ _ h₅ tk₅ own hk hown ⟨Y, yv, ky, hyv, rfl, et, eh⟩ F₅ N₅
      simp only [List.cons_append, List.nil_append] at N₅
      exact turn2 KX T hk hbv d_b hyv hown et eh F₅ N₅
    · rintro m₁ _ h₅ tk₅ ⟨Y, yv, ky, hyv, rfl, et, eh⟩ F₅ N₅
      exact ⟨rfl, At.mk _ F₅ N₅ (fun _ hp => hp) et⟩
  clear F₈ N₈ et eh
  rintro s' ⟨h₉, tk₉, m₉, _, rfl, F₉, N₉, et⟩
  replace F₉ := frSees [("top", .str (topOf ds) tt)] F₉ ⟨et, trivial⟩
  refine wpS_of ?_
  k_steps
  refine Hold.out ?_
  rename Fr _ _ _ _ => F₁₀
  rename News _ _ _ _ => N₁₀
  have hz := top_facts ds
  have htf := tops_facts _ (topOf_in ds)
  refine use (R := fun v _ => ∃ t, v = .str ⟨(reachL (topOf ds).cps.toList).toArray⟩ t) (reach_spec (KX.keeps F₁₀.keep) (T.keeps F₁₀.keep) rfl (by show 1 + claimMargin + 1 < 590; decide) (by show 4 + 3 < 8900; decide) (by omega) hz.1 (tops_dig _ (topOf_in ds)) htf.2.2.2.1 htf.2.2.2.2.1) ?_
  rintro v h₁₁ tk₁₁ ⟨t', rfl⟩ k₁₁
  have F₁₁ := frUp F₁₀ k₁₁
  have N₁₁ := newsUp N₁₀ k₁₁
  clear F₁₀ N₁₀
  rw [htf.2.2.2.2.2, Array.toArray_toList]
  dsimp only
  k_steps
  refine Hold.out (eq_yes rfl ?_)
  k_steps
  rename Fr _ _ _ _ => F₁₂
  exact Ends.mk rfl F₁₂.keep
end Mine
end

section
open PySem PySem.W PyProof.Rows PySem.Calls
set_option maxRecDepth 100000
set_option maxHeartbeats 8000000
namespace Mine
theorem walk_law : ∀ d kwd, defOf hd.view_39 (Str.ofString "law") = some (d, kwd) → WalkLaw d kwd := by
  intro d kwd hdef w s₀ s₁ mg mb G Y fa o pm cd doc dV kV ho ho2 hcd hD hmg hg args vals as hpre hlay hrd hwl hlo
  have KX : (hd.heap_39 w.params).In s₁.heap := Y
  have T : Tp (ExcName.means s₀.heap) mg mb s₁.heap := G.T
  have hnm : d.name = Str.ofString "law" := defOf_name hdef
  have h1 : mg (Str.ofString "law") = some (.ref 154) := mg_of KX T.g (by rfl)
  rw [hnm, h1] at hmg
  obtain rfl : 154 = fa := Value.ref.inj (Option.some.inj hmg)
  wrow_args hpre hlay hrd hwl hlo
  rename IntsAre _ _ => hI
  rename Heap.IsList _ _ _ => hL
  have hlen := hI.length
  refine wpS_mono (law_spec KX T hL hI (by omega)) ?_
  rintro v s' ⟨rfl, h', tk, rfl, k⟩
  exact ⟨.inl ⟨_, .bool true, [], rfl, fun _ => rfl, ReadsW.bool true, by first | rfl | wrow_post, fun _ => ⟨List.nodup_nil, fun _ hm => nomatch hm⟩⟩, OldK.of_keep k, rfl, AllBare.of_eq hg⟩
end Mine
end

open PySem PySem.W PyProof.Rows
set_option maxRecDepth 100000 in
set_option maxHeartbeats 8000000 in
theorem PySem.Challenge.cw_zo0023_01_holds : PySem.Challenge.rw_zo0023_01.Holds :=
  Mine.top_of Mine.walk_law
