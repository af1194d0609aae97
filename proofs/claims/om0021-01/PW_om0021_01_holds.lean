import PyProof.Rows.All
import Wide.All
import OpenK.AllK
import Wide.FinOn
import PySem.Challenge.RW_om0021_01
set_option Elab.async false
set_option linter.all false
section
open PySem PySem.W PyProof.Rows
namespace Mine
set_option maxRecDepth 100000 in
set_option maxHeartbeats 8000000 in
open_top hd for PySem.Challenge.rw_om0021_01
end Mine
set_option pp.deepTerms false
end
open PySem PySem.W PyProof.Rows
local macro_rules | `(tactic| walk_at $s:str) => `(tactic| k_extra $s)
local macro_rules | `(tactic| k_ne) => `(tactic| (refine neN ?_; (try dsimp only); k_extra "ne"))
noncomputable section
open PySem PySem.W PyProof.Rows PySem.Calls
set_option maxRecDepth 100000
namespace Mine
theorem roomD {a k n R : Nat} (h : a + n < R) (e : Nat.ble (1 + k) n = true) : a + 1 + k < R := by
  rw [Nat.add_assoc]; exact Nat.lt_of_le_of_lt (Nat.add_le_add_left (Nat.le_of_ble_eq_true e) a) h
theorem nz {a : Nat} (h : (a : Int) ≠ 0) : a ≠ 0 := fun e => h (congrArg Int.ofNat e)
theorem nz' {a : Nat} (h : a ≠ 0) : (a : Int) ≠ 0 := fun e => h (Int.ofNat.inj e)
theorem z0 {a : Nat} (h : (a : Int) = 0) : a = 0 := Int.ofNat.inj h
theorem step0 (i : Nat) : (0 + (i : Int) * 1) = (i : Int) := by rw [Int.mul_one, Int.zero_add]
theorem fewer {n i : Nat} (h : i < n) : n + 1 - (i + 1) < n + 1 - i := by
  rw [Nat.add_sub_add_right, Nat.succ_sub (Nat.le_of_lt h)]; exact Nat.lt_succ_self _
theorem small64 {c b : Nat} (h : c < b) (hb : b ≤ 4096) : (c : Int) < 9223372036854775808 := Int.lt_of_lt_of_le (Int.ofNat_lt.mpr h) (Int.le_trans (Int.ofNat_le.mpr hb) (by decide))
theorem roomU {a k n R : Nat} (h : a + n < R) (e : Nat.ble (3 + k) n = true) : a + 3 + k < R := by
  rw [Nat.add_assoc]; exact Nat.lt_of_le_of_lt (Nat.add_le_add_left (Nat.le_of_ble_eq_true e) a) h
/-- what stood in the heap stands in it still -/
noncomputable def Grow (h h' : Heap) : Prop := ∀ b o, h.get? b = some o → h'.get? b = some o
theorem Grow.refl (h : Heap) : Grow h h := fun _ _ e => e
theorem Grow.trans {a b c : Heap} (x : Grow a b) (y : Grow b c) : Grow a c := fun _ _ e => y _ _ (x _ _ e)
theorem fr_grow {h₀ h h' : Heap} {L : Addr} {m : Str → Option Value} (F : Fr h₀ L h m) (g : Grow h h') : Fr h₀ L h' m :=
  ⟨F.ns.keeps g, fun b o e => g _ _ (F.keep b o e), F.above⟩
theorem news_grow {h₀ h h' : Heap} {L : Addr} {news : List (Addr × Obj)} (N : News h₀ L h news) (g : Grow h h') : News h₀ L h' news :=
  fun p hp => ⟨g _ _ (N p hp).1, (N p hp).2⟩
/-- a new object, made by a call, comes onto the ledger -/
theorem news_made {h₀ h h' : Heap} {L a : Addr} {o : Obj} {m : Str → Option Value} {news : List (Addr × Obj)} (F : Fr h₀ L h m) (N : News h₀ L h news) (g : Grow h h')
    (ho : h'.get? a = some o) (hn : h.get? a = none) : News h₀ L h' ((a, o) :: news) := by
  intro p hp
  rcases List.mem_cons.mp hp with rfl | hp
  · refine ⟨ho, fun e => ?_, ?_⟩
    · obtain ⟨oL, _, _, hL, _⟩ := F.ns
      have e' : a = L := e
      rw [e', hL] at hn; cases hn
    · cases q : h₀.get? a with
      | none => rfl
      | some x => rw [F.keep _ _ q] at hn; cases hn
  · exact news_grow N g p hp
section
variable {prog : Program} {w : World} {A : Around} {E : Value → Shared → Prop} {s : Shared} {K : Frag}
theorem enter {p : Program} {loose : List Str} {mean : ExcName → Option Value} {mg mb : Str → Option Value}
    {Q : Value → Shared → Prop} {name qual : Str} {params : Arguments} {body : List Stmt} {scope : Scope} {dV kV doc pm cdv ct oc : Value} {an od : Option Addr} {osl : Array (Option Value)} {f : Addr} {args : List Value} {kw : List (Str × Value)} {binds : List (Str × Value)}
    (X : K.In s.heap) (T : Top p loose mean mg mb s.heap)
    (ho : K.lookup f = some ⟨oc, od, .func (fnOf name qual params body scope dV kV doc pm an cdv ct), osl⟩) (hcd : codeIn K cdv qual = true) (hroom : A.depth < recursionLimit)
    (hbind : BindsTo s (fnOf name qual params body scope dV kV doc pm an cdv ct) ⟨args, kw⟩ binds) (hloc : ∀ y ∈ binds, scope.names.lookup y.1 = some .local)
    (h : ∀ L h₁ tk, Fr s.heap L h₁ (fun y => binds.reverse.lookup y) → News s.heap L h₁ [] →
      wpAny (model prog w) (A.deeper (envOf qual scope L f cdv)) (execs body (envOf qual scope L f cdv))
        (fun fl s' => Q (match fl with | .ret v => v | _ => .none) s') (fun _ _ => False) { s with heap := h₁, toks := tk })
    (hco : scope.isCoroutine = false) (hgen : scope.isGenerator = false) (hk : scope.kind = .function)
    (hcell : ∀ x ∈ scope.names, x.2 ≠ .cell) : wpAny (model prog w) A (call (.ref f) args kw) Q E s := by
  refine wpAny_call (codeAny_call_def (fd := fnOf name qual params body scope dV kV doc pm an cdv ct) (body := body) (binds := binds) hroom (X _ _ ho) rfl T.nolimit (codeRec_of X hcd) rfl hbind hcell hloc (fun h₁ hns hk₁ => ?_) hco hgen hk)
  exact wpAny_mono (h _ h₁ _ ⟨hns, hk₁, Nat.le_refl _⟩ News.nil) (fun _ _ x => x) fun _ _ x => x.elim
end
section
variable {prog : Program} {w : World} {A : Around} {s : Shared} {env : Env} {h₀ : Heap}
/-- a for loop by an invariant over the frame's map and the ledger's turning part; what the loop leaves alone stands in cs -/
theorem floopN {R : Result → Shared → Prop} {x : Str} {px : Pos} {body orelse : List Stmt} {I : Addr} {fp wr : List Addr} {n : Nat} {P : Nat → Value → Prop} {St : Nat → Heap → Prop} {m : Str → Option Value}
    {news cs : List (Addr × Obj)} (W : Walks prog w A I fp wr n P St) (hx : env.kindOf x = some .local)
    (hp : (env.scope.kind == .class || (env.scope.kind == .module && env.locals != env.globals)) = false)
    (hLf : env.locals ∉ fp) (hwr : ∀ b ∈ wr, h₀.get? b = none) (hnf : ∀ p ∈ news, p.1 ∉ fp) (hcw : ∀ p ∈ cs, p.1 ∉ wr)
    (hst : St 0 s.heap) (F : Fr h₀ env.locals s.heap m) (N : News h₀ env.locals s.heap (news ++ cs))
    (J : Nat → (Str → Option Value) → List (Addr × Obj) → Prop) (h0 : J 0 m news)
    (turn : ∀ i v m₁ news₁ h tk own, i < n → P i v → news₁.map (·.1) = news.map (·.1) → OwnOff own (news.map (·.1)) → J i m₁ news₁ →
      Fr h₀ env.locals h (fun y => if y = x then some v else m₁ y) → News h₀ env.locals h (news₁ ++ (cs ++ own)) →
      wpAny (model prog w) A (execs body env) (fun f s₂ => match f with
        | .ret v => R (.ok (.ret v)) s₂
        | .brk => R (.ok .next) s₂
        | _ => InvEndN h₀ env.locals (J (i + 1)) (cs ++ own) (news.map (·.1)) { s with heap := h, toks := tk } s₂) (fun _ _ => False) { s with heap := h, toks := tk })
    (done : ∀ m₁ news₁ h tk, J n m₁ news₁ → Fr h₀ env.locals h m₁ → News h₀ env.locals h (news₁ ++ cs) →
      wpAny (model prog w) A (execs orelse env) (fun f s₃ => R (.ok f) s₃) (fun _ _ => False) { s with heap := h, toks := tk }) :
    codeAny (model prog w) A (.forLoop (.Name x px) (.ref I) body orelse env) R s := by
  have hLw : env.locals ∉ wr := fun h => hLf (W.sub _ h)
  have old : ∀ b o, h₀.get? b = some o → b ∉ wr := fun b o e hb => by rw [hwr b hb] at e; cases e
  have adr : ∀ {nx : List (Addr × Obj)}, nx.map (·.1) = news.map (·.1) → ∀ p ∈ nx, p.1 ∉ fp := fun {nx} e p hp hq => by
    have h1 : p.1 ∈ nx.map (·.1) := List.mem_map.mpr ⟨p, hp, rfl⟩
    rw [e] at h1
    obtain ⟨q, hq1, hq2⟩ := List.mem_map.mp h1
    exact hnf q hq1 (by rw [hq2]; exact hq)
  refine codeAny_forLoop
    (fun k s' => ∃ h' tk m' news' i, s' = { s with heap := h', toks := tk } ∧ St i h' ∧ Fr h₀ env.locals h' m' ∧ News h₀ env.locals h' (news' ++ cs) ∧ news'.map (·.1) = news.map (·.1) ∧ J i m' news' ∧ i ≤ n ∧ k = n + 1 - i) ?_ (n + 1)
    ⟨s.heap, s.toks, m, news, 0, rfl, hst, F, N, rfl, h0, Nat.zero_le _, rfl⟩
  rintro k s' ⟨h', tk, m', news', i, rfl, hst', F', N', hadr, hJ, hi, rfl⟩
  have off : ∀ p ∈ news' ++ cs, p.1 ∉ wr := fun p hp => (List.mem_append.mp hp).elim (fun h q => adr hadr p h (W.sub _ q)) (hcw p)
  have next : ∀ h₁ : Heap, (∀ b o, b ∉ wr → h'.get? b = some o → h₁.get? b = some o) → Fr h₀ env.locals h₁ m' ∧ News h₀ env.locals h₁ (news' ++ cs) := fun h₁ hk₁ =>
    ⟨⟨F'.ns.at' fun o e => hk₁ _ o hLw e, fun b o e => hk₁ b o (old b o e) (F'.keep b o e), F'.above⟩, fun p hp => ⟨hk₁ _ _ (off p hp) (N' p hp).1, (N' p hp).2⟩⟩
  by_cases hlt : i < n
  · refine W.item i _ _ _ hlt hst' fun v h₁ tk₁ hP hst₁ hk₁ => ?_
    obtain ⟨F₁, N₁⟩ := next h₁ hk₁
    refine wpAny_assign_Name (wpAny_storeName_local hx F₁.ns (fun h₂ hn₂ hs₂ => ?_) hp)
    have F₂ := F₁.set hn₂ hs₂
    have N₂ := N₁.set hs₂
    have Nown : News h₀ env.locals h₂ (ownOf h₀ fp h₂) := news_ownOf hLf
    have hsep : OwnOff (ownOf h₀ fp h₂) (news.map (·.1)) := by
      intro p hp b hb e
      obtain ⟨q, hq, rfl⟩ := List.mem_map.mp hb
      exact hnf q hq (e ▸ ownOf_sub p hp)
    have N₃ : News h₀ env.locals h₂ (news' ++ (cs ++ ownOf h₀ fp h₂)) := fun p hp => by
      rcases List.mem_append.mp hp with h | h
      · exact N₂ p (List.mem_append_left _ h)
      · rcases List.mem_append.mp h with h | h
        · exact N₂ p (List.mem_append_right _ h)
        · exact Nown p h
    refine wpAny_mono (turn i v m' news' h₂ _ (ownOf h₀ fp h₂) hlt hP hadr hsep hJ F₂ N₃) (fun f s₃ h₃ => ?_) fun _ _ e => e.elim
    have fin : InvEndN h₀ env.locals (J (i + 1)) (cs ++ ownOf h₀ fp h₂) (news.map (·.1)) { s with heap := h₂, toks := tk₁ + 1 } s₃ → ∃ m, m < n + 1 - i ∧ ∃ h' tk m' news' i, s₃ = { s with heap := h', toks := tk } ∧ St i h' ∧ Fr h₀ env.locals h' m' ∧ News h₀ env.locals h' (news' ++ cs) ∧ news'.map (·.1) = news.map (·.1) ∧ J i m' news' ∧ i ≤ n ∧ m = n + 1 - i := by
      rintro ⟨h₃', tk₃, m₂, news₂, nx, rfl, F₃, N₃, hn, ho, ha, hJ₃⟩
      refine ⟨n + 1 - (i + 1), fewer hlt, h₃', tk₃, m₂, nx, i + 1, rfl, ?_, F₃, fun p hp => N₃ p ((List.mem_append.mp hp).elim (hn p) fun h => ho p (List.mem_append_left _ h)), ha, hJ₃, hlt, rfl⟩
      refine W.frame _ _ _ hst₁ fun b hb o e => ?_
      have e₂ : h₂.get? b = some o := (hs₂.2 b fun q => hLf (q ▸ hb)).trans e
      cases hn : h₀.get? b with
      | some o₀ =>
        have : o₀ = o := by have := F₂.keep b o₀ hn; rw [e₂] at this; exact (Option.some.inj this).symm
        exact this ▸ F₃.keep b o₀ hn
      | none => exact (N₃ _ (ho _ (List.mem_append_right _ (mem_ownOf hb hn e₂)))).1
    cases f with
    | ret v => exact h₃
    | brk => exact h₃
    | next => exact fin h₃
    | cont => exact fin h₃
  · have hin : i = n := by omega
    subst hin
    refine W.done _ _ _ hst' fun h₁ tk₁ hk₁ => ?_
    obtain ⟨F₁, N₁⟩ := next h₁ hk₁
    exact wpAny_mono (done m' news' h₁ tk₁ hJ F₁ N₁) (fun _ _ x => x) fun _ _ x => x.elim
/-- over range(0, n), n written or known -/
theorem rangeFor {R : Result → Shared → Prop} {E : Value → Shared → Prop} {x : Str} {px : Pos} {body orelse : List Stmt} {r : Addr} {b₀ : Int} {t₀ u₀ v₀ : Tok} {n : Nat} {m : Str → Option Value}
    {news cs : List (Addr × Obj)} (J : Nat → (Str → Option Value) → List (Addr × Obj) → Prop) (hh : A.handled = none) (hr : IsRange s.heap r 0 b₀ 1 t₀ u₀ v₀)
    (hsmall : Builtin.Range.small 0 b₀ 1 = true) (hn : Builtin.Range.rangeSize 0 b₀ 1 = (n : Int)) (hx : env.kindOf x = some .local)
    (hp : (env.scope.kind == .class || (env.scope.kind == .module && env.locals != env.globals)) = false)
    (F : Fr h₀ env.locals s.heap m) (N : News h₀ env.locals s.heap (news ++ cs)) (h0 : J 0 m news)
    (turn : ∀ (i : Nat) t m₁ news₁ h tk own, i < n → news₁.map (·.1) = news.map (·.1) → OwnOff own (news.map (·.1)) → J i m₁ news₁ →
      Fr h₀ env.locals h (fun y => if y = x then some (.int (i : Int) t) else m₁ y) → News h₀ env.locals h (news₁ ++ (cs ++ own)) →
      wpAny (model prog w) A (execs body env) (fun f s₂ => match f with
        | .ret v => R (.ok (.ret v)) s₂
        | .brk => R (.ok .next) s₂
        | _ => InvEndN h₀ env.locals (J (i + 1)) (cs ++ own) (news.map (·.1)) { s with heap := h, toks := tk } s₂) (fun _ _ => False) { s with heap := h, toks := tk })
    (done : ∀ m₁ news₁ h tk, J n m₁ news₁ → Fr h₀ env.locals h m₁ → News h₀ env.locals h (news₁ ++ cs) →
      wpAny (model prog w) A (execs orelse env) (fun f s₃ => R (.ok f) s₃) (fun _ _ => False) { s with heap := h, toks := tk }) :
    wpAny (model prog w) A (pyIter (.ref r)) (fun it s₂ => codeAny (model prog w) A (.forLoop (.Name x px) it body orelse env) R s₂) E s := by
  refine wpAny_pyIter_range hr hsmall ?_
  have W : Walks prog w A s.heap.objs.size [s.heap.objs.size] [s.heap.objs.size] n (fun i v => i < n ∧ ∃ t, v = .int (0 + i * 1) t)
      (fun i h => IsRangeIter h s.heap.objs.size (0 + (i : Nat) * 1) ((n : Int) - (i : Nat)) 1) := (Walks.range hh _ 0 1 n).bound
  refine floopN (s := { s with heap := s.heap.push _ }) (news := news) (cs := cs) W hx hp ?_ ?_ ?_ ?_ (by show IsRangeIter _ _ _ _ _; rw [hn]; simpa using Heap.get?_push_size _ rfl) (F.push _) (fun p hp => ⟨Heap.get?_push_of_some _ (N p hp).1, (N p hp).2⟩) J h0 ?_ ?_
  · intro hm
    exact absurd F.ns.lt ((List.mem_singleton.mp hm) ▸ Nat.lt_irrefl _)
  · intro b hb
    rw [List.mem_singleton.mp hb]
    exact next_is_new F
  · intro p hp hI
    exact absurd (Heap.lt_size (N p (List.mem_append_left _ hp)).1) ((List.mem_singleton.mp hI) ▸ Nat.lt_irrefl _)
  · intro p hp hI
    exact absurd (Heap.lt_size (N p (List.mem_append_right _ hp)).1) ((List.mem_singleton.mp hI) ▸ Nat.lt_irrefl _)
  · rintro i v m₁ news₁ h tk own hi ⟨_, t, rfl⟩ ha ho hJ F' N'
    have e := step0 i
    rw [e] at F'
    exact turn i t m₁ news₁ h tk own hi ha ho hJ F' N'
  · exact done
/-- over a list that stands -/
theorem listFor {R : Result → Shared → Prop} {E : Value → Shared → Prop} {x : Str} {px : Pos} {body orelse : List Stmt} {l : Addr} {vs : List Value} {m : Str → Option Value}
    {news cs : List (Addr × Obj)} (J : Nat → (Str → Option Value) → List (Addr × Obj) → Prop) (hh : A.handled = none) (hl : s.heap.IsList l vs.toArray)
    (hlL : l ≠ env.locals) (hln : ∀ p ∈ news, p.1 ≠ l) (hx : env.kindOf x = some .local)
    (hp : (env.scope.kind == .class || (env.scope.kind == .module && env.locals != env.globals)) = false)
    (F : Fr h₀ env.locals s.heap m) (N : News h₀ env.locals s.heap (news ++ cs)) (h0 : J 0 m news)
    (turn : ∀ (i : Nat) v m₁ news₁ h tk own, i < vs.length → vs[i]? = some v → news₁.map (·.1) = news.map (·.1) → OwnOff own (news.map (·.1)) → J i m₁ news₁ →
      Fr h₀ env.locals h (fun y => if y = x then some v else m₁ y) → News h₀ env.locals h (news₁ ++ (cs ++ own)) →
      wpAny (model prog w) A (execs body env) (fun f s₂ => match f with
        | .ret v => R (.ok (.ret v)) s₂
        | .brk => R (.ok .next) s₂
        | _ => InvEndN h₀ env.locals (J (i + 1)) (cs ++ own) (news.map (·.1)) { s with heap := h, toks := tk } s₂) (fun _ _ => False) { s with heap := h, toks := tk })
    (done : ∀ m₁ news₁ h tk, J vs.length m₁ news₁ → Fr h₀ env.locals h m₁ → News h₀ env.locals h (news₁ ++ cs) →
      wpAny (model prog w) A (execs orelse env) (fun f s₃ => R (.ok f) s₃) (fun _ _ => False) { s with heap := h, toks := tk }) :
    wpAny (model prog w) A (pyIter (.ref l)) (fun it s₂ => codeAny (model prog w) A (.forLoop (.Name x px) it body orelse env) R s₂) E s := by
  obtain ⟨ol, hol, _⟩ := id hl
  have hlt : l < s.heap.objs.size := Heap.lt_size hol
  have hne : l ≠ s.heap.objs.size := Nat.ne_of_lt hlt
  refine wpAny_pyIter_list hl ?_
  have W := Walks.list (prog := prog) (w := w) hh s.heap.objs.size l hne vs.toArray
  have hlen : vs.toArray.size = vs.length := by simp
  rw [hlen] at W
  refine floopN (s := { s with heap := s.heap.push _ }) (news := news) (cs := cs) W hx hp ?_ ?_ ?_ ?_ ⟨⟨_, Heap.get?_push_size _ rfl, rfl, rfl⟩, hl.at fun o e => Heap.get?_push_of_some _ e⟩ (F.push _) (fun p hp => ⟨Heap.get?_push_of_some _ (N p hp).1, (N p hp).2⟩) J h0 ?_ ?_
  · intro hm
    rcases List.mem_cons.mp hm with e | hm
    · exact absurd F.ns.lt (e ▸ Nat.lt_irrefl _)
    · exact hlL (List.mem_singleton.mp hm).symm
  · intro b hb
    rw [List.mem_singleton.mp hb]
    exact next_is_new F
  · intro p hp hI
    rcases List.mem_cons.mp hI with e | hI
    · exact absurd (Heap.lt_size (N p (List.mem_append_left _ hp)).1) (e ▸ Nat.lt_irrefl _)
    · exact hln p hp (List.mem_singleton.mp hI)
  · intro p hp hI
    exact absurd (Heap.lt_size (N p (List.mem_append_right _ hp)).1) ((List.mem_singleton.mp hI) ▸ Nat.lt_irrefl _)
  · intro i v m₁ news₁ h tk own hi hP ha ho hJ F' N'
    exact turn i v m₁ news₁ h tk own hi (by simpa using hP) ha ho hJ F' N'
  · exact done
theorem map1 {m : Str → Option Value} {a : Str} {va : Value} (h1 : m a = some va) : m = fun y => if y = a then some va else m y := by
  funext y; by_cases e : y = a
  · rw [if_pos e, e]; exact h1
  · rw [if_neg e]
theorem map2 {m : Str → Option Value} {a b : Str} {va vb : Value} (h1 : m a = some va) (h2 : m b = some vb) : m = fun y => if y = a then some va else if y = b then some vb else m y := by
  funext y; by_cases e : y = a
  · rw [if_pos e, e]; exact h1
  · rw [if_neg e]; exact congrFun (map1 h2) y
theorem map3 {m : Str → Option Value} {a b c : Str} {va vb vc : Value} (h1 : m a = some va) (h2 : m b = some vb) (h3 : m c = some vc) : m = fun y => if y = a then some va else if y = b then some vb else if y = c then some vc else m y := by
  funext y; by_cases e : y = a
  · rw [if_pos e, e]; exact h1
  · rw [if_neg e]; exact congrFun (map2 h2 h3) y
theorem map4 {m : Str → Option Value} {a b c d : Str} {va vb vc vd : Value} (h1 : m a = some va) (h2 : m b = some vb) (h3 : m c = some vc) (h4 : m d = some vd) :
    m = fun y => if y = a then some va else if y = b then some vb else if y = c then some vc else if y = d then some vd else m y := by
  funext y; by_cases e : y = a
  · rw [if_pos e, e]; exact h1
  · rw [if_neg e]; exact congrFun (map3 h2 h3 h4) y
theorem map5 {m : Str → Option Value} {a b c d f : Str} {va vb vc vd vf : Value} (h1 : m a = some va) (h2 : m b = some vb) (h3 : m c = some vc) (h4 : m d = some vd) (h5 : m f = some vf) :
    m = fun y => if y = a then some va else if y = b then some vb else if y = c then some vc else if y = d then some vd else if y = f then some vf else m y := by
  funext y; by_cases e : y = a
  · rw [if_pos e, e]; exact h1
  · rw [if_neg e]; exact congrFun (map4 h2 h3 h4 h5) y
end
section
variable {prog : Program} {w : World} {A : Around} {E : Value → Shared → Prop} {s : Shared} {h₀ : Heap} {L : Addr} {m : Str → Option Value}
theorem app_one {D : Addr} {vs : List Value} {k : Nat} {x : Value} {rest : List (Addr × Obj)} {Q : Value → Shared → Prop} (F : Fr h₀ L s.heap m)
    (N : News h₀ L s.heap ((D, listOf vs.toArray k) :: rest)) (hr : ∀ p ∈ rest, p.1 ≠ D) (hsz : vs.length ≤ 4096)
    (h : ∀ h', Fr h₀ L h' m → News h₀ L h' ((D, listOf (vs ++ [x]).toArray (k + 1)) :: rest) → Q .none { s with heap := h' }) :
    wpAny (model prog w) A (call (.builtin "list.append") [.ref D, x]) Q E s := by
  refine append_K F N (Upd.head hr) (fun h' F' N' => ?_) (by rw [sizeLine_eq, List.size_toArray]; exact Nat.le_trans hsz (by decide))
  rw [List.push_toArray] at N'
  exact h h' F' N'
end
theorem news_off {h₀ h : Heap} {L l : Addr} {o : Obj} {news : List (Addr × Obj)} (N : News h₀ L h news) (ho : h₀.get? l = some o) : ∀ p ∈ news, p.1 ≠ l := fun p hp e => by
  have := (N p hp).2.2; rw [e, ho] at this; cases this
/-- a turn's end, one object turned -/
theorem inv1 {h₀ h' : Heap} {L D : Addr} {o : Obj} {own : List (Addr × Obj)} {m' : Str → Option Value} {J : (Str → Option Value) → List (Addr × Obj) → Prop} {s₁ : Shared} {tk : Nat}
    (F : Fr h₀ L h' m') (N : News h₀ L h' ((D, o) :: own)) (hj : J m' [(D, o)]) : InvEndN h₀ L J own [D] s₁ { s₁ with heap := h', toks := tk } :=
  InvEndN.intro F N hj rfl (fun p hp => by rw [List.mem_singleton.mp hp]; exact .head _) (fun p hp => .tail _ hp)
/-- a turn's end, no object turned -/
theorem inv0 {h₀ h' : Heap} {L : Addr} {own : List (Addr × Obj)} {m' : Str → Option Value} {J : (Str → Option Value) → List (Addr × Obj) → Prop} {s₁ : Shared} {tk : Nat}
    (F : Fr h₀ L h' m') (N : News h₀ L h' own) (hj : J m' []) : InvEndN h₀ L J own [] s₁ { s₁ with heap := h', toks := tk } :=
  InvEndN.intro F N hj rfl (fun p hp => by cases hp) (fun p hp => hp)
theorem int_as {a b : Int} {t : Tok} {o : Option Value} (h : o = some (.int a t)) (e : a = b) : ∃ t, o = some (.int b t) := ⟨t, e ▸ h⟩
theorem strs_snoc {vs : List Value} {ss : List Str} {x : Str} {t : Tok} (h : StrsAre vs ss) : StrsAre (vs ++ [.str x t]) (ss ++ [x]) := h.append' (.cons x t .nil)
theorem isList_news {h₀ h : Heap} {L D : Addr} {a : Array Value} {k : Nat} {news : List (Addr × Obj)} (N : News h₀ L h news) (hm : (D, listOf a k) ∈ news) : h.IsList D a := ⟨_, (N _ hm).1, rfl, k, rfl⟩
section
variable {prog : Program} {w : World} {A : Around} {E : Value → Shared → Prop} {s : Shared} {K : Frag}
/-- a call's end: the ledger as it lies then -/
noncomputable def LeaveN (g : Heap) (L' : Addr) (h₀ : Heap) (L : Addr) (m : Str → Option Value) (Q : Value → Shared → Prop) (v : Value) (s' : Shared) : Prop :=
  ∃ m' news', Fr g L' s'.heap m' ∧ News g L' s'.heap news' ∧ (Fr h₀ L s'.heap m → News h₀ L s'.heap news' → Q v s')
/-- a call that may change the objects of the ledger -/
theorem enterN {p : Program} {loose : List Str} {mean : ExcName → Option Value} {mg mb : Str → Option Value} {h₀ : Heap} {L : Addr} {m : Str → Option Value} {news : List (Addr × Obj)}
    {Q : Value → Shared → Prop} {name qual : Str} {params : Arguments} {body : List Stmt} {scope : Scope} {dV kV doc pm cdv ct oc : Value} {an od : Option Addr} {osl : Array (Option Value)} {f : Addr} {args : List Value} {kw : List (Str × Value)} {binds : List (Str × Value)}
    (X : K.In h₀) (T : Top p loose mean mg mb h₀) (F : Fr h₀ L s.heap m) (N : News h₀ L s.heap news)
    (ho : K.lookup f = some ⟨oc, od, .func (fnOf name qual params body scope dV kV doc pm an cdv ct), osl⟩) (hcd : codeIn K cdv qual = true) (hroom : A.depth < recursionLimit)
    (hbind : BindsTo s (fnOf name qual params body scope dV kV doc pm an cdv ct) ⟨args, kw⟩ binds) (hloc : ∀ y ∈ binds, scope.names.lookup y.1 = some .local)
    (h : ∀ g L' h₁ tk, Fr g L' h₁ (fun y => binds.reverse.lookup y) → News g L' h₁ news → K.In g → Top p loose mean mg mb g →
      wpAny (model prog w) (A.deeper (envOf qual scope L' f cdv)) (execs body (envOf qual scope L' f cdv))
        (fun fl s' => LeaveN g L' h₀ L m Q (match fl with | .ret v => v | _ => .none) s') (fun _ _ => False) { s with heap := h₁, toks := tk })
    (hco : scope.isCoroutine = false) (hgen : scope.isGenerator = false) (hk : scope.kind = .function)
    (hcell : ∀ x ∈ scope.names, x.2 ≠ .cell) : wpAny (model prog w) A (call (.ref f) args kw) Q E s := by
  have nm : ∀ b o, h₀.get? b = some o → b ∉ news.map (·.1) := fun b o e q => by
    obtain ⟨p, hp, rfl⟩ := List.mem_map.mp q
    rw [(N p hp).2.2] at e; cases e
  have st : ∀ b o, h₀.get? b = some o → (hideAll s.heap (news.map (·.1))).get? b = some o := fun b o e => hideAll_get _ (F.keep b o e) (nm b o e)
  obtain ⟨oL, es, ep, hL, hLd, hLk, hLf⟩ := F.ns
  have nL : L ∉ news.map (·.1) := fun q => by
    obtain ⟨p, hp, e⟩ := List.mem_map.mp q
    exact (N p hp).2.1 e
  have hLg := hideAll_get (news.map (·.1)) hL nL
  refine wpAny_call (codeAny_call_def (fd := fnOf name qual params body scope dV kV doc pm an cdv ct) (body := body) (binds := binds) hroom (F.keep _ _ (X _ _ ho)) rfl (T.nolimit.keeps F.keep) (codeRec_of (X.keeps F.keep) hcd) rfl hbind hcell hloc (fun h₁ hns hk₁ => ?_) hco hgen hk)
  refine wpAny_mono (h _ s.heap.objs.size h₁ _ ⟨hns, fun b o e => hk₁ b o (of_hideAll _ e), Nat.le_of_eq (hideAll_size _ _)⟩
    (fun p hp => ⟨hk₁ _ _ (N p hp).1, Nat.ne_of_lt (Heap.lt_size (N p hp).1), hideAll_none _ (List.mem_map_of_mem hp)⟩) (X.keeps st) (T.keeps st)) (fun fl s' hl => ?_) fun _ _ x => x.elim
  obtain ⟨m', news', F', N', k⟩ := hl
  refine k ⟨⟨oL, es, ep, F'.keep L oL hLg, hLd, hLk, hLf⟩, fun b o e => F'.keep b o (st b o e), F.above⟩ fun p hp => ⟨(N' p hp).1, fun q => ?_, ?_⟩
  · have := (N' p hp).2.2; rw [q, hLg] at this; cases this
  · cases q : h₀.get? p.1 with
    | none => rfl
    | some o => have := (N' p hp).2.2; rw [st _ _ q] at this; cases this
end
end Mine
end
noncomputable section
open PySem PySem.W PyProof.Rows PySem.Calls
set_option maxRecDepth 100000
namespace Mine
/-- a list's iterator at the place i -/
noncomputable def itObj (l : Addr) (i : Nat) : Obj := { cls := .type "list_iterator", data := .fields #[.ref l, .int i 0] }
section
variable {prog : Program} {w : World} {A : Around} {E : Value → Shared → Prop} {s : Shared} {h₀ : Heap} {L : Addr} {m : Str → Option Value} {news rest : List (Addr × Obj)}
theorem list_iter {l : Addr} {items : Array Value} {Q : Value → Shared → Prop} (F : Fr h₀ L s.heap m) (N : News h₀ L s.heap news) (hl : s.heap.IsList l items)
    (h : ∀ I h', Fr h₀ L h' m → News h₀ L h' ((I, itObj l 0) :: news) → (∀ p ∈ news, p.1 < I) → Q (.ref I) { s with heap := h' }) :
    wpAny (model prog w) A (call (.builtin "iter") [.ref l]) Q E s := by
  refine call_function_entry (by decide +kernel) (by decide +kernel) kdk_entry_iter (kdk_args_iter _) ?_
  unfold Builtin.«iter»
  refine wpAny_bind (m := someArgs "iter" 1 2 _) (wpAny_of_eq (a := [Value.ref l]) (by first | rfl | kernel_rfl!) ?_)
  show wpAny _ _ (pyIter (.ref l) >>= _) _ _ _
  refine wpAny_bind (wpAny_pyIter_list hl ?_)
  exact wpAny_pure ⟨_, rfl, h _ _ (F.push _) (News.push F N _ rfl) fun q hq => Heap.lt_size (N q hq).1⟩
theorem list_next {it l : Addr} {i : Nat} {items : Array Value} {x : Value} {Q : Value → Shared → Prop} (F : Fr h₀ L s.heap m) (N : News h₀ L s.heap ((it, itObj l i) :: rest)) (hl : s.heap.IsList l items)
    (hx : items[i]? = some x) (hr : ∀ p ∈ rest, p.1 ≠ it)
    (h : ∀ h', Fr h₀ L h' m → News h₀ L h' ((it, itObj l (i + 1)) :: rest) → Q x { s with heap := h' }) :
    wpAny (model prog w) A (call (.builtin "next") [.ref it]) Q E s := by
  have hm := N (it, itObj l i) (.head _)
  have ho : s.heap.get? it = some (itObj l i) := hm.1
  have hit : s.heap.IsListIter it l i := ⟨_, ho, rfl, rfl⟩
  obtain ⟨ol, hol, _, nl, hdl⟩ := hl
  refine call_function_entry (by decide +kernel) (by decide +kernel) kdk_entry_next (kdk_args_next _) ?_
  unfold Builtin.«next»
  refine wpAny_bind (m := someArgs "next" 1 2 _) (wpAny_of_eq (a := [Value.ref it]) (by first | rfl | kernel_rfl!) ?_)
  dsimp only
  refine wpAny_bind (wpAny_specialOf (name := Str.ofString "__next__") hit.typeIs slot_listiter_next.lookup ?_)
  refine wpAny_ite_split (fun hab => absurd hab (by decide)) (fun _ => ?_)
  refine wpAny_bind (wpAny_callSpecial?_slot (name := Str.ofString "__next__") hit.typeIs slot_listiter_next
    (wpAny_call_entry slot_listiter_next hit.typeIs entry_listiter_next ?_ (args_listiter_next _)))
  show wpAny _ _ (field (.ref it) 0 >>= _) _ _ s
  refine wpAny_bind (wpAny_field ho rfl (x := .ref l) rfl ?_)
  show wpAny _ _ (if (Value.ref l == Value.none) = true then _ else _) _ _ s
  rw [if_neg (show ¬ ((Value.ref l == Value.none) = true) from Bool.false_ne_true)]
  show wpAny _ _ (field (.ref it) 1 >>= _) _ _ s
  refine wpAny_bind (wpAny_field ho rfl (x := .int i 0) rfl ?_)
  show wpAny _ _ (seqItems? (.ref l) >>= _) _ _ s
  refine wpAny_bind (wpAny_seqItems hol hdl ?_)
  simp only [Int.toNat_natCast, hx]
  refine wpAny_bind (wpAny_setField ho rfl (by simp) (wpAny_pure ⟨x, rfl, wpAny_pure ⟨x, rfl, ?_⟩⟩))
  have e : Obj.mapFields (·.setIfInBounds 1 (rawInt ((i : Int) + 1))) (itObj l i) = itObj l (i + 1) := rfl
  have hs := Heap.SameBut.update s.heap it (Obj.mapFields (·.setIfInBounds 1 (rawInt ((i : Int) + 1))))
  refine h _ (F.change hs hm.2.1 hm.2.2) ?_
  exact (show News h₀ L s.heap ([] ++ (it, itObj l i) :: rest) from N).setIn (fun _ hp => by cases hp) hr hs (Heap.get?_update_self _ ho rfl)
end
section
variable {prog : Program} {w : World} {A : Around} {s : Shared} {env : Env}
theorem while_turn {R : Result → Shared → Prop} {test : PySem.Expr} {body orelse : List Stmt}
    (h : wpAny (model prog w) A (isTrue test env (eval test env)) (fun b s₂ =>
        if b = true then wpAny (model prog w) A (execs body env) (fun f s₃ => match f with
            | .ret v => R (.ok (.ret v)) s₃
            | .brk => R (.ok .next) s₃
            | _ => codeAny (model prog w) A (.whileLoop test body orelse env) R s₃) (fun _ _ => False) s₂
        else wpAny (model prog w) A (execs orelse env) (fun f s₃ => R (.ok f) s₃) (fun _ _ => False) s₂) (fun _ _ => False) s) :
    codeAny (model prog w) A (.whileLoop test body orelse env) R s := by
  refine codeAny_of_tree ?_
  show wpAny _ A ((whileTurn test body orelse env).onRaise (fun x => do noteFrame x env; theTreesLotGoes x)) _ _ s
  refine wpAny_noted ?_
  simp only [whileTurn]
  refine wpAny_bind (wpAny_mono h (fun b s₂ h₂ => ?_) fun _ _ x => x.elim)
  cases b with
  | false =>
    simp only [Bool.false_eq_true, if_false] at h₂ ⊢
    exact wpAny_bind (wpAny_mono h₂ (fun f s₃ h₃ => wpAny_pure h₃) fun _ _ x => x.elim)
  | true =>
    simp only [if_true] at h₂ ⊢
    refine wpAny_bind (wpAny_mono h₂ (fun f s₃ h₃ => ?_) fun _ _ x => x.elim)
    cases f with
    | next => exact wpAny_pure ⟨rfl, h₃⟩
    | cont => exact wpAny_pure ⟨rfl, h₃⟩
    | brk => exact wpAny_pure h₃
    | ret v => exact wpAny_pure h₃
end
section
variable {prog : Program} {w : World} {A : Around} {E : Value → Shared → Prop} {s : Shared} {Q : Value → Shared → Prop} {x y z : Int} {t u : Tok}
theorem and_as (e : Builtin.bitAnd x y = z) (h : ∀ t', Q (.int z t') { s with toks := s.toks + 1 }) : wpAny (model prog w) A (binaryOp .BitAnd (.int x t) (.int y u)) Q E s := and_int (e ▸ h _)
theorem or_as (e : Builtin.bitOr x y = z) (h : ∀ t', Q (.int z t') { s with toks := s.toks + 1 }) : wpAny (model prog w) A (binaryOp .BitOr (.int x t) (.int y u)) Q E s := or_int (e ▸ h _)
theorem xor_as (e : Builtin.bitXor x y = z) (h : ∀ t', Q (.int z t') { s with toks := s.toks + 1 }) : wpAny (model prog w) A (binaryOp .BitXor (.int x t) (.int y u)) Q E s := xor_int (e ▸ h _)
end
/-- to name the ledger's one object -/
theorem named1 {h₀ h : Heap} {L d : Addr} {o : Obj} (_ : News h₀ L h [(d, o)]) : ∃ D O, D = d ∧ O = o := ⟨_, _, rfl, rfl⟩
theorem ints_snoc {x : Int} {t : Tok} {b : Nat} (e : x = (b : Int)) : ∀ {us : List Value} {acc : List Nat}, IntsAre us (acc.map fun (n : Nat) => (n : Int)) → IntsAre (us ++ [.int x t]) ((acc ++ [b]).map fun (n : Nat) => (n : Int))
  | [], [], _ => by subst e; exact .cons _ _ .nil
  | [], _ :: _, h => by cases h
  | _ :: _, [], h => by cases h
  | _ :: us, a :: acc, h => by
    cases h with
    | cons _ _ hr => exact .cons _ _ (ints_snoc e hr)
end Mine
end
noncomputable section
open PySem PySem.W PyProof.Rows PySem.Calls
set_option maxRecDepth 100000
namespace Mine
open PySem.AutoSeq1 (wpAny_loadPart')
section
variable {prog : Program} {w : World} {A : Around} {E : Value → Shared → Prop} {s : Shared}
theorem nextOf_tuple_item {it l : Addr} {i : Nat} {items : Array Value} {x : Value} {Q : Value → Shared → Prop} (hit : s.heap.IsTupleIter it l i)
    (hl : s.heap.IsTuple l items) (hx : items[i]? = some x)
    (hQ : ∀ h', h'.IsTupleIter it l (i + 1) → Heap.SameBut it s.heap h' → Q x { s with heap := h' }) :
    wpAny (model prog w) A (Builtin.SmallTypes.nextOf (.ref it)) Q E s := by
  obtain ⟨o, ho, hc, hd⟩ := id hit
  obtain ⟨ol, hol, _, nl, hdl⟩ := hl
  unfold Builtin.SmallTypes.nextOf
  refine wpAny_bind (wpAny_callSpecial?_slot (name := Str.ofString "__next__") hit.typeIs PySem.F.slot_tuple_iterator_next
    (wpAny_call_entry PySem.F.slot_tuple_iterator_next hit.typeIs PySem.F.entry_tuple_iterator_next ?_ (PySem.F.args_tuple_iterator_next_1 _)))
  show wpAny _ _ (field (.ref it) 0 >>= _) _ _ s
  refine wpAny_bind (wpAny_field ho hd (x := .ref l) rfl ?_)
  show wpAny _ _ (if (Value.ref l == Value.none) = true then _ else _) _ _ s
  rw [if_neg (show ¬ ((Value.ref l == Value.none) = true) from Bool.false_ne_true)]
  show wpAny _ _ (field (.ref it) 1 >>= _) _ _ s
  refine wpAny_bind (wpAny_field ho hd (x := .int i 0) rfl ?_)
  show wpAny _ _ (seqItems? (.ref l) >>= _) _ _ s
  refine wpAny_bind (wpAny_seqItems hol hdl ?_)
  simp only [Int.toNat_natCast, hx]
  refine wpAny_bind (wpAny_setField ho hd (by simp) (wpAny_pure ⟨x, rfl, wpAny_pure (hQ _ ?_ (Heap.SameBut.update ..))⟩))
  exact ⟨_, Heap.get?_update_self _ ho (Obj.isFreed_of_fields (Obj.data_mapFields hd _)), (Obj.cls_mapFields ..).trans hc, by
    rw [Obj.data_mapFields hd]; simp [rawInt]⟩
theorem nextOf_tuple_end {it l : Addr} {i : Nat} {items : Array Value} {Q : Value → Shared → Prop} (hh : A.handled = none)
    (hit : s.heap.IsTupleIter it l i) (hl : s.heap.IsTuple l items) (hx : items[i]? = none)
    (hE : ∀ h' e, Heap.ExtBut it s.heap h' → (∃ o, h'.get? e = some o ∧ o.cls = .type "StopIteration") → E (.ref e) { s with heap := h' }) :
    wpAny (model prog w) A (Builtin.SmallTypes.nextOf (.ref it)) Q E s := by
  obtain ⟨o, ho, hc, hd⟩ := id hit
  obtain ⟨ol, hol, _, nl, hdl⟩ := hl
  unfold Builtin.SmallTypes.nextOf
  refine wpAny_bind (wpAny_callSpecial?_slot (name := Str.ofString "__next__") hit.typeIs PySem.F.slot_tuple_iterator_next
    (wpAny_call_entry PySem.F.slot_tuple_iterator_next hit.typeIs PySem.F.entry_tuple_iterator_next ?_ (PySem.F.args_tuple_iterator_next_1 _)))
  show wpAny _ _ (field (.ref it) 0 >>= _) _ _ s
  refine wpAny_bind (wpAny_field ho hd (x := .ref l) rfl ?_)
  show wpAny _ _ (if (Value.ref l == Value.none) = true then _ else _) _ _ s
  rw [if_neg (show ¬ ((Value.ref l == Value.none) = true) from Bool.false_ne_true)]
  show wpAny _ _ (field (.ref it) 1 >>= _) _ _ s
  refine wpAny_bind (wpAny_field ho hd (x := .int i 0) rfl ?_)
  show wpAny _ _ (seqItems? (.ref l) >>= _) _ _ s
  refine wpAny_bind (wpAny_seqItems hol hdl ?_)
  simp only [Int.toNat_natCast, hx]
  refine wpAny_bind (wpAny_rule (wpAny_bind (wpAny_setField ho hd (by simp) ?_)))
  show wpAny _ _ (newExc (.type "StopIteration") [] >>= _) _ _ _
  refine wpAny_bind ?_
  simp only [newExc, newTuple]
  refine wpAny_bind (wpAny_newObj_type ?_ (by size_fits))
  refine wpAny_bind (m := firstArgMember _ _) (wpAny_of_eq (a := Value.none) (by first | rfl | (simp only [firstArgMember]; rfl)) ?_)
  refine wpAny_newObj_type ?_ (by size_fits)
  simp only [raiseNew]
  refine wpAny_bind (wpAny_handled ?_)
  first | rw [show A.in1.handled = none from hh] | rw [hh]
  refine wpAny_bind (wpAny_pure (wpAny_throw ?_))
  exact hE _ _ (((Heap.SameBut.update ..).extBut.push _).push _) ⟨_, Heap.get?_push_size _ rfl, rfl⟩
end
theorem draws_tuple {prog : Program} {w : World} {A : Around} (hh : A.handled = none) (it l : Addr) (hne : l ≠ it) (items : Array Value) :
    Draws prog w A it [it, l] items.size (fun i v => items[i]? = some v) (fun i h => h.IsTupleIter it l i ∧ h.IsTuple l items) where
  live := fun _ _ st => let ⟨o, ho, _⟩ := st.1; ⟨o, ho⟩
  frame := fun _ _ _ st hk => ⟨st.1.at fun o e => hk it (by simp) o e, st.2.at fun o e => hk l (by simp) o e⟩
  item := fun i s Q E hi st hQ => by
    refine nextOf_tuple_item st.1 st.2 (x := items[i]) (by simp [hi]) fun h' hit' hs' => ?_
    exact hQ _ h' s.toks (by simp [hi]) ⟨hit', st.2.extBut hs'.extBut hne⟩ hs'
  done := fun s Q E st hE => nextOf_tuple_end hh st.1 st.2 (by simp) hE
theorem meets_enumerate_newT (l : Addr) (items : Array Value) (n : Nat) (dct : Option Addr) (sl : Array (Option Value)) :
    Meets (Builtin.«enumerate.__new__» ⟨[.type "enumerate", .ref l], []⟩) (fun _ R s => s.heap.get? l = some { cls := .type "tuple", dict := dct, data := .seq items n, slots := sl } ∧
      R (.ok (.ret (.ref (s.heap.push { cls := .type "tuple_iterator", data := .fields #[.ref l, .int 0 0] }).objs.size)))
        { s with heap := (s.heap.push { cls := .type "tuple_iterator", data := .fields #[.ref l, .int 0 0] }).push { cls := .type "enumerate", data := .fields #[.none, .bool false, .ref s.heap.objs.size, rawInt 0, .none, .none] } }) :=
  .of_wp fun prog w A R s h => by
    obtain ⟨hp, g, d, tk, os⟩ := s; obtain ⟨hl, h⟩ := h
    have hsub := sub_enumerate
    have hL : Heap.IsTuple (Shared.heap ⟨hp, g, d, tk, os⟩) l items := ⟨_, hl, rfl, n, rfl⟩
    wp_walk using wpAny_loadPart' hl
    refine wpAny_stack_any fun st => wpAny_pure ?_
    split
    · rename_i c _ _ _ _ _
      cases (c == Value.type "enumerate")
      · wp_walk using wpAny_loadPart' hl, wpAny_pyIter_tuple hL
        exact ⟨_, rfl, h⟩
      · wp_walk using wpAny_loadPart' hl, wpAny_pyIter_tuple hL
        exact ⟨_, rfl, h⟩
    · wp_walk using wpAny_loadPart' hl, wpAny_pyIter_tuple hL
      exact ⟨_, rfl, h⟩
theorem call_enumerate_tuple {prog : Program} {w : World} {A : Around} {E : Value → Shared → Prop} {s : Shared} {l : Addr} {items : Array Value} {Q : Value → Shared → Prop} (hL : s.heap.IsTuple l items)
    (h : ∀ h', IsEnum h' (s.heap.objs.size + 1) s.heap.objs.size 0 .none → h'.IsTupleIter s.heap.objs.size l 0 → h'.objs.size = s.heap.objs.size + 2 →
      (∀ b o, s.heap.get? b = some o → h'.get? b = some o) → Q (.ref (s.heap.objs.size + 1)) { s with heap := h' }) :
    wpAny (model prog w) A (call (.type "enumerate") [.ref l]) Q E s := by
  obtain ⟨⟨c, dct, dt, sl⟩, hl, hc, n, hd⟩ := hL
  replace hc : c = .type "tuple" := hc
  replace hd : dt = .seq items n := hd
  subst hc hd
  refine callType_new PySem.F.called_enumerate (by decide) (PySem.F.typeCall_enumerate_1 _) (PySem.F.newCall_enumerate_1 _) (fun obj => PySem.F.args_object_init_2 obj _) PySem.F.entry_enumerate_new
    (meets_enumerate_newT l items n dct sl) ⟨hl, ?_⟩
  have hz : (s.heap.push { cls := .type "tuple_iterator", data := .fields #[.ref l, .int 0 0] }).objs.size = s.heap.objs.size + 1 := Heap.size_push ..
  show _ ∧ _
  rw [hz]
  have he : IsEnum ((s.heap.push { cls := .type "tuple_iterator", data := .fields #[.ref l, .int 0 0] }).push
      { cls := .type "enumerate", data := .fields #[.none, .bool false, .ref s.heap.objs.size, rawInt 0, .none, .none] }) (s.heap.objs.size + 1) s.heap.objs.size 0 .none := by
    have := Heap.get?_push_size (s.heap.push { cls := .type "tuple_iterator", data := .fields #[.ref l, .int 0 0] })
      (o := { cls := .type "enumerate", data := .fields #[.none, .bool false, .ref s.heap.objs.size, rawInt 0, .none, .none] }) rfl
    rw [hz] at this; exact this
  refine ⟨⟨_, he, rfl⟩, h _ he ⟨_, Heap.get?_push_of_some _ (Heap.get?_push_size _ rfl), rfl, rfl⟩ (by rw [Heap.size_push, hz]) fun b o x => Heap.get?_push_of_some _ (Heap.get?_push_of_some _ x)⟩
/-- an iterator over pairs, each a tuple of two -/
structure WP (prog : Program) (w : World) (A : Around) (I : Addr) (fp wr : List Addr) (n : Nat) (P : Nat → Value → Value → Prop) (St : Nat → Heap → Prop) : Prop where
  sub : ∀ b ∈ wr, b ∈ fp
  frame : ∀ i h h', St i h → (∀ b ∈ fp, ∀ o, h.get? b = some o → h'.get? b = some o) → St i h'
  item : ∀ i (s : Shared) (elts : List PySem.Expr) (k : Nat) (pos : Pos) (Q : Value → Shared → Prop) (E₁ E₂ : Value → Shared → Prop), i < n → St i s.heap →
    (∀ T v0 v1 h' tk, P i v0 v1 → h'.IsTuple T #[v0, v1] → St (i + 1) h' → (∀ b o, b ∉ wr → s.heap.get? b = some o → h'.get? b = some o) → Q (.ref T) { s with heap := h', toks := tk }) →
    wpAny (model prog w) A (pyNext (.ref I)) (fun r s₁ => ∃ v, r = some v ∧ wpAny (model prog w) A (letOwnedTupleGo (.Tuple elts k pos) (.ref I) v) (fun _ s₂ => Q v s₂) E₁ s₁) E₂ s
  done : ∀ (s : Shared) (Q : Option Value → Shared → Prop) (E : Value → Shared → Prop), St n s.heap →
    (∀ h' tk, (∀ b o, b ∉ wr → s.heap.get? b = some o → h'.get? b = some o) → Q none { s with heap := h', toks := tk }) → wpAny (model prog w) A (pyNext (.ref I)) Q E s
theorem WP.ofT {prog : Program} {w : World} {A : Around} {I : Addr} {fp wr : List Addr} {n : Nat} {Pt : Nat → Array Value → Prop} {St : Nat → Heap → Prop} {Mid : Nat → Addr → Heap → Prop} {P : Nat → Value → Value → Prop}
    (W : WalksT prog w A I fp wr n Pt St Mid) (h2 : ∀ i vals, Pt i vals → ∃ v0 v1, vals = #[v0, v1] ∧ P i v0 v1) : WP prog w A I fp wr n P St where
  sub := W.sub
  frame := W.frame
  item := fun i s elts k pos Q E₁ E₂ hi st hQ => by
    refine W.item i s _ _ hi st fun T vals h' tk hPt _ hT hM hk => ?_
    obtain ⟨v0, v1, rfl, hP⟩ := h2 i vals hPt
    refine ⟨_, rfl, W.go elts k pos i T _ _ _ hM fun h₂ hst₂ hk₂ => ?_⟩
    exact hQ T v0 v1 h₂ tk hP (hT.at fun o e => hk₂ T o (W.apart i T h' hM) e) hst₂ fun b o hb e => hk₂ b o hb (hk b o hb e)
  done := W.done
/-- a tuple of tuples of two -/
noncomputable def Rows2 (h : Heap) (items : Array Value) (Ts : List Addr) (P : Nat → Value → Value → Prop) : Prop :=
  ∀ i, i < items.size → ∃ T v0 v1, items[i]? = some (.ref T) ∧ T ∈ Ts ∧ h.IsTuple T #[v0, v1] ∧ P i v0 v1
theorem WP.tuple {prog : Program} {w : World} {A : Around} (hh : A.handled = none) (I ax : Addr) (hne : ax ≠ I) (Ts : List Addr) (hIT : I ∉ Ts) (items : Array Value) {P : Nat → Value → Value → Prop} :
    WP prog w A I (I :: ax :: Ts) [I] items.size P (fun i h => (h.IsTupleIter I ax i ∧ h.IsTuple ax items) ∧ Rows2 h items Ts P) where
  sub := fun b hb => by simp at hb; simp [hb]
  frame := fun _ _ _ st hk => ⟨⟨st.1.1.at fun o e => hk I (by simp) o e, st.1.2.at fun o e => hk ax (by simp) o e⟩, fun i hi => by
    obtain ⟨T, v0, v1, h1, h2, h3, h4⟩ := st.2 i hi
    exact ⟨T, v0, v1, h1, h2, h3.at fun o e => hk T (by simp [h2]) o e, h4⟩⟩
  item := fun i s elts k pos Q E₁ E₂ hi st hQ => by
    obtain ⟨T, v0, v1, h1, h2, h3, h4⟩ := st.2 i hi
    refine wpAny_pyNext_tuple_item st.1.1 st.1.2 h1 fun h' hit' hs' => ?_
    have rows : Rows2 h' items Ts P := fun j hj => by
      obtain ⟨T, v0, v1, a1, a2, a3, a4⟩ := st.2 j hj
      exact ⟨T, v0, v1, a1, a2, a3.at fun o e => hs'.extBut T o (fun q => hIT (q ▸ a2)) e, a4⟩
    refine ⟨_, rfl, ?_⟩
    obtain ⟨oI, hoI, hcI, hdI⟩ := id hit'
    have hgo : wpAny (model prog w) A (letOwnedTupleGo (.Tuple elts k pos) (.ref I) (.ref T)) (fun _ s₂ => Q (.ref T) s₂) E₁ { s with heap := h' } := by
      unfold letOwnedTupleGo
      refine wpAny_bind (wpAny_load hoI ?_)
      obtain ⟨c, dd, dt, sl⟩ := oI
      replace hcI : c = .type "tuple_iterator" := hcI
      replace hdI : dt = .fields #[.ref ax, .int ((i + 1 : Nat) : Int) 0] := hdI
      subst hcI hdI
      refine wpAny_pure ?_
      exact hQ T v0 v1 h' s.toks h4 (h3.at fun o e => hs'.extBut T o (fun q => hIT (q ▸ h2)) e) ⟨⟨hit', st.1.2.extBut hs'.extBut hne⟩, rows⟩ fun b o hb e => hs'.extBut b o (fun q => hb (by simp [q])) e
    exact hgo
  done := fun s Q E st hQ => wpAny_pyNext_tuple_end hh st.1.1 st.1.2 (by simp) fun h' he' => hQ h' s.toks fun b o hb e => he' b o (fun q => hb (by simp [q])) e
section
variable {prog : Program} {w : World} {A : Around} {s : Shared} {env : Env} {h₀ : Heap}
/-- a for loop over pairs by an invariant -/
theorem floopT {R : Result → Shared → Prop} {xi xc : Str} {pk pv pt : Pos} {x1 : Nat} {body orelse : List Stmt} {I : Addr} {fp wr : List Addr} {n : Nat} {P : Nat → Value → Value → Prop} {St : Nat → Heap → Prop} {m : Str → Option Value}
    {news cs : List (Addr × Obj)} (hh : A.handled = none) (W : WP prog w A I fp wr n P St) (hxi : env.kindOf xi = some .local) (hxc : env.kindOf xc = some .local)
    (hp : (env.scope.kind == .class || (env.scope.kind == .module && env.locals != env.globals)) = false)
    (hLf : env.locals ∉ fp) (hwr : ∀ b ∈ wr, h₀.get? b = none) (hnf : ∀ p ∈ news, p.1 ∉ fp) (hcw : ∀ p ∈ cs, p.1 ∉ wr)
    (hst : St 0 s.heap) (F : Fr h₀ env.locals s.heap m) (N : News h₀ env.locals s.heap (news ++ cs))
    (J : Nat → (Str → Option Value) → List (Addr × Obj) → Prop) (h0 : J 0 m news)
    (turn : ∀ i v0 v1 m₁ news₁ h tk own, i < n → P i v0 v1 → news₁.map (·.1) = news.map (·.1) → OwnOff own (news.map (·.1)) → J i m₁ news₁ →
      Fr h₀ env.locals h (fun y => if y = xc then some v1 else if y = xi then some v0 else m₁ y) → News h₀ env.locals h (news₁ ++ (cs ++ own)) →
      wpAny (model prog w) A (execs body env) (fun f s₂ => match f with
        | .ret v => R (.ok (.ret v)) s₂
        | .brk => R (.ok .next) s₂
        | _ => InvEndN h₀ env.locals (J (i + 1)) (cs ++ own) (news.map (·.1)) { s with heap := h, toks := tk } s₂) (fun _ _ => False) { s with heap := h, toks := tk })
    (done : ∀ m₁ news₁ h tk, J n m₁ news₁ → Fr h₀ env.locals h m₁ → News h₀ env.locals h (news₁ ++ cs) →
      wpAny (model prog w) A (execs orelse env) (fun f s₃ => R (.ok f) s₃) (fun _ _ => False) { s with heap := h, toks := tk }) :
    codeAny (model prog w) A (.forLoop (.Tuple [.Name xi pk, .Name xc pv] x1 pt) (.ref I) body orelse env) R s := by
  have hLw : env.locals ∉ wr := fun h => hLf (W.sub _ h)
  have old : ∀ b o, h₀.get? b = some o → b ∉ wr := fun b o e hb => by rw [hwr b hb] at e; cases e
  have adr : ∀ {nx : List (Addr × Obj)}, nx.map (·.1) = news.map (·.1) → ∀ p ∈ nx, p.1 ∉ fp := fun {nx} e p hp hq => by
    have h1 : p.1 ∈ nx.map (·.1) := List.mem_map.mpr ⟨p, hp, rfl⟩
    rw [e] at h1
    obtain ⟨q, hq1, hq2⟩ := List.mem_map.mp h1
    exact hnf q hq1 (by rw [hq2]; exact hq)
  refine codeAny_forLoop_any
    (fun k s' => ∃ h' tk m' news' i, s' = { s with heap := h', toks := tk } ∧ St i h' ∧ Fr h₀ env.locals h' m' ∧ News h₀ env.locals h' (news' ++ cs) ∧ news'.map (·.1) = news.map (·.1) ∧ J i m' news' ∧ i ≤ n ∧ k = n + 1 - i) ?_ (n + 1)
    ⟨s.heap, s.toks, m, news, 0, rfl, hst, F, N, rfl, h0, Nat.zero_le _, rfl⟩
  rintro k s' ⟨h', tk, m', news', i, rfl, hst', F', N', hadr, hJ, hi, rfl⟩
  have off : ∀ p ∈ news' ++ cs, p.1 ∉ wr := fun p hp => (List.mem_append.mp hp).elim (fun h q => adr hadr p h (W.sub _ q)) (hcw p)
  have next : ∀ h₁ : Heap, (∀ b o, b ∉ wr → h'.get? b = some o → h₁.get? b = some o) → Fr h₀ env.locals h₁ m' ∧ News h₀ env.locals h₁ (news' ++ cs) := fun h₁ hk₁ =>
    ⟨⟨F'.ns.at' fun o e => hk₁ _ o hLw e, fun b o e => hk₁ b o (old b o e) (F'.keep b o e), F'.above⟩, fun p hp => ⟨hk₁ _ _ (off p hp) (N' p hp).1, (N' p hp).2⟩⟩
  by_cases hlt : i < n
  · refine wpAny_mono (W.item i _ [.Name xi pk, .Name xc pv] x1 pt (fun v s₂ => wpAny (model prog w) A (assign (.Tuple [.Name xi pk, .Name xc pv] x1 pt) env v) (fun _ s₂ => wpAny (model prog w) A (execs body env) (fun f s₃ => match f with
            | .next | .cont => ∃ m, m < n + 1 - i ∧ ∃ h' tk m' news' i, s₃ = { s with heap := h', toks := tk } ∧ St i h' ∧ Fr h₀ env.locals h' m' ∧ News h₀ env.locals h' (news' ++ cs) ∧ news'.map (·.1) = news.map (·.1) ∧ J i m' news' ∧ i ≤ n ∧ m = n + 1 - i
            | .brk => R (.ok .next) s₃
            | .ret v => R (.ok (.ret v)) s₃) (notedBy (model prog w) A env fun e s' => R (.error e) s') s₂) (notedBy (model prog w) A env fun e s' => R (.error e) s') s₂) (notedBy (model prog w) A env fun e s' => R (.error e) s') (fun _ _ => False) hlt hst' fun T v0 v1 h₂ tk₂ hP hT hst₂ hk₂ => ?_) (fun r s₁ hr => ?_) fun _ _ x => x.elim
    · refine wpAny_assign_Tuple hh hT rfl rfl fun h₃ hx₃ => ?_
      replace hx₃ : Heap.ExtBut h₂.objs.size h₂ h₃ := hx₃
      have up₃ : ∀ b o, h₂.get? b = some o → h₃.get? b = some o := fun b o x => hx₃ b o (Nat.ne_of_lt (Heap.lt_size x)) x
      obtain ⟨F₃, N₃⟩ := next h₃ fun b o hb x => up₃ b o (hk₂ b o hb x)
      show wpAny _ A (do holding [v1] (assign (.Name xi pk) env v0); do holding [] (assign (.Name xc pv) env v1); pure ()) _ _ _
      refine wpAny_bind (wpAny_holding (wpAny_assign_Name (wpAny_storeName_local hxi F₃.ns (fun h₄ hn₄ hs₄ => ?_) hp)))
      replace hs₄ : Heap.SameBut env.locals h₃ h₄ := hs₄
      have F₄ := F₃.set hn₄ hs₄
      refine wpAny_bind (wpAny_holding (wpAny_assign_Name (wpAny_storeName_local hxc F₄.ns (fun h₅ hn₅ hs₅ => wpAny_pure ?_) hp)))
      replace hs₅ : Heap.SameBut env.locals h₄ h₅ := hs₅
      have F₅ := F₄.set hn₅ hs₅
      have N₅ := (N₃.set hs₄).set hs₅
      have hst₅ : St (i + 1) h₅ := W.frame _ _ _ hst₂ fun b hb o e => hs₅.extBut b o (fun q => hLf (q ▸ hb)) (hs₄.extBut b o (fun q => hLf (q ▸ hb)) (up₃ b o e))
      have Nown : News h₀ env.locals h₅ (ownOf h₀ fp h₅) := news_ownOf hLf
      have hsep : OwnOff (ownOf h₀ fp h₅) (news.map (·.1)) := by
        intro p hp b hb e
        obtain ⟨q, hq, rfl⟩ := List.mem_map.mp hb
        exact hnf q hq (e ▸ ownOf_sub p hp)
      have N₆ : News h₀ env.locals h₅ (news' ++ (cs ++ ownOf h₀ fp h₅)) := fun p hp => by
        rcases List.mem_append.mp hp with h | h
        · exact N₅ p (List.mem_append_left _ h)
        · rcases List.mem_append.mp h with h | h
          · exact N₅ p (List.mem_append_right _ h)
          · exact Nown p h
      refine wpAny_mono (turn i v0 v1 m' news' h₅ _ (ownOf h₀ fp h₅) hlt hP hadr hsep hJ F₅ N₆) (fun f s₃ h₃ => ?_) fun _ _ e => e.elim
      have fin : InvEndN h₀ env.locals (J (i + 1)) (cs ++ ownOf h₀ fp h₅) (news.map (·.1)) { s with heap := h₅, toks := tk₂ + 1 + 1 } s₃ → ∃ m, m < n + 1 - i ∧ ∃ h' tk m' news' i, s₃ = { s with heap := h', toks := tk } ∧ St i h' ∧ Fr h₀ env.locals h' m' ∧ News h₀ env.locals h' (news' ++ cs) ∧ news'.map (·.1) = news.map (·.1) ∧ J i m' news' ∧ i ≤ n ∧ m = n + 1 - i := by
        rintro ⟨h₃', tk₃, m₂, news₂, nx, rfl, F₆, N₇, hn, ho, ha, hJ₃⟩
        refine ⟨n + 1 - (i + 1), fewer hlt, h₃', tk₃, m₂, nx, i + 1, rfl, ?_, F₆, fun p hp => N₇ p ((List.mem_append.mp hp).elim (hn p) fun h => ho p (List.mem_append_left _ h)), ha, hJ₃, hlt, rfl⟩
        refine W.frame _ _ _ hst₅ fun b hb o e => ?_
        cases hn : h₀.get? b with
        | some o₀ =>
          have : o₀ = o := by have := F₅.keep b o₀ hn; rw [e] at this; exact (Option.some.inj this).symm
          exact this ▸ F₆.keep b o₀ hn
        | none => exact (N₇ _ (ho _ (List.mem_append_right _ (mem_ownOf hb hn e)))).1
      cases f with
      | ret v => exact h₃
      | brk => exact h₃
      | next => exact fin h₃
      | cont => exact fin h₃
    · obtain ⟨v, rfl, hv⟩ := hr
      exact hv
  · have hin : i = n := by omega
    subst hin
    refine W.done _ _ _ hst' fun h₁ tk₁ hk₁ => ?_
    obtain ⟨F₁, N₁⟩ := next h₁ hk₁
    exact wpAny_mono (done m' news' h₁ tk₁ hJ F₁ N₁) (fun _ _ x => x) fun _ _ x => x.elim
theorem tupFor {R : Result → Shared → Prop} {E : Value → Shared → Prop} {xi xc : Str} {pk pv pt : Pos} {x1 : Nat} {body orelse : List Stmt} {ax : Addr} {items : Array Value} {Ts : List Addr} {P : Nat → Value → Value → Prop} {m : Str → Option Value}
    {news cs : List (Addr × Obj)} (J : Nat → (Str → Option Value) → List (Addr × Obj) → Prop) (hh : A.handled = none) (ht : h₀.IsTuple ax items) (hT : Rows2 h₀ items Ts P) (hTs : ∀ T ∈ Ts, ∃ o, h₀.get? T = some o)
    (hxi : env.kindOf xi = some .local) (hxc : env.kindOf xc = some .local)
    (hp : (env.scope.kind == .class || (env.scope.kind == .module && env.locals != env.globals)) = false)
    (F : Fr h₀ env.locals s.heap m) (N : News h₀ env.locals s.heap (news ++ cs)) (h0 : J 0 m news)
    (turn : ∀ i v0 v1 m₁ news₁ h tk own, i < items.size → P i v0 v1 → news₁.map (·.1) = news.map (·.1) → OwnOff own (news.map (·.1)) → J i m₁ news₁ →
      Fr h₀ env.locals h (fun y => if y = xc then some v1 else if y = xi then some v0 else m₁ y) → News h₀ env.locals h (news₁ ++ (cs ++ own)) →
      wpAny (model prog w) A (execs body env) (fun f s₂ => match f with
        | .ret v => R (.ok (.ret v)) s₂
        | .brk => R (.ok .next) s₂
        | _ => InvEndN h₀ env.locals (J (i + 1)) (cs ++ own) (news.map (·.1)) { s with heap := h, toks := tk } s₂) (fun _ _ => False) { s with heap := h, toks := tk })
    (done : ∀ m₁ news₁ h tk, J items.size m₁ news₁ → Fr h₀ env.locals h m₁ → News h₀ env.locals h (news₁ ++ cs) →
      wpAny (model prog w) A (execs orelse env) (fun f s₃ => R (.ok f) s₃) (fun _ _ => False) { s with heap := h, toks := tk }) :
    wpAny (model prog w) A (pyIter (.ref ax)) (fun it s₂ => codeAny (model prog w) A (.forLoop (.Tuple [.Name xi pk, .Name xc pv] x1 pt) it body orelse env) R s₂) E s := by
  have hts : s.heap.IsTuple ax items := ht.at fun o e => F.keep ax o e
  obtain ⟨oa, hoa, _⟩ := id ht
  have below : ∀ b o, h₀.get? b = some o → b < env.locals := fun b o e => Nat.lt_of_lt_of_le (Heap.lt_size e) F.above
  have hLs : env.locals < s.heap.objs.size := F.ns.lt
  refine wpAny_pyIter_tuple hts ?_
  have hIT : s.heap.objs.size ∉ Ts := fun hm => by
    obtain ⟨o, ho⟩ := hTs _ hm
    exact absurd (Nat.lt_trans (below _ _ ho) hLs) (Nat.lt_irrefl _)
  have W := WP.tuple (prog := prog) (w := w) hh s.heap.objs.size ax (Nat.ne_of_lt (Nat.lt_trans (below _ _ hoa) hLs)) Ts hIT items (P := P)
  refine floopT (s := { s with heap := s.heap.push _ }) (news := news) (cs := cs) hh W hxi hxc hp ?_ ?_ ?_ ?_ ⟨⟨⟨_, Heap.get?_push_size _ rfl, rfl, rfl⟩, hts.push _⟩, fun i hi => ?_⟩ (F.push _) (fun p hp => ⟨Heap.get?_push_of_some _ (N p hp).1, (N p hp).2⟩) J h0 turn done
  · intro hm
    rcases List.mem_cons.mp hm with e | hm
    · exact absurd hLs (e ▸ Nat.lt_irrefl _)
    · rcases List.mem_cons.mp hm with e | hm
      · exact absurd (below _ _ hoa) (e ▸ Nat.lt_irrefl _)
      · obtain ⟨o, ho⟩ := hTs _ hm
        exact absurd (below _ _ ho) (Nat.lt_irrefl _)
  · intro b hb
    rw [List.mem_singleton.mp hb]
    exact next_is_new F
  · intro p hp hI
    have hN := N p (List.mem_append_left _ hp)
    rcases List.mem_cons.mp hI with e | hI
    · exact absurd (Heap.lt_size hN.1) (e ▸ Nat.lt_irrefl _)
    · rcases List.mem_cons.mp hI with e | hI
      · have := hN.2.2; rw [e, hoa] at this; cases this
      · obtain ⟨o, ho⟩ := hTs _ hI
        have := hN.2.2; rw [ho] at this; cases this
  · intro p hp hI
    exact absurd (Heap.lt_size (N p (List.mem_append_right _ hp)).1) ((List.mem_singleton.mp hI) ▸ Nat.lt_irrefl _)
  · obtain ⟨T, v0, v1, a1, a2, a3, a4⟩ := hT i hi
    exact ⟨T, v0, v1, a1, a2, a3.at fun o e => Heap.get?_push_of_some _ (F.keep T o e), a4⟩
theorem enumFor {R : Result → Shared → Prop} {E : Value → Shared → Prop} {xi xc : Str} {pk pv pt : Pos} {x1 : Nat} {body orelse : List Stmt} {ax : Addr} {items : Array Value} {m : Str → Option Value}
    {news cs : List (Addr × Obj)} (J : Nat → (Str → Option Value) → List (Addr × Obj) → Prop) (hh : A.handled = none) (ht : h₀.IsTuple ax items)
    (hxi : env.kindOf xi = some .local) (hxc : env.kindOf xc = some .local)
    (hp : (env.scope.kind == .class || (env.scope.kind == .module && env.locals != env.globals)) = false)
    (F : Fr h₀ env.locals s.heap m) (N : News h₀ env.locals s.heap (news ++ cs)) (h0 : J 0 m news)
    (turn : ∀ (i : Nat) t v1 m₁ news₁ h tk own, i < items.size → items[i]? = some v1 → news₁.map (·.1) = news.map (·.1) → OwnOff own (news.map (·.1)) → J i m₁ news₁ →
      Fr h₀ env.locals h (fun y => if y = xc then some v1 else if y = xi then some (.int (i : Int) t) else m₁ y) → News h₀ env.locals h (news₁ ++ (cs ++ own)) →
      wpAny (model prog w) A (execs body env) (fun f s₂ => match f with
        | .ret v => R (.ok (.ret v)) s₂
        | .brk => R (.ok .next) s₂
        | _ => InvEndN h₀ env.locals (J (i + 1)) (cs ++ own) (news.map (·.1)) { s with heap := h, toks := tk } s₂) (fun _ _ => False) { s with heap := h, toks := tk })
    (done : ∀ m₁ news₁ h tk, J items.size m₁ news₁ → Fr h₀ env.locals h m₁ → News h₀ env.locals h (news₁ ++ cs) →
      wpAny (model prog w) A (execs orelse env) (fun f s₃ => R (.ok f) s₃) (fun _ _ => False) { s with heap := h, toks := tk }) :
    wpAny (model prog w) A (call (.type "enumerate") [.ref ax]) (fun xv s₁ => wpAny (model prog w) A (pyIter xv) (fun it s₂ => codeAny (model prog w) A (.forLoop (.Tuple [.Name xi pk, .Name xc pv] x1 pt) it body orelse env) R s₂) E s₁) E s := by
  have hts : s.heap.IsTuple ax items := ht.at fun o e => F.keep ax o e
  obtain ⟨oa, hoa, _⟩ := id ht
  have hLs : env.locals < s.heap.objs.size := F.ns.lt
  have hab : h₀.objs.size ≤ env.locals := F.above
  have hax : ax < env.locals := Nat.lt_of_lt_of_le (Heap.lt_size hoa) hab
  refine call_enumerate_tuple hts fun h' he hit hsz hk => ?_
  have F' : Fr h₀ env.locals h' m := fr_grow F hk
  have N' := news_grow N hk
  refine wpAny_pyIter_enum he ?_
  have D := draws_tuple (prog := prog) (w := w) (A := A.in1) hh s.heap.objs.size ax (Nat.ne_of_lt (Nat.lt_trans hax hLs)) items
  have W := WP.ofT (P := fun i v0 v1 => ∃ t, v0 = .int (i : Int) t ∧ items[i]? = some v1) (WalksT.enumerateD D (s.heap.objs.size + 1) (Nat.succ_ne_self _) (by
    intro hm
    rcases List.mem_cons.mp hm with e | hm
    · exact Nat.succ_ne_self _ e
    · exact Nat.ne_of_gt (Nat.lt_succ_of_lt (Nat.lt_trans hax hLs)) (List.mem_singleton.mp hm)) (by simp)) (by
    rintro i vals ⟨t, x, hx, rfl⟩
    exact ⟨_, _, rfl, t, rfl, hx⟩)
  refine floopT (s := { s with heap := h' }) (news := news) (cs := cs) hh W hxi hxc hp ?_ ?_ ?_ ?_ ⟨⟨_, by simpa using he⟩, hit, hts.at fun o e => hk ax o e⟩ F' N' J h0 ?_ done
  · intro hm
    rcases List.mem_cons.mp hm with e | hm
    · exact Nat.ne_of_lt (Nat.lt_succ_of_lt hLs) e
    · rcases List.mem_cons.mp hm with e | hm
      · exact Nat.ne_of_lt hLs e
      · exact Nat.ne_of_gt hax (List.mem_singleton.mp hm)
  · intro b hb
    rcases List.mem_cons.mp hb with rfl | hb
    · exact Heap.get?_none_of_le (Nat.le_trans hab (Nat.le_of_lt (Nat.lt_succ_of_lt hLs)))
    · rw [List.mem_singleton.mp hb]; exact Heap.get?_none_of_le (Nat.le_trans hab (Nat.le_of_lt hLs))
  · intro p hp hI
    have hN := N p (List.mem_append_left _ hp)
    have hq1 : p.1 < s.heap.objs.size := Heap.lt_size hN.1
    rcases List.mem_cons.mp hI with e | hI
    · exact Nat.ne_of_lt (Nat.lt_succ_of_lt hq1) e
    · rcases List.mem_cons.mp hI with e | hI
      · exact Nat.ne_of_lt hq1 e
      · have := hN.2.2; rw [List.mem_singleton.mp hI, hoa] at this; cases this
  · intro p hp hI
    have hq1 : p.1 < s.heap.objs.size := Heap.lt_size (N p (List.mem_append_right _ hp)).1
    rcases List.mem_cons.mp hI with e | hI
    · exact Nat.ne_of_lt (Nat.lt_succ_of_lt hq1) e
    · exact Nat.ne_of_lt hq1 (List.mem_singleton.mp hI)
  · rintro i v0 v1 m₁ news₁ h tk own hi ⟨t, rfl, hv⟩ ha ho hJ F2 N2
    exact turn i t v1 m₁ news₁ h tk own hi hv ha ho hJ F2 N2
end
end Mine
end
noncomputable section
open PySem PySem.W PyProof.Rows PySem.Calls PySem.Spec
set_option maxRecDepth 100000
namespace Mine
section
variable {prog : Program} {w : World} {A : Around} {E : Value → Shared → Prop} {s : Shared} {K : Frag}
/-- a call of a def whose names a block reads: they stand in cells -/
theorem enterC {p : Program} {loose : List Str} {mean : ExcName → Option Value} {mg mb : Str → Option Value}
    {Q : Value → Shared → Prop} {name qual : Str} {params : Arguments} {body : List Stmt} {scope : Scope} {dV kV doc pm cdv ct oc : Value} {an od : Option Addr} {osl : Array (Option Value)} {f : Addr} {args : List Value} {kw : List (Str × Value)} {binds : List (Str × Value)}
    (X : K.In s.heap) (T : Top p loose mean mg mb s.heap)
    (ho : K.lookup f = some ⟨oc, od, .func (fnOf name qual params body scope dV kV doc pm an cdv ct), osl⟩) (hcd : codeIn K cdv qual = true) (hroom : A.depth < recursionLimit)
    (hbind : BindsTo s (fnOf name qual params body scope dV kV doc pm an cdv ct) ⟨args, kw⟩ binds) (hkind : (binds.all fun y => scope.names.lookup y.1 == some .local || scope.names.lookup y.1 == some .cell) = true)
    (hnd : ((cellsFrom 0 scope.names []).map (·.1)).Nodup)
    (h : ∀ L h₁ tk cells, Fr s.heap L h₁ (bindL (envOfC qual scope L f cdv).kindOf binds fun _ => none) → News s.heap L h₁ cells →
      CellsAre (bindC (envOfC qual scope L f cdv).kindOf binds fun _ => none) (cellsFrom (L + 1) scope.names []) cells →
      wpAny (model prog w) (A.deeper (envOfC qual scope L f cdv)) (execs body (envOfC qual scope L f cdv))
        (fun fl s' => Q (match fl with | .ret v => v | _ => .none) s') (fun _ _ => False) { s with heap := h₁, toks := tk })
    (hco : scope.isCoroutine = false) (hgen : scope.isGenerator = false) (hk : scope.kind = .function) : wpAny (model prog w) A (call (.ref f) args kw) Q E s := by
  refine wpAny_call (codeAny_call_function hroom (X _ _ ho) rfl hco hgen rfl (codeRec_of X hcd) (hbind _ _ _ _ ?_))
  refine wpAny_newFunctionEnv_cells hk (kindsX hkind _) fun env' he s' x => ?_
  subst he
  refine ⟨T.nolimit.keeps x.toInCall.keep, codeAny_func ?_⟩
  obtain ⟨h₁, tk, rfl, _⟩ := x.done
  obtain ⟨cells, NC, Y⟩ := Cl.news (h₀ := s.heap) (Nat.le_refl _) fun n c hm => ⟨x.cell n c (lookup_of_mem_nodup (cellsFrom_names scope.names 0 (s.heap.objs.size + 1) [] [] rfl ▸ hnd) hm), x.above n c hm⟩
  exact wpAny_mono (h s.heap.objs.size h₁ tk cells ⟨x.toInCall.ns, x.toInCall.keep, Nat.le_refl _⟩ NC Y) (fun fl s' hl => hl) fun _ _ y => y.elim
end
end Mine
end
noncomputable section
open PySem PySem.W PyProof.Rows PySem.Calls PySem.Spec
set_option maxRecDepth 100000
namespace Mine
section
variable {prog : Program} {w : World} {A : Around} {E : Value → Shared → Prop} {s : Shared} {h₀ : Heap} {L : Addr} {m : Str → Option Value} {news : List (Addr × Obj)} {g : Obj → List (Addr × Obj)}
theorem inplace_seq {M : Model} {a b : Value} {T id : String} {Q : Value → Shared → Prop} (ha : s.TypeIs a T) (hb : s.TypeIs b T)
    (hlk : typeLookup (.type T) (dunderI "add") = pure (some (.builtin id))) (hsq : isSeqSlotId id = true) (hfill : fillsNumberSlot (.type T) "add" = pure false) (hseq : seqSlot? (.type T) (dunderI "add") = pure (some (.builtin id)))
    (hc : wpAny M A (call (.builtin id) [a, b]) Q E s) : wpAny M A (inplaceOp .Add a b) Q E s := by
  unfold inplaceOp
  refine wpAny_holding ?_
  have hfi : fillsInplaceSlot (.type T) "add" (Operator.Add == .Add) = pure false := by
    unfold fillsInplaceSlot
    show (typeLookup (.type T) (dunderI "add") >>= fun fi => pure (fi.isSome && !isSeqSlot fi)) = pure false
    rw [hlk]
    show (pure (true && !isSeqSlotId id) : Sem Bool) = pure false
    rw [hsq]; rfl
  refine wpAny_bind (wpAny_typeOf ha (wpAny_bind (wpAny_of_eq hfi ?_)))
  show wpAny M A (if false = true then _ else _) Q E s
  rw [if_neg Bool.false_ne_true]
  refine wpAny_bind (binaryOp1_none (nm := "add") ha hb hfill ?_)
  refine wpAny_bind (wpAny_of_eq hseq ?_)
  exact wpAny_bind (wpAny_rule hc)
theorem iadd_lists {l b : Addr} {a c : Array Value} {k : Nat} {Q : Value → Shared → Prop} (F : Fr h₀ L s.heap m) (N : News h₀ L s.heap news) (U : UpdF l (W.listOf a k) news g) {k2 : Nat} (hb : (b, W.listOf c k2) ∈ news)
    (hsz : a.size + c.size ≤ 1000) (h : ∀ h' k', Fr h₀ L h' m → News h₀ L h' (g (W.listOf (a ++ c) k')) → Q (.ref l) { s with heap := h' }) :
    wpAny (model prog w) A (inplaceOp .Add (.ref l) (.ref b)) Q E s := by
  obtain ⟨own, rest, rfl, hg, h1, h2⟩ := U.split
  have hm := N (l, W.listOf a k) (List.mem_append_right _ (.head _))
  have hc := N _ hb
  have hz : a.size + c.size ≤ sizeLine := by rw [sizeLine_eq]; omega
  refine inplace_seq (T := "list") (id := "list.__iadd__") ⟨_, hm.1, rfl⟩ ⟨_, hc.1, rfl⟩ PySem.F.slot_list_iadd.lookup (by decide +kernel) noFill_list_add (PySem.seqSlot_of PySem.F.slot_list_iadd.lookup (by decide +kernel)) ?_
  refine call_meets PySem.F.slot_list_iadd ⟨_, hm.1, rfl⟩ PySem.F.entry_list_iadd (PySem.F.args_list_iadd_2 _ _) (AutoSeq1.list___iadd___list_list_0 l a k b c k2 ?_ (by omega) (by omega)) ⟨hm.1, hc.1, ?_⟩
  · have : Builtin.List.listTooLong (a.size + c.size) = false := by unfold Builtin.List.listTooLong; simp; omega
    rw [this]; simp
  · have hs := Heap.SameBut.update s.heap l (Obj.mapSeq fun x => x ++ c)
    have ho := Heap.get?_update_self (Obj.mapSeq fun x => x ++ c) hm.1 rfl
    refine h _ _ ⟨F.ns.sameBut hs (Ne.symm hm.2.1), fun b ob e => (hs.2 b (fun q => ?_)).trans (F.keep b ob e), F.above⟩ (hg _ ▸ N.setAt h1 h2 hs (ho.trans (by rfl)))
    rw [q, hm.2.2] at e; cases e
end
section
open LCg LCt
variable {prog : Program} {w : World} {A : Around} {s : Shared} {h₀ : Heap} {L : Addr} {m : Str → Option Value} {env : Env} {news : List (Addr × Obj)} {ct elt : PySem.Expr} {x : Str} {scope : Scope} {cl : List (Str × Addr)} {S : List (Addr × Obj) → Prop} {P : Nat → Value → Prop}
/-- an element's end: nothing that stood has changed -/
noncomputable def EltEnd (h₀ : Heap) (L : Addr) (m : Str → Option Value) (s : Shared) (nx : List (Addr × Obj)) (J : Value → Prop) (y : Value) (s' : Shared) : Prop :=
  ∃ h' tk', s' = { s with heap := h', toks := tk' } ∧ Fr h₀ L h' m ∧ News h₀ L h' nx ∧ J y
theorem comp_inv {Fin : List Value → List (Addr × Obj) → Prop} (J : Nat → List Value → Prop) (hS : S news) {n : Nat}
    (turn : ∀ i v ys I oI C oC D m₂ h tk (E' : Value → Shared → Prop), i < n → P i v → J i ys → NsObj oC m₂ → m₂ x = some v → Fr h₀ L h m → News h₀ L h ((I, oI) :: (C, oC) :: (D, lst ys) :: news) →
      wpAny (model prog w) A (eval elt (compEnvC scope cl C env)) (EltEnd h₀ L m s ((I, oI) :: (C, oC) :: (D, lst ys) :: news) fun y => J (i + 1) (ys ++ [y])) E' { s with heap := h, toks := tk })
    (fin : ∀ ys, J n ys → Fin ys news) (h0 : J 0 []) : CompRest prog w A h₀ L m env elt x scope cl s S P Fin n 0 [] news := by
  suffices H : ∀ k i ys, i + k = n → J i ys → CompRest prog w A h₀ L m env elt x scope cl s S P Fin k i ys news from H n 0 [] (by omega) h0
  intro k
  induction k with
  | zero => intro i ys hi hj; obtain rfl : i = n := by omega
            exact CompRest.zero (fin ys hj)
  | succ k ih =>
    intro i ys hi hj
    refine CompRest.succ fun v I oI C oC D m₂ h tk E' hP hC hx F N off _ => ?_
    refine wpAny_mono (turn i v ys I oI C oC D m₂ h tk E' (by omega) hP hj hC hx F N) (fun y s' hy => ?_) fun _ _ e => e
    obtain ⟨h', tk', rfl, F', N', hy⟩ := hy
    exact ⟨h', tk', news, rfl, F', N', off, hS, ih (i + 1) _ (by omega) hy⟩
theorem comp_invT {Fin : List Value → List (Addr × Obj) → Prop} (J : Nat → List Value → Prop) (hS : S news) {n : Nat}
    (turn : ∀ i v ys I oI C oC D m₂ h tk (E' : Value → Shared → Prop), i < n → P i v → J i ys → NsObj oC m₂ → m₂ x = some v → Fr h₀ L h m → News h₀ L h ((I, oI) :: (C, oC) :: (D, lst ys) :: news) →
      wpAny (model prog w) A (isTrue ct (compEnvC scope cl C env) (eval ct (compEnvC scope cl C env))) (fun ok s' => if ok = true then
        wpAny (model prog w) A (eval elt (compEnvC scope cl C env)) (EltEnd h₀ L m s ((I, oI) :: (C, oC) :: (D, lst ys) :: news) fun y => J (i + 1) (ys ++ [y])) E' s'
        else EltEnd h₀ L m s ((I, oI) :: (C, oC) :: (D, lst ys) :: news) (fun _ => J (i + 1) ys) Value.none s') E' { s with heap := h, toks := tk })
    (fin : ∀ ys, J n ys → Fin ys news) (h0 : J 0 []) : CompRestT prog w A h₀ L m env ct elt x scope cl s S P Fin n 0 [] news := by
  suffices H : ∀ k i ys, i + k = n → J i ys → CompRestT prog w A h₀ L m env ct elt x scope cl s S P Fin k i ys news from H n 0 [] (by omega) h0
  intro k
  induction k with
  | zero => intro i ys hi hj; obtain rfl : i = n := by omega
            exact CompRestT.zero (fin ys hj)
  | succ k ih =>
    intro i ys hi hj
    refine CompRestT.succ fun v I oI C oC D m₂ h tk E' hP hC hx F N off _ => ?_
    refine wpAny_mono (turn i v ys I oI C oC D m₂ h tk E' (by omega) hP hj hC hx F N) (fun ok s' hy => ?_) fun _ _ e => e
    split at hy
    · rename_i hok
      rw [if_pos hok]
      refine wpAny_mono hy (fun y s' hy => ?_) fun _ _ e => e
      obtain ⟨h', tk', rfl, F', N', hy⟩ := hy
      exact ⟨h', tk', news, rfl, F', N', off, hS, ih (i + 1) _ (by omega) hy⟩
    · rename_i hok
      rw [if_neg hok]
      obtain ⟨h', tk', rfl, F', N', hy⟩ := hy
      exact ⟨h', tk', news, rfl, F', N', off, hS, ih (i + 1) _ (by omega) hy⟩
end
end Mine
end
noncomputable section
open PySem PySem.W PyProof.Rows PySem.Calls PySem.Spec
set_option maxRecDepth 100000
namespace Mine
section
variable {prog : Program} {w : World} {A : Around} {s : Shared} {env : Env} {h₀ : Heap}
/-- over bytes -/
theorem bytesFor {R : Result → Shared → Prop} {E : Value → Shared → Prop} {x : Str} {px : Pos} {body orelse : List Stmt} {b : Array UInt8} {tb : Tok} {m : Str → Option Value}
    {news cs : List (Addr × Obj)} (J : Nat → (Str → Option Value) → List (Addr × Obj) → Prop) (hh : A.handled = none) (hx : env.kindOf x = some .local)
    (hp : (env.scope.kind == .class || (env.scope.kind == .module && env.locals != env.globals)) = false)
    (F : Fr h₀ env.locals s.heap m) (N : News h₀ env.locals s.heap (news ++ cs)) (h0 : J 0 m news)
    (turn : ∀ (i : Nat) c t m₁ news₁ h tk own, i < b.size → b[i]? = some c → news₁.map (·.1) = news.map (·.1) → OwnOff own (news.map (·.1)) → J i m₁ news₁ →
      Fr h₀ env.locals h (fun y => if y = x then some (.int (c.toNat : Int) t) else m₁ y) → News h₀ env.locals h (news₁ ++ (cs ++ own)) →
      wpAny (model prog w) A (execs body env) (fun f s₂ => match f with
        | .ret v => R (.ok (.ret v)) s₂
        | .brk => R (.ok .next) s₂
        | _ => InvEndN h₀ env.locals (J (i + 1)) (cs ++ own) (news.map (·.1)) { s with heap := h, toks := tk } s₂) (fun _ _ => False) { s with heap := h, toks := tk })
    (done : ∀ m₁ news₁ h tk, J b.size m₁ news₁ → Fr h₀ env.locals h m₁ → News h₀ env.locals h (news₁ ++ cs) →
      wpAny (model prog w) A (execs orelse env) (fun f s₃ => R (.ok f) s₃) (fun _ _ => False) { s with heap := h, toks := tk }) :
    wpAny (model prog w) A (pyIter (.bytes b tb)) (fun it s₂ => codeAny (model prog w) A (.forLoop (.Name x px) it body orelse env) R s₂) E s := by
  refine W.KBw.pyIter_bytes ?_
  have W := W.KBw.walks (prog := prog) (w := w) hh s.heap.objs.size b tb
  refine floopN (s := { s with heap := s.heap.push _ }) (news := news) (cs := cs) W hx hp ?_ ?_ ?_ ?_ ⟨_, Heap.get?_push_size _ rfl, rfl, rfl⟩ (F.push _) (fun p hp => ⟨Heap.get?_push_of_some _ (N p hp).1, (N p hp).2⟩) J h0 ?_ ?_
  · intro hm
    exact absurd F.ns.lt ((List.mem_singleton.mp hm) ▸ Nat.lt_irrefl _)
  · intro b hb
    rw [List.mem_singleton.mp hb]
    exact next_is_new F
  · intro p hp hI
    exact absurd (Heap.lt_size (N p (List.mem_append_left _ hp)).1) ((List.mem_singleton.mp hI) ▸ Nat.lt_irrefl _)
  · intro p hp hI
    exact absurd (Heap.lt_size (N p (List.mem_append_right _ hp)).1) ((List.mem_singleton.mp hI) ▸ Nat.lt_irrefl _)
  · rintro i v m₁ news₁ h tk own hi ⟨c, t, hc, rfl⟩ ha ho hJ F' N'
    exact turn i c t m₁ news₁ h tk own hi hc ha ho hJ F' N'
  · exact done
end
end Mine
end
noncomputable section
open PySem PySem.W PyProof.Rows
namespace Mine
theorem div_step (n i : Nat) : n / 2 ^ i = 2 * (n / 2 ^ (i + 1)) + n / 2 ^ i % 2 := by
  rw [Nat.pow_succ, ← Nat.div_div_eq_div_mul]; exact (Nat.div_add_mod _ 2).symm
theorem tb (n i : Nat) : n.testBit i = decide (n / 2 ^ i % 2 = 1) := Nat.testBit_eq_decide_div_mod_eq
theorem flag_and (q i : Nat) : Builtin.bitAnd ((q * 2 ^ i : Nat) : Int) (2 ^ i) = ((q % 2 * 2 ^ i : Nat) : Int) := by
  rw [kbt_bit]
  have h : ((q * 2 ^ i : Nat) : Int) / 2 ^ i = (q : Int) := by
    push_cast
    exact Int.mul_ediv_cancel _ (Int.ne_of_gt (kbt_pos i))
  rw [h]; push_cast; rfl
theorem two_off (a b : Int) : (a + b) + b - 2 * (1 * b) = a := by
  rw [Int.one_mul, Int.two_mul, Int.add_assoc, Int.add_sub_cancel]
theorem flag_xor {q i : Nat} (h : q % 2 = 1) : Builtin.bitXor ((q * 2 ^ i : Nat) : Int) (2 ^ i) = (((q - 1) * 2 ^ i : Nat) : Int) := by
  rw [bitXor_and, flag_and, h]
  cases q with
  | zero => cases h
  | succ r =>
    rw [Nat.add_sub_cancel, Nat.add_mul]
    push_cast
    rw [Int.one_mul]
    have := two_off ((r : Int) * 2 ^ i) (2 ^ i)
    rwa [Int.one_mul] at this
end Mine
namespace Mine
theorem and63 {x : Int} (h0 : 0 ≤ x) (h : x < 64) : Builtin.bitAnd x 63 = x := by rw [bitAnd_m6]; exact Int.emod_eq_of_lt h0 h
theorem and63a {a : Nat} (h : a < 64) : Builtin.bitAnd ((a : Int) + 64) 63 = (a : Int) := by rw [bitAnd_m6]; revert a; decide +kernel
theorem and64a {a : Nat} (h : a < 64) : Builtin.bitAnd ((a : Int) + 64) 64 = 64 := by
  have := kbt_bit ((a : Int) + 64) 6
  rw [show (2 : Int) ^ 6 = 64 by decide] at this
  rw [this]; revert a; decide +kernel
theorem and63b {b : Nat} (h : b < 64) : Builtin.bitAnd (b : Int) 63 = (b : Int) := by rw [bitAnd_m6]; revert b; decide +kernel
theorem and64b {b : Nat} (h : b < 64) : Builtin.bitAnd (b : Int) 64 = 0 := by
  have := kbt_bit (b : Int) 6
  rw [show (2 : Int) ^ 6 = 64 by decide] at this
  rw [this]; revert b; decide +kernel
theorem or6 {a b : Nat} (hb : b < 64) : Builtin.bitOr ((a : Int) * 2 ^ (6 : Int).toNat) (b : Int) = ((a * 64 + b : Nat) : Int) := by
  rw [bitOr_and, show (2 : Int) ^ (6 : Int).toNat = 64 by decide]
  have h : Builtin.bitAnd ((a : Int) * 64) (b : Int) = 0 := by
    have e1 : ((a : Int) * 64) = ((a * 2 ^ 6 : Nat) : Int) := by push_cast; rfl
    rw [e1, bitAnd_pp (Int.natCast_nonneg _) (Int.natCast_nonneg _), Int.toNat_natCast, Int.toNat_natCast]
    have : a * 2 ^ 6 &&& b = 0 := by
      apply Nat.eq_of_testBit_eq
      intro i
      rw [Nat.testBit_and, Nat.zero_testBit, Nat.testBit_mul_two_pow]
      by_cases hi : 6 ≤ i
      · rw [Nat.testBit_lt_two_pow (Nat.lt_of_lt_of_le hb (Nat.pow_le_pow_right (by decide) hi : 2 ^ 6 ≤ 2 ^ i))]; simp
      · simp [hi]
    rw [this]; rfl
  rw [h, Int.sub_zero]; rfl
end Mine
namespace Mine
theorem xor_and_sum (a b : Nat) : (a ^^^ b) + (a &&& b) = (a ||| b) := by
  have h := nat_or_add_and (a ^^^ b) (a &&& b)
  have h1 : ((a ^^^ b) ||| (a &&& b)) = (a ||| b) := by
    apply Nat.eq_of_testBit_eq
    intro i
    rw [Nat.testBit_or, Nat.testBit_or, Nat.testBit_xor, Nat.testBit_and]
    cases a.testBit i <;> cases b.testBit i <;> rfl
  have h2 : ((a ^^^ b) &&& (a &&& b)) = 0 := by
    apply Nat.eq_of_testBit_eq
    intro i
    rw [Nat.testBit_and, Nat.testBit_xor, Nat.testBit_and, Nat.zero_testBit]
    cases a.testBit i <;> cases b.testBit i <;> rfl
  rw [h1, h2] at h
  exact h.symm
theorem xor_add_and (a b : Nat) : (a ^^^ b) + 2 * (a &&& b) = a + b := by
  rw [Nat.two_mul, ← Nat.add_assoc, xor_and_sum]; exact nat_or_add_and a b
theorem bitAnd_nat (a b : Nat) : Builtin.bitAnd (a : Int) (b : Int) = ((a &&& b : Nat) : Int) := by
  rw [bitAnd_pp (Int.natCast_nonneg _) (Int.natCast_nonneg _), Int.toNat_natCast, Int.toNat_natCast]
theorem bitXor_nat (a b : Nat) : Builtin.bitXor (a : Int) (b : Int) = ((a ^^^ b : Nat) : Int) := by
  rw [bitXor_and, bitAnd_nat]
  exact Int.sub_eq_iff_eq_add.mpr (congrArg Int.ofNat (xor_add_and a b)).symm
theorem bitOr_nat (a b : Nat) : Builtin.bitOr (a : Int) (b : Int) = ((a ||| b : Nat) : Int) := by
  rw [bitOr_and, bitAnd_nat]
  exact Int.sub_eq_iff_eq_add.mpr (congrArg Int.ofNat (nat_or_add_and a b)).symm
theorem getD_cast (fs : List Nat) (k : Nat) : (fs.map fun (n : Nat) => (n : Int)).getD k 0 = ((fs.getD k 0 : Nat) : Int) := by
  rw [List.getD_eq_getElem?_getD, List.getD_eq_getElem?_getD, List.getElem?_map]
  cases fs[k]? <;> rfl
theorem shr_bit (c i : Nat) : Builtin.bitAnd ((c : Int).fdiv (2 ^ ((i : Int)).toNat)) 1 = ((c / 2 ^ i % 2 : Nat) : Int) := by
  have : (c : Int).fdiv (2 ^ ((i : Int)).toNat) = ((c / 2 ^ i : Nat) : Int) := by
    rw [Int.toNat_natCast, Int.fdiv_eq_ediv_of_nonneg _ (Int.le_of_lt (kbt_pos i))]
    push_cast; rfl
  rw [this, bitAnd_m1]; push_cast; rfl
theorem shr_set {c i : Nat} (h : Builtin.bitAnd ((c : Int).fdiv (2 ^ ((i : Int)).toNat)) 1 ≠ 0) : c.testBit i = true := by
  rw [shr_bit] at h
  rw [tb]
  exact decide_eq_true ((Nat.mod_two_eq_zero_or_one _).resolve_left fun e => h (congrArg Int.ofNat e))
theorem shr_clear {c i : Nat} (h : Builtin.bitAnd ((c : Int).fdiv (2 ^ ((i : Int)).toNat)) 1 = 0) : c.testBit i = false := by
  rw [shr_bit] at h
  rw [tb]
  have h' : c / 2 ^ i % 2 = 0 := Int.ofNat.inj h
  rw [h']; rfl
end Mine
end
noncomputable section
open PySem PySem.W PyProof.Rows
namespace Mine
open PySem.StrLaws PySem.Builtin PySem.Builtin.Str
theorem sep_list : (PySem.Str.ofString ", ").cps.toList = [44, 32] := by decide +kernel
theorem sep_len : (PySem.Str.ofString ", ").length = 2 := by decide +kernel
theorem at_comma {x : PySem.Str} {i : Nat} (h : At x (PySem.Str.ofString ", ") x.length i) : x.cps.toList[i]? = some 44 := by
  obtain ⟨_, h2⟩ := h
  rw [subAt_eq, sep_list, sep_len, beq_iff_eq] at h2
  have := congrArg (·[0]?) h2
  simpa using this
theorem join_shape (w : PySem.Str) (rest : List PySem.Str) : ∃ tail, (Txt.join (PySem.Str.ofString ", ") (w :: rest)).cps.toList = w.cps.toList ++ tail ∧ ((rest = [] ∧ tail = []) ∨ ∃ t, tail = 44 :: 32 :: t) := by
  unfold Txt.join
  rw [glued_eq_join]
  cases rest with
  | nil => exact ⟨[], by simp [PySem.Str.join], .inl ⟨rfl, rfl⟩⟩
  | cons y r =>
    refine ⟨44 :: 32 :: (PySem.Str.join (PySem.Str.ofString ", ") (y :: r)).cps.toList, ?_, .inr ⟨_, rfl⟩⟩
    show (w ++ PySem.Str.ofString ", " ++ PySem.Str.join (PySem.Str.ofString ", ") (y :: r)).cps.toList = _
    rw [Str.cps_append, Str.cps_append, Array.toList_append, Array.toList_append, sep_list, List.append_assoc]; rfl
theorem len_toList (x : PySem.Str) : x.length = x.cps.toList.length := by simp [PySem.Str.length]
theorem split_first {w : PySem.Str} (hw : 44 ∉ w.cps.toList) (rest : List PySem.Str) :
    (Txt.split (Txt.join (PySem.Str.ofString ", ") (w :: rest)) (PySem.Str.ofString ", "))[0]? = some w := by
  obtain ⟨tail, hx, ht⟩ := join_shape w rest
  have same : tail = [] → Txt.join (PySem.Str.ofString ", ") (w :: rest) = w := fun e => by
    apply Str.ext'; apply Array.toList_inj.mp; rw [hx, e, List.append_nil]
  generalize Txt.join (PySem.Str.ofString ", ") (w :: rest) = x at hx same
  have inw : ∀ i, i < w.length → ¬ At x (PySem.Str.ofString ", ") x.length i := fun i hi ha => by
    have h1 := at_comma ha
    rw [hx, List.getElem?_append_left (by rw [← len_toList]; exact hi)] at h1
    exact hw (List.mem_of_getElem? h1)
  have atw : (∃ t, tail = 44 :: 32 :: t) → At x (PySem.Str.ofString ", ") x.length w.length := by
    rintro ⟨t, rfl⟩
    refine ⟨?_, ?_⟩
    · rw [sep_len, len_toList x, hx, len_toList w]; simp
    · rw [subAt_eq, sep_list, sep_len, hx, len_toList w, List.drop_left]; simp
  have kind : ¬ (Builtin.Str.strKind x < Builtin.Str.strKind (PySem.Str.ofString ", ")) := by
    have : Builtin.Str.strKind (PySem.Str.ofString ", ") = 1 := by decide +kernel
    rw [this]; unfold Builtin.Str.strKind; split <;> (try split) <;> decide
  unfold Txt.split
  split
  · rename_i h
    rw [Bool.or_eq_true, decide_eq_true_eq, decide_eq_true_eq] at h
    rcases h with h | h
    · rcases ht with ⟨_, e⟩ | e
      · rw [same e]; rfl
      · have := (atw e).1; rw [sep_len] at this h; omega
    · exact absurd h kind
  · rcases occ_head x (PySem.Str.ofString ", ") (x.length + 1) (by omega) with ⟨h0, hn⟩ | ⟨i, r, h0, ha, hn⟩
    · rw [h0, if_pos (show ([] : List Nat).isEmpty = true from rfl)]
      rcases ht with ⟨_, e⟩ | e
      · rw [same e]; rfl
      · exact absurd (atw e) (hn _)
    · rw [h0, if_neg (by simp), partsBetween_eq]
      show some (strSub x 0 i) = some w
      have hi : i = w.length := by
        rcases ht with ⟨_, e⟩ | e
        · have h1 := at_comma ha
          rw [same e] at h1
          exact absurd (List.mem_of_getElem? h1) hw
        · have h1 : ¬ w.length < i := fun h => hn _ h (atw e)
          have h2 : ¬ i < w.length := fun h => inw i h ha
          omega
      subst hi
      congr 1
      apply Str.ext'; apply Array.toList_inj.mp
      rw [strSub_toList, List.drop_zero, Nat.sub_zero, hx, len_toList w, List.take_left]
end Mine
end
noncomputable section
open PySem PySem.W PyProof.Rows
namespace Mine
noncomputable def wordTab : List Str := [Str.ofString "OPTIMIZED", Str.ofString "NEWLOCALS", Str.ofString "VARARGS", Str.ofString "VARKEYWORDS", Str.ofString "NESTED", Str.ofString "GENERATOR", Str.ofString "NOFREE", Str.ofString "COROUTINE",
  Str.ofString "ITERABLE_COROUTINE", Str.ofString "ASYNC_GENERATOR", Str.ofString "0x400", Str.ofString "0x800"]
@[irreducible] noncomputable def word (i : Nat) : Str := wordTab.getD i (Str.ofString "0x800")
noncomputable def wordsTo (n i : Nat) : List Str := ((List.range i).filter (n.testBit ·)).map word
/-- the lowest place that is set -/
@[irreducible] noncomputable def low (x : Nat) : Nat := ((List.range 12).find? (x.testBit ·)).getD 0
/-- what pretty_flags gives back -/
@[irreducible] noncomputable def prettyS (n : Nat) : Str := if n = 0 then Str.ofString "0x0" else Txt.join (Str.ofString ", ") (wordsTo n 12)
theorem low_spec {x : Nat} (h0 : x ≠ 0) (h1 : x < 4096) : low x < 12 ∧ x.testBit (low x) = true ∧ ∀ j < low x, x.testBit j = false := by
  unfold low
  cases e : (List.range 12).find? (x.testBit ·) with
  | none =>
    exfalso
    apply h0
    apply Nat.eq_of_testBit_eq
    intro i
    rw [Nat.zero_testBit]
    by_cases hi : i < 12
    · have := List.find?_eq_none.mp e i (List.mem_range.mpr hi); simpa using this
    · exact Nat.testBit_lt_two_pow (Nat.lt_of_lt_of_le h1 (Nat.le_trans (by decide : 4096 ≤ 2 ^ 12) (Nat.pow_le_pow_right (by decide) (by omega))))
  | some k =>
    obtain ⟨hb, as, bs, hs, hn⟩ := List.find?_eq_some_iff_append.mp e
    have hk : k < 12 := List.mem_range.mp (by rw [hs]; simp)
    refine ⟨hk, hb, fun j hj => ?_⟩
    have hj' : j ∈ as := by
      have h2 : (List.range 12)[k]? = some k := by simp [hk]
      have h3 : (List.range 12)[as.length]? = some k := by rw [hs]; simp
      have h4 : as.length < 12 := by
        have := congrArg List.length hs
        simp at this; omega
      have h5 : as.length = k := by
        have : (List.range 12)[as.length]? = some as.length := by simp [h4]
        rw [this] at h3; simpa using h3
      have hj2 : j < k := hj
      have h6 : (List.range 12)[j]? = some j := by rw [List.getElem?_range (by omega)]
      rw [hs, List.getElem?_append_left (by omega)] at h6
      exact List.mem_of_getElem? h6
    simpa using hn j hj'
theorem words_low {x : Nat} (h0 : x ≠ 0) (h1 : x < 4096) : ∃ r, wordsTo x 12 = word (low x) :: r := by
  obtain ⟨_, hb, _⟩ := low_spec h0 h1
  unfold wordsTo
  have hh : ((List.range 12).filter (x.testBit ·)).head? = (List.range 12).find? (x.testBit ·) := List.head?_filter
  cases e : (List.range 12).filter (x.testBit ·) with
  | nil =>
    rw [e] at hh
    obtain ⟨hl, _, _⟩ := low_spec h0 h1
    have := List.find?_eq_none.mp hh.symm (low x) (List.mem_range.mpr hl)
    simp [hb] at this
  | cons a r =>
    rw [e] at hh
    refine ⟨r.map word, ?_⟩
    have : low x = a := by unfold low; rw [← hh]; rfl
    rw [this]; rfl
theorem no_comma : ∀ i, i < 12 → 44 ∉ (word i).cps.toList := by decide +kernel
theorem pretty_first {x : Nat} (h0 : x ≠ 0) (h1 : x < 4096) : (Txt.split (prettyS x) (Str.ofString ", "))[0]? = some (word (low x)) := by
  obtain ⟨r, hr⟩ := words_low h0 h1
  unfold prettyS
  rw [if_neg h0, hr]
  exact split_first (no_comma _ (low_spec h0 h1).1) r
theorem word_inj : ∀ i, i < 12 → ∀ j, j < 12 → word i = word j → i = j := by decide +kernel
theorem word_ne : ∀ i, i < 12 → word i ≠ Str.ofString "" := by decide +kernel
/-- the kept ones -/
noncomputable def tabOf (ks : List (Nat × Nat)) : List (PyData × PyData) := ks.map fun p => (.str (word p.1), .int (p.2 : Int))
@[irreducible] noncomputable def seek (ks : List (Nat × Nat)) (i : Nat) : Option Nat := (ks.find? (·.1 == i)).map (·.2)
noncomputable def KsOk (ks : List (Nat × Nat)) : Prop := ∀ p ∈ ks, p.1 < 12 ∧ p.2 < 4096
theorem lookup_tab {i : Nat} (hi : i < 12) : ∀ {ks : List (Nat × Nat)}, KsOk ks → PySem.Spec.lookup (.str (word i)) (tabOf ks) = (seek ks i).map fun (v : Nat) => .int (v : Int)
  | [], _ => by unfold seek; rfl
  | (j, v) :: r, h => by
    have hj := (h (j, v) (.head _)).1
    have ih := lookup_tab hi (ks := r) fun p hp => h p (.tail _ hp)
    have e0 : PySem.Spec.lookup (.str (word i)) (tabOf ((j, v) :: r)) = (if PySem.Spec.same (.str (word j)) (.str (word i)) = true then some (PyData.int (v : Int)) else PySem.Spec.lookup (.str (word i)) (tabOf r)) := rfl
    rw [e0]
    unfold seek
    rw [List.find?_cons]
    by_cases e : j = i
    · subst e
      simp [PyProof.V.same_str]
    · have h1 : PySem.Spec.same (.str (word j)) (.str (word i)) = false := by
        rw [PyProof.V.same_str]; simp only [decide_eq_false_iff_not]; exact fun h => e (word_inj _ hj _ hi h)
      have h2 : ((j, v).1 == i) = false := by simpa using e
      rw [h1, if_neg (by simp), ih, h2]; unfold seek; rfl
theorem lookup_empty : ∀ {ks : List (Nat × Nat)}, KsOk ks → PySem.Spec.lookup (.str (Str.ofString "")) (tabOf ks) = none
  | [], _ => rfl
  | (j, v) :: r, h => by
    have hj := (h (j, v) (.head _)).1
    have ih := lookup_empty (ks := r) fun p hp => h p (.tail _ hp)
    have e0 : PySem.Spec.lookup (.str (Str.ofString "")) (tabOf ((j, v) :: r)) = (if PySem.Spec.same (.str (word j)) (.str (Str.ofString "")) = true then some (PyData.int (v : Int)) else PySem.Spec.lookup (.str (Str.ofString "")) (tabOf r)) := rfl
    rw [e0]
    have h1 : PySem.Spec.same (.str (word j)) (.str (Str.ofString "")) = false := by
      rw [PyProof.V.same_str]; simp only [decide_eq_false_iff_not]; exact fun h => word_ne _ hj h
    rw [h1, if_neg (by simp), ih]
/-- what is left of x when the kept ones are taken off -/
@[irreducible] noncomputable def leftN (ks : List (Nat × Nat)) : Nat → Nat → Nat
  | 0, x => x
  | f + 1, x => if x = 0 then 0 else match seek ks (low x) with
    | none => x
    | some v => leftN ks f (x ^^^ v)
theorem seek_mem {ks : List (Nat × Nat)} {i v : Nat} (h : seek ks i = some v) : (i, v) ∈ ks := by
  unfold seek at h
  cases e : ks.find? (·.1 == i) with
  | none => rw [e] at h; cases h
  | some p =>
    rw [e] at h
    have h1 := List.mem_of_find?_eq_some e
    have h2 := List.find?_some e
    obtain ⟨a, b⟩ := p
    simp at h h2
    subst h; subst h2; exact h1
theorem leftN_0 (ks : List (Nat × Nat)) (x : Nat) : leftN ks 0 x = x := by rw [leftN]
theorem leftN_nil (ks : List (Nat × Nat)) (f : Nat) : leftN ks f 0 = 0 := by cases f <;> simp [leftN]
theorem leftN_stop {ks : List (Nat × Nat)} {x : Nat} (h : seek ks (low x) = none) (f : Nat) : leftN ks f x = x := by
  cases f with
  | zero => rw [leftN]
  | succ f => rw [leftN, h]; by_cases e : x = 0 <;> simp [e]
theorem leftN_go {ks : List (Nat × Nat)} {x v : Nat} (h0 : x ≠ 0) (h : seek ks (low x) = some v) (f : Nat) : leftN ks (f + 1) x = leftN ks f (x ^^^ v) := by
  rw [leftN, h, if_neg h0]
end Mine
end
noncomputable section
open PySem PySem.W PyProof.Rows
namespace Mine
@[irreducible] noncomputable def putK (ks : List (Nat × Nat)) (j v : Nat) : List (Nat × Nat) := if ks.any (·.1 == j) then ks.map (fun p => if p.1 == j then (p.1, v) else p) else ks ++ [(j, v)]
/-- the kept ones of some switches -/
@[irreducible] noncomputable def keptN (as : List Nat) : List (Nat × Nat) := as.foldl (fun ks a => if leftN ks 12 a = 0 then ks else putK ks (low (leftN ks 12 a)) (leftN ks 12 a)) []
theorem keptN_nil : keptN [] = [] := by unfold keptN; rfl
theorem keptN_snoc (as : List Nat) (a : Nat) : keptN (as ++ [a]) = if leftN (keptN as) 12 a = 0 then keptN as else putK (keptN as) (low (leftN (keptN as) 12 a)) (leftN (keptN as) 12 a) := by
  unfold keptN; rw [List.foldl_append]; rfl
theorem same_word {i j : Nat} (hi : i < 12) (hj : j < 12) : PySem.Spec.same (.str (word i)) (.str (word j)) = (i == j) := by
  rw [PyProof.V.same_str]
  by_cases e : i = j
  · subst e; simp
  · rw [show (i == j) = false by simpa using e]; simp only [decide_eq_false_iff_not]; exact fun h => e (word_inj _ hi _ hj h)
theorem any_tab {j : Nat} (hj : j < 12) : ∀ {ks : List (Nat × Nat)}, KsOk ks → (tabOf ks).any (fun p => PySem.Spec.same p.1 (.str (word j))) = ks.any (·.1 == j)
  | [], _ => rfl
  | (i, v) :: r, h => by
    have hi : i < 12 := (h (i, v) (.head _)).1
    have ih := any_tab hj (ks := r) fun p hp => h p (.tail _ hp)
    show (PySem.Spec.same (.str (word i)) (.str (word j)) || (tabOf r).any _) = ((i == j) || r.any _)
    rw [same_word hi hj, ih]
theorem map_tab {j v : Nat} (hj : j < 12) : ∀ {ks : List (Nat × Nat)}, KsOk ks → (tabOf ks).map (fun p => if PySem.Spec.same p.1 (.str (word j)) then (p.1, PyData.int (v : Int)) else p) = tabOf (ks.map fun p => if p.1 == j then (p.1, v) else p)
  | [], _ => rfl
  | (i, u) :: r, h => by
    have hi : i < 12 := (h (i, u) (.head _)).1
    have ih := map_tab (v := v) hj (ks := r) fun p hp => h p (.tail _ hp)
    show (if PySem.Spec.same (.str (word i)) (.str (word j)) then (PyData.str (word i), PyData.int (v : Int)) else (.str (word i), .int (u : Int))) :: (tabOf r).map _ = tabOf ((if (i == j) = true then (i, v) else (i, u)) :: r.map _)
    rw [same_word hi hj, ih]
    by_cases e : (i == j) = true
    · rw [if_pos e, if_pos e]; rfl
    · rw [if_neg e, if_neg e]; rfl
theorem putD_tab {ks : List (Nat × Nat)} {j v : Nat} (hks : KsOk ks) (hj : j < 12) : PyProof.V.putD (.str (word j)) (.int (v : Int)) (tabOf ks) = tabOf (putK ks j v) := by
  unfold PyProof.V.putD putK
  rw [any_tab hj hks, map_tab hj hks]
  split
  · rfl
  · unfold tabOf; rw [List.map_append]; rfl
theorem leftN_lt {ks : List (Nat × Nat)} (hks : KsOk ks) : ∀ (f : Nat) {x : Nat}, x < 4096 → leftN ks f x < 4096
  | 0, x, h => by rw [leftN]; exact h
  | f + 1, x, h => by
    by_cases h0 : x = 0
    · rw [h0, leftN_nil]; decide
    · cases hs : seek ks (low x) with
      | none => rw [leftN_stop hs]; exact h
      | some v => rw [leftN_go h0 hs]; exact leftN_lt hks f (Nat.xor_lt_two_pow (n := 12) h (hks _ (seek_mem hs)).2)
theorem putK_ok {ks : List (Nat × Nat)} {j v : Nat} (hks : KsOk ks) (hj : j < 12) (hv : v < 4096) : KsOk (putK ks j v) := by
  intro p hp
  unfold putK at hp
  split at hp
  · obtain ⟨q, hq, rfl⟩ := List.mem_map.mp hp
    split
    · exact ⟨(hks q hq).1, hv⟩
    · exact hks q hq
  · rcases List.mem_append.mp hp with h | h
    · exact hks p h
    · rw [List.mem_singleton.mp h]; exact ⟨hj, hv⟩
theorem putK_len (ks : List (Nat × Nat)) (j v : Nat) : (putK ks j v).length ≤ ks.length + 1 := by
  unfold putK; split
  · rw [List.length_map]; omega
  · simp
theorem tabOf_len (ks : List (Nat × Nat)) : (tabOf ks).length = ks.length := by unfold tabOf; rw [List.length_map]
end Mine
end
noncomputable section
open PySem PySem.W PyProof.Rows
namespace Mine
noncomputable def drawStep (acc : List Nat) (n : Int) : List Nat := if 1 < acc.length ∧ n % 3 = 0 then acc ++ [acc.getD (acc.length - 1) 0 ^^^ acc.getD (acc.length - 2) 0] else acc ++ [(n % 4096).toNat]
/-- the switches that some numbers draw -/
@[irreducible] noncomputable def drawnN (ns : List Int) : List Nat := ns.foldl drawStep []
theorem drawnN_nil : drawnN [] = [] := by unfold drawnN; rfl
theorem drawnN_snoc (ns : List Int) (n : Int) : drawnN (ns ++ [n]) = drawStep (drawnN ns) n := by unfold drawnN; rw [List.foldl_append]; rfl
theorem drawStep_len (acc : List Nat) (n : Int) : (drawStep acc n).length = acc.length + 1 := by unfold drawStep; split <;> simp
theorem getD_lt' {fs : List Nat} {b : Nat} (h0 : 0 < b) (h : ∀ x ∈ fs, x < b) (k : Nat) : fs.getD k 0 < b := by
  rw [List.getD_eq_getElem?_getD]
  cases e : fs[k]? with
  | none => simpa using h0
  | some x => exact h x (List.mem_of_getElem? e)
theorem drawStep_lt {acc : List Nat} (h : ∀ x ∈ acc, x < 4096) (n : Int) : ∀ x ∈ drawStep acc n, x < 4096 := by
  unfold drawStep
  split
  · intro x hx
    rcases List.mem_append.mp hx with h1 | h1
    · exact h x h1
    · rw [List.mem_singleton.mp h1]; exact Nat.xor_lt_two_pow (n := 12) (getD_lt' (by decide) h _) (getD_lt' (by decide) h _)
  · intro x hx
    rcases List.mem_append.mp hx with h1 | h1
    · exact h x h1
    · rw [List.mem_singleton.mp h1]; exact (Int.toNat_lt (Int.emod_nonneg _ (by decide))).mpr (Int.emod_lt_of_pos _ (by decide))
theorem foldl_draw_lt : ∀ (ns : List Int) {acc : List Nat}, (∀ x ∈ acc, x < 4096) → ∀ x ∈ ns.foldl drawStep acc, x < 4096
  | [], _, h => h
  | n :: r, _, h => foldl_draw_lt r (drawStep_lt h n)
theorem foldl_draw_len : ∀ (ns : List Int) (acc : List Nat), (ns.foldl drawStep acc).length = acc.length + ns.length
  | [], _ => rfl
  | n :: r, acc => by rw [List.foldl_cons, foldl_draw_len r, drawStep_len, List.length_cons]; exact Nat.succ_add_eq_add_succ _ _
theorem drawnN_lt (ns : List Int) : ∀ x ∈ drawnN ns, x < 4096 := by unfold drawnN; exact foldl_draw_lt ns (fun _ h => nomatch h)
theorem drawnN_len (ns : List Int) : (drawnN ns).length = ns.length := by unfold drawnN; rw [foldl_draw_len]; simp
end Mine
end
noncomputable section
open PySem PySem.W PyProof.Rows
namespace Mine
/-- the table of filemode: each row's place in the heap, its pairs' places, bits and signs -/
noncomputable def colTab : List (Addr × List (Addr × Nat × Tok × Str × Tok)) := [
  (81, [(74, 40960, 310, Str.ofString "l", 338), (75, 49152, 312, Str.ofString "s", 339), (76, 32768, 306, Str.ofString "-", 340), (77, 24576, 304, Str.ofString "b", 341), (78, 16384, 300, Str.ofString "d", 342), (79, 8192, 302, Str.ofString "c", 343), (80, 4096, 308, Str.ofString "p", 344)]),
  (83, [(82, 256, 320, Str.ofString "r", 345)]), (85, [(84, 128, 322, Str.ofString "w", 346)]),
  (89, [(86, 2112, 347, Str.ofString "s", 348), (87, 2048, 314, Str.ofString "S", 349), (88, 64, 324, Str.ofString "x", 350)]),
  (91, [(90, 32, 326, Str.ofString "r", 351)]), (93, [(92, 16, 328, Str.ofString "w", 352)]),
  (97, [(94, 1032, 353, Str.ofString "s", 354), (95, 1024, 316, Str.ofString "S", 355), (96, 8, 330, Str.ofString "x", 356)]),
  (99, [(98, 4, 332, Str.ofString "r", 357)]), (101, [(100, 2, 334, Str.ofString "w", 358)]),
  (105, [(102, 513, 359, Str.ofString "t", 360), (103, 512, 318, Str.ofString "T", 361), (104, 1, 336, Str.ofString "x", 362)])]
noncomputable def colRow (i : Nat) : List (Addr × Nat × Tok × Str × Tok) := (colTab.getD i (0, [])).2
noncomputable def colTest (i n b : Nat) : Bool := if i = 0 then n &&& 61440 == b else n &&& b == b
/-- the sign of a column -/
@[irreducible] noncomputable def colSign (n i : Nat) : Str := match (colRow i).find? fun p => colTest i n p.2.1 with
  | some p => p.2.2.2.1
  | none => if i = 0 then Str.ofString "?" else Str.ofString "-"
/-- what filemode gives back -/
@[irreducible] noncomputable def fileS (n : Nat) : Str := Txt.join (Str.ofString "") ((List.range 10).map (colSign n))
theorem colSign_hit {n i j : Nat} {p : Addr × Nat × Tok × Str × Tok} (hj : (colRow i)[j]? = some p) (hn : ∀ q ∈ (colRow i).take j, colTest i n q.2.1 = false) (hp : colTest i n p.2.1 = true) : colSign n i = p.2.2.2.1 := by
  unfold colSign
  have : (colRow i).find? (fun p => colTest i n p.2.1) = some p := by
    rw [List.find?_eq_some_iff_append]
    refine ⟨hp, (colRow i).take j, (colRow i).drop (j + 1), ?_, fun a ha => by simpa using hn a ha⟩
    have h1 := List.take_append_drop j (colRow i)
    obtain ⟨hlt, he⟩ := List.getElem?_eq_some_iff.mp hj
    rw [List.drop_eq_getElem_cons hlt, he] at h1
    exact h1.symm
  rw [this]
theorem colSign_miss {n i : Nat} (hn : ∀ q ∈ (colRow i).take (colRow i).length, colTest i n q.2.1 = false) : colSign n i = if i = 0 then Str.ofString "?" else Str.ofString "-" := by
  unfold colSign
  rw [List.take_length] at hn
  rw [show (colRow i).find? (fun p => colTest i n p.2.1) = none by rw [List.find?_eq_none]; intro x hx; simpa using hn x hx]
theorem take_snoc {α : Type} {l : List α} {j : Nat} {p : α} (hj : l[j]? = some p) {f : α → Bool} (hn : ∀ q ∈ l.take j, f q = false) (hp : f p = false) : ∀ q ∈ l.take (j + 1), f q = false := by
  rw [List.take_add_one, hj]
  intro q hq
  rcases List.mem_append.mp hq with h | h
  · exact hn q h
  · simp at h; rw [h]; exact hp
theorem row_len : ∀ r ∈ colTab, ∀ p ∈ r.2, p.2.2.2.1.length = 1 := by decide +kernel
theorem colSign_len (n i : Nat) : (colSign n i).length = 1 := by
  unfold colSign
  cases e : (colRow i).find? fun p => colTest i n p.2.1 with
  | none => dsimp only; split <;> decide +kernel
  | some p =>
    have hp := List.mem_of_find?_eq_some e
    unfold colRow at hp
    rw [List.getD_eq_getElem?_getD] at hp
    cases h : colTab[i]? with
    | none => rw [h] at hp; cases hp
    | some r => rw [h] at hp; exact row_len r (List.mem_of_getElem? h) p hp
theorem sum_ones {l : List Str} (h : ∀ x ∈ l, x.length = 1) : (l.map (·.length)).sum = l.length := by
  induction l with
  | nil => rfl
  | cons a r ih => rw [List.map_cons, List.sum_cons, h a (.head _), ih fun x hx => h x (.tail _ hx), List.length_cons]; exact Nat.add_comm _ _
theorem sum_cols (n k : Nat) : (((List.range k).map (colSign n)).map (·.length)).sum = k := by
  rw [sum_ones]
  · simp
  · intro x hx
    obtain ⟨i, _, rfl⟩ := List.mem_map.mp hx
    exact colSign_len n i
end Mine
end
noncomputable section
open PySem PySem.W PyProof.Rows
namespace Mine
noncomputable def bitN (n p : Nat) : Nat := n / 2 ^ p % 2
noncomputable def hereN (n i : Nat) : Nat := bitN n (8 - i)
noncomputable def specN (n i : Nat) : Nat := bitN n (11 - i / 3)
noncomputable def ch (x : Str) (k : Nat) : Str := ⟨#[x.cps.getD k 0]⟩
@[irreducible] noncomputable def sgnS (n i : Nat) : Str :=
  if i % 3 < 2 then (if hereN n i = 1 then ch (Str.ofString "rw") (i % 3) else Str.ofString "-")
  else ch (if i = 8 then Str.ofString "-xTt" else Str.ofString "-xSs") (hereN n i + 2 * specN n i)
@[irreducible] noncomputable def kindS (n : Nat) : Str := ch (Str.ofString "?pc?d?b?-?l?s???") (n / 4096)
noncomputable def lstR (n : Nat) : Nat → Str
  | 0 => kindS n
  | i + 1 => lstR n i ++ sgnS n i
@[irreducible] noncomputable def lstS (n i : Nat) : Str := lstR n i
theorem lstS_0 (n : Nat) : lstS n 0 = kindS n := by unfold lstS; rfl
theorem lstS_s (n i : Nat) : lstS n (i + 1) = lstS n i ++ sgnS n i := by unfold lstS; rfl
theorem bitN_lt (n p : Nat) : bitN n p < 2 := Nat.mod_lt _ (by decide)
theorem bitN_cases (n p : Nat) : bitN n p = 0 ∨ bitN n p = 1 := Nat.mod_two_eq_zero_or_one _
theorem and_bit (n p : Nat) : n &&& 2 ^ p = bitN n p * 2 ^ p := kbt_nat p n
theorem kind_col {n : Nat} (hn : n < 65536) : colSign n 0 = kindS n := by
  have h1 : n &&& 61440 = n / 4096 * 4096 := by
    have h2 : n &&& 61440 = ((n &&& 2 ^ 12 ||| n &&& 2 ^ 13) ||| (n &&& 2 ^ 14 ||| n &&& 2 ^ 15)) := by
      rw [← Nat.and_or_distrib_left, ← Nat.and_or_distrib_left, ← Nat.and_or_distrib_left]; congr 1
    rw [h2, and_bit, and_bit, and_bit, and_bit]
    have hk : n / 4096 < 16 := Nat.div_lt_of_lt_mul hn
    have b12 : bitN n 12 = n / 4096 % 2 := rfl
    have b13 : bitN n 13 = n / 4096 / 2 % 2 := by rw [Nat.div_div_eq_div_mul]; rfl
    have b14 : bitN n 14 = n / 4096 / 4 % 2 := by rw [Nat.div_div_eq_div_mul]; rfl
    have b15 : bitN n 15 = n / 4096 / 8 % 2 := by rw [Nat.div_div_eq_div_mul]; rfl
    rw [b12, b13, b14, b15]
    generalize n / 4096 = k at hk
    revert k; decide +kernel
  have hk : n / 4096 < 16 := Nat.div_lt_of_lt_mul hn
  unfold colSign kindS
  have ht : (fun p : Addr × Nat × Tok × Str × Tok => colTest 0 n p.2.1) = fun p => (n / 4096 * 4096 == p.2.1) := by
    funext p; unfold colTest; rw [if_pos rfl, h1]
  rw [ht]
  generalize n / 4096 = k at hk
  have : ∀ k, k < 16 → (match (colRow 0).find? (fun p => k * 4096 == p.2.1) with | some p => p.2.2.2.1 | none => if (0 : Nat) = 0 then Str.ofString "?" else Str.ofString "-") = ch (Str.ofString "?pc?d?b?-?l?s???") k := by decide +kernel
  exact this k hk
theorem one_col {n i p : Nat} {a : Addr} {t u : Tok} {c : Str} (hi : i ≠ 0) (hr : colRow i = [(a, 2 ^ p, t, c, u)]) : colSign n i = if bitN n p = 1 then c else Str.ofString "-" := by
  unfold colSign
  rw [hr, List.find?_cons]
  unfold colTest
  rw [if_neg hi, and_bit]
  rcases bitN_cases n p with e | e
  · rw [e, Nat.zero_mul, show ((0 : Nat) == 2 ^ p) = false by simp; exact Nat.ne_of_lt (Nat.two_pow_pos p)]; simp [hi]
  · rw [e, Nat.one_mul]; simp
theorem three_col {n i p q : Nat} {a1 a2 a3 : Addr} {t1 t2 t3 u1 u2 u3 : Tok} {c1 c2 c3 : Str} (hi : i ≠ 0) (hpq : p < q) (hr : colRow i = [(a1, 2 ^ p ||| 2 ^ q, t1, c1, u1), (a2, 2 ^ q, t2, c2, u2), (a3, 2 ^ p, t3, c3, u3)]) :
    colSign n i = if bitN n q = 1 then (if bitN n p = 1 then c1 else c2) else (if bitN n p = 1 then c3 else Str.ofString "-") := by
  have hp0 := Nat.two_pow_pos p
  have hlt : 2 ^ p < 2 ^ q := Nat.pow_lt_pow_right (by decide) hpq
  have hor : (2 ^ p ||| 2 ^ q) = 2 ^ p + 2 ^ q := by
    have h1 := nat_or_add_and (2 ^ p) (2 ^ q)
    have h2 : 2 ^ p &&& 2 ^ q = 0 := by
      rw [and_bit]; unfold bitN; rw [Nat.div_eq_of_lt hlt]; exact Nat.zero_mul _
    rwa [h2, Nat.add_zero] at h1
  unfold colSign
  rw [hr]
  have ht : (fun r : Addr × Nat × Tok × Str × Tok => colTest i n r.2.1) = fun r => (n &&& r.2.1 == r.2.1) := by
    funext r; unfold colTest; rw [if_neg hi]
  rw [ht]
  simp only [List.find?_cons, List.find?_nil]
  rw [if_neg hi, Nat.and_or_distrib_left, and_bit, and_bit]
  have z1 : ((0 : Nat) == 2 ^ p ||| 2 ^ q) = false := by rw [hor]; exact beq_false_of_ne (Nat.ne_of_lt (Nat.add_pos_left hp0 _))
  have z2 : ((0 : Nat) == 2 ^ q) = false := beq_false_of_ne (Nat.ne_of_lt (Nat.two_pow_pos q))
  have z3 : ((0 : Nat) == 2 ^ p) = false := beq_false_of_ne (Nat.ne_of_lt hp0)
  have z4 : ((2 ^ q : Nat) == 2 ^ p ||| 2 ^ q) = false := by rw [hor]; exact beq_false_of_ne (Nat.ne_of_lt (Nat.lt_add_of_pos_left hp0))
  have z5 : ((2 ^ p : Nat) == 2 ^ p ||| 2 ^ q) = false := by rw [hor]; exact beq_false_of_ne (Nat.ne_of_lt (Nat.lt_add_of_pos_right (Nat.two_pow_pos q)))
  rcases bitN_cases n p with e | e <;> rcases bitN_cases n q with f | f <;> rw [e, f] <;> simp only [Nat.zero_mul, Nat.one_mul, Nat.zero_or, Nat.or_zero, z1, z2, z3, z4, z5, beq_self_eq_true] <;> rfl
theorem sgn_one {n i : Nat} (hi : i % 3 < 2) : sgnS n i = if bitN n (8 - i) = 1 then ch (Str.ofString "rw") (i % 3) else Str.ofString "-" := by
  unfold sgnS hereN; rw [if_pos hi]
theorem sgn_three {n i : Nat} (hi : ¬ i % 3 < 2) : sgnS n i = ch (if i = 8 then Str.ofString "-xTt" else Str.ofString "-xSs") (bitN n (8 - i) + 2 * bitN n (11 - i / 3)) := by
  unfold sgnS hereN specN; rw [if_neg hi]
theorem col_sgn (n : Nat) : ∀ i, i < 9 → colSign n (i + 1) = sgnS n i := by
  intro i hi
  have hr : ∀ (p q : Nat) (c : Str) (j : Nat), ch (Str.ofString "rw") j = c → (if bitN n p = 1 then c else Str.ofString "-") = if bitN n p = 1 then ch (Str.ofString "rw") j else Str.ofString "-" := fun p q c j h => by rw [h]
  have h4 : ∀ (p q : Nat) (x c1 c2 c3 : Str), ch x 0 = Str.ofString "-" → ch x 1 = c3 → ch x 2 = c2 → ch x 3 = c1 →
      (if bitN n q = 1 then (if bitN n p = 1 then c1 else c2) else (if bitN n p = 1 then c3 else Str.ofString "-")) = ch x (bitN n p + 2 * bitN n q) := fun p q x c1 c2 c3 h0 h1 h2 h3 => by
    rcases bitN_cases n p with e | e <;> rcases bitN_cases n q with f | f <;> rw [e, f] <;> simp [h0, h1, h2, h3]
  rcases i with _ | _ | _ | _ | _ | _ | _ | _ | _ | i
  · rw [one_col (p := 8) (by decide) rfl, sgn_one (by decide)]; exact hr 8 0 _ 0 (by decide +kernel)
  · rw [one_col (p := 7) (by decide) rfl, sgn_one (by decide)]; exact hr 7 0 _ 1 (by decide +kernel)
  · rw [three_col (p := 6) (q := 11) (by decide) (by decide) rfl, sgn_three (by decide)]; exact h4 6 11 _ _ _ _ (by decide +kernel) (by decide +kernel) (by decide +kernel) (by decide +kernel)
  · rw [one_col (p := 5) (by decide) rfl, sgn_one (by decide)]; exact hr 5 0 _ 0 (by decide +kernel)
  · rw [one_col (p := 4) (by decide) rfl, sgn_one (by decide)]; exact hr 4 0 _ 1 (by decide +kernel)
  · rw [three_col (p := 3) (q := 10) (by decide) (by decide) rfl, sgn_three (by decide)]; exact h4 3 10 _ _ _ _ (by decide +kernel) (by decide +kernel) (by decide +kernel) (by decide +kernel)
  · rw [one_col (p := 2) (by decide) rfl, sgn_one (by decide)]; exact hr 2 0 _ 0 (by decide +kernel)
  · rw [one_col (p := 1) (by decide) rfl, sgn_one (by decide)]; exact hr 1 0 _ 1 (by decide +kernel)
  · rw [three_col (p := 0) (q := 9) (by decide) (by decide) rfl, sgn_three (by decide)]; exact h4 0 9 _ _ _ _ (by decide +kernel) (by decide +kernel) (by decide +kernel) (by decide +kernel)
  · omega
theorem join_snoc (l : List Str) (x : Str) : Txt.join (Str.ofString "") (l ++ [x]) = Txt.join (Str.ofString "") l ++ x := by
  unfold Txt.join
  cases l with
  | nil => rw [List.nil_append, StrLaws.glued_eq_join, StrLaws.glued_eq_join]; show x = Str.empty ++ x; rw [Str.empty_append]
  | cons a r =>
    unfold Builtin.Str.glued
    apply Str.ext'
    show ((r ++ [x]).foldl _ _) = _
    rw [List.foldl_append]
    have e : (Str.ofString "").cps = #[] := by decide +kernel
    simp only [List.foldl_cons, List.foldl_nil, e, Array.append_empty, Str.cps_append, List.drop_succ_cons, List.drop_zero, List.headD_cons, List.cons_append]
theorem lst_join {n : Nat} (hn : n < 65536) : ∀ i, i ≤ 9 → lstS n i = Txt.join (Str.ofString "") ((List.range (i + 1)).map (colSign n))
  | 0, _ => by
    rw [lstS_0, ← kind_col hn]
    show _ = Txt.join _ [colSign n 0]
    unfold Txt.join
    rw [StrLaws.glued_eq_join]; rfl
  | i + 1, h => by
    rw [lstS_s, lst_join hn i (by omega), List.range_succ (n := i + 1), List.map_append, ← col_sgn n i (by omega)]
    exact (join_snoc _ _).symm
theorem lst_file {n : Nat} (hn : n < 65536) : lstS n 9 = fileS n := by rw [lst_join hn 9 (by decide)]; unfold fileS; rfl
theorem ch_len (x : Str) (k : Nat) : (ch x k).length = 1 := rfl
theorem sgn_len (n i : Nat) : (sgnS n i).length = 1 := by
  unfold sgnS; split
  · split
    · rfl
    · decide +kernel
  · rfl
theorem lstS_len (n : Nat) : ∀ i, (lstS n i).length = i + 1
  | 0 => by rw [lstS_0]; unfold kindS; rfl
  | i + 1 => by rw [lstS_s, Str.length_append, lstS_len n i, sgn_len]
end Mine
end
noncomputable section
open PySem PySem.W PyProof.Rows
namespace Mine
@[irreducible] noncomputable def byteAt (W k : Nat) : Nat := W / 2 ^ (40 - 8 * k) % 256
@[irreducible] noncomputable def lcN (W i : Nat) : Nat := W / 2 ^ (48 - 8 * i) % 65536
@[irreducible] noncomputable def six (W j : Nat) : Nat := W / 2 ^ (42 - 6 * j) % 64
noncomputable def b64tab : List UInt8 := [65,66,67,68,69,70,71,72,73,74,75,76,77,78,79,80,81,82,83,84,85,86,87,88,89,90,97,98,99,100,101,102,103,104,105,106,107,108,109,110,111,112,113,114,115,116,117,118,119,120,121,122,48,49,50,51,52,53,54,55,56,57,43,47]
@[irreducible] noncomputable def sgnC (v : Nat) : Nat := (b64tab.getD v 0).toNat
noncomputable def sgnTo (W n : Nat) : List Nat := (List.range n).map fun j => sgnC (six W j)
theorem or8 {a b : Nat} (hb : b < 256) : Builtin.bitOr ((a : Int) * 2 ^ (8 : Int).toNat) (b : Int) = ((a * 256 + b : Nat) : Int) := by
  have e1 : ((a : Int) * 2 ^ (8 : Int).toNat) = ((a * 256 : Nat) : Int) := by rw [show (2 : Int) ^ (8 : Int).toNat = 256 by decide]; rfl
  rw [e1, bitOr_nat]
  congr 1
  have := Nat.two_pow_add_eq_or_of_lt (i := 8) (b := b) hb a
  rw [show (256 : Nat) = 2 ^ 8 by decide, Nat.mul_comm]; exact this.symm
theorem and16 (n : Nat) : Builtin.bitAnd (n : Int) 65535 = ((n % 65536 : Nat) : Int) := by
  rw [show (65535 : Int) = ((65535 : Nat) : Int) from rfl, bitAnd_nat, show (65535 : Nat) = 2 ^ 16 - 1 by decide, Nat.and_two_pow_sub_one_eq_mod]
theorem and6 (n : Nat) : Builtin.bitAnd (n : Int) 63 = ((n % 64 : Nat) : Int) := by
  rw [show (63 : Int) = ((63 : Nat) : Int) from rfl, bitAnd_nat, show (63 : Nat) = 2 ^ 6 - 1 by decide, Nat.and_two_pow_sub_one_eq_mod]
theorem and8 (n : Nat) : Builtin.bitAnd (n : Int) 255 = ((n % 256 : Nat) : Int) := by
  rw [show (255 : Int) = ((255 : Nat) : Int) from rfl, bitAnd_nat, show (255 : Nat) = 2 ^ 8 - 1 by decide, Nat.and_two_pow_sub_one_eq_mod]
theorem byteAt_lt (W k : Nat) : byteAt W k < 256 := by unfold byteAt; exact Nat.mod_lt _ (by decide)
theorem six_lt (W k : Nat) : six W k < 64 := by unfold six; exact Nat.mod_lt _ (by decide)
theorem lc_mod (Y : Nat) : Y % 65536 = (Y / 256 % 65536 * 256 + Y % 256) % 65536 := by
  rw [Nat.add_mod, Nat.mul_mod, Nat.mod_mod, ← Nat.mul_mod, ← Nat.add_mod, Nat.div_add_mod']
theorem lc_step {W i : Nat} (hi : i < 6) : Builtin.bitAnd ((lcN W i * 256 + byteAt W i : Nat) : Int) 65535 = ((lcN W (i + 1) : Nat) : Int) := by
  rw [and16]
  congr 1
  unfold lcN byteAt
  have e : 48 - 8 * i = 40 - 8 * i + 8 ∧ 48 - 8 * (i + 1) = 40 - 8 * i := by revert i; decide
  rw [e.1, e.2, Nat.pow_add, ← Nat.div_div_eq_div_mul]
  exact (lc_mod _).symm
theorem shr_as {n p : Nat} {z : Int} (e : z = (p : Int)) : (n : Int).fdiv (2 ^ z.toNat) = ((n / 2 ^ p : Nat) : Int) := by
  subst e
  rw [Int.toNat_natCast, Int.fdiv_eq_ediv_of_nonneg _ (Int.le_of_lt (kbt_pos p))]; push_cast; rfl
theorem cut_mod (X p : Nat) (hp : p ≤ 10) : X % 65536 / 2 ^ p % 64 = X / 2 ^ p % 64 := by
  obtain ⟨q, e⟩ := Nat.exists_eq_add_of_le hp
  have e' : 65536 = 2 ^ p * (2 ^ q * 64) := by
    rw [show (65536 : Nat) = 2 ^ 10 * 64 from rfl, e, Nat.pow_add, Nat.mul_assoc]
  rw [e', Nat.mod_mul_right_div_self, Nat.mod_mod_of_dvd _ (Nat.dvd_mul_left 64 _)]
theorem six_of {W i j p : Nat} {z : Int} (hz : z = (p : Int)) (hp : p ≤ 10) (hj : 48 - 8 * (i + 1) + p = 42 - 6 * j) :
    Builtin.bitAnd (((lcN W (i + 1) : Nat) : Int).fdiv (2 ^ z.toNat)) 63 = ((six W j : Nat) : Int) := by
  rw [shr_as hz, and6]
  congr 1
  unfold lcN six
  rw [← hj, Nat.pow_add, ← Nat.div_div_eq_div_mul]
  exact cut_mod _ _ hp
section
variable {W i : Nat} {z : Int}
theorem six2 (hz : z = ((2 : Nat) : Int)) (hi : i < 6) (h3 : i % 3 = 0) : Builtin.bitAnd (((lcN W (i + 1) : Nat) : Int).fdiv (2 ^ z.toNat)) 63 = ((six W (8 * i / 6) : Nat) : Int) := six_of hz (by decide) (by revert h3; revert i; decide)
theorem six4 (hz : z = ((4 : Nat) : Int)) (hi : i < 6) (h3 : i % 3 = 1) : Builtin.bitAnd (((lcN W (i + 1) : Nat) : Int).fdiv (2 ^ z.toNat)) 63 = ((six W (8 * i / 6) : Nat) : Int) := six_of hz (by decide) (by revert h3; revert i; decide)
theorem six6 (hz : z = ((6 : Nat) : Int)) (hi : i < 6) (h3 : i % 3 = 2) : Builtin.bitAnd (((lcN W (i + 1) : Nat) : Int).fdiv (2 ^ z.toNat)) 63 = ((six W (8 * i / 6) : Nat) : Int) := six_of hz (by decide) (by revert h3; revert i; decide)
theorem six0 (hz : z = ((0 : Nat) : Int)) (hi : i < 6) (h3 : i % 3 = 2) : Builtin.bitAnd (((lcN W (i + 1) : Nat) : Int).fdiv (2 ^ z.toNat)) 63 = ((six W (8 * i / 6 + 1) : Nat) : Int) := six_of hz (by decide) (by revert h3; revert i; decide)
end
theorem lcN_0 {W : Nat} (h : W < 2 ^ 48) : lcN W 0 = 0 := by unfold lcN; rw [Nat.div_eq_of_lt (by simpa using h)]
theorem sgnTo_succ (W n : Nat) : sgnTo W (n + 1) = sgnTo W n ++ [sgnC (six W n)] := by unfold sgnTo; rw [List.range_succ]; simp
theorem sgnC_lt : ∀ v, v < 64 → sgnC v < 256 := by decide +kernel
theorem sgnTo_in (W n : Nat) : ∀ x ∈ (sgnTo W n).map (fun (k : Nat) => (k : Int)), 0 ≤ x ∧ x < 256 := by
  intro x hx
  obtain ⟨k, hk, rfl⟩ := List.mem_map.mp hx
  unfold sgnTo at hk
  obtain ⟨j, _, rfl⟩ := List.mem_map.mp hk
  have := sgnC_lt _ (six_lt W j)
  exact ⟨Int.natCast_nonneg _, Int.ofNat_lt.mpr this⟩
theorem sgnTo_len (W n : Nat) : (sgnTo W n).length = n := by unfold sgnTo; simp
end Mine
end
noncomputable section
open PySem PySem.W PyProof.Rows
namespace Mine
/-- the chosen ones joined by exclusive or -/
noncomputable def chooseR (as : List Nat) (c : Nat) : Nat → Nat
  | 0 => 0
  | k + 1 => if c.testBit k then chooseR as c k ^^^ as.getD k 0 else chooseR as c k
@[irreducible] noncomputable def choose (as : List Nat) (c k : Nat) : Nat := chooseR as c k
theorem choose_0 (as : List Nat) (c : Nat) : choose as c 0 = 0 := by unfold choose; rfl
theorem choose_s (as : List Nat) (c k : Nat) : choose as c (k + 1) = if c.testBit k then choose as c k ^^^ as.getD k 0 else choose as c k := by unfold choose; rfl
/-- all the settings' sums -/
noncomputable def Sp (as : List Nat) : List Nat := as.foldl (fun l a => l ++ l.map (· ^^^ a)) [0]
theorem Sp_snoc (as : List Nat) (a : Nat) : Sp (as ++ [a]) = Sp as ++ (Sp as).map (· ^^^ a) := by unfold Sp; rw [List.foldl_append]; rfl
theorem xor_cc (x y : Nat) : (x ^^^ y) ^^^ y = x := by rw [Nat.xor_assoc, Nat.xor_self, Nat.xor_zero]
theorem count_xor (a x : Nat) : ∀ l : List Nat, (l.map (· ^^^ a)).count x = l.count (x ^^^ a)
  | [] => rfl
  | y :: l => by
    rw [List.map_cons, List.count_cons, List.count_cons, count_xor a x l]
    congr 1
    by_cases e : y = x ^^^ a
    · subst e; simp [xor_cc]
    · have : ¬ (y ^^^ a) = x := fun h => e (by rw [← h, xor_cc])
      simp [e, this]
theorem low_eq {y j : Nat} (h1 : y < 4096) (hj : y.testBit j = true) (hn : ∀ i < j, y.testBit i = false) : low y = j := by
  have h0 : y ≠ 0 := fun e => by rw [e, Nat.zero_testBit] at hj; cases hj
  obtain ⟨_, hb, hl⟩ := low_spec h0 h1
  rcases Nat.lt_trichotomy (low y) j with h | h | h
  · rw [hn _ h] at hb; cases hb
  · exact h
  · rw [hl _ h] at hj; cases hj
theorem low_up {x v : Nat} (hx0 : x ≠ 0) (hx : x < 4096) (hv0 : v ≠ 0) (hv : v < 4096) (e : low v = low x) : x ^^^ v = 0 ∨ low x < low (x ^^^ v) := by
  by_cases h0 : x ^^^ v = 0
  · exact .inl h0
  · refine .inr ?_
    obtain ⟨_, hb, _⟩ := low_spec h0 (Nat.xor_lt_two_pow (n := 12) hx hv)
    obtain ⟨_, bx, lx⟩ := low_spec hx0 hx
    obtain ⟨_, bv, lv⟩ := low_spec hv0 hv
    rw [e] at bv lv
    rw [Nat.testBit_xor] at hb
    rcases Nat.lt_trichotomy (low (x ^^^ v)) (low x) with h | h | h
    · rw [lx _ h, lv _ h] at hb; cases hb
    · rw [h, bx, bv] at hb; cases hb
    · exact h
theorem low_min {x y : Nat} (hx0 : x ≠ 0) (hx : x < 4096) (hy0 : y ≠ 0) (hy : y < 4096) (h : low x < low y) : low (x ^^^ y) = low x := by
  obtain ⟨_, bx, lx⟩ := low_spec hx0 hx
  obtain ⟨_, _, ly⟩ := low_spec hy0 hy
  refine low_eq (Nat.xor_lt_two_pow (n := 12) hx hy) ?_ fun i hi => ?_
  · rw [Nat.testBit_xor, bx, ly _ h]; rfl
  · rw [Nat.testBit_xor, lx _ hi, ly _ (Nat.lt_trans hi h)]; rfl
structure Inv (l : List Nat) (ks : List (Nat × Nat)) (n : Nat) : Prop where
  zero : 0 ∈ l
  clos : ∀ x ∈ l, ∀ y ∈ l, x ^^^ y ∈ l
  lt : ∀ x ∈ l, x < 4096
  cnt : ∀ x ∈ l, l.count x * 2 ^ ks.length = 2 ^ n
  ok : KsOk ks
  kin : ∀ p ∈ ks, p.2 ∈ l ∧ p.2 ≠ 0 ∧ low p.2 = p.1
  hit : ∀ x ∈ l, x ≠ 0 → seek ks (low x) ≠ none
section
variable {l : List Nat} {ks : List (Nat × Nat)} {n : Nat}
theorem Inv.left_mem (I : Inv l ks n) : ∀ (f x : Nat), x ^^^ leftN ks f x ∈ l
  | 0, x => by rw [leftN_0, Nat.xor_self]; exact I.zero
  | f + 1, x => by
    by_cases h0 : x = 0
    · rw [h0, leftN_nil]; exact I.zero
    · cases hs : seek ks (low x) with
      | none => rw [leftN_stop hs, Nat.xor_self]; exact I.zero
      | some v =>
        rw [leftN_go h0 hs]
        have h := I.clos _ (I.left_mem f (x ^^^ v)) _ (I.kin _ (seek_mem hs)).1
        have e : ∀ L : Nat, x ^^^ v ^^^ L ^^^ v = x ^^^ L := fun L => by rw [Nat.xor_assoc x v, Nat.xor_assoc x, Nat.xor_comm v L, xor_cc]
        exact (e _) ▸ h
theorem Inv.left_end (I : Inv l ks n) : ∀ (f x : Nat), x < 4096 → (x = 0 ∨ 12 ≤ f + low x) → leftN ks f x = 0 ∨ seek ks (low (leftN ks f x)) = none
  | 0, x, hx, h => by
    rw [leftN_0]
    by_cases h0 : x = 0
    · exact .inl h0
    · have := (low_spec h0 hx).1
      rcases h with h | h
      · exact .inl h
      · rw [Nat.zero_add] at h; exact absurd this (Nat.not_lt.mpr h)
  | f + 1, x, hx, h => by
    by_cases h0 : x = 0
    · rw [h0, leftN_nil]; exact .inl rfl
    · cases hs : seek ks (low x) with
      | none => rw [leftN_stop hs]; exact .inr hs
      | some v =>
        rw [leftN_go h0 hs]
        obtain ⟨h1, h2, h3⟩ := I.kin _ (seek_mem hs)
        have hv : v < 4096 := (I.ok _ (seek_mem hs)).2
        refine I.left_end f _ (Nat.xor_lt_two_pow (n := 12) hx hv) ?_
        refine (low_up h0 hx h2 hv h3).imp id fun h4 => ?_
        rcases h with h | h
        · exact absurd h h0
        · exact Nat.le_trans h (by rw [Nat.add_assoc]; exact Nat.add_le_add_left (by rw [Nat.add_comm]; exact h4) f)
theorem Inv.left_iff (I : Inv l ks n) {x : Nat} (hx : x < 4096) : leftN ks 12 x = 0 ↔ x ∈ l := by
  have h1 := I.left_mem 12 x
  constructor
  · intro h; rwa [h, Nat.xor_zero] at h1
  · intro h
    have h2 := I.clos _ h _ h1
    rw [← Nat.xor_assoc, Nat.xor_self, Nat.zero_xor] at h2
    rcases I.left_end 12 x hx (.inr (Nat.le_add_right _ _)) with h3 | h3
    · exact h3
    · exact Decidable.byContradiction fun h4 => I.hit _ h2 h4 h3
end
theorem seek_append {ks : List (Nat × Nat)} {j v i : Nat} : seek (ks ++ [(j, v)]) i = (match seek ks i with | some u => some u | none => if j = i then some v else none) := by
  unfold seek
  rw [List.find?_append]
  cases ks.find? (·.1 == i) with
  | some p => rfl
  | none =>
    by_cases e : j = i <;> simp [e]
theorem putK_new {ks : List (Nat × Nat)} {j v : Nat} (h : seek ks j = none) : putK ks j v = ks ++ [(j, v)] := by
  unfold seek at h
  unfold putK
  rw [Option.map_eq_none_iff, List.find?_eq_none] at h
  rw [if_neg]
  intro h1
  obtain ⟨p, hp, e⟩ := List.any_eq_true.mp h1
  exact h p hp e
theorem Inv.step {l : List Nat} {ks : List (Nat × Nat)} {n : Nat} (I : Inv l ks n) {a : Nat} (ha : a < 4096) :
    Inv (l ++ l.map (· ^^^ a)) (if leftN ks 12 a = 0 then ks else putK ks (low (leftN ks 12 a)) (leftN ks 12 a)) (n + 1) := by
  have mem : ∀ {x}, x ∈ l ++ l.map (· ^^^ a) ↔ x ∈ l ∨ x ^^^ a ∈ l := fun {x} => by
    rw [List.mem_append, List.mem_map]
    refine or_congr Iff.rfl ⟨?_, fun h => ⟨_, h, xor_cc _ _⟩⟩
    rintro ⟨y, hy, rfl⟩
    rwa [xor_cc]
  have cn : ∀ x, (l ++ l.map (· ^^^ a)).count x = l.count x + l.count (x ^^^ a) := fun x => by rw [List.count_append, count_xor]
  have sw : ∀ x y z : Nat, x ^^^ y ^^^ z = x ^^^ z ^^^ y := fun x y z => by rw [Nat.xor_assoc, Nat.xor_comm y, Nat.xor_assoc]
  have z0 : 0 ∈ l ++ l.map (· ^^^ a) := mem.mpr (.inl I.zero)
  have lt : ∀ x ∈ l ++ l.map (· ^^^ a), x < 4096 := fun x hx => by
    rcases mem.mp hx with h | h
    · exact I.lt _ h
    · have := Nat.xor_lt_two_pow (n := 12) (I.lt _ h) ha; rwa [xor_cc] at this
  have cl : ∀ x ∈ l ++ l.map (· ^^^ a), ∀ y ∈ l ++ l.map (· ^^^ a), x ^^^ y ∈ l ++ l.map (· ^^^ a) := fun x hx y hy => by
    rcases mem.mp hx with h | h <;> rcases mem.mp hy with g | g
    · exact mem.mpr (.inl (I.clos _ h _ g))
    · exact mem.mpr (.inr (by have := I.clos _ h _ g; rwa [← Nat.xor_assoc] at this))
    · exact mem.mpr (.inr (by have := I.clos _ h _ g; rwa [sw] at this))
    · exact mem.mpr (.inl (by have := I.clos _ h _ g; rwa [sw, ← Nat.xor_assoc, xor_cc] at this))
  have both : ∀ x ∈ l, x ^^^ a ∈ l → a ∈ l := fun x hx h => by have := I.clos _ hx _ h; rwa [← Nat.xor_assoc, Nat.xor_self, Nat.zero_xor] at this
  by_cases hr : leftN ks 12 a = 0
  · rw [if_pos hr]
    have hal := (I.left_iff ha).mp hr
    have same : ∀ {x}, x ∈ l ++ l.map (· ^^^ a) → x ∈ l := fun {x} hx => by
      rcases mem.mp hx with h | h
      · exact h
      · have := I.clos _ h _ hal; rwa [xor_cc] at this
    refine ⟨z0, cl, lt, fun x hx => ?_, I.ok, fun p hp => ⟨mem.mpr (.inl (I.kin p hp).1), (I.kin p hp).2⟩, fun x hx => I.hit x (same hx)⟩
    rw [cn, Nat.add_mul, I.cnt x (same hx), I.cnt _ (I.clos _ (same hx) _ hal), Nat.pow_succ, Nat.mul_two]
  · rw [if_neg hr]
    have hal : a ∉ l := fun h => hr ((I.left_iff ha).mpr h)
    have hrlt := leftN_lt I.ok 12 ha
    have hrm := I.left_mem 12 a
    have hse : seek ks (low (leftN ks 12 a)) = none := (I.left_end 12 a ha (.inr (Nat.le_add_right _ _))).resolve_left hr
    generalize leftN ks 12 a = r at hr hrlt hrm hse
    rw [putK_new hse]
    refine ⟨z0, cl, lt, fun x hx => ?_, ?_, fun p hp => ?_, fun x hx hx0 => ?_⟩
    · rw [cn, List.length_append, List.length_singleton, Nat.pow_succ, Nat.pow_succ, ← Nat.mul_assoc]
      congr 1
      rcases mem.mp hx with h | h
      · rw [List.count_eq_zero.mpr fun g => hal (both _ h g), Nat.add_zero]; exact I.cnt x h
      · rw [List.count_eq_zero (a := x).mpr fun g => hal (both _ g h), Nat.zero_add]; exact I.cnt _ h
    · intro p hp
      rcases List.mem_append.mp hp with h | h
      · exact I.ok p h
      · rw [List.mem_singleton.mp h]; exact ⟨(low_spec hr hrlt).1, hrlt⟩
    · rcases List.mem_append.mp hp with h | h
      · exact ⟨mem.mpr (.inl (I.kin p h).1), (I.kin p h).2⟩
      · rw [List.mem_singleton.mp h]; exact ⟨mem.mpr (.inr (by rw [Nat.xor_comm]; exact hrm)), hr, rfl⟩
    · rw [seek_append]
      rcases mem.mp hx with h | h
      · have := I.hit x h hx0
        cases hs : seek ks (low x) with
        | none => exact absurd hs this
        | some u => simp
      · -- x = y ^^^ r
        have hy : x ^^^ r ∈ l := by have := I.clos _ h _ hrm; rwa [← Nat.xor_assoc, xor_cc] at this
        have key : low x = low r ∨ seek ks (low x) ≠ none := by
          by_cases y0 : x ^^^ r = 0
          · left
            have := xor_cc x r
            rw [y0, Nat.zero_xor] at this
            rw [this]
          · have h1 := I.hit _ hy y0
            have h2 : x ^^^ r < 4096 := I.lt _ hy
            have ex := xor_cc x r
            rcases Nat.lt_trichotomy (low (x ^^^ r)) (low r) with g | g | g
            · right; have := low_min y0 h2 hr hrlt g; rw [ex] at this; rw [this]; exact h1
            · rw [g] at h1; exact absurd hse h1
            · left; have := low_min hr hrlt y0 h2 g; rwa [Nat.xor_comm, ex] at this
        cases hs : seek ks (low x) with
        | some u => simp
        | none =>
          rcases key with g | g
          · simp [g]
          · exact absurd hs g
theorem span_inv {as : List Nat} (h : ∀ a ∈ as, a < 4096) : ∀ i, i ≤ as.length → Inv (Sp (as.take i)) (keptN (as.take i)) i
  | 0, _ => by
    rw [List.take_zero, keptN_nil]
    have : ∀ x ∈ Sp [], x = 0 := fun x hx => List.mem_singleton.mp hx
    refine ⟨.head _, fun x hx y hy => ?_, fun x hx => ?_, fun x hx => ?_, fun p hp => ?_, fun p hp => ?_, fun x hx h0 => absurd (this x hx) h0⟩
    · rw [this x hx, this y hy]; exact .head _
    · rw [this x hx]; decide
    · rw [this x hx]; rfl
    · cases hp
    · cases hp
  | i + 1, hi => by
    rw [List.take_succ_eq_append_getElem (Nat.lt_of_succ_le hi), keptN_snoc, Sp_snoc]
    exact (span_inv h i (Nat.le_of_succ_le hi)).step (h _ (List.getElem_mem _))
theorem span {as : List Nat} (h : ∀ a ∈ as, a < 4096) : Inv (Sp as) (keptN as) as.length := by
  have := span_inv h as.length (Nat.le_refl _); rwa [List.take_length] at this
theorem four {as : List Nat} (h : as.length = 4) : ∃ a b c d, as = [a, b, c, d] := by
  match as, h with
  | [a, b, c, d], _ => exact ⟨a, b, c, d, rfl⟩
theorem Sp_choose {as : List Nat} (h : as.length = 4) : Sp as = (List.range 16).map fun c => choose as c 4 := by
  obtain ⟨a, b, c, d, rfl⟩ := four h
  unfold choose
  rfl
end Mine
end
noncomputable section
open PySem PySem.W PyProof.Rows
namespace Mine
section
variable {K : Type} [DecidableEq K]
noncomputable def stepD (σ : List K) (v : K) : List K := if v ∈ σ then σ else σ ++ [v]
noncomputable def ddup (l : List K) : List K := l.foldl stepD []
theorem ddup_snoc (l : List K) (v : K) : ddup (l ++ [v]) = stepD (ddup l) v := by unfold ddup; rw [List.foldl_append]; rfl
theorem stepD_mem (σ : List K) (v k : K) : decide (k ∈ stepD σ v) = (decide (k ∈ σ) || decide (k = v)) := by
  unfold stepD
  split
  · rename_i h
    by_cases e : k = v
    · subst e; simp [h]
    · simp [e]
  · simp [List.mem_append]
theorem stepD_len (σ : List K) (v : K) : (stepD σ v).length = if decide (v ∈ σ) = true then σ.length else σ.length + 1 := by
  unfold stepD; by_cases h : v ∈ σ <;> simp [h]
theorem fold_le : ∀ (l σ : List K), (l.foldl stepD σ).length ≤ σ.length + l.length
  | [], _ => Nat.le_refl _
  | v :: l, σ => by
    rw [List.foldl_cons, List.length_cons]
    have h1 := fold_le l (stepD σ v)
    have h2 := stepD_len σ v
    split at h2 <;> omega
theorem ddup_le (l : List K) : (ddup l).length ≤ l.length := by have := fold_le l []; simpa [ddup] using this
end
noncomputable def colS (ss : List Str) (c : Nat) : List Str := ss.map fun x => ch x c
noncomputable def wantI (n : Nat) : Int := ([1, 2, 4] : List Int).getD (if 2 < (n : Int) then 2 else (n : Int)).toNat 0
end Mine
end
noncomputable section
open PySem PySem.W PyProof.Rows
namespace Mine
theorem bitN_xor (x y p : Nat) : bitN (x ^^^ y) p = bitN x p ^^^ bitN y p := by
  unfold bitN; rw [Nat.xor_div_two_pow]; exact Nat.xor_mod_two_pow (n := 1)
/-- the bits of a column, as one figure -/
@[irreducible] noncomputable def phi (i n : Nat) : Nat := bitN n (8 - i) + 2 * (if i % 3 < 2 then 0 else bitN n (11 - i / 3))
theorem two_xor : ∀ a, a < 2 → ∀ b, b < 2 → ∀ c, c < 2 → ∀ d, d < 2 → (a ^^^ b) + 2 * (c ^^^ d) = (a + 2 * c) ^^^ (b + 2 * d) := by decide
theorem phi_xor (i x y : Nat) : phi i (x ^^^ y) = phi i x ^^^ phi i y := by
  unfold phi
  split
  · rw [bitN_xor]; rfl
  · rw [bitN_xor, bitN_xor]; exact two_xor _ (bitN_lt _ _) _ (bitN_lt _ _) _ (bitN_lt _ _) _ (bitN_lt _ _)
theorem phi_lo (i n : Nat) : phi i n % 2 = bitN n (8 - i) := by
  unfold phi; rw [Nat.add_mul_mod_self_left]; exact Nat.mod_eq_of_lt (bitN_lt _ _)
theorem phi_hi {i : Nat} (h : ¬ i % 3 < 2) (n : Nat) : phi i n / 2 = bitN n (11 - i / 3) := by
  unfold phi; rw [if_neg h, Nat.add_mul_div_left _ _ (by decide), Nat.div_eq_of_lt (bitN_lt _ _), Nat.zero_add]
noncomputable def phB (i : Nat) : Nat := if i % 3 < 2 then 2 else 4
theorem phi_lt (i n : Nat) : phi i n < phB i := by
  unfold phi phB
  have h1 := bitN_lt n (8 - i)
  split
  · exact h1
  · have h2 := bitN_lt n (11 - i / 3); omega
theorem phB_le (i : Nat) : phB i ≤ 4 := by unfold phB; split <;> decide
noncomputable def gS (i v : Nat) : Str := if i % 3 < 2 then (if v = 1 then ch (Str.ofString "rw") (i % 3) else Str.ofString "-") else ch (if i = 8 then Str.ofString "-xTt" else Str.ofString "-xSs") v
theorem sgn_phi (n i : Nat) : sgnS n i = gS i (phi i n) := by
  unfold gS
  by_cases h : i % 3 < 2
  · rw [if_pos h, sgn_one h]; unfold phi; rw [if_pos h]; rfl
  · rw [if_neg h, sgn_three h]; unfold phi; rw [if_neg h]
theorem gS_inj : ∀ i, i < 9 → ∀ v, v < phB i → ∀ w, w < phB i → gS i v = gS i w → v = w := by decide +kernel
noncomputable def maskN (i : Nat) : Nat := if i % 3 < 2 then 2 ^ (8 - i) else 2 ^ (8 - i) ||| 2 ^ (11 - i / 3)
noncomputable def hS (i v : Nat) : Nat := if i % 3 < 2 then v * 2 ^ (8 - i) else v % 2 * 2 ^ (8 - i) ||| v / 2 * 2 ^ (11 - i / 3)
theorem and_mask (n i : Nat) : n &&& maskN i = hS i (phi i n) := by
  unfold maskN hS
  by_cases h : i % 3 < 2
  · rw [if_pos h, if_pos h, and_bit]; unfold phi; rw [if_pos h]; rfl
  · rw [if_neg h, if_neg h, Nat.and_or_distrib_left, and_bit, and_bit, phi_lo, phi_hi h]
theorem hS_inj : ∀ i, i < 9 → ∀ v, v < phB i → ∀ w, w < phB i → hS i v = hS i w → v = w := by decide +kernel
theorem hS_zero : ∀ i, i < 9 → hS i 0 = 0 := by decide +kernel
/-- the mask of a column -/
@[irreducible] noncomputable def maskC (c : Nat) : Nat := ([0, 256, 128, 2112, 32, 16, 1032, 4, 2, 513] : List Nat).getD c 0
theorem maskC_s : ∀ i, i < 9 → maskC (i + 1) = maskN i := by decide +kernel
/-- the texts -/
theorem ch_app_l {a b : Str} {k : Nat} (h : k < a.length) : ch (a ++ b) k = ch a k := by
  unfold ch
  rw [Str.cps_append, Array.getD_eq_getD_getElem?, Array.getD_eq_getD_getElem?, Array.getElem?_append_left h]
theorem ch_app_r {a b : Str} (hb : b.length = 1) : ch (a ++ b) a.length = b := by
  unfold ch
  apply Str.ext'
  show #[(a ++ b).cps.getD a.cps.size 0] = b.cps
  rw [Str.cps_append, Array.getD_eq_getD_getElem?, Array.getElem?_append_right (Nat.le_refl _), Nat.sub_self]
  have h1 : b.cps.size = 1 := hb
  obtain ⟨⟨l⟩⟩ := b
  match l, h1 with
  | [x], _ => rfl
theorem join_cols (n : Nat) : ∀ k, (Txt.join (Str.ofString "") ((List.range k).map (colSign n))).length = k ∧ ∀ c, c < k → ch (Txt.join (Str.ofString "") ((List.range k).map (colSign n))) c = colSign n c
  | 0 => ⟨by show (Txt.join (Str.ofString "") []).length = 0; decide +kernel, fun _ h => absurd h (Nat.not_lt_zero _)⟩
  | k + 1 => by
    obtain ⟨h1, h2⟩ := join_cols n k
    rw [List.range_succ, List.map_append]
    show (Txt.join _ (_ ++ [colSign n k])).length = _ ∧ ∀ c, c < k + 1 → ch (Txt.join _ (_ ++ [colSign n k])) c = _
    rw [join_snoc]
    refine ⟨by rw [Str.length_append, h1, colSign_len], fun c hc => ?_⟩
    by_cases e : c < k
    · rw [ch_app_l (by rw [h1]; exact e)]; exact h2 c e
    · have : c = k := Nat.le_antisymm (Nat.le_of_lt_succ hc) (Nat.not_lt.mp e)
      subst this
      have := ch_app_r (a := Txt.join (Str.ofString "") ((List.range c).map (colSign n))) (colSign_len n c)
      rwa [h1] at this
theorem file_ch (n : Nat) {c : Nat} (h : c < 10) : ch (fileS n) c = colSign n c := by unfold fileS; exact (join_cols n 10).2 c h
theorem file_len (n : Nat) : (fileS n).length = 10 := by unfold fileS; exact (join_cols n 10).1
theorem bits_eq {u v : Nat} (hu : u < 4096) (hv : v < 4096) (h : ∀ p, p < 12 → bitN u p = bitN v p) : u = v := by
  apply Nat.eq_of_testBit_eq
  intro p
  by_cases hp : p < 12
  · have := h p hp; unfold bitN at this; rw [tb, tb, this]
  · have : 4096 ≤ 2 ^ p := Nat.pow_le_pow_right (n := 2) (i := 12) (by decide) (Nat.not_lt.mp hp)
    rw [Nat.testBit_lt_two_pow (Nat.lt_of_lt_of_le hu this), Nat.testBit_lt_two_pow (Nat.lt_of_lt_of_le hv this)]
theorem xor_cancel {a b c : Nat} (h : a ^^^ b = a ^^^ c) : b = c := by
  have := congrArg (a ^^^ ·) h
  simpa [← Nat.xor_assoc] using this
theorem file_inj {m u v : Nat} (hu : u < 4096) (hv : v < 4096) (h : fileS (m ^^^ u) = fileS (m ^^^ v)) : u = v := by
  have ph : ∀ i, i < 9 → phi i u = phi i v := fun i hi => by
    have h1 : colSign (m ^^^ u) (i + 1) = colSign (m ^^^ v) (i + 1) := by rw [← file_ch _ (Nat.succ_lt_succ hi), ← file_ch _ (Nat.succ_lt_succ hi), h]
    rw [col_sgn _ _ hi, col_sgn _ _ hi, sgn_phi, sgn_phi] at h1
    have h2 := gS_inj i hi _ (phi_lt _ _) _ (phi_lt _ _) h1
    rw [phi_xor, phi_xor] at h2
    exact xor_cancel h2
  refine bits_eq hu hv fun p hp => ?_
  by_cases h9 : p < 9
  · have h1 := congrArg (· % 2) (ph (8 - p) (Nat.lt_of_le_of_lt (Nat.sub_le _ _) (by decide)))
    rw [phi_lo, phi_lo, Nat.sub_sub_self (Nat.le_of_lt_succ h9)] at h1
    exact h1
  · have h1 : p = 9 ∨ p = 10 ∨ p = 11 := by omega
    rcases h1 with rfl | rfl | rfl
    · have := congrArg (· / 2) (ph 8 (by decide)); rwa [phi_hi (by decide), phi_hi (by decide)] at this
    · have := congrArg (· / 2) (ph 5 (by decide)); rwa [phi_hi (by decide), phi_hi (by decide)] at this
    · have := congrArg (· / 2) (ph 2 (by decide)); rwa [phi_hi (by decide), phi_hi (by decide)] at this
end Mine
end
noncomputable section
open PySem PySem.W PyProof.Rows
namespace Mine
section
variable {K J : Type} [DecidableEq K] [DecidableEq J] {g : K → J}
theorem fold_map : ∀ (l σ : List K), (∀ x ∈ σ ++ l, ∀ y ∈ σ ++ l, g x = g y → x = y) → (l.map g).foldl stepD (σ.map g) = (l.foldl stepD σ).map g
  | [], _, _ => rfl
  | v :: l, σ, h => by
    have e : stepD (σ.map g) (g v) = (stepD σ v).map g := by
      unfold stepD
      by_cases hv : v ∈ σ
      · rw [if_pos hv, if_pos (List.mem_map_of_mem hv)]
      · rw [if_neg hv, if_neg, List.map_append]; rfl
        intro hm
        obtain ⟨x, hx, ex⟩ := List.mem_map.mp hm
        exact hv (h x (List.mem_append_left _ hx) v (by simp) ex ▸ hx)
    rw [List.map_cons, List.foldl_cons, List.foldl_cons, e]
    have sub : ∀ x ∈ stepD σ v ++ l, x ∈ σ ++ v :: l := fun x hx => by
      unfold stepD at hx
      split at hx
      · rcases List.mem_append.mp hx with q | q
        · exact List.mem_append_left _ q
        · exact List.mem_append_right _ (.tail _ q)
      · rwa [List.append_assoc] at hx
    exact fold_map l (stepD σ v) fun x hx y hy => h x (sub x hx) y (sub y hy)
theorem ddup_map {l : List K} (h : ∀ x ∈ l, ∀ y ∈ l, g x = g y → x = y) : (ddup (l.map g)).length = (ddup l).length := by
  have := fold_map (g := g) l [] (by simpa using h)
  unfold ddup
  rw [List.map_nil] at this
  rw [this, List.length_map]
theorem count_map' {x : K} : ∀ {l : List K}, (∀ y ∈ l, g y = g x → y = x) → (l.map g).count (g x) = l.count x
  | [], _ => rfl
  | y :: l, h => by
    rw [List.map_cons, List.count_cons, List.count_cons, count_map' fun z hz => h z (.tail _ hz)]
    congr 1
    by_cases e : y = x
    · subst e; simp
    · have : ¬ g y = g x := fun q => e (h y (.head _) q)
      simp [e, this]
theorem Sp_go {ph : Nat → Nat} (hx : ∀ x y, ph (x ^^^ y) = ph x ^^^ ph y) : ∀ (as l : List Nat), (as.foldl (fun l a => l ++ l.map (· ^^^ a)) l).map ph = (as.map ph).foldl (fun l a => l ++ l.map (· ^^^ a)) (l.map ph)
  | [], _ => rfl
  | a :: as, l => by
    rw [List.foldl_cons, Sp_go hx as, List.map_cons, List.foldl_cons]
    congr 1
    rw [List.map_append, List.map_map, List.map_map]
    congr 1
    apply List.map_congr_left
    intro x _
    exact hx x a
theorem Sp_map {ph : Nat → Nat} (hx : ∀ x y, ph (x ^^^ y) = ph x ^^^ ph y) (as : List Nat) : (Sp as).map ph = Sp (as.map ph) := by
  unfold Sp
  rw [Sp_go hx, List.map_singleton]
  have : ph 0 = 0 := by have := hx 0 0; rwa [Nat.xor_self, Nat.xor_self] at this
  rw [this]
end
noncomputable def evenB (bs : List Nat) : Bool := decide (((ddup (Sp bs)).length : Int) = wantI (ddup (bs.filter (· != 0))).length) && (Sp bs).all fun x => decide ((((Sp bs).count x : Nat) : Int) * wantI (ddup (bs.filter (· != 0))).length = 16)
theorem even_tab : ∀ a, a < 4 → ∀ b, b < 4 → ∀ c, c < 4 → ∀ d, d < 4 → evenB [a, b, c, d] = true := by decide +kernel
/-- the unlike parts of a column -/
noncomputable def partsN (as : List Nat) (c : Nat) : List Nat := (as.map (· &&& maskC c)).filter (· != 0)
/-- the listings of the settings -/
@[irreducible] noncomputable def listS (m : Nat) (as : List Nat) : List Str := (Sp as).map fun x => fileS (m ^^^ x)
theorem col_even {as : List Nat} (h4 : as.length = 4) (hlt : ∀ a ∈ as, a < 4096) {m c : Nat} {ph : Nat → Nat} {f : Nat → Str} {g : Nat → Nat} (hx : ∀ x y, ph (x ^^^ y) = ph x ^^^ ph y) (h4' : ∀ x, ph x < 4)
    (hf : ∀ x, x < 4096 → ch (fileS (m ^^^ x)) c = f (ph x)) (fi : ∀ x y, f (ph x) = f (ph y) → ph x = ph y) (hg : ∀ x, x &&& maskC c = g (ph x)) (gi : ∀ x y, g (ph x) = g (ph y) → ph x = ph y) (g0 : g 0 = 0) :
    ((ddup (colS (listS m as) c)).length : Int) = wantI (ddup (partsN as c)).length ∧ ∀ x ∈ colS (listS m as) c, (((colS (listS m as) c).count x : Nat) : Int) * wantI (ddup (partsN as c)).length = 16 := by
  have e1 : colS (listS m as) c = (Sp (as.map ph)).map f := by
    unfold colS listS
    rw [← Sp_map hx, List.map_map, List.map_map]
    apply List.map_congr_left
    intro x hx'
    exact hf x ((span hlt).lt x hx')
  have ph0 : ph 0 = 0 := by have := hx 0 0; rwa [Nat.xor_self, Nat.xor_self] at this
  have e2 : partsN as c = ((as.map ph).filter (· != 0)).map g := by
    unfold partsN
    rw [List.map_congr_left (g := g ∘ ph) (fun x _ => hg x), ← List.map_map, List.filter_map]
    congr 1
    apply List.filter_congr
    intro v hv
    obtain ⟨x, _, rfl⟩ := List.mem_map.mp hv
    by_cases q : ph x = 0
    · simp [q, g0]
    · have : ¬ g (ph x) = 0 := fun e => q (by have := gi x 0 (by rw [ph0, g0]; exact e); rwa [ph0] at this)
      show (g (ph x) != 0) = (ph x != 0)
      rw [bne_iff_ne.mpr q, bne_iff_ne.mpr this]
  have im : ∀ x ∈ Sp (as.map ph), ∃ y, x = ph y := fun x hx' => by
    rw [← Sp_map hx] at hx'
    obtain ⟨y, _, rfl⟩ := List.mem_map.mp hx'
    exact ⟨y, rfl⟩
  have fi' : ∀ x ∈ Sp (as.map ph), ∀ y ∈ Sp (as.map ph), f x = f y → x = y := fun x hx' y hy e => by
    obtain ⟨a, rfl⟩ := im x hx'
    obtain ⟨b, rfl⟩ := im y hy
    exact fi a b e
  have e3 : (ddup (partsN as c)).length = (ddup ((as.map ph).filter (· != 0))).length := by
    rw [e2]
    refine ddup_map fun x hx' y hy e => ?_
    obtain ⟨a, _, rfl⟩ := List.mem_map.mp (List.mem_filter.mp hx' |>.1)
    obtain ⟨b, _, rfl⟩ := List.mem_map.mp (List.mem_filter.mp hy |>.1)
    exact gi a b e
  have tabE : evenB (as.map ph) = true := by
    obtain ⟨a, b, c, d, rfl⟩ := four h4
    exact even_tab _ (h4' a) _ (h4' b) _ (h4' c) _ (h4' d)
  unfold evenB at tabE
  rw [Bool.and_eq_true, decide_eq_true_eq, List.all_eq_true] at tabE
  rw [e1, e3, ddup_map fi']
  refine ⟨tabE.1, fun x hx' => ?_⟩
  obtain ⟨y, hy, rfl⟩ := List.mem_map.mp hx'
  rw [count_map' fun z hz => fi' z hz y hy]
  have := tabE.2 y hy
  rwa [decide_eq_true_eq] at this
theorem even_col {as : List Nat} (h4 : as.length = 4) (hlt : ∀ a ∈ as, a < 4096) {m c : Nat} (hm : m < 65536) (hc : c < 10) :
    ((ddup (colS (listS m as) c)).length : Int) = wantI (ddup (partsN as c)).length ∧ ∀ x ∈ colS (listS m as) c, (((colS (listS m as) c).count x : Nat) : Int) * wantI (ddup (partsN as c)).length = 16 := by
  cases c with
  | zero =>
    refine col_even h4 hlt (ph := fun _ => 0) (f := fun _ => kindS m) (g := fun _ => 0) (fun _ _ => rfl) (fun _ => by decide) (fun x hx => ?_) (fun _ _ _ => rfl) (fun x => ?_) (fun _ _ _ => rfl) rfl
    · rw [file_ch _ (by decide), kind_col (Nat.xor_lt_two_pow (n := 16) hm (Nat.lt_trans hx (by decide)))]
      unfold kindS
      congr 1
      show (m ^^^ x) / 2 ^ 12 = m / 2 ^ 12
      rw [Nat.xor_div_two_pow, Nat.div_eq_of_lt (a := x) hx, Nat.xor_zero]
    · unfold maskC; exact Nat.and_zero x
  | succ i =>
    have hi : i < 9 := Nat.lt_of_succ_lt_succ hc
    refine col_even h4 hlt (ph := phi i) (f := fun v => gS i (phi i m ^^^ v)) (g := hS i) (phi_xor i) (fun x => Nat.lt_of_lt_of_le (phi_lt i x) (phB_le i)) (fun x hx => ?_) (fun x y e => ?_) (fun x => ?_) (fun x y => hS_inj i hi _ (phi_lt i x) _ (phi_lt i y)) (hS_zero i hi)
    · rw [file_ch _ hc, col_sgn _ _ hi, sgn_phi, phi_xor]
    · rw [← phi_xor, ← phi_xor] at e
      have := gS_inj i hi _ (phi_lt _ _) _ (phi_lt _ _) e
      rw [phi_xor, phi_xor] at this
      exact xor_cancel this
    · rw [maskC_s i hi]; exact and_mask x i
theorem parts_le (as : List Nat) (c : Nat) : (ddup (partsN as c)).length ≤ as.length :=
  Nat.le_trans (ddup_le _) (Nat.le_trans (List.length_filter_le _ _) (by rw [List.length_map]; exact Nat.le_refl _))
theorem list_mem {as : List Nat} (hlt : ∀ a ∈ as, a < 4096) {m g : Nat} (hg : g < 4096) : fileS (m ^^^ g) ∈ listS m as ↔ leftN (keptN as) 12 g = 0 := by
  rw [(span hlt).left_iff hg]
  unfold listS
  constructor
  · intro h
    obtain ⟨x, hx, e⟩ := List.mem_map.mp h
    exact file_inj ((span hlt).lt x hx) hg e ▸ hx
  · exact fun h => List.mem_map.mpr ⟨g, h, rfl⟩
theorem list_count {as : List Nat} (h4 : as.length = 4) (hlt : ∀ a ∈ as, a < 4096) {m : Nat} {x : Str} (hx : x ∈ listS m as) : (listS m as).count x * 2 ^ (keptN as).length = 16 := by
  unfold listS at hx ⊢
  obtain ⟨y, hy, rfl⟩ := List.mem_map.mp hx
  rw [count_map' (g := fun x => fileS (m ^^^ x)) (x := y) fun z hz e => file_inj ((span hlt).lt z hz) ((span hlt).lt y hy) e]
  have := (span hlt).cnt y hy
  rwa [h4] at this
theorem list_len (m : Nat) {as : List Nat} (h4 : as.length = 4) : (listS m as).length = 16 := by
  unfold listS; rw [List.length_map, Sp_choose h4, List.length_map, List.length_range]
theorem list_ten {m : Nat} {as : List Nat} : ∀ x ∈ listS m as, x.length = 10 := by
  unfold listS
  intro x hx
  obtain ⟨y, _, rfl⟩ := List.mem_map.mp hx
  exact file_len _
theorem list_take {m : Nat} {as : List Nat} (h4 : as.length = 4) {c : Nat} (hc : c < 16) : (listS m as).take (c + 1) = (listS m as).take c ++ [fileS (m ^^^ choose as c 4)] := by
  unfold listS
  rw [Sp_choose h4, List.map_map, List.take_add_one, List.getElem?_map, List.getElem?_range hc]; rfl
theorem list_zero {m : Nat} {as : List Nat} (h4 : as.length = 4) : (listS m as)[0]? = some (fileS m) := by
  unfold listS
  rw [Sp_choose h4, List.map_map, List.getElem?_map, List.getElem?_range (by decide)]
  show some (fileS (m ^^^ choose as 0 4)) = _
  have : choose as 0 4 = 0 := by unfold choose; rfl
  rw [this, Nat.xor_zero]
end Mine
end
noncomputable section
open PySem PySem.W PyProof.Rows PySem.Calls
set_option maxRecDepth 100000
set_option maxHeartbeats 8000000
namespace Mine
theorem wordsTo_succ (n i : Nat) : wordsTo n (i + 1) = wordsTo n i ++ (if n.testBit i then [word i] else []) := by
  unfold wordsTo
  rw [List.range_succ, List.filter_append, List.map_append]
  congr 1
  by_cases h : n.testBit i <;> simp [h]
theorem wordsTo_len (n i : Nat) : (wordsTo n i).length ≤ i := by
  unfold wordsTo
  rw [List.length_map]
  exact Nat.le_trans (List.length_filter_le _ _) (by simp)
noncomputable def JP (n : Nat) (D : Addr) (i : Nat) (m : Str → Option Value) (nx : List (Addr × Obj)) : Prop :=
  ∃ vs k, nx = [(D, listOf vs.toArray k)] ∧ StrsAre vs (wordsTo n i) ∧ (∃ t, m (Str.ofString "flags") = some (.int ((n / 2 ^ i * 2 ^ i : Nat) : Int) t)) ∧ m (Str.ofString "names") = some (.ref D) ∧ (n = 0 ∨ n / 2 ^ i ≠ 0)
theorem one_shift (i : Nat) : (1 * 2 ^ ((i : Int)).toNat : Int) = 2 ^ i := by rw [Int.toNat_natCast, Int.one_mul]
theorem hexfit {i : Nat} (hi : i < 32) : (baseText "0x" 16 (1 * 2 ^ ((i : Int)).toNat)).length ≤ sizeLine := by
  refine baseText_under (by decide) (by decide) ?_
  rw [one_shift, Int.natAbs_pow]
  exact Nat.lt_of_lt_of_le (Nat.pow_lt_pow_right (by decide) hi) (by decide)
theorem bit_odd {n i : Nat} (h : Builtin.bitAnd ((n / 2 ^ i * 2 ^ i : Nat) : Int) (1 * 2 ^ ((i : Int)).toNat) ≠ 0) : n / 2 ^ i % 2 = 1 := by
  rw [one_shift, flag_and] at h
  have : n / 2 ^ i % 2 = 0 ∨ n / 2 ^ i % 2 = 1 := Nat.mod_two_eq_zero_or_one _
  rcases this with e | e
  · rw [e] at h; simp at h
  · exact e
theorem bit_even {n i : Nat} (h : Builtin.bitAnd ((n / 2 ^ i * 2 ^ i : Nat) : Int) (1 * 2 ^ ((i : Int)).toNat) = 0) : n / 2 ^ i % 2 = 0 := by
  rw [one_shift, flag_and] at h
  have : n / 2 ^ i % 2 = 0 ∨ n / 2 ^ i % 2 = 1 := Nat.mod_two_eq_zero_or_one _
  rcases this with e | e
  · exact e
  · rw [e, Nat.one_mul] at h
    exact absurd (Int.ofNat.inj h) (Nat.ne_of_gt (Nat.two_pow_pos i))
theorem low12 {n i : Nat} (h1 : n < 4096) (h : n / 2 ^ i % 2 = 1) : i < 12 := by
  by_cases hi : i < 12
  · exact hi
  · have : 4096 ≤ 2 ^ i := Nat.le_trans (by decide) (Nat.pow_le_pow_right (by decide : 2 > 0) (Nat.le_of_not_lt hi))
    rw [Nat.div_eq_of_lt (Nat.lt_of_lt_of_le h1 this)] at h; exact absurd h (by decide)
theorem bit_low {n i : Nat} (h1 : n < 4096) (h : Builtin.bitAnd ((n / 2 ^ i * 2 ^ i : Nat) : Int) (1 * 2 ^ ((i : Int)).toNat) ≠ 0) : i < 12 := low12 h1 (bit_odd h)
theorem xor_next {n i : Nat} (h : n / 2 ^ i % 2 = 1) : Builtin.bitXor ((n / 2 ^ i * 2 ^ i : Nat) : Int) (1 * 2 ^ ((i : Int)).toNat) = ((n / 2 ^ (i + 1) * 2 ^ (i + 1) : Nat) : Int) := by
  rw [one_shift, flag_xor h]
  congr 1
  have := div_step n i
  rw [h] at this
  rw [this, Nat.add_sub_cancel, Nat.pow_succ, Nat.mul_comm (2 ^ i) 2, ← Nat.mul_assoc, Nat.mul_comm 2]
theorem same_next {n i : Nat} (h : n / 2 ^ i % 2 = 0) : n / 2 ^ i * 2 ^ i = n / 2 ^ (i + 1) * 2 ^ (i + 1) := by
  have := div_step n i
  rw [h, Nat.add_zero] at this
  rw [this, Nat.pow_succ, Nat.mul_comm (2 ^ i) 2, ← Nat.mul_assoc, Nat.mul_comm 2]
theorem wordsTo_top {n j : Nat} (h : n < 2 ^ j) : ∀ k, wordsTo n (j + k) = wordsTo n j
  | 0 => rfl
  | k + 1 => by
    have hb : n.testBit (j + k) = false := Nat.testBit_lt_two_pow (Nat.lt_of_lt_of_le h (Nat.pow_le_pow_right (by decide) (Nat.le_add_right _ _)))
    rw [← Nat.add_assoc, wordsTo_succ, hb, wordsTo_top h k]; simp
theorem word_len (i : Nat) : (word i).length ≤ 18 := by
  unfold word
  by_cases h : i < 12
  · revert i; decide +kernel
  · rw [List.getD_eq_getElem?_getD, List.getElem?_eq_none (by simpa [wordTab] using Nat.le_of_not_lt h)]; decide
theorem sum_words (l : List Nat) : ((l.map word).map (·.length)).sum ≤ 18 * l.length := by
  induction l with
  | nil => simp
  | cons a r ih => rw [List.map_cons, List.map_cons, List.sum_cons, List.length_cons]; exact Nat.le_trans (Nat.add_le_add (word_len a) ih) (Nat.le_of_eq (Nat.add_comm _ _))
theorem wordsTo_sum (n i : Nat) : ((wordsTo n i).map (·.length)).sum ≤ 18 * (wordsTo n i).length := by
  unfold wordsTo; rw [List.length_map]; exact sum_words _
theorem words_fit (n : Nat) {i : Nat} (h : i ≤ 12) : ((wordsTo n i).map (·.length)).sum + (wordsTo n i).length * 2 ≤ 16777216 := by
  have h2 := Nat.le_trans (wordsTo_len n i) h
  exact Nat.le_trans (Nat.add_le_add_right (wordsTo_sum n i) _) (Nat.le_trans (Nat.add_le_add (Nat.mul_le_mul_left 18 h2) (Nat.mul_le_mul_right 2 h2)) (by decide))
theorem get_flag {prog : Program} {w : World} {A : Around} {E : Value → Shared → Prop} {s : Shared} {h₀ : Heap} {i : Nat} {t u : Tok} {T : List (Int × PyData)} {Q : Value → Shared → Prop}
    (ky : KTD.Keyed h₀ 22 T) (hk : ∀ b o, h₀.get? b = some o → s.heap.get? b = some o) (hi : i < 12)
    (hT : ∀ i : Nat, i < 12 → (PySem.Spec.lookup (.int (1 * 2 ^ ((i : Int)).toNat)) (T.map fun p => (PyData.int p.1, p.2))).getD (.str (baseText "0x" 16 (1 * 2 ^ ((i : Int)).toNat))) = .str (word i))
    (h : ∀ t', Q (.str (word i) t') { s with toks := s.toks + 1 }) :
    wpAny (model prog w) A (call (.builtin "dict.get") [.ref 22, .int (1 * 2 ^ ((i : Int)).toNat) t, .str (baseText "0x" 16 (1 * 2 ^ ((i : Int)).toNat)) u]) Q E s :=
  call_get2_intTab (ky.keep hk prog w) (PyProof.V.Flat.str _ _) fun v hv => by
    rw [hT i hi] at hv
    obtain ⟨t', rfl⟩ := PyProof.V.Flat.str_inv hv
    exact h t'
theorem below12 {P : Nat → Prop} (h : P 0 ∧ P 1 ∧ P 2 ∧ P 3 ∧ P 4 ∧ P 5 ∧ P 6 ∧ P 7 ∧ P 8 ∧ P 9 ∧ P 10 ∧ P 11) : ∀ i : Nat, i < 12 → P i := by
  obtain ⟨h0, h1, h2, h3, h4, h5, h6, h7, h8, h9, h10, h11⟩ := h
  intro i hi
  rcases i with _ | _ | _ | _ | _ | _ | _ | _ | _ | _ | _ | _ | i
  · exact h0
  · exact h1
  · exact h2
  · exact h3
  · exact h4
  · exact h5
  · exact h6
  · exact h7
  · exact h8
  · exact h9
  · exact h10
  · exact h11
  · exact absurd hi (Nat.not_lt.mpr (Nat.le_add_left 12 i))
theorem pretty (w : World) (mean : ExcName → Option Value) (mg mb : Str → Option Value) (n : Nat) (tn : Tok) (h1 : n < 4096)
  (dp un : Nat) (fr : Option (List Env)) (gd : Option (List Code)) (s : Shared) (Q E : Value → Shared → Prop)
  (hd : dp + 1 < recursionLimit) (hu : un + 20 < cLine) (X : (Mine.hd.heap_39 w.params).In s.heap)
  (T : Top Mine.hd.view_39 (looseW Mine.hd.view_39 [Str.ofString "COMPILER_FLAG_NAMES", Str.ofString "b2a_base64", Str.ofString "b64encode", Str.ofString "_filemode_table"]) mean mg mb s.heap)
  (ret : ∀ t h' tk', Grow s.heap h' → Q (.str (prettyS n) t) { s with heap := h', toks := tk' }) :
  wpAny (model PySem.Challenge.rw_om0021_01.row.prog w) ⟨none, dp, fr, gd, un⟩ (call (.ref 29) [.int (n : Int) tn]) Q E s := by
  revert X; k_fill; intro X
  k_with_none
  w_top off
  k_with "ne" => with_reducible (first | assumption | exact Ne.symm (by assumption) | exact Nat.ne_of_gt (by assumption) | exact Nat.ne_of_lt (by assumption) | exact Nat.ne_of_gt (Nat.lt_succ_self _) | exact Nat.ne_of_lt (Nat.lt_succ_self _) | exact Nat.ne_of_gt (Nat.lt_succ_of_lt (Nat.lt_succ_self _)) | exact Nat.ne_of_lt (Nat.lt_succ_of_lt (Nat.lt_succ_self _)) | exact Nat.ne_of_gt (Nat.lt_succ_of_lt (Nat.lt_succ_of_lt (Nat.lt_succ_self _))) | exact Nat.ne_of_lt (Nat.lt_succ_of_lt (Nat.lt_succ_of_lt (Nat.lt_succ_self _))) | exact Nat.ne_of_gt (Nat.lt_succ_of_lt (Nat.lt_succ_of_lt (Nat.lt_succ_of_lt (Nat.lt_succ_self _)))) | exact Nat.ne_of_lt (Nat.lt_succ_of_lt (Nat.lt_succ_of_lt (Nat.lt_succ_of_lt (Nat.lt_succ_self _)))) | exact Nat.ne_of_gt (And.left (by assumption)) | exact Nat.ne_of_lt (And.left (by assumption)) | exact (And.left (by assumption)) | exact Ne.symm (And.left (by assumption)) | exact Nat.ne_of_gt (And.left (And.right (by assumption))) | exact Nat.ne_of_lt (And.left (And.right (by assumption))) | exact (And.left (And.right (by assumption))) | exact Ne.symm (And.left (And.right (by assumption))) | exact Nat.ne_of_gt (And.right (by assumption)) | exact Nat.ne_of_lt (And.right (by assumption)) | exact (And.right (by assumption)) | exact Ne.symm (And.right (by assumption)) | exact Nat.ne_of_gt (And.left (And.right (And.right (by assumption)))) | exact Nat.ne_of_lt (And.left (And.right (And.right (by assumption)))) | exact (And.left (And.right (And.right (by assumption)))) | exact Ne.symm (And.left (And.right (And.right (by assumption)))) | exact Nat.ne_of_gt (And.right (And.right (by assumption))) | exact Nat.ne_of_lt (And.right (And.right (by assumption))) | exact (And.right (And.right (by assumption))) | exact Ne.symm (And.right (And.right (by assumption))) | exact Nat.ne_of_gt (And.left (And.right (And.right (And.right (by assumption))))) | exact Nat.ne_of_lt (And.left (And.right (And.right (And.right (by assumption))))) | exact (And.left (And.right (And.right (And.right (by assumption))))) | exact Ne.symm (And.left (And.right (And.right (And.right (by assumption))))) | exact Nat.ne_of_gt (And.right (And.right (And.right (by assumption)))) | exact Nat.ne_of_lt (And.right (And.right (And.right (by assumption)))) | exact (And.right (And.right (And.right (by assumption)))) | exact Ne.symm (And.right (And.right (And.right (by assumption)))) | exact Nat.ne_of_gt (And.left (And.right (And.right (And.right (And.right (by assumption)))))) | exact Nat.ne_of_lt (And.left (And.right (And.right (And.right (And.right (by assumption)))))) | exact (And.left (And.right (And.right (And.right (And.right (by assumption)))))) | exact Ne.symm (And.left (And.right (And.right (And.right (And.right (by assumption)))))) | exact Nat.ne_of_gt (And.right (And.right (And.right (And.right (by assumption))))) | exact Nat.ne_of_lt (And.right (And.right (And.right (And.right (by assumption))))) | exact (And.right (And.right (And.right (And.right (by assumption))))) | exact Ne.symm (And.right (And.right (And.right (And.right (by assumption))))) | exact Nat.ne_of_gt (And.left (And.right (And.right (And.right (And.right (And.right (by assumption))))))) | exact Nat.ne_of_lt (And.left (And.right (And.right (And.right (And.right (And.right (by assumption))))))) | exact (And.left (And.right (And.right (And.right (And.right (And.right (by assumption))))))) | exact Ne.symm (And.left (And.right (And.right (And.right (And.right (And.right (by assumption))))))) | exact Nat.ne_of_gt (And.right (And.right (And.right (And.right (And.right (by assumption)))))) | exact Nat.ne_of_lt (And.right (And.right (And.right (And.right (And.right (by assumption)))))) | exact (And.right (And.right (And.right (And.right (And.right (by assumption)))))) | exact Ne.symm (And.right (And.right (And.right (And.right (And.right (by assumption)))))) | exact Nat.ne_of_gt (And.left (And.right (And.right (And.right (And.right (And.right (And.right (by assumption)))))))) | exact Nat.ne_of_lt (And.left (And.right (And.right (And.right (And.right (And.right (And.right (by assumption)))))))) | exact (And.left (And.right (And.right (And.right (And.right (And.right (And.right (by assumption)))))))) | exact Ne.symm (And.left (And.right (And.right (And.right (And.right (And.right (And.right (by assumption)))))))) | exact Nat.ne_of_gt (And.right (And.right (And.right (And.right (And.right (And.right (by assumption))))))) | exact Nat.ne_of_lt (And.right (And.right (And.right (And.right (And.right (And.right (by assumption))))))) | exact (And.right (And.right (And.right (And.right (And.right (And.right (by assumption))))))) | exact Ne.symm (And.right (And.right (And.right (And.right (And.right (And.right (by assumption))))))) | exact Nat.ne_of_gt (And.left (And.right (And.right (And.right (And.right (And.right (And.right (And.right (by assumption))))))))) | exact Nat.ne_of_lt (And.left (And.right (And.right (And.right (And.right (And.right (And.right (And.right (by assumption))))))))) | exact (And.left (And.right (And.right (And.right (And.right (And.right (And.right (And.right (by assumption))))))))) | exact Ne.symm (And.left (And.right (And.right (And.right (And.right (And.right (And.right (And.right (by assumption))))))))) | exact Nat.ne_of_gt (And.right (And.right (And.right (And.right (And.right (And.right (And.right (by assumption)))))))) | exact Nat.ne_of_lt (And.right (And.right (And.right (And.right (And.right (And.right (And.right (by assumption)))))))) | exact (And.right (And.right (And.right (And.right (And.right (And.right (And.right (by assumption)))))))) | exact Ne.symm (And.right (And.right (And.right (And.right (And.right (And.right (And.right (by assumption)))))))))
  k_with "to for" => repeat ((fail_if_success (with_reducible show wpAny _ _ (exec (Stmt.For _ _ _ _ _) _) _ _ _)); first | (k_unfold; (try dsimp only)) | walk1 | (dsimp only; walk1))
  k_with "to iter" => repeat ((fail_if_success (with_reducible show wpAny _ _ (pyIter _) _ _ _)); first | (k_unfold; (try dsimp only)) | walk1 | (dsimp only; walk1))
  k_with "call builtin:hex" => (refine' P.hex_of_int ?_ (hexfit (by assumption)); )
  k_with "call builtin:dict.get" => k_dflt (refine get_flag (by assumption) (Fr.keep (by assumption)) (bit_low (by assumption) (by assumption)) (by refine below12 ⟨?_, ?_, ?_, ?_, ?_, ?_, ?_, ?_, ?_, ?_, ?_, ?_⟩ <;> (unfold word; rfl)) ?_; intro _)
  k_with "call builtin:list.append" => (refine app_one (by assumption) (by assumption) (OwnOff.ne (by assumption) (by simp)) (by omega) ?_; intro h' F' N'; k_sweep)
  refine' enter (binds := [(Str.ofString "flags", .int (n : Int) tn)]) X T ?k6 ?k7 ?k8 ?k9 ?kB ?_ ?c2 ?c3 ?c4 ?c5
  case k6 => k_is
  case k7 => k_is
  case k8 => exact Nat.lt_of_le_of_lt (Nat.le_add_right _ _) hd
  case k9 => exact BindsTo.of_eq rfl
  case kB => exact locs rfl
  case c2 => exact rfl
  case c3 => exact rfl
  case c4 => exact rfl
  case c5 => decide
  intro L h₁ tk F N
  k_fold
  walk_at "to for"
  refine wpAny_For ?_
  k_fold
  walk_at "to iter"
  k_unfold
  rename_i D _ _ _ _ _ _ _ _ _ _ hr F1 N1 _
  refine rangeFor (news := [(D, listOf #[] 0)]) (cs := []) (n := 32) (JP n D) (by rfl) hr (by decide) (by decide) (by rfl) (by rfl) F1 N1 ?h0 ?turn ?done
  case h0 => exact ⟨[], 0, rfl, .nil, ⟨tn, by rw [show n / 2 ^ 0 * 2 ^ 0 = n from (Nat.mul_one _).trans (Nat.div_one n)]; rfl⟩, rfl, (Decidable.em (n = 0)).imp_right fun h e => h ((Nat.div_one n).symm.trans e)⟩
  case turn =>
    rintro i t m₁ news₁ h tk own hi - ho ⟨vs, k, rfl, hS, ⟨tf, hf⟩, hnm, hz⟩ F2 N2
    rw [map2 hf hnm] at F2
    simp only [List.cons_append, List.nil_append] at N2
    clear F1 N1 hr
    k_fold
    have hvl : vs.length ≤ 32 := by rw [hS.length]; exact Nat.le_trans (wordsTo_len n i) (Nat.le_of_lt hi)
    k_steps
    · rename _ ≠ (0 : Int) => hx
      rename Builtin.bitAnd _ _ ≠ (0 : Int) => hb
      rename Fr _ _ _ _ => F'
      rename News _ _ _ _ => N'
      have hodd := bit_odd hb
      rw [xor_next hodd] at hx
      refine inv1 F' N' ⟨_, _, rfl, ?_, int_as (by rfl) (xor_next hodd), rfl, .inr ?_⟩
      · rw [wordsTo_succ, tb, hodd]; exact strs_snoc hS
      · intro h0; rw [h0] at hx; simp at hx
    · rename _ = (0 : Int) => hx
      rename Builtin.bitAnd _ _ ≠ (0 : Int) => hb
      rename Fr _ _ _ _ => F'
      rename News _ _ _ _ => N'
      have hodd := bit_odd hb
      have hi12 := low12 h1 hodd
      rw [xor_next hodd] at hx
      have hS' : ∀ t0, StrsAre (vs ++ [Value.str (word i) t0]) (wordsTo n (i + 1)) := fun t0 => by rw [wordsTo_succ, tb, hodd]; exact strs_snoc hS
      have hz' : n < 2 ^ (i + 1) := by
        have hp := Nat.two_pow_pos (i + 1)
        have : n / 2 ^ (i + 1) = 0 := by
          have h2 : n / 2 ^ (i + 1) * 2 ^ (i + 1) = 0 := Int.ofNat.inj hx
          exact (Nat.mul_eq_zero.mp h2).resolve_right (Nat.ne_of_gt hp)
        exact (Nat.div_eq_zero_iff_lt hp).mp this
      have hn0 : n ≠ 0 := by intro e; subst e; simp at hodd
      have e12 : wordsTo n 12 = wordsTo n (i + 1) := by
        have := wordsTo_top hz' (12 - (i + 1)); rw [Nat.add_sub_cancel' hi12] at this; exact this
      refine join_list (isList_news N' (.head _)) (hS' _) ?_ fun t' k' => ?_
      · exact words_fit n hi12
      · (try k_unfold)
        have := ret t' _ k' F'.keep
        unfold prettyS at this
        rw [if_neg hn0, e12] at this
        exact this
    · rename _ = (0 : Int) => hb
      rename Fr _ _ _ _ => F'
      rename News _ _ _ _ => N'
      have hev := bit_even hb
      refine inv1 F' N' ⟨_, _, rfl, ?_, int_as (by rfl) (congrArg Nat.cast (same_next hev)), rfl, ?_⟩
      · rw [wordsTo_succ, tb, hev]; simpa using hS
      · rcases hz with e | e
        · exact .inl e
        · right; intro e0; rw [div_step n i, hev, e0] at e; exact e rfl
  case done =>
    rintro m₁ news₁ h tk ⟨vs, k, rfl, hS, ⟨tf, hf⟩, hnm, hz⟩ F2 N2
    have h32 : n / 2 ^ 32 = 0 := Nat.div_eq_of_lt (Nat.lt_of_lt_of_le h1 (by decide))
    obtain rfl : n = 0 := by rcases hz with e | e; exact e; exact absurd h32 e
    have hf' : m₁ (Str.ofString "flags") = some (.int 0 tf) := by simpa using hf
    obtain rfl : vs = [] := by
      have : wordsTo 0 32 = [] := by decide
      rw [this] at hS; cases hS; rfl
    rw [map2 hf' hnm] at F2
    simp only [List.cons_append, List.nil_append] at N2
    clear F1 N1 hr
    show wpAny _ _ _ _ _ _
    k_fold
    k_steps
    rename Fr _ _ _ _ => F'
    have e : prettyS 0 = Txt.join (Str.ofString ", ") [baseText "0x" 16 0] := by decide +kernel
    exact e ▸ ret _ _ _ F'.keep
end Mine
end
noncomputable section
open PySem PySem.W PyProof.Rows PySem.Calls
set_option maxRecDepth 100000
set_option maxHeartbeats 8000000
namespace Mine
theorem one_ne {I l : Addr} {o : Obj} (h : I ≠ l) : ∀ p ∈ [(l, o)], p.1 ≠ I := fun p hp => by rw [List.mem_singleton.mp hp]; exact fun e => h e.symm
theorem varint (w : World) (mean : ExcName → Option Value) (mg mb : Str → Option Value) (a b : Nat) (ta tb : Tok) (ha : a < 64) (hb : b < 64)
  (dp un : Nat) (fr : Option (List Env)) (gd : Option (List Code)) (s : Shared) (Q E : Value → Shared → Prop) (h₀ : Heap) (L : Addr) (m : Str → Option Value) (I l : Addr) (n : Nat) 
  (hd : dp + 1 < recursionLimit) (hu : un + 20 < cLine) (X : (Mine.hd.heap_39 w.params).In h₀)
  (T : Top Mine.hd.view_39 (looseW Mine.hd.view_39 [Str.ofString "COMPILER_FLAG_NAMES", Str.ofString "b2a_base64", Str.ofString "b64encode", Str.ofString "_filemode_table"]) mean mg mb h₀)
  (F : Fr h₀ L s.heap m) (N : News h₀ L s.heap [(I, itObj l 0), (l, listOf #[.int ((a : Int) + 64) ta, .int (b : Int) tb] n)])
  (hIl : I ≠ l)
  (ret : ∀ t h' tk', Fr h₀ L h' m → Q (.int ((a * 64 + b : Nat) : Int) t) { s with heap := h', toks := tk' }) :
  wpAny (model PySem.Challenge.rw_om0021_01.row.prog w) ⟨none, dp, fr, gd, un⟩ (call (.ref 36) [.ref I]) Q E s := by
  revert X; k_fill; intro X
  k_with_none
  w_top off
  k_with "ne" => with_reducible (first | assumption | exact Ne.symm (by assumption) | exact Nat.ne_of_gt (by assumption) | exact Nat.ne_of_lt (by assumption) | exact Nat.ne_of_gt (Nat.lt_succ_self _) | exact Nat.ne_of_lt (Nat.lt_succ_self _) | exact Nat.ne_of_gt (Nat.lt_succ_of_lt (Nat.lt_succ_self _)) | exact Nat.ne_of_lt (Nat.lt_succ_of_lt (Nat.lt_succ_self _)) | exact Nat.ne_of_gt (Nat.lt_succ_of_lt (Nat.lt_succ_of_lt (Nat.lt_succ_self _))) | exact Nat.ne_of_lt (Nat.lt_succ_of_lt (Nat.lt_succ_of_lt (Nat.lt_succ_self _))) | exact Nat.ne_of_gt (Nat.lt_succ_of_lt (Nat.lt_succ_of_lt (Nat.lt_succ_of_lt (Nat.lt_succ_self _)))) | exact Nat.ne_of_lt (Nat.lt_succ_of_lt (Nat.lt_succ_of_lt (Nat.lt_succ_of_lt (Nat.lt_succ_self _)))) | exact Nat.ne_of_gt (And.left (by assumption)) | exact Nat.ne_of_lt (And.left (by assumption)) | exact (And.left (by assumption)) | exact Ne.symm (And.left (by assumption)) | exact Nat.ne_of_gt (And.left (And.right (by assumption))) | exact Nat.ne_of_lt (And.left (And.right (by assumption))) | exact (And.left (And.right (by assumption))) | exact Ne.symm (And.left (And.right (by assumption))) | exact Nat.ne_of_gt (And.right (by assumption)) | exact Nat.ne_of_lt (And.right (by assumption)) | exact (And.right (by assumption)) | exact Ne.symm (And.right (by assumption)) | exact Nat.ne_of_gt (And.left (And.right (And.right (by assumption)))) | exact Nat.ne_of_lt (And.left (And.right (And.right (by assumption)))) | exact (And.left (And.right (And.right (by assumption)))) | exact Ne.symm (And.left (And.right (And.right (by assumption)))) | exact Nat.ne_of_gt (And.right (And.right (by assumption))) | exact Nat.ne_of_lt (And.right (And.right (by assumption))) | exact (And.right (And.right (by assumption))) | exact Ne.symm (And.right (And.right (by assumption))) | exact Nat.ne_of_gt (And.left (And.right (And.right (And.right (by assumption))))) | exact Nat.ne_of_lt (And.left (And.right (And.right (And.right (by assumption))))) | exact (And.left (And.right (And.right (And.right (by assumption))))) | exact Ne.symm (And.left (And.right (And.right (And.right (by assumption))))) | exact Nat.ne_of_gt (And.right (And.right (And.right (by assumption)))) | exact Nat.ne_of_lt (And.right (And.right (And.right (by assumption)))) | exact (And.right (And.right (And.right (by assumption)))) | exact Ne.symm (And.right (And.right (And.right (by assumption)))) | exact Nat.ne_of_gt (And.left (And.right (And.right (And.right (And.right (by assumption)))))) | exact Nat.ne_of_lt (And.left (And.right (And.right (And.right (And.right (by assumption)))))) | exact (And.left (And.right (And.right (And.right (And.right (by assumption)))))) | exact Ne.symm (And.left (And.right (And.right (And.right (And.right (by assumption)))))) | exact Nat.ne_of_gt (And.right (And.right (And.right (And.right (by assumption))))) | exact Nat.ne_of_lt (And.right (And.right (And.right (And.right (by assumption))))) | exact (And.right (And.right (And.right (And.right (by assumption))))) | exact Ne.symm (And.right (And.right (And.right (And.right (by assumption))))) | exact Nat.ne_of_gt (And.left (And.right (And.right (And.right (And.right (And.right (by assumption))))))) | exact Nat.ne_of_lt (And.left (And.right (And.right (And.right (And.right (And.right (by assumption))))))) | exact (And.left (And.right (And.right (And.right (And.right (And.right (by assumption))))))) | exact Ne.symm (And.left (And.right (And.right (And.right (And.right (And.right (by assumption))))))) | exact Nat.ne_of_gt (And.right (And.right (And.right (And.right (And.right (by assumption)))))) | exact Nat.ne_of_lt (And.right (And.right (And.right (And.right (And.right (by assumption)))))) | exact (And.right (And.right (And.right (And.right (And.right (by assumption)))))) | exact Ne.symm (And.right (And.right (And.right (And.right (And.right (by assumption)))))) | exact Nat.ne_of_gt (And.left (And.right (And.right (And.right (And.right (And.right (And.right (by assumption)))))))) | exact Nat.ne_of_lt (And.left (And.right (And.right (And.right (And.right (And.right (And.right (by assumption)))))))) | exact (And.left (And.right (And.right (And.right (And.right (And.right (And.right (by assumption)))))))) | exact Ne.symm (And.left (And.right (And.right (And.right (And.right (And.right (And.right (by assumption)))))))) | exact Nat.ne_of_gt (And.right (And.right (And.right (And.right (And.right (And.right (by assumption))))))) | exact Nat.ne_of_lt (And.right (And.right (And.right (And.right (And.right (And.right (by assumption))))))) | exact (And.right (And.right (And.right (And.right (And.right (And.right (by assumption))))))) | exact Ne.symm (And.right (And.right (And.right (And.right (And.right (And.right (by assumption))))))) | exact Nat.ne_of_gt (And.left (And.right (And.right (And.right (And.right (And.right (And.right (And.right (by assumption))))))))) | exact Nat.ne_of_lt (And.left (And.right (And.right (And.right (And.right (And.right (And.right (And.right (by assumption))))))))) | exact (And.left (And.right (And.right (And.right (And.right (And.right (And.right (And.right (by assumption))))))))) | exact Ne.symm (And.left (And.right (And.right (And.right (And.right (And.right (And.right (And.right (by assumption))))))))) | exact Nat.ne_of_gt (And.right (And.right (And.right (And.right (And.right (And.right (And.right (by assumption)))))))) | exact Nat.ne_of_lt (And.right (And.right (And.right (And.right (And.right (And.right (And.right (by assumption)))))))) | exact (And.right (And.right (And.right (And.right (And.right (And.right (And.right (by assumption)))))))) | exact Ne.symm (And.right (And.right (And.right (And.right (And.right (And.right (And.right (by assumption)))))))))
  k_with "call builtin:next" => k_dflt (refine' list_next (x := Value.int _ _) (by assumption) (by assumption) (isList_news (by assumption) (List.Mem.tail _ (List.Mem.head _))) (by rfl) (one_ne (by assumption)) ?_; intro h' F' N'; k_sweep)
  k_with "binaryOp BitAnd int int" => k_dflt (first | (refine and_as (and63a (by assumption)) ?_; intro _) | (refine and_as (and64a (by assumption)) ?_; intro _) | (refine and_as (and63b (by assumption)) ?_; intro _) | (refine and_as (and64b (by assumption)) ?_; intro _))
  k_with "exec While" => refine wpAny_While (while_turn ?_)
  k_with "codeAny" => refine while_turn ?_
  refine' enterN (binds := [(Str.ofString "iterator", .ref I)]) X T F N ?k6 ?k7 ?k8 ?k9 ?kB ?_ ?c2 ?c3 ?c4 ?c5
  case k6 => k_is
  case k7 => k_is
  case k8 => exact Nat.lt_of_le_of_lt (Nat.le_add_right _ _) hd
  case k9 => exact BindsTo.of_eq rfl
  case kB => exact locs rfl
  case c2 => exact rfl
  case c3 => exact rfl
  case c4 => exact rfl
  case c5 => decide
  clear F N X T
  intro g L' h₁ tk F N X T
  k_fold
  k_steps
  rename Fr _ _ _ _ => F'
  rename News _ _ _ _ => N'
  refine ⟨_, _, F', N', fun F _ => ?_⟩
  have := ret
  rw [← or6 hb] at this
  exact this _ _ _ F
end Mine
end
noncomputable section
open PySem PySem.W PyProof.Rows PySem.Calls
set_option maxRecDepth 100000
set_option maxHeartbeats 8000000
namespace Mine
/-- the figures of the pressed switches, joined -/
noncomputable def pick (fs : List Nat) (c off : Nat) : Nat → Nat
  | 0 => 0
  | k + 1 => if c.testBit k then pick fs c off k ^^^ fs.getD (2 * k + off) 0 else pick fs c off k
noncomputable def JS (fs : List Nat) (c : Nat) (l : Addr) (tc : Tok) (i : Nat) (m : Str → Option Value) (nx : List (Addr × Obj)) : Prop :=
  nx = [] ∧ (∃ t, m (Str.ofString "high") = some (.int (pick fs c 0 i : Nat) t)) ∧ (∃ t, m (Str.ofString "low") = some (.int (pick fs c 1 i : Nat) t)) ∧
    m (Str.ofString "figures") = some (.ref l) ∧ m (Str.ofString "choice") = some (.int (c : Int) tc)
theorem getD_lt {fs : List Nat} (h : ∀ x ∈ fs, x < 64) (k : Nat) : fs.getD k 0 < 64 := by
  rw [List.getD_eq_getElem?_getD]
  cases e : fs[k]? with
  | none => simp
  | some x => exact h x (List.mem_of_getElem? e)
theorem pick_lt {fs : List Nat} (h : ∀ x ∈ fs, x < 64) (c off : Nat) : ∀ k, pick fs c off k < 64
  | 0 => by simp [pick]
  | k + 1 => by
    unfold pick
    split
    · exact Nat.xor_lt_two_pow (n := 6) (pick_lt h c off k) (getD_lt h _)
    · exact pick_lt h c off k
theorem pick_set {fs : List Nat} {c off i : Nat} (h : c.testBit i = true) {j : Int} (hj : j = ((2 * i + off : Nat) : Int)) : Builtin.bitXor (pick fs c off i : Nat) ((fs.map fun (n : Nat) => (n : Int)).getD j.toNat 0) = ((pick fs c off (i + 1) : Nat) : Int) := by
  rw [hj, Int.toNat_natCast, getD_cast, bitXor_nat]; simp only [pick, h, if_true]
theorem pick_clear {fs : List Nat} {c off i : Nat} (h : c.testBit i = false) : ((pick fs c off i : Nat) : Int) = ((pick fs c off (i + 1) : Nat) : Int) := by
  simp only [pick, h, Bool.false_eq_true, if_false]
theorem setting (w : World) (mean : ExcName → Option Value) (mg mb : Str → Option Value) (fs : List Nat) (vs : List Value) (c : Nat) (l : Addr) (tc : Tok)
  (hfs : fs.length = 8) (hf64 : ∀ x ∈ fs, x < 64) (hc : c < 16)
  (dp un : Nat) (fr : Option (List Env)) (gd : Option (List Code)) (s : Shared) (Q E : Value → Shared → Prop)
  (hd : dp + 2 < recursionLimit) (hu : un + 40 < cLine) (X : (Mine.hd.heap_39 w.params).In s.heap)
  (T : Top Mine.hd.view_39 (looseW Mine.hd.view_39 [Str.ofString "COMPILER_FLAG_NAMES", Str.ofString "b2a_base64", Str.ofString "b64encode", Str.ofString "_filemode_table"]) mean mg mb s.heap)
  (hl : s.heap.IsList l vs.toArray) (hi : IntsAre vs (fs.map fun (n : Nat) => (n : Int)))
  (ret : ∀ t h' tk', Grow s.heap h' → Q (.int ((pick fs c 0 4 * 64 + pick fs c 1 4 : Nat) : Int) t) { s with heap := h', toks := tk' }) :
  wpAny (model PySem.Challenge.rw_om0021_01.row.prog w) ⟨none, dp, fr, gd, un⟩ (call (.ref 144) [.ref l, .int (c : Int) tc]) Q E s := by
  revert X; k_fill; intro X
  k_with_none
  w_top off
  k_with "ne" => with_reducible (first | assumption | exact Ne.symm (by assumption) | exact Nat.ne_of_gt (by assumption) | exact Nat.ne_of_lt (by assumption) | exact Nat.ne_of_gt (Nat.lt_succ_self _) | exact Nat.ne_of_lt (Nat.lt_succ_self _) | exact Nat.ne_of_gt (Nat.lt_succ_of_lt (Nat.lt_succ_self _)) | exact Nat.ne_of_lt (Nat.lt_succ_of_lt (Nat.lt_succ_self _)) | exact Nat.ne_of_gt (Nat.lt_succ_of_lt (Nat.lt_succ_of_lt (Nat.lt_succ_self _))) | exact Nat.ne_of_lt (Nat.lt_succ_of_lt (Nat.lt_succ_of_lt (Nat.lt_succ_self _))) | exact Nat.ne_of_gt (Nat.lt_succ_of_lt (Nat.lt_succ_of_lt (Nat.lt_succ_of_lt (Nat.lt_succ_self _)))) | exact Nat.ne_of_lt (Nat.lt_succ_of_lt (Nat.lt_succ_of_lt (Nat.lt_succ_of_lt (Nat.lt_succ_self _)))) | exact Nat.ne_of_gt (And.left (by assumption)) | exact Nat.ne_of_lt (And.left (by assumption)) | exact (And.left (by assumption)) | exact Ne.symm (And.left (by assumption)) | exact Nat.ne_of_gt (And.left (And.right (by assumption))) | exact Nat.ne_of_lt (And.left (And.right (by assumption))) | exact (And.left (And.right (by assumption))) | exact Ne.symm (And.left (And.right (by assumption))) | exact Nat.ne_of_gt (And.right (by assumption)) | exact Nat.ne_of_lt (And.right (by assumption)) | exact (And.right (by assumption)) | exact Ne.symm (And.right (by assumption)) | exact Nat.ne_of_gt (And.left (And.right (And.right (by assumption)))) | exact Nat.ne_of_lt (And.left (And.right (And.right (by assumption)))) | exact (And.left (And.right (And.right (by assumption)))) | exact Ne.symm (And.left (And.right (And.right (by assumption)))) | exact Nat.ne_of_gt (And.right (And.right (by assumption))) | exact Nat.ne_of_lt (And.right (And.right (by assumption))) | exact (And.right (And.right (by assumption))) | exact Ne.symm (And.right (And.right (by assumption))) | exact Nat.ne_of_gt (And.left (And.right (And.right (And.right (by assumption))))) | exact Nat.ne_of_lt (And.left (And.right (And.right (And.right (by assumption))))) | exact (And.left (And.right (And.right (And.right (by assumption))))) | exact Ne.symm (And.left (And.right (And.right (And.right (by assumption))))) | exact Nat.ne_of_gt (And.right (And.right (And.right (by assumption)))) | exact Nat.ne_of_lt (And.right (And.right (And.right (by assumption)))) | exact (And.right (And.right (And.right (by assumption)))) | exact Ne.symm (And.right (And.right (And.right (by assumption)))) | exact Nat.ne_of_gt (And.left (And.right (And.right (And.right (And.right (by assumption)))))) | exact Nat.ne_of_lt (And.left (And.right (And.right (And.right (And.right (by assumption)))))) | exact (And.left (And.right (And.right (And.right (And.right (by assumption)))))) | exact Ne.symm (And.left (And.right (And.right (And.right (And.right (by assumption)))))) | exact Nat.ne_of_gt (And.right (And.right (And.right (And.right (by assumption))))) | exact Nat.ne_of_lt (And.right (And.right (And.right (And.right (by assumption))))) | exact (And.right (And.right (And.right (And.right (by assumption))))) | exact Ne.symm (And.right (And.right (And.right (And.right (by assumption))))) | exact Nat.ne_of_gt (And.left (And.right (And.right (And.right (And.right (And.right (by assumption))))))) | exact Nat.ne_of_lt (And.left (And.right (And.right (And.right (And.right (And.right (by assumption))))))) | exact (And.left (And.right (And.right (And.right (And.right (And.right (by assumption))))))) | exact Ne.symm (And.left (And.right (And.right (And.right (And.right (And.right (by assumption))))))) | exact Nat.ne_of_gt (And.right (And.right (And.right (And.right (And.right (by assumption)))))) | exact Nat.ne_of_lt (And.right (And.right (And.right (And.right (And.right (by assumption)))))) | exact (And.right (And.right (And.right (And.right (And.right (by assumption)))))) | exact Ne.symm (And.right (And.right (And.right (And.right (And.right (by assumption)))))) | exact Nat.ne_of_gt (And.left (And.right (And.right (And.right (And.right (And.right (And.right (by assumption)))))))) | exact Nat.ne_of_lt (And.left (And.right (And.right (And.right (And.right (And.right (And.right (by assumption)))))))) | exact (And.left (And.right (And.right (And.right (And.right (And.right (And.right (by assumption)))))))) | exact Ne.symm (And.left (And.right (And.right (And.right (And.right (And.right (And.right (by assumption)))))))) | exact Nat.ne_of_gt (And.right (And.right (And.right (And.right (And.right (And.right (by assumption))))))) | exact Nat.ne_of_lt (And.right (And.right (And.right (And.right (And.right (And.right (by assumption))))))) | exact (And.right (And.right (And.right (And.right (And.right (And.right (by assumption))))))) | exact Ne.symm (And.right (And.right (And.right (And.right (And.right (And.right (by assumption))))))) | exact Nat.ne_of_gt (And.left (And.right (And.right (And.right (And.right (And.right (And.right (And.right (by assumption))))))))) | exact Nat.ne_of_lt (And.left (And.right (And.right (And.right (And.right (And.right (And.right (And.right (by assumption))))))))) | exact (And.left (And.right (And.right (And.right (And.right (And.right (And.right (And.right (by assumption))))))))) | exact Ne.symm (And.left (And.right (And.right (And.right (And.right (And.right (And.right (And.right (by assumption))))))))) | exact Nat.ne_of_gt (And.right (And.right (And.right (And.right (And.right (And.right (And.right (by assumption)))))))) | exact Nat.ne_of_lt (And.right (And.right (And.right (And.right (And.right (And.right (And.right (by assumption)))))))) | exact (And.right (And.right (And.right (And.right (And.right (And.right (And.right (by assumption)))))))) | exact Ne.symm (And.right (And.right (And.right (And.right (And.right (And.right (And.right (by assumption)))))))))
  k_with "to for" => repeat ((fail_if_success (with_reducible show wpAny _ _ (exec (Stmt.For _ _ _ _ _) _) _ _ _)); first | (k_unfold; (try dsimp only)) | walk1 | (dsimp only; walk1))
  k_with "to iter" => repeat ((fail_if_success (with_reducible show wpAny _ _ (pyIter _) _ _ _)); first | (k_unfold; (try dsimp only)) | walk1 | (dsimp only; walk1))
  k_with "call builtin:iter" => k_dflt (refine list_iter (by assumption) (by assumption) (isList_news (by assumption) (List.Mem.head _)) ?_; intro I' h' F' N' l1; k_sweep)
  refine' enter (binds := [(Str.ofString "figures", .ref l), (Str.ofString "choice", .int (c : Int) tc)]) X T ?k6 ?k7 ?k8 ?k9 ?kB ?_ ?c2 ?c3 ?c4 ?c5
  case k6 => k_is
  case k7 => k_is
  case k8 => exact Nat.lt_of_le_of_lt (Nat.le_add_right _ _) hd
  case k9 => exact BindsTo.of_eq rfl
  case kB => exact locs rfl
  case c2 => exact rfl
  case c3 => exact rfl
  case c4 => exact rfl
  case c5 => decide
  intro L h₁ tk F N
  k_fold
  walk_at "to for"
  refine wpAny_For ?_
  k_fold
  walk_at "to iter"
  rename IsRange _ _ _ _ _ _ _ _ => hr
  rename Fr _ _ _ _ => F1
  rename News _ _ _ _ => N1
  refine rangeFor (news := []) (cs := _) (n := 4) (JS fs c l tc) (by rfl) hr (by decide) (by decide) (by rfl) (by rfl) F1 N1 ?h0 ?turn ?done
  case h0 => exact ⟨rfl, ⟨_, rfl⟩, ⟨_, rfl⟩, rfl, rfl⟩
  case turn =>
    rintro i t m₁ news₁ h tk own hi' - ho ⟨rfl, ⟨t1, hh⟩, ⟨t2, hlo⟩, hfg, hch⟩ F2 N2
    rw [map4 hh hlo hfg hch] at F2
    simp only [List.cons_append, List.nil_append] at N2
    clear F1 N1 hr
    k_fold
    k_steps
    · rename _ ≠ (0 : Int) => hb
      rename Fr _ _ _ _ => F'
      rename News _ _ _ _ => N'
      exact inv0 F' N' ⟨rfl, int_as (by rfl) (pick_set (shr_set hb) rfl), int_as (by rfl) (pick_set (shr_set hb) rfl), rfl, rfl⟩
    · rename _ = (0 : Int) => hb
      rename Fr _ _ _ _ => F'
      rename News _ _ _ _ => N'
      exact inv0 F' N' ⟨rfl, int_as (by rfl) (pick_clear (shr_clear hb)), int_as (by rfl) (pick_clear (shr_clear hb)), rfl, rfl⟩
  case done =>
    rintro m₁ news₁ h tk ⟨rfl, ⟨t1, hh⟩, ⟨t2, hlo⟩, hfg, hch⟩ F2 N2
    rw [map4 hh hlo hfg hch] at F2
    simp only [List.cons_append, List.nil_append] at N2
    clear F1 N1 hr
    k_fold
    k_steps
    rename Fr _ _ _ _ => F'
    rename News _ _ _ _ => N'
    rename ∀ p ∈ _, _ < _ => hlt
    refine varint w mean mg mb (pick fs c 0 4) (pick fs c 1 4) _ _ (pick_lt hf64 _ _ _) (pick_lt hf64 _ _ _) _ _ _ _ _ _ _ s.heap L _ _ _ _ hd (show un + 23 < _ from Nat.lt_of_le_of_lt (Nat.add_le_add_left (by decide) un) hu) X T F'
      (fun p hp => N' p (List.mem_append_left (bs := [_]) hp)) (Nat.ne_of_gt (hlt _ (.head _))) ?_
    intro t h' tk' F9
    k_unfold
    exact ret _ _ _ F9.keep
end Mine
end
noncomputable section
open PySem PySem.W PyProof.Rows PySem.Calls
set_option maxRecDepth 100000
set_option maxHeartbeats 8000000
namespace Mine
noncomputable def JL (ks : List (Nat × Nat)) (x : Nat) (D : Addr) (i : Nat) (m : Str → Option Value) (nx : List (Addr × Obj)) : Prop :=
  nx = [] ∧ (∃ y : Nat, (∃ t, m (Str.ofString "switch") = some (.int (y : Int) t)) ∧ y < 4096 ∧ leftN ks (12 - i) y = leftN ks 12 x) ∧ m (Str.ofString "kept") = some (.ref D)
theorem left_call {w : World} {mean : ExcName → Option Value} {mg mb : Str → Option Value} {n : Nat} {tn : Tok} 
  {dp un : Nat} {fr : Option (List Env)} {gd : Option (List Code)} {s : Shared} {Q E : Value → Shared → Prop} {h₀ : Heap} {L : Addr} {m : Str → Option Value} {news : List (Addr × Obj)}
  (F : Fr h₀ L s.heap m) (N : News h₀ L s.heap news) (X : (Mine.hd.heap_39 w.params).In h₀)
  (T : Top Mine.hd.view_39 (looseW Mine.hd.view_39 [Str.ofString "COMPILER_FLAG_NAMES", Str.ofString "b2a_base64", Str.ofString "b64encode", Str.ofString "_filemode_table"]) mean mg mb h₀) (h1 : n < 4096)
  (hd : dp + 1 < recursionLimit) (hu : un + 20 < cLine)
  (ret : ∀ t h' tk', Fr h₀ L h' m → News h₀ L h' news → Q (.str (prettyS n) t) { s with heap := h', toks := tk' }) :
  wpAny (model PySem.Challenge.rw_om0021_01.row.prog w) ⟨none, dp, fr, gd, un⟩ (call (.ref 29) [.int (n : Int) tn]) Q E s :=
  pretty w mean mg mb n tn h1 dp un fr gd s Q E hd hu (X.keeps F.keep) (T.keeps F.keep) fun t h' tk' g => ret t h' tk' (fr_grow F g) (news_grow N g)
section
variable {prog : Program} {w : World} {A : Around} {E : Value → Shared → Prop} {s : Shared} {h₀ : Heap} {L D : Addr} {m : Str → Option Value} {news : List (Addr × Obj)} {y : Nat} {t u : Tok} {Q : Value → Shared → Prop} {ks : List (Nat × Nat)} {v : Nat}
theorem prettyS_fit (h1 : y < 4096) : (prettyS y).length + 2 ≤ sizeLine := by
  unfold prettyS
  split
  · decide
  · unfold Txt.join
    rw [PySem.size_glued, sep_len, sizeLine_eq]
    have h2 := wordsTo_len y 12
    exact Nat.le_trans (Nat.add_le_add_right (Nat.add_le_add (Nat.le_trans (wordsTo_sum y 12) (Nat.mul_le_mul_left 18 h2)) (Nat.mul_le_mul_right 2 (Nat.le_trans (Nat.sub_le _ _) h2))) 2) (by decide)
theorem split_call (F : Fr h₀ L s.heap m) (N : News h₀ L s.heap news) (h0 : y ≠ 0) (h1 : y < 4096)
    (h : ∀ t' vs h' k (I : Addr), Fr h₀ L h' m → News h₀ L h' ((I, listOf (Value.str (word (low y)) t' :: vs).toArray 0) :: news) → Q (.ref I) { s with heap := h', toks := k }) :
    wpAny (model prog w) A (call (.builtin "str.split") [.str (prettyS y) t, .str (Str.ofString ", ") u]) Q E s := by
  refine splitN1A F N (by decide) (fun l h' k e _ _ _ F' N' => ?_) (prettyS_fit h1)
  have hf := pretty_first h0 h1
  rw [← e] at hf
  cases l with
  | nil => cases hf
  | cons p r =>
    obtain ⟨a, t'⟩ := p
    have ha : a = word (low y) := by simpa using hf
    subst ha
    exact h t' (strValues r) h' k _ F' N'
theorem notin_none (T : StrTab prog w h₀ D (tabOf ks)) (F : Fr h₀ L s.heap m) (hks : KsOk ks) (h0 : y ≠ 0) (h1 : y < 4096) (hs : seek ks (low y) = none) (h : Q (.bool true) { s with toks := s.toks + 1 }) :
    wpAny (model prog w) A (compareOp .NotIn (.str (word (low y)) t) (.ref D)) Q E s :=
  notin_strTab (T.keep F.keep) (by rw [lookup_tab (low_spec h0 h1).1 hks, hs]; exact h)
theorem notin_some (T : StrTab prog w h₀ D (tabOf ks)) (F : Fr h₀ L s.heap m) (hks : KsOk ks) (h0 : y ≠ 0) (h1 : y < 4096) (hs : seek ks (low y) = some v) (h : Q (.bool false) { s with toks := s.toks + 1 }) :
    wpAny (model prog w) A (compareOp .NotIn (.str (word (low y)) t) (.ref D)) Q E s :=
  notin_strTab (T.keep F.keep) (by rw [lookup_tab (low_spec h0 h1).1 hks, hs]; exact h)
theorem notin_empty (T : StrTab prog w h₀ D (tabOf ks)) (F : Fr h₀ L s.heap m) (hks : KsOk ks) (h : Q (.bool true) { s with toks := s.toks + 1 }) :
    wpAny (model prog w) A (compareOp .NotIn (.str (Str.ofString "") t) (.ref D)) Q E s :=
  notin_strTab (T.keep F.keep) (by rw [lookup_empty hks]; exact h)
theorem item_some {value slice : PySem.Expr} (T : StrTab prog w h₀ D (tabOf ks)) (F : Fr h₀ L s.heap m) (hks : KsOk ks) (h0 : y ≠ 0) (h1 : y < 4096) (hs : seek ks (low y) = some v) (h : ∀ t', Q (.int (v : Int) t') { s with toks := s.toks + 1 })
    (hq : subscripted slice false (.ref D) (.str (word (low y)) t) = operate [.ref D, .str (word (low y)) t] (getItem (.ref D) (.str (word (low y)) t))) (hg : ∀ r, letTemporaryGo value (.ref D) r = pure ()) :
    wpAny (model prog w) A (subscriptTail value slice (.ref D) (.str (word (low y)) t)) Q E s :=
  item_strTab (T.keep F.keep) (dv := .int (v : Int)) (by rw [lookup_tab (low_spec h0 h1).1 hks, hs]; rfl) (fun v' hv => by obtain ⟨t', rfl⟩ := PyProof.V.Flat.int_inv hv; exact h t') hq hg
end
theorem sub_name {n : Str} {p : Pos} {D : Addr} {x : Str} {t : Tok} : subscripted (.Name n p) false (.ref D) (.str x t) = operate [.ref D, .str x t] (getItem (.ref D) (.str x t)) := by with_unfolding_all rfl
theorem let_name {n : Str} {p : Pos} {D : Addr} : ∀ r, letTemporaryGo (.Name n p) (.ref D) r = pure () := by intro _; with_unfolding_all rfl
theorem lawleft (w : World) (mean : ExcName → Option Value) (mg mb : Str → Option Value) (ks : List (Nat × Nat)) (x : Nat) (D : Addr) (tx : Tok)
  (hks : KsOk ks) (hx : x < 4096)
  (dp un : Nat) (fr : Option (List Env)) (gd : Option (List Code)) (s : Shared) (Q E : Value → Shared → Prop)
  (hd : dp + 2 < recursionLimit) (hu : un + 40 < cLine) (X : (Mine.hd.heap_39 w.params).In s.heap)
  (T : Top Mine.hd.view_39 (looseW Mine.hd.view_39 [Str.ofString "COMPILER_FLAG_NAMES", Str.ofString "b2a_base64", Str.ofString "b64encode", Str.ofString "_filemode_table"]) mean mg mb s.heap)
  (hT : StrTab PySem.Challenge.rw_om0021_01.row.prog w s.heap D (tabOf ks))
  (ret : ∀ t h' tk', Grow s.heap h' → Q (.int ((leftN ks 12 x : Nat) : Int) t) { s with heap := h', toks := tk' }) :
  wpAny (model PySem.Challenge.rw_om0021_01.row.prog w) ⟨none, dp, fr, gd, un⟩ (call (.ref 156) [.int (x : Int) tx, .ref D]) Q E s := by
  revert X; k_fill; intro X
  k_with_none
  w_top off
  k_with "ne" => with_reducible (first | assumption | exact Ne.symm (by assumption) | exact Nat.ne_of_gt (by assumption) | exact Nat.ne_of_lt (by assumption) | exact Nat.ne_of_gt (Nat.lt_succ_self _) | exact Nat.ne_of_lt (Nat.lt_succ_self _) | exact Nat.ne_of_gt (Nat.lt_succ_of_lt (Nat.lt_succ_self _)) | exact Nat.ne_of_lt (Nat.lt_succ_of_lt (Nat.lt_succ_self _)) | exact Nat.ne_of_gt (Nat.lt_succ_of_lt (Nat.lt_succ_of_lt (Nat.lt_succ_self _))) | exact Nat.ne_of_lt (Nat.lt_succ_of_lt (Nat.lt_succ_of_lt (Nat.lt_succ_self _))) | exact Nat.ne_of_gt (Nat.lt_succ_of_lt (Nat.lt_succ_of_lt (Nat.lt_succ_of_lt (Nat.lt_succ_self _)))) | exact Nat.ne_of_lt (Nat.lt_succ_of_lt (Nat.lt_succ_of_lt (Nat.lt_succ_of_lt (Nat.lt_succ_self _)))) | exact Nat.ne_of_gt (And.left (by assumption)) | exact Nat.ne_of_lt (And.left (by assumption)) | exact (And.left (by assumption)) | exact Ne.symm (And.left (by assumption)) | exact Nat.ne_of_gt (And.left (And.right (by assumption))) | exact Nat.ne_of_lt (And.left (And.right (by assumption))) | exact (And.left (And.right (by assumption))) | exact Ne.symm (And.left (And.right (by assumption))) | exact Nat.ne_of_gt (And.right (by assumption)) | exact Nat.ne_of_lt (And.right (by assumption)) | exact (And.right (by assumption)) | exact Ne.symm (And.right (by assumption)) | exact Nat.ne_of_gt (And.left (And.right (And.right (by assumption)))) | exact Nat.ne_of_lt (And.left (And.right (And.right (by assumption)))) | exact (And.left (And.right (And.right (by assumption)))) | exact Ne.symm (And.left (And.right (And.right (by assumption)))) | exact Nat.ne_of_gt (And.right (And.right (by assumption))) | exact Nat.ne_of_lt (And.right (And.right (by assumption))) | exact (And.right (And.right (by assumption))) | exact Ne.symm (And.right (And.right (by assumption))) | exact Nat.ne_of_gt (And.left (And.right (And.right (And.right (by assumption))))) | exact Nat.ne_of_lt (And.left (And.right (And.right (And.right (by assumption))))) | exact (And.left (And.right (And.right (And.right (by assumption))))) | exact Ne.symm (And.left (And.right (And.right (And.right (by assumption))))) | exact Nat.ne_of_gt (And.right (And.right (And.right (by assumption)))) | exact Nat.ne_of_lt (And.right (And.right (And.right (by assumption)))) | exact (And.right (And.right (And.right (by assumption)))) | exact Ne.symm (And.right (And.right (And.right (by assumption)))) | exact Nat.ne_of_gt (And.left (And.right (And.right (And.right (And.right (by assumption)))))) | exact Nat.ne_of_lt (And.left (And.right (And.right (And.right (And.right (by assumption)))))) | exact (And.left (And.right (And.right (And.right (And.right (by assumption)))))) | exact Ne.symm (And.left (And.right (And.right (And.right (And.right (by assumption)))))) | exact Nat.ne_of_gt (And.right (And.right (And.right (And.right (by assumption))))) | exact Nat.ne_of_lt (And.right (And.right (And.right (And.right (by assumption))))) | exact (And.right (And.right (And.right (And.right (by assumption))))) | exact Ne.symm (And.right (And.right (And.right (And.right (by assumption))))) | exact Nat.ne_of_gt (And.left (And.right (And.right (And.right (And.right (And.right (by assumption))))))) | exact Nat.ne_of_lt (And.left (And.right (And.right (And.right (And.right (And.right (by assumption))))))) | exact (And.left (And.right (And.right (And.right (And.right (And.right (by assumption))))))) | exact Ne.symm (And.left (And.right (And.right (And.right (And.right (And.right (by assumption))))))) | exact Nat.ne_of_gt (And.right (And.right (And.right (And.right (And.right (by assumption)))))) | exact Nat.ne_of_lt (And.right (And.right (And.right (And.right (And.right (by assumption)))))) | exact (And.right (And.right (And.right (And.right (And.right (by assumption)))))) | exact Ne.symm (And.right (And.right (And.right (And.right (And.right (by assumption)))))) | exact Nat.ne_of_gt (And.left (And.right (And.right (And.right (And.right (And.right (And.right (by assumption)))))))) | exact Nat.ne_of_lt (And.left (And.right (And.right (And.right (And.right (And.right (And.right (by assumption)))))))) | exact (And.left (And.right (And.right (And.right (And.right (And.right (And.right (by assumption)))))))) | exact Ne.symm (And.left (And.right (And.right (And.right (And.right (And.right (And.right (by assumption)))))))) | exact Nat.ne_of_gt (And.right (And.right (And.right (And.right (And.right (And.right (by assumption))))))) | exact Nat.ne_of_lt (And.right (And.right (And.right (And.right (And.right (And.right (by assumption))))))) | exact (And.right (And.right (And.right (And.right (And.right (And.right (by assumption))))))) | exact Ne.symm (And.right (And.right (And.right (And.right (And.right (And.right (by assumption))))))) | exact Nat.ne_of_gt (And.left (And.right (And.right (And.right (And.right (And.right (And.right (And.right (by assumption))))))))) | exact Nat.ne_of_lt (And.left (And.right (And.right (And.right (And.right (And.right (And.right (And.right (by assumption))))))))) | exact (And.left (And.right (And.right (And.right (And.right (And.right (And.right (And.right (by assumption))))))))) | exact Ne.symm (And.left (And.right (And.right (And.right (And.right (And.right (And.right (And.right (by assumption))))))))) | exact Nat.ne_of_gt (And.right (And.right (And.right (And.right (And.right (And.right (And.right (by assumption)))))))) | exact Nat.ne_of_lt (And.right (And.right (And.right (And.right (And.right (And.right (And.right (by assumption)))))))) | exact (And.right (And.right (And.right (And.right (And.right (And.right (And.right (by assumption)))))))) | exact Ne.symm (And.right (And.right (And.right (And.right (And.right (And.right (And.right (by assumption)))))))))
  k_with "to for" => repeat ((fail_if_success (with_reducible show wpAny _ _ (exec (Stmt.For _ _ _ _ _) _) _ _ _)); first | (k_unfold; (try dsimp only)) | walk1 | (dsimp only; walk1))
  k_with "to iter" => repeat ((fail_if_success (with_reducible show wpAny _ _ (pyIter _) _ _ _)); first | (k_unfold; (try dsimp only)) | walk1 | (dsimp only; walk1))
  k_with "call ref" => k_dflt (refine' left_call (by assumption) (by assumption) (by assumption) (by assumption) (by assumption) (by (first | exact roomD (by assumption) (by rfl) | exact roomU (by assumption) (by rfl))) (by (first | exact roomD (by assumption) (by rfl) | exact roomU (by assumption) (by rfl))) ?_; intro t' h' tk' F' N'; k_sweep)
  k_with "call builtin:str.split" => k_dflt ((with_reducible show wpAny _ _ (call _ [Value.str (prettyS _) _, _]) _ _ _); refine split_call (by assumption) (by assumption) (by assumption) (by assumption) ?_; intro t' vs' h' k' I' F' N'; k_sweep)
  k_with "compareOp NotIn str ref" => k_dflt (first | ((with_reducible show wpAny _ _ (compareOp _ (Value.str (word (low _)) _) _) _ _ _); first | refine notin_none (by assumption) (by assumption) (by assumption) (by assumption) (by assumption) (by assumption) ?_ | refine notin_some (by assumption) (by assumption) (by assumption) (by assumption) (by assumption) (by assumption) ?_ ) | ((with_reducible show wpAny _ _ (compareOp _ (Value.str (PySem.Str.ofString "") _) _) _ _ _); refine notin_empty (by assumption) (by assumption) (by assumption) ?_))
  k_with "subscriptTail" => k_dflt ((with_reducible show wpAny _ _ (subscriptTail _ _ (Value.ref _) (Value.str (word (low _)) _)) _ _ _); refine item_some (by assumption) (by assumption) (by assumption) (by assumption) (by assumption) (by assumption) ?_ sub_name let_name; intro t')
  refine' enter (binds := [(Str.ofString "switch", .int (x : Int) tx), (Str.ofString "kept", .ref D)]) X T ?k6 ?k7 ?k8 ?k9 ?kB ?_ ?c2 ?c3 ?c4 ?c5
  case k6 => k_is
  case k7 => k_is
  case k8 => exact Nat.lt_of_le_of_lt (Nat.le_add_right _ _) hd
  case k9 => exact BindsTo.of_eq rfl
  case kB => exact locs rfl
  case c2 => exact rfl
  case c3 => exact rfl
  case c4 => exact rfl
  case c5 => decide
  intro L h₁ tk F N
  k_fold
  walk_at "to for"
  refine wpAny_For ?_
  k_fold
  walk_at "to iter"
  rename IsRange _ _ _ _ _ _ _ _ => hr
  rename Fr _ _ _ _ => F1
  rename News _ _ _ _ => N1
  refine rangeFor (news := []) (cs := []) (n := 12) (JL ks x D) (by rfl) hr (by decide) (by decide) (by rfl) (by rfl) F1 N1 ?h0 ?turn ?done
  case h0 => exact ⟨rfl, ⟨x, ⟨tx, rfl⟩, hx, rfl⟩, rfl⟩
  case turn =>
    rintro i t m₁ news₁ h tk own hi' - ho ⟨rfl, ⟨y, ⟨ty, hsw⟩, hy, hyl⟩, hkp⟩ F2 N2
    rw [map2 hsw hkp] at F2
    simp only [List.cons_append, List.nil_append] at N2
    clear F1 N1 hr
    k_fold
    by_cases h0 : y = 0
    · rw [h0, show ((0 : Nat) : Int) = 0 from rfl] at F2
      k_steps
      rename Fr _ _ _ _ => F'
      have e : leftN ks 12 x = 0 := by rw [← hyl, h0]; exact leftN_nil _ _
      rw [e] at ret
      exact ret _ _ _ F'.keep
    · have h0' := nz' h0
      cases hsk : seek ks (low y) with
      | none =>
        have e : leftN ks 12 x = y := by rw [← hyl]; exact leftN_stop hsk _
        rw [e] at ret
        k_steps
        · rename Fr _ _ _ _ => F'
          exact ret _ _ _ F'.keep
        · rename _ = (0 : Int) => hz
          exact absurd hz h0'
      | some v =>
        k_steps
        · rename Fr _ _ _ _ => F'
          rename News _ _ _ _ => N'
          refine inv0 F' (fun p hp => N' p (List.mem_cons_of_mem _ hp)) ⟨rfl, ⟨y ^^^ v, int_as (by rfl) (bitXor_nat y v), Nat.xor_lt_two_pow (n := 12) hy (hks _ (seek_mem hsk)).2, ?_⟩, rfl⟩
          · rw [← hyl, show 12 - i = (12 - (i + 1)) + 1 from (Nat.succ_pred_eq_of_pos (Nat.sub_pos_of_lt hi')).symm, leftN_go h0 hsk]
        · rename _ = (0 : Int) => hz
          exact absurd hz h0'
  case done =>
    rintro m₁ news₁ h tk ⟨rfl, ⟨y, ⟨ty, hsw⟩, hy, hyl⟩, hkp⟩ F2 N2
    rw [map2 hsw hkp] at F2
    simp only [List.cons_append, List.nil_append] at N2
    clear F1 N1 hr
    k_fold
    k_steps
    have e : leftN ks 12 x = y := by rw [← hyl]; exact leftN_0 _ _
    rw [e] at ret
    exact ret _ _ _ F2.keep
end Mine
end
noncomputable section
open PySem PySem.W PyProof.Rows PySem.Calls
set_option maxRecDepth 100000
set_option maxHeartbeats 4000000
namespace Mine
noncomputable abbrev PG : Program := PySem.Challenge.rw_om0021_01.row.prog
/-- the kept ones in the ledger -/
noncomputable def KeptAt (w : World) (o : Obj) (ks : List (Nat × Nat)) : Prop := ∃ kvs, o.IsDictOf (PySem.strKind PySem.Challenge.rw_om0021_01.row.prog w) kvs ∧ PyProof.V.FlatPairs PyData.str kvs (tabOf ks)
theorem kept_call {w : World} {mean : ExcName → Option Value} {mg mb : Str → Option Value} {ks : List (Nat × Nat)} {x : Nat} {tx : Tok} {D : Addr} {o : Obj}
  {dp un : Nat} {fr : Option (List Env)} {gd : Option (List Code)} {s : Shared} {Q E : Value → Shared → Prop} {h₀ : Heap} {L : Addr} {m : Str → Option Value} {news : List (Addr × Obj)}
  (F : Fr h₀ L s.heap m) (N : News h₀ L s.heap news) (X : (Mine.hd.heap_39 w.params).In h₀)
  (T : Top Mine.hd.view_39 (looseW Mine.hd.view_39 [Str.ofString "COMPILER_FLAG_NAMES", Str.ofString "b2a_base64", Str.ofString "b64encode", Str.ofString "_filemode_table"]) mean mg mb h₀)
  (hm : (D, o) ∈ news) (hD : KeptAt w o ks) (lo : (D == sysModules) = false) (hks : KsOk ks) (hx : x < 4096)
  (hd : dp + 2 < recursionLimit) (hu : un + 40 < cLine)
  (ret : ∀ t h' tk', Fr h₀ L h' m → News h₀ L h' news → Q (.int ((leftN ks 12 x : Nat) : Int) t) { s with heap := h', toks := tk' }) :
  wpAny (model PySem.Challenge.rw_om0021_01.row.prog w) ⟨none, dp, fr, gd, un⟩ (call (.ref 156) [.int (x : Int) tx, .ref D]) Q E s := by
  obtain ⟨kvs, hd1, hf1⟩ := hD
  exact lawleft w mean mg mb ks x D tx hks hx dp un fr gd s Q E hd hu (X.keeps F.keep) (T.keeps F.keep) (TabAt.ofObj lo (N _ hm).1 hd1 hf1) fun t h' tk' g => ret t h' tk' (fr_grow F g) (news_grow N g)
theorem put_call {w : World} {A : Around} {E : Value → Shared → Prop} {s : Shared} {h₀ : Heap} {L D : Addr} {m : Str → Option Value} {own : List (Addr × Obj)} {o : Obj} {ks : List (Nat × Nat)} {j v : Nat} {t u : Tok} {Q : Unit → Shared → Prop}
    (F : Fr h₀ L s.heap m) (N : News h₀ L s.heap ((D, o) :: own)) (hap : ∀ p ∈ own, p.1 ≠ D) (hK : KeptAt w o ks) (hok : KsOk ks) (hj : j < 12) (hlen : ks.length ≤ 100)
    (h : ∀ h' o', Fr h₀ L h' m → News h₀ L h' ((D, o') :: own) → KeptAt w o' (putK ks j v) → Q () { s with heap := h', toks := s.toks + 1 }) :
    wpAny (model PySem.Challenge.rw_om0021_01.row.prog w) A (setItem (.ref D) (.str (word j) t) (.int (v : Int) u)) Q E s := by
  obtain ⟨kvs, h1, h2⟩ := hK
  refine PyProof.Rows.setItem_made_str (PyProof.V.Flat.int _ _) F N hap h1 h2 (fun h' o' F' N' d1 d2 => h h' o' F' N' ⟨_, d1, ?_⟩) (by rw [tabOf_len, sizeLine_eq]; exact Nat.le_trans hlen (by decide))
  rw [putD_tab hok hj] at d2
  exact d2
noncomputable def JK (w : World) (as : List Nat) (D : Addr) (i : Nat) (m : Str → Option Value) (nx : List (Addr × Obj)) : Prop :=
  ∃ o, nx = [(D, o)] ∧ KeptAt w o (keptN (as.take i)) ∧ KsOk (keptN (as.take i)) ∧ (keptN (as.take i)).length ≤ i ∧ m (Str.ofString "kept") = some (.ref D)
theorem lawkept (w : World) (mean : ExcName → Option Value) (mg mb : Str → Option Value) (as : List Nat) (vs : List Value) (l : Addr)
  (has : as.length = 4) (ha : ∀ x ∈ as, x < 4096)
  (dp un : Nat) (fr : Option (List Env)) (gd : Option (List Code)) (s : Shared) (Q E : Value → Shared → Prop)
  (hd : dp + 3 < recursionLimit) (hu : un + 60 < cLine) (X : (Mine.hd.heap_39 w.params).In s.heap)
  (T : Top Mine.hd.view_39 (looseW Mine.hd.view_39 [Str.ofString "COMPILER_FLAG_NAMES", Str.ofString "b2a_base64", Str.ofString "b64encode", Str.ofString "_filemode_table"]) mean mg mb s.heap)
  (hl : s.heap.IsList l vs.toArray) (hi : IntsAre vs (as.map fun (n : Nat) => (n : Int)))
  (ret : ∀ D o h' tk', Grow s.heap h' → s.heap.get? D = none → h'.get? D = some o → KeptAt w o (keptN as) → (D == sysModules) = false → Q (.ref D) { s with heap := h', toks := tk' }) :
  wpAny (model PySem.Challenge.rw_om0021_01.row.prog w) ⟨none, dp, fr, gd, un⟩ (call (.ref 163) [.ref l]) Q E s := by
  revert X; k_fill; intro X
  k_with_none
  w_top off
  k_with "ne" => with_reducible (first | assumption | exact Ne.symm (by assumption) | exact Nat.ne_of_gt (by assumption) | exact Nat.ne_of_lt (by assumption) | exact Nat.ne_of_gt (Nat.lt_succ_self _) | exact Nat.ne_of_lt (Nat.lt_succ_self _) | exact Nat.ne_of_gt (Nat.lt_succ_of_lt (Nat.lt_succ_self _)) | exact Nat.ne_of_lt (Nat.lt_succ_of_lt (Nat.lt_succ_self _)) | exact Nat.ne_of_gt (Nat.lt_succ_of_lt (Nat.lt_succ_of_lt (Nat.lt_succ_self _))) | exact Nat.ne_of_lt (Nat.lt_succ_of_lt (Nat.lt_succ_of_lt (Nat.lt_succ_self _))) | exact Nat.ne_of_gt (Nat.lt_succ_of_lt (Nat.lt_succ_of_lt (Nat.lt_succ_of_lt (Nat.lt_succ_self _)))) | exact Nat.ne_of_lt (Nat.lt_succ_of_lt (Nat.lt_succ_of_lt (Nat.lt_succ_of_lt (Nat.lt_succ_self _)))) | exact Nat.ne_of_gt (And.left (by assumption)) | exact Nat.ne_of_lt (And.left (by assumption)) | exact (And.left (by assumption)) | exact Ne.symm (And.left (by assumption)) | exact Nat.ne_of_gt (And.left (And.right (by assumption))) | exact Nat.ne_of_lt (And.left (And.right (by assumption))) | exact (And.left (And.right (by assumption))) | exact Ne.symm (And.left (And.right (by assumption))) | exact Nat.ne_of_gt (And.right (by assumption)) | exact Nat.ne_of_lt (And.right (by assumption)) | exact (And.right (by assumption)) | exact Ne.symm (And.right (by assumption)) | exact Nat.ne_of_gt (And.left (And.right (And.right (by assumption)))) | exact Nat.ne_of_lt (And.left (And.right (And.right (by assumption)))) | exact (And.left (And.right (And.right (by assumption)))) | exact Ne.symm (And.left (And.right (And.right (by assumption)))) | exact Nat.ne_of_gt (And.right (And.right (by assumption))) | exact Nat.ne_of_lt (And.right (And.right (by assumption))) | exact (And.right (And.right (by assumption))) | exact Ne.symm (And.right (And.right (by assumption))) | exact Nat.ne_of_gt (And.left (And.right (And.right (And.right (by assumption))))) | exact Nat.ne_of_lt (And.left (And.right (And.right (And.right (by assumption))))) | exact (And.left (And.right (And.right (And.right (by assumption))))) | exact Ne.symm (And.left (And.right (And.right (And.right (by assumption))))) | exact Nat.ne_of_gt (And.right (And.right (And.right (by assumption)))) | exact Nat.ne_of_lt (And.right (And.right (And.right (by assumption)))) | exact (And.right (And.right (And.right (by assumption)))) | exact Ne.symm (And.right (And.right (And.right (by assumption)))) | exact Nat.ne_of_gt (And.left (And.right (And.right (And.right (And.right (by assumption)))))) | exact Nat.ne_of_lt (And.left (And.right (And.right (And.right (And.right (by assumption)))))) | exact (And.left (And.right (And.right (And.right (And.right (by assumption)))))) | exact Ne.symm (And.left (And.right (And.right (And.right (And.right (by assumption)))))) | exact Nat.ne_of_gt (And.right (And.right (And.right (And.right (by assumption))))) | exact Nat.ne_of_lt (And.right (And.right (And.right (And.right (by assumption))))) | exact (And.right (And.right (And.right (And.right (by assumption))))) | exact Ne.symm (And.right (And.right (And.right (And.right (by assumption))))) | exact Nat.ne_of_gt (And.left (And.right (And.right (And.right (And.right (And.right (by assumption))))))) | exact Nat.ne_of_lt (And.left (And.right (And.right (And.right (And.right (And.right (by assumption))))))) | exact (And.left (And.right (And.right (And.right (And.right (And.right (by assumption))))))) | exact Ne.symm (And.left (And.right (And.right (And.right (And.right (And.right (by assumption))))))) | exact Nat.ne_of_gt (And.right (And.right (And.right (And.right (And.right (by assumption)))))) | exact Nat.ne_of_lt (And.right (And.right (And.right (And.right (And.right (by assumption)))))) | exact (And.right (And.right (And.right (And.right (And.right (by assumption)))))) | exact Ne.symm (And.right (And.right (And.right (And.right (And.right (by assumption)))))) | exact Nat.ne_of_gt (And.left (And.right (And.right (And.right (And.right (And.right (And.right (by assumption)))))))) | exact Nat.ne_of_lt (And.left (And.right (And.right (And.right (And.right (And.right (And.right (by assumption)))))))) | exact (And.left (And.right (And.right (And.right (And.right (And.right (And.right (by assumption)))))))) | exact Ne.symm (And.left (And.right (And.right (And.right (And.right (And.right (And.right (by assumption)))))))) | exact Nat.ne_of_gt (And.right (And.right (And.right (And.right (And.right (And.right (by assumption))))))) | exact Nat.ne_of_lt (And.right (And.right (And.right (And.right (And.right (And.right (by assumption))))))) | exact (And.right (And.right (And.right (And.right (And.right (And.right (by assumption))))))) | exact Ne.symm (And.right (And.right (And.right (And.right (And.right (And.right (by assumption))))))) | exact Nat.ne_of_gt (And.left (And.right (And.right (And.right (And.right (And.right (And.right (And.right (by assumption))))))))) | exact Nat.ne_of_lt (And.left (And.right (And.right (And.right (And.right (And.right (And.right (And.right (by assumption))))))))) | exact (And.left (And.right (And.right (And.right (And.right (And.right (And.right (And.right (by assumption))))))))) | exact Ne.symm (And.left (And.right (And.right (And.right (And.right (And.right (And.right (And.right (by assumption))))))))) | exact Nat.ne_of_gt (And.right (And.right (And.right (And.right (And.right (And.right (And.right (by assumption)))))))) | exact Nat.ne_of_lt (And.right (And.right (And.right (And.right (And.right (And.right (And.right (by assumption)))))))) | exact (And.right (And.right (And.right (And.right (And.right (And.right (And.right (by assumption)))))))) | exact Ne.symm (And.right (And.right (And.right (And.right (And.right (And.right (And.right (by assumption)))))))))
  k_with "to for" => repeat ((fail_if_success (with_reducible show wpAny _ _ (exec (Stmt.For _ _ _ _ _) _) _ _ _)); first | (k_unfold; (try dsimp only)) | walk1 | (dsimp only; walk1))
  k_with "to iter" => repeat ((fail_if_success (with_reducible show wpAny _ _ (pyIter _) _ _ _)); first | (k_unfold; (try dsimp only)) | walk1 | (dsimp only; walk1))
  k_with "call builtin:str.split" => k_dflt ((with_reducible show wpAny _ _ (call _ [Value.str (prettyS _) _, _]) _ _ _); refine split_call (by assumption) (by assumption) (nz (by assumption)) (by assumption) ?_; intro t' vs' h' k' I' F' N'; k_sweep)
  k_with "call ref" => k_dflt ((with_reducible show wpAny _ _ (call (Value.ref 29) _) _ _ _); refine' left_call (by assumption) (by assumption) (by assumption) (by assumption) (by assumption) (by (first | exact roomD (by assumption) (by rfl) | exact roomU (by assumption) (by rfl))) (by (first | exact roomD (by assumption) (by rfl) | exact roomU (by assumption) (by rfl))) ?_; intro t' h' tk' F' N'; k_sweep)
  k_with "call ref" => k_dflt ((with_reducible show wpAny _ _ (call (Value.ref 156) _) _ _ _); refine' kept_call (by assumption) (by assumption) (by assumption) (by assumption) (by k_mem) (by assumption) (by assumption) (by assumption) (by assumption) (by (first | exact roomD (by assumption) (by rfl) | exact roomU (by assumption) (by rfl))) (by (first | exact roomD (by assumption) (by rfl) | exact roomU (by assumption) (by rfl))) ?_; intro t' h' tk' F' N'; k_sweep)
  refine' enter (binds := [(Str.ofString "switches", .ref l)]) X T ?k6 ?k7 ?k8 ?k9 ?kB ?_ ?c2 ?c3 ?c4 ?c5
  case k6 => k_is
  case k7 => k_is
  case k8 => exact Nat.lt_of_le_of_lt (Nat.le_add_right _ _) hd
  case k9 => exact BindsTo.of_eq rfl
  case kB => exact locs rfl
  case c2 => exact rfl
  case c3 => exact rfl
  case c4 => exact rfl
  case c5 => decide
  intro L h₁ tk F N
  k_fold
  walk_at "to for"
  refine wpAny_For ?_
  k_fold
  walk_at "to iter"
  rename Fr _ _ _ _ => F1
  rename News _ _ _ [(_, _)] => N1
  rename Obj.IsDictOf (PySem.strKind _ _) _ [] => hs1
  rename (_ == sysModules) = false => lo1
  obtain ⟨ol, hol, _⟩ := id hl
  have hlL : l < L := Nat.lt_of_lt_of_le (Heap.lt_size hol) F1.above
  have hne := news_off N1 hol
  obtain ⟨D, o1, eD, eo⟩ := named1 N1
  subst eD; subst eo
  refine listFor (news := [(D, o1)]) (cs := []) (JK w as D) (by rfl) (hl.at fun o e => F1.keep l o e) (Nat.ne_of_lt hlL) hne (by rfl) (by rfl) F1 N1 ?h0 ?turn ?done
  case h0 => exact ⟨_, rfl, ⟨[], hs1, by rw [List.take_zero, keptN_nil]; exact .nil⟩, by rw [List.take_zero, keptN_nil]; exact (fun p hp => nomatch hp), by rw [List.take_zero, keptN_nil]; simp, rfl⟩
  case turn =>
    rintro i v m₁ news₁ h tk own hi' hv - ho ⟨o, rfl, hK, hok, hlen, hkp⟩ F2 N2
    rw [List.getElem?_eq_getElem hi'] at hv
    obtain ⟨a, ha', tv, rfl⟩ : ∃ a : Nat, as[i]? = some a ∧ ∃ tv, v = .int (a : Int) tv := by
      have hlen' : vs.length = as.length := by rw [hi.length, List.length_map]
      have hi4 : i < as.length := Nat.lt_of_lt_of_eq hi' hlen'
      obtain ⟨t, ht⟩ := hi.get i ((as[i] : Nat) : Int) (by simp [hi4])
      rw [List.getElem?_eq_getElem hi'] at ht
      exact ⟨as[i], by simp [hi4], t, by rw [← Option.some.inj hv, Option.some.inj ht]⟩
    have hi4 : i < 4 := Nat.lt_of_lt_of_eq hi' ((hi.length.trans (List.length_map _)).trans has)
    have ha4 : a < 4096 := ha a (List.mem_of_getElem? ha')
    have hl4 := leftN_lt hok 12 ha4
    have hsn : as.take (i + 1) = as.take i ++ [a] := by rw [List.take_add_one, ha']; rfl
    have hsnoc := keptN_snoc (as.take i) a
    rw [← hsn] at hsnoc
    generalize keptN (as.take i) = ks at hK hok hlen hl4 hsnoc
    rw [map1 hkp] at F2
    simp only [List.cons_append, List.nil_append] at N2
    clear F1 N1 hv
    show wpAny _ _ _ _ _ _
    k_fold
    k_steps
    · rename (_ : Int) ≠ 0 => hz
      rename Fr _ _ _ _ => F'
      rename News _ _ _ _ => N'
      have hz' := nz hz
      rw [if_neg hz'] at hsnoc
      have hj := (low_spec hz' hl4).1
      refine put_call F' (fun p hp => N' p (.tail _ hp)) (OwnOff.ne ho (by simp)) hK hok hj (Nat.le_trans hlen (Nat.le_trans (Nat.le_of_lt hi4) (by decide))) fun h9 o9 F9 N9 K9 => ?_
      clear F' N'
      dsimp only
      k_steps
      refine inv1 F9 N9 ⟨o9, rfl, by rw [hsnoc]; exact K9, by rw [hsnoc]; exact putK_ok hok hj hl4, by rw [hsnoc]; exact Nat.le_trans (putK_len _ _ _) (Nat.succ_le_succ hlen), rfl⟩
    · rename (_ : Int) = 0 => hz
      rename Fr _ _ _ _ => F'
      rename News _ _ _ _ => N'
      have hz' := z0 hz
      rw [if_pos hz'] at hsnoc
      refine inv1 F' N' ⟨o, rfl, by rw [hsnoc]; exact hK, by rw [hsnoc]; exact hok, by rw [hsnoc]; exact Nat.le_succ_of_le hlen, rfl⟩
  case done =>
    rintro m₁ news₁ h tk ⟨o, rfl, hK, hok, hlen, hkp⟩ F2 N2
    have hlen' : vs.length = as.length := by rw [hi.length, List.length_map]
    rw [hlen', List.take_length] at hK
    rw [map1 hkp] at F2
    simp only [List.cons_append, List.nil_append] at N2
    clear F1 N1
    show wpAny _ _ _ _ _ _
    k_fold
    k_steps
    exact ret D o _ _ F2.keep (N2 _ (.head _)).2.2 (N2 _ (.head _)).1 hK lo1
end Mine
end
noncomputable section
open PySem PySem.W PyProof.Rows PySem.Calls
set_option maxRecDepth 100000
set_option maxHeartbeats 4000000
namespace Mine
theorem len_made {prog : Program} {w : World} {A : Around} {E : Value → Shared → Prop} {s : Shared} {h₀ : Heap} {L D : Addr} {vs : List Value} {k : Nat} {news : List (Addr × Obj)} {Q : Value → Shared → Prop}
    (N : News h₀ L s.heap news) (hm : (D, listOf vs.toArray k) ∈ news) (hf : vs.length ≤ 4096) (h : ∀ t, Q (.int (vs.length : Nat) t) { s with toks := s.toks + 1 + 1 }) : wpAny (model prog w) A (call (.builtin "len") [.ref D]) Q E s :=
  len_list (isList_news N hm) (by rw [List.size_toArray]; exact Int.lt_of_le_of_lt (Int.ofNat_le.mpr hf) (by decide)) (by rw [List.size_toArray]; exact h _)
theorem neg1 (d : Nat) : (-1 + (d : Int)).toNat = d - 1 := by rw [Int.add_comm]; exact Int.toNat_sub d 1
theorem neg2 (d : Nat) : (-2 + (d : Int)).toNat = d - 2 := by rw [Int.add_comm]; exact Int.toNat_sub d 2
theorem mod_toNat (x : Int) {m : Int} (hm : m ≠ 0) : x % m = ((x % m).toNat : Int) := (Int.toNat_of_nonneg (Int.emod_nonneg _ hm)).symm
theorem neg_in {d u i : Nat} {k : Int} (h : 1 < (u : Int)) (hu : u = i) (hd : d = i) (hk : k ≤ 2) : -(d : Int) ≤ -k := by
  subst hd; subst hu; exact Int.neg_le_neg (Int.le_trans hk h)
theorem one_lt {u : Nat} (h : 1 < (u : Int)) : 1 < u := Int.ofNat_lt.mp h
noncomputable def JD (ns : List Int) (D : Addr) (i : Nat) (m : Str → Option Value) (nx : List (Addr × Obj)) : Prop :=
  ∃ us k, nx = [(D, listOf us.toArray k)] ∧ IntsAre us ((drawnN (ns.take i)).map fun (n : Nat) => (n : Int)) ∧ m (Str.ofString "switches") = some (.ref D)
theorem lawdrawn (w : World) (mean : ExcName → Option Value) (mg mb : Str → Option Value) (ns : List Int) (vs : List Value) (l : Addr)
  (has : ns.length = 4)
  (dp un : Nat) (fr : Option (List Env)) (gd : Option (List Code)) (s : Shared) (Q E : Value → Shared → Prop)
  (hd : dp + 1 < recursionLimit) (hu : un + 20 < cLine) (X : (Mine.hd.heap_39 w.params).In s.heap)
  (T : Top Mine.hd.view_39 (looseW Mine.hd.view_39 [Str.ofString "COMPILER_FLAG_NAMES", Str.ofString "b2a_base64", Str.ofString "b64encode", Str.ofString "_filemode_table"]) mean mg mb s.heap)
  (hl : s.heap.IsList l vs.toArray) (hi : IntsAre vs ns)
  (ret : ∀ D us k h' tk', Grow s.heap h' → s.heap.get? D = none → h'.get? D = some (listOf us.toArray k) → IntsAre us ((drawnN ns).map fun (n : Nat) => (n : Int)) → Q (.ref D) { s with heap := h', toks := tk' }) :
  wpAny (model PySem.Challenge.rw_om0021_01.row.prog w) ⟨none, dp, fr, gd, un⟩ (call (.ref 132) [.ref l]) Q E s := by
  revert X; k_fill; intro X
  k_with_none
  w_top off
  k_with "ne" => with_reducible (first | assumption | exact Ne.symm (by assumption) | exact Nat.ne_of_gt (by assumption) | exact Nat.ne_of_lt (by assumption) | exact Nat.ne_of_gt (Nat.lt_succ_self _) | exact Nat.ne_of_lt (Nat.lt_succ_self _) | exact Nat.ne_of_gt (Nat.lt_succ_of_lt (Nat.lt_succ_self _)) | exact Nat.ne_of_lt (Nat.lt_succ_of_lt (Nat.lt_succ_self _)) | exact Nat.ne_of_gt (Nat.lt_succ_of_lt (Nat.lt_succ_of_lt (Nat.lt_succ_self _))) | exact Nat.ne_of_lt (Nat.lt_succ_of_lt (Nat.lt_succ_of_lt (Nat.lt_succ_self _))) | exact Nat.ne_of_gt (Nat.lt_succ_of_lt (Nat.lt_succ_of_lt (Nat.lt_succ_of_lt (Nat.lt_succ_self _)))) | exact Nat.ne_of_lt (Nat.lt_succ_of_lt (Nat.lt_succ_of_lt (Nat.lt_succ_of_lt (Nat.lt_succ_self _)))) | exact Nat.ne_of_gt (And.left (by assumption)) | exact Nat.ne_of_lt (And.left (by assumption)) | exact (And.left (by assumption)) | exact Ne.symm (And.left (by assumption)) | exact Nat.ne_of_gt (And.left (And.right (by assumption))) | exact Nat.ne_of_lt (And.left (And.right (by assumption))) | exact (And.left (And.right (by assumption))) | exact Ne.symm (And.left (And.right (by assumption))) | exact Nat.ne_of_gt (And.right (by assumption)) | exact Nat.ne_of_lt (And.right (by assumption)) | exact (And.right (by assumption)) | exact Ne.symm (And.right (by assumption)) | exact Nat.ne_of_gt (And.left (And.right (And.right (by assumption)))) | exact Nat.ne_of_lt (And.left (And.right (And.right (by assumption)))) | exact (And.left (And.right (And.right (by assumption)))) | exact Ne.symm (And.left (And.right (And.right (by assumption)))) | exact Nat.ne_of_gt (And.right (And.right (by assumption))) | exact Nat.ne_of_lt (And.right (And.right (by assumption))) | exact (And.right (And.right (by assumption))) | exact Ne.symm (And.right (And.right (by assumption))) | exact Nat.ne_of_gt (And.left (And.right (And.right (And.right (by assumption))))) | exact Nat.ne_of_lt (And.left (And.right (And.right (And.right (by assumption))))) | exact (And.left (And.right (And.right (And.right (by assumption))))) | exact Ne.symm (And.left (And.right (And.right (And.right (by assumption))))) | exact Nat.ne_of_gt (And.right (And.right (And.right (by assumption)))) | exact Nat.ne_of_lt (And.right (And.right (And.right (by assumption)))) | exact (And.right (And.right (And.right (by assumption)))) | exact Ne.symm (And.right (And.right (And.right (by assumption)))) | exact Nat.ne_of_gt (And.left (And.right (And.right (And.right (And.right (by assumption)))))) | exact Nat.ne_of_lt (And.left (And.right (And.right (And.right (And.right (by assumption)))))) | exact (And.left (And.right (And.right (And.right (And.right (by assumption)))))) | exact Ne.symm (And.left (And.right (And.right (And.right (And.right (by assumption)))))) | exact Nat.ne_of_gt (And.right (And.right (And.right (And.right (by assumption))))) | exact Nat.ne_of_lt (And.right (And.right (And.right (And.right (by assumption))))) | exact (And.right (And.right (And.right (And.right (by assumption))))) | exact Ne.symm (And.right (And.right (And.right (And.right (by assumption))))) | exact Nat.ne_of_gt (And.left (And.right (And.right (And.right (And.right (And.right (by assumption))))))) | exact Nat.ne_of_lt (And.left (And.right (And.right (And.right (And.right (And.right (by assumption))))))) | exact (And.left (And.right (And.right (And.right (And.right (And.right (by assumption))))))) | exact Ne.symm (And.left (And.right (And.right (And.right (And.right (And.right (by assumption))))))) | exact Nat.ne_of_gt (And.right (And.right (And.right (And.right (And.right (by assumption)))))) | exact Nat.ne_of_lt (And.right (And.right (And.right (And.right (And.right (by assumption)))))) | exact (And.right (And.right (And.right (And.right (And.right (by assumption)))))) | exact Ne.symm (And.right (And.right (And.right (And.right (And.right (by assumption)))))) | exact Nat.ne_of_gt (And.left (And.right (And.right (And.right (And.right (And.right (And.right (by assumption)))))))) | exact Nat.ne_of_lt (And.left (And.right (And.right (And.right (And.right (And.right (And.right (by assumption)))))))) | exact (And.left (And.right (And.right (And.right (And.right (And.right (And.right (by assumption)))))))) | exact Ne.symm (And.left (And.right (And.right (And.right (And.right (And.right (And.right (by assumption)))))))) | exact Nat.ne_of_gt (And.right (And.right (And.right (And.right (And.right (And.right (by assumption))))))) | exact Nat.ne_of_lt (And.right (And.right (And.right (And.right (And.right (And.right (by assumption))))))) | exact (And.right (And.right (And.right (And.right (And.right (And.right (by assumption))))))) | exact Ne.symm (And.right (And.right (And.right (And.right (And.right (And.right (by assumption))))))) | exact Nat.ne_of_gt (And.left (And.right (And.right (And.right (And.right (And.right (And.right (And.right (by assumption))))))))) | exact Nat.ne_of_lt (And.left (And.right (And.right (And.right (And.right (And.right (And.right (And.right (by assumption))))))))) | exact (And.left (And.right (And.right (And.right (And.right (And.right (And.right (And.right (by assumption))))))))) | exact Ne.symm (And.left (And.right (And.right (And.right (And.right (And.right (And.right (And.right (by assumption))))))))) | exact Nat.ne_of_gt (And.right (And.right (And.right (And.right (And.right (And.right (And.right (by assumption)))))))) | exact Nat.ne_of_lt (And.right (And.right (And.right (And.right (And.right (And.right (And.right (by assumption)))))))) | exact (And.right (And.right (And.right (And.right (And.right (And.right (And.right (by assumption)))))))) | exact Ne.symm (And.right (And.right (And.right (And.right (And.right (And.right (And.right (by assumption)))))))))
  k_with "to for" => repeat ((fail_if_success (with_reducible show wpAny _ _ (exec (Stmt.For _ _ _ _ _) _) _ _ _)); first | (k_unfold; (try dsimp only)) | walk1 | (dsimp only; walk1))
  k_with "to iter" => repeat ((fail_if_success (with_reducible show wpAny _ _ (pyIter _) _ _ _)); first | (k_unfold; (try dsimp only)) | walk1 | (dsimp only; walk1))
  k_with "call builtin:list.append" => k_dflt (refine app_one (by assumption) (by assumption) (OwnOff.ne (by assumption) (by simp)) (by assumption) ?_; intro h' F' N'; k_sweep)
  k_with "call builtin:len" => k_dflt (refine' len_made (by assumption) (by k_mem) (by assumption) ?_; intro t')
  k_with "subscriptTail" => k_dflt ((with_reducible show wpAny _ _ (subscriptTail _ _ (Value.ref _) (Value.int _ _)) _ _ _); refine' item_list_ints_negR (isList_news (by assumption) (List.Mem.head _)) (by assumption) (by decide) (by (rw [List.length_map]; exact neg_in (by assumption) (by assumption) (by assumption) (by decide))) (by decide) ?_ (by with_unfolding_all rfl); intro t')
  refine' enter (binds := [(Str.ofString "numbers", .ref l)]) X T ?k6 ?k7 ?k8 ?k9 ?kB ?_ ?c2 ?c3 ?c4 ?c5
  case k6 => k_is
  case k7 => k_is
  case k8 => exact Nat.lt_of_le_of_lt (Nat.le_add_right _ _) hd
  case k9 => exact BindsTo.of_eq rfl
  case kB => exact locs rfl
  case c2 => exact rfl
  case c3 => exact rfl
  case c4 => exact rfl
  case c5 => decide
  intro L h₁ tk F N
  k_fold
  walk_at "to for"
  refine wpAny_For ?_
  k_fold
  walk_at "to iter"
  rename Fr _ _ _ _ => F1
  rename News _ _ _ [(_, _)] => N1
  obtain ⟨ol, hol, _⟩ := id hl
  have hlL : l < L := Nat.lt_of_lt_of_le (Heap.lt_size hol) F1.above
  have hne := news_off N1 hol
  obtain ⟨D, o1, eD, eo⟩ := named1 N1
  subst eD
  refine listFor (news := [(D, listOf #[] 0)]) (cs := []) (JD ns D) (by rfl) (hl.at fun o e => F1.keep l o e) (Nat.ne_of_lt hlL) hne (by rfl) (by rfl) F1 N1 ?h0 ?turn ?done
  case h0 => exact ⟨[], 0, rfl, by rw [List.take_zero, drawnN_nil]; exact .nil, rfl⟩
  case turn =>
    rintro i v m₁ news₁ h tk own hi' hv - ho ⟨us, k, rfl, hS, hsw⟩ F2 N2
    rw [List.getElem?_eq_getElem hi'] at hv
    obtain ⟨a, ha', tv, rfl⟩ : ∃ a : Int, ns[i]? = some a ∧ ∃ tv, v = .int a tv := by
      have hlen' : vs.length = ns.length := hi.length
      have hi4 : i < ns.length := Nat.lt_of_lt_of_eq hi' hlen'
      obtain ⟨t, ht⟩ := hi.get i ns[i] (by simp [hi4])
      rw [List.getElem?_eq_getElem hi'] at ht
      exact ⟨ns[i], by simp [hi4], t, by rw [← Option.some.inj hv, Option.some.inj ht]⟩
    have hi4 : i < 4 := Nat.lt_of_lt_of_eq hi' (hi.length.trans has)
    have hsn : ns.take (i + 1) = ns.take i ++ [a] := by rw [List.take_add_one, ha']; rfl
    have hsnoc := drawnN_snoc (ns.take i) a
    rw [← hsn] at hsnoc
    have hdl : (drawnN (ns.take i)).length = i := by rw [drawnN_len, List.length_take, has]; exact Nat.min_eq_left (Nat.le_of_lt hi4)
    have hul : us.length = i := by rw [hS.length, List.length_map, hdl]
    have hu4 : us.length ≤ 4096 := by rw [hul]; exact Nat.le_trans (Nat.le_of_lt hi4) (by decide)
    rw [map1 hsw] at F2
    simp only [List.cons_append, List.nil_append] at N2
    clear F1 N1 hv
    show wpAny _ _ _ _ _ _
    k_fold
    k_steps
    · rename 1 < ((us.length : Nat) : Int) => h1
      rename a.fmod 3 = 0 => h3
      rename Fr _ _ _ _ => F'
      rename News _ _ _ _ => N'
      have h3' : a % 3 = 0 := by rw [← Int.fmod_eq_emod_of_nonneg a (by decide)]; exact h3
      have h1' : 1 < (drawnN (ns.take i)).length := by rw [hdl, ← hul]; exact one_lt h1
      refine inv1 F' N' ⟨_, _, rfl, ?_, rfl⟩
      rw [hsnoc]; unfold drawStep; rw [if_pos ⟨h1', h3'⟩]
      refine ints_snoc ?_ hS
      rw [List.length_map, getD_cast, getD_cast, bitXor_nat, neg1, neg2]
    · rename a.fmod 3 ≠ 0 => h3
      rename Fr _ _ _ _ => F'
      rename News _ _ _ _ => N'
      have h3' : ¬ a % 3 = 0 := by rw [← Int.fmod_eq_emod_of_nonneg a (by decide)]; exact h3
      refine inv1 F' N' ⟨_, _, rfl, ?_, rfl⟩
      rw [hsnoc]; unfold drawStep; rw [if_neg (fun h => h3' h.2)]
      exact ints_snoc (by rw [Int.fmod_eq_emod_of_nonneg a (by decide)]; exact mod_toNat _ (by decide)) hS
    · rename ¬ 1 < ((us.length : Nat) : Int) => h1
      rename Fr _ _ _ _ => F'
      rename News _ _ _ _ => N'
      refine inv1 F' N' ⟨_, _, rfl, ?_, rfl⟩
      rw [hsnoc]; unfold drawStep; rw [if_neg (fun h => h1 (Int.ofNat_lt.mpr (by rw [hul, ← hdl]; exact h.1)))]
      exact ints_snoc (by rw [Int.fmod_eq_emod_of_nonneg a (by decide)]; exact mod_toNat _ (by decide)) hS
  case done =>
    rintro m₁ news₁ h tk ⟨us, k, rfl, hS, hsw⟩ F2 N2
    rw [hi.length, List.take_length] at hS
    rw [map1 hsw] at F2
    simp only [List.cons_append, List.nil_append] at N2
    clear F1 N1
    show wpAny _ _ _ _ _ _
    k_fold
    k_steps
    exact ret D us k _ _ F2.keep (N2 _ (.head _)).2.2 (N2 _ (.head _)).1 hS
end Mine
end
noncomputable section
open PySem PySem.W PyProof.Rows PySem.Calls
set_option maxRecDepth 100000
set_option maxHeartbeats 4000000
namespace Mine
noncomputable def tupO (vs : List Value) : Obj := { cls := .type "tuple", data := .seq vs.toArray }
theorem rowsK (P : Params) : (colTab.map fun r => (Mine.hd.heap_39 P).lookup r.1) = colTab.map fun r => some (tupO (r.2.map fun p => .ref p.1)) := by kernel_rfl
theorem pairsK (P : Params) : ((colTab.flatMap (·.2)).map fun p => (Mine.hd.heap_39 P).lookup p.1) = (colTab.flatMap (·.2)).map fun p => some (tupO [.int (p.2.1 : Int) p.2.2.1, .str p.2.2.2.1 p.2.2.2.2]) := by kernel_rfl
theorem topK (P : Params) : (Mine.hd.heap_39 P).lookup 106 = some (tupO (colTab.map fun r => .ref r.1)) := by kernel_rfl
theorem tab_top {w : World} {h : Heap} (X : (Mine.hd.heap_39 w.params).In h) : h.IsTuple 106 (colTab.map fun r => Value.ref r.1).toArray := ⟨_, X _ _ (topK _), rfl, 0, rfl⟩
theorem tab_row {w : World} {h : Heap} (X : (Mine.hd.heap_39 w.params).In h) {r : Addr × List (Addr × Nat × Tok × Str × Tok)} (hr : r ∈ colTab) : h.IsTuple r.1 (r.2.map fun p => Value.ref p.1).toArray :=
  ⟨_, X _ _ ((List.map_inj_left.mp (rowsK w.params)) r hr), rfl, 0, rfl⟩
theorem tab_pair {w : World} {h : Heap} (X : (Mine.hd.heap_39 w.params).In h) {r : Addr × List (Addr × Nat × Tok × Str × Tok)} (hr : r ∈ colTab) {p : Addr × Nat × Tok × Str × Tok} (hp : p ∈ r.2) : h.get? p.1 = some (tupO [.int (p.2.1 : Int) p.2.2.1, .str p.2.2.2.1 p.2.2.2.2]) :=
  X _ _ ((List.map_inj_left.mp (pairsK w.params)) p (List.mem_flatMap.mpr ⟨r, hr, hp⟩))
noncomputable def rowP (i : Nat) (j : Nat) (v0 v1 : Value) : Prop := ∃ p, (colRow i)[j]? = some p ∧ v0 = .int (p.2.1 : Int) p.2.2.1 ∧ v1 = .str p.2.2.2.1 p.2.2.2.2
theorem tab_rows {w : World} {h : Heap} (X : (Mine.hd.heap_39 w.params).In h) {i : Nat} {r : Addr × List (Addr × Nat × Tok × Str × Tok)} (hr : colTab[i]? = some r) :
    Rows2 h (r.2.map fun p => Value.ref p.1).toArray (r.2.map (·.1)) (rowP i) ∧ ∀ T ∈ r.2.map (·.1), ∃ o, h.get? T = some o := by
  have hm := List.mem_of_getElem? hr
  have hc : colRow i = r.2 := by unfold colRow; rw [List.getD_eq_getElem?_getD, hr]; rfl
  refine ⟨fun j hj => ?_, fun T hT => ?_⟩
  · have hj' : j < r.2.length := by simpa using hj
    have hp : r.2[j]? = some r.2[j] := by simp [hj']
    refine ⟨r.2[j].1, .int (r.2[j].2.1 : Int) r.2[j].2.2.1, .str r.2[j].2.2.2.1 r.2[j].2.2.2.2, by simp [hj'], List.mem_map.mpr ⟨_, List.mem_of_getElem? hp, rfl⟩, ⟨_, tab_pair X hm (List.mem_of_getElem? hp), rfl, 0, rfl⟩, ⟨_, by rw [hc]; exact hp, rfl, rfl⟩⟩
  · obtain ⟨p, hp, rfl⟩ := List.mem_map.mp hT
    exact ⟨_, tab_pair X hm hp⟩
theorem ifmt (w : World) (mean : ExcName → Option Value) (mg mb : Str → Option Value) (n : Nat) (tn : Tok) 
  (dp un : Nat) (fr : Option (List Env)) (gd : Option (List Code)) (s : Shared) (Q E : Value → Shared → Prop) (h₀ : Heap) (L : Addr) (m : Str → Option Value) (news : List (Addr × Obj))
  (F : Fr h₀ L s.heap m) (N : News h₀ L s.heap news)
  (hd : dp + 1 < recursionLimit) (X : (Mine.hd.heap_39 w.params).In h₀)
  (T : Top Mine.hd.view_39 (looseW Mine.hd.view_39 [Str.ofString "COMPILER_FLAG_NAMES", Str.ofString "b2a_base64", Str.ofString "b64encode", Str.ofString "_filemode_table"]) mean mg mb h₀)
  (ret : ∀ t h' tk', Fr h₀ L h' m → News h₀ L h' news → Q (.int ((n &&& 61440 : Nat) : Int) t) { s with heap := h', toks := tk' }) :
  wpAny (model PySem.Challenge.rw_om0021_01.row.prog w) ⟨none, dp, fr, gd, un⟩ (call (.ref 73) [.int (n : Int) tn]) Q E s := by
  k_with_none
  w_top off
  k_with "ne" => with_reducible (first | assumption | exact Ne.symm (by assumption) | exact Nat.ne_of_gt (by assumption) | exact Nat.ne_of_lt (by assumption) | exact Nat.ne_of_gt (Nat.lt_succ_self _) | exact Nat.ne_of_lt (Nat.lt_succ_self _) | exact Nat.ne_of_gt (Nat.lt_succ_of_lt (Nat.lt_succ_self _)) | exact Nat.ne_of_lt (Nat.lt_succ_of_lt (Nat.lt_succ_self _)) | exact Nat.ne_of_gt (Nat.lt_succ_of_lt (Nat.lt_succ_of_lt (Nat.lt_succ_self _))) | exact Nat.ne_of_lt (Nat.lt_succ_of_lt (Nat.lt_succ_of_lt (Nat.lt_succ_self _))) | exact Nat.ne_of_gt (Nat.lt_succ_of_lt (Nat.lt_succ_of_lt (Nat.lt_succ_of_lt (Nat.lt_succ_self _)))) | exact Nat.ne_of_lt (Nat.lt_succ_of_lt (Nat.lt_succ_of_lt (Nat.lt_succ_of_lt (Nat.lt_succ_self _)))) | exact Nat.ne_of_gt (And.left (by assumption)) | exact Nat.ne_of_lt (And.left (by assumption)) | exact (And.left (by assumption)) | exact Ne.symm (And.left (by assumption)) | exact Nat.ne_of_gt (And.left (And.right (by assumption))) | exact Nat.ne_of_lt (And.left (And.right (by assumption))) | exact (And.left (And.right (by assumption))) | exact Ne.symm (And.left (And.right (by assumption))) | exact Nat.ne_of_gt (And.right (by assumption)) | exact Nat.ne_of_lt (And.right (by assumption)) | exact (And.right (by assumption)) | exact Ne.symm (And.right (by assumption)) | exact Nat.ne_of_gt (And.left (And.right (And.right (by assumption)))) | exact Nat.ne_of_lt (And.left (And.right (And.right (by assumption)))) | exact (And.left (And.right (And.right (by assumption)))) | exact Ne.symm (And.left (And.right (And.right (by assumption)))) | exact Nat.ne_of_gt (And.right (And.right (by assumption))) | exact Nat.ne_of_lt (And.right (And.right (by assumption))) | exact (And.right (And.right (by assumption))) | exact Ne.symm (And.right (And.right (by assumption))) | exact Nat.ne_of_gt (And.left (And.right (And.right (And.right (by assumption))))) | exact Nat.ne_of_lt (And.left (And.right (And.right (And.right (by assumption))))) | exact (And.left (And.right (And.right (And.right (by assumption))))) | exact Ne.symm (And.left (And.right (And.right (And.right (by assumption))))) | exact Nat.ne_of_gt (And.right (And.right (And.right (by assumption)))) | exact Nat.ne_of_lt (And.right (And.right (And.right (by assumption)))) | exact (And.right (And.right (And.right (by assumption)))) | exact Ne.symm (And.right (And.right (And.right (by assumption)))) | exact Nat.ne_of_gt (And.left (And.right (And.right (And.right (And.right (by assumption)))))) | exact Nat.ne_of_lt (And.left (And.right (And.right (And.right (And.right (by assumption)))))) | exact (And.left (And.right (And.right (And.right (And.right (by assumption)))))) | exact Ne.symm (And.left (And.right (And.right (And.right (And.right (by assumption)))))) | exact Nat.ne_of_gt (And.right (And.right (And.right (And.right (by assumption))))) | exact Nat.ne_of_lt (And.right (And.right (And.right (And.right (by assumption))))) | exact (And.right (And.right (And.right (And.right (by assumption))))) | exact Ne.symm (And.right (And.right (And.right (And.right (by assumption))))) | exact Nat.ne_of_gt (And.left (And.right (And.right (And.right (And.right (And.right (by assumption))))))) | exact Nat.ne_of_lt (And.left (And.right (And.right (And.right (And.right (And.right (by assumption))))))) | exact (And.left (And.right (And.right (And.right (And.right (And.right (by assumption))))))) | exact Ne.symm (And.left (And.right (And.right (And.right (And.right (And.right (by assumption))))))) | exact Nat.ne_of_gt (And.right (And.right (And.right (And.right (And.right (by assumption)))))) | exact Nat.ne_of_lt (And.right (And.right (And.right (And.right (And.right (by assumption)))))) | exact (And.right (And.right (And.right (And.right (And.right (by assumption)))))) | exact Ne.symm (And.right (And.right (And.right (And.right (And.right (by assumption)))))) | exact Nat.ne_of_gt (And.left (And.right (And.right (And.right (And.right (And.right (And.right (by assumption)))))))) | exact Nat.ne_of_lt (And.left (And.right (And.right (And.right (And.right (And.right (And.right (by assumption)))))))) | exact (And.left (And.right (And.right (And.right (And.right (And.right (And.right (by assumption)))))))) | exact Ne.symm (And.left (And.right (And.right (And.right (And.right (And.right (And.right (by assumption)))))))) | exact Nat.ne_of_gt (And.right (And.right (And.right (And.right (And.right (And.right (by assumption))))))) | exact Nat.ne_of_lt (And.right (And.right (And.right (And.right (And.right (And.right (by assumption))))))) | exact (And.right (And.right (And.right (And.right (And.right (And.right (by assumption))))))) | exact Ne.symm (And.right (And.right (And.right (And.right (And.right (And.right (by assumption))))))) | exact Nat.ne_of_gt (And.left (And.right (And.right (And.right (And.right (And.right (And.right (And.right (by assumption))))))))) | exact Nat.ne_of_lt (And.left (And.right (And.right (And.right (And.right (And.right (And.right (And.right (by assumption))))))))) | exact (And.left (And.right (And.right (And.right (And.right (And.right (And.right (And.right (by assumption))))))))) | exact Ne.symm (And.left (And.right (And.right (And.right (And.right (And.right (And.right (And.right (by assumption))))))))) | exact Nat.ne_of_gt (And.right (And.right (And.right (And.right (And.right (And.right (And.right (by assumption)))))))) | exact Nat.ne_of_lt (And.right (And.right (And.right (And.right (And.right (And.right (And.right (by assumption)))))))) | exact (And.right (And.right (And.right (And.right (And.right (And.right (And.right (by assumption)))))))) | exact Ne.symm (And.right (And.right (And.right (And.right (And.right (And.right (And.right (by assumption)))))))))
  have X' := X.keeps F.keep
  have T' := T.keeps F.keep
  clear X T
  revert X'; k_fill; intro X'
  refine' enter (binds := [(Str.ofString "mode", .int (n : Int) tn)]) X' T' ?k6 ?k7 ?k8 ?k9 ?kB ?_ ?c2 ?c3 ?c4 ?c5
  case k6 => k_is
  case k7 => k_is
  case k8 => exact Nat.lt_of_le_of_lt (Nat.le_add_right _ _) hd
  case k9 => exact BindsTo.of_eq rfl
  case kB => exact locs rfl
  case c2 => exact rfl
  case c3 => exact rfl
  case c4 => exact rfl
  case c5 => decide
  intro L' h₁ tk F9 N9
  rename Fr h₀ _ _ _ => F0
  have ret' : ∀ t h' tk', Grow s.heap h' → Q (.int (Builtin.bitAnd (n : Int) 61440) t) { s with heap := h', toks := tk' } := fun t h' tk' g => by
    rw [show (61440 : Int) = ((61440 : Nat) : Int) from rfl, bitAnd_nat]; exact ret t h' tk' (fr_grow F0 g) (news_grow N g)
  clear ret F0 N
  show wpAny _ _ _ _ _ _
  k_fold
  k_steps
  exact ret' _ _ _ F9.keep
theorem off2 {own own2 : List (Addr × Obj)} {D : Addr} (h1 : OwnOff own [D]) (h2 : OwnOff own2 [D]) : ∀ p ∈ own ++ own2, p.1 ≠ D := fun p hp =>
  (List.mem_append.mp hp).elim (fun h => h1 p h D (by simp)) (fun h => h2 p h D (by simp))
theorem news_drop2 {h₀ h : Heap} {L : Addr} {a : Addr × Obj} {own own2 : List (Addr × Obj)} (N : News h₀ L h (a :: (own ++ own2))) : News h₀ L h (a :: own) := fun p hp =>
  N p (by rcases List.mem_cons.mp hp with rfl | h; exact .head _; exact .tail _ (List.mem_append_left _ h))
theorem snoc_col {vs : List Value} {n i : Nat} {c : Str} {t : Tok} (hS : StrsAre vs ((List.range i).map (colSign n))) (e : colSign n i = c) : StrsAre (vs ++ [.str c t]) ((List.range (i + 1)).map (colSign n)) := by
  rw [List.range_succ, List.map_append, ← e]; exact strs_snoc hS
noncomputable def JF (n : Nat) (tn : Tok) (D : Addr) (i : Nat) (m : Str → Option Value) (nx : List (Addr × Obj)) : Prop :=
  ∃ vs k, nx = [(D, listOf vs.toArray k)] ∧ StrsAre vs ((List.range i).map (colSign n)) ∧ m (Str.ofString "perm") = some (.ref D) ∧ m (Str.ofString "mode") = some (.int (n : Int) tn)
noncomputable def JF2 (n : Nat) (tn : Tok) (D : Addr) (i : Nat) (ti : Tok) (vs : List Value) (k : Nat) (j : Nat) (m : Str → Option Value) (nx : List (Addr × Obj)) : Prop :=
  nx = [(D, listOf vs.toArray k)] ∧ (∀ q ∈ (colRow i).take j, colTest i n q.2.1 = false) ∧ m (Str.ofString "perm") = some (.ref D) ∧ m (Str.ofString "mode") = some (.int (n : Int) tn) ∧ m (Str.ofString "index") = some (.int (i : Int) ti)
theorem filem (w : World) (mean : ExcName → Option Value) (mg mb : Str → Option Value) (n : Nat) (tn : Tok)
  (dp un : Nat) (fr : Option (List Env)) (gd : Option (List Code)) (s : Shared) (Q E : Value → Shared → Prop)
  (hd : dp + 2 < recursionLimit) (hu : un + 40 < cLine) (X : (Mine.hd.heap_39 w.params).In s.heap)
  (T : Top Mine.hd.view_39 (looseW Mine.hd.view_39 [Str.ofString "COMPILER_FLAG_NAMES", Str.ofString "b2a_base64", Str.ofString "b64encode", Str.ofString "_filemode_table"]) mean mg mb s.heap)
  (ret : ∀ t h' tk', Grow s.heap h' → Q (.str (fileS n) t) { s with heap := h', toks := tk' }) :
  wpAny (model PySem.Challenge.rw_om0021_01.row.prog w) ⟨none, dp, fr, gd, un⟩ (call (.ref 113) [.int (n : Int) tn]) Q E s := by
  revert X; k_fill; intro X
  k_with_none
  w_top off
  k_with "ne" => with_reducible (first | assumption | exact Ne.symm (by assumption) | exact Nat.ne_of_gt (by assumption) | exact Nat.ne_of_lt (by assumption) | exact Nat.ne_of_gt (Nat.lt_succ_self _) | exact Nat.ne_of_lt (Nat.lt_succ_self _) | exact Nat.ne_of_gt (Nat.lt_succ_of_lt (Nat.lt_succ_self _)) | exact Nat.ne_of_lt (Nat.lt_succ_of_lt (Nat.lt_succ_self _)) | exact Nat.ne_of_gt (Nat.lt_succ_of_lt (Nat.lt_succ_of_lt (Nat.lt_succ_self _))) | exact Nat.ne_of_lt (Nat.lt_succ_of_lt (Nat.lt_succ_of_lt (Nat.lt_succ_self _))) | exact Nat.ne_of_gt (Nat.lt_succ_of_lt (Nat.lt_succ_of_lt (Nat.lt_succ_of_lt (Nat.lt_succ_self _)))) | exact Nat.ne_of_lt (Nat.lt_succ_of_lt (Nat.lt_succ_of_lt (Nat.lt_succ_of_lt (Nat.lt_succ_self _)))) | exact Nat.ne_of_gt (And.left (by assumption)) | exact Nat.ne_of_lt (And.left (by assumption)) | exact (And.left (by assumption)) | exact Ne.symm (And.left (by assumption)) | exact Nat.ne_of_gt (And.left (And.right (by assumption))) | exact Nat.ne_of_lt (And.left (And.right (by assumption))) | exact (And.left (And.right (by assumption))) | exact Ne.symm (And.left (And.right (by assumption))) | exact Nat.ne_of_gt (And.right (by assumption)) | exact Nat.ne_of_lt (And.right (by assumption)) | exact (And.right (by assumption)) | exact Ne.symm (And.right (by assumption)) | exact Nat.ne_of_gt (And.left (And.right (And.right (by assumption)))) | exact Nat.ne_of_lt (And.left (And.right (And.right (by assumption)))) | exact (And.left (And.right (And.right (by assumption)))) | exact Ne.symm (And.left (And.right (And.right (by assumption)))) | exact Nat.ne_of_gt (And.right (And.right (by assumption))) | exact Nat.ne_of_lt (And.right (And.right (by assumption))) | exact (And.right (And.right (by assumption))) | exact Ne.symm (And.right (And.right (by assumption))) | exact Nat.ne_of_gt (And.left (And.right (And.right (And.right (by assumption))))) | exact Nat.ne_of_lt (And.left (And.right (And.right (And.right (by assumption))))) | exact (And.left (And.right (And.right (And.right (by assumption))))) | exact Ne.symm (And.left (And.right (And.right (And.right (by assumption))))) | exact Nat.ne_of_gt (And.right (And.right (And.right (by assumption)))) | exact Nat.ne_of_lt (And.right (And.right (And.right (by assumption)))) | exact (And.right (And.right (And.right (by assumption)))) | exact Ne.symm (And.right (And.right (And.right (by assumption)))) | exact Nat.ne_of_gt (And.left (And.right (And.right (And.right (And.right (by assumption)))))) | exact Nat.ne_of_lt (And.left (And.right (And.right (And.right (And.right (by assumption)))))) | exact (And.left (And.right (And.right (And.right (And.right (by assumption)))))) | exact Ne.symm (And.left (And.right (And.right (And.right (And.right (by assumption)))))) | exact Nat.ne_of_gt (And.right (And.right (And.right (And.right (by assumption))))) | exact Nat.ne_of_lt (And.right (And.right (And.right (And.right (by assumption))))) | exact (And.right (And.right (And.right (And.right (by assumption))))) | exact Ne.symm (And.right (And.right (And.right (And.right (by assumption))))) | exact Nat.ne_of_gt (And.left (And.right (And.right (And.right (And.right (And.right (by assumption))))))) | exact Nat.ne_of_lt (And.left (And.right (And.right (And.right (And.right (And.right (by assumption))))))) | exact (And.left (And.right (And.right (And.right (And.right (And.right (by assumption))))))) | exact Ne.symm (And.left (And.right (And.right (And.right (And.right (And.right (by assumption))))))) | exact Nat.ne_of_gt (And.right (And.right (And.right (And.right (And.right (by assumption)))))) | exact Nat.ne_of_lt (And.right (And.right (And.right (And.right (And.right (by assumption)))))) | exact (And.right (And.right (And.right (And.right (And.right (by assumption)))))) | exact Ne.symm (And.right (And.right (And.right (And.right (And.right (by assumption)))))) | exact Nat.ne_of_gt (And.left (And.right (And.right (And.right (And.right (And.right (And.right (by assumption)))))))) | exact Nat.ne_of_lt (And.left (And.right (And.right (And.right (And.right (And.right (And.right (by assumption)))))))) | exact (And.left (And.right (And.right (And.right (And.right (And.right (And.right (by assumption)))))))) | exact Ne.symm (And.left (And.right (And.right (And.right (And.right (And.right (And.right (by assumption)))))))) | exact Nat.ne_of_gt (And.right (And.right (And.right (And.right (And.right (And.right (by assumption))))))) | exact Nat.ne_of_lt (And.right (And.right (And.right (And.right (And.right (And.right (by assumption))))))) | exact (And.right (And.right (And.right (And.right (And.right (And.right (by assumption))))))) | exact Ne.symm (And.right (And.right (And.right (And.right (And.right (And.right (by assumption))))))) | exact Nat.ne_of_gt (And.left (And.right (And.right (And.right (And.right (And.right (And.right (And.right (by assumption))))))))) | exact Nat.ne_of_lt (And.left (And.right (And.right (And.right (And.right (And.right (And.right (And.right (by assumption))))))))) | exact (And.left (And.right (And.right (And.right (And.right (And.right (And.right (And.right (by assumption))))))))) | exact Ne.symm (And.left (And.right (And.right (And.right (And.right (And.right (And.right (And.right (by assumption))))))))) | exact Nat.ne_of_gt (And.right (And.right (And.right (And.right (And.right (And.right (And.right (by assumption)))))))) | exact Nat.ne_of_lt (And.right (And.right (And.right (And.right (And.right (And.right (And.right (by assumption)))))))) | exact (And.right (And.right (And.right (And.right (And.right (And.right (And.right (by assumption)))))))) | exact Ne.symm (And.right (And.right (And.right (And.right (And.right (And.right (And.right (by assumption)))))))))
  k_with "to enum" => repeat ((fail_if_success (with_reducible show wpAny _ _ (call (Value.type "enumerate") _) _ _ _)); first | (k_unfold; (try dsimp only)) | walk1 | (dsimp only; walk1))
  k_with "to for" => repeat ((fail_if_success (with_reducible show wpAny _ _ (exec (Stmt.For _ _ _ _ _) _) _ _ _)); first | (k_unfold; (try dsimp only)) | walk1 | (dsimp only; walk1))
  k_with "to iter" => repeat ((fail_if_success (with_reducible show wpAny _ _ (pyIter _) _ _ _)); first | (k_unfold; (try dsimp only)) | walk1 | (dsimp only; walk1))
  k_with "call builtin:list.append" => k_dflt (refine app_one (by assumption) (by assumption) (by first | exact off2 (by assumption) (by assumption) | exact OwnOff.ne (by assumption) (by simp)) (by assumption) ?_; intro h' F' N'; k_sweep)
  k_with "call ref" => k_dflt ((with_reducible show wpAny _ _ (call (Value.ref 73) _) _ _ _); refine' ifmt _ _ _ _ _ _ _ _ _ _ _ _ _ _ _ _ _ (by assumption) (by assumption) (by (first | exact roomD (by assumption) (by rfl) | exact roomU (by assumption) (by rfl))) (by assumption) (by assumption) ?_; intro t' h' tk' F' N'; k_sweep)
  refine' enter (binds := [(Str.ofString "mode", .int (n : Int) tn)]) X T ?k6 ?k7 ?k8 ?k9 ?kB ?_ ?c2 ?c3 ?c4 ?c5
  case k6 => k_is
  case k7 => k_is
  case k8 => exact Nat.lt_of_le_of_lt (Nat.le_add_right _ _) hd
  case k9 => exact BindsTo.of_eq rfl
  case kB => exact locs rfl
  case c2 => exact rfl
  case c3 => exact rfl
  case c4 => exact rfl
  case c5 => decide
  intro L h₁ tk F N
  k_fold
  walk_at "to for"
  refine wpAny_For ?_
  k_fold
  walk_at "to enum"
  rename Fr _ _ _ _ => F1
  rename News _ _ _ [(_, _)] => N1
  obtain ⟨D, o1, eD, eo⟩ := named1 N1
  subst eD
  refine enumFor (news := [(D, listOf #[] 0)]) (cs := []) (JF n tn D) (by rfl) (tab_top X) (by rfl) (by rfl) (by rfl) F1 N1 ?h0 ?turn ?done
  case h0 => exact ⟨[], 0, rfl, .nil, rfl, rfl⟩
  case turn =>
    rintro i t v1 m₁ news₁ h tk own hi hv - ho ⟨vs, k, rfl, hS, hpm, hmd⟩ F2 N2
    replace ho : OwnOff own [D] := ho
    rw [List.getElem?_toArray, List.getElem?_map] at hv
    obtain ⟨r, hr, rfl⟩ := Option.map_eq_some_iff.mp hv
    have hi10 : i < 10 := by simpa [colTab] using hi
    have hvl : vs.length ≤ 4096 := by rw [hS.length, List.length_map, List.length_range]; exact Nat.le_trans (Nat.le_of_lt hi10) (by decide)
    have hrows := tab_rows X hr
    have hrow := tab_row X (List.mem_of_getElem? hr)
    have hc : colRow i = r.2 := by unfold colRow; rw [List.getD_eq_getElem?_getD, hr]; rfl
    rw [map2 hpm hmd] at F2
    simp only [List.cons_append, List.nil_append] at N2
    clear F1 N1 hv hi
    show wpAny _ _ _ _ _ _
    k_fold
    walk_at "to for"
    refine wpAny_For ?_
    k_fold
    walk_at "to iter"
    rename Fr _ _ _ _ => F3
    rename News _ _ _ _ => N3
    refine tupFor (news := [(D, listOf vs.toArray k)]) (cs := own) (JF2 n tn D i t vs k) (by rfl) hrow hrows.1 hrows.2 (by rfl) (by rfl) (by rfl) F3 N3 ?g0 ?gt ?gd
    case g0 => exact ⟨rfl, by simp, rfl, rfl, rfl⟩
    case gt =>
      rintro j w0 w1 m₂ news₂ h' tk' own2 hj ⟨p, hp, rfl, rfl⟩ - ho2 ⟨rfl, hno, hpm2, hmd2, hix2⟩ F4 N4
      replace ho2 : OwnOff own2 [D] := ho2
      rw [map3 hpm2 hmd2 hix2] at F4
      simp only [List.cons_append, List.nil_append] at N4
      clear F3 N3
      show wpAny _ _ _ _ _ _
      k_fold
      k_steps
      · rename (i : Int) = 0 => h0
        rename ((_ : Nat) : Int) = ((_ : Nat) : Int) => he
        rename Fr _ _ _ _ => F'
        rename News _ _ _ _ => N'
        have ht : colTest i n p.2.1 = true := by unfold colTest; rw [if_pos (z0 h0)]; exact beq_iff_eq.mpr (Int.ofNat.inj he)
        exact inv1 F' (news_drop2 N') ⟨_, _, rfl, snoc_col hS (colSign_hit hp hno ht), rfl, rfl⟩
      · rename (i : Int) = 0 => h0
        rename ((_ : Nat) : Int) ≠ ((_ : Nat) : Int) => he
        rename Fr _ _ _ _ => F'
        rename News _ _ _ _ => N'
        have ht : colTest i n p.2.1 = false := by unfold colTest; rw [if_pos (z0 h0)]; exact beq_eq_false_iff_ne.mpr fun e => he (congrArg Int.ofNat e)
        exact inv1 F' N' ⟨rfl, take_snoc (f := fun q => colTest i n q.2.1) hp hno ht, rfl, rfl, rfl⟩
      · rename (i : Int) ≠ 0 => h0
        rename Builtin.bitAnd _ _ = _ => he
        rename Fr _ _ _ _ => F'
        rename News _ _ _ _ => N'
        rw [bitAnd_nat] at he
        have ht : colTest i n p.2.1 = true := by unfold colTest; rw [if_neg (nz h0)]; exact beq_iff_eq.mpr (Int.ofNat.inj he)
        exact inv1 F' (news_drop2 N') ⟨_, _, rfl, snoc_col hS (colSign_hit hp hno ht), rfl, rfl⟩
      · rename (i : Int) ≠ 0 => h0
        rename Builtin.bitAnd _ _ ≠ _ => he
        rename Fr _ _ _ _ => F'
        rename News _ _ _ _ => N'
        rw [bitAnd_nat] at he
        have ht : colTest i n p.2.1 = false := by unfold colTest; rw [if_neg (nz h0)]; exact beq_eq_false_iff_ne.mpr fun e => he (congrArg Int.ofNat e)
        exact inv1 F' N' ⟨rfl, take_snoc (f := fun q => colTest i n q.2.1) hp hno ht, rfl, rfl, rfl⟩
    case gd =>
      rintro m₂ news₂ h' tk' ⟨rfl, hno, hpm2, hmd2, hix2⟩ F4 N4
      rw [map3 hpm2 hmd2 hix2] at F4
      simp only [List.cons_append, List.nil_append] at N4
      clear F3 N3
      show wpAny _ _ _ _ _ _
      k_fold
      have hz : (r.2.map fun p => Value.ref p.1).toArray.size = (colRow i).length := by rw [hc]; simp
      rw [hz] at hno
      have hms := colSign_miss hno
      k_steps
      · rename (i : Int) = 0 => h0
        rename Fr _ _ _ _ => F'
        rename News _ _ _ _ => N'
        rw [if_pos (z0 h0)] at hms
        exact inv1 F' N' ⟨_, _, rfl, snoc_col hS hms, rfl, rfl⟩
      · rename (i : Int) ≠ 0 => h0
        rename Fr _ _ _ _ => F'
        rename News _ _ _ _ => N'
        rw [if_neg (nz h0)] at hms
        exact inv1 F' N' ⟨_, _, rfl, snoc_col hS hms, rfl, rfl⟩
  case done =>
    rintro m₁ news₁ h tk ⟨vs, k, rfl, hS, hpm, hmd⟩ F2 N2
    rw [map2 hpm hmd] at F2
    simp only [List.cons_append, List.nil_append] at N2
    clear F1 N1
    show wpAny _ _ _ _ _ _
    k_fold
    have hS' : StrsAre vs ((List.range 10).map (colSign n)) := hS
    k_steps
    refine join_list (isList_news N2 (.head _)) hS' ?_ fun t' k' => ?_
    · rw [sum_cols, List.length_map, List.length_range]; decide
    · k_unfold
      have := ret t' _ k' F2.keep
      unfold fileS at this
      exact this
end Mine
end
noncomputable section
open PySem PySem.W PyProof.Rows PySem.Calls
set_option maxRecDepth 100000
set_option maxHeartbeats 4000000
namespace Mine
theorem mod3 (i : Nat) : ((i : Int)).fmod 3 = ((i % 3 : Nat) : Int) := by rw [Int.fmod_eq_emod_of_nonneg _ (by decide)]; rfl
theorem mod3_lt {i : Nat} (h : ((i : Int)).fmod 3 < 2) : i % 3 < 2 := Int.ofNat_lt.mp (mod3 i ▸ h)
theorem mod3_ge {i : Nat} (h : ¬ ((i : Int)).fmod 3 < 2) : ¬ i % 3 < 2 := fun e => h (by rw [mod3]; exact Int.ofNat_lt.mpr e)
theorem eight : ∀ i : Nat, i < 9 → (8 : Int) - (i : Int) = ((8 - i : Nat) : Int) := by decide
theorem eleven : ∀ i : Nat, i < 9 → (11 : Int) - (i : Int) / 3 = ((11 - i / 3 : Nat) : Int) := by decide
section
variable {prog : Program} {w : World} {A : Around} {E : Value → Shared → Prop} {s : Shared} {value slice : PySem.Expr} {x : Str} {t u : Tok} {Q : Value → Shared → Prop} {n i : Nat}
theorem item_eq {x : Str} {k : Nat} (hk : k < x.length) : Txt.item x (k : Int) = ch x k := by
  unfold Txt.item Txt.charAt ch seqIndex?
  have h0 : ¬ ((k : Int) < 0) := Int.not_lt.mpr (Int.natCast_nonneg k)
  simp [h0, hk]
theorem item_ch {k : Nat} {z : Int} (e : z = (k : Int)) (hk : k < x.length) (hf : k < 1000) (h : ∀ t', Q (.str (ch x k) t') { s with toks := s.toks + 1 })
    (hs : subscripted slice false (.str x t) (.int z u) = operate [.str x t, .int z u] (getItem (.str x t) (.int z u)))
    (ht : ∀ r, letTemporaryGo value (.str x t) r = pure ()) : wpAny (model prog w) A (subscriptTail value slice (.str x t) (.int z u)) Q E s := by
  subst e
  refine item_str (by unfold fitsSsize; simp; omega) (by omega) (by omega) (fun _ => ?_) hs ht
  rw [item_eq hk]; exact h _
theorem shr_val (n p : Nat) : (n : Int).fdiv (2 ^ ((p : Int)).toNat) = ((n / 2 ^ p : Nat) : Int) := by
  rw [Int.toNat_natCast, Int.fdiv_eq_ediv_of_nonneg _ (Int.le_of_lt (kbt_pos p))]; push_cast; rfl
theorem bit_val {n p : Nat} {z : Int} (e : z = (p : Int)) : Builtin.bitAnd ((n : Int).fdiv (2 ^ z.toNat)) 1 = ((bitN n p : Nat) : Int) := by
  subst e; rw [shr_bit]; rfl
end
theorem idx_val {n i : Nat} (hi : i < 9) : Builtin.bitAnd ((n : Int).fdiv (2 ^ (8 - (i : Int)).toNat)) 1 + 2 * Builtin.bitAnd ((n : Int).fdiv (2 ^ (11 - ((i : Int)).fdiv 3).toNat)) 1 = ((hereN n i + 2 * specN n i : Nat) : Int) := by
  rw [bit_val (p := 8 - i) (eight i hi), bit_val (p := 11 - i / 3) (by rw [Int.fdiv_eq_ediv_of_nonneg _ (by decide)]; exact eleven i hi)]
  unfold hereN specN; push_cast; rfl
theorem idx_lt (n i : Nat) : hereN n i + 2 * specN n i < 4 := by unfold hereN specN; rcases bitN_cases n (8 - i) with a | a <;> rcases bitN_cases n (11 - i / 3) with b | b <;> rw [a, b] <;> decide
theorem four_len : (PySem.Str.ofString "-xTt").length = 4 ∧ (PySem.Str.ofString "-xSs").length = 4 := by decide +kernel
noncomputable def JG (n : Nat) (tn : Tok) (i : Nat) (m : Str → Option Value) (nx : List (Addr × Obj)) : Prop :=
  nx = [] ∧ (∃ t, m (Str.ofString "signs") = some (.str (lstS n i) t)) ∧ m (Str.ofString "mode") = some (.int (n : Int) tn)
theorem str_as {a b : Str} {t : Tok} {o : Option Value} (h : o = some (.str a t)) (e : a = b) : ∃ t, o = some (.str b t) := ⟨t, e ▸ h⟩
theorem iadd_ch {prog : Program} {w : World} {A : Around} {E : Value → Shared → Prop} {s : Shared} {x y : Str} {k : Nat} {t u : Tok} {Q : Value → Shared → Prop} (hx : x.length ≤ 100) (h : ∀ t' tk, Q (.str (x ++ ch y k) t') { s with toks := tk }) :
    wpAny (model prog w) A (inplaceOp .Add (.str x t) (.str (ch y k) u)) Q E s := iadd_str h (by rw [ch_len]; exact Nat.le_trans (Nat.add_le_add_right hx 1) (by decide))
theorem listing (w : World) (mean : ExcName → Option Value) (mg mb : Str → Option Value) (n : Nat) (tn : Tok) (hn : n < 65536)
  (dp un : Nat) (fr : Option (List Env)) (gd : Option (List Code)) (s : Shared) (Q E : Value → Shared → Prop)
  (hd : dp + 2 < recursionLimit) (hu : un + 40 < cLine) (X : (Mine.hd.heap_39 w.params).In s.heap)
  (T : Top Mine.hd.view_39 (looseW Mine.hd.view_39 [Str.ofString "COMPILER_FLAG_NAMES", Str.ofString "b2a_base64", Str.ofString "b64encode", Str.ofString "_filemode_table"]) mean mg mb s.heap)
  (ret : ∀ t h' tk', Grow s.heap h' → Q (.str (fileS n) t) { s with heap := h', toks := tk' }) :
  wpAny (model PySem.Challenge.rw_om0021_01.row.prog w) ⟨none, dp, fr, gd, un⟩ (call (.ref 120) [.int (n : Int) tn]) Q E s := by
  revert X; k_fill; intro X
  k_with_none
  w_top off
  k_with "ne" => with_reducible (first | assumption | exact Ne.symm (by assumption) | exact Nat.ne_of_gt (by assumption) | exact Nat.ne_of_lt (by assumption) | exact Nat.ne_of_gt (Nat.lt_succ_self _) | exact Nat.ne_of_lt (Nat.lt_succ_self _) | exact Nat.ne_of_gt (Nat.lt_succ_of_lt (Nat.lt_succ_self _)) | exact Nat.ne_of_lt (Nat.lt_succ_of_lt (Nat.lt_succ_self _)) | exact Nat.ne_of_gt (Nat.lt_succ_of_lt (Nat.lt_succ_of_lt (Nat.lt_succ_self _))) | exact Nat.ne_of_lt (Nat.lt_succ_of_lt (Nat.lt_succ_of_lt (Nat.lt_succ_self _))) | exact Nat.ne_of_gt (Nat.lt_succ_of_lt (Nat.lt_succ_of_lt (Nat.lt_succ_of_lt (Nat.lt_succ_self _)))) | exact Nat.ne_of_lt (Nat.lt_succ_of_lt (Nat.lt_succ_of_lt (Nat.lt_succ_of_lt (Nat.lt_succ_self _)))) | exact Nat.ne_of_gt (And.left (by assumption)) | exact Nat.ne_of_lt (And.left (by assumption)) | exact (And.left (by assumption)) | exact Ne.symm (And.left (by assumption)) | exact Nat.ne_of_gt (And.left (And.right (by assumption))) | exact Nat.ne_of_lt (And.left (And.right (by assumption))) | exact (And.left (And.right (by assumption))) | exact Ne.symm (And.left (And.right (by assumption))) | exact Nat.ne_of_gt (And.right (by assumption)) | exact Nat.ne_of_lt (And.right (by assumption)) | exact (And.right (by assumption)) | exact Ne.symm (And.right (by assumption)) | exact Nat.ne_of_gt (And.left (And.right (And.right (by assumption)))) | exact Nat.ne_of_lt (And.left (And.right (And.right (by assumption)))) | exact (And.left (And.right (And.right (by assumption)))) | exact Ne.symm (And.left (And.right (And.right (by assumption)))) | exact Nat.ne_of_gt (And.right (And.right (by assumption))) | exact Nat.ne_of_lt (And.right (And.right (by assumption))) | exact (And.right (And.right (by assumption))) | exact Ne.symm (And.right (And.right (by assumption))) | exact Nat.ne_of_gt (And.left (And.right (And.right (And.right (by assumption))))) | exact Nat.ne_of_lt (And.left (And.right (And.right (And.right (by assumption))))) | exact (And.left (And.right (And.right (And.right (by assumption))))) | exact Ne.symm (And.left (And.right (And.right (And.right (by assumption))))) | exact Nat.ne_of_gt (And.right (And.right (And.right (by assumption)))) | exact Nat.ne_of_lt (And.right (And.right (And.right (by assumption)))) | exact (And.right (And.right (And.right (by assumption)))) | exact Ne.symm (And.right (And.right (And.right (by assumption)))) | exact Nat.ne_of_gt (And.left (And.right (And.right (And.right (And.right (by assumption)))))) | exact Nat.ne_of_lt (And.left (And.right (And.right (And.right (And.right (by assumption)))))) | exact (And.left (And.right (And.right (And.right (And.right (by assumption)))))) | exact Ne.symm (And.left (And.right (And.right (And.right (And.right (by assumption)))))) | exact Nat.ne_of_gt (And.right (And.right (And.right (And.right (by assumption))))) | exact Nat.ne_of_lt (And.right (And.right (And.right (And.right (by assumption))))) | exact (And.right (And.right (And.right (And.right (by assumption))))) | exact Ne.symm (And.right (And.right (And.right (And.right (by assumption))))) | exact Nat.ne_of_gt (And.left (And.right (And.right (And.right (And.right (And.right (by assumption))))))) | exact Nat.ne_of_lt (And.left (And.right (And.right (And.right (And.right (And.right (by assumption))))))) | exact (And.left (And.right (And.right (And.right (And.right (And.right (by assumption))))))) | exact Ne.symm (And.left (And.right (And.right (And.right (And.right (And.right (by assumption))))))) | exact Nat.ne_of_gt (And.right (And.right (And.right (And.right (And.right (by assumption)))))) | exact Nat.ne_of_lt (And.right (And.right (And.right (And.right (And.right (by assumption)))))) | exact (And.right (And.right (And.right (And.right (And.right (by assumption)))))) | exact Ne.symm (And.right (And.right (And.right (And.right (And.right (by assumption)))))) | exact Nat.ne_of_gt (And.left (And.right (And.right (And.right (And.right (And.right (And.right (by assumption)))))))) | exact Nat.ne_of_lt (And.left (And.right (And.right (And.right (And.right (And.right (And.right (by assumption)))))))) | exact (And.left (And.right (And.right (And.right (And.right (And.right (And.right (by assumption)))))))) | exact Ne.symm (And.left (And.right (And.right (And.right (And.right (And.right (And.right (by assumption)))))))) | exact Nat.ne_of_gt (And.right (And.right (And.right (And.right (And.right (And.right (by assumption))))))) | exact Nat.ne_of_lt (And.right (And.right (And.right (And.right (And.right (And.right (by assumption))))))) | exact (And.right (And.right (And.right (And.right (And.right (And.right (by assumption))))))) | exact Ne.symm (And.right (And.right (And.right (And.right (And.right (And.right (by assumption))))))) | exact Nat.ne_of_gt (And.left (And.right (And.right (And.right (And.right (And.right (And.right (And.right (by assumption))))))))) | exact Nat.ne_of_lt (And.left (And.right (And.right (And.right (And.right (And.right (And.right (And.right (by assumption))))))))) | exact (And.left (And.right (And.right (And.right (And.right (And.right (And.right (And.right (by assumption))))))))) | exact Ne.symm (And.left (And.right (And.right (And.right (And.right (And.right (And.right (And.right (by assumption))))))))) | exact Nat.ne_of_gt (And.right (And.right (And.right (And.right (And.right (And.right (And.right (by assumption)))))))) | exact Nat.ne_of_lt (And.right (And.right (And.right (And.right (And.right (And.right (And.right (by assumption)))))))) | exact (And.right (And.right (And.right (And.right (And.right (And.right (And.right (by assumption)))))))) | exact Ne.symm (And.right (And.right (And.right (And.right (And.right (And.right (And.right (by assumption)))))))))
  k_with "to for" => repeat ((fail_if_success (with_reducible show wpAny _ _ (exec (Stmt.For _ _ _ _ _) _) _ _ _)); first | (k_unfold; (try dsimp only)) | walk1 | (dsimp only; walk1))
  k_with "to iter" => repeat ((fail_if_success (with_reducible show wpAny _ _ (pyIter _) _ _ _)); first | (k_unfold; (try dsimp only)) | walk1 | (dsimp only; walk1))
  k_with "inplaceOp Add str str" => k_dflt ((with_reducible show wpAny _ _ (inplaceOp _ _ (Value.str (ch _ _) _)) _ _ _); refine iadd_ch (by assumption) ?_; intro _ _)
  k_with "subscriptTail" => k_dflt ((with_reducible show wpAny _ _ (subscriptTail _ _ (Value.str (PySem.Str.ofString _) _) (Value.int _ _)) _ _ _); first | (refine' item_ch (k := _ / 4096) (shr_val _ 12) (by (rw [show (PySem.Str.ofString "?pc?d?b?-?l?s???").length = 16 by decide +kernel]; exact Nat.div_lt_of_lt_mul (by assumption))) (Nat.lt_of_lt_of_le (Nat.div_lt_of_lt_mul (k := 16) (by assumption)) (by decide)) ?_ (by with_unfolding_all rfl) (by (intro _; with_unfolding_all rfl)); intro t') | (refine' item_ch (k := _ % 3) (mod3 _) (by (rw [show (PySem.Str.ofString "rw").length = 2 by decide +kernel]; exact mod3_lt (by assumption))) (Nat.lt_trans (Nat.mod_lt _ (by decide)) (by decide)) ?_ (by with_unfolding_all rfl) (by (intro _; with_unfolding_all rfl)); intro t') | (refine' item_ch (idx_val (by assumption)) (by (first | exact four_len.1 ▸ idx_lt _ _ | exact four_len.2 ▸ idx_lt _ _)) (Nat.lt_trans (idx_lt _ _) (by decide)) ?_ (by with_unfolding_all rfl) (by (intro _; with_unfolding_all rfl)); intro t'))
  refine' enter (binds := [(Str.ofString "mode", .int (n : Int) tn)]) X T ?k6 ?k7 ?k8 ?k9 ?kB ?_ ?c2 ?c3 ?c4 ?c5
  case k6 => k_is
  case k7 => k_is
  case k8 => exact Nat.lt_of_le_of_lt (Nat.le_add_right _ _) hd
  case k9 => exact BindsTo.of_eq rfl
  case kB => exact locs rfl
  case c2 => exact rfl
  case c3 => exact rfl
  case c4 => exact rfl
  case c5 => decide
  intro L h₁ tk F N
  k_fold
  walk_at "to for"
  refine wpAny_For ?_
  k_fold
  walk_at "to iter"
  rename IsRange _ _ _ _ _ _ _ _ => hr
  rename Fr _ _ _ _ => F1
  rename News _ _ _ _ => N1
  refine rangeFor (news := []) (cs := []) (n := 9) (JG n tn) (by rfl) hr (by decide) (by decide) (by rfl) (by rfl) F1 N1 ?h0 ?turn ?done
  case h0 => exact ⟨rfl, str_as (by rfl) (by rw [lstS_0]; unfold kindS; rfl), rfl⟩
  case turn =>
    rintro i t m₁ news₁ h tk own hi' - ho ⟨rfl, ⟨t1, hsg⟩, hmd⟩ F2 N2
    have hll : (lstS n i).length ≤ 100 := by rw [lstS_len]; exact Nat.le_trans (Nat.succ_le_succ (Nat.le_of_lt hi')) (by decide)
    rw [map2 hsg hmd] at F2
    simp only [List.cons_append, List.nil_append] at N2
    clear F1 N1 hr
    show wpAny _ _ _ _ _ _
    k_fold
    have e8 : Builtin.bitAnd ((n : Int).fdiv (2 ^ (8 - (i : Int)).toNat)) 1 = ((hereN n i : Nat) : Int) := bit_val (eight i hi')
    have hh2 := bitN_lt n (8 - i)
    have hm3 := mod3 i
    k_steps
    · rename (_ : Int) < 2 => h2
      rename (_ : Int) ≠ 0 => hb
      rename Fr _ _ _ _ => F'
      rename News _ _ _ _ => N'
      rw [e8] at hb
      refine inv0 F' N' ⟨rfl, str_as (by rfl) ?_, rfl⟩
      rw [lstS_s]; congr 1
      unfold sgnS
      rw [if_pos (mod3_lt h2), if_pos (show hereN n i = 1 from (bitN_cases n (8 - i)).resolve_left fun e => hb (congrArg Int.ofNat e))]
    · rename (_ : Int) < 2 => h2
      rename (_ : Int) = 0 => hb
      rename Fr _ _ _ _ => F'
      rename News _ _ _ _ => N'
      rw [e8] at hb
      refine inv0 F' N' ⟨rfl, str_as (by rfl) ?_, rfl⟩
      rw [lstS_s]; congr 1
      unfold sgnS
      rw [if_pos (mod3_lt h2), if_neg (fun e : hereN n i = 1 => absurd (e.symm.trans (Int.ofNat.inj hb)) (by decide))]
    · rename ¬ (_ : Int) < 2 => h2
      rename (i : Int) = 8 => h8
      rename Fr _ _ _ _ => F'
      rename News _ _ _ _ => N'
      refine inv0 F' N' ⟨rfl, str_as (by rfl) ?_, rfl⟩
      rw [lstS_s]; congr 1
      unfold sgnS
      rw [if_neg (mod3_ge h2), if_pos (Int.ofNat.inj h8)]
    · rename ¬ (_ : Int) < 2 => h2
      rename (i : Int) ≠ 8 => h8
      rename Fr _ _ _ _ => F'
      rename News _ _ _ _ => N'
      refine inv0 F' N' ⟨rfl, str_as (by rfl) ?_, rfl⟩
      rw [lstS_s]; congr 1
      unfold sgnS
      rw [if_neg (mod3_ge h2), if_neg (fun e : i = 8 => h8 (congrArg Int.ofNat e))]
  case done =>
    rintro m₁ news₁ h tk ⟨rfl, ⟨t1, hsg⟩, hmd⟩ F2 N2
    rw [map2 hsg hmd] at F2
    simp only [List.cons_append, List.nil_append] at N2
    clear F1 N1 hr
    show wpAny _ _ _ _ _ _
    k_fold
    k_steps
    rw [lst_file hn]
    exact ret _ _ _ F2.keep
end Mine
end
noncomputable section
open PySem PySem.W PyProof.Rows PySem.Calls PySem.Spec
set_option maxRecDepth 100000
set_option maxHeartbeats 4000000
namespace Mine
theorem word_some : ∀ i, i < 12 → 0 < (word i).length := by decide +kernel
theorem words_ledger {h₀ h : Heap} {L l1 l2 : Addr} {p q : Addr × Obj} {o2 : Obj} {k : Nat} {t1 t2 t3 t4 t5 t6 t7 t8 t9 ta tb tc : Tok}
  (N : News h₀ L h [(l2, o2), (l1, W.listOf (#[.str (Str.ofString "OPTIMIZED") t1, .str (Str.ofString "NEWLOCALS") t2, .str (Str.ofString "VARARGS") t3, .str (Str.ofString "VARKEYWORDS") t4, .str (Str.ofString "NESTED") t5, .str (Str.ofString "GENERATOR") t6, .str (Str.ofString "NOFREE") t7, .str (Str.ofString "COROUTINE") t8] ++
    #[.str (Str.ofString "ITERABLE_COROUTINE") t9, .str (Str.ofString "ASYNC_GENERATOR") ta, .str (Str.ofString "0x400") tb, .str (Str.ofString "0x800") tc]) k), p, q]) :
  ∃ vs, StrsAre vs wordTab ∧ News h₀ L h [(l1, W.listOf vs.toArray k), p, q] :=
  ⟨[.str (Str.ofString "OPTIMIZED") t1, .str (Str.ofString "NEWLOCALS") t2, .str (Str.ofString "VARARGS") t3, .str (Str.ofString "VARKEYWORDS") t4, .str (Str.ofString "NESTED") t5, .str (Str.ofString "GENERATOR") t6, .str (Str.ofString "NOFREE") t7, .str (Str.ofString "COROUTINE") t8, .str (Str.ofString "ITERABLE_COROUTINE") t9, .str (Str.ofString "ASYNC_GENERATOR") ta, .str (Str.ofString "0x400") tb, .str (Str.ofString "0x800") tc],
   .cons _ _ (.cons _ _ (.cons _ _ (.cons _ _ (.cons _ _ (.cons _ _ (.cons _ _ (.cons _ _ (.cons _ _ (.cons _ _ (.cons _ _ (.cons _ _ .nil))))))))))), fun p hp => N p (List.mem_cons_of_mem _ hp)⟩
theorem sub_nm {n : Str} {p : Pos} {D : Addr} {x : Int} {t : Tok} : subscripted (.Name n p) false (.ref D) (.int x t) = operate [.ref D, .int x t] (getItem (.ref D) (.int x t)) := by with_unfolding_all rfl
theorem let_nm {n : Str} {p : Pos} {D : Addr} : ∀ r, letTemporaryGo (.Name n p) (.ref D) r = pure () := by intro _; with_unfolding_all rfl
theorem word_getD {i : Nat} (h : i < 12) : wordTab.getD ((i : Int)).toNat Str.empty = word i := by
  rw [Int.toNat_natCast]; unfold word
  rw [List.getD_eq_getElem?_getD, List.getD_eq_getElem?_getD, List.getElem?_eq_getElem (show i < wordTab.length from h)]; rfl
theorem words_truthy {prog : Program} {w : World} {A : Around} {E : Value → Shared → Prop} {s : Shared} {x : Str} {t : Tok} {b : Bool} {Q : Bool → Shared → Prop} (e : ((x.length : Int) != 0) = b) (hl : x.length ≤ 16777216) (h : ∀ k, Q b { s with toks := k }) : wpAny (model prog w) A (PySem.truthy (.str x t)) Q E s :=
  W.KXt.truthy e hl h
theorem words_pos {n : Nat} (h0 : n ≠ 0) (h1 : n < 4096) : (((Txt.join (Str.ofString ", ") (wordsTo n 12)).length : Int) != 0) = true ∧ (Txt.join (Str.ofString ", ") (wordsTo n 12)).length ≤ 16777216 := by
  obtain ⟨r, hr⟩ := words_low h0 h1
  have h4 : 0 < (word (low n)).length := word_some _ (low_spec h0 h1).1
  unfold Txt.join
  rw [PySem.size_glued, show (Str.ofString ", ").length = 2 by decide]
  constructor
  · rw [hr, List.map_cons, List.sum_cons]
    exact bne_iff_ne.mpr fun e => absurd (Int.ofNat.inj e) (Nat.ne_of_gt (Nat.lt_of_lt_of_le h4 (Nat.le_trans (Nat.le_add_right _ _) (Nat.le_add_right _ _))))
  · exact Nat.le_trans (Nat.add_le_add_left (Nat.mul_le_mul_right 2 (Nat.sub_le _ _)) _) (words_fit n (Nat.le_refl _))
theorem lawwords (w : World) (mean : ExcName → Option Value) (mg mb : Str → Option Value) (n : Nat) (tn : Tok) (hn : n < 4096)
  (dp un : Nat) (fr : Option (List Env)) (gd : Option (List Code)) (s : Shared) (Q E : Value → Shared → Prop)
  (hd : dp + 2 < recursionLimit) (hu : un + 40 < cLine) (X : (Mine.hd.heap_39 w.params).In s.heap)
  (T : Top Mine.hd.view_39 (looseW Mine.hd.view_39 [Str.ofString "COMPILER_FLAG_NAMES", Str.ofString "b2a_base64", Str.ofString "b64encode", Str.ofString "_filemode_table"]) mean mg mb s.heap)
  (ret : ∀ t h' tk', Grow s.heap h' → Q (.str (prettyS n) t) { s with heap := h', toks := tk' }) :
  wpAny (model PySem.Challenge.rw_om0021_01.row.prog w) ⟨none, dp, fr, gd, un⟩ (call (.ref 125) [.int (n : Int) tn]) Q E s := by
  revert X; k_fill; intro X
  k_with_none
  w_top off
  k_with "ne" => with_reducible (first | assumption | exact Ne.symm (by assumption) | exact Nat.ne_of_gt (by assumption) | exact Nat.ne_of_lt (by assumption) | exact Nat.ne_of_gt (Nat.lt_succ_self _) | exact Nat.ne_of_lt (Nat.lt_succ_self _) | exact Nat.ne_of_gt (Nat.lt_succ_of_lt (Nat.lt_succ_self _)) | exact Nat.ne_of_lt (Nat.lt_succ_of_lt (Nat.lt_succ_self _)) | exact Nat.ne_of_gt (Nat.lt_succ_of_lt (Nat.lt_succ_of_lt (Nat.lt_succ_self _))) | exact Nat.ne_of_lt (Nat.lt_succ_of_lt (Nat.lt_succ_of_lt (Nat.lt_succ_self _))) | exact Nat.ne_of_gt (Nat.lt_succ_of_lt (Nat.lt_succ_of_lt (Nat.lt_succ_of_lt (Nat.lt_succ_self _)))) | exact Nat.ne_of_lt (Nat.lt_succ_of_lt (Nat.lt_succ_of_lt (Nat.lt_succ_of_lt (Nat.lt_succ_self _)))) | exact Nat.ne_of_gt (And.left (by assumption)) | exact Nat.ne_of_lt (And.left (by assumption)) | exact (And.left (by assumption)) | exact Ne.symm (And.left (by assumption)) | exact Nat.ne_of_gt (And.left (And.right (by assumption))) | exact Nat.ne_of_lt (And.left (And.right (by assumption))) | exact (And.left (And.right (by assumption))) | exact Ne.symm (And.left (And.right (by assumption))) | exact Nat.ne_of_gt (And.right (by assumption)) | exact Nat.ne_of_lt (And.right (by assumption)) | exact (And.right (by assumption)) | exact Ne.symm (And.right (by assumption)) | exact Nat.ne_of_gt (And.left (And.right (And.right (by assumption)))) | exact Nat.ne_of_lt (And.left (And.right (And.right (by assumption)))) | exact (And.left (And.right (And.right (by assumption)))) | exact Ne.symm (And.left (And.right (And.right (by assumption)))) | exact Nat.ne_of_gt (And.right (And.right (by assumption))) | exact Nat.ne_of_lt (And.right (And.right (by assumption))) | exact (And.right (And.right (by assumption))) | exact Ne.symm (And.right (And.right (by assumption))) | exact Nat.ne_of_gt (And.left (And.right (And.right (And.right (by assumption))))) | exact Nat.ne_of_lt (And.left (And.right (And.right (And.right (by assumption))))) | exact (And.left (And.right (And.right (And.right (by assumption))))) | exact Ne.symm (And.left (And.right (And.right (And.right (by assumption))))) | exact Nat.ne_of_gt (And.right (And.right (And.right (by assumption)))) | exact Nat.ne_of_lt (And.right (And.right (And.right (by assumption)))) | exact (And.right (And.right (And.right (by assumption)))) | exact Ne.symm (And.right (And.right (And.right (by assumption)))) | exact Nat.ne_of_gt (And.left (And.right (And.right (And.right (And.right (by assumption)))))) | exact Nat.ne_of_lt (And.left (And.right (And.right (And.right (And.right (by assumption)))))) | exact (And.left (And.right (And.right (And.right (And.right (by assumption)))))) | exact Ne.symm (And.left (And.right (And.right (And.right (And.right (by assumption)))))) | exact Nat.ne_of_gt (And.right (And.right (And.right (And.right (by assumption))))) | exact Nat.ne_of_lt (And.right (And.right (And.right (And.right (by assumption))))) | exact (And.right (And.right (And.right (And.right (by assumption))))) | exact Ne.symm (And.right (And.right (And.right (And.right (by assumption))))) | exact Nat.ne_of_gt (And.left (And.right (And.right (And.right (And.right (And.right (by assumption))))))) | exact Nat.ne_of_lt (And.left (And.right (And.right (And.right (And.right (And.right (by assumption))))))) | exact (And.left (And.right (And.right (And.right (And.right (And.right (by assumption))))))) | exact Ne.symm (And.left (And.right (And.right (And.right (And.right (And.right (by assumption))))))) | exact Nat.ne_of_gt (And.right (And.right (And.right (And.right (And.right (by assumption)))))) | exact Nat.ne_of_lt (And.right (And.right (And.right (And.right (And.right (by assumption)))))) | exact (And.right (And.right (And.right (And.right (And.right (by assumption)))))) | exact Ne.symm (And.right (And.right (And.right (And.right (And.right (by assumption)))))) | exact Nat.ne_of_gt (And.left (And.right (And.right (And.right (And.right (And.right (And.right (by assumption)))))))) | exact Nat.ne_of_lt (And.left (And.right (And.right (And.right (And.right (And.right (And.right (by assumption)))))))) | exact (And.left (And.right (And.right (And.right (And.right (And.right (And.right (by assumption)))))))) | exact Ne.symm (And.left (And.right (And.right (And.right (And.right (And.right (And.right (by assumption)))))))) | exact Nat.ne_of_gt (And.right (And.right (And.right (And.right (And.right (And.right (by assumption))))))) | exact Nat.ne_of_lt (And.right (And.right (And.right (And.right (And.right (And.right (by assumption))))))) | exact (And.right (And.right (And.right (And.right (And.right (And.right (by assumption))))))) | exact Ne.symm (And.right (And.right (And.right (And.right (And.right (And.right (by assumption))))))) | exact Nat.ne_of_gt (And.left (And.right (And.right (And.right (And.right (And.right (And.right (And.right (by assumption))))))))) | exact Nat.ne_of_lt (And.left (And.right (And.right (And.right (And.right (And.right (And.right (And.right (by assumption))))))))) | exact (And.left (And.right (And.right (And.right (And.right (And.right (And.right (And.right (by assumption))))))))) | exact Ne.symm (And.left (And.right (And.right (And.right (And.right (And.right (And.right (And.right (by assumption))))))))) | exact Nat.ne_of_gt (And.right (And.right (And.right (And.right (And.right (And.right (And.right (by assumption)))))))) | exact Nat.ne_of_lt (And.right (And.right (And.right (And.right (And.right (And.right (And.right (by assumption)))))))) | exact (And.right (And.right (And.right (And.right (And.right (And.right (And.right (by assumption)))))))) | exact Ne.symm (And.right (And.right (And.right (And.right (And.right (And.right (And.right (by assumption)))))))))
  k_with "to comp" => repeat ((fail_if_success (with_reducible show wpAny _ _ (eval (Expr.ListComp _ _ _ _) _) _ _ _)); first | (k_unfold; (try dsimp only)) | walk1 | (dsimp only; walk1))
  k_with "inplaceOp Add ref ref" => k_dflt (refine' iadd_lists (by assumption) (by assumption) (by k_updF) (by k_mem) (Nat.le_of_ble_eq_true rfl) ?_; intro h' k' F' N'; (try dsimp only at N'); (try k_sweep))
  k_with "to src" => repeat ((fail_if_success (with_reducible show LCt.CompSrcT _ _ _ _ _ _ _ _ _ _ _ _ _ _ _)); first | (k_unfold; (try dsimp only)) | walk1 | (dsimp only; walk1))
  k_with "subscriptTail" => k_dflt ((with_reducible show wpAny _ _ (subscriptTail _ _ (Value.ref _) (Value.int _ _)) _ _ _); refine' item_strsA (isList_news (by assumption) (by k_mem)) (by assumption) (Int.natCast_nonneg _) (Int.ofNat_lt.mpr (by assumption)) (Int.lt_of_lt_of_le (Int.ofNat_lt (m := 12).mpr (by assumption)) (by decide)) ?_ (sub_nm) (let_nm); intro t')
  refine' enterC (binds := [(Str.ofString "flags", .int (n : Int) tn)]) X T ?k6 ?k7 ?k8 ?k9 ?kB ?kD ?_ ?c2 ?c3 ?c4
  case k6 => k_is
  case k7 => k_is
  case k8 => exact Nat.lt_of_le_of_lt (Nat.le_add_right _ _) hd
  case k9 => exact BindsTo.of_eq rfl
  case kB => exact rfl
  case kD => decide +kernel
  case c2 => exact rfl
  case c3 => exact rfl
  case c4 => exact rfl
  intro L h₁ tk cells F N Y
  k_cells Y
  (try simp only [List.cons_append, List.nil_append] at N)
  show wpAny _ _ _ _ _ _
  k_fold
  walk_at "to comp"
  rename Fr _ _ _ _ => F1
  rename News _ _ _ _ => N1
  obtain ⟨vs, hvs, N2⟩ := words_ledger N1
  clear N1
  refine LCt.ListComp_T (F₀ := F1) (by with_unfolding_all rfl) (by decide) (by rfl) (by decide) (by rfl) ?_
  walk_at "to src"
  rename IsRange _ _ _ _ _ _ _ _ => hr
  rename Fr _ _ _ _ => F3
  rename News _ _ _ _ => N3
  (try clear F1); (try clear N2)
  refine LCt.CompSrcT.range (n := 12) rfl F3 N3 hr (by decide) (by decide) (by decide) ?_
  intro g
  clear hr F3 N3
  refine comp_invT (fun i ys => StrsAre ys (wordsTo n i)) True.intro ?turn ?fin .nil
  case turn =>
    rintro i v ys I oI C oC D m₂ h tk E' hi ⟨t, rfl⟩ hys hC hx F4 N4
    rw [Int.zero_add] at hx
    show wpAny _ _ _ _ _ _
    k_fold
    k_steps
    · rename _ ≠ (0 : Int) => hb
      have hb' : n.testBit i = true := shr_set hb
      refine ⟨_, _, rfl, F4, N4, ?_⟩
      rw [wordsTo_succ, hb', word_getD hi]; exact strs_snoc hys
    · rename _ = (0 : Int) => hb
      have hb' : n.testBit i = false := shr_clear hb
      refine ⟨_, _, rfl, F4, N4, ?_⟩
      rw [wordsTo_succ, hb']; simpa using hys
  case fin =>
    intro ys hys D h tk F4 N4 off
    show wpAny _ _ _ _ _ _
    k_fold
    k_steps
    refine join_list (isList_news N4 (.head _)) hys ?_ fun t' k' => ?_
    · exact words_fit n (Nat.le_refl _)
    · by_cases h0 : n = 0
      · have e : wordsTo n 12 = [] := by rw [h0]; decide
        rw [e]
        refine words_truthy (b := false) (by decide) (by decide) fun k => ?_
        dsimp only
        rw [if_neg (by decide)]
        k_steps
        have e2 : prettyS n = Str.ofString "0x0" := by unfold prettyS; rw [if_pos h0]
        rw [e2] at ret
        exact ret _ _ _ F4.keep
      · refine words_truthy (b := true) (words_pos h0 hn).1 (words_pos h0 hn).2 fun k => ?_
        dsimp only
        rw [if_pos rfl]
        k_steps
        have e2 : prettyS n = Txt.join (Str.ofString ", ") (wordsTo n 12) := by unfold prettyS; rw [if_neg h0]
        rw [e2] at ret
        exact ret _ _ _ F4.keep
end Mine
end
noncomputable section
open PySem PySem.W PyProof.Rows PySem.Calls PySem.Spec
set_option maxRecDepth 100000
set_option maxHeartbeats 4000000
namespace Mine
theorem buffer (w : World) (mean : ExcName → Option Value) (mg mb : Str → Option Value) (b : Array UInt8) (tb : Tok)
  (dp un : Nat) (fr : Option (List Env)) (gd : Option (List Code)) (s : Shared) (Q E : Value → Shared → Prop)
  (hd : dp + 1 < recursionLimit) (hu : un + 20 < cLine) (X : (Mine.hd.heap_39 w.params).In s.heap)
  (T : Top Mine.hd.view_39 (looseW Mine.hd.view_39 [Str.ofString "COMPILER_FLAG_NAMES", Str.ofString "b2a_base64", Str.ofString "b64encode", Str.ofString "_filemode_table"]) mean mg mb s.heap)
  (ret : ∀ t h' tk', Grow s.heap h' → Q (.bytes b t) { s with heap := h', toks := tk' }) :
  wpAny (model PySem.Challenge.rw_om0021_01.row.prog w) ⟨none, dp, fr, gd, un⟩ (call (.ref 43) [.bytes b tb]) Q E s := by
  revert X; k_fill; intro X
  k_with_none
  w_top off
  k_with "ne" => with_reducible (first | assumption | exact Ne.symm (by assumption) | exact Nat.ne_of_gt (by assumption) | exact Nat.ne_of_lt (by assumption) | exact Nat.ne_of_gt (Nat.lt_succ_self _) | exact Nat.ne_of_lt (Nat.lt_succ_self _) | exact Nat.ne_of_gt (Nat.lt_succ_of_lt (Nat.lt_succ_self _)) | exact Nat.ne_of_lt (Nat.lt_succ_of_lt (Nat.lt_succ_self _)) | exact Nat.ne_of_gt (Nat.lt_succ_of_lt (Nat.lt_succ_of_lt (Nat.lt_succ_self _))) | exact Nat.ne_of_lt (Nat.lt_succ_of_lt (Nat.lt_succ_of_lt (Nat.lt_succ_self _))) | exact Nat.ne_of_gt (Nat.lt_succ_of_lt (Nat.lt_succ_of_lt (Nat.lt_succ_of_lt (Nat.lt_succ_self _)))) | exact Nat.ne_of_lt (Nat.lt_succ_of_lt (Nat.lt_succ_of_lt (Nat.lt_succ_of_lt (Nat.lt_succ_self _)))) | exact Nat.ne_of_gt (And.left (by assumption)) | exact Nat.ne_of_lt (And.left (by assumption)) | exact (And.left (by assumption)) | exact Ne.symm (And.left (by assumption)) | exact Nat.ne_of_gt (And.left (And.right (by assumption))) | exact Nat.ne_of_lt (And.left (And.right (by assumption))) | exact (And.left (And.right (by assumption))) | exact Ne.symm (And.left (And.right (by assumption))) | exact Nat.ne_of_gt (And.right (by assumption)) | exact Nat.ne_of_lt (And.right (by assumption)) | exact (And.right (by assumption)) | exact Ne.symm (And.right (by assumption)) | exact Nat.ne_of_gt (And.left (And.right (And.right (by assumption)))) | exact Nat.ne_of_lt (And.left (And.right (And.right (by assumption)))) | exact (And.left (And.right (And.right (by assumption)))) | exact Ne.symm (And.left (And.right (And.right (by assumption)))) | exact Nat.ne_of_gt (And.right (And.right (by assumption))) | exact Nat.ne_of_lt (And.right (And.right (by assumption))) | exact (And.right (And.right (by assumption))) | exact Ne.symm (And.right (And.right (by assumption))) | exact Nat.ne_of_gt (And.left (And.right (And.right (And.right (by assumption))))) | exact Nat.ne_of_lt (And.left (And.right (And.right (And.right (by assumption))))) | exact (And.left (And.right (And.right (And.right (by assumption))))) | exact Ne.symm (And.left (And.right (And.right (And.right (by assumption))))) | exact Nat.ne_of_gt (And.right (And.right (And.right (by assumption)))) | exact Nat.ne_of_lt (And.right (And.right (And.right (by assumption)))) | exact (And.right (And.right (And.right (by assumption)))) | exact Ne.symm (And.right (And.right (And.right (by assumption)))) | exact Nat.ne_of_gt (And.left (And.right (And.right (And.right (And.right (by assumption)))))) | exact Nat.ne_of_lt (And.left (And.right (And.right (And.right (And.right (by assumption)))))) | exact (And.left (And.right (And.right (And.right (And.right (by assumption)))))) | exact Ne.symm (And.left (And.right (And.right (And.right (And.right (by assumption)))))) | exact Nat.ne_of_gt (And.right (And.right (And.right (And.right (by assumption))))) | exact Nat.ne_of_lt (And.right (And.right (And.right (And.right (by assumption))))) | exact (And.right (And.right (And.right (And.right (by assumption))))) | exact Ne.symm (And.right (And.right (And.right (And.right (by assumption))))) | exact Nat.ne_of_gt (And.left (And.right (And.right (And.right (And.right (And.right (by assumption))))))) | exact Nat.ne_of_lt (And.left (And.right (And.right (And.right (And.right (And.right (by assumption))))))) | exact (And.left (And.right (And.right (And.right (And.right (And.right (by assumption))))))) | exact Ne.symm (And.left (And.right (And.right (And.right (And.right (And.right (by assumption))))))) | exact Nat.ne_of_gt (And.right (And.right (And.right (And.right (And.right (by assumption)))))) | exact Nat.ne_of_lt (And.right (And.right (And.right (And.right (And.right (by assumption)))))) | exact (And.right (And.right (And.right (And.right (And.right (by assumption)))))) | exact Ne.symm (And.right (And.right (And.right (And.right (And.right (by assumption)))))) | exact Nat.ne_of_gt (And.left (And.right (And.right (And.right (And.right (And.right (And.right (by assumption)))))))) | exact Nat.ne_of_lt (And.left (And.right (And.right (And.right (And.right (And.right (And.right (by assumption)))))))) | exact (And.left (And.right (And.right (And.right (And.right (And.right (And.right (by assumption)))))))) | exact Ne.symm (And.left (And.right (And.right (And.right (And.right (And.right (And.right (by assumption)))))))) | exact Nat.ne_of_gt (And.right (And.right (And.right (And.right (And.right (And.right (by assumption))))))) | exact Nat.ne_of_lt (And.right (And.right (And.right (And.right (And.right (And.right (by assumption))))))) | exact (And.right (And.right (And.right (And.right (And.right (And.right (by assumption))))))) | exact Ne.symm (And.right (And.right (And.right (And.right (And.right (And.right (by assumption))))))) | exact Nat.ne_of_gt (And.left (And.right (And.right (And.right (And.right (And.right (And.right (And.right (by assumption))))))))) | exact Nat.ne_of_lt (And.left (And.right (And.right (And.right (And.right (And.right (And.right (And.right (by assumption))))))))) | exact (And.left (And.right (And.right (And.right (And.right (And.right (And.right (And.right (by assumption))))))))) | exact Ne.symm (And.left (And.right (And.right (And.right (And.right (And.right (And.right (And.right (by assumption))))))))) | exact Nat.ne_of_gt (And.right (And.right (And.right (And.right (And.right (And.right (And.right (by assumption)))))))) | exact Nat.ne_of_lt (And.right (And.right (And.right (And.right (And.right (And.right (And.right (by assumption)))))))) | exact (And.right (And.right (And.right (And.right (And.right (And.right (And.right (by assumption)))))))) | exact Ne.symm (And.right (And.right (And.right (And.right (And.right (And.right (And.right (by assumption)))))))))
  k_with "call type:type" => ((with_reducible show wpAny _ _ (call _ [Value.bytes _ _]) _ _ _); refine call_type_of (Tx := "bytes") rfl (by decide +kernel) ?_)
  refine' enter (binds := [(Str.ofString "data", .bytes b tb)]) X T ?k6 ?k7 ?k8 ?k9 ?kB ?_ ?c2 ?c3 ?c4 ?c5
  case k6 => k_is
  case k7 => k_is
  case k8 => exact Nat.lt_of_le_of_lt (Nat.le_add_right _ _) hd
  case k9 => exact BindsTo.of_eq rfl
  case kB => exact locs rfl
  case c2 => exact rfl
  case c3 => exact rfl
  case c4 => exact rfl
  case c5 => decide
  intro L h₁ tk F N
  k_fold
  k_steps
  rename Fr _ _ _ _ => F'
  exact ret _ _ _ F'.keep
theorem truthN (w : World) (mean : ExcName → Option Value) (mg mb : Str → Option Value)
  (dp un : Nat) (fr : Option (List Env)) (gd : Option (List Code)) (s : Shared) (Q E : Value → Shared → Prop)
  (hd : dp + 1 < recursionLimit) (hu : un + 20 < cLine) (X : (Mine.hd.heap_39 w.params).In s.heap)
  (T : Top Mine.hd.view_39 (looseW Mine.hd.view_39 [Str.ofString "COMPILER_FLAG_NAMES", Str.ofString "b2a_base64", Str.ofString "b64encode", Str.ofString "_filemode_table"]) mean mg mb s.heap)
  (ret : ∀ h' tk', Grow s.heap h' → Q (.bool false) { s with heap := h', toks := tk' }) :
  wpAny (model PySem.Challenge.rw_om0021_01.row.prog w) ⟨none, dp, fr, gd, un⟩ (call (.ref 50) [.bool false]) Q E s := by
  revert X; k_fill; intro X
  k_with_none
  w_top off
  k_with "ne" => with_reducible (first | assumption | exact Ne.symm (by assumption) | exact Nat.ne_of_gt (by assumption) | exact Nat.ne_of_lt (by assumption) | exact Nat.ne_of_gt (Nat.lt_succ_self _) | exact Nat.ne_of_lt (Nat.lt_succ_self _) | exact Nat.ne_of_gt (Nat.lt_succ_of_lt (Nat.lt_succ_self _)) | exact Nat.ne_of_lt (Nat.lt_succ_of_lt (Nat.lt_succ_self _)) | exact Nat.ne_of_gt (Nat.lt_succ_of_lt (Nat.lt_succ_of_lt (Nat.lt_succ_self _))) | exact Nat.ne_of_lt (Nat.lt_succ_of_lt (Nat.lt_succ_of_lt (Nat.lt_succ_self _))) | exact Nat.ne_of_gt (Nat.lt_succ_of_lt (Nat.lt_succ_of_lt (Nat.lt_succ_of_lt (Nat.lt_succ_self _)))) | exact Nat.ne_of_lt (Nat.lt_succ_of_lt (Nat.lt_succ_of_lt (Nat.lt_succ_of_lt (Nat.lt_succ_self _)))) | exact Nat.ne_of_gt (And.left (by assumption)) | exact Nat.ne_of_lt (And.left (by assumption)) | exact (And.left (by assumption)) | exact Ne.symm (And.left (by assumption)) | exact Nat.ne_of_gt (And.left (And.right (by assumption))) | exact Nat.ne_of_lt (And.left (And.right (by assumption))) | exact (And.left (And.right (by assumption))) | exact Ne.symm (And.left (And.right (by assumption))) | exact Nat.ne_of_gt (And.right (by assumption)) | exact Nat.ne_of_lt (And.right (by assumption)) | exact (And.right (by assumption)) | exact Ne.symm (And.right (by assumption)) | exact Nat.ne_of_gt (And.left (And.right (And.right (by assumption)))) | exact Nat.ne_of_lt (And.left (And.right (And.right (by assumption)))) | exact (And.left (And.right (And.right (by assumption)))) | exact Ne.symm (And.left (And.right (And.right (by assumption)))) | exact Nat.ne_of_gt (And.right (And.right (by assumption))) | exact Nat.ne_of_lt (And.right (And.right (by assumption))) | exact (And.right (And.right (by assumption))) | exact Ne.symm (And.right (And.right (by assumption))) | exact Nat.ne_of_gt (And.left (And.right (And.right (And.right (by assumption))))) | exact Nat.ne_of_lt (And.left (And.right (And.right (And.right (by assumption))))) | exact (And.left (And.right (And.right (And.right (by assumption))))) | exact Ne.symm (And.left (And.right (And.right (And.right (by assumption))))) | exact Nat.ne_of_gt (And.right (And.right (And.right (by assumption)))) | exact Nat.ne_of_lt (And.right (And.right (And.right (by assumption)))) | exact (And.right (And.right (And.right (by assumption)))) | exact Ne.symm (And.right (And.right (And.right (by assumption)))) | exact Nat.ne_of_gt (And.left (And.right (And.right (And.right (And.right (by assumption)))))) | exact Nat.ne_of_lt (And.left (And.right (And.right (And.right (And.right (by assumption)))))) | exact (And.left (And.right (And.right (And.right (And.right (by assumption)))))) | exact Ne.symm (And.left (And.right (And.right (And.right (And.right (by assumption)))))) | exact Nat.ne_of_gt (And.right (And.right (And.right (And.right (by assumption))))) | exact Nat.ne_of_lt (And.right (And.right (And.right (And.right (by assumption))))) | exact (And.right (And.right (And.right (And.right (by assumption))))) | exact Ne.symm (And.right (And.right (And.right (And.right (by assumption))))) | exact Nat.ne_of_gt (And.left (And.right (And.right (And.right (And.right (And.right (by assumption))))))) | exact Nat.ne_of_lt (And.left (And.right (And.right (And.right (And.right (And.right (by assumption))))))) | exact (And.left (And.right (And.right (And.right (And.right (And.right (by assumption))))))) | exact Ne.symm (And.left (And.right (And.right (And.right (And.right (And.right (by assumption))))))) | exact Nat.ne_of_gt (And.right (And.right (And.right (And.right (And.right (by assumption)))))) | exact Nat.ne_of_lt (And.right (And.right (And.right (And.right (And.right (by assumption)))))) | exact (And.right (And.right (And.right (And.right (And.right (by assumption)))))) | exact Ne.symm (And.right (And.right (And.right (And.right (And.right (by assumption)))))) | exact Nat.ne_of_gt (And.left (And.right (And.right (And.right (And.right (And.right (And.right (by assumption)))))))) | exact Nat.ne_of_lt (And.left (And.right (And.right (And.right (And.right (And.right (And.right (by assumption)))))))) | exact (And.left (And.right (And.right (And.right (And.right (And.right (And.right (by assumption)))))))) | exact Ne.symm (And.left (And.right (And.right (And.right (And.right (And.right (And.right (by assumption)))))))) | exact Nat.ne_of_gt (And.right (And.right (And.right (And.right (And.right (And.right (by assumption))))))) | exact Nat.ne_of_lt (And.right (And.right (And.right (And.right (And.right (And.right (by assumption))))))) | exact (And.right (And.right (And.right (And.right (And.right (And.right (by assumption))))))) | exact Ne.symm (And.right (And.right (And.right (And.right (And.right (And.right (by assumption))))))) | exact Nat.ne_of_gt (And.left (And.right (And.right (And.right (And.right (And.right (And.right (And.right (by assumption))))))))) | exact Nat.ne_of_lt (And.left (And.right (And.right (And.right (And.right (And.right (And.right (And.right (by assumption))))))))) | exact (And.left (And.right (And.right (And.right (And.right (And.right (And.right (And.right (by assumption))))))))) | exact Ne.symm (And.left (And.right (And.right (And.right (And.right (And.right (And.right (And.right (by assumption))))))))) | exact Nat.ne_of_gt (And.right (And.right (And.right (And.right (And.right (And.right (And.right (by assumption)))))))) | exact Nat.ne_of_lt (And.right (And.right (And.right (And.right (And.right (And.right (And.right (by assumption)))))))) | exact (And.right (And.right (And.right (And.right (And.right (And.right (And.right (by assumption)))))))) | exact Ne.symm (And.right (And.right (And.right (And.right (And.right (And.right (And.right (by assumption)))))))))
  k_with "call type:type" => ((with_reducible show wpAny _ _ (call _ [Value.bytes _ _]) _ _ _); refine call_type_of (Tx := "bytes") rfl (by decide +kernel) ?_)
  refine' enter (binds := [(Str.ofString "x", .bool false)]) X T ?k6 ?k7 ?k8 ?k9 ?kB ?_ ?c2 ?c3 ?c4 ?c5
  case k6 => k_is
  case k7 => k_is
  case k8 => exact Nat.lt_of_le_of_lt (Nat.le_add_right _ _) hd
  case k9 => exact BindsTo.of_eq rfl
  case kB => exact locs rfl
  case c2 => exact rfl
  case c3 => exact rfl
  case c4 => exact rfl
  case c5 => decide
  intro L h₁ tk F N
  k_fold
  k_steps
  rename Fr _ _ _ _ => F'
  exact ret _ _ F'.keep
end Mine
end
noncomputable section
open PySem PySem.W PyProof.Rows PySem.Calls PySem.Spec
set_option maxRecDepth 100000
set_option maxHeartbeats 1600000
namespace Mine
section
variable {w : World} {mean : ExcName → Option Value} {mg mb : Str → Option Value}
  {dp un : Nat} {fr : Option (List Env)} {gd : Option (List Code)} {s : Shared} {Q E : Value → Shared → Prop} {h₀ : Heap} {L : Addr} {m : Str → Option Value} {news : List (Addr × Obj)}
theorem buffer_call {b : Array UInt8} {tb : Tok} (F : Fr h₀ L s.heap m) (N : News h₀ L s.heap news) (X : (Mine.hd.heap_39 w.params).In h₀)
  (T : Top Mine.hd.view_39 (looseW Mine.hd.view_39 [Str.ofString "COMPILER_FLAG_NAMES", Str.ofString "b2a_base64", Str.ofString "b64encode", Str.ofString "_filemode_table"]) mean mg mb h₀)
  (hd : dp + 1 < recursionLimit) (hu : un + 20 < cLine)
  (ret : ∀ t h' tk', Fr h₀ L h' m → News h₀ L h' news → Q (.bytes b t) { s with heap := h', toks := tk' }) :
  wpAny (model PySem.Challenge.rw_om0021_01.row.prog w) ⟨none, dp, fr, gd, un⟩ (call (.ref 43) [.bytes b tb]) Q E s :=
  buffer w mean mg mb b tb dp un fr gd s Q E hd hu (X.keeps F.keep) (T.keeps F.keep) fun t h' tk' g => ret t h' tk' (fr_grow F g) (news_grow N g)
theorem truth_call (F : Fr h₀ L s.heap m) (N : News h₀ L s.heap news) (X : (Mine.hd.heap_39 w.params).In h₀)
  (T : Top Mine.hd.view_39 (looseW Mine.hd.view_39 [Str.ofString "COMPILER_FLAG_NAMES", Str.ofString "b2a_base64", Str.ofString "b64encode", Str.ofString "_filemode_table"]) mean mg mb h₀)
  (hd : dp + 1 < recursionLimit) (hu : un + 20 < cLine)
  (ret : ∀ h' tk', Fr h₀ L h' m → News h₀ L h' news → Q (.bool false) { s with heap := h', toks := tk' }) :
  wpAny (model PySem.Challenge.rw_om0021_01.row.prog w) ⟨none, dp, fr, gd, un⟩ (call (.ref 50) [.bool false]) Q E s :=
  truthN w mean mg mb dp un fr gd s Q E hd hu (X.keeps F.keep) (T.keeps F.keep) fun h' tk' g => ret h' tk' (fr_grow F g) (news_grow N g)
end
section
variable {prog : Program} {w : World} {A : Around} {E : Value → Shared → Prop} {s : Shared} {W i j : Nat} {t u : Tok} {Q : Value → Shared → Prop}
theorem sgn_item {x : Array UInt8} {value slice : PySem.Expr} (hx : x = b64tab.toArray) (h : ∀ t', Q (.int ((sgnC (six W j) : Nat) : Int) t') { s with toks := s.toks + 1 })
    (hs : subscripted slice false (.bytes b64tab.toArray t) (.int ((six W j : Nat) : Int) u) = operate [.bytes b64tab.toArray t, .int ((six W j : Nat) : Int) u] (getItem (.bytes b64tab.toArray t) (.int ((six W j : Nat) : Int) u)))
    (ht : ∀ r, letTemporaryGo value (.bytes b64tab.toArray t) r = pure ()) : wpAny (model prog w) A (subscriptTail value slice (.bytes x t) (.int ((six W j : Nat) : Int) u)) Q E s := by
  subst hx
  have h1 := six_lt W j
  refine bytes_item_K (by decide) (Int.natCast_nonneg _) (by rw [show b64tab.length = 64 by decide]; exact Int.ofNat_lt.mpr h1) ?_ (h _) hs ht
  rw [Int.toNat_natCast]; unfold sgnC; rfl
end
theorem sub_e {x : Array UInt8} {t u : Tok} {z : Int} {a b : PySem.Expr} {o : Operator} {p : Pos} : subscripted (.BinOp a o b p) false (.bytes x t) (.int z u) = operate [.bytes x t, .int z u] (getItem (.bytes x t) (.int z u)) := by with_unfolding_all rfl
theorem let_b {n : Str} {p : Pos} {x : Array UInt8} {t : Tok} : ∀ r, letTemporaryGo (.Name n p) (.bytes x t) r = pure () := by intro _; with_unfolding_all rfl
theorem lcN_lt (W i : Nat) : lcN W i < 65536 := by unfold lcN; exact Nat.mod_lt _ (by decide)
theorem lcN_in (W i : Nat) : -2 ^ 64 < ((lcN W i : Nat) : Int) ∧ ((lcN W i : Nat) : Int) < 2 ^ 64 := ⟨Int.lt_of_lt_of_le (by decide) (Int.natCast_nonneg _), Int.lt_trans (Int.ofNat_lt.mpr (lcN_lt W i)) (by decide)⟩
theorem third (i : Nat) : i % 3 = 0 ∨ i % 3 = 1 ∨ i % 3 = 2 := by
  have h := Nat.mod_lt i (show 3 > 0 by decide)
  generalize i % 3 = k at h
  revert k; decide
theorem bits_at : ∀ i, i < 6 → (i % 3 = 0 → ((8 * i % 6 : Nat) : Int) = 0 ∧ ((8 * (i + 1) % 6 : Nat) : Int) = 2 ∧ 8 * (i + 1) / 6 = 8 * i / 6 + 1) ∧ (i % 3 = 1 → ((8 * i % 6 : Nat) : Int) = 2 ∧ ((8 * (i + 1) % 6 : Nat) : Int) = 4 ∧ 8 * (i + 1) / 6 = 8 * i / 6 + 1) ∧ (i % 3 = 2 → ((8 * i % 6 : Nat) : Int) = 4 ∧ ((8 * (i + 1) % 6 : Nat) : Int) = 0 ∧ 8 * (i + 1) / 6 = 8 * i / 6 + 1 + 1) := by decide
theorem ints_snocN {vs : List Value} {W n : Nat} {t : Tok} (h : IntsAre vs ((sgnTo W n).map fun (k : Nat) => (k : Int))) : IntsAre (vs ++ [.int ((sgnC (six W n) : Nat) : Int) t]) ((sgnTo W (n + 1)).map fun (k : Nat) => (k : Int)) := by
  rw [sgnTo_succ, List.map_append]; exact h.append (.cons _ _ .nil)
noncomputable def JB (W : Nat) (D : Addr) (i : Nat) (m : Str → Option Value) (nx : List (Addr × Obj)) : Prop :=
  ∃ vs k, nx = [(D, PySem.W.listOf vs.toArray k)] ∧ IntsAre vs ((sgnTo W (8 * i / 6)).map fun (k : Nat) => (k : Int)) ∧ (∃ t, m (Str.ofString "leftbits") = some (.int ((8 * i % 6 : Nat) : Int) t)) ∧ (∃ t, m (Str.ofString "leftchar") = some (.int ((lcN W i : Nat) : Int) t)) ∧
    m (Str.ofString "out") = some (.ref D) ∧ m (Str.ofString "newline") = some (.bool false)
theorem b2a (w : World) (mean : ExcName → Option Value) (mg mb : Str → Option Value) (W : Nat) (hW : W < 2 ^ 48) (b : Array UInt8) (hb6 : b.size = 6) (hb : ∀ (i : Nat) (c : UInt8), b[i]? = some c → c.toNat = byteAt W i) (tb : Tok)
  (dp un : Nat) (fr : Option (List Env)) (gd : Option (List Code)) (s : Shared) (Q E : Value → Shared → Prop)
  (hd : dp + 2 < recursionLimit) (hu : un + 40 < cLine) (X : (Mine.hd.heap_39 w.params).In s.heap)
  (T : Top Mine.hd.view_39 (looseW Mine.hd.view_39 [Str.ofString "COMPILER_FLAG_NAMES", Str.ofString "b2a_base64", Str.ofString "b64encode", Str.ofString "_filemode_table"]) mean mg mb s.heap)
  (ret : ∀ t h' tk', Grow s.heap h' → Q (.bytes (byteArr ((sgnTo W 8).map fun (k : Nat) => (k : Int))) t) { s with heap := h', toks := tk' }) :
  wpAny (model PySem.Challenge.rw_om0021_01.row.prog w) ⟨none, dp, fr, gd, un⟩ (call (.ref 58) [.bytes b tb] [(Str.ofString "newline", .bool false)]) Q E s := by
  revert X; k_fill; intro X
  k_with_none
  w_top off
  k_with "ne" => with_reducible (first | assumption | exact Ne.symm (by assumption) | exact Nat.ne_of_gt (by assumption) | exact Nat.ne_of_lt (by assumption) | exact Nat.ne_of_gt (Nat.lt_succ_self _) | exact Nat.ne_of_lt (Nat.lt_succ_self _) | exact Nat.ne_of_gt (Nat.lt_succ_of_lt (Nat.lt_succ_self _)) | exact Nat.ne_of_lt (Nat.lt_succ_of_lt (Nat.lt_succ_self _)) | exact Nat.ne_of_gt (Nat.lt_succ_of_lt (Nat.lt_succ_of_lt (Nat.lt_succ_self _))) | exact Nat.ne_of_lt (Nat.lt_succ_of_lt (Nat.lt_succ_of_lt (Nat.lt_succ_self _))) | exact Nat.ne_of_gt (Nat.lt_succ_of_lt (Nat.lt_succ_of_lt (Nat.lt_succ_of_lt (Nat.lt_succ_self _)))) | exact Nat.ne_of_lt (Nat.lt_succ_of_lt (Nat.lt_succ_of_lt (Nat.lt_succ_of_lt (Nat.lt_succ_self _)))) | exact Nat.ne_of_gt (And.left (by assumption)) | exact Nat.ne_of_lt (And.left (by assumption)) | exact (And.left (by assumption)) | exact Ne.symm (And.left (by assumption)) | exact Nat.ne_of_gt (And.left (And.right (by assumption))) | exact Nat.ne_of_lt (And.left (And.right (by assumption))) | exact (And.left (And.right (by assumption))) | exact Ne.symm (And.left (And.right (by assumption))) | exact Nat.ne_of_gt (And.right (by assumption)) | exact Nat.ne_of_lt (And.right (by assumption)) | exact (And.right (by assumption)) | exact Ne.symm (And.right (by assumption)) | exact Nat.ne_of_gt (And.left (And.right (And.right (by assumption)))) | exact Nat.ne_of_lt (And.left (And.right (And.right (by assumption)))) | exact (And.left (And.right (And.right (by assumption)))) | exact Ne.symm (And.left (And.right (And.right (by assumption)))) | exact Nat.ne_of_gt (And.right (And.right (by assumption))) | exact Nat.ne_of_lt (And.right (And.right (by assumption))) | exact (And.right (And.right (by assumption))) | exact Ne.symm (And.right (And.right (by assumption))) | exact Nat.ne_of_gt (And.left (And.right (And.right (And.right (by assumption))))) | exact Nat.ne_of_lt (And.left (And.right (And.right (And.right (by assumption))))) | exact (And.left (And.right (And.right (And.right (by assumption))))) | exact Ne.symm (And.left (And.right (And.right (And.right (by assumption))))) | exact Nat.ne_of_gt (And.right (And.right (And.right (by assumption)))) | exact Nat.ne_of_lt (And.right (And.right (And.right (by assumption)))) | exact (And.right (And.right (And.right (by assumption)))) | exact Ne.symm (And.right (And.right (And.right (by assumption)))) | exact Nat.ne_of_gt (And.left (And.right (And.right (And.right (And.right (by assumption)))))) | exact Nat.ne_of_lt (And.left (And.right (And.right (And.right (And.right (by assumption)))))) | exact (And.left (And.right (And.right (And.right (And.right (by assumption)))))) | exact Ne.symm (And.left (And.right (And.right (And.right (And.right (by assumption)))))) | exact Nat.ne_of_gt (And.right (And.right (And.right (And.right (by assumption))))) | exact Nat.ne_of_lt (And.right (And.right (And.right (And.right (by assumption))))) | exact (And.right (And.right (And.right (And.right (by assumption))))) | exact Ne.symm (And.right (And.right (And.right (And.right (by assumption))))) | exact Nat.ne_of_gt (And.left (And.right (And.right (And.right (And.right (And.right (by assumption))))))) | exact Nat.ne_of_lt (And.left (And.right (And.right (And.right (And.right (And.right (by assumption))))))) | exact (And.left (And.right (And.right (And.right (And.right (And.right (by assumption))))))) | exact Ne.symm (And.left (And.right (And.right (And.right (And.right (And.right (by assumption))))))) | exact Nat.ne_of_gt (And.right (And.right (And.right (And.right (And.right (by assumption)))))) | exact Nat.ne_of_lt (And.right (And.right (And.right (And.right (And.right (by assumption)))))) | exact (And.right (And.right (And.right (And.right (And.right (by assumption)))))) | exact Ne.symm (And.right (And.right (And.right (And.right (And.right (by assumption)))))) | exact Nat.ne_of_gt (And.left (And.right (And.right (And.right (And.right (And.right (And.right (by assumption)))))))) | exact Nat.ne_of_lt (And.left (And.right (And.right (And.right (And.right (And.right (And.right (by assumption)))))))) | exact (And.left (And.right (And.right (And.right (And.right (And.right (And.right (by assumption)))))))) | exact Ne.symm (And.left (And.right (And.right (And.right (And.right (And.right (And.right (by assumption)))))))) | exact Nat.ne_of_gt (And.right (And.right (And.right (And.right (And.right (And.right (by assumption))))))) | exact Nat.ne_of_lt (And.right (And.right (And.right (And.right (And.right (And.right (by assumption))))))) | exact (And.right (And.right (And.right (And.right (And.right (And.right (by assumption))))))) | exact Ne.symm (And.right (And.right (And.right (And.right (And.right (And.right (by assumption))))))) | exact Nat.ne_of_gt (And.left (And.right (And.right (And.right (And.right (And.right (And.right (And.right (by assumption))))))))) | exact Nat.ne_of_lt (And.left (And.right (And.right (And.right (And.right (And.right (And.right (And.right (by assumption))))))))) | exact (And.left (And.right (And.right (And.right (And.right (And.right (And.right (And.right (by assumption))))))))) | exact Ne.symm (And.left (And.right (And.right (And.right (And.right (And.right (And.right (And.right (by assumption))))))))) | exact Nat.ne_of_gt (And.right (And.right (And.right (And.right (And.right (And.right (And.right (by assumption)))))))) | exact Nat.ne_of_lt (And.right (And.right (And.right (And.right (And.right (And.right (And.right (by assumption)))))))) | exact (And.right (And.right (And.right (And.right (And.right (And.right (And.right (by assumption)))))))) | exact Ne.symm (And.right (And.right (And.right (And.right (And.right (And.right (And.right (by assumption)))))))))
  k_with "to for" => repeat ((fail_if_success (with_reducible show wpAny _ _ (exec (Stmt.For _ _ _ _ _) _) _ _ _)); first | (k_unfold; (try dsimp only)) | walk1 | (dsimp only; walk1))
  k_with "to iter" => repeat ((fail_if_success (with_reducible show wpAny _ _ (pyIter _) _ _ _)); first | (k_unfold; (try dsimp only)) | walk1 | (dsimp only; walk1))
  k_with "call ref" => k_dflt (first | (refine' buffer_call (by assumption) (by assumption) (by assumption) (by assumption) (by (first | exact roomD (by assumption) (by rfl) | exact roomU (by assumption) (by rfl))) (by (first | exact roomD (by assumption) (by rfl) | exact roomU (by assumption) (by rfl))) ?_; intro t' h' tk' F' N'; k_sweep) | (refine' truth_call (by assumption) (by assumption) (by assumption) (by assumption) (by (first | exact roomD (by assumption) (by rfl) | exact roomU (by assumption) (by rfl))) (by (first | exact roomD (by assumption) (by rfl) | exact roomU (by assumption) (by rfl))) ?_; intro h' tk' F' N'; k_sweep))
  k_with "exec While" => refine wpAny_While (while_turn ?_)
  k_with "codeAny" => refine while_turn ?_
  k_with "binaryOp BitOr int int" => k_dflt (refine or_as (or8 (by assumption)) ?_; intro _)
  k_with "binaryOp BitAnd int int" => k_dflt (first | ((with_reducible show wpAny _ _ (binaryOp _ _ (Value.int 65535 _)) _ _ _); refine and_as (lc_step (by assumption)) ?_; intro _) | ((with_reducible show wpAny _ _ (binaryOp _ _ (Value.int 63 _)) _ _ _); first | (refine and_as (six2 (by decide) (by assumption) (by assumption)) ?_; intro _) | (refine and_as (six4 (by decide) (by assumption) (by assumption)) ?_; intro _) | (refine and_as (six6 (by decide) (by assumption) (by assumption)) ?_; intro _) | (refine and_as (six0 (by decide) (by assumption) (by assumption)) ?_; intro _)))
  k_with "subscriptTail" => k_dflt ((with_reducible show wpAny _ _ (subscriptTail _ _ (Value.bytes _ _) (Value.int _ _)) _ _ _); refine' sgn_item (rfl) ?_ (sub_e) (let_b); intro _)
  k_with "call builtin:list.append" => k_dflt (refine app_one (by assumption) (by assumption) (OwnOff.ne (by assumption) (by simp)) (by first | assumption | (rw [List.length_append]; exact Nat.le_trans (Nat.add_le_add_right hvl 1) (by decide))) ?_; intro h' F' N'; k_sweep)
  refine' enter (binds := [(Str.ofString "data", .bytes b tb), (Str.ofString "newline", .bool false)]) X T ?k6 ?k7 ?k8 ?k9 ?kB ?_ ?c2 ?c3 ?c4 ?c5
  case k6 => k_is
  case k7 => k_is
  case k8 => exact Nat.lt_of_le_of_lt (Nat.le_add_right _ _) hd
  case k9 => exact BindsTo.of_eq rfl
  case kB => exact locs rfl
  case c2 => exact rfl
  case c3 => exact rfl
  case c4 => exact rfl
  case c5 => decide
  intro L h₁ tk F N
  k_fold
  walk_at "to for"
  refine wpAny_For ?_
  k_fold
  walk_at "to iter"
  rename Fr _ _ _ _ => F1
  rename News _ _ _ _ => N1
  obtain ⟨D, o1, eD, eo⟩ := named1 N1
  subst eD
  refine bytesFor (news := [(D, _)]) (cs := []) (JB W D) (by rfl) (by rfl) (by rfl) F1 N1 ?h0 ?turn ?done
  case h0 => exact ⟨[], 0, eo ▸ rfl, .nil, int_as (by rfl) rfl, int_as (by rfl) (by rw [lcN_0 hW]; rfl), rfl, rfl⟩
  case turn =>
    rintro i c t m₁ news₁ h tk own hi hc ha ho ⟨vs, k, rfl, hvs, ⟨t1, hlb⟩, ⟨t2, hlc⟩, hout, hnl⟩ F2 N2
    rw [hb6] at hi
    have hcb := hb i c hc
    have hb256 := byteAt_lt W i
    have hl16 := lcN_lt W i
    have hlcs := lc_step (W := W) hi
    rw [map4 hlb hlc hout hnl, hcb] at F2
    simp only [List.cons_append, List.nil_append] at N2
    clear F1 N1
    have hvl : vs.length ≤ 8 := by rw [hvs.length, List.length_map, sgnTo_len]; exact Nat.div_le_of_le_mul (Nat.mul_le_mul_left 8 (Nat.le_of_lt hi))
    have h3 := third i
    have hvl4 : vs.length ≤ 4096 := Nat.le_trans hvl (by decide)
    obtain ⟨b0, b1, b2⟩ := bits_at i hi
    rcases h3 with h3 | h3 | h3
    · obtain ⟨e, e1, e2⟩ := b0 h3
      rw [e] at F2
      show wpAny _ _ _ _ _ _
      k_fold
      k_steps
      rename Fr _ _ _ _ => F'
      rename News _ _ _ _ => N'
      refine inv1 F' N' ⟨_, _, rfl, ?_, int_as (by rfl) (by rw [e1]; rfl), int_as (by rfl) rfl, rfl, rfl⟩
      rw [e2]; exact ints_snocN hvs
    · obtain ⟨e, e1, e2⟩ := b1 h3
      rw [e] at F2
      show wpAny _ _ _ _ _ _
      k_fold
      k_steps
      rename Fr _ _ _ _ => F'
      rename News _ _ _ _ => N'
      refine inv1 F' N' ⟨_, _, rfl, ?_, int_as (by rfl) (by rw [e1]; rfl), int_as (by rfl) rfl, rfl, rfl⟩
      rw [e2]; exact ints_snocN hvs
    · obtain ⟨e, e1, e2⟩ := b2 h3
      rw [e] at F2
      show wpAny _ _ _ _ _ _
      k_fold
      k_steps
      rename Fr _ _ _ _ => F'
      rename News _ _ _ _ => N'
      refine inv1 F' N' ⟨_, _, rfl, ?_, int_as (by rfl) (by rw [e1]; rfl), int_as (by rfl) rfl, rfl, rfl⟩
      rw [e2]; exact ints_snocN (ints_snocN hvs)
  case done =>
    rintro m₁ news₁ h tk ⟨vs, k, rfl, hvs, ⟨t1, hlb⟩, ⟨t2, hlc⟩, hout, hnl⟩ F2 N2
    rw [hb6] at hlb hvs
    rw [map4 hlb hlc hout hnl] at F2
    simp only [List.cons_append, List.nil_append] at N2
    clear F1 N1
    show wpAny _ _ _ _ _ _
    k_fold
    k_steps
    refine KBa.make_K F2 N2 (by rfl) (isList_news N2 (.head _)) hvs (sgnTo_in W 8) (by rw [List.length_map, sgnTo_len]; decide) fun h' t' k' F' N' _ => ?_
    exact ret _ _ _ F'.keep
end Mine
end
noncomputable section
open PySem PySem.W PyProof.Rows PySem.Calls PySem.Spec
set_option maxRecDepth 100000
set_option maxHeartbeats 4000000
namespace Mine
section
variable {w : World} {mean : ExcName → Option Value} {mg mb : Str → Option Value}
  {dp un : Nat} {fr : Option (List Env)} {gd : Option (List Code)} {s : Shared} {Q E : Value → Shared → Prop} {h₀ : Heap} {L : Addr} {m : Str → Option Value} {news : List (Addr × Obj)}
theorem b2a_call {W : Nat} {b : Array UInt8} {tb : Tok} (hW : W < 2 ^ 48) (hb6 : b.size = 6) (hb : ∀ (i : Nat) (c : UInt8), b[i]? = some c → c.toNat = byteAt W i) (F : Fr h₀ L s.heap m) (N : News h₀ L s.heap news) (X : (Mine.hd.heap_39 w.params).In h₀)
  (T : Top Mine.hd.view_39 (looseW Mine.hd.view_39 [Str.ofString "COMPILER_FLAG_NAMES", Str.ofString "b2a_base64", Str.ofString "b64encode", Str.ofString "_filemode_table"]) mean mg mb h₀)
  (hd : dp + 2 < recursionLimit) (hu : un + 40 < cLine)
  (ret : ∀ t h' tk', Fr h₀ L h' m → News h₀ L h' news → Q (.bytes (byteArr ((sgnTo W 8).map fun (k : Nat) => (k : Int))) t) { s with heap := h', toks := tk' }) :
  wpAny (model PySem.Challenge.rw_om0021_01.row.prog w) ⟨none, dp, fr, gd, un⟩ (call (.ref 58) [.bytes b tb] [(Str.ofString "newline", .bool false)]) Q E s :=
  b2a w mean mg mb W hW b hb6 hb tb dp un fr gd s Q E hd hu (X.keeps F.keep) (T.keeps F.keep) fun t h' tk' g => ret t h' tk' (fr_grow F g) (news_grow N g)
end
theorem b64e (w : World) (mean : ExcName → Option Value) (mg mb : Str → Option Value) (W : Nat) (hW : W < 2 ^ 48) (b : Array UInt8) (hb6 : b.size = 6) (hb : ∀ (i : Nat) (c : UInt8), b[i]? = some c → c.toNat = byteAt W i) (tb : Tok)
  (dp un : Nat) (fr : Option (List Env)) (gd : Option (List Code)) (s : Shared) (Q E : Value → Shared → Prop)
  (hd : dp + 3 < recursionLimit) (hu : un + 60 < cLine) (X : (Mine.hd.heap_39 w.params).In s.heap)
  (T : Top Mine.hd.view_39 (looseW Mine.hd.view_39 [Str.ofString "COMPILER_FLAG_NAMES", Str.ofString "b2a_base64", Str.ofString "b64encode", Str.ofString "_filemode_table"]) mean mg mb s.heap)
  (ret : ∀ t h' tk', Grow s.heap h' → Q (.bytes (byteArr ((sgnTo W 8).map fun (k : Nat) => (k : Int))) t) { s with heap := h', toks := tk' }) :
  wpAny (model PySem.Challenge.rw_om0021_01.row.prog w) ⟨none, dp, fr, gd, un⟩ (call (.ref 66) [.bytes b tb]) Q E s := by
  revert X; k_fill; intro X
  k_with_none
  w_top off
  k_with "ne" => with_reducible (first | assumption | exact Ne.symm (by assumption) | exact Nat.ne_of_gt (by assumption) | exact Nat.ne_of_lt (by assumption) | exact Nat.ne_of_gt (Nat.lt_succ_self _) | exact Nat.ne_of_lt (Nat.lt_succ_self _) | exact Nat.ne_of_gt (Nat.lt_succ_of_lt (Nat.lt_succ_self _)) | exact Nat.ne_of_lt (Nat.lt_succ_of_lt (Nat.lt_succ_self _)) | exact Nat.ne_of_gt (Nat.lt_succ_of_lt (Nat.lt_succ_of_lt (Nat.lt_succ_self _))) | exact Nat.ne_of_lt (Nat.lt_succ_of_lt (Nat.lt_succ_of_lt (Nat.lt_succ_self _))) | exact Nat.ne_of_gt (Nat.lt_succ_of_lt (Nat.lt_succ_of_lt (Nat.lt_succ_of_lt (Nat.lt_succ_self _)))) | exact Nat.ne_of_lt (Nat.lt_succ_of_lt (Nat.lt_succ_of_lt (Nat.lt_succ_of_lt (Nat.lt_succ_self _)))) | exact Nat.ne_of_gt (And.left (by assumption)) | exact Nat.ne_of_lt (And.left (by assumption)) | exact (And.left (by assumption)) | exact Ne.symm (And.left (by assumption)) | exact Nat.ne_of_gt (And.left (And.right (by assumption))) | exact Nat.ne_of_lt (And.left (And.right (by assumption))) | exact (And.left (And.right (by assumption))) | exact Ne.symm (And.left (And.right (by assumption))) | exact Nat.ne_of_gt (And.right (by assumption)) | exact Nat.ne_of_lt (And.right (by assumption)) | exact (And.right (by assumption)) | exact Ne.symm (And.right (by assumption)) | exact Nat.ne_of_gt (And.left (And.right (And.right (by assumption)))) | exact Nat.ne_of_lt (And.left (And.right (And.right (by assumption)))) | exact (And.left (And.right (And.right (by assumption)))) | exact Ne.symm (And.left (And.right (And.right (by assumption)))) | exact Nat.ne_of_gt (And.right (And.right (by assumption))) | exact Nat.ne_of_lt (And.right (And.right (by assumption))) | exact (And.right (And.right (by assumption))) | exact Ne.symm (And.right (And.right (by assumption))) | exact Nat.ne_of_gt (And.left (And.right (And.right (And.right (by assumption))))) | exact Nat.ne_of_lt (And.left (And.right (And.right (And.right (by assumption))))) | exact (And.left (And.right (And.right (And.right (by assumption))))) | exact Ne.symm (And.left (And.right (And.right (And.right (by assumption))))) | exact Nat.ne_of_gt (And.right (And.right (And.right (by assumption)))) | exact Nat.ne_of_lt (And.right (And.right (And.right (by assumption)))) | exact (And.right (And.right (And.right (by assumption)))) | exact Ne.symm (And.right (And.right (And.right (by assumption)))) | exact Nat.ne_of_gt (And.left (And.right (And.right (And.right (And.right (by assumption)))))) | exact Nat.ne_of_lt (And.left (And.right (And.right (And.right (And.right (by assumption)))))) | exact (And.left (And.right (And.right (And.right (And.right (by assumption)))))) | exact Ne.symm (And.left (And.right (And.right (And.right (And.right (by assumption)))))) | exact Nat.ne_of_gt (And.right (And.right (And.right (And.right (by assumption))))) | exact Nat.ne_of_lt (And.right (And.right (And.right (And.right (by assumption))))) | exact (And.right (And.right (And.right (And.right (by assumption))))) | exact Ne.symm (And.right (And.right (And.right (And.right (by assumption))))) | exact Nat.ne_of_gt (And.left (And.right (And.right (And.right (And.right (And.right (by assumption))))))) | exact Nat.ne_of_lt (And.left (And.right (And.right (And.right (And.right (And.right (by assumption))))))) | exact (And.left (And.right (And.right (And.right (And.right (And.right (by assumption))))))) | exact Ne.symm (And.left (And.right (And.right (And.right (And.right (And.right (by assumption))))))) | exact Nat.ne_of_gt (And.right (And.right (And.right (And.right (And.right (by assumption)))))) | exact Nat.ne_of_lt (And.right (And.right (And.right (And.right (And.right (by assumption)))))) | exact (And.right (And.right (And.right (And.right (And.right (by assumption)))))) | exact Ne.symm (And.right (And.right (And.right (And.right (And.right (by assumption)))))) | exact Nat.ne_of_gt (And.left (And.right (And.right (And.right (And.right (And.right (And.right (by assumption)))))))) | exact Nat.ne_of_lt (And.left (And.right (And.right (And.right (And.right (And.right (And.right (by assumption)))))))) | exact (And.left (And.right (And.right (And.right (And.right (And.right (And.right (by assumption)))))))) | exact Ne.symm (And.left (And.right (And.right (And.right (And.right (And.right (And.right (by assumption)))))))) | exact Nat.ne_of_gt (And.right (And.right (And.right (And.right (And.right (And.right (by assumption))))))) | exact Nat.ne_of_lt (And.right (And.right (And.right (And.right (And.right (And.right (by assumption))))))) | exact (And.right (And.right (And.right (And.right (And.right (And.right (by assumption))))))) | exact Ne.symm (And.right (And.right (And.right (And.right (And.right (And.right (by assumption))))))) | exact Nat.ne_of_gt (And.left (And.right (And.right (And.right (And.right (And.right (And.right (And.right (by assumption))))))))) | exact Nat.ne_of_lt (And.left (And.right (And.right (And.right (And.right (And.right (And.right (And.right (by assumption))))))))) | exact (And.left (And.right (And.right (And.right (And.right (And.right (And.right (And.right (by assumption))))))))) | exact Ne.symm (And.left (And.right (And.right (And.right (And.right (And.right (And.right (And.right (by assumption))))))))) | exact Nat.ne_of_gt (And.right (And.right (And.right (And.right (And.right (And.right (And.right (by assumption)))))))) | exact Nat.ne_of_lt (And.right (And.right (And.right (And.right (And.right (And.right (And.right (by assumption)))))))) | exact (And.right (And.right (And.right (And.right (And.right (And.right (And.right (by assumption)))))))) | exact Ne.symm (And.right (And.right (And.right (And.right (And.right (And.right (And.right (by assumption)))))))))
  k_with "call ref" => k_dflt  (refine' b2a_call (by assumption) (by assumption) (by assumption) (by assumption) (by assumption) (by assumption) (by assumption) (by (first | exact roomD (by assumption) (by rfl) | exact roomU (by assumption) (by rfl))) (by (first | exact roomD (by assumption) (by rfl) | exact roomU (by assumption) (by rfl))) ?_; intro t' h' tk' F' N'; k_sweep)
  refine' enter (binds := [(Str.ofString "s", .bytes b tb), (Str.ofString "altchars", .none)]) X T ?k6 ?k7 ?k8 ?k9 ?kB ?_ ?c2 ?c3 ?c4 ?c5
  case k6 => k_is
  case k7 => k_is
  case k8 => exact Nat.lt_of_le_of_lt (Nat.le_add_right _ _) hd
  case k9 => first | exact BindsTo.of_eq rfl | exact binds_K X rfl (by k_is) rfl rfl rfl
  case kB => exact locs rfl
  case c2 => exact rfl
  case c3 => exact rfl
  case c4 => exact rfl
  case c5 => decide
  intro L h₁ tk F N
  k_fold
  k_steps
  rename Fr _ _ _ _ => F'
  exact ret _ _ _ F'.keep
end Mine
end
noncomputable section
open PySem PySem.W PyProof.Rows PySem.Calls PySem.Spec
set_option maxRecDepth 100000
namespace Mine
section
variable {prog : Program} {w : World} {A : Around} {E : Value → Shared → Prop} {s : Shared} {h₀ : Heap} {L : Addr} {m : Str → Option Value} {news : List (Addr × Obj)} {env : Env}
noncomputable def tabR (kf : Nat → Int) (n : Nat) : List (PyData × PyData) := (List.range n).foldl (fun acc i => PyProof.V.putD (.int (kf i)) (.int (i : Int)) acc) []
theorem tabR_succ (kf : Nat → Int) (n : Nat) : tabR kf (n + 1) = PyProof.V.putD (.int (kf n)) (.int (n : Int)) (tabR kf n) := by unfold tabR; rw [List.range_succ, List.foldl_append]; rfl
noncomputable def FKr (kf : Nat → Int) (v : Value) (k : Int) : Prop := ∃ i : Nat, (∃ t, v = .int (i : Int) t) ∧ k = kf i
noncomputable def FVr (v : Value) (y : Value) : Prop := ∃ i : Nat, (∃ t, v = .int (i : Int) t) ∧ ∃ t, y = .int (i : Int) t
theorem range_snoc {l : List Value} {v : Value} (h : ∀ (j : Nat) (u : Value), (l ++ [v])[j]? = some u → ∃ t, u = .int (j : Int) t) : (∃ t, v = .int (l.length : Int) t) ∧ ∀ (j : Nat) (u : Value), l[j]? = some u → ∃ t, u = .int (j : Int) t :=
  ⟨h l.length v (by simp), fun j u hj => h j u (by rw [List.getElem?_append_left]; exact hj; exact (List.getElem?_eq_some_iff.mp hj).1)⟩
theorem stored_tab {kf : Nat → Int} {l : List Value} {kvs : List (Int × Value)} (x : StoredAll (FKr kf) FVr l kvs) : (∀ (j : Nat) (u : Value), l[j]? = some u → ∃ t, u = .int (j : Int) t) → PyProof.V.FlatPairs PyData.int kvs (tabR kf l.length) := by
  induction x with
  | nil => intro _; exact .nil
  | @snoc l kvs v k y x hk hy ih =>
    intro h
    obtain ⟨⟨t0, hv⟩, h'⟩ := range_snoc h
    obtain ⟨i, ⟨t1, h1⟩, rfl⟩ := hk
    obtain ⟨j, ⟨t2, h2⟩, ⟨t3, rfl⟩⟩ := hy
    have e1 : i = l.length := by rw [hv] at h1; cases h1; omega
    have e2 : j = l.length := by rw [hv] at h2; cases h2; omega
    subst e1 e2
    rw [List.length_append, List.length_singleton, tabR_succ]
    exact PyProof.V.FlatPairs.stored PyProof.V.same_int (ih h') _ (PyProof.V.Flat.int _ _)
/-- a dict comprehension's block; the dict's place is known to be new -/
theorem dictBlock {K : Type} [DecidableEq K] {knd : KeyKind prog w K} {kx vx iter : PySem.Expr} {x : Str} {px : Pos} {ifs : List PySem.Expr} {scope : Scope} {cl : List (Str × Addr)} {pos : Pos} {s₂ : Shared} {I : Addr} {fp wr : List Addr} {n : Nat} {P : Nat → Value → Prop}
    {St : Nat → Heap → Prop} (W : Walks prog w A I fp wr n P St) (hsz : n ≤ sizeLine) (p : Value → Bool) (FK : Value → K → Prop) (FV : Value → Value → Prop) {RR : Value → Addr → Result → Shared → Prop}
    (hcell : ∀ y ∈ scope.names, y.2 ≠ .cell) (hkind : scope.kind = .function) (hx : scope.names.lookup x = some .local) (hst : St 0 s₂.heap) (hfp : ∀ b ∈ fp, b < s₂.heap.objs.size)
    (hq : QuietOnCD knd A env scope cl x ifs kx vx wr P p FK FV s₂)
    (hRR : ∀ (D C : Addr) h' tk m' kvs (vs : List Value), D = s₂.heap.objs.size → s₂.heap.get? C = none → D ≠ C → h'.Ns C m' → h'.DictOf knd D kvs → vs.length = n → (∀ j v, vs[j]? = some v → P j v) → StoredAll FK FV (vs.filter p) kvs →
      (∀ b o, b ∉ wr → s₂.heap.get? b = some o → h'.get? b = some o) → RR (.ref D) C (.ok .next) { s₂ with heap := h', toks := tk }) :
    wpAny (model prog w) A newDict (fun acc s₃ => wpAny (model prog w) A (newFunctionEnv scope env.globals cl [] env.qual none .none (some env)) (fun cenv s₄ =>
      codeAny (model prog w) A (.compStart (.DictComp kx vx [⟨.Name x px, iter, ifs, 0⟩] scope pos) 0 (.ref I) acc { cenv with scope := relabel scope env }) (RR acc cenv.locals) s₄) E s₃) E s₂ := by
  refine wpAny_newObj_type (wpAny_newFunctionEnv hcell (by intro y hy; simp at hy) (fun h₁ hns₁ hsb₁ => ?_) hkind)
  dsimp only at hns₁ hsb₁ ⊢
  have hnew : (s₂.heap.push { cls := .type "dict", dict := none, data := .dict #[] }).DictOf knd s₂.heap.objs.size [] := Heap.DictOf.new s₂.heap
  generalize hG : s₂.heap.push { cls := .type "dict", dict := none, data := .dict #[] } = G at hns₁ hsb₁ hnew ⊢
  have hC : G.objs.size = s₂.heap.objs.size + 1 := by rw [← hG, Heap.size_push]
  have hCn : s₂.heap.get? G.objs.size = none := by
    cases e : s₂.heap.get? G.objs.size with
    | none => rfl
    | some o => have := Heap.lt_size e; rw [hC] at this; exact absurd (Nat.lt_trans (Nat.lt_succ_self _) this) (Nat.lt_irrefl _)
  have hDC : s₂.heap.objs.size ≠ G.objs.size := by rw [hC]; exact Nat.ne_of_lt (Nat.lt_succ_self _)
  have off : ∀ b o, s₂.heap.get? b = some o → b ≠ G.objs.size ∧ b ≠ s₂.heap.objs.size := fun b o e => by
    have hb : b < s₂.heap.objs.size := Heap.lt_size e
    exact ⟨by rw [hC]; exact Nat.ne_of_lt (Nat.lt_succ_of_lt hb), Nat.ne_of_lt hb⟩
  have old : ∀ b o, s₂.heap.get? b = some o → h₁.get? b = some o := fun b o e => hsb₁.extBut b o (off b o e).1 (Heap.get?_push_of_some _ (hG ▸ Heap.get?_push_of_some _ e))
  have hacc : h₁.DictOf knd s₂.heap.objs.size [] := hnew.at fun o e => hsb₁.extBut _ _ hDC (Heap.get?_push_of_some _ e)
  have hst₁ : St 0 h₁ := W.frame _ _ _ hst fun b _ o e => old b o e
  have keep : ∀ (h' : Heap), (∀ b o, b ≠ G.objs.size → b ∉ wr → b ≠ s₂.heap.objs.size → h₁.get? b = some o → h'.get? b = some o) → ∀ b o, b ∉ wr → s₂.heap.get? b = some o → h'.get? b = some o :=
    fun h' hk b o hb e => hk b o (off b o e).1 hb (off b o e).2 (old b o e)
  have loop : ∀ s₃ : Shared, s₃ = { s₂ with heap := h₁, toks := s₂.toks + ([] : List (Str × Value)).length } →
      codeAny (model prog w) A (.compLoop (.DictComp kx vx [⟨.Name x px, iter, ifs, 0⟩] scope pos) 0 (.ref I) (.ref s₂.heap.objs.size) (compEnvC scope cl G.objs.size env)) (RR (.ref s₂.heap.objs.size) G.objs.size) s₃ := by
    rintro s₃ rfl
    refine codeAny_compLoop_walkD (hsz := hsz) (knd := knd) (cenv := compEnvC scope cl G.objs.size env) W p FK FV (lookup_relabel_local hx) (by simp [compEnvC, relabel, hkind]) hDC
      (fun hm => Nat.lt_irrefl _ (hfp _ hm)) (fun hm => by have : G.objs.size < _ := hfp _ hm; rw [hC] at this; exact Nat.lt_irrefl _ (Nat.lt_of_succ_lt this)) hst₁ hacc hns₁
      (fun i v s₃ m₃ hv hn hm hk => hq.tests _ i v s₃ m₃ _ hv hn hm (keep _ hk)) (fun i v s₃ m₃ hv hpv hn hm hk => hq.key _ i v s₃ m₃ _ hv hpv hn hm (keep _ hk)) (fun i v s₃ m₃ hv hpv hn hm hk => hq.val _ i v s₃ m₃ _ hv hpv hn hm (keep _ hk))
      fun h' tk m' kvs vs hn ha hlen hP hF hk => hRR _ _ h' tk m' kvs vs rfl hCn hDC hn ha hlen hP hF (keep _ hk)
  exact codeAny_compStart_dict (loop _ rfl) (W.self 0 _ _ _ hst₁ (loop _ rfl))
theorem dictRange {kx vx iter : PySem.Expr} {x : Str} {px : Pos} {scope : Scope} {cl : List (Str × Addr)} {pos : Pos} {Q : Value → Shared → Prop} (n : Nat) (kf : Nat → Int)
    (hbig : h₀.NoLimit) (hh : A.handled = none) (hclos : closureFor scope env = pure cl) (hcell : ∀ y ∈ scope.names, y.2 ≠ .cell) (hkind : scope.kind = .function)
    (hnames : ∀ y ∈ scope.names, y.2 = .local → scope.names.lookup y.1 = some .local) (hx : scope.names.lookup x = some .local)
    (h : wpAny (model prog w) A (eval iter env) (fun xv s₁ => ∃ r b₀ t u v, xv = .ref r ∧ Fr h₀ L s₁.heap m ∧ News h₀ L s₁.heap news ∧ IsRange s₁.heap r 0 b₀ 1 t u v ∧ Builtin.Range.small 0 b₀ 1 = true ∧ Builtin.Range.rangeSize 0 b₀ 1 = (n : Int) ∧
      (∀ D o kvs h' tk, Fr h₀ L h' m → News h₀ L h' ((D, o) :: news) → (D == sysModules) = false → o.IsDictOf (intKind prog w) kvs → PyProof.V.FlatPairs PyData.int kvs (tabR kf n) → (∀ p ∈ news, p.1 < D) → Q (.ref D) { s₁ with heap := h', toks := tk })) E s)
    (hkey : ∀ (i : Nat) t C s₃ m₃ E', i < n → s₃.heap.Ns C m₃ → m₃ x = some (.int (i : Int) t) → Fr h₀ L s₃.heap m → News h₀ L s₃.heap news →
      wpAny (model prog w) A (eval kx (compEnvC scope cl C env)) (fun key s₄ => (∃ t, key = .int (kf i) t) ∧ Keeps s₃ s₄) E' s₃)
    (hval : ∀ (i : Nat) t C s₃ m₃ E', i < n → s₃.heap.Ns C m₃ → m₃ x = some (.int (i : Int) t) → Fr h₀ L s₃.heap m → News h₀ L s₃.heap news →
      wpAny (model prog w) A (eval vx (compEnvC scope cl C env)) (fun y s₄ => (∃ t, y = .int (i : Int) t) ∧ Keeps s₃ s₄) E' s₃)
    (hn1 : n ≤ 1000) (hs : ∀ x, foldedSetIterable iter env x = pure x := by intro _; rfl) :
    wpAny (model prog w) A (eval (.DictComp kx vx [⟨.Name x px, iter, [], 0⟩] scope pos) env) Q E s := by
  rw [arm_eval_DictComp]
  refine wpAny_comprehension_free (use := none) rfl hs hclos hkind hnames (wpAny_mono h (fun xv s₁ h₁ => ?_) fun _ _ e => e)
  obtain ⟨r, b₀, t, u, v, rfl, F, N, hr, hsm, hn, fin⟩ := h₁
  refine wpAny_pyIter_range hr hsm ?_
  have W : Walks prog w A s₁.heap.objs.size [s₁.heap.objs.size] [s₁.heap.objs.size] n (fun i v => i < n ∧ ∃ t, v = .int (0 + i * 1) t)
      (fun i h => IsRangeIter h s₁.heap.objs.size (0 + (i : Nat) * 1) ((n : Int) - (i : Nat)) 1) := (Walks.range hh _ 0 1 n).bound
  have up : ∀ h' : Heap, (∀ b o, b ∉ [s₁.heap.objs.size] → (s₁.heap.push { cls := .type "range_iterator", data := .fields #[rawInt 0, rawInt (Builtin.Range.rangeSize 0 b₀ 1), rawInt 1] }).get? b = some o → h'.get? b = some o) → ∀ b o, s₁.heap.get? b = some o → h'.get? b = some o :=
    fun h' hk b o e => hk b o (fun hm => by rw [List.mem_singleton.mp hm] at e; exact Nat.lt_irrefl _ (Heap.lt_size e)) (Heap.get?_push_of_some _ e)
  refine dictBlock (knd := intKind prog w) (RR := fun acc C => compPost (model prog w) A E none Q acc C) W (by rw [sizeLine_eq]; omega) (fun _ => true) (FKr kf) FVr hcell hkind hx (by show IsRangeIter _ _ _ _ _; rw [hn]; simpa using Heap.get?_push_size _ rfl)
    (fun b hb => by rw [List.mem_singleton.mp hb]; show _ < (Heap.push _ _).objs.size; rw [Heap.size_push]; exact Nat.lt_succ_self _) ⟨?_, ?_, ?_⟩ ?_
  · intro C i v s₃ m₃ E' _ _ _ _
    exact wpAny_tests_nil ⟨rfl, s₃.heap, s₃.toks, rfl, fun _ _ e => e⟩
  · rintro C i v s₃ m₃ E' ⟨hi, t, rfl⟩ _ hns hm hk
    have e := step0 i
    rw [e] at hm ⊢
    refine wpAny_mono (hkey i t C s₃ m₃ E' hi hns hm (F.keeps (up _ hk)) (N.grown (up _ hk))) (fun key s₄ h₄ => ?_) fun _ _ e => e
    obtain ⟨⟨t', rfl⟩, hK⟩ := h₄
    exact ⟨⟨kf i, intKind_is prog w _ _, i, ⟨t, rfl⟩, rfl⟩, hK⟩
  · rintro C i v s₃ m₃ E' ⟨hi, t, rfl⟩ _ hns hm hk
    have e := step0 i
    rw [e] at hm ⊢
    refine wpAny_mono (hval i t C s₃ m₃ E' hi hns hm (F.keeps (up _ hk)) (N.grown (up _ hk))) (fun y s₄ h₄ => ?_) fun _ _ e => e
    exact ⟨⟨i, ⟨t, rfl⟩, h₄.1⟩, h₄.2⟩
  · intro D C h' tk m' kvs vs hDl hC hDC hns hd hlen hP hS hk
    refine ⟨m', hns, fun h'' hs'' => ?_⟩
    have k0 := up _ hk
    have k : ∀ b o, s₁.heap.get? b = some o → h''.get? b = some o := fun b o e => hs''.extBut b o (by rintro rfl; rw [Heap.get?_push_of_some _ e] at hC; cases hC) (k0 b o e)
    have h4 : s₁.heap.objs.size < D := by rw [hDl]; show _ < (Heap.push _ _).objs.size; rw [Heap.size_push]; exact Nat.lt_succ_self _
    obtain ⟨o, ho, hdo⟩ := Heap.dictOf_iff.mp (hd.extBut hs''.extBut hDC)
    have h3 := F.ns.lt
    have hDL : D ≠ L := fun e => by rw [e] at h4; exact absurd (Nat.lt_trans h4 h3) (Nat.lt_irrefl _)
    have hD0 : h₀.get? D = none := by
      cases q : h₀.get? D with
      | none => rfl
      | some x => exact absurd (Nat.lt_trans h4 (Heap.lt_size (F.keep _ _ q))) (Nat.lt_irrefl _)
    refine fin D o kvs h'' tk (F.keeps k) (fun p hp => ?_) ?_ hdo ?_ (fun p hp => Nat.lt_trans (Heap.lt_size (N p hp).1) h4)
    · rcases List.mem_cons.mp hp with rfl | hp
      · exact ⟨ho, hDL, hD0⟩
      · exact N.grown k p hp
    · refine beq_eq_false_iff_ne.mpr fun e => ?_
      have h1 := modules_low hbig
      have h2 := F.above
      rw [e] at h4
      exact absurd (Nat.lt_trans h1 (Nat.lt_of_le_of_lt h2 (Nat.lt_trans h3 h4))) (Nat.lt_irrefl _)
    · rw [List.filter_eq_self.mpr (fun _ _ => rfl)] at hS
      have := stored_tab hS fun j v hj => by
        obtain ⟨_, t, e⟩ := hP j v hj
        exact ⟨t, by rw [e]; congr 1; omega⟩
      rw [hlen] at this; exact this
end
end Mine
end
noncomputable section
open PySem PySem.W PyProof.Rows PySem.Calls PySem.Spec
set_option maxRecDepth 100000
namespace Mine
open LCg
section
variable {prog : Program} {w : World} {A : Around} {E : Value → Shared → Prop} {s : Shared} {h₀ : Heap} {L : Addr} {m : Str → Option Value} {env : Env}
/-- y = [elt for x in a bytes object] -/
theorem asgBytes {elt iter : PySem.Expr} {x y : Str} {px py : Pos} {scope : Scope} {cl : List (Str × Addr)} {pos spos : Pos} {Q : Flow → Shared → Prop} (_F₀ : Fr h₀ L s.heap m) (hLe : env.locals = L)
    (hsw : swapsWith (.ListComp elt [⟨.Name x px, iter, [], 0⟩] scope pos) (some (.Name y py)) spos.line env = pure true)
    (hclos : closureFor scope env = pure cl) (hcell : ∀ z ∈ scope.names, z.2 ≠ .cell) (hkind : scope.kind = .function)
    (hnames : ∀ z ∈ scope.names, z.2 = .local → scope.names.lookup z.1 = some .local) (hx : scope.names.lookup x = some .local)
    (hy : env.kindOf y = some .local) (hp : (env.scope.kind == .class || (env.scope.kind == .module && env.locals != env.globals)) = false)
    (h : wpAny (model prog w) A (eval iter env) (fun xv s₁ => ∃ b tb news, xv = .bytes b tb ∧ A.handled = none ∧ Fr h₀ L s₁.heap m ∧ News h₀ L s₁.heap news ∧ b.size ≤ sizeLine ∧
      ∀ g, CompRest prog w A h₀ L m env elt x scope cl { s₁ with heap := g } (fun _ => True) (fun i v => ∃ c u, b[i]? = some c ∧ v = .int (c.toNat : Int) u) (FinA h₀ L m { s₁ with heap := g } y Q) b.size 0 [] news) E s)
    (hs : ∀ x, foldedSetIterable iter env x = pure x := by intro _; rfl) :
    wpAny (model prog w) A (exec (.Assign [.Name y py] (.ListComp elt [⟨.Name x px, iter, [], 0⟩] scope pos) spos) env) Q E s := by
  subst hLe
  rw [exec_Assign_Name_used _ _ _ _ hsw]
  refine wpAny_bind (wpAny_standAt (wpAny_bind ?_))
  show wpAny _ A (do let _ ← comprehension (.ListComp elt [⟨.Name x px, iter, [], 0⟩] scope pos) scope env _ (newList []) false (eval iter env) (some (assign (.Name y py) env))) _ _ s
  refine wpAny_bind (wpAny_mono (wpAny_comprehension_free (use := some (assign (.Name y py) env)) (Q := fun _ s' => Q .next s') rfl hs hclos hkind hnames
    (wpAny_mono h (fun xv s₁ h₁ => ?_) fun _ _ e => e)) (fun _ s' hq => wpAny_pure (wpAny_pure hq)) fun _ _ e => e)
  obtain ⟨b, tb, news, rfl, hh, F, N, hsz, R⟩ := h₁
  refine KBw.pyIter_bytes ?_
  refine block_U (KBw.walks (prog := prog) (w := w) hh s₁.heap.objs.size b tb) hsz (fun i h st => by obtain ⟨o, e, _⟩ := st; exact ⟨o, e⟩)
    (fun i h h' o nw st e e' _ _ _ => by obtain ⟨o₁, q, r⟩ := st; rw [e] at q; cases q; exact ⟨o, e', r⟩) hcell hkind hx ⟨_, Heap.get?_push_size _ rfl, rfl, rfl⟩ (fun b hb => ?_)
    (F.keeps fun _ _ e => Heap.get?_push_of_some _ e) (N.grown fun _ _ e => Heap.get?_push_of_some _ e) (Nat.ne_of_lt F.ns.lt) (next_is_new F) (fun p hp => Nat.ne_of_lt (Heap.lt_size (N p hp).1)) trivial (R _) ?_
  · rw [List.mem_singleton.mp hb]
    show s₁.heap.objs.size < (s₁.heap.push _).objs.size
    rw [Heap.size_push]; exact Nat.lt_succ_self _
  · intro D C h' tk m' ys news' F' N' o1 hn hC₀ hD₀ hCL hDL hCD offC fin
    show wpAny _ A (assign (.Name y py) env (.ref D)) _ _ _
    refine wpAny_assign_Name (wpAny_storeName_local hy F'.ns (fun h₂ hn₂ hs₂ => ?_) hp)
    have F₂ := F'.set hn₂ hs₂
    refine ⟨m', hn.sameBut hs₂ hCL, fun h'' hs'' => fin D h'' _ (F₂.change hs'' hCL hC₀) (fun p hp => ?_) o1⟩
    refine ⟨hs''.extBut _ _ ?_ (hs₂.extBut _ _ (N' p hp).2.1 (N' p hp).1), (N' p hp).2⟩
    rcases List.mem_cons.mp hp with rfl | hp
    · exact Ne.symm hCD
    · exact offC p hp
end
end Mine
end
noncomputable section
open PySem PySem.W PyProof.Rows PySem.Calls PySem.Spec
set_option maxRecDepth 100000
set_option maxHeartbeats 4000000
namespace Mine
noncomputable def wholeN (as : List Nat) : Nat := as.foldl (fun w a => w * 4096 + a) 0
noncomputable def figN (W : Nat) : List Nat := (List.range 8).map (six W)
theorem swap3 {h₀ h : Heap} {L : Addr} {a b c : Addr × Obj} (N : News h₀ L h [a, b, c]) : News h₀ L h [b, a, c] := fun p hp => N p (by simp at hp ⊢; rcases hp with h | h | h <;> simp [h])
noncomputable def JW (as : List Nat) (W : Addr) (i : Nat) (_m : Str → Option Value) (nx : List (Addr × Obj)) : Prop := ∃ o, nx = [(W, o)] ∧ ∃ t, o.data = .cell (some (.int ((wholeN (as.take i) : Nat) : Int) t))
theorem off_cells {L : Addr} {o1 o2 : Obj} {own : List (Addr × Obj)} (h : OwnOff own [L + 1 + 1]) : ∀ p ∈ (L + 1 + 1 + 1, o1) :: (L + 1, o2) :: own, p.1 ≠ L + 1 + 1 := fun p hp => by
  rcases List.mem_cons.mp hp with rfl | hp
  · exact Nat.ne_of_gt (Nat.lt_succ_self _)
  · rcases List.mem_cons.mp hp with rfl | hp
    · exact Nat.ne_of_lt (Nat.lt_succ_self _)
    · exact OwnOff.ne h (by simp) p hp
theorem cell_as {o : Obj} {a b : Int} {t : Tok} (h : o.data = .cell (some (.int a t))) (e : a = b) : ∃ t, o.data = .cell (some (.int b t)) := ⟨t, e ▸ h⟩
theorem whole_snoc (as : List Nat) (a : Nat) : wholeN (as ++ [a]) = wholeN as * 4096 + a := by unfold wholeN; rw [List.foldl_append]; rfl
theorem digit_lt {X c b : Nat} (h : X < c) (hb : b < 4096) : X * 4096 + b < c * 4096 := Nat.lt_of_lt_of_le (Nat.add_lt_add_left hb _) (by rw [← Nat.succ_mul]; exact Nat.mul_le_mul_right _ h)
theorem whole_lt {as : List Nat} (h4 : as.length = 4) (h : ∀ a ∈ as, a < 4096) : wholeN as < 2 ^ 48 := by
  match as, h4 with
  | [a, b, c, d], _ =>
    have h1 := h a (by simp); have h2 := h b (by simp); have h3 := h c (by simp); have h4 := h d (by simp)
    exact digit_lt (digit_lt (digit_lt (digit_lt (show 0 < 1 by decide) h1) h2) h3) h4
noncomputable def bytesTo (V n : Nat) : List Nat := (List.range n).map (byteAt V)
theorem bytesTo_succ (V n : Nat) : bytesTo V (n + 1) = bytesTo V n ++ [byteAt V n] := by unfold bytesTo; rw [List.range_succ]; simp
theorem byte_val {V i : Nat} (hi : i < 6) : Builtin.bitAnd ((V : Int).fdiv (2 ^ (40 - 8 * (i : Int)).toNat)) 255 = ((byteAt V i : Nat) : Int) := by
  rw [shr_as (p := 40 - 8 * i) (by revert i; decide), and8]; unfold byteAt; rfl
theorem bytesTo_in (V n : Nat) : KBa.In ((bytesTo V n).map fun (k : Nat) => (k : Int)) := by
  intro x hx
  obtain ⟨k, hk, rfl⟩ := List.mem_map.mp hx
  unfold bytesTo at hk
  obtain ⟨j, _, rfl⟩ := List.mem_map.mp hk
  exact ⟨Int.natCast_nonneg _, Int.ofNat_lt.mpr (byteAt_lt V j)⟩
theorem arr_at {ns : List Nat} (h : ∀ x ∈ ns, x < 256) {i : Nat} {c : UInt8} (e : (byteArr (ns.map fun (k : Nat) => (k : Int)))[i]? = some c) : ns[i]? = some c.toNat := by
  unfold byteArr at e
  simp only [List.getElem?_toArray, List.getElem?_map] at e
  cases q : ns[i]? with
  | none => rw [q] at e; cases e
  | some x =>
    rw [q] at e
    have hx := h x (List.mem_of_getElem? q)
    have := Option.some.inj e
    rw [← this]
    congr 1
    show x = ((x : Int).toNat.toUInt8).toNat
    rw [Int.toNat_natCast]
    exact (Nat.mod_eq_of_lt hx).symm
theorem bytes_at (V : Nat) : ∀ (i : Nat) (c : UInt8), (byteArr ((bytesTo V 6).map fun (k : Nat) => (k : Int)))[i]? = some c → c.toNat = byteAt V i := by
  intro i c e
  have h1 := arr_at (fun x hx => by unfold bytesTo at hx; obtain ⟨j, _, rfl⟩ := List.mem_map.mp hx; exact byteAt_lt V j) e
  unfold bytesTo at h1
  rw [List.getElem?_map] at h1
  cases q : (List.range 6)[i]? with
  | none => rw [q] at h1; cases h1
  | some j => rw [q] at h1; have hj : j = i := by rw [List.getElem?_range] at q; exact (Option.some.inj q).symm; exact (by have := (List.getElem?_eq_some_iff.mp q).1; simpa using this)
              subst hj; exact (Option.some.inj h1).symm
theorem signs_at (V : Nat) : ∀ (i : Nat) (c : UInt8), (byteArr ((sgnTo V 8).map fun (k : Nat) => (k : Int)))[i]? = some c → c.toNat = sgnC (six V i) := by
  intro i c e
  have h1 := arr_at (fun x hx => by unfold sgnTo at hx; obtain ⟨j, _, rfl⟩ := List.mem_map.mp hx; exact sgnC_lt _ (six_lt V j)) e
  unfold sgnTo at h1
  rw [List.getElem?_map] at h1
  cases q : (List.range 8)[i]? with
  | none => rw [q] at h1; cases h1
  | some j => rw [q] at h1; have hj : j = i := by rw [List.getElem?_range] at q; exact (Option.some.inj q).symm; exact (by have := (List.getElem?_eq_some_iff.mp q).1; simpa using this)
              subst hj; exact (Option.some.inj h1).symm
section
variable {w : World} {mean : ExcName → Option Value} {mg mb : Str → Option Value}
  {dp un : Nat} {fr : Option (List Env)} {gd : Option (List Code)} {s : Shared} {Q E : Value → Shared → Prop} {h₀ : Heap} {L : Addr} {m : Str → Option Value} {news : List (Addr × Obj)}
theorem b64_call {V : Nat} {b : Array UInt8} {tb : Tok} (hW : V < 2 ^ 48) (hb6 : b.size = 6) (hb : ∀ (i : Nat) (c : UInt8), b[i]? = some c → c.toNat = byteAt V i) (F : Fr h₀ L s.heap m) (N : News h₀ L s.heap news) (X : (Mine.hd.heap_39 w.params).In h₀)
  (T : Top Mine.hd.view_39 (looseW Mine.hd.view_39 [Str.ofString "COMPILER_FLAG_NAMES", Str.ofString "b2a_base64", Str.ofString "b64encode", Str.ofString "_filemode_table"]) mean mg mb h₀)
  (hd : dp + 3 < recursionLimit) (hu : un + 60 < cLine)
  (ret : ∀ b8 t h' tk', Fr h₀ L h' m → News h₀ L h' news → b8.size = 8 → (∀ (i : Nat) (c : UInt8), b8[i]? = some c → c.toNat = sgnC (six V i)) → Q (.bytes b8 t) { s with heap := h', toks := tk' }) :
  wpAny (model PySem.Challenge.rw_om0021_01.row.prog w) ⟨none, dp, fr, gd, un⟩ (call (.ref 66) [.bytes b tb]) Q E s :=
  b64e w mean mg mb V hW b hb6 hb tb dp un fr gd s Q E hd hu (X.keeps F.keep) (T.keeps F.keep) fun t h' tk' g => ret _ t h' tk' (fr_grow F g) (news_grow N g) (by rw [byteArr_size, List.length_map, sgnTo_len]) (signs_at V)
theorem len8 {prog : Program} {A : Around} {b : Array UInt8} {t : Tok} (h8 : b.size = 8) (h : ∀ t' k, Q (.int 8 t') { s with toks := k }) : wpAny (model prog w) A (call (.builtin "len") [.bytes b t]) Q E s :=
  len_bytes (by rw [h8]; decide) (by rw [h8]; exact h _ _)
end
theorem dictRange' {prog : Program} {w : World} {A : Around} {E : Value → Shared → Prop} {s : Shared} {h₀ : Heap} {L : Addr} {m : Str → Option Value} {news : List (Addr × Obj)} {env : Env} {kx vx iter : PySem.Expr} {x : Str} {px : Pos} {scope : Scope} {cl : List (Str × Addr)} {pos : Pos} {Q : Value → Shared → Prop}
    (_F₀ : Fr h₀ L s.heap m) (_N₀ : News h₀ L s.heap news) (n : Nat) (kf : Nat → Int)
    (hbig : h₀.NoLimit) (hh : A.handled = none) (hclos : closureFor scope env = pure cl) (hcell : ∀ y ∈ scope.names, y.2 ≠ .cell) (hkind : scope.kind = .function)
    (hnames : ∀ y ∈ scope.names, y.2 = .local → scope.names.lookup y.1 = some .local) (hx : scope.names.lookup x = some .local)
    (h : wpAny (model prog w) A (eval iter env) (fun xv s₁ => ∃ r b₀ t u v, xv = .ref r ∧ Fr h₀ L s₁.heap m ∧ News h₀ L s₁.heap news ∧ IsRange s₁.heap r 0 b₀ 1 t u v ∧ Builtin.Range.small 0 b₀ 1 = true ∧ Builtin.Range.rangeSize 0 b₀ 1 = (n : Int) ∧
      (∀ D o kvs h' tk, Fr h₀ L h' m → News h₀ L h' ((D, o) :: news) → (D == sysModules) = false → o.IsDictOf (intKind prog w) kvs → PyProof.V.FlatPairs PyData.int kvs (tabR kf n) → (∀ p ∈ news, p.1 < D) → Q (.ref D) { s₁ with heap := h', toks := tk })) E s)
    (hkey : ∀ (i : Nat) t C s₃ m₃ E', i < n → s₃.heap.Ns C m₃ → m₃ x = some (.int (i : Int) t) → Fr h₀ L s₃.heap m → News h₀ L s₃.heap news →
      wpAny (model prog w) A (eval kx (compEnvC scope cl C env)) (fun key s₄ => (∃ t, key = .int (kf i) t) ∧ Keeps s₃ s₄) E' s₃)
    (hval : ∀ (i : Nat) t C s₃ m₃ E', i < n → s₃.heap.Ns C m₃ → m₃ x = some (.int (i : Int) t) → Fr h₀ L s₃.heap m → News h₀ L s₃.heap news →
      wpAny (model prog w) A (eval vx (compEnvC scope cl C env)) (fun y s₄ => (∃ t, y = .int (i : Int) t) ∧ Keeps s₃ s₄) E' s₃)
    (hn1 : n ≤ 1000) (hs : ∀ x, foldedSetIterable iter env x = pure x) :
    wpAny (model prog w) A (eval (.DictComp kx vx [⟨.Name x px, iter, [], 0⟩] scope pos) env) Q E s := dictRange n kf hbig hh hclos hcell hkind hnames hx h hkey hval hn1 hs
section
variable {prog : Program} {w : World} {A : Around} {E : Value → Shared → Prop} {s : Shared} {i : Nat} {t u : Tok} {Q : Value → Shared → Prop}
theorem alph_item {x : Array UInt8} {value slice : PySem.Expr} (hx : x = b64tab.toArray) (hi : i < 64) (h : ∀ t', Q (.int ((sgnC i : Nat) : Int) t') { s with toks := s.toks + 1 })
    (hs : subscripted slice false (.bytes b64tab.toArray t) (.int (i : Int) u) = operate [.bytes b64tab.toArray t, .int (i : Int) u] (getItem (.bytes b64tab.toArray t) (.int (i : Int) u)))
    (ht : ∀ r, letTemporaryGo value (.bytes b64tab.toArray t) r = pure ()) : wpAny (model prog w) A (subscriptTail value slice (.bytes x t) (.int (i : Int) u)) Q E s := by
  subst hx
  refine bytes_item_K (by decide) (Int.natCast_nonneg _) (by rw [show b64tab.length = 64 by decide]; exact Int.ofNat_lt.mpr hi) ?_ (h _) hs ht
  rw [Int.toNat_natCast]; unfold sgnC; rfl
theorem ld_ns {scope : Scope} {cl : List (Str × Addr)} {C : Addr} {env : Env} {x : Str} {pos : Pos} {v : Value} {m₃ : Str → Option Value} (hns : s.heap.Ns C m₃) (hm : m₃ x = some v) (h : Q v s)
    (hk : (compEnvC scope cl C env).scope.kind = .function) (hx : (compEnvC scope cl C env).kindOf x = some .local) (hd : (x == ("__debug__" : Str)) = false) :
    wpAny (model prog w) A (eval (.Name x pos) (compEnvC scope cl C env)) Q E s := wpAny_Name (wpAny_loadName_local hk hx hns hm h) hd
end
theorem sub_nb {n : Str} {p : Pos} {x : Array UInt8} {t u : Tok} {z : Int} : subscripted (.Name n p) false (.bytes x t) (.int z u) = operate [.bytes x t, .int z u] (getItem (.bytes x t) (.int z u)) := by with_unfolding_all rfl
theorem drop_one {h₀ h : Heap} {L : Addr} {a b c d e : Addr × Obj} (N : News h₀ L h [a, b, c, d, e]) : News h₀ L h [d, a, c, e] := fun p hp => N p (by simp at hp ⊢; rcases hp with h | h | h | h <;> simp [h])
theorem tab_off {L D : Addr} {o1 o2 o3 : Obj} (l : L + 1 + 1 < D ∧ L + 1 + 1 + 1 < D ∧ L + 1 < D) : ∀ p ∈ [(D, o1), (L + 1 + 1, o2), (L + 1, o3)], p.1 ≠ L + 1 + 1 + 1 := fun p hp => by
  simp only [List.mem_cons, List.not_mem_nil, or_false] at hp
  rcases hp with rfl | rfl | rfl
  · exact Nat.ne_of_gt l.2.1
  · exact Nat.ne_of_lt (Nat.lt_succ_self _)
  · exact Nat.ne_of_lt (Nat.lt_succ_of_lt (Nat.lt_succ_self _))
theorem lt_three {D : Addr} {b c d e : Addr × Obj} (l : ∀ p ∈ [b, c, d, e], p.1 < D) : c.1 < D ∧ d.1 < D ∧ e.1 < D := ⟨l c (by simp), l d (by simp), l e (by simp)⟩
noncomputable def sixTo (V n : Nat) : List Nat := (List.range n).map (six V)
theorem sixTo_succ (V n : Nat) : sixTo V (n + 1) = sixTo V n ++ [six V n] := by unfold sixTo; rw [List.range_succ]; simp
theorem tab_lookB : ∀ v, v < 64 → (match PySem.Spec.lookup (PyData.int ((sgnC v : Nat) : Int)) (tabR (fun k => ((sgnC k : Nat) : Int)) 64) with | some (.int k) => decide (k = (v : Int)) | _ => false) = true := by decide +kernel
theorem tab_look (v : Nat) (h : v < 64) : (PySem.Spec.lookup (PyData.int ((sgnC v : Nat) : Int)) (tabR (fun k => ((sgnC k : Nat) : Int)) 64)).getD (PyData.int (-1)) = PyData.int (v : Int) := by
  have h1 := tab_lookB v h
  split at h1
  · rename_i k e
    rw [e]; simp at h1; subst h1; rfl
  · cases h1
theorem six_any (V n : Nat) : ((sixTo V n).map fun (k : Nat) => (k : Int)).any (fun x => x == -1) = false := by
  rw [List.any_eq_false]
  intro x hx
  obtain ⟨k, _, rfl⟩ := List.mem_map.mp hx
  simp
theorem lawfig (w : World) (mean : ExcName → Option Value) (mg mb : Str → Option Value) (as : List Nat) (has : as.length = 4) (hlt : ∀ a ∈ as, a < 4096) (l : Addr) (vs : List Value) (hi : IntsAre vs (as.map fun (k : Nat) => (k : Int)))
  (dp un : Nat) (fr : Option (List Env)) (gd : Option (List Code)) (s : Shared) (Q E : Value → Shared → Prop)
  (hd : dp + 4 < recursionLimit) (hu : un + 80 < cLine) (X : (Mine.hd.heap_39 w.params).In s.heap)
  (T : Top Mine.hd.view_39 (looseW Mine.hd.view_39 [Str.ofString "COMPILER_FLAG_NAMES", Str.ofString "b2a_base64", Str.ofString "b64encode", Str.ofString "_filemode_table"]) mean mg mb s.heap)
  (hl : s.heap.IsList l vs.toArray)
  (ret : ∀ D ys h' tk', Grow s.heap h' → s.heap.get? D = none → h'.get? D = some (LCg.lst ys) → IntsAre ys ((figN (wholeN as)).map fun (k : Nat) => (k : Int)) → Q (.ref D) { s with heap := h', toks := tk' }) :
  wpAny (model PySem.Challenge.rw_om0021_01.row.prog w) ⟨none, dp, fr, gd, un⟩ (call (.ref 137) [.ref l]) Q E s := by
  revert X; k_fill; intro X
  k_with_none
  w_top off
  k_with "to for" => repeat ((fail_if_success (with_reducible show wpAny _ _ (exec (Stmt.For _ _ _ _ _) _) _ _ _)); first | (k_unfold; (try dsimp only)) | walk1 | (dsimp only; walk1))
  k_with "to iter" => repeat ((fail_if_success (with_reducible show wpAny _ _ (pyIter _) _ _ _)); first | (k_unfold; (try dsimp only)) | walk1 | (dsimp only; walk1))
  k_with "to comp" => repeat ((fail_if_success (with_reducible show wpAny _ _ (eval (Expr.ListComp _ _ _ _) _) _ _ _)); first | (k_unfold; (try dsimp only)) | walk1 | (dsimp only; walk1))
  k_with "storeName" => k_dflt (refine' storeX_C (by assumption) (by assumption) (by rfl) (UpdF.head (off_cells (by assumption))) (by assumption) ?_ (by rfl) (by rfl); intro h' o' F' N' d'; (try dsimp only at N'); (try k_sweep))
  k_with "to src" => repeat ((fail_if_success (with_reducible show LCg.CompSrc _ _ _ _ _ _ _ _ _ _ _ _ _ _)); first | (k_unfold; (try dsimp only)) | walk1 | (dsimp only; walk1))
  k_with "call ref" => k_dflt  (refine' b64_call (by assumption) (by assumption) (by assumption) (by assumption) (by assumption) (by assumption) (by assumption) (by (first | exact roomD (by assumption) (by rfl) | exact roomU (by assumption) (by rfl))) (by (first | exact roomD (by assumption) (by rfl) | exact roomU (by assumption) (by rfl))) ?_; intro b8 t' h' tk' F' N' hz8 hs8; k_sweep)
  k_with "call type:type" => ((with_reducible show wpAny _ _ (call _ [Value.bytes _ _]) _ _ _); refine call_type_of (Tx := "bytes") rfl (by decide +kernel) ?_)
  k_with "call builtin:len" => k_dflt ((with_reducible show wpAny _ _ (call _ [Value.bytes _ _]) _ _ _); refine len8 (by assumption) ?_; intro _ _)
  k_with "to dict" => repeat ((fail_if_success (with_reducible show wpAny _ _ (eval (Expr.DictComp _ _ _ _ _) _) _ _ _)); first | (k_unfold; (try dsimp only)) | walk1 | (dsimp only; walk1))
  k_with "to asg" => repeat ((fail_if_success (with_reducible show wpAny _ _ (exec (Stmt.Assign _ (Expr.ListComp _ _ _ _) _) _) _ _ _)); first | (k_unfold; (try dsimp only)) | walk1 | (dsimp only; walk1))
  k_with "eval Name" => k_dflt ((with_reducible show wpAny _ _ (eval (Expr.Name _ _) (compEnvC _ _ _ _)) _ _ _); refine' ld_ns (by assumption) (by assumption) ?_ (by rfl) (by rfl) (by decide); )
  k_with "subscriptTail" => k_dflt ((with_reducible show wpAny _ _ (subscriptTail _ _ (Value.bytes _ _) (Value.int _ _)) _ _ _); refine' alph_item (rfl) (by assumption) ?_ (sub_nb) (let_b); intro _)
  k_with "to ex" => repeat ((fail_if_success (with_reducible show Exists _)); first | (k_unfold; (try dsimp only)) | walk1 | (dsimp only; walk1))
  refine' enterC (binds := [(Str.ofString "switches", .ref l)]) X T ?k6 ?k7 ?k8 ?k9 ?kB ?kD ?_ ?c2 ?c3 ?c4
  case k6 => k_is
  case k7 => k_is
  case k8 => exact Nat.lt_of_le_of_lt (Nat.le_add_right _ _) hd
  case k9 => exact BindsTo.of_eq rfl
  case kB => exact rfl
  case kD => decide +kernel
  case c2 => exact rfl
  case c3 => exact rfl
  case c4 => exact rfl
  intro L h₁ tk cells F N Y
  k_cells Y
  (try simp only [List.cons_append, List.nil_append] at N)
  show wpAny _ _ _ _ _ _
  k_fold
  walk_at "to for"
  refine wpAny_For ?_
  k_fold
  walk_at "to iter"
  rename Fr _ _ _ _ => F1
  rename News _ _ _ _ => N1
  obtain ⟨ol, hol, _⟩ := id hl
  have hlL : l < L := Nat.lt_of_lt_of_le (Heap.lt_size hol) F1.above
  have N1' := swap3 N1
  refine listFor (news := [(L + 1 + 1, _)]) (cs := [(L + 1 + 1 + 1, _), (L + 1, _)]) (JW as (L + 1 + 1)) (by rfl) (hl.at fun o e => F1.keep l o e) (Nat.ne_of_lt hlL) (fun p hp => news_off N1 hol p (by simp at hp ⊢; simp [hp])) (by rfl) (by rfl) F1 N1' ?h0 ?turn ?done
  case h0 => exact ⟨_, rfl, cell_as (by assumption) rfl⟩
  case turn =>
    rintro i v m₁ news₁ h tk own hi' hv - ho ⟨ow, rfl, tw, how⟩ F2 N2
    have hi4 : i < as.length := Nat.lt_of_lt_of_eq hi' (hi.length.trans (List.length_map _))
    obtain ⟨tv, htv⟩ := hi.get i ((as[i] : Nat) : Int) (by simp [hi4])
    rw [htv] at hv
    obtain rfl := Option.some.inj hv
    simp only [List.cons_append, List.nil_append] at N2
    have ho' : OwnOff own [L + 1 + 1] := ho
    clear F1 N1 N1' hv
    show wpAny _ _ _ _ _ _
    k_fold
    k_steps
    rename Fr _ _ _ _ => F'
    rename News _ _ _ _ => N'
    refine inv1 F' N' ⟨_, rfl, cell_as (by assumption) ?_⟩
    rw [List.take_add_one, List.getElem?_eq_getElem hi4]
    show _ = ((wholeN (as.take i ++ [as[i]]) : Nat) : Int)
    rw [whole_snoc]; rfl
  case done =>
    rintro m₁ news₁ h tk ⟨ow, rfl, tw, how⟩ F2 N2
    simp only [List.cons_append, List.nil_append] at N2
    clear F1 N1 N1'
    show wpAny _ _ _ _ _ _
    k_fold
    have hvl : vs.length = as.length := by have := hi.length; rw [List.length_map] at this; exact this
    rw [hvl, List.take_length] at how
    generalize hV : wholeN as = V at how ret
    have hV48 : V < 2 ^ 48 := by rw [← hV]; exact whole_lt has hlt
    walk_at "to comp"
    refine LCg.ListComp_U (F₀ := F2) (by with_unfolding_all rfl) (by decide) (by rfl) (by decide) (by rfl) ?_
    walk_at "to src"
    rename IsRange _ _ _ _ _ _ _ _ => hr
    rename Fr _ _ _ _ => F3
    rename News _ _ _ _ => N3
    refine LCg.CompSrc.range (n := 6) rfl F3 N3 hr (by decide) (by decide) (by decide) ?_
    intro g
    clear hr F3 N3
    refine comp_inv (fun i ys => IntsAre ys ((bytesTo V i).map fun (k : Nat) => (k : Int))) True.intro ?turn1 ?fin1 .nil
    case turn1 =>
      rintro i v ys I oI C oC D m₂ h tk E' hi6 ⟨t, rfl⟩ hys hC hx F4 N4
      rw [Int.zero_add] at hx
      show wpAny _ _ _ _ _ _
      k_fold
      k_steps
      refine ⟨_, _, rfl, F4, N4, ?_⟩
      rw [byte_val hi6, bytesTo_succ, List.map_append]
      exact hys.append (.cons _ _ .nil)
    case fin1 =>
      intro ys hys D h tk F4 N4 off
      show wpAny _ _ _ _ _ _
      k_fold
      k_steps
      refine KBa.make_K F4 N4 (by rfl) (isList_news N4 (.head _)) hys (bytesTo_in V 6) (by rw [List.length_map]; unfold bytesTo; rw [List.length_map]; decide) fun h' t' k' F' N' _ => ?_
      have hb6 : (byteArr ((bytesTo V 6).map fun (k : Nat) => (k : Int))).size = 6 := by rw [byteArr_size, List.length_map]; unfold bytesTo; rfl
      have hbv := bytes_at V
      generalize byteArr ((bytesTo V 6).map fun (k : Nat) => (k : Int)) = b6 at hb6 hbv
      clear F4 N4 hys off
      show wpAny _ _ _ _ _ _
      k_fold
      walk_at "to dict"
      rename Fr _ _ _ _ => F5
      rename News _ _ _ _ => N5
      refine' dictRange' F5 N5 64 (fun k => ((sgnC k : Nat) : Int)) T.nolimit (by rfl) (by with_unfolding_all rfl) (by decide) (by rfl) (by decide) (by rfl) ?hd ?key ?val (by decide) (by intro _; rfl)
      case key =>
        intro i t C s₃ m₃ E' hi64 hns hm F6 N6
        clear F5 N5
        show wpAny _ _ _ _ _ _
        k_fold
        k_steps
        exact ⟨_, _, rfl, fun _ _ e => e⟩
      case val =>
        intro i t C s₃ m₃ E' hi64 hns hm F6 N6
        clear F5 N5
        show wpAny _ _ _ _ _ _
        k_fold
        k_steps
        exact ⟨_, _, rfl, fun _ _ e => e⟩
      case hd =>
        walk_at "to ex"
        rename IsRange _ _ _ _ _ _ _ _ => hr
        rename Fr _ _ _ _ => F6
        rename News _ _ _ _ => N6
        refine ⟨_, _, _, _, _, rfl, F6, N6, hr, by decide, by decide, ?_⟩
        intro D2 o2 kvs h' tk' F7 N7 lo hdo hfl l7
        clear F6 N6 hr
        (try clear F5 N5)
        have N8 := drop_one N7
        have l8 := lt_three l7
        dsimp only at l8
        clear N7 l7
        show wpAny _ _ _ _ _ _
        k_fold
        walk_at "to asg"
        refine storeX_C F7 N8 (by rfl) (UpdF.head (tab_off l8)) (by assumption) ?_ (by rfl) (by rfl)
        intro h' o' F9 N9 d9
        (try dsimp only at N9)
        clear F7 N8
        show wpAny _ _ _ _ _ _
        (try k_fold)
        walk_at "to asg"
        refine' asgBytes F9 (by rfl) (by with_unfolding_all rfl) (by with_unfolding_all rfl) (by decide) (by rfl) (by decide) (by rfl) (by rfl) (by rfl) ?_
        walk_at "to ex"
        rename Array.size _ = 8 => hz8
        rename ∀ (i : Nat) (c : UInt8), _ → c.toNat = sgnC (six V i) => hs8
        refine ⟨_, _, _, rfl, rfl, F9, N9, (by rw [hz8, sizeLine_eq]; decide), fun g => ?_⟩
        clear F9 N9
        refine comp_inv (fun i ys => IntsAre ys ((sixTo V i).map fun (k : Nat) => (k : Int))) True.intro ?turn2 ?fin2 .nil
        case turn2 =>
          rintro i v ys I oI C oC D m₂ h tk E' hi8 ⟨c, u, hc, rfl⟩ hys hC hx F4 N4
          rw [hs8 i c hc] at hx
          show wpAny _ _ _ _ _ _
          k_fold
          k_steps
          rename PyProof.V.Flat _ _ => hfv
          rw [tab_look _ (six_lt V i)] at hfv
          obtain ⟨tv, rfl⟩ := PyProof.V.Flat.int_inv hfv
          refine ⟨_, _, rfl, F4, N4, ?_⟩
          rw [sixTo_succ, List.map_append]
          exact hys.append (.cons _ _ .nil)
        case fin2 =>
          rw [hz8]
          intro ys hys D h tk F4 N4 off
          show wpAny _ _ _ _ _ _
          (try k_fold)
          k_steps
          · rename List.any _ _ = true => hb
            rw [six_any] at hb; cases hb
          · exact ret D ys _ _ F4.keep (N4 _ (.head _)).2.2 (N4 _ (.head _)).1 hys
end Mine
end
noncomputable section
open PySem PySem.W PyProof.Rows
namespace Mine
theorem dig_hi {Y a : Nat} (h : Y % 4096 = a) : Y / 64 % 64 = a / 64 := by rw [← h, show (4096 : Nat) = 64 * 64 from rfl, Nat.mod_mul_right_div_self]
theorem dig_lo {Y a : Nat} (h : Y % 4096 = a) : Y % 64 = a % 64 := by rw [← h]; exact (Nat.mod_mod_of_dvd Y (by decide)).symm
theorem dig_up {X b : Nat} (h : b < 4096) : (X * 4096 + b) / 4096 = X := by rw [Nat.mul_comm, Nat.mul_add_div (by decide), Nat.div_eq_of_lt h, Nat.add_zero]
theorem dig_md {X b : Nat} (h : b < 4096) : (X * 4096 + b) % 4096 = b := by rw [Nat.mul_comm, Nat.mul_add_mod]; exact Nat.mod_eq_of_lt h
theorem fig_at {as : List Nat} (h4 : as.length = 4) (hlt : ∀ a ∈ as, a < 4096) : ∀ k, k < 4 → wholeN as / 4096 ^ (3 - k) % 4096 = as.getD k 0 := by
  obtain ⟨a, b, c, d, rfl⟩ := four h4
  have ha := hlt a (by simp); have hb := hlt b (by simp); have hc := hlt c (by simp); have hd := hlt d (by simp)
  have e : wholeN [a, b, c, d] = (((0 * 4096 + a) * 4096 + b) * 4096 + c) * 4096 + d := rfl
  rw [e]
  intro k hk
  rcases k with _ | _ | _ | _ | k
  · show _ / 4096 ^ 3 % 4096 = a
    rw [show (4096 : Nat) ^ 3 = 4096 * (4096 * 4096) from rfl, ← Nat.div_div_eq_div_mul, ← Nat.div_div_eq_div_mul, dig_up hd, dig_up hc, dig_up hb, dig_md ha]
  · show _ / 4096 ^ 2 % 4096 = b
    rw [show (4096 : Nat) ^ 2 = 4096 * 4096 from rfl, ← Nat.div_div_eq_div_mul, dig_up hd, dig_up hc, dig_md hb]
  · show _ / 4096 % 4096 = c
    rw [dig_up hd, dig_md hc]
  · show _ / 1 % 4096 = d
    rw [Nat.div_one, dig_md hd]
  · exact absurd hk (Nat.not_lt.mpr (Nat.le_add_left 4 k))
theorem fig_hi {as : List Nat} (h4 : as.length = 4) (hlt : ∀ a ∈ as, a < 4096) {k : Nat} (hk : k < 4) : (figN (wholeN as)).getD (2 * k + 0) 0 = as.getD k 0 / 64 := by
  rw [← dig_hi (fig_at h4 hlt k hk)]
  unfold figN
  rw [List.getD_eq_getElem?_getD, List.getElem?_map, List.getElem?_range (show 2 * k + 0 < 8 by revert k; decide)]
  show six (wholeN as) (2 * k + 0) = _
  unfold six
  rw [show (4096 : Nat) = 2 ^ 12 from rfl, ← Nat.pow_mul, Nat.div_div_eq_div_mul, show (64 : Nat) = 2 ^ 6 from rfl, ← Nat.pow_add]
  congr 3; revert k; decide
theorem fig_lo {as : List Nat} (h4 : as.length = 4) (hlt : ∀ a ∈ as, a < 4096) {k : Nat} (hk : k < 4) : (figN (wholeN as)).getD (2 * k + 1) 0 = as.getD k 0 % 64 := by
  rw [← dig_lo (fig_at h4 hlt k hk)]
  unfold figN
  rw [List.getD_eq_getElem?_getD, List.getElem?_map, List.getElem?_range (show 2 * k + 1 < 8 by revert k; decide)]
  show six (wholeN as) (2 * k + 1) = _
  unfold six
  rw [show (4096 : Nat) = 2 ^ 12 from rfl, ← Nat.pow_mul]
  congr 3; revert k; decide
theorem pick_hi {as : List Nat} (h4 : as.length = 4) (hlt : ∀ a ∈ as, a < 4096) (c : Nat) : ∀ k, k ≤ 4 → pick (figN (wholeN as)) c 0 k = choose as c k / 64 ∧ pick (figN (wholeN as)) c 1 k = choose as c k % 64
  | 0, _ => by rw [choose_0]; exact ⟨rfl, rfl⟩
  | k + 1, h => by
    obtain ⟨h1, h2⟩ := pick_hi h4 hlt c k (Nat.le_of_succ_le h)
    unfold pick
    rw [choose_s, h1, h2, fig_hi h4 hlt h, fig_lo h4 hlt h]
    split
    · exact ⟨(Nat.xor_div_two_pow (n := 6)).symm, (Nat.xor_mod_two_pow (n := 6)).symm⟩
    · exact ⟨rfl, rfl⟩
theorem set_choose {as : List Nat} (h4 : as.length = 4) (hlt : ∀ a ∈ as, a < 4096) (c : Nat) : pick (figN (wholeN as)) c 0 4 * 64 + pick (figN (wholeN as)) c 1 4 = choose as c 4 := by
  obtain ⟨h1, h2⟩ := pick_hi h4 hlt c 4 (Nat.le_refl _)
  rw [h1, h2]; exact Nat.div_add_mod' _ _
theorem choose_lt {as : List Nat} (hlt : ∀ a ∈ as, a < 4096) (c : Nat) : ∀ k, choose as c k < 4096
  | 0 => by rw [choose_0]; decide
  | k + 1 => by
    rw [choose_s]
    split
    · exact Nat.xor_lt_two_pow (n := 12) (choose_lt hlt c k) (getD_lt' (by decide) hlt k)
    · exact choose_lt hlt c k
end Mine
end
noncomputable section
open PySem PySem.W PyProof.Rows PySem.Calls PySem.Spec
set_option maxRecDepth 100000
namespace Mine
section
variable {prog : Program} {w : World} {K : Type} [DecidableEq K] {knd : KeyKind prog w K} {A : Around} {R : Result → Shared → Prop} {I : Addr} {fp wr : List Addr} {n : Nat} {P : Nat → Value → Prop} {St : Nat → Heap → Prop}
theorem setOf_eq {h : Heap} {a : Addr} {S S' : K → Bool} {n n' : Nat} (hS : h.SetOf knd a S n) (e : ∀ k, S k = S' k) (en : n = n') : h.SetOf knd a S' n' := by
  have : S = S' := funext e
  subst this; subst en; exact hS
theorem set_loop (W : Walks prog w A.in1 I fp wr n P St) (S : Addr) (hSf : S ∉ fp) (vals : List K) (hlen : vals.length = n)
    (hval : ∀ i v, P i v → ∃ k, vals[i]? = some k ∧ knd.is k v = true ∧ v.scannable = true) (hb : n + 1 < scanBound) :
    ∀ (k i : Nat) (s : Shared), n - i = k → i ≤ n → St i s.heap → s.heap.SetOf knd S (fun k' => decide (k' ∈ ddup (vals.take i))) (ddup (vals.take i)).length →
      (∀ h' tk, (∀ b o, b ∉ S :: wr → s.heap.get? b = some o → h'.get? b = some o) → h'.SetOf knd S (fun k' => decide (k' ∈ ddup vals)) (ddup vals).length → R (.ok (.ret .none)) { s with heap := h', toks := tk }) →
      codeAny (model prog w) A (.builtin "set.update.loop" ⟨[.ref S, .ref I], []⟩) R s := by
  have hSw : S ∉ wr := fun h => hSf (W.sub _ h)
  intro k
  induction k with
  | zero =>
    intro i s hk hi hst hS hR
    obtain rfl : i = n := Nat.le_antisymm hi (Nat.sub_eq_zero_iff_le.mp hk)
    refine codeAny_builtin F.entry_set_update_loop ?_
    rw [Around.under_plainId F.plain_set_update_loop _]
    show wpAny _ A.in1 (pyNext (.ref I) >>= _) _ _ s
    refine wpAny_bind (W.done s _ _ hst fun h' tk' hk' => ?_)
    rw [show vals.take i = vals by rw [← hlen, List.take_length]] at hS
    exact wpAny_pure (hR h' tk' (fun b o hb e => hk' b o (fun q => hb (List.mem_cons_of_mem _ q)) e) (by
      obtain ⟨o, es, ep, t, ho, rest⟩ := hS
      exact ⟨o, es, ep, t, hk' S _ hSw ho, rest⟩))
  | succ k ih =>
    intro i s hk hi hst hS hR
    have hlt : i < n := Nat.lt_of_sub_pos (by rw [hk]; exact Nat.succ_pos k)
    refine codeAny_builtin F.entry_set_update_loop ?_
    rw [Around.under_plainId F.plain_set_update_loop _]
    show wpAny _ A.in1 (pyNext (.ref I) >>= _) _ _ s
    refine wpAny_bind (W.item i s _ _ hlt hst fun v h₁ tk₁ hP hst₁ hk₁ => ?_)
    obtain ⟨kk, hkk, his, hsc⟩ := hval i v hP
    have hS₁ : h₁.SetOf knd S (fun k' => decide (k' ∈ ddup (vals.take i))) (ddup (vals.take i)).length := by
      obtain ⟨o, es, ep, tb, ho, rest⟩ := hS
      exact ⟨o, es, ep, tb, hk₁ S _ hSw ho, rest⟩
    show wpAny _ A.in1 (holding [v] (setAdd S v) >>= _) _ _ _
    refine wpAny_bind (wpAny_holding ?_)
    unfold setAdd
    refine wpAny_holding ?_
    refine wpAny_bind (knd.pyHash (k := kk) his ?_)
    have hroom : (ddup (vals.take i)).length + 1 < scanBound := by
      have := ddup_le (vals.take i)
      rw [List.length_take] at this; omega
    refine wpAny_setAddHashed_of (knd := knd) his hsc hS₁ hroom fun h' hsb hS2 => ?_
    have hsn : vals.take (i + 1) = vals.take i ++ [kk] := by rw [List.take_add_one, hkk]; rfl
    have hSi : h'.SetOf knd S (fun k' => decide (k' ∈ ddup (vals.take (i + 1)))) (ddup (vals.take (i + 1))).length :=
      setOf_eq hS2 (fun k' => by rw [hsn, ddup_snoc, stepD_mem]) (by rw [hsn, ddup_snoc, stepD_len])
    refine wpAny_pure ⟨plainId_quiet F.plain_set_update_loop _, ih (i + 1) _ (by omega) hlt (W.frame _ _ _ hst₁ fun b hb o e => ?_) hSi fun h'' tk'' hk'' hS'' => ?_⟩
    · exact (hsb.2 b (fun h : b = S => hSf (by rw [← h]; exact hb))).trans e
    · refine hR h'' tk'' (fun b o hb e => hk'' b o hb ?_) hS''
      exact (hsb.2 b (fun h : b = S => hb (by rw [h]; exact List.mem_cons_self))).trans (hk₁ b o (fun q => hb (List.mem_cons_of_mem _ q)) e)
end
end Mine
end
noncomputable section
open PySem PySem.W PyProof.Rows PySem.Calls PySem.Spec
set_option maxRecDepth 100000
set_option maxHeartbeats 3200000
namespace Mine
section
variable {prog : Program} {w : World} {K : Type} [DecidableEq K] {knd : KeyKind prog w K} {A : Around} {E : Value → Shared → Prop} {s : Shared}
/-- set(a list), its items of one kind -/
theorem set_made {l : Addr} {items : Array Value} {vals : List K} {Q : Value → Shared → Prop} (knd : KeyKind prog w K)
    (hh : A.handled = none) (hl : s.heap.IsList l items) (hlen : vals.length = items.size) (hval : ∀ (i : Nat) (v : Value), items[i]? = some v → ∃ k, vals[i]? = some k ∧ knd.is k v = true ∧ v.scannable = true) (hb : items.size + 1 < scanBound)
    (h : ∀ (h' : Heap) (tk : Nat), h'.SetOf knd s.heap.objs.size (fun k' => decide (k' ∈ ddup vals)) (ddup vals).length →
      (∀ b o, s.heap.get? b = some o → h'.get? b = some o) → Q (.ref s.heap.objs.size) { s with heap := h', toks := tk }) :
    wpAny (model prog w) A (call (.type "set") [.ref l]) Q E s := by
  obtain ⟨c, tl, hmro⟩ := PySem.F.called_set.mro
  have hmade := PySem.F.called_set.made
  have hsub := PySem.F.called_set.sub
  refine wpAny_call (codeAny_of_tree ?_)
  show wpAny _ _ (callAny (.type "set") _) _ _ _
  refine wpAny_pure ⟨Code.quiet_builtin _ (by decide +kernel), codeAny_builtin PySem.F.entry_type_call ?_⟩
  rw [Around.under_plain (weight_type_call_type "set" [.ref l] []) rfl]
  have h1 := PySem.F.called_set.notType
  have h2 := PySem.F.called_set.canCreate
  have hct := PySem.F.typeCall_set_1 (.ref l)
  repeat (any_goals (first | assumption | wp_step))
  refine codeAny_mono (code_set_new_1 (.ref l) (E := E) (Q₁ := fun obj s₁ => ∃ led : Bool, obj = .ref s.heap.objs.size ∧ s₁ = { s with heap := s.heap.push { cls := .type "set", dict := none, data := .set #[] 0 (.fresh 0 0 led) } }) fun led => ⟨led, rfl, rfl⟩) fun r s₁ hr => ?_
  match r, hr with
  | .error e, hr => exact hr
  | .ok (.ret obj), hr =>
    obtain ⟨led, rfl, rfl⟩ := hr
    generalize hG : s.heap.push { cls := .type "set", dict := none, data := .set #[] 0 (.fresh 0 0 led) } = G
    have hS : G.get? s.heap.objs.size = some { cls := .type "set", dict := none, data := .set #[] 0 (.fresh 0 0 led) } := hG ▸ Heap.get?_push_size _ rfl
    have hGs : G.objs.size = s.heap.objs.size + 1 := by rw [← hG, Heap.size_push]
    have hGk : ∀ b o, s.heap.get? b = some o → G.get? b = some o := fun b o e => hG ▸ Heap.get?_push_of_some _ e
    have hT : Shared.TypeIs { s with heap := G } (.ref s.heap.objs.size) "set" := ⟨_, hS, rfl⟩
    have hli := PySem.F.called_set.init.lookup
    have hbi := PySem.F.called_set.init.bind (.ref s.heap.objs.size)
    repeat (any_goals (first | assumption | wp_step))
    refine codeAny_mono (codeAny_call_builtin (R := wants (fun r s₂ => r = .none ∧ ∃ h' tk, s₂ = { s with heap := h', toks := tk } ∧
        h'.SetOf knd s.heap.objs.size (fun k' => decide (k' ∈ ddup vals)) (ddup vals).length ∧ (∀ b o, s.heap.get? b = some o → h'.get? b = some o)) E) PySem.F.called_set.init.plain PySem.F.entry_set_init (check_set_init_1 hT ?_)) fun r₂ s₂ hr₂ => ?_
    · obtain ⟨ol, hol, hcl, nl, hdl⟩ := hl
      obtain ⟨ocls, odict, odata, oslots⟩ := ol
      simp only at hcl hdl
      subst hcl; subst hdl
      have hol' := hGk _ _ hol
      have hsls := PySem.F.sub_list_set
      have hslf := PySem.F.sub_list_frozenset
      have hne : (Value.type "list" == Value.type "dict") = false := by decide
      have hl1 : G.IsList l items := ⟨_, hol', rfl, nl, rfl⟩
      unfold Builtin.«set.__init__» noKeywords Builtin.Frozenset.updateFrom
      generalize hPI : pyIter = PI
      wp_walk
      subst hPI
      refine wpAny_pyIter_list hl1 ?_
      refine wpAny_bind (wpAny_runValue ?_)
      have hlS : l < s.heap.objs.size := Heap.lt_size hol
      have hh3 : A.in1.in1.in1.handled = none := by simp [hh]
      have hneI : l ≠ G.objs.size := by rw [hGs]; exact Nat.ne_of_lt (Nat.lt_succ_of_lt hlS)
      have hSf : s.heap.objs.size ∉ [G.objs.size, l] := by
        rw [hGs]; simp only [List.mem_cons, List.not_mem_nil, or_false, not_or]
        exact ⟨Nat.ne_of_lt (Nat.lt_succ_self _), Nat.ne_of_gt hlS⟩
      refine set_loop (knd := knd) (Walks.list hh3 _ l hneI items) s.heap.objs.size hSf vals hlen hval hb (items.size - 0) 0 _ (by omega) (Nat.zero_le _)
        ⟨⟨_, Heap.get?_push_size _ rfl, rfl, rfl⟩, (hl1.push _)⟩ ?hS0 ?hR
      case hS0 =>
        have hget : (G.push { cls := .type "list_iterator", data := .fields #[.ref l, .int 0 0] }).get? s.heap.objs.size = some { cls := .type "set", dict := none, data := .set #[] 0 (.fresh 0 0 led) } := Heap.get?_push_of_some _ hS
        exact setOf_eq ((setObjOf_fresh (knd := knd) led).setOf hget (by unfold scanBound; omega)) (fun _ => by simp [ddup]) rfl
      case hR =>
        intro h' tk' hk hS'
        show wpAny _ _ _ _ _ _
        refine wpAny_pure ?_
        show wpAny _ _ (ret Value.none) _ _ _
        refine wpAny_pure ⟨rfl, h', tk', rfl, hS', fun b o e => ?_⟩
        have hb0 : b < s.heap.objs.size := Heap.lt_size e
        refine hk b o ?_ (Heap.get?_push_of_some _ (hGk b o e))
        simp only [List.mem_cons, List.not_mem_nil, or_false, not_or]
        exact ⟨Nat.ne_of_lt hb0, by rw [hGs]; exact Nat.ne_of_lt (Nat.lt_succ_of_lt hb0)⟩
    · match r₂, hr₂ with
      | .error e, hr₂ => exact hr₂
      | .ok (.ret r), hr₂ =>
        obtain ⟨rfl, h', tk, rfl, hS', hk'⟩ := hr₂
        repeat (any_goals (first | assumption | wp_step))
        exact h h' tk hS' hk'
end
end Mine
end
noncomputable section
open PySem PySem.W PyProof.Rows PySem.Calls PySem.Spec
set_option maxRecDepth 100000
namespace Mine
theorem turn_set (elt target iter : PySem.Expr) (ifs : List PySem.Expr) (scope : Scope) (pos : Pos) (it acc : Value) (env : Env) :
    compTurn (.SetComp elt [⟨target, iter, ifs, 0⟩] scope pos) 0 it acc env = (do
      standAt iter.pos
      match ← pyNext it with
      | none => pure (.done .next)
      | some v =>
        letOwnedTupleGo target it v
        assign target env v
        let mut ok := true
        for c in ifs do
          if ok then ok ← isTrue c env (eval c env)
        if ok then
          (do let v ← eval elt env; standAt elt.pos; let _ ← call (.builtin "set.add") [acc, v])
        again (.compLoop (.SetComp elt [⟨target, iter, ifs, 0⟩] scope pos) 0 it acc env)) := by rfl
section
variable {prog : Program} {w : World} {A : Around} {E : Value → Shared → Prop} {R : Result → Shared → Prop} {s : Shared}
theorem loop_set {elt target iter : PySem.Expr} {ifs : List PySem.Expr} {scope : Scope} {pos : Pos} {it acc : Value} {env : Env} (I : Nat → Shared → Prop)
    (turn : ∀ n s, I n s → wpAny (model prog w) A (pyNext it) (fun r s₁ => match r with
      | none => R (.ok .next) s₁
      | some v => wpAny (model prog w) A (assign target env v) (fun _ s₂ =>
          wpAny (model prog w) A (forIn ifs true fun c r => if r = true then do let ok ← isTrue c env (eval c env); pure (ForInStep.yield ok) else pure (ForInStep.yield r)) (fun ok s₃ =>
            if ok = true then wpAny (model prog w) A (eval elt env) (fun x s₄ =>
              wpAny (model prog w) A (call (.builtin "set.add") [acc, x]) (fun _ s₅ => ∃ m, m < n ∧ I m s₅) (notedBy (model prog w) A env fun e s' => R (.error e) s') s₄) (notedBy (model prog w) A env fun e s' => R (.error e) s') s₃
            else ∃ m, m < n ∧ I m s₃) (notedBy (model prog w) A env fun e s' => R (.error e) s') s₂) (notedBy (model prog w) A env fun e s' => R (.error e) s') s₁) (notedBy (model prog w) A env fun e s' => R (.error e) s') s)
    (n : Nat) (h : I n s) (ht : ∀ v, letOwnedTupleGo target it v = pure () := by intro _; rfl) :
    codeAny (model prog w) A (.compLoop (.SetComp elt [⟨target, iter, ifs, 0⟩] scope pos) 0 it acc env) R s := by
  refine codeAny_loop rfl I (fun n s hI => ?_) n h
  show wpAny _ A ((compTurn (.SetComp elt [⟨target, iter, ifs, 0⟩] scope pos) 0 it acc env).onRaise (fun x => do noteFrame x env; theTreesLotGoes x)) _ _ s
  refine wpAny_noted ?_
  rw [turn_set]
  refine wpAny_bind (wpAny_standAt (wpAny_bind (wpAny_mono (turn n s hI) (fun r s₁ h₁ => ?_) fun _ _ h' => h')))
  cases r with
  | none => exact wpAny_pure h₁
  | some v =>
    refine wpAny_bind (wpAny_of_eq (ht v) ?_)
    refine wpAny_bind (wpAny_mono h₁ (fun _ s₂ h₂ => wpAny_bind (wpAny_mono h₂ (fun ok s₃ h₃ => ?_) fun _ _ h' => h')) fun _ _ h' => h')
    cases ok with
    | false => exact wpAny_pure ⟨rfl, h₃⟩
    | true => exact wpAny_bind (wpAny_bind (wpAny_mono h₃ (fun x s₄ h₄ => wpAny_bind (wpAny_standAt (wpAny_bind (wpAny_mono h₄ (fun _ s₅ h₅ => wpAny_pure (wpAny_pure ⟨rfl, h₅⟩)) fun _ _ h' => h')))) fun _ _ h' => h'))
theorem start_set {elt target iter : PySem.Expr} {ifs : List PySem.Expr} {rest : List Comprehension} {scope : Scope} {pos : Pos} {it acc : Value} {env : Env}
    (h0 : codeAny (model prog w) A (.compLoop (.SetComp elt (⟨target, iter, ifs, 0⟩ :: rest) scope pos) 0 it acc env) R s)
    (h : wpAny (model prog w) A (pyIter it) (fun it' s' => codeAny (model prog w) A (.compLoop (.SetComp elt (⟨target, iter, ifs, 0⟩ :: rest) scope pos) 0 it' acc env) R s')
      (notedBy (model prog w) A env fun x s' => R (.error x) s') s) :
    codeAny (model prog w) A (.compStart (.SetComp elt (⟨target, iter, ifs, 0⟩ :: rest) scope pos) 0 it acc env) R s := by
  refine codeAny_of_tree ?_
  show wpAny _ A ((compStart (.SetComp elt (⟨target, iter, ifs, 0⟩ :: rest) scope pos) 0 it acc env).onRaise (fun x => do noteFrame x env; standAt theWindowsPlace)) _ _ s
  refine wpAny_notedAt ?_
  unfold compStart
  show wpAny _ A (ask >>= _) _ _ s
  refine wpAny_bind (wpAny_askSetting (wpAny_ite ?_))
  split
  · first
      | exact wpAny_bind (wpAny_pure (wpAny_pure (And.intro rfl h0)))
      | exact wpAny_pure (And.intro rfl h0)
  · first
      | exact wpAny_bind (wpAny_rule (wpAny_bind (wpAny_standAt (wpAny_bind (wpAny_mono h (fun it' s' h' => wpAny_pure (And.intro rfl h')) fun _ _ x => x)))))
      | (refine wpAny_bind (wpAny_rule ?_); show wpAny _ _ (standAt iter.pos >>= _) _ _ s; exact wpAny_bind (wpAny_standAt (wpAny_bind (wpAny_mono h (fun it' s' h' => wpAny_pure (And.intro rfl h')) fun _ _ x => x))))
end
end Mine
end
noncomputable section
open PySem PySem.W PyProof.Rows PySem.Calls PySem.Spec
set_option maxRecDepth 100000
set_option maxHeartbeats 4000000
namespace Mine
theorem countIn_count (x : Str) : ∀ l : List Str, PySem.Spec.countIn (.str x) (l.map PyData.str) = ((l.count x : Nat) : Int) := by
  intro l
  rw [countIn_strs_sum]
  induction l with
  | nil => rfl
  | cons a l ih =>
    rw [List.map_cons, List.sum_cons, ih, List.count_cons]
    split <;> simp <;> omega
section
variable {prog : Program} {w : World} {A : Around} {E : Value → Shared → Prop} {s : Shared} {h₀ : Heap} {L D : Addr} {m : Str → Option Value} {news : List (Addr × Obj)} {Q : Value → Shared → Prop}
theorem set_strs {ys : List Value} {ts : List Str} (hh : A.handled = none) (F : Fr h₀ L s.heap m) (N : News h₀ L s.heap news) (hm : (D, LCg.lst ys) ∈ news) (hys : StrsAre ys ts) (hlen : ts.length ≤ 100)
    (h : ∀ sa so h' tk, Fr h₀ L h' m → News h₀ L h' ((sa, so) :: news) → so.SetObjOf (strKind prog w) (fun k' => decide (k' ∈ ddup ts)) (ddup ts).length → Q (.ref sa) { s with heap := h', toks := tk }) :
    wpAny (model prog w) A (call (.type "set") [.ref D]) Q E s := by
  have hyl : ys.length = ts.length := hys.length
  refine set_made (vals := ts) (strKind prog w) hh (isList_news N hm) (by rw [List.size_toArray, hyl]) (fun i v hv => ?_) (by rw [List.size_toArray, hyl]; exact Nat.lt_of_le_of_lt (Nat.succ_le_succ hlen) (by decide)) fun h' tk hS hk => ?_
  · have hv' : ys[i]? = some v := by simpa using hv
    have hi : i < ts.length := by rw [← hyl]; exact (List.getElem?_eq_some_iff.mp hv').1
    obtain ⟨t, ht⟩ := hys.get i ts[i] (by simp [hi])
    rw [hv'] at ht
    cases Option.some.inj ht
    exact ⟨ts[i], by simp [hi], strKind_is prog w _ _, rfl⟩
  · obtain ⟨o, ho, hso⟩ := hS.objOf
    refine h _ o h' tk (F.keeps hk) (fun p hp => ?_) hso
    rcases List.mem_cons.mp hp with rfl | hp
    · refine ⟨ho, Nat.ne_of_gt F.ns.lt, ?_⟩
      cases q : h₀.get? s.heap.objs.size with
      | none => rfl
      | some x => exact absurd (Heap.lt_size (F.keep _ _ q)) (Nat.lt_irrefl _)
    · exact N.grown hk p hp
theorem len_strset {sa : Addr} {so : Obj} {S : Str → Bool} {n : Nat} {rest : List (Addr × Obj)} (N : News h₀ L s.heap ((sa, so) :: rest)) (hso : so.SetObjOf (strKind prog w) S n) (hn : n ≤ 100) (h : ∀ t k, Q (.int (n : Int) t) { s with toks := k }) :
    wpAny (model prog w) A (call (.builtin "len") [.ref sa]) Q E s := len_sl1 (own := []) N hso (by omega) (h _ _)
end
theorem laweven (w : World) (mean : ExcName → Option Value) (mg mb : Str → Option Value) (ss : List Str) (hss : ss.length = 16) (hs10 : ∀ x ∈ ss, x.length = 10) (c : Nat) (hc : c < 10) (tc : Tok) (l P : Addr) (vs : List Value) (hvs : StrsAre vs ss) (n : Nat) (hn : n ≤ 4) (S : Int → Bool) (oP : Obj)
  (dp un : Nat) (fr : Option (List Env)) (gd : Option (List Code)) (s : Shared) (Q E : Value → Shared → Prop)
  (hd : dp + 1 < recursionLimit) (hu : un + 20 < cLine) (X : (Mine.hd.heap_39 w.params).In s.heap)
  (T : Top Mine.hd.view_39 (looseW Mine.hd.view_39 [Str.ofString "COMPILER_FLAG_NAMES", Str.ofString "b2a_base64", Str.ofString "b64encode", Str.ofString "_filemode_table"]) mean mg mb s.heap)
  (hl : s.heap.IsList l vs.toArray) (hP : s.heap.get? P = some oP) (hso : oP.SetObjOf (intKind PySem.Challenge.rw_om0021_01.row.prog w) S n)
  (hev1 : ((ddup (colS ss c)).length : Int) = wantI n) (hev2 : ∀ x ∈ colS ss c, (((colS ss c).count x : Nat) : Int) * wantI n = 16)
  (ret : ∀ h' tk', Grow s.heap h' → Q (.bool true) { s with heap := h', toks := tk' }) :
  wpAny (model PySem.Challenge.rw_om0021_01.row.prog w) ⟨none, dp, fr, gd, un⟩ (call (.ref 149) [.ref l, .int (c : Int) tc, .ref P]) Q E s := by
  revert X; k_fill; intro X
  k_with_none
  w_top off
  k_with "ne" => with_reducible (first | assumption | exact Ne.symm (by assumption) | exact Nat.ne_of_gt (by assumption) | exact Nat.ne_of_lt (by assumption) | exact Nat.ne_of_gt (Nat.lt_succ_self _) | exact Nat.ne_of_lt (Nat.lt_succ_self _) | exact Nat.ne_of_gt (Nat.lt_succ_of_lt (Nat.lt_succ_self _)) | exact Nat.ne_of_lt (Nat.lt_succ_of_lt (Nat.lt_succ_self _)) | exact Nat.ne_of_gt (Nat.lt_succ_of_lt (Nat.lt_succ_of_lt (Nat.lt_succ_self _))) | exact Nat.ne_of_lt (Nat.lt_succ_of_lt (Nat.lt_succ_of_lt (Nat.lt_succ_self _))) | exact Nat.ne_of_gt (Nat.lt_succ_of_lt (Nat.lt_succ_of_lt (Nat.lt_succ_of_lt (Nat.lt_succ_self _)))) | exact Nat.ne_of_lt (Nat.lt_succ_of_lt (Nat.lt_succ_of_lt (Nat.lt_succ_of_lt (Nat.lt_succ_self _)))) | exact Nat.ne_of_gt (And.left (by assumption)) | exact Nat.ne_of_lt (And.left (by assumption)) | exact (And.left (by assumption)) | exact Ne.symm (And.left (by assumption)) | exact Nat.ne_of_gt (And.left (And.right (by assumption))) | exact Nat.ne_of_lt (And.left (And.right (by assumption))) | exact (And.left (And.right (by assumption))) | exact Ne.symm (And.left (And.right (by assumption))) | exact Nat.ne_of_gt (And.right (by assumption)) | exact Nat.ne_of_lt (And.right (by assumption)) | exact (And.right (by assumption)) | exact Ne.symm (And.right (by assumption)) | exact Nat.ne_of_gt (And.left (And.right (And.right (by assumption)))) | exact Nat.ne_of_lt (And.left (And.right (And.right (by assumption)))) | exact (And.left (And.right (And.right (by assumption)))) | exact Ne.symm (And.left (And.right (And.right (by assumption)))) | exact Nat.ne_of_gt (And.right (And.right (by assumption))) | exact Nat.ne_of_lt (And.right (And.right (by assumption))) | exact (And.right (And.right (by assumption))) | exact Ne.symm (And.right (And.right (by assumption))) | exact Nat.ne_of_gt (And.left (And.right (And.right (And.right (by assumption))))) | exact Nat.ne_of_lt (And.left (And.right (And.right (And.right (by assumption))))) | exact (And.left (And.right (And.right (And.right (by assumption))))) | exact Ne.symm (And.left (And.right (And.right (And.right (by assumption))))) | exact Nat.ne_of_gt (And.right (And.right (And.right (by assumption)))) | exact Nat.ne_of_lt (And.right (And.right (And.right (by assumption)))) | exact (And.right (And.right (And.right (by assumption)))) | exact Ne.symm (And.right (And.right (And.right (by assumption)))) | exact Nat.ne_of_gt (And.left (And.right (And.right (And.right (And.right (by assumption)))))) | exact Nat.ne_of_lt (And.left (And.right (And.right (And.right (And.right (by assumption)))))) | exact (And.left (And.right (And.right (And.right (And.right (by assumption)))))) | exact Ne.symm (And.left (And.right (And.right (And.right (And.right (by assumption)))))) | exact Nat.ne_of_gt (And.right (And.right (And.right (And.right (by assumption))))) | exact Nat.ne_of_lt (And.right (And.right (And.right (And.right (by assumption))))) | exact (And.right (And.right (And.right (And.right (by assumption))))) | exact Ne.symm (And.right (And.right (And.right (And.right (by assumption))))) | exact Nat.ne_of_gt (And.left (And.right (And.right (And.right (And.right (And.right (by assumption))))))) | exact Nat.ne_of_lt (And.left (And.right (And.right (And.right (And.right (And.right (by assumption))))))) | exact (And.left (And.right (And.right (And.right (And.right (And.right (by assumption))))))) | exact Ne.symm (And.left (And.right (And.right (And.right (And.right (And.right (by assumption))))))) | exact Nat.ne_of_gt (And.right (And.right (And.right (And.right (And.right (by assumption)))))) | exact Nat.ne_of_lt (And.right (And.right (And.right (And.right (And.right (by assumption)))))) | exact (And.right (And.right (And.right (And.right (And.right (by assumption)))))) | exact Ne.symm (And.right (And.right (And.right (And.right (And.right (by assumption)))))) | exact Nat.ne_of_gt (And.left (And.right (And.right (And.right (And.right (And.right (And.right (by assumption)))))))) | exact Nat.ne_of_lt (And.left (And.right (And.right (And.right (And.right (And.right (And.right (by assumption)))))))) | exact (And.left (And.right (And.right (And.right (And.right (And.right (And.right (by assumption)))))))) | exact Ne.symm (And.left (And.right (And.right (And.right (And.right (And.right (And.right (by assumption)))))))) | exact Nat.ne_of_gt (And.right (And.right (And.right (And.right (And.right (And.right (by assumption))))))) | exact Nat.ne_of_lt (And.right (And.right (And.right (And.right (And.right (And.right (by assumption))))))) | exact (And.right (And.right (And.right (And.right (And.right (And.right (by assumption))))))) | exact Ne.symm (And.right (And.right (And.right (And.right (And.right (And.right (by assumption))))))) | exact Nat.ne_of_gt (And.left (And.right (And.right (And.right (And.right (And.right (And.right (And.right (by assumption))))))))) | exact Nat.ne_of_lt (And.left (And.right (And.right (And.right (And.right (And.right (And.right (And.right (by assumption))))))))) | exact (And.left (And.right (And.right (And.right (And.right (And.right (And.right (And.right (by assumption))))))))) | exact Ne.symm (And.left (And.right (And.right (And.right (And.right (And.right (And.right (And.right (by assumption))))))))) | exact Nat.ne_of_gt (And.right (And.right (And.right (And.right (And.right (And.right (And.right (by assumption)))))))) | exact Nat.ne_of_lt (And.right (And.right (And.right (And.right (And.right (And.right (And.right (by assumption)))))))) | exact (And.right (And.right (And.right (And.right (And.right (And.right (And.right (by assumption)))))))) | exact Ne.symm (And.right (And.right (And.right (And.right (And.right (And.right (And.right (by assumption)))))))))
  k_with "to comp" => repeat ((fail_if_success (with_reducible show wpAny _ _ (eval (Expr.ListComp _ _ _ _) _) _ _ _)); first | (k_unfold; (try dsimp only)) | walk1 | (dsimp only; walk1))
  k_with "to src" => repeat ((fail_if_success (with_reducible show LCg.CompSrc _ _ _ _ _ _ _ _ _ _ _ _ _ _)); first | (k_unfold; (try dsimp only)) | walk1 | (dsimp only; walk1))
  k_with "call type:set" => k_dflt (refine' set_strs (by rfl) (by assumption) (by assumption) (List.Mem.tail _ (List.Mem.head _)) (by assumption) (by assumption) ?_; intro sa' so' h' tk' F' N' hso'; k_sweep)
  k_with "call builtin:len" => k_dflt (refine' len_strset (by assumption) (by assumption) (by assumption) ?_; intro _ _)
  k_with "subscriptTail" => k_dflt ((with_reducible show wpAny _ _ (subscriptTail _ _ (Value.str _ _) (Value.int _ _)) _ _ _); refine' item_ch (k := _) (by rfl) (Nat.lt_of_lt_of_eq hc (by assumption : _ = 10).symm) (Nat.lt_of_lt_of_le hc (by decide)) ?_ (by with_unfolding_all rfl) (by (intro _; with_unfolding_all rfl)); intro t')
  refine' enterC (binds := [(Str.ofString "listings", .ref l), (Str.ofString "column", .int (c : Int) tc), (Str.ofString "parts", .ref P)]) X T ?k6 ?k7 ?k8 ?k9 ?kB ?kD ?_ ?c2 ?c3 ?c4
  case k6 => k_is
  case k7 => k_is
  case k8 => exact Nat.lt_of_le_of_lt (Nat.le_add_right _ _) hd
  case k9 => exact BindsTo.of_eq rfl
  case kB => exact rfl
  case kD => decide +kernel
  case c2 => exact rfl
  case c3 => exact rfl
  case c4 => exact rfl
  intro L h₁ tk cells F N Y
  k_cells Y
  (try simp only [List.cons_append, List.nil_append] at N)
  show wpAny _ _ _ _ _ _
  k_fold
  walk_at "to comp"
  rename Fr _ _ _ _ => F1
  rename News _ _ _ _ => N1
  refine LCg.ListComp_U (F₀ := F1) (by with_unfolding_all rfl) (by decide) (by rfl) (by decide) (by rfl) ?_
  walk_at "to src"
  have hvl : vs.length = 16 := by rw [hvs.length, hss]
  refine LCg.CompSrc.base rfl F1 N1 hl (by rw [List.size_toArray, hvl]; decide) ?_
  intro g
  clear F1 N1
  refine comp_inv (fun i ys => StrsAre ys ((colS ss c).take i)) (Or.inl hl) ?turn ?fin .nil
  case turn =>
    rintro i v ys I oI C oC D m₂ h tk E' hi hv hys hC hx F4 N4
    have hi' : i < ss.length := by rw [← hvs.length]; simpa using hi
    obtain ⟨tv, htv⟩ := hvs.get i ss[i] (by simp [hi'])
    have hv' : vs[i]? = some v := by simpa using hv
    rw [htv] at hv'
    obtain rfl := Option.some.inj hv'
    have hx10 : (ss[i]).length = 10 := hs10 _ (List.getElem_mem hi')
    show wpAny _ _ _ _ _ _
    k_fold
    k_steps
    refine ⟨_, _, rfl, F4, N4, ?_⟩
    rw [List.take_add_one, show (colS ss c)[i]? = some (ch ss[i] c) by unfold colS; simp [hi']]
    show StrsAre (ys ++ [Value.str (Txt.item ss[i] (c : Int)) _]) _
    rw [item_eq (Nat.lt_of_lt_of_eq hc hx10.symm)]; exact strs_snoc hys
  case fin =>
    intro ys hys D h tk F4 N4 off
    have hcl : (colS ss c).length = 16 := by unfold colS; rw [List.length_map, hss]
    rw [List.size_toArray, hvl, ← hcl, List.take_length] at hys
    have hcl' : (colS ss c).length ≤ 100 := by rw [hcl]; decide
    have hdl : (ddup (colS ss c)).length ≤ 100 := Nat.le_trans (ddup_le _) hcl'
    show wpAny _ _ _ _ _ _
    k_fold
    k_steps
    · rename Fr _ _ _ _ => F5
      rename News _ _ _ _ => N5
      refine LCg.CompSrc.ledger (its := ys.toArray) (k := ys.length) rfl F5 N5 (List.Mem.tail _ (List.Mem.tail _ (List.Mem.head _))) (by rw [List.size_toArray, hys.length, hcl]; decide) ?_
      intro g
      clear F5 N5
      refine comp_inv (fun i zs => IntsAre zs (((colS ss c).take i).map fun x => (((colS ss c).count x : Nat) : Int))) (Or.inr ⟨_, List.Mem.tail _ (List.Mem.tail _ (List.Mem.head _)), rfl, _, rfl⟩) ?turn2 ?fin2 .nil
      case turn2 =>
        rintro i v zs I oI C oC D2 m₂ h tk E' hi hv hzs hC hx F6 N6
        have hi' : i < (colS ss c).length := by rw [← hys.length]; simpa using hi
        obtain ⟨tv, htv⟩ := hys.get i (colS ss c)[i] (by simp [hi'])
        have hv' : ys[i]? = some v := by simpa using hv
        rw [htv] at hv'
        obtain rfl := Option.some.inj hv'
        (try simp only [List.cons_append, List.nil_append] at N6)
        show wpAny _ _ _ _ _ _
        k_fold
        k_steps
        refine ⟨_, _, rfl, F6, N6, ?_⟩
        rw [List.take_add_one, List.getElem?_eq_getElem hi', List.map_append, countIn_count]
        exact hzs.append (.cons _ _ .nil)
      case fin2 =>
        intro zs hzs D2 h tk F6 N6 off2
        (try simp only [List.cons_append, List.nil_append] at N6)
        have hz16 : zs.length = 16 := by rw [hzs.length, List.length_map, List.length_take, List.size_toArray, hys.length, hcl]; rfl
        show wpAny _ _ _ _ _ _
        (try k_fold)
        k_steps
        rename Fr _ _ _ _ => F'
        rename _ ∈ List.map _ _ => hM
        obtain ⟨x, hx, rfl⟩ := List.mem_map.mp hM
        have e : ((((colS ss c).count x : Nat) : Int) * wantI n == 16) = true := by rw [hev2 x (List.mem_of_mem_take hx)]; rfl
        unfold wantI at e
        rw [e]
        exact ret _ _ F'.keep
    · rename Fr _ _ _ _ => F'
      have e : ((((ddup (colS ss c)).length : Nat) : Int) == wantI n) = true := by rw [hev1]; simp
      unfold wantI at e
      rw [e]
      exact ret _ _ F'.keep
end Mine
end
noncomputable section
open PySem PySem.W PyProof.Rows PySem.Calls PySem.Spec
set_option maxRecDepth 100000
namespace Mine
section
variable {prog : Program} {w : World} {A : Around} {R : Result → Shared → Prop} {s : Shared} {K : Frag}
/-- as enterC, of the call's code -/
theorem enterR {p : Program} {loose : List Str} {mean : ExcName → Option Value} {mg mb : Str → Option Value}
    {name qual : Str} {params : Arguments} {body : List Stmt} {scope : Scope} {dV kV doc pm cdv ct oc : Value} {an od : Option Addr} {osl : Array (Option Value)} {f : Addr} {args : List Value} {kw : List (Str × Value)} {binds : List (Str × Value)}
    (X : K.In s.heap) (T : Top p loose mean mg mb s.heap)
    (ho : K.lookup f = some ⟨oc, od, .func (fnOf name qual params body scope dV kV doc pm an cdv ct), osl⟩) (hcd : codeIn K cdv qual = true) (hroom : A.depth < recursionLimit)
    (hbind : BindsTo s (fnOf name qual params body scope dV kV doc pm an cdv ct) ⟨args, kw⟩ binds) (hkind : (binds.all fun y => scope.names.lookup y.1 == some .local || scope.names.lookup y.1 == some .cell) = true)
    (hnd : ((cellsFrom 0 scope.names []).map (·.1)).Nodup)
    (h : ∀ L h₁ tk cells, Fr s.heap L h₁ (bindL (envOfC qual scope L f cdv).kindOf binds fun _ => none) → News s.heap L h₁ cells →
      CellsAre (bindC (envOfC qual scope L f cdv).kindOf binds fun _ => none) (cellsFrom (L + 1) scope.names []) cells →
      wpAny (model prog w) (A.deeper (envOfC qual scope L f cdv)) (execs body (envOfC qual scope L f cdv))
        (fun fl s' => R (.ok (.ret (match fl with | .ret v => v | _ => .none))) s') (fun _ _ => False) { s with heap := h₁, toks := tk })
    (hco : scope.isCoroutine = false) (hgen : scope.isGenerator = false) (hk : scope.kind = .function) : codeAny (model prog w) A (.call (.ref f) ⟨args, kw⟩) R s := by
  refine codeAny_call_function hroom (X _ _ ho) rfl hco hgen rfl (codeRec_of X hcd) (hbind _ _ _ _ ?_)
  refine wpAny_newFunctionEnv_cells hk (kindsX hkind _) fun env' he s' x => ?_
  subst he
  refine ⟨T.nolimit.keeps x.toInCall.keep, codeAny_func ?_⟩
  obtain ⟨h₁, tk, rfl, _⟩ := x.done
  obtain ⟨cells, NC, Y⟩ := Cl.news (h₀ := s.heap) (Nat.le_refl _) fun n c hm => ⟨x.cell n c (lookup_of_mem_nodup (cellsFrom_names scope.names 0 (s.heap.objs.size + 1) [] [] rfl ▸ hnd) hm), x.above n c hm⟩
  exact wpAny_mono (h s.heap.objs.size h₁ tk cells ⟨x.toInCall.ns, x.toInCall.keep, Nat.le_refl _⟩ NC Y) (fun fl s' hl => hl) fun _ _ y => y.elim
end
end Mine
end
noncomputable section
open PySem PySem.W PyProof.Rows PySem.Calls PySem.Spec
set_option maxRecDepth 100000
set_option maxHeartbeats 2000000
namespace Mine
open LCg
theorem added_succ (f : Nat → Option Int) (i : Nat) : (List.range (i + 1)).filterMap f = (List.range i).filterMap f ++ (match f i with | some k => [k] | none => []) := by
  rw [List.range_succ, List.filterMap_append]
  congr 1
  cases e : f i <;> simp [e]
section
variable {prog : Program} {w : World} {A : Around} {E : Value → Shared → Prop} {s : Shared} {h₀ : Heap} {L : Addr} {m : Str → Option Value} {env : Env}
/-- a set comprehension over a list, with one test; f i is what the turn i adds -/
theorem setComp {ct elt iter : PySem.Expr} {x : Str} {px : Pos} {scope : Scope} {cl : List (Str × Addr)} {pos : Pos} {Q : Value → Shared → Prop} (_F₀ : Fr h₀ L s.heap m)
    (hclos : closureFor scope env = pure cl) (hcell : ∀ y ∈ scope.names, y.2 ≠ .cell) (hkind : scope.kind = .function)
    (hnames : ∀ y ∈ scope.names, y.2 = .local → scope.names.lookup y.1 = some .local) (hx : scope.names.lookup x = some .local) (f : Nat → Option Int)
    (h : wpAny (model prog w) A (eval iter env) (fun xv s₁ => ∃ ax its news, xv = .ref ax ∧ A.handled = none ∧ Fr h₀ L s₁.heap m ∧ News h₀ L s₁.heap news ∧ SrcAt h₀ ax its news ∧ its.size ≤ 100 ∧
      (∀ i v I oI C oC D oD m₂ h tk (E' : Value → Shared → Prop), i < its.size → its[i]? = some v → NsObj oC m₂ → m₂ x = some v → Fr h₀ L h m → News h₀ L h ((I, oI) :: (C, oC) :: (D, oD) :: news) →
        wpAny (model prog w) A (isTrue ct (compEnvC scope cl C env) (eval ct (compEnvC scope cl C env))) (fun ok s' => if ok = true then
          wpAny (model prog w) A (eval elt (compEnvC scope cl C env)) (EltEnd h₀ L m s₁ ((I, oI) :: (C, oC) :: (D, oD) :: news) fun y => ∃ k t, f i = some k ∧ y = .int k t) E' s'
          else EltEnd h₀ L m s₁ ((I, oI) :: (C, oC) :: (D, oD) :: news) (fun _ => f i = none) Value.none s') E' { s₁ with heap := h, toks := tk }) ∧
      (∀ D oD h tk, Fr h₀ L h m → News h₀ L h ((D, oD) :: news) → (∀ p ∈ news, p.1 ≠ D) →
        oD.SetObjOf (intKind prog w) (fun k => decide (k ∈ ddup ((List.range its.size).filterMap f))) (ddup ((List.range its.size).filterMap f)).length → Q (.ref D) { s₁ with heap := h, toks := tk })) E s)
    (hs : ∀ x, foldedSetIterable iter env x = pure x := by intro _; rfl) :
    wpAny (model prog w) A (eval (.SetComp elt [⟨.Name x px, iter, [ct], 0⟩] scope pos) env) Q E s := by
  rw [arm_eval_SetComp]
  refine wpAny_comprehension_free (use := none) rfl hs hclos hkind hnames (wpAny_mono h (fun xv s₁ h₁ => ?_) fun _ _ e => e)
  obtain ⟨ax, its, news, rfl, hh, F₁, N₁, S, hsz, turn, fin⟩ := h₁
  have hl := S.list F₁.keep N₁
  have hlt : ax < s₁.heap.objs.size := by obtain ⟨_, e, _⟩ := hl; exact Heap.lt_size e
  refine wpAny_pyIter_list hl ?_
  have W := Walks.list (prog := prog) (w := w) hh s₁.heap.objs.size ax (Nat.ne_of_lt hlt) its
  have hst : (fun (i : Nat) (h : Heap) => h.IsListIter s₁.heap.objs.size ax i ∧ h.IsList ax its) 0 (s₁.heap.push { cls := .type "list_iterator", data := .fields #[.ref ax, .int 0 0] }) := ⟨⟨_, Heap.get?_push_size _ rfl, rfl, rfl⟩, hl.push _⟩
  have up : ∀ b o, s₁.heap.get? b = some o → (s₁.heap.push { cls := .type "list_iterator", data := .fields #[.ref ax, .int 0 0] }).get? b = some o := fun b o e => Heap.get?_push_of_some _ e
  have hGs : (s₁.heap.push { cls := .type "list_iterator", data := .fields #[.ref ax, .int 0 0] }).objs.size = s₁.heap.objs.size + 1 := Heap.size_push ..
  have F := F₁.keeps up
  have N := N₁.grown up
  have hIL : L ≠ s₁.heap.objs.size := Nat.ne_of_lt F₁.ns.lt
  have hI₀ : h₀.get? s₁.heap.objs.size = none := next_is_new F₁
  have off : ∀ p ∈ news, p.1 ≠ s₁.heap.objs.size := fun p hp => Nat.ne_of_lt (Heap.lt_size (N₁ p hp).1)
  generalize s₁.heap.push { cls := .type "list_iterator", data := .fields #[.ref ax, .int 0 0] } = G at hst hGs F N
  generalize s₁.heap.objs.size = I at hlt W hst hGs hIL hI₀ off
  clear up hl F₁ N₁
  refine wpAny_newSet_of (knd := intKind prog w) fun led _ => wpAny_newFunctionEnv hcell (by intro y hy; simp at hy) (fun h₁ hns₁ hsb₁ => ?_) hkind
  dsimp only at hns₁ hsb₁ ⊢
  generalize hH2 : G.push { cls := .type "set", dict := none, data := .set #[] 0 (.fresh 0 0 led) } = H2 at hns₁ hsb₁ ⊢
  have hC : H2.objs.size = G.objs.size + 1 := by rw [← hH2, Heap.size_push]
  have hDC : G.objs.size ≠ H2.objs.size := by rw [hC]; exact Nat.ne_of_lt (Nat.lt_succ_self _)
  have below : ∀ b, b < G.objs.size → b ≠ H2.objs.size ∧ b ≠ G.objs.size := fun b hb => ⟨by rw [hC]; exact Nat.ne_of_lt (Nat.lt_succ_of_lt hb), Nat.ne_of_lt hb⟩
  have hfp : ∀ b ∈ [I, ax], b < G.objs.size := fun b hb => by
    rw [hGs]
    rcases List.mem_cons.mp hb with rfl | hb
    · exact Nat.lt_succ_self _
    · rw [List.mem_singleton.mp hb]; exact Nat.lt_succ_of_lt hlt
  have hDf : G.objs.size ∉ [I, ax] := fun hm => Nat.lt_irrefl _ (hfp _ hm)
  have hCf : H2.objs.size ∉ [I, ax] := fun hm => by have := hfp _ hm; rw [hC] at this; exact Nat.lt_irrefl _ (Nat.lt_of_succ_lt this)
  have hIlt : I < G.objs.size := hfp I (.head _)
  have old : ∀ b o, G.get? b = some o → h₁.get? b = some o := fun b o e => hsb₁.extBut b o (below b (Heap.lt_size e)).1 (Heap.get?_push_of_some _ (hH2 ▸ Heap.get?_push_of_some _ e))
  have hacc : h₁.get? G.objs.size = some { cls := .type "set", dict := none, data := .set #[] 0 (.fresh 0 0 led) } := hsb₁.extBut _ _ hDC (Heap.get?_push_of_some _ (hH2 ▸ Heap.get?_push_size _ rfl))
  have hst₁ := W.frame _ _ _ hst fun b _ o e => old b o e
  have fresh₀ : ∀ a, G.objs.size ≤ a → h₀.get? a = none := fun a ha => by
    cases e : h₀.get? a with
    | none => rfl
    | some o' => exact absurd (Heap.lt_size (F.keep a o' e)) (Nat.not_lt.mpr ha)
  have hD₀ : h₀.get? G.objs.size = none := fresh₀ _ (Nat.le_refl _)
  have hC₀ : h₀.get? H2.objs.size = none := fresh₀ _ (by rw [hC]; exact Nat.le_succ _)
  have hLlt : L < G.objs.size := F.ns.lt
  have hDL : G.objs.size ≠ L := Ne.symm (below L hLlt).2
  have hCL : H2.objs.size ≠ L := Ne.symm (below L hLlt).1
  have hCI : I ≠ H2.objs.size := (below I hIlt).1
  have hDI : I ≠ G.objs.size := (below I hIlt).2
  have offC : ∀ p ∈ news, p.1 ≠ H2.objs.size := fun p hp => (below _ (Heap.lt_size (N p hp).1)).1
  have offD : ∀ p ∈ news, p.1 ≠ G.objs.size := fun p hp => (below _ (Heap.lt_size (N p hp).1)).2
  have len : ∀ i, i ≤ its.size → (ddup ((List.range i).filterMap f)).length ≤ 100 := fun i hi => Nat.le_trans (ddup_le _) (Nat.le_trans (List.length_filterMap_le _ _) (by rw [List.length_range]; exact Nat.le_trans hi hsz))
  have loop : ∀ s₃ : Shared, s₃ = { s₁ with heap := h₁, toks := s₁.toks + ([] : List (Str × Value)).length } →
      codeAny (model prog w) A (.compLoop (.SetComp elt [⟨.Name x px, iter, [ct], 0⟩] scope pos) 0 (.ref I) (.ref G.objs.size) (compEnvC scope cl H2.objs.size env))
        (compPost (model prog w) A E none Q (.ref G.objs.size) H2.objs.size) s₃ := by
    rintro s₃ rfl
    refine loop_set
      (fun k s' => ∃ h' tk i oD m', s' = { s₁ with heap := h', toks := tk } ∧ i ≤ its.size ∧ k = its.size + 1 - i ∧ (h'.IsListIter I ax i ∧ h'.IsList ax its) ∧ Fr h₀ L h' m ∧ h'.Ns H2.objs.size m' ∧ News h₀ L h' ((G.objs.size, oD) :: news) ∧
        oD.SetObjOf (intKind prog w) (fun k => decide (k ∈ ddup ((List.range i).filterMap f))) (ddup ((List.range i).filterMap f)).length) ?_ (its.size + 1)
      ⟨h₁, _, 0, _, _, rfl, Nat.zero_le _, rfl, hst₁, F.keeps old, hns₁, fun p hp => ?_, setObjOf_fresh led⟩
    · rintro k s' ⟨h', tk, i, oD, m', rfl, hi, rfl, hst', F', hn', N', hso⟩
      by_cases hlt : i < its.size
      · refine W.item i _ _ _ hlt hst' fun v h₂ tk₂ hPv hst₂ hk₂ => ?_
        refine wpAny_assign_Name (wpAny_storeName_local (lookup_relabel_local hx) (hn'.at' fun o e => hk₂ _ o (by simpa using Ne.symm hCI) e) (fun h₃ hn₃ hs₃ => ?_) (by simp [compEnvC, relabel, hkind]))
        refine wpAny_tests_one ?_
        have hst₃ := W.frame _ _ _ hst₂ fun b hb o e => hs₃.extBut b o (fun q => hCf (by have q' : b = H2.objs.size := q; rw [← q']; exact hb)) e
        obtain ⟨oI, heI, _⟩ := hst₃.1
        obtain ⟨oC, heC, hoC⟩ := ns_obj hn₃
        have F₃ : Fr h₀ L h₃ m := (fr_but F' hk₂ hIL hI₀).change hs₃ hCL hC₀
        have N₂ : News h₀ L h₂ ((G.objs.size, oD) :: news) := news_but N' hk₂ fun p hp => by
          rcases List.mem_cons.mp hp with rfl | hp
          · exact Ne.symm hDI
          · exact off p hp
        have N₃ : News h₀ L h₃ ((I, oI) :: (H2.objs.size, oC) :: (G.objs.size, oD) :: news) := fun p hp => by
          rcases List.mem_cons.mp hp with rfl | hp
          · exact ⟨heI, Ne.symm hIL, hI₀⟩
          · rcases List.mem_cons.mp hp with rfl | hp
            · exact ⟨heC, hCL, hC₀⟩
            · have z := N₂ p hp
              refine ⟨hs₃.extBut _ _ ?_ z.1, z.2⟩
              rcases List.mem_cons.mp hp with rfl | hp
              · exact hDC
              · exact offC p hp
        refine wpAny_mono (turn i v I oI H2.objs.size oC G.objs.size oD _ h₃ _ _ hlt hPv hoC (by simp) F₃ N₃) (fun ok s₄ h₄ => ?_) fun _ _ e => e
        cases ok with
        | true =>
          simp only [if_true] at h₄ ⊢
          refine wpAny_mono h₄ (fun y s₅ h₅ => ?_) fun _ _ e => e
          obtain ⟨h₄, tk₄, rfl, F₄, N₄, kk, tt, hfi, rfl⟩ := h₅
          have zI := (N₄ (I, oI) List.mem_cons_self).1
          have zC := (N₄ (H2.objs.size, oC) (List.mem_cons_of_mem _ List.mem_cons_self)).1
          have zD := (N₄ (G.objs.size, oD) (List.mem_cons_of_mem _ (List.mem_cons_of_mem _ List.mem_cons_self))).1
          have N₄' : News h₀ L h₄ news := fun p hp => N₄ p (List.mem_cons_of_mem _ (List.mem_cons_of_mem _ (List.mem_cons_of_mem _ hp)))
          have hst₄ := list_st _ _ _ _ _ hst₃ heI zI F₄.keep N₄' S
          have hlen := len i hi
          refine call_set_add (k := kk) (intKind_is prog w kk tt) rfl (hso.setOf zD (Nat.lt_of_le_of_lt hlen (by decide))) (Nat.lt_of_le_of_lt (Nat.succ_le_succ hlen) (by decide)) fun h₅ hs₅ hS₅ => ?_
          obtain ⟨o₅, ho₅, hso₅⟩ := hS₅.objOf
          refine ⟨its.size + 1 - (i + 1), fewer hlt, h₅, tk₄ + 1, i + 1, o₅, _, rfl, hlt, rfl, W.frame _ _ _ hst₄ fun b hb o e => hs₅.extBut b o (fun q => hDf (q ▸ hb)) e, F₄.change hs₅ hDL hD₀,
            (hoC.ns zC).sameBut hs₅ (Ne.symm hDC), fun p hp => ?_, ?_⟩
          · rcases List.mem_cons.mp hp with rfl | hp
            · exact ⟨ho₅, hDL, hD₀⟩
            · exact ⟨hs₅.extBut _ _ (offD p hp) (N₄' p hp).1, (N₄' p hp).2⟩
          · rw [added_succ, hfi]
            show o₅.SetObjOf _ (fun k => decide (k ∈ ddup (_ ++ [kk]))) (ddup (_ ++ [kk])).length
            rw [ddup_snoc, stepD_len]
            have : (fun k => decide (k ∈ stepD (ddup ((List.range i).filterMap f)) kk)) = fun k => decide (k ∈ ddup ((List.range i).filterMap f)) || decide (k = kk) := funext fun k => stepD_mem _ _ _
            rw [this]; exact hso₅
        | false =>
          simp only [Bool.false_eq_true, if_false] at h₄ ⊢
          obtain ⟨h₅, tk₄, rfl, F₄, N₄, hfi⟩ := h₄
          have zI := (N₄ (I, oI) List.mem_cons_self).1
          have zC := (N₄ (H2.objs.size, oC) (List.mem_cons_of_mem _ List.mem_cons_self)).1
          have N₄' : News h₀ L h₅ news := fun p hp => N₄ p (List.mem_cons_of_mem _ (List.mem_cons_of_mem _ (List.mem_cons_of_mem _ hp)))
          have hst₄ := list_st _ _ _ _ _ hst₃ heI zI F₄.keep N₄' S
          refine ⟨its.size + 1 - (i + 1), fewer hlt, h₅, tk₄, i + 1, oD, _, rfl, hlt, rfl, hst₄, F₄, hoC.ns zC, fun p hp => ?_, ?_⟩
          · exact N₄ p (List.mem_cons_of_mem _ (List.mem_cons_of_mem _ hp))
          · rw [added_succ, hfi, List.append_nil]; exact hso
      · obtain rfl : i = its.size := Nat.le_antisymm hi (Nat.not_lt.mp hlt)
        refine W.done _ _ _ hst' fun h₂ tk₂ hk₂ => ?_
        have N₂ : News h₀ L h₂ ((G.objs.size, oD) :: news) := news_but N' hk₂ fun p hp => by
          rcases List.mem_cons.mp hp with rfl | hp
          · exact Ne.symm hDI
          · exact off p hp
        refine ⟨_, hn'.at' fun o e => hk₂ _ o (by simpa using Ne.symm hCI) e, fun h'' hs'' => fin _ oD h'' tk₂ ((fr_but F' hk₂ hIL hI₀).change hs'' hCL hC₀) (fun p hp => ?_) offD hso⟩
        refine ⟨hs''.extBut _ _ ?_ (N₂ p hp).1, (N₂ p hp).2⟩
        rcases List.mem_cons.mp hp with rfl | hp
        · exact hDC
        · exact offC p hp
    · rcases List.mem_cons.mp hp with rfl | hp
      · exact ⟨hacc, hDL, hD₀⟩
      · exact ⟨old _ _ (N p hp).1, (N p hp).2⟩
  exact start_set (loop _ rfl) (W.self 0 _ _ _ hst₁ (loop _ rfl))
end
end Mine
end
noncomputable section
open PySem PySem.W PyProof.Rows PySem.Calls PySem.Spec
set_option maxRecDepth 100000
namespace Mine
open LCg
/-- a turn's end, of a loop that stores its name in a cell -/
noncomputable def ColEnd (h₀ : Heap) (L : Addr) (m : Str → Option Value) (c : Addr) (rest : List (Addr × Obj)) (s₁ s₂ : Shared) : Prop :=
  ∃ h' tk' o, s₂ = { s₁ with heap := h', toks := tk' } ∧ Fr h₀ L h' m ∧ News h₀ L h' ((c, o) :: rest) ∧ ∃ v, o.data = .cell v
section
variable {prog : Program} {w : World} {A : Around} {s : Shared} {h₀ : Heap} {L : Addr} {m : Str → Option Value} {cn : Str} {cs : Scope} {a : Addr} {ccd : Value} {cl : List (Str × Addr)}
theorem colFor {R : Result → Shared → Prop} {E : Value → Shared → Prop} {x : Str} {px : Pos} {body orelse : List Stmt} {r c : Addr} {o : Obj} {v₀ : Option Value} {b₀ : Int} {t₀ u₀ w₀ : Tok} {n : Nat} {news : List (Addr × Obj)}
    (hh : A.handled = none) (hr : IsRange s.heap r 0 b₀ 1 t₀ u₀ w₀) (hsmall : Builtin.Range.small 0 b₀ 1 = true) (hn : Builtin.Range.rangeSize 0 b₀ 1 = (n : Int))
    (hc : cl.lookup x = some c) (hk : cs.kind = .function) (hx : (envX cn cs L a ccd cl).kindOf x = some .cell)
    (F : Fr h₀ L s.heap m) (N : News h₀ L s.heap ((c, o) :: news)) (hoff : ∀ p ∈ news, p.1 ≠ c) (hd : o.data = .cell v₀)
    (turn : ∀ (i : Nat) t I oI o' h tk, i < n → o'.data = .cell (some (.int (i : Int) t)) → Fr h₀ L h m → News h₀ L h ((c, o') :: (I, oI) :: news) →
      wpAny (model prog w) A (execs body (envX cn cs L a ccd cl)) (fun f s₂ => match f with
        | .ret v => R (.ok (.ret v)) s₂
        | .brk => R (.ok .next) s₂
        | _ => ColEnd h₀ L m c ((I, oI) :: news) { s with heap := h, toks := tk } s₂) (fun _ _ => False) { s with heap := h, toks := tk })
    (done : ∀ o h tk, Fr h₀ L h m → News h₀ L h ((c, o) :: news) →
      wpAny (model prog w) A (execs orelse (envX cn cs L a ccd cl)) (fun f s₃ => R (.ok f) s₃) (fun _ _ => False) { s with heap := h, toks := tk }) :
    wpAny (model prog w) A (pyIter (.ref r)) (fun it s₂ => codeAny (model prog w) A (.forLoop (.Name x px) it body orelse (envX cn cs L a ccd cl)) R s₂) E s := by
  refine wpAny_pyIter_range hr hsmall ?_
  have W : Walks prog w A s.heap.objs.size [s.heap.objs.size] [s.heap.objs.size] n (fun i v => i < n ∧ ∃ t, v = .int (0 + i * 1) t)
      (fun i h => IsRangeIter h s.heap.objs.size (0 + (i : Nat) * 1) ((n : Int) - (i : Nat)) 1) := (Walks.range hh _ 0 1 n).bound
  have hIL : L ≠ s.heap.objs.size := Nat.ne_of_lt F.ns.lt
  have hI₀ : h₀.get? s.heap.objs.size = none := next_is_new F
  have off : ∀ p ∈ (c, o) :: news, p.1 ≠ s.heap.objs.size := fun p hp => Nat.ne_of_lt (Heap.lt_size (N p hp).1)
  have hcI : c ≠ s.heap.objs.size := off _ (.head _)
  refine codeAny_forLoop
    (fun k s' => ∃ h' tk o i, s' = { s with heap := h', toks := tk } ∧ IsRangeIter h' s.heap.objs.size (0 + (i : Nat) * 1) ((n : Int) - (i : Nat)) 1 ∧ Fr h₀ L h' m ∧ News h₀ L h' ((c, o) :: news) ∧ (∃ v, o.data = .cell v) ∧ i ≤ n ∧ k = n + 1 - i) ?_ (n + 1)
    ⟨_, s.toks, o, 0, rfl, by show IsRangeIter _ _ _ _ _; rw [hn]; simpa using Heap.get?_push_size _ rfl, F.push _, fun p hp => ⟨Heap.get?_push_of_some _ (N p hp).1, (N p hp).2⟩, ⟨_, hd⟩, Nat.zero_le _, rfl⟩
  rintro k s' ⟨h', tk, o', i, rfl, hst', F', N', ⟨v₁, hd'⟩, hi, rfl⟩
  have nx : ∀ h₁ : Heap, (∀ b o, b ∉ [s.heap.objs.size] → h'.get? b = some o → h₁.get? b = some o) → Fr h₀ L h₁ m ∧ News h₀ L h₁ ((c, o') :: news) := fun h₁ hk₁ =>
    ⟨fr_but F' hk₁ hIL hI₀, news_but N' hk₁ fun p hp => by
      rcases List.mem_cons.mp hp with rfl | hp
      · exact hcI
      · exact off p (.tail _ hp)⟩
  by_cases hlt : i < n
  · refine W.item i _ _ _ hlt hst' fun v h₁ tk₁ hP hst₁ hk₁ => ?_
    obtain ⟨_, t, rfl⟩ := hP
    obtain ⟨F₁, N₁⟩ := nx h₁ hk₁
    obtain ⟨oI, eI, hI⟩ : ∃ oI, h₁.get? s.heap.objs.size = some oI ∧ ∀ h : Heap, h.get? s.heap.objs.size = some oI → IsRangeIter h s.heap.objs.size (0 + ((i + 1 : Nat) : Int) * 1) ((n : Int) - ((i + 1 : Nat) : Int)) 1 := ⟨_, hst₁, fun _ e => e⟩
    have N₂ : News h₀ L h₁ ((c, o') :: (s.heap.objs.size, oI) :: news) := fun p hp => by
      rcases List.mem_cons.mp hp with rfl | hp
      · exact N₁ _ (.head _)
      · rcases List.mem_cons.mp hp with rfl | hp
        · exact ⟨eI, Ne.symm hIL, hI₀⟩
        · exact N₁ p (.tail _ hp)
    refine wpAny_assign_Name (storeX_C F₁ N₂ hc (UpdF.head fun p hp => ?_) hd' (fun h₂ o₂ F₂ N₃ d₂ => ?_) hk hx)
    · rcases List.mem_cons.mp hp with rfl | hp
      · exact Ne.symm hcI
      · exact hoff p hp
    · rw [step0] at d₂
      refine wpAny_mono (turn i t _ _ o₂ h₂ _ hlt d₂ F₂ N₃) (fun f s₃ h₃ => ?_) fun _ _ e => e.elim
      have fin : ColEnd h₀ L m c ((s.heap.objs.size, oI) :: news) { s with heap := h₂, toks := tk₁ } s₃ → ∃ m', m' < n + 1 - i ∧ ∃ h' tk o i, s₃ = { s with heap := h', toks := tk } ∧ IsRangeIter h' s.heap.objs.size (0 + (i : Nat) * 1) ((n : Int) - (i : Nat)) 1 ∧ Fr h₀ L h' m ∧ News h₀ L h' ((c, o) :: news) ∧ (∃ v, o.data = .cell v) ∧ i ≤ n ∧ m' = n + 1 - i := by
        rintro ⟨h₄, tk₄, o₄, rfl, F₄, N₄, d₄⟩
        refine ⟨n + 1 - (i + 1), fewer hlt, h₄, tk₄, o₄, i + 1, rfl, hI _ (N₄ _ (.tail _ (.head _))).1, F₄, fun p hp => N₄ p ?_, d₄, hlt, rfl⟩
        rcases List.mem_cons.mp hp with rfl | hp
        · exact .head _
        · exact .tail _ (.tail _ hp)
      cases f with
      | ret v => exact h₃
      | brk => exact h₃
      | next => exact fin h₃
      | cont => exact fin h₃
  · obtain rfl : i = n := Nat.le_antisymm hi (Nat.not_lt.mp hlt)
    refine W.done _ _ _ hst' fun h₁ tk₁ hk₁ => ?_
    obtain ⟨F₁, N₁⟩ := nx h₁ hk₁
    exact wpAny_mono (done o' h₁ tk₁ F₁ N₁) (fun _ _ x => x) fun _ _ x => x.elim
end
end Mine
end
noncomputable section
open PySem PySem.W PyProof.Rows PySem.Calls PySem.Spec
set_option maxRecDepth 100000
namespace Mine
theorem off_new {h₀ h : Heap} {L D : Addr} {news : List (Addr × Obj)} (N : News h₀ L h news) (hn : h.get? D = none) : ∀ p ∈ news, p.1 ≠ D := fun p hp e => by
  have := (N p hp).1; rw [e, hn] at this; cases this
theorem news_sub {h₀ h : Heap} {L : Addr} {news less : List (Addr × Obj)} (N : News h₀ L h news) (hs : ∀ p ∈ less, p ∈ news) : News h₀ L h less := fun p hp => N p (hs p hp)
section
variable {w : World} {mean : ExcName → Option Value} {mg mb : Str → Option Value} {dp un : Nat} {fr : Option (List Env)} {gd : Option (List Code)} {s : Shared} {Q E : Value → Shared → Prop} {h₀ : Heap} {L : Addr} {m : Str → Option Value} {news : List (Addr × Obj)}
  (F : Fr h₀ L s.heap m) (N : News h₀ L s.heap news) (X : (Mine.hd.heap_39 w.params).In h₀)
  (T : Top Mine.hd.view_39 (looseW Mine.hd.view_39 [Str.ofString "COMPILER_FLAG_NAMES", Str.ofString "b2a_base64", Str.ofString "b64encode", Str.ofString "_filemode_table"]) mean mg mb h₀)
include F N X T
theorem drawn_call {ns : List Int} {vs : List Value} {l : Addr} {k : Nat} (hm : (l, W.listOf vs.toArray k) ∈ news) (hi : IntsAre vs ns) (h4 : ns.length = 4) (hd : dp + 1 < recursionLimit) (hu : un + 20 < cLine)
  (ret : ∀ D us k h' tk', Fr h₀ L h' m → News h₀ L h' ((D, W.listOf us.toArray k) :: news) → (∀ p ∈ news, p.1 ≠ D) → IntsAre us ((drawnN ns).map fun (n : Nat) => (n : Int)) → Q (.ref D) { s with heap := h', toks := tk' }) :
  wpAny (model PySem.Challenge.rw_om0021_01.row.prog w) ⟨none, dp, fr, gd, un⟩ (call (.ref 132) [.ref l]) Q E s :=
  lawdrawn w mean mg mb ns vs l h4 dp un fr gd s Q E hd hu (X.keeps F.keep) (T.keeps F.keep) (isList_news N hm) hi fun D us k h' tk' g hn ho hu' => ret D us k h' tk' (fr_grow F g) (news_made F N g ho hn) (off_new N hn) hu'
theorem fig_call {as : List Nat} {vs : List Value} {l : Addr} {k : Nat} (hm : (l, W.listOf vs.toArray k) ∈ news) (hi : IntsAre vs (as.map fun (k : Nat) => (k : Int))) (h4 : as.length = 4) (hlt : ∀ a ∈ as, a < 4096) (hd : dp + 4 < recursionLimit) (hu : un + 80 < cLine)
  (ret : ∀ D ys h' tk', Fr h₀ L h' m → News h₀ L h' ((D, LCg.lst ys) :: news) → (∀ p ∈ news, p.1 ≠ D) → IntsAre ys ((figN (wholeN as)).map fun (n : Nat) => (n : Int)) → Q (.ref D) { s with heap := h', toks := tk' }) :
  wpAny (model PySem.Challenge.rw_om0021_01.row.prog w) ⟨none, dp, fr, gd, un⟩ (call (.ref 137) [.ref l]) Q E s :=
  lawfig w mean mg mb as h4 hlt l vs hi dp un fr gd s Q E hd hu (X.keeps F.keep) (T.keeps F.keep) (isList_news N hm) fun D ys h' tk' g hn ho hu' => ret D ys h' tk' (fr_grow F g) (news_made F N g ho hn) (off_new N hn) hu'
theorem set_call {as : List Nat} {ys : List Value} {D : Addr} {c : Nat} {tc : Tok} (hm : (D, LCg.lst ys) ∈ news) (hi : IntsAre ys ((figN (wholeN as)).map fun (k : Nat) => (k : Int))) (h4 : as.length = 4) (hlt : ∀ a ∈ as, a < 4096) (hc : c < 16) (hd : dp + 2 < recursionLimit) (hu : un + 40 < cLine)
  (ret : ∀ t h' tk', Fr h₀ L h' m → News h₀ L h' news → Q (.int ((choose as c 4 : Nat) : Int) t) { s with heap := h', toks := tk' }) :
  wpAny (model PySem.Challenge.rw_om0021_01.row.prog w) ⟨none, dp, fr, gd, un⟩ (call (.ref 144) [.ref D, .int (c : Int) tc]) Q E s := by
  refine setting w mean mg mb (figN (wholeN as)) ys c D tc (by unfold figN; simp) (fun x hx => ?_) hc dp un fr gd s Q E hd hu (X.keeps F.keep) (T.keeps F.keep) (isList_news N hm) hi fun t h' tk' g => ?_
  · unfold figN at hx
    obtain ⟨j, _, rfl⟩ := List.mem_map.mp hx
    exact six_lt _ _
  · rw [set_choose h4 hlt]; exact ret t h' tk' (fr_grow F g) (news_grow N g)
theorem file_call {n : Nat} {tn : Tok} (hd : dp + 2 < recursionLimit) (hu : un + 40 < cLine)
  (ret : ∀ t h' tk', Fr h₀ L h' m → News h₀ L h' news → Q (.str (fileS n) t) { s with heap := h', toks := tk' }) :
  wpAny (model PySem.Challenge.rw_om0021_01.row.prog w) ⟨none, dp, fr, gd, un⟩ (call (.ref 113) [.int (n : Int) tn]) Q E s :=
  filem w mean mg mb n tn dp un fr gd s Q E hd hu (X.keeps F.keep) (T.keeps F.keep) fun t h' tk' g => ret t h' tk' (fr_grow F g) (news_grow N g)
theorem listing_call {n : Nat} {tn : Tok} (hn : n < 65536) (hd : dp + 2 < recursionLimit) (hu : un + 40 < cLine)
  (ret : ∀ t h' tk', Fr h₀ L h' m → News h₀ L h' news → Q (.str (fileS n) t) { s with heap := h', toks := tk' }) :
  wpAny (model PySem.Challenge.rw_om0021_01.row.prog w) ⟨none, dp, fr, gd, un⟩ (call (.ref 120) [.int (n : Int) tn]) Q E s :=
  listing w mean mg mb n tn hn dp un fr gd s Q E hd hu (X.keeps F.keep) (T.keeps F.keep) fun t h' tk' g => ret t h' tk' (fr_grow F g) (news_grow N g)
theorem words_call {n : Nat} {tn : Tok} (hn : n < 4096) (hd : dp + 2 < recursionLimit) (hu : un + 40 < cLine)
  (ret : ∀ t h' tk', Fr h₀ L h' m → News h₀ L h' news → Q (.str (prettyS n) t) { s with heap := h', toks := tk' }) :
  wpAny (model PySem.Challenge.rw_om0021_01.row.prog w) ⟨none, dp, fr, gd, un⟩ (call (.ref 125) [.int (n : Int) tn]) Q E s :=
  lawwords w mean mg mb n tn hn dp un fr gd s Q E hd hu (X.keeps F.keep) (T.keeps F.keep) fun t h' tk' g => ret t h' tk' (fr_grow F g) (news_grow N g)
theorem kept_make {as : List Nat} {vs : List Value} {l : Addr} {k : Nat} (hm : (l, W.listOf vs.toArray k) ∈ news) (hi : IntsAre vs (as.map fun (k : Nat) => (k : Int))) (h4 : as.length = 4) (hlt : ∀ a ∈ as, a < 4096) (hd : dp + 3 < recursionLimit) (hu : un + 60 < cLine)
  (ret : ∀ D o h' tk', Fr h₀ L h' m → News h₀ L h' ((D, o) :: news) → (∀ p ∈ news, p.1 ≠ D) → KeptAt w o (keptN as) → (D == sysModules) = false → Q (.ref D) { s with heap := h', toks := tk' }) :
  wpAny (model PySem.Challenge.rw_om0021_01.row.prog w) ⟨none, dp, fr, gd, un⟩ (call (.ref 163) [.ref l]) Q E s :=
  lawkept w mean mg mb as vs l h4 hlt dp un fr gd s Q E hd hu (X.keeps F.keep) (T.keeps F.keep) (isList_news N hm) hi fun D o h' tk' g hn ho hk lo => ret D o h' tk' (fr_grow F g) (news_made F N g ho hn) (off_new N hn) hk lo
theorem even_call {as : List Nat} {md c : Nat} {tc : Tok} {l P : Addr} {vs : List Value} {S : Int → Bool} {oP : Obj} (h4 : as.length = 4) (hlt : ∀ a ∈ as, a < 4096) (hmd : md < 65536) (hc : c < 10) (hl : (l, LCg.lst vs) ∈ news) (hvs : StrsAre vs (listS md as)) (hP : (P, oP) ∈ news)
  (hso : oP.SetObjOf (intKind PySem.Challenge.rw_om0021_01.row.prog w) S (ddup (partsN as c)).length) (hd : dp + 1 < recursionLimit) (hu : un + 20 < cLine)
  (ret : ∀ h' tk', Fr h₀ L h' m → News h₀ L h' news → Q (.bool true) { s with heap := h', toks := tk' }) :
  wpAny (model PySem.Challenge.rw_om0021_01.row.prog w) ⟨none, dp, fr, gd, un⟩ (call (.ref 149) [.ref l, .int (c : Int) tc, .ref P]) Q E s :=
  laweven w mean mg mb (listS md as) (list_len md h4) list_ten c hc tc l P vs hvs _ (h4 ▸ parts_le as c) S oP dp un fr gd s Q E hd hu (X.keeps F.keep) (T.keeps F.keep) (isList_news N hl) (N _ hP).1 hso
    (even_col h4 hlt hmd hc).1 (even_col h4 hlt hmd hc).2 fun h' tk' g => ret h' tk' (fr_grow F g) (news_grow N g)
end
end Mine
end
noncomputable section
open PySem PySem.W PyProof.Rows PySem.Calls PySem.Spec
set_option maxRecDepth 100000
namespace Mine
section
variable {prog : Program} {w : World} {A : Around} {E Q : Value → Shared → Prop} {s : Shared} {h₀ : Heap} {L l : Addr} {m : Str → Option Value} {news : List (Addr × Obj)} {value slice : PySem.Expr} {vs : List Value} {ns : List Int} {x : Int} {t : Tok} {k : Nat}
theorem slice_tail (F : Fr h₀ L s.heap m) (N : News h₀ L s.heap news) (hm : (l, W.listOf vs.toArray k) ∈ news) (hi : IntsAre vs ns) (hx : 0 ≤ x) (hz : ns.length ≤ 4096)
    (h : ∀ D ws h', Fr h₀ L h' m → News h₀ L h' ((D, W.listOf (List.toArray ws) 0) :: news) → (∀ p ∈ news, p.1 < D) → IntsAre ws (ns.drop x.toNat) → Q (.ref D) { s with heap := h' })
    (hs : subscripted slice false (.ref l) (.ref s.heap.objs.size) = operate [.ref s.heap.objs.size, .ref l] (getItem (.ref l) (.ref s.heap.objs.size))) (ht : ∀ r, letTemporaryGo value (.ref l) r = pure ()) :
    wpAny (model prog w) A (subscriptTail value slice (.ref l) (.ref s.heap.objs.size)) Q E { s with heap := s.heap.push { cls := .type "slice", data := .fields #[.int x t, .none, .none] } } :=
  kmk_slice_ints F N (isList_news N hm) (IsPart.int _ _) IsPart.none hi (kmk_from hi hx) rfl (fun D ws h' F' N' l1 hI _ _ => h D ws h' F' N' l1 hI) hs ht (by rw [List.size_toArray, hi.length, sizeLine_eq]; omega)
end
/-- the five numbers -/
theorem five (ns : List Int) : (ns.take 5 ++ List.drop (((ns.take 5).length : Int)).toNat [33261, 75, 1536, 3, 2048]).length = 5 := by
  rw [List.length_append, List.length_drop, List.length_take, Int.toNat_natCast]
  show min 5 ns.length + (5 - min 5 ns.length) = 5
  exact Nat.add_sub_cancel' (Nat.min_le_left _ _)
theorem five_of {ns : List Int} (h : ns.length = 5) : ∃ a r, ns = a :: r ∧ r.length = 4 := by
  match ns, h with
  | a :: r, h => exact ⟨a, r, rfl, Nat.succ.inj h⟩
noncomputable def AllNe (d : Nat) : List (Addr × Obj) → Prop
  | [] => True
  | p :: r => @Ne Nat p.1 d ∧ AllNe d r
theorem allNe_of {d : Addr} : ∀ {l : List (Addr × Obj)}, (∀ p ∈ l, p.1 ≠ d) → AllNe d l
  | [], _ => trivial
  | p :: _, h => ⟨h p (.head _), allNe_of fun q hq => h q (.tail _ hq)⟩
theorem keep_B {h₀ h : Heap} {L : Addr} {a b c d e p q r t : Addr × Obj} (N : News h₀ L h [a, b, c, d, e, p, q, r, t]) : News h₀ L h [a, c, p, q, r, t] := news_sub N fun x hx => by
  simp only [List.mem_cons, List.not_mem_nil, or_false] at hx ⊢
  rcases hx with h | h | h | h | h | h <;> simp [h]
theorem mode_nat (x : Int) : ∃ md : Nat, md < 65536 ∧ x.fmod 65536 = (md : Int) := by
  rw [Int.fmod_eq_emod_of_nonneg _ (by decide)]
  exact ⟨(x % 65536).toNat, (Int.toNat_lt (Int.emod_nonneg _ (by decide))).mpr (Int.emod_lt_of_pos _ (by decide)), mod_toNat _ (by decide)⟩
theorem keep_C {h₀ h : Heap} {L : Addr} {a b c p q r t : Addr × Obj} (N : News h₀ L h [a, b, c, p, q, r, t]) : News h₀ L h [a, p, q, r, t] := news_sub N fun x hx => by
  simp only [List.mem_cons, List.not_mem_nil, or_false] at hx ⊢
  rcases hx with h | h | h | h | h <;> simp [h]
theorem keep_D {h₀ h : Heap} {L : Addr} {a b c d p q r t : Addr × Obj} (N : News h₀ L h [a, b, c, d, p, q, r, t]) : News h₀ L h [p, q, r, t] := fun x hx => N x (.tail _ (.tail _ (.tail _ (.tail _ hx))))
theorem keep_E {h₀ h : Heap} {L : Addr} {a b c d e f g k : Addr × Obj} (N : News h₀ L h [a, b, c, d, e, f, g, k]) : News h₀ L h [e, a, b, d, f, k] := news_sub N fun x hx => by
  simp only [List.mem_cons, List.not_mem_nil, or_false] at hx ⊢
  rcases hx with h | h | h | h | h | h <;> simp [h]
theorem keep_A {h₀ h : Heap} {L : Addr} {a b c d e p q r t : Addr × Obj} (N : News h₀ L h [a, b, c, d, e, p, q, r, t]) : News h₀ L h [a, p, q, r, t] := news_sub N fun x hx => by
  simp only [List.mem_cons, List.not_mem_nil, or_false] at hx ⊢
  rcases hx with h | h | h | h | h <;> simp [h]
end Mine
end
noncomputable section
open PySem PySem.W PyProof.Rows PySem.Calls PySem.Spec
set_option maxRecDepth 100000
namespace Mine
/-- a def of the written part -/
noncomputable def IsFn (K : Frag) (f : Addr) (qual : Str) (body : List Stmt) (scope : Scope) (cdv : Value) : Prop :=
  ∃ name params dV kV doc pm an ct oc od osl, K.lookup f = some ⟨oc, od, .func (fnOf name qual params body scope dV kV doc pm an cdv ct), osl⟩
theorem IsFn.same {K : Frag} {f : Addr} {q q' : Str} {b b' : List Stmt} {c c' : Scope} {v v' : Value} (h : IsFn K f q b c v) (h' : IsFn K f q' b' c' v') : q = q' ∧ b = b' ∧ c = c' ∧ v = v' := by
  obtain ⟨_, _, _, _, _, _, _, _, _, _, _, e⟩ := h
  obtain ⟨_, _, _, _, _, _, _, _, _, _, _, e'⟩ := h'
  rw [e] at e'
  have e1 := Option.some.inj e'
  injection e1 with _ _ e2 _
  injection e2 with e3
  unfold fnOf at e3
  injection e3
  simp_all
noncomputable def maskI : List Int := [0, 256, 128, 2112, 32, 16, 1032, 4, 2, 513]
theorem maskI_at : ∀ c, c < 10 → maskI.getD c 0 = ((maskC c : Nat) : Int) := by decide +kernel
theorem sub_nn {n : Str} {p : Pos} {D : Addr} {x : Int} {t : Tok} : subscripted (.Name n p) false (.ref D) (.int x t) = operate [.ref D, .int x t] (getItem (.ref D) (.int x t)) := by with_unfolding_all rfl
theorem let_nn {n : Str} {p : Pos} {D : Addr} : ∀ r, letTemporaryGo (.Name n p) (.ref D) r = pure () := by intro _; with_unfolding_all rfl
theorem mask_item {prog : Program} {w : World} {A : Around} {E Q : Value → Shared → Prop} {s : Shared} {h₀ : Heap} {L M : Addr} {news : List (Addr × Obj)} {mk : List Value} {km c : Nat} {t : Tok} {n1 n2 : Str} {p1 p2 : Pos}
    (N : News h₀ L s.heap news) (hm : (M, W.listOf mk.toArray km) ∈ news) (hmk : IntsAre mk maskI) (hc : c < 10) (h : ∀ t', Q (.int ((maskC c : Nat) : Int) t') s) :
    wpAny (model prog w) A (subscriptTail (.Name n1 p1) (.Name n2 p2) (.ref M) (.int (c : Int) t)) Q E s :=
  item_list_ints (isList_news N hm) hmk (Int.natCast_nonneg _) (Int.ofNat_lt.mpr hc : (c : Int) < ((10 : Nat) : Int)) (small64 hc (by decide)) (fun t' => by rw [Int.toNat_natCast, maskI_at c hc]; exact h t') sub_nn let_nn
theorem at_item {prog : Program} {w : World} {A : Around} {E Q : Value → Shared → Prop} {s : Shared} {h₀ : Heap} {L S : Addr} {news : List (Addr × Obj)} {us : List Value} {as : List Nat} {kS k : Nat} {t : Tok} {n1 n2 : Str} {p1 p2 : Pos}
    (N : News h₀ L s.heap news) (hm : (S, W.listOf us.toArray kS) ∈ news) (hus : IntsAre us (as.map fun (n : Nat) => (n : Int))) (has : as.length = 4) (hk : k < 4) (h : ∀ t', Q (.int ((as.getD k 0 : Nat) : Int) t') s) :
    wpAny (model prog w) A (subscriptTail (.Name n1 p1) (.Name n2 p2) (.ref S) (.int (k : Int) t)) Q E s :=
  item_list_ints (isList_news N hm) hus (Int.natCast_nonneg _) (by rw [List.length_map, has]; exact Int.ofNat_lt.mpr hk) (small64 hk (by decide)) (fun t' => by rw [Int.toNat_natCast, getD_cast]; exact h t') sub_nn let_nn
/-- what the turn i of the set of parts adds -/
noncomputable def addF (as : List Nat) (c i : Nat) : Option Int := if as.getD i 0 &&& maskC c = 0 then none else some ((as.getD i 0 &&& maskC c : Nat) : Int)
theorem add_parts (as : List Nat) (c : Nat) : (List.range as.length).filterMap (addF as c) = (partsN as c).map fun (n : Nat) => (n : Int) := by
  have h : ∀ k, k ≤ as.length → (List.range k).filterMap (addF as c) = (partsN (as.take k) c).map fun (n : Nat) => (n : Int) := by
    intro k
    induction k with
    | zero => intro _; rfl
    | succ k ih =>
      intro hk
      rw [added_succ, ih (Nat.le_of_succ_le hk), List.take_succ_eq_append_getElem (Nat.lt_of_succ_le hk)]
      unfold partsN
      rw [List.map_append, List.filter_append, List.map_append]
      congr 1
      unfold addF
      rw [List.getD_eq_getElem?_getD, List.getElem?_eq_getElem (Nat.lt_of_succ_le hk)]
      show (match (if as[k] &&& maskC c = 0 then none else some (((as[k] &&& maskC c : Nat) : Int))) with | some k => [k] | none => []) = _
      by_cases e : as[k] &&& maskC c = 0
      · rw [if_pos e]; simp [e]
      · rw [if_neg e]; simp [e]
  have := h as.length (Nat.le_refl _)
  rwa [List.take_length] at this
theorem parts_len (as : List Nat) (c : Nat) : (ddup ((List.range as.length).filterMap (addF as c))).length = (ddup (partsN as c)).length := by
  rw [add_parts]; exact ddup_map fun x _ y _ e => Int.ofNat.inj e
end Mine
end
noncomputable section
open PySem PySem.W PyProof.Rows PySem.Calls PySem.Spec PySem.SeqAt
set_option maxRecDepth 100000
namespace Mine
theorem kept_len (as : List Nat) : (keptN as).length ≤ as.length := by
  have h : ∀ k, k ≤ as.length → (keptN (as.take k)).length ≤ k := by
    intro k
    induction k with
    | zero => intro _; rw [List.take_zero, keptN_nil]; exact Nat.le_refl _
    | succ k ih =>
      intro hk
      have := ih (Nat.le_of_succ_le hk)
      rw [List.take_succ_eq_append_getElem (Nat.lt_of_succ_le hk), keptN_snoc]
      split
      · exact Nat.le_succ_of_le this
      · exact Nat.le_trans (putK_len _ _ _) (Nat.succ_le_succ this)
  have := h as.length (Nat.le_refl _)
  rwa [List.take_length] at this
theorem kept_ok {as : List Nat} (h : ∀ a ∈ as, a < 4096) : KsOk (keptN as) := (span h).ok
section
variable {w : World} {A : Around} {E Q : Value → Shared → Prop} {s : Shared} {h₀ : Heap} {L D : Addr} {news : List (Addr × Obj)}
theorem len_ten {prog : Program} {x : Str} {t : Tok} (hx : x.length = 10) (h : ∀ t' k, Q (.int 10 t') { s with toks := k }) : wpAny (model prog w) A (call (.builtin "len") [.str x t]) Q E s :=
  PyProof.Rows.len_str (by rw [hx]; decide) (by rw [hx]; exact h _ _)
theorem len_kept {o : Obj} {ks : List (Nat × Nat)} (N : News h₀ L s.heap news) (hm : (D, o) ∈ news) (hK : KeptAt w o ks) (lo : (D == sysModules) = false) (hl : ks.length ≤ 4) (h : ∀ t' k, Q (.int (ks.length : Nat) t') { s with toks := k }) :
    wpAny (model PySem.Challenge.rw_om0021_01.row.prog w) A (call (.builtin "len") [.ref D]) Q E s := by
  obtain ⟨kvs, hd1, hf1⟩ := hK
  refine PyProof.Rows.len_tab (TabAt.ofObj lo (N _ hm).1 hd1 hf1) (by rw [tabOf_len]; omega) ?_
  rw [tabOf_len]; exact h _ _
theorem shl_as {prog : Program} {c z : Int} {k : Nat} {t u : Tok} (hk : k ≤ 100) (hc : c.natAbs < 2 ^ 64) (e : c * 2 ^ k = z) (h : ∀ t', Q (.int z t') { s with toks := s.toks + 1 }) : wpAny (model prog w) A (binaryOp .LShift (.int c t) (.int (k : Int) u)) Q E s :=
  lshift_int_small (by omega) (by omega) hc (by rw [Int.toNat_natCast, e]; exact h _)
end
theorem ok_app {a b : Str} (ha : PyData.strOk a = true) (hb : PyData.strOk b = true) : PyData.strOk (a ++ b) = true := by
  unfold PyData.strOk at *
  rw [Str.cps_append, Array.all_append, ha, hb]; rfl
theorem ok_join {sep : Str} (hs : PyData.strOk sep = true) : ∀ {l : List Str}, (∀ x ∈ l, PyData.strOk x = true) → PyData.strOk (PySem.Str.join sep l) = true
  | [], _ => by show PyData.strOk Str.empty = true; decide +kernel
  | [x], h => h x (.head _)
  | x :: y :: r, h => ok_app (ok_app (h x (.head _)) hs) (ok_join hs fun z hz => h z (.tail _ hz))
theorem ok_word : ∀ i, i < 12 → PyData.strOk (word i) = true := by decide +kernel
theorem ok_pretty (n : Nat) : PyData.strOk (prettyS n) = true := by
  unfold prettyS
  split
  · decide +kernel
  · unfold Txt.join
    rw [StrLaws.glued_eq_join]
    refine ok_join (by decide +kernel) fun x hx => ?_
    unfold wordsTo at hx
    obtain ⟨i, hi, rfl⟩ := List.mem_map.mp hx
    exact ok_word i (List.mem_range.mp (List.mem_filter.mp hi).1)
theorem canLay_strs : ∀ {xs : List Str}, (∀ x ∈ xs, PyData.strOk x = true) → PyData.canLayAll0 (xs.map PyData.str) = true
  | [], _ => by simp [PyData.canLayAll0]
  | n :: r, h => by simp only [List.map_cons, PyData.canLayAll0, PyData.canLay0, canLay_strs fun x hx => h x (.tail _ hx), h n (.head _)]; rfl
theorem depth_strs : ∀ xs : List Str, PyData.depthAll (xs.map PyData.str) ≤ 1
  | [] => by simp [PyData.depthAll]
  | n :: r => by have := depth_strs r; simp only [List.map_cons, PyData.depthAll, PyData.depth]; omega
theorem shaped_strs {xs : List Str} (h : ∀ x ∈ xs, PyData.strOk x = true) : shaped (.list (xs.map PyData.str)) = true := by
  have h1 := depth_strs xs
  have h2 : PyData.depth (.list (xs.map PyData.str)) ≤ 64 := by simp only [PyData.depth]; omega
  show (PyData.canLay0 (.list (xs.map PyData.str)) && decide (PyData.depth (.list (xs.map PyData.str)) ≤ 64)) = true
  rw [Bool.and_eq_true]
  exact ⟨by simp only [PyData.canLay0]; exact canLay_strs h, decide_eq_true h2⟩
theorem noMix_strs : ∀ xs : List Str, noMixAll (xs.map PyData.str) (xs.map PyData.str) = true
  | [] => by simp [noMixAll]
  | _ :: r => by simp [noMixAll, noMix, noMix_strs r]
theorem same_strs : ∀ xs : List Str, PySem.Spec.sameAll (xs.map PyData.str) (xs.map PyData.str) = true
  | [] => by simp [PySem.Spec.sameAll]
  | n :: r => by simp [PySem.Spec.sameAll, PyProof.V.same_str, same_strs r]
theorem reads_strs {h : Heap} {a : Addr} {vs : List Value} {xs : List Str} (hl : h.IsList a vs.toArray) (hi : StrsAre vs xs) : Reads h (.ref a) (.list (xs.map PyData.str)) [a] := by
  obtain ⟨o, ho, hc, n, hd⟩ := hl
  exact Reads.list ho hc hd (by simpa using strs_readAll h hi)
theorem ne_strs_same {prog : Program} {w : World} {A : Around} {E Q : Value → Shared → Prop} {s : Shared} {a b : Addr} {vs us : List Value} {xs : List Str} (hl : s.heap.IsList a vs.toArray) (hi : StrsAre vs xs) (hl' : s.heap.IsList b us.toArray) (hi' : StrsAre us xs) (ok : ∀ x ∈ xs, PyData.strOk x = true) (hu : A.units + 64 < cLine)
    (h : Q (.bool false) s) : wpAny (model prog w) A (compareOp .NotEq (.ref a) (.ref b)) Q E s :=
  ne_dataH_same (reads_strs hl hi) (reads_strs hl' hi') (shaped_strs ok) (shaped_strs ok) hu (by simp only [noMix]; exact noMix_strs xs) (by simp only [PySem.Spec.same]; rw [same_strs]; exact h)
theorem count_sixteen {as : List Nat} (h4 : as.length = 4) (hlt : ∀ a ∈ as, a < 4096) {m : Nat} {x : Str} (hx : x ∈ listS m as) :
    PySem.Spec.countIn (.str x) ((listS m as).map PyData.str) * 2 ^ (keptN as).length = 16 ∧ (PySem.Spec.countIn (.str x) ((listS m as).map PyData.str)).natAbs < 2 ^ 64 := by
  rw [countIn_count]
  have h1 := list_count h4 hlt hx
  constructor
  · have := congrArg (fun n : Nat => (n : Int)) h1
    push_cast at this ⊢
    exact this
  · rw [Int.natAbs_natCast]
    exact Nat.lt_of_le_of_lt (List.count_le_length) (by rw [list_len m h4]; decide)
end Mine
end
noncomputable section
open PySem PySem.W PyProof.Rows PySem.Calls PySem.Spec
set_option maxRecDepth 100000
set_option maxHeartbeats 4000000
namespace Mine
theorem lawB (w : World) (mean : ExcName → Option Value) (mg mb : Str → Option Value) {qual : Str} {body : List Stmt} {scope : Scope} {cdv : Value} (hf : IsFn (Mine.hd.heap_39 w.params) 168 qual body scope cdv)
  (as : List Nat) (md : Nat) (has : as.length = 4) (hlt : ∀ a ∈ as, a < 4096) (hmd : md < 65536)
  (dp un : Nat) (fr : Option (List Env)) (gd : Option (List Code)) (s : Shared) (Q : Flow → Shared → Prop) (E : Value → Shared → Prop)
  (hd : dp + 6 < recursionLimit) (hu : un + 120 < cLine) {h₀ : Heap} (X : (Mine.hd.heap_39 w.params).In h₀)
  (T : Top Mine.hd.view_39 (looseW Mine.hd.view_39 [Str.ofString "COMPILER_FLAG_NAMES", Str.ofString "b2a_base64", Str.ofString "b64encode", Str.ofString "_filemode_table"]) mean mg mb h₀)
  {L D S M : Addr} {m : Str → Option Value} {mk zs us : List Value} {km kS : Nat} {oc om od : Obj} {v₀ : Option Value}
  (F : Fr h₀ L s.heap m) (N : News h₀ L s.heap [(L + 1 + 1 + 1 + 1, oc), (M, W.listOf mk.toArray km), (D, LCg.lst zs), (S, W.listOf us.toArray kS), (L + 1 + 1 + 1, om), (L + 1, od)])
  (hmL : m (Str.ofString "listings") = some (.ref D)) (hmS : m (Str.ofString "switches") = some (.ref S))
  (dc : oc.data = .cell v₀) (dm : om.data = .cell (some (.ref M))) (hmk : IntsAre mk maskI) (hzs : StrsAre zs (listS md as)) (hus : IntsAre us (as.map fun (n : Nat) => (n : Int)))
  (off : ∀ p ∈ [(M, W.listOf mk.toArray km), (D, LCg.lst zs), (S, W.listOf us.toArray kS), (L + 1 + 1 + 1, om), (L + 1, od)], p.1 ≠ L + 1 + 1 + 1 + 1)
  (next : ∀ h' tk', Fr h₀ L h' m → News h₀ L h' [(D, LCg.lst zs), (S, W.listOf us.toArray kS), (L + 1, od)] →
    wpAny (model PySem.Challenge.rw_om0021_01.row.prog w) ((⟨none, dp, fr, gd, un⟩ : Around).deeper (envOfC qual scope L 168 cdv)) (execs (body.drop 7) (envOfC qual scope L 168 cdv)) Q E { s with heap := h', toks := tk' }) :
  wpAny (model PySem.Challenge.rw_om0021_01.row.prog w) ((⟨none, dp, fr, gd, un⟩ : Around).deeper (envOfC qual scope L 168 cdv)) (execs (body.drop 6) (envOfC qual scope L 168 cdv)) Q E s := by
  revert X; k_fill; intro X
  k_with_none
  w_top off
  k_with "ne" => with_reducible (first | assumption | exact Ne.symm (by assumption) | exact Nat.ne_of_gt (by assumption) | exact Nat.ne_of_lt (by assumption) | exact Nat.ne_of_gt (Nat.lt_succ_self _) | exact Nat.ne_of_lt (Nat.lt_succ_self _) | exact Nat.ne_of_gt (Nat.lt_succ_of_lt (Nat.lt_succ_self _)) | exact Nat.ne_of_lt (Nat.lt_succ_of_lt (Nat.lt_succ_self _)) | exact Nat.ne_of_gt (Nat.lt_succ_of_lt (Nat.lt_succ_of_lt (Nat.lt_succ_self _))) | exact Nat.ne_of_lt (Nat.lt_succ_of_lt (Nat.lt_succ_of_lt (Nat.lt_succ_self _))) | exact Nat.ne_of_gt (Nat.lt_succ_of_lt (Nat.lt_succ_of_lt (Nat.lt_succ_of_lt (Nat.lt_succ_self _)))) | exact Nat.ne_of_lt (Nat.lt_succ_of_lt (Nat.lt_succ_of_lt (Nat.lt_succ_of_lt (Nat.lt_succ_self _)))) | exact Nat.ne_of_gt (And.left (by assumption)) | exact Nat.ne_of_lt (And.left (by assumption)) | exact (And.left (by assumption)) | exact Ne.symm (And.left (by assumption)) | exact Nat.ne_of_gt (And.left (And.right (by assumption))) | exact Nat.ne_of_lt (And.left (And.right (by assumption))) | exact (And.left (And.right (by assumption))) | exact Ne.symm (And.left (And.right (by assumption))) | exact Nat.ne_of_gt (And.right (by assumption)) | exact Nat.ne_of_lt (And.right (by assumption)) | exact (And.right (by assumption)) | exact Ne.symm (And.right (by assumption)) | exact Nat.ne_of_gt (And.left (And.right (And.right (by assumption)))) | exact Nat.ne_of_lt (And.left (And.right (And.right (by assumption)))) | exact (And.left (And.right (And.right (by assumption)))) | exact Ne.symm (And.left (And.right (And.right (by assumption)))) | exact Nat.ne_of_gt (And.right (And.right (by assumption))) | exact Nat.ne_of_lt (And.right (And.right (by assumption))) | exact (And.right (And.right (by assumption))) | exact Ne.symm (And.right (And.right (by assumption))) | exact Nat.ne_of_gt (And.left (And.right (And.right (And.right (by assumption))))) | exact Nat.ne_of_lt (And.left (And.right (And.right (And.right (by assumption))))) | exact (And.left (And.right (And.right (And.right (by assumption))))) | exact Ne.symm (And.left (And.right (And.right (And.right (by assumption))))) | exact Nat.ne_of_gt (And.right (And.right (And.right (by assumption)))) | exact Nat.ne_of_lt (And.right (And.right (And.right (by assumption)))) | exact (And.right (And.right (And.right (by assumption)))) | exact Ne.symm (And.right (And.right (And.right (by assumption)))) | exact Nat.ne_of_gt (And.left (And.right (And.right (And.right (And.right (by assumption)))))) | exact Nat.ne_of_lt (And.left (And.right (And.right (And.right (And.right (by assumption)))))) | exact (And.left (And.right (And.right (And.right (And.right (by assumption)))))) | exact Ne.symm (And.left (And.right (And.right (And.right (And.right (by assumption)))))) | exact Nat.ne_of_gt (And.right (And.right (And.right (And.right (by assumption))))) | exact Nat.ne_of_lt (And.right (And.right (And.right (And.right (by assumption))))) | exact (And.right (And.right (And.right (And.right (by assumption))))) | exact Ne.symm (And.right (And.right (And.right (And.right (by assumption))))) | exact Nat.ne_of_gt (And.left (And.right (And.right (And.right (And.right (And.right (by assumption))))))) | exact Nat.ne_of_lt (And.left (And.right (And.right (And.right (And.right (And.right (by assumption))))))) | exact (And.left (And.right (And.right (And.right (And.right (And.right (by assumption))))))) | exact Ne.symm (And.left (And.right (And.right (And.right (And.right (And.right (by assumption))))))) | exact Nat.ne_of_gt (And.right (And.right (And.right (And.right (And.right (by assumption)))))) | exact Nat.ne_of_lt (And.right (And.right (And.right (And.right (And.right (by assumption)))))) | exact (And.right (And.right (And.right (And.right (And.right (by assumption)))))) | exact Ne.symm (And.right (And.right (And.right (And.right (And.right (by assumption)))))) | exact Nat.ne_of_gt (And.left (And.right (And.right (And.right (And.right (And.right (And.right (by assumption)))))))) | exact Nat.ne_of_lt (And.left (And.right (And.right (And.right (And.right (And.right (And.right (by assumption)))))))) | exact (And.left (And.right (And.right (And.right (And.right (And.right (And.right (by assumption)))))))) | exact Ne.symm (And.left (And.right (And.right (And.right (And.right (And.right (And.right (by assumption)))))))) | exact Nat.ne_of_gt (And.right (And.right (And.right (And.right (And.right (And.right (by assumption))))))) | exact Nat.ne_of_lt (And.right (And.right (And.right (And.right (And.right (And.right (by assumption))))))) | exact (And.right (And.right (And.right (And.right (And.right (And.right (by assumption))))))) | exact Ne.symm (And.right (And.right (And.right (And.right (And.right (And.right (by assumption))))))) | exact Nat.ne_of_gt (And.left (And.right (And.right (And.right (And.right (And.right (And.right (And.right (by assumption))))))))) | exact Nat.ne_of_lt (And.left (And.right (And.right (And.right (And.right (And.right (And.right (And.right (by assumption))))))))) | exact (And.left (And.right (And.right (And.right (And.right (And.right (And.right (And.right (by assumption))))))))) | exact Ne.symm (And.left (And.right (And.right (And.right (And.right (And.right (And.right (And.right (by assumption))))))))) | exact Nat.ne_of_gt (And.right (And.right (And.right (And.right (And.right (And.right (And.right (by assumption)))))))) | exact Nat.ne_of_lt (And.right (And.right (And.right (And.right (And.right (And.right (And.right (by assumption)))))))) | exact (And.right (And.right (And.right (And.right (And.right (And.right (And.right (by assumption)))))))) | exact Ne.symm (And.right (And.right (And.right (And.right (And.right (And.right (And.right (by assumption)))))))))
  k_with "to for" => repeat ((fail_if_success (with_reducible show wpAny _ _ (exec (Stmt.For _ _ _ _ _) _) _ _ _)); first | (k_unfold; (try dsimp only)) | walk1 | (dsimp only; walk1))
  k_with "to iter" => repeat ((fail_if_success (with_reducible show wpAny _ _ (pyIter _) _ _ _)); first | (k_unfold; (try dsimp only)) | walk1 | (dsimp only; walk1))
  k_with "to set" => repeat ((fail_if_success (with_reducible show wpAny _ _ (eval (Expr.SetComp _ _ _ _) _) _ _ _)); first | (k_unfold; (try dsimp only)) | walk1 | (dsimp only; walk1))
  k_with "to ex" => repeat ((fail_if_success (with_reducible show Exists _)); first | (k_unfold; (try dsimp only)) | walk1 | (dsimp only; walk1))
  k_with "binaryOp BitAnd int int" => (k_dflt (refine and_as (bitAnd_nat _ _) ?_); intro _)
  k_with "subscriptTail" => (k_dflt (refine mask_item (by assumption) (by k_mem) hmk hc ?_); intro _)
  k_with "to call" => repeat ((fail_if_success (with_reducible show wpAny _ _ (call (Value.ref _) _) _ _ _)); first | (k_unfold; (try dsimp only)) | walk1 | (dsimp only; walk1))
  have hf' : IsFn (Mine.hd.heap_39 w.params) 168 _ _ _ _ := ⟨_, _, _, _, _, _, _, _, _, _, _, by k_is⟩
  obtain ⟨rfl, rfl, rfl, rfl⟩ := hf.same hf'
  clear hf hf'
  dsimp only [List.drop]
  show wpAny _ _ _ _ _ _
  (try k_fold)
  walk_at "to for"
  refine wpAny_For ?_
  (try k_fold)
  walk_at "to iter"
  rename IsRange _ _ _ _ _ _ _ _ => hr
  rename Fr _ _ _ _ => F1
  rename News _ _ _ _ => N1
  k_unfold
  refine colFor (n := 10) (by rfl) hr (by decide) (by decide) (by rfl) (by rfl) (by rfl) F1 N1 off dc ?turn ?done
  case turn =>
    intro c t I oI o' h tk hc dc' F2 N2
    clear F1 N1 hr
    rw [map2 hmL hmS] at F2
    show wpAny _ _ _ _ _ _
    (try k_fold)
    walk_at "to set"
    refine' setComp F2 (by with_unfolding_all rfl) (by decide) (by rfl) (by decide) (by rfl) (addF as c) ?_ (by intro _; rfl)
    walk_at "to ex"
    have hul : us.length = 4 := by rw [hus.length, List.length_map, has]
    refine ⟨S, us.toArray, _, rfl, rfl, F2, N2, .inr ⟨_, .tail _ (.tail _ (.tail _ (.tail _ (.head _)))), rfl, _, rfl⟩, (by rw [List.size_toArray, hul]; decide), ?turn2, ?fin2⟩
    case turn2 =>
      intro i v I2 oI2 C oC D2 oD2 m₂ h2 tk2 E2 hi hv hC hx F4 N4
      clear F2 N2
      rw [List.size_toArray, hul] at hi
      have hi' : i < as.length := by rw [has]; exact hi
      obtain ⟨tv, htv⟩ := hus.get i ((as[i] : Nat) : Int) (by simp [hi'])
      have hv' : us[i]? = some v := by simpa using hv
      rw [htv] at hv'
      obtain rfl := Option.some.inj hv'
      have eF : addF as c i = if as[i] &&& maskC c = 0 then none else some ((as[i] &&& maskC c : Nat) : Int) := by
        unfold addF; rw [List.getD_eq_getElem?_getD, List.getElem?_eq_getElem hi']; rfl
      generalize as[i] = ai at hx eF
      show wpAny _ _ _ _ _ _
      (try k_fold)
      k_steps
      · rename _ ≠ (0 : Int) => hb
        have hb' := nz hb
        rw [if_neg hb'] at eF
        exact ⟨_, _, rfl, F4, N4, _, _, eF, rfl⟩
      · rename _ = (0 : Int) => hb
        have hb' := z0 hb
        rw [if_pos hb'] at eF
        exact ⟨_, _, rfl, F4, N4, eF⟩
    case fin2 =>
      intro P oP h2 tk2 F4 N4 offP hso
      clear F2 N2
      rw [List.size_toArray, hul, ← has, parts_len] at hso
      show wpAny _ _ _ _ _ _
      (try k_fold)
      walk_at "to call"
      refine even_call F4 N4 X T has hlt hmd hc (.tail _ (.tail _ (.tail _ (.tail _ (.head _))))) hzs (.head _) hso (by first | exact roomD (by assumption) (by rfl) | exact roomU (by assumption) (by rfl)) (by first | exact roomD (by assumption) (by rfl) | exact roomU (by assumption) (by rfl)) ?_
      intro h3 tk3 F5 N5
      clear F4 N4
      k_steps
      rw [← map2 hmL hmS] at F5
      exact ⟨_, _, o', rfl, F5, fun p hp => N5 p (.tail _ hp), _, dc'⟩
  case done =>
    intro o h tk F2 N2
    clear F1 N1 hr
    refine wpAny_execs_nil ?_
    dsimp only
    exact next _ _ F2 (news_sub N2 (by intro p hp; simp only [List.mem_cons, List.not_mem_nil, or_false] at hp ⊢; rcases hp with h | h | h <;> simp [h]))
end Mine
end
noncomputable section
open PySem PySem.W PyProof.Rows PySem.Calls PySem.Spec
set_option maxRecDepth 100000
set_option maxHeartbeats 4000000
namespace Mine
noncomputable def JLs (D S Kd : Addr) (tot : Int) (tt : Tok) (_i : Nat) (m : Str → Option Value) (nx : List (Addr × Obj)) : Prop :=
  nx = [] ∧ m (Str.ofString "listings") = some (.ref D) ∧ m (Str.ofString "switches") = some (.ref S) ∧ m (Str.ofString "total") = some (.int tot tt) ∧ m (Str.ofString "kept") = some (.ref Kd)
theorem lawD (w : World) (mean : ExcName → Option Value) (mg mb : Str → Option Value) {qual : Str} {body : List Stmt} {scope : Scope} {cdv : Value} (hf : IsFn (Mine.hd.heap_39 w.params) 168 qual body scope cdv)
  (as : List Nat) (md : Nat) (has : as.length = 4) (hlt : ∀ a ∈ as, a < 4096)
  (dp un : Nat) (fr : Option (List Env)) (gd : Option (List Code)) (s : Shared) (Q : Flow → Shared → Prop) (E : Value → Shared → Prop)
  (hd : dp + 6 < recursionLimit) (hu : un + 120 < cLine) {h₀ : Heap} (X : (Mine.hd.heap_39 w.params).In h₀)
  (T : Top Mine.hd.view_39 (looseW Mine.hd.view_39 [Str.ofString "COMPILER_FLAG_NAMES", Str.ofString "b2a_base64", Str.ofString "b64encode", Str.ofString "_filemode_table"]) mean mg mb h₀)
  {L D S : Addr} {m : Str → Option Value} {zs us : List Value} {kS : Nat} {od : Obj} {tot : Int} {tt : Tok}
  (F : Fr h₀ L s.heap m) (N : News h₀ L s.heap [(D, LCg.lst zs), (S, W.listOf us.toArray kS), (L + 1, od)])
  (hmL : m (Str.ofString "listings") = some (.ref D)) (hmS : m (Str.ofString "switches") = some (.ref S)) (hmT : m (Str.ofString "total") = some (.int tot tt))
  (hzs : StrsAre zs (listS md as)) (hus : IntsAre us (as.map fun (n : Nat) => (n : Int)))
  (next : ∀ Kd oK m' h' tk', JLs D S Kd tot tt 16 m' [] → KeptAt w oK (keptN as) → (Kd == sysModules) = false → Fr h₀ L h' m' → News h₀ L h' [(Kd, oK), (D, LCg.lst zs), (S, W.listOf us.toArray kS), (L + 1, od)] →
    wpAny (model PySem.Challenge.rw_om0021_01.row.prog w) ((⟨none, dp, fr, gd, un⟩ : Around).deeper (envOfC qual scope L 168 cdv)) (execs (body.drop 9) (envOfC qual scope L 168 cdv)) Q E { s with heap := h', toks := tk' }) :
  wpAny (model PySem.Challenge.rw_om0021_01.row.prog w) ((⟨none, dp, fr, gd, un⟩ : Around).deeper (envOfC qual scope L 168 cdv)) (execs (body.drop 7) (envOfC qual scope L 168 cdv)) Q E s := by
  revert X; k_fill; intro X
  k_with_none
  w_top off
  k_with "ne" => with_reducible (first | assumption | exact Ne.symm (by assumption) | exact Nat.ne_of_gt (by assumption) | exact Nat.ne_of_lt (by assumption) | exact Nat.ne_of_gt (Nat.lt_succ_self _) | exact Nat.ne_of_lt (Nat.lt_succ_self _) | exact Nat.ne_of_gt (Nat.lt_succ_of_lt (Nat.lt_succ_self _)) | exact Nat.ne_of_lt (Nat.lt_succ_of_lt (Nat.lt_succ_self _)) | exact Nat.ne_of_gt (Nat.lt_succ_of_lt (Nat.lt_succ_of_lt (Nat.lt_succ_self _))) | exact Nat.ne_of_lt (Nat.lt_succ_of_lt (Nat.lt_succ_of_lt (Nat.lt_succ_self _))) | exact Nat.ne_of_gt (Nat.lt_succ_of_lt (Nat.lt_succ_of_lt (Nat.lt_succ_of_lt (Nat.lt_succ_self _)))) | exact Nat.ne_of_lt (Nat.lt_succ_of_lt (Nat.lt_succ_of_lt (Nat.lt_succ_of_lt (Nat.lt_succ_self _)))) | exact Nat.ne_of_gt (And.left (by assumption)) | exact Nat.ne_of_lt (And.left (by assumption)) | exact (And.left (by assumption)) | exact Ne.symm (And.left (by assumption)) | exact Nat.ne_of_gt (And.left (And.right (by assumption))) | exact Nat.ne_of_lt (And.left (And.right (by assumption))) | exact (And.left (And.right (by assumption))) | exact Ne.symm (And.left (And.right (by assumption))) | exact Nat.ne_of_gt (And.right (by assumption)) | exact Nat.ne_of_lt (And.right (by assumption)) | exact (And.right (by assumption)) | exact Ne.symm (And.right (by assumption)) | exact Nat.ne_of_gt (And.left (And.right (And.right (by assumption)))) | exact Nat.ne_of_lt (And.left (And.right (And.right (by assumption)))) | exact (And.left (And.right (And.right (by assumption)))) | exact Ne.symm (And.left (And.right (And.right (by assumption)))) | exact Nat.ne_of_gt (And.right (And.right (by assumption))) | exact Nat.ne_of_lt (And.right (And.right (by assumption))) | exact (And.right (And.right (by assumption))) | exact Ne.symm (And.right (And.right (by assumption))) | exact Nat.ne_of_gt (And.left (And.right (And.right (And.right (by assumption))))) | exact Nat.ne_of_lt (And.left (And.right (And.right (And.right (by assumption))))) | exact (And.left (And.right (And.right (And.right (by assumption))))) | exact Ne.symm (And.left (And.right (And.right (And.right (by assumption))))) | exact Nat.ne_of_gt (And.right (And.right (And.right (by assumption)))) | exact Nat.ne_of_lt (And.right (And.right (And.right (by assumption)))) | exact (And.right (And.right (And.right (by assumption)))) | exact Ne.symm (And.right (And.right (And.right (by assumption)))) | exact Nat.ne_of_gt (And.left (And.right (And.right (And.right (And.right (by assumption)))))) | exact Nat.ne_of_lt (And.left (And.right (And.right (And.right (And.right (by assumption)))))) | exact (And.left (And.right (And.right (And.right (And.right (by assumption)))))) | exact Ne.symm (And.left (And.right (And.right (And.right (And.right (by assumption)))))) | exact Nat.ne_of_gt (And.right (And.right (And.right (And.right (by assumption))))) | exact Nat.ne_of_lt (And.right (And.right (And.right (And.right (by assumption))))) | exact (And.right (And.right (And.right (And.right (by assumption))))) | exact Ne.symm (And.right (And.right (And.right (And.right (by assumption))))) | exact Nat.ne_of_gt (And.left (And.right (And.right (And.right (And.right (And.right (by assumption))))))) | exact Nat.ne_of_lt (And.left (And.right (And.right (And.right (And.right (And.right (by assumption))))))) | exact (And.left (And.right (And.right (And.right (And.right (And.right (by assumption))))))) | exact Ne.symm (And.left (And.right (And.right (And.right (And.right (And.right (by assumption))))))) | exact Nat.ne_of_gt (And.right (And.right (And.right (And.right (And.right (by assumption)))))) | exact Nat.ne_of_lt (And.right (And.right (And.right (And.right (And.right (by assumption)))))) | exact (And.right (And.right (And.right (And.right (And.right (by assumption)))))) | exact Ne.symm (And.right (And.right (And.right (And.right (And.right (by assumption)))))) | exact Nat.ne_of_gt (And.left (And.right (And.right (And.right (And.right (And.right (And.right (by assumption)))))))) | exact Nat.ne_of_lt (And.left (And.right (And.right (And.right (And.right (And.right (And.right (by assumption)))))))) | exact (And.left (And.right (And.right (And.right (And.right (And.right (And.right (by assumption)))))))) | exact Ne.symm (And.left (And.right (And.right (And.right (And.right (And.right (And.right (by assumption)))))))) | exact Nat.ne_of_gt (And.right (And.right (And.right (And.right (And.right (And.right (by assumption))))))) | exact Nat.ne_of_lt (And.right (And.right (And.right (And.right (And.right (And.right (by assumption))))))) | exact (And.right (And.right (And.right (And.right (And.right (And.right (by assumption))))))) | exact Ne.symm (And.right (And.right (And.right (And.right (And.right (And.right (by assumption))))))) | exact Nat.ne_of_gt (And.left (And.right (And.right (And.right (And.right (And.right (And.right (And.right (by assumption))))))))) | exact Nat.ne_of_lt (And.left (And.right (And.right (And.right (And.right (And.right (And.right (And.right (by assumption))))))))) | exact (And.left (And.right (And.right (And.right (And.right (And.right (And.right (And.right (by assumption))))))))) | exact Ne.symm (And.left (And.right (And.right (And.right (And.right (And.right (And.right (And.right (by assumption))))))))) | exact Nat.ne_of_gt (And.right (And.right (And.right (And.right (And.right (And.right (And.right (by assumption)))))))) | exact Nat.ne_of_lt (And.right (And.right (And.right (And.right (And.right (And.right (And.right (by assumption)))))))) | exact (And.right (And.right (And.right (And.right (And.right (And.right (And.right (by assumption)))))))) | exact Ne.symm (And.right (And.right (And.right (And.right (And.right (And.right (And.right (by assumption)))))))))
  k_with "to for" => repeat ((fail_if_success (with_reducible show wpAny _ _ (exec (Stmt.For _ _ _ _ _) _) _ _ _)); first | (k_unfold; (try dsimp only)) | walk1 | (dsimp only; walk1))
  k_with "to iter" => repeat ((fail_if_success (with_reducible show wpAny _ _ (pyIter _) _ _ _)); first | (k_unfold; (try dsimp only)) | walk1 | (dsimp only; walk1))
  k_with "to call" => repeat ((fail_if_success (with_reducible show wpAny _ _ (call (Value.ref _) _) _ _ _)); first | (k_unfold; (try dsimp only)) | walk1 | (dsimp only; walk1))
  have hf' : IsFn (Mine.hd.heap_39 w.params) 168 _ _ _ _ := ⟨_, _, _, _, _, _, _, _, _, _, _, by k_is⟩
  obtain ⟨rfl, rfl, rfl, rfl⟩ := hf.same hf'
  clear hf hf'
  dsimp only [List.drop]
  rw [map3 hmL hmS hmT] at F
  show wpAny _ _ _ _ _ _
  (try k_fold)
  walk_at "to call"
  refine kept_make F N X T (.tail _ (.head _)) hus has hlt (by first | exact roomD (by assumption) (by rfl) | exact roomU (by assumption) (by rfl)) (by first | exact roomD (by assumption) (by rfl) | exact roomU (by assumption) (by rfl)) ?_
  intro Kd oK h1 tk1 F1 N1 off1 hK lo
  (try clear F); (try clear N)
  walk_at "to for"
  refine wpAny_For ?_
  (try k_fold)
  walk_at "to iter"
  rename Fr _ _ _ _ => F2
  rename News _ _ _ _ => N1
  (try k_unfold)
  have hzl : zs.length = 16 := by rw [hzs.length, list_len md has]
  have hk4 : (keptN as).length ≤ 4 := has ▸ kept_len as
  refine listFor (news := []) (cs := [(Kd, oK), (D, LCg.lst zs), (S, W.listOf us.toArray kS), (L + 1, od)]) (JLs D S Kd tot tt) (by rfl) (isList_news N1 (.tail _ (.head _))) (N1 _ (.tail _ (.head _))).2.1 (fun p hp => by cases hp) (by rfl) (by rfl) F2 N1 ?h0 ?turn ?done
  case h0 => exact ⟨rfl, rfl, rfl, rfl, rfl⟩
  case turn =>
    rintro i v m₁ news₁ h tk own hi' hv - ho ⟨rfl, q1, q2, q3, q4⟩ F3 N3
    obtain ⟨x, hx, tv, rfl⟩ : ∃ x, x ∈ listS md as ∧ ∃ tv, v = .str x tv := by
      have hi2 : i < (listS md as).length := by rw [← hzs.length]; exact hi'
      obtain ⟨t, ht⟩ := hzs.get i (listS md as)[i] (by simp [hi2])
      rw [hv] at ht
      exact ⟨_, List.getElem_mem hi2, t, Option.some.inj ht⟩
    have hx10 := list_ten x hx
    obtain ⟨hc1, hc2⟩ := count_sixteen has hlt hx
    rw [map4 q1 q2 q3 q4] at F3
    simp only [List.cons_append, List.nil_append] at N3
    clear F2 N1
    show wpAny _ _ _ _ _ _
    (try k_fold)
    k_with "call builtin:len" => ((with_reducible show wpAny _ _ (call _ [Value.str _ _]) _ _ _); k_dflt (refine len_ten (by assumption) ?_); intro _ _)
    k_with "call builtin:len" => ((with_reducible show wpAny _ _ (call _ [Value.ref _]) _ _ _); k_dflt (refine len_kept (by assumption) (by k_mem) hK lo hk4 ?_); intro _ _)
    k_with "binaryOp LShift int int" => (k_dflt (refine shl_as (by omega) hc2 hc1 ?_); intro _)
    k_steps
    rename Fr _ _ _ _ => F'
    rename News _ _ _ _ => N'
    exact inv0 F' N' ⟨rfl, rfl, rfl, rfl, rfl⟩
  case done =>
    rintro m₁ news₁ h tk ⟨rfl, q1, q2, q3, q4⟩ F3 N3
    clear F2 N1
    refine wpAny_execs_nil ?_
    dsimp only
    exact next Kd oK m₁ h tk ⟨rfl, q1, q2, q3, q4⟩ hK lo F3 N3
end Mine
end
noncomputable section
open PySem PySem.W PyProof.Rows PySem.Calls PySem.Spec
set_option maxRecDepth 100000
set_option maxHeartbeats 4000000
namespace Mine
noncomputable def JGs (D S Kd : Addr) (tot : Int) (tt : Tok) (_i : Nat) (m : Str → Option Value) (nx : List (Addr × Obj)) : Prop :=
  nx = [] ∧ m (Str.ofString "listings") = some (.ref D) ∧ m (Str.ofString "switches") = some (.ref S) ∧ m (Str.ofString "total") = some (.int tot tt) ∧ m (Str.ofString "kept") = some (.ref Kd) ∧ ∃ (g : Nat) (t : Tok), g < 4096 ∧ m (Str.ofString "goal") = some (.int (g : Int) t)
theorem goal_nat (x : Int) : ∃ g : Nat, g < 4096 ∧ x.fmod 4096 = (g : Int) := by
  rw [Int.fmod_eq_emod_of_nonneg _ (by decide)]
  exact ⟨(x % 4096).toNat, (Int.toNat_lt (Int.emod_nonneg _ (by decide))).mpr (Int.emod_lt_of_pos _ (by decide)), mod_toNat _ (by decide)⟩
theorem goal_step {g a : Nat} {z : Int} (hg : g < 4096) (ha : a < 4096) (e : z = (a : Int)) {t : Tok} {o : Option Value} (h : o = some (.int (Builtin.bitXor (g : Int) z) t)) : ∃ (g : Nat) (t : Tok), g < 4096 ∧ o = some (.int (g : Int) t) :=
  ⟨g ^^^ a, t, Nat.xor_lt_two_pow (n := 12) hg ha, by rw [h, e, bitXor_nat]⟩
theorem lawE (w : World) (mean : ExcName → Option Value) (mg mb : Str → Option Value) {qual : Str} {body : List Stmt} {scope : Scope} {cdv : Value} (hf : IsFn (Mine.hd.heap_39 w.params) 168 qual body scope cdv)
  (as : List Nat) (has : as.length = 4) (hlt : ∀ a ∈ as, a < 4096)
  (dp un : Nat) (fr : Option (List Env)) (gd : Option (List Code)) (s : Shared) (Q : Flow → Shared → Prop) (E : Value → Shared → Prop)
  (hd : dp + 6 < recursionLimit) (hu : un + 120 < cLine) {h₀ : Heap} (X : (Mine.hd.heap_39 w.params).In h₀)
  (T : Top Mine.hd.view_39 (looseW Mine.hd.view_39 [Str.ofString "COMPILER_FLAG_NAMES", Str.ofString "b2a_base64", Str.ofString "b64encode", Str.ofString "_filemode_table"]) mean mg mb h₀)
  {L D S Kd : Addr} {m : Str → Option Value} {us : List Value} {kS : Nat} {tot : Int} {tt : Tok} {p1 p2 p4 : Addr × Obj}
  (F : Fr h₀ L s.heap m) (N : News h₀ L s.heap [p1, p2, (S, W.listOf us.toArray kS), p4]) (hJ : JLs D S Kd tot tt 16 m [])
  (hus : IntsAre us (as.map fun (n : Nat) => (n : Int)))
  (next : ∀ m' h' tk', JGs D S Kd tot tt 4 m' [] → Fr h₀ L h' m' → News h₀ L h' [p1, p2, (S, W.listOf us.toArray kS), p4] →
    wpAny (model PySem.Challenge.rw_om0021_01.row.prog w) ((⟨none, dp, fr, gd, un⟩ : Around).deeper (envOfC qual scope L 168 cdv)) (execs (body.drop 11) (envOfC qual scope L 168 cdv)) Q E { s with heap := h', toks := tk' }) :
  wpAny (model PySem.Challenge.rw_om0021_01.row.prog w) ((⟨none, dp, fr, gd, un⟩ : Around).deeper (envOfC qual scope L 168 cdv)) (execs (body.drop 9) (envOfC qual scope L 168 cdv)) Q E s := by
  revert X; k_fill; intro X
  k_with_none
  w_top off
  k_with "ne" => with_reducible (first | assumption | exact Ne.symm (by assumption) | exact Nat.ne_of_gt (by assumption) | exact Nat.ne_of_lt (by assumption) | exact Nat.ne_of_gt (Nat.lt_succ_self _) | exact Nat.ne_of_lt (Nat.lt_succ_self _) | exact Nat.ne_of_gt (Nat.lt_succ_of_lt (Nat.lt_succ_self _)) | exact Nat.ne_of_lt (Nat.lt_succ_of_lt (Nat.lt_succ_self _)) | exact Nat.ne_of_gt (Nat.lt_succ_of_lt (Nat.lt_succ_of_lt (Nat.lt_succ_self _))) | exact Nat.ne_of_lt (Nat.lt_succ_of_lt (Nat.lt_succ_of_lt (Nat.lt_succ_self _))) | exact Nat.ne_of_gt (Nat.lt_succ_of_lt (Nat.lt_succ_of_lt (Nat.lt_succ_of_lt (Nat.lt_succ_self _)))) | exact Nat.ne_of_lt (Nat.lt_succ_of_lt (Nat.lt_succ_of_lt (Nat.lt_succ_of_lt (Nat.lt_succ_self _)))) | exact Nat.ne_of_gt (And.left (by assumption)) | exact Nat.ne_of_lt (And.left (by assumption)) | exact (And.left (by assumption)) | exact Ne.symm (And.left (by assumption)) | exact Nat.ne_of_gt (And.left (And.right (by assumption))) | exact Nat.ne_of_lt (And.left (And.right (by assumption))) | exact (And.left (And.right (by assumption))) | exact Ne.symm (And.left (And.right (by assumption))) | exact Nat.ne_of_gt (And.right (by assumption)) | exact Nat.ne_of_lt (And.right (by assumption)) | exact (And.right (by assumption)) | exact Ne.symm (And.right (by assumption)) | exact Nat.ne_of_gt (And.left (And.right (And.right (by assumption)))) | exact Nat.ne_of_lt (And.left (And.right (And.right (by assumption)))) | exact (And.left (And.right (And.right (by assumption)))) | exact Ne.symm (And.left (And.right (And.right (by assumption)))) | exact Nat.ne_of_gt (And.right (And.right (by assumption))) | exact Nat.ne_of_lt (And.right (And.right (by assumption))) | exact (And.right (And.right (by assumption))) | exact Ne.symm (And.right (And.right (by assumption))) | exact Nat.ne_of_gt (And.left (And.right (And.right (And.right (by assumption))))) | exact Nat.ne_of_lt (And.left (And.right (And.right (And.right (by assumption))))) | exact (And.left (And.right (And.right (And.right (by assumption))))) | exact Ne.symm (And.left (And.right (And.right (And.right (by assumption))))) | exact Nat.ne_of_gt (And.right (And.right (And.right (by assumption)))) | exact Nat.ne_of_lt (And.right (And.right (And.right (by assumption)))) | exact (And.right (And.right (And.right (by assumption)))) | exact Ne.symm (And.right (And.right (And.right (by assumption)))) | exact Nat.ne_of_gt (And.left (And.right (And.right (And.right (And.right (by assumption)))))) | exact Nat.ne_of_lt (And.left (And.right (And.right (And.right (And.right (by assumption)))))) | exact (And.left (And.right (And.right (And.right (And.right (by assumption)))))) | exact Ne.symm (And.left (And.right (And.right (And.right (And.right (by assumption)))))) | exact Nat.ne_of_gt (And.right (And.right (And.right (And.right (by assumption))))) | exact Nat.ne_of_lt (And.right (And.right (And.right (And.right (by assumption))))) | exact (And.right (And.right (And.right (And.right (by assumption))))) | exact Ne.symm (And.right (And.right (And.right (And.right (by assumption))))) | exact Nat.ne_of_gt (And.left (And.right (And.right (And.right (And.right (And.right (by assumption))))))) | exact Nat.ne_of_lt (And.left (And.right (And.right (And.right (And.right (And.right (by assumption))))))) | exact (And.left (And.right (And.right (And.right (And.right (And.right (by assumption))))))) | exact Ne.symm (And.left (And.right (And.right (And.right (And.right (And.right (by assumption))))))) | exact Nat.ne_of_gt (And.right (And.right (And.right (And.right (And.right (by assumption)))))) | exact Nat.ne_of_lt (And.right (And.right (And.right (And.right (And.right (by assumption)))))) | exact (And.right (And.right (And.right (And.right (And.right (by assumption)))))) | exact Ne.symm (And.right (And.right (And.right (And.right (And.right (by assumption)))))) | exact Nat.ne_of_gt (And.left (And.right (And.right (And.right (And.right (And.right (And.right (by assumption)))))))) | exact Nat.ne_of_lt (And.left (And.right (And.right (And.right (And.right (And.right (And.right (by assumption)))))))) | exact (And.left (And.right (And.right (And.right (And.right (And.right (And.right (by assumption)))))))) | exact Ne.symm (And.left (And.right (And.right (And.right (And.right (And.right (And.right (by assumption)))))))) | exact Nat.ne_of_gt (And.right (And.right (And.right (And.right (And.right (And.right (by assumption))))))) | exact Nat.ne_of_lt (And.right (And.right (And.right (And.right (And.right (And.right (by assumption))))))) | exact (And.right (And.right (And.right (And.right (And.right (And.right (by assumption))))))) | exact Ne.symm (And.right (And.right (And.right (And.right (And.right (And.right (by assumption))))))) | exact Nat.ne_of_gt (And.left (And.right (And.right (And.right (And.right (And.right (And.right (And.right (by assumption))))))))) | exact Nat.ne_of_lt (And.left (And.right (And.right (And.right (And.right (And.right (And.right (And.right (by assumption))))))))) | exact (And.left (And.right (And.right (And.right (And.right (And.right (And.right (And.right (by assumption))))))))) | exact Ne.symm (And.left (And.right (And.right (And.right (And.right (And.right (And.right (And.right (by assumption))))))))) | exact Nat.ne_of_gt (And.right (And.right (And.right (And.right (And.right (And.right (And.right (by assumption)))))))) | exact Nat.ne_of_lt (And.right (And.right (And.right (And.right (And.right (And.right (And.right (by assumption)))))))) | exact (And.right (And.right (And.right (And.right (And.right (And.right (And.right (by assumption)))))))) | exact Ne.symm (And.right (And.right (And.right (And.right (And.right (And.right (And.right (by assumption)))))))))
  k_with "to for" => repeat ((fail_if_success (with_reducible show wpAny _ _ (exec (Stmt.For _ _ _ _ _) _) _ _ _)); first | (k_unfold; (try dsimp only)) | walk1 | (dsimp only; walk1))
  k_with "to iter" => repeat ((fail_if_success (with_reducible show wpAny _ _ (pyIter _) _ _ _)); first | (k_unfold; (try dsimp only)) | walk1 | (dsimp only; walk1))
  have hf' : IsFn (Mine.hd.heap_39 w.params) 168 _ _ _ _ := ⟨_, _, _, _, _, _, _, _, _, _, _, by k_is⟩
  obtain ⟨rfl, rfl, rfl, rfl⟩ := hf.same hf'
  clear hf hf'
  obtain ⟨-, q1, q2, q3, q4⟩ := hJ
  dsimp only [List.drop]
  rw [map4 q1 q2 q3 q4] at F
  show wpAny _ _ _ _ _ _
  (try k_fold)
  walk_at "to for"
  refine wpAny_For ?_
  (try k_fold)
  walk_at "to iter"
  rename IsRange _ _ _ _ _ _ _ _ => hr
  rename Fr _ _ _ _ => F2
  rename News _ _ _ _ => N2
  (try k_unfold)
  obtain ⟨g0, hg0, eg0⟩ := goal_nat (1 * 2 ^ ((tot.fdiv 16).fmod 13).toNat)
  refine rangeFor (n := 4) (news := []) (cs := [p1, p2, (S, W.listOf us.toArray kS), p4]) (JGs D S Kd tot tt) (by rfl) hr (by decide) (by decide) (by rfl) (by rfl) F2 N2 ?h0 ?turn ?done
  case h0 => exact ⟨rfl, rfl, rfl, rfl, rfl, g0, _, hg0, by rw [← eg0]; rfl⟩
  case turn =>
    rintro i t m₁ news₁ h tk own hi - ho ⟨rfl, q1, q2, q3, q4, g, tg, hg, q5⟩ F3 N3
    rw [map5 q1 q2 q3 q4 q5] at F3
    simp only [List.cons_append, List.nil_append] at N3
    clear F2 N2 hr eg0
    have hai : as.getD i 0 < 4096 := getD_lt' (by decide) hlt i
    show wpAny _ _ _ _ _ _
    (try k_fold)
    k_steps
    · rename Fr _ _ _ _ => F'
      rename News _ _ _ _ => N'
      exact inv0 F' N' ⟨rfl, rfl, rfl, rfl, rfl, goal_step hg hai (by rw [Int.toNat_natCast, getD_cast]) rfl⟩
    · rename Fr _ _ _ _ => F'
      rename News _ _ _ _ => N'
      exact inv0 F' N' ⟨rfl, rfl, rfl, rfl, rfl, goal_step hg (a := 0) (by decide) rfl rfl⟩
  case done =>
    rintro m₁ news₁ h tk ⟨rfl, q⟩ F3 N3
    clear F2 N2
    refine wpAny_execs_nil ?_
    dsimp only
    exact next m₁ h tk ⟨rfl, q⟩ F3 N3
end Mine
end
noncomputable section
open PySem PySem.W PyProof.Rows PySem.Calls PySem.Spec
set_option maxRecDepth 100000
set_option maxHeartbeats 4000000
namespace Mine
theorem five_words {as : List Nat} {g : Nat} (has : as.length = 4) (hlt : ∀ a ∈ as, a < 4096) (hg : g < 4096) :
    ∃ n5 : List Nat, as.map (fun (n : Nat) => (n : Int)) ++ [(g : Int)] = n5.map (fun (n : Nat) => (n : Int)) ∧ (∀ x ∈ n5, x < 4096) ∧ n5.length = 5 :=
  ⟨as ++ [g], by rw [List.map_append]; rfl, fun x hx => (List.mem_append.mp hx).elim (hlt x) fun h => by rw [List.mem_singleton.mp h]; exact hg, by rw [List.length_append, has]; rfl⟩
theorem words_at {ws : List Value} {n5 : List Nat} {i : Nat} {v : Value} (hI : IntsAre ws (n5.map fun (n : Nat) => (n : Int))) (hn : ∀ x ∈ n5, x < 4096) (hv : ws.toArray[i]? = some v) :
    ∃ (n : Nat) (t : Tok), v = .int (n : Int) t ∧ n < 4096 ∧ (n5.take (i + 1)).map prettyS = (n5.take i).map prettyS ++ [prettyS n] := by
  have hv' : ws[i]? = some v := by simpa using hv
  have hi : i < n5.length := by
    have := (List.getElem?_eq_some_iff.mp hv').1
    rwa [hI.length, List.length_map] at this
  obtain ⟨t, ht⟩ := hI.get i ((n5[i] : Nat) : Int) (by simp [hi])
  rw [hv'] at ht
  exact ⟨n5[i], t, Option.some.inj ht, hn _ (List.getElem_mem hi), by rw [List.take_succ_eq_append_getElem hi, List.map_append]; rfl⟩
theorem sub_nc {c : Const} {x p} {D : Addr} {z : Int} {t : Tok} : subscripted (.Constant c x p) false (.ref D) (.int z t) = operate [.ref D, .int z t] (getItem (.ref D) (.int z t)) := by with_unfolding_all rfl
theorem first_item {prog : Program} {w : World} {A : Around} {E Q : Value → Shared → Prop} {s : Shared} {h₀ : Heap} {L D : Addr} {news : List (Addr × Obj)} {zs : List Value} {as : List Nat} {md : Nat} {t : Tok} {n1 : Str} {p1 : Pos} {c : Const} {x p}
    (N : News h₀ L s.heap news) (hm : (D, LCg.lst zs) ∈ news) (hzs : StrsAre zs (listS md as)) (has : as.length = 4) (h : ∀ t', Q (.str (fileS md) t') s) :
    wpAny (model prog w) A (subscriptTail (.Name n1 p1) (.Constant c x p) (.ref D) (.int 0 t)) Q E s :=
  item_strsA (isList_news N hm) hzs (by decide) (by rw [list_len md has]; decide) (by decide) (fun t' => by
    have e : (listS md as).getD (0 : Int).toNat Str.empty = fileS md := by
      show (listS md as).getD 0 Str.empty = _
      rw [List.getD_eq_getElem?_getD, list_zero has]; rfl
    rw [e]; exact h t') sub_nc let_nn
theorem ne_same {prog : Program} {w : World} {A : Around} {E Q : Value → Shared → Prop} {s : Shared} {x : Str} {t u : Tok} (h : Q (.bool false) s) : wpAny (model prog w) A (compareOp .NotEq (.str x t) (.str x u)) Q E s :=
  ne_str (by rw [bne_self_eq_false]; exact h)
theorem law_end {as : List Nat} (hlt : ∀ a ∈ as, a < 4096) {md g : Nat} (hg : g < 4096) : ((listS md as).any (fun x => x == fileS (md ^^^ g)) == (((leftN (keptN as) 12 g : Nat) : Int) == 0)) = true := by
  have h := list_mem (m := md) hlt hg
  rw [beq_iff_eq]
  by_cases e : leftN (keptN as) 12 g = 0
  · rw [e]
    show _ = true
    rw [List.any_eq_true]; exact ⟨_, h.mpr e, beq_self_eq_true _⟩
  · have h2 : (((leftN (keptN as) 12 g : Nat) : Int) == 0) = false := by rw [beq_eq_false_iff_ne]; omega
    rw [h2, List.any_eq_false]
    intro x hx hxe
    exact e (h.mp (by rw [← eq_of_beq hxe]; exact hx))
theorem lawG (w : World) (mean : ExcName → Option Value) (mg mb : Str → Option Value) {qual : Str} {body : List Stmt} {scope : Scope} {cdv : Value} (hf : IsFn (Mine.hd.heap_39 w.params) 168 qual body scope cdv)
  (as : List Nat) (md : Nat) (has : as.length = 4) (hlt : ∀ a ∈ as, a < 4096) (hmd : md < 65536)
  (dp un : Nat) (fr : Option (List Env)) (gd : Option (List Code)) (s : Shared) (Q : Flow → Shared → Prop) (E : Value → Shared → Prop)
  (hd : dp + 6 < recursionLimit) (hu : un + 120 < cLine) {h₀ : Heap} (X : (Mine.hd.heap_39 w.params).In h₀)
  (T : Top Mine.hd.view_39 (looseW Mine.hd.view_39 [Str.ofString "COMPILER_FLAG_NAMES", Str.ofString "b2a_base64", Str.ofString "b64encode", Str.ofString "_filemode_table"]) mean mg mb h₀)
  {L D S Kd : Addr} {m : Str → Option Value} {zs us : List Value} {kS : Nat} {tot : Int} {tt tm : Tok} {oK od : Obj}
  (F : Fr h₀ L s.heap m) (N : News h₀ L s.heap [(Kd, oK), (D, LCg.lst zs), (S, W.listOf us.toArray kS), (L + 1, od)]) (hJ : JGs D S Kd tot tt 4 m [])
  (dm : od.data = .cell (some (.int (md : Int) tm))) (hzs : StrsAre zs (listS md as)) (hus : IntsAre us (as.map fun (n : Nat) => (n : Int))) (hK : KeptAt w oK (keptN as)) (lo : (Kd == sysModules) = false)
  (ret : ∀ h' tk', Grow h₀ h' → Q (.ret (.bool true)) { s with heap := h', toks := tk' }) :
  wpAny (model PySem.Challenge.rw_om0021_01.row.prog w) ((⟨none, dp, fr, gd, un⟩ : Around).deeper (envOfC qual scope L 168 cdv)) (execs (body.drop 11) (envOfC qual scope L 168 cdv)) Q E s := by
  revert X; k_fill; intro X
  k_with_none
  w_top off
  k_with "ne" => with_reducible (first | assumption | exact Ne.symm (by assumption) | exact Nat.ne_of_gt (by assumption) | exact Nat.ne_of_lt (by assumption) | exact Nat.ne_of_gt (Nat.lt_succ_self _) | exact Nat.ne_of_lt (Nat.lt_succ_self _) | exact Nat.ne_of_gt (Nat.lt_succ_of_lt (Nat.lt_succ_self _)) | exact Nat.ne_of_lt (Nat.lt_succ_of_lt (Nat.lt_succ_self _)) | exact Nat.ne_of_gt (Nat.lt_succ_of_lt (Nat.lt_succ_of_lt (Nat.lt_succ_self _))) | exact Nat.ne_of_lt (Nat.lt_succ_of_lt (Nat.lt_succ_of_lt (Nat.lt_succ_self _))) | exact Nat.ne_of_gt (Nat.lt_succ_of_lt (Nat.lt_succ_of_lt (Nat.lt_succ_of_lt (Nat.lt_succ_self _)))) | exact Nat.ne_of_lt (Nat.lt_succ_of_lt (Nat.lt_succ_of_lt (Nat.lt_succ_of_lt (Nat.lt_succ_self _)))) | exact Nat.ne_of_gt (And.left (by assumption)) | exact Nat.ne_of_lt (And.left (by assumption)) | exact (And.left (by assumption)) | exact Ne.symm (And.left (by assumption)) | exact Nat.ne_of_gt (And.left (And.right (by assumption))) | exact Nat.ne_of_lt (And.left (And.right (by assumption))) | exact (And.left (And.right (by assumption))) | exact Ne.symm (And.left (And.right (by assumption))) | exact Nat.ne_of_gt (And.right (by assumption)) | exact Nat.ne_of_lt (And.right (by assumption)) | exact (And.right (by assumption)) | exact Ne.symm (And.right (by assumption)) | exact Nat.ne_of_gt (And.left (And.right (And.right (by assumption)))) | exact Nat.ne_of_lt (And.left (And.right (And.right (by assumption)))) | exact (And.left (And.right (And.right (by assumption)))) | exact Ne.symm (And.left (And.right (And.right (by assumption)))) | exact Nat.ne_of_gt (And.right (And.right (by assumption))) | exact Nat.ne_of_lt (And.right (And.right (by assumption))) | exact (And.right (And.right (by assumption))) | exact Ne.symm (And.right (And.right (by assumption))) | exact Nat.ne_of_gt (And.left (And.right (And.right (And.right (by assumption))))) | exact Nat.ne_of_lt (And.left (And.right (And.right (And.right (by assumption))))) | exact (And.left (And.right (And.right (And.right (by assumption))))) | exact Ne.symm (And.left (And.right (And.right (And.right (by assumption))))) | exact Nat.ne_of_gt (And.right (And.right (And.right (by assumption)))) | exact Nat.ne_of_lt (And.right (And.right (And.right (by assumption)))) | exact (And.right (And.right (And.right (by assumption)))) | exact Ne.symm (And.right (And.right (And.right (by assumption)))) | exact Nat.ne_of_gt (And.left (And.right (And.right (And.right (And.right (by assumption)))))) | exact Nat.ne_of_lt (And.left (And.right (And.right (And.right (And.right (by assumption)))))) | exact (And.left (And.right (And.right (And.right (And.right (by assumption)))))) | exact Ne.symm (And.left (And.right (And.right (And.right (And.right (by assumption)))))) | exact Nat.ne_of_gt (And.right (And.right (And.right (And.right (by assumption))))) | exact Nat.ne_of_lt (And.right (And.right (And.right (And.right (by assumption))))) | exact (And.right (And.right (And.right (And.right (by assumption))))) | exact Ne.symm (And.right (And.right (And.right (And.right (by assumption))))) | exact Nat.ne_of_gt (And.left (And.right (And.right (And.right (And.right (And.right (by assumption))))))) | exact Nat.ne_of_lt (And.left (And.right (And.right (And.right (And.right (And.right (by assumption))))))) | exact (And.left (And.right (And.right (And.right (And.right (And.right (by assumption))))))) | exact Ne.symm (And.left (And.right (And.right (And.right (And.right (And.right (by assumption))))))) | exact Nat.ne_of_gt (And.right (And.right (And.right (And.right (And.right (by assumption)))))) | exact Nat.ne_of_lt (And.right (And.right (And.right (And.right (And.right (by assumption)))))) | exact (And.right (And.right (And.right (And.right (And.right (by assumption)))))) | exact Ne.symm (And.right (And.right (And.right (And.right (And.right (by assumption)))))) | exact Nat.ne_of_gt (And.left (And.right (And.right (And.right (And.right (And.right (And.right (by assumption)))))))) | exact Nat.ne_of_lt (And.left (And.right (And.right (And.right (And.right (And.right (And.right (by assumption)))))))) | exact (And.left (And.right (And.right (And.right (And.right (And.right (And.right (by assumption)))))))) | exact Ne.symm (And.left (And.right (And.right (And.right (And.right (And.right (And.right (by assumption)))))))) | exact Nat.ne_of_gt (And.right (And.right (And.right (And.right (And.right (And.right (by assumption))))))) | exact Nat.ne_of_lt (And.right (And.right (And.right (And.right (And.right (And.right (by assumption))))))) | exact (And.right (And.right (And.right (And.right (And.right (And.right (by assumption))))))) | exact Ne.symm (And.right (And.right (And.right (And.right (And.right (And.right (by assumption))))))) | exact Nat.ne_of_gt (And.left (And.right (And.right (And.right (And.right (And.right (And.right (And.right (by assumption))))))))) | exact Nat.ne_of_lt (And.left (And.right (And.right (And.right (And.right (And.right (And.right (And.right (by assumption))))))))) | exact (And.left (And.right (And.right (And.right (And.right (And.right (And.right (And.right (by assumption))))))))) | exact Ne.symm (And.left (And.right (And.right (And.right (And.right (And.right (And.right (And.right (by assumption))))))))) | exact Nat.ne_of_gt (And.right (And.right (And.right (And.right (And.right (And.right (And.right (by assumption)))))))) | exact Nat.ne_of_lt (And.right (And.right (And.right (And.right (And.right (And.right (And.right (by assumption)))))))) | exact (And.right (And.right (And.right (And.right (And.right (And.right (And.right (by assumption)))))))) | exact Ne.symm (And.right (And.right (And.right (And.right (And.right (And.right (And.right (by assumption)))))))))
  k_with "to comp" => repeat ((fail_if_success (with_reducible show wpAny _ _ (eval (Expr.ListComp _ _ _ _) _) _ _ _)); first | (k_unfold; (try dsimp only)) | walk1 | (dsimp only; walk1))
  k_with "to src" => repeat ((fail_if_success (with_reducible show LCg.CompSrc _ _ _ _ _ _ _ _ _ _ _ _ _ _)); first | (k_unfold; (try dsimp only)) | walk1 | (dsimp only; walk1))
  k_with "to cmp" => repeat ((fail_if_success (with_reducible show wpAny _ _ (compareOp _ (Value.ref _) (Value.ref _)) _ _ _)); first | (k_unfold; (try dsimp only)) | walk1 | (dsimp only; walk1))
  k_with "to call" => repeat ((fail_if_success (with_reducible show wpAny _ _ (call (Value.ref _) _) _ _ _)); first | (k_unfold; (try dsimp only)) | walk1 | (dsimp only; walk1))
  k_with "binaryOp BitXor int int" => (k_dflt (refine xor_as (bitXor_nat _ _) ?_); intro _)
  have hf' : IsFn (Mine.hd.heap_39 w.params) 168 _ _ _ _ := ⟨_, _, _, _, _, _, _, _, _, _, _, by k_is⟩
  obtain ⟨rfl, rfl, rfl, rfl⟩ := hf.same hf'
  clear hf hf'
  obtain ⟨-, q1, q2, q3, q4, g, tg, hg, q5⟩ := hJ
  dsimp only [List.drop]
  rw [map5 q1 q2 q3 q4 q5] at F
  show wpAny _ _ _ _ _ _
  (try k_fold)
  walk_at "to comp"
  rename Fr _ _ _ _ => F1
  refine LCg.ListComp_U (F₀ := F1) (by with_unfolding_all rfl) (by decide) (by rfl) (by decide) (by rfl) ?_
  walk_at "to src"
  rename Fr _ _ _ _ => F3
  rename News _ _ _ _ => N3
  rename IntsAre _ (_ ++ _) => hI5
  obtain ⟨n5, en5, hn5, h55⟩ := five_words has hlt hg
  rw [en5] at hI5
  refine LCg.CompSrc.ledger rfl F3 N3 (.head _) (by rw [List.size_toArray, hI5.length, List.length_map, h55]; decide) ?_
  intro g1
  clear F3 N3
  refine comp_inv (fun i ys => StrsAre ys ((n5.take i).map prettyS)) (Or.inr ⟨_, .head _, rfl, _, rfl⟩) ?turn1 ?fin1 .nil
  case turn1 =>
    rintro i v ys I oI C oC D2 m₂ h tk E' hi hv hys hC hx F4 N4
    obtain ⟨n, tv, rfl, hn, hsn⟩ := words_at hI5 hn5 hv
    show wpAny _ _ _ _ _ _
    (try k_fold)
    walk_at "to call"
    refine left_call F4 N4 X T hn (by first | exact roomD (by assumption) (by rfl) | exact roomU (by assumption) (by rfl)) (by first | exact roomD (by assumption) (by rfl) | exact roomU (by assumption) (by rfl)) ?_
    intro t6 h6 tk6 F6 N6
    refine ⟨_, _, rfl, F6, N6, ?_⟩
    rw [hsn]; exact strs_snoc hys
  case fin1 =>
    intro ys hys D2 h tk F4 N4 off
    rw [List.size_toArray, hI5.length, List.length_map, List.take_length] at hys
    dsimp only [LCg.Off1] at off
    show wpAny _ _ _ _ _ _
    (try k_fold)
    walk_at "to comp"
    have N5 := keep_C N4
    clear N4
    refine LCg.ListComp_U (F₀ := F4) (by with_unfolding_all rfl) (by decide) (by rfl) (by decide) (by rfl) ?_
    walk_at "to src"
    rename Fr _ _ _ _ => F3
    rename News _ _ _ _ => N3
    rename IntsAre _ (_ ++ _) => hI6
    rw [en5] at hI6
    refine LCg.CompSrc.ledger rfl F3 N3 (.head _) (by rw [List.size_toArray, hI6.length, List.length_map, h55]; decide) ?_
    intro g2
    (try clear F3); (try clear N3)
    refine comp_inv (fun i ys => StrsAre ys ((n5.take i).map prettyS)) (Or.inr ⟨_, .head _, rfl, _, rfl⟩) ?turn2 ?fin2 .nil
    case turn2 =>
      rintro i v ys I oI C oC D2 m₂ h tk E' hi hv hys hC hx F4 N4
      obtain ⟨n, tv, rfl, hn, hsn⟩ := words_at hI6 hn5 hv
      show wpAny _ _ _ _ _ _
      (try k_fold)
      walk_at "to call"
      refine words_call F4 N4 X T hn (by first | exact roomD (by assumption) (by rfl) | exact roomU (by assumption) (by rfl)) (by first | exact roomD (by assumption) (by rfl) | exact roomU (by assumption) (by rfl)) ?_
      intro t6 h6 tk6 F6 N6
      refine ⟨_, _, rfl, F6, N6, ?_⟩
      rw [hsn]; exact strs_snoc hys
    case fin2 =>
      intro ys2 hys2 D3 h3 tk3 F5 N6 off2
      rw [List.size_toArray, hI6.length, List.length_map, List.take_length] at hys2
      dsimp only [LCg.Off1] at off2
      show wpAny _ _ _ _ _ _
      (try k_fold)
      walk_at "to cmp"
      refine ne_strs_same (isList_news N6 (.tail _ (.tail _ (.tail _ (.head _))))) hys (isList_news N6 (.head _)) hys2 (fun x hx => by obtain ⟨n, _, rfl⟩ := List.mem_map.mp hx; exact ok_pretty n) (by first | exact roomD (by assumption) (by rfl) | exact roomU (by assumption) (by rfl)) ?_
      have N7 := keep_D N6
      clear N6
      walk_at "to call"
      refine file_call F5 N7 X T (by first | exact roomD (by assumption) (by rfl) | exact roomU (by assumption) (by rfl)) (by first | exact roomD (by assumption) (by rfl) | exact roomU (by assumption) (by rfl)) ?_
      intro t8 h8 tk8 F8 N8
      clear F5 N7
      have hmg16 : md ^^^ g < 65536 := Nat.xor_lt_two_pow (n := 16) hmd (Nat.lt_trans hg (by decide))
      k_with "subscriptTail" => (k_dflt (refine first_item (by assumption) (by k_mem) hzs has ?_); intro _)
      walk_at "to call"
      rename Fr _ _ _ _ => F9
      rename News _ _ _ _ => N9
      refine listing_call F9 N9 X T hmd (by first | exact roomD (by assumption) (by rfl) | exact roomU (by assumption) (by rfl)) (by first | exact roomD (by assumption) (by rfl) | exact roomU (by assumption) (by rfl)) ?_
      intro t10 h10 tk10 F10 N10
      clear F9 N9
      k_with "compareOp NotEq str str" => k_dflt (refine ne_same ?_)
      walk_at "to call"
      refine listing_call F10 N10 X T hmg16 (by first | exact roomD (by assumption) (by rfl) | exact roomU (by assumption) (by rfl)) (by first | exact roomD (by assumption) (by rfl) | exact roomU (by assumption) (by rfl)) ?_
      intro t11 h11 tk11 F11 N11
      clear F10 N10
      walk_at "to call"
      refine kept_call F11 N11 X T (.head _) hK lo (kept_ok hlt) hg (by first | exact roomD (by assumption) (by rfl) | exact roomU (by assumption) (by rfl)) (by first | exact roomD (by assumption) (by rfl) | exact roomU (by assumption) (by rfl)) ?_
      intro t12 h12 tk12 F12 N12
      clear F11 N11
      k_steps
      rw [law_end hlt hg]
      exact ret _ _ F12.keep
end Mine
end
noncomputable section
open PySem PySem.W PyProof.Rows PySem.Calls PySem.Spec
set_option maxRecDepth 100000
set_option maxHeartbeats 4000000
namespace Mine
theorem lawC (w : World) (mean : ExcName → Option Value) (mg mb : Str → Option Value) (ns : List Int) (vs : List Value) (l : Addr) (hns : ns.length ≤ 63)
  (dp un : Nat) (fr : Option (List Env)) (gd : Option (List Code)) (s : Shared) (R : Result → Shared → Prop)
  (hd : dp + 6 < recursionLimit) (hu : un + 120 < cLine) (X : (Mine.hd.heap_39 w.params).In s.heap)
  (T : Top Mine.hd.view_39 (looseW Mine.hd.view_39 [Str.ofString "COMPILER_FLAG_NAMES", Str.ofString "b2a_base64", Str.ofString "b64encode", Str.ofString "_filemode_table"]) mean mg mb s.heap)
  (hl : s.heap.IsList l vs.toArray) (hi : IntsAre vs ns)
  (ret : ∀ h' tk', Grow s.heap h' → R (.ok (.ret (.bool true))) { s with heap := h', toks := tk' }) :
  codeAny (model PySem.Challenge.rw_om0021_01.row.prog w) ⟨none, dp, fr, gd, un⟩ (.call (.ref 168) ⟨[.ref l], []⟩) R s := by
  revert X; k_fill; intro X
  k_with_none
  w_top off
  k_with "ne" => with_reducible (first | assumption | exact Ne.symm (by assumption) | exact Nat.ne_of_gt (by assumption) | exact Nat.ne_of_lt (by assumption) | exact Nat.ne_of_gt (Nat.lt_succ_self _) | exact Nat.ne_of_lt (Nat.lt_succ_self _) | exact Nat.ne_of_gt (Nat.lt_succ_of_lt (Nat.lt_succ_self _)) | exact Nat.ne_of_lt (Nat.lt_succ_of_lt (Nat.lt_succ_self _)) | exact Nat.ne_of_gt (Nat.lt_succ_of_lt (Nat.lt_succ_of_lt (Nat.lt_succ_self _))) | exact Nat.ne_of_lt (Nat.lt_succ_of_lt (Nat.lt_succ_of_lt (Nat.lt_succ_self _))) | exact Nat.ne_of_gt (Nat.lt_succ_of_lt (Nat.lt_succ_of_lt (Nat.lt_succ_of_lt (Nat.lt_succ_self _)))) | exact Nat.ne_of_lt (Nat.lt_succ_of_lt (Nat.lt_succ_of_lt (Nat.lt_succ_of_lt (Nat.lt_succ_self _)))) | exact Nat.ne_of_gt (And.left (by assumption)) | exact Nat.ne_of_lt (And.left (by assumption)) | exact (And.left (by assumption)) | exact Ne.symm (And.left (by assumption)) | exact Nat.ne_of_gt (And.left (And.right (by assumption))) | exact Nat.ne_of_lt (And.left (And.right (by assumption))) | exact (And.left (And.right (by assumption))) | exact Ne.symm (And.left (And.right (by assumption))) | exact Nat.ne_of_gt (And.right (by assumption)) | exact Nat.ne_of_lt (And.right (by assumption)) | exact (And.right (by assumption)) | exact Ne.symm (And.right (by assumption)) | exact Nat.ne_of_gt (And.left (And.right (And.right (by assumption)))) | exact Nat.ne_of_lt (And.left (And.right (And.right (by assumption)))) | exact (And.left (And.right (And.right (by assumption)))) | exact Ne.symm (And.left (And.right (And.right (by assumption)))) | exact Nat.ne_of_gt (And.right (And.right (by assumption))) | exact Nat.ne_of_lt (And.right (And.right (by assumption))) | exact (And.right (And.right (by assumption))) | exact Ne.symm (And.right (And.right (by assumption))) | exact Nat.ne_of_gt (And.left (And.right (And.right (And.right (by assumption))))) | exact Nat.ne_of_lt (And.left (And.right (And.right (And.right (by assumption))))) | exact (And.left (And.right (And.right (And.right (by assumption))))) | exact Ne.symm (And.left (And.right (And.right (And.right (by assumption))))) | exact Nat.ne_of_gt (And.right (And.right (And.right (by assumption)))) | exact Nat.ne_of_lt (And.right (And.right (And.right (by assumption)))) | exact (And.right (And.right (And.right (by assumption)))) | exact Ne.symm (And.right (And.right (And.right (by assumption)))) | exact Nat.ne_of_gt (And.left (And.right (And.right (And.right (And.right (by assumption)))))) | exact Nat.ne_of_lt (And.left (And.right (And.right (And.right (And.right (by assumption)))))) | exact (And.left (And.right (And.right (And.right (And.right (by assumption)))))) | exact Ne.symm (And.left (And.right (And.right (And.right (And.right (by assumption)))))) | exact Nat.ne_of_gt (And.right (And.right (And.right (And.right (by assumption))))) | exact Nat.ne_of_lt (And.right (And.right (And.right (And.right (by assumption))))) | exact (And.right (And.right (And.right (And.right (by assumption))))) | exact Ne.symm (And.right (And.right (And.right (And.right (by assumption))))) | exact Nat.ne_of_gt (And.left (And.right (And.right (And.right (And.right (And.right (by assumption))))))) | exact Nat.ne_of_lt (And.left (And.right (And.right (And.right (And.right (And.right (by assumption))))))) | exact (And.left (And.right (And.right (And.right (And.right (And.right (by assumption))))))) | exact Ne.symm (And.left (And.right (And.right (And.right (And.right (And.right (by assumption))))))) | exact Nat.ne_of_gt (And.right (And.right (And.right (And.right (And.right (by assumption)))))) | exact Nat.ne_of_lt (And.right (And.right (And.right (And.right (And.right (by assumption)))))) | exact (And.right (And.right (And.right (And.right (And.right (by assumption)))))) | exact Ne.symm (And.right (And.right (And.right (And.right (And.right (by assumption)))))) | exact Nat.ne_of_gt (And.left (And.right (And.right (And.right (And.right (And.right (And.right (by assumption)))))))) | exact Nat.ne_of_lt (And.left (And.right (And.right (And.right (And.right (And.right (And.right (by assumption)))))))) | exact (And.left (And.right (And.right (And.right (And.right (And.right (And.right (by assumption)))))))) | exact Ne.symm (And.left (And.right (And.right (And.right (And.right (And.right (And.right (by assumption)))))))) | exact Nat.ne_of_gt (And.right (And.right (And.right (And.right (And.right (And.right (by assumption))))))) | exact Nat.ne_of_lt (And.right (And.right (And.right (And.right (And.right (And.right (by assumption))))))) | exact (And.right (And.right (And.right (And.right (And.right (And.right (by assumption))))))) | exact Ne.symm (And.right (And.right (And.right (And.right (And.right (And.right (by assumption))))))) | exact Nat.ne_of_gt (And.left (And.right (And.right (And.right (And.right (And.right (And.right (And.right (by assumption))))))))) | exact Nat.ne_of_lt (And.left (And.right (And.right (And.right (And.right (And.right (And.right (And.right (by assumption))))))))) | exact (And.left (And.right (And.right (And.right (And.right (And.right (And.right (And.right (by assumption))))))))) | exact Ne.symm (And.left (And.right (And.right (And.right (And.right (And.right (And.right (And.right (by assumption))))))))) | exact Nat.ne_of_gt (And.right (And.right (And.right (And.right (And.right (And.right (And.right (by assumption)))))))) | exact Nat.ne_of_lt (And.right (And.right (And.right (And.right (And.right (And.right (And.right (by assumption)))))))) | exact (And.right (And.right (And.right (And.right (And.right (And.right (And.right (by assumption)))))))) | exact Ne.symm (And.right (And.right (And.right (And.right (And.right (And.right (And.right (by assumption)))))))))
  k_with "to sl" => repeat ((fail_if_success (with_reducible show wpAny _ _ (subscriptTail (Expr.List _ _) _ _ _) _ _ _)); first | (k_unfold; (try dsimp only)) | walk1 | (dsimp only; walk1))
  k_with "to tup" => repeat ((fail_if_success (with_reducible show wpAny _ _ (exec (Stmt.Assign [Expr.Tuple _ _ _] _ _) _) _ _ _)); first | (k_unfold; (try dsimp only)) | walk1 | (dsimp only; walk1))
  k_with "to comp" => repeat ((fail_if_success (with_reducible show wpAny _ _ (eval (Expr.ListComp _ _ _ _) _) _ _ _)); first | (k_unfold; (try dsimp only)) | walk1 | (dsimp only; walk1))
  k_with "to asg" => repeat ((fail_if_success (with_reducible show wpAny _ _ (exec (Stmt.Assign _ (Expr.ListComp _ _ _ _) _) _) _ _ _)); first | (k_unfold; (try dsimp only)) | walk1 | (dsimp only; walk1))
  k_with "to src" => repeat ((fail_if_success (with_reducible show LCg.CompSrc _ _ _ _ _ _ _ _ _ _ _ _ _ _)); first | (k_unfold; (try dsimp only)) | walk1 | (dsimp only; walk1))
  k_with "to for" => repeat ((fail_if_success (with_reducible show wpAny _ _ (exec (Stmt.For _ _ _ _ _) _) _ _ _)); first | (k_unfold; (try dsimp only)) | walk1 | (dsimp only; walk1))
  k_with "binaryOp BitXor int int" => (k_dflt (refine xor_as (bitXor_nat _ _) ?_); intro _)
  k_with "to body" => repeat ((fail_if_success (with_reducible show wpAny _ _ (execs (Stmt.For _ _ _ _ _ :: _) _) _ _ _)); first | (k_unfold; (try dsimp only)) | walk1 | (dsimp only; walk1))
  k_with "to call" => repeat ((fail_if_success (with_reducible show wpAny _ _ (call (Value.ref _) _) _ _ _)); first | (k_unfold; (try dsimp only)) | walk1 | (dsimp only; walk1))
  refine' enterR (binds := [(Str.ofString "script", .ref l)]) X T ?k6 ?k7 ?k8 ?k9 ?kB ?kD ?_ ?c2 ?c3 ?c4
  case k6 => k_is
  case k7 => k_is
  case k8 => exact Nat.lt_of_le_of_lt (Nat.le_add_right _ _) hd
  case k9 => exact BindsTo.of_eq rfl
  case kB => exact rfl
  case kD => decide +kernel
  case c2 => exact rfl
  case c3 => exact rfl
  case c4 => exact rfl
  intro L h₁ tk cells F N Y
  k_cells Y
  (try simp only [List.cons_append, List.nil_append] at N)
  show wpAny _ _ _ _ _ _
  k_fold
  walk_at "to sl"
  rename Fr _ _ _ _ => F1
  rename News _ _ _ _ => N1
  refine kba_turn (value' := PySem.Expr.Name (PySem.Str.ofString "_") ⟨0, 0, 0, 0⟩) (fun _ => rfl) ?_
  refine slice_tail F1 N1 (.tail _ (.head _)) (.cons _ _ (.cons _ _ (.cons _ _ (.cons _ _ (.cons _ _ .nil))))) (Int.natCast_nonneg _) (by decide) ?_ (by with_unfolding_all rfl) (by intro _; with_unfolding_all rfl)
  intro D2 ws2 h2 F2 N2 l2 hI2
  clear F1 N1
  (try k_lt l2)
  walk_at "to tup"
  rename Fr _ _ _ _ => F1
  rename News _ _ _ _ => N1
  rename IntsAre _ (_ ++ _) => hI5
  have h5 := five ns
  generalize List.take 5 ns ++ List.drop ((List.take 5 ns).length : Int).toNat [33261, 75, 1536, 3, 2048] = n5 at hI5 h5
  obtain ⟨a0, r4, rfl, h4⟩ := five_of h5
  have N2' := keep_A N1
  clear N1 hI2
  walk_at "to call"
  rename Fr _ _ _ _ => F1
  rename News _ _ _ _ => N1
  refine drawn_call F1 N1 X T (.head _) (by assumption) (by simpa using h4) (by first | exact roomD (by assumption) (by rfl) | exact roomU (by assumption) (by rfl)) (by first | exact roomD (by assumption) (by rfl) | exact roomU (by assumption) (by rfl)) ?_
  intro S us kS h3 tk3 F3 N3 off3 hus
  clear F1 N1
  have hlt := drawnN_lt (List.drop 1 (a0 :: r4))
  have has : (drawnN (List.drop 1 (a0 :: r4))).length = 4 := by rw [drawnN_len]; simpa using h4
  generalize drawnN (List.drop 1 (a0 :: r4)) = as at hus hlt has
  (have off3 := allNe_of off3); dsimp only [AllNe] at off3
  walk_at "to call"
  rename Fr _ _ _ _ => F1
  rename News _ _ _ _ => N1
  refine fig_call F1 N1 X T (.tail _ (.head _)) hus has hlt (by first | exact roomD (by assumption) (by rfl) | exact roomU (by assumption) (by rfl)) (by first | exact roomD (by assumption) (by rfl) | exact roomU (by assumption) (by rfl)) ?_
  intro G ys h4' tk4 F4 N4 off4 hys
  clear F1 N1
  (have off4 := allNe_of off4); dsimp only [AllNe] at off4
  walk_at "to asg"
  rename Fr _ _ _ _ => F1
  rename News _ _ _ _ => N1
  have N2' := keep_B N1
  clear N1
  obtain ⟨md, hmd, emd⟩ := mode_nat ((a0 :: r4).getD (Int.toNat 0) 0)
  rename PySem.Obj.data _ = PySem.Data.cell (some (Value.int _ _)) => dmd
  rename PySem.Obj.data _ = PySem.Data.cell (some (Value.ref _)) => dfg
  rw [emd] at dmd
  generalize a0 + List.sum r4 = tot at F1
  refine LCg.Assign_ListComp_U F1 (by rfl) (by with_unfolding_all rfl) (by with_unfolding_all rfl) (by decide) (by rfl) (by decide) (by rfl) (by rfl) (by rfl) ?_
  walk_at "to src"
  rename IsRange _ _ _ _ _ _ _ _ => hr
  rename Fr _ _ _ _ => F3
  rename News _ _ _ _ => N3
  refine LCg.CompSrc.range (n := 16) rfl F3 N3 hr (by decide) (by decide) (by decide) ?_
  intro g
  clear hr F3 N3
  refine comp_inv (fun i ys => StrsAre ys ((listS md as).take i)) True.intro ?turn1 ?fin1 .nil
  case turn1 =>
    rintro i v zs I oI C oC D m₂ h tk E' hi16 ⟨t, rfl⟩ hzs hC hx F4 N4
    rw [Int.zero_add] at hx
    show wpAny _ _ _ _ _ _
    k_fold
    walk_at "to call"
    refine set_call F4 N4 X T (.tail _ (.tail _ (.tail _ (.head _)))) hys has hlt hi16 (by first | exact roomD (by assumption) (by rfl) | exact roomU (by assumption) (by rfl)) (by first | exact roomD (by assumption) (by rfl) | exact roomU (by assumption) (by rfl)) ?_
    intro t5 h5' tk5 F5 N5
    clear F4 N4
    walk_at "to call"
    refine file_call F5 N5 X T (by first | exact roomD (by assumption) (by rfl) | exact roomU (by assumption) (by rfl)) (by first | exact roomD (by assumption) (by rfl) | exact roomU (by assumption) (by rfl)) ?_
    intro t6 h6' tk6 F6 N6
    clear F5 N5
    refine ⟨_, _, rfl, F6, N6, ?_⟩
    rw [list_take has hi16]; exact strs_snoc hzs
  case fin1 =>
    intro zs hzs D h tk F4 N4 off
    (try clear F'); (try clear N')
    rw [List.take_of_length_le (by rw [list_len md has]; exact Nat.le_refl _)] at hzs
    dsimp only [LCg.Off1] at off
    show wpAny _ _ _ _ _ _
    (try k_fold)
    walk_at "to body"
    rename Fr _ _ _ _ => F6
    rename News _ _ _ _ => N6
    (try k_unfold)
    have N7 := keep_E N6
    have hf : IsFn (Mine.hd.heap_39 w.params) 168 _ _ _ _ := ⟨_, _, _, _, _, _, _, _, _, _, _, by k_is⟩
    refine lawB w mean mg mb hf as md has hlt hmd dp un fr gd _ _ _ hd hu X T F6 N7 rfl rfl (by assumption) (by assumption) (.cons _ _ (.cons _ _ (.cons _ _ (.cons _ _ (.cons _ _ (.cons _ _ (.cons _ _ (.cons _ _ (.cons _ _ (.cons _ _ .nil)))))))))) hzs hus (by k_all) ?_
    intro h7 tk7 F7 N8
    clear F6 N6 N7
    refine lawD w mean mg mb hf as md has hlt dp un fr gd _ _ _ hd hu X T F7 N8 rfl rfl rfl hzs hus ?_
    intro Kd oK m9 h9 tk9 hJ9 hK lo F9 N9
    clear F7 N8
    refine lawE w mean mg mb hf as has hlt dp un fr gd _ _ _ hd hu X T F9 N9 hJ9 hus ?_
    intro m10 h10 tk10 hJ10 F10 N10
    clear F9 N9
    exact lawG w mean mg mb hf as md has hlt hmd dp un fr gd _ _ _ hd hu X T F10 N10 hJ10 dmd hzs hus hK lo fun h' tk' gg => ret h' tk' gg
end Mine
end
noncomputable section
open PySem PySem.W PyProof.Rows PySem.Calls
set_option maxRecDepth 100000
set_option maxHeartbeats 4000000
theorem PySem.Challenge.cw_om0021_01_holds : PySem.Challenge.rw_om0021_01.Holds := by
  refine Mine.hd ?_
  k_fill
  intro w s₀ s₁ mg mb G Y fa o pm cd doc dV kV ho hd hcd hD hmg hg args vals as hpre hlay hrd hwl hlo
  have KX := kIn_of Y
  refine Ground.open G ?_
  intro T B D TE TW
  try (refine guard_noD D (by decide +kernel) ?_; clear D)
  have e168 : mg (PySem.Str.ofString "law") = some (.ref 168) := mg_of KX T.g (by k_is)
  have e2 := hmg
  rw [e168] at e2
  obtain rfl : 168 = fa := by injection e2 with e3; injection e3
  clear e2
  wrow_args hpre hlay hrd hwl hlo
  all_goals (
    first | refine callC_kw (enter_call ?_) | refine enter_call ?_ | refine callC_kw (enter_callW ?_) | refine enter_callW ?_ | w_how
    try refine codeAny_mono ?_ (fun _ _ g => GoodW.toG g))
  rename PySem.Heap.IsList _ _ _ => hL
  rename PyProof.Rows.IntsAre _ _ => hI
  refine Mine.lawC w _ mg mb _ _ _ (by omega) _ _ _ _ s₁ _ (by decide) (by decide) KX T hL hI ?_
  intro h' tk' gr
  refine ⟨.inl ⟨_, .bool true, [], rfl, raisesW_false ?_, .bool true, ?_, unshared_nil⟩, gr, rfl, hg⟩
  · wrow_none_raised
  · wrow_post
end
