import PyProof.Rows.All
import Wide.All
import OpenK.AllK
import Wide.FinOn
import PySem.Challenge.RW_zn0003_01
open PySem PySem.W PySem.Spec PySem.Calls PyProof.Rows PyProof.V
set_option Elab.async false
namespace Zn3
section
set_option maxRecDepth 100000
set_option maxHeartbeats 8000000
open_top hd for PySem.Challenge.rw_zn0003_01
end

section
set_option maxRecDepth 100000

section
variable {prog : Program} {w : World} {A₀ A : Around} {s : Shared} {base h₀ : Heap} {outer : List Env} {L : Addr} {m mg mb : Str → Option Value} {env : Env} {K : Frag} {p : Program} {loose : List Str} {mean : ExcName → Option Value}
  {R : Result → Shared → Prop} {name qual : Str} {params : Arguments} {body : List Stmt} {scope : Scope} {dV kV doc pm cdv ct oc : Value} {an od : Option Addr} {osl : Array (Option Value)} {f : Addr} {args : Args} {binds : List (Str × Value)}

/-- a def without cells is entered: the callee's ground is the whole heap at the call -/
theorem enterS (B : Below A₀ base outer h₀) (F : Fr h₀ L s.heap m) (X₀ : K.In h₀) (T : Top p loose mean mg mb h₀) (hA : A.frames = some (env :: outer)) (hf : env.frame = some L) (hke : env.scope.kind = .function)
    (ho : K.lookup f = some ⟨oc, od, .func (fnOf name qual params body scope dV kV doc pm an cdv ct), osl⟩) (hcd : codeIn K cdv qual = true) (hroom : A.depth < recursionLimit)
    (hbind : BindsTo s (fnOf name qual params body scope dV kV doc pm an cdv ct) args binds) (hloc : ∀ y ∈ binds, scope.names.lookup y.1 = some .local)
    (h : ∀ L' h₁, Fr s.heap L' h₁ (fun y => binds.reverse.lookup y) → News s.heap L' h₁ [] → Below A base (env :: outer) s.heap → K.In s.heap → Top p loose mean mg mb s.heap →
      wpAny (model prog w) (A.deeper (envOf qual scope L' f cdv)) (execs body (envOf qual scope L' f cdv))
        (fun fl s' => R (.ok (.ret (match fl with | .ret v => v | _ => .none))) s')
        (fun e s' => wpAny (model prog w) (A.deeper (envOf qual scope L' f cdv)) (leaving (envOf qual scope L' f cdv) e) (fun _ s'' => R (.error e) s'') (fun e' s'' => R (.error e') s'') s')
        { s with heap := h₁, toks := s.toks + binds.length })
    (hco : scope.isCoroutine = false) (hgen : scope.isGenerator = false) (hk : scope.kind = .function)
    (hcell : ∀ x ∈ scope.names, x.2 ≠ .cell) : codeAny (model prog w) A (.call (.ref f) args) R s := by
  have X : K.In s.heap := X₀.keeps F.keep
  refine codeAny_call_def (fd := fnOf name qual params body scope dV kV doc pm an cdv ct) (body := body) (binds := binds) hroom (X _ _ ho) rfl (T.nolimit.keeps F.keep) (codeRec_of X hcd) rfl hbind hcell hloc (fun h₁ hns hk₁ => ?_) hco hgen hk
  have B₁ := pushX B F hf hke
  exact h s.heap.objs.size h₁ ⟨hns, hk₁, Nat.le_refl _⟩ News.nil ⟨hA, B₁.stays, B₁.frames⟩ X (T.keeps F.keep)

/-- the same for a def with cells -/
theorem enterC (B : Below A₀ base outer h₀) (F : Fr h₀ L s.heap m) (X₀ : K.In h₀) (T : Top p loose mean mg mb h₀) (hA : A.frames = some (env :: outer)) (hf : env.frame = some L) (hke : env.scope.kind = .function)
    (ho : K.lookup f = some ⟨oc, od, .func (fnOf name qual params body scope dV kV doc pm an cdv ct), osl⟩) (hcd : codeIn K cdv qual = true) (hroom : A.depth < recursionLimit)
    (hbind : BindsTo s (fnOf name qual params body scope dV kV doc pm an cdv ct) args binds) (hkind : (binds.all fun y => scope.names.lookup y.1 == some .local || scope.names.lookup y.1 == some .cell) = true)
    (hnd : ((cellsFrom 0 scope.names []).map (·.1)).Nodup)
    (h : ∀ L' h₁ tk cells, Fr s.heap L' h₁ (bindL (envOfC qual scope L' f cdv).kindOf binds fun _ => none) → News s.heap L' h₁ cells →
      CellsAre (bindC (envOfC qual scope L' f cdv).kindOf binds fun _ => none) (cellsFrom (L' + 1) scope.names []) cells → Below A base (env :: outer) s.heap → K.In s.heap → Top p loose mean mg mb s.heap →
      wpAny (model prog w) (A.deeper (envOfC qual scope L' f cdv)) (execs body (envOfC qual scope L' f cdv))
        (fun fl s' => R (.ok (.ret (match fl with | .ret v => v | _ => .none))) s')
        (fun e s' => wpAny (model prog w) (A.deeper (envOfC qual scope L' f cdv)) (leaving (envOfC qual scope L' f cdv) e) (fun _ s'' => R (.error e) s'') (fun e' s'' => R (.error e') s'') s')
        { s with heap := h₁, toks := tk })
    (hco : scope.isCoroutine = false) (hgen : scope.isGenerator = false) (hk : scope.kind = .function) : codeAny (model prog w) A (.call (.ref f) args) R s := by
  have X : K.In s.heap := X₀.keeps F.keep
  have B₁ := pushX B F hf hke
  refine codeAny_call_function hroom (X _ _ ho) rfl hco hgen rfl (codeRec_of X hcd) (hbind _ _ _ _ ?_)
  refine wpAny_newFunctionEnv_cells hk (kindsX hkind _) fun env' he s' x => ?_
  subst he
  refine ⟨(T.nolimit.keeps F.keep).keeps x.toInCall.keep, codeAny_func ?_⟩
  obtain ⟨h₁, tk, rfl, _⟩ := x.done
  obtain ⟨cells, NC, Y⟩ := Cl.news (h₀ := s.heap) (Nat.le_refl _) fun n c hm => ⟨x.cell n c (lookup_of_mem_nodup (cellsFrom_names scope.names 0 (s.heap.objs.size + 1) [] [] rfl ▸ hnd) hm), x.above n c hm⟩
  exact h s.heap.objs.size h₁ tk cells ⟨x.toInCall.ns, x.toInCall.keep, Nat.le_refl _⟩ NC Y ⟨hA, B₁.stays, B₁.frames⟩ X (T.keeps F.keep)
end

/-- what a def of the top tells of a call: it comes back, with the heap as it was and more -/
def Ct (prog : Program) (w : World) (f : Addr) (room : Nat) (vs : List Value) (Pre : Heap → Prop) (Post : Heap → Heap → Value → Prop) : Prop :=
  ∀ (p : Program) (loose : List Str) (mean : ExcName → Option Value) (mg mb : Str → Option Value) (dp un : Nat) (gd : Option (List Code)) (cn : Str) (cs : Scope) (a : Addr) (ccd : Value) (cl : List (Str × Addr)) (outer : List Env)
    (A₀ : Around) (base h₀ : Heap) (L : Addr) (m : Str → Option Value) (s : Shared) (Q E : Value → Shared → Prop),
    Below A₀ base outer h₀ → Fr h₀ L s.heap m → (hd.heap_39 w.params).In h₀ → Top p loose mean mg mb h₀ → cs.kind = .function → dp + room < recursionLimit → un + 8 * room < cLine → Pre s.heap →
    (∀ h' tk r, s.heap.StaysIn h' → Post s.heap h' r → Q r { s with heap := h', toks := tk }) →
    wpAny (model prog w) (ktrTop dp un gd cn cs L a ccd cl outer) (call (.ref f) vs) Q E s
end

local macro_rules | `(tactic| walk_at "zn liftB") => `(tactic| (rename Below _ _ _ _ => B'; k_lift B'))
local macro_rules | `(tactic| walk_at "zn cellsY") => `(tactic| (rename CellsAre _ _ _ => Y'; k_cells Y'))
local macro_rules | `(tactic| walk_at $s:str) => `(tactic| k_extra $s)
section
set_option maxRecDepth 100000

/-- a book: names and counts in the dict's order -/
abbrev Bk := List (Str × Int)
abbrev encD (l : Bk) : List (PyData × PyData) := l.map fun p => (.str p.1, .int p.2)
abbrev SD (prog : Program) (w : World) (h : Heap) (d : Addr) (l : Bk) : Prop := StrTab prog w h d (encD l)
/-- the same of an object -/
def SDO (prog : Program) (w : World) (o : Obj) (l : Bk) : Prop := ∃ kvs, o.IsDictOf (PySem.strKind prog w) kvs ∧ FlatPairs PyData.str kvs (encD l)

def look (l : Bk) (k : Str) : Option Int := (l.find? fun p => p.1 = k).map (·.2)
def getZ (l : Bk) (k : Str) : Int := (look l k).getD 0
def put (l : Bk) (k : Str) (v : Int) : Bk := if l.any (fun p => p.1 = k) then l.map (fun p => if p.1 = k then (p.1, v) else p) else l ++ [(k, v)]
def addB (l l' : Bk) : Bk := l'.foldl (fun a p => put a p.1 (getZ a p.1 + p.2)) l
def keysOf (l : Bk) : List Str := l.map (·.1)

theorem same_strs (a b : Str) : Spec.same (.str a) (.str b) = decide (a = b) := PyProof.V.same_str a b

theorem lookup_enc (l : Bk) (k : Str) : Spec.lookup (.str k) (encD l) = (look l k).map PyData.int := by
  induction l with
  | nil => rfl
  | cons p r ih =>
    obtain ⟨a, b⟩ := p
    show (if Spec.same (.str a) (.str k) then some (PyData.int b) else Spec.lookup (.str k) (encD r)) = _
    rw [same_strs, ih]
    unfold look
    by_cases h : a = k
    · simp [h]
    · simp [h]

theorem putD_enc (l : Bk) (k : Str) (v : Int) : putD (.str k) (.int v) (encD l) = encD (put l k v) := by
  unfold putD put
  have e1 : (encD l).any (fun p => Spec.same p.1 (.str k)) = l.any (fun p => p.1 = k) := by
    induction l with
    | nil => rfl
    | cons p r ih => obtain ⟨a, b⟩ := p; simp only [encD, List.map_cons, List.any_cons, same_strs] at ih ⊢; rw [ih]
  rw [e1]
  split
  · clear e1
    rename_i h; clear h
    induction l with
    | nil => rfl
    | cons p r ih =>
      obtain ⟨a, b⟩ := p
      simp only [encD, List.map_cons, same_strs] at ih ⊢
      rw [ih]
      congr 1
      by_cases h : a = k <;> simp [h]
  · simp [encD]

theorem put_fresh {l : Bk} {k : Str} (v : Int) (h : k ∉ keysOf l) : put l k v = l ++ [(k, v)] := by
  unfold put
  rw [if_neg]
  intro hc
  obtain ⟨p, hp, e⟩ := List.any_eq_true.mp hc
  exact h (List.mem_map.mpr ⟨p, hp, of_decide_eq_true e⟩)
theorem take_put {l : Bk} {i : Nat} {k : Str} {c : Int} (hn : (keysOf l).Nodup) (hi : l[i]? = some (k, c)) : put (l.take i) k c = l.take (i + 1) := by
  have hlt : i < l.length := (List.getElem?_eq_some_iff.mp hi).1
  rw [put_fresh, List.take_add_one, hi]
  · rfl
  · intro hm
    obtain ⟨p, hp, e⟩ := List.mem_map.mp hm
    obtain ⟨j, hj, hp⟩ := List.getElem_of_mem hp
    have hj' : j < i := by
      have := hj
      simp only [List.length_take] at this
      omega
    have e1 : (keysOf l)[j]? = some k := by
      have : l[j]? = some p := by rw [← hp]; simp [List.getElem?_eq_getElem (show j < l.length by omega)]
      simp [keysOf, this, e]
    have e2 : (keysOf l)[i]? = some k := by simp [keysOf, hi]
    have hj2 : j < (keysOf l).length := by simp [keysOf]; omega
    have := (List.getElem?_inj hj2 hn).mp (e1.trans e2.symm)
    omega
theorem put_length (l : Bk) (k : Str) (v : Int) : (put l k v).length ≤ l.length + 1 := by
  unfold put
  split <;> simp
theorem addB_step {l l' : Bk} {i : Nat} {k : Str} {c : Int} (hi : l'[i]? = some (k, c)) : addB l (l'.take (i + 1)) = put (addB l (l'.take i)) k (getZ (addB l (l'.take i)) k + c) := by
  unfold addB
  rw [List.take_add_one, hi, List.foldl_append]
  rfl
theorem addB_length (l l' : Bk) : (addB l l').length ≤ l.length + l'.length := by
  unfold addB
  induction l' generalizing l with
  | nil => simp
  | cons p r ih =>
    rw [List.foldl_cons]
    have h1 := ih (put l p.1 (getZ l p.1 + p.2))
    have h2 := put_length l p.1 (getZ l p.1 + p.2)
    simp only [List.length_cons]
    omega

theorem enc_get {l : Bk} {i : Nat} {k : Str} {c : Int} (h : l[i]? = some (k, c)) : (encD l)[i]? = some (.str k, .int c) := by
  simp [encD, h]

theorem encD_length (l : Bk) : (encD l).length = l.length := by simp

/-- the pairs behind a book -/
theorem flat_at {kvs : List (Str × Value)} {l : Bk} (hf : FlatPairs PyData.str kvs (encD l)) {i : Nat} {k : Str} {v : Value} (hx : kvs[i]? = some (k, v)) : ∃ c t, l[i]? = some (k, c) ∧ v = .int c t := by
  induction l generalizing kvs i with
  | nil => cases hf; simp at hx
  | cons p r ih =>
    obtain ⟨a, b⟩ := p
    cases hf with
    | cons hv hr =>
      cases i with
      | zero =>
        simp only [List.getElem?_cons_zero, Option.some.injEq, Prod.mk.injEq] at hx
        obtain ⟨rfl, rfl⟩ := hx
        obtain ⟨t, rfl⟩ := Flat.int_inv hv
        exact ⟨b, t, rfl, rfl⟩
      | succ i => exact ih hr (by simpa using hx)

theorem flat_keys {kvs : List (Str × Value)} {l : Bk} (hf : FlatPairs PyData.str kvs (encD l)) : kvs.map (·.1) = keysOf l := by
  induction l generalizing kvs with
  | nil => cases hf; rfl
  | cons p r ih =>
    obtain ⟨a, b⟩ := p
    cases hf with
    | cons hv hr => simp only [List.map_cons, keysOf] at ih ⊢; rw [ih hr]

theorem SD.nodup {prog : Program} {w : World} {h : Heap} {d : Addr} {l : Bk} (T : SD prog w h d l) : (keysOf l).Nodup := by
  obtain ⟨_, kvs, hd, hf⟩ := T
  obtain ⟨_, _, _, _, _, _, _, _, hn⟩ := hd
  exact flat_keys hf ▸ hn
theorem SD.keep {prog : Program} {w : World} {h h' : Heap} {d : Addr} {l : Bk} (T : SD prog w h d l) (hk : h.StaysIn h') : SD prog w h' d l := TabAt.keep T hk
theorem SD.there {prog : Program} {w : World} {h : Heap} {d : Addr} {l : Bk} (T : SD prog w h d l) : ∃ o, h.get? d = some o := by
  obtain ⟨_, kvs, hd, hf⟩ := T
  obtain ⟨o, _, _, ho, _⟩ := hd
  exact ⟨o, ho⟩
theorem SD.lo {prog : Program} {w : World} {h : Heap} {d : Addr} {l : Bk} (T : SD prog w h d l) : (d == sysModules) = false := T.1
theorem SDO.sd {prog : Program} {w : World} {h : Heap} {d : Addr} {o : Obj} {l : Bk} (S : SDO prog w o l) (lo : (d == sysModules) = false) (ho : h.get? d = some o) : SD prog w h d l := by
  obtain ⟨kvs, hd, hf⟩ := S
  exact TabAt.ofObj lo ho hd hf
theorem SD.obj {prog : Program} {w : World} {h : Heap} {d : Addr} {l : Bk} (T : SD prog w h d l) : ∃ o, h.get? d = some o ∧ SDO prog w o l := by
  obtain ⟨_, kvs, hd, hf⟩ := T
  obtain ⟨o, ho, hd⟩ := Heap.dictOf_iff.mp hd
  exact ⟨o, ho, kvs, hd, hf⟩

/-- a name of the frame, laid where the walk sees it -/
theorem see {h₀ h : Heap} {L : Addr} {m : Str → Option Value} {x : Str} {v : Value} (F : Fr h₀ L h m) (e : m x = some v) : Fr h₀ L h (fun y => if y = x then some v else m y) := by
  have q : (fun y => if y = x then some v else m y) = m := by
    funext y
    by_cases h : y = x
    · rw [if_pos h, h, e]
    · rw [if_neg h]
  rw [q]; exact F
theorem stays_of {h₀ h : Heap} {L : Addr} {m : Str → Option Value} (F : Fr h₀ L h m) : h₀.StaysIn h := F.keep
/-- a frame and a ledger over a call that keeps all -/
theorem frOn {h₀ h h' : Heap} {L : Addr} {m : Str → Option Value} (F : Fr h₀ L h m) (hk : h.StaysIn h') : Fr h₀ L h' m := ⟨F.ns.keeps hk, fun b o e => hk b o (F.keep b o e), F.above⟩
theorem newsOn {h₀ h h' : Heap} {L : Addr} {news : List (Addr × Obj)} (N : News h₀ L h news) (hk : h.StaysIn h') : News h₀ L h' news := fun p hp => ⟨hk _ _ (N p hp).1, (N p hp).2⟩
/-- what a call made -/
def Fresh (h h' : Heap) (tl : List (Addr × Obj)) : Prop := ∀ p ∈ tl, h'.get? p.1 = some p.2 ∧ h.get? p.1 = none
theorem newsAdd {h₀ h h' : Heap} {L : Addr} {m : Str → Option Value} {news tl : List (Addr × Obj)} (F : Fr h₀ L h m) (N : News h₀ L h news) (hk : h.StaysIn h') (ht : Fresh h h' tl) : News h₀ L h' (tl ++ news) := by
  intro p hp
  rcases List.mem_append.mp hp with hp | hp
  · obtain ⟨h1, h2⟩ := ht p hp
    refine ⟨h1, fun e => ?_, ?_⟩
    · obtain ⟨oL, _, _, hL, _⟩ := F.ns
      rw [e, hL] at h2
      cases h2
    · cases q : h₀.get? p.1 with
      | none => rfl
      | some o => rw [F.keep _ _ q] at h2; cases h2
  · exact newsOn N hk p hp

section
variable {prog : Program} {w : World} {A : Around} {E : Value → Shared → Prop} {s : Shared} {env : Env} {h₀ : Heap} {body : List Stmt} {Q : Flow → Shared → Prop}

/-- what a turn leaves -/
def TurnZ (h₀ : Heap) (L : Addr) (own : List (Addr × Obj)) (adr : List Addr) (J : (Str → Option Value) → List (Addr × Obj) → Prop) (s₁ : Shared) (s₂ : Shared) : Prop :=
  ∃ h' tk m₂ news₂, s₂ = { s₁ with heap := h', toks := tk } ∧ Fr h₀ L h' m₂ ∧ News h₀ L h' (own ++ news₂) ∧ news₂.map (·.1) = adr ∧ J m₂ news₂
/-- a turn's end, whatever way it takes -/
def EndZ (h₀ : Heap) (L : Addr) (own : List (Addr × Obj)) (adr : List Addr) (J : (Str → Option Value) → List (Addr × Obj) → Prop) (Q : Flow → Shared → Prop) (s₁ : Shared) (f : Flow) (s₂ : Shared) : Prop :=
  match f with
  | .ret v => Q (.ret v) s₂
  | .brk => Q .next s₂
  | _ => TurnZ h₀ L own adr J s₁ s₂

theorem turn_off {wr : List Addr} {a b : List (Addr × Obj)} (e : b.map (·.1) = a.map (·.1)) (h : ∀ p ∈ a, p.1 ∉ wr) : ∀ p ∈ b, p.1 ∉ wr := off_of_same_addrs e h

theorem EndZ.v {L : Addr} {own news₁ : List (Addr × Obj)} {wr : List Addr} {J : (Str → Option Value) → List (Addr × Obj) → Prop} {s₁ : Shared} {f : Flow} {s₂ : Shared} (hoff : ∀ p ∈ news₁, p.1 ∉ wr) (h : EndZ h₀ L own (news₁.map (·.1)) J Q s₁ f s₂) :
    LoopStepV h₀ L wr own J s₁ (fun v s' => Q (.ret v) s') (fun s' => Q .next s') f s₂ := by
  have fin : TurnZ h₀ L own (news₁.map (·.1)) J s₁ s₂ → LoopStepU h₀ L wr own J s₁ .next s₂ := by
    rintro ⟨h', tk, m₂, news₂, rfl, F, N, ha, hJ⟩
    exact ⟨rfl, h', tk, m₂, news₂, rfl, F, N, turn_off ha hoff, hJ⟩
  cases f with
  | ret v => exact .ret h
  | brk => exact .brk h
  | next => exact .next (fin h)
  | cont => exact .cont (fin h)

/-- for k, v in d.items(): the dict of the ground; any turn -/
theorem turnsItems {xk xv : Str} {pk pv pt : Pos} {x1 : Nat} {d vw : Addr} {l : Bk} {m₀ : Str → Option Value} {news : List (Addr × Obj)}
    (hh : A.handled = none) (hxk : env.kindOf xk = some .local) (hxv : env.kindOf xv = some .local)
    (hp : (env.scope.kind == .class || (env.scope.kind == .module && env.locals != env.globals)) = false)
    (F : Fr h₀ env.locals s.heap m₀) (N : News h₀ env.locals s.heap news) (hvw : s.heap.IsItemsView vw d) (T : SD prog w h₀ d l)
    (J : Nat → (Str → Option Value) → List (Addr × Obj) → Prop) (h0 : J 0 m₀ news)
    (step : ∀ i k c tk t m₁ news₁ h₁ tks own, l[i]? = some (k, c) → J i m₁ news₁ → (∀ p ∈ news₁, ∀ q ∈ own, q.1 ≠ p.1) →
      Fr h₀ env.locals h₁ (fun y => if y = xv then some (.int c t) else if y = xk then some (.str k tk) else m₁ y) → News h₀ env.locals h₁ (own ++ news₁) →
      wpAny (model prog w) A (execs body env) (EndZ h₀ env.locals own (news₁.map (·.1)) (J (i + 1)) Q { s with heap := h₁, toks := tks }) E { s with heap := h₁, toks := tks })
    (done : ∀ h' tk m' news', Fr h₀ env.locals h' m' → News h₀ env.locals h' news' → J l.length m' news' → Q .next { s with heap := h', toks := tk }) :
    wpAny (model prog w) A (pyIter (.ref vw)) (fun it s₂ => TurnsAt prog w A h₀ env (.Tuple [.Name xk pk, .Name xv pv] x1 pt) body Q E it s₂) E s := by
  obtain ⟨od₀, hod₀⟩ := T.there
  obtain ⟨_, kvs, hdo, hf⟩ := T.keep F.keep
  obtain ⟨ep, hat⟩ := hdo.dictAt
  have hlen : kvs.length = l.length := by rw [← hf.length, encD_length]
  have hdlt : d < h₀.objs.size := Heap.lt_size hod₀
  have hLd : env.locals ≠ d := fun e => absurd (Nat.lt_of_lt_of_le hdlt F.above) (e ▸ Nat.lt_irrefl _)
  have hne : d ≠ s.heap.objs.size := Nat.ne_of_lt hat.lt_size
  refine wpAny_pyIter_items (knd := PySem.strKind prog w) (d := d) (kvs := kvs) (ep := ep) hvw hat ?_
  refine ⟨_, _, _, _, _, _, _, m₀, news, J, rfl, kti_itemsTurns (knd := PySem.strKind prog w) hh s.heap.objs.size d hne kvs ep, ?_, ?_, ?_, ⟨⟨.none, .none, Heap.get?_push_size _ rfl⟩, hat.push _⟩, F.push _, (fun p hp => ⟨Heap.get?_push_of_some _ (N p hp).1, (N p hp).2⟩), h0, ?_, ?_⟩
  · intro hm
    rcases List.mem_cons.mp hm with e | hm
    · exact absurd F.ns.lt (e ▸ Nat.lt_irrefl _)
    · exact hLd (List.mem_singleton.mp hm)
  · intro b hb
    rw [List.mem_singleton.mp hb]
    exact next_is_new F
  · intro p hp hI
    exact absurd (Heap.lt_size (N p hp).1) ((List.mem_singleton.mp hI) ▸ Nat.lt_irrefl _)
  · rintro i v m₁ news₁ h₁ tk₁ own hi ⟨Tu, key, k, x, rfl, hx, hkey, hT⟩ hJ hoff hown _ _ _ F₁ N₁
    obtain ⟨c, t, hli, rfl⟩ := flat_at hf hx
    obtain ⟨tk, rfl⟩ := Value.isStrOf_shape hkey
    have hsep : ∀ p ∈ news₁, ∀ q ∈ own, q.1 ≠ p.1 := by
      intro p hp q hq e
      rcases List.mem_cons.mp (hown q hq) with h1 | h1
      · exact hoff p hp (by rw [← e, h1]; exact List.mem_singleton.mpr rfl)
      · have h2 := List.mem_singleton.mp h1
        have h3 := (N₁ p (List.mem_append_right _ hp)).2.2
        rw [← e, h2, hod₀] at h3
        cases h3
    refine wpAny_assign_Tuple hh hT rfl rfl fun h₃ hx₃ => ?_
    have up₃ : ∀ b o, h₁.get? b = some o → h₃.get? b = some o := fun b o x => hx₃ b o (Nat.ne_of_lt (Heap.lt_size x)) x
    have F₃ : Fr h₀ env.locals h₃ m₁ := ⟨F₁.ns.at' fun o x => up₃ _ o x, fun b o e => up₃ b o (F₁.keep b o e), F₁.above⟩
    have N₃ : News h₀ env.locals h₃ (own ++ news₁) := fun p hp => ⟨up₃ _ _ (N₁ p hp).1, (N₁ p hp).2⟩
    show wpAny _ _ (do holding [.int c t] (assign (.Name xk pk) env (.str k tk)); do holding [] (assign (.Name xv pv) env (.int c t)); pure ()) _ _ _
    refine wpAny_bind (wpAny_holding (wpAny_assign_Name (wpAny_storeName_local hxk F₃.ns (fun h₄ hn₄ hs₄ => ?_) hp)))
    have F₄ := F₃.set hn₄ hs₄
    refine wpAny_bind (wpAny_holding (wpAny_assign_Name (wpAny_storeName_local hxv F₄.ns (fun h₅ hn₅ hs₅ => wpAny_pure ?_) hp)))
    have F₅ := F₄.set hn₅ hs₅
    have N₅ : News h₀ env.locals h₅ (own ++ news₁) := (N₃.set hs₄).set hs₅
    refine wpAny_mono (step i k c tk t m₁ news₁ h₅ _ own hli hJ hsep F₅ N₅) (fun f s₂ he => ?_) fun _ _ e => e
    have he' : EndZ h₀ env.locals own (news₁.map (·.1)) (J (i + 1)) Q { s with heap := h₁, toks := tk₁ } f s₂ := he
    exact he'.v hoff
  · intro h' tk m' news' F' N' _ hJ
    rw [hlen] at hJ
    exact done h' tk m' news' F' N' hJ

/-- for v in d.values(): the dict of the ground -/
theorem loopValues {x : Str} {d vw : Addr} {l : Bk} {m₀ : Str → Option Value} {news : List (Addr × Obj)}
    (hh : A.handled = none)
    (F : Fr h₀ env.locals s.heap m₀) (N : News h₀ env.locals s.heap news) (hvw : s.heap.IsValuesView vw d) (T : SD prog w h₀ d l)
    (J : Nat → (Str → Option Value) → List (Addr × Obj) → Prop) (h0 : J 0 m₀ news)
    (step : ∀ i k c t m₁ news₁ h₁ tks own, l[i]? = some (k, c) → J i m₁ news₁ → (∀ p ∈ news₁, ∀ q ∈ own, q.1 ≠ p.1) →
      Fr h₀ env.locals h₁ (fun y => if y = x then some (.int c t) else m₁ y) → News h₀ env.locals h₁ (own ++ news₁) →
      wpAny (model prog w) A (execs body env) (EndZ h₀ env.locals own (news₁.map (·.1)) (J (i + 1)) Q { s with heap := h₁, toks := tks }) E { s with heap := h₁, toks := tks })
    (done : ∀ h' tk m' news', Fr h₀ env.locals h' m' → News h₀ env.locals h' news' → J l.length m' news' → Q .next { s with heap := h', toks := tk }) :
    wpAny (model prog w) A (pyIter (.ref vw)) (fun it s₂ => LoopAtV prog w A h₀ env x body Q E it s₂) E s := by
  obtain ⟨od₀, hod₀⟩ := T.there
  obtain ⟨_, kvs, hdo, hf⟩ := T.keep F.keep
  obtain ⟨ep, hat⟩ := hdo.dictAt
  have hlen : kvs.length = l.length := by rw [← hf.length, encD_length]
  have hdlt : d < h₀.objs.size := Heap.lt_size hod₀
  have hLd : env.locals ≠ d := fun e => absurd (Nat.lt_of_lt_of_le hdlt F.above) (e ▸ Nat.lt_irrefl _)
  have hne : d ≠ s.heap.objs.size := Nat.ne_of_lt hat.lt_size
  refine wpAny_pyIter_values (knd := PySem.strKind prog w) (kvs := kvs) (ep := ep) hvw hat ?_
  refine ⟨_, _, _, _, _, _, m₀, news, J, rfl, Walks.dictValues (knd := PySem.strKind prog w) hh s.heap.objs.size d hne kvs ep, ?_, ?_, ?_, ⟨⟨_, Heap.get?_push_size _ rfl, rfl, rfl⟩, hat.push _⟩, F.push _, (fun p hp => ⟨Heap.get?_push_of_some _ (N p hp).1, (N p hp).2⟩), h0, ?_, ?_⟩
  · intro hm
    rcases List.mem_cons.mp hm with e | hm
    · exact absurd F.ns.lt (e ▸ Nat.lt_irrefl _)
    · exact hLd (List.mem_singleton.mp hm)
  · intro b hb
    rw [List.mem_singleton.mp hb]
    exact next_is_new F
  · intro p hp hI
    exact absurd (Heap.lt_size (N p hp).1) ((List.mem_singleton.mp hI) ▸ Nat.lt_irrefl _)
  · rintro i v m₁ news₁ s₁ own ⟨h₁, tk₁, rfl⟩ hi ⟨k, hx⟩ hJ hoff hown _ _ _ F₁ N₁
    obtain ⟨c, t, hli, rfl⟩ := flat_at hf hx
    have hsep : ∀ p ∈ news₁, ∀ q ∈ own, q.1 ≠ p.1 := by
      intro p hp q hq e
      rcases List.mem_cons.mp (hown q hq) with h1 | h1
      · exact hoff p hp (by rw [← e, h1]; exact List.mem_singleton.mpr rfl)
      · have h2 := List.mem_singleton.mp h1
        have h3 := (N₁ p (List.mem_append_right _ hp)).2.2
        rw [← e, h2, hod₀] at h3
        cases h3
    refine wpAny_mono (step i k c t m₁ news₁ h₁ tk₁ own hli hJ hsep F₁ N₁) (fun f s₂ he => ?_) fun _ _ e => e
    have he' : EndZ h₀ env.locals own (news₁.map (·.1)) (J (i + 1)) Q { s with heap := h₁, toks := tk₁ } f s₂ := he
    exact he'.v hoff
  · intro h' tk m' news' F' N' _ hJ
    rw [hlen] at hJ
    exact done h' tk m' news' F' N' hJ

/-- for x in range(n), with an else that is never reached -/
theorem forElse {R : Result → Shared → Prop} {x : Str} {px : Pos} {orelse : List Stmt} {I : Addr} {n : Nat} {m : Str → Option Value} {news : List (Addr × Obj)}
    (hh : A.handled = none) (hx : env.kindOf x = some .local) (hp : (env.scope.kind == .class || (env.scope.kind == .module && env.locals != env.globals)) = false)
    (hIL : env.locals ≠ I) (hin : h₀.get? I = none) (hnw : ∀ p ∈ news, p.1 ≠ I)
    (hit : IsRangeIter s.heap I 0 n 1) (F : Fr h₀ env.locals s.heap m) (N : News h₀ env.locals s.heap news)
    (J : Nat → (Str → Option Value) → List (Addr × Obj) → Prop) (h0 : J 0 m news)
    (step : ∀ (i : Nat) t m₁ news₁ h₁ tks o, i < n → J i m₁ news₁ → (∀ p ∈ news₁, p.1 ≠ I) →
      Fr h₀ env.locals h₁ (fun y => if y = x then some (.int i t) else m₁ y) → News h₀ env.locals h₁ ((I, o) :: news₁) →
      wpAny (model prog w) A (execs body env) (EndZ h₀ env.locals [(I, o)] (news₁.map (·.1)) (J (i + 1)) (fun f s' => R (.ok f) s') { s with heap := h₁, toks := tks }) (notedBy (model prog w) A env fun e s' => R (.error e) s') { s with heap := h₁, toks := tks })
    (last : ∀ m' news', J n m' news' → False) :
    codeAny (model prog w) A (.forLoop (.Name x px) (.ref I) body orelse env) R s := by
  refine codeAny_forLoop
    (fun k s' => ∃ h' tk m' news' i, s' = { s with heap := h', toks := tk } ∧ IsRangeIter h' I (i : Nat) ((n : Int) - (i : Nat)) 1 ∧ Fr h₀ env.locals h' m' ∧ News h₀ env.locals h' news' ∧ (∀ p ∈ news', p.1 ≠ I) ∧ J i m' news' ∧ i ≤ n ∧ k = n + 1 - i) ?_ (n + 1)
    ⟨s.heap, s.toks, m, news, 0, rfl, by simpa using hit, F, N, hnw, h0, Nat.zero_le _, rfl⟩
  rintro k s' ⟨h', tk, m', news', i, rfl, hit', F', N', hnw', hJ, hi, rfl⟩
  by_cases hlt : i < n
  · refine wpAny_pyNext_range_item hit' (by omega) fun h₁ hit₁ hs₁ => ?_
    have F₁ : Fr h₀ env.locals h₁ m' := ⟨F'.ns.sameBut hs₁ hIL, fun b o e => (hs₁.2 b (fun q => by rw [q, hin] at e; cases e)).trans (F'.keep b o e), F'.above⟩
    have N₁ : News h₀ env.locals h₁ news' := fun p hp => ⟨(hs₁.2 p.1 (hnw' p hp)).trans (N' p hp).1, (N' p hp).2⟩
    refine wpAny_assign_Name (wpAny_storeName_local hx F₁.ns (fun h₂ hn₂ hs₂ => ?_) hp)
    have F₂ := F₁.set hn₂ hs₂
    have N₂ := N₁.set hs₂
    have hit₂ := (hs₂.2 I (Ne.symm hIL)).trans hit₁
    have N₃ : News h₀ env.locals h₂ ((I, _) :: news') := fun p hp => by
      rcases List.mem_cons.mp hp with rfl | hp
      · exact ⟨hit₂, Ne.symm hIL, hin⟩
      · exact N₂ p hp
    refine wpAny_mono (step i _ m' news' h₂ _ _ hlt hJ hnw' F₂ N₃) (fun f s₃ h₃ => ?_) fun _ _ e => e
    have fin : TurnZ h₀ env.locals [(I, { cls := .type "range_iterator", data := .fields #[rawInt ((i : Int) + 1), rawInt ((n : Int) - i - 1), rawInt 1] })] (news'.map (·.1)) (J (i + 1)) { s with heap := h₂, toks := tk + 1 + 1 } s₃ →
        ∃ k, k < n + 1 - i ∧ ∃ h' tk m' news' i, s₃ = { s with heap := h', toks := tk } ∧ IsRangeIter h' I (i : Nat) ((n : Int) - (i : Nat)) 1 ∧ Fr h₀ env.locals h' m' ∧ News h₀ env.locals h' news' ∧ (∀ p ∈ news', p.1 ≠ I) ∧ J i m' news' ∧ i ≤ n ∧ k = n + 1 - i := by
      rintro ⟨h₃', tk₃, m₂, news₂, rfl, F₃, N₃', ha, hJ₃⟩
      refine ⟨n + 1 - (i + 1), by omega, h₃', tk₃, m₂, news₂, i + 1, rfl, ?_, F₃, fun p hp => N₃' p (List.mem_append_right _ hp), fun p hp => ?_, hJ₃, hlt, rfl⟩
      · have e2 : (n : Int) - ((i + 1 : Nat) : Int) = (n : Int) - (i : Int) - 1 := by omega
        have := (N₃' (I, _) (List.mem_append_left _ (.head _))).1
        rw [e2]
        exact this
      · have h1 : p.1 ∈ news'.map (·.1) := ha ▸ List.mem_map_of_mem hp
        obtain ⟨q, hq, e⟩ := List.mem_map.mp h1
        exact e ▸ hnw' q hq
    cases f with
    | ret v => exact h₃
    | brk => exact h₃
    | next => exact fin h₃
    | cont => exact fin h₃
  · have hin' : i = n := by omega
    subst hin'
    exact (last _ _ hJ).elim
theorem loopElse {x : Str} {px : Pos} {orelse : List Stmt} {r : Addr} {n : Nat} {t u v : Tok} {m : Str → Option Value} {news : List (Addr × Obj)}
    (hh : A.handled = none) (hx : env.kindOf x = some .local) (hp : (env.scope.kind == .class || (env.scope.kind == .module && env.locals != env.globals)) = false)
    (hr : IsRange s.heap r 0 n 1 t u v) (hs : Builtin.Range.small 0 n 1 = true) (hn : Builtin.Range.rangeSize 0 n 1 = n) (F : Fr h₀ env.locals s.heap m) (N : News h₀ env.locals s.heap news)
    (J : Nat → (Str → Option Value) → List (Addr × Obj) → Prop) (h0 : J 0 m news)
    (step : ∀ (i : Nat) I t m₁ news₁ h₁ tks o, i < n → J i m₁ news₁ → (∀ p ∈ news₁, p.1 ≠ I) →
      Fr h₀ env.locals h₁ (fun y => if y = x then some (.int i t) else m₁ y) → News h₀ env.locals h₁ ((I, o) :: news₁) →
      wpAny (model prog w) A (execs body env) (EndZ h₀ env.locals [(I, o)] (news₁.map (·.1)) (J (i + 1)) Q { s with heap := h₁, toks := tks }) E { s with heap := h₁, toks := tks })
    (last : ∀ m' news', J n m' news' → False)
    (hE : PassesOwn (model prog w) A env E := by passes_own) :
    wpAny (model prog w) A (pyIter (.ref r)) (fun it s₂ => codeAny (model prog w) A (.forLoop (.Name x px) it body orelse env) (fun r s' => match r with | .ok f => Q f s' | .error e => cameBackBy (model prog w) A env E e s') s₂) E s := by
  refine wpAny_pyIter_range hr hs ?_
  rw [hn]
  refine forElse (R := fun r s' => match r with | .ok f => Q f s' | .error e => cameBackBy (model prog w) A env E e s') hh hx hp (fun e => absurd F.ns.lt (e ▸ Nat.lt_irrefl _)) (next_is_new F) (fun p hp => Nat.ne_of_lt (Heap.lt_size (N p hp).1)) (Heap.get?_push_size _ rfl) (F.push _)
    (fun p hp => ⟨Heap.get?_push_of_some _ (N p hp).1, (N p hp).2⟩) J h0 ?_ last
  intro i t m₁ news₁ h₁ tks o a b c d e
  exact wpAny_passesOwn hE (step i _ t m₁ news₁ h₁ tks o a b c d e)

theorem getItemSD {d : Addr} {l : Bk} {k : Str} {tk : Tok} {x : Int} {R : Value → Shared → Prop} (T : SD prog w s.heap d l) (hx : look l k = some x) (h : ∀ t, R (.int x t) { s with toks := s.toks + 1 }) :
    wpAny (model prog w) A (getItem (.ref d) (.str k tk)) R E s := by
  obtain ⟨_, kvs, hd, hf⟩ := T
  have hl : Spec.lookup (.str k) (encD l) = some (.int x) := by rw [lookup_enc, hx]; rfl
  obtain ⟨v, hv, hfl⟩ := hf.of_lookup PyProof.V.same_str hl
  obtain ⟨t, rfl⟩ := Flat.int_inv hfl
  exact wpAny_getItem_of (knd := PySem.strKind prog w) (strKind_is prog w k tk) hd.mapOf hv (h t)
theorem sd_news {h : Heap} {L d : Addr} {o : Obj} {l : Bk} {news : List (Addr × Obj)} {kvs : List (Str × Value)} (N : News h₀ L h news) (hm : (d, o) ∈ news) (lo : (d == sysModules) = false) (hd : o.IsDictOf (PySem.strKind prog w) kvs) (hf : FlatPairs PyData.str kvs (encD l)) : SD prog w h d l :=
  TabAt.ofNews N hm lo hd hf
theorem look_some {l : Bk} {k : Str} (h : (Spec.lookup (.str k) (encD l)).isSome = true) : look l k = some (getZ l k) := by
  rw [lookup_enc] at h
  unfold getZ
  cases q : look l k with
  | none => rw [q] at h; cases h
  | some x => rfl
theorem look_none {l : Bk} {k : Str} (h : (Spec.lookup (.str k) (encD l)).isSome = false) : getZ l k = 0 := by
  rw [lookup_enc] at h
  unfold getZ
  cases q : look l k with
  | none => rfl
  | some x => rw [q] at h; cases h

/-- d.values(), d.items() -/
theorem callValues {L : Addr} {m : Str → Option Value} {news : List (Addr × Obj)} {d : Addr} {l : Bk} {R : Value → Shared → Prop} (F : Fr h₀ L s.heap m) (N : News h₀ L s.heap news) (T : SD prog w h₀ d l)
    (h : ∀ h', h'.IsValuesView s.heap.objs.size d → Fr h₀ L h' m → News h₀ L h' news → R (.ref s.heap.objs.size) { s with heap := h' }) : wpAny (model prog w) A (call (.builtin "dict.values") [.ref d]) R E s := by
  obtain ⟨lo, kvs, hD, _⟩ := T.keep F.keep
  exact call_meetsIn PySem.F.slot_dict_values hD.typeIs PySem.F.entry_dict_values (PySem.F.args_dict_values_1 _) (meets_dict_values (PySem.strKind prog w) d lo) ⟨⟨kvs, hD⟩, h _ ⟨_, Heap.get?_push_size _ rfl, rfl, rfl⟩ (F.push _) fun p hp => ⟨Heap.get?_push_of_some _ (N p hp).1, (N p hp).2⟩⟩
theorem callItems {L : Addr} {m : Str → Option Value} {news : List (Addr × Obj)} {d : Addr} {l : Bk} {R : Value → Shared → Prop} (F : Fr h₀ L s.heap m) (N : News h₀ L s.heap news) (T : SD prog w h₀ d l)
    (h : ∀ h', h'.IsItemsView s.heap.objs.size d → Fr h₀ L h' m → News h₀ L h' news → R (.ref s.heap.objs.size) { s with heap := h' }) : wpAny (model prog w) A (call (.builtin "dict.items") [.ref d]) R E s := by
  obtain ⟨lo, kvs, hD, _⟩ := T.keep F.keep
  exact call_meetsIn PySem.F.slot_dict_items hD.typeIs PySem.F.entry_dict_items (PySem.F.args_dict_items_1 _) (meets_dict_items (PySem.strKind prog w) d lo) ⟨⟨kvs, hD⟩, h _ ⟨_, Heap.get?_push_size _ rfl, rfl, rfl⟩ (F.push _) fun p hp => ⟨Heap.get?_push_of_some _ (N p hp).1, (N p hp).2⟩⟩
theorem methItems {pl : Sem Bool} {Q : Value × List Value → Shared → Prop} {d : Addr} {l : Bk} (T : SD prog w s.heap d l) (h : Q (.builtin "dict.items", [.ref d]) s) : wpAny (model prog w) A (getMethod (.ref d) "items" pl) Q E s := by
  obtain ⟨lo, kvs, hD, _⟩ := T
  exact getMethod_builtin hD.typeIs PySem.F.plainAttrs_dict PySem.F.slot_dict_items PySem.F.type_dict_items hD.mapOf.noDict h
end
end

section
theorem wordsZn3A1 : True := by
  k_with_none
  k_with "zn st" => ((case k1 => k_asm); (case k2 => k_asm); (case k3 => k_asm); (case k4 => k_asm); (case k5 => k_asm); (case kK => first | exact rfl | assumption); (case kd => ktr_room); (case ku => ktr_units))
  k_with "zn yst" => ((case y1 => k_asm); (case y2 => k_asm); (case y3 => k_asm); (case y4 => k_asm); (case y5 => k_asm); (case yK => exact rfl); (case yd => first | ktr_room | decide); (case yu => first | ktr_units | decide))
  k_with "zn tail7" => (rintro hh7 tk7 r7 ⟨dd7, oo7, rfl, lo7, S7, hf7⟩ hN7 hO7 F7 N7; (have N9 := hN7 _ hf7); (have O9 := hO7 _ (hf7 _ (.head _)).2); (simp only [LCg.Off1, and_true] at O9); (simp only [List.cons_append, List.nil_append] at N9); clear hN7 hO7 N7 hf7)
  k_with "zn enterS" => (refine' enterS ?k1 ?k2 ?k3 ?k5 ?kA ?kF ?kK ?k6 ?k7 ?k8 ?k9 ?kB ?_ ?c2 ?c3 ?c4 ?c5; (case kA => exact rfl); (case kF => exact rfl); (case kK => assumption); (case k1 => k_asm); (case k2 => k_asm); (case k3 => k_asm); (case k5 => k_asm); (case k6 => k_is); (case k7 => k_is); (case k8 => ktr_room); (case k9 => exact BindsTo.of_eq rfl); (case c5 => decide); (case kB => exact locs rfl); (case c2 => exact rfl); (case c3 => exact rfl); (case c4 => exact rfl); k_whole; intro _ _ _ _ _ _ _; (try dsimp only); (try walk_at "zn liftB"); (try k_fold))
  k_with "zn enterC" => (refine' enterC ?k1 ?k2 ?k3 ?k5 ?kA ?kF ?kK ?k6 ?k7 ?k8 ?k9 ?kB ?kD ?_ ?c2 ?c3 ?c4; (case kA => exact rfl); (case kF => exact rfl); (case kK => assumption); (case k1 => k_asm); (case k2 => k_asm); (case k3 => k_asm); (case k5 => k_asm); (case k6 => k_is); (case k7 => k_is); (case k8 => ktr_room); (case k9 => exact BindsTo.of_eq rfl); (case kB => exact rfl); (case kD => decide +kernel); (case c2 => exact rfl); (case c3 => exact rfl); (case c4 => exact rfl); k_whole; intro _ _ _ _ _ _ _ _ _ _; (try dsimp only); (try walk_at "zn liftB"); (try k_fold); walk_at "zn cellsY")
  k_with "zn k_sub" => ((intro p hp; repeat (first | exact hp | refine List.mem_cons_of_mem _ ?_)))
  k_with "zn sd_there" => (first | exact SD.keep (by assumption) (Fr.keep (by assumption)) | exact Held.sd (by assumption) (by assumption) (by assumption) (by walk_at "zn k_sub") | exact sd_news (by assumption) (by k_mem) (by assumption) (by assumption) (by assumption) | exact SDO.sd (by assumption) (by assumption) (News.get (by assumption) (by k_mem)))
  k_with "zn memg" => (first | exact List.Mem.head _ | (refine List.Mem.tail _ ?_; walk_at "zn memg"))
  k_with "zn li" => (((rename News _ _ _ _ => kN9); first | exact News.isList kN9 (by walk_at "zn memg") | is_list))
  k_with "zn cj_go" => ((first | exact And.left (by with_reducible assumption) | exact cj2 (by with_reducible assumption) | exact cj3 (by with_reducible assumption) | exact cj4 (by with_reducible assumption) | exact cj5 (by with_reducible assumption) | exact cj6 (by with_reducible assumption) | exact cj7 (by with_reducible assumption) | exact cj8 (by with_reducible assumption) | exact cj9 (by with_reducible assumption) | exact cj10 (by with_reducible assumption) | exact cj11 (by with_reducible assumption) | exact cj12 (by with_reducible assumption) | exact cj13 (by with_reducible assumption) | exact cj14 (by with_reducible assumption) | exact cj15 (by with_reducible assumption) | exact cj16 (by with_reducible assumption) | exact cj17 (by with_reducible assumption) | exact cj18 (by with_reducible assumption) | exact cl2 (by with_reducible assumption) | exact cl3 (by with_reducible assumption) | exact cl4 (by with_reducible assumption) | exact cl5 (by with_reducible assumption) | exact cl6 (by with_reducible assumption) | exact cl7 (by with_reducible assumption) | exact cl8 (by with_reducible assumption) | exact cl9 (by with_reducible assumption)))
  k_with "zn ne_go" => (((try dsimp only); (show @Ne Nat _ _); first | exact nn1 _ | exact Ne.symm (nn1 _) | exact nn2 _ | exact Ne.symm (nn2 _) | exact nn3 _ | exact Ne.symm (nn3 _) | exact nn4 _ | exact Ne.symm (nn4 _) | exact nn5 _ | exact Ne.symm (nn5 _) | exact Ne.symm (by walk_at "zn cj_go") | exact Nat.ne_of_gt (by walk_at "zn cj_go") | exact (by walk_at "zn cj_go")))
  k_with "zn fa_go" => (repeat (first | refine fa_cons (by walk_at "zn ne_go") ?_ | exact fa_nil))
  k_with "zn upd_go" => (repeat' (first | (refine' UpdF.head ?_; walk_at "zn fa_go") | refine' UpdF.tail (by walk_at "zn ne_go") ?_))
  k_with "zn ct_close" => (((case k1 => k_asm); (case k2 => k_asm); (case k3 => k_asm); (case k4 => k_asm); (case k5 => k_asm); (case kK => exact rfl); (case kd => first | ktr_room | decide); (case ku => first | ktr_units | decide)))
  k_with "zn h0" => (k_here; k_dflt (refine LCg.CompSrc.range (by rfl) (by k_asm) (by k_asm) (by assumption) (by first | decide | rfl) (by first | rfl | decide) (by first | size_fits | exact Nat.le_of_ble_eq_true rfl) ?_; intro _; lcg_lit))
  trivial
set_option maxRecDepth 100000
set_option maxHeartbeats 8000000
theorem fillA : PySem.Challenge.rw_zn0003_01 = PySem.Challenge.rw_zn0003_01 ∧ hd.heap_39 = hd.heap_39 := by
  k_fill
  w_top off
  exact ⟨rfl, rfl⟩


theorem count_calls_ct (prog : Program) (w : World) (d : Addr) (l : Bk) : Ct prog w 43 2 [.ref d] (fun h => SD prog w h d l) (fun _ _ r => ∃ t, r = .int (l.map (·.2)).sum t) := by
  intro p loose mean mg mb dp un gd cn cs a ccd cl outer A₀ base h₀ L m s Q E B F X T hk hdp hun hpre hret
  have hpre' : StrTab prog w s.heap d (encD l) := hpre
  refine wpAny_call ?_
  k_dflt (walk_at "zn enterS")
  k_steps
  rename_i F1 N1
  refine callValues F1 N1 hpre ?_
  intro h1 hv1 F2 N2
  refine loopValues rfl F2 N2 hv1 hpre (fun i m' nx => nx = [] ∧ ∃ t, m' (Str.ofString "nc") = some (.int ((l.take i).map (·.2)).sum t)) ⟨rfl, _, rfl⟩ ?_ ?_
  · intro i k c t m₁ news₁ h₁ tks own hi hJ hsep F3 N3
    obtain ⟨rfl, t', ht'⟩ := hJ
    have F4 := see F3 (x := Str.ofString "nc") ht'
    clear F3
    have e : ((l.take (i + 1)).map (·.2)).sum = ((l.take i).map (·.2)).sum + c := by
      rw [List.take_add_one, hi]; simp
    k_steps
    rename_i F5 N5
    rw [e]
    exact ⟨_, _, _, [], rfl, F5, N5, rfl, rfl, _, rfl⟩
  · intro h' tk m' news' F3 N3 hJ
    obtain ⟨rfl, t', ht'⟩ := hJ
    have F4 := see F3 (x := Str.ofString "nc") ht'
    clear F3
    k_steps
    exact hret _ _ _ F4.keep ⟨_, by rw [List.take_length]⟩

theorem add_callers_ct (prog : Program) (w : World) (d e : Addr) (l l' : Bk) (hl : l.length ≤ 100) (hl' : l'.length ≤ 100) : Ct prog w 36 2 [.ref d, .ref e] (fun h => SD prog w h d l ∧ SD prog w h e l')
    (fun h h' r => ∃ b o, r = .ref b ∧ (b == sysModules) = false ∧ SDO prog w o (addB l l') ∧ Fresh h h' [(b, o)]) := by
  intro p loose mean mg mb dp un gd cn cs a ccd cl outer A₀ base h₀ L m s Q E B F X T hk hdp hun hpre hret
  obtain ⟨hT, hT2⟩ := hpre
  refine wpAny_call ?_
  k_dflt (walk_at "zn enterS")
  k_steps
  rename_i d1 h1 o1 lo1 hs1 fs1 _ _ _ h2 F1 N1
  refine For_turns F1 ?_
  k_steps
  refine callItems F1 N1 hT ?_
  intro h3 hv3 F3 N3
  refine turnsItems rfl rfl rfl rfl F3 N3 hv3 hT (fun i m' nx => (∃ o, nx = [(d1, o)] ∧ SDO prog w o (l.take i)) ∧ m' (Str.ofString "new_callers") = some (.ref d1) ∧ m' (Str.ofString "source") = some (.ref e)) ⟨⟨o1, rfl, ⟨[], hs1, fs1⟩⟩, rfl, rfl⟩ ?_ ?_
  · intro i k c tk t m₁ news₁ h₁ tks own hi hJ hsep F4 N4
    obtain ⟨⟨o, rfl, kvs, hd4, hf4⟩, hm1, hm2⟩ := hJ
    have F5 := see (see F4 (x := Str.ofString "source") hm2) (x := Str.ofString "new_callers") hm1
    have N5 : News s.heap _ h₁ ((d1, o) :: own) := fun p hp => N4 p (by simpa [or_comm] using hp)
    have hap : ∀ p ∈ own, p.1 ≠ d1 := fun p hp => hsep (d1, o) (by simp) p hp
    clear F4 N4 F3 N3 F1 N1 hs1 fs1 hsep
    have hlt : i < l.length := (List.getElem?_eq_some_iff.mp hi).1
    k_steps
    rename_i h7 o7 F7 N7 hd7 hf7
    rw [putD_enc, take_put hT.nodup hi] at hf7
    exact ⟨_, _, _, [(d1, o7)], rfl, F7, fun p hp => N7 p (by simpa [or_comm] using hp), rfl, ⟨o7, rfl, _, hd7, hf7⟩, rfl, rfl⟩
  · intro h' tk m' news' F4 N4 hJ
    obtain ⟨⟨o, rfl, kvs, hd4, hf4⟩, hm1, hm2⟩ := hJ
    have F5 := see (see F4 (x := Str.ofString "source") hm2) (x := Str.ofString "new_callers") hm1
    rw [List.take_length] at hf4
    clear F4 F3 N3 F1 N1 hs1 fs1
    k_steps
    refine For_turns F5 ?_
    k_steps
    refine callItems (l := l') F5 N4 (by assumption) ?_
    intro h3 hv3 F3 N3
    refine turnsItems (l := l') rfl rfl rfl rfl F3 N3 hv3 (by assumption) (fun i m' nx => (∃ o, nx = [(d1, o)] ∧ SDO prog w o (addB l (l'.take i))) ∧ m' (Str.ofString "new_callers") = some (.ref d1)) ⟨⟨o, rfl, ⟨_, hd4, hf4⟩⟩, rfl⟩ ?_ ?_
    · intro i k c tk t m₁ news₁ h₁ tks own hi hJ hsep F4 N4
      obtain ⟨⟨o, rfl, kvs, hd4, hf4⟩, hm1⟩ := hJ
      have F6 := see F4 (x := Str.ofString "new_callers") hm1
      have N6 : News s.heap _ h₁ ((d1, o) :: own) := fun p hp => N4 p (by simpa [or_comm] using hp)
      have hap : ∀ p ∈ own, p.1 ≠ d1 := fun p hp => hsep (d1, o) (by simp) p hp
      clear F4 N4 F3 N3 hsep F5
      have hlt : i < l'.length := (List.getElem?_eq_some_iff.mp hi).1
      have hlen : (encD (addB l (l'.take i))).length ≤ sizeLine := by
        have := addB_length l (l'.take i)
        rw [encD_length, sizeLine_eq]
        simp only [List.length_take] at this
        omega
      have hst := addB_step (l := l) hi
      k_steps
      · refine getItemSD (l := addB l (l'.take i)) (sd_news N6 (.head _) lo1 (by assumption) hf4) (look_some (by assumption)) ?_
        intro t9
        k_steps
        rename_i h7 o7 F7 N7 hd7 hf7
        rw [putD_enc, ← hst] at hf7
        exact ⟨_, _, _, [(d1, o7)], rfl, F7, fun p hp => N7 p (by simpa [or_comm] using hp), rfl, ⟨o7, rfl, _, hd7, hf7⟩, rfl⟩
      · rename_i h7 o7 F7 N7 hd7 hf7
        rw [look_none (l := addB l (l'.take i)) (k := k) (by assumption), Int.zero_add] at hst
        rw [putD_enc, ← hst] at hf7
        exact ⟨_, _, _, [(d1, o7)], rfl, F7, fun p hp => N7 p (by simpa [or_comm] using hp), rfl, ⟨o7, rfl, _, hd7, hf7⟩, rfl⟩
    · intro h' tk m' news' F4 N4 hJ
      obtain ⟨⟨o, rfl, hS⟩, hm1⟩ := hJ
      have F6 := see F4 (x := Str.ofString "new_callers") hm1
      rw [List.take_length] at hS
      clear F4 F3 N3
      k_steps
      exact hret _ _ _ F6.keep ⟨d1, o, rfl, lo1, hS, fun p hp => ⟨(N4 p hp).1, (N4 p hp).2.2⟩⟩
end

section
theorem wordsZn3B1 : True := by
  k_with_none
  k_with "zn st" => ((case k1 => k_asm); (case k2 => k_asm); (case k3 => k_asm); (case k4 => k_asm); (case k5 => k_asm); (case kK => first | exact rfl | assumption); (case kd => ktr_room); (case ku => ktr_units))
  k_with "zn yst" => ((case y1 => k_asm); (case y2 => k_asm); (case y3 => k_asm); (case y4 => k_asm); (case y5 => k_asm); (case yK => exact rfl); (case yd => first | ktr_room | decide); (case yu => first | ktr_units | decide))
  k_with "zn tail7" => (rintro hh7 tk7 r7 ⟨dd7, oo7, rfl, lo7, S7, hf7⟩ hN7 hO7 F7 N7; (have N9 := hN7 _ hf7); (have O9 := hO7 _ (hf7 _ (.head _)).2); (simp only [LCg.Off1, and_true] at O9); (simp only [List.cons_append, List.nil_append] at N9); clear hN7 hO7 N7 hf7)
  k_with "zn enterS" => (refine' enterS ?k1 ?k2 ?k3 ?k5 ?kA ?kF ?kK ?k6 ?k7 ?k8 ?k9 ?kB ?_ ?c2 ?c3 ?c4 ?c5; (case kA => exact rfl); (case kF => exact rfl); (case kK => assumption); (case k1 => k_asm); (case k2 => k_asm); (case k3 => k_asm); (case k5 => k_asm); (case k6 => k_is); (case k7 => k_is); (case k8 => ktr_room); (case k9 => exact BindsTo.of_eq rfl); (case c5 => decide); (case kB => exact locs rfl); (case c2 => exact rfl); (case c3 => exact rfl); (case c4 => exact rfl); k_whole; intro _ _ _ _ _ _ _; (try dsimp only); (try walk_at "zn liftB"); (try k_fold))
  k_with "zn enterC" => (refine' enterC ?k1 ?k2 ?k3 ?k5 ?kA ?kF ?kK ?k6 ?k7 ?k8 ?k9 ?kB ?kD ?_ ?c2 ?c3 ?c4; (case kA => exact rfl); (case kF => exact rfl); (case kK => assumption); (case k1 => k_asm); (case k2 => k_asm); (case k3 => k_asm); (case k5 => k_asm); (case k6 => k_is); (case k7 => k_is); (case k8 => ktr_room); (case k9 => exact BindsTo.of_eq rfl); (case kB => exact rfl); (case kD => decide +kernel); (case c2 => exact rfl); (case c3 => exact rfl); (case c4 => exact rfl); k_whole; intro _ _ _ _ _ _ _ _ _ _; (try dsimp only); (try walk_at "zn liftB"); (try k_fold); walk_at "zn cellsY")
  k_with "zn k_sub" => ((intro p hp; repeat (first | exact hp | refine List.mem_cons_of_mem _ ?_)))
  k_with "zn sd_there" => (first | exact SD.keep (by assumption) (Fr.keep (by assumption)) | exact Held.sd (by assumption) (by assumption) (by assumption) (by walk_at "zn k_sub") | exact sd_news (by assumption) (by k_mem) (by assumption) (by assumption) (by assumption) | exact SDO.sd (by assumption) (by assumption) (News.get (by assumption) (by k_mem)))
  k_with "zn memg" => (first | exact List.Mem.head _ | (refine List.Mem.tail _ ?_; walk_at "zn memg"))
  k_with "zn li" => (((rename News _ _ _ _ => kN9); first | exact News.isList kN9 (by walk_at "zn memg") | is_list))
  k_with "zn cj_go" => ((first | exact And.left (by with_reducible assumption) | exact cj2 (by with_reducible assumption) | exact cj3 (by with_reducible assumption) | exact cj4 (by with_reducible assumption) | exact cj5 (by with_reducible assumption) | exact cj6 (by with_reducible assumption) | exact cj7 (by with_reducible assumption) | exact cj8 (by with_reducible assumption) | exact cj9 (by with_reducible assumption) | exact cj10 (by with_reducible assumption) | exact cj11 (by with_reducible assumption) | exact cj12 (by with_reducible assumption) | exact cj13 (by with_reducible assumption) | exact cj14 (by with_reducible assumption) | exact cj15 (by with_reducible assumption) | exact cj16 (by with_reducible assumption) | exact cj17 (by with_reducible assumption) | exact cj18 (by with_reducible assumption) | exact cl2 (by with_reducible assumption) | exact cl3 (by with_reducible assumption) | exact cl4 (by with_reducible assumption) | exact cl5 (by with_reducible assumption) | exact cl6 (by with_reducible assumption) | exact cl7 (by with_reducible assumption) | exact cl8 (by with_reducible assumption) | exact cl9 (by with_reducible assumption)))
  k_with "zn ne_go" => (((try dsimp only); (show @Ne Nat _ _); first | exact nn1 _ | exact Ne.symm (nn1 _) | exact nn2 _ | exact Ne.symm (nn2 _) | exact nn3 _ | exact Ne.symm (nn3 _) | exact nn4 _ | exact Ne.symm (nn4 _) | exact nn5 _ | exact Ne.symm (nn5 _) | exact Ne.symm (by walk_at "zn cj_go") | exact Nat.ne_of_gt (by walk_at "zn cj_go") | exact (by walk_at "zn cj_go")))
  k_with "zn fa_go" => (repeat (first | refine fa_cons (by walk_at "zn ne_go") ?_ | exact fa_nil))
  k_with "zn upd_go" => (repeat' (first | (refine' UpdF.head ?_; walk_at "zn fa_go") | refine' UpdF.tail (by walk_at "zn ne_go") ?_))
  k_with "zn ct_close" => (((case k1 => k_asm); (case k2 => k_asm); (case k3 => k_asm); (case k4 => k_asm); (case k5 => k_asm); (case kK => exact rfl); (case kd => first | ktr_room | decide); (case ku => first | ktr_units | decide)))
  k_with "zn h0" => (k_here; k_dflt (refine LCg.CompSrc.range (by rfl) (by k_asm) (by k_asm) (by assumption) (by first | decide | rfl) (by first | rfl | decide) (by first | size_fits | exact Nat.le_of_ble_eq_true rfl) ?_; intro _; lcg_lit))
  trivial
set_option maxRecDepth 100000
set_option maxHeartbeats 8000000
theorem fillB : PySem.Challenge.rw_zn0003_01 = PySem.Challenge.rw_zn0003_01 ∧ hd.heap_39 = hd.heap_39 := by
  k_fill
  w_top off
  exact ⟨rfl, rfl⟩



def flagNames : List Str := [Str.ofString "OPTIMIZED", Str.ofString "NEWLOCALS", Str.ofString "VARARGS", Str.ofString "VARKEYWORDS", Str.ofString "NESTED", Str.ofString "GENERATOR", Str.ofString "NOFREE", Str.ofString "COROUTINE", Str.ofString "ITERABLE_COROUTINE", Str.ofString "ASYNC_GENERATOR"]
def flagTab : List (PyData × PyData) := (List.range 10).map fun i => (.int ((2 ^ i : Nat) : Int), .str (flagNames.getD i ⟨#[]⟩))

theorem tab22 {prog : Program} {w : World} {h : Heap} (X : (hd.heap_39 w.params).In h) : IntTab prog w h 22 flagTab := by
  have e := X 22 _ (by with_unfolding_all rfl)
  refine ⟨by decide, [(1, .str (Str.ofString "OPTIMIZED") 201), (2, .str (Str.ofString "NEWLOCALS") 203), (4, .str (Str.ofString "VARARGS") 205), (8, .str (Str.ofString "VARKEYWORDS") 207), (16, .str (Str.ofString "NESTED") 209), (32, .str (Str.ofString "GENERATOR") 211), (64, .str (Str.ofString "NOFREE") 213), (128, .str (Str.ofString "COROUTINE") 215), (256, .str (Str.ofString "ITERABLE_COROUTINE") 217), (512, .str (Str.ofString "ASYNC_GENERATOR") 219)], ⟨_, _, _, e, ⟨rfl, rfl, rfl⟩, rfl, ?_, ?_, ?_⟩, ?_⟩
  · intro e he
    simp only [List.mem_toArray, List.mem_cons, List.not_mem_nil, or_false] at he
    rcases he with rfl | rfl | rfl | rfl | rfl | rfl | rfl | rfl | rfl | rfl
    all_goals first | exact ⟨1, rfl, (by show (1 : Int) = hashInt 1; decide)⟩ | exact ⟨2, rfl, (by show (2 : Int) = hashInt 2; decide)⟩ | exact ⟨4, rfl, (by show (4 : Int) = hashInt 4; decide)⟩ | exact ⟨8, rfl, (by show (8 : Int) = hashInt 8; decide)⟩ | exact ⟨16, rfl, (by show (16 : Int) = hashInt 16; decide)⟩ | exact ⟨32, rfl, (by show (32 : Int) = hashInt 32; decide)⟩ | exact ⟨64, rfl, (by show (64 : Int) = hashInt 64; decide)⟩ | exact ⟨128, rfl, (by show (128 : Int) = hashInt 128; decide)⟩ | exact ⟨256, rfl, (by show (256 : Int) = hashInt 256; decide)⟩ | exact ⟨512, rfl, (by show (512 : Int) = hashInt 512; decide)⟩
  · exact .cons rfl rfl (.cons rfl rfl (.cons rfl rfl (.cons rfl rfl (.cons rfl rfl (.cons rfl rfl (.cons rfl rfl (.cons rfl rfl (.cons rfl rfl (.cons rfl rfl .nil)))))))))
  · decide
  · exact .cons (Flat.str _ _) (.cons (Flat.str _ _) (.cons (Flat.str _ _) (.cons (Flat.str _ _) (.cons (Flat.str _ _) (.cons (Flat.str _ _) (.cons (Flat.str _ _) (.cons (Flat.str _ _) (.cons (Flat.str _ _) (.cons (Flat.str _ _) .nil)))))))))

theorem strs_snoc {vs : List Value} {ns : List Str} (h : StrsAre vs ns) (x : Str) (t : Tok) : StrsAre (vs ++ [.str x t]) (ns ++ [x]) := h.append' (.cons x t .nil)

/-- pretty_flags, over plain data -/
def pfLoop : Nat → Nat → Int → List Str → List Str
  | 0, _, _, ns => ns
  | n + 1, i, g, ns =>
    if Builtin.bitAnd g ((2 ^ i : Nat) : Int) = 0 then pfLoop n (i + 1) g ns
    else if Builtin.bitXor g ((2 ^ i : Nat) : Int) = 0 then ns ++ [flagNames.getD i ⟨#[]⟩]
    else pfLoop n (i + 1) (Builtin.bitXor g ((2 ^ i : Nat) : Int)) (ns ++ [flagNames.getD i ⟨#[]⟩])

def bitsB (i q : Nat) : Bool := if Builtin.bitAnd ((q * 2 ^ i : Nat) : Int) ((2 ^ i : Nat) : Int) = 0 then q % 2 == 0 else q % 2 == 1 && Builtin.bitXor ((q * 2 ^ i : Nat) : Int) ((2 ^ i : Nat) : Int) == ((q / 2 * 2 ^ (i + 1) : Nat) : Int)
theorem bitsB0 : (List.range 1024).all (bitsB 0) = true := by decide +kernel
theorem bitsB1 : (List.range 512).all (bitsB 1) = true := by decide +kernel
theorem bitsB2 : (List.range 256).all (bitsB 2) = true := by decide +kernel
theorem bitsB3 : (List.range 128).all (bitsB 3) = true := by decide +kernel
theorem bitsB4 : (List.range 64).all (bitsB 4) = true := by decide +kernel
theorem bitsB5 : (List.range 32).all (bitsB 5) = true := by decide +kernel
theorem bitsB6 : (List.range 16).all (bitsB 6) = true := by decide +kernel
theorem bitsB7 : (List.range 8).all (bitsB 7) = true := by decide +kernel
theorem bitsB8 : (List.range 4).all (bitsB 8) = true := by decide +kernel
theorem bitsB9 : (List.range 2).all (bitsB 9) = true := by decide +kernel
theorem bitsB_ok : ∀ i q : Nat, i < 10 → q * 2 ^ i < 1024 → bitsB i q = true
  | 0, q, _, h => List.all_eq_true.mp bitsB0 q (List.mem_range.mpr (by simp only [Nat.reducePow] at h; omega))
  | 1, q, _, h => List.all_eq_true.mp bitsB1 q (List.mem_range.mpr (by simp only [Nat.reducePow] at h; omega))
  | 2, q, _, h => List.all_eq_true.mp bitsB2 q (List.mem_range.mpr (by simp only [Nat.reducePow] at h; omega))
  | 3, q, _, h => List.all_eq_true.mp bitsB3 q (List.mem_range.mpr (by simp only [Nat.reducePow] at h; omega))
  | 4, q, _, h => List.all_eq_true.mp bitsB4 q (List.mem_range.mpr (by simp only [Nat.reducePow] at h; omega))
  | 5, q, _, h => List.all_eq_true.mp bitsB5 q (List.mem_range.mpr (by simp only [Nat.reducePow] at h; omega))
  | 6, q, _, h => List.all_eq_true.mp bitsB6 q (List.mem_range.mpr (by simp only [Nat.reducePow] at h; omega))
  | 7, q, _, h => List.all_eq_true.mp bitsB7 q (List.mem_range.mpr (by simp only [Nat.reducePow] at h; omega))
  | 8, q, _, h => List.all_eq_true.mp bitsB8 q (List.mem_range.mpr (by simp only [Nat.reducePow] at h; omega))
  | 9, q, _, h => List.all_eq_true.mp bitsB9 q (List.mem_range.mpr (by simp only [Nat.reducePow] at h; omega))
  | n + 10, _, h, _ => absurd h (by omega)
theorem bits_all : ∀ i : Fin 10, ∀ q : Fin 1024, q.val * 2 ^ i.val < 1024 → 
    (Builtin.bitAnd (((q.val * 2 ^ i.val : Nat)) : Int) ((2 ^ i.val : Nat) : Int) = 0 → q.val % 2 = 0) ∧
    (Builtin.bitAnd (((q.val * 2 ^ i.val : Nat)) : Int) ((2 ^ i.val : Nat) : Int) ≠ 0 → q.val % 2 = 1 ∧ Builtin.bitXor (((q.val * 2 ^ i.val : Nat)) : Int) ((2 ^ i.val : Nat) : Int) = ((q.val / 2 * 2 ^ (i.val + 1) : Nat) : Int)) := by
  intro i q hq
  have h := bitsB_ok i.val q.val i.isLt hq
  unfold bitsB at h
  refine ⟨fun e => ?_, fun e => ?_⟩
  · rw [if_pos e] at h; exact eq_of_beq h
  · rw [if_neg e, Bool.and_eq_true] at h; exact ⟨eq_of_beq h.1, eq_of_beq h.2⟩

theorem tab_look : ∀ i : Nat, i < 10 → Spec.lookup (.int ((2 ^ i : Nat) : Int)) flagTab = some (.str (flagNames.getD i ⟨#[]⟩))
  | 0, _ => rfl
  | 1, _ => rfl
  | 2, _ => rfl
  | 3, _ => rfl
  | 4, _ => rfl
  | 5, _ => rfl
  | 6, _ => rfl
  | 7, _ => rfl
  | 8, _ => rfl
  | 9, _ => rfl
  | n + 10, h => absurd h (by omega)
theorem flag_len : ∀ i : Nat, (flagNames.getD i ⟨#[]⟩).length ≤ 20
  | 0 => by decide
  | 1 => by decide
  | 2 => by decide
  | 3 => by decide
  | 4 => by decide
  | 5 => by decide
  | 6 => by decide
  | 7 => by decide
  | 8 => by decide
  | 9 => by decide
  | _ + 10 => Nat.le_of_ble_eq_true rfl
theorem pf_len : ∀ (n i : Nat) (g : Int) (ns : List Str), ((pfLoop n i g ns).map (·.length)).sum + (pfLoop n i g ns).length * 64 ≤ (ns.map (·.length)).sum + ns.length * 64 + n * 84
  | 0, _, _, ns => by simp only [pfLoop]; omega
  | n + 1, i, g, ns => by
    have h0 := flag_len i
    have h1 := pf_len n (i + 1) g ns
    have h2 := pf_len n (i + 1) (Builtin.bitXor g ((2 ^ i : Nat) : Int)) (ns ++ [flagNames.getD i ⟨#[]⟩])
    simp only [List.map_append, List.sum_append, List.length_append, List.map_cons, List.map_nil, List.sum_cons, List.sum_nil, List.length_cons, List.length_nil] at h2
    simp only [pfLoop]
    split
    · omega
    · split
      · simp only [List.map_append, List.sum_append, List.length_append, List.map_cons, List.map_nil, List.sum_cons, List.sum_nil, List.length_cons, List.length_nil]
        omega
      · omega
theorem pf_small : ∀ f : Fin 1024, ((pfLoop 10 0 (f.val : Int) []).map (·.length)).sum + (pfLoop 10 0 (f.val : Int) []).length * 64 ≤ 10000 := fun f => by
  have h := pf_len 10 0 (f.val : Int) []
  simp only [List.map_nil, List.sum_nil, List.length_nil] at h
  omega
theorem hex_small : ∀ i : Fin 10, (baseText "0x" 16 ((2 ^ i.val : Nat) : Int)).length ≤ 100 := by decide +kernel

theorem pretty_flags_ct (prog : Program) (w : World) (f : Int) (t : Tok) (h0 : 0 < f) (h1 : f < 1024) : Ct prog w 29 2 [.int f t] (fun _ => True)
    (fun _ _ r => ∃ t, r = .str (Txt.join (Str.ofString ", ") (pfLoop 10 0 f [])) t) := by
  intro p loose mean mg mb dp un gd cn cs a ccd cl outer A₀ base h₀ L m s Q E B F X T hk hdp hun hpre hret
  refine wpAny_call ?_
  k_dflt (walk_at "zn enterS")
  k_steps
  rename_i l1 h2 hl1 h3 F3 N3
  refine wpAny_For ?_ (by intro _; rfl)
  k_steps
  rename_i h4 tk4 t4 u4 v4 R4 F4 N4 K4
  refine loopElse (n := 32) rfl rfl rfl R4 (by decide) (by decide) F4 N4 (fun i m' nx => ∃ (q : Nat) (ns : List Str) (vs : Array Value) (n : Nat), nx = [(l1, W.listOf vs n)] ∧ StrsAre vs.toList ns ∧ vs.size ≤ i ∧ 0 < q ∧ q * 2 ^ i < 1024 ∧ pfLoop (10 - i) i ((q * 2 ^ i : Nat) : Int) ns = pfLoop 10 0 f [] ∧
      (∃ t, m' (Str.ofString "flags") = some (.int ((q * 2 ^ i : Nat) : Int) t)) ∧ m' (Str.ofString "names") = some (.ref l1)) ?_ ?_ ?_
  · have hf : ((f.toNat * 2 ^ 0 : Nat) : Int) = f := by rw [Nat.pow_zero, Nat.mul_one]; omega
    exact ⟨f.toNat, [], #[], 0, rfl, .nil, Nat.le_refl _, by omega, by rw [Nat.pow_zero, Nat.mul_one]; omega, by rw [hf], ⟨_, by rw [hf]; rfl⟩, rfl⟩
  · intro i I t m₁ news₁ h₁ tks o hi hJ hoff F5 N5
    obtain ⟨q, ns, vs, n, rfl, hvs, hvz, hq0, hq1, hrun, ⟨t5, hm1⟩, hm2⟩ := hJ
    have F6 := see (see F5 (x := Str.ofString "flags") hm1) (x := Str.ofString "names") hm2
    have hi10 : i < 10 := by
      rcases Nat.lt_or_ge i 10 with h | h
      · exact h
      · have : 2 ^ 10 ≤ 2 ^ i := Nat.pow_le_pow_right (by decide) h
        have : 1 * 2 ^ i ≤ q * 2 ^ i := Nat.mul_le_mul_right _ hq0
        omega
    have hIl : l1 ≠ I := hoff (l1, W.listOf vs n) (.head _)
    have hT22 := tab22 (prog := prog) (h := s.heap) (by assumption)
    clear F5 F4 N4 R4
    have hp2 : ((1 : Int) * 2 ^ ((i : Int)).toNat) = ((2 ^ i : Nat) : Int) := by rw [Int.one_mul, Int.toNat_natCast]; exact (Int.natCast_pow 2 i).symm
    k_steps
    · refine P.hex_of_int ?_ (by rw [hp2, sizeLine_eq]; exact Nat.le_trans (hex_small ⟨i, hi10⟩) (by decide))
      k_steps
      rename_i h7 F7 N7 hb v hv
      rw [hp2, tab_look i hi10] at hv
      obtain ⟨t9, rfl⟩ := Flat.str_inv hv
      rw [hp2] at hb
      have hstr := strs_snoc hvs (flagNames.getD i ⟨#[]⟩) t9
      refine append_K F7 N7 (.tail (Ne.symm hIl) (.head (fun _ h => nomatch h))) ?_ (by rw [sizeLine_eq]; omega)
      intro h8 F8 N8
      clear F7 N7 F6 N5
      obtain ⟨_, hx⟩ := bits_all ⟨i, hi10⟩ ⟨q, by have := Nat.le_mul_of_pos_right q (Nat.pow_pos (n := i) (show 0 < 2 by decide)); omega⟩ hq1
      obtain ⟨hx1, hx2⟩ := hx hb
      replace hx1 : q % 2 = 1 := hx1
      replace hx2 : Builtin.bitXor ((q * 2 ^ i : Nat) : Int) ((2 ^ i : Nat) : Int) = ((q / 2 * 2 ^ (i + 1) : Nat) : Int) := hx2
      have hq6 : q / 2 * 2 ^ (i + 1) ≤ q * 2 ^ i := by
        rw [Nat.pow_succ, Nat.mul_comm (2 ^ i) 2, ← Nat.mul_assoc]
        exact Nat.mul_le_mul_right _ (by omega)
      have hsz : (vs.push (.str (flagNames.getD i ⟨#[]⟩) t9)).size ≤ i + 1 := by rw [Array.size_push]; omega
      rw [← Array.toList_push] at hstr
      have hrun' : pfLoop (10 - i) i ((q * 2 ^ i : Nat) : Int) ns = if ((q / 2 * 2 ^ (i + 1) : Nat) : Int) = 0 then ns ++ [flagNames.getD i ⟨#[]⟩] else pfLoop (10 - (i + 1)) (i + 1) ((q / 2 * 2 ^ (i + 1) : Nat) : Int) (ns ++ [flagNames.getD i ⟨#[]⟩]) := by
        rw [show 10 - i = (10 - (i + 1)) + 1 by omega, pfLoop, if_neg hb, hx2]
      k_steps
      · rename_i h9 F9 N9 hn9
        rw [hp2, hx2] at hn9
        rw [if_neg hn9] at hrun'
        rw [show Builtin.bitXor ((q * 2 ^ i : Nat) : Int) (1 * 2 ^ ((i : Int)).toNat) = ((q / 2 * 2 ^ (i + 1) : Nat) : Int) by rw [hp2, hx2]] at F9
        refine ⟨_, _, _, _, rfl, F9, N9, rfl, q / 2, _, _, _, rfl, hstr, hsz, ?_, by omega, hrun' ▸ hrun, ⟨_, rfl⟩, rfl⟩
        · rcases Nat.eq_zero_or_pos (q / 2) with h | h
          · rw [h, Nat.zero_mul] at hn9; exact absurd rfl hn9
          · exact h
      · rename_i h9 F9 N9 hn9
        rw [hp2, hx2] at hn9
        rw [if_pos hn9] at hrun'
        have hfin := hrun' ▸ hrun
        clear hoff hx hvs hrun hrun' hv
        dsimp only [EndZ]
        k_steps
        have hsm := pf_small ⟨f.toNat, by omega⟩
        rw [show (((⟨f.toNat, by omega⟩ : Fin 1024).val : Nat) : Int) = f by show ((f.toNat : Nat) : Int) = f; omega] at hsm
        refine join_listC (News.isList N9 (.tail _ (.head _))) hstr (by decide) (by rw [hfin]; omega) ?_
        intro t7 k7
        k_steps
        exact hret _ _ _ F9.keep ⟨_, by rw [hfin]⟩
    · rename_i h7 F7 N7 hb
      rw [hp2] at hb
      obtain ⟨he, _⟩ := bits_all ⟨i, hi10⟩ ⟨q, by have := Nat.le_mul_of_pos_right q (Nat.pow_pos (n := i) (show 0 < 2 by decide)); omega⟩ hq1
      have hq2 : q % 2 = 0 := he hb
      have hq3 : q / 2 * 2 ^ (i + 1) = q * 2 ^ i := by
        rw [Nat.pow_succ, Nat.mul_comm (2 ^ i) 2, ← Nat.mul_assoc]
        congr 1
        omega
      have hq4 : pfLoop (10 - i) i ((q * 2 ^ i : Nat) : Int) ns = pfLoop (10 - (i + 1)) (i + 1) ((q * 2 ^ i : Nat) : Int) ns := by
        rw [show 10 - i = (10 - (i + 1)) + 1 by omega, pfLoop, if_pos hb]
      exact ⟨_, _, _, _, rfl, F7, N7, rfl, q / 2, ns, vs, n, rfl, hvs, by omega, by omega, by rw [hq3]; exact hq1, by rw [hq3, ← hq4]; exact hrun, ⟨t5, by rw [hq3]; rfl⟩, rfl⟩
  · intro m' news' hJ
    obtain ⟨q, ns, vs, n, rfl, hvs, hvz, hq0, hq1, _⟩ := hJ
    have : 1 * 2 ^ 32 ≤ q * 2 ^ 32 := Nat.mul_le_mul_right _ hq0
    omega
end

section
set_option maxRecDepth 100000

theorem entry_itemiter_iter : entryFor table "dict_itemiterator.__iter__" = some Builtin.«dict_keyiterator.__iter__» :=
  entryFor_alias (id' := "dict_keyiterator.__iter__") (by kernel_rfl) rfl (by decide +kernel) (by kernel_rfl)

/-- what a block's turn leaves: the frame, the ledger, the block's own names -/
def BlkEnd (h₀ : Heap) (L : Addr) (m : Str → Option Value) (led : List (Addr × Obj)) (C : Addr) (s₁ s₂ : Shared) : Prop :=
  ∃ h' tk m', s₂ = { s₁ with heap := h', toks := tk } ∧ Fr h₀ L h' m ∧ News h₀ L h' led ∧ h'.Ns C m'

section
variable {prog : Program} {w : World} {A : Around} {E : Value → Shared → Prop} {s : Shared} {env : Env} {h₀ : Heap} {L : Addr} {m : Str → Option Value}

theorem compLoopD_any {R : Result → Shared → Prop} {kx vx target iter : Expr} {ifs : List Expr} {scope : Scope} {pos : Pos} {it : Value} {D : Addr} (J : Nat → Shared → Prop)
    (turn : ∀ n s, J n s → wpAny (model prog w) A (pyNext it) (fun r s₁ => match r with
      | none => R (.ok .next) s₁
      | some v => wpAny (model prog w) A (letOwnedTupleGo target it v) (fun _ s₁' => wpAny (model prog w) A (assign target env v) (fun _ s₂ =>
          wpAny (model prog w) A (forIn ifs true fun c r => if r = true then do let ok ← isTrue c env (eval c env); pure (ForInStep.yield ok) else pure (ForInStep.yield r)) (fun ok s₃ =>
            if ok = true then wpAny (model prog w) A (eval kx env) (fun kv s₄ => wpAny (model prog w) A (eval vx env) (fun vv s₅ =>
              wpAny (model prog w) A (dictSet D kv vv) (fun _ s₆ => ∃ m, m < n ∧ J m s₆) (notedBy (model prog w) A env fun e s' => R (.error e) s') s₅) (notedBy (model prog w) A env fun e s' => R (.error e) s') s₄) (notedBy (model prog w) A env fun e s' => R (.error e) s') s₃
            else ∃ m, m < n ∧ J m s₃) (notedBy (model prog w) A env fun e s' => R (.error e) s') s₂) (notedBy (model prog w) A env fun e s' => R (.error e) s') s₁') (notedBy (model prog w) A env fun e s' => R (.error e) s') s₁) (notedBy (model prog w) A env fun e s' => R (.error e) s') s)
    (n : Nat) (h : J n s) : codeAny (model prog w) A (.compLoop (.DictComp kx vx [⟨target, iter, ifs, 0⟩] scope pos) 0 it (.ref D) env) R s := by
  refine codeAny_loop rfl J (fun n s hI => ?_) n h
  show wpAny _ A ((compTurn (.DictComp kx vx [⟨target, iter, ifs, 0⟩] scope pos) 0 it (.ref D) env).onRaise (fun x => do noteFrame x env; theTreesLotGoes x)) _ _ s
  refine wpAny_noted ?_
  rw [compTurn_dict]
  refine wpAny_bind (wpAny_standAt (wpAny_bind (wpAny_mono (turn n s hI) (fun r s₁ h₁ => ?_) fun _ _ h' => h')))
  cases r with
  | none => exact wpAny_pure h₁
  | some v =>
    refine wpAny_bind (wpAny_mono h₁ (fun _ s₁' h₁' => ?_) fun _ _ h' => h')
    refine wpAny_bind (wpAny_mono h₁' (fun _ s₂ h₂ => wpAny_bind (wpAny_mono h₂ (fun ok s₃ h₃ => ?_) fun _ _ h' => h')) fun _ _ h' => h')
    cases ok with
    | false => exact wpAny_pure ⟨rfl, h₃⟩
    | true =>
      exact wpAny_bind (wpAny_bind (wpAny_mono h₃ (fun kv s₄ h₄ => wpAny_bind (wpAny_holding (wpAny_mono h₄ (fun vv s₅ h₅ => wpAny_bind (wpAny_standAt (wpAny_holding (wpAny_mono h₅ (fun _ s₆ h₆ => wpAny_pure ⟨rfl, h₆⟩) fun _ _ h' => h')))) fun _ _ h' => h'))) fun _ _ h' => h'))

theorem compD_core {kx vx target iter : Expr} {ifs : List Expr} {scope : Scope} {cl : List (Str × Addr)} {pos : Pos} {s₂ : Shared} {I : Addr} {fp : List Addr} {n : Nat} {P Md : Nat → Value → Heap → Prop} {St : Nat → Heap → Prop}
    {news : List (Addr × Obj)} {RR : Value → Addr → Result → Shared → Prop} (acc : Nat → Bk) (W : KTurns prog w A target I fp [I] n P Md St) (hn : n ≤ 1000)
    (hself : ∀ (s : Shared) (Q : Value → Shared → Prop) (E : Value → Shared → Prop), St 0 s.heap → Q (.ref I) s → wpAny (model prog w) A (pyIter (.ref I)) Q E s)
    (hfp : ∀ b ∈ fp, b = I ∨ (∃ o, h₀.get? b = some o) ∨ ∃ o, (b, o) ∈ news) (hIo : ∀ i h, St i h → ∃ o, h.get? I = some o)
    (hcell : ∀ y ∈ scope.names, y.2 ≠ .cell) (hkind : scope.kind = .function) (hst : St 0 s₂.heap)
    (F : Fr h₀ L s₂.heap m) (N : News h₀ L s₂.heap news) (hIL : L ≠ I) (hI₀ : h₀.get? I = none) (off : ∀ p ∈ news, p.1 ≠ I) (hbig : sysModules < s₂.heap.objs.size) (h0 : acc 0 = [])
    (turn : ∀ i v oI C D oD m₁ h tk (E' : Value → Shared → Prop), i < n → P i v h → h.Ns C m₁ → Fr h₀ L h m → News h₀ L h ((I, oI) :: (D, oD) :: news) → h₀.get? C = none → C ≠ L → LCg.Off3 I C D news →
      ((@Ne Nat I C) ∧ (@Ne Nat I D) ∧ (@Ne Nat C D)) →
      wpAny (model prog w) A (assign target (compEnvC scope cl C env) v) (fun _ s₃ =>
        wpAny (model prog w) A (forIn ifs true fun c r => if r = true then do let ok ← isTrue c (compEnvC scope cl C env) (eval c (compEnvC scope cl C env)); pure (ForInStep.yield ok) else pure (ForInStep.yield r)) (fun ok s₄ =>
          if ok = true then wpAny (model prog w) A (eval kx (compEnvC scope cl C env)) (fun kv s₅ => wpAny (model prog w) A (eval vx (compEnvC scope cl C env)) (fun vv s₆ =>
            (∃ kk c t₁ t₂, kv = .str kk t₁ ∧ vv = .int c t₂ ∧ acc (i + 1) = put (acc i) kk c) ∧ BlkEnd h₀ L m ((I, oI) :: (D, oD) :: news) C { s₂ with heap := h, toks := tk } s₆) E' s₅) E' s₄
          else acc (i + 1) = acc i ∧ BlkEnd h₀ L m ((I, oI) :: (D, oD) :: news) C { s₂ with heap := h, toks := tk } s₄) E' s₃) E' { s₂ with heap := h, toks := tk })
    (hRR : ∀ D C o h tk m', SDO prog w o (acc n) → (D == sysModules) = false → Fr h₀ L h m → News h₀ L h ((D, o) :: news) → LCg.Off1 D news → h.Ns C m' → h₀.get? C = none → h₀.get? D = none → C ≠ L → D ≠ L → C ≠ D →
      (∀ p ∈ news, p.1 ≠ C) → RR (.ref D) C (.ok .next) { s₂ with heap := h, toks := tk }) :
    wpAny (model prog w) A newDict (fun acc s₃ => wpAny (model prog w) A (newFunctionEnv scope env.globals cl [] env.qual none .none (some env)) (fun cenv s₄ =>
      codeAny (model prog w) A (.compStart (.DictComp kx vx [⟨target, iter, ifs, 0⟩] scope pos) 0 (.ref I) acc { cenv with scope := relabel scope env }) (RR acc cenv.locals) s₄) E s₃) E s₂ := by
  refine wpAny_newObj_type (wpAny_newFunctionEnv hcell (by intro y hy; simp at hy) (fun h₁ hns₁ hsb₁ => ?_) hkind)
  dsimp only at hns₁ hsb₁ ⊢
  have hnew : (s₂.heap.push { cls := .type "dict", dict := none, data := .dict #[] }).DictOf (PySem.strKind prog w) s₂.heap.objs.size [] := Heap.DictOf.new s₂.heap
  generalize hH2 : s₂.heap.push { cls := .type "dict", dict := none, data := .dict #[] } = H2 at hns₁ hsb₁ hnew ⊢
  have hC : H2.objs.size = s₂.heap.objs.size + 1 := by rw [← hH2, Heap.size_push]
  have hDC : s₂.heap.objs.size ≠ H2.objs.size := by rw [hC]; exact Nat.ne_of_lt (Nat.lt_succ_self _)
  have below : ∀ b, b < s₂.heap.objs.size → b ≠ H2.objs.size ∧ b ≠ s₂.heap.objs.size := fun b hb => ⟨by rw [hC]; exact Nat.ne_of_lt (Nat.lt_succ_of_lt hb), Nat.ne_of_lt hb⟩
  obtain ⟨oI₀, hoI₀⟩ := hIo _ _ hst
  have hIlt : I < s₂.heap.objs.size := Heap.lt_size hoI₀
  have hfplt : ∀ b ∈ fp, b < s₂.heap.objs.size := fun b hb => by
    rcases hfp b hb with rfl | ⟨o, ho⟩ | ⟨o, ho⟩
    · exact hIlt
    · exact Heap.lt_size (F.keep _ _ ho)
    · exact Heap.lt_size (N _ ho).1
  have hDf : s₂.heap.objs.size ∉ fp := fun hm => Nat.lt_irrefl _ (hfplt _ hm)
  have hCf : H2.objs.size ∉ fp := fun hm => by have := hfplt _ hm; rw [hC] at this; exact Nat.lt_irrefl _ (Nat.lt_of_succ_lt this)
  have old : ∀ b o, s₂.heap.get? b = some o → h₁.get? b = some o := fun b o e => hsb₁.extBut b o (below b (Heap.lt_size e)).1 (Heap.get?_push_of_some _ (hH2 ▸ Heap.get?_push_of_some _ e))
  have hacc : h₁.DictOf (PySem.strKind prog w) s₂.heap.objs.size [] := hnew.at fun o e => hsb₁.extBut _ _ hDC (Heap.get?_push_of_some _ e)
  have hst₁ : St 0 h₁ := W.frame _ _ _ hst fun b _ o e => old b o e
  have fresh : ∀ a, s₂.heap.objs.size ≤ a → h₀.get? a = none := fun a ha => Heap.get?_none_of_le (Nat.le_trans F.above (Nat.le_trans (Nat.le_of_lt F.ns.lt) ha))
  have hD₀ : h₀.get? s₂.heap.objs.size = none := fresh _ (Nat.le_refl _)
  have hC₀ : h₀.get? H2.objs.size = none := fresh _ (by rw [hC]; exact Nat.le_succ _)
  have hLlt : L < s₂.heap.objs.size := F.ns.lt
  have hDL : s₂.heap.objs.size ≠ L := Ne.symm (below L hLlt).2
  have hCL : H2.objs.size ≠ L := Ne.symm (below L hLlt).1
  have hCI : I ≠ H2.objs.size := (below I hIlt).1
  have hDI : I ≠ s₂.heap.objs.size := (below I hIlt).2
  have off₀ : LCg.Off3 I H2.objs.size s₂.heap.objs.size news := LCg.Off3.of fun p hp => ⟨off p hp, (below _ (Heap.lt_size (N p hp).1)).1, (below _ (Heap.lt_size (N p hp).1)).2⟩
  have off3 := off₀.mem
  have loop : ∀ s₃ : Shared, s₃ = { s₂ with heap := h₁, toks := s₂.toks + ([] : List (Str × Value)).length } →
      codeAny (model prog w) A (.compLoop (.DictComp kx vx [⟨target, iter, ifs, 0⟩] scope pos) 0 (.ref I) (.ref s₂.heap.objs.size) (compEnvC scope cl H2.objs.size env))
        (RR (.ref s₂.heap.objs.size) H2.objs.size) s₃ := by
    rintro s₃ rfl
    refine compLoopD_any
      (fun k s' => ∃ h' tk i m' kvs, s' = { s₂ with heap := h', toks := tk } ∧ i ≤ n ∧ k = n + 1 - i ∧ (acc i).length ≤ i ∧ St i h' ∧ Fr h₀ L h' m ∧ h'.Ns H2.objs.size m' ∧ News h₀ L h' news ∧
        h'.DictOf (PySem.strKind prog w) s₂.heap.objs.size kvs ∧ FlatPairs PyData.str kvs (encD (acc i))) ?_ (n + 1)
      ⟨h₁, _, 0, _, [], rfl, Nat.zero_le _, rfl, by rw [h0]; exact Nat.le_refl _, hst₁, F.keeps old, hns₁, N.grown old, hacc, by rw [h0]; exact .nil⟩
    rintro k s' ⟨h', tk, i, m', kvs, rfl, hi, rfl, hlen, hst', F', hn', N', hd', hf'⟩
    have hst'L : ∀ b, b ∈ [I] → b = I := fun b hb => List.mem_singleton.mp hb
    by_cases hlt : i < n
    · refine W.item i _ _ _ hlt hst' fun v h₂ tk₂ hMd hk₂ => ?_
      refine W.go i v _ _ _ hMd fun h₃ hP hst₃ hk₃ => ?_
      have up : ∀ b o, b ≠ I → h'.get? b = some o → h₃.get? b = some o := fun b o hb e => hk₃ b o (by simpa using hb) (hk₂ b o (by simpa using hb) e)
      obtain ⟨oI, heI⟩ := hIo _ _ hst₃
      obtain ⟨oD, heD', hdD⟩ := Heap.dictOf_iff.mp hd'
      have heD := up _ _ (Ne.symm hDI) heD'
      have F₃ : Fr h₀ L h₃ m := ⟨F'.ns.at' fun o e => up _ _ hIL e, fun b o e => up b o (fun q => by rw [q, hI₀] at e; cases e) (F'.keep b o e), F'.above⟩
      have N₃ : News h₀ L h₃ ((I, oI) :: (s₂.heap.objs.size, oD) :: news) := fun p hp => by
        rcases List.mem_cons.mp hp with rfl | hp
        · exact ⟨heI, Ne.symm hIL, hI₀⟩
        · rcases List.mem_cons.mp hp with rfl | hp
          · exact ⟨heD, hDL, hD₀⟩
          · exact ⟨up _ _ (off p hp) (N' p hp).1, (N' p hp).2⟩
      have hn₃ : h₃.Ns H2.objs.size m' := hn'.at' fun o e => up _ o (Ne.symm hCI) e
      have fpKeep : ∀ h₄ : Heap, Fr h₀ L h₄ m → News h₀ L h₄ ((I, oI) :: (s₂.heap.objs.size, oD) :: news) → St (i + 1) h₄ := fun h₄ F₄ N₄ => by
        refine W.frame _ _ _ hst₃ fun b hb o e => ?_
        rcases hfp b hb with rfl | ⟨o', ho'⟩ | ⟨o', ho'⟩
        · have := (N₄ _ List.mem_cons_self).1
          rw [heI] at e; cases e; exact this
        · have := F₃.keep _ _ ho'
          rw [e] at this; cases this; exact F₄.keep _ _ ho'
        · have := (N₃ _ (List.mem_cons_of_mem _ (List.mem_cons_of_mem _ ho'))).1
          rw [e] at this; cases this; exact (N₄ _ (List.mem_cons_of_mem _ (List.mem_cons_of_mem _ ho'))).1
      refine wpAny_mono (turn i v oI H2.objs.size s₂.heap.objs.size oD m' h₃ _ _ hlt hP hn₃ F₃ N₃ hC₀ hCL off₀ ⟨hCI, hDI, Ne.symm hDC⟩) (fun _ s₄ h₄ => wpAny_mono h₄ (fun ok s₅ h₅ => ?_) fun _ _ e => e) fun _ _ e => e
      cases ok with
      | false =>
        simp only [Bool.false_eq_true, if_false] at h₅ ⊢
        obtain ⟨ha, h₆, tk₆, m₆, rfl, F₆, N₆, hn₆⟩ := h₅
        refine ⟨n + 1 - (i + 1), by omega, h₆, tk₆, i + 1, m₆, kvs, rfl, hlt, rfl, by rw [ha]; omega, fpKeep _ F₆ N₆, F₆, hn₆, fun p hp => N₆ p (List.mem_cons_of_mem _ (List.mem_cons_of_mem _ hp)), ?_, by rw [ha]; exact hf'⟩
        exact Heap.dictOf_iff.mpr ⟨oD, (N₆ _ (List.mem_cons_of_mem _ List.mem_cons_self)).1, hdD⟩
      | true =>
        simp only [if_true] at h₅ ⊢
        refine wpAny_mono h₅ (fun kv s₆ h₆ => wpAny_mono h₆ (fun vv s₇ h₇ => ?_) fun _ _ e => e) fun _ _ e => e
        obtain ⟨⟨kk, c, t₁, t₂, rfl, rfl, ha⟩, h₈, tk₈, m₈, rfl, F₈, N₈, hn₈⟩ := h₇
        have hd₈ : h₈.DictOf (PySem.strKind prog w) s₂.heap.objs.size kvs := Heap.dictOf_iff.mpr ⟨oD, (N₈ _ (List.mem_cons_of_mem _ List.mem_cons_self)).1, hdD⟩
        refine wpAny_dictSet_pairs (knd := PySem.strKind prog w) (hsz := by rw [← hf'.length, encD_length, sizeLine_eq]; omega) (strKind_is prog w kk t₁) hd₈ fun h₉ hd₉ hs₉ => ?_
        refine ⟨n + 1 - (i + 1), by omega, h₉, _, i + 1, m₈, _, rfl, hlt, rfl, by rw [ha]; have := put_length (acc i) kk c; omega,
          W.frame _ _ _ (fpKeep _ F₈ N₈) fun b hb o e => hs₉.extBut b o (fun q => hDf (q ▸ hb)) e, F₈.change hs₉ hDL hD₀, hn₈.sameBut hs₉ (Ne.symm hDC), fun p hp => ?_, hd₉, ?_⟩
        · have z := N₈ p (List.mem_cons_of_mem _ (List.mem_cons_of_mem _ hp))
          exact ⟨hs₉.extBut _ _ (off3 p hp).2.2 z.1, z.2⟩
        · have := hf'.stored PyProof.V.same_str kk (Flat.int c t₂)
          rw [putD_enc] at this
          rw [ha]; exact this
    · obtain rfl : i = n := Nat.le_antisymm hi (Nat.not_lt.mp hlt)
      refine W.done _ _ _ hst' fun h₂ tk₂ hk₂ => ?_
      have up : ∀ b o, b ≠ I → h'.get? b = some o → h₂.get? b = some o := fun b o hb e => hk₂ b o (by simpa using hb) e
      obtain ⟨oD, heD, hdD⟩ := Heap.dictOf_iff.mp hd'
      refine hRR _ _ oD h₂ tk₂ m' ⟨kvs, hdD, hf'⟩ (beq_eq_false_iff_ne.mpr (Nat.ne_of_gt hbig)) ⟨F'.ns.at' fun o e => up _ _ hIL e, fun b o e => up b o (fun q => by rw [q, hI₀] at e; cases e) (F'.keep b o e), F'.above⟩ (fun p hp => ?_) off₀.one
        (hn'.at' fun o e => up _ o (Ne.symm hCI) e) hC₀ hD₀ hCL hDL (Ne.symm hDC) fun p hp => (off3 p hp).2.1
      rcases List.mem_cons.mp hp with rfl | hp
      · exact ⟨up _ _ (Ne.symm hDI) heD, hDL, hD₀⟩
      · exact ⟨up _ _ (off p hp) (N' p hp).1, (N' p hp).2⟩
  exact codeAny_compStart_dict (loop _ rfl) (hself _ _ _ hst₁ (loop _ rfl))

abbrev DPost := Addr → Obj → List (Addr × Obj) → Shared → Prop
def finE (h₀ : Heap) (L : Addr) (m : Str → Option Value) (Q : Value → Shared → Prop) : DPost := fun D o news s₂ =>
  ∀ h tk, Fr h₀ L h m → News h₀ L h ((D, o) :: news) → LCg.Off1 D news → Q (.ref D) { s₂ with heap := h, toks := tk }
def finA (h₀ : Heap) (L : Addr) (m : Str → Option Value) (y : Str) (Q : Flow → Shared → Prop) : DPost := fun D o news s₂ =>
  ∀ h tk, Fr h₀ L h (fun z => if z = y then some (.ref D) else m z) → News h₀ L h ((D, o) :: news) → LCg.Off1 D news → Q .next { s₂ with heap := h, toks := tk }

def DTurn (prog : Program) (w : World) (A : Around) (h₀ : Heap) (L : Addr) (m : Str → Option Value) (env : Env) (kx vx target : Expr) (ifs : List Expr) (scope : Scope) (cl : List (Str × Addr)) (s₂ : Shared) (I : Addr) (n : Nat) (P : Nat → Value → Heap → Prop) (acc : Nat → Bk) (news : List (Addr × Obj)) : Prop :=
  ∀ i v oI C D oD m₁ h tk (E' : Value → Shared → Prop), i < n → P i v h → h.Ns C m₁ → Fr h₀ L h m → News h₀ L h ((I, oI) :: (D, oD) :: news) → h₀.get? C = none → C ≠ L → LCg.Off3 I C D news →
      ((@Ne Nat I C) ∧ (@Ne Nat I D) ∧ (@Ne Nat C D)) →
      wpAny (model prog w) A (assign target (compEnvC scope cl C env) v) (fun _ s₃ =>
        wpAny (model prog w) A (forIn ifs true fun c r => if r = true then do let ok ← isTrue c (compEnvC scope cl C env) (eval c (compEnvC scope cl C env)); pure (ForInStep.yield ok) else pure (ForInStep.yield r)) (fun ok s₄ =>
          if ok = true then wpAny (model prog w) A (eval kx (compEnvC scope cl C env)) (fun kv s₅ => wpAny (model prog w) A (eval vx (compEnvC scope cl C env)) (fun vv s₆ =>
            (∃ kk c t₁ t₂, kv = .str kk t₁ ∧ vv = .int c t₂ ∧ acc (i + 1) = put (acc i) kk c) ∧ BlkEnd h₀ L m ((I, oI) :: (D, oD) :: news) C { s₂ with heap := h, toks := tk } s₆) E' s₅) E' s₄
          else acc (i + 1) = acc i ∧ BlkEnd h₀ L m ((I, oI) :: (D, oD) :: news) C { s₂ with heap := h, toks := tk } s₄) E' s₃) E' { s₂ with heap := h, toks := tk }

def DSrc (prog : Program) (w : World) (A : Around) (h₀ : Heap) (L : Addr) (m : Str → Option Value) (env : Env) (kx vx target : Expr) (ifs : List Expr) (scope : Scope) (cl : List (Str × Addr)) (Fin : DPost) (it : Value) (s₂ : Shared) : Prop :=
  ∃ (I : Addr) (fp : List Addr) (n : Nat) (P Md : Nat → Value → Heap → Prop) (St : Nat → Heap → Prop) (news : List (Addr × Obj)) (acc : Nat → Bk), it = .ref I ∧ KTurns prog w A target I fp [I] n P Md St ∧ n ≤ 1000 ∧
    (∀ (s : Shared) (Q : Value → Shared → Prop) (E : Value → Shared → Prop), St 0 s.heap → Q (.ref I) s → wpAny (model prog w) A (pyIter (.ref I)) Q E s) ∧
    (∀ b ∈ fp, b = I ∨ (∃ o, h₀.get? b = some o) ∨ ∃ o, (b, o) ∈ news) ∧ (∀ i h, St i h → ∃ o, h.get? I = some o) ∧ St 0 s₂.heap ∧ Fr h₀ L s₂.heap m ∧ News h₀ L s₂.heap news ∧ L ≠ I ∧ h₀.get? I = none ∧ (∀ p ∈ news, p.1 ≠ I) ∧
    sysModules < s₂.heap.objs.size ∧ acc 0 = [] ∧ DTurn prog w A h₀ L m env kx vx target ifs scope cl s₂ I n P acc news ∧ (∀ D o, (D == sysModules) = false → SDO prog w o (acc n) → Fin D o news s₂)

theorem evalDictComp {kx vx target iter : Expr} {ifs : List Expr} {scope : Scope} {cl : List (Str × Addr)} {pos : Pos} {Q : Value → Shared → Prop} (_F₀ : Fr h₀ L s.heap m)
    (hclos : closureFor scope env = pure cl) (hcell : ∀ y ∈ scope.names, y.2 ≠ .cell) (hkind : scope.kind = .function) (hnames : ∀ y ∈ scope.names, y.2 = .local → scope.names.lookup y.1 = some .local)
    (h : wpAny (model prog w) A (eval iter env) (fun xv s₁ => wpAny (model prog w) A (pyIter xv) (fun it s₂ => DSrc prog w A h₀ L m env kx vx target ifs scope cl (finE h₀ L m Q) it s₂) E s₁) E s)
    (hs : ∀ x, foldedSetIterable iter env x = pure x := by intro _; rfl) :
    wpAny (model prog w) A (eval (.DictComp kx vx [⟨target, iter, ifs, 0⟩] scope pos) env) Q E s := by
  rw [arm_eval_DictComp]
  refine wpAny_comprehension_free (use := none) rfl hs hclos hkind hnames (wpAny_mono h (fun xv s₁ h₁ => wpAny_mono h₁ (fun it s₂ h₂ => ?_) fun _ _ e => e) fun _ _ e => e)
  obtain ⟨I, fp, n, P, Md, St, news, acc, rfl, W, hn, hself, hfp, hIo, hst, F, N, hIL, hI₀, off, hbig, h0, turn, fin⟩ := h₂
  refine compD_core (RR := fun acc C => compPost (model prog w) A E none Q acc C) acc W hn hself hfp hIo hcell hkind hst F N hIL hI₀ off hbig h0 turn ?_
  intro D C o h' tk m' S lo F' N' o1 hn' hC₀ hD₀ hCL hDL hCD offC
  refine ⟨m', hn', fun h'' hs'' => fin D o lo S h'' tk (F'.change hs'' hCL hC₀) (fun p hp => ?_) o1⟩
  refine ⟨hs''.extBut _ _ ?_ (N' p hp).1, (N' p hp).2⟩
  rcases List.mem_cons.mp hp with rfl | hp
  · exact Ne.symm hCD
  · exact offC p hp

theorem assignDictComp {kx vx target iter : Expr} {ifs : List Expr} {scope : Scope} {cl : List (Str × Addr)} {pos py spos : Pos} {y : Str} {Q : Flow → Shared → Prop} (_F₀ : Fr h₀ L s.heap m) (hLe : env.locals = L)
    (hsw : swapsWith (.DictComp kx vx [⟨target, iter, ifs, 0⟩] scope pos) (some (.Name y py)) spos.line env = pure true)
    (hclos : closureFor scope env = pure cl) (hcell : ∀ y ∈ scope.names, y.2 ≠ .cell) (hkind : scope.kind = .function) (hnames : ∀ y ∈ scope.names, y.2 = .local → scope.names.lookup y.1 = some .local)
    (hy : env.kindOf y = some .local) (hp : (env.scope.kind == .class || (env.scope.kind == .module && env.locals != env.globals)) = false)
    (h : wpAny (model prog w) A (eval iter env) (fun xv s₁ => wpAny (model prog w) A (pyIter xv) (fun it s₂ => DSrc prog w A h₀ L m env kx vx target ifs scope cl (finA h₀ L m y Q) it s₂) E s₁) E s)
    (hs : ∀ x, foldedSetIterable iter env x = pure x := by intro _; rfl) :
    wpAny (model prog w) A (exec (.Assign [.Name y py] (.DictComp kx vx [⟨target, iter, ifs, 0⟩] scope pos) spos) env) Q E s := by
  subst hLe
  rw [exec_Assign_Name_used _ _ _ _ hsw]
  refine wpAny_bind (wpAny_standAt (wpAny_bind ?_))
  show wpAny _ A (do let _ ← comprehension (.DictComp kx vx [⟨target, iter, ifs, 0⟩] scope pos) scope env _ newDict false (eval iter env) (some (assign (.Name y py) env))) _ _ s
  refine wpAny_bind (wpAny_mono (wpAny_comprehension_free (use := some (assign (.Name y py) env)) (Q := fun _ s' => Q .next s') rfl hs hclos hkind hnames
    (wpAny_mono h (fun xv s₁ h₁ => wpAny_mono h₁ (fun it s₂ h₂ => ?_) fun _ _ e => e) fun _ _ e => e)) (fun _ s' hq => wpAny_pure (wpAny_pure hq)) fun _ _ e => e)
  obtain ⟨I, fp, n, P, Md, St, news, acc, rfl, W, hn, hself, hfp, hIo, hst, F, N, hIL, hI₀, off, hbig, h0, turn, fin⟩ := h₂
  refine compD_core (RR := fun acc C => compPost (model prog w) A E (some (assign (.Name y py) env)) (fun _ s' => Q .next s') acc C) acc W hn hself hfp hIo hcell hkind hst F N hIL hI₀ off hbig h0 turn ?_
  intro D C o h' tk m' S lo F' N' o1 hn' hC₀ hD₀ hCL hDL hCD offC
  show wpAny _ A (assign (.Name y py) env (.ref D)) _ _ _
  refine wpAny_assign_Name (wpAny_storeName_local hy F'.ns (fun h₂ hn₂ hs₂ => ?_) hp)
  have hL₀ : h₀.get? env.locals = none := Heap.get?_none_of_le F'.above
  have F₂ : Fr h₀ env.locals h₂ (fun z => if z = y then some (.ref D) else m z) := ⟨hn₂, fun b o e => hs₂.extBut b o (fun q => by rw [q, hL₀] at e; cases e) (F'.keep b o e), F'.above⟩
  refine ⟨m', hn'.sameBut hs₂ hCL, fun h'' hs'' => fin D o lo S h'' _ (F₂.change hs'' hCL hC₀) (fun p hp => ?_) o1⟩
  have z : h₂.get? p.1 = some p.2 := hs₂.extBut _ _ (N' p hp).2.1 (N' p hp).1
  refine ⟨hs''.extBut _ _ ?_ z, (N' p hp).2⟩
  rcases List.mem_cons.mp hp with rfl | hp
  · exact Ne.symm hCD
  · exact offC p hp

/-- a turn's end as the walk has it -/
def KEnd (h₀ : Heap) (L : Addr) (m : Str → Option Value) (led : List (Addr × Obj)) (s₁ s₂ : Shared) : Prop := ∃ h' tk, s₂ = { s₁ with heap := h', toks := tk } ∧ Fr h₀ L h' m ∧ News h₀ L h' led

theorem kend_blk {I C D : Addr} {oI oC oD : Obj} {m₂ : Str → Option Value} {news : List (Addr × Obj)} {s₁ s₁' s₂ : Shared} (hC : LCg.NsObj oC m₂) (he : ∃ h tk, s₁ = { s₁' with heap := h, toks := tk }) (h : KEnd h₀ L m ((I, oI) :: (C, oC) :: (D, oD) :: news) s₁ s₂) :
    BlkEnd h₀ L m ((I, oI) :: (D, oD) :: news) C s₁' s₂ := by
  obtain ⟨h1, tk1, rfl⟩ := he
  obtain ⟨h', tk, rfl, F, N⟩ := h
  refine ⟨h', tk, m₂, rfl, F, fun p hp => ?_, hC.ns (N (C, oC) (List.mem_cons_of_mem _ List.mem_cons_self)).1⟩
  rcases List.mem_cons.mp hp with rfl | hp
  · exact N _ List.mem_cons_self
  · exact N _ (List.mem_cons_of_mem _ (List.mem_cons_of_mem _ hp))

/-- names of the block are bound -/
theorem blkStore {I C D : Addr} {oI oD : Obj} {m₁ : Str → Option Value} {news : List (Addr × Obj)} {h : Heap} {tk : Nat} {x : Str} {v : Value} {cenv : Env} {Q : Unit → Shared → Prop} (hxl : cenv.kindOf x = some .local)
    (hp : (cenv.scope.kind == .class || (cenv.scope.kind == .module && cenv.locals != cenv.globals)) = false) (hlc : cenv.locals = C)
    (hn : h.Ns C m₁) (F : Fr h₀ L h m) (N : News h₀ L h ((I, oI) :: (D, oD) :: news)) (hC₀ : h₀.get? C = none) (hCL : C ≠ L) (off : LCg.Off3 I C D news) (ne : (@Ne Nat I C) ∧ (@Ne Nat I D) ∧ (@Ne Nat C D))
    (k : ∀ h', h'.Ns C (fun y => if y = x then some v else m₁ y) → Fr h₀ L h' m → News h₀ L h' ((I, oI) :: (D, oD) :: news) → (∀ b o, b ≠ C → h.get? b = some o → h'.get? b = some o) → Q () { s with heap := h', toks := tk + 1 }) :
    wpAny (model prog w) A (storeName cenv x v) Q E { s with heap := h, toks := tk } := by
  subst hlc
  refine wpAny_storeName_local hxl hn (fun h₂ hn₂ hs₂ => ?_) hp
  refine k h₂ hn₂ (F.change hs₂ hCL hC₀) (fun p hp => ⟨hs₂.extBut _ _ ?_ (N p hp).1, (N p hp).2⟩) fun b o hb e => hs₂.extBut b o hb e
  rcases List.mem_cons.mp hp with rfl | hp
  · exact ne.1
  · rcases List.mem_cons.mp hp with rfl | hp
    · exact Ne.symm ne.2.2
    · exact (off.mem p hp).2.1

theorem blk_news {I C D : Addr} {oI oD : Obj} {m₂ : Str → Option Value} {news : List (Addr × Obj)} {h : Heap} (hn : h.Ns C m₂) (N : News h₀ L h ((I, oI) :: (D, oD) :: news)) (hC₀ : h₀.get? C = none) (hCL : C ≠ L) :
    ∃ oC, LCg.NsObj oC m₂ ∧ News h₀ L h ((I, oI) :: (C, oC) :: (D, oD) :: news) := by
  obtain ⟨oC, heC, hoC⟩ := LCg.ns_obj hn
  refine ⟨oC, hoC, fun p hp => ?_⟩
  rcases List.mem_cons.mp hp with rfl | hp
  · exact N _ List.mem_cons_self
  · rcases List.mem_cons.mp hp with rfl | hp
    · exact ⟨heC, hCL, hC₀⟩
    · exact N _ (List.mem_cons_of_mem _ hp)

/-- the tests, the key and the value of a turn -/
def DBody (prog : Program) (w : World) (A : Around) (h₀ : Heap) (L : Addr) (m : Str → Option Value) (cenv : Env) (kx vx : Expr) (ifs : List Expr) (led : List (Addr × Obj)) (a a' : Bk) (E' : Value → Shared → Prop) (s₁ : Shared) : Prop :=
  wpAny (model prog w) A (forIn ifs true fun c r => if r = true then do let ok ← isTrue c cenv (eval c cenv); pure (ForInStep.yield ok) else pure (ForInStep.yield r)) (fun ok s₄ =>
    if ok = true then wpAny (model prog w) A (eval kx cenv) (fun kv s₅ => wpAny (model prog w) A (eval vx cenv) (fun vv s₆ =>
      (∃ kk c t₁ t₂, kv = .str kk t₁ ∧ vv = .int c t₂ ∧ a' = put a kk c) ∧ KEnd h₀ L m led s₁ s₆) E' s₅) E' s₄
    else a' = a ∧ KEnd h₀ L m led s₁ s₄) E' s₁

theorem DBody.use {I C D : Addr} {oI oC oD : Obj} {m₂ : Str → Option Value} {news : List (Addr × Obj)} {cenv : Env} {kx vx : Expr} {ifs : List Expr} {a a' : Bk} {E' : Value → Shared → Prop} {s₁ s₁' : Shared} (hC : LCg.NsObj oC m₂)
    (he : ∃ h tk, s₁ = { s₁' with heap := h, toks := tk }) (h : DBody prog w A h₀ L m cenv kx vx ifs ((I, oI) :: (C, oC) :: (D, oD) :: news) a a' E' s₁) :
    wpAny (model prog w) A (forIn ifs true fun c r => if r = true then do let ok ← isTrue c cenv (eval c cenv); pure (ForInStep.yield ok) else pure (ForInStep.yield r)) (fun ok s₄ =>
      if ok = true then wpAny (model prog w) A (eval kx cenv) (fun kv s₅ => wpAny (model prog w) A (eval vx cenv) (fun vv s₆ =>
        (∃ kk c t₁ t₂, kv = .str kk t₁ ∧ vv = .int c t₂ ∧ a' = put a kk c) ∧ BlkEnd h₀ L m ((I, oI) :: (D, oD) :: news) C s₁' s₆) E' s₅) E' s₄
      else a' = a ∧ BlkEnd h₀ L m ((I, oI) :: (D, oD) :: news) C s₁' s₄) E' s₁ := by
  refine wpAny_mono h (fun ok s₄ h₄ => ?_) fun _ _ e => e
  cases ok with
  | false =>
    simp only [Bool.false_eq_true, if_false] at h₄ ⊢
    exact ⟨h₄.1, kend_blk hC he h₄.2⟩
  | true =>
    simp only [if_true] at h₄ ⊢
    exact wpAny_mono h₄ (fun kv s₅ h₅ => wpAny_mono h₅ (fun vv s₆ h₆ => ⟨h₆.1, kend_blk hC he h₆.2⟩) fun _ _ e => e) fun _ _ e => e

/-- over range(n), one name -/
theorem dictRange {kx vx : Expr} {x : Str} {px : Pos} {ifs : List Expr} {scope : Scope} {cl : List (Str × Addr)} {Fin : DPost} {r : Addr} {n : Nat} {t u v : Tok} {news : List (Addr × Obj)} (acc : Nat → Bk)
    (hh : A.handled = none) (hx : (compEnvC scope cl L env).kindOf x = some .local) (hkind : scope.kind = .function)
    (hr : IsRange s.heap r 0 n 1 t u v) (hsm : Builtin.Range.small 0 n 1 = true) (hsz : Builtin.Range.rangeSize 0 n 1 = n) (hn : n ≤ 1000)
    (F : Fr h₀ L s.heap m) (N : News h₀ L s.heap news) (hbig : sysModules < h₀.objs.size) (h0 : acc 0 = [])
    (turn : ∀ i t I oI C oC D oD m₂ h tk (E' : Value → Shared → Prop), i < n → LCg.NsObj oC m₂ → m₂ x = some (.int (i : Nat) t) → Fr h₀ L h m → News h₀ L h ((I, oI) :: (C, oC) :: (D, oD) :: news) → LCg.Off3 I C D news →
      ((@Ne Nat I C) ∧ (@Ne Nat I D) ∧ (@Ne Nat C D)) → DBody prog w A h₀ L m (compEnvC scope cl C env) kx vx ifs ((I, oI) :: (C, oC) :: (D, oD) :: news) (acc i) (acc (i + 1)) E' { s with heap := h, toks := tk })
    (fin : ∀ D o h, (D == sysModules) = false → SDO prog w o (acc n) → Fin D o news { s with heap := h }) :
    wpAny (model prog w) A (pyIter (.ref r)) (fun it s₂ => DSrc prog w A h₀ L m env kx vx (.Name x px) ifs scope cl Fin it s₂) E s := by
  refine wpAny_pyIter_range hr hsm ?_
  rw [hsz]
  refine ⟨_, _, n, _, _, _, news, acc, rfl, KTurns.ofWalks (LCg.range_walks hh 0 n) (fun _ _ _ _ _ _ q => wpAny_pure q), hn, (LCg.range_walks hh 0 n).self 0, ?_, (fun i h st => ⟨_, st⟩), ?_, F.push _,
    (fun p hp => ⟨Heap.get?_push_of_some _ (N p hp).1, (N p hp).2⟩), Nat.ne_of_lt F.ns.lt, next_is_new F, (fun p hp => Nat.ne_of_lt (Heap.lt_size (N p hp).1)), ?_, h0, ?_, fun D o lo S => fin D o _ lo S⟩
  · intro b hb
    exact .inl (List.mem_singleton.mp hb)
  · show IsRangeIter _ _ _ _ _
    simpa using Heap.get?_push_size _ rfl
  · show sysModules < (s.heap.push _).objs.size
    rw [Heap.size_push]
    exact Nat.lt_succ_of_lt (Nat.lt_trans (Nat.lt_of_lt_of_le hbig F.above) F.ns.lt)
  · rintro i v oI C D oD m₁ h tk E' hi ⟨t', rfl⟩ hns F' N' hC₀ hCL off ne
    refine wpAny_assign_Name (blkStore (s := s) (C := C) hx (by simp [compEnvC, relabel, hkind]) rfl hns F' N' hC₀ hCL off ne ?_)
    intro h' hn' F'' N'' _
    obtain ⟨oC, hoC, N₃⟩ := blk_news hn' N'' hC₀ hCL
    refine DBody.use hoC ⟨_, _, rfl⟩ (turn i t' _ oI C oC D oD _ h' _ E' hi hoC ?_ F'' N₃ off ne)
    simp

theorem pair_assign {xk xv : Str} {pk pv pt : Pos} {x1 : Nat} {I C D T : Addr} {oI oD : Obj} {m₁ : Str → Option Value} {news : List (Addr × Obj)} {h : Heap} {tk : Nat} {a b : Value} {cenv : Env} {Q : Unit → Shared → Prop} (hh : A.handled = none)
    (hxk : cenv.kindOf xk = some .local) (hxv : cenv.kindOf xv = some .local)
    (hp : (cenv.scope.kind == .class || (cenv.scope.kind == .module && cenv.locals != cenv.globals)) = false) (hlc : cenv.locals = C) (hT : h.IsTuple T #[a, b]) (hab : xk ≠ xv)
    (hn : h.Ns C m₁) (F : Fr h₀ L h m) (N : News h₀ L h ((I, oI) :: (D, oD) :: news)) (hC₀ : h₀.get? C = none) (hCL : C ≠ L) (off : LCg.Off3 I C D news) (ne : (@Ne Nat I C) ∧ (@Ne Nat I D) ∧ (@Ne Nat C D))
    (k : ∀ h' oC m₂ tk', LCg.NsObj oC m₂ → m₂ xk = some a → m₂ xv = some b → Fr h₀ L h' m → News h₀ L h' ((I, oI) :: (C, oC) :: (D, oD) :: news) → Q () { s with heap := h', toks := tk' }) :
    wpAny (model prog w) A (assign (.Tuple [.Name xk pk, .Name xv pv] x1 pt) cenv (.ref T)) Q E { s with heap := h, toks := tk } := by
  refine wpAny_assign_Tuple (s := { s with heap := h, toks := tk }) hh hT rfl rfl fun h₃ hx₃ => ?_
  have up₃ : ∀ b o, h.get? b = some o → h₃.get? b = some o := fun b o x => hx₃ b o (Nat.ne_of_lt (Heap.lt_size x)) x
  show wpAny _ _ (do holding [b] (assign (.Name xk pk) cenv a); do holding [] (assign (.Name xv pv) cenv b); pure ()) _ _ _
  refine wpAny_bind (wpAny_holding (wpAny_assign_Name (blkStore (s := s) hxk hp hlc (hn.keeps up₃) (F.keeps up₃) (N.grown up₃) hC₀ hCL off ne ?_)))
  intro h₄ hn₄ F₄ N₄ _
  refine wpAny_bind (wpAny_holding (wpAny_assign_Name (blkStore (s := s) hxv hp hlc hn₄ F₄ N₄ hC₀ hCL off ne ?_)))
  intro h₅ hn₅ F₅ N₅ _
  obtain ⟨oC, hoC, N₆⟩ := blk_news hn₅ N₅ hC₀ hCL
  refine wpAny_pure (k h₅ oC _ _ hoC ?_ ?_ F₅ N₆)
  · simp [hab]
  · simp

/-- over d.items(), d of the ground -/
theorem dictItems {kx vx : Expr} {xk xv : Str} {pk pv pt : Pos} {x1 : Nat} {ifs : List Expr} {scope : Scope} {cl : List (Str × Addr)} {Fin : DPost} {d vw : Addr} {l : Bk} {news : List (Addr × Obj)} (acc : Nat → Bk)
    (hh : A.handled = none) (hxk : (compEnvC scope cl L env).kindOf xk = some .local) (hxv : (compEnvC scope cl L env).kindOf xv = some .local) (hkind : scope.kind = .function) (hab : xk ≠ xv)
    (hvw : s.heap.IsItemsView vw d) (T : SD prog w h₀ d l) (hn : l.length ≤ 1000)
    (F : Fr h₀ L s.heap m) (N : News h₀ L s.heap news) (hbig : sysModules < h₀.objs.size) (h0 : acc 0 = [])
    (turn : ∀ i k c tk₁ tk₂ I oI C oC D oD m₂ h tk (E' : Value → Shared → Prop), l[i]? = some (k, c) → LCg.NsObj oC m₂ → m₂ xk = some (.str k tk₁) → m₂ xv = some (.int c tk₂) → Fr h₀ L h m → News h₀ L h ((I, oI) :: (C, oC) :: (D, oD) :: news) → LCg.Off3 I C D news →
      ((@Ne Nat I C) ∧ (@Ne Nat I D) ∧ (@Ne Nat C D)) → DBody prog w A h₀ L m (compEnvC scope cl C env) kx vx ifs ((I, oI) :: (C, oC) :: (D, oD) :: news) (acc i) (acc (i + 1)) E' { s with heap := h, toks := tk })
    (fin : ∀ D o h, (D == sysModules) = false → SDO prog w o (acc l.length) → Fin D o news { s with heap := h }) :
    wpAny (model prog w) A (pyIter (.ref vw)) (fun it s₂ => DSrc prog w A h₀ L m env kx vx (.Tuple [.Name xk pk, .Name xv pv] x1 pt) ifs scope cl Fin it s₂) E s := by
  obtain ⟨od₀, hod₀⟩ := T.there
  obtain ⟨_, kvs, hdo, hf⟩ := T.keep F.keep
  obtain ⟨ep, hat⟩ := hdo.dictAt
  have hlen : kvs.length = l.length := by rw [← hf.length, encD_length]
  have hne : d ≠ s.heap.objs.size := Nat.ne_of_lt hat.lt_size
  refine wpAny_pyIter_items (knd := PySem.strKind prog w) (d := d) (kvs := kvs) (ep := ep) hvw hat ?_
  refine ⟨_, _, kvs.length, _, _, _, news, acc, rfl, kti_itemsTurns (knd := PySem.strKind prog w) hh s.heap.objs.size d hne kvs ep, by omega, ?_, ?_, ?_, ⟨⟨.none, .none, Heap.get?_push_size _ rfl⟩, hat.push _⟩, F.push _,
    (fun p hp => ⟨Heap.get?_push_of_some _ (N p hp).1, (N p hp).2⟩), Nat.ne_of_lt F.ns.lt, next_is_new F, (fun p hp => Nat.ne_of_lt (Heap.lt_size (N p hp).1)), ?_, h0, ?_, fun D o lo S => fin D o _ lo (hlen ▸ S)⟩
  · rintro s' Q' E' ⟨⟨ok, ov, he⟩, _⟩ q
    refine wpAny_pyIter_slot ⟨_, he, rfl⟩ PySem.F.slot_dict_itemiterator_iter (wpAny_call_entry PySem.F.slot_dict_itemiterator_iter ⟨_, he, rfl⟩ entry_itemiter_iter ?_ (PySem.F.args_dict_itemiterator_iter_1 _))
    show wpAny _ _ (ret _) _ _ s'
    exact wpAny_pure ⟨_, rfl, "dict_itemiterator", _, ⟨_, he, rfl⟩, PySem.F.slot_dict_itemiterator_next.lookup, q⟩
  · intro b hb
    rcases List.mem_cons.mp hb with e | hb
    · exact .inl e
    · rw [List.mem_singleton.mp hb]
      exact .inr (.inl ⟨_, hod₀⟩)
  · rintro i h ⟨⟨ok, ov, he⟩, _⟩
    exact ⟨_, he⟩
  · show sysModules < (s.heap.push _).objs.size
    rw [Heap.size_push]
    exact Nat.lt_succ_of_lt (Nat.lt_trans (Nat.lt_of_lt_of_le hbig F.above) F.ns.lt)
  · rintro i v oI C D oD m₁ h tk E' hi ⟨Tu, key, k, x, rfl, hx, hkey, hT⟩ hns F' N' hC₀ hCL off ne
    obtain ⟨c, t, hli, rfl⟩ := flat_at hf hx
    obtain ⟨tk₁, rfl⟩ := Value.isStrOf_shape hkey
    refine pair_assign (s := s) (C := C) hh hxk hxv (by simp [compEnvC, relabel, hkind]) rfl hT hab hns F' N' hC₀ hCL off ne ?_
    intro h' oC m₂ tk' hoC h1 h2 F'' N''
    exact DBody.use hoC ⟨_, _, rfl⟩ (turn i k c tk₁ t _ oI C oC D oD m₂ h' tk' E' hli hoC h1 h2 F'' N'' off ne)

/-- over a list of the ledger that holds pairs -/
theorem dictPairs {kx vx : Expr} {xk xv : Str} {pk pv pt : Pos} {x1 : Nat} {ifs : List Expr} {scope : Scope} {cl : List (Str × Addr)} {Fin : DPost} {ax : Addr} {vs : List Value} {nn : Nat} {l : Bk} {news : List (Addr × Obj)} (acc : Nat → Bk)
    (hh : A.handled = none) (hxk : (compEnvC scope cl L env).kindOf xk = some .local) (hxv : (compEnvC scope cl L env).kindOf xv = some .local) (hkind : scope.kind = .function) (hab : xk ≠ xv)
    (hax : (ax, W.listOf vs.toArray nn) ∈ news) (hvs : vs.length = l.length) (hits : ∀ (i : Nat) (k : Str) (c : Int), l[i]? = some (k, c) → ∃ (T : Addr) (t₁ t₂ : Tok) (e : Nat), vs[i]? = some (Value.ref T) ∧ (T, ({ cls := .type "tuple", data := .seq #[.str k t₁, .int c t₂] e } : Obj)) ∈ news) (hn : l.length ≤ 1000)
    (F : Fr h₀ L s.heap m) (N : News h₀ L s.heap news) (hbig : sysModules < h₀.objs.size) (h0 : acc 0 = [])
    (turn : ∀ i k c tk₁ tk₂ I oI C oC D oD m₂ h tk (E' : Value → Shared → Prop), l[i]? = some (k, c) → LCg.NsObj oC m₂ → m₂ xk = some (.str k tk₁) → m₂ xv = some (.int c tk₂) → Fr h₀ L h m → News h₀ L h ((I, oI) :: (C, oC) :: (D, oD) :: news) → LCg.Off3 I C D news →
      ((@Ne Nat I C) ∧ (@Ne Nat I D) ∧ (@Ne Nat C D)) → DBody prog w A h₀ L m (compEnvC scope cl C env) kx vx ifs ((I, oI) :: (C, oC) :: (D, oD) :: news) (acc i) (acc (i + 1)) E' { s with heap := h, toks := tk })
    (fin : ∀ D o h, (D == sysModules) = false → SDO prog w o (acc l.length) → Fin D o news { s with heap := h }) :
    wpAny (model prog w) A (pyIter (.ref ax)) (fun it s₂ => DSrc prog w A h₀ L m env kx vx (.Tuple [.Name xk pk, .Name xv pv] x1 pt) ifs scope cl Fin it s₂) E s := by
  have hl : s.heap.IsList ax vs.toArray := News.isList N hax
  have hlt : ax < s.heap.objs.size := Heap.lt_size (N _ hax).1
  have Wk := Walks.list (prog := prog) (w := w) hh s.heap.objs.size ax (Nat.ne_of_lt hlt) vs.toArray
  refine wpAny_pyIter_list hl ?_
  refine ⟨_, _, vs.toArray.size, _, _, _, news, acc, rfl, KTurns.ofWalks Wk (fun i v s Q E st q => letGo_listiter st.1 q), by simpa [hvs] using hn, Wk.self 0, ?_, ?_, ⟨⟨_, Heap.get?_push_size _ rfl, rfl, rfl⟩, hl.push _⟩, F.push _,
    (fun p hp => ⟨Heap.get?_push_of_some _ (N p hp).1, (N p hp).2⟩), Nat.ne_of_lt F.ns.lt, next_is_new F, (fun p hp => Nat.ne_of_lt (Heap.lt_size (N p hp).1)), ?_, h0, ?_, fun D o lo S => fin D o _ lo (by simpa [hvs] using S)⟩
  · intro b hb
    rcases List.mem_cons.mp hb with e | hb
    · exact .inl e
    · rw [List.mem_singleton.mp hb]
      exact .inr (.inr ⟨_, hax⟩)
  · rintro i h ⟨⟨o, he, _⟩, _⟩
    exact ⟨_, he⟩
  · show sysModules < (s.heap.push _).objs.size
    rw [Heap.size_push]
    exact Nat.lt_succ_of_lt (Nat.lt_trans (Nat.lt_of_lt_of_le hbig F.above) F.ns.lt)
  · rintro i v oI C D oD m₁ h tk E' hi hv hns F' N' hC₀ hCL off ne
    have hi' : i < l.length := by simpa [hvs] using hi
    obtain ⟨⟨k, c⟩, hli⟩ : ∃ p, l[i]? = some p := ⟨l[i], by simp [hi']⟩
    obtain ⟨Tu, t₁, t₂, e, hvi, hmem⟩ := hits i k c hli
    have hv' : vs[i]? = some v := by simpa using hv
    rw [hvi] at hv'
    cases hv'
    have hT : h.IsTuple Tu #[.str k t₁, .int c t₂] := ⟨_, (N' _ (List.mem_cons_of_mem _ (List.mem_cons_of_mem _ hmem))).1, rfl, _, rfl⟩
    refine pair_assign (s := s) (C := C) hh hxk hxv (by simp [compEnvC, relabel, hkind]) rfl hT hab hns F' N' hC₀ hCL off ne ?_
    intro h' oC m₂ tk' hoC h1 h2 F'' N''
    exact DBody.use hoC ⟨_, _, rfl⟩ (turn i k c t₁ t₂ _ oI C oC D oD m₂ h' tk' E' hli hoC h1 h2 F'' N'' off ne)
end
end

section
theorem wordsZn3C1 : True := by
  k_with_none
  k_with "zn st" => ((case k1 => k_asm); (case k2 => k_asm); (case k3 => k_asm); (case k4 => k_asm); (case k5 => k_asm); (case kK => first | exact rfl | assumption); (case kd => ktr_room); (case ku => ktr_units))
  k_with "zn yst" => ((case y1 => k_asm); (case y2 => k_asm); (case y3 => k_asm); (case y4 => k_asm); (case y5 => k_asm); (case yK => exact rfl); (case yd => first | ktr_room | decide); (case yu => first | ktr_units | decide))
  k_with "zn tail7" => (rintro hh7 tk7 r7 ⟨dd7, oo7, rfl, lo7, S7, hf7⟩ hN7 hO7 F7 N7; (have N9 := hN7 _ hf7); (have O9 := hO7 _ (hf7 _ (.head _)).2); (simp only [LCg.Off1, and_true] at O9); (simp only [List.cons_append, List.nil_append] at N9); clear hN7 hO7 N7 hf7)
  k_with "zn enterS" => (refine' enterS ?k1 ?k2 ?k3 ?k5 ?kA ?kF ?kK ?k6 ?k7 ?k8 ?k9 ?kB ?_ ?c2 ?c3 ?c4 ?c5; (case kA => exact rfl); (case kF => exact rfl); (case kK => assumption); (case k1 => k_asm); (case k2 => k_asm); (case k3 => k_asm); (case k5 => k_asm); (case k6 => k_is); (case k7 => k_is); (case k8 => ktr_room); (case k9 => exact BindsTo.of_eq rfl); (case c5 => decide); (case kB => exact locs rfl); (case c2 => exact rfl); (case c3 => exact rfl); (case c4 => exact rfl); k_whole; intro _ _ _ _ _ _ _; (try dsimp only); (try walk_at "zn liftB"); (try k_fold))
  k_with "zn enterC" => (refine' enterC ?k1 ?k2 ?k3 ?k5 ?kA ?kF ?kK ?k6 ?k7 ?k8 ?k9 ?kB ?kD ?_ ?c2 ?c3 ?c4; (case kA => exact rfl); (case kF => exact rfl); (case kK => assumption); (case k1 => k_asm); (case k2 => k_asm); (case k3 => k_asm); (case k5 => k_asm); (case k6 => k_is); (case k7 => k_is); (case k8 => ktr_room); (case k9 => exact BindsTo.of_eq rfl); (case kB => exact rfl); (case kD => decide +kernel); (case c2 => exact rfl); (case c3 => exact rfl); (case c4 => exact rfl); k_whole; intro _ _ _ _ _ _ _ _ _ _; (try dsimp only); (try walk_at "zn liftB"); (try k_fold); walk_at "zn cellsY")
  k_with "zn k_sub" => ((intro p hp; repeat (first | exact hp | refine List.mem_cons_of_mem _ ?_)))
  k_with "zn sd_there" => (first | exact SD.keep (by assumption) (Fr.keep (by assumption)) | exact Held.sd (by assumption) (by assumption) (by assumption) (by walk_at "zn k_sub") | exact sd_news (by assumption) (by k_mem) (by assumption) (by assumption) (by assumption) | exact SDO.sd (by assumption) (by assumption) (News.get (by assumption) (by k_mem)))
  k_with "zn memg" => (first | exact List.Mem.head _ | (refine List.Mem.tail _ ?_; walk_at "zn memg"))
  k_with "zn li" => (((rename News _ _ _ _ => kN9); first | exact News.isList kN9 (by walk_at "zn memg") | is_list))
  k_with "zn cj_go" => ((first | exact And.left (by with_reducible assumption) | exact cj2 (by with_reducible assumption) | exact cj3 (by with_reducible assumption) | exact cj4 (by with_reducible assumption) | exact cj5 (by with_reducible assumption) | exact cj6 (by with_reducible assumption) | exact cj7 (by with_reducible assumption) | exact cj8 (by with_reducible assumption) | exact cj9 (by with_reducible assumption) | exact cj10 (by with_reducible assumption) | exact cj11 (by with_reducible assumption) | exact cj12 (by with_reducible assumption) | exact cj13 (by with_reducible assumption) | exact cj14 (by with_reducible assumption) | exact cj15 (by with_reducible assumption) | exact cj16 (by with_reducible assumption) | exact cj17 (by with_reducible assumption) | exact cj18 (by with_reducible assumption) | exact cl2 (by with_reducible assumption) | exact cl3 (by with_reducible assumption) | exact cl4 (by with_reducible assumption) | exact cl5 (by with_reducible assumption) | exact cl6 (by with_reducible assumption) | exact cl7 (by with_reducible assumption) | exact cl8 (by with_reducible assumption) | exact cl9 (by with_reducible assumption)))
  k_with "zn ne_go" => (((try dsimp only); (show @Ne Nat _ _); first | exact nn1 _ | exact Ne.symm (nn1 _) | exact nn2 _ | exact Ne.symm (nn2 _) | exact nn3 _ | exact Ne.symm (nn3 _) | exact nn4 _ | exact Ne.symm (nn4 _) | exact nn5 _ | exact Ne.symm (nn5 _) | exact Ne.symm (by walk_at "zn cj_go") | exact Nat.ne_of_gt (by walk_at "zn cj_go") | exact (by walk_at "zn cj_go")))
  k_with "zn fa_go" => (repeat (first | refine fa_cons (by walk_at "zn ne_go") ?_ | exact fa_nil))
  k_with "zn upd_go" => (repeat' (first | (refine' UpdF.head ?_; walk_at "zn fa_go") | refine' UpdF.tail (by walk_at "zn ne_go") ?_))
  k_with "zn ct_close" => (((case k1 => k_asm); (case k2 => k_asm); (case k3 => k_asm); (case k4 => k_asm); (case k5 => k_asm); (case kK => exact rfl); (case kd => first | ktr_room | decide); (case ku => first | ktr_units | decide)))
  k_with "zn h0" => (k_here; k_dflt (refine LCg.CompSrc.range (by rfl) (by k_asm) (by k_asm) (by assumption) (by first | decide | rfl) (by first | rfl | decide) (by first | size_fits | exact Nat.le_of_ble_eq_true rfl) ?_; intro _; lcg_lit))
  trivial
set_option maxRecDepth 100000
set_option maxHeartbeats 8000000
theorem fillC : PySem.Challenge.rw_zn0003_01 = PySem.Challenge.rw_zn0003_01 ∧ hd.heap_39 = hd.heap_39 := by
  k_fill
  w_top off
  exact ⟨rfl, rfl⟩


theorem apart_of {h₀ h : Heap} {L : Addr} {news : List (Addr × Obj)} {b : Addr} (N : News h₀ L h news) (hb : h.get? b = none) : LCg.Off1 b news := by
  induction news with
  | nil => trivial
  | cons p r ih =>
    refine ⟨fun e => ?_, ih fun q hq => N q (List.mem_cons_of_mem _ hq)⟩
    have := (N p List.mem_cons_self).1
    rw [show p.1 = b from e, hb] at this
    cases this

section
variable {prog : Program} {w : World} {p : Program} {loose : List Str} {mean : ExcName → Option Value} {mg mb : Str → Option Value} {dp un : Nat} {gd : Option (List Code)} {cn : Str} {cs : Scope} {ca : Addr} {ccd : Value} {cl : List (Str × Addr)} {outer : List Env}
  {A₀ : Around} {base h₀ : Heap} {L : Addr} {m : Str → Option Value} {s : Shared} {Q E : Value → Shared → Prop} {news : List (Addr × Obj)}

theorem use_count {d : Addr} {l : Bk} (B : Below A₀ base outer h₀) (F : Fr h₀ L s.heap m) (X : (hd.heap_39 w.params).In h₀) (N : News h₀ L s.heap news) (T : Top p loose mean mg mb h₀) (hk : cs.kind = .function) (hdp : dp + 2 < recursionLimit) (hun : un + 16 < cLine)
    (S : SD prog w s.heap d l) (ret : ∀ t h' tk', Fr h₀ L h' m → News h₀ L h' news → Q (.int (l.map (·.2)).sum t) { s with heap := h', toks := tk' }) :
    wpAny (model prog w) (ktrTop dp un gd cn cs L ca ccd cl outer) (call (.ref 43) [.ref d]) Q E s := by
  refine count_calls_ct prog w d l _ _ _ _ _ _ _ _ _ _ _ _ _ _ _ _ _ _ _ _ _ _ B F X T hk hdp hun S ?_
  rintro h' tk r hs ⟨t, rfl⟩
  exact ret t h' tk (frOn F hs) (newsOn N hs)

theorem use_add {d e : Addr} {l l' : Bk} (hl : l.length ≤ 100) (hl' : l'.length ≤ 100) (B : Below A₀ base outer h₀) (F : Fr h₀ L s.heap m) (X : (hd.heap_39 w.params).In h₀) (N : News h₀ L s.heap news) (T : Top p loose mean mg mb h₀) (hk : cs.kind = .function) (hdp : dp + 2 < recursionLimit) (hun : un + 16 < cLine)
    (S : SD prog w s.heap d l) (S' : SD prog w s.heap e l') (ret : ∀ b o h' tk', (b == sysModules) = false → SDO prog w o (addB l l') → LCg.Off1 b news → Fr h₀ L h' m → News h₀ L h' ((b, o) :: news) → Q (.ref b) { s with heap := h', toks := tk' }) :
    wpAny (model prog w) (ktrTop dp un gd cn cs L ca ccd cl outer) (call (.ref 36) [.ref d, .ref e]) Q E s := by
  refine add_callers_ct prog w d e l l' hl hl' _ _ _ _ _ _ _ _ _ _ _ _ _ _ _ _ _ _ _ _ _ _ B F X T hk hdp hun ⟨S, S'⟩ ?_
  rintro h' tk r hs ⟨b, o, rfl, lo, hS, hf⟩
  exact ret b o h' tk lo hS (apart_of N (hf _ (List.mem_singleton.mpr rfl)).2) (frOn F hs) (newsAdd F N hs hf)

theorem use_pretty {f : Int} {tk : Tok} (h0 : 0 < f) (h1 : f < 1024) (B : Below A₀ base outer h₀) (F : Fr h₀ L s.heap m) (X : (hd.heap_39 w.params).In h₀) (N : News h₀ L s.heap news) (T : Top p loose mean mg mb h₀) (hk : cs.kind = .function) (hdp : dp + 2 < recursionLimit) (hun : un + 16 < cLine)
    (ret : ∀ t h' tk', Fr h₀ L h' m → News h₀ L h' news → Q (.str (Txt.join (Str.ofString ", ") (pfLoop 10 0 f [])) t) { s with heap := h', toks := tk' }) :
    wpAny (model prog w) (ktrTop dp un gd cn cs L ca ccd cl outer) (call (.ref 29) [.int f tk]) Q E s := by
  refine pretty_flags_ct prog w f tk h0 h1 _ _ _ _ _ _ _ _ _ _ _ _ _ _ _ _ _ _ _ _ _ _ B F X T hk hdp hun trivial ?_
  rintro h' tk' r hs ⟨t, rfl⟩
  exact ret t h' tk' (frOn F hs) (newsOn N hs)
end

def filt (l : Bk) : Bk := l.foldl (fun a p => if p.2 = 0 then a else put a p.1 p.2) []
theorem filt_step {l : Bk} {i : Nat} {k : Str} {c : Int} (h : l[i]? = some (k, c)) : filt (l.take (i + 1)) = if c = 0 then filt (l.take i) else put (filt (l.take i)) k c := by
  unfold filt
  rw [List.take_add_one, h, List.foldl_append]
  rfl
def negB (l : Bk) : Bk := l.map fun p => (p.1, -p.2)

theorem big_of {p : Program} {loose : List Str} {mean : ExcName → Option Value} {mg mb : Str → Option Value} {h : Heap} (T : Top p loose mean mg mb h) : sysModules < h.objs.size := modules_low T.nolimit

theorem callers0_ct (prog : Program) (w : World) (ti nm : Addr) (a b c kk : Int) (x y z : Str) (t1 t2 t3 u1 u2 u3 tk : Tok) (hkk : kk = 0) : Ct prog w 62 3 [.ref ti, .ref nm, .int kk tk]
    (fun h => h.IsList ti #[.int a t1, .int b t2, .int c t3] ∧ h.IsList nm #[.str x u1, .str y u2, .str z u3])
    (fun h h' r => ∃ d o, r = .ref d ∧ (d == sysModules) = false ∧ SDO prog w o (filt [(y, a), (z, c)]) ∧ Fresh h h' [(d, o)]) := by
  subst hkk
  intro p loose mean mg mb dp un gd cn cs ca ccd cl outer A₀ base h₀ L m s Q E B F X T hk hdp hun hpre hret
  obtain ⟨hl1, hl2⟩ := hpre
  refine wpAny_call ?_
  k_dflt (walk_at "zn enterS")
  k_steps
  rename Fr _ _ _ _ => F5
  rename Top _ _ _ _ _ s.heap => T'
  rename News _ _ _ _ => N5
  k_dflt (refine evalDictComp F5 (cl := []) (by with_unfolding_all rfl) (by decide) (by rfl) (by decide) ?_ (by intro _; rfl))
  k_steps
  rename_i D1 _ _ _ D2 _ _ _ _ _ _
  k_dflt (refine dictPairs (l := [(y, a), (z, c)]) (vs := [.ref D1, .ref D2]) (fun i => filt ([(y, a), (z, c)].take i)) (by rfl) (by rfl) (by rfl) (by rfl) (by decide) (nn := 0) (List.Mem.head _) (by rfl) ?_ (Nat.le_of_ble_eq_true rfl) F5 N5 (big_of T') (by rfl) ?_ ?_)
  · intro i k v hi
    match i, hi with
    | 0, hi => cases hi; exact ⟨D1, _, _, _, rfl, .tail _ (.tail _ (.head _))⟩
    | 1, hi => cases hi; exact ⟨D2, _, _, _, rfl, .tail _ (.head _)⟩
  · intro i k v tk1 tk2 I oI C oC D oD m2 h tk E' hi hC hm1 hm2 F6 N6 off ne
    have hs := filt_step hi
    clear F5 N5
    unfold DBody
    refine wpAny_tests_one ?_
    k_steps
    all_goals first | exact ⟨_, _, rfl, F6, N6⟩ | (rw [hs, if_neg (by assumption)]) | (rw [hs, if_pos (by assumption)])
  · intro D o h lo S h2 tk2 F6 N6 o1
    exact hret _ _ _ F6.keep ⟨D, o, rfl, lo, S, fun p hp => ⟨(N6 p (by simpa using .inl (List.mem_singleton.mp hp))).1, (N6 p (by simpa using .inl (List.mem_singleton.mp hp))).2.2⟩⟩

theorem callers1_ct (prog : Program) (w : World) (ti nm : Addr) (a b c kk : Int) (x y z : Str) (t1 t2 t3 u1 u2 u3 tk : Tok) (hkk : kk = 1) : Ct prog w 62 3 [.ref ti, .ref nm, .int kk tk]
    (fun h => h.IsList ti #[.int a t1, .int b t2, .int c t3] ∧ h.IsList nm #[.str x u1, .str y u2, .str z u3])
    (fun h h' r => ∃ d o, r = .ref d ∧ (d == sysModules) = false ∧ SDO prog w o (filt [(z, b), (x, a)]) ∧ Fresh h h' [(d, o)]) := by
  subst hkk
  intro p loose mean mg mb dp un gd cn cs ca ccd cl outer A₀ base h₀ L m s Q E B F X T hk hdp hun hpre hret
  obtain ⟨hl1, hl2⟩ := hpre
  refine wpAny_call ?_
  k_dflt (walk_at "zn enterS")
  k_steps
  rename Fr _ _ _ _ => F5
  rename Top _ _ _ _ _ s.heap => T'
  rename News _ _ _ _ => N5
  k_dflt (refine evalDictComp F5 (cl := []) (by with_unfolding_all rfl) (by decide) (by rfl) (by decide) ?_ (by intro _; rfl))
  k_steps
  rename_i D1 _ _ _ D2 _ _ _ _ _ _
  k_dflt (refine dictPairs (l := [(z, b), (x, a)]) (vs := [.ref D1, .ref D2]) (fun i => filt ([(z, b), (x, a)].take i)) (by rfl) (by rfl) (by rfl) (by rfl) (by decide) (nn := 0) (List.Mem.head _) (by rfl) ?_ (Nat.le_of_ble_eq_true rfl) F5 N5 (big_of T') (by rfl) ?_ ?_)
  · intro i k v hi
    match i, hi with
    | 0, hi => cases hi; exact ⟨D1, _, _, _, rfl, .tail _ (.tail _ (.head _))⟩
    | 1, hi => cases hi; exact ⟨D2, _, _, _, rfl, .tail _ (.head _)⟩
  · intro i k v tk1 tk2 I oI C oC D oD m2 h tk E' hi hC hm1 hm2 F6 N6 off ne
    have hs := filt_step hi
    clear F5 N5
    unfold DBody
    refine wpAny_tests_one ?_
    k_steps
    all_goals first | exact ⟨_, _, rfl, F6, N6⟩ | (rw [hs, if_neg (by assumption)]) | (rw [hs, if_pos (by assumption)])
  · intro D o h lo S h2 tk2 F6 N6 o1
    exact hret _ _ _ F6.keep ⟨D, o, rfl, lo, S, fun p hp => ⟨(N6 p (by simpa using .inl (List.mem_singleton.mp hp))).1, (N6 p (by simpa using .inl (List.mem_singleton.mp hp))).2.2⟩⟩

theorem callers2_ct (prog : Program) (w : World) (ti nm : Addr) (a b c kk : Int) (x y z : Str) (t1 t2 t3 u1 u2 u3 tk : Tok) (hkk : kk = 2) : Ct prog w 62 3 [.ref ti, .ref nm, .int kk tk]
    (fun h => h.IsList ti #[.int a t1, .int b t2, .int c t3] ∧ h.IsList nm #[.str x u1, .str y u2, .str z u3])
    (fun h h' r => ∃ d o, r = .ref d ∧ (d == sysModules) = false ∧ SDO prog w o (filt [(x, c), (y, b)]) ∧ Fresh h h' [(d, o)]) := by
  subst hkk
  intro p loose mean mg mb dp un gd cn cs ca ccd cl outer A₀ base h₀ L m s Q E B F X T hk hdp hun hpre hret
  obtain ⟨hl1, hl2⟩ := hpre
  refine wpAny_call ?_
  k_dflt (walk_at "zn enterS")
  k_steps
  rename Fr _ _ _ _ => F5
  rename Top _ _ _ _ _ s.heap => T'
  rename News _ _ _ _ => N5
  k_dflt (refine evalDictComp F5 (cl := []) (by with_unfolding_all rfl) (by decide) (by rfl) (by decide) ?_ (by intro _; rfl))
  k_steps
  rename_i D1 _ _ _ D2 _ _ _ _ _ _
  k_dflt (refine dictPairs (l := [(x, c), (y, b)]) (vs := [.ref D1, .ref D2]) (fun i => filt ([(x, c), (y, b)].take i)) (by rfl) (by rfl) (by rfl) (by rfl) (by decide) (nn := 0) (List.Mem.head _) (by rfl) ?_ (Nat.le_of_ble_eq_true rfl) F5 N5 (big_of T') (by rfl) ?_ ?_)
  · intro i k v hi
    match i, hi with
    | 0, hi => cases hi; exact ⟨D1, _, _, _, rfl, .tail _ (.tail _ (.head _))⟩
    | 1, hi => cases hi; exact ⟨D2, _, _, _, rfl, .tail _ (.head _)⟩
  · intro i k v tk1 tk2 I oI C oC D oD m2 h tk E' hi hC hm1 hm2 F6 N6 off ne
    have hs := filt_step hi
    clear F5 N5
    unfold DBody
    refine wpAny_tests_one ?_
    k_steps
    all_goals first | exact ⟨_, _, rfl, F6, N6⟩ | (rw [hs, if_neg (by assumption)]) | (rw [hs, if_pos (by assumption)])
  · intro D o h lo S h2 tk2 F6 N6 o1
    exact hret _ _ _ F6.keep ⟨D, o, rfl, lo, S, fun p hp => ⟨(N6 p (by simpa using .inl (List.mem_singleton.mp hp))).1, (N6 p (by simpa using .inl (List.mem_singleton.mp hp))).2.2⟩⟩
end

section
theorem wordsZn3D1 : True := by
  k_with_none
  k_with "zn st" => ((case k1 => k_asm); (case k2 => k_asm); (case k3 => k_asm); (case k4 => k_asm); (case k5 => k_asm); (case kK => first | exact rfl | assumption); (case kd => ktr_room); (case ku => ktr_units))
  k_with "zn yst" => ((case y1 => k_asm); (case y2 => k_asm); (case y3 => k_asm); (case y4 => k_asm); (case y5 => k_asm); (case yK => exact rfl); (case yd => first | ktr_room | decide); (case yu => first | ktr_units | decide))
  k_with "zn tail7" => (rintro hh7 tk7 r7 ⟨dd7, oo7, rfl, lo7, S7, hf7⟩ hN7 hO7 F7 N7; (have N9 := hN7 _ hf7); (have O9 := hO7 _ (hf7 _ (.head _)).2); (simp only [LCg.Off1, and_true] at O9); (simp only [List.cons_append, List.nil_append] at N9); clear hN7 hO7 N7 hf7)
  k_with "zn enterS" => (refine' enterS ?k1 ?k2 ?k3 ?k5 ?kA ?kF ?kK ?k6 ?k7 ?k8 ?k9 ?kB ?_ ?c2 ?c3 ?c4 ?c5; (case kA => exact rfl); (case kF => exact rfl); (case kK => assumption); (case k1 => k_asm); (case k2 => k_asm); (case k3 => k_asm); (case k5 => k_asm); (case k6 => k_is); (case k7 => k_is); (case k8 => ktr_room); (case k9 => exact BindsTo.of_eq rfl); (case c5 => decide); (case kB => exact locs rfl); (case c2 => exact rfl); (case c3 => exact rfl); (case c4 => exact rfl); k_whole; intro _ _ _ _ _ _ _; (try dsimp only); (try walk_at "zn liftB"); (try k_fold))
  k_with "zn enterC" => (refine' enterC ?k1 ?k2 ?k3 ?k5 ?kA ?kF ?kK ?k6 ?k7 ?k8 ?k9 ?kB ?kD ?_ ?c2 ?c3 ?c4; (case kA => exact rfl); (case kF => exact rfl); (case kK => assumption); (case k1 => k_asm); (case k2 => k_asm); (case k3 => k_asm); (case k5 => k_asm); (case k6 => k_is); (case k7 => k_is); (case k8 => ktr_room); (case k9 => exact BindsTo.of_eq rfl); (case kB => exact rfl); (case kD => decide +kernel); (case c2 => exact rfl); (case c3 => exact rfl); (case c4 => exact rfl); k_whole; intro _ _ _ _ _ _ _ _ _ _; (try dsimp only); (try walk_at "zn liftB"); (try k_fold); walk_at "zn cellsY")
  k_with "zn k_sub" => ((intro p hp; repeat (first | exact hp | refine List.mem_cons_of_mem _ ?_)))
  k_with "zn sd_there" => (first | exact SD.keep (by assumption) (Fr.keep (by assumption)) | exact Held.sd (by assumption) (by assumption) (by assumption) (by walk_at "zn k_sub") | exact sd_news (by assumption) (by k_mem) (by assumption) (by assumption) (by assumption) | exact SDO.sd (by assumption) (by assumption) (News.get (by assumption) (by k_mem)))
  k_with "zn memg" => (first | exact List.Mem.head _ | (refine List.Mem.tail _ ?_; walk_at "zn memg"))
  k_with "zn li" => (((rename News _ _ _ _ => kN9); first | exact News.isList kN9 (by walk_at "zn memg") | is_list))
  k_with "zn cj_go" => ((first | exact And.left (by with_reducible assumption) | exact cj2 (by with_reducible assumption) | exact cj3 (by with_reducible assumption) | exact cj4 (by with_reducible assumption) | exact cj5 (by with_reducible assumption) | exact cj6 (by with_reducible assumption) | exact cj7 (by with_reducible assumption) | exact cj8 (by with_reducible assumption) | exact cj9 (by with_reducible assumption) | exact cj10 (by with_reducible assumption) | exact cj11 (by with_reducible assumption) | exact cj12 (by with_reducible assumption) | exact cj13 (by with_reducible assumption) | exact cj14 (by with_reducible assumption) | exact cj15 (by with_reducible assumption) | exact cj16 (by with_reducible assumption) | exact cj17 (by with_reducible assumption) | exact cj18 (by with_reducible assumption) | exact cl2 (by with_reducible assumption) | exact cl3 (by with_reducible assumption) | exact cl4 (by with_reducible assumption) | exact cl5 (by with_reducible assumption) | exact cl6 (by with_reducible assumption) | exact cl7 (by with_reducible assumption) | exact cl8 (by with_reducible assumption) | exact cl9 (by with_reducible assumption)))
  k_with "zn ne_go" => (((try dsimp only); (show @Ne Nat _ _); first | exact nn1 _ | exact Ne.symm (nn1 _) | exact nn2 _ | exact Ne.symm (nn2 _) | exact nn3 _ | exact Ne.symm (nn3 _) | exact nn4 _ | exact Ne.symm (nn4 _) | exact nn5 _ | exact Ne.symm (nn5 _) | exact Ne.symm (by walk_at "zn cj_go") | exact Nat.ne_of_gt (by walk_at "zn cj_go") | exact (by walk_at "zn cj_go")))
  k_with "zn fa_go" => (repeat (first | refine fa_cons (by walk_at "zn ne_go") ?_ | exact fa_nil))
  k_with "zn upd_go" => (repeat' (first | (refine' UpdF.head ?_; walk_at "zn fa_go") | refine' UpdF.tail (by walk_at "zn ne_go") ?_))
  k_with "zn ct_close" => (((case k1 => k_asm); (case k2 => k_asm); (case k3 => k_asm); (case k4 => k_asm); (case k5 => k_asm); (case kK => exact rfl); (case kd => first | ktr_room | decide); (case ku => first | ktr_units | decide)))
  k_with "zn h0" => (k_here; k_dflt (refine LCg.CompSrc.range (by rfl) (by k_asm) (by k_asm) (by assumption) (by first | decide | rfl) (by first | rfl | decide) (by first | size_fits | exact Nat.le_of_ble_eq_true rfl) ?_; intro _; lcg_lit))
  trivial
set_option maxRecDepth 100000
set_option maxHeartbeats 8000000
theorem fillD : PySem.Challenge.rw_zn0003_01 = PySem.Challenge.rw_zn0003_01 ∧ hd.heap_39 = hd.heap_39 := by
  k_fill
  w_top off
  exact ⟨rfl, rfl⟩
-- a call that a contract answers

theorem wordsZn3D2 : True := by
  k_with "call ref" => ((k_here; k_dflt (refine' use_count ?k1 ?k2 ?k3 ?k4 ?k5 ?kK ?kd ?ku ?kS ?_; walk_at "zn st"; (case kS => first | exact SD.keep (by assumption) (Fr.keep (by assumption)) | exact SDO.sd (by assumption) (by assumption) (News.get (by assumption) (by k_mem))); k_whole); intro _ _ _ _ _))
  trivial
theorem keys_neg (l : Bk) : keysOf (negB l) = keysOf l := by simp [keysOf, negB]
theorem loan0_ct (prog : Program) (w : World) (ca nm : Addr) (kk : Int) (d0 d1 d2 : Addr) (l : Bk) (x y z : Str) (u1 u2 u3 tk : Tok) (hkk : kk = 0) (hl : l.length ≤ 100) : Ct prog w 67 5 [.ref ca, .ref nm, .int kk tk]
    (fun h => h.IsList ca #[.ref d0, .ref d1, .ref d2] ∧ h.IsList nm #[.str x u1, .str y u2, .str z u3] ∧ SD prog w h d0 l)
    (fun h h' r => ∃ d o, r = .ref d ∧ (d == sysModules) = false ∧ SDO prog w o (put (negB l) x (l.map (·.2)).sum) ∧ Fresh h h' [(d, o)]) := by
  subst hkk
  intro p loose mean mg mb dp un gd cn cs ca' ccd cl outer A₀ base h₀ L m s Q E B F X T hk hdp hun hpre hret
  obtain ⟨hl1, hl2, hS⟩ := hpre
  have hnod := hS.nodup
  refine wpAny_call ?_
  k_dflt (walk_at "zn enterS")
  k_steps
  rename Fr _ _ _ _ => F5
  rename Top _ _ _ _ _ s.heap => T'
  rename News _ _ _ _ => N5
  k_dflt (refine assignDictComp F5 (cl := []) (by rfl) (by with_unfolding_all rfl) (by with_unfolding_all rfl) (by decide) (by rfl) (by decide) (by rfl) (by rfl) ?_ (by intro _; rfl))
  k_steps
  refine callItems (l := l) F5 N5 (by assumption) ?_
  intro h3 hv3 F6 N6
  k_dflt (refine dictItems (l := l) (fun i => (negB l).take i) (by rfl) (by rfl) (by rfl) (by rfl) (by decide) hv3 (by assumption) (by omega) F6 N6 (big_of T') (by rfl) ?_ ?_)
  · intro i k v tk1 tk2 I oI C oC D oD m2 h tk E' hi hC hm1 hm2 F7 N7 off ne
    clear F5 N5 F6 N6
    have hn : (keysOf (negB l)).Nodup := by rw [keys_neg]; exact hnod
    have hi' : (negB l)[i]? = some (k, -v) := by simp [negB, hi]
    have hs := take_put hn hi'
    unfold DBody
    refine wpAny_tests_nil ?_
    k_steps
    all_goals first | exact ⟨_, _, rfl, F7, N7⟩ | exact hs.symm
  · intro D o h lo S h2 tk2 F7 N7 o1
    clear F5 N5 F6 N6
    obtain ⟨kvs, hd4, hf4⟩ := S
    rw [show l.length = (negB l).length by simp [negB], List.take_length] at hf4
    have hap : ∀ p ∈ ([] : List (Addr × Obj)), p.1 ≠ D := by simp
    have hlen : (encD (negB l)).length ≤ sizeLine := by rw [encD_length, sizeLine_eq]; simp only [negB, List.length_map]; omega
    k_steps
    rename_i h7 o7 F7 N7 hd7 hf7
    rw [putD_enc] at hf7
    exact hret _ _ _ F7.keep ⟨D, o7, rfl, lo, ⟨_, hd7, hf7⟩, fun p hp => ⟨(N7 p hp).1, (N7 p hp).2.2⟩⟩
theorem loan1_ct (prog : Program) (w : World) (ca nm : Addr) (kk : Int) (d0 d1 d2 : Addr) (l : Bk) (x y z : Str) (u1 u2 u3 tk : Tok) (hkk : kk = 1) (hl : l.length ≤ 100) : Ct prog w 67 5 [.ref ca, .ref nm, .int kk tk]
    (fun h => h.IsList ca #[.ref d0, .ref d1, .ref d2] ∧ h.IsList nm #[.str x u1, .str y u2, .str z u3] ∧ SD prog w h d1 l)
    (fun h h' r => ∃ d o, r = .ref d ∧ (d == sysModules) = false ∧ SDO prog w o (put (negB l) y (l.map (·.2)).sum) ∧ Fresh h h' [(d, o)]) := by
  subst hkk
  intro p loose mean mg mb dp un gd cn cs ca' ccd cl outer A₀ base h₀ L m s Q E B F X T hk hdp hun hpre hret
  obtain ⟨hl1, hl2, hS⟩ := hpre
  have hnod := hS.nodup
  refine wpAny_call ?_
  k_dflt (walk_at "zn enterS")
  k_steps
  rename Fr _ _ _ _ => F5
  rename Top _ _ _ _ _ s.heap => T'
  rename News _ _ _ _ => N5
  k_dflt (refine assignDictComp F5 (cl := []) (by rfl) (by with_unfolding_all rfl) (by with_unfolding_all rfl) (by decide) (by rfl) (by decide) (by rfl) (by rfl) ?_ (by intro _; rfl))
  k_steps
  refine callItems (l := l) F5 N5 (by assumption) ?_
  intro h3 hv3 F6 N6
  k_dflt (refine dictItems (l := l) (fun i => (negB l).take i) (by rfl) (by rfl) (by rfl) (by rfl) (by decide) hv3 (by assumption) (by omega) F6 N6 (big_of T') (by rfl) ?_ ?_)
  · intro i k v tk1 tk2 I oI C oC D oD m2 h tk E' hi hC hm1 hm2 F7 N7 off ne
    clear F5 N5 F6 N6
    have hn : (keysOf (negB l)).Nodup := by rw [keys_neg]; exact hnod
    have hi' : (negB l)[i]? = some (k, -v) := by simp [negB, hi]
    have hs := take_put hn hi'
    unfold DBody
    refine wpAny_tests_nil ?_
    k_steps
    all_goals first | exact ⟨_, _, rfl, F7, N7⟩ | exact hs.symm
  · intro D o h lo S h2 tk2 F7 N7 o1
    clear F5 N5 F6 N6
    obtain ⟨kvs, hd4, hf4⟩ := S
    rw [show l.length = (negB l).length by simp [negB], List.take_length] at hf4
    have hap : ∀ p ∈ ([] : List (Addr × Obj)), p.1 ≠ D := by simp
    have hlen : (encD (negB l)).length ≤ sizeLine := by rw [encD_length, sizeLine_eq]; simp only [negB, List.length_map]; omega
    k_steps
    rename_i h7 o7 F7 N7 hd7 hf7
    rw [putD_enc] at hf7
    exact hret _ _ _ F7.keep ⟨D, o7, rfl, lo, ⟨_, hd7, hf7⟩, fun p hp => ⟨(N7 p hp).1, (N7 p hp).2.2⟩⟩
theorem loan2_ct (prog : Program) (w : World) (ca nm : Addr) (kk : Int) (d0 d1 d2 : Addr) (l : Bk) (x y z : Str) (u1 u2 u3 tk : Tok) (hkk : kk = 2) (hl : l.length ≤ 100) : Ct prog w 67 5 [.ref ca, .ref nm, .int kk tk]
    (fun h => h.IsList ca #[.ref d0, .ref d1, .ref d2] ∧ h.IsList nm #[.str x u1, .str y u2, .str z u3] ∧ SD prog w h d2 l)
    (fun h h' r => ∃ d o, r = .ref d ∧ (d == sysModules) = false ∧ SDO prog w o (put (negB l) z (l.map (·.2)).sum) ∧ Fresh h h' [(d, o)]) := by
  subst hkk
  intro p loose mean mg mb dp un gd cn cs ca' ccd cl outer A₀ base h₀ L m s Q E B F X T hk hdp hun hpre hret
  obtain ⟨hl1, hl2, hS⟩ := hpre
  have hnod := hS.nodup
  refine wpAny_call ?_
  k_dflt (walk_at "zn enterS")
  k_steps
  rename Fr _ _ _ _ => F5
  rename Top _ _ _ _ _ s.heap => T'
  rename News _ _ _ _ => N5
  k_dflt (refine assignDictComp F5 (cl := []) (by rfl) (by with_unfolding_all rfl) (by with_unfolding_all rfl) (by decide) (by rfl) (by decide) (by rfl) (by rfl) ?_ (by intro _; rfl))
  k_steps
  refine callItems (l := l) F5 N5 (by assumption) ?_
  intro h3 hv3 F6 N6
  k_dflt (refine dictItems (l := l) (fun i => (negB l).take i) (by rfl) (by rfl) (by rfl) (by rfl) (by decide) hv3 (by assumption) (by omega) F6 N6 (big_of T') (by rfl) ?_ ?_)
  · intro i k v tk1 tk2 I oI C oC D oD m2 h tk E' hi hC hm1 hm2 F7 N7 off ne
    clear F5 N5 F6 N6
    have hn : (keysOf (negB l)).Nodup := by rw [keys_neg]; exact hnod
    have hi' : (negB l)[i]? = some (k, -v) := by simp [negB, hi]
    have hs := take_put hn hi'
    unfold DBody
    refine wpAny_tests_nil ?_
    k_steps
    all_goals first | exact ⟨_, _, rfl, F7, N7⟩ | exact hs.symm
  · intro D o h lo S h2 tk2 F7 N7 o1
    clear F5 N5 F6 N6
    obtain ⟨kvs, hd4, hf4⟩ := S
    rw [show l.length = (negB l).length by simp [negB], List.take_length] at hf4
    have hap : ∀ p ∈ ([] : List (Addr × Obj)), p.1 ≠ D := by simp
    have hlen : (encD (negB l)).length ≤ sizeLine := by rw [encD_length, sizeLine_eq]; simp only [negB, List.length_map]; omega
    k_steps
    rename_i h7 o7 F7 N7 hd7 hf7
    rw [putD_enc] at hf7
    exact hret _ _ _ F7.keep ⟨D, o7, rfl, lo, ⟨_, hd7, hf7⟩, fun p hp => ⟨(N7 p hp).1, (N7 p hp).2.2⟩⟩
end

section
set_option maxRecDepth 100000

section
variable {prog : Program} {w : World} {A : Around} {E : Value → Shared → Prop} {s : Shared} {env : Env} {h₀ : Heap} {L : Addr} {m : Str → Option Value}

/-- a list comprehension of two clauses, its turns -/
theorem compTurn_two0 (elt it0 it1 : Expr) (x0 x1 : Str) (p0 p1 : Pos) (scope : Scope) (pos : Pos) (it acc : Value) (env : Env) :
    compTurn (.ListComp elt [⟨.Name x0 p0, it0, [], 0⟩, ⟨.Name x1 p1, it1, [], 0⟩] scope pos) 0 it acc env = (standAt it0.pos >>= fun _ => pyNext it >>= fun r => match r with
      | none => pure (.done .next)
      | some v => letOwnedTupleGo (.Name x0 p0) it v >>= fun _ => assign (.Name x0 p0) env v >>= fun _ =>
        (eval it1 env >>= fun x => standAt it1.pos >>= fun _ => foldedSetIterable it1 env x >>= fun x => holding [x] (pyIter x) >>= fun it' =>
          runOwn (.compStart (.ListComp elt [⟨.Name x0 p0, it0, [], 0⟩, ⟨.Name x1 p1, it1, [], 0⟩] scope pos) 1 it' acc env) env >>= fun _ =>
            again (.compLoop (.ListComp elt [⟨.Name x0 p0, it0, [], 0⟩, ⟨.Name x1 p1, it1, [], 0⟩] scope pos) 0 it acc env))) := by rfl
theorem compTurn_two1 (elt it0 it1 : Expr) (x0 x1 : Str) (p0 p1 : Pos) (scope : Scope) (pos : Pos) (it acc : Value) (env : Env) :
    compTurn (.ListComp elt [⟨.Name x0 p0, it0, [], 0⟩, ⟨.Name x1 p1, it1, [], 0⟩] scope pos) 1 it acc env = (standAt it1.pos >>= fun _ => pyNext it >>= fun r => match r with
      | none => pure (.done .next)
      | some v => letOwnedTupleGo (.Name x1 p1) it v >>= fun _ => assign (.Name x1 p1) env v >>= fun _ =>
        (eval elt env >>= fun x => call (.builtin "list.append") [acc, x] >>= fun _ => pure ()) >>= fun _ =>
          again (.compLoop (.ListComp elt [⟨.Name x0 p0, it0, [], 0⟩, ⟨.Name x1 p1, it1, [], 0⟩] scope pos) 1 it acc env)) := by rfl

theorem codeAny_compStart_two1 {R : Result → Shared → Prop} {elt it0 it1 : Expr} {x0 x1 : Str} {p0 p1 : Pos} {scope : Scope} {pos : Pos} {it acc : Value}
    (h0 : codeAny (model prog w) A (.compLoop (.ListComp elt [⟨.Name x0 p0, it0, [], 0⟩, ⟨.Name x1 p1, it1, [], 0⟩] scope pos) 1 it acc env) R s)
    (h : wpAny (model prog w) A (pyIter it) (fun it' s' => codeAny (model prog w) A (.compLoop (.ListComp elt [⟨.Name x0 p0, it0, [], 0⟩, ⟨.Name x1 p1, it1, [], 0⟩] scope pos) 1 it' acc env) R s')
      (notedBy (model prog w) A env fun x s' => R (.error x) s') s) :
    codeAny (model prog w) A (.compStart (.ListComp elt [⟨.Name x0 p0, it0, [], 0⟩, ⟨.Name x1 p1, it1, [], 0⟩] scope pos) 1 it acc env) R s := by
  refine codeAny_of_tree ?_
  show wpAny _ _ ((compStart (.ListComp elt [⟨.Name x0 p0, it0, [], 0⟩, ⟨.Name x1 p1, it1, [], 0⟩] scope pos) 1 it acc env).onRaise (fun x => do noteFrame x env; standAt theWindowsPlace)) _ _ s
  refine wpAny_notedAt ?_
  unfold compStart
  show wpAny _ _ (ask >>= _) _ _ s
  refine wpAny_bind (wpAny_askSetting (wpAny_ite ?_))
  split
  · first
      | exact wpAny_bind (wpAny_pure (wpAny_pure (And.intro rfl h0)))
      | exact wpAny_pure (And.intro rfl h0)
  · first
      | exact wpAny_bind (wpAny_rule (wpAny_bind (wpAny_standAt (wpAny_bind (wpAny_mono h (fun it' s' h' => wpAny_pure (And.intro rfl h')) fun _ _ x => x)))))
      | (refine wpAny_bind (wpAny_rule ?_); show wpAny _ _ (standAt it1.pos >>= _) _ _ s; exact wpAny_bind (wpAny_standAt (wpAny_bind (wpAny_mono h (fun it' s' h' => wpAny_pure (And.intro rfl h')) fun _ _ x => x))))

theorem compLoop0_any {R : Result → Shared → Prop} {elt it0 it1 : Expr} {x0 x1 : Str} {p0 p1 : Pos} {scope : Scope} {pos : Pos} {it acc : Value} (J : Nat → Shared → Prop)
    (turn : ∀ n s, J n s → wpAny (model prog w) A (pyNext it) (fun r s₁ => match r with
      | none => R (.ok .next) s₁
      | some v => wpAny (model prog w) A (assign (.Name x0 p0) env v) (fun _ s₂ => wpAny (model prog w) A (eval it1 env) (fun xv s₃ => wpAny (model prog w) A (pyIter xv) (fun it' s₄ =>
          codeAny (model prog w) A (.compStart (.ListComp elt [⟨.Name x0 p0, it0, [], 0⟩, ⟨.Name x1 p1, it1, [], 0⟩] scope pos) 1 it' acc env) (fun r s₅ => match r with | .ok _ => ∃ m, m < n ∧ J m s₅ | .error _ => False) s₄)
          (notedBy (model prog w) A env fun e s' => R (.error e) s') s₃) (notedBy (model prog w) A env fun e s' => R (.error e) s') s₂) (notedBy (model prog w) A env fun e s' => R (.error e) s') s₁) (notedBy (model prog w) A env fun e s' => R (.error e) s') s)
    (hs : ∀ x, foldedSetIterable it1 env x = pure x) (n : Nat) (h : J n s) :
    codeAny (model prog w) A (.compLoop (.ListComp elt [⟨.Name x0 p0, it0, [], 0⟩, ⟨.Name x1 p1, it1, [], 0⟩] scope pos) 0 it acc env) R s := by
  refine codeAny_loop rfl J (fun n s hI => ?_) n h
  show wpAny _ _ ((compTurn (.ListComp elt [⟨.Name x0 p0, it0, [], 0⟩, ⟨.Name x1 p1, it1, [], 0⟩] scope pos) 0 it acc env).onRaise (fun x => do noteFrame x env; theTreesLotGoes x)) _ _ s
  refine wpAny_noted ?_
  rw [compTurn_two0]
  refine wpAny_bind (wpAny_standAt (wpAny_bind (wpAny_mono (turn n s hI) (fun r s₁ h₁ => ?_) fun _ _ h' => h')))
  cases r with
  | none => exact wpAny_pure h₁
  | some v =>
    refine wpAny_bind (wpAny_of_eq (a := ()) rfl ?_)
    refine wpAny_bind (wpAny_mono h₁ (fun _ s₂ h₂ => wpAny_bind (wpAny_mono h₂ (fun xv s₃ h₃ => ?_) fun _ _ h' => h')) fun _ _ h' => h')
    refine wpAny_bind (wpAny_standAt (wpAny_bind (wpAny_of_eq (hs xv) (wpAny_bind (wpAny_holding (wpAny_mono h₃ (fun it' s₄ h₄ => ?_) fun _ _ h' => h'))))))
    refine wpAny_bind (wpAny_runOwn (h := none) (codeAny_mono h₄ fun r s₅ h₅ => ?_))
    cases r with
    | ok f => exact wpAny_pure ⟨rfl, h₅⟩
    | error e => exact h₅.elim

theorem compLoop1_any {R : Result → Shared → Prop} {elt it0 it1 : Expr} {x0 x1 : Str} {p0 p1 : Pos} {scope : Scope} {pos : Pos} {it acc : Value} (J : Nat → Shared → Prop)
    (turn : ∀ n s, J n s → wpAny (model prog w) A (pyNext it) (fun r s₁ => match r with
      | none => R (.ok .next) s₁
      | some v => wpAny (model prog w) A (assign (.Name x1 p1) env v) (fun _ s₂ => wpAny (model prog w) A (eval elt env) (fun x s₃ => wpAny (model prog w) A (call (.builtin "list.append") [acc, x]) (fun _ s₄ => ∃ m, m < n ∧ J m s₄)
          (notedBy (model prog w) A env fun e s' => R (.error e) s') s₃) (notedBy (model prog w) A env fun e s' => R (.error e) s') s₂) (notedBy (model prog w) A env fun e s' => R (.error e) s') s₁) (notedBy (model prog w) A env fun e s' => R (.error e) s') s)
    (n : Nat) (h : J n s) :
    codeAny (model prog w) A (.compLoop (.ListComp elt [⟨.Name x0 p0, it0, [], 0⟩, ⟨.Name x1 p1, it1, [], 0⟩] scope pos) 1 it acc env) R s := by
  refine codeAny_loop rfl J (fun n s hI => ?_) n h
  show wpAny _ _ ((compTurn (.ListComp elt [⟨.Name x0 p0, it0, [], 0⟩, ⟨.Name x1 p1, it1, [], 0⟩] scope pos) 1 it acc env).onRaise (fun x => do noteFrame x env; theTreesLotGoes x)) _ _ s
  refine wpAny_noted ?_
  rw [compTurn_two1]
  refine wpAny_bind (wpAny_standAt (wpAny_bind (wpAny_mono (turn n s hI) (fun r s₁ h₁ => ?_) fun _ _ h' => h')))
  cases r with
  | none => exact wpAny_pure h₁
  | some v =>
    refine wpAny_bind (wpAny_of_eq (a := ()) rfl ?_)
    exact wpAny_bind (wpAny_mono h₁ (fun _ s₂ h₂ => wpAny_bind (wpAny_bind (wpAny_mono h₂ (fun x s₃ h₃ => wpAny_bind (wpAny_mono h₃
      (fun _ s₄ h₄ => wpAny_pure (wpAny_pure ⟨rfl, h₄⟩)) fun _ _ h' => h')) fun _ _ h' => h'))) fun _ _ h' => h')
end
/-- the walk halts here -/
def Hold (P : Prop) : Prop := P
theorem hold {P : Prop} (h : Hold P) : P := h
def EndW (J : Nat → Shared → Prop) (n : Nat) (Q : Flow → Shared → Prop) (f : Flow) (s : Shared) : Prop := match f with
  | .ret v => Q (.ret v) s
  | .brk => Q .next s
  | _ => ∃ m, m < n ∧ J m s
theorem whileAny {prog : Program} {w : World} {A : Around} {E : Value → Shared → Prop} {s : Shared} {env : Env} {test : Expr} {body orelse : List Stmt} {pos : Pos} {Q : Flow → Shared → Prop} (J : Nat → Shared → Prop)
    (turn : ∀ n s, J n s → wpAny (model prog w) A (isTrue test env (eval test env)) (fun b s₂ => if b = true then wpAny (model prog w) A (execs body env) (EndW J n Q) E s₂ else wpAny (model prog w) A (execs orelse env) Q E s₂) E s)
    (n : Nat) (h : J n s) (hE : PassesOwn (model prog w) A env E := by passes_own) : wpAny (model prog w) A (exec (.While test body orelse pos) env) Q E s := by
  refine wpAny_While (codeAny_whileLoop J (fun n s hJ => ?_) n h)
  refine wpAny_passesOwn hE ?_
  refine wpAny_mono (turn n s hJ) (fun b s₂ h₂ => ?_) fun _ _ e => e
  cases b with
  | false =>
    simp only [Bool.false_eq_true, if_false] at h₂ ⊢
    exact wpAny_passesOwn hE h₂
  | true =>
    simp only [if_true] at h₂ ⊢
    refine wpAny_passesOwn hE (wpAny_mono h₂ (fun f s₃ h₃ => ?_) fun _ _ e => e)
    cases f <;> exact h₃
end

section
set_option maxRecDepth 100000

section
variable {prog : Program} {w : World} {A : Around} {E : Value → Shared → Prop} {s : Shared} {env : Env} {h₀ : Heap} {L : Addr} {m : Str → Option Value}

def Off2 (I C : Addr) (rest : List (Addr × Obj)) : Prop := ∀ p ∈ rest, p.1 ≠ I ∧ p.1 ≠ C
/-- a block's loop over range(n), at rest -/
def RJ (h₀ : Heap) (L : Addr) (m : Str → Option Value) (I C : Addr) (n : Nat) (J : Nat → (Str → Option Value) → List (Addr × Obj) → Prop) (s : Shared) (k : Nat) (s' : Shared) : Prop :=
  ∃ h' tk i m' rest, s' = { s with heap := h', toks := tk } ∧ i ≤ n ∧ k = n + 1 - i ∧ IsRangeIter h' I (i : Nat) ((n : Int) - (i : Nat)) 1 ∧ Fr h₀ L h' m ∧ h'.Ns C m' ∧ News h₀ L h' rest ∧ Off2 I C rest ∧ J i m' rest
/-- what a turn of it leaves -/
def REnd (h₀ : Heap) (L : Addr) (m : Str → Option Value) (I C : Addr) (oI : Obj) (J : (Str → Option Value) → List (Addr × Obj) → Prop) (s₁ s₂ : Shared) : Prop :=
  ∃ h' tk oC' m₂ rest, s₂ = { s₁ with heap := h', toks := tk } ∧ Fr h₀ L h' m ∧ LCg.NsObj oC' m₂ ∧ News h₀ L h' ((I, oI) :: (C, oC') :: rest) ∧ Off2 I C rest ∧ J m₂ rest

def rangeObj (i n : Nat) : Obj := { cls := .type "range_iterator", data := .fields #[rawInt (i : Int), rawInt ((n : Int) - (i : Nat)), rawInt 1] }

theorem rangeTurn {x : Str} {px : Pos} {cenv : Env} {I C : Addr} {n : Nat} {R : Shared → Prop} {J : Nat → (Str → Option Value) → List (Addr × Obj) → Prop} {Body : Nat → Shared → Prop} (hh : A.handled = none) (hx : cenv.kindOf x = some .local)
    (hp : (cenv.scope.kind == .class || (cenv.scope.kind == .module && cenv.locals != cenv.globals)) = false) (hlc : cenv.locals = C) (hIL : I ≠ L) (hI₀ : h₀.get? I = none) (hCL : C ≠ L) (hC₀ : h₀.get? C = none) (hIC : I ≠ C)
    (turn : ∀ (i : Nat) (t : Tok) (m' : Str → Option Value) (oC : Obj) (rest : List (Addr × Obj)) (h : Heap) (tk : Nat), i < n → J i m' rest → LCg.NsObj oC (fun y => if y = x then some (.int (i : Nat) t) else m' y) → Fr h₀ L h m → News h₀ L h ((I, rangeObj (i + 1) n) :: (C, oC) :: rest) → Off2 I C rest → Body i { s with heap := h, toks := tk })
    (fin : ∀ (h : Heap) (tk : Nat) (m' : Str → Option Value) (rest : List (Addr × Obj)), Fr h₀ L h m → h.Ns C m' → News h₀ L h rest → Off2 I C rest → J n m' rest → R { s with heap := h, toks := tk })
    (k : Nat) (s' : Shared) (hJ : RJ h₀ L m I C n J s k s') :
    wpAny (model prog w) A (pyNext (.ref I)) (fun r s₁ => match r with
      | none => R s₁
      | some v => wpAny (model prog w) A (assign (.Name x px) cenv v) (fun _ s₂ => ∃ i, i < n ∧ k = n + 1 - i ∧ Body i s₂) E s₁) E s' := by
  subst hlc
  obtain ⟨h', tk, i, m', rest, rfl, hi, rfl, hit, F, hn, N, off, hj⟩ := hJ
  by_cases hlt : i < n
  · refine wpAny_pyNext_range_item hit (by omega) fun h₁ hit₁ hs₁ => ?_
    have F₁ : Fr h₀ L h₁ m := ⟨F.ns.sameBut hs₁ (Ne.symm hIL), fun b o e => (hs₁.2 b (fun q => by rw [q, hI₀] at e; cases e)).trans (F.keep b o e), F.above⟩
    refine wpAny_assign_Name (wpAny_storeName_local hx (hn.sameBut hs₁ (Ne.symm hIC)) (fun h₂ hn₂ hs₂ => ?_) hp)
    obtain ⟨oC, heC, hoC⟩ := LCg.ns_obj hn₂
    refine ⟨i, hlt, rfl, turn i _ m' oC rest h₂ _ hlt hj hoC (F₁.change hs₂ hCL hC₀) (fun p hp => ?_) off⟩
    rcases List.mem_cons.mp hp with rfl | hp
    · refine ⟨hs₂.extBut _ _ hIC ?_, hIL, hI₀⟩
      have e2 : (n : Int) - ((i + 1 : Nat) : Int) = (n : Int) - (i : Int) - 1 := by omega
      have e3 : ((i + 1 : Nat) : Int) = (i : Int) + 1 := by omega
      unfold rangeObj
      rw [e2, e3]
      exact hit₁
    · rcases List.mem_cons.mp hp with rfl | hp
      · exact ⟨heC, hCL, hC₀⟩
      · exact ⟨hs₂.extBut _ _ (off p hp).2 ((hs₁.2 p.1 (off p hp).1).trans (N p hp).1), (N p hp).2⟩
  · obtain rfl : i = n := by omega
    refine wpAny_pyNext_range_end hh hit (by omega) fun h₁ he₁ => ?_
    exact fin h₁ tk m' rest ⟨F.ns.at' fun o e => he₁ _ o (Ne.symm hIL) e, fun b o e => he₁ b o (fun q => by rw [q, hI₀] at e; cases e) (F.keep b o e), F.above⟩ (hn.at' fun o e => he₁ _ o (Ne.symm hIC) e)
      (fun p hp => ⟨he₁ _ _ (off p hp).1 (N p hp).1, (N p hp).2⟩) off hj

theorem RJ.next {I C : Addr} {n i : Nat} {J : Nat → (Str → Option Value) → List (Addr × Obj) → Prop} {s₁ s₂ : Shared} (hi : i < n) (e : ∃ h tk, s₁ = { s with heap := h, toks := tk }) (h : REnd h₀ L m I C (rangeObj (i + 1) n) (J (i + 1)) s₁ s₂) :
    ∃ k, k < n + 1 - i ∧ RJ h₀ L m I C n J s k s₂ := by
  obtain ⟨h1, tk1, rfl⟩ := e
  obtain ⟨h', tk, oC', m₂, rest, rfl, F, hC, N, off, hj⟩ := h
  exact ⟨n + 1 - (i + 1), by omega, h', tk, i + 1, m₂, rest, rfl, hi, rfl, (N _ List.mem_cons_self).1, F, hC.ns (N _ (List.mem_cons_of_mem _ List.mem_cons_self)).1,
    fun p hp => N p (List.mem_cons_of_mem _ (List.mem_cons_of_mem _ hp)), off, hj⟩

/-- the inner clause of a list comprehension of two -/
theorem two_inner {R : Shared → Prop} {elt it0 it1 : Expr} {x0 x1 : Str} {p0 p1 : Pos} {scope : Scope} {pos : Pos} {acc : Value} {cenv : Env} {I C : Addr} {n : Nat} {m₀ : Str → Option Value} {rest₀ : List (Addr × Obj)} (J : Nat → (Str → Option Value) → List (Addr × Obj) → Prop) (hh : A.handled = none) (hx : cenv.kindOf x1 = some .local)
    (hp : (cenv.scope.kind == .class || (cenv.scope.kind == .module && cenv.locals != cenv.globals)) = false) (hlc : cenv.locals = C) (hIL : I ≠ L) (hI₀ : h₀.get? I = none) (hCL : C ≠ L) (hC₀ : h₀.get? C = none) (hIC : I ≠ C)
    (hit : IsRangeIter s.heap I 0 n 1) (F : Fr h₀ L s.heap m) (hn : s.heap.Ns C m₀) (N : News h₀ L s.heap rest₀) (off : Off2 I C rest₀) (h0 : J 0 m₀ rest₀)
    (turn : ∀ (i : Nat) (t : Tok) (m' : Str → Option Value) (oC : Obj) (rest : List (Addr × Obj)) (h : Heap) (tk : Nat) (E' : Value → Shared → Prop), i < n → J i m' rest → LCg.NsObj oC (fun y => if y = x1 then some (.int (i : Nat) t) else m' y) → Fr h₀ L h m → News h₀ L h ((I, rangeObj (i + 1) n) :: (C, oC) :: rest) → Off2 I C rest →
      wpAny (model prog w) A (eval elt cenv) (fun x s₃ => wpAny (model prog w) A (call (.builtin "list.append") [acc, x]) (fun _ s₄ => REnd h₀ L m I C (rangeObj (i + 1) n) (J (i + 1)) { s with heap := h, toks := tk } s₄) E' s₃) E' { s with heap := h, toks := tk })
    (fin : ∀ (h : Heap) (tk : Nat) (m' : Str → Option Value) (rest : List (Addr × Obj)), Fr h₀ L h m → h.Ns C m' → News h₀ L h rest → Off2 I C rest → J n m' rest → R { s with heap := h, toks := tk }) :
    codeAny (model prog w) A (.compStart (.ListComp elt [⟨.Name x0 p0, it0, [], 0⟩, ⟨.Name x1 p1, it1, [], 0⟩] scope pos) 1 (.ref I) acc cenv) (fun r s₅ => match r with | .ok _ => R s₅ | .error _ => False) s := by
  have loop : codeAny (model prog w) A (.compLoop (.ListComp elt [⟨.Name x0 p0, it0, [], 0⟩, ⟨.Name x1 p1, it1, [], 0⟩] scope pos) 1 (.ref I) acc cenv) (fun r s₅ => match r with | .ok _ => R s₅ | .error _ => False) s := by
    refine compLoop1_any (RJ h₀ L m I C n J s) (fun k s' hJ => ?_) (n + 1) ⟨s.heap, s.toks, 0, m₀, rest₀, rfl, Nat.zero_le _, rfl, by simpa using hit, F, hn, N, off, h0⟩
    refine wpAny_mono (rangeTurn (E := notedBy (model prog w) A cenv fun e s' => False) (px := p1) (x := x1) (R := R) (Body := fun i s₂ => wpAny (model prog w) A (eval elt cenv) (fun x s₃ => wpAny (model prog w) A (call (.builtin "list.append") [acc, x])
        (fun _ s₄ => ∃ k, k < n + 1 - i ∧ RJ h₀ L m I C n J s k s₄) (notedBy (model prog w) A cenv fun e s' => False) s₃) (notedBy (model prog w) A cenv fun e s' => False) s₂)
      hh hx hp hlc hIL hI₀ hCL hC₀ hIC ?_ fin k s' hJ) (fun r s₁ h₁ => ?_) fun _ _ e => e
    · intro i t m' oC rest h tk hi hj hC F' N' off'
      exact wpAny_mono (turn i t m' oC rest h tk _ hi hj hC F' N' off') (fun x s₃ h₃ => wpAny_mono h₃ (fun _ s₄ h₄ => RJ.next hi ⟨_, _, rfl⟩ h₄) fun _ _ e => e) fun _ _ e => e
    · cases r with
      | none => exact h₁
      | some v =>
        refine wpAny_mono h₁ (fun _ s₂ h₂ => ?_) fun _ _ e => e
        obtain ⟨i, hi, rfl, h₂⟩ := h₂
        exact h₂
  exact codeAny_compStart_two1 loop ((LCg.range_walks hh 0 n).self 0 _ _ _ (by simpa using hit) loop)

/-- the outer clause -/
theorem two_outer {RR : Value → Addr → Result → Shared → Prop} {elt it0 it1 : Expr} {x0 x1 : Str} {p0 p1 : Pos} {scope : Scope} {cl : List (Str × Addr)} {pos : Pos} {I : Addr} {n : Nat} {news : List (Addr × Obj)} (J : Addr → Nat → List (Addr × Obj) → Prop) (hh : A.handled = none)
    (hs : ∀ cenv x, foldedSetIterable it1 cenv x = pure x) (hcell : ∀ y ∈ scope.names, y.2 ≠ .cell) (hkind : scope.kind = .function) (hx : (compEnvC scope cl L env).kindOf x0 = some .local)
    (hit : IsRangeIter s.heap I 0 n 1) (F : Fr h₀ L s.heap m) (N : News h₀ L s.heap news) (hIL : L ≠ I) (hI₀ : h₀.get? I = none) (off : ∀ p ∈ news, p.1 ≠ I)
    (h0 : ∀ D, (∀ p ∈ news, p.1 ≠ D) → J D 0 ((D, LCg.lst []) :: news))
    (turn : ∀ (i : Nat) (t : Tok) (m' : Str → Option Value) (oC : Obj) (C D : Addr) (rest : List (Addr × Obj)) (h : Heap) (tk : Nat) (E' : Value → Shared → Prop), i < n → J D i rest → LCg.NsObj oC (fun y => if y = x0 then some (.int (i : Nat) t) else m' y) → Fr h₀ L h m → News h₀ L h ((I, rangeObj (i + 1) n) :: (C, oC) :: rest) → Off2 I C rest → I ≠ C →
      wpAny (model prog w) A (eval it1 (compEnvC scope cl C env)) (fun xv s₃ => wpAny (model prog w) A (pyIter xv) (fun it' s₄ =>
        codeAny (model prog w) A (.compStart (.ListComp elt [⟨.Name x0 p0, it0, [], 0⟩, ⟨.Name x1 p1, it1, [], 0⟩] scope pos) 1 it' (.ref D) (compEnvC scope cl C env)) (fun r s₅ => match r with | .ok _ => REnd h₀ L m I C (rangeObj (i + 1) n) (fun _ rest => J D (i + 1) rest) { s with heap := h, toks := tk } s₅ | .error _ => False) s₄) E' s₃) E' { s with heap := h, toks := tk })
    (hRR : ∀ (D C : Addr) (h : Heap) (tk : Nat) (m' : Str → Option Value) (rest : List (Addr × Obj)), Fr h₀ L h m → h.Ns C m' → News h₀ L h rest → (∀ p ∈ rest, p.1 ≠ C) → h₀.get? C = none → C ≠ L → J D n rest → RR (.ref D) C (.ok .next) { s with heap := h, toks := tk }) :
    wpAny (model prog w) A (newList []) (fun acc s₃ => wpAny (model prog w) A (newFunctionEnv scope env.globals cl [] env.qual none .none (some env)) (fun cenv s₄ =>
      codeAny (model prog w) A (.compStart (.ListComp elt [⟨.Name x0 p0, it0, [], 0⟩, ⟨.Name x1 p1, it1, [], 0⟩] scope pos) 0 (.ref I) acc { cenv with scope := relabel scope env }) (RR acc cenv.locals) s₄) E s₃) E s := by
  refine wpAny_newObj_type (wpAny_newFunctionEnv hcell (by intro y hy; simp at hy) (fun h₁ hns₁ hsb₁ => ?_) hkind)
  dsimp only at hns₁ hsb₁ ⊢
  generalize hH2 : s.heap.push { cls := .type "list", dict := none, data := .seq ([] : List Value).toArray } = H2 at hns₁ hsb₁ ⊢
  have hC : H2.objs.size = s.heap.objs.size + 1 := by rw [← hH2, Heap.size_push]
  have hDC : s.heap.objs.size ≠ H2.objs.size := by rw [hC]; exact Nat.ne_of_lt (Nat.lt_succ_self _)
  have below : ∀ b, b < s.heap.objs.size → b ≠ H2.objs.size ∧ b ≠ s.heap.objs.size := fun b hb => ⟨by rw [hC]; exact Nat.ne_of_lt (Nat.lt_succ_of_lt hb), Nat.ne_of_lt hb⟩
  have hIlt : I < s.heap.objs.size := Heap.lt_size hit
  have old : ∀ b o, s.heap.get? b = some o → h₁.get? b = some o := fun b o e => hsb₁.extBut b o (below b (Heap.lt_size e)).1 (Heap.get?_push_of_some _ (hH2 ▸ Heap.get?_push_of_some _ e))
  have hacc : h₁.get? s.heap.objs.size = some (LCg.lst []) := hsb₁.extBut _ _ hDC (Heap.get?_push_of_some _ (hH2 ▸ Heap.get?_push_size _ rfl))
  have fresh₀ : ∀ a, s.heap.objs.size ≤ a → h₀.get? a = none := fun a ha => Heap.get?_none_of_le (Nat.le_trans F.above (Nat.le_trans (Nat.le_of_lt F.ns.lt) ha))
  have hD₀ : h₀.get? s.heap.objs.size = none := fresh₀ _ (Nat.le_refl _)
  have hC₀ : h₀.get? H2.objs.size = none := fresh₀ _ (by rw [hC]; exact Nat.le_succ _)
  have hLlt : L < s.heap.objs.size := F.ns.lt
  have hDL : s.heap.objs.size ≠ L := Ne.symm (below L hLlt).2
  have hCL : H2.objs.size ≠ L := Ne.symm (below L hLlt).1
  have hCI : I ≠ H2.objs.size := (below I hIlt).1
  have hDI : I ≠ s.heap.objs.size := (below I hIlt).2
  have loop : ∀ s₃ : Shared, s₃ = { s with heap := h₁, toks := s.toks + ([] : List (Str × Value)).length } →
      codeAny (model prog w) A (.compLoop (.ListComp elt [⟨.Name x0 p0, it0, [], 0⟩, ⟨.Name x1 p1, it1, [], 0⟩] scope pos) 0 (.ref I) (.ref s.heap.objs.size) (compEnvC scope cl H2.objs.size env))
        (RR (.ref s.heap.objs.size) H2.objs.size) s₃ := by
    rintro s₃ rfl
    refine compLoop0_any (RJ h₀ L m I H2.objs.size n (fun i _ rest => J s.heap.objs.size i rest) s) (fun k s' hJ => ?_) (hs _) (n + 1) ⟨h₁, _, 0, _, (s.heap.objs.size, LCg.lst []) :: news, rfl, Nat.zero_le _, rfl, by simpa using old _ _ hit, F.keeps old, hns₁, ?_, ?_, h0 _ fun p hp => (below _ (Heap.lt_size (N p hp).1)).2⟩
    · refine wpAny_mono (rangeTurn (E := notedBy (model prog w) A (compEnvC scope cl H2.objs.size env) fun e s' => RR (.ref s.heap.objs.size) H2.objs.size (.error e) s') (px := p0) (x := x0) (cenv := compEnvC scope cl H2.objs.size env) (R := fun s' => RR (.ref s.heap.objs.size) H2.objs.size (.ok .next) s') (J := fun i _ rest => J s.heap.objs.size i rest)
        (Body := fun i s₂ => wpAny (model prog w) A (eval it1 (compEnvC scope cl H2.objs.size env)) (fun xv s₃ => wpAny (model prog w) A (pyIter xv) (fun it' s₄ =>
          codeAny (model prog w) A (.compStart (.ListComp elt [⟨.Name x0 p0, it0, [], 0⟩, ⟨.Name x1 p1, it1, [], 0⟩] scope pos) 1 it' (.ref s.heap.objs.size) (compEnvC scope cl H2.objs.size env)) (fun r s₅ => match r with | .ok _ => ∃ k, k < n + 1 - i ∧ RJ h₀ L m I H2.objs.size n (fun i _ rest => J s.heap.objs.size i rest) s k s₅ | .error _ => False) s₄)
          (notedBy (model prog w) A (compEnvC scope cl H2.objs.size env) fun e s' => RR (.ref s.heap.objs.size) H2.objs.size (.error e) s') s₃) (notedBy (model prog w) A (compEnvC scope cl H2.objs.size env) fun e s' => RR (.ref s.heap.objs.size) H2.objs.size (.error e) s') s₂)
        hh hx (by simp [compEnvC, relabel, hkind]) rfl (Ne.symm hIL) hI₀ hCL hC₀ hCI ?_ ?_ k s' hJ) (fun r s₁ h₁ => ?_) fun _ _ e => e
      · intro i t m' oC rest h tk hi hj hC F' N' off'
        refine wpAny_mono (turn i t m' oC _ _ rest h tk _ hi hj hC F' N' off' hCI) (fun xv s₃ h₃ => wpAny_mono h₃ (fun it' s₄ h₄ => codeAny_mono h₄ fun r s₅ h₅ => ?_) fun _ _ e => e) fun _ _ e => e
        cases r with
        | ok f => exact RJ.next hi ⟨_, _, rfl⟩ h₅
        | error e => exact h₅
      · intro h tk m' rest F' hn' N' off' hj
        exact hRR _ _ h tk m' rest F' hn' N' (fun p hp => (off' p hp).2) hC₀ hCL hj
      · cases r with
        | none => exact h₁
        | some v =>
          refine wpAny_mono h₁ (fun _ s₂ h₂ => ?_) fun _ _ e => e
          obtain ⟨i, hi, rfl, h₂⟩ := h₂
          exact h₂
    · intro p hp
      rcases List.mem_cons.mp hp with rfl | hp
      · exact ⟨hacc, hDL, hD₀⟩
      · exact ⟨old _ _ (N p hp).1, (N p hp).2⟩
    · intro p hp
      rcases List.mem_cons.mp hp with rfl | hp
      · exact ⟨Ne.symm hDI, hDC⟩
      · exact ⟨off p hp, (below _ (Heap.lt_size (N p hp).1)).1⟩
  exact codeAny_compStart_list (loop _ rfl) ((LCg.range_walks hh 0 n).self 0 _ _ _ (by simpa using old _ _ hit) (loop _ rfl))

def TwoSrc (prog : Program) (w : World) (A : Around) (env : Env) (elt it0 it1 : Expr) (x0 x1 : Str) (p0 p1 : Pos) (scope : Scope) (cl : List (Str × Addr)) (pos : Pos) (RR : Value → Addr → Result → Shared → Prop) (E : Value → Shared → Prop) (it : Value) (s₂ : Shared) : Prop :=
  wpAny (model prog w) A (newList []) (fun acc s₃ => wpAny (model prog w) A (newFunctionEnv scope env.globals cl [] env.qual none .none (some env)) (fun cenv s₄ =>
      codeAny (model prog w) A (.compStart (.ListComp elt [⟨.Name x0 p0, it0, [], 0⟩, ⟨.Name x1 p1, it1, [], 0⟩] scope pos) 0 it acc { cenv with scope := relabel scope env }) (RR acc cenv.locals) s₄) E s₃) E s₂
theorem evalTwo {elt it0 it1 : Expr} {x0 x1 : Str} {p0 p1 : Pos} {scope : Scope} {cl : List (Str × Addr)} {pos : Pos} {Q : Value → Shared → Prop}
    (hclos : closureFor scope env = pure cl) (hkind : scope.kind = .function) (hnames : ∀ y ∈ scope.names, y.2 = .local → scope.names.lookup y.1 = some .local)
    (h : wpAny (model prog w) A (eval it0 env) (fun xv s₁ => wpAny (model prog w) A (pyIter xv) (fun it s₂ => TwoSrc prog w A env elt it0 it1 x0 x1 p0 p1 scope cl pos (compPost (model prog w) A E none Q) E it s₂) E s₁) E s)
    (hs : ∀ x, foldedSetIterable it0 env x = pure x := by intro _; rfl) :
    wpAny (model prog w) A (eval (.ListComp elt [⟨.Name x0 p0, it0, [], 0⟩, ⟨.Name x1 p1, it1, [], 0⟩] scope pos) env) Q E s := by
  rw [arm_eval_ListComp]
  exact wpAny_comprehension_free (use := none) rfl hs hclos hkind hnames h
end
end

section
theorem wordsZn3E1 : True := by
  k_with_none
  k_with "zn st" => ((case k1 => k_asm); (case k2 => k_asm); (case k3 => k_asm); (case k4 => k_asm); (case k5 => k_asm); (case kK => first | exact rfl | assumption); (case kd => ktr_room); (case ku => ktr_units))
  k_with "zn yst" => ((case y1 => k_asm); (case y2 => k_asm); (case y3 => k_asm); (case y4 => k_asm); (case y5 => k_asm); (case yK => exact rfl); (case yd => first | ktr_room | decide); (case yu => first | ktr_units | decide))
  k_with "zn tail7" => (rintro hh7 tk7 r7 ⟨dd7, oo7, rfl, lo7, S7, hf7⟩ hN7 hO7 F7 N7; (have N9 := hN7 _ hf7); (have O9 := hO7 _ (hf7 _ (.head _)).2); (simp only [LCg.Off1, and_true] at O9); (simp only [List.cons_append, List.nil_append] at N9); clear hN7 hO7 N7 hf7)
  k_with "zn enterS" => (refine' enterS ?k1 ?k2 ?k3 ?k5 ?kA ?kF ?kK ?k6 ?k7 ?k8 ?k9 ?kB ?_ ?c2 ?c3 ?c4 ?c5; (case kA => exact rfl); (case kF => exact rfl); (case kK => assumption); (case k1 => k_asm); (case k2 => k_asm); (case k3 => k_asm); (case k5 => k_asm); (case k6 => k_is); (case k7 => k_is); (case k8 => ktr_room); (case k9 => exact BindsTo.of_eq rfl); (case c5 => decide); (case kB => exact locs rfl); (case c2 => exact rfl); (case c3 => exact rfl); (case c4 => exact rfl); k_whole; intro _ _ _ _ _ _ _; (try dsimp only); (try walk_at "zn liftB"); (try k_fold))
  k_with "zn enterC" => (refine' enterC ?k1 ?k2 ?k3 ?k5 ?kA ?kF ?kK ?k6 ?k7 ?k8 ?k9 ?kB ?kD ?_ ?c2 ?c3 ?c4; (case kA => exact rfl); (case kF => exact rfl); (case kK => assumption); (case k1 => k_asm); (case k2 => k_asm); (case k3 => k_asm); (case k5 => k_asm); (case k6 => k_is); (case k7 => k_is); (case k8 => ktr_room); (case k9 => exact BindsTo.of_eq rfl); (case kB => exact rfl); (case kD => decide +kernel); (case c2 => exact rfl); (case c3 => exact rfl); (case c4 => exact rfl); k_whole; intro _ _ _ _ _ _ _ _ _ _; (try dsimp only); (try walk_at "zn liftB"); (try k_fold); walk_at "zn cellsY")
  k_with "zn k_sub" => ((intro p hp; repeat (first | exact hp | refine List.mem_cons_of_mem _ ?_)))
  k_with "zn sd_there" => (first | exact SD.keep (by assumption) (Fr.keep (by assumption)) | exact Held.sd (by assumption) (by assumption) (by assumption) (by walk_at "zn k_sub") | exact sd_news (by assumption) (by k_mem) (by assumption) (by assumption) (by assumption) | exact SDO.sd (by assumption) (by assumption) (News.get (by assumption) (by k_mem)))
  k_with "zn memg" => (first | exact List.Mem.head _ | (refine List.Mem.tail _ ?_; walk_at "zn memg"))
  k_with "zn li" => (((rename News _ _ _ _ => kN9); first | exact News.isList kN9 (by walk_at "zn memg") | is_list))
  k_with "zn cj_go" => ((first | exact And.left (by with_reducible assumption) | exact cj2 (by with_reducible assumption) | exact cj3 (by with_reducible assumption) | exact cj4 (by with_reducible assumption) | exact cj5 (by with_reducible assumption) | exact cj6 (by with_reducible assumption) | exact cj7 (by with_reducible assumption) | exact cj8 (by with_reducible assumption) | exact cj9 (by with_reducible assumption) | exact cj10 (by with_reducible assumption) | exact cj11 (by with_reducible assumption) | exact cj12 (by with_reducible assumption) | exact cj13 (by with_reducible assumption) | exact cj14 (by with_reducible assumption) | exact cj15 (by with_reducible assumption) | exact cj16 (by with_reducible assumption) | exact cj17 (by with_reducible assumption) | exact cj18 (by with_reducible assumption) | exact cl2 (by with_reducible assumption) | exact cl3 (by with_reducible assumption) | exact cl4 (by with_reducible assumption) | exact cl5 (by with_reducible assumption) | exact cl6 (by with_reducible assumption) | exact cl7 (by with_reducible assumption) | exact cl8 (by with_reducible assumption) | exact cl9 (by with_reducible assumption)))
  k_with "zn ne_go" => (((try dsimp only); (show @Ne Nat _ _); first | exact nn1 _ | exact Ne.symm (nn1 _) | exact nn2 _ | exact Ne.symm (nn2 _) | exact nn3 _ | exact Ne.symm (nn3 _) | exact nn4 _ | exact Ne.symm (nn4 _) | exact nn5 _ | exact Ne.symm (nn5 _) | exact Ne.symm (by walk_at "zn cj_go") | exact Nat.ne_of_gt (by walk_at "zn cj_go") | exact (by walk_at "zn cj_go")))
  k_with "zn fa_go" => (repeat (first | refine fa_cons (by walk_at "zn ne_go") ?_ | exact fa_nil))
  k_with "zn upd_go" => (repeat' (first | (refine' UpdF.head ?_; walk_at "zn fa_go") | refine' UpdF.tail (by walk_at "zn ne_go") ?_))
  k_with "zn ct_close" => (((case k1 => k_asm); (case k2 => k_asm); (case k3 => k_asm); (case k4 => k_asm); (case k5 => k_asm); (case kK => exact rfl); (case kd => first | ktr_room | decide); (case ku => first | ktr_units | decide)))
  k_with "zn h0" => (k_here; k_dflt (refine LCg.CompSrc.range (by rfl) (by k_asm) (by k_asm) (by assumption) (by first | decide | rfl) (by first | rfl | decide) (by first | size_fits | exact Nat.le_of_ble_eq_true rfl) ?_; intro _; lcg_lit))
  trivial
set_option maxRecDepth 100000
set_option maxHeartbeats 8000000
theorem fillE : PySem.Challenge.rw_zn0003_01 = PySem.Challenge.rw_zn0003_01 ∧ hd.heap_39 = hd.heap_39 := by
  k_fill
  w_top off
  exact ⟨rfl, rfl⟩

section
variable {prog : Program} {w : World} {A : Around} {E : Value → Shared → Prop} {s : Shared} {h₀ : Heap} {L : Addr} {m : Str → Option Value} {env : Env}
/-- the turns of a list comprehension with one test, by a relation -/
theorem restR {ct elt : Expr} {x : Str} {scope : Scope} {cl : List (Str × Addr)} {P : Nat → Value → Prop} {Fin : List Value → List (Addr × Obj) → Prop} {news : List (Addr × Obj)} (Rl : Nat → List Value → Prop) (n : Nat)
    (turn : ∀ i ys, i < n → Rl i ys → ∀ (v : Value) (I : Addr) (oI : Obj) (C : Addr) (oC : Obj) (D : Addr) (m₂ : Str → Option Value) (h : Heap) (tk : Nat) (E' : Value → Shared → Prop), P i v → LCg.NsObj oC m₂ → m₂ x = some v → Fr h₀ L h m → News h₀ L h ((I, oI) :: (C, oC) :: (D, LCg.lst ys) :: news) → LCg.Off3 I C D news → ((@Ne Nat I C) ∧ (@Ne Nat I D) ∧ (@Ne Nat C D)) →
      wpAny (model prog w) A (isTrue ct (compEnvC scope cl C env) (eval ct (compEnvC scope cl C env))) (fun ok s' => if ok = true then
        wpAny (model prog w) A (eval elt (compEnvC scope cl C env)) (fun y s'' => KEnd h₀ L m ((I, oI) :: (C, oC) :: (D, LCg.lst ys) :: news) { s with heap := h, toks := tk } s'' ∧ Rl (i + 1) (ys ++ [y])) E' s'
        else KEnd h₀ L m ((I, oI) :: (C, oC) :: (D, LCg.lst ys) :: news) { s with heap := h, toks := tk } s' ∧ Rl (i + 1) ys) E' { s with heap := h, toks := tk })
    (fin : ∀ ys, Rl n ys → Fin ys news) : ∀ (k i : Nat) (ys : List Value), i + k = n → Rl i ys → LCt.CompRestT prog w A h₀ L m env ct elt x scope cl s (fun _ => True) P Fin k i ys news
  | 0, i, ys, e, hr => LCt.CompRestT.zero (fin ys (by rw [← e]; exact hr))
  | k + 1, i, ys, e, hr => by
    refine LCt.CompRestT.succ ?_
    intro v I oI C oC D m₂ h tk E' hP hC hx F N off ne
    refine wpAny_mono (turn i ys (by omega) hr v I oI C oC D m₂ h tk E' hP hC hx F N off ne) (fun ok s' h' => ?_) fun _ _ e => e
    cases ok with
    | true =>
      simp only [if_true] at h' ⊢
      refine wpAny_mono h' (fun y s'' h'' => ?_) fun _ _ e => e
      obtain ⟨⟨h2, tk2, rfl, F2, N2⟩, hr2⟩ := h''
      exact ⟨h2, tk2, news, rfl, F2, N2, off, trivial, restR Rl n turn fin k (i + 1) (ys ++ [y]) (by omega) hr2⟩
    | false =>
      simp only [Bool.false_eq_true, if_false] at h' ⊢
      obtain ⟨⟨h2, tk2, rfl, F2, N2⟩, hr2⟩ := h'
      exact ⟨h2, tk2, news, rfl, F2, N2, off, trivial, restR Rl n turn fin k (i + 1) ys (by omega) hr2⟩
end
/-- the loan game -/
def lostF (x y z : Str) (l0 l1 l2 : Bk) : Nat → Bk → Nat → Option Bool
  | 0, _, _ => none
  | f + 1, l, mk =>
    if getZ l x < 0 then (if mk = 7 then some true else lostF x y z l0 l1 l2 f (addB l l0) (mk ||| 1))
    else if getZ l y < 0 then (if mk = 7 then some true else lostF x y z l0 l1 l2 f (addB l l1) (mk ||| 2))
    else if getZ l z < 0 then (if mk = 7 then some true else lostF x y z l0 l1 l2 f (addB l l2) (mk ||| 4))
    else some false
def poorL (l : Bk) (x y z : Str) : Nat → List Int
  | 0 => []
  | 1 => if getZ l x < 0 then [0] else []
  | 2 => (if getZ l x < 0 then [0] else []) ++ (if getZ l y < 0 then [1] else [])
  | _ => (if getZ l x < 0 then [0] else []) ++ (if getZ l y < 0 then [1] else []) ++ (if getZ l z < 0 then [2] else [])
/-- the book, of the ground or of the ledger -/
def Held (prog : Program) (w : World) (h₀ : Heap) (tl : List (Addr × Obj)) (bd : Addr) (l : Bk) : Prop := SD prog w h₀ bd l ∨ ∃ o, (bd, o) ∈ tl ∧ (bd == sysModules) = false ∧ SDO prog w o l
theorem Held.sd {prog : Program} {w : World} {h₀ h : Heap} {L : Addr} {m : Str → Option Value} {news tl : List (Addr × Obj)} {bd : Addr} {l : Bk} (H : Held prog w h₀ tl bd l) (F : Fr h₀ L h m) (N : News h₀ L h news) (sub : ∀ p ∈ tl, p ∈ news) : SD prog w h bd l := by
  rcases H with H | ⟨o, hm, lo, S⟩
  · exact H.keep F.keep
  · exact S.sd lo (N _ (sub _ hm)).1
theorem use_add' {prog : Program} {w : World} {p : Program} {loose : List Str} {mean : ExcName → Option Value} {mg mb : Str → Option Value} {dp un : Nat} {gd : Option (List Code)} {cn : Str} {cs : Scope} {ca : Addr} {ccd : Value} {cl : List (Str × Addr)} {outer : List Env}
  {A₀ : Around} {base h₀ : Heap} {L : Addr} {m : Str → Option Value} {s : Shared} {Q E : Value → Shared → Prop} {news : List (Addr × Obj)} {d e : Addr} {l l' : Bk} (hl : l.length ≤ 100) (hl' : l'.length ≤ 100) (B : Below A₀ base outer h₀) (F : Fr h₀ L s.heap m) (X : (hd.heap_39 w.params).In h₀) (N : News h₀ L s.heap news) (T : Top p loose mean mg mb h₀) (hk : cs.kind = .function) (hdp : dp + 2 < recursionLimit) (hun : un + 16 < cLine)
    (S : SD prog w s.heap d l) (S' : SD prog w s.heap e l') (ret : ∀ b o h' tk', (b == sysModules) = false → SDO prog w o (addB l l') → (∀ p ∈ news, p.1 ≠ b) → Fr h₀ L h' m → News h₀ L h' ((b, o) :: news) → Q (.ref b) { s with heap := h', toks := tk' }) :
    wpAny (model prog w) (ktrTop dp un gd cn cs L ca ccd cl outer) (call (.ref 36) [.ref d, .ref e]) Q E s := by
  refine add_callers_ct prog w d e l l' hl hl' _ _ _ _ _ _ _ _ _ _ _ _ _ _ _ _ _ _ _ _ _ _ B F X T hk hdp hun ⟨S, S'⟩ ?_
  rintro h' tk r hs ⟨b, o, rfl, lo, hS, hf⟩
  refine ret b o h' tk lo hS (fun q hq e => ?_) (frOn F hs) (newsAdd F N hs hf)
  have h1 := (N q hq).1
  rw [e, (hf _ (List.mem_singleton.mpr rfl)).2] at h1
  cases h1
theorem eq_full {prog : Program} {w : World} {A : Around} {E : Value → Shared → Prop} {s : Shared} {h₀ : Heap} {L a b : Addr} {news : List (Addr × Obj)} {v : Value} {vs : List Value} {k : Nat} {Q : Value → Shared → Prop} (N : News h₀ L s.heap news) (ha : (a, LCg.lst (v :: vs)) ∈ news) (hb : (b, W.listOf #[] k) ∈ news) (hu : A.units < cLine) (h : Q (.bool false) s) :
    wpAny (model prog w) A (compareOp .Eq (.ref a) (.ref b)) Q E s := by
  refine PySem.SeqAt.eq_list_lengthsAt (items := (v :: vs).toArray) (items2 := #[]) (News.isList N ha) (News.isList N hb) (by simp) hu h
theorem getSD {prog : Program} {w : World} {A : Around} {E : Value → Shared → Prop} {s : Shared} {Q : Value → Shared → Prop} {d : Addr} {l : Bk} {k : Str} {tk t0 : Tok} (T : SD prog w s.heap d l) (h : ∀ t, Q (.int (getZ l k) t) { s with toks := s.toks + 1 }) :
    wpAny (model prog w) A (call (.builtin "dict.get") [.ref d, .str k tk, .int 0 t0]) Q E s :=
  call_get2_strTab T (Flat.int 0 t0) fun v hv => by
    rw [lookup_enc] at hv
    have e : ((look l k).map PyData.int).getD (PyData.int 0) = PyData.int (getZ l k) := by unfold getZ; cases look l k <;> rfl
    rw [e] at hv
    obtain ⟨t, rfl⟩ := Flat.int_inv hv
    exact h t
theorem isterm_ct (prog : Program) (w : World) (v : Int) (tk : Tok) : Ct prog w 21 1 [.int v tk] (fun _ => True) (fun _ _ r => r = .bool (decide (v < 256))) := by
  intro p loose mean mg mb dp un gd cn cs a ccd cl outer A₀ base h₀ L m s Q E B F X T hk hdp hun hpre hret
  refine wpAny_call ?_
  k_dflt (walk_at "zn enterS")
  k_steps
  rename Fr _ _ _ _ => F5
  exact hret _ _ _ F5.keep rfl
theorem use_isterm {prog : Program} {w : World} {p : Program} {loose : List Str} {mean : ExcName → Option Value} {mg mb : Str → Option Value} {dp un : Nat} {gd : Option (List Code)} {cn : Str} {cs : Scope} {ca : Addr} {ccd : Value} {cl : List (Str × Addr)} {outer : List Env}
  {A₀ : Around} {base h₀ : Heap} {L : Addr} {m : Str → Option Value} {s : Shared} {Q E : Value → Shared → Prop} {news : List (Addr × Obj)} {v : Int} {tk : Tok} (B : Below A₀ base outer h₀) (F : Fr h₀ L s.heap m) (X : (hd.heap_39 w.params).In h₀) (N : News h₀ L s.heap news) (T : Top p loose mean mg mb h₀) (hk : cs.kind = .function) (hdp : dp + 1 < recursionLimit) (hun : un + 8 < cLine)
    (ret : ∀ h' tk', Fr h₀ L h' m → News h₀ L h' news → Q (.bool (decide (v < 256))) { s with heap := h', toks := tk' }) :
    wpAny (model prog w) (ktrTop dp un gd cn cs L ca ccd cl outer) (call (.ref 21) [.int v tk]) Q E s := by
  refine isterm_ct prog w v tk _ _ _ _ _ _ _ _ _ _ _ _ _ _ _ _ _ _ _ _ _ _ B F X T hk hdp hun trivial ?_
  rintro h' tk' r hs rfl
  exact ret h' tk' (frOn F hs) (newsOn N hs)

theorem methGet {prog : Program} {w : World} {A : Around} {E : Value → Shared → Prop} {s : Shared} {pl : Sem Bool} {Q : Value × List Value → Shared → Prop} {d : Addr} {l : Bk} (T : SD prog w s.heap d l) (h : Q (.builtin "dict.get", [.ref d]) s) : wpAny (model prog w) A (getMethod (.ref d) (Str.ofString "get") pl) Q E s := by
  obtain ⟨lo, kvs, hD, _⟩ := T
  exact getMethod_builtin hD.typeIs PySem.F.plainAttrs_dict PySem.F.slot_dict_get PySem.F.type_dict_get hD.mapOf.noDict h

theorem wordsZn3E2 : True := by
  k_with "getMethod ref" => ((k_here; (with_reducible show wpAny _ _ (getMethod (Value.ref _) (Str.ofString "get") _) _ _ _); k_dflt (refine' methGet ?kS ?_; (case kS => walk_at "zn sd_there"); k_whole)))
  k_with "call builtin:dict.get" => ((k_here; k_dflt (refine' getSD ?kS ?_; (case kS => walk_at "zn sd_there"); k_whole); intro _))
  k_with "call ref" => ((k_here; k_dflt (refine' use_isterm ?k1 ?k2 ?k3 ?k4 ?k5 ?kK ?kd ?ku ?_; walk_at "zn st"; k_whole); intro _ _ _ _))
  k_with "call ref" => ((k_here; k_dflt (refine' use_pretty ?ka ?kb ?k1 ?k2 ?k3 ?k4 ?k5 ?kK ?kd ?ku ?_; (case ka => omega); (case kb => omega); walk_at "zn st"; k_whole); intro _ _ _ _ _))
  k_with "call ref" => ((k_here; k_dflt (refine' use_add' ?ka ?kb ?k1 ?k2 ?k3 ?k4 ?k5 ?kK ?kd ?ku ?kS ?kT ?_; (case kS => walk_at "zn sd_there"); (case kT => walk_at "zn sd_there"); (case ka => omega); (case kb => omega); walk_at "zn st"; k_whole); intro _ _ _ _ _ _ _ _ _))
  k_with "call builtin:str.join" => ((k_here; k_dflt (refine' join_listC ?k1 ?k2 ?k3 ?k4 ?_; (case k1 => is_list); (case k2 => exact .cons _ _ (.cons _ _ (.cons _ _ .nil))); (case k3 => decide); (case k4 => (simp only [List.map_cons, List.map_nil, List.sum_cons, List.sum_nil, List.length_cons, List.length_nil]; omega)); k_whole); intro _ _))
  k_with "compareOp Eq ref ref" => ((k_here; k_dflt (refine' eq_full ?k1 ?k2 ?k3 ?k4 ?_; (case k1 => k_asm); (case k2 => k_mem); (case k3 => k_mem); (case k4 => ktr_units); k_whole)))
  k_with "exec While" => (refine hold ?_)
  k_with "exec Assign cons ListComp" => (refine hold ?_)
  k_with "storeName" => ((k_here; (with_reducible show wpAny _ _ (storeName _ "book" _) _ _ _); refine hold ?_))
  trivial
theorem or_facts0 : ∀ (a b : Fin 8), Builtin.bitOr ((b.val * 2 ^ (a.val : Int).toNat : Nat) : Int) (1 * 2 ^ ((a.val : Int) + 0).toNat) = (((b.val ||| 1) * 2 ^ (a.val : Int).toNat : Nat) : Int) := by decide +kernel
theorem or_fact0 {low lv : Int} {mk : Nat} (h0 : 0 ≤ low) (h8 : low < 8) (hmk : mk < 8) (hlv : lv = ((mk * 2 ^ low.toNat : Nat) : Int)) : Builtin.bitOr lv (1 * 2 ^ (low + 0).toNat) = (((mk ||| 1) * 2 ^ low.toNat : Nat) : Int) := by
  have := or_facts0 ⟨low.toNat, by omega⟩ ⟨mk, hmk⟩
  simp only [show ((low.toNat : Nat) : Int) = low by omega] at this
  rw [hlv]; exact this
theorem or_facts1 : ∀ (a b : Fin 8), Builtin.bitOr ((b.val * 2 ^ (a.val : Int).toNat : Nat) : Int) (1 * 2 ^ ((a.val : Int) + 1).toNat) = (((b.val ||| 2) * 2 ^ (a.val : Int).toNat : Nat) : Int) := by decide +kernel
theorem or_fact1 {low lv : Int} {mk : Nat} (h0 : 0 ≤ low) (h8 : low < 8) (hmk : mk < 8) (hlv : lv = ((mk * 2 ^ low.toNat : Nat) : Int)) : Builtin.bitOr lv (1 * 2 ^ (low + 1).toNat) = (((mk ||| 2) * 2 ^ low.toNat : Nat) : Int) := by
  have := or_facts1 ⟨low.toNat, by omega⟩ ⟨mk, hmk⟩
  simp only [show ((low.toNat : Nat) : Int) = low by omega] at this
  rw [hlv]; exact this
theorem or_facts2 : ∀ (a b : Fin 8), Builtin.bitOr ((b.val * 2 ^ (a.val : Int).toNat : Nat) : Int) (1 * 2 ^ ((a.val : Int) + 2).toNat) = (((b.val ||| 4) * 2 ^ (a.val : Int).toNat : Nat) : Int) := by decide +kernel
theorem or_fact2 {low lv : Int} {mk : Nat} (h0 : 0 ≤ low) (h8 : low < 8) (hmk : mk < 8) (hlv : lv = ((mk * 2 ^ low.toNat : Nat) : Int)) : Builtin.bitOr lv (1 * 2 ^ (low + 2).toNat) = (((mk ||| 4) * 2 ^ low.toNat : Nat) : Int) := by
  have := or_facts2 ⟨low.toNat, by omega⟩ ⟨mk, hmk⟩
  simp only [show ((low.toNat : Nat) : Int) = low by omega] at this
  rw [hlv]; exact this
/-- what holds ahead of each turn of the game -/
inductive LostI (prog : Program) (w : World) (s : Shared) (L5 lo : Addr) (low : Int) (tk' : Tok) (x y z : Str) (l0 l1 l2 : Bk) (r : Bool) (o1 : Obj) (k : Nat) (s' : Shared) : Prop
  | mk (h' : Heap) (tk : Nat) (bd : Addr) (l' : Bk) (mk : Nat) (o2 : Obj) (m' : Str → Option Value) (tl : List (Addr × Obj)) (lv : Int) (e : s' = { s with heap := h', toks := tk }) (F : Fr s.heap L5 h' m') (t : Tok) (h1 : m' (Str.ofString "lent") = some (.int lv t)) (h2 : m' (Str.ofString "loans") = some (.ref lo)) (h3 : m' (Str.ofString "lowest") = some (.int low tk')) (hlv : lv = ((mk * 2 ^ low.toNat : Nat) : Int)) (hmk : mk < 8)
    (hlen : l'.length + 3 * k ≤ 90) (hfl : lostF x y z l0 l1 l2 k l' mk = some r) (N : News s.heap L5 h' ((L5 + 1 + 1, o1) :: (L5 + 1, o2) :: tl)) (ho2 : o2.data = .cell (some (.ref bd))) (hheld : Held prog w s.heap tl bd l') (htl : ∀ p ∈ tl, p.1 ≠ L5 + 1)
theorem lost_ct (prog : Program) (w : World) (bk lo nm d0 d1 d2 : Addr) (l l0 l1 l2 : Bk) (low : Int) (x y z : Str) (u1 u2 u3 tk' : Tok) (r : Bool) (f : Nat) (hlow : 0 ≤ low) (hlow8 : low < 8) (hnl : x.length + y.length + z.length ≤ 300) (hl : l.length + 3 * f ≤ 90)
    (hl0 : l0.length ≤ 3) (hl1 : l1.length ≤ 3) (hl2 : l2.length ≤ 3)
    (hpf : ∀ mk : Nat, 0 < mk → mk < 8 → (Txt.join (Str.ofString ", ") (pfLoop 10 0 ((mk * 2 ^ low.toNat : Nat) : Int) []) = Txt.join (Str.ofString ", ") [x, y, z] ↔ mk = 7))
    (hf : lostF x y z l0 l1 l2 f l 0 = some r) : Ct prog w 72 12 [.ref bk, .ref lo, .ref nm, .int low tk']
    (fun h => h.IsList lo #[.ref d0, .ref d1, .ref d2] ∧ h.IsList nm #[.str x u1, .str y u2, .str z u3] ∧ SD prog w h bk l ∧ SD prog w h d0 l0 ∧ SD prog w h d1 l1 ∧ SD prog w h d2 l2)
    (fun h h' v => v = .bool r) := by
  intro p loose mean mg mb dp un gd cn cs ca' ccd cl outer A₀ base h₀ L m s Q E B F X T hk hdp hun hpre hret
  obtain ⟨hlo, hnm, hS, hS0, hS1, hS2⟩ := hpre
  refine wpAny_call ?_
  k_dflt (walk_at "zn enterC")
  k_steps
  rename Fr _ _ _ _ => F5
  rename Top _ _ _ _ _ s.heap => T'
  rename News _ _ _ _ => N5
  rename_i L5 _ _ _ _ o1 o2 ho1 ho2 _
  unfold Hold
  refine whileAny (LostI prog w s L5 lo low tk' x y z l0 l1 l2 r o1) ?_ f ?_
  · rintro k s' ⟨h', tk, bd, l', mk, o2, m', tl, lv, rfl, F6, t, hm1, hm2, hm3, hlv, hmk, hlen, hfl, N6, ho2, hheld, htl⟩
    clear N5 F5
    obtain _ | k := k
    · cases hfl
    have F7 := see (see (see F6 (x := Str.ofString "lowest") hm3) (x := Str.ofString "loans") hm2) (x := Str.ofString "lent") hm1
    clear F6
    k_steps
    unfold Hold
    k_dflt (refine LCt.Assign_ListComp_T (F₀ := F7) (by rfl) (by with_unfolding_all rfl) (by with_unfolding_all rfl) (by decide) (by rfl) (by decide) (by rfl) (by rfl) (by rfl) ?_)
    k_dflt lct_toSrc
    rename Fr _ _ _ _ => F7
    rename News _ _ _ _ => N6
    refine restR (fun i ys => IntsAre ys (poorL l' x y z i)) 3 ?_ ?_ 3 0 [] rfl .nil
    · intro i ys hi hr v I oI C oC D m2 h tk E' hP hC hx F8 N8 off ne
      clear F7 N6
      obtain ⟨t9, rfl⟩ := hP
      match i, hi with
      | 0, hi =>
        k_steps
        all_goals first
          | exact ⟨_, _, rfl, by assumption, by assumption⟩
          | (show IntsAre (ys ++ [_]) (poorL l' x y z 0 ++ (if getZ l' x < 0 then [0] else [])); rw [if_pos (by omega)]; exact hr.append (.cons _ _ .nil))
          | (show IntsAre ys (poorL l' x y z 0 ++ (if getZ l' x < 0 then [0] else [])); rw [if_neg (by omega), List.append_nil]; exact hr)
      | 1, hi =>
        k_steps
        all_goals first
          | exact ⟨_, _, rfl, by assumption, by assumption⟩
          | (show IntsAre (ys ++ [_]) (poorL l' x y z 1 ++ (if getZ l' y < 0 then [1] else [])); rw [if_pos (by omega)]; exact hr.append (.cons _ _ .nil))
          | (show IntsAre ys (poorL l' x y z 1 ++ (if getZ l' y < 0 then [1] else [])); rw [if_neg (by omega), List.append_nil]; exact hr)
      | 2, hi =>
        k_steps
        all_goals first
          | exact ⟨_, _, rfl, by assumption, by assumption⟩
          | (show IntsAre (ys ++ [_]) (poorL l' x y z 2 ++ (if getZ l' z < 0 then [2] else [])); rw [if_pos (by omega)]; exact hr.append (.cons _ _ .nil))
          | (show IntsAre ys (poorL l' x y z 2 ++ (if getZ l' z < 0 then [2] else [])); rw [if_neg (by omega), List.append_nil]; exact hr)
    · intro ys hys D h tk F8 N8 o1
      clear F7 N6
      have hb0 : 0 ≤ lv := by omega
      have hb1 : lv < 1024 := by
        have h2 : 2 ^ low.toNat ≤ 2 ^ 7 := Nat.pow_le_pow_right (by omega) (by omega)
        have h3 : mk * 2 ^ low.toNat ≤ 7 * 2 ^ 7 := Nat.mul_le_mul (by omega) h2
        omega
      have hz' : mk = 0 → lv = 0 := by rintro rfl; rw [hlv, Nat.zero_mul]; rfl
      have hz : lv = 0 → mk = 0 := by
        intro e
        have h2 : mk * 2 ^ low.toNat = 0 := by omega
        rcases Nat.mul_eq_zero.mp h2 with h3 | h3
        · exact h3
        · exact absurd h3 (Nat.ne_of_gt (Nat.pow_pos (by omega)))
      by_cases p0 : getZ l' x < 0
      · have e1 : poorL l' x y z 3 = 0 :: ((if getZ l' y < 0 then [1] else []) ++ (if getZ l' z < 0 then [2] else [])) := by simp [poorL, p0]
        rw [e1] at hys
        cases hys with
        | cons n t r =>
          clear r e1
          k_steps
          · rename Fr _ _ _ _ => F9
            rename_i ha
            have h7 : mk = 7 := (hpf mk (by omega) hmk).mp (by rw [← hlv]; exact eq_of_beq ha)
            simp only [lostF, if_pos p0, if_pos h7] at hfl
            cases hfl
            exact hret _ _ _ F9.keep rfl
          · rename Fr _ _ _ _ => F9
            rename News _ _ _ _ => N9
            rename SDO _ _ _ _ => S9
            rename_i b9 o9 h9 tk9 lo9 hb9
            rename (Txt.join _ _ == _) = false => hb'
            have h7 : mk ≠ 7 := by
              intro e
              rw [hlv, (hpf mk (by omega) hmk).mpr e, beq_self_eq_true] at hb'
              cases hb'
            unfold Hold
            have N10 : News s.heap L5 h9 ((b9, o9) :: (L5 + 1 + 1, _) :: (L5 + 1, o2) :: tl) := fun p hp => N9 p (by
              rcases List.mem_cons.mp hp with rfl | hp
              · exact .head _
              · exact .tail _ (.tail _ (.tail _ hp)))
            refine storeX_C F9 N10 rfl (.tail (Ne.symm (hb9 (L5 + 1, o2) (.tail _ (.tail _ (.tail _ (.head _)))))) (.tail (Nat.succ_ne_self _) (.head htl))) ho2 ?_ rfl rfl
            intro h10 o10 F10 N11 d10
            refine wpAny_execs_nil ?_
            simp only [lostF, if_pos p0, if_neg h7] at hfl
            have hlen2 := addB_length l' l0
            exact ⟨k, Nat.lt_succ_self k, h10, _, b9, _, _, o10, _, [(b9, o9)], _, rfl, F10, _, rfl, rfl, rfl, or_fact0 hlow hlow8 hmk hlv, Nat.or_lt_two_pow (n := 3) hmk (by decide), by omega, hfl, fun p hp => N11 p (by
              rcases List.mem_cons.mp hp with rfl | hp
              · exact .tail _ (.head _)
              · rcases List.mem_cons.mp hp with rfl | hp
                · exact .tail _ (.tail _ (.head _))
                · rw [List.mem_singleton.mp hp]; exact .head _), d10, .inr ⟨o9, .head _, lo9, S9⟩, fun p hp => by rw [List.mem_singleton.mp hp]; exact Ne.symm (hb9 (L5 + 1, o2) (.tail _ (.tail _ (.tail _ (.head _)))))⟩
          · rename Fr _ _ _ _ => F9
            rename News _ _ _ _ => N9
            rename SDO _ _ _ _ => S9
            rename_i b9 o9 h9 tk9 lo9 hb9
            have h7 : mk ≠ 7 := by omega
            unfold Hold
            have N10 : News s.heap L5 h9 ((b9, o9) :: (L5 + 1 + 1, _) :: (L5 + 1, o2) :: tl) := fun p hp => N9 p (by
              rcases List.mem_cons.mp hp with rfl | hp
              · exact .head _
              · exact .tail _ (.tail _ (.tail _ hp)))
            refine storeX_C F9 N10 rfl (.tail (Ne.symm (hb9 (L5 + 1, o2) (.tail _ (.tail _ (.tail _ (.head _)))))) (.tail (Nat.succ_ne_self _) (.head htl))) ho2 ?_ rfl rfl
            intro h10 o10 F10 N11 d10
            refine wpAny_execs_nil ?_
            simp only [lostF, if_pos p0, if_neg h7] at hfl
            have hlen2 := addB_length l' l0
            exact ⟨k, Nat.lt_succ_self k, h10, _, b9, _, _, o10, _, [(b9, o9)], _, rfl, F10, _, rfl, rfl, rfl, or_fact0 hlow hlow8 hmk hlv, Nat.or_lt_two_pow (n := 3) hmk (by decide), by omega, hfl, fun p hp => N11 p (by
              rcases List.mem_cons.mp hp with rfl | hp
              · exact .tail _ (.head _)
              · rcases List.mem_cons.mp hp with rfl | hp
                · exact .tail _ (.tail _ (.head _))
                · rw [List.mem_singleton.mp hp]; exact .head _), d10, .inr ⟨o9, .head _, lo9, S9⟩, fun p hp => by rw [List.mem_singleton.mp hp]; exact Ne.symm (hb9 (L5 + 1, o2) (.tail _ (.tail _ (.tail _ (.head _)))))⟩
      · by_cases p1 : getZ l' y < 0
        · have e1 : poorL l' x y z 3 = 1 :: (if getZ l' z < 0 then [2] else []) := by simp [poorL, p0, p1]
          rw [e1] at hys
          cases hys with
          | cons n t r =>
            clear r e1
            k_steps
            · rename Fr _ _ _ _ => F9
              rename_i ha
              have h7 : mk = 7 := (hpf mk (by omega) hmk).mp (by rw [← hlv]; exact eq_of_beq ha)
              simp only [lostF, if_neg p0, if_pos p1, if_pos h7] at hfl
              cases hfl
              exact hret _ _ _ F9.keep rfl
            · rename Fr _ _ _ _ => F9
              rename News _ _ _ _ => N9
              rename SDO _ _ _ _ => S9
              rename_i b9 o9 h9 tk9 lo9 hb9
              rename (Txt.join _ _ == _) = false => hb'
              have h7 : mk ≠ 7 := by
                intro e
                rw [hlv, (hpf mk (by omega) hmk).mpr e, beq_self_eq_true] at hb'
                cases hb'
              unfold Hold
              have N10 : News s.heap L5 h9 ((b9, o9) :: (L5 + 1 + 1, _) :: (L5 + 1, o2) :: tl) := fun p hp => N9 p (by
                rcases List.mem_cons.mp hp with rfl | hp
                · exact .head _
                · exact .tail _ (.tail _ (.tail _ hp)))
              refine storeX_C F9 N10 rfl (.tail (Ne.symm (hb9 (L5 + 1, o2) (.tail _ (.tail _ (.tail _ (.head _)))))) (.tail (Nat.succ_ne_self _) (.head htl))) ho2 ?_ rfl rfl
              intro h10 o10 F10 N11 d10
              refine wpAny_execs_nil ?_
              simp only [lostF, if_neg p0, if_pos p1, if_neg h7] at hfl
              have hlen2 := addB_length l' l1
              exact ⟨k, Nat.lt_succ_self k, h10, _, b9, _, _, o10, _, [(b9, o9)], _, rfl, F10, _, rfl, rfl, rfl, or_fact1 hlow hlow8 hmk hlv, Nat.or_lt_two_pow (n := 3) hmk (by decide), by omega, hfl, fun p hp => N11 p (by
                rcases List.mem_cons.mp hp with rfl | hp
                · exact .tail _ (.head _)
                · rcases List.mem_cons.mp hp with rfl | hp
                  · exact .tail _ (.tail _ (.head _))
                  · rw [List.mem_singleton.mp hp]; exact .head _), d10, .inr ⟨o9, .head _, lo9, S9⟩, fun p hp => by rw [List.mem_singleton.mp hp]; exact Ne.symm (hb9 (L5 + 1, o2) (.tail _ (.tail _ (.tail _ (.head _)))))⟩
            · rename Fr _ _ _ _ => F9
              rename News _ _ _ _ => N9
              rename SDO _ _ _ _ => S9
              rename_i b9 o9 h9 tk9 lo9 hb9
              have h7 : mk ≠ 7 := by omega
              unfold Hold
              have N10 : News s.heap L5 h9 ((b9, o9) :: (L5 + 1 + 1, _) :: (L5 + 1, o2) :: tl) := fun p hp => N9 p (by
                rcases List.mem_cons.mp hp with rfl | hp
                · exact .head _
                · exact .tail _ (.tail _ (.tail _ hp)))
              refine storeX_C F9 N10 rfl (.tail (Ne.symm (hb9 (L5 + 1, o2) (.tail _ (.tail _ (.tail _ (.head _)))))) (.tail (Nat.succ_ne_self _) (.head htl))) ho2 ?_ rfl rfl
              intro h10 o10 F10 N11 d10
              refine wpAny_execs_nil ?_
              simp only [lostF, if_neg p0, if_pos p1, if_neg h7] at hfl
              have hlen2 := addB_length l' l1
              exact ⟨k, Nat.lt_succ_self k, h10, _, b9, _, _, o10, _, [(b9, o9)], _, rfl, F10, _, rfl, rfl, rfl, or_fact1 hlow hlow8 hmk hlv, Nat.or_lt_two_pow (n := 3) hmk (by decide), by omega, hfl, fun p hp => N11 p (by
                rcases List.mem_cons.mp hp with rfl | hp
                · exact .tail _ (.head _)
                · rcases List.mem_cons.mp hp with rfl | hp
                  · exact .tail _ (.tail _ (.head _))
                  · rw [List.mem_singleton.mp hp]; exact .head _), d10, .inr ⟨o9, .head _, lo9, S9⟩, fun p hp => by rw [List.mem_singleton.mp hp]; exact Ne.symm (hb9 (L5 + 1, o2) (.tail _ (.tail _ (.tail _ (.head _)))))⟩
        · by_cases p2 : getZ l' z < 0
          · have e1 : poorL l' x y z 3 = 2 :: [] := by simp [poorL, p0, p1, p2]
            rw [e1] at hys
            cases hys with
            | cons n t r =>
              clear r e1
              k_steps
              · rename Fr _ _ _ _ => F9
                rename_i ha
                have h7 : mk = 7 := (hpf mk (by omega) hmk).mp (by rw [← hlv]; exact eq_of_beq ha)
                simp only [lostF, if_neg p0, if_neg p1, if_pos p2, if_pos h7] at hfl
                cases hfl
                exact hret _ _ _ F9.keep rfl
              · rename Fr _ _ _ _ => F9
                rename News _ _ _ _ => N9
                rename SDO _ _ _ _ => S9
                rename_i b9 o9 h9 tk9 lo9 hb9
                rename (Txt.join _ _ == _) = false => hb'
                have h7 : mk ≠ 7 := by
                  intro e
                  rw [hlv, (hpf mk (by omega) hmk).mpr e, beq_self_eq_true] at hb'
                  cases hb'
                unfold Hold
                have N10 : News s.heap L5 h9 ((b9, o9) :: (L5 + 1 + 1, _) :: (L5 + 1, o2) :: tl) := fun p hp => N9 p (by
                  rcases List.mem_cons.mp hp with rfl | hp
                  · exact .head _
                  · exact .tail _ (.tail _ (.tail _ hp)))
                refine storeX_C F9 N10 rfl (.tail (Ne.symm (hb9 (L5 + 1, o2) (.tail _ (.tail _ (.tail _ (.head _)))))) (.tail (Nat.succ_ne_self _) (.head htl))) ho2 ?_ rfl rfl
                intro h10 o10 F10 N11 d10
                refine wpAny_execs_nil ?_
                simp only [lostF, if_neg p0, if_neg p1, if_pos p2, if_neg h7] at hfl
                have hlen2 := addB_length l' l2
                exact ⟨k, Nat.lt_succ_self k, h10, _, b9, _, _, o10, _, [(b9, o9)], _, rfl, F10, _, rfl, rfl, rfl, or_fact2 hlow hlow8 hmk hlv, Nat.or_lt_two_pow (n := 3) hmk (by decide), by omega, hfl, fun p hp => N11 p (by
                  rcases List.mem_cons.mp hp with rfl | hp
                  · exact .tail _ (.head _)
                  · rcases List.mem_cons.mp hp with rfl | hp
                    · exact .tail _ (.tail _ (.head _))
                    · rw [List.mem_singleton.mp hp]; exact .head _), d10, .inr ⟨o9, .head _, lo9, S9⟩, fun p hp => by rw [List.mem_singleton.mp hp]; exact Ne.symm (hb9 (L5 + 1, o2) (.tail _ (.tail _ (.tail _ (.head _)))))⟩
              · rename Fr _ _ _ _ => F9
                rename News _ _ _ _ => N9
                rename SDO _ _ _ _ => S9
                rename_i b9 o9 h9 tk9 lo9 hb9
                have h7 : mk ≠ 7 := by omega
                unfold Hold
                have N10 : News s.heap L5 h9 ((b9, o9) :: (L5 + 1 + 1, _) :: (L5 + 1, o2) :: tl) := fun p hp => N9 p (by
                  rcases List.mem_cons.mp hp with rfl | hp
                  · exact .head _
                  · exact .tail _ (.tail _ (.tail _ hp)))
                refine storeX_C F9 N10 rfl (.tail (Ne.symm (hb9 (L5 + 1, o2) (.tail _ (.tail _ (.tail _ (.head _)))))) (.tail (Nat.succ_ne_self _) (.head htl))) ho2 ?_ rfl rfl
                intro h10 o10 F10 N11 d10
                refine wpAny_execs_nil ?_
                simp only [lostF, if_neg p0, if_neg p1, if_pos p2, if_neg h7] at hfl
                have hlen2 := addB_length l' l2
                exact ⟨k, Nat.lt_succ_self k, h10, _, b9, _, _, o10, _, [(b9, o9)], _, rfl, F10, _, rfl, rfl, rfl, or_fact2 hlow hlow8 hmk hlv, Nat.or_lt_two_pow (n := 3) hmk (by decide), by omega, hfl, fun p hp => N11 p (by
                  rcases List.mem_cons.mp hp with rfl | hp
                  · exact .tail _ (.head _)
                  · rcases List.mem_cons.mp hp with rfl | hp
                    · exact .tail _ (.tail _ (.head _))
                    · rw [List.mem_singleton.mp hp]; exact .head _), d10, .inr ⟨o9, .head _, lo9, S9⟩, fun p hp => by rw [List.mem_singleton.mp hp]; exact Ne.symm (hb9 (L5 + 1, o2) (.tail _ (.tail _ (.tail _ (.head _)))))⟩
          · have e1 : poorL l' x y z 3 = [] := by simp [poorL, p0, p1, p2]
            rw [e1] at hys
            cases hys
            k_steps
            simp only [lostF, if_neg p0, if_neg p1, if_neg p2] at hfl
            cases hfl
            exact hret _ _ _ (by rename Fr _ _ _ _ => F9; exact F9.keep) rfl
  · exact ⟨_, _, bk, l, 0, _, _, [], _, rfl, F5, _, rfl, rfl, rfl, by rw [Nat.zero_mul]; rfl, by omega, by omega, hf, N5, by assumption, .inl hS, by simp⟩
end

section
theorem wordsZn3H1 : True := by
  k_with_none
  k_with "zn st" => ((case k1 => k_asm); (case k2 => k_asm); (case k3 => k_asm); (case k4 => k_asm); (case k5 => k_asm); (case kK => first | exact rfl | assumption); (case kd => ktr_room); (case ku => ktr_units))
  k_with "zn yst" => ((case y1 => k_asm); (case y2 => k_asm); (case y3 => k_asm); (case y4 => k_asm); (case y5 => k_asm); (case yK => exact rfl); (case yd => first | ktr_room | decide); (case yu => first | ktr_units | decide))
  k_with "zn tail7" => (rintro hh7 tk7 r7 ⟨dd7, oo7, rfl, lo7, S7, hf7⟩ hN7 hO7 F7 N7; (have N9 := hN7 _ hf7); (have O9 := hO7 _ (hf7 _ (.head _)).2); (simp only [LCg.Off1, and_true] at O9); (simp only [List.cons_append, List.nil_append] at N9); clear hN7 hO7 N7 hf7)
  k_with "zn enterS" => (refine' enterS ?k1 ?k2 ?k3 ?k5 ?kA ?kF ?kK ?k6 ?k7 ?k8 ?k9 ?kB ?_ ?c2 ?c3 ?c4 ?c5; (case kA => exact rfl); (case kF => exact rfl); (case kK => assumption); (case k1 => k_asm); (case k2 => k_asm); (case k3 => k_asm); (case k5 => k_asm); (case k6 => k_is); (case k7 => k_is); (case k8 => ktr_room); (case k9 => exact BindsTo.of_eq rfl); (case c5 => decide); (case kB => exact locs rfl); (case c2 => exact rfl); (case c3 => exact rfl); (case c4 => exact rfl); k_whole; intro _ _ _ _ _ _ _; (try dsimp only); (try walk_at "zn liftB"); (try k_fold))
  k_with "zn enterC" => (refine' enterC ?k1 ?k2 ?k3 ?k5 ?kA ?kF ?kK ?k6 ?k7 ?k8 ?k9 ?kB ?kD ?_ ?c2 ?c3 ?c4; (case kA => exact rfl); (case kF => exact rfl); (case kK => assumption); (case k1 => k_asm); (case k2 => k_asm); (case k3 => k_asm); (case k5 => k_asm); (case k6 => k_is); (case k7 => k_is); (case k8 => ktr_room); (case k9 => exact BindsTo.of_eq rfl); (case kB => exact rfl); (case kD => decide +kernel); (case c2 => exact rfl); (case c3 => exact rfl); (case c4 => exact rfl); k_whole; intro _ _ _ _ _ _ _ _ _ _; (try dsimp only); (try walk_at "zn liftB"); (try k_fold); walk_at "zn cellsY")
  k_with "zn k_sub" => ((intro p hp; repeat (first | exact hp | refine List.mem_cons_of_mem _ ?_)))
  k_with "zn sd_there" => (first | exact SD.keep (by assumption) (Fr.keep (by assumption)) | exact Held.sd (by assumption) (by assumption) (by assumption) (by walk_at "zn k_sub") | exact sd_news (by assumption) (by k_mem) (by assumption) (by assumption) (by assumption) | exact SDO.sd (by assumption) (by assumption) (News.get (by assumption) (by k_mem)))
  k_with "zn memg" => (first | exact List.Mem.head _ | (refine List.Mem.tail _ ?_; walk_at "zn memg"))
  k_with "zn li" => (((rename News _ _ _ _ => kN9); first | exact News.isList kN9 (by walk_at "zn memg") | is_list))
  k_with "zn cj_go" => ((first | exact And.left (by with_reducible assumption) | exact cj2 (by with_reducible assumption) | exact cj3 (by with_reducible assumption) | exact cj4 (by with_reducible assumption) | exact cj5 (by with_reducible assumption) | exact cj6 (by with_reducible assumption) | exact cj7 (by with_reducible assumption) | exact cj8 (by with_reducible assumption) | exact cj9 (by with_reducible assumption) | exact cj10 (by with_reducible assumption) | exact cj11 (by with_reducible assumption) | exact cj12 (by with_reducible assumption) | exact cj13 (by with_reducible assumption) | exact cj14 (by with_reducible assumption) | exact cj15 (by with_reducible assumption) | exact cj16 (by with_reducible assumption) | exact cj17 (by with_reducible assumption) | exact cj18 (by with_reducible assumption) | exact cl2 (by with_reducible assumption) | exact cl3 (by with_reducible assumption) | exact cl4 (by with_reducible assumption) | exact cl5 (by with_reducible assumption) | exact cl6 (by with_reducible assumption) | exact cl7 (by with_reducible assumption) | exact cl8 (by with_reducible assumption) | exact cl9 (by with_reducible assumption)))
  k_with "zn ne_go" => (((try dsimp only); (show @Ne Nat _ _); first | exact nn1 _ | exact Ne.symm (nn1 _) | exact nn2 _ | exact Ne.symm (nn2 _) | exact nn3 _ | exact Ne.symm (nn3 _) | exact nn4 _ | exact Ne.symm (nn4 _) | exact nn5 _ | exact Ne.symm (nn5 _) | exact Ne.symm (by walk_at "zn cj_go") | exact Nat.ne_of_gt (by walk_at "zn cj_go") | exact (by walk_at "zn cj_go")))
  k_with "zn fa_go" => (repeat (first | refine fa_cons (by walk_at "zn ne_go") ?_ | exact fa_nil))
  k_with "zn upd_go" => (repeat' (first | (refine' UpdF.head ?_; walk_at "zn fa_go") | refine' UpdF.tail (by walk_at "zn ne_go") ?_))
  k_with "zn ct_close" => (((case k1 => k_asm); (case k2 => k_asm); (case k3 => k_asm); (case k4 => k_asm); (case k5 => k_asm); (case kK => exact rfl); (case kd => first | ktr_room | decide); (case ku => first | ktr_units | decide)))
  k_with "zn h0" => (k_here; k_dflt (refine LCg.CompSrc.range (by rfl) (by k_asm) (by k_asm) (by assumption) (by first | decide | rfl) (by first | rfl | decide) (by first | size_fits | exact Nat.le_of_ble_eq_true rfl) ?_; intro _; lcg_lit))
  trivial
set_option maxRecDepth 100000
set_option maxHeartbeats 8000000
theorem fillF : PySem.Challenge.rw_zn0003_01 = PySem.Challenge.rw_zn0003_01 ∧ hd.heap_39 = hd.heap_39 := by
  k_fill
  w_top off
  exact ⟨rfl, rfl⟩

/-- the rows of triples -/
def shRow (size : Int) (i : Nat) (k : Nat) : List (Int × Int × Int) := (List.range k).map fun (j : Nat) => ((i : Int), (j : Int), size - (i : Int) - (j : Int))
def shTill (size : Int) (i : Nat) : List (Int × Int × Int) := (List.range i).flatMap fun i => shRow size i (size + 1 - (i : Int)).toNat
def shL (size : Int) : List (Int × Int × Int) := shTill size (size + 1).toNat
theorem shRow_succ (size : Int) (i k : Nat) : shRow size i (k + 1) = shRow size i k ++ [((i : Int), (k : Int), size - (i : Int) - (k : Int))] := by simp [shRow, List.range_succ]
theorem shTill_succ (size : Int) (i : Nat) : shTill size (i + 1) = shTill size i ++ shRow size i (size + 1 - (i : Int)).toNat := by simp [shTill, List.range_succ]
/-- a list of triples, as it lies -/
inductive TR : List Value → List (Addr × Obj) → List (Int × Int × Int) → Prop
  | nil : TR [] [] []
  | snoc {vs tl trs} {T : Addr} {a b c : Int} {t1 t2 t3 : Tok} {e : Nat} : TR vs tl trs → TR (vs ++ [.ref T]) ((T, { cls := .type "tuple", data := .seq #[.int a t1, .int b t2, .int c t3] e }) :: tl) (trs ++ [(a, b, c)])

theorem shares_end {h₀ h10 : Heap} {L C D D9 I0 I1 c : Addr} {m m4 : Str → Option Value} {o0 o1' oC oT oc : Obj} {vs : List Value} {tl : List (Addr × Obj)} {s₁ : Shared} {tk : Nat} {trs : List (Int × Int × Int)} {k i : Nat} {t : Tok}
    (F : Fr h₀ L h10 m) (hC : LCg.NsObj oC m4) (N : News h₀ L h10 ((D9, oT) :: (I1, o1') :: (C, oC) :: (I0, o0) :: (D, LCg.lst (vs ++ [.ref D9])) :: (c, oc) :: tl)) (off : Off2 I1 C ((I0, o0) :: (D, LCg.lst vs) :: (c, oc) :: tl)) (l1 : I1 < D9) (l2 : C < D9) (l3 : I0 < D9) (l4 : D < D9)
    (hT : TR (vs ++ [.ref D9]) ((D9, oT) :: tl) trs) (hlen : (vs ++ [Value.ref D9]).length ≤ k) (htl : ∀ p ∈ tl, p.1 ≠ D) (htl2 : ∀ p ∈ tl, p.1 ≠ I0) (hx : m4 (Str.ofString "i") = some (.int (i : Nat) t)) :
    REnd h₀ L m I1 C o1' (fun m' rest => ∃ vs tl, rest = (I0, o0) :: (D, LCg.lst vs) :: (c, oc) :: tl ∧ TR vs tl trs ∧ vs.length ≤ k ∧ (∀ p ∈ tl, p.1 ≠ D) ∧ (∀ p ∈ tl, p.1 ≠ I0) ∧ m' (Str.ofString "i") = some (.int (i : Nat) t)) s₁ { s₁ with heap := h10, toks := tk } := by
  refine ⟨h10, _, oC, m4, (I0, o0) :: (D, LCg.lst (vs ++ [.ref D9])) :: (c, oc) :: (D9, oT) :: tl, rfl, F, hC, fun p hp => N p ?_, fun p hp => ?_, vs ++ [.ref D9], (D9, oT) :: tl, rfl, hT, hlen, ?_, ?_, hx⟩
  · rcases List.mem_cons.mp hp with rfl | hp
    · exact .tail _ (.head _)
    · rcases List.mem_cons.mp hp with rfl | hp
      · exact .tail _ (.tail _ (.head _))
      · rcases List.mem_cons.mp hp with rfl | hp
        · exact .tail _ (.tail _ (.tail _ (.head _)))
        · rcases List.mem_cons.mp hp with rfl | hp
          · exact .tail _ (.tail _ (.tail _ (.tail _ (.head _))))
          · rcases List.mem_cons.mp hp with rfl | hp
            · exact .tail _ (.tail _ (.tail _ (.tail _ (.tail _ (.head _)))))
            · rcases List.mem_cons.mp hp with rfl | hp
              · exact .head _
              · exact .tail _ (.tail _ (.tail _ (.tail _ (.tail _ (.tail _ hp)))))
  · rcases List.mem_cons.mp hp with rfl | hp
    · exact off _ (.head _)
    · rcases List.mem_cons.mp hp with rfl | hp
      · exact off (D, LCg.lst vs) (.tail _ (.head _))
      · rcases List.mem_cons.mp hp with rfl | hp
        · exact off _ (.tail _ (.tail _ (.head _)))
        · rcases List.mem_cons.mp hp with rfl | hp
          · exact ⟨Nat.ne_of_gt l1, Nat.ne_of_gt l2⟩
          · exact off _ (.tail _ (.tail _ (.tail _ hp)))
  · intro p hp
    rcases List.mem_cons.mp hp with rfl | hp
    · exact Nat.ne_of_gt l4
    · exact htl p hp
  · intro p hp
    rcases List.mem_cons.mp hp with rfl | hp
    · exact Nat.ne_of_gt l3
    · exact htl2 p hp
theorem rsz (b : Int) : Builtin.Range.rangeSize 0 b 1 = ((b.toNat : Nat) : Int) := by
  unfold Builtin.Range.rangeSize
  rw [if_pos (by decide)]
  split
  · rw [Int.ediv_one]; omega
  · omega
theorem wordsZn3H2 : True := by
  k_with "eval ListComp" => (refine hold ?_)
  trivial
theorem shares_ct (prog : Program) (w : World) (size : Int) (tk : Tok) (h1 : -100 ≤ size) (h2 : size ≤ 12) : Ct prog w 77 3 [.int size tk] (fun _ => True)
    (fun h h' r => ∃ D vs tl, r = .ref D ∧ TR vs tl (shL size) ∧ Fresh h h' ((D, LCg.lst vs) :: tl) ∧ ∀ p ∈ tl, p.1 ≠ D) := by
  intro p loose mean mg mb dp un gd cn cs ca' ccd cl outer A₀ base h₀ L m s Q E B F X T hk hdp hun hpre hret
  refine wpAny_call ?_
  k_dflt (walk_at "zn enterC")
  k_steps
  rename Fr _ _ _ _ => F5
  rename Top _ _ _ _ _ s.heap => T'
  rename News _ _ _ _ => N5
  unfold Hold
  k_dflt (refine evalTwo (by with_unfolding_all rfl) (by rfl) (by decide) ?_)
  k_steps
  rename IsRange _ _ _ _ _ _ _ _ => hr
  rename Fr _ _ _ _ => F6
  rename News _ _ _ _ => N6
  rename_i L5 _ _ _ _ _ o1 d1 _ h' _ _ _ _ _
  refine wpAny_pyIter_range hr (small_one (by decide) (by decide) (by omega) (by omega)) ?_
  rw [rsz]
  unfold TwoSrc
  k_dflt (refine two_outer (I := h'.objs.size) (n := (size + 1).toNat) (fun D i rest => ∃ vs tl, rest = (D, LCg.lst vs) :: (L5 + 1, o1) :: tl ∧ TR vs tl (shTill size i) ∧ vs.length ≤ 20 * i ∧ (∀ p ∈ tl, p.1 ≠ D) ∧ D ≠ L5 + 1) (by rfl) (by intro _ _; rfl) (by decide) (by rfl) (by rfl) ?_ (F6.push _) (fun p hp => ⟨Heap.get?_push_of_some _ (N6 p hp).1, (N6 p hp).2⟩) (Nat.ne_of_lt F6.ns.lt) (next_is_new F6) (fun p hp => Nat.ne_of_lt (Heap.lt_size (N6 p hp).1)) ?_ ?_ ?_)
  · show IsRangeIter _ _ _ _ _
    simpa using Heap.get?_push_size _ rfl
  · intro D hD
    exact ⟨[], [], rfl, .nil, by simp, by simp, Ne.symm (hD _ (.head _))⟩
  · intro i t m' oC C D rest h tk E' hi hJ hC F7 N7 off7 hIC
    obtain ⟨vs, tl, rfl, hTR, hlen, htl, hD5⟩ := hJ
    generalize hm2 : (fun y => if y = Str.ofString "i" then some (Value.int (i : Nat) t) else m' y) = m2 at hC
    have hx0 : m2 (Str.ofString "i") = some (.int (i : Nat) t) := by rw [← hm2]; simp
    clear F6 N6
    k_steps
    rename IsRange _ _ _ _ _ _ _ _ => hr1
    rename Fr _ _ _ _ => F8
    rename News _ _ _ _ => N8
    rename_i h8 tk8 _ _ _ _
    refine wpAny_pyIter_range hr1 (small_one (by decide) (by decide) (by omega) (by omega)) ?_
    rw [rsz]
    have off8 : Off2 h8.objs.size C ((h'.objs.size, rangeObj (i + 1) (size + 1).toNat) :: (D, LCg.lst vs) :: (L5 + 1, o1) :: tl) := fun p hp => by
      rcases List.mem_cons.mp hp with rfl | hp
      · exact ⟨Nat.ne_of_lt (Heap.lt_size (N8 _ (.head _)).1), hIC⟩
      · exact ⟨Nat.ne_of_lt (Heap.lt_size (N8 _ (.tail _ (.tail _ hp))).1), (off7 p hp).2⟩
    have hDI : D ≠ h'.objs.size := (off7 _ (.head _)).1
    have zC := N8 (C, oC) (.tail _ (.head _))
    have N10 : News s.heap L5 h8 ((h'.objs.size, rangeObj (i + 1) (size + 1).toNat) :: (D, LCg.lst vs) :: (L5 + 1, o1) :: tl) := fun p hp => N8 p (by
      rcases List.mem_cons.mp hp with rfl | hp
      · exact .head _
      · exact .tail _ (.tail _ hp))
    have J0 : ∃ vs' tl', (h'.objs.size, rangeObj (i + 1) (size + 1).toNat) :: (D, LCg.lst vs) :: (L5 + 1, o1) :: tl = (h'.objs.size, rangeObj (i + 1) (size + 1).toNat) :: (D, LCg.lst vs') :: (L5 + 1, o1) :: tl' ∧ TR vs' tl' (shTill size i ++ shRow size i 0) ∧ vs'.length ≤ 20 * i + 0 ∧ (∀ p ∈ tl', p.1 ≠ D) ∧ (∀ p ∈ tl', p.1 ≠ h'.objs.size) ∧ m2 (Str.ofString "i") = some (.int (i : Nat) t) :=
      ⟨vs, tl, rfl, by simpa [shRow] using hTR, by omega, htl, fun p hp => (off7 p (.tail _ (.tail _ hp))).1, hx0⟩
    k_dflt (refine two_inner (I := h8.objs.size) (C := C) (n := (size + 1 - (i : Int)).toNat) (m₀ := m2) (rest₀ := (h'.objs.size, rangeObj (i + 1) (size + 1).toNat) :: (D, LCg.lst vs) :: (L5 + 1, o1) :: tl) (fun j m' rest => ∃ vs tl, rest = (h'.objs.size, rangeObj (i + 1) (size + 1).toNat) :: (D, LCg.lst vs) :: (L5 + 1, o1) :: tl ∧ TR vs tl (shTill size i ++ shRow size i j) ∧ vs.length ≤ 20 * i + j ∧ (∀ p ∈ tl, p.1 ≠ D) ∧ (∀ p ∈ tl, p.1 ≠ h'.objs.size) ∧ m' (Str.ofString "i") = some (.int (i : Nat) t)) (by rfl) (by rfl) (by rfl) (by rfl) (Ne.symm (Nat.ne_of_lt F8.ns.lt)) (next_is_new F8) zC.2.1 zC.2.2 (Ne.symm (Nat.ne_of_lt (Heap.lt_size zC.1))) ?_ (F8.push _) (hC.ns (Heap.get?_push_of_some _ zC.1)) (fun p hp => ⟨Heap.get?_push_of_some _ (N10 p hp).1, (N10 p hp).2⟩) off8 J0 ?_ ?_)
    · show IsRangeIter _ _ _ _ _
      simpa using Heap.get?_push_size _ rfl
    · intro j t2 m3 oC3 rest h9 tk9 E' hj hJ hC3 F9 N9 off9
      obtain ⟨vs, tl, rfl, hTR, hlen, htl, htl2, hmi⟩ := hJ
      generalize hm4 : (fun y => if y = Str.ofString "j" then some (Value.int (j : Nat) t2) else m3 y) = m4 at hC3
      have hx1 : m4 (Str.ofString "j") = some (.int (j : Nat) t2) := by rw [← hm4]; simp
      have hx2 : m4 (Str.ofString "i") = some (.int (i : Nat) t) := by rw [← hm4]; show (if _ then _ else _) = _; rw [if_neg (by decide)]; exact hmi
      clear N10 N8 F8 zC off8 off7 hr1
      k_steps
      rename Fr _ _ _ _ => F10
      rename News _ _ _ _ => N10
      rename_i D9 _ l9
      refine append_K (D := D) (its := vs.toArray) (n := vs.length) F10 N10 (.tail (Nat.ne_of_gt l9.2.2.2.1) (.tail (Ne.symm (off9 _ (.tail _ (.head _))).1) (.tail (Ne.symm (off9 _ (.tail _ (.head _))).2) (.tail (Ne.symm hDI) (.head (fun p hp => by
        rcases List.mem_cons.mp hp with rfl | hp
        · exact Ne.symm hD5
        · exact htl p hp)))))) ?_ (by rw [List.size_toArray, sizeLine_eq]; omega)
      intro h10 F11 N11
      rw [show W.listOf (vs.toArray.push (Value.ref D9)) (vs.length + 1) = LCg.lst (vs ++ [.ref D9]) from LCg.lst_snoc vs _] at N11
      exact shares_end F11 hC3 N11 off9 l9.1 l9.2.1 l9.2.2.1 l9.2.2.2.1 (by rw [shRow_succ, ← List.append_assoc]; exact hTR.snoc) (by rw [List.length_append, List.length_singleton]; omega) htl htl2 hx2
    · intro h9 tk9 m5 rest F9 hn9 N9 off9 hJ
      obtain ⟨vs, tl, rfl, hTR, hlen, htl, htl2, hmi⟩ := hJ
      obtain ⟨oC9, heC9, hoC9⟩ := LCg.ns_obj hn9
      refine ⟨h9, tk9, oC9, m5, (D, LCg.lst vs) :: (L5 + 1, o1) :: tl, rfl, F9, hoC9, fun p hp => ?_, fun p hp => ?_, vs, tl, rfl, by rw [shTill_succ]; exact hTR, by omega, htl, hD5⟩
      · rcases List.mem_cons.mp hp with rfl | hp
        · exact N9 _ (.head _)
        · rcases List.mem_cons.mp hp with rfl | hp
          · exact ⟨heC9, zC.2.1, zC.2.2⟩
          · exact N9 _ (.tail _ hp)
      · refine ⟨?_, (off9 p (.tail _ hp)).2⟩
        rcases List.mem_cons.mp hp with rfl | hp
        · exact (off7 _ (.head _)).1
        · rcases List.mem_cons.mp hp with rfl | hp
          · exact (off7 _ (.tail _ (.head _))).1
          · exact htl2 p hp
  · intro D C h tk m' rest F7 hn7 N7 off7 hC₀ hCL hJ
    obtain ⟨vs, tl, rfl, hTR, hlen, htl, hD5⟩ := hJ
    refine ⟨m', hn7, fun h'' hs => ?_⟩
    have N8 : News s.heap L5 h'' ((D, LCg.lst vs) :: (L5 + 1, o1) :: tl) := fun p hp => ⟨hs.extBut _ _ (off7 p hp) (N7 p hp).1, (N7 p hp).2⟩
    exact hret _ _ _ (F7.change hs hCL hC₀).keep ⟨D, vs, tl, rfl, hTR, fun p hp => by
      have z := N8 p (by
        rcases List.mem_cons.mp hp with rfl | hp
        · exact .head _
        · exact .tail _ (.tail _ hp))
      exact ⟨z.1, z.2.2⟩, htl⟩

def EndF (h₀ : Heap) (L I : Addr) (oI : Obj) (J : (Str → Option Value) → List (Addr × Obj) → Prop) (Q : Flow → Shared → Prop) (s₁ : Shared) (f : Flow) (s₂ : Shared) : Prop := match f with
  | .ret v => Q (.ret v) s₂
  | .brk => Q .next s₂
  | _ => ∃ h' tk m₂ rest, s₂ = { s₁ with heap := h', toks := tk } ∧ Fr h₀ L h' m₂ ∧ News h₀ L h' ((I, oI) :: rest) ∧ (∀ p ∈ rest, p.1 ≠ I) ∧ J m₂ rest

section
variable {prog : Program} {w : World} {A : Around} {E : Value → Shared → Prop} {s : Shared} {env : Env} {h₀ : Heap} {L : Addr} {body : List Stmt} {Q : Flow → Shared → Prop}
/-- for x in a list of the ledger; x may be a cell -/
theorem loopList {x : Str} {px : Pos} {D : Addr} {vs : List Value} {m : Str → Option Value} {news : List (Addr × Obj)} (hh : A.handled = none) (F : Fr h₀ L s.heap m) (N : News h₀ L s.heap news)
    (J : Nat → (Str → Option Value) → List (Addr × Obj) → Prop) (hD : ∀ i m rest, J i m rest → (D, LCg.lst vs) ∈ rest) (h0 : J 0 m news)
    (turn : ∀ (i : Nat) (v : Value) (I : Addr) (oI : Obj) (m' : Str → Option Value) (rest : List (Addr × Obj)) (h : Heap) (tk : Nat), vs[i]? = some v → J i m' rest → Fr h₀ L h m' → News h₀ L h ((I, oI) :: rest) → (∀ p ∈ rest, p.1 ≠ I) →
      wpAny (model prog w) A (assign (.Name x px) env v) (fun _ s₂ => wpAny (model prog w) A (execs body env) (EndF h₀ L I oI (J (i + 1)) Q { s with heap := h, toks := tk }) E s₂) E { s with heap := h, toks := tk })
    (done : ∀ (h : Heap) (tk : Nat) (m' : Str → Option Value) (rest : List (Addr × Obj)), Fr h₀ L h m' → News h₀ L h rest → J vs.length m' rest → Q .next { s with heap := h, toks := tk })
    (hE : PassesOwn (model prog w) A env E := by passes_own) :
    wpAny (model prog w) A (pyIter (.ref D)) (fun it s₂ => codeAny (model prog w) A (.forLoop (.Name x px) it body [] env) (fun r s' => match r with | .ok f => Q f s' | .error e => cameBackBy (model prog w) A env E e s') s₂) E s := by
  have hl : s.heap.IsList D vs.toArray := News.isList N (hD _ _ _ h0)
  have hlt : D < s.heap.objs.size := Heap.lt_size (N _ (hD _ _ _ h0)).1
  have W := Walks.list (prog := prog) (w := w) hh s.heap.objs.size D (Nat.ne_of_lt hlt) vs.toArray
  have hIL : s.heap.objs.size ≠ L := Ne.symm (Nat.ne_of_lt F.ns.lt)
  have hI₀ : h₀.get? s.heap.objs.size = none := next_is_new F
  refine wpAny_pyIter_list hl ?_
  refine codeAny_forLoop (fun k s' => ∃ h' tk i m' rest, s' = { s with heap := h', toks := tk } ∧ i ≤ vs.toArray.size ∧ k = vs.toArray.size + 1 - i ∧ (h'.IsListIter s.heap.objs.size D i ∧ h'.IsList D vs.toArray) ∧ Fr h₀ L h' m' ∧ News h₀ L h' rest ∧ (∀ p ∈ rest, p.1 ≠ s.heap.objs.size) ∧ J i m' rest) ?_ (vs.toArray.size + 1)
    ⟨_, _, 0, m, news, rfl, Nat.zero_le _, rfl, ⟨⟨_, Heap.get?_push_size _ rfl, rfl, rfl⟩, hl.push _⟩, F.push _, fun p hp => ⟨Heap.get?_push_of_some _ (N p hp).1, (N p hp).2⟩, fun p hp => Nat.ne_of_lt (Heap.lt_size (N p hp).1), h0⟩
  rintro k s' ⟨h', tk, i, m', rest, rfl, hi, rfl, hst, F', N', off, hj⟩
  by_cases hi' : i < vs.toArray.size
  · refine W.item i _ _ _ hi' hst fun v h₁ tk₁ hv hst₁ hk => ?_
    have up : ∀ b o, b ≠ s.heap.objs.size → h'.get? b = some o → h₁.get? b = some o := fun b o hb e => hk b o (by simpa using hb) e
    have F₁ : Fr h₀ L h₁ m' := ⟨F'.ns.at' fun o e => up _ o (Ne.symm hIL) e, fun b o e => up b o (fun q => by rw [q, hI₀] at e; cases e) (F'.keep b o e), F'.above⟩
    obtain ⟨oI, heI, hoI1, hoI2⟩ := hst₁.1
    have N₁ : News h₀ L h₁ ((s.heap.objs.size, oI) :: rest) := fun p hp => by
      rcases List.mem_cons.mp hp with rfl | hp
      · exact ⟨heI, hIL, hI₀⟩
      · exact ⟨up _ _ (off p hp) (N' p hp).1, (N' p hp).2⟩
    refine wpAny_passesOwn hE (wpAny_mono (turn i v _ oI m' rest h₁ tk₁ (by simpa using hv) hj F₁ N₁ off) (fun _ s₂ h₂ => ?_) fun _ _ e => e)
    refine wpAny_passesOwn hE (wpAny_mono h₂ (fun f s₃ h₃ => ?_) fun _ _ e => e)
    have fin : (∃ h' tk m₂ rest, s₃ = { s with heap := h', toks := tk } ∧ Fr h₀ L h' m₂ ∧ News h₀ L h' ((s.heap.objs.size, oI) :: rest) ∧ (∀ p ∈ rest, p.1 ≠ s.heap.objs.size) ∧ J (i + 1) m₂ rest) →
        ∃ k, k < vs.toArray.size + 1 - i ∧ ∃ h' tk i m' rest, s₃ = { s with heap := h', toks := tk } ∧ i ≤ vs.toArray.size ∧ k = vs.toArray.size + 1 - i ∧ (h'.IsListIter s.heap.objs.size D i ∧ h'.IsList D vs.toArray) ∧ Fr h₀ L h' m' ∧ News h₀ L h' rest ∧ (∀ p ∈ rest, p.1 ≠ s.heap.objs.size) ∧ J i m' rest := by
      rintro ⟨h₃', tk₃, m₂, rest₂, rfl, F₃, N₃, off₃, hj₃⟩
      exact ⟨vs.toArray.size + 1 - (i + 1), by omega, h₃', tk₃, i + 1, m₂, rest₂, rfl, hi', rfl, ⟨⟨oI, (N₃ _ (.head _)).1, hoI1, hoI2⟩, News.isList N₃ (.tail _ (hD _ _ _ hj₃))⟩, F₃, fun p hp => N₃ p (.tail _ hp), off₃, hj₃⟩
    cases f with
    | ret v => exact h₃
    | brk => exact h₃
    | next => exact fin h₃
    | cont => exact fin h₃
  · obtain rfl : i = vs.toArray.size := Nat.le_antisymm hi (Nat.not_lt.mp hi')
    refine W.done _ _ _ hst fun h₁ tk₁ hk => ?_
    have up : ∀ b o, b ≠ s.heap.objs.size → h'.get? b = some o → h₁.get? b = some o := fun b o hb e => hk b o (by simpa using hb) e
    refine wpAny_execs_nil ?_
    exact done h₁ tk₁ m' rest ⟨F'.ns.at' fun o e => up _ o (Ne.symm hIL) e, fun b o e => up b o (fun q => by rw [q, hI₀] at e; cases e) (F'.keep b o e), F'.above⟩ (fun p hp => ⟨up _ _ (off p hp) (N' p hp).1, (N' p hp).2⟩) (by simpa using hj)
end
theorem TR.length {vs : List Value} {tl : List (Addr × Obj)} {trs : List (Int × Int × Int)} (h : TR vs tl trs) : vs.length = trs.length := by
  induction h with
  | nil => rfl
  | snoc _ ih => simp [ih]
/-- the i-th triple, as it lies in the heap -/
inductive AtTR (tl : List (Addr × Obj)) (trs : List (Int × Int × Int)) (i : Nat) (v : Value) : Prop
  | mk (T : Addr) (a b c : Int) (t1 t2 t3 : Tok) (e : Nat) (hv : v = .ref T) (ht : trs[i]? = some (a, b, c)) (hm : (T, ({ cls := .type "tuple", data := .seq #[.int a t1, .int b t2, .int c t3] e } : Obj)) ∈ tl)
theorem TR.at {vs : List Value} {tl : List (Addr × Obj)} {trs : List (Int × Int × Int)} (h : TR vs tl trs) : ∀ (i : Nat) (v : Value), vs[i]? = some v → AtTR tl trs i v := by
  induction h with
  | nil => intro i v h; simp at h
  | snoc hT ih =>
    rename_i vs tl trs T a b c t1 t2 t3 e
    intro i v h
    have hl := hT.length
    by_cases hi : i < vs.length
    · rw [List.getElem?_append_left hi] at h
      obtain ⟨T', a', b', c', t1', t2', t3', e', rfl, h2, h3⟩ := ih i v h
      exact ⟨T', a', b', c', t1', t2', t3', e', rfl, by rw [List.getElem?_append_left (by omega)]; exact h2, .tail _ h3⟩
    · rw [List.getElem?_append_right (by omega)] at h
      have h9 := h
      have hi2 : i - vs.length = 0 := by
        have := (List.getElem?_eq_some_iff.mp h9).1
        simp at this
        omega
      rw [hi2] at h
      simp only [List.getElem?_cons_zero, Option.some.injEq] at h
      exact ⟨T, a, b, c, t1, t2, t3, e, h.symm, by rw [List.getElem?_append_right (by omega), show i - trs.length = 0 by omega]; rfl, .head _⟩
theorem use_shares {prog : Program} {w : World} {p : Program} {loose : List Str} {mean : ExcName → Option Value} {mg mb : Str → Option Value} {dp un : Nat} {gd : Option (List Code)} {cn : Str} {cs : Scope} {ca : Addr} {ccd : Value} {cl : List (Str × Addr)} {outer : List Env}
  {A₀ : Around} {base h₀ : Heap} {L : Addr} {m : Str → Option Value} {s : Shared} {Q E : Value → Shared → Prop} {news : List (Addr × Obj)} {size : Int} {tk : Tok} (h1 : -100 ≤ size) (h2 : size ≤ 12) (B : Below A₀ base outer h₀) (F : Fr h₀ L s.heap m) (X : (hd.heap_39 w.params).In h₀) (N : News h₀ L s.heap news) (T : Top p loose mean mg mb h₀) (hk : cs.kind = .function) (hdp : dp + 3 < recursionLimit) (hun : un + 24 < cLine)
    (ret : ∀ D vs tl h' tk', TR vs tl (shL size) → (∀ p ∈ tl, p.1 ≠ D) → (∀ p ∈ news, p.1 ≠ D) → (∀ p ∈ news, ∀ q ∈ tl, q.1 ≠ p.1) → Fr h₀ L h' m → News h₀ L h' ((D, LCg.lst vs) :: tl ++ news) → Q (.ref D) { s with heap := h', toks := tk' }) :
    wpAny (model prog w) (ktrTop dp un gd cn cs L ca ccd cl outer) (call (.ref 77) [.int size tk]) Q E s := by
  refine shares_ct prog w size tk h1 h2 _ _ _ _ _ _ _ _ _ _ _ _ _ _ _ _ _ _ _ _ _ _ B F X T hk hdp hun trivial ?_
  rintro h' tk' r hs ⟨D, vs, tl, rfl, hT, hf, htl⟩
  refine ret D vs tl h' tk' hT htl (fun q hq e => ?_) (fun q hq q' hq' e => ?_) (frOn F hs) (newsAdd F N hs hf)
  · have h1 := (N q hq).1
    rw [e, (hf _ (.head _)).2] at h1
    cases h1
  · have h1 := (N q hq).1
    rw [← e, (hf _ (.tail _ hq')).2] at h1
    cases h1
end


section
theorem wordsZn3I1 : True := by
  k_with_none
  k_with "zn st" => ((case k1 => k_asm); (case k2 => k_asm); (case k3 => k_asm); (case k4 => k_asm); (case k5 => k_asm); (case kK => first | exact rfl | assumption); (case kd => ktr_room); (case ku => ktr_units))
  k_with "zn yst" => ((case y1 => k_asm); (case y2 => k_asm); (case y3 => k_asm); (case y4 => k_asm); (case y5 => k_asm); (case yK => exact rfl); (case yd => first | ktr_room | decide); (case yu => first | ktr_units | decide))
  k_with "zn tail7" => (rintro hh7 tk7 r7 ⟨dd7, oo7, rfl, lo7, S7, hf7⟩ hN7 hO7 F7 N7; (have N9 := hN7 _ hf7); (have O9 := hO7 _ (hf7 _ (.head _)).2); (simp only [LCg.Off1, and_true] at O9); (simp only [List.cons_append, List.nil_append] at N9); clear hN7 hO7 N7 hf7)
  k_with "zn enterS" => (refine' enterS ?k1 ?k2 ?k3 ?k5 ?kA ?kF ?kK ?k6 ?k7 ?k8 ?k9 ?kB ?_ ?c2 ?c3 ?c4 ?c5; (case kA => exact rfl); (case kF => exact rfl); (case kK => assumption); (case k1 => k_asm); (case k2 => k_asm); (case k3 => k_asm); (case k5 => k_asm); (case k6 => k_is); (case k7 => k_is); (case k8 => ktr_room); (case k9 => exact BindsTo.of_eq rfl); (case c5 => decide); (case kB => exact locs rfl); (case c2 => exact rfl); (case c3 => exact rfl); (case c4 => exact rfl); k_whole; intro _ _ _ _ _ _ _; (try dsimp only); (try walk_at "zn liftB"); (try k_fold))
  k_with "zn enterC" => (refine' enterC ?k1 ?k2 ?k3 ?k5 ?kA ?kF ?kK ?k6 ?k7 ?k8 ?k9 ?kB ?kD ?_ ?c2 ?c3 ?c4; (case kA => exact rfl); (case kF => exact rfl); (case kK => assumption); (case k1 => k_asm); (case k2 => k_asm); (case k3 => k_asm); (case k5 => k_asm); (case k6 => k_is); (case k7 => k_is); (case k8 => ktr_room); (case k9 => exact BindsTo.of_eq rfl); (case kB => exact rfl); (case kD => decide +kernel); (case c2 => exact rfl); (case c3 => exact rfl); (case c4 => exact rfl); k_whole; intro _ _ _ _ _ _ _ _ _ _; (try dsimp only); (try walk_at "zn liftB"); (try k_fold); walk_at "zn cellsY")
  k_with "zn k_sub" => ((intro p hp; repeat (first | exact hp | refine List.mem_cons_of_mem _ ?_)))
  k_with "zn sd_there" => (first | exact SD.keep (by assumption) (Fr.keep (by assumption)) | exact Held.sd (by assumption) (by assumption) (by assumption) (by walk_at "zn k_sub") | exact sd_news (by assumption) (by k_mem) (by assumption) (by assumption) (by assumption) | exact SDO.sd (by assumption) (by assumption) (News.get (by assumption) (by k_mem)))
  k_with "zn memg" => (first | exact List.Mem.head _ | (refine List.Mem.tail _ ?_; walk_at "zn memg"))
  k_with "zn li" => (((rename News _ _ _ _ => kN9); first | exact News.isList kN9 (by walk_at "zn memg") | is_list))
  k_with "zn cj_go" => ((first | exact And.left (by with_reducible assumption) | exact cj2 (by with_reducible assumption) | exact cj3 (by with_reducible assumption) | exact cj4 (by with_reducible assumption) | exact cj5 (by with_reducible assumption) | exact cj6 (by with_reducible assumption) | exact cj7 (by with_reducible assumption) | exact cj8 (by with_reducible assumption) | exact cj9 (by with_reducible assumption) | exact cj10 (by with_reducible assumption) | exact cj11 (by with_reducible assumption) | exact cj12 (by with_reducible assumption) | exact cj13 (by with_reducible assumption) | exact cj14 (by with_reducible assumption) | exact cj15 (by with_reducible assumption) | exact cj16 (by with_reducible assumption) | exact cj17 (by with_reducible assumption) | exact cj18 (by with_reducible assumption) | exact cl2 (by with_reducible assumption) | exact cl3 (by with_reducible assumption) | exact cl4 (by with_reducible assumption) | exact cl5 (by with_reducible assumption) | exact cl6 (by with_reducible assumption) | exact cl7 (by with_reducible assumption) | exact cl8 (by with_reducible assumption) | exact cl9 (by with_reducible assumption)))
  k_with "zn ne_go" => (((try dsimp only); (show @Ne Nat _ _); first | exact nn1 _ | exact Ne.symm (nn1 _) | exact nn2 _ | exact Ne.symm (nn2 _) | exact nn3 _ | exact Ne.symm (nn3 _) | exact nn4 _ | exact Ne.symm (nn4 _) | exact nn5 _ | exact Ne.symm (nn5 _) | exact Ne.symm (by walk_at "zn cj_go") | exact Nat.ne_of_gt (by walk_at "zn cj_go") | exact (by walk_at "zn cj_go")))
  k_with "zn fa_go" => (repeat (first | refine fa_cons (by walk_at "zn ne_go") ?_ | exact fa_nil))
  k_with "zn upd_go" => (repeat' (first | (refine' UpdF.head ?_; walk_at "zn fa_go") | refine' UpdF.tail (by walk_at "zn ne_go") ?_))
  k_with "zn ct_close" => (((case k1 => k_asm); (case k2 => k_asm); (case k3 => k_asm); (case k4 => k_asm); (case k5 => k_asm); (case kK => exact rfl); (case kd => first | ktr_room | decide); (case ku => first | ktr_units | decide)))
  k_with "zn h0" => (k_here; k_dflt (refine LCg.CompSrc.range (by rfl) (by k_asm) (by k_asm) (by assumption) (by first | decide | rfl) (by first | rfl | decide) (by first | size_fits | exact Nat.le_of_ble_eq_true rfl) ?_; intro _; lcg_lit))
  trivial
set_option maxRecDepth 100000
set_option maxHeartbeats 8000000
theorem fillI : PySem.Challenge.rw_zn0003_01 = PySem.Challenge.rw_zn0003_01 ∧ hd.heap_39 = hd.heap_39 := by
  k_fill
  w_top off
  exact ⟨rfl, rfl⟩
def anyLost (p : Int × Int × Int → Option Bool) : List (Int × Int × Int) → Option Bool
  | [] => some false
  | s :: r => match p s with
    | none => none
    | some true => some true
    | some false => anyLost p r
def worthL (p : Int × Int × Int → Option Bool) : Nat → Int → Option Int
  | 0, _ => none
  | n + 1, size => match anyLost p (shL size) with
    | none => none
    | some true => some (size - 1)
    | some false => worthL p n (size + 1)
def lostS (x y z : Str) (l0 l1 l2 : Bk) (f : Nat) (l : Bk) (t : Int × Int × Int) : Option Bool := lostF x y z l0 l1 l2 f (addB l (filt [(x, -t.1), (y, -t.2.1), (z, -t.2.2)])) 0
theorem filt_length (l : Bk) : (filt l).length ≤ l.length := by
  unfold filt
  have : ∀ (l a : Bk), (l.foldl (fun a p => if p.2 = 0 then a else put a p.1 p.2) a).length ≤ a.length + l.length := by
    intro l
    induction l with
    | nil => intro a; simp
    | cons p r ih =>
      intro a
      rw [List.foldl_cons]
      have h1 := ih (if p.2 = 0 then a else put a p.1 p.2)
      have h2 : (if p.2 = 0 then a else put a p.1 p.2).length ≤ a.length + 1 := by
        split
        · omega
        · exact put_length a p.1 p.2
      simp only [List.length_cons]
      omega
  simpa using this l []
/-- the pure side of the game's constants -/
def GameOk (low : Int) (x y z : Str) (l0 l1 l2 : Bk) : Prop := 0 ≤ low ∧ low < 8 ∧ x.length + y.length + z.length ≤ 300 ∧ l0.length ≤ 3 ∧ l1.length ≤ 3 ∧ l2.length ≤ 3 ∧
  ∀ mk : Nat, 0 < mk → mk < 8 → (Txt.join (Str.ofString ", ") (pfLoop 10 0 ((mk * 2 ^ low.toNat : Nat) : Int) []) = Txt.join (Str.ofString ", ") [x, y, z] ↔ mk = 7)
theorem use_lost {prog : Program} {w : World} {p : Program} {loose : List Str} {mean : ExcName → Option Value} {mg mb : Str → Option Value} {dp un : Nat} {gd : Option (List Code)} {cn : Str} {cs : Scope} {ca : Addr} {ccd : Value} {cl : List (Str × Addr)} {outer : List Env}
  {A₀ : Around} {base h₀ : Heap} {L : Addr} {m : Str → Option Value} {s : Shared} {Q E : Value → Shared → Prop} {news : List (Addr × Obj)} {bk lo nm d0 d1 d2 : Addr} {l l0 l1 l2 : Bk} {low : Int} {x y z : Str} {u1 u2 u3 tk' : Tok} {r : Bool} {f : Nat}
    (G : GameOk low x y z l0 l1 l2) (hf : lostF x y z l0 l1 l2 f l 0 = some r) (hl : l.length + 3 * f ≤ 90) (B : Below A₀ base outer h₀) (F : Fr h₀ L s.heap m) (X : (hd.heap_39 w.params).In h₀) (N : News h₀ L s.heap news) (T : Top p loose mean mg mb h₀) (hk : cs.kind = .function) (hdp : dp + 12 < recursionLimit) (hun : un + 96 < cLine)
    (S : SD prog w s.heap bk l) (hlo : h₀.IsList lo #[.ref d0, .ref d1, .ref d2]) (hnm : h₀.IsList nm #[.str x u1, .str y u2, .str z u3]) (S0 : SD prog w h₀ d0 l0) (S1 : SD prog w h₀ d1 l1) (S2 : SD prog w h₀ d2 l2)
    (ret : ∀ h' tk', Fr h₀ L h' m → News h₀ L h' news → Q (.bool r) { s with heap := h', toks := tk' }) :
    wpAny (model prog w) (ktrTop dp un gd cn cs L ca ccd cl outer) (call (.ref 72) [.ref bk, .ref lo, .ref nm, .int low tk']) Q E s := by
  obtain ⟨g1, g2, g3, g4, g5, g6, g7⟩ := G
  have kl : ∀ {a : Addr} {its : Array Value}, h₀.IsList a its → s.heap.IsList a its := fun ⟨o, e, r⟩ => ⟨o, F.keep _ _ e, r⟩
  refine lost_ct prog w bk lo nm d0 d1 d2 l l0 l1 l2 low x y z u1 u2 u3 tk' r f g1 g2 g3 hl g4 g5 g6 g7 hf _ _ _ _ _ _ _ _ _ _ _ _ _ _ _ _ _ _ _ _ _ _ B F X T hk hdp hun ⟨kl hlo, kl hnm, S, S0.keep F.keep, S1.keep F.keep, S2.keep F.keep⟩ ?_
  rintro h' tk r hs rfl
  exact ret h' tk (frOn F hs) (newsOn N hs)

theorem wordsZn3I2 : True := by
  k_with "call ref" => ((k_here; k_dflt (refine' use_add' ?ka ?kb ?k1 ?k2 ?k3 ?k4 ?k5 ?kK ?kd ?ku ?kS ?kT ?_; (case kS => walk_at "zn sd_there"); (case kT => walk_at "zn sd_there"); (case ka => omega); (case kb => omega); walk_at "zn st"; k_whole); intro _ _ _ _ _ _ _ _ _))
  k_with "call ref" => ((k_here; k_dflt (refine' use_shares ?ka ?kb ?k1 ?k2 ?k3 ?k4 ?k5 ?kK ?kd ?ku ?_; (case ka => omega); (case kb => omega); walk_at "zn st"; k_whole); intro _ _ _ _ _ _ _ _ _ _ _))
  k_with "exec While" => (refine hold ?_)
  k_with "exec For" => (refine hold ?_)
  k_with "exec For Name Call cons nil" => (refine hold ?_)
  k_with "exec Assign cons DictComp" => (refine hold ?_)
  k_with "call ref" => ((k_here; k_dflt (refine' use_lost ?ka ?kf ?kl ?k1 ?k2 ?k3 ?k4 ?k5 ?kK ?kd ?ku ?kS ?kx ?ky ?s0 ?s1 ?s2 ?_; (case kS => walk_at "zn sd_there"); (case kx => assumption); (case ky => assumption); (case s0 => assumption); (case s1 => assumption); (case s2 => assumption); (case ka => assumption); (case kf => assumption); (case kl => assumption); walk_at "zn st"; k_whole); intro _ _ _ _))
  trivial
/-- what holds ahead of each turn of the outer loop -/
inductive LoansI (s : Shared) (L5 bk lo : Addr) (low : Int) (tk' : Tok) (x y z : Str) (l l0 l1 l2 : Bk) (r : Int) (f : Nat) (o2 : Obj) (k : Nat) (s' : Shared) : Prop
  | mk (h' : Heap) (tk : Nat) (m' : Str → Option Value) (size : Int) (t : Tok) (oS : Obj) (v0 : Option Value) (e : s' = { s with heap := h', toks := tk }) (F : Fr s.heap L5 h' m') (h1 : m' (Str.ofString "size") = some (.int size t)) (h2 : m' (Str.ofString "book") = some (.ref bk)) (h3 : m' (Str.ofString "loans") = some (.ref lo)) (h4 : m' (Str.ofString "lowest") = some (.int low tk'))
    (h5 : 0 ≤ size) (h6 : size + k ≤ 12) (h7 : worthL (lostS x y z l0 l1 l2 f l) k size = some r) (N : News s.heap L5 h' [(L5 + 1 + 1, oS), (L5 + 1, o2)]) (h8 : oS.data = .cell v0)
/-- the same of the inner loop -/
inductive LoansJ (bk lo : Addr) (low : Int) (tk' : Tok) (x y z : Str) (l l0 l1 l2 : Bk) (f : Nat) (size : Int) (t : Tok) (R : Bool) (q : Addr × Obj) (c : Addr) (tl : List (Addr × Obj)) (i : Nat) (m' : Str → Option Value) (rest : List (Addr × Obj)) : Prop
  | mk (oS : Obj) (v0 : Option Value) (e : rest = q :: (c, oS) :: tl) (h0 : oS.data = .cell v0) (h1 : m' (Str.ofString "size") = some (.int size t)) (h2 : m' (Str.ofString "book") = some (.ref bk)) (h3 : m' (Str.ofString "loans") = some (.ref lo)) (h4 : m' (Str.ofString "lowest") = some (.int low tk')) (h5 : anyLost (lostS x y z l0 l1 l2 f l) ((shL size).drop i) = some R)
theorem worth_loans_ct (prog : Program) (w : World) (bk lo nm d0 d1 d2 : Addr) (l l0 l1 l2 : Bk) (low : Int) (x y z : Str) (u1 u2 u3 tk' : Tok) (r : Int) (f n : Nat) (G : GameOk low x y z l0 l1 l2) (hl : l.length + 3 * f ≤ 80) (hn : n ≤ 12)
    (hf : worthL (lostS x y z l0 l1 l2 f l) n 0 = some r) : Ct prog w 82 25 [.ref bk, .ref lo, .ref nm, .int low tk']
    (fun h => h.IsList lo #[.ref d0, .ref d1, .ref d2] ∧ h.IsList nm #[.str x u1, .str y u2, .str z u3] ∧ SD prog w h bk l ∧ SD prog w h d0 l0 ∧ SD prog w h d1 l1 ∧ SD prog w h d2 l2)
    (fun _ _ v => ∃ t, v = .int r t) := by
  intro p loose mean mg mb dp un gd cn cs ca' ccd cl outer A₀ base h₀ L m s Q E B F X T hk hdp hun hpre hret
  obtain ⟨hlo, hnm, hS, hS0, hS1, hS2⟩ := hpre
  refine wpAny_call ?_
  k_dflt (walk_at "zn enterC")
  k_steps
  rename Fr _ _ _ _ => F5
  rename Top _ _ _ _ _ s.heap => T'
  rename News _ _ _ _ => N5
  rename_i L5 _ _ _ _ o1 o2 ho1 ho2 _
  have hoN : o2.data = .cell (some (.ref nm)) := ho2
  have hoS : o1.data = .cell none := ho1
  unfold Hold
  refine whileAny (LoansI s L5 bk lo low tk' x y z l l0 l1 l2 r f o2) ?_ n ?_
  · rintro k s' ⟨h', tk, m', size, t, oS, v0, rfl, F6, hm1, hm2, hm3, hm4, hs0, hs1, hr, N6, hoS⟩
    clear N5 F5 ho1 ho2
    obtain _ | k := k
    · cases hr
    have F7 := see (see (see (see F6 (x := Str.ofString "lowest") hm4) (x := Str.ofString "loans") hm3) (x := Str.ofString "book") hm2) (x := Str.ofString "size") hm1
    clear F6
    k_steps
    unfold Hold
    refine wpAny_For ?_ (by intro _; rfl)
    k_steps
    rename Fr _ _ _ _ => F8
    rename News _ _ _ _ => N8
    rename_i D vs tl _ _ hTR htlD hnD hnt
    clear F7 N6
    obtain ⟨R, hA⟩ : ∃ R, anyLost (lostS x y z l0 l1 l2 f l) (shL size) = some R := by
      unfold worthL at hr
      cases e : anyLost (lostS x y z l0 l1 l2 f l) (shL size) with
      | none => rw [e] at hr; cases hr
      | some R => exact ⟨R, rfl⟩
    refine loopList (x := Str.ofString "share") (vs := vs) rfl F8 (news := (D, LCg.lst vs) :: (L5 + 1 + 1, oS) :: (L5 + 1, o2) :: tl) (fun p hp => N8 p ?_)
      (LoansJ bk lo low tk' x y z l l0 l1 l2 f size t R ((D, LCg.lst vs)) (L5 + 1 + 1) ((L5 + 1, o2) :: tl)) ?_ ⟨oS, v0, rfl, hoS, rfl, rfl, rfl, rfl, by simpa using hA⟩ ?_ ?_
    · simp only [List.mem_cons, List.mem_append, List.not_mem_nil, or_false] at hp ⊢
      rcases hp with h1 | h1 | h1 | h1
      · exact .inl (.inl h1)
      · exact .inr (.inl h1)
      · exact .inr (.inr h1)
      · exact .inl (.inr h1)
    · rintro i m' rest ⟨oS, v0, rfl, _⟩
      exact .head _
    · rintro i v I oI m' rest h tk hv ⟨oS, v0, rfl, hoS, hm1, hm2, hm3, hm4, hAi⟩ F9 N9 off9
      clear F8 N8
      obtain ⟨Tu, a, b, c, t1, t2, t3, e, rfl, htr, hTu⟩ := hTR.at i v hv
      have hd : (shL size).drop i = (a, b, c) :: (shL size).drop (i + 1) := by
        obtain ⟨h1, h2⟩ := List.getElem?_eq_some_iff.mp htr
        rw [List.drop_eq_getElem_cons h1, h2]
      rw [hd] at hAi
      have F10 := see (see (see (see F9 (x := Str.ofString "lowest") hm4) (x := Str.ofString "loans") hm3) (x := Str.ofString "book") hm2) (x := Str.ofString "size") hm1
      clear F9
      have N10 : News s.heap L5 h ((I, oI) :: (Tu, _) :: (L5 + 1 + 1, oS) :: (L5 + 1, o2) :: (D, LCg.lst vs) :: tl) := fun p hp => N9 p (by
        simp only [List.mem_cons] at hp ⊢
        rcases hp with h1 | h1 | h1 | h1 | h1 | h1
        · exact .inl h1
        · exact .inr (.inr (.inr (.inr (h1 ▸ hTu))))
        · exact .inr (.inr (.inl h1))
        · exact .inr (.inr (.inr (.inl h1)))
        · exact .inr (.inl h1)
        · exact .inr (.inr (.inr (.inr h1))))
      have hIc : I ≠ L5 + 1 + 1 := Ne.symm (off9 _ (.tail _ (.head _)))
      have hTc : Tu ≠ L5 + 1 + 1 := hnt _ (.head _) _ hTu
      refine wpAny_assign_Name (storeX_C F10 N10 rfl (.tail hIc (.tail hTc (.head fun p hp => ?_))) hoS ?_ rfl rfl)
      · rcases List.mem_cons.mp hp with rfl | hp
        · exact Ne.symm (Nat.succ_ne_self _)
        · rcases List.mem_cons.mp hp with rfl | hp
          · exact Ne.symm (hnD _ (.head _))
          · exact hnt _ (.head _) _ hp
      intro h11 oS2 F11 N11 hoS2
      clear F10 N10 N9
      k_steps
      unfold Hold
      obtain ⟨bb, hbb⟩ : ∃ bb, lostS x y z l0 l1 l2 f l (a, b, c) = some bb := by
        unfold anyLost at hAi
        cases e : lostS x y z l0 l1 l2 f l (a, b, c) with
        | none => rw [e] at hAi; cases hAi
        | some R => exact ⟨R, rfl⟩
      have hbb2 : lostF x y z l0 l1 l2 f (addB l (filt [(x, -a), (y, -b), (z, -c)])) 0 = some bb := hbb
      have hlen : (addB l (filt [(x, -a), (y, -b), (z, -c)])).length + 3 * f ≤ 90 := by
        have h1 := addB_length l (filt [(x, -a), (y, -b), (z, -c)])
        have h2 := filt_length [(x, -a), (y, -b), (z, -c)]
        simp only [List.length_cons, List.length_nil] at h2
        omega
      have hlen2 : (filt [(x, -a), (y, -b), (z, -c)]).length ≤ 100 := by
        have h2 := filt_length [(x, -a), (y, -b), (z, -c)]
        simp only [List.length_cons, List.length_nil] at h2
        omega
      have hlen3 : l.length ≤ 100 := by omega
      k_dflt (refine assignDictComp F11 (by rfl) (by with_unfolding_all rfl) (by with_unfolding_all rfl) (by decide) (by rfl) (by decide) (by rfl) (by rfl) ?_ (by intro _; rfl))
      k_steps
      rename IsRange _ _ _ _ _ _ _ _ => hrg
      rename Fr _ _ _ _ => F12
      rename News _ _ _ _ => N12
      k_dflt (refine dictRange (n := 3) (fun i => filt ([(x, -a), (y, -b), (z, -c)].take i)) (by rfl) (by rfl) (by rfl) hrg (by decide) (by decide) (by decide) F12 N12 (big_of T') (by rfl) ?_ ?_)
      · intro i t9 I2 oI2 C2 oC2 D2 oD2 m2 h12 tk12 E' hi hC hm F13 N13 off ne
        clear F12 N12
        unfold DBody
        match i, hi with
        | 0, hi =>
          have hs := filt_step (l := [(x, -a), (y, -b), (z, -c)]) (i := 0) rfl
          refine wpAny_tests_one ?_
          k_steps
          all_goals first | exact ⟨_, _, rfl, by assumption, by assumption⟩ | (rw [hs, if_neg (by omega)]) | (rw [hs, if_pos (by omega)])
        | 1, hi =>
          have hs := filt_step (l := [(x, -a), (y, -b), (z, -c)]) (i := 1) rfl
          refine wpAny_tests_one ?_
          k_steps
          all_goals first | exact ⟨_, _, rfl, by assumption, by assumption⟩ | (rw [hs, if_neg (by omega)]) | (rw [hs, if_pos (by omega)])
        | 2, hi =>
          have hs := filt_step (l := [(x, -a), (y, -b), (z, -c)]) (i := 2) rfl
          refine wpAny_tests_one ?_
          k_steps
          all_goals first | exact ⟨_, _, rfl, by assumption, by assumption⟩ | (rw [hs, if_neg (by omega)]) | (rw [hs, if_pos (by omega)])
      · intro D3 o3 h12 lo3 S3 h13 tk13 F13 N13 o1
        clear F12 N12
        have S4 : SDO prog w o3 (filt [(x, -a), (y, -b), (z, -c)]) := S3
        clear S3
        k_steps
        · rename Fr _ _ _ _ => F14
          rename bb = true => hb
          subst hb
          simp only [anyLost, hbb] at hAi
          cases hAi
          simp only [worthL, hA] at hr
          cases hr
          exact hret _ _ _ F14.keep ⟨_, rfl⟩
        · rename Fr _ _ _ _ => F14
          rename News _ _ _ _ => N14
          rename bb = false => hb
          subst hb
          simp only [anyLost, hbb] at hAi
          refine ⟨_, _, _, (D, LCg.lst vs) :: (L5 + 1 + 1, oS2) :: (L5 + 1, o2) :: tl, rfl, F14, fun p hp => N14 p ?_, fun p hp => ?_, oS2, _, rfl, hoS2, rfl, rfl, rfl, rfl, hAi⟩
          · simp only [List.mem_cons] at hp ⊢
            rcases hp with h1 | h1 | h1 | h1 | h1
            · exact .inr (.inr (.inl h1))
            · exact .inr (.inr (.inr (.inr (.inr (.inr (.inl h1))))))
            · exact .inr (.inr (.inr (.inr (.inl h1))))
            · exact .inr (.inr (.inr (.inr (.inr (.inl h1)))))
            · exact .inr (.inr (.inr (.inr (.inr (.inr (.inr h1))))))
          · rcases List.mem_cons.mp hp with rfl | hp
            · exact off9 (D, LCg.lst vs) (.head _)
            · rcases List.mem_cons.mp hp with rfl | hp
              · exact Ne.symm hIc
              · exact off9 p (.tail _ (.tail _ hp))
    · rintro h tk m' rest F9 N9 ⟨oS, v0, rfl, hoS, hm1, hm2, hm3, hm4, hAi⟩
      rw [hTR.length, List.drop_length] at hAi
      cases hAi
      clear F8 N8
      have F10 := see (see (see (see F9 (x := Str.ofString "lowest") hm4) (x := Str.ofString "loans") hm3) (x := Str.ofString "book") hm2) (x := Str.ofString "size") hm1
      clear F9
      have N10 : News s.heap L5 h [(L5 + 1 + 1, oS), (L5 + 1, o2)] := fun p hp => N9 p (by
        rcases List.mem_cons.mp hp with rfl | hp
        · exact .tail _ (.head _)
        · rw [List.mem_singleton.mp hp]; exact .tail _ (.tail _ (.head _)))
      clear N9
      k_steps
      unfold worthL at hr
      rw [hA] at hr
      rename Fr _ _ _ _ => F11
      rename News _ _ _ _ => N11
      exact ⟨k, Nat.lt_succ_self k, _, _, _, size + 1, _, oS, v0, rfl, F11, rfl, rfl, rfl, rfl, by omega, by omega, hr, N11, hoS⟩
  · exact ⟨_, _, _, 0, _, o1, none, rfl, F5, rfl, rfl, rfl, rfl, by omega, by omega, hf, N5, hoS⟩
end

section
theorem wordsZn3J1 : True := by
  k_with_none
  k_with "zn st" => ((case k1 => k_asm); (case k2 => k_asm); (case k3 => k_asm); (case k4 => k_asm); (case k5 => k_asm); (case kK => first | exact rfl | assumption); (case kd => ktr_room); (case ku => ktr_units))
  k_with "zn yst" => ((case y1 => k_asm); (case y2 => k_asm); (case y3 => k_asm); (case y4 => k_asm); (case y5 => k_asm); (case yK => exact rfl); (case yd => first | ktr_room | decide); (case yu => first | ktr_units | decide))
  k_with "zn tail7" => (rintro hh7 tk7 r7 ⟨dd7, oo7, rfl, lo7, S7, hf7⟩ hN7 hO7 F7 N7; (have N9 := hN7 _ hf7); (have O9 := hO7 _ (hf7 _ (.head _)).2); (simp only [LCg.Off1, and_true] at O9); (simp only [List.cons_append, List.nil_append] at N9); clear hN7 hO7 N7 hf7)
  k_with "zn enterS" => (refine' enterS ?k1 ?k2 ?k3 ?k5 ?kA ?kF ?kK ?k6 ?k7 ?k8 ?k9 ?kB ?_ ?c2 ?c3 ?c4 ?c5; (case kA => exact rfl); (case kF => exact rfl); (case kK => assumption); (case k1 => k_asm); (case k2 => k_asm); (case k3 => k_asm); (case k5 => k_asm); (case k6 => k_is); (case k7 => k_is); (case k8 => ktr_room); (case k9 => exact BindsTo.of_eq rfl); (case c5 => decide); (case kB => exact locs rfl); (case c2 => exact rfl); (case c3 => exact rfl); (case c4 => exact rfl); k_whole; intro _ _ _ _ _ _ _; (try dsimp only); (try walk_at "zn liftB"); (try k_fold))
  k_with "zn enterC" => (refine' enterC ?k1 ?k2 ?k3 ?k5 ?kA ?kF ?kK ?k6 ?k7 ?k8 ?k9 ?kB ?kD ?_ ?c2 ?c3 ?c4; (case kA => exact rfl); (case kF => exact rfl); (case kK => assumption); (case k1 => k_asm); (case k2 => k_asm); (case k3 => k_asm); (case k5 => k_asm); (case k6 => k_is); (case k7 => k_is); (case k8 => ktr_room); (case k9 => exact BindsTo.of_eq rfl); (case kB => exact rfl); (case kD => decide +kernel); (case c2 => exact rfl); (case c3 => exact rfl); (case c4 => exact rfl); k_whole; intro _ _ _ _ _ _ _ _ _ _; (try dsimp only); (try walk_at "zn liftB"); (try k_fold); walk_at "zn cellsY")
  k_with "zn k_sub" => ((intro p hp; repeat (first | exact hp | refine List.mem_cons_of_mem _ ?_)))
  k_with "zn sd_there" => (first | exact SD.keep (by assumption) (Fr.keep (by assumption)) | exact Held.sd (by assumption) (by assumption) (by assumption) (by walk_at "zn k_sub") | exact sd_news (by assumption) (by k_mem) (by assumption) (by assumption) (by assumption) | exact SDO.sd (by assumption) (by assumption) (News.get (by assumption) (by k_mem)))
  k_with "zn memg" => (first | exact List.Mem.head _ | (refine List.Mem.tail _ ?_; walk_at "zn memg"))
  k_with "zn li" => (((rename News _ _ _ _ => kN9); first | exact News.isList kN9 (by walk_at "zn memg") | is_list))
  k_with "zn cj_go" => ((first | exact And.left (by with_reducible assumption) | exact cj2 (by with_reducible assumption) | exact cj3 (by with_reducible assumption) | exact cj4 (by with_reducible assumption) | exact cj5 (by with_reducible assumption) | exact cj6 (by with_reducible assumption) | exact cj7 (by with_reducible assumption) | exact cj8 (by with_reducible assumption) | exact cj9 (by with_reducible assumption) | exact cj10 (by with_reducible assumption) | exact cj11 (by with_reducible assumption) | exact cj12 (by with_reducible assumption) | exact cj13 (by with_reducible assumption) | exact cj14 (by with_reducible assumption) | exact cj15 (by with_reducible assumption) | exact cj16 (by with_reducible assumption) | exact cj17 (by with_reducible assumption) | exact cj18 (by with_reducible assumption) | exact cl2 (by with_reducible assumption) | exact cl3 (by with_reducible assumption) | exact cl4 (by with_reducible assumption) | exact cl5 (by with_reducible assumption) | exact cl6 (by with_reducible assumption) | exact cl7 (by with_reducible assumption) | exact cl8 (by with_reducible assumption) | exact cl9 (by with_reducible assumption)))
  k_with "zn ne_go" => (((try dsimp only); (show @Ne Nat _ _); first | exact nn1 _ | exact Ne.symm (nn1 _) | exact nn2 _ | exact Ne.symm (nn2 _) | exact nn3 _ | exact Ne.symm (nn3 _) | exact nn4 _ | exact Ne.symm (nn4 _) | exact nn5 _ | exact Ne.symm (nn5 _) | exact Ne.symm (by walk_at "zn cj_go") | exact Nat.ne_of_gt (by walk_at "zn cj_go") | exact (by walk_at "zn cj_go")))
  k_with "zn fa_go" => (repeat (first | refine fa_cons (by walk_at "zn ne_go") ?_ | exact fa_nil))
  k_with "zn upd_go" => (repeat' (first | (refine' UpdF.head ?_; walk_at "zn fa_go") | refine' UpdF.tail (by walk_at "zn ne_go") ?_))
  k_with "zn ct_close" => (((case k1 => k_asm); (case k2 => k_asm); (case k3 => k_asm); (case k4 => k_asm); (case k5 => k_asm); (case kK => exact rfl); (case kd => first | ktr_room | decide); (case ku => first | ktr_units | decide)))
  k_with "zn h0" => (k_here; k_dflt (refine LCg.CompSrc.range (by rfl) (by k_asm) (by k_asm) (by assumption) (by first | decide | rfl) (by first | rfl | decide) (by first | size_fits | exact Nat.le_of_ble_eq_true rfl) ?_; intro _; lcg_lit))
  trivial
set_option maxRecDepth 100000
set_option maxHeartbeats 8000000
theorem fillJ : PySem.Challenge.rw_zn0003_01 = PySem.Challenge.rw_zn0003_01 ∧ hd.heap_39 = hd.heap_39 := by
  k_fill
  w_top off
  exact ⟨rfl, rfl⟩
theorem wordsZn3J2 : True := by
  k_with "call ref" => ((k_here; k_dflt (refine' use_add' ?ka ?kb ?k1 ?k2 ?k3 ?k4 ?k5 ?kK ?kd ?ku ?kS ?kT ?_; (case kS => walk_at "zn sd_there"); (case kT => walk_at "zn sd_there"); (case ka => omega); (case kb => omega); walk_at "zn st"; k_whole); intro _ _ _ _ _ _ _ _ _))
  k_with "call ref" => ((k_here; k_dflt (refine' use_shares ?ka ?kb ?k1 ?k2 ?k3 ?k4 ?k5 ?kK ?kd ?ku ?_; (case ka => omega); (case kb => omega); walk_at "zn st"; k_whole); intro _ _ _ _ _ _ _ _ _ _ _))
  trivial
def FM (a b q : Int) : Prop := a.fmod b = q
theorem FM.zero {a b q : Int} (h : FM a b q) (hz : a.fmod b = 0) : q = 0 := by unfold FM at h; rw [← h]; exact hz
theorem mod_gen {prog : Program} {w : World} {A : Around} {E : Value → Shared → Prop} {s : Shared} {Q : Value → Shared → Prop} {a b : Int} {t u : Tok} (hb : b ≠ 0) (h : ∀ q, FM a b q → Q (.int q s.toks) { s with toks := s.toks + 1 }) : wpAny (model prog w) A (binaryOp .Mod (.int a t) (.int b u)) Q E s := mod_int hb (h _ rfl)

theorem wordsZn3J3 : True := by
  k_with "binaryOp Mod int int" => ((refine hold ?_))
  k_with "binaryOp Mult int int" => ((with_reducible refine mul_int ?_ (PySem.IntMulOk.of_left (PySem.intBits_le_64 (by omega) (by omega)))))
  k_with "exec If" => (refine hold ?_)
  k_with "exec While" => (refine hold ?_)
  k_with "exec For" => (refine hold ?_)
  k_with "exec For Name Call cons nil" => (refine hold ?_)
  k_with "exec Assign cons DictComp" => (refine hold ?_)
  k_with "subscriptTail" => ((k_here; (with_unfolding_all refine' item_litK ?k1 ?k2 ?k3 ?k4 ?_ ?k6; (case k1 => is_list); (case k2 => decide); (case k3 => decide); (case k4 => rfl); (case k6 => with_unfolding_all rfl); k_whole)))
  trivial
def payS (r0 r1 a b c : Int) (s : Int × Int × Int) : Bool := decide (((r0 - s.1) * (a + b) + (r1 - s.2.1) * a).fmod (a * b + b * c + c * a) = 0) && decide (((r0 - s.1) * a + (r1 - s.2.1) * (a + c)).fmod (a * b + b * c + c * a) = 0)
def paidF (r0 r1 r2 a b c : Int) : Bool := (shL (r0 + r1 + r2)).any (payS r0 r1 a b c)
@[irreducible] def Hid (P : Prop) : Prop := P
theorem hid {P : Prop} (h : P) : Hid P := by unfold Hid; exact h
theorem unhid {P : Prop} (h : Hid P) : P := by unfold Hid at h; exact h
theorem shL_mem {size a b c : Int} (h : (a, b, c) ∈ shL size) : 0 ≤ a ∧ a ≤ size ∧ 0 ≤ b ∧ b ≤ size := by
  unfold shL shTill shRow at h
  simp only [List.mem_flatMap, List.mem_range, List.mem_map] at h
  obtain ⟨i, hi, j, hj, e⟩ := h
  cases e
  omega
theorem shL_at {size a b c : Int} {i : Nat} (h : (shL size)[i]? = some (a, b, c)) : (shL size).drop i = (a, b, c) :: (shL size).drop (i + 1) ∧ 0 ≤ a ∧ a ≤ size ∧ 0 ≤ b ∧ b ≤ size := by
  obtain ⟨h1, h2⟩ := List.getElem?_eq_some_iff.mp h
  exact ⟨by rw [List.drop_eq_getElem_cons h1, h2], shL_mem (h2 ▸ List.getElem_mem h1)⟩
theorem paid_ct (prog : Program) (w : World) (ro ti : Addr) (r0 r1 r2 a b c : Int) (t0 t1 t2 t3 t4 t5 : Tok) (h1 : -100 ≤ r0 + r1 + r2) (h2 : r0 + r1 + r2 ≤ 12) (ha : 0 ≤ a ∧ a ≤ 4) (hb : 0 ≤ b ∧ b ≤ 4) (hc : 0 ≤ c ∧ c ≤ 4) (hr0 : -200 ≤ r0 ∧ r0 ≤ 200) (hr1 : -200 ≤ r1 ∧ r1 ≤ 200) (htr : a * b + b * c + c * a ≠ 0) : Ct prog w 89 12 [.ref ro, .ref ti]
    (fun h => h.IsList ro #[.int r0 t0, .int r1 t1, .int r2 t2] ∧ h.IsList ti #[.int a t3, .int b t4, .int c t5])
    (fun _ _ v => v = .bool (paidF r0 r1 r2 a b c)) := by
  intro p loose mean mg mb dp un gd cn cs ca' ccd cl outer A₀ base h₀ L m s Q E B F X T hk hdp hun hpre hret
  obtain ⟨hro, hti⟩ := hpre
  obtain ⟨ha0, ha1⟩ := ha
  obtain ⟨hb0, hb1⟩ := hb
  obtain ⟨hc0, hc1⟩ := hc
  obtain ⟨hr0, hr0'⟩ := hr0
  obtain ⟨hr1, hr1'⟩ := hr1
  refine wpAny_call ?_
  k_dflt (walk_at "zn enterS")
  k_steps
  unfold Hold
  rename Fr _ _ _ _ => F5
  rename News _ _ _ _ => N5
  refine wpAny_For ?_ (by intro _; rfl)
  k_steps
  rename Fr _ _ _ _ => F8
  rename News _ _ _ _ => N8
  rename_i D vs tl _ _ hTR htlD hnD hnt
  have e0 : r0 + (r1 + (r2 + 0)) = r0 + r1 + r2 := by omega
  rw [e0] at hTR
  refine loopList (x := Str.ofString "share") (vs := vs) rfl F8 (news := (D, LCg.lst vs) :: tl) (fun p hp => N8 p (by simpa using hp))
    (fun i m' rest => rest = (D, LCg.lst vs) :: tl ∧ m' (Str.ofString "row") = some (.ref ro) ∧ m' (Str.ofString "ties") = some (.ref ti) ∧ (∃ t, m' (Str.ofString "trees") = some (.int (a * b + b * c + c * a) t)) ∧ Hid (((shL (r0 + r1 + r2)).drop i).any (payS r0 r1 a b c) = paidF r0 r1 r2 a b c)) ?_ ⟨rfl, rfl, rfl, ⟨_, rfl⟩, hid (by rw [List.drop_zero]; rfl)⟩ ?_ ?_
  · rintro i m' rest ⟨rfl, _⟩
    exact .head _
  · rintro i v I oI m' rest h tk hv ⟨rfl, hm1, hm2, ⟨t, hm3⟩, hA⟩ F9 N9 off9
    clear F8 N8
    obtain ⟨Tu, s0, s1, s2, v1, v2, v3, e, rfl, hs, hTu⟩ := hTR.at i v hv
    obtain ⟨hd, hs0, hs1, hs2, hs3⟩ := shL_at hs
    have hA2 : Hid ((payS r0 r1 a b c (s0, s1, s2) || ((shL (r0 + r1 + r2)).drop (i + 1)).any (payS r0 r1 a b c)) = paidF r0 r1 r2 a b c) := hid (by rw [← List.any_cons, ← hd]; exact unhid hA)
    clear hA hd hs hv
    have F10 := see (see (see F9 (x := Str.ofString "trees") hm3) (x := Str.ofString "ties") hm2) (x := Str.ofString "row") hm1
    clear F9
    have N10 : News s.heap _ h ((I, oI) :: (Tu, _) :: (D, LCg.lst vs) :: tl) := fun p hp => N9 p (by
      simp only [List.mem_cons] at hp ⊢
      rcases hp with h1 | h1 | h1 | h1
      · exact .inl h1
      · exact .inr (.inr (h1 ▸ hTu))
      · exact .inr (.inl h1)
      · exact .inr (.inr h1))
    clear N9
    k_steps
    rename Fr _ _ _ _ => F11
    have F12 := see (see F11 (x := Str.ofString "x") (v := .int (r0 - s0) _) rfl) (x := Str.ofString "y") (v := .int (r1 - s1) _) rfl
    rename News _ _ _ _ => N12
    clear F11
    unfold Hold
    refine wpAny_If ?_
    k_steps
    unfold Hold
    refine mod_gen htr ?_
    intro q hq
    iterate 4 walk1
    · refine wpAny_execs_cons ?_
      refine wpAny_If ?_
      k_steps
      unfold Hold
      refine mod_gen htr ?_
      intro q2 hq2
      iterate 4 walk1
      · rename q = 0 => hz
        rename q2 = 0 => hz2
        subst hz hz2
        have hp : payS r0 r1 a b c (s0, s1, s2) = true := by
          unfold payS
          rw [Bool.and_eq_true, decide_eq_true_iff, decide_eq_true_iff]
          have g0 : ∀ u v w : Int, [u, v, w].getD (Int.toNat 0) 0 = u := fun _ _ _ => rfl
          have g1 : ∀ u v w : Int, [u, v, w].getD (Int.toNat 1) 0 = v := fun _ _ _ => rfl
          have g2 : ∀ u v w : Int, [u, v, w].getD (Int.toNat 2) 0 = w := fun _ _ _ => rfl
          unfold FM at hq hq2
          simp only [g0, g1, g2] at hq hq2
          exact ⟨hq, hq2⟩
        replace hA2 := unhid hA2
        rw [hp, Bool.true_or] at hA2
        refine wpAny_execs_cons (wpAny_Return_some ?_)
        walk1
        exact hret _ _ _ F12.keep (show Value.bool true = Value.bool (paidF r0 r1 r2 a b c) from congrArg Value.bool hA2)
      · rename q2 ≠ 0 => hz2
        have hp : payS r0 r1 a b c (s0, s1, s2) = false := by
          rw [Bool.eq_false_iff]
          intro hh
          unfold payS at hh
          rw [Bool.and_eq_true, decide_eq_true_iff, decide_eq_true_iff] at hh
          exact hz2 (hq2.zero hh.2)
        replace hA2 := unhid hA2
        rw [hp, Bool.false_or] at hA2
        repeat (refine wpAny_execs_nil ?_)
        refine ⟨_, _, _, (D, LCg.lst vs) :: tl, rfl, F12, fun p hp => N12 p ?_, off9, rfl, rfl, rfl, ⟨_, rfl⟩, hid hA2⟩
        rcases List.mem_cons.mp hp with rfl | hp
        · exact .head _
        · exact .tail _ (.tail _ hp)

    · rename q ≠ 0 => hz
      have hp : payS r0 r1 a b c (s0, s1, s2) = false := by
        rw [Bool.eq_false_iff]
        intro hh
        unfold payS at hh
        rw [Bool.and_eq_true, decide_eq_true_iff, decide_eq_true_iff] at hh
        exact hz (hq.zero hh.1)
      replace hA2 := unhid hA2
      rw [hp, Bool.false_or] at hA2
      repeat (refine wpAny_execs_nil ?_)
      refine ⟨_, _, _, (D, LCg.lst vs) :: tl, rfl, F12, fun p hp => N12 p ?_, off9, rfl, rfl, rfl, ⟨_, rfl⟩, hid hA2⟩
      rcases List.mem_cons.mp hp with rfl | hp
      · exact .head _
      · exact .tail _ (.tail _ hp)
  · rintro h tk m' rest F9 N9 ⟨rfl, hm1, hm2, hm3, hA⟩
    replace hA := unhid hA
    rw [hTR.length, List.drop_length] at hA
    clear F8 N8
    k_steps
    exact hret _ _ _ F9.keep (by rw [← hA]; rfl)
end

section
theorem wordsZn3K1 : True := by
  k_with_none
  k_with "zn st" => ((case k1 => k_asm); (case k2 => k_asm); (case k3 => k_asm); (case k4 => k_asm); (case k5 => k_asm); (case kK => first | exact rfl | assumption); (case kd => ktr_room); (case ku => ktr_units))
  k_with "zn yst" => ((case y1 => k_asm); (case y2 => k_asm); (case y3 => k_asm); (case y4 => k_asm); (case y5 => k_asm); (case yK => exact rfl); (case yd => first | ktr_room | decide); (case yu => first | ktr_units | decide))
  k_with "zn tail7" => (rintro hh7 tk7 r7 ⟨dd7, oo7, rfl, lo7, S7, hf7⟩ hN7 hO7 F7 N7; (have N9 := hN7 _ hf7); (have O9 := hO7 _ (hf7 _ (.head _)).2); (simp only [LCg.Off1, and_true] at O9); (simp only [List.cons_append, List.nil_append] at N9); clear hN7 hO7 N7 hf7)
  k_with "zn enterS" => (refine' enterS ?k1 ?k2 ?k3 ?k5 ?kA ?kF ?kK ?k6 ?k7 ?k8 ?k9 ?kB ?_ ?c2 ?c3 ?c4 ?c5; (case kA => exact rfl); (case kF => exact rfl); (case kK => assumption); (case k1 => k_asm); (case k2 => k_asm); (case k3 => k_asm); (case k5 => k_asm); (case k6 => k_is); (case k7 => k_is); (case k8 => ktr_room); (case k9 => exact BindsTo.of_eq rfl); (case c5 => decide); (case kB => exact locs rfl); (case c2 => exact rfl); (case c3 => exact rfl); (case c4 => exact rfl); k_whole; intro _ _ _ _ _ _ _; (try dsimp only); (try walk_at "zn liftB"); (try k_fold))
  k_with "zn enterC" => (refine' enterC ?k1 ?k2 ?k3 ?k5 ?kA ?kF ?kK ?k6 ?k7 ?k8 ?k9 ?kB ?kD ?_ ?c2 ?c3 ?c4; (case kA => exact rfl); (case kF => exact rfl); (case kK => assumption); (case k1 => k_asm); (case k2 => k_asm); (case k3 => k_asm); (case k5 => k_asm); (case k6 => k_is); (case k7 => k_is); (case k8 => ktr_room); (case k9 => exact BindsTo.of_eq rfl); (case kB => exact rfl); (case kD => decide +kernel); (case c2 => exact rfl); (case c3 => exact rfl); (case c4 => exact rfl); k_whole; intro _ _ _ _ _ _ _ _ _ _; (try dsimp only); (try walk_at "zn liftB"); (try k_fold); walk_at "zn cellsY")
  k_with "zn k_sub" => ((intro p hp; repeat (first | exact hp | refine List.mem_cons_of_mem _ ?_)))
  k_with "zn sd_there" => (first | exact SD.keep (by assumption) (Fr.keep (by assumption)) | exact Held.sd (by assumption) (by assumption) (by assumption) (by walk_at "zn k_sub") | exact sd_news (by assumption) (by k_mem) (by assumption) (by assumption) (by assumption) | exact SDO.sd (by assumption) (by assumption) (News.get (by assumption) (by k_mem)))
  k_with "zn memg" => (first | exact List.Mem.head _ | (refine List.Mem.tail _ ?_; walk_at "zn memg"))
  k_with "zn li" => (((rename News _ _ _ _ => kN9); first | exact News.isList kN9 (by walk_at "zn memg") | is_list))
  k_with "zn cj_go" => ((first | exact And.left (by with_reducible assumption) | exact cj2 (by with_reducible assumption) | exact cj3 (by with_reducible assumption) | exact cj4 (by with_reducible assumption) | exact cj5 (by with_reducible assumption) | exact cj6 (by with_reducible assumption) | exact cj7 (by with_reducible assumption) | exact cj8 (by with_reducible assumption) | exact cj9 (by with_reducible assumption) | exact cj10 (by with_reducible assumption) | exact cj11 (by with_reducible assumption) | exact cj12 (by with_reducible assumption) | exact cj13 (by with_reducible assumption) | exact cj14 (by with_reducible assumption) | exact cj15 (by with_reducible assumption) | exact cj16 (by with_reducible assumption) | exact cj17 (by with_reducible assumption) | exact cj18 (by with_reducible assumption) | exact cl2 (by with_reducible assumption) | exact cl3 (by with_reducible assumption) | exact cl4 (by with_reducible assumption) | exact cl5 (by with_reducible assumption) | exact cl6 (by with_reducible assumption) | exact cl7 (by with_reducible assumption) | exact cl8 (by with_reducible assumption) | exact cl9 (by with_reducible assumption)))
  k_with "zn ne_go" => (((try dsimp only); (show @Ne Nat _ _); first | exact nn1 _ | exact Ne.symm (nn1 _) | exact nn2 _ | exact Ne.symm (nn2 _) | exact nn3 _ | exact Ne.symm (nn3 _) | exact nn4 _ | exact Ne.symm (nn4 _) | exact nn5 _ | exact Ne.symm (nn5 _) | exact Ne.symm (by walk_at "zn cj_go") | exact Nat.ne_of_gt (by walk_at "zn cj_go") | exact (by walk_at "zn cj_go")))
  k_with "zn fa_go" => (repeat (first | refine fa_cons (by walk_at "zn ne_go") ?_ | exact fa_nil))
  k_with "zn upd_go" => (repeat' (first | (refine' UpdF.head ?_; walk_at "zn fa_go") | refine' UpdF.tail (by walk_at "zn ne_go") ?_))
  k_with "zn ct_close" => (((case k1 => k_asm); (case k2 => k_asm); (case k3 => k_asm); (case k4 => k_asm); (case k5 => k_asm); (case kK => exact rfl); (case kd => first | ktr_room | decide); (case ku => first | ktr_units | decide)))
  k_with "zn h0" => (k_here; k_dflt (refine LCg.CompSrc.range (by rfl) (by k_asm) (by k_asm) (by assumption) (by first | decide | rfl) (by first | rfl | decide) (by first | size_fits | exact Nat.le_of_ble_eq_true rfl) ?_; intro _; lcg_lit))
  trivial
set_option maxRecDepth 100000
set_option maxHeartbeats 2000000
theorem fillM : PySem.Challenge.rw_zn0003_01 = PySem.Challenge.rw_zn0003_01 ∧ hd.heap_39 = hd.heap_39 := by
  k_fill
  w_top off
  exact ⟨rfl, rfl⟩
theorem use_paid {prog : Program} {w : World} {p : Program} {loose : List Str} {mean : ExcName → Option Value} {mg mb : Str → Option Value} {dp un : Nat} {gd : Option (List Code)} {cn : Str} {cs : Scope} {ca : Addr} {ccd : Value} {cl : List (Str × Addr)} {outer : List Env}
  {A₀ : Around} {base h₀ : Heap} {L : Addr} {m : Str → Option Value} {s : Shared} {Q E : Value → Shared → Prop} {news : List (Addr × Obj)} {ro ti : Addr} {r0 r1 r2 a b c : Int} {t0 t1 t2 t3 t4 t5 : Tok}
    (h1 : -100 ≤ r0 + r1 + r2) (h2 : r0 + r1 + r2 ≤ 12) (ha : 0 ≤ a ∧ a ≤ 4) (hb : 0 ≤ b ∧ b ≤ 4) (hc : 0 ≤ c ∧ c ≤ 4) (hr0 : -200 ≤ r0 ∧ r0 ≤ 200) (hr1 : -200 ≤ r1 ∧ r1 ≤ 200) (htr : a * b + b * c + c * a ≠ 0)
    (B : Below A₀ base outer h₀) (F : Fr h₀ L s.heap m) (X : (hd.heap_39 w.params).In h₀) (N : News h₀ L s.heap news) (T : Top p loose mean mg mb h₀) (hk : cs.kind = .function) (hdp : dp + 12 < recursionLimit) (hun : un + 96 < cLine)
    (hro : s.heap.IsList ro #[.int r0 t0, .int r1 t1, .int r2 t2]) (hti : h₀.IsList ti #[.int a t3, .int b t4, .int c t5])
    (ret : ∀ h' tk' r, r = paidF r0 r1 r2 a b c → Fr h₀ L h' m → News h₀ L h' news → Q (.bool r) { s with heap := h', toks := tk' }) :
    wpAny (model prog w) (ktrTop dp un gd cn cs L ca ccd cl outer) (call (.ref 89) [.ref ro, .ref ti]) Q E s := by
  refine paid_ct prog w ro ti r0 r1 r2 a b c t0 t1 t2 t3 t4 t5 h1 h2 ha hb hc hr0 hr1 htr _ _ _ _ _ _ _ _ _ _ _ _ _ _ _ _ _ _ _ _ _ _ B F X T hk hdp hun ⟨hro, let ⟨o, e, r⟩ := hti; ⟨o, F.keep _ _ e, r⟩⟩ ?_
  rintro h' tk' r hs rfl
  exact ret h' tk' _ rfl (frOn F hs) (newsOn N hs)
theorem wordsZn3K2 : True := by
  k_with "call ref" => ((k_here; k_dflt (refine' use_add' ?ka ?kb ?k1 ?k2 ?k3 ?k4 ?k5 ?kK ?kd ?ku ?kS ?kT ?_; (case kS => walk_at "zn sd_there"); (case kT => walk_at "zn sd_there"); (case ka => omega); (case kb => omega); walk_at "zn st"; k_whole); intro _ _ _ _ _ _ _ _ _))
  k_with "call ref" => ((k_here; k_dflt (refine' use_shares ?ka ?kb ?k1 ?k2 ?k3 ?k4 ?k5 ?kK ?kd ?ku ?_; (case ka => omega); (case kb => omega); walk_at "zn st"; k_whole); intro _ _ _ _ _ _ _ _ _ _ _))
  k_with "eval ListComp" => ((k_here; k_dflt (refine LCg.ListComp_U (F₀ := by k_asm) (by with_unfolding_all rfl) (by decide) (by rfl) (by decide) (by rfl) ?_); k_dflt lcg_toSrc))
  k_with "CompSrc" => (walk_at "zn h0")
  trivial
theorem compEnd' {h₀ : Heap} {L I C D : Addr} {m : Str → Option Value} {s₁ : Shared} {oI oC oD : Obj} {rest : Value → List (Addr × Obj) → Prop} {y : Value} {h' : Heap} {tk : Nat} {news : List (Addr × Obj)} (F : Fr h₀ L h' m) (N : News h₀ L h' ((I, oI) :: (C, oC) :: (D, oD) :: news)) (off : LCg.Off3 I C D news) (r : rest y news) :
    LCg.CompEnd h₀ L m s₁ I oI C oC D oD (fun _ => True) rest y { s₁ with heap := h', toks := tk } := ⟨h', tk, news, rfl, F, N, off, trivial, r⟩

theorem wordsZn3K3 : True := by
  k_with "CompEnd" => ((refine' compEnd' ?kF ?kN ?kO ?_; (case kF => assumption); (case kN => assumption); (case kO => first | assumption | (simp only [LCg.Off3, and_true]; assumption)); (try dsimp only)))
  k_with "exec If" => (refine hold ?_)
  k_with "exec While" => (refine hold ?_)
  k_with "exec For" => (refine hold ?_)
  k_with "exec For Name Call cons nil" => (refine hold ?_)
  k_with "exec Assign cons DictComp" => (refine hold ?_)
  k_with "call ref" => (((with_reducible show wpAny _ _ (call (Value.ref 89) _) _ _ _); refine hold ?_))
  trivial
theorem any_false {p : Int × Int × Int → Option Bool} {s : Int × Int × Int} {r : List (Int × Int × Int)} {R : Bool} (h : anyLost p (s :: r) = some R) (e : p s = some false) : anyLost p r = some R := by
  simp only [anyLost, e] at h; exact h
theorem any_true {p : Int × Int × Int → Option Bool} {s : Int × Int × Int} {r : List (Int × Int × Int)} {R : Bool} (h : anyLost p (s :: r) = some R) (e : p s = some true) : R = true := by
  simp only [anyLost, e] at h; cases h; rfl
theorem worth_true {p : Int × Int × Int → Option Bool} {n : Nat} {size r : Int} (h : worthL p (n + 1) size = some r) (e : anyLost p (shL size) = some true) : size - 1 = r := by
  simp only [worthL, e] at h; cases h; rfl
def restP (r0 r1 r2 a b c : Int) (s : Int × Int × Int) : Option Bool := some (!paidF (r0 - s.1) (r1 - s.2.1) (r2 - s.2.2) a b c)
theorem shL_sum {size a b c : Int} {i : Nat} (h : (shL size)[i]? = some (a, b, c)) : c = size - a - b := by
  obtain ⟨h1, h2⟩ := List.getElem?_eq_some_iff.mp h
  have h3 := List.getElem_mem h1
  rw [h2] at h3
  unfold shL shTill shRow at h3
  simp only [List.mem_flatMap, List.mem_range, List.mem_map] at h3
  obtain ⟨i, hi, j, hj, e⟩ := h3
  cases e
  rfl
/-- what holds ahead of each turn of the outer loop -/
inductive RestsI (s : Shared) (L5 ti : Addr) (r0 r1 r2 a b c r : Int) (o2 : Obj) (k : Nat) (s' : Shared) : Prop
  | mk (h' : Heap) (tk : Nat) (m' : Str → Option Value) (size : Int) (t : Tok) (oS : Obj) (v0 : Option Value) (e : s' = { s with heap := h', toks := tk }) (F : Fr s.heap L5 h' m') (h1 : m' (Str.ofString "size") = some (.int size t)) (h2 : m' (Str.ofString "ties") = some (.ref ti)) (h5 : 0 ≤ size) (h6 : size + k ≤ 12)
    (h7 : Hid (worthL (restP r0 r1 r2 a b c) k size = some r)) (N : News s.heap L5 h' [(L5 + 1 + 1, oS), (L5 + 1, o2)]) (h8 : oS.data = .cell v0)
/-- the same of the inner loop -/
inductive RestsJ (ti : Addr) (r0 r1 r2 a b c : Int) (size : Int) (t : Tok) (R : Bool) (q : Addr × Obj) (d : Addr) (tl : List (Addr × Obj)) (i : Nat) (m' : Str → Option Value) (rest : List (Addr × Obj)) : Prop
  | mk (oS : Obj) (v0 : Option Value) (e : rest = q :: (d, oS) :: tl) (h0 : oS.data = .cell v0) (h1 : m' (Str.ofString "size") = some (.int size t)) (h2 : m' (Str.ofString "ties") = some (.ref ti)) (h5 : Hid (anyLost (restP r0 r1 r2 a b c) ((shL size).drop i) = some R))
theorem worth_rests_ct (prog : Program) (w : World) (ro ti : Addr) (r0 r1 r2 a b c : Int) (t0 t1 t2 t3 t4 t5 : Tok) (r : Int) (n : Nat) (h1 : -80 ≤ r0 + r1 + r2) (h2 : r0 + r1 + r2 ≤ 12) (ha : 0 ≤ a ∧ a ≤ 4) (hb : 0 ≤ b ∧ b ≤ 4) (hc : 0 ≤ c ∧ c ≤ 4) (hr0 : -100 ≤ r0 ∧ r0 ≤ 100) (hr1 : -100 ≤ r1 ∧ r1 ≤ 100) (htr : a * b + b * c + c * a ≠ 0) (hn : n ≤ 12)
    (hf : Hid (worthL (restP r0 r1 r2 a b c) n 0 = some r)) : Ct prog w 94 25 [.ref ro, .ref ti]
    (fun h => h.IsList ro #[.int r0 t0, .int r1 t1, .int r2 t2] ∧ h.IsList ti #[.int a t3, .int b t4, .int c t5])
    (fun _ _ v => ∃ t, v = .int r t) := by
  intro p loose mean mg mb dp un gd cn cs ca' ccd cl outer A₀ base h₀ L m s Q E B F X T hk hdp hun hpre hret
  obtain ⟨hro, hti⟩ := hpre
  refine wpAny_call ?_
  k_dflt (walk_at "zn enterC")
  k_steps
  rename Fr _ _ _ _ => F5
  rename Top _ _ _ _ _ s.heap => T'
  rename News _ _ _ _ => N5
  rename_i L5 _ _ _ _ o1 o2 ho1 ho2 _
  have hoN : o2.data = .cell (some (.ref ro)) := ho2
  have hoS : o1.data = .cell none := ho1
  unfold Hold
  refine whileAny (RestsI s L5 ti r0 r1 r2 a b c r o2) ?_ n ?_
  · rintro k s' ⟨h', tk, m', size, t, oS, v0, rfl, F6, hm1, hm2, hs0, hs1, hr, N6, hoS⟩
    clear N5 F5 ho1 ho2
    obtain _ | k := k
    · exact absurd (unhid hr) (by simp [worthL])
    have F7 := see (see F6 (x := Str.ofString "ties") hm2) (x := Str.ofString "size") hm1
    clear F6
    k_steps
    unfold Hold
    refine wpAny_For ?_ (by intro _; rfl)
    k_steps
    rename Fr _ _ _ _ => F8
    rename News _ _ _ _ => N8
    rename_i D vs tl _ _ hTR htlD hnD hnt
    clear F7 N6
    obtain ⟨R, hA⟩ : ∃ R, Hid (anyLost (restP r0 r1 r2 a b c) (shL size) = some R) := by
      replace hr := unhid hr
      unfold worthL at hr
      cases e : anyLost (restP r0 r1 r2 a b c) (shL size) with
      | none => rw [e] at hr; cases hr
      | some R => exact ⟨R, hid rfl⟩
    refine loopList (x := Str.ofString "share") (vs := vs) rfl F8 (news := (D, LCg.lst vs) :: (L5 + 1 + 1, oS) :: (L5 + 1, o2) :: tl) (fun p hp => N8 p ?_)
      (RestsJ ti r0 r1 r2 a b c size t R ((D, LCg.lst vs)) (L5 + 1 + 1) ((L5 + 1, o2) :: tl)) ?_ ⟨oS, v0, rfl, hoS, rfl, rfl, hid (by rw [List.drop_zero]; exact unhid hA)⟩ ?_ ?_
    · simp only [List.mem_cons, List.mem_append, List.not_mem_nil, or_false] at hp ⊢
      rcases hp with h1 | h1 | h1 | h1
      · exact .inl (.inl h1)
      · exact .inr (.inl h1)
      · exact .inr (.inr h1)
      · exact .inl (.inr h1)
    · rintro i m' rest ⟨oS, v0, rfl, _⟩
      exact .head _
    · rintro i v I oI m' rest h tk hv ⟨oS, v0, rfl, hoS, hm1, hm2, hAi⟩ F9 N9 off9
      clear F8 N8
      obtain ⟨Tu, s0, s1, s2, v1, v2, v3, e, rfl, htr', hTu⟩ := hTR.at i v hv
      obtain ⟨hd, hb0, hb1, hb2, hb3⟩ := shL_at htr'
      have hb4 := shL_sum htr'
      have hAi2 : Hid (anyLost (restP r0 r1 r2 a b c) ((s0, s1, s2) :: (shL size).drop (i + 1)) = some R) := hid (by rw [← hd]; exact unhid hAi)
      clear hd hAi htr' hv
      have F10 := see (see F9 (x := Str.ofString "ties") hm2) (x := Str.ofString "size") hm1
      clear F9
      have N10 : News s.heap L5 h ((I, oI) :: (Tu, _) :: (L5 + 1 + 1, oS) :: (L5 + 1, o2) :: (D, LCg.lst vs) :: tl) := fun p hp => N9 p (by
        simp only [List.mem_cons] at hp ⊢
        rcases hp with h1 | h1 | h1 | h1 | h1 | h1
        · exact .inl h1
        · exact .inr (.inr (.inr (.inr (h1 ▸ hTu))))
        · exact .inr (.inr (.inl h1))
        · exact .inr (.inr (.inr (.inl h1)))
        · exact .inr (.inl h1)
        · exact .inr (.inr (.inr (.inr h1))))
      have hIc : I ≠ L5 + 1 + 1 := Ne.symm (off9 _ (.tail _ (.head _)))
      have hTc : Tu ≠ L5 + 1 + 1 := hnt _ (.head _) _ hTu
      refine wpAny_assign_Name (storeX_C F10 N10 rfl (.tail hIc (.tail hTc (.head fun p hp => ?_))) hoS ?_ rfl rfl)
      · rcases List.mem_cons.mp hp with rfl | hp
        · exact Ne.symm (Nat.succ_ne_self _)
        · rcases List.mem_cons.mp hp with rfl | hp
          · exact Ne.symm (hnD _ (.head _))
          · exact hnt _ (.head _) _ hp
      intro h11 oS2 F11 N11 hoS2
      clear F10 N10 N9
      k_steps
      rename Fr _ _ _ _ => F12
      rename News _ _ _ _ => N12
      unfold Hold
      refine wpAny_If ?_
      k_steps
      rename Fr _ _ _ _ => F13
      rename News _ _ _ _ => N13
      rename_i D9 _ _ _
      unfold Hold
      refine use_paid (r0 := r0 - s0) (r1 := r1 - s1) (r2 := r2 - s2) (by omega) (by omega) ha hb hc (by omega) (by omega) htr (by assumption) F13 (by assumption) N13 (by assumption) (by first | rfl | assumption) (by ktr_room) (by ktr_units) (News.isList N13 (.head _)) (by assumption) ?_
      intro h14 tk14 rr hrr F14 N14
      replace hrr := hid hrr
      cases rr with
      | true =>
        k_steps
        have e1 : restP r0 r1 r2 a b c (s0, s1, s2) = some false := by
          show some (!paidF (r0 - s0) (r1 - s1) (r2 - s2) a b c) = some false
          rw [← unhid hrr]; rfl
        have hAi3 := hid (any_false (unhid hAi2) e1)
        refine ⟨_, _, _, (D, LCg.lst vs) :: (L5 + 1 + 1, oS2) :: (L5 + 1, o2) :: tl, rfl, F14, fun p hp => N14 p ?_, fun p hp => ?_, oS2, _, rfl, hoS2, rfl, rfl, hAi3⟩
        · simp only [List.mem_cons] at hp ⊢
          rcases hp with h1 | h1 | h1 | h1 | h1
          · exact .inr (.inl h1)
          · exact .inr (.inr (.inr (.inr (.inr (.inl h1)))))
          · exact .inr (.inr (.inr (.inl h1)))
          · exact .inr (.inr (.inr (.inr (.inl h1))))
          · exact .inr (.inr (.inr (.inr (.inr (.inr h1)))))
        · rcases List.mem_cons.mp hp with rfl | hp
          · exact off9 (D, LCg.lst vs) (.head _)
          · rcases List.mem_cons.mp hp with rfl | hp
            · exact Ne.symm hIc
            · exact off9 p (.tail _ (.tail _ hp))
      | false =>
        k_steps
        have e1 : restP r0 r1 r2 a b c (s0, s1, s2) = some true := by
          show some (!paidF (r0 - s0) (r1 - s1) (r2 - s2) a b c) = some true
          rw [← unhid hrr]; rfl
        have e2 := any_true (unhid hAi2) e1
        subst e2
        have e3 := worth_true (unhid hr) (unhid hA)
        exact hret _ _ _ F14.keep ⟨_, by rw [← e3]⟩
    · rintro h tk m' rest F9 N9 ⟨oS, v0, rfl, hoS, hm1, hm2, hAi⟩
      replace hAi := unhid hAi
      rw [hTR.length, List.drop_length] at hAi
      cases hAi
      clear F8 N8
      have F10 := see (see F9 (x := Str.ofString "ties") hm2) (x := Str.ofString "size") hm1
      clear F9
      have N10 : News s.heap L5 h [(L5 + 1 + 1, oS), (L5 + 1, o2)] := fun p hp => N9 p (by
        rcases List.mem_cons.mp hp with rfl | hp
        · exact .tail _ (.head _)
        · rw [List.mem_singleton.mp hp]; exact .tail _ (.tail _ (.head _)))
      clear N9
      k_steps
      rename Fr _ _ _ _ => F11
      rename News _ _ _ _ => N11
      exact ⟨k, Nat.lt_succ_self k, _, _, _, size + 1, _, oS, v0, rfl, F11, rfl, rfl, by omega, by omega, hid (by
        replace hr := unhid hr
        unfold worthL at hr
        rw [unhid hA] at hr
        exact hr), N11, hoS⟩
  · exact ⟨_, _, _, 0, _, o1, none, rfl, F5, rfl, rfl, by omega, by omega, hf, N5, hoS⟩
end

section
theorem wordsZn3L1 : True := by
  k_with_none
  k_with "zn st" => ((case k1 => k_asm); (case k2 => k_asm); (case k3 => k_asm); (case k4 => k_asm); (case k5 => k_asm); (case kK => first | exact rfl | assumption); (case kd => ktr_room); (case ku => ktr_units))
  k_with "zn yst" => ((case y1 => k_asm); (case y2 => k_asm); (case y3 => k_asm); (case y4 => k_asm); (case y5 => k_asm); (case yK => exact rfl); (case yd => first | ktr_room | decide); (case yu => first | ktr_units | decide))
  k_with "zn tail7" => (rintro hh7 tk7 r7 ⟨dd7, oo7, rfl, lo7, S7, hf7⟩ hN7 hO7 F7 N7; (have N9 := hN7 _ hf7); (have O9 := hO7 _ (hf7 _ (.head _)).2); (simp only [LCg.Off1, and_true] at O9); (simp only [List.cons_append, List.nil_append] at N9); clear hN7 hO7 N7 hf7)
  k_with "zn enterS" => (refine' enterS ?k1 ?k2 ?k3 ?k5 ?kA ?kF ?kK ?k6 ?k7 ?k8 ?k9 ?kB ?_ ?c2 ?c3 ?c4 ?c5; (case kA => exact rfl); (case kF => exact rfl); (case kK => assumption); (case k1 => k_asm); (case k2 => k_asm); (case k3 => k_asm); (case k5 => k_asm); (case k6 => k_is); (case k7 => k_is); (case k8 => ktr_room); (case k9 => exact BindsTo.of_eq rfl); (case c5 => decide); (case kB => exact locs rfl); (case c2 => exact rfl); (case c3 => exact rfl); (case c4 => exact rfl); k_whole; intro _ _ _ _ _ _ _; (try dsimp only); (try walk_at "zn liftB"); (try k_fold))
  k_with "zn enterC" => (refine' enterC ?k1 ?k2 ?k3 ?k5 ?kA ?kF ?kK ?k6 ?k7 ?k8 ?k9 ?kB ?kD ?_ ?c2 ?c3 ?c4; (case kA => exact rfl); (case kF => exact rfl); (case kK => assumption); (case k1 => k_asm); (case k2 => k_asm); (case k3 => k_asm); (case k5 => k_asm); (case k6 => k_is); (case k7 => k_is); (case k8 => ktr_room); (case k9 => exact BindsTo.of_eq rfl); (case kB => exact rfl); (case kD => decide +kernel); (case c2 => exact rfl); (case c3 => exact rfl); (case c4 => exact rfl); k_whole; intro _ _ _ _ _ _ _ _ _ _; (try dsimp only); (try walk_at "zn liftB"); (try k_fold); walk_at "zn cellsY")
  k_with "zn k_sub" => ((intro p hp; repeat (first | exact hp | refine List.mem_cons_of_mem _ ?_)))
  k_with "zn sd_there" => (first | exact SD.keep (by assumption) (Fr.keep (by assumption)) | exact Held.sd (by assumption) (by assumption) (by assumption) (by walk_at "zn k_sub") | exact sd_news (by assumption) (by k_mem) (by assumption) (by assumption) (by assumption) | exact SDO.sd (by assumption) (by assumption) (News.get (by assumption) (by k_mem)))
  k_with "zn memg" => (first | exact List.Mem.head _ | (refine List.Mem.tail _ ?_; walk_at "zn memg"))
  k_with "zn li" => (((rename News _ _ _ _ => kN9); first | exact News.isList kN9 (by walk_at "zn memg") | is_list))
  k_with "zn cj_go" => ((first | exact And.left (by with_reducible assumption) | exact cj2 (by with_reducible assumption) | exact cj3 (by with_reducible assumption) | exact cj4 (by with_reducible assumption) | exact cj5 (by with_reducible assumption) | exact cj6 (by with_reducible assumption) | exact cj7 (by with_reducible assumption) | exact cj8 (by with_reducible assumption) | exact cj9 (by with_reducible assumption) | exact cj10 (by with_reducible assumption) | exact cj11 (by with_reducible assumption) | exact cj12 (by with_reducible assumption) | exact cj13 (by with_reducible assumption) | exact cj14 (by with_reducible assumption) | exact cj15 (by with_reducible assumption) | exact cj16 (by with_reducible assumption) | exact cj17 (by with_reducible assumption) | exact cj18 (by with_reducible assumption) | exact cl2 (by with_reducible assumption) | exact cl3 (by with_reducible assumption) | exact cl4 (by with_reducible assumption) | exact cl5 (by with_reducible assumption) | exact cl6 (by with_reducible assumption) | exact cl7 (by with_reducible assumption) | exact cl8 (by with_reducible assumption) | exact cl9 (by with_reducible assumption)))
  k_with "zn ne_go" => (((try dsimp only); (show @Ne Nat _ _); first | exact nn1 _ | exact Ne.symm (nn1 _) | exact nn2 _ | exact Ne.symm (nn2 _) | exact nn3 _ | exact Ne.symm (nn3 _) | exact nn4 _ | exact Ne.symm (nn4 _) | exact nn5 _ | exact Ne.symm (nn5 _) | exact Ne.symm (by walk_at "zn cj_go") | exact Nat.ne_of_gt (by walk_at "zn cj_go") | exact (by walk_at "zn cj_go")))
  k_with "zn fa_go" => (repeat (first | refine fa_cons (by walk_at "zn ne_go") ?_ | exact fa_nil))
  k_with "zn upd_go" => (repeat' (first | (refine' UpdF.head ?_; walk_at "zn fa_go") | refine' UpdF.tail (by walk_at "zn ne_go") ?_))
  k_with "zn ct_close" => (((case k1 => k_asm); (case k2 => k_asm); (case k3 => k_asm); (case k4 => k_asm); (case k5 => k_asm); (case kK => exact rfl); (case kd => first | ktr_room | decide); (case ku => first | ktr_units | decide)))
  k_with "zn h0" => (k_here; k_dflt (refine LCg.CompSrc.range (by rfl) (by k_asm) (by k_asm) (by assumption) (by first | decide | rfl) (by first | rfl | decide) (by first | size_fits | exact Nat.le_of_ble_eq_true rfl) ?_; intro _; lcg_lit))
  trivial
set_option maxRecDepth 100000
set_option maxHeartbeats 2000000
theorem fillK : PySem.Challenge.rw_zn0003_01 = PySem.Challenge.rw_zn0003_01 ∧ hd.heap_39 = hd.heap_39 := by
  k_fill
  w_top off
  exact ⟨rfl, rfl⟩

theorem ties_ct (prog : Program) (w : World) (n : Int) (tk : Tok) (hne : 5 - (1 + n.fmod 2) - (1 + (n.fdiv 2).fmod 2) ≠ 0) : Ct prog w 57 3 [.int n tk] (fun _ => True)
    (fun h h' r => ∃ D t1 t2 t3 k, r = .ref D ∧ Fresh h h' [(D, W.listOf #[.int (1 + n.fmod 2) t1, .int (1 + (n.fdiv 2).fmod 2) t2, .int ((n.fdiv 4).fmod (5 - (1 + n.fmod 2) - (1 + (n.fdiv 2).fmod 2))) t3] k)]) := by
  intro p loose mean mg mb dp un gd cn cs ca ccd cl outer A₀ base h₀ L m s Q E B F X T hk hdp hun hpre hret
  refine wpAny_call ?_
  k_dflt (walk_at "zn enterS")
  k_steps
  rename Fr _ _ _ _ => F5
  rename News _ _ _ _ => N5
  exact hret _ _ _ F5.keep ⟨_, _, _, _, _, rfl, fun p hp => ⟨(N5 p hp).1, (N5 p hp).2.2⟩⟩
end

section
set_option maxRecDepth 100000
/-- the game over three counts -/
def vecAdd (u v : Int × Int × Int) : Int × Int × Int := (u.1 + v.1, u.2.1 + v.2.1, u.2.2 + v.2.2)
def lost3 (m0 m1 m2 : Int × Int × Int) : Nat → Int × Int × Int → Nat → Option Bool
  | 0, _, _ => none
  | f + 1, u, mk =>
    if u.1 < 0 then (if mk = 7 then some true else lost3 m0 m1 m2 f (vecAdd u m0) (mk ||| 1))
    else if u.2.1 < 0 then (if mk = 7 then some true else lost3 m0 m1 m2 f (vecAdd u m1) (mk ||| 2))
    else if u.2.2 < 0 then (if mk = 7 then some true else lost3 m0 m1 m2 f (vecAdd u m2) (mk ||| 4))
    else some false
def val3 (x y z : Str) (l : Bk) : Int × Int × Int := (getZ l x, getZ l y, getZ l z)
theorem getZ_put (l : Bk) (k n : Str) (v : Int) : getZ (put l k v) n = if n = k then v else getZ l n := by
  unfold getZ put look
  split
  · rename_i h
    induction l with
    | nil => simp at h
    | cons p r ih =>
      obtain ⟨a, b⟩ := p
      by_cases ha : a = k
      · subst ha
        by_cases hn : n = a
        · subst hn; simp
        · simp only [List.map_cons, if_true, List.find?_cons, hn, if_false]
          rw [show decide (a = n) = false from decide_eq_false (Ne.symm hn)]
          by_cases hr : r.any (fun p => decide (p.1 = a)) = true
          · have := ih hr; simpa [hn] using this
          · have e : r.map (fun p => if p.1 = a then (p.1, v) else p) = r := by
              have : ∀ p ∈ r, (if p.1 = a then (p.1, v) else p) = p := by
                intro p hp
                rw [if_neg]
                intro hpa
                exact hr (List.any_eq_true.mpr ⟨p, hp, by simp [hpa]⟩)
              exact (List.map_congr_left this).trans (List.map_id' r)
            rw [e]
      · have hr : r.any (fun p => decide (p.1 = k)) = true := by simpa [ha] using h
        have := ih hr
        simp only [List.map_cons, ha, if_false, List.find?_cons]
        by_cases hn : a = n
        · subst hn
          simp [ha]
        · rw [show decide (a = n) = false from decide_eq_false hn]
          simpa using this
  · rename_i h
    rw [List.find?_append]
    by_cases hn : n = k
    · subst hn
      have : l.find? (fun p => decide (p.1 = n)) = none := by
        rw [List.find?_eq_none]
        intro p hp hpn
        exact h (List.any_eq_true.mpr ⟨p, hp, hpn⟩)
      rw [this]; simp
    · rw [if_neg hn]
      have : ([(k, v)] : Bk).find? (fun p => decide (p.1 = n)) = none := by simp [Ne.symm hn]
      rw [this]
      cases l.find? (fun p => decide (p.1 = n)) <;> rfl
theorem getZ_addB (l m : Bk) (n : Str) (hm : (keysOf m).Nodup) : getZ (addB l m) n = getZ l n + getZ m n := by
  induction m generalizing l with
  | nil => simp [addB, getZ, look]
  | cons p r ih =>
    obtain ⟨k, v⟩ := p
    simp only [keysOf, List.map_cons, List.nodup_cons] at hm
    have e : addB l ((k, v) :: r) = addB (put l k (getZ l k + v)) r := rfl
    rw [e, ih _ hm.2, getZ_put]
    have e2 : getZ ((k, v) :: r) n = if n = k then v else getZ r n := by
      unfold getZ look
      simp only [List.find?_cons]
      by_cases hn : n = k
      · subst hn; simp
      · rw [show decide (k = n) = false from decide_eq_false (Ne.symm hn)]; simp [hn]
    rw [e2]
    by_cases hn : n = k
    · subst hn
      have : getZ r n = 0 := by
        unfold getZ look
        have : r.find? (fun p => decide (p.1 = n)) = none := by
          rw [List.find?_eq_none]
          intro p hp hpn
          exact hm.1 (List.mem_map.mpr ⟨p, hp, of_decide_eq_true hpn⟩)
        rw [this]; rfl
      rw [this]; simp
    · simp [hn]
theorem lost_lost3 (x y z : Str) (l0 l1 l2 : Bk) (h0 : (keysOf l0).Nodup) (h1 : (keysOf l1).Nodup) (h2 : (keysOf l2).Nodup) : ∀ (f : Nat) (l : Bk) (mk : Nat),
    lostF x y z l0 l1 l2 f l mk = lost3 (val3 x y z l0) (val3 x y z l1) (val3 x y z l2) f (val3 x y z l) mk
  | 0, _, _ => rfl
  | f + 1, l, mk => by
    have ad : ∀ m : Bk, (keysOf m).Nodup → val3 x y z (addB l m) = vecAdd (val3 x y z l) (val3 x y z m) := fun m hm => by
      simp only [val3, vecAdd, getZ_addB _ _ _ hm]
    simp only [lostF, lost3]
    rw [lost_lost3 x y z l0 l1 l2 h0 h1 h2 f, lost_lost3 x y z l0 l1 l2 h0 h1 h2 f, lost_lost3 x y z l0 l1 l2 h0 h1 h2 f, ad l0 h0, ad l1 h1, ad l2 h2]
    rfl
end

section
theorem wordsZn3Q1 : True := by
  k_with_none
  k_with "zn st" => ((case k1 => k_asm); (case k2 => k_asm); (case k3 => k_asm); (case k4 => k_asm); (case k5 => k_asm); (case kK => first | exact rfl | assumption); (case kd => ktr_room); (case ku => ktr_units))
  k_with "zn yst" => ((case y1 => k_asm); (case y2 => k_asm); (case y3 => k_asm); (case y4 => k_asm); (case y5 => k_asm); (case yK => exact rfl); (case yd => first | ktr_room | decide); (case yu => first | ktr_units | decide))
  k_with "zn tail7" => (rintro hh7 tk7 r7 ⟨dd7, oo7, rfl, lo7, S7, hf7⟩ hN7 hO7 F7 N7; (have N9 := hN7 _ hf7); (have O9 := hO7 _ (hf7 _ (.head _)).2); (simp only [LCg.Off1, and_true] at O9); (simp only [List.cons_append, List.nil_append] at N9); clear hN7 hO7 N7 hf7)
  k_with "zn enterS" => (refine' enterS ?k1 ?k2 ?k3 ?k5 ?kA ?kF ?kK ?k6 ?k7 ?k8 ?k9 ?kB ?_ ?c2 ?c3 ?c4 ?c5; (case kA => exact rfl); (case kF => exact rfl); (case kK => assumption); (case k1 => k_asm); (case k2 => k_asm); (case k3 => k_asm); (case k5 => k_asm); (case k6 => k_is); (case k7 => k_is); (case k8 => ktr_room); (case k9 => exact BindsTo.of_eq rfl); (case c5 => decide); (case kB => exact locs rfl); (case c2 => exact rfl); (case c3 => exact rfl); (case c4 => exact rfl); k_whole; intro _ _ _ _ _ _ _; (try dsimp only); (try walk_at "zn liftB"); (try k_fold))
  k_with "zn enterC" => (refine' enterC ?k1 ?k2 ?k3 ?k5 ?kA ?kF ?kK ?k6 ?k7 ?k8 ?k9 ?kB ?kD ?_ ?c2 ?c3 ?c4; (case kA => exact rfl); (case kF => exact rfl); (case kK => assumption); (case k1 => k_asm); (case k2 => k_asm); (case k3 => k_asm); (case k5 => k_asm); (case k6 => k_is); (case k7 => k_is); (case k8 => ktr_room); (case k9 => exact BindsTo.of_eq rfl); (case kB => exact rfl); (case kD => decide +kernel); (case c2 => exact rfl); (case c3 => exact rfl); (case c4 => exact rfl); k_whole; intro _ _ _ _ _ _ _ _ _ _; (try dsimp only); (try walk_at "zn liftB"); (try k_fold); walk_at "zn cellsY")
  k_with "zn k_sub" => ((intro p hp; repeat (first | exact hp | refine List.mem_cons_of_mem _ ?_)))
  k_with "zn sd_there" => (first | exact SD.keep (by assumption) (Fr.keep (by assumption)) | exact Held.sd (by assumption) (by assumption) (by assumption) (by walk_at "zn k_sub") | exact sd_news (by assumption) (by k_mem) (by assumption) (by assumption) (by assumption) | exact SDO.sd (by assumption) (by assumption) (News.get (by assumption) (by k_mem)))
  k_with "zn memg" => (first | exact List.Mem.head _ | (refine List.Mem.tail _ ?_; walk_at "zn memg"))
  k_with "zn li" => (((rename News _ _ _ _ => kN9); first | exact News.isList kN9 (by walk_at "zn memg") | is_list))
  k_with "zn cj_go" => ((first | exact And.left (by with_reducible assumption) | exact cj2 (by with_reducible assumption) | exact cj3 (by with_reducible assumption) | exact cj4 (by with_reducible assumption) | exact cj5 (by with_reducible assumption) | exact cj6 (by with_reducible assumption) | exact cj7 (by with_reducible assumption) | exact cj8 (by with_reducible assumption) | exact cj9 (by with_reducible assumption) | exact cj10 (by with_reducible assumption) | exact cj11 (by with_reducible assumption) | exact cj12 (by with_reducible assumption) | exact cj13 (by with_reducible assumption) | exact cj14 (by with_reducible assumption) | exact cj15 (by with_reducible assumption) | exact cj16 (by with_reducible assumption) | exact cj17 (by with_reducible assumption) | exact cj18 (by with_reducible assumption) | exact cl2 (by with_reducible assumption) | exact cl3 (by with_reducible assumption) | exact cl4 (by with_reducible assumption) | exact cl5 (by with_reducible assumption) | exact cl6 (by with_reducible assumption) | exact cl7 (by with_reducible assumption) | exact cl8 (by with_reducible assumption) | exact cl9 (by with_reducible assumption)))
  k_with "zn ne_go" => (((try dsimp only); (show @Ne Nat _ _); first | exact nn1 _ | exact Ne.symm (nn1 _) | exact nn2 _ | exact Ne.symm (nn2 _) | exact nn3 _ | exact Ne.symm (nn3 _) | exact nn4 _ | exact Ne.symm (nn4 _) | exact nn5 _ | exact Ne.symm (nn5 _) | exact Ne.symm (by walk_at "zn cj_go") | exact Nat.ne_of_gt (by walk_at "zn cj_go") | exact (by walk_at "zn cj_go")))
  k_with "zn fa_go" => (repeat (first | refine fa_cons (by walk_at "zn ne_go") ?_ | exact fa_nil))
  k_with "zn upd_go" => (repeat' (first | (refine' UpdF.head ?_; walk_at "zn fa_go") | refine' UpdF.tail (by walk_at "zn ne_go") ?_))
  k_with "zn ct_close" => (((case k1 => k_asm); (case k2 => k_asm); (case k3 => k_asm); (case k4 => k_asm); (case k5 => k_asm); (case kK => exact rfl); (case kd => first | ktr_room | decide); (case ku => first | ktr_units | decide)))
  k_with "zn h0" => (k_here; k_dflt (refine LCg.CompSrc.range (by rfl) (by k_asm) (by k_asm) (by assumption) (by first | decide | rfl) (by first | rfl | decide) (by first | size_fits | exact Nat.le_of_ble_eq_true rfl) ?_; intro _; lcg_lit))
  trivial
set_option maxRecDepth 100000
set_option maxHeartbeats 2000000
theorem fillN : PySem.Challenge.rw_zn0003_01 = PySem.Challenge.rw_zn0003_01 ∧ hd.heap_39 = hd.heap_39 := by
  k_fill
  w_top off
  exact ⟨rfl, rfl⟩
section
variable {prog : Program} {w : World} {A : Around} {E : Value → Shared → Prop} {s : Shared} {env : Env} {h₀ : Heap} {body : List Stmt} {Q : Flow → Shared → Prop}
theorem loopEnum {xk xv : Str} {pk pv pt : Pos} {x1 : Nat} {l : Addr} {vs : List Value} {m₀ : Str → Option Value} {news : List (Addr × Obj)} (hh : A.handled = none) (hxk : env.kindOf xk = some .local) (hxv : env.kindOf xv = some .local)
    (hp : (env.scope.kind == .class || (env.scope.kind == .module && env.locals != env.globals)) = false)
    (F : Fr h₀ env.locals s.heap m₀) (N : News h₀ env.locals s.heap news) (hl : s.heap.IsList l vs.toArray) (hlL : l ≠ env.locals)
    (J : Nat → (Str → Option Value) → List (Addr × Obj) → Prop) (h0 : J 0 m₀ news)
    (step : ∀ (i : Nat) (x : Value) (t : Tok) (m₁ : Str → Option Value) (news₁ : List (Addr × Obj)) (h₁ : Heap) (tks : Nat) (own : List (Addr × Obj)), vs[i]? = some x → J i m₁ news₁ → (∀ p ∈ own, p.1 = l ∨ ∀ q ∈ news₁, q.1 ≠ p.1) →
      Fr h₀ env.locals h₁ (fun y => if y = xv then some x else if y = xk then some (.int (i : Nat) t) else m₁ y) → News h₀ env.locals h₁ (own ++ news₁) →
      wpAny (model prog w) A (execs body env) (EndZ h₀ env.locals own (news₁.map (·.1)) (J (i + 1)) Q { s with heap := h₁, toks := tks }) E { s with heap := h₁, toks := tks })
    (done : ∀ (h' : Heap) (tk : Nat) (m' : Str → Option Value) (news' : List (Addr × Obj)), Fr h₀ env.locals h' m' → News h₀ env.locals h' news' → J vs.length m' news' → Q .next { s with heap := h', toks := tk }) :
    wpAny (model prog w) A (call (.type "enumerate") [.ref l]) (fun xv' s₁ => wpAny (model prog w) A (pyIter xv') (fun it s₂ => TurnsAt prog w A h₀ env (.Tuple [.Name xk pk, .Name xv pv] x1 pt) body Q E it s₂) E s₁) E s := by
  have hlt : l < s.heap.objs.size := by obtain ⟨o, e, _⟩ := hl; exact Heap.lt_size e
  have hLs : env.locals < s.heap.objs.size := F.ns.lt
  refine call_enumerate_list hl fun h' hE hI hsz hk => ?_
  refine wpAny_pyIter_enum hE ?_
  refine ⟨_, _, _, _, _, _, _, m₀, news, J, rfl, KTurns.ofWalksU (WalksT.enumerate hh (s.heap.objs.size + 1) s.heap.objs.size l (Nat.succ_ne_self _) (Nat.ne_of_lt (Nat.lt_succ_of_lt hlt)) (Nat.ne_of_lt hlt) vs.toArray).toU, ?_, ?_, ?_, ⟨⟨.none, hE⟩, hI, hl.at fun o e => hk l o e⟩, F.keeps hk, N.grown hk, h0, ?_, ?_⟩
  · intro hI'
    have hb' : env.locals = s.heap.objs.size + 1 ∨ env.locals = s.heap.objs.size ∨ env.locals = l := by simpa using hI'
    rcases hb' with e | e | e
    · exact Nat.ne_of_lt (Nat.lt_succ_of_lt hLs) e
    · exact Nat.ne_of_lt hLs e
    · exact hlL e.symm
  · intro b hb
    have hb' : b = s.heap.objs.size + 1 ∨ b = s.heap.objs.size := by simpa using hb
    rcases hb' with rfl | rfl
    · exact ktu_new F (Nat.le_add_right _ _)
    · exact ktu_new F (Nat.le_refl _)
  · intro p hp hI'
    have hb' : p.1 = s.heap.objs.size + 1 ∨ p.1 = s.heap.objs.size := by simpa using hI'
    have hlp := Heap.lt_size (N p hp).1
    rcases hb' with e | e
    · exact Nat.ne_of_lt (Nat.lt_succ_of_lt hlp) e
    · exact Nat.ne_of_lt hlp e
  · rintro i v m₁ news₁ h₁ tk₁ own hi ⟨Tu, vals, rfl, ⟨t, x, hx, rfl⟩, hT⟩ hJ hoff hown _ _ _ F₁ N₁
    have hsep : ∀ p ∈ own, p.1 = l ∨ ∀ q ∈ news₁, q.1 ≠ p.1 := by
      intro p hp
      have hb' : p.1 = s.heap.objs.size + 1 ∨ p.1 = s.heap.objs.size ∨ p.1 = l := by simpa using hown p hp
      rcases hb' with e | e | e
      · exact .inr fun q hq e' => hoff q hq (by rw [e', e]; simp)
      · exact .inr fun q hq e' => hoff q hq (by rw [e', e]; simp)
      · exact .inl e
    refine wpAny_assign_Tuple (s := { s with heap := h₁, toks := tk₁ }) hh hT rfl rfl fun h₃ hx₃ => ?_
    have up₃ : ∀ b o, h₁.get? b = some o → h₃.get? b = some o := fun b o x => hx₃ b o (Nat.ne_of_lt (Heap.lt_size x)) x
    have F₃ : Fr h₀ env.locals h₃ m₁ := F₁.keeps up₃
    have N₃ : News h₀ env.locals h₃ (own ++ news₁) := N₁.grown up₃
    show wpAny _ _ (do holding [x] (assign (.Name xk pk) env (.int (i : Nat) t)); do holding [] (assign (.Name xv pv) env x); pure ()) _ _ _
    refine wpAny_bind (wpAny_holding (wpAny_assign_Name (wpAny_storeName_local hxk F₃.ns (fun h₄ hn₄ hs₄ => ?_) hp)))
    have F₄ := F₃.set hn₄ hs₄
    refine wpAny_bind (wpAny_holding (wpAny_assign_Name (wpAny_storeName_local hxv F₄.ns (fun h₅ hn₅ hs₅ => wpAny_pure ?_) hp)))
    have F₅ := F₄.set hn₅ hs₅
    have N₅ : News h₀ env.locals h₅ (own ++ news₁) := (N₃.set hs₄).set hs₅
    refine wpAny_mono (step i x t m₁ news₁ h₅ _ own (by simpa using hx) hJ hsep F₅ N₅) (fun f s₂ he => ?_) fun _ _ e => e
    have he' : EndZ h₀ env.locals own (news₁.map (·.1)) (J (i + 1)) Q { s with heap := h₁, toks := tk₁ } f s₂ := he
    exact he'.v hoff
  · intro h'' tk m' news' F' N' _ hJ
    exact done h'' tk m' news' F' N' (by simpa using hJ)
end

theorem wordsZn3Q2 : True := by
  k_with "call type:enumerate" => (refine hold ?_)
  k_with "exec For" => (refine hold ?_)
  k_with "exec For Tuple Call" => (refine hold ?_)
  trivial
theorem ints_at {vs : List Value} {ns : List Int} (h : IntsAre vs ns) : ∀ (i : Nat) (x : Value), vs[i]? = some x → ∃ n t, x = .int n t := by
  induction h with
  | nil => intro i x h; simp at h
  | cons n t _ ih =>
    intro i x h
    cases i with
    | zero => simp at h; exact ⟨n, t, h.symm⟩
    | succ i => exact ih i x (by simpa using h)
def FM5 (a b q : Int) : Prop := a.fmod b = q
theorem mod_lit {prog : Program} {w : World} {A : Around} {E : Value → Shared → Prop} {s : Shared} {Q : Value → Shared → Prop} {a b : Int} {t u : Tok} (hb : 0 < b) (h : ∀ q, 0 ≤ q → q < b → Q (.int q s.toks) { s with toks := s.toks + 1 }) : wpAny (model prog w) A (binaryOp .Mod (.int a t) (.int b u)) Q E s :=
  mod_int (by omega) (h _ (Int.fmod_nonneg_of_pos a hb) (Int.fmod_lt_of_pos a hb))
theorem wordsZn3Q3 : True := by
  k_with "binaryOp Mod int int" => (refine hold ?_)
  trivial
def small5 (v : Array Value) : Prop := ∃ d0 d1 d2 d3 d4 t0 t1 t2 t3 t4, v = #[.int d0 t0, .int d1 t1, .int d2 t2, .int d3 t3, .int d4 t4] ∧ 0 ≤ d0 ∧ 0 ≤ d1 ∧ 0 ≤ d2 ∧ 0 ≤ d3 ∧ 0 ≤ d4
theorem draw_end {h₀ h : Heap} {L l5 : Addr} {m : Str → Option Value} {own : List (Addr × Obj)} {v' : Array Value} {k tk : Nat} {Q : Flow → Shared → Prop} {s₁ : Shared} (F : Fr h₀ L h m) (N : News h₀ L h ((l5, W.listOf v' k) :: own)) (hv : small5 v') (hm : m (Str.ofString "draw") = some (.ref l5)) :
    EndZ h₀ L own [l5] (fun m' rest => ∃ v k, rest = [(l5, W.listOf v k)] ∧ small5 v ∧ m' (Str.ofString "draw") = some (.ref l5)) Q s₁ .next { s₁ with heap := h, toks := tk } :=
  ⟨_, _, _, [(l5, W.listOf v' k)], rfl, F, fun p hp => N p (by simpa [or_comm] using hp), rfl, _, _, rfl, hv, hm⟩
theorem draw_ct (prog : Program) (w : World) (sc : Addr) (vs : List Value) (ns : List Int) (hi : IntsAre vs ns) (hn : ns.length ≤ 63) : Ct prog w 50 3 [.ref sc] (fun h => h.IsList sc vs.toArray)
    (fun h h' r => ∃ D v k, r = .ref D ∧ small5 v ∧ Fresh h h' [(D, W.listOf v k)]) := by
  intro p loose mean mg mb dp un gd cn cs ca ccd cl outer A₀ base h₀ L m s Q E B F X T hk hdp hun hpre hret
  refine wpAny_call ?_
  k_dflt (walk_at "zn enterS")
  k_steps
  unfold Hold
  rename Fr _ _ _ _ => F5
  rename News _ _ _ _ => N5
  refine For_turns F5 ?_
  k_steps
  unfold Hold
  rename Fr _ _ _ _ => F6
  rename News _ _ _ _ => N6
  rename_i l5 _ _ _ D5 ws5 _ hI5 _ _ l56
  refine loopEnum (vs := ws5) (news := [(l5, W.listOf #[.int 5 _, .int 2 _, .int 0 _, .int 5 _, .int 0 _] 0)]) (by rfl) (by rfl) (by rfl) (by rfl) F6 (fun p hp => N6 p (.tail _ hp)) (News.isList N6 (.head _)) (N6 _ (.head _)).2.1 (fun i m' rest => ∃ v k, rest = [(l5, W.listOf v k)] ∧ small5 v ∧ m' (Str.ofString "draw") = some (.ref l5)) ?_ ?_ ?_
  · exact ⟨_, _, rfl, ⟨_, _, _, _, _, _, _, _, _, _, rfl, by decide, by decide, by decide, by decide, by decide⟩, rfl⟩
  · rintro i x t m1 rest h tks own hx ⟨v, kk, rfl, ⟨d0, d1, d2, d3, d4, v0, v1, v2, v3, v4, rfl, hd0, hd1, hd2, hd3, hd4⟩, hm1⟩ hown F7 N7
    obtain ⟨num, tn, rfl⟩ := ints_at hI5 i x hx
    have F8 := see F7 (x := Str.ofString "draw") hm1
    clear F7 F6 N6
    have hap : ∀ p ∈ own, p.1 ≠ l5 := fun p hp e => by
      rcases hown p hp with h1 | h1
      · exact absurd (e.symm.trans h1) (Nat.ne_of_lt l56)
      · exact h1 (l5, _) (.head _) e.symm
    have N8 : News s.heap _ h ((l5, W.listOf #[.int d0 v0, .int d1 v1, .int d2 v2, .int d3 v3, .int d4 v4] kk) :: own) := fun p hp => N7 p (by simpa [or_comm] using hp)
    clear N7
    k_steps
    unfold Hold
    refine mod_lit (by decide) ?_
    intro q hq0 hq1
    rcases (show q = 0 ∨ q = 1 ∨ q = 2 ∨ q = 3 ∨ q = 4 by omega) with rfl | rfl | rfl | rfl | rfl
    all_goals
      k_steps
      unfold Hold
      refine mod_lit (by decide) ?_
      intro q2 hq2 hq3
      k_steps
      refine ki_set F8 N8 (by decide) (by decide) rfl (.head hap) ?_
      intro h9 F9 N9
      k_steps
      rename Fr _ _ _ _ => F10
      rename News _ _ _ _ => N10
      refine draw_end F10 N10 ⟨_, _, _, _, _, _, _, _, _, _, rfl, ?_, ?_, ?_, ?_, ?_⟩ rfl
      all_goals first | assumption | exact Int.add_nonneg hd0 hq2 | exact Int.add_nonneg hd1 hq2 | exact Int.add_nonneg hd2 hq2 | exact Int.add_nonneg hd3 hq2 | exact Int.add_nonneg hd4 hq2
  · rintro h' tk m' rest F7 N7 ⟨v, kk, rfl, hv, hm1⟩
    have F8 := see F7 (x := Str.ofString "draw") hm1
    clear F7 F6 N6
    k_steps
    exact hret _ _ _ F8.keep ⟨l5, v, kk, rfl, hv, fun p hp => ⟨(N7 p hp).1, (N7 p hp).2.2⟩⟩
end

section
set_option maxRecDepth 100000
def lost4 (a b c : Int) (f : Nat) (u : Int × Int × Int) (t : Int × Int × Int) : Option Bool :=
  lost3 (a + c, -a, -c) (-a, b + a, -b) (-c, -b, c + b) f (vecAdd u (-t.1, -t.2.1, -t.2.2)) 0
def checkV (f n : Nat) (a b c : Int) (u r : Int × Int × Int) : Bool :=
  match worthL (restP r.1 r.2.1 r.2.2 a b c) n 0, worthL (lost4 a b c f u) n 0 with
  | some v, some v' => v' == v + (u.1 + u.2.1 + u.2.2) + 3 - (a + b + c)
  | _, _ => false
def checkA (f n : Nat) (a b c one two deg : Int) : Bool :=
  checkV f n a b c (one, two, deg - one - two) (a + c - 2 - one, b + a - 2 - two, c + b - 2 - (deg - one - two)) &&
  checkV f n a b c (a + c - 2 - one, b + a - 2 - two, c + b - 2 - (deg - one - two)) (one, two, deg - one - two)
def checkO (f n : Nat) (a b c o : Nat) : Bool :=
  (List.range 6).all fun t => (List.range (a + b + c)).all fun d => checkA f n a b c ((o : Int) - 2) ((t : Int) - 2) (d : Int)
theorem chk110o0 : checkO 24 12 1 1 0 0 = true := by decide +kernel
theorem chk110o1 : checkO 24 12 1 1 0 1 = true := by decide +kernel
theorem chk110o2 : checkO 24 12 1 1 0 2 = true := by decide +kernel
theorem chk110o3 : checkO 24 12 1 1 0 3 = true := by decide +kernel
theorem chk110o4 : checkO 24 12 1 1 0 4 = true := by decide +kernel
theorem chk110o5 : checkO 24 12 1 1 0 5 = true := by decide +kernel
theorem chk110 : ∀ o : Nat, o < 6 → checkO 24 12 1 1 0 o = true
  | 0, _ => chk110o0
  | 1, _ => chk110o1
  | 2, _ => chk110o2
  | 3, _ => chk110o3
  | 4, _ => chk110o4
  | 5, _ => chk110o5
  | _ + 6, h => absurd h (by omega)
theorem chk111o0 : checkO 24 12 1 1 1 0 = true := by decide +kernel
theorem chk111o1 : checkO 24 12 1 1 1 1 = true := by decide +kernel
theorem chk111o2 : checkO 24 12 1 1 1 2 = true := by decide +kernel
theorem chk111o3 : checkO 24 12 1 1 1 3 = true := by decide +kernel
theorem chk111o4 : checkO 24 12 1 1 1 4 = true := by decide +kernel
theorem chk111o5 : checkO 24 12 1 1 1 5 = true := by decide +kernel
theorem chk111 : ∀ o : Nat, o < 6 → checkO 24 12 1 1 1 o = true
  | 0, _ => chk111o0
  | 1, _ => chk111o1
  | 2, _ => chk111o2
  | 3, _ => chk111o3
  | 4, _ => chk111o4
  | 5, _ => chk111o5
  | _ + 6, h => absurd h (by omega)
theorem chk112o0 : checkO 24 12 1 1 2 0 = true := by decide +kernel
theorem chk112o1 : checkO 24 12 1 1 2 1 = true := by decide +kernel
theorem chk112o2 : checkO 24 12 1 1 2 2 = true := by decide +kernel
theorem chk112o3 : checkO 24 12 1 1 2 3 = true := by decide +kernel
theorem chk112o4 : checkO 24 12 1 1 2 4 = true := by decide +kernel
theorem chk112o5 : checkO 24 12 1 1 2 5 = true := by decide +kernel
theorem chk112 : ∀ o : Nat, o < 6 → checkO 24 12 1 1 2 o = true
  | 0, _ => chk112o0
  | 1, _ => chk112o1
  | 2, _ => chk112o2
  | 3, _ => chk112o3
  | 4, _ => chk112o4
  | 5, _ => chk112o5
  | _ + 6, h => absurd h (by omega)
theorem chk120o0 : checkO 24 12 1 2 0 0 = true := by decide +kernel
theorem chk120o1 : checkO 24 12 1 2 0 1 = true := by decide +kernel
theorem chk120o2 : checkO 24 12 1 2 0 2 = true := by decide +kernel
theorem chk120o3 : checkO 24 12 1 2 0 3 = true := by decide +kernel
theorem chk120o4 : checkO 24 12 1 2 0 4 = true := by decide +kernel
theorem chk120o5 : checkO 24 12 1 2 0 5 = true := by decide +kernel
theorem chk120 : ∀ o : Nat, o < 6 → checkO 24 12 1 2 0 o = true
  | 0, _ => chk120o0
  | 1, _ => chk120o1
  | 2, _ => chk120o2
  | 3, _ => chk120o3
  | 4, _ => chk120o4
  | 5, _ => chk120o5
  | _ + 6, h => absurd h (by omega)
theorem chk121o0 : checkO 24 12 1 2 1 0 = true := by decide +kernel
theorem chk121o1 : checkO 24 12 1 2 1 1 = true := by decide +kernel
theorem chk121o2 : checkO 24 12 1 2 1 2 = true := by decide +kernel
theorem chk121o3 : checkO 24 12 1 2 1 3 = true := by decide +kernel
theorem chk121o4 : checkO 24 12 1 2 1 4 = true := by decide +kernel
theorem chk121o5 : checkO 24 12 1 2 1 5 = true := by decide +kernel
theorem chk121 : ∀ o : Nat, o < 6 → checkO 24 12 1 2 1 o = true
  | 0, _ => chk121o0
  | 1, _ => chk121o1
  | 2, _ => chk121o2
  | 3, _ => chk121o3
  | 4, _ => chk121o4
  | 5, _ => chk121o5
  | _ + 6, h => absurd h (by omega)
theorem chk210o0 : checkO 24 12 2 1 0 0 = true := by decide +kernel
theorem chk210o1 : checkO 24 12 2 1 0 1 = true := by decide +kernel
theorem chk210o2 : checkO 24 12 2 1 0 2 = true := by decide +kernel
theorem chk210o3 : checkO 24 12 2 1 0 3 = true := by decide +kernel
theorem chk210o4 : checkO 24 12 2 1 0 4 = true := by decide +kernel
theorem chk210o5 : checkO 24 12 2 1 0 5 = true := by decide +kernel
theorem chk210 : ∀ o : Nat, o < 6 → checkO 24 12 2 1 0 o = true
  | 0, _ => chk210o0
  | 1, _ => chk210o1
  | 2, _ => chk210o2
  | 3, _ => chk210o3
  | 4, _ => chk210o4
  | 5, _ => chk210o5
  | _ + 6, h => absurd h (by omega)
theorem chk211o0 : checkO 24 12 2 1 1 0 = true := by decide +kernel
theorem chk211o1 : checkO 24 12 2 1 1 1 = true := by decide +kernel
theorem chk211o2 : checkO 24 12 2 1 1 2 = true := by decide +kernel
theorem chk211o3 : checkO 24 12 2 1 1 3 = true := by decide +kernel
theorem chk211o4 : checkO 24 12 2 1 1 4 = true := by decide +kernel
theorem chk211o5 : checkO 24 12 2 1 1 5 = true := by decide +kernel
theorem chk211 : ∀ o : Nat, o < 6 → checkO 24 12 2 1 1 o = true
  | 0, _ => chk211o0
  | 1, _ => chk211o1
  | 2, _ => chk211o2
  | 3, _ => chk211o3
  | 4, _ => chk211o4
  | 5, _ => chk211o5
  | _ + 6, h => absurd h (by omega)
theorem chk220o0 : checkO 24 12 2 2 0 0 = true := by decide +kernel
theorem chk220o1 : checkO 24 12 2 2 0 1 = true := by decide +kernel
theorem chk220o2 : checkO 24 12 2 2 0 2 = true := by decide +kernel
theorem chk220o3 : checkO 24 12 2 2 0 3 = true := by decide +kernel
theorem chk220o4 : checkO 24 12 2 2 0 4 = true := by decide +kernel
theorem chk220o5 : checkO 24 12 2 2 0 5 = true := by decide +kernel
theorem chk220 : ∀ o : Nat, o < 6 → checkO 24 12 2 2 0 o = true
  | 0, _ => chk220o0
  | 1, _ => chk220o1
  | 2, _ => chk220o2
  | 3, _ => chk220o3
  | 4, _ => chk220o4
  | 5, _ => chk220o5
  | _ + 6, h => absurd h (by omega)
theorem two_of {a : Int} (h0 : 1 ≤ a) (h1 : a ≤ 2) : a = 1 ∨ a = 2 := by omega
theorem three_of {a : Int} (h0 : 0 ≤ a) (h1 : a ≤ 2) : a = 0 ∨ a = 1 ∨ a = 2 := by omega
theorem chkAll {a b c : Int} (ha0 : 1 ≤ a) (ha1 : a ≤ 2) (hb0 : 1 ≤ b) (hb1 : b ≤ 2) (hc0 : 0 ≤ c) (hc1 : c < 5 - a - b) (o : Nat) (ho : o < 6) : checkO 24 12 a.toNat b.toNat c.toNat o = true := by
  rcases two_of ha0 ha1 with rfl | rfl <;> rcases two_of hb0 hb1 with rfl | rfl <;> rcases three_of hc0 (by omega) with rfl | rfl | rfl
  · exact chk110 o ho
  · exact chk111 o ho
  · exact chk112 o ho
  · exact chk120 o ho
  · exact chk121 o ho
  · exact absurd hc1 (by decide)
  · exact chk210 o ho
  · exact chk211 o ho
  · exact absurd hc1 (by decide)
  · exact chk220 o ho
  · exact absurd hc1 (by decide)
  · exact absurd hc1 (by decide)
theorem chkOne {a b c one two deg : Int} (ha0 : 1 ≤ a) (ha1 : a ≤ 2) (hb0 : 1 ≤ b) (hb1 : b ≤ 2) (hc0 : 0 ≤ c) (hc1 : c < 5 - a - b) (h1 : 0 ≤ one) (h2 : one < 6) (h3 : 0 ≤ two) (h4 : two < 6) (h5 : 0 ≤ deg) (h6 : deg < a + b + c) : checkA 24 12 a b c (one - 2) (two - 2) deg = true := by
  have h := chkAll ha0 ha1 hb0 hb1 hc0 hc1 one.toNat (by omega)
  unfold checkO at h
  have e2 := List.all_eq_true.mp h two.toNat (List.mem_range.mpr (by omega))
  have e3 := List.all_eq_true.mp e2 deg.toNat (List.mem_range.mpr (by omega))
  have q : ∀ z : Int, 0 ≤ z → ((z.toNat : Nat) : Int) = z := fun z hz => by omega
  rw [q a (by omega), q b (by omega), q c (by omega), q one h1, q two h3, q deg h5] at e3
  exact e3
theorem checkV_some {f n : Nat} {a b c : Int} {u r : Int × Int × Int} (h : checkV f n a b c u r = true) : ∃ v, worthL (restP r.1 r.2.1 r.2.2 a b c) n 0 = some v ∧ worthL (lost4 a b c f u) n 0 = some (v + (u.1 + u.2.1 + u.2.2) + 3 - (a + b + c)) := by
  unfold checkV at h
  cases e1 : worthL (restP r.1 r.2.1 r.2.2 a b c) n 0 with
  | none => rw [e1] at h; cases h
  | some v =>
    cases e2 : worthL (lost4 a b c f u) n 0 with
    | none => rw [e1, e2] at h; cases h
    | some v' =>
      rw [e1, e2] at h
      exact ⟨v, rfl, congrArg some (eq_of_beq h)⟩
theorem anyLost_congr {p q : Int × Int × Int → Option Bool} (h : ∀ t, p t = q t) : ∀ l, anyLost p l = anyLost q l
  | [] => rfl
  | t :: r => by simp only [anyLost, h t, anyLost_congr h r]
theorem worthL_congr {p q : Int × Int × Int → Option Bool} (h : ∀ t, p t = q t) : ∀ n s, worthL p n s = worthL q n s
  | 0, _ => rfl
  | n + 1, s => by simp only [worthL, anyLost_congr h, worthL_congr h n]
/-- the loans of the law, and the three books -/
theorem val_filt {x y z : Str} (h1 : x ≠ y) (h2 : x ≠ z) (h3 : y ≠ z) (p q r : Int) : val3 x y z (filt [(x, p), (y, q), (z, r)]) = (p, q, r) := by
  have h1' := Ne.symm h1; have h2' := Ne.symm h2; have h3' := Ne.symm h3
  have e0 : ∀ n, getZ [] n = 0 := fun _ => rfl
  unfold filt val3
  by_cases hp : p = 0 <;> by_cases hq : q = 0 <;> by_cases hr : r = 0 <;> simp [List.foldl, hp, hq, hr, getZ_put, e0, h1, h2, h3, h1', h2', h3']
theorem nodup_put {l : Bk} {k : Str} {v : Int} (h : (keysOf l).Nodup) : (keysOf (put l k v)).Nodup := by
  by_cases hk : k ∈ keysOf l
  · have : keysOf (put l k v) = keysOf l := by
      unfold put
      have hb : l.any (fun p => decide (p.1 = k)) = true := by
        obtain ⟨p, hp, e⟩ := List.mem_map.mp hk
        exact List.any_eq_true.mpr ⟨p, hp, by simp [e]⟩
      rw [if_pos hb]
      unfold keysOf
      rw [List.map_map]
      refine List.map_congr_left fun p _ => ?_
      simp only [Function.comp]
      split <;> rfl
    rw [this]; exact h
  · rw [put_fresh v hk]
    unfold keysOf at h hk ⊢
    rw [List.map_append, List.nodup_append]
    refine ⟨h, by simp, ?_⟩
    intro p hp q hq e
    simp at hq
    subst hq; subst e
    exact hk hp
theorem nodup_filt (l : Bk) : (keysOf (filt l)).Nodup := by
  unfold filt
  have : ∀ (l a : Bk), (keysOf a).Nodup → (keysOf (l.foldl (fun a p => if p.2 = 0 then a else put a p.1 p.2) a)).Nodup := by
    intro l
    induction l with
    | nil => intro a h; exact h
    | cons p r ih =>
      intro a h
      rw [List.foldl_cons]
      refine ih _ ?_
      split
      · exact h
      · exact nodup_put h
  exact this l [] (by simp [keysOf])
end

section
set_option maxRecDepth 100000
/-- the k-th name from q on -/
@[irreducible] def nmOf (q k : Int) : Str := flagNames.getD (q + k).toNat ⟨#[]⟩
theorem use_ct {prog : Program} {w : World} {f : Addr} {room : Nat} {vs : List Value} {Pre : Heap → Prop} {Post : Heap → Heap → Value → Prop} (C : Ct prog w f room vs Pre Post) {p : Program} {loose : List Str} {mean : ExcName → Option Value} {mg mb : Str → Option Value} {dp un : Nat} {gd : Option (List Code)} {cn : Str} {cs : Scope} {ca : Addr} {ccd : Value} {cl : List (Str × Addr)} {outer : List Env}
  {A₀ : Around} {base h₀ : Heap} {L : Addr} {m : Str → Option Value} {s : Shared} {Q E : Value → Shared → Prop} {news : List (Addr × Obj)} (B : Below A₀ base outer h₀) (F : Fr h₀ L s.heap m) (X : (hd.heap_39 w.params).In h₀) (N : News h₀ L s.heap news) (T : Top p loose mean mg mb h₀) (hk : cs.kind = .function) (hdp : dp + room < recursionLimit) (hun : un + 8 * room < cLine)
    (pre : Pre s.heap) (ret : ∀ h' tk' r, Post s.heap h' r → (∀ tl, Fresh s.heap h' tl → News h₀ L h' (tl ++ news)) → (∀ b, s.heap.get? b = none → LCg.Off1 b news) → Fr h₀ L h' m → News h₀ L h' news → Q r { s with heap := h', toks := tk' }) :
    wpAny (model prog w) (ktrTop dp un gd cn cs L ca ccd cl outer) (call (.ref f) vs) Q E s :=
  C _ _ _ _ _ _ _ _ _ _ _ _ _ _ _ _ _ _ _ _ _ _ B F X T hk hdp hun pre fun h' tk r hs hp => ret h' tk r hp (fun tl ht => newsAdd F N hs ht) (fun b hb => apart_of N hb) (frOn F hs) (newsOn N hs)
theorem ties2_ct (prog : Program) (w : World) (n : Int) (tk : Tok) : Ct prog w 57 3 [.int n tk] (fun _ => True)
    (fun h h' r => ∃ D a b c t1 t2 t3 k, r = .ref D ∧ (1 ≤ a ∧ a ≤ 2 ∧ 1 ≤ b ∧ b ≤ 2 ∧ 0 ≤ c ∧ c < 5 - a - b) ∧ Fresh h h' [(D, W.listOf #[.int a t1, .int b t2, .int c t3] k)]) := by
  have e1 := Int.fmod_nonneg_of_pos n (show (0 : Int) < 2 by decide)
  have e2 := Int.fmod_lt_of_pos n (show (0 : Int) < 2 by decide)
  have e3 := Int.fmod_nonneg_of_pos (n.fdiv 2) (show (0 : Int) < 2 by decide)
  have e4 := Int.fmod_lt_of_pos (n.fdiv 2) (show (0 : Int) < 2 by decide)
  have hp : 0 < 5 - (1 + n.fmod 2) - (1 + (n.fdiv 2).fmod 2) := by omega
  intro p loose mean mg mb dp un gd cn cs ca ccd cl outer A₀ base h₀ L m s Q E B F X T hk hdp hun hpre hret
  refine ties_ct prog w n tk (by omega) _ _ _ _ _ _ _ _ _ _ _ _ _ _ _ _ _ _ _ _ _ _ B F X T hk hdp hun hpre ?_
  rintro h' tk' r hs ⟨D, t1, t2, t3, k, rfl, hf⟩
  exact hret h' tk' _ hs ⟨D, _, _, _, t1, t2, t3, k, rfl, ⟨by omega, by omega, by omega, by omega, Int.fmod_nonneg_of_pos _ hp, Int.fmod_lt_of_pos _ hp⟩, hf⟩
theorem flag_item {prog : Program} {w : World} {A : Around} {E : Value → Shared → Prop} {s : Shared} {Q : Value → Shared → Prop} {value slice : Expr} {h₀ : Heap} {L : Addr} {m : Str → Option Value} {q k : Int} {t : Tok} (X : (hd.heap_39 w.params).In h₀) (F : Fr h₀ L s.heap m) (h0 : 0 ≤ q) (h1 : q < 8) (h2 : 0 ≤ k) (h3 : k < 3) (h : ∀ t', Q (.str (nmOf q k) t') { s with toks := s.toks + 1 })
    (hs : subscripted slice false (.ref 22) (.int (1 * 2 ^ (q + k).toNat) t) = operate [.ref 22, .int (1 * 2 ^ (q + k).toNat) t] (getItem (.ref 22) (.int (1 * 2 ^ (q + k).toNat) t)) := by with_unfolding_all rfl) (hg : ∀ r, letTemporaryGo value (.ref 22) r = pure () := by intro _; with_unfolding_all rfl) :
    wpAny (model prog w) A (subscriptTail value slice (.ref 22) (.int (1 * 2 ^ (q + k).toNat) t)) Q E s := by
  have T := tab22 (prog := prog) (X.keeps F.keep)
  have hl := tab_look (q + k).toNat (by omega)
  have e : (1 : Int) * 2 ^ (q + k).toNat = ((2 ^ (q + k).toNat : Nat) : Int) := by rw [Int.one_mul]; norm_cast
  rw [← e] at hl
  refine item_intTab T hl (fun v hv => ?_) hs hg
  obtain ⟨t', rfl⟩ := Flat.str_inv hv
  have e2 : flagNames.getD (q + k).toNat ⟨#[]⟩ = nmOf q k := by unfold nmOf; rfl
  rw [e2]
  exact h t'
theorem compEnd1 {h₀ : Heap} {L I C D : Addr} {m : Str → Option Value} {s₁ : Shared} {oI oC oD : Obj} {rest : Value → List (Addr × Obj) → Prop} {y : Value} {h' : Heap} {tk : Nat} {news : List (Addr × Obj)} (F : Fr h₀ L h' m) (N : News h₀ L h' ((I, oI) :: (C, oC) :: (D, oD) :: news)) (off : LCg.Off3 I C D news) (r : rest y news) :
    LCg.CompEnd h₀ L m s₁ I oI C oC D oD (fun _ => True) rest y { s₁ with heap := h', toks := tk } := ⟨h', tk, news, rfl, F, N, off, trivial, r⟩
theorem compEnd2 {h₀ : Heap} {L I C D d : Addr} {m : Str → Option Value} {s₁ : Shared} {oI oC oD o : Obj} {rest : Value → List (Addr × Obj) → Prop} {y : Value} {h' : Heap} {tk : Nat} {news : List (Addr × Obj)} {P : Prop} (F : Fr h₀ L h' m) (N : News h₀ L h' ((d, o) :: (I, oI) :: (C, oC) :: (D, oD) :: news)) (ne : I ≠ d ∧ C ≠ d ∧ D ≠ d ∧ P) (off : LCg.Off3 I C D news) (r : rest y ((d, o) :: news)) :
    LCg.CompEnd h₀ L m s₁ I oI C oC D oD (fun _ => True) rest y { s₁ with heap := h', toks := tk } := ⟨h', tk, (d, o) :: news, rfl, F, fun p hp => N p (by
      simp only [List.mem_cons] at hp ⊢
      rcases hp with h1 | h1 | h1 | h1 | h1
      · exact .inr (.inl h1)
      · exact .inr (.inr (.inl h1))
      · exact .inr (.inr (.inr (.inl h1)))
      · exact .inl h1
      · exact .inr (.inr (.inr (.inr h1)))), ⟨⟨Ne.symm ne.1, Ne.symm ne.2.1, Ne.symm ne.2.2.1⟩, off⟩, trivial, r⟩
theorem callersE0 (prog : Program) (w : World) (ti nm : Addr) (a b c kk : Int) (x y z : Str) (tk : Tok) (hkk : kk = 0) : Ct prog w 62 3 [.ref ti, .ref nm, .int kk tk]
    (fun h => (∃ t1 t2 t3, h.IsList ti #[.int a t1, .int b t2, .int c t3]) ∧ ∃ u1 u2 u3, h.IsList nm #[.str x u1, .str y u2, .str z u3])
    (fun h h' r => ∃ d o, r = .ref d ∧ (d == sysModules) = false ∧ SDO prog w o (filt [(y, a), (z, c)]) ∧ Fresh h h' [(d, o)]) := by
  intro p loose mean mg mb dp un gd cn cs ca ccd cl outer A₀ base h₀ L m s Q E B F X T hk hdp hun hpre hret
  obtain ⟨⟨t1, t2, t3, h1⟩, u1, u2, u3, h2⟩ := hpre
  exact callers0_ct prog w ti nm a b c kk x y z t1 t2 t3 u1 u2 u3 tk hkk _ _ _ _ _ _ _ _ _ _ _ _ _ _ _ _ _ _ _ _ _ _ B F X T hk hdp hun ⟨h1, h2⟩ hret
theorem callersE1 (prog : Program) (w : World) (ti nm : Addr) (a b c kk : Int) (x y z : Str) (tk : Tok) (hkk : kk = 1) : Ct prog w 62 3 [.ref ti, .ref nm, .int kk tk]
    (fun h => (∃ t1 t2 t3, h.IsList ti #[.int a t1, .int b t2, .int c t3]) ∧ ∃ u1 u2 u3, h.IsList nm #[.str x u1, .str y u2, .str z u3])
    (fun h h' r => ∃ d o, r = .ref d ∧ (d == sysModules) = false ∧ SDO prog w o (filt [(z, b), (x, a)]) ∧ Fresh h h' [(d, o)]) := by
  intro p loose mean mg mb dp un gd cn cs ca ccd cl outer A₀ base h₀ L m s Q E B F X T hk hdp hun hpre hret
  obtain ⟨⟨t1, t2, t3, h1⟩, u1, u2, u3, h2⟩ := hpre
  exact callers1_ct prog w ti nm a b c kk x y z t1 t2 t3 u1 u2 u3 tk hkk _ _ _ _ _ _ _ _ _ _ _ _ _ _ _ _ _ _ _ _ _ _ B F X T hk hdp hun ⟨h1, h2⟩ hret
theorem callersE2 (prog : Program) (w : World) (ti nm : Addr) (a b c kk : Int) (x y z : Str) (tk : Tok) (hkk : kk = 2) : Ct prog w 62 3 [.ref ti, .ref nm, .int kk tk]
    (fun h => (∃ t1 t2 t3, h.IsList ti #[.int a t1, .int b t2, .int c t3]) ∧ ∃ u1 u2 u3, h.IsList nm #[.str x u1, .str y u2, .str z u3])
    (fun h h' r => ∃ d o, r = .ref d ∧ (d == sysModules) = false ∧ SDO prog w o (filt [(x, c), (y, b)]) ∧ Fresh h h' [(d, o)]) := by
  intro p loose mean mg mb dp un gd cn cs ca ccd cl outer A₀ base h₀ L m s Q E B F X T hk hdp hun hpre hret
  obtain ⟨⟨t1, t2, t3, h1⟩, u1, u2, u3, h2⟩ := hpre
  exact callers2_ct prog w ti nm a b c kk x y z t1 t2 t3 u1 u2 u3 tk hkk _ _ _ _ _ _ _ _ _ _ _ _ _ _ _ _ _ _ _ _ _ _ B F X T hk hdp hun ⟨h1, h2⟩ hret
theorem loanE0 (prog : Program) (w : World) (ca nm : Addr) (kk : Int) (l : Bk) (x y z : Str) (tk : Tok) (hkk : kk = 0) (hl : l.length ≤ 100) : Ct prog w 67 5 [.ref ca, .ref nm, .int kk tk]
    (fun h => (∃ u1 u2 u3, h.IsList nm #[.str x u1, .str y u2, .str z u3]) ∧ ∃ d0 d1 d2, h.IsList ca #[.ref d0, .ref d1, .ref d2] ∧ SD prog w h d0 l)
    (fun h h' r => ∃ d o, r = .ref d ∧ (d == sysModules) = false ∧ SDO prog w o (put (negB l) x (l.map (·.2)).sum) ∧ Fresh h h' [(d, o)]) := by
  intro p loose mean mg mb dp un gd cn cs ca' ccd cl outer A₀ base h₀ L m s Q E B F X T hk hdp hun hpre hret
  obtain ⟨⟨u1, u2, u3, h2⟩, d0, d1, d2, h1, h3⟩ := hpre
  exact loan0_ct prog w ca nm kk d0 d1 d2 l x y z u1 u2 u3 tk hkk hl _ _ _ _ _ _ _ _ _ _ _ _ _ _ _ _ _ _ _ _ _ _ B F X T hk hdp hun ⟨h1, h2, h3⟩ hret
theorem loanE1 (prog : Program) (w : World) (ca nm : Addr) (kk : Int) (l : Bk) (x y z : Str) (tk : Tok) (hkk : kk = 1) (hl : l.length ≤ 100) : Ct prog w 67 5 [.ref ca, .ref nm, .int kk tk]
    (fun h => (∃ u1 u2 u3, h.IsList nm #[.str x u1, .str y u2, .str z u3]) ∧ ∃ d0 d1 d2, h.IsList ca #[.ref d0, .ref d1, .ref d2] ∧ SD prog w h d1 l)
    (fun h h' r => ∃ d o, r = .ref d ∧ (d == sysModules) = false ∧ SDO prog w o (put (negB l) y (l.map (·.2)).sum) ∧ Fresh h h' [(d, o)]) := by
  intro p loose mean mg mb dp un gd cn cs ca' ccd cl outer A₀ base h₀ L m s Q E B F X T hk hdp hun hpre hret
  obtain ⟨⟨u1, u2, u3, h2⟩, d0, d1, d2, h1, h3⟩ := hpre
  exact loan1_ct prog w ca nm kk d0 d1 d2 l x y z u1 u2 u3 tk hkk hl _ _ _ _ _ _ _ _ _ _ _ _ _ _ _ _ _ _ _ _ _ _ B F X T hk hdp hun ⟨h1, h2, h3⟩ hret
theorem loanE2 (prog : Program) (w : World) (ca nm : Addr) (kk : Int) (l : Bk) (x y z : Str) (tk : Tok) (hkk : kk = 2) (hl : l.length ≤ 100) : Ct prog w 67 5 [.ref ca, .ref nm, .int kk tk]
    (fun h => (∃ u1 u2 u3, h.IsList nm #[.str x u1, .str y u2, .str z u3]) ∧ ∃ d0 d1 d2, h.IsList ca #[.ref d0, .ref d1, .ref d2] ∧ SD prog w h d2 l)
    (fun h h' r => ∃ d o, r = .ref d ∧ (d == sysModules) = false ∧ SDO prog w o (put (negB l) z (l.map (·.2)).sum) ∧ Fresh h h' [(d, o)]) := by
  intro p loose mean mg mb dp un gd cn cs ca' ccd cl outer A₀ base h₀ L m s Q E B F X T hk hdp hun hpre hret
  obtain ⟨⟨u1, u2, u3, h2⟩, d0, d1, d2, h1, h3⟩ := hpre
  exact loan2_ct prog w ca nm kk d0 d1 d2 l x y z u1 u2 u3 tk hkk hl _ _ _ _ _ _ _ _ _ _ _ _ _ _ _ _ _ _ _ _ _ _ B F X T hk hdp hun ⟨h1, h2, h3⟩ hret
end

section
set_option maxRecDepth 100000
/-- the names are three, and tell the game -/
theorem names_ne8 : ∀ q : Fin 8, flagNames.getD ((q.val : Int) + 0).toNat ⟨#[]⟩ ≠ flagNames.getD ((q.val : Int) + 1).toNat ⟨#[]⟩ ∧ flagNames.getD ((q.val : Int) + 0).toNat ⟨#[]⟩ ≠ flagNames.getD ((q.val : Int) + 2).toNat ⟨#[]⟩ ∧ flagNames.getD ((q.val : Int) + 1).toNat ⟨#[]⟩ ≠ flagNames.getD ((q.val : Int) + 2).toNat ⟨#[]⟩ ∧
    (flagNames.getD ((q.val : Int) + 0).toNat ⟨#[]⟩).length + (flagNames.getD ((q.val : Int) + 1).toNat ⟨#[]⟩).length + (flagNames.getD ((q.val : Int) + 2).toNat ⟨#[]⟩).length ≤ 300 := by decide +kernel
theorem game8 : ∀ (q mk : Fin 8), 0 < mk.val → (Txt.join (Str.ofString ", ") (pfLoop 10 0 ((mk.val * 2 ^ (q.val : Int).toNat : Nat) : Int) []) = Txt.join (Str.ofString ", ") [flagNames.getD ((q.val : Int) + 0).toNat ⟨#[]⟩, flagNames.getD ((q.val : Int) + 1).toNat ⟨#[]⟩, flagNames.getD ((q.val : Int) + 2).toNat ⟨#[]⟩] ↔ mk.val = 7) := by decide +kernel
theorem fin8 {q : Int} (h0 : 0 ≤ q) (h1 : q < 8) : ∃ k : Fin 8, q = (k.val : Int) := ⟨⟨q.toNat, by omega⟩, by show q = (q.toNat : Int); omega⟩
theorem names_ne {q : Int} (h0 : 0 ≤ q) (h1 : q < 8) : nmOf q 0 ≠ nmOf q 1 ∧ nmOf q 0 ≠ nmOf q 2 ∧ nmOf q 1 ≠ nmOf q 2 ∧ (nmOf q 0).length + (nmOf q 1).length + (nmOf q 2).length ≤ 300 := by
  obtain ⟨k, rfl⟩ := fin8 h0 h1
  unfold nmOf
  exact names_ne8 k
theorem game_ok {q : Int} (h0 : 0 ≤ q) (h1 : q < 8) {l0 l1 l2 : Bk} (e0 : l0.length ≤ 3) (e1 : l1.length ≤ 3) (e2 : l2.length ≤ 3) : GameOk q (nmOf q 0) (nmOf q 1) (nmOf q 2) l0 l1 l2 := by
  refine ⟨h0, h1, (names_ne h0 h1).2.2.2, e0, e1, e2, fun mk hm0 hm8 => ?_⟩
  obtain ⟨k, rfl⟩ := fin8 h0 h1
  unfold nmOf
  exact game8 k ⟨mk, hm8⟩ hm0
def sumB (l : Bk) : Int := (l.map (·.2)).sum
theorem sum_filt2 {x y : Str} (h : x ≠ y) (p q : Int) : sumB (filt [(x, p), (y, q)]) = p + q := by
  unfold sumB filt
  by_cases hp : p = 0 <;> by_cases hq : q = 0 <;> simp [List.foldl, hp, hq, put, h]
theorem sum_filt3 {x y z : Str} (h1 : x ≠ y) (h2 : x ≠ z) (h3 : y ≠ z) (p q r : Int) : sumB (filt [(x, p), (y, q), (z, r)]) = p + q + r := by
  unfold sumB filt
  by_cases hp : p = 0 <;> by_cases hq : q = 0 <;> by_cases hr : r = 0 <;> simp [List.foldl, hp, hq, hr, put, h1, h2, h3] <;> omega
/-- a loan -/
def loanB (c : Bk) (x : Str) : Bk := put (negB c) x (sumB c)
theorem getZ_neg (l : Bk) (n : Str) : getZ (negB l) n = - getZ l n := by
  unfold getZ look negB
  induction l with
  | nil => rfl
  | cons p r ih =>
    simp only [List.map_cons, List.find?_cons]
    cases decide (p.1 = n) <;> simp_all
theorem neg_length (l : Bk) : (negB l).length = l.length := by simp [negB]
theorem loan_length {c : Bk} (x : Str) (h : c.length ≤ 2) : (loanB c x).length ≤ 3 := by
  have := put_length (negB c) x (sumB c)
  rw [neg_length] at this
  unfold loanB; omega
theorem loan_nodup (l : Bk) (x : Str) : (keysOf (loanB (filt l) x)).Nodup := nodup_put (by rw [keys_neg]; exact nodup_filt l)
theorem getZ_filt2 {x y : Str} (h : x ≠ y) (p q : Int) (n : Str) : getZ (filt [(x, p), (y, q)]) n = if n = y then q else if n = x then p else 0 := by
  have h' := Ne.symm h
  have e0 : ∀ n, getZ [] n = 0 := fun _ => rfl
  unfold filt
  by_cases hp : p = 0 <;> by_cases hq : q = 0 <;> simp [List.foldl, hp, hq, getZ_put, e0]
  · intro e e'; exact absurd (e'.symm.trans e) h
theorem val_loan0 {x y z : Str} (h1 : x ≠ y) (h2 : x ≠ z) (h3 : y ≠ z) (a c : Int) : val3 x y z (loanB (filt [(y, a), (z, c)]) x) = (a + c, -a, -c) := by
  have h1' := Ne.symm h1; have h2' := Ne.symm h2; have h3' := Ne.symm h3
  unfold val3 loanB
  simp only [getZ_put, getZ_neg, getZ_filt2 h3, sum_filt2 h3]
  simp [h1, h2, h3, h1', h2', h3']
theorem val_loan1 {x y z : Str} (h1 : x ≠ y) (h2 : x ≠ z) (h3 : y ≠ z) (a b : Int) : val3 x y z (loanB (filt [(z, b), (x, a)]) y) = (-a, b + a, -b) := by
  have h1' := Ne.symm h1; have h2' := Ne.symm h2; have h3' := Ne.symm h3
  unfold val3 loanB
  simp only [getZ_put, getZ_neg, getZ_filt2 h2', sum_filt2 h2']
  simp [h1, h2, h3, h1', h2', h3']
theorem val_loan2 {x y z : Str} (h1 : x ≠ y) (h2 : x ≠ z) (h3 : y ≠ z) (c b : Int) : val3 x y z (loanB (filt [(x, c), (y, b)]) z) = (-c, -b, c + b) := by
  have h1' := Ne.symm h1; have h2' := Ne.symm h2; have h3' := Ne.symm h3
  unfold val3 loanB
  simp only [getZ_put, getZ_neg, getZ_filt2 h1, sum_filt2 h1]
  simp [h1, h2, h3, h1', h2', h3']
theorem lostS_lost4 {x y z : Str} (h1 : x ≠ y) (h2 : x ≠ z) (h3 : y ≠ z) (a b c : Int) (f : Nat) (l : Bk) (t : Int × Int × Int) :
    lostS x y z (loanB (filt [(y, a), (z, c)]) x) (loanB (filt [(z, b), (x, a)]) y) (loanB (filt [(x, c), (y, b)]) z) f l t = lost4 a b c f (val3 x y z l) t := by
  unfold lostS lost4
  rw [lost_lost3 x y z _ _ _ (loan_nodup _ _) (loan_nodup _ _) (loan_nodup _ _), val_loan0 h1 h2 h3, val_loan1 h1 h2 h3, val_loan2 h1 h2 h3]
  congr 1
  have e := nodup_filt [(x, -t.1), (y, -t.2.1), (z, -t.2.2)]
  have e2 := val_filt h1 h2 h3 (-t.1) (-t.2.1) (-t.2.2)
  unfold val3 at e2 ⊢
  simp only [getZ_addB _ _ _ e]
  simp only [Prod.mk.injEq] at e2
  rw [e2.1, e2.2.1, e2.2.2]
  rfl
/-- the two worths of one side -/
theorem worths {x y z : Str} (h1 : x ≠ y) (h2 : x ≠ z) (h3 : y ≠ z) {a b c : Int} {l : Bk} {u r : Int × Int × Int} (hu : val3 x y z l = u) (h : checkV 24 12 a b c u r = true) :
    ∃ v, worthL (restP r.1 r.2.1 r.2.2 a b c) 12 0 = some v ∧ worthL (lostS x y z (loanB (filt [(y, a), (z, c)]) x) (loanB (filt [(z, b), (x, a)]) y) (loanB (filt [(x, c), (y, b)]) z) 24 l) 12 0 = some (v + (u.1 + u.2.1 + u.2.2) + 3 - (a + b + c)) := by
  obtain ⟨v, e1, e2⟩ := checkV_some h
  refine ⟨v, e1, ?_⟩
  rw [← e2]
  refine worthL_congr (fun t => ?_) 12 0
  rw [lostS_lost4 h1 h2 h3, hu]
/-- puts of three names -/
def puts (l : Bk) : Bk := l.foldl (fun a p => put a p.1 p.2) []
theorem puts_step {l : Bk} {i : Nat} {k : Str} {c : Int} (h : l[i]? = some (k, c)) : puts (l.take (i + 1)) = put (puts (l.take i)) k c := by
  unfold puts
  rw [List.take_add_one, h, List.foldl_append]
  rfl
theorem puts3 {x y z : Str} (h1 : x ≠ y) (h2 : x ≠ z) (h3 : y ≠ z) (p q r : Int) : puts [(x, p), (y, q), (z, r)] = [(x, p), (y, q), (z, r)] := by
  simp [puts, List.foldl, put, h1, h2, h3]
theorem add3 {x y z : Str} (h1 : x ≠ y) (h2 : x ≠ z) (h3 : y ≠ z) (p q r p' q' r' : Int) : addB [(x, p), (y, q), (z, r)] [(x, p'), (y, q'), (z, r')] = [(x, p + p'), (y, q + q'), (z, r + r')] := by
  have h1' := Ne.symm h1; have h2' := Ne.symm h2; have h3' := Ne.symm h3
  simp [addB, List.foldl, put, getZ, look, h1, h2, h3, h1', h2', h3']
theorem val_3 {x y z : Str} (h1 : x ≠ y) (h2 : x ≠ z) (h3 : y ≠ z) (p q r : Int) : val3 x y z [(x, p), (y, q), (z, r)] = (p, q, r) := by
  have h1' := Ne.symm h1; have h2' := Ne.symm h2; have h3' := Ne.symm h3
  simp [val3, getZ, look, h1, h2, h3, h1', h2', h3']
theorem trees_ne {a b c : Int} (ha0 : 1 ≤ a) (hb0 : 1 ≤ b) (hc0 : 0 ≤ c) : a * b + b * c + c * a ≠ 0 := by
  have e1 : 0 < a * b := Int.mul_pos (by omega) (by omega)
  have e2 : 0 ≤ b * c := Int.mul_nonneg (by omega) hc0
  have e3 : 0 ≤ c * a := Int.mul_nonneg hc0 (by omega)
  omega
end

section
set_option maxRecDepth 100000
theorem cntE (prog : Program) (w : World) (d : Addr) (l : Bk) (S : Int) (hS : sumB l = S) : Ct prog w 43 2 [.ref d] (fun h => SD prog w h d l) (fun _ _ r => ∃ t, r = .int S t) := by
  subst hS
  exact count_calls_ct prog w d l
theorem addE (prog : Program) (w : World) (d e : Addr) (l l' m' : Bk) (hl : l.length ≤ 100) (hl' : l'.length ≤ 100) (hm : addB l l' = m') : Ct prog w 36 2 [.ref d, .ref e] (fun h => SD prog w h d l ∧ SD prog w h e l')
    (fun h h' r => ∃ b o, r = .ref b ∧ (b == sysModules) = false ∧ SDO prog w o m' ∧ Fresh h h' [(b, o)]) := by
  subst hm
  exact add_callers_ct prog w d e l l' hl hl'
theorem restsE (prog : Program) (w : World) (ro ti : Addr) (r0 r1 r2 a b c r : Int) (h1 : -80 ≤ r0 + r1 + r2) (h2 : r0 + r1 + r2 ≤ 12) (ha : 0 ≤ a ∧ a ≤ 4) (hb : 0 ≤ b ∧ b ≤ 4) (hc : 0 ≤ c ∧ c ≤ 4) (hr0 : -100 ≤ r0 ∧ r0 ≤ 100) (hr1 : -100 ≤ r1 ∧ r1 ≤ 100) (htr : a * b + b * c + c * a ≠ 0)
    (hf : Hid (worthL (restP r0 r1 r2 a b c) 12 0 = some r)) : Ct prog w 94 25 [.ref ro, .ref ti]
    (fun h => (∃ t0 t1 t2, h.IsList ro #[.int r0 t0, .int r1 t1, .int r2 t2]) ∧ ∃ t3 t4 t5, h.IsList ti #[.int a t3, .int b t4, .int c t5])
    (fun _ _ v => ∃ t, v = .int r t) := by
  intro p loose mean mg mb dp un gd cn cs ca' ccd cl outer A₀ base h₀ L m s Q E B F X T hk hdp hun hpre hret
  obtain ⟨⟨t0, t1, t2, h3⟩, t3, t4, t5, h4⟩ := hpre
  exact worth_rests_ct prog w ro ti r0 r1 r2 a b c t0 t1 t2 t3 t4 t5 r 12 h1 h2 ha hb hc hr0 hr1 htr (Nat.le_refl _) hf _ _ _ _ _ _ _ _ _ _ _ _ _ _ _ _ _ _ _ _ _ _ B F X T hk hdp hun ⟨h3, h4⟩ hret
theorem loansE (prog : Program) (w : World) (bk lo nm : Addr) (l l0 l1 l2 : Bk) (low : Int) (x y z : Str) (tk' : Tok) (r : Int) (G : GameOk low x y z l0 l1 l2) (hl : l.length ≤ 8) (hf : Hid (worthL (lostS x y z l0 l1 l2 24 l) 12 0 = some r)) : Ct prog w 82 25 [.ref bk, .ref lo, .ref nm, .int low tk']
    (fun h => (∃ d0 d1 d2, h.IsList lo #[.ref d0, .ref d1, .ref d2] ∧ SD prog w h d0 l0 ∧ SD prog w h d1 l1 ∧ SD prog w h d2 l2) ∧ (∃ u1 u2 u3, h.IsList nm #[.str x u1, .str y u2, .str z u3]) ∧ SD prog w h bk l)
    (fun _ _ v => ∃ t, v = .int r t) := by
  intro p loose mean mg mb dp un gd cn cs ca' ccd cl outer A₀ base h₀ L m s Q E B F X T hk hdp hun hpre hret
  obtain ⟨⟨d0, d1, d2, h1, h2, h3, h4⟩, ⟨u1, u2, u3, h5⟩, h6⟩ := hpre
  exact worth_loans_ct prog w bk lo nm d0 d1 d2 l l0 l1 l2 low x y z u1 u2 u3 tk' r 24 12 G (by omega) (Nat.le_refl _) (unhid hf) _ _ _ _ _ _ _ _ _ _ _ _ _ _ _ _ _ _ _ _ _ _ B F X T hk hdp hun ⟨h1, h5, h6, h2, h3, h4⟩ hret
/-- what the end asks of the two sides -/
theorem sides {x y z : Str} (h1 : x ≠ y) (h2 : x ≠ z) (h3 : y ≠ z) {a b c one two deg : Int} (ha0 : 1 ≤ a) (ha1 : a ≤ 2) (hb0 : 1 ≤ b) (hb1 : b ≤ 2) (hc0 : 0 ≤ c) (hc1 : c < 5 - a - b) (g1 : 0 ≤ one) (g2 : one < 6) (g3 : 0 ≤ two) (g4 : two < 6) (g5 : 0 ≤ deg) (g6 : deg < a + b + c)
    {r0 r1 r2 s0 s1 s2 : Int} (e0 : r0 = one - 2) (e1 : r1 = two - 2) (e2 : r2 = deg - r0 - r1) (e3 : s0 = a + c - 2 - r0) (e4 : s1 = b + a - 2 - r1) (e5 : s2 = c + b - 2 - r2) :
    (∃ v, Hid (worthL (restP s0 s1 s2 a b c) 12 0 = some v) ∧ Hid (worthL (lostS x y z (loanB (filt [(y, a), (z, c)]) x) (loanB (filt [(z, b), (x, a)]) y) (loanB (filt [(x, c), (y, b)]) z) 24 (filt [(x, r0), (y, r1), (z, r2)])) 12 0 = some (v + (r0 + r1 + r2) + 3 - (a + b + c)))) ∧
    (∃ v, Hid (worthL (restP r0 r1 r2 a b c) 12 0 = some v) ∧ Hid (worthL (lostS x y z (loanB (filt [(y, a), (z, c)]) x) (loanB (filt [(z, b), (x, a)]) y) (loanB (filt [(x, c), (y, b)]) z) 24 [(x, s0), (y, s1), (z, s2)]) 12 0 = some (v + (s0 + s1 + s2) + 3 - (a + b + c)))) := by
  subst e0; subst e1; subst e2; subst e3; subst e4; subst e5
  have h := chkOne ha0 ha1 hb0 hb1 hc0 hc1 g1 g2 g3 g4 g5 g6
  unfold checkA at h
  rw [Bool.and_eq_true] at h
  obtain ⟨v, hv1, hv2⟩ := worths h1 h2 h3 (val_filt h1 h2 h3 _ _ _) h.1
  obtain ⟨v', hv1', hv2'⟩ := worths h1 h2 h3 (val_3 h1 h2 h3 _ _ _) h.2
  exact ⟨⟨v, hid hv1, hid hv2⟩, v', hid hv1', hid hv2'⟩
theorem restsS (prog : Program) (w : World) (ro ti : Addr) {a b c one two deg v : Int} (ha0 : 1 ≤ a) (ha1 : a ≤ 2) (hb0 : 1 ≤ b) (hb1 : b ≤ 2) (hc0 : 0 ≤ c) (hc1 : c < 5 - a - b) (g1 : 0 ≤ one) (g2 : one < 6) (g3 : 0 ≤ two) (g4 : two < 6) (g5 : 0 ≤ deg) (g6 : deg < a + b + c) (hf : Hid (worthL (restP (a + c - 2 - (one - 2)) (b + a - 2 - (two - 2)) (c + b - 2 - (deg - (one - 2) - (two - 2))) a b c) 12 0 = some v)) : Ct prog w 94 25 [.ref ro, .ref ti]
    (fun h => (∃ t0 t1 t2, h.IsList ro #[.int (a + c - 2 - (one - 2)) t0, .int (b + a - 2 - (two - 2)) t1, .int (c + b - 2 - (deg - (one - 2) - (two - 2))) t2]) ∧ ∃ t3 t4 t5, h.IsList ti #[.int a t3, .int b t4, .int c t5])
    (fun _ _ v' => ∃ t, v' = .int v t) :=
  restsE prog w ro ti (a + c - 2 - (one - 2)) (b + a - 2 - (two - 2)) (c + b - 2 - (deg - (one - 2) - (two - 2))) a b c v (by omega) (by omega) ⟨by omega, by omega⟩ ⟨by omega, by omega⟩ ⟨by omega, by omega⟩ ⟨by omega, by omega⟩ ⟨by omega, by omega⟩ (trees_ne ha0 hb0 hc0) hf
theorem restsR (prog : Program) (w : World) (ro ti : Addr) {a b c one two deg v : Int} (ha0 : 1 ≤ a) (ha1 : a ≤ 2) (hb0 : 1 ≤ b) (hb1 : b ≤ 2) (hc0 : 0 ≤ c) (hc1 : c < 5 - a - b) (g1 : 0 ≤ one) (g2 : one < 6) (g3 : 0 ≤ two) (g4 : two < 6) (g5 : 0 ≤ deg) (g6 : deg < a + b + c) (hf : Hid (worthL (restP (one - 2) (two - 2) (deg - (one - 2) - (two - 2)) a b c) 12 0 = some v)) : Ct prog w 94 25 [.ref ro, .ref ti]
    (fun h => (∃ t0 t1 t2, h.IsList ro #[.int (one - 2) t0, .int (two - 2) t1, .int (deg - (one - 2) - (two - 2)) t2]) ∧ ∃ t3 t4 t5, h.IsList ti #[.int a t3, .int b t4, .int c t5])
    (fun _ _ v' => ∃ t, v' = .int v t) :=
  restsE prog w ro ti (one - 2) (two - 2) (deg - (one - 2) - (two - 2)) a b c v (by omega) (by omega) ⟨by omega, by omega⟩ ⟨by omega, by omega⟩ ⟨by omega, by omega⟩ ⟨by omega, by omega⟩ ⟨by omega, by omega⟩ (trees_ne ha0 hb0 hc0) hf
theorem sum_dual (x y z : Str) (a b c one two deg : Int) : sumB [(x, a + c - 2 + -(one - 2)), (y, b + a - 2 + -(two - 2)), (z, c + b - 2 + -(deg - (one - 2) - (two - 2)))] = a + c - 2 - (one - 2) + (b + a - 2 - (two - 2)) + (c + b - 2 - (deg - (one - 2) - (two - 2))) := by
  simp only [sumB, List.map_cons, List.map_nil, List.sum_cons, List.sum_nil]; omega
theorem nn1 (n : Nat) : n + 1 ≠ n := by omega
theorem nn2 (n : Nat) : n + 1 + 1 ≠ n := by omega
theorem nn3 (n : Nat) : n + 1 + 1 + 1 ≠ n := by omega
theorem nn4 (n : Nat) : n + 1 + 1 + 1 + 1 ≠ n := by omega
theorem nn5 (n : Nat) : n + 1 + 1 + 1 + 1 + 1 ≠ n := by omega
theorem cj2 {p1 p2 r : Prop} (h : p1 ∧ p2 ∧ r) : p2 := h.2.1
theorem cj3 {p1 p2 p3 r : Prop} (h : p1 ∧ p2 ∧ p3 ∧ r) : p3 := cj2 h.2
theorem cj4 {p1 p2 p3 p4 r : Prop} (h : p1 ∧ p2 ∧ p3 ∧ p4 ∧ r) : p4 := cj3 h.2
theorem cj5 {p1 p2 p3 p4 p5 r : Prop} (h : p1 ∧ p2 ∧ p3 ∧ p4 ∧ p5 ∧ r) : p5 := cj4 h.2
theorem cj6 {p1 p2 p3 p4 p5 p6 r : Prop} (h : p1 ∧ p2 ∧ p3 ∧ p4 ∧ p5 ∧ p6 ∧ r) : p6 := cj5 h.2
theorem cj7 {p1 p2 p3 p4 p5 p6 p7 r : Prop} (h : p1 ∧ p2 ∧ p3 ∧ p4 ∧ p5 ∧ p6 ∧ p7 ∧ r) : p7 := cj6 h.2
theorem cj8 {p1 p2 p3 p4 p5 p6 p7 p8 r : Prop} (h : p1 ∧ p2 ∧ p3 ∧ p4 ∧ p5 ∧ p6 ∧ p7 ∧ p8 ∧ r) : p8 := cj7 h.2
theorem cj9 {p1 p2 p3 p4 p5 p6 p7 p8 p9 r : Prop} (h : p1 ∧ p2 ∧ p3 ∧ p4 ∧ p5 ∧ p6 ∧ p7 ∧ p8 ∧ p9 ∧ r) : p9 := cj8 h.2
theorem cj10 {p1 p2 p3 p4 p5 p6 p7 p8 p9 p10 r : Prop} (h : p1 ∧ p2 ∧ p3 ∧ p4 ∧ p5 ∧ p6 ∧ p7 ∧ p8 ∧ p9 ∧ p10 ∧ r) : p10 := cj9 h.2
theorem cj11 {p1 p2 p3 p4 p5 p6 p7 p8 p9 p10 p11 r : Prop} (h : p1 ∧ p2 ∧ p3 ∧ p4 ∧ p5 ∧ p6 ∧ p7 ∧ p8 ∧ p9 ∧ p10 ∧ p11 ∧ r) : p11 := cj10 h.2
theorem cj12 {p1 p2 p3 p4 p5 p6 p7 p8 p9 p10 p11 p12 r : Prop} (h : p1 ∧ p2 ∧ p3 ∧ p4 ∧ p5 ∧ p6 ∧ p7 ∧ p8 ∧ p9 ∧ p10 ∧ p11 ∧ p12 ∧ r) : p12 := cj11 h.2
theorem cj13 {p1 p2 p3 p4 p5 p6 p7 p8 p9 p10 p11 p12 p13 r : Prop} (h : p1 ∧ p2 ∧ p3 ∧ p4 ∧ p5 ∧ p6 ∧ p7 ∧ p8 ∧ p9 ∧ p10 ∧ p11 ∧ p12 ∧ p13 ∧ r) : p13 := cj12 h.2
theorem cj14 {p1 p2 p3 p4 p5 p6 p7 p8 p9 p10 p11 p12 p13 p14 r : Prop} (h : p1 ∧ p2 ∧ p3 ∧ p4 ∧ p5 ∧ p6 ∧ p7 ∧ p8 ∧ p9 ∧ p10 ∧ p11 ∧ p12 ∧ p13 ∧ p14 ∧ r) : p14 := cj13 h.2
theorem cj15 {p1 p2 p3 p4 p5 p6 p7 p8 p9 p10 p11 p12 p13 p14 p15 r : Prop} (h : p1 ∧ p2 ∧ p3 ∧ p4 ∧ p5 ∧ p6 ∧ p7 ∧ p8 ∧ p9 ∧ p10 ∧ p11 ∧ p12 ∧ p13 ∧ p14 ∧ p15 ∧ r) : p15 := cj14 h.2
theorem cj16 {p1 p2 p3 p4 p5 p6 p7 p8 p9 p10 p11 p12 p13 p14 p15 p16 r : Prop} (h : p1 ∧ p2 ∧ p3 ∧ p4 ∧ p5 ∧ p6 ∧ p7 ∧ p8 ∧ p9 ∧ p10 ∧ p11 ∧ p12 ∧ p13 ∧ p14 ∧ p15 ∧ p16 ∧ r) : p16 := cj15 h.2
theorem cj17 {p1 p2 p3 p4 p5 p6 p7 p8 p9 p10 p11 p12 p13 p14 p15 p16 p17 r : Prop} (h : p1 ∧ p2 ∧ p3 ∧ p4 ∧ p5 ∧ p6 ∧ p7 ∧ p8 ∧ p9 ∧ p10 ∧ p11 ∧ p12 ∧ p13 ∧ p14 ∧ p15 ∧ p16 ∧ p17 ∧ r) : p17 := cj16 h.2
theorem cj18 {p1 p2 p3 p4 p5 p6 p7 p8 p9 p10 p11 p12 p13 p14 p15 p16 p17 p18 r : Prop} (h : p1 ∧ p2 ∧ p3 ∧ p4 ∧ p5 ∧ p6 ∧ p7 ∧ p8 ∧ p9 ∧ p10 ∧ p11 ∧ p12 ∧ p13 ∧ p14 ∧ p15 ∧ p16 ∧ p17 ∧ p18 ∧ r) : p18 := cj17 h.2
theorem cl2 {p1 p2 : Prop} (h : p1 ∧ p2) : p2 := h.2
theorem cl3 {p1 p2 p3 : Prop} (h : p1 ∧ p2 ∧ p3) : p3 := cl2 h.2
theorem cl4 {p1 p2 p3 p4 : Prop} (h : p1 ∧ p2 ∧ p3 ∧ p4) : p4 := cl3 h.2
theorem cl5 {p1 p2 p3 p4 p5 : Prop} (h : p1 ∧ p2 ∧ p3 ∧ p4 ∧ p5) : p5 := cl4 h.2
theorem cl6 {p1 p2 p3 p4 p5 p6 : Prop} (h : p1 ∧ p2 ∧ p3 ∧ p4 ∧ p5 ∧ p6) : p6 := cl5 h.2
theorem cl7 {p1 p2 p3 p4 p5 p6 p7 : Prop} (h : p1 ∧ p2 ∧ p3 ∧ p4 ∧ p5 ∧ p6 ∧ p7) : p7 := cl6 h.2
theorem cl8 {p1 p2 p3 p4 p5 p6 p7 p8 : Prop} (h : p1 ∧ p2 ∧ p3 ∧ p4 ∧ p5 ∧ p6 ∧ p7 ∧ p8) : p8 := cl7 h.2
theorem cl9 {p1 p2 p3 p4 p5 p6 p7 p8 p9 : Prop} (h : p1 ∧ p2 ∧ p3 ∧ p4 ∧ p5 ∧ p6 ∧ p7 ∧ p8 ∧ p9) : p9 := cl8 h.2
theorem fa_cons {d : Addr} {p : Addr × Obj} {r : List (Addr × Obj)} (h : p.1 ≠ d) (t : ∀ q ∈ r, q.1 ≠ d) : ∀ q ∈ p :: r, q.1 ≠ d := List.forall_mem_cons.mpr ⟨h, t⟩
theorem fa_nil {d : Addr} : ∀ q ∈ ([] : List (Addr × Obj)), q.1 ≠ d := fun _ h => nomatch h
end

section
theorem sdo_eq {prog : Program} {w : World} {o : Obj} {l l' : Bk} (S : SDO prog w o l) (e : l = l') : SDO prog w o l' := e ▸ S
end

section
theorem wordsZn3Law1 : True := by
  k_with_none
  k_with "zn st" => ((case k1 => k_asm); (case k2 => k_asm); (case k3 => k_asm); (case k4 => k_asm); (case k5 => k_asm); (case kK => first | exact rfl | assumption); (case kd => ktr_room); (case ku => ktr_units))
  k_with "zn yst" => ((case y1 => k_asm); (case y2 => k_asm); (case y3 => k_asm); (case y4 => k_asm); (case y5 => k_asm); (case yK => exact rfl); (case yd => first | ktr_room | decide); (case yu => first | ktr_units | decide))
  k_with "zn tail7" => (rintro hh7 tk7 r7 ⟨dd7, oo7, rfl, lo7, S7, hf7⟩ hN7 hO7 F7 N7; (have N9 := hN7 _ hf7); (have O9 := hO7 _ (hf7 _ (.head _)).2); (simp only [LCg.Off1, and_true] at O9); (simp only [List.cons_append, List.nil_append] at N9); clear hN7 hO7 N7 hf7)
  k_with "zn enterS" => (refine' enterS ?k1 ?k2 ?k3 ?k5 ?kA ?kF ?kK ?k6 ?k7 ?k8 ?k9 ?kB ?_ ?c2 ?c3 ?c4 ?c5; (case kA => exact rfl); (case kF => exact rfl); (case kK => assumption); (case k1 => k_asm); (case k2 => k_asm); (case k3 => k_asm); (case k5 => k_asm); (case k6 => k_is); (case k7 => k_is); (case k8 => ktr_room); (case k9 => exact BindsTo.of_eq rfl); (case c5 => decide); (case kB => exact locs rfl); (case c2 => exact rfl); (case c3 => exact rfl); (case c4 => exact rfl); k_whole; intro _ _ _ _ _ _ _; (try dsimp only); (try walk_at "zn liftB"); (try k_fold))
  k_with "zn enterC" => (refine' enterC ?k1 ?k2 ?k3 ?k5 ?kA ?kF ?kK ?k6 ?k7 ?k8 ?k9 ?kB ?kD ?_ ?c2 ?c3 ?c4; (case kA => exact rfl); (case kF => exact rfl); (case kK => assumption); (case k1 => k_asm); (case k2 => k_asm); (case k3 => k_asm); (case k5 => k_asm); (case k6 => k_is); (case k7 => k_is); (case k8 => ktr_room); (case k9 => exact BindsTo.of_eq rfl); (case kB => exact rfl); (case kD => decide +kernel); (case c2 => exact rfl); (case c3 => exact rfl); (case c4 => exact rfl); k_whole; intro _ _ _ _ _ _ _ _ _ _; (try dsimp only); (try walk_at "zn liftB"); (try k_fold); walk_at "zn cellsY")
  k_with "zn k_sub" => ((intro p hp; repeat (first | exact hp | refine List.mem_cons_of_mem _ ?_)))
  k_with "zn sd_there" => (first | exact SD.keep (by assumption) (Fr.keep (by assumption)) | exact Held.sd (by assumption) (by assumption) (by assumption) (by walk_at "zn k_sub") | exact sd_news (by assumption) (by k_mem) (by assumption) (by assumption) (by assumption) | exact SDO.sd (by assumption) (by assumption) (News.get (by assumption) (by k_mem)))
  k_with "zn memg" => (first | exact List.Mem.head _ | (refine List.Mem.tail _ ?_; walk_at "zn memg"))
  k_with "zn li" => (((rename News _ _ _ _ => kN9); first | exact News.isList kN9 (by walk_at "zn memg") | is_list))
  k_with "zn cj_go" => ((first | exact And.left (by with_reducible assumption) | exact cj2 (by with_reducible assumption) | exact cj3 (by with_reducible assumption) | exact cj4 (by with_reducible assumption) | exact cj5 (by with_reducible assumption) | exact cj6 (by with_reducible assumption) | exact cj7 (by with_reducible assumption) | exact cj8 (by with_reducible assumption) | exact cj9 (by with_reducible assumption) | exact cj10 (by with_reducible assumption) | exact cj11 (by with_reducible assumption) | exact cj12 (by with_reducible assumption) | exact cj13 (by with_reducible assumption) | exact cj14 (by with_reducible assumption) | exact cj15 (by with_reducible assumption) | exact cj16 (by with_reducible assumption) | exact cj17 (by with_reducible assumption) | exact cj18 (by with_reducible assumption) | exact cl2 (by with_reducible assumption) | exact cl3 (by with_reducible assumption) | exact cl4 (by with_reducible assumption) | exact cl5 (by with_reducible assumption) | exact cl6 (by with_reducible assumption) | exact cl7 (by with_reducible assumption) | exact cl8 (by with_reducible assumption) | exact cl9 (by with_reducible assumption)))
  k_with "zn ne_go" => (((try dsimp only); (show @Ne Nat _ _); first | exact nn1 _ | exact Ne.symm (nn1 _) | exact nn2 _ | exact Ne.symm (nn2 _) | exact nn3 _ | exact Ne.symm (nn3 _) | exact nn4 _ | exact Ne.symm (nn4 _) | exact nn5 _ | exact Ne.symm (nn5 _) | exact Ne.symm (by walk_at "zn cj_go") | exact Nat.ne_of_gt (by walk_at "zn cj_go") | exact (by walk_at "zn cj_go")))
  k_with "zn fa_go" => (repeat (first | refine fa_cons (by walk_at "zn ne_go") ?_ | exact fa_nil))
  k_with "zn upd_go" => (repeat' (first | (refine' UpdF.head ?_; walk_at "zn fa_go") | refine' UpdF.tail (by walk_at "zn ne_go") ?_))
  k_with "zn ct_close" => (((case k1 => k_asm); (case k2 => k_asm); (case k3 => k_asm); (case k4 => k_asm); (case k5 => k_asm); (case kK => exact rfl); (case kd => first | ktr_room | decide); (case ku => first | ktr_units | decide)))
  k_with "zn h0" => (k_here; k_dflt (refine LCg.CompSrc.range (by rfl) (by k_asm) (by k_asm) (by assumption) (by first | decide | rfl) (by first | rfl | decide) (by first | size_fits | exact Nat.le_of_ble_eq_true rfl) ?_; intro _; lcg_lit))
  trivial
set_option maxRecDepth 100000
set_option maxHeartbeats 4000000
theorem wordsZn3Law2 : True := by
  k_with "call ref" => (refine hold ?_)
  k_with "eval ListComp" => ((k_here; k_dflt (refine LCg.ListComp_U (F₀ := by k_asm) (by with_unfolding_all rfl) (by decide) (by rfl) (by decide) (by rfl) ?_); k_dflt lcg_toSrc))
  k_with "CompSrc" => (walk_at "zn h0")
  k_with "subscriptTail" => (((with_reducible show wpAny _ _ (subscriptTail _ _ (Value.ref 22) _) _ _ _); k_dflt (refine' flag_item ?k1 ?k2 ?k3 ?k4 ?k5 ?k6 ?_ ?k7 ?k8); (case k1 => k_asm); (case k2 => k_asm); (case k3 => assumption); (case k4 => assumption); (case k5 => decide); (case k6 => decide); (case k7 => with_unfolding_all rfl); (case k8 => (intro _; with_unfolding_all rfl)); intro _))
  k_with "call ref" => ((k_here; (with_reducible show wpAny _ _ (call (Value.ref 43) _) _ _ _); k_dflt (refine' use_count ?k1 ?k2 ?k3 ?k4 ?k5 ?kK ?kd ?ku ?kS ?_; (case k1 => k_asm); (case k2 => k_asm); (case k3 => k_asm); (case k4 => k_asm); (case k5 => k_asm); (case kK => exact rfl); (case kd => first | ktr_room | decide); (case ku => first | ktr_units | decide); (case kS => walk_at "zn sd_there"); k_whole); intro _ _ _ _ _))
  k_with "call ref" => (((with_reducible show wpAny _ _ (call (Value.ref 62) _) _ _ _); k_dflt ((first | refine' use_ct (callersE0 _ _ _ _ a b c _ (nmOf q 0) (nmOf q 1) (nmOf q 2) _ rfl) (A₀ := callerA) ?y1 ?y2 ?y3 ?y4 ?y5 ?yK ?yd ?yu ?yp ?_ | refine' use_ct (callersE1 _ _ _ _ a b c _ (nmOf q 0) (nmOf q 1) (nmOf q 2) _ rfl) (A₀ := callerA) ?y1 ?y2 ?y3 ?y4 ?y5 ?yK ?yd ?yu ?yp ?_ | refine' use_ct (callersE2 _ _ _ _ a b c _ (nmOf q 0) (nmOf q 1) (nmOf q 2) _ rfl) (A₀ := callerA) ?y1 ?y2 ?y3 ?y4 ?y5 ?yK ?yd ?yu ?yp ?_); walk_at "zn yst"; (case yp => exact ⟨⟨_, _, _, by walk_at "zn li"⟩, _, _, _, by walk_at "zn li"⟩); walk_at "zn tail7")))
  k_with "call ref" => (((with_reducible show wpAny _ _ (call (Value.ref 67) _) _ _ _); k_dflt ((first | refine' use_ct (loanE0 _ _ _ _ _ (filt [(nmOf q 1, a), (nmOf q 2, c)]) (nmOf q 0) (nmOf q 1) (nmOf q 2) _ rfl ?yl) (A₀ := callerA) ?y1 ?y2 ?y3 ?y4 ?y5 ?yK ?yd ?yu ?yp ?_ | refine' use_ct (loanE1 _ _ _ _ _ (filt [(nmOf q 2, b), (nmOf q 0, a)]) (nmOf q 0) (nmOf q 1) (nmOf q 2) _ rfl ?yl) (A₀ := callerA) ?y1 ?y2 ?y3 ?y4 ?y5 ?yK ?yd ?yu ?yp ?_ | refine' use_ct (loanE2 _ _ _ _ _ (filt [(nmOf q 0, c), (nmOf q 1, b)]) (nmOf q 0) (nmOf q 1) (nmOf q 2) _ rfl ?yl) (A₀ := callerA) ?y1 ?y2 ?y3 ?y4 ?y5 ?yK ?yd ?yu ?yp ?_); walk_at "zn yst"; (case yp => exact ⟨⟨_, _, _, by walk_at "zn li"⟩, _, _, _, by walk_at "zn li", by walk_at "zn sd_there"⟩); (case yl => exact Nat.le_trans (filt_length _) (Nat.le_of_ble_eq_true rfl)); walk_at "zn tail7")))
  k_with "CompEnd" => ((refine' compEnd2 ?kF ?kN ?kM ?kO ?_; (case kF => assumption); (case kN => assumption); (case kM => assumption); (case kO => (simp only [LCg.Off3, and_true]; assumption)); (try dsimp only)))
  k_with "CompEnd" => ((refine' compEnd1 ?kF ?kN ?kO ?_; (case kF => assumption); (case kN => assumption); (case kO => (simp only [LCg.Off3, and_true]; assumption)); (try dsimp only)))
  k_with "storeName" => ((k_dflt ((rename Fr _ _ _ _ => kF9); (rename News _ _ _ _ => kN9); (refine' storeX_C kF9 kN9 ?zc ?zU ?zd ?_ ?za ?zb); (case za => rfl); (case zb => rfl); (case zc => rfl); (case zU => walk_at "zn upd_go"); (case zd => assumption); intro h' o' F' N' d'; (try dsimp only at N'); clear kF9 kN9)))
  k_with "binaryOp Mod int int" => (((fail_if_success (with_reducible show wpAny _ _ (binaryOp _ (Value.int _ _) (Value.int 3 _)) _ _ _)); refine hold ?_))
  k_with "exec Assign cons DictComp" => (refine hold ?_)
  k_with "subscriptTail Name BinOp ref int" => (((fail_if_success (with_reducible show wpAny _ _ (subscriptTail _ _ (Value.ref 22) _) _ _ _)); k_here; k_dflt (refine' item_litK ?k1 ?k2 ?k3 ?k4 ?_ ?k6; (case k1 => walk_at "zn li"); (case k2 => decide); (case k3 => decide); (case k4 => rfl); (case k6 => with_unfolding_all rfl); k_whole)))
  k_with "subscriptTail Name Name ref int" => ((k_here; k_dflt (refine' item_litK ?k1 ?k2 ?k3 ?k4 ?_ ?k6; (case k1 => walk_at "zn li"); (case k2 => decide); (case k3 => decide); (case k4 => rfl); (case k6 => with_unfolding_all rfl); k_whole)))
  k_with "call ref" => (((with_reducible show wpAny _ _ (call (Value.ref 43) _) _ _ _); refine hold ?_))
  k_with "eval DictComp" => (refine hold ?_)
  k_with "call ref" => (((with_reducible show wpAny _ _ (call (Value.ref 36) _) _ _ _); refine hold ?_))
  k_with "call ref" => (((with_reducible show wpAny _ _ (call (Value.ref 94) _) _ _ _); refine hold ?_))
  k_with "call ref" => (((with_reducible show wpAny _ _ (call (Value.ref 82) _) _ _ _); refine hold ?_))
  trivial
theorem final : PySem.Challenge.rw_zn0003_01.Holds := hd (by
  k_go0
  (all_goals try k_fold)
  rename CellsAre _ _ _ => KC
  rename IntsAre _ _ => hI
  rename ¬ (_ < _) => hlen
  clear KC
  k_steps
  unfold Hold
  refine' use_ct (draw_ct _ _ _ _ _ hI (by omega)) (A₀ := callerA) ?k1 ?k2 ?k3 ?k4 ?k5 ?kK ?kd ?ku ?kp ?_
  walk_at "zn ct_close"
  (case kp => is_list)
  rintro h1 tk1 r1 ⟨D1, v1, k1, rfl, ⟨d0, d1, d2, d3, d4, t0, t1, t2, t3, t4, rfl, hd0, hd1, hd2, hd3, hd4⟩, hf1⟩ hN hO F1 N1
  have N2 := hN _ hf1
  have O1 := hO D1 (hf1 _ (.head _)).2
  simp only [LCg.Off1, and_true] at O1
  simp only [List.cons_append, List.nil_append] at N2
  clear hN hO N1 hf1
  k_steps
  unfold Hold
  refine' use_ct (ties2_ct _ _ _ _) (A₀ := callerA) ?k1 ?k2 ?k3 ?k4 ?k5 ?kK ?kd ?ku trivial ?_
  walk_at "zn ct_close"
  rintro h2 tk2 r2 ⟨D2, a, b, c, u1, u2, u3, k2, rfl, ⟨ha0, ha1, hb0, hb1, hc0, hc1⟩, hf2⟩ hN hO F2 N2
  have N3 := hN _ hf2
  have O2 := hO D2 (hf2 _ (.head _)).2
  simp only [LCg.Off1, and_true] at O2
  simp only [List.cons_append, List.nil_append] at N3
  clear hN hO N2 hf2
  k_steps
  unfold Hold
  refine mod_lit (by decide) ?_
  intro q hq0 hq1
  k_steps
  unfold Hold
  refine mod_lit (by decide) ?_
  intro one hone0 hone1
  k_steps
  unfold Hold
  refine mod_lit (by decide) ?_
  intro two htwo0 htwo1
  k_steps
  unfold Hold
  refine mod_lit (by omega) ?_
  intro deg hdeg0 hdeg1
  k_steps
  repeat (rename LCg.NsObj _ _ => hz; clear hz)
  repeat (rename IsRange _ _ _ _ _ _ _ _ => hz; clear hz)
  repeat (rename InElt _ _ => hz; clear hz)
  repeat (rename _ ≠ _ ∧ _ ≠ _ => hz; clear hz)
  repeat (rename _ ≠ _ ∧ _ ≠ _ ∧ _ => hz; clear hz)
  repeat (rename (_ ≠ _ ∧ _ ≠ _ ∧ _ ≠ _) ∧ _ => hz; clear hz)
  repeat (rename _ = some (Value.int _ _) => hz; clear hz)
  rename _ < _ ∧ _ < _ ∧ _ => hz
  clear hd0 hd1 hd2 hd3 hd4 hz
  rename Fr _ _ _ _ => F11
  rename News _ _ _ _ => N11
  replace F11 := hid F11
  replace N11 := hid N11
  repeat (rename Fr _ _ _ _ => hz; clear hz)
  repeat (rename News _ _ _ _ => hz; clear hz)
  replace F11 := unhid F11
  replace N11 := unhid N11
  unfold Hold
  k_dflt (refine assignDictComp F11 (by rfl) (by with_unfolding_all rfl) (by with_unfolding_all rfl) (by decide) (by rfl) (by decide) (by rfl) (by rfl) ?_ (by intro _; rfl))
  k_steps
  rename IsRange _ _ _ _ _ _ _ _ => hrg
  rename Fr _ _ _ _ => F12
  rename News _ _ _ _ => N12
  rename Top _ _ _ _ _ _ => T12
  k_dflt (refine dictRange (n := 3) (fun i => filt ([(nmOf q 0, one - 2), (nmOf q 1, two - 2), (nmOf q 2, deg - (one - 2) - (two - 2))].take i)) (by rfl) (by rfl) (by rfl) hrg (by decide) (by decide) (by decide) F12 N12 (big_of T12) (by rfl) ?_ ?_)
  · intro i t9 I2 oI2 C2 oC2 D2 oD2 m2 h12 tk12 E' hi hC hm F13 N13 off ne
    clear F12 N12 hrg
    unfold DBody
    try dsimp only
    match i, hi with
    | 0, hi =>
      have hs := filt_step (l := [(nmOf q 0, one - 2), (nmOf q 1, two - 2), (nmOf q 2, deg - (one - 2) - (two - 2))]) (i := 0) rfl
      refine wpAny_tests_one ?_
      k_steps
      all_goals first | exact ⟨_, _, rfl, by assumption, by assumption⟩ | exact hs.trans (if_neg (by first | assumption | omega)) | exact hs.trans (if_pos (by first | assumption | omega))
    | 1, hi =>
      have hs := filt_step (l := [(nmOf q 0, one - 2), (nmOf q 1, two - 2), (nmOf q 2, deg - (one - 2) - (two - 2))]) (i := 1) rfl
      refine wpAny_tests_one ?_
      k_steps
      all_goals first | exact ⟨_, _, rfl, by assumption, by assumption⟩ | exact hs.trans (if_neg (by first | assumption | omega)) | exact hs.trans (if_pos (by first | assumption | omega))
    | 2, hi =>
      have hs := filt_step (l := [(nmOf q 0, one - 2), (nmOf q 1, two - 2), (nmOf q 2, deg - (one - 2) - (two - 2))]) (i := 2) rfl
      refine wpAny_tests_one ?_
      k_steps
      all_goals first | exact ⟨_, _, rfl, by assumption, by assumption⟩ | exact hs.trans (if_neg (by first | assumption | omega)) | exact hs.trans (if_pos (by first | assumption | omega))
  · intro D3 o3 h12 lo3 S3 h13 tk13 F13 N13 o1
    clear F12 N12 hrg
    have S4 : SDO _ _ o3 (filt [(nmOf q 0, one - 2), (nmOf q 1, two - 2), (nmOf q 2, deg - (one - 2) - (two - 2))]) := S3
    clear S3
    k_steps
    rename Fr _ _ _ _ => F14
    rename News _ _ _ _ => N14
    unfold Hold
    obtain ⟨hn01, hn02, hn12, hnl⟩ := names_ne hq0 hq1
    k_dflt (refine assignDictComp F14 (by rfl) (by with_unfolding_all rfl) (by with_unfolding_all rfl) (by decide) (by rfl) (by decide) (by rfl) (by rfl) ?_ (by intro _; rfl))
    k_steps
    rename IsRange _ _ _ _ _ _ _ _ => hrg
    rename Fr _ _ _ _ => F12
    rename News _ _ _ _ => N12
    k_dflt (refine dictRange (n := 3) (fun i => puts ([(nmOf q 0, a + c - 2), (nmOf q 1, b + a - 2), (nmOf q 2, c + b - 2)].take i)) (by rfl) (by rfl) (by rfl) hrg (by decide) (by decide) (by decide) F12 N12 (big_of T12) (by rfl) ?_ ?_)
    · intro i t9 I2 oI2 C2 oC2 D2 oD2 m2 h12 tk12 E' hi hC hm F13 N13 off ne
      clear F12 N12 hrg
      unfold DBody
      try dsimp only
      match i, hi with
      | 0, hi =>
        have hs := puts_step (l := [(nmOf q 0, a + c - 2), (nmOf q 1, b + a - 2), (nmOf q 2, c + b - 2)]) (i := 0) rfl
        refine wpAny_tests_nil ?_
        k_steps
        unfold Hold
        refine' use_ct (cntE _ _ _ (filt [(nmOf q 1, a), (nmOf q 2, c)]) (a + c) (sum_filt2 hn12 a c)) (A₀ := callerA) ?k1 ?k2 ?k3 ?k4 ?k5 ?kK ?kd ?ku ?kp ?_
        walk_at "zn ct_close"
        (case kp => walk_at "zn sd_there")
        rintro h15 tk15 r15 ⟨t15, rfl⟩ hN hO F15 N15
        clear hN hO F13 N13
        k_steps
        all_goals first | exact ⟨_, _, rfl, by assumption, by assumption⟩ | exact hs
      | 1, hi =>
        have hs := puts_step (l := [(nmOf q 0, a + c - 2), (nmOf q 1, b + a - 2), (nmOf q 2, c + b - 2)]) (i := 1) rfl
        refine wpAny_tests_nil ?_
        k_steps
        unfold Hold
        refine' use_ct (cntE _ _ _ (filt [(nmOf q 2, b), (nmOf q 0, a)]) (b + a) (sum_filt2 (Ne.symm hn02) b a)) (A₀ := callerA) ?k1 ?k2 ?k3 ?k4 ?k5 ?kK ?kd ?ku ?kp ?_
        walk_at "zn ct_close"
        (case kp => walk_at "zn sd_there")
        rintro h15 tk15 r15 ⟨t15, rfl⟩ hN hO F15 N15
        clear hN hO F13 N13
        k_steps
        all_goals first | exact ⟨_, _, rfl, by assumption, by assumption⟩ | exact hs
      | 2, hi =>
        have hs := puts_step (l := [(nmOf q 0, a + c - 2), (nmOf q 1, b + a - 2), (nmOf q 2, c + b - 2)]) (i := 2) rfl
        refine wpAny_tests_nil ?_
        k_steps
        unfold Hold
        refine' use_ct (cntE _ _ _ (filt [(nmOf q 0, c), (nmOf q 1, b)]) (c + b) (sum_filt2 hn01 c b)) (A₀ := callerA) ?k1 ?k2 ?k3 ?k4 ?k5 ?kK ?kd ?ku ?kp ?_
        walk_at "zn ct_close"
        (case kp => walk_at "zn sd_there")
        rintro h15 tk15 r15 ⟨t15, rfl⟩ hN hO F15 N15
        clear hN hO F13 N13
        k_steps
        all_goals first | exact ⟨_, _, rfl, by assumption, by assumption⟩ | exact hs
    · intro D5 o5 h12 lo5 S3 h13 tk13 F13 N13 o1
      clear F12 N12 hrg o1
      have S5 := sdo_eq S3 (puts3 hn01 hn02 hn12 _ _ _)
      clear S3
      k_steps
      rename Fr _ _ _ _ => F16
      rename News _ _ _ _ => N16
      unfold Hold
      k_dflt (refine evalDictComp F16 (by with_unfolding_all rfl) (by decide) (by rfl) (by decide) ?_ (by intro _; rfl))
      k_steps
      rename IsRange _ _ _ _ _ _ _ _ => hrg
      rename Fr _ _ _ _ => F12
      rename News _ _ _ _ => N12
      k_dflt (refine dictRange (n := 3) (fun i => puts ([(nmOf q 0, -(one - 2)), (nmOf q 1, -(two - 2)), (nmOf q 2, -(deg - (one - 2) - (two - 2)))].take i)) (by rfl) (by rfl) (by rfl) hrg (by decide) (by decide) (by decide) F12 N12 (big_of T12) (by rfl) ?_ ?_)
      · intro i t9 I2 oI2 C2 oC2 D2 oD2 m2 h12 tk12 E' hi hC hm F13 N13 off ne
        clear F12 N12 hrg
        unfold DBody
        try dsimp only
        match i, hi with
        | 0, hi =>
          have hs := puts_step (l := [(nmOf q 0, -(one - 2)), (nmOf q 1, -(two - 2)), (nmOf q 2, -(deg - (one - 2) - (two - 2)))]) (i := 0) rfl
          refine wpAny_tests_nil ?_
          k_steps
          all_goals first | exact ⟨_, _, rfl, by assumption, by assumption⟩ | exact hs
        | 1, hi =>
          have hs := puts_step (l := [(nmOf q 0, -(one - 2)), (nmOf q 1, -(two - 2)), (nmOf q 2, -(deg - (one - 2) - (two - 2)))]) (i := 1) rfl
          refine wpAny_tests_nil ?_
          k_steps
          all_goals first | exact ⟨_, _, rfl, by assumption, by assumption⟩ | exact hs
        | 2, hi =>
          have hs := puts_step (l := [(nmOf q 0, -(one - 2)), (nmOf q 1, -(two - 2)), (nmOf q 2, -(deg - (one - 2) - (two - 2)))]) (i := 2) rfl
          refine wpAny_tests_nil ?_
          k_steps
          all_goals first | exact ⟨_, _, rfl, by assumption, by assumption⟩ | exact hs
      · intro D6 o6 h12 lo6 S3 h13 tk13 F13 N13 o1
        clear F12 N12 hrg o1
        have S6 := sdo_eq S3 (puts3 hn01 hn02 hn12 _ _ _)
        clear S3
        k_steps
        unfold Hold
        refine' use_ct (addE _ _ _ _ [(nmOf q 0, a + c - 2), (nmOf q 1, b + a - 2), (nmOf q 2, c + b - 2)] [(nmOf q 0, -(one - 2)), (nmOf q 1, -(two - 2)), (nmOf q 2, -(deg - (one - 2) - (two - 2)))] _ (Nat.le_of_ble_eq_true rfl) (Nat.le_of_ble_eq_true rfl) (add3 hn01 hn02 hn12 _ _ _ _ _ _)) (A₀ := callerA) ?k1 ?k2 ?k3 ?k4 ?k5 ?kK ?kd ?ku ?kp ?_
        walk_at "zn ct_close"
        (case kp => exact ⟨by walk_at "zn sd_there", by walk_at "zn sd_there"⟩)
        rintro h7 tk7 r7 ⟨D7, o7, rfl, lo7, S7, hf7⟩ hN7 hO7 F7 N7
        have N9 := hN7 _ hf7
        have O9 := hO7 _ (hf7 _ (.head _)).2
        simp only [LCg.Off1, and_true] at O9
        simp only [List.cons_append, List.nil_append] at N9
        clear hN7 hO7 N7 hf7
        k_steps
        rename Fr _ _ _ _ => F20
        rename News _ _ _ _ => N20
        unfold Hold
        have hdegB : deg < a + b + c := by omega
        obtain ⟨⟨v1, hv1, hw1⟩, v2, hv2, hw2⟩ := sides hn01 hn02 hn12 ha0 ha1 hb0 hb1 hc0 hc1 hone0 hone1 htwo0 htwo1 hdeg0 hdegB (r0 := one - 2) (r1 := two - 2) (r2 := deg - (one - 2) - (two - 2)) (s0 := a + c - 2 - (one - 2)) (s1 := b + a - 2 - (two - 2)) (s2 := c + b - 2 - (deg - (one - 2) - (two - 2))) rfl rfl rfl rfl rfl rfl
        refine' use_ct (restsS _ _ _ _ ha0 ha1 hb0 hb1 hc0 hc1 hone0 hone1 htwo0 htwo1 hdeg0 hdegB hv1) (A₀ := callerA) ?k1 ?k2 ?k3 ?k4 ?k5 ?kK ?kd ?ku ?kp ?_
        walk_at "zn ct_close"
        (case kp => exact ⟨⟨_, _, _, by walk_at "zn li"⟩, _, _, _, by walk_at "zn li"⟩)
        rintro h21 tk21 r21 ⟨t21, rfl⟩ hN hO F21 N21
        clear hN hO F20 N20
        k_steps
        unfold Hold
        refine' use_ct (cntE _ _ _ (filt [(nmOf q 0, one - 2), (nmOf q 1, two - 2), (nmOf q 2, deg - (one - 2) - (two - 2))]) (one - 2 + (two - 2) + (deg - (one - 2) - (two - 2))) (sum_filt3 hn01 hn02 hn12 _ _ _)) (A₀ := callerA) ?k1 ?k2 ?k3 ?k4 ?k5 ?kK ?kd ?ku ?kp ?_
        walk_at "zn ct_close"
        (case kp => walk_at "zn sd_there")
        rintro h22 tk22 r22 ⟨t22, rfl⟩ hN hO F22 N22
        clear hN hO F21 N21
        k_steps
        unfold Hold
        refine' use_ct (loansE _ _ _ _ _ (filt [(nmOf q 0, one - 2), (nmOf q 1, two - 2), (nmOf q 2, deg - (one - 2) - (two - 2))]) (loanB (filt [(nmOf q 1, a), (nmOf q 2, c)]) (nmOf q 0)) (loanB (filt [(nmOf q 2, b), (nmOf q 0, a)]) (nmOf q 1)) (loanB (filt [(nmOf q 0, c), (nmOf q 1, b)]) (nmOf q 2)) q (nmOf q 0) (nmOf q 1) (nmOf q 2) _ _ (game_ok hq0 hq1 (loan_length _ (filt_length _)) (loan_length _ (filt_length _)) (loan_length _ (filt_length _))) (Nat.le_trans (filt_length _) (Nat.le_of_ble_eq_true rfl)) hw1) (A₀ := callerA) ?k1 ?k2 ?k3 ?k4 ?k5 ?kK ?kd ?ku ?kp ?_
        walk_at "zn ct_close"
        (case kp => exact ⟨⟨_, _, _, by walk_at "zn li", by walk_at "zn sd_there", by walk_at "zn sd_there", by walk_at "zn sd_there"⟩, ⟨_, _, _, by walk_at "zn li"⟩, by walk_at "zn sd_there"⟩)
        rintro h23 tk23 r23 ⟨t23, rfl⟩ hN hO F23 N23
        clear hN hO
        k_steps
        rename Fr _ _ _ _ => F24
        rename News _ _ _ _ => N24
        unfold Hold
        refine' use_ct (restsR _ _ _ _ ha0 ha1 hb0 hb1 hc0 hc1 hone0 hone1 htwo0 htwo1 hdeg0 hdegB hv2) (A₀ := callerA) ?k1 ?k2 ?k3 ?k4 ?k5 ?kK ?kd ?ku ?kp ?_
        walk_at "zn ct_close"
        (case kp => exact ⟨⟨_, _, _, by walk_at "zn li"⟩, _, _, _, by walk_at "zn li"⟩)
        rintro h31 tk31 r31 ⟨t31, rfl⟩ hN hO F31 N31
        clear hN hO F24 N24
        k_steps
        unfold Hold
        refine' use_ct (cntE _ _ _ [(nmOf q 0, a + c - 2 + -(one - 2)), (nmOf q 1, b + a - 2 + -(two - 2)), (nmOf q 2, c + b - 2 + -(deg - (one - 2) - (two - 2)))] (a + c - 2 - (one - 2) + (b + a - 2 - (two - 2)) + (c + b - 2 - (deg - (one - 2) - (two - 2)))) (sum_dual _ _ _ a b c one two deg)) (A₀ := callerA) ?k1 ?k2 ?k3 ?k4 ?k5 ?kK ?kd ?ku ?kp ?_
        walk_at "zn ct_close"
        (case kp => walk_at "zn sd_there")
        rintro h32 tk32 r32 ⟨t32, rfl⟩ hN hO F32 N32
        clear hN hO F31 N31
        k_steps
        unfold Hold
        refine' use_ct (loansE _ _ _ _ _ [(nmOf q 0, a + c - 2 + -(one - 2)), (nmOf q 1, b + a - 2 + -(two - 2)), (nmOf q 2, c + b - 2 + -(deg - (one - 2) - (two - 2)))] (loanB (filt [(nmOf q 1, a), (nmOf q 2, c)]) (nmOf q 0)) (loanB (filt [(nmOf q 2, b), (nmOf q 0, a)]) (nmOf q 1)) (loanB (filt [(nmOf q 0, c), (nmOf q 1, b)]) (nmOf q 2)) q (nmOf q 0) (nmOf q 1) (nmOf q 2) _ _ (game_ok hq0 hq1 (loan_length _ (filt_length _)) (loan_length _ (filt_length _)) (loan_length _ (filt_length _))) (Nat.le_of_ble_eq_true rfl) hw2) (A₀ := callerA) ?k1 ?k2 ?k3 ?k4 ?k5 ?kK ?kd ?ku ?kp ?_
        walk_at "zn ct_close"
        (case kp => exact ⟨⟨_, _, _, by walk_at "zn li", by walk_at "zn sd_there", by walk_at "zn sd_there", by walk_at "zn sd_there"⟩, ⟨_, _, _, by walk_at "zn li"⟩, by walk_at "zn sd_there"⟩)
        rintro h33 tk33 r33 ⟨t33, rfl⟩ hN hO F33 N33
        clear hN hO
        k_steps)
end

end Zn3
theorem PySem.Challenge.cw_zn0003_01_holds : PySem.Challenge.rw_zn0003_01.Holds := by
  exact Zn3.final
