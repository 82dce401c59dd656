import PyProof.Rows.All
import Wide.All
import OpenK.AllK
import Wide.FinOn
import PySem.Challenge.RW_sx0025_01
set_option Elab.async false
set_option maxRecDepth 100000
set_option maxHeartbeats 8000000
set_option linter.all false
section Hd_part
open PySem PySem.W PyProof.Rows
namespace Mine
open_top hd for PySem.Challenge.rw_sx0025_01
end Mine
end Hd_part
section Fw_part
open PySem PySem.W PyProof.Rows PySem.Calls
namespace Mine
abbrev lv (d u : Nat) : Around := { handled := none, depth := d, frames := none, guards := none, units := u }
theorem lv_le {M : Model} {A : Around} {c : Code} {R : Result → Shared → Prop} {s : Shared} {d u : Nat} (h : codeAny M (lv d u) c R s)
    (hh : A.handled = none) (hd : A.depth ≤ d) (hu : A.units ≤ u) : codeAny M A c R s := fun Γ p hc hΓ =>
  h Γ p hc ⟨hΓ.1.trans hh, Nat.le_trans hΓ.2.1 hd, fun _ e => (nomatch e), fun _ e => (nomatch e), Nat.le_trans hΓ.2.2.2.2 hu⟩
structure St (g h : Heap) (led : List (Addr × Obj)) : Prop where
  stays : ∀ b o, g.get? b = some o → h.get? b = some o
  size : g.objs.size ≤ h.objs.size
  led : ∀ p ∈ led, h.get? p.1 = some p.2 ∧ g.get? p.1 = none
theorem St.refl (h : Heap) : St h h [] := ⟨fun _ _ e => e, Nat.le_refl _, fun _ hp => nomatch hp⟩
def Back (g : Heap) (s : Shared) (P : Value → List (Addr × Obj) → Prop) (r : Result) (s' : Shared) : Prop :=
  ∃ v led h' tk, r = .ok (.ret v) ∧ s' = { s with heap := h', toks := tk } ∧ St g h' led ∧ P v led
theorem Back.intro {g h' : Heap} {L : Addr} {m : Str → Option Value} {s : Shared} {P : Value → List (Addr × Obj) → Prop} {v : Value} {led : List (Addr × Obj)} {tk : Nat}
    (F : Fr g L h' m) (N : News g L h' led) (hp : P v led) : Back g s P (.ok (.ret v)) { s with heap := h', toks := tk } :=
  ⟨v, led, h', tk, rfl, rfl, ⟨F.keep, Nat.le_of_lt (Nat.lt_of_le_of_lt F.above F.ns.lt), fun p hp => ⟨(N p hp).1, (N p hp).2.2⟩⟩, hp⟩
section
variable {prog : Program} {w : World} {A : Around} {E : Value → Shared → Prop} {s : Shared} {K : Frag} {g h₀ : Heap} {L : Addr} {m mg mb : Str → Option Value} {p : Program} {loose : List Str}
theorem enter {R : Result → Shared → Prop} {name qual : Str} {params : Arguments} {body : List Stmt} {scope : Scope} {dV kV doc pm cdv ct oc : Value} {an od : Option Addr} {osl : Array (Option Value)} {f : Addr} {args : Args} {binds : List (Str × Value)} {led : List (Addr × Obj)}
    (X : K.In g) (T : TopRead p loose mg mb g) (S : St g s.heap led)
    (ho : K.lookup f = some ⟨oc, od, .func (fnOf name qual params body scope dV kV doc pm an cdv ct), osl⟩) (hcd : codeIn K cdv qual = true) (hroom : A.depth < recursionLimit)
    (hbind : BindsTo s (fnOf name qual params body scope dV kV doc pm an cdv ct) args binds) (hloc : ∀ y ∈ binds, scope.names.lookup y.1 = some .local)
    (h : ∀ L' h₁, Fr g L' h₁ (fun y => binds.reverse.lookup y) → News g L' h₁ led →
      wpAny (model prog w) (A.deeper (envOf qual scope L' f cdv)) (execs body (envOf qual scope L' f cdv))
        (fun fl s' => R (.ok (.ret (match fl with | .ret v => v | _ => .none))) s') (fun _ _ => False)
        { s with heap := h₁, toks := s.toks + binds.length })
    (hco : scope.isCoroutine = false := by rfl) (hgen : scope.isGenerator = false := by rfl) (hk : scope.kind = .function := by rfl)
    (hcell : ∀ x ∈ scope.names, x.2 ≠ .cell := by decide) : codeAny (model prog w) A (.call (.ref f) args) R s := by
  refine codeAny_call_def (fd := fnOf name qual params body scope dV kV doc pm an cdv ct) (body := body) (binds := binds) hroom (S.stays _ _ (X _ _ ho)) rfl (T.nolimit.keeps S.stays) (codeRec_of (X.keeps S.stays) hcd) rfl hbind hcell hloc (fun h₁ hns hk₁ => ?_) hco hgen hk
  refine wpAny_mono (h s.heap.objs.size h₁ ⟨hns, fun b o e => hk₁ b o (S.stays b o e), S.size⟩ (fun q hq => ⟨hk₁ _ _ (S.led q hq).1, Nat.ne_of_lt (Heap.lt_size (S.led q hq).1), (S.led q hq).2⟩)) (fun _ _ x => x) fun _ _ x => x.elim
theorem enterC {R : Result → Shared → Prop} {name qual : Str} {params : Arguments} {body : List Stmt} {scope : Scope} {dV kV doc pm cdv ct oc : Value} {an od : Option Addr} {osl : Array (Option Value)} {f : Addr} {args : Args} {binds : List (Str × Value)} {led : List (Addr × Obj)}
    (X : K.In g) (T : TopRead p loose mg mb g) (S : St g s.heap led)
    (ho : K.lookup f = some ⟨oc, od, .func (fnOf name qual params body scope dV kV doc pm an cdv ct), osl⟩) (hcd : codeIn K cdv qual = true) (hroom : A.depth < recursionLimit)
    (hbind : BindsTo s (fnOf name qual params body scope dV kV doc pm an cdv ct) args binds) (hkind : (binds.all fun y => scope.names.lookup y.1 == some .local || scope.names.lookup y.1 == some .cell) = true)
    (hnd : ((cellsFrom 0 scope.names []).map (·.1)).Nodup)
    (h : ∀ L' h₁ tk cells, Fr g L' h₁ (bindL (envOfC qual scope L' f cdv).kindOf binds fun _ => none) → News g L' h₁ (cells ++ led) →
      CellsAre (bindC (envOfC qual scope L' f cdv).kindOf binds fun _ => none) (cellsFrom (L' + 1) scope.names []) cells → (∀ q ∈ led, q.1 < L') →
      wpAny (model prog w) (A.deeper (envOfC qual scope L' f cdv)) (execs body (envOfC qual scope L' f cdv))
        (fun fl s' => R (.ok (.ret (match fl with | .ret v => v | _ => .none))) s') (fun _ _ => False)
        { s with heap := h₁, toks := tk })
    (hco : scope.isCoroutine = false := by rfl) (hgen : scope.isGenerator = false := by rfl) (hk : scope.kind = .function := by rfl) : codeAny (model prog w) A (.call (.ref f) args) R s := by
  refine codeAny_call_function hroom (S.stays _ _ (X _ _ ho)) rfl hco hgen rfl (codeRec_of (X.keeps S.stays) hcd) (hbind _ _ _ _ ?_)
  refine wpAny_newFunctionEnv_cells hk (kindsX hkind _) fun env' he s' x => ?_
  subst he
  refine ⟨(T.nolimit.keeps S.stays).keeps x.toInCall.keep, codeAny_func ?_⟩
  obtain ⟨h₁, tk, rfl, _⟩ := x.done
  have hk₁ := x.toInCall.keep
  obtain ⟨cells, NC, Y⟩ := Cl.news (h₀ := s.heap) (Nat.le_refl _) fun n c hm => ⟨x.cell n c (lookup_of_mem_nodup (cellsFrom_names scope.names 0 (s.heap.objs.size + 1) [] [] rfl ▸ hnd) hm), x.above n c hm⟩
  refine wpAny_mono (h s.heap.objs.size h₁ tk cells ⟨x.toInCall.ns, fun b o e => hk₁ b o (S.stays b o e), S.size⟩ (fun q hq => ?_) Y (fun q hq => Heap.lt_size (S.led q hq).1)) (fun _ _ x => x) fun _ _ x => x.elim
  rcases List.mem_append.mp hq with hq | hq
  · refine ⟨(NC q hq).1, (NC q hq).2.1, ?_⟩
    cases e : g.get? q.1 with
    | none => rfl
    | some o => have := S.stays _ _ e; rw [(NC q hq).2.2] at this; cases this
  · exact ⟨hk₁ _ _ (S.led q hq).1, Nat.ne_of_lt (Heap.lt_size (S.led q hq).1), (S.led q hq).2⟩
theorem use_call {R : Result → Shared → Prop} {c : Code} {P : Value → List (Addr × Obj) → Prop} (nc rest : List (Addr × Obj)) (F : Fr h₀ L s.heap m) (N : News h₀ L s.heap (nc ++ rest)) (hnd : ∀ q ∈ rest, q.1 ∉ nc.map (·.1))
    (call : ∀ g, h₀.StaysIn g → (∀ q ∈ rest, g.get? q.1 = some q.2) → St g s.heap nc → codeAny (model prog w) A c (Back g s P) s)
    (k : ∀ v led h' tk, P v led → Fr h₀ L h' m → News h₀ L h' (led ++ rest) → (∀ q ∈ led, ∀ q' ∈ rest, q.1 ≠ q'.1) → R (.ok (.ret v)) { s with heap := h', toks := tk }) :
    codeAny (model prog w) A c R s := by
  have hn : ∀ b o, h₀.get? b = some o → b ∉ nc.map (·.1) := fun b o e q => by
    obtain ⟨x, hx, rfl⟩ := List.mem_map.mp q
    have := (N x (List.mem_append_left _ hx)).2.2
    rw [this] at e; cases e
  have st : h₀.StaysIn (hideAll s.heap (nc.map (·.1))) := fun b o e => hideAll_get _ (F.keep b o e) (hn b o e)
  obtain ⟨oL, es, ep, hL, hLd, hLk, hLf⟩ := F.ns
  have nL : L ∉ nc.map (·.1) := fun q => by
    obtain ⟨x, hx, e⟩ := List.mem_map.mp q
    exact (N x (List.mem_append_left _ hx)).2.1 e
  have hLg := hideAll_get (nc.map (·.1)) hL nL
  have hr : ∀ q ∈ rest, (hideAll s.heap (nc.map (·.1))).get? q.1 = some q.2 := fun q hq => hideAll_get _ (N q (List.mem_append_right _ hq)).1 (hnd q hq)
  refine codeAny_mono (call _ st hr ⟨fun b o e => of_hideAll _ e, Nat.le_of_eq (hideAll_size _ _), fun q hq => ⟨(N q (List.mem_append_left _ hq)).1, hideAll_none _ (List.mem_map_of_mem hq)⟩⟩) fun r s' hb => ?_
  obtain ⟨v, led, h', tk, rfl, rfl, S, hp⟩ := hb
  refine k v led h' tk hp ⟨⟨oL, es, ep, S.stays L oL hLg, hLd, hLk, hLf⟩, fun b o e => S.stays b o (st b o e), F.above⟩ (fun q hq => ?_) fun q hq q' hq' e => ?_
  · rcases List.mem_append.mp hq with hq | hq
    · refine ⟨(S.led q hq).1, fun e => ?_, ?_⟩
      · have := (S.led q hq).2; rw [e, hLg] at this; cases this
      · cases e : h₀.get? q.1 with
        | none => rfl
        | some o => have := (S.led q hq).2; rw [st _ _ e] at this; cases this
    · exact ⟨S.stays _ _ (hr q hq), (N q (List.mem_append_right _ hq)).2⟩
  · have := (S.led q hq).2; rw [e, hr q' hq'] at this; cases this
end
section
variable {prog : Program} {w : World} {A : Around} {E : Value → Shared → Prop} {s : Shared} {env : Env} {h₀ : Heap} {x : Str} {body : List Stmt} {Q : Flow → Shared → Prop}
def TurnBack (h₀ : Heap) (L : Addr) (I : Addr) (ob : Obj) (x : Str) (stored : List Str) (m₀ : Str → Option Value) (J : (Str → Option Value) → List (Addr × Obj) → Prop) (s : Shared) (Q : Flow → Shared → Prop) (f : Flow) (s₂ : Shared) : Prop :=
  match f with
  | .ret v => Q (.ret v) s₂
  | .brk => Q .next s₂
  | _ => ∃ h' tk' m' news', s₂ = { s with heap := h', toks := tk' } ∧ Fr h₀ L h' m' ∧ News h₀ L h' ((I, ob) :: news') ∧ (∀ q ∈ news', q.1 ≠ I) ∧ (∀ y, y ≠ x → stored.contains y = false → m' y = m₀ y) ∧ J m' news'
theorem TurnBack.next {L I : Addr} {ob : Obj} {stored : List Str} {m₀ m' : Str → Option Value} {J : (Str → Option Value) → List (Addr × Obj) → Prop} {h' : Heap} {tk' : Nat} {news' : List (Addr × Obj)}
    (F : Fr h₀ L h' m') (N : News h₀ L h' ((I, ob) :: news')) (hI : ∀ q ∈ news', q.1 ≠ I) (hm : ∀ y, y ≠ x → stored.contains y = false → m' y = m₀ y) (hJ : J m' news') :
    TurnBack h₀ L I ob x stored m₀ J s Q .next { s with heap := h', toks := tk' } := ⟨h', tk', m', news', rfl, F, N, hI, hm, hJ⟩
theorem TurnBack.ret {L I : Addr} {ob : Obj} {stored : List Str} {m₀ : Str → Option Value} {J : (Str → Option Value) → List (Addr × Obj) → Prop} {v : Value} {s₂ : Shared} (h : Q (.ret v) s₂) :
    TurnBack h₀ L I ob x stored m₀ J s Q (.ret v) s₂ := h
theorem turn_map {stored : List Str} {m₀ m₁ : Str → Option Value} {v : Option Value} (hJ : ∀ y, y ≠ x → stored.contains y = false → m₁ y = m₀ y) :
    (fun y => if y = x then v else m₁ y) = fun y => if y = x then v else if stored.contains y then m₁ y else m₀ y := by
  funext y
  by_cases h1 : y = x
  · simp [h1]
  · simp only [if_neg h1]
    cases h2 : stored.contains y with
    | true => simp
    | false => simp only [Bool.false_eq_true, if_false]; exact hJ y h1 h2
theorem done_map {stored : List Str} {m₀ m₁ : Str → Option Value} (hJ : ∀ y, y ≠ x → stored.contains y = false → m₁ y = m₀ y) :
    m₁ = fun y => if y = x then m₁ y else if stored.contains y then m₁ y else m₀ y := by
  funext y
  by_cases h1 : y = x
  · simp [h1]
  · simp only [if_neg h1]
    cases h2 : stored.contains y with
    | true => simp
    | false => simp only [Bool.false_eq_true, if_false]; exact hJ y h1 h2
theorem range_loop {r : Addr} {a₀ b₀ c₀ : Int} {t₀ u₀ v₀ : Tok} {n : Nat} {m₀ : Str → Option Value} {news : List (Addr × Obj)} (stored : List Str) (J : Nat → (Str → Option Value) → List (Addr × Obj) → Prop)
    (hh : A.handled = none) (hr : IsRange s.heap r a₀ b₀ c₀ t₀ u₀ v₀) (hsmall : Builtin.Range.small a₀ b₀ c₀ = true) (hn : Builtin.Range.rangeSize a₀ b₀ c₀ = (n : Int)) (F : Fr h₀ env.locals s.heap m₀) (N : News h₀ env.locals s.heap news)
    (h0 : J 0 m₀ news)
    (turn : ∀ i t u news₁ h tk I ob, i < n → J i u news₁ → (∀ q ∈ news₁, q.1 ≠ I) → Fr h₀ env.locals h (fun y => if y = x then some (.int (a₀ + (i : Int) * c₀) t) else if stored.contains y then u y else m₀ y) → News h₀ env.locals h ((I, ob) :: news₁) →
      wpAny (model prog w) A (execs body env) (TurnBack h₀ env.locals I ob x stored m₀ (J (i + 1)) { s with heap := h, toks := tk } Q) E { s with heap := h, toks := tk })
    (done : ∀ u news₁ h tk, J n u news₁ → Fr h₀ env.locals h (fun y => if y = x then u y else if stored.contains y then u y else m₀ y) → News h₀ env.locals h news₁ → Q .next { s with heap := h, toks := tk }) :
    wpAny (model prog w) A (pyIter (.ref r)) (fun it s₂ => LoopAtV prog w A h₀ env x body Q E it s₂) E s := by
  refine wpAny_pyIter_range hr hsmall ?_
  have W : Walks prog w A s.heap.objs.size [s.heap.objs.size] [s.heap.objs.size] n (fun i v => i < n ∧ ∃ t, v = .int (a₀ + i * c₀) t)
      (fun i h => IsRangeIter h s.heap.objs.size (a₀ + (i : Nat) * c₀) ((n : Int) - (i : Nat)) c₀) := (Walks.range hh _ a₀ c₀ n).bound
  have hnew := next_is_new F
  refine ⟨_, _, _, n, _, _, m₀, news, fun i m led => (∀ y, y ≠ x → stored.contains y = false → m y = m₀ y) ∧ J i m led, rfl, W, ?_, ?_, ?_, (by show IsRangeIter _ _ _ _ _; rw [hn]; simpa using Heap.get?_push_size _ rfl), F.push _, (fun p hp => ⟨Heap.get?_push_of_some _ (N p hp).1, (N p hp).2⟩), ⟨fun _ _ _ => rfl, h0⟩, ?_, ?_⟩
  · intro hm
    exact absurd F.ns.lt ((List.mem_singleton.mp hm) ▸ Nat.lt_irrefl _)
  · intro b hb
    rw [List.mem_singleton.mp hb]
    exact hnew
  · intro p hp hI
    exact absurd (Heap.lt_size (N p hp).1) ((List.mem_singleton.mp hI) ▸ Nat.lt_irrefl _)
  · rintro i v m₁ news₁ s₁ own ⟨hh', tk', rfl⟩ hin ⟨_, t, rfl⟩ ⟨hloc, hJ⟩ hoff hown hget hall hst F₁ N₁
    have hst' : hh'.get? s.heap.objs.size = some (krsIt (a₀ + ((i + 1 : Nat) : Int) * c₀) ((n : Int) - ((i + 1 : Nat) : Int)) c₀) := hst
    have hmem := hall s.heap.objs.size (List.mem_singleton.mpr rfl) hnew _ hst'
    have N₂ : News h₀ env.locals hh' ((s.heap.objs.size, krsIt (a₀ + ((i + 1 : Nat) : Int) * c₀) ((n : Int) - ((i + 1 : Nat) : Int)) c₀) :: news₁) := fun p hp => by
      rcases List.mem_cons.mp hp with rfl | hp
      · exact N₁ _ (List.mem_append_left _ hmem)
      · exact N₁ _ (List.mem_append_right _ hp)
    rw [turn_map hloc] at F₁
    refine wpAny_mono (turn i t m₁ news₁ hh' tk' _ _ hin hJ (fun q hq e => hoff q hq (by rw [e]; exact List.mem_singleton.mpr rfl)) F₁ N₂) (fun f s₂ p => ?_) fun _ _ e => e
    have fin : (∃ h' tk m' news', s₂ = { s with heap := h', toks := tk } ∧ Fr h₀ env.locals h' m' ∧ News h₀ env.locals h' ((s.heap.objs.size, krsIt (a₀ + ((i + 1 : Nat) : Int) * c₀) ((n : Int) - ((i + 1 : Nat) : Int)) c₀) :: news') ∧ (∀ q ∈ news', q.1 ≠ s.heap.objs.size) ∧ (∀ y, y ≠ x → stored.contains y = false → m' y = m₀ y) ∧ J (i + 1) m' news') →
        LoopStepU h₀ env.locals [s.heap.objs.size] own (fun m led => (∀ y, y ≠ x → stored.contains y = false → m y = m₀ y) ∧ J (i + 1) m led) { s with heap := hh', toks := tk' } .next s₂ := by
      rintro ⟨h', tk, m', news', e, F', N', ho, r⟩
      refine ⟨rfl, h', tk, m', news', e, F', fun p hp => ?_, fun p hp hI => ho p hp (List.mem_singleton.mp hI), r⟩
      rcases List.mem_append.mp hp with hp | hp
      · have h1 : p.1 = s.heap.objs.size := List.mem_singleton.mp (hown p hp)
        have h2 : hh'.get? p.1 = some p.2 := hget p hp
        rw [h1, hst'] at h2
        have := N' _ (.head _)
        refine ⟨?_, ?_, ?_⟩
        · rw [h1, ← Option.some.inj h2]; exact this.1
        · rw [h1]; exact this.2.1
        · rw [h1]; exact this.2.2
      · exact N' p (.tail _ hp)
    cases f with
    | ret v => exact .ret p
    | brk => exact .brk p
    | next => exact .next (fin p)
    | cont => exact .cont (fin p)
  · rintro h' tk m' news' F' N' _ ⟨hloc, hJ⟩
    rw [done_map hloc] at F'
    exact done m' news' h' tk hJ F' N'
theorem news_sub {h : Heap} {L : Addr} {a b : List (Addr × Obj)} (N : News h₀ L h a) (hs : ∀ q ∈ b, q ∈ a) : News h₀ L h b := fun q hq => N q (hs q hq)
def Hold (P : Prop) : Prop := P
theorem Hold.of {P : Prop} (h : Hold P) : P := h
theorem Hold.out {P : Prop} (h : P) : Hold P := h
theorem inst_up {g h : Heap} {x C : Addr} {ox : Obj} {od : Option Obj} (I : InstAt g x ox C od) (k : ∀ b o, g.get? b = some o → h.get? b = some o) : InstAt h x ox C od := by
  refine ⟨k _ _ I.at_, I.cls, I.no, ?_⟩
  have := I.dict
  cases h1 : ox.dict with
  | none => rw [h1] at this; cases od with
    | none => trivial
    | some o => exact this
  | some d => rw [h1] at this; cases od with
    | none => exact this
    | some o => exact k _ _ this
def tx (l : List Nat) : Str := ⟨l.toArray⟩
def chr (c : Nat) : Str := tx [c]
theorem tx_length (l : List Nat) : (tx l).length = l.length := by simp [tx, Str.length]
theorem chr_eq (c d : Nat) : (chr c == chr d) = decide (c = d) := by
  by_cases h : c = d
  · subst h; simp
  · have : chr c ≠ chr d := fun e => h (by simpa [chr, tx] using e)
    simp [h, this]
end
end Mine
end Fw_part
section Sc_part
open PySem PySem.W PyProof.Rows PySem.Calls
namespace Mine
theorem fill_ : PySem.Challenge.rw_sx0025_01 = PySem.Challenge.rw_sx0025_01 ∧ hd.heap_39 = hd.heap_39 := by
  k_fill
  exact ⟨rfl, rfl⟩
theorem lit_plus : Str.ofString "+" = chr 43 := by decide
theorem lit_minus : Str.ofString "-" = chr 45 := by decide
theorem lit_bar : Str.ofString "|" = chr 124 := by decide
theorem lit_blank : Str.ofString " " = chr 32 := by decide
def gch (G : List (List Nat)) (i j : Int) : Nat := (G.getD i.toNat []).getD j.toNat 0
structure GridAt (h : Heap) (sb : Addr) (G : List (List Nat)) (W : Nat) : Prop where
  ex : ∃ vs, h.IsList sb vs.toArray ∧ StrsAre vs (G.map tx)
  wid : ∀ r ∈ G, r.length = W
  hi : G.length ≤ 64
  wi : W ≤ 64
section
variable {prog : Program} {w : World} {A : Around} {E : Value → Shared → Prop} {s : Shared} {g : Heap} {L : Addr} {m : Str → Option Value} {value slice : Expr} {Q : Value → Shared → Prop}
theorem GridAt.row {sb : Addr} {G : List (List Nat)} {W : Nat} {k : Int} {u : Tok} (F : Fr g L s.heap m) (Y : GridAt g sb G W) (h0 : 0 ≤ k) (hk : k < G.length) (h : ∀ t, Q (.str (tx (G.getD k.toNat [])) t) s)
    (hs : subscripted slice false (.ref sb) (.int k u) = operate [.ref sb, .int k u] (getItem (.ref sb) (.int k u)) := by with_unfolding_all rfl) :
    wpAny (model prog w) A (subscriptTail value slice (.ref sb) (.int k u)) Q E s := by
  obtain ⟨vs, hl, hi⟩ := Y.ex
  have := Y.hi
  refine item_strsR (hl.at fun o e => F.keep _ o e) hi h0 (by simpa using hk) (by omega) (fun t => ?_) hs
  have e : (G.map tx).getD k.toNat Str.empty = tx (G.getD k.toNat []) := by
    have hlt : k.toNat < G.length := by omega
    simp [List.getD, hlt]
  rw [e]
  exact h t
theorem item_tx {r : List Nat} {j : Int} {t u : Tok} (h0 : 0 ≤ j) (hj : j < r.length) (hr : r.length ≤ 64) (h : ∀ t tk, Q (.str (chr (r.getD j.toNat 0)) t) { s with toks := tk })
    (hs : subscripted slice false (.str (tx r) t) (.int j u) = operate [.str (tx r) t, .int j u] (getItem (.str (tx r) t) (.int j u)) := by with_unfolding_all rfl)
    (ht : ∀ v, letTemporaryGo value (.str (tx r) t) v = pure () := by intro _; with_unfolding_all rfl) :
    wpAny (model prog w) A (subscriptTail value slice (.str (tx r) t) (.int j u)) Q E s := by
  refine item_str (fitsSsize_of (N := 64) (by omega) (by omega) (by decide)) (by rw [tx_length]; omega) (by rw [tx_length]; omega) (fun _ => ?_) hs ht
  have e : Txt.item (tx r) j = chr (r.getD j.toNat 0) := by
    unfold Txt.item Txt.charAt chr tx
    have hlt : j.toNat < r.length := by omega
    have h1 : seqIndex? j (Str.length ⟨r.toArray⟩) = some j.toNat := by
      unfold seqIndex?
      rw [if_neg (by omega : ¬ j < 0)]
      have : (Str.length ⟨r.toArray⟩) = r.length := by simp [Str.length]
      rw [this]
      simp [h0, hj]
    simp [h1, hlt, List.getD]
  rw [e]
  exact h _ _
theorem GridAt.item {sb : Addr} {G : List (List Nat)} {W : Nat} {k j : Int} {t u : Tok} (Y : GridAt g sb G W) (h0 : 0 ≤ k) (hk : k < G.length) (h1 : 0 ≤ j) (hj : j < W) (h : ∀ t tk, Q (.str (chr (gch G k j)) t) { s with toks := tk })
    (hs : subscripted slice false (.str (tx (G.getD k.toNat [])) t) (.int j u) = operate [.str (tx (G.getD k.toNat [])) t, .int j u] (getItem (.str (tx (G.getD k.toNat [])) t) (.int j u)) := by with_unfolding_all rfl)
    (ht : ∀ v, letTemporaryGo value (.str (tx (G.getD k.toNat [])) t) v = pure () := by intro _; with_unfolding_all rfl) :
    wpAny (model prog w) A (subscriptTail value slice (.str (tx (G.getD k.toNat [])) t) (.int j u)) Q E s := by
  have hlt : k.toNat < G.length := by omega
  have e : (G.getD k.toNat []).length = W := by
    have : G.getD k.toNat [] = G[k.toNat] := by simp [List.getD, hlt]
    rw [this]; exact Y.wid _ (List.getElem_mem _)
  have := Y.wi
  exact item_tx h1 (by omega) (by omega) h hs ht
theorem eq_chrL {c d : Nat} {y : Str} {t u : Tok} (hy : y = chr d) (h : Q (.bool (decide (c = d))) s) : wpAny (model prog w) A (compareOp .Eq (.str (chr c) t) (.str y u)) Q E s := by
  subst hy; exact eq_str (by rw [chr_eq]; exact h)
theorem ne_chrL {c d : Nat} {y : Str} {t u : Tok} (hy : y = chr d) (h : Q (.bool (decide (c ≠ d))) s) : wpAny (model prog w) A (compareOp .NotEq (.str (chr c) t) (.str y u)) Q E s := by
  subst hy; exact ne_str (by rw [show (chr c != chr d) = decide (c ≠ d) by rw [bne, chr_eq]; simp]; exact h)
theorem eq_chr {c d : Nat} {t u : Tok} (h : Q (.bool (decide (c = d))) s) : wpAny (model prog w) A (compareOp .Eq (.str (chr c) t) (.str (chr d) u)) Q E s :=
  eq_str (by rw [chr_eq]; exact h)
theorem ne_chr {c d : Nat} {t u : Tok} (h : Q (.bool (decide (c ≠ d))) s) : wpAny (model prog w) A (compareOp .NotEq (.str (chr c) t) (.str (chr d) u)) Q E s :=
  ne_str (by rw [show (chr c != chr d) = decide (c ≠ d) by rw [bne, chr_eq]; simp]; exact h)
end
def addKey (ks : List Int) (k : Int) : List Int := if k ∈ ks then ks else ks ++ [k]
structure DL (prog : Program) (w : World) (o : Obj) (led : List (Addr × Obj)) (keys : List Int) (B : Nat) : Prop where
  ex : ∃ kvs : List (Int × Value), o.IsDictOf (intKind prog w) kvs ∧ kvs.map (·.1) = keys ∧ ∀ kv ∈ kvs, ∃ a ys c, kv.2 = .ref a ∧ (a, listOf ys c) ∈ led ∧ ys.size ≤ B
theorem stored_keys (kvs : List (Int × Value)) (k : Int) (v : Value) : (stored kvs k v).map (·.1) = addKey (kvs.map (·.1)) k := by
  unfold stored addKey
  have e : (kvs.any fun kv => decide (kv.1 = k)) = true ↔ k ∈ kvs.map (·.1) := by
    simp only [List.any_eq_true, decide_eq_true_eq, List.mem_map]
  by_cases h : k ∈ kvs.map (·.1)
  · rw [if_pos (e.mpr h), if_pos h]
    exact keys_map_store kvs k v
  · rw [if_neg (fun q => h (e.mp q)), if_neg h]; simp
theorem mem_stored {kvs : List (Int × Value)} {k : Int} {v : Value} {x : Int × Value} (h : x ∈ stored kvs k v) : x ∈ kvs ∨ x.2 = v := by
  unfold stored at h
  split at h
  · obtain ⟨y, hy, rfl⟩ := List.mem_map.mp h
    split
    · exact .inr rfl
    · exact .inl hy
  · rcases List.mem_append.mp h with h | h
    · exact .inl h
    · rw [List.mem_singleton.mp h]; exact .inr rfl
theorem DL.new {prog : Program} {w : World} {o : Obj} {led : List (Addr × Obj)} {B : Nat} (h : o.IsDictOf (intKind prog w) []) : DL prog w o led [] B := ⟨⟨[], h, rfl, fun _ h => nomatch h⟩⟩
theorem DL.store {prog : Program} {w : World} {o' : Obj} {led led' : List (Addr × Obj)} {kvs : List (Int × Value)} {B : Nat} {k : Int} {a : Addr} {ys : Array Value} {c : Nat}
    (h' : o'.IsDictOf (intKind prog w) (stored kvs k (.ref a)))
    (hv : ∀ kv ∈ kvs, ∃ a ys c, kv.2 = .ref a ∧ (a, listOf ys c) ∈ led ∧ ys.size ≤ B) (hl : ∀ q ∈ led, q ∈ led') (ha : (a, listOf ys c) ∈ led') (hy : ys.size ≤ B) :
    DL prog w o' led' (addKey (kvs.map (·.1)) k) B := by
  refine ⟨⟨_, h', stored_keys kvs k _, fun kv hkv => ?_⟩⟩
  rcases mem_stored hkv with h | h
  · obtain ⟨a, ys, c, e1, e2, e3⟩ := hv kv h
    exact ⟨a, ys, c, e1, hl _ e2, e3⟩
  · exact ⟨a, ys, c, h, ha, hy⟩
def scanK (pl : Int → Bool) (pos : Nat → Int) (n : Nat) : List Int := (List.range n).foldl (fun ks j => if pl (pos j) then addKey ks (pos j) else ks) []
theorem scanK_succ (pl : Int → Bool) (pos : Nat → Int) (n : Nat) : scanK pl pos (n + 1) = if pl (pos n) then addKey (scanK pl pos n) (pos n) else scanK pl pos n := by
  unfold scanK; rw [List.range_succ, List.foldl_append]; rfl
theorem addKey_length (ks : List Int) (k : Int) : (addKey ks k).length ≤ ks.length + 1 := by unfold addKey; split <;> simp
theorem scanK_length (pl : Int → Bool) (pos : Nat → Int) (n : Nat) : (scanK pl pos n).length ≤ n := by
  induction n with
  | zero => simp [scanK]
  | succ n ih =>
    rw [scanK_succ]
    split
    · have := addKey_length (scanK pl pos n) (pos n); omega
    · omega
def scanUp (G : List (List Nat)) (top left bottom : Int) : Option (List Int) :=
  if ∀ j < (bottom - 1 - top).toNat, gch G (bottom - 1 - j) left = 43 ∨ gch G (bottom - 1 - j) left = 124 then
    some (scanK (fun i => decide (gch G i left = 43)) (fun j => bottom - 1 - j) (bottom - 1 - top).toNat) else none
local macro_rules | `(tactic| walk_at "zz0") => `(tactic| fail)
local macro_rules | `(tactic| walk_at "zz1") => `(tactic| fail)
local macro_rules | `(tactic| walk_at "zz2") => `(tactic| fail)
local macro_rules | `(tactic| walk_at "zz3") => `(tactic| fail)
local macro_rules | `(tactic| walk_at "zz4") => `(tactic| fail)
local macro_rules | `(tactic| walk_at "zz5") => `(tactic| fail)
local macro_rules | `(tactic| walk_at "zz6") => `(tactic| fail)
local macro_rules | `(tactic| walk_at "zz7") => `(tactic| fail)
local macro_rules | `(tactic| walk_at "zz8") => `(tactic| fail)
local macro_rules | `(tactic| walk_at "zz9") => `(tactic| fail)
local macro_rules | `(tactic| walk_at "zz10") => `(tactic| fail)
local macro_rules | `(tactic| walk_at "zz11") => `(tactic| fail)
local macro_rules | `(tactic| walk_at "zz12") => `(tactic| fail)
local macro_rules | `(tactic| walk_at "zz13") => `(tactic| fail)
local macro_rules | `(tactic| walk_at "zz14") => `(tactic| fail)
local macro_rules | `(tactic| walk_at "zz15") => `(tactic| fail)
local macro_rules | `(tactic| walk_at "zz16") => `(tactic| fail)
local macro_rules | `(tactic| walk_at "zz17") => `(tactic| fail)
local macro_rules | `(tactic| walk_at "zz18") => `(tactic| fail)
local macro_rules | `(tactic| walk_at "zz19") => `(tactic| fail)
local macro_rules | `(tactic| walk_at "zz20") => `(tactic| fail)
local macro_rules | `(tactic| walk_at "zz21") => `(tactic| fail)
local macro_rules | `(tactic| walk_at "zz22") => `(tactic| fail)
local macro_rules | `(tactic| walk_at "zz23") => `(tactic| fail)
local macro_rules | `(tactic| walk_at "zz24") => `(tactic| fail)
local macro_rules | `(tactic| walk_at "zz25") => `(tactic| fail)
local macro_rules | `(tactic| walk_at "zz26") => `(tactic| fail)
local macro_rules | `(tactic| walk_at "zz27") => `(tactic| fail)
local macro_rules | `(tactic| walk_at "zz28") => `(tactic| fail)
local macro_rules | `(tactic| walk_at "zz29") => `(tactic| fail)
local macro_rules | `(tactic| k_all) => `(tactic| assumption)
local macro_rules | `(tactic| walk_at "pyIter ref") => `(tactic| refine Hold.of ?_)
local macro_rules | `(tactic| walk_at "call ref") => `(tactic| refine Hold.of ?_)
local macro_rules | `(tactic| walk_at "exec For Name Call cons nil") => `(tactic| ((rename Fr _ _ _ _ => lF'); (with_unfolding_all refine' For_invVF lF' ?k1 ?k2 ?_; (case k1 => exact rfl); (case k2 => exact rfl); k_whole)))
local macro_rules | `(tactic| walk_at "getAttr ref") => `(tactic| (k_dflt (refine' get_own ?k1 ?k2 (inst_up ?k3 (Fr.keep ?k1)) ?k4 ?k5 ?k6 ?k7 ?k8 ?k9 ?_; (case k1 => k_asm); (case k2 => k_asm); (case k3 => k_asm); (case k4 => k_is); (case k5 => k_is); (case k6 => k_is); (case k7 => k_is); (case k8 => k_asm); (case k9 => k_handed); k_whole)))
local macro_rules | `(tactic| walk_at "subscriptTail Attribute Name Name ref int") => `(tactic| (k_dflt (refine' GridAt.row ?F ?Y ?a ?b ?_; (case F => k_asm); (case Y => k_asm); (case a => omega); (case b => omega); k_whole); intro _))
local macro_rules | `(tactic| walk_at "subscriptTail Subscript Attribute Name Name str int") => `(tactic| (k_dflt (refine' GridAt.item ?Y ?a ?b ?c ?d ?_; (case Y => k_asm); (case a => omega); (case b => omega); (case c => omega); (case d => omega); k_whole); intro _ _))
local macro_rules | `(tactic| walk_at "compareOp Eq str str") => `(tactic| (refine eq_chrL (by first | exact lit_plus | exact lit_bar | exact lit_minus) ?_))
local macro_rules | `(tactic| walk_at "compareOp NotEq str str") => `(tactic| (refine ne_chrL (by first | exact lit_plus | exact lit_bar | exact lit_minus) ?_))
local macro_rules | `(tactic| walk_at "eval Name") => `(tactic| (k_dflt (refine' ld ?k1 ?k2 ?_ ?k3 ?k4 ?k5; (case k1 => k_asm); (case k2 => exact rfl); (case k3 => kernel_rfl); (case k4 => kernel_rfl); (case k5 => kernel_rfl); k_whole)))
local macro_rules | `(tactic| walk_at "setItem ref int") => `(tactic| (k_dflt (refine' kda_set (knd := PySem.intKind _ _) ?F ?N ?U ?d (intKind_is _ _ _ _) ?z ?_; (case F => k_asm); (case N => k_asm); (case U => k_updF); (case d => k_asm); (case z => rw [sizeLine_eq]; omega)); intro h' o' F' N' hd'; (try dsimp only at N')))
local macro_rules | `(tactic| walk_at "TurnBack") => `(tactic| refine TurnBack.ret ?_)
local macro_rules | `(tactic| walk_at "go") => `(tactic| repeat' (first | (k_unfold; (try dsimp only)) | walk1 | (dsimp only; walk1) | (dsimp only; k_unfold; (try dsimp only))))
theorem scan_up {prog : Program} {w : World} {s : Shared} {g : Heap} {mg mb : Str → Option Value} {p : Program} {loose : List Str} {self dx sb : Addr} {es : List DictEntry} {n W : Nat} {G : List (List Nat)}
   {top left bottom right : Int} {t1 t2 t3 t4 : Tok}
   (X : (hd.heap_39 w.params).In g) (T : TopRead p loose mg mb g) (S : St g s.heap [])
   (I : InstAt g self (instObj 245 dx) 245 (some (dictOf es n))) (hsb : getL "stripped_block" es = some (some (.ref sb)))
   (Y : GridAt g sb G W) (ht : 0 ≤ top) (htb : top < bottom) (hb : bottom ≤ G.length) (hl0 : 0 ≤ left) (hlw : left < W) :
   codeAny (model prog w) (lv 900 5000) (.call (.ref 237) ⟨[.ref self, .int top t1, .int left t2, .int bottom t3, .int right t4], []⟩) (Back g s fun v led => match scanUp G top left bottom with
     | none => v = .none
     | some ks => ∃ d o lists, v = .ref d ∧ led = (d, o) :: lists ∧ DL prog w o lists ks 1 ∧ (d == sysModules) = false ∧ ∀ q ∈ lists, q.1 ≠ d) s := by
  k_dflt (refine' enter (binds := [("self", .ref self), ("top", .int top t1), ("left", .int left t2), ("bottom", .int bottom t3), ("right", .int right t4)]) X T S ?k6 ?k7 ?k8 ?k9 ?kB ?_ ?c2 ?c3 ?c4 ?c5; (case k6 => k_is); (case k7 => k_is); (case k8 => decide); (case k9 => exact BindsTo.of_eq rfl); (case kB => exact locs rfl); (case c5 => decide); (case c2 => rfl); (case c3 => rfl); (case c4 => rfl))
  intro L h₁ F N
  k_fold
  walk_at "go"
  rename_i d _ o lo' _ _ hi' _ _ _ _ _ _ _ _ _ _ R F' N' _
  have hG := Y.hi
  have hW := Y.wi
  refine Hold.out ?_
  have hd0 : DL prog w o [] [] 1 := DL.new hi'
  refine range_loop (n := (bottom - 1 - top).toNat) [] (fun i u led => (∀ j < i, gch G (bottom - 1 - (j : Nat)) left = 43 ∨ gch G (bottom - 1 - (j : Nat)) left = 124) ∧ ∃ o lists, led = (d, o) :: lists ∧ DL prog w o lists (scanK (fun i => decide (gch G i left = 43)) (fun j => bottom - 1 - j) i) 1 ∧ ∀ q ∈ lists, q.1 ≠ d) rfl R (small_down (by omega) (by omega) (by omega) (by omega)) (rangeSize_downNat _ _) F' N' ⟨fun j h => absurd h (Nat.not_lt_zero j), _, _, rfl, hd0, fun _ h => nomatch h⟩ ?_ ?_
  · rintro i t u news₁ h tk I ob hin ⟨hall, o, lists, rfl, ⟨kvs, hd, hk, hv⟩, hne⟩ hoff F N
    obtain ⟨hdI, hlI⟩ := List.forall_mem_cons.mp hoff
    rw [show bottom - 1 + (i : Int) * (-1) = bottom - 1 - i by omega] at F
    replace hdI := neN hdI
    have hId := neN (Ne.symm hdI)
    have hlen : kvs.length ≤ 64 := by
      have h1 := congrArg List.length hk
      rw [List.length_map] at h1
      have h2 := scanK_length (fun i => decide (gch G i left = 43)) (fun j => bottom - 1 - j) i
      omega
    clear F' N' R hd0 hi'
    with_reducible show wpAny _ _ _ _ _ _
    k_fold
    walk_at "go"
    · rename_i hc _ l' _ _ _ lt' _ o' F'' N'' hd'
      refine TurnBack.next (by assumption) (news_sub (b := (I, ob) :: (d, o') :: (l', listOf #[.int left t2] 0) :: lists) N'' (by intro q hq; simp only [List.mem_cons] at hq ⊢; rcases hq with h | h | h | h <;> simp only [h, true_or, or_true])) (List.forall_mem_cons.mpr ⟨hdI, List.forall_mem_cons.mpr ⟨Nat.ne_of_gt lt'.1, hlI⟩⟩) (by intro y h1 h2; simp [h1]) ⟨fun j hj => ?_, _, _, rfl, ?_, List.forall_mem_cons.mpr ⟨Nat.ne_of_gt lt'.2.1, hne⟩⟩
      · by_cases hji : j = i
        · subst hji; exact .inl hc
        · exact hall j (by omega)
      · rw [scanK_succ, if_pos (by simpa using hc), ← hk]
        exact DL.store hd' hv (fun q hq => .tail _ hq) (.head _) (by simp)
    · rename_i h43 _ _ _ _ h124
      refine Back.intro F N ?_
      have e : scanUp G top left bottom = none := by
        unfold scanUp
        refine if_neg fun hh => ?_
        exact (hh i hin).elim h43 h124
      rw [e]
    · rename_i h43 _ _ _ _ h124
      refine TurnBack.next F N hoff (by intro y h1 h2; simp [h1]) ⟨fun j hj => ?_, _, _, rfl, ?_, hne⟩
      · by_cases hji : j = i
        · subst hji; exact .inr (Decidable.not_not.mp h124)
        · exact hall j (by omega)
      · rw [scanK_succ, if_neg (by simpa using h43)]
        exact ⟨⟨kvs, hd, hk, hv⟩⟩
  · rintro u news₁ h tk ⟨hall, o, lists, rfl, hd, hne⟩ F N
    clear F' N' R hd0 hi'
    walk_at "go"
    refine Back.intro F N ?_
    have e : scanUp G top left bottom = some (scanK (fun i => decide (gch G i left = 43)) (fun j => bottom - 1 - j) (bottom - 1 - top).toNat) := if_pos hall
    rw [e]
    exact ⟨d, o, lists, rfl, rfl, hd, lo', hne⟩
end Mine
end Sc_part
section Lp_part
open PySem PySem.W PyProof.Rows PySem.Calls
namespace Mine
def bindNames : List (Str × Value) → (Str → Option Value) → Str → Option Value
  | [], m => m
  | (x, v) :: r, m => bindNames r (fun y => if y = x then some v else m y)
theorem bindNames_off : ∀ (l : List (Str × Value)) (m : Str → Option Value) (y : Str), y ∉ l.map (·.1) → bindNames l m y = m y
  | [], _, _, _ => rfl
  | (x, v) :: r, m, y, h => by
    simp only [List.map_cons, List.mem_cons, not_or] at h
    show bindNames r (fun y => if y = x then some v else m y) y = m y
    rw [bindNames_off r _ y h.2]
    simp [h.1]
theorem bindNames_congr : ∀ (l : List (Str × Value)) (m m' : Str → Option Value), (∀ y, y ∉ l.map (·.1) → m y = m' y) → bindNames l m = bindNames l m'
  | [], m, m', h => by funext y; exact h y (by simp)
  | (x, v) :: r, m, m', h => by
    refine bindNames_congr r _ _ fun y hy => ?_
    by_cases e : y = x
    · simp [e]
    · simp only [if_neg e]
      exact h y (by simp only [List.map_cons, List.mem_cons, not_or]; exact ⟨e, hy⟩)
section
variable {prog : Program} {w : World} {A : Around} {s : Shared} {env : Env} {h₀ : Heap} {body : List Stmt} {Q : Flow → Shared → Prop}
def LoopRun (prog : Program) (w : World) (A : Around) (target : Expr) (env : Env) (body : List Stmt) (Q : Flow → Shared → Prop) (it : Value) (s₂ : Shared) : Prop :=
  codeAny (model prog w) A (.forLoop target it body [] env) (fun r s' => match r with | .ok f => Q f s' | .error _ => False) s₂
theorem For_run {target iter : Expr} {pos : Pos}
    (h : wpAny (model prog w) A (eval iter env) (fun xv s₁ => wpAny (model prog w) A (pyIter xv) (fun it s₂ => LoopRun prog w A target env body Q it s₂) (fun _ _ => False) s₁) (fun _ _ => False) s)
    (hs : ∀ x, foldedSetIterable iter env x = pure x := by intro _; rfl) :
    wpAny (model prog w) A (exec (.For target iter body [] pos) env) Q (fun _ _ => False) s :=
  wpAny_For (wpAny_mono h (fun _ _ h₁ => wpAny_mono h₁ (fun _ _ h₂ => codeAny_mono h₂ fun r s' hr => by cases r with | ok f => exact hr | error e => exact hr.elim) fun _ _ e => e) fun _ _ e => e) hs
def Turned (h₀ : Heap) (L : Addr) (own : List (Addr × Obj)) (xs stored : List Str) (m₀ : Str → Option Value) (off : List Addr) (J : (Str → Option Value) → List (Addr × Obj) → Prop) (s : Shared) (Q : Flow → Shared → Prop) (f : Flow) (s₂ : Shared) : Prop :=
  match f with
  | .ret v => Q (.ret v) s₂
  | .brk => Q .next s₂
  | _ => ∃ h' tk' m' news', s₂ = { s with heap := h', toks := tk' } ∧ Fr h₀ L h' m' ∧ News h₀ L h' (own ++ news') ∧ (∀ q ∈ news', q.1 ∉ off) ∧ (∀ y, y ∉ xs → y ∉ stored → m' y = m₀ y) ∧ J m' news'
section
variable {L : Addr} {own : List (Addr × Obj)} {xs stored : List Str} {m₀ m' : Str → Option Value} {off : List Addr} {J : (Str → Option Value) → List (Addr × Obj) → Prop} {h' : Heap} {tk' : Nat} {news' : List (Addr × Obj)}
theorem Turned.next (F : Fr h₀ L h' m') (N : News h₀ L h' (own ++ news')) (hI : ∀ q ∈ news', q.1 ∉ off) (hm : ∀ y, y ∉ xs → y ∉ stored → m' y = m₀ y) (hJ : J m' news') :
    Turned h₀ L own xs stored m₀ off J s Q .next { s with heap := h', toks := tk' } := ⟨h', tk', m', news', rfl, F, N, hI, hm, hJ⟩
theorem Turned.cont (F : Fr h₀ L h' m') (N : News h₀ L h' (own ++ news')) (hI : ∀ q ∈ news', q.1 ∉ off) (hm : ∀ y, y ∉ xs → y ∉ stored → m' y = m₀ y) (hJ : J m' news') :
    Turned h₀ L own xs stored m₀ off J s Q .cont { s with heap := h', toks := tk' } := ⟨h', tk', m', news', rfl, F, N, hI, hm, hJ⟩
theorem Turned.ret {v : Value} {s₂ : Shared} (h : Q (.ret v) s₂) : Turned h₀ L own xs stored m₀ off J s Q (.ret v) s₂ := h
theorem Turned.brk {s₂ : Shared} (h : Q .next s₂) : Turned h₀ L own xs stored m₀ off J s Q .brk s₂ := h
end
theorem own_of {h : Heap} : ∀ (fo : List Addr), (∀ b ∈ fo, ∃ o, h.get? b = some o) → ∃ own : List (Addr × Obj), own.map (·.1) = fo ∧ ∀ q ∈ own, h.get? q.1 = some q.2
  | [], _ => ⟨[], rfl, fun _ h => nomatch h⟩
  | b :: r, hb => by
    obtain ⟨o, ho⟩ := hb b (.head _)
    obtain ⟨own, e, k⟩ := own_of r fun c hc => hb c (.tail _ hc)
    exact ⟨(b, o) :: own, by rw [List.map_cons, e], fun q hq => by rcases List.mem_cons.mp hq with rfl | hq; exact ho; exact k q hq⟩
theorem names_stored {xs stored : List Str} {m₀ m₁ : Str → Option Value} {vs : List Value} (hl : xs.length = vs.length) (hJ : ∀ y, y ∉ xs → y ∉ stored → m₁ y = m₀ y) :
    bindNames (xs.zip vs) m₁ = bindNames (xs.zip vs) (fun y => if stored.contains y then m₁ y else m₀ y) := by
  refine bindNames_congr _ _ _ fun y hy => ?_
  have hy' : y ∉ xs := by rwa [List.map_fst_zip (by omega)] at hy
  cases h2 : stored.contains y with
  | true => simp
  | false => simp only [Bool.false_eq_true, if_false]; exact hJ y hy' (by simpa using h2)
theorem walk_run {x : Str} {px : Pos} {I : Addr} {fp wr : List Addr} {n : Nat} {P : Nat → Value → Prop} {Stt : Nat → Heap → Prop} {m₀ : Str → Option Value} {news : List (Addr × Obj)}
    (W : Walks prog w A I fp wr n P Stt) (fo : List Addr) (hfo : ∀ b ∈ fp, b ∈ fo ∨ ∃ o, h₀.get? b = some o) (hfn : ∀ b ∈ fo, b ≠ env.locals ∧ h₀.get? b = none) (hwr : ∀ b ∈ wr, b ∈ fo)
    (ex : ∀ i h, Stt i h → ∀ b ∈ fo, ∃ o, h.get? b = some o) (hx : env.kindOf x = some .local)
    (hp : (env.scope.kind == .class || (env.scope.kind == .module && env.locals != env.globals)) = false)
    (hst : Stt 0 s.heap) (F : Fr h₀ env.locals s.heap m₀) (N : News h₀ env.locals s.heap news) (hoff : ∀ q ∈ news, q.1 ∉ fo)
    (stored : List Str) (J : Nat → (Str → Option Value) → List (Addr × Obj) → Prop) (h0 : J 0 m₀ news)
    (turn : ∀ i v u news₁ h tk own, i < n → P i v → J i u news₁ → own.map (·.1) = fo → (∀ q ∈ news₁, q.1 ∉ fo) → Stt (i + 1) h → Fr h₀ env.locals h (fun y => if y = x then some v else if stored.contains y then u y else m₀ y) → News h₀ env.locals h (own ++ news₁) →
      wpAny (model prog w) A (execs body env) (Turned h₀ env.locals own [x] stored m₀ fo (J (i + 1)) { s with heap := h, toks := tk } Q) (fun _ _ => False) { s with heap := h, toks := tk })
    (done : ∀ u news₁ h tk, J n u news₁ → Fr h₀ env.locals h (fun y => if y = x then u y else if stored.contains y then u y else m₀ y) → News h₀ env.locals h news₁ → Q .next { s with heap := h, toks := tk }) :
    LoopRun prog w A (.Name x px) env body Q (.ref I) s := by
  have Lnew : h₀.get? env.locals = none := by
    cases e : h₀.get? env.locals with
    | none => rfl
    | some o => exact absurd (Nat.lt_of_lt_of_le (Heap.lt_size e) F.above) (Nat.lt_irrefl _)
  have hLf : env.locals ∉ fp := fun h => by
    rcases hfo _ h with h1 | ⟨o, h1⟩
    · exact (hfn _ h1).1 rfl
    · rw [Lnew] at h1; cases h1
  have hLw : env.locals ∉ wr := fun h => hLf (W.sub _ h)
  have old : ∀ b o, h₀.get? b = some o → b ∉ wr := fun b o e hb => by rw [(hfn b (hwr b hb)).2] at e; cases e
  refine codeAny_forLoop
    (fun k s' => ∃ h' tk m' news' i, s' = { s with heap := h', toks := tk } ∧ Stt i h' ∧ Fr h₀ env.locals h' m' ∧ News h₀ env.locals h' news' ∧ (∀ q ∈ news', q.1 ∉ fo) ∧ (∀ y, y ∉ [x] → y ∉ stored → m' y = m₀ y) ∧ J i m' news' ∧ i ≤ n ∧ k = n + 1 - i) ?_ (n + 1)
    ⟨s.heap, s.toks, m₀, news, 0, rfl, hst, F, N, hoff, fun _ _ _ => rfl, h0, Nat.zero_le _, rfl⟩
  rintro k s' ⟨h', tk, m', news', i, rfl, hst', F', N', hnw', hloc, hJ, hi, rfl⟩
  have next : ∀ h₁ : Heap, (∀ b o, b ∉ wr → h'.get? b = some o → h₁.get? b = some o) → Fr h₀ env.locals h₁ m' ∧ News h₀ env.locals h₁ news' := fun h₁ hk₁ =>
    ⟨⟨F'.ns.at' fun o e => hk₁ _ o hLw e, fun b o e => hk₁ b o (old b o e) (F'.keep b o e), F'.above⟩, fun p hp => ⟨hk₁ _ _ (fun q => hnw' p hp (hwr _ q)) (N' p hp).1, (N' p hp).2⟩⟩
  by_cases hlt : i < n
  · refine W.item i _ _ _ hlt hst' fun v h₁ tk₁ hP hst₁ hk₁ => ?_
    obtain ⟨F₁, N₁⟩ := next h₁ hk₁
    refine wpAny_assign_Name (wpAny_storeName_local hx F₁.ns (fun h₂ hn₂ hs₂ => ?_) hp)
    have F₂ := F₁.set hn₂ hs₂
    have hst₂ : Stt (i + 1) h₂ := W.frame _ _ _ hst₁ fun b hb o e => (hs₂.2 b fun q => hLf (q ▸ hb)).trans e
    obtain ⟨own, ho, hown⟩ := own_of fo (ex _ _ hst₂)
    have N₂ : News h₀ env.locals h₂ (own ++ news') := fun q hq => by
      rcases List.mem_append.mp hq with hq | hq
      · have : q.1 ∈ fo := ho ▸ List.mem_map_of_mem hq
        exact ⟨hown q hq, (hfn _ this).1, (hfn _ this).2⟩
      · exact N₁.set hs₂ q hq
    have e2 := names_stored (xs := [x]) (stored := stored) (vs := [v]) rfl hloc
    have e3 : (fun y => if y = x then some v else m' y) = fun y => if y = x then some v else if stored.contains y then m' y else m₀ y := e2
    rw [e3] at F₂
    refine wpAny_mono (turn i v m' news' h₂ _ own hlt hP hJ ho hnw' hst₂ F₂ N₂) (fun f s₃ h₃ => ?_) fun _ _ e => e.elim
    have fin : (∃ h' tk' m' news', s₃ = { s with heap := h', toks := tk' } ∧ Fr h₀ env.locals h' m' ∧ News h₀ env.locals h' (own ++ news') ∧ (∀ q ∈ news', q.1 ∉ fo) ∧ (∀ y, y ∉ [x] → y ∉ stored → m' y = m₀ y) ∧ J (i + 1) m' news') →
        ∃ m, m < n + 1 - i ∧ ∃ h' tk m' news' j, s₃ = { s with heap := h', toks := tk } ∧ Stt j h' ∧ Fr h₀ env.locals h' m' ∧ News h₀ env.locals h' news' ∧ (∀ q ∈ news', q.1 ∉ fo) ∧ (∀ y, y ∉ [x] → y ∉ stored → m' y = m₀ y) ∧ J j m' news' ∧ j ≤ n ∧ m = n + 1 - j := by
      rintro ⟨h₃', tk₃, m₂, news₂, e, F₃, N₃, ha₃, hl₃, hJ₃⟩
      refine ⟨n + 1 - (i + 1), by omega, h₃', tk₃, m₂, news₂, i + 1, e, ?_, F₃, fun q hq => N₃ q (List.mem_append_right _ hq), ha₃, hl₃, hJ₃, hlt, rfl⟩
      refine W.frame _ _ _ hst₂ fun b hb o e => ?_
      rcases hfo b hb with h1 | ⟨o₀, h1⟩
      · rw [← ho] at h1
        obtain ⟨q, hq, rfl⟩ := List.mem_map.mp h1
        have : q.2 = o := Option.some.inj ((hown q hq).symm.trans e)
        exact this ▸ (N₃ q (List.mem_append_left _ hq)).1
      · have : o₀ = o := Option.some.inj ((F₂.keep b o₀ h1).symm.trans e)
        exact this ▸ F₃.keep b o₀ h1
    cases f with
    | ret v => exact h₃
    | brk => exact h₃
    | cont => exact fin h₃
    | next => exact fin h₃
  · have hin : i = n := by omega
    subst hin
    refine W.done _ _ _ hst' fun h₁ tk₁ hk₁ => wpAny_execs_nil ?_
    obtain ⟨F₁, N₁⟩ := next h₁ hk₁
    have e3 : m' = fun y => if y = x then m' y else if stored.contains y then m' y else m₀ y := by
      funext y
      by_cases h1 : y = x
      · simp [h1]
      · simp only [if_neg h1]
        cases h2 : stored.contains y with
        | true => simp
        | false => simp only [Bool.false_eq_true, if_false]; exact hloc y (by simpa using h1) (by simpa using h2)
    rw [e3] at F₁
    exact done m' news' h₁ tk₁ hJ F₁ N₁
theorem assign_names {hp : (env.scope.kind == .class || (env.scope.kind == .module && env.locals != env.globals)) = false} : ∀ (xs : List (Str × Pos)) (vs : List Value) {s : Shared} {m : Str → Option Value} {Qu : Unit → Shared → Prop}
    (_ : ∀ x ∈ xs, env.kindOf x.1 = some .local) (_ : xs.length = vs.length) (_ : Fr h₀ env.locals s.heap m)
    (_ : ∀ h' tk', Fr h₀ env.locals h' (bindNames ((xs.map (·.1)).zip vs) m) → Heap.SameBut env.locals s.heap h' → Qu () { s with heap := h', toks := tk' }),
    wpAny (model prog w) A (assignInOrder ((assignEach (xs.map fun x => Expr.Name x.1 x.2) env).map (·.2)) vs) Qu (fun _ _ => False) s
  | [], [], s, m, Qu, _, _, F, h => wpAny_pure (h s.heap s.toks F (Heap.SameBut.refl _ _))
  | [], _ :: _, _, _, _, _, hl, _, _ => by simp at hl
  | _ :: _, [], _, _, _, _, hl, _, _ => by simp at hl
  | x :: xs, v :: vs, s, m, Qu, hk, hl, F, h => by
    show wpAny (model prog w) A (do holding vs (assign (.Name x.1 x.2) env v); assignInOrder ((assignEach (xs.map fun x => Expr.Name x.1 x.2) env).map (·.2)) vs) _ _ _
    refine wpAny_bind (wpAny_holding (wpAny_assign_Name (wpAny_storeName_local (hk x (.head _)) F.ns (fun h₂ hn₂ hs₂ => ?_) hp)))
    refine assign_names (hp := hp) xs vs (fun y hy => hk y (.tail _ hy)) (by simpa using hl) (F.set hn₂ hs₂) fun h' tk' F' hs' => ?_
    exact h h' tk' F' (hs₂.trans hs')
structure Wk (prog : Program) (w : World) (A : Around) (I : Addr) (fp wr : List Addr) (n : Nat) (Pt : Nat → Array Value → Prop) (Stt : Nat → Heap → Prop) (Mid : Nat → Addr → Heap → Prop) : Prop where
  sub : ∀ b ∈ wr, b ∈ fp
  frame : ∀ i h h', Stt i h → (∀ b ∈ fp, ∀ o, h.get? b = some o → h'.get? b = some o) → Stt i h'
  item : ∀ i (s : Shared) (Q : Option Value → Shared → Prop) (E : Value → Shared → Prop), i < n → Stt i s.heap →
    (∀ T vals h' tk, Pt i vals → h'.IsTuple T vals → Mid i T h' → (∀ b o, b ∉ wr → s.heap.get? b = some o → h'.get? b = some o) → Q (some (.ref T)) { s with heap := h', toks := tk }) →
    wpAny (model prog w) A (pyNext (.ref I)) Q E s
  go : ∀ (elts : List Expr) (k : Nat) (pos : Pos) i T (s : Shared) (Q : Unit → Shared → Prop) (E : Value → Shared → Prop), Mid i T s.heap →
    (∀ h', Stt (i + 1) h' → (∀ b o, b ∉ wr → s.heap.get? b = some o → h'.get? b = some o) → Q () { s with heap := h' }) →
    wpAny (model prog w) A (letOwnedTupleGo (.Tuple elts k pos) (.ref I) (.ref T)) Q E s
  apart : ∀ i T h, Mid i T h → T ∉ wr
  done : ∀ (s : Shared) (Q : Option Value → Shared → Prop) (E : Value → Shared → Prop), Stt n s.heap →
    (∀ h' tk, (∀ b o, b ∉ wr → s.heap.get? b = some o → h'.get? b = some o) → Q none { s with heap := h', toks := tk }) → wpAny (model prog w) A (pyNext (.ref I)) Q E s
theorem Wk.ofU {I : Addr} {fp wr : List Addr} {n : Nat} {Pt : Nat → Array Value → Prop} {Stt : Nat → Heap → Prop} {Mid : Nat → Addr → Heap → Prop} (W : WalksU prog w A I fp wr n Pt Stt Mid) : Wk prog w A I fp wr n Pt Stt Mid :=
  ⟨W.sub, W.frame, W.item, W.go, W.apart, W.done⟩
theorem walkU_run {xs : List (Str × Pos)} {k : Nat} {pt : Pos} {I : Addr} {fp wr : List Addr} {n : Nat} {Pt : Nat → Array Value → Prop} {Stt : Nat → Heap → Prop} {Mid : Nat → Addr → Heap → Prop} {m₀ : Str → Option Value} {news : List (Addr × Obj)}
    (W : Wk prog w A I fp wr n Pt Stt Mid) (hh : A.handled = none) (hlen : ∀ i vals, Pt i vals → vals.size = xs.length) (fo : List Addr) (hfo : ∀ b ∈ fp, b ∈ fo ∨ ∃ o, h₀.get? b = some o) (hfn : ∀ b ∈ fo, b ≠ env.locals ∧ h₀.get? b = none) (hwr : ∀ b ∈ wr, b ∈ fo)
    (ex : ∀ i h, Stt i h → ∀ b ∈ fo, ∃ o, h.get? b = some o) (hx : ∀ x ∈ xs, env.kindOf x.1 = some .local)
    (hp : (env.scope.kind == .class || (env.scope.kind == .module && env.locals != env.globals)) = false)
    (hst : Stt 0 s.heap) (F : Fr h₀ env.locals s.heap m₀) (N : News h₀ env.locals s.heap news) (hoff : ∀ q ∈ news, q.1 ∉ fo)
    (stored : List Str) (J : Nat → (Str → Option Value) → List (Addr × Obj) → Prop) (h0 : J 0 m₀ news)
    (turn : ∀ i vals u news₁ h tk own, i < n → Pt i vals → J i u news₁ → own.map (·.1) = fo → (∀ q ∈ news₁, q.1 ∉ fo) → Stt (i + 1) h → Fr h₀ env.locals h (bindNames ((xs.map (·.1)).zip vals.toList) (fun y => if stored.contains y then u y else m₀ y)) → News h₀ env.locals h (own ++ news₁) →
      wpAny (model prog w) A (execs body env) (Turned h₀ env.locals own (xs.map (·.1)) stored m₀ fo (J (i + 1)) { s with heap := h, toks := tk } Q) (fun _ _ => False) { s with heap := h, toks := tk })
    (done : ∀ u news₁ h tk, J n u news₁ → Fr h₀ env.locals h (fun y => if (xs.map (·.1)).contains y then u y else if stored.contains y then u y else m₀ y) → News h₀ env.locals h news₁ → Q .next { s with heap := h, toks := tk }) :
    LoopRun prog w A (.Tuple (xs.map fun x => Expr.Name x.1 x.2) k pt) env body Q (.ref I) s := by
  have Lnew : h₀.get? env.locals = none := by
    cases e : h₀.get? env.locals with
    | none => rfl
    | some o => exact absurd (Nat.lt_of_lt_of_le (Heap.lt_size e) F.above) (Nat.lt_irrefl _)
  have hLf : env.locals ∉ fp := fun h => by
    rcases hfo _ h with h1 | ⟨o, h1⟩
    · exact (hfn _ h1).1 rfl
    · rw [Lnew] at h1; cases h1
  have hLw : env.locals ∉ wr := fun h => hLf (W.sub _ h)
  have old : ∀ b o, h₀.get? b = some o → b ∉ wr := fun b o e hb => by rw [(hfn b (hwr b hb)).2] at e; cases e
  have hfind : ∀ l : List (Str × Pos), (assignEach (l.map fun x => Expr.Name x.1 x.2) env).findIdx? (·.1) = none ∧ (assignEach (l.map fun x => Expr.Name x.1 x.2) env).length = l.length := by
    intro l
    induction l with
    | nil => exact ⟨rfl, rfl⟩
    | cons x r ih =>
      have e : assignEach ((x :: r).map fun x => Expr.Name x.1 x.2) env = (false, assign (.Name x.1 x.2) env) :: assignEach (r.map fun x => Expr.Name x.1 x.2) env := rfl
      rw [e]
      refine ⟨?_, by simp [ih.2]⟩
      rw [List.findIdx?_cons, ih.1]
      rfl
  refine codeAny_forLoop_any
    (fun k s' => ∃ h' tk m' news' i, s' = { s with heap := h', toks := tk } ∧ Stt i h' ∧ Fr h₀ env.locals h' m' ∧ News h₀ env.locals h' news' ∧ (∀ q ∈ news', q.1 ∉ fo) ∧ (∀ y, y ∉ xs.map (·.1) → y ∉ stored → m' y = m₀ y) ∧ J i m' news' ∧ i ≤ n ∧ k = n + 1 - i) ?_ (n + 1)
    ⟨s.heap, s.toks, m₀, news, 0, rfl, hst, F, N, hoff, fun _ _ _ => rfl, h0, Nat.zero_le _, rfl⟩
  rintro k s' ⟨h', tk, m', news', i, rfl, hst', F', N', hnw', hloc, hJ, hi, rfl⟩
  have next : ∀ {h' h₁ : Heap} {m' : Str → Option Value} {news' : List (Addr × Obj)}, Fr h₀ env.locals h' m' → News h₀ env.locals h' news' → (∀ q ∈ news', q.1 ∉ fo) → (∀ b o, b ∉ wr → h'.get? b = some o → h₁.get? b = some o) → Fr h₀ env.locals h₁ m' ∧ News h₀ env.locals h₁ news' := fun F' N' hnw' hk₁ =>
    ⟨⟨F'.ns.at' fun o e => hk₁ _ o hLw e, fun b o e => hk₁ b o (old b o e) (F'.keep b o e), F'.above⟩, fun p hp => ⟨hk₁ _ _ (fun q => hnw' p hp (hwr _ q)) (N' p hp).1, (N' p hp).2⟩⟩
  by_cases hlt : i < n
  · refine W.item i _ _ _ hlt hst' fun T vals h₁ tk₁ hP hT hmid hk₁ => ?_
    obtain ⟨F₁, N₁⟩ := next F' N' hnw' hk₁
    refine W.go _ _ _ i T _ _ _ hmid fun h₁' hst₁ hk₁' => ?_
    have hT' : h₁'.IsTuple T vals := hT.at fun o e => hk₁' T o (W.apart _ _ _ hmid) e
    obtain ⟨F₁', N₁'⟩ := next F₁ N₁ hnw' hk₁'
    refine wpAny_mono (E := fun _ _ => False) ?_ (fun _ _ h => h) fun _ _ h => h.elim
    refine wpAny_assign_Tuple hh hT' ((hfind xs).2.trans (hlen _ _ hP).symm) (hfind xs).1 fun h₁'' hxe => ?_
    have hx' : ∀ b o, h₁'.get? b = some o → h₁''.get? b = some o := fun b o e => hxe b o (Nat.ne_of_lt (Heap.lt_size e)) e
    have F₁'' : Fr h₀ env.locals h₁'' m' := ⟨F₁'.ns.at' fun o e => hx' _ o e, fun b o e => hx' b o (F₁'.keep b o e), F₁'.above⟩
    refine assign_names (hp := hp) xs vals.toList hx (by simp only [Array.length_toList]; exact (hlen _ _ hP).symm) F₁'' fun h₂ tk₂ F₂ hs₂ => ?_
    replace hs₂ : Heap.SameBut env.locals h₁'' h₂ := hs₂
    have hst₂ : Stt (i + 1) h₂ := W.frame _ _ _ hst₁ fun b hb o e => (hs₂.2 b fun q => hLf (q ▸ hb)).trans (hx' b o e)
    obtain ⟨own, ho, hown⟩ := own_of fo (ex _ _ hst₂)
    have N₂ : News h₀ env.locals h₂ (own ++ news') := fun q hq => by
      rcases List.mem_append.mp hq with hq | hq
      · have : q.1 ∈ fo := ho ▸ List.mem_map_of_mem hq
        exact ⟨hown q hq, (hfn _ this).1, (hfn _ this).2⟩
      · exact ⟨(hs₂.2 _ (N₁' q hq).2.1).trans (hx' _ _ (N₁' q hq).1), (N₁' q hq).2⟩
    rw [names_stored (vs := vals.toList) (by simp only [Array.length_toList, List.length_map]; exact (hlen _ _ hP).symm) hloc] at F₂
    refine wpAny_mono (turn i vals m' news' h₂ tk₂ own hlt hP hJ ho hnw' hst₂ F₂ N₂) (fun f s₃ h₃ => ?_) fun _ _ e => e.elim
    have fin : (∃ h' tk' m' news', s₃ = { s with heap := h', toks := tk' } ∧ Fr h₀ env.locals h' m' ∧ News h₀ env.locals h' (own ++ news') ∧ (∀ q ∈ news', q.1 ∉ fo) ∧ (∀ y, y ∉ xs.map (·.1) → y ∉ stored → m' y = m₀ y) ∧ J (i + 1) m' news') →
        ∃ m, m < n + 1 - i ∧ ∃ h' tk m' news' j, s₃ = { s with heap := h', toks := tk } ∧ Stt j h' ∧ Fr h₀ env.locals h' m' ∧ News h₀ env.locals h' news' ∧ (∀ q ∈ news', q.1 ∉ fo) ∧ (∀ y, y ∉ xs.map (·.1) → y ∉ stored → m' y = m₀ y) ∧ J j m' news' ∧ j ≤ n ∧ m = n + 1 - j := by
      rintro ⟨h₃', tk₃, m₂, news₂, e, F₃, N₃, ha₃, hl₃, hJ₃⟩
      refine ⟨n + 1 - (i + 1), by omega, h₃', tk₃, m₂, news₂, i + 1, e, ?_, F₃, fun q hq => N₃ q (List.mem_append_right _ hq), ha₃, hl₃, hJ₃, hlt, rfl⟩
      refine W.frame _ _ _ hst₂ fun b hb o e => ?_
      rcases hfo b hb with h1 | ⟨o₀, h1⟩
      · rw [← ho] at h1
        obtain ⟨q, hq, rfl⟩ := List.mem_map.mp h1
        have : q.2 = o := Option.some.inj ((hown q hq).symm.trans e)
        exact this ▸ (N₃ q (List.mem_append_left _ hq)).1
      · have : o₀ = o := Option.some.inj ((F₂.keep b o₀ h1).symm.trans e)
        exact this ▸ F₃.keep b o₀ h1
    cases f with
    | ret v => exact h₃
    | brk => exact h₃
    | cont => exact fin h₃
    | next => exact fin h₃
  · have hin : i = n := by omega
    subst hin
    refine W.done _ _ _ hst' fun h₁ tk₁ hk₁ => wpAny_execs_nil ?_
    obtain ⟨F₁, N₁⟩ := next F' N' hnw' hk₁
    have e3 : m' = fun y => if (xs.map (·.1)).contains y then m' y else if stored.contains y then m' y else m₀ y := by
      funext y
      cases h1 : (xs.map (·.1)).contains y with
      | true => simp
      | false =>
        cases h2 : stored.contains y with
        | true => simp
        | false => simp only [Bool.false_eq_true, if_false]; exact hloc y (by simpa using h1) (by simpa using h2)
    rw [e3] at F₁
    exact done m' news' h₁ tk₁ hJ F₁ N₁
end
end Mine
end Lp_part
section Lp2_part
open PySem PySem.W PyProof.Rows PySem.Calls
namespace Mine
section
variable {prog : Program} {w : World} {A : Around} {s : Shared} {env : Env} {h₀ : Heap} {body : List Stmt} {Q : Flow → Shared → Prop}
theorem own_one {I : Addr} {own : List (Addr × Obj)} (h : own.map (·.1) = [I]) : ∃ ob, own = [(I, ob)] := by
  cases own with
  | nil => simp at h
  | cons p r =>
    obtain ⟨a, ob⟩ := p
    rw [List.map_cons] at h
    injection h with h1 h2
    have : r = [] := List.map_eq_nil_iff.mp h2
    subst this
    exact ⟨ob, by rw [← h1]⟩
theorem own_two {I l : Addr} {own : List (Addr × Obj)} (h : own.map (·.1) = [I, l]) : ∃ ob oc, own = [(I, ob), (l, oc)] := by
  cases own with
  | nil => simp at h
  | cons p r =>
    obtain ⟨a, ob⟩ := p
    rw [List.map_cons] at h
    injection h with h1 h2
    obtain ⟨oc, e⟩ := own_one h2
    exact ⟨ob, oc, by rw [← h1, e]⟩
theorem not_one {a I : Addr} : a ∉ [I] ↔ a ≠ I := by simp
theorem fr_new {L : Addr} {h : Heap} {m : Str → Option Value} (F : Fr h₀ L h m) : h.objs.size ≠ L ∧ h₀.get? h.objs.size = none := by
  refine ⟨Nat.ne_of_gt F.ns.lt, ?_⟩
  cases e : h₀.get? h.objs.size with
  | none => rfl
  | some o => exact absurd (Heap.lt_size (F.keep _ _ e)) (Nat.lt_irrefl _)
theorem range_run {x : Str} {px : Pos} {r : Addr} {a₀ b₀ c₀ : Int} {t₀ u₀ v₀ : Tok} {n : Nat} {m₀ : Str → Option Value} {news : List (Addr × Obj)} (stored : List Str) (J : Nat → (Str → Option Value) → List (Addr × Obj) → Prop)
    (hh : A.handled = none) (hr : IsRange s.heap r a₀ b₀ c₀ t₀ u₀ v₀) (hsmall : Builtin.Range.small a₀ b₀ c₀ = true) (hn : Builtin.Range.rangeSize a₀ b₀ c₀ = (n : Int)) (F : Fr h₀ env.locals s.heap m₀) (N : News h₀ env.locals s.heap news)
    (h0 : J 0 m₀ news)
    (turn : ∀ i t u news₁ h tk I ob, i < n → J i u news₁ → (∀ q ∈ news₁, q.1 ≠ I) → Fr h₀ env.locals h (fun y => if y = x then some (.int (a₀ + (i : Int) * c₀) t) else if stored.contains y then u y else m₀ y) → News h₀ env.locals h ((I, ob) :: news₁) →
      wpAny (model prog w) A (execs body env) (Turned h₀ env.locals [(I, ob)] [x] stored m₀ [I] (J (i + 1)) { s with heap := h, toks := tk } Q) (fun _ _ => False) { s with heap := h, toks := tk })
    (done : ∀ u news₁ h tk, J n u news₁ → Fr h₀ env.locals h (fun y => if y = x then u y else if stored.contains y then u y else m₀ y) → News h₀ env.locals h news₁ → Q .next { s with heap := h, toks := tk })
    (hx : env.kindOf x = some .local := by rfl)
    (hp : (env.scope.kind == .class || (env.scope.kind == .module && env.locals != env.globals)) = false := by rfl) :
    wpAny (model prog w) A (pyIter (.ref r)) (fun it s₂ => LoopRun prog w A (.Name x px) env body Q it s₂) (fun _ _ => False) s := by
  refine wpAny_pyIter_range hr hsmall ?_
  have W := (Walks.range (prog := prog) (w := w) hh s.heap.objs.size a₀ c₀ n).bound
  obtain ⟨h1, h2⟩ := fr_new F
  refine walk_run (s := { s with heap := s.heap.push _ }) W [s.heap.objs.size] (fun b hb => .inl hb) (fun b hb => (List.mem_singleton.mp hb) ▸ ⟨h1, h2⟩) (fun b hb => hb) (fun i h st b hb => ⟨_, (List.mem_singleton.mp hb) ▸ st⟩) hx hp
    (by show IsRangeIter _ _ _ _ _; rw [hn]; simpa using Heap.get?_push_size _ rfl) (F.push _) (fun p hp => ⟨Heap.get?_push_of_some _ (N p hp).1, (N p hp).2⟩) (fun q hq e => absurd (Heap.lt_size (N q hq).1) ((List.mem_singleton.mp e) ▸ Nat.lt_irrefl _)) stored J h0 ?_ done
  rintro i v u news₁ h tk own hi ⟨_, t, rfl⟩ hJ ho hoff hst F' N'
  obtain ⟨ob, rfl⟩ := own_one ho
  exact turn i t u news₁ h tk _ ob hi hJ (fun q hq => not_one.mp (hoff q hq)) F' N'
theorem list_runB {x : Str} {px : Pos} {l : Addr} {items : Array Value} {m₀ : Str → Option Value} {news : List (Addr × Obj)} (stored : List Str) (J : Nat → (Str → Option Value) → List (Addr × Obj) → Prop)
    (hh : A.handled = none) (hl : h₀.IsList l items) (F : Fr h₀ env.locals s.heap m₀) (N : News h₀ env.locals s.heap news)
    (h0 : J 0 m₀ news)
    (turn : ∀ i v u news₁ h tk I ob, i < items.size → items[i]? = some v → J i u news₁ → (∀ q ∈ news₁, q.1 ≠ I) → Fr h₀ env.locals h (fun y => if y = x then some v else if stored.contains y then u y else m₀ y) → News h₀ env.locals h ((I, ob) :: news₁) →
      wpAny (model prog w) A (execs body env) (Turned h₀ env.locals [(I, ob)] [x] stored m₀ [I] (J (i + 1)) { s with heap := h, toks := tk } Q) (fun _ _ => False) { s with heap := h, toks := tk })
    (done : ∀ u news₁ h tk, J items.size u news₁ → Fr h₀ env.locals h (fun y => if y = x then u y else if stored.contains y then u y else m₀ y) → News h₀ env.locals h news₁ → Q .next { s with heap := h, toks := tk })
    (hx : env.kindOf x = some .local := by rfl)
    (hp : (env.scope.kind == .class || (env.scope.kind == .module && env.locals != env.globals)) = false := by rfl) :
    wpAny (model prog w) A (pyIter (.ref l)) (fun it s₂ => LoopRun prog w A (.Name x px) env body Q it s₂) (fun _ _ => False) s := by
  have hls : s.heap.IsList l items := hl.at fun o e => F.keep l o e
  obtain ⟨ol, hol, _⟩ := id hl
  obtain ⟨h1, h2⟩ := fr_new F
  have hne : l ≠ s.heap.objs.size := fun e => by rw [e, h2] at hol; cases hol
  refine wpAny_pyIter_list hls ?_
  have W := Walks.list (prog := prog) (w := w) hh s.heap.objs.size l hne items
  refine walk_run (s := { s with heap := s.heap.push _ }) W [s.heap.objs.size] (fun b hb => ?_) (fun b hb => (List.mem_singleton.mp hb) ▸ ⟨h1, h2⟩) (fun b hb => hb) (fun i h st b hb => ?_) hx hp
    ⟨⟨_, Heap.get?_push_size _ rfl, rfl, rfl⟩, hls.at fun o e => Heap.get?_push_of_some _ e⟩ (F.push _) (fun p hp => ⟨Heap.get?_push_of_some _ (N p hp).1, (N p hp).2⟩) (fun q hq e => absurd (Heap.lt_size (N q hq).1) ((List.mem_singleton.mp e) ▸ Nat.lt_irrefl _)) stored J h0 ?_ done
  · rcases List.mem_cons.mp hb with rfl | hb
    · exact .inl (.head _)
    · exact .inr ⟨_, (List.mem_singleton.mp hb) ▸ hol⟩
  · obtain ⟨o, ho, _⟩ := st.1
    exact ⟨o, (List.mem_singleton.mp hb) ▸ ho⟩
  · rintro i v u news₁ h tk own hi hv hJ ho hoff hst F' N'
    obtain ⟨ob, rfl⟩ := own_one ho
    exact turn i v u news₁ h tk _ ob hi hv hJ (fun q hq => not_one.mp (hoff q hq)) F' N'
theorem list_runN {x : Str} {px : Pos} {l : Addr} {items : Array Value} {nn : Nat} {m₀ : Str → Option Value} {news : List (Addr × Obj)} (stored : List Str) (J : Nat → (Str → Option Value) → List (Addr × Obj) → Prop)
    (hh : A.handled = none) (F : Fr h₀ env.locals s.heap m₀) (N : News h₀ env.locals s.heap ((l, listOf items nn) :: news)) (hoff : ∀ q ∈ news, q.1 ≠ l)
    (h0 : J 0 m₀ news)
    (turn : ∀ i v u news₁ h tk I ob, i < items.size → items[i]? = some v → J i u news₁ → l ≠ I → (∀ q ∈ news₁, q.1 ≠ I ∧ q.1 ≠ l) → Fr h₀ env.locals h (fun y => if y = x then some v else if stored.contains y then u y else m₀ y) → News h₀ env.locals h ((I, ob) :: (l, listOf items nn) :: news₁) →
      wpAny (model prog w) A (execs body env) (Turned h₀ env.locals [(I, ob), (l, listOf items nn)] [x] stored m₀ [I, l] (J (i + 1)) { s with heap := h, toks := tk } Q) (fun _ _ => False) { s with heap := h, toks := tk })
    (done : ∀ u news₁ h tk, J items.size u news₁ → Fr h₀ env.locals h (fun y => if y = x then u y else if stored.contains y then u y else m₀ y) → News h₀ env.locals h news₁ → Q .next { s with heap := h, toks := tk })
    (hx : env.kindOf x = some .local := by rfl)
    (hp : (env.scope.kind == .class || (env.scope.kind == .module && env.locals != env.globals)) = false := by rfl) :
    wpAny (model prog w) A (pyIter (.ref l)) (fun it s₂ => LoopRun prog w A (.Name x px) env body Q it s₂) (fun _ _ => False) s := by
  have hol : s.heap.get? l = some (listOf items nn) := (N _ (.head _)).1
  have hls : s.heap.IsList l items := ⟨_, hol, rfl, nn, rfl⟩
  obtain ⟨h1, h2⟩ := fr_new F
  have hne : l ≠ s.heap.objs.size := Nat.ne_of_lt (Heap.lt_size hol)
  refine wpAny_pyIter_list hls ?_
  have W0 := Walks.list (prog := prog) (w := w) hh s.heap.objs.size l hne items
  have W : Walks prog w A s.heap.objs.size [s.heap.objs.size, l] [s.heap.objs.size] items.size (fun i v => items[i]? = some v) (fun i h => (h.IsListIter s.heap.objs.size l i ∧ h.IsList l items) ∧ h.get? l = some (listOf items nn)) :=
    { sub := W0.sub
      frame := fun i h h' st hk => ⟨W0.frame i h h' st.1 hk, hk l (by simp) _ st.2⟩
      item := fun i s Q E hi st hQ => W0.item i s Q E hi st.1 fun v h' tk hP hst hk => hQ v h' tk hP ⟨hst, hk _ _ (by simp [hne]) st.2⟩ hk
      done := fun s Q E st hQ => W0.done s Q E st.1 hQ
      self := fun i s Q E st hQ => W0.self i s Q E st.1 hQ }
  refine walk_run (s := { s with heap := s.heap.push _ }) W [s.heap.objs.size, l] (fun b hb => .inl hb) (fun b hb => ?_) (fun b hb => ?_) (fun i h st b hb => ?_) hx hp
    ⟨⟨⟨_, Heap.get?_push_size _ rfl, rfl, rfl⟩, hls.at fun o e => Heap.get?_push_of_some _ e⟩, Heap.get?_push_of_some _ hol⟩ (F.push _) (news := news) (fun p hp => ⟨Heap.get?_push_of_some _ (N p (.tail _ hp)).1, (N p (.tail _ hp)).2⟩) (fun q hq e => ?_) stored J h0 ?_ done
  · rcases List.mem_cons.mp hb with rfl | hb
    · exact ⟨h1, h2⟩
    · exact (List.mem_singleton.mp hb) ▸ (N _ (.head _)).2
  · exact (List.mem_singleton.mp hb) ▸ .head _
  · rcases List.mem_cons.mp hb with rfl | hb
    · obtain ⟨o, ho, _⟩ := st.1.1
      exact ⟨o, ho⟩
    · exact ⟨_, (List.mem_singleton.mp hb) ▸ st.2⟩
  · rcases List.mem_cons.mp e with e | e
    · exact absurd (Heap.lt_size (N q (.tail _ hq)).1) (e ▸ Nat.lt_irrefl _)
    · exact hoff q hq (List.mem_singleton.mp e)
  · rintro i v u news₁ h tk own hi hv hJ ho hoff hst F' N'
    obtain ⟨ob, oc, rfl⟩ := own_two ho
    have : oc = listOf items nn := Option.some.inj ((N' _ (.tail _ (.head _))).1.symm.trans hst.2)
    subst this
    exact turn i v u news₁ h tk _ ob hi hv hJ hne (fun q hq => by have := hoff q hq; simp only [List.mem_cons, List.mem_singleton, not_or, List.not_mem_nil, not_false_eq_true, and_true] at this; exact this) F' N'
end
end Mine
end Lp2_part
section Lp3_part
open PySem PySem.W PyProof.Rows PySem.Calls
namespace Mine
section
variable {prog : Program} {w : World} {A : Around} {s : Shared} {env : Env} {h₀ : Heap} {body : List Stmt} {Q : Flow → Shared → Prop}
section
variable {K : Type} [DecidableEq K] {knd : KeyKind prog w K}
theorem walks_items (hh : A.handled = none) (I d : Addr) (hne : d ≠ I) (kvs : List (K × Value)) (ep : Nat) :
    Wk prog w A I [I, d] [I] kvs.length (fun i vals => ∃ k v key, kvs[i]? = some (k, v) ∧ knd.is k key = true ∧ vals = #[key, v])
      (fun i h => (∃ ok ov, IsItemIter h I d i kvs.length ep ok ov) ∧ h.DictAt knd d kvs ep)
      (fun i T h => (∃ ok ov, IsItemIterOut h I d (i + 1) kvs.length ep ok ov T) ∧ h.DictAt knd d kvs ep ∧ T ≠ I) where
  sub := fun b hb => by simp at hb; simp [hb]
  frame := fun i h h' st hk => by
    obtain ⟨⟨ok, ov, h1⟩, h2⟩ := st
    exact ⟨⟨ok, ov, hk I (by simp) _ h1⟩, h2.at fun o e => hk d (by simp) o e⟩
  item := fun i s Q E hi st hQ => by
    obtain ⟨⟨ok, ov, h1⟩, h2⟩ := st
    refine wpAny_pyNext_items_item h1 h2 (k := kvs[i].1) (v := kvs[i].2) (by simp [hi]) fun key h' hkey ho ht hz hk => ?_
    have hI : I < s.heap.objs.size := Heap.lt_size h1
    exact hQ _ #[key, kvs[i].2] h' s.toks ⟨_, _, _, by simp [hi], hkey, rfl⟩ ⟨_, ht, rfl, _, rfl⟩ ⟨⟨_, _, ho⟩, h2.at fun o e => hk d o hne e, Nat.ne_of_gt hI⟩ fun b o hb e => hk b o (by simpa using hb) e
  go := fun elts k pos i T s Q E hm hQ => by
    obtain ⟨⟨ok, ov, h1⟩, h2, _⟩ := hm
    refine wpAny_letOwnedTupleGo_items h1 fun h' hi' hs => hQ h' ⟨⟨_, _, hi'⟩, h2.at fun o e => (hs.2 d hne).trans e⟩ fun b o hb e => (hs.2 b (by simpa using hb)).trans e
  apart := fun i T h hm hT => hm.2.2 (by simpa using hT)
  done := fun s Q E st hQ => by
    obtain ⟨⟨ok, ov, h1⟩, h2⟩ := st
    exact wpAny_pyNext_items_end hh h1 h2 (by simp) fun h' he => hQ h' s.toks fun b o hb e => he b o (by simpa using hb) e
theorem items_runB {xk xv : Str} {pk pv pt : Pos} {k : Nat} {vw d : Addr} {kvs : List (K × Value)} {m₀ : Str → Option Value} {news : List (Addr × Obj)} (stored : List Str) (J : Nat → (Str → Option Value) → List (Addr × Obj) → Prop)
    (hh : A.handled = none) (hv : s.heap.IsItemsView vw d) (hd : h₀.DictOf knd d kvs) (F : Fr h₀ env.locals s.heap m₀) (N : News h₀ env.locals s.heap news)
    (h0 : J 0 m₀ news)
    (turn : ∀ i k v key u news₁ h tk I ob, i < kvs.length → kvs[i]? = some (k, v) → knd.is k key = true → J i u news₁ → (∀ q ∈ news₁, q.1 ≠ I) → Fr h₀ env.locals h (fun y => if y = xv then some v else if y = xk then some key else if stored.contains y then u y else m₀ y) → News h₀ env.locals h ((I, ob) :: news₁) →
      wpAny (model prog w) A (execs body env) (Turned h₀ env.locals [(I, ob)] [xk, xv] stored m₀ [I] (J (i + 1)) { s with heap := h, toks := tk } Q) (fun _ _ => False) { s with heap := h, toks := tk })
    (done : ∀ u news₁ h tk, J kvs.length u news₁ → Fr h₀ env.locals h (fun y => if [xk, xv].contains y then u y else if stored.contains y then u y else m₀ y) → News h₀ env.locals h news₁ → Q .next { s with heap := h, toks := tk })
    (hxk : env.kindOf xk = some .local := by rfl) (hxv : env.kindOf xv = some .local := by rfl)
    (hp : (env.scope.kind == .class || (env.scope.kind == .module && env.locals != env.globals)) = false := by rfl) :
    wpAny (model prog w) A (pyIter (.ref vw)) (fun it s₂ => LoopRun prog w A (.Tuple [.Name xk pk, .Name xv pv] k pt) env body Q it s₂) (fun _ _ => False) s := by
  obtain ⟨od, es, ep, hod, hc, hdat, hk, hpr, hn⟩ := id hd
  have hda : s.heap.DictAt knd d kvs ep := ⟨od, es, F.keep _ _ hod, hc, hdat, hk, hpr, hn⟩
  obtain ⟨h1, h2⟩ := fr_new F
  have hne : d ≠ s.heap.objs.size := fun e => by rw [e, h2] at hod; cases hod
  refine wpAny_pyIter_items hv hda ?_
  have W := walks_items (prog := prog) (w := w) (knd := knd) hh s.heap.objs.size d hne kvs ep
  refine walkU_run (s := { s with heap := s.heap.push _ }) (xs := [(xk, pk), (xv, pv)]) W hh (fun i vals hP => by obtain ⟨_, _, _, _, _, rfl⟩ := hP; rfl) [s.heap.objs.size] (fun b hb => ?_) (fun b hb => (List.mem_singleton.mp hb) ▸ ⟨h1, h2⟩) (fun b hb => hb) (fun i h st b hb => ?_) (fun x hx => ?_) hp
    ⟨⟨.none, .none, Heap.get?_push_size _ rfl⟩, hda.push _⟩ (F.push _) (fun p hp => ⟨Heap.get?_push_of_some _ (N p hp).1, (N p hp).2⟩) (fun q hq e => absurd (Heap.lt_size (N q hq).1) ((List.mem_singleton.mp e) ▸ Nat.lt_irrefl _)) stored J h0 ?_ done
  · rcases List.mem_cons.mp hb with rfl | hb
    · exact .inl (.head _)
    · exact .inr ⟨_, (List.mem_singleton.mp hb) ▸ hod⟩
  · obtain ⟨⟨ok, ov, h1⟩, _⟩ := st
    exact ⟨_, (List.mem_singleton.mp hb) ▸ h1⟩
  · rcases List.mem_cons.mp hx with rfl | hx
    · exact hxk
    · exact (List.mem_singleton.mp hx) ▸ hxv
  · rintro i vals u news₁ h tk own hi ⟨k, v, key, hkv, hkey, rfl⟩ hJ ho hoff hst F' N'
    obtain ⟨ob, rfl⟩ := own_one ho
    exact turn i k v key u news₁ h tk _ ob hi hkv hkey hJ (fun q hq => not_one.mp (hoff q hq)) F' N'
end
end
end Mine
end Lp3_part
section Dl_part
open PySem PySem.W PyProof.Rows PySem.Calls
namespace Mine
section
variable {prog : Program} {w : World} {A : Around} {E : Value → Shared → Prop} {s : Shared} {h₀ g : Heap} {L d : Addr} {m : Str → Option Value} {news : List (Addr × Obj)} {K : Type} [DecidableEq K] {knd : KeyKind prog w K}
theorem dictOf_up {h : Heap} {kvs : List (K × Value)} (x : g.DictOf knd d kvs) (k : ∀ b o, g.get? b = some o → h.get? b = some o) : h.DictOf knd d kvs :=
  let ⟨o, es, ep, ho, r⟩ := x; ⟨o, es, ep, k _ _ ho, r⟩
theorem items_method {kvs : List (K × Value)} {pl : Sem Bool} {Q : Value × List Value → Shared → Prop} (hD : s.heap.DictOf knd d kvs) (h : Q (.builtin "dict.items", [.ref d]) s) :
    wpAny (model prog w) A (getMethod (.ref d) "items" pl) Q E s :=
  getMethod_builtin hD.typeIs PySem.F.plainAttrs_dict PySem.F.slot_dict_items PySem.F.type_dict_items hD.mapOf.noDict h
theorem items_call {kvs : List (K × Value)} {Q : Value → Shared → Prop} (F : Fr h₀ L s.heap m) (N : News h₀ L s.heap news) (hD : s.heap.DictOf knd d kvs) (lo : (d == sysModules) = false)
    (h : ∀ v h', Fr h₀ L h' m → News h₀ L h' news → h'.IsItemsView v d → Q (.ref v) { s with heap := h' }) : wpAny (model prog w) A (call (.builtin "dict.items") [.ref d]) Q E s :=
  call_meetsIn PySem.F.slot_dict_items hD.typeIs PySem.F.entry_dict_items (PySem.F.args_dict_items_1 _) (meets_dict_items knd d lo)
    ⟨⟨kvs, hD⟩, h _ _ (F.push _) (fun q hq => ⟨Heap.get?_push_of_some _ (N q hq).1, (N q hq).2⟩) ⟨_, Heap.get?_push_size _ rfl, rfl, rfl⟩⟩
theorem setdef_any {o : Obj} {kvs : List (K × Value)} {k : K} {key dflt : Value} {gg : Obj → List (Addr × Obj)} {Q : Value → Shared → Prop} (F : Fr h₀ L s.heap m) (N : News h₀ L s.heap news) (U : UpdF d o news gg) (hd : o.IsDictOf knd kvs) (lo : (d == sysModules) = false) (hkey : knd.is k key = true)
    (hargs : argsOk "dict.setdefault" ⟨[.ref d, key, dflt], []⟩) (hsz : kvs.length ≤ sizeLine)
    (h1 : ∀ v, valueAt kvs k = some v → Q v { s with toks := s.toks + 1 })
    (h2 : valueAt kvs k = none → ∀ h' o', Fr h₀ L h' m → News h₀ L h' (gg o') → o'.IsDictOf knd (stored kvs k dflt) → Q dflt { s with heap := h', toks := s.toks + 1 }) :
    wpAny (model prog w) A (call (.builtin "dict.setdefault") [.ref d, key, dflt]) Q E s := by
  cases hl : valueAt kvs k with
  | none => exact kob_setdef_new F N U hd lo hkey hargs hl hsz (h2 hl)
  | some v =>
    obtain ⟨pre, post, rfl, hg, a, b⟩ := U.split
    exact kob_setdef_there N (List.mem_append_right _ (.head _)) hd lo hkey hargs hl hsz (h1 v hl)
def updAt (a : Addr) (o' : Obj) (l : List (Addr × Obj)) : List (Addr × Obj) := l.map fun q => if q.1 = a then (a, o') else q
theorem updAt_off {a : Addr} {o' : Obj} : ∀ {l : List (Addr × Obj)}, (∀ q ∈ l, q.1 ≠ a) → updAt a o' l = l
  | [], _ => rfl
  | q :: r, h => by
    have e := updAt_off (o' := o') fun x hx => h x (List.mem_cons_of_mem _ hx)
    show (if q.1 = a then (a, o') else q) :: updAt a o' r = q :: r
    rw [if_neg (h q (.head _)), e]
theorem mem_updAt {a : Addr} {o' : Obj} {l : List (Addr × Obj)} {q : Addr × Obj} (h : q ∈ updAt a o' l) : (q ∈ l ∧ q.1 ≠ a) ∨ (q = (a, o') ∧ ∃ o, (a, o) ∈ l) := by
  obtain ⟨x, hx, rfl⟩ := List.mem_map.mp h
  by_cases e : x.1 = a
  · rw [if_pos e]; exact .inr ⟨rfl, x.2, by rw [← e]; exact hx⟩
  · rw [if_neg e]; exact .inl ⟨hx, e⟩
theorem updAt_addr {a : Addr} {o' : Obj} {l : List (Addr × Obj)} {q : Addr × Obj} (h : q ∈ updAt a o' l) : ∃ x ∈ l, x.1 = q.1 := by
  rcases mem_updAt h with ⟨h1, _⟩ | ⟨rfl, o, h1⟩
  · exact ⟨q, h1, rfl⟩
  · exact ⟨_, h1, rfl⟩
theorem updAt_mem {a b : Addr} {o o' : Obj} {l : List (Addr × Obj)} (h : (b, o) ∈ l) : (b, if b = a then o' else o) ∈ updAt a o' l := by
  refine List.mem_map.mpr ⟨(b, o), h, ?_⟩
  by_cases e : b = a
  · simp [e]
  · simp [e]
theorem news_updAt {a : Addr} {o o' : Obj} {f : Obj → Obj} (F : Fr h₀ L s.heap m) (N : News h₀ L s.heap news) (ha : (a, o) ∈ news) (e : f o = o') (hf : o'.isFreed = false) :
    Fr h₀ L (s.heap.update a f) m ∧ News h₀ L (s.heap.update a f) (updAt a o' news) := by
  have z := N _ ha
  refine ⟨F.change (Heap.SameBut.update ..) z.2.1 z.2.2, fun q hq => ?_⟩
  rcases mem_updAt hq with ⟨h1, h2⟩ | ⟨rfl, _⟩
  · exact ⟨(Heap.get?_update_other _ _ (Ne.symm h2)).trans (N q h1).1, (N q h1).2⟩
  · exact ⟨by rw [← e]; exact Heap.get?_update_self _ z.1 (e ▸ hf), z.2⟩
theorem list_method {a : Addr} {ys : Array Value} {c : Nat} {name : Str} {id : String} {pl : Sem Bool} {Q : Value × List Value → Shared → Prop} (slot : Slot "list" name id) (ty : typeOf (.builtin id) = pure (.type "method_descriptor")) (hg : s.heap.get? a = some (listOf ys c)) (h : Q (.builtin id, [.ref a]) s) :
    wpAny (model prog w) A (getMethod (.ref a) name pl) Q E s :=
  getMethod_builtin (T := "list") ⟨_, hg, rfl⟩ PySem.F.plainAttrs_list slot ty (fun b e => by cases e; exact ⟨_, hg, rfl⟩) h
theorem extend_any {a b : Addr} {ys zs : Array Value} {c c2 : Nat} {Q : Value → Shared → Prop} (F : Fr h₀ L s.heap m) (N : News h₀ L s.heap news) (ha : (a, listOf ys c) ∈ news) (hb : s.heap.get? b = some (listOf zs c2)) (hz : ys.size + zs.size ≤ 2000000)
    (h : ∀ h' c', Fr h₀ L h' m → News h₀ L h' (updAt a (listOf (ys ++ zs) c') news) → Q .none { s with heap := h' }) :
    wpAny (model prog w) A (call (.builtin "list.extend") [.ref a, .ref b]) Q E s := by
  have hs : ys.size + zs.size ≤ sizeLine := by rw [sizeLine_eq]; omega
  refine call_meets PySem.F.slot_list_extend ⟨_, (N _ ha).1, rfl⟩ PySem.F.entry_list_extend (PySem.F.args_list_extend_2 _ _) (AutoSeq1.list_extend_list_list_0 a ys c b zs c2 (extend_door hs) (by omega) (by omega)) ⟨(N _ ha).1, hb, ?_⟩
  obtain ⟨F', N'⟩ := news_updAt (f := Obj.mapSeq fun x => x ++ zs) (o' := listOf (ys ++ zs) (if (ys ++ zs).size == ys.size then c else c + 1)) F N ha rfl rfl
  exact h _ _ F' N'
end
end Mine
end Dl_part
section U_part
open PySem PySem.W PyProof.Rows PySem.Calls
namespace Mine
local macro_rules | `(tactic| k_all) => `(tactic| assumption)
local macro_rules | `(tactic| walk_at "pyIter ref") => `(tactic| refine Hold.of ?_)
local macro_rules | `(tactic| walk_at "call ref") => `(tactic| refine Hold.of ?_)
local macro_rules | `(tactic| walk_at "exec For") => `(tactic| (with_unfolding_all refine' For_run ?_))
local macro_rules | `(tactic| walk_at "exec For Name Call cons nil") => `(tactic| (with_unfolding_all refine' For_run ?_))
local macro_rules | `(tactic| walk_at "exec For Tuple Call cons nil") => `(tactic| (with_unfolding_all refine' For_run ?_))
local macro_rules | `(tactic| walk_at "getAttr ref") => `(tactic| (k_dflt (refine' get_own ?k1 ?k2 (inst_up ?k3 (Fr.keep ?k1)) ?k4 ?k5 ?k6 ?k7 ?k8 ?k9 ?_; (case k1 => k_asm); (case k2 => k_asm); (case k3 => k_asm); (case k4 => k_is); (case k5 => k_is); (case k6 => k_is); (case k7 => k_is); (case k8 => k_asm); (case k9 => k_handed); k_whole)))
local macro_rules | `(tactic| walk_at "eval Name") => `(tactic| (k_dflt (refine' ld ?k1 ?k2 ?_ ?k3 ?k4 ?k5; (case k1 => k_asm); (case k2 => exact rfl); (case k3 => kernel_rfl); (case k4 => kernel_rfl); (case k5 => kernel_rfl); k_whole)))
local macro_rules | `(tactic| walk_at "Turned") => `(tactic| first | refine Turned.ret ?_ | refine Turned.brk ?_)
local macro_rules | `(tactic| walk_at "go") => `(tactic| repeat' (first | (k_unfold; (try dsimp only)) | walk1 | (dsimp only; walk1) | (dsimp only; k_unfold; (try dsimp only))))
local macro_rules | `(tactic| walk_at "kf") => `(tactic| ((with_reducible show wpAny _ _ _ _ _ _); k_fold))
structure DLB (prog : Program) (w : World) (h : Heap) (d : Addr) (keys : List Int) (B : Nat) : Prop where
  ex : ∃ kvs : List (Int × Value), h.DictOf (intKind prog w) d kvs ∧ kvs.map (·.1) = keys ∧ ∀ kv ∈ kvs, ∃ a ys c, kv.2 = .ref a ∧ h.get? a = some (listOf ys c) ∧ ys.size ≤ B
local macro_rules | `(tactic| walk_at "getMethod ref") => `(tactic| ((with_reducible show wpAny _ _ (getMethod (Value.ref _) (Str.ofString "items") _) _ _ _); k_dflt (refine' items_method (knd := intKind _ _) (dictOf_up ?D (Fr.keep ?F)) ?_; (case F => k_asm); (case D => k_asm))))
local macro_rules | `(tactic| walk_at "call builtin:dict.items") => `(tactic| (k_dflt (refine' items_call (knd := intKind _ _) ?F ?N (dictOf_up ?D (Fr.keep ?F)) ?l ?_; (case F => k_asm); (case N => k_asm); (case D => k_asm); (case l => k_asm)); intro v' h' F' N' hv'; (try k_sweep)))
local macro_rules | `(tactic| walk_at "getMethod ref") => `(tactic| ((with_reducible show wpAny _ _ (getMethod (Value.ref _) (Str.ofString "extend") _) _ _ _); k_dflt (refine' list_method PySem.F.slot_list_extend PySem.F.type_list_extend (?N _ ?M).1 ?_; (case N => k_asm); (case M => first | assumption | k_mem))))
local macro_rules | `(tactic| walk_at "call builtin:dict.setdefault") => `(tactic| refine Hold.of ?_)
local macro_rules | `(tactic| walk_at "call builtin:list.extend") => `(tactic| refine Hold.of ?_)
theorem valueAt_mem {kvs : List (Int × Value)} {k : Int} {v : Value} (h : valueAt kvs k = some v) : (k, v) ∈ kvs := by
  unfold valueAt at h
  cases hf : kvs.find? fun kv => decide (kv.1 = k) with
  | none => rw [hf] at h; cases h
  | some kv =>
    rw [hf] at h
    have h1 := List.find?_some hf
    have h2 := List.mem_of_find?_eq_some hf
    simp only [decide_eq_true_eq] at h1
    simp only [Option.map_some, Option.some.injEq] at h
    rw [← h1, ← h]; exact h2
theorem foldl_addKey_length (l ks : List Int) : (l.foldl addKey ks).length ≤ ks.length + l.length := by
  induction l generalizing ks with
  | nil => simp
  | cons k r ih =>
    have h1 := ih (addKey ks k)
    have h2 := addKey_length ks k
    simp only [List.foldl_cons, List.length_cons]
    omega
theorem allLt_mem {d : Addr} {l : List (Addr × Obj)} (h : AllLt d l) : ∀ q ∈ l, (q.1 : Nat) < d := by
  induction l with
  | nil => intro q hq; cases hq
  | cons p r ih =>
    intro q hq
    have h' : (p.1 : Nat) < d ∧ AllLt d r := h
    rcases List.mem_cons.mp hq with e | hq
    · rw [e]; exact h'.1
    · exact ih h'.2 q hq
theorem take_fold {l : List Int} {i : Nat} {k : Int} (h : l[i]? = some k) (ks : List Int) : (l.take (i + 1)).foldl addKey ks = addKey ((l.take i).foldl addKey ks) k := by
  rw [List.take_add_one, h]; simp
theorem addKey_there {ks : List Int} {k : Int} (h : k ∈ ks) : addKey ks k = ks := if_pos h
theorem update_dol {prog : Program} {w : World} {s : Shared} {g : Heap} {mg mb : Str → Option Value} {p : Program} {loose : List Str} {d d2 : Addr} {o : Obj} {lists : List (Addr × Obj)} {ks ks2 : List Int} {B B2 : Nat}
   (X : (hd.heap_39 w.params).In g) (T : TopRead p loose mg mb g) (S : St g s.heap ((d, o) :: lists))
   (hd : DL prog w o lists ks B) (hne : ∀ q ∈ lists, q.1 ≠ d) (lo : (d == sysModules) = false) (hd2 : DLB prog w g d2 ks2 B2) (lo2 : (d2 == sysModules) = false)
   (hk : ks.length + ks2.length ≤ 1000) (hB : B + B2 * ks2.length ≤ 1000000) :
   codeAny (model prog w) (lv 900 5000) (.call (.ref 254) ⟨[.ref d, .ref d2], []⟩) (Back g s fun v led => v = .none ∧ ∃ o' lists', led = (d, o') :: lists' ∧ DL prog w o' lists' (ks2.foldl addKey ks) (B + B2 * ks2.length) ∧ ∀ q ∈ lists', q.1 ≠ d) s := by
  obtain ⟨kvs2, hD2, hk2, hv2⟩ := hd2.ex
  k_dflt (refine' enter (binds := [("master", .ref d), ("newdata", .ref d2)]) X T S ?k6 ?k7 ?k8 ?k9 ?kB ?_ ?c2 ?c3 ?c4 ?c5; (case k6 => k_is); (case k7 => k_is); (case k8 => decide); (case k9 => exact BindsTo.of_eq rfl); (case kB => exact locs rfl); (case c5 => decide); (case c2 => rfl); (case c3 => rfl); (case c4 => rfl))
  intro L h₁ F N
  walk_at "kf"
  walk_at "go"
  refine Hold.out ?_
  rename_i F' N' hv'
  refine items_runB (knd := intKind prog w) (d := d2) (kvs := kvs2) [] (fun i u led => ∃ o lists, led = (d, o) :: lists ∧ DL prog w o lists ((ks2.take i).foldl addKey ks) (B + B2 * i) ∧ ∀ q ∈ lists, q.1 ≠ d) rfl hv' hD2 F' N' ⟨o, lists, rfl, by simpa using hd, hne⟩ ?_ ?_
  · rintro i k v key u news₁ h tk I ob hi hkv hkey ⟨o, lists, rfl, ⟨kvs, hd, hks, hv⟩, hne⟩ hoff F N
    obtain ⟨hdI, hlI⟩ := List.forall_mem_cons.mp hoff
    replace hdI := neN hdI
    have hId := neN (Ne.symm hdI)
    obtain ⟨t, rfl⟩ := Value.isInt_shape hkey
    obtain ⟨a2, zs, c2, rfl, hg2, hz⟩ := hv2 _ (List.mem_of_getElem? hkv)
    clear F' N' hv'
    walk_at "kf"
    walk_at "go"
    have hlen : kvs.length ≤ 1000 := by
      have h1 := congrArg List.length hks
      rw [List.length_map] at h1
      have h2 := foldl_addKey_length (ks2.take i) ks
      rw [List.length_take] at h2
      omega
    have hil : i < ks2.length := by rw [← hk2, List.length_map]; exact hi
    have hmul : B2 * (i + 1) ≤ B2 * ks2.length := Nat.mul_le_mul_left _ hil
    rw [Nat.mul_succ] at hmul
    have hkk : ks2[i]? = some k := by rw [← hk2, List.getElem?_map, hkv]; rfl
    have hmul' : B2 * (i + 1) = B2 * i + B2 := Nat.mul_succ _ _
    refine Hold.out ?_
    rename_i l' _ F' N' lt'
    refine setdef_any (knd := intKind prog w) F' N' (by k_updF) hd lo (intKind_is _ _ _ _) (PySem.F.args_dict_setdefault_3 _ _ _) (by rw [sizeLine_eq]; omega) ?_ ?_
    · intro v hval
      obtain ⟨a, ys, c, e, ha, hy⟩ := hv _ (valueAt_mem hval)
      dsimp only at e
      subst e
      have hmem : (a, listOf ys c) ∈ (l', listOf #[] 0) :: (I, ob) :: (d, o) :: lists := .tail _ (.tail _ (.tail _ ha))
      walk_at "go"
      refine Hold.out ?_
      refine extend_any F' N' hmem (F'.keep _ _ hg2) (by omega) fun h' c' F'' N'' => ?_
      have hne' : ∀ q ∈ updAt a (listOf (ys ++ zs) c') lists, q.1 ≠ d := fun q hq => by obtain ⟨x, hx, e⟩ := updAt_addr hq; exact e ▸ hne x hx
      have hlI' : ∀ q ∈ updAt a (listOf (ys ++ zs) c') lists, q.1 ≠ I := fun q hq => by obtain ⟨x, hx, e⟩ := updAt_addr hq; exact e ▸ hlI x hx
      have e0 : updAt a (listOf (ys ++ zs) c') ((l', listOf #[] 0) :: (I, ob) :: (d, o) :: lists) = (l', listOf #[] 0) :: (I, ob) :: (d, o) :: updAt a (listOf (ys ++ zs) c') lists := by
        have had : ¬ d = a := Ne.symm (hne _ ha)
        have haI : ¬ I = a := Ne.symm (hlI _ ha)
        have hal : ¬ l' = a := Nat.ne_of_gt (allLt_mem lt'.2.2 _ ha)
        simp only [updAt, List.map_cons, if_neg had, if_neg haI, if_neg hal]
      rw [e0] at N''
      walk_at "go"
      refine Turned.next F'' (news' := (d, o) :: updAt a (listOf (ys ++ zs) c') lists) (news_sub N'' fun q hq => .tail _ hq) (fun q hq => not_one.mpr ?_) (by intro y h1 h2; simp at h1; simp [h1]) ⟨_, _, rfl, ⟨⟨kvs, hd, ?_, ?_⟩⟩, hne'⟩
      · rcases List.mem_cons.mp hq with rfl | hq
        · exact hdI
        · exact hlI' q hq
      · rw [take_fold hkk, addKey_there (hks ▸ List.mem_map_of_mem (f := (·.1)) (valueAt_mem hval)), hks]
      · intro kv hkv
        obtain ⟨b, xs, cc, e1, e2, e3⟩ := hv kv hkv
        by_cases hba : b = a
        · refine ⟨b, ys ++ zs, c', e1, ?_, by simp only [Array.size_append]; omega⟩
          have := updAt_mem (a := a) (o' := listOf (ys ++ zs) c') e2
          rwa [if_pos hba] at this
        · refine ⟨b, xs, cc, e1, ?_, by omega⟩
          have := updAt_mem (a := a) (o' := listOf (ys ++ zs) c') e2
          rwa [if_neg hba] at this
    · intro hval h'' o'' F'' N'' hd''
      have hmem : (l', listOf #[] 0) ∈ (l', listOf #[] 0) :: (I, ob) :: (d, o'') :: lists := .head _
      walk_at "go"
      refine Hold.out ?_
      refine extend_any F'' N'' hmem (F''.keep _ _ hg2) (by simp; omega) fun h' c' F'' N'' => ?_
      have e0 : updAt l' (listOf (#[] ++ zs) c') ((l', listOf #[] 0) :: (I, ob) :: (d, o'') :: lists) = (l', listOf (#[] ++ zs) c') :: (I, ob) :: (d, o'') :: lists := by
        have had : ¬ d = l' := Nat.ne_of_lt lt'.2.1
        have haI : ¬ I = l' := Nat.ne_of_lt lt'.1
        have hr : ∀ q ∈ lists, q.1 ≠ l' := fun q hq => Nat.ne_of_lt (allLt_mem lt'.2.2 q hq)
        have e := updAt_off (o' := listOf (#[] ++ zs) c') hr
        unfold updAt at e ⊢
        simp only [List.map_cons, if_neg had, if_neg haI, if_true, e]
      rw [e0] at N''
      walk_at "go"
      refine Turned.next F'' (news' := (d, o'') :: (l', listOf (#[] ++ zs) c') :: lists) (news_sub N'' fun q hq => ?_) (fun q hq => not_one.mpr ?_) (by intro y h1 h2; simp at h1; simp [h1]) ⟨_, _, rfl, ?_, List.forall_mem_cons.mpr ⟨Nat.ne_of_gt lt'.2.1, hne⟩⟩
      · simp only [List.cons_append, List.nil_append, List.mem_cons] at hq ⊢
        rcases hq with h | h | h | h <;> simp only [h, true_or, or_true]
      · rcases List.mem_cons.mp hq with rfl | hq
        · exact hdI
        · rcases List.mem_cons.mp hq with rfl | hq
          · exact Nat.ne_of_gt lt'.1
          · exact hlI q hq
      · rw [take_fold hkk, ← hks]
        refine DL.store (ys := #[] ++ zs) hd'' (fun kv hkv => ?_) (fun q hq => .tail _ hq) (.head _) (by simp; omega)
        obtain ⟨b, xs, cc, e1, e2, e3⟩ := hv kv hkv
        exact ⟨b, xs, cc, e1, e2, by omega⟩
  · rintro u news₁ h tk ⟨o, lists, rfl, hd, hne⟩ F N
    walk_at "go"
    refine Back.intro F N ⟨rfl, o, lists, rfl, ?_, hne⟩
    have e : kvs2.length = ks2.length := by rw [← hk2, List.length_map]
    rw [e, List.take_length] at hd
    exact hd
end Mine
end U_part
section L_part
open PySem PySem.W PyProof.Rows PySem.Calls
namespace Mine
local macro_rules | `(tactic| walk_at "zz0") => `(tactic| fail)
local macro_rules | `(tactic| walk_at "zz1") => `(tactic| fail)
local macro_rules | `(tactic| walk_at "zz2") => `(tactic| fail)
local macro_rules | `(tactic| walk_at "zz3") => `(tactic| fail)
local macro_rules | `(tactic| walk_at "zz4") => `(tactic| fail)
local macro_rules | `(tactic| walk_at "zz5") => `(tactic| fail)
local macro_rules | `(tactic| walk_at "zz6") => `(tactic| fail)
local macro_rules | `(tactic| walk_at "zz7") => `(tactic| fail)
local macro_rules | `(tactic| walk_at "zz8") => `(tactic| fail)
local macro_rules | `(tactic| walk_at "zz9") => `(tactic| fail)
local macro_rules | `(tactic| walk_at "zz10") => `(tactic| fail)
local macro_rules | `(tactic| walk_at "zz11") => `(tactic| fail)
local macro_rules | `(tactic| walk_at "zz12") => `(tactic| fail)
local macro_rules | `(tactic| walk_at "zz13") => `(tactic| fail)
local macro_rules | `(tactic| walk_at "zz14") => `(tactic| fail)
local macro_rules | `(tactic| walk_at "zz15") => `(tactic| fail)
local macro_rules | `(tactic| walk_at "zz16") => `(tactic| fail)
local macro_rules | `(tactic| walk_at "zz17") => `(tactic| fail)
local macro_rules | `(tactic| walk_at "zz18") => `(tactic| fail)
local macro_rules | `(tactic| walk_at "zz19") => `(tactic| fail)
local macro_rules | `(tactic| walk_at "zz20") => `(tactic| fail)
local macro_rules | `(tactic| walk_at "zz21") => `(tactic| fail)
local macro_rules | `(tactic| walk_at "zz22") => `(tactic| fail)
local macro_rules | `(tactic| walk_at "zz23") => `(tactic| fail)
local macro_rules | `(tactic| walk_at "zz24") => `(tactic| fail)
local macro_rules | `(tactic| walk_at "zz25") => `(tactic| fail)
local macro_rules | `(tactic| walk_at "zz26") => `(tactic| fail)
local macro_rules | `(tactic| walk_at "zz27") => `(tactic| fail)
local macro_rules | `(tactic| walk_at "zz28") => `(tactic| fail)
local macro_rules | `(tactic| walk_at "zz29") => `(tactic| fail)
local macro_rules | `(tactic| k_all) => `(tactic| assumption)
local macro_rules | `(tactic| walk_at "pyIter ref") => `(tactic| refine Hold.of ?_)
local macro_rules | `(tactic| walk_at "call ref") => `(tactic| refine Hold.of ?_)
local macro_rules | `(tactic| walk_at "exec For") => `(tactic| (with_unfolding_all refine' For_run ?_))
local macro_rules | `(tactic| walk_at "exec For Name Call cons nil") => `(tactic| (with_unfolding_all refine' For_run ?_))
local macro_rules | `(tactic| walk_at "exec For Tuple Call cons nil") => `(tactic| (with_unfolding_all refine' For_run ?_))
local macro_rules | `(tactic| walk_at "getAttr ref") => `(tactic| (k_dflt (refine' get_own ?k1 ?k2 (inst_up ?k3 (Fr.keep ?k1)) ?k4 ?k5 ?k6 ?k7 ?k8 ?k9 ?_; (case k1 => k_asm); (case k2 => k_asm); (case k3 => k_asm); (case k4 => k_is); (case k5 => k_is); (case k6 => k_is); (case k7 => k_is); (case k8 => k_asm); (case k9 => k_handed); k_whole)))
local macro_rules | `(tactic| walk_at "eval Name") => `(tactic| (k_dflt (refine' ld ?k1 ?k2 ?_ ?k3 ?k4 ?k5; (case k1 => k_asm); (case k2 => exact rfl); (case k3 => kernel_rfl); (case k4 => kernel_rfl); (case k5 => kernel_rfl); k_whole)))
local macro_rules | `(tactic| walk_at "Turned") => `(tactic| first | refine Turned.ret ?_ | refine Turned.brk ?_)
local macro_rules | `(tactic| walk_at "go") => `(tactic| repeat' (first | (k_unfold; (try dsimp only)) | walk1 | (dsimp only; walk1) | (dsimp only; k_unfold; (try dsimp only))))
local macro_rules | `(tactic| walk_at "kf") => `(tactic| ((with_reducible show wpAny _ _ _ _ _ _); k_fold))
structure DM (prog : Program) (w : World) (led : List (Addr × Obj)) (d : Addr) (ks : List Int) (B : Nat) : Prop where
  ex : ∃ o, (d, o) ∈ led ∧ DL prog w o led ks B
  lo : (d == sysModules) = false
theorem DL.mono {prog : Program} {w : World} {o : Obj} {a b : List (Addr × Obj)} {ks : List Int} {B B' : Nat} (h : DL prog w o a ks B) (hs : ∀ q ∈ a, q ∈ b) (hB : B ≤ B' := by omega) : DL prog w o b ks B' := by
  obtain ⟨kvs, h1, h2, h3⟩ := h.ex
  exact ⟨kvs, h1, h2, fun kv hkv => by obtain ⟨x, ys, c, e1, e2, e3⟩ := h3 kv hkv; exact ⟨x, ys, c, e1, hs _ e2, Nat.le_trans e3 hB⟩⟩
theorem DM.mono {prog : Program} {w : World} {d : Addr} {a b : List (Addr × Obj)} {ks : List Int} {B : Nat} (h : DM prog w a d ks B) (hs : ∀ q ∈ a, q ∈ b) : DM prog w b d ks B := by
  obtain ⟨o, h1, h2⟩ := h.ex
  exact ⟨⟨o, hs _ h1, h2.mono hs (Nat.le_refl _)⟩, h.lo⟩
theorem DM.base {prog : Program} {w : World} {g : Heap} {d : Addr} {led : List (Addr × Obj)} {ks : List Int} {B : Nat} (h : DM prog w led d ks B) (hg : ∀ q ∈ led, g.get? q.1 = some q.2) : DLB prog w g d ks B := by
  obtain ⟨o, h1, h2⟩ := h.ex
  obtain ⟨kvs, e1, e2, e3⟩ := h2.ex
  exact ⟨kvs, Heap.dictOf_iff.mpr ⟨o, hg _ h1, e1⟩, e2, fun kv hkv => by obtain ⟨x, ys, c, f1, f2, f3⟩ := e3 kv hkv; exact ⟨x, ys, c, f1, hg _ f2, f3⟩⟩
theorem GridAt.up {g h : Heap} {sb : Addr} {G : List (List Nat)} {W : Nat} (Y : GridAt g sb G W) (k : ∀ b o, g.get? b = some o → h.get? b = some o) : GridAt h sb G W := by
  obtain ⟨vs, h1, h2⟩ := Y.ex
  exact ⟨⟨vs, h1.at fun o e => k _ o e, h2⟩, Y.wid, Y.hi, Y.wi⟩
abbrev tupOf (vs : List Value) : Obj := { cls := .type "tuple", data := .seq vs.toArray }
def scanLeft (G : List (List Nat)) (top left bottom right : Int) : Option (List Int × List Int) :=
  if ∀ j < (right - 1 - left).toNat, gch G bottom (right - 1 - j) = 43 ∨ gch G bottom (right - 1 - j) = 45 then
    if gch G bottom left = 43 then (scanUp G top left bottom).map fun rk => (rk, scanK (fun i => decide (gch G bottom i = 43)) (fun j => right - 1 - j) (right - 1 - left).toNat) else none
  else none
local macro_rules | `(tactic| walk_at "getMethod ref") => `(tactic| (k_dflt (refine' method_inst ?k1 ?k2 (inst_up ?k3 (Fr.keep ?k1)) ?k4 ?k5 ?k6 ?k7 ?_; (case k1 => k_asm); (case k2 => k_asm); (case k3 => k_asm); (case k4 => k_is); (case k5 => k_is); (case k6 => k_is); (case k7 => k_asm); k_whole)))
local macro_rules | `(tactic| walk_at "subscriptTail Attribute Name Name ref int") => `(tactic| (k_dflt (refine' GridAt.row ?F ?Y ?a ?b ?_; (case F => k_asm); (case Y => k_asm); (case a => omega); (case b => omega); k_whole); intro _))
local macro_rules | `(tactic| walk_at "subscriptTail Name Name str int") => `(tactic| (k_dflt (refine' GridAt.item ?Y ?a ?b ?c ?d ?_; (case Y => k_asm); (case a => omega); (case b => omega); (case c => omega); (case d => omega); k_whole); intro _ _))
local macro_rules | `(tactic| walk_at "subscriptTail Subscript Attribute Name Name str int") => `(tactic| (k_dflt (refine' GridAt.item ?Y ?a ?b ?c ?d ?_; (case Y => k_asm); (case a => omega); (case b => omega); (case c => omega); (case d => omega); k_whole); intro _ _))
local macro_rules | `(tactic| walk_at "compareOp Eq str str") => `(tactic| (refine eq_chrL (by first | exact lit_plus | exact lit_bar | exact lit_minus) ?_))
local macro_rules | `(tactic| walk_at "compareOp NotEq str str") => `(tactic| (refine ne_chrL (by first | exact lit_plus | exact lit_bar | exact lit_minus) ?_))
local macro_rules | `(tactic| walk_at "setItem ref int") => `(tactic| (k_dflt (refine' kda_set (knd := PySem.intKind _ _) ?F ?N ?U ?d (intKind_is _ _ _ _) ?z ?_; (case F => k_asm); (case N => k_asm); (case U => k_updF); (case d => k_asm); (case z => rw [sizeLine_eq]; omega)); intro h' o' F' N' hd'; (try dsimp only at N'); (try k_sweep)))
theorem turned_put {Q : Flow → Shared → Prop} {s : Shared} {h₀ h' : Heap} {L I d l' : Addr} {m₀ m' : Str → Option Value} {xs stored : List Str} {ob o' x : Obj} {lists : List (Addr × Obj)} {tk : Nat} {J : (Str → Option Value) → List (Addr × Obj) → Prop}
    (F : Fr h₀ L h' m') (N : News h₀ L h' ((l', x) :: (I, ob) :: (d, o') :: lists)) (lt' : I < l' ∧ d < l' ∧ AllLt l' lists) (hdI : @Ne Nat d I) (hlI : ∀ q ∈ lists, q.1 ≠ I) (hm : ∀ y, y ∉ xs → y ∉ stored → m' y = m₀ y)
    (hJ : J m' ((d, o') :: (l', x) :: lists)) : Turned h₀ L [(I, ob)] xs stored m₀ [I] J s Q .next { s with heap := h', toks := tk } := by
  refine Turned.next F (news' := (d, o') :: (l', x) :: lists) (news_sub N (fun q hq => ?_)) (fun q hq => not_one.mpr ?_) hm hJ
  · simp only [List.cons_append, List.nil_append, List.mem_cons] at hq ⊢
    rcases hq with h | h | h | h <;> simp only [h, true_or, or_true]
  · rcases List.mem_cons.mp hq with rfl | hq
    · exact hdI
    · rcases List.mem_cons.mp hq with rfl | hq
      · exact Nat.ne_of_gt lt'.1
      · exact hlI q hq
theorem scan_left {prog : Program} {w : World} {s : Shared} {g : Heap} {mg mb : Str → Option Value} {p : Program} {loose : List Str} {self dx sb : Addr} {es : List DictEntry} {n W : Nat} {G : List (List Nat)}
   {top left bottom right : Int} {t1 t2 t3 t4 : Tok}
   (X : (hd.heap_39 w.params).In g) (T : TopRead p loose mg mb g) (S : St g s.heap [])
   (I : InstAt g self (instObj 245 dx) 245 (some (dictOf es n))) (hsb : getL "stripped_block" es = some (some (.ref sb))) (hmU : getL "scan_up" es = some none)
   (Y : GridAt g sb G W) (ht : 0 ≤ top) (htb : top < bottom) (hb : bottom < G.length) (hl0 : 0 ≤ left) (hlr : left < right) (hrw : right < W) :
   codeAny (model prog w) (lv 890 4900) (.call (.ref 230) ⟨[.ref self, .int top t1, .int left t2, .int bottom t3, .int right t4], []⟩) (Back g s fun v led => match scanLeft G top left bottom right with
     | none => v = .none
     | some (rk, ck) => ∃ T dr dc, v = .ref T ∧ (T, tupOf [.ref dr, .ref dc]) ∈ led ∧ DM prog w led dr rk 1 ∧ DM prog w led dc ck 1) s := by
  k_dflt (refine' enter (binds := [("self", .ref self), ("top", .int top t1), ("left", .int left t2), ("bottom", .int bottom t3), ("right", .int right t4)]) X T S ?k6 ?k7 ?k8 ?k9 ?kB ?_ ?c2 ?c3 ?c4 ?c5; (case k6 => k_is); (case k7 => k_is); (case k8 => decide); (case k9 => exact BindsTo.of_eq rfl); (case kB => exact locs rfl); (case c5 => decide); (case c2 => rfl); (case c3 => rfl); (case c4 => rfl))
  intro L h₁ F N
  have hG := Y.hi
  have hW := Y.wi
  walk_at "kf"
  walk_at "go"
  rename_i d _ o lo' _ _ hi' _ _ _ _ _ _ _ _ _ _ _ _ R F' N' _
  refine Hold.out ?_
  refine range_run (n := (right - 1 - left).toNat) [] (fun i u led => (∀ j < i, gch G bottom (right - 1 - (j : Nat)) = 43 ∨ gch G bottom (right - 1 - (j : Nat)) = 45) ∧ ∃ o lists, led = (d, o) :: lists ∧ DL prog w o lists (scanK (fun i => decide (gch G bottom i = 43)) (fun j => right - 1 - j) i) 1 ∧ ∀ q ∈ lists, q.1 ≠ d) rfl R (small_down (by omega) (by omega) (by omega) (by omega)) (rangeSize_downNat _ _) F' N' ⟨fun j h => absurd h (Nat.not_lt_zero j), _, _, rfl, DL.new hi', fun _ h => nomatch h⟩ ?_ ?_
  · rintro i t u news₁ h tk I ob hin ⟨hall, o, lists, rfl, ⟨kvs, hd, hk, hv⟩, hne⟩ hoff F N
    obtain ⟨hdI, hlI⟩ := List.forall_mem_cons.mp hoff
    rw [show right - 1 + (i : Int) * (-1) = right - 1 - i by omega] at F
    replace hdI := neN hdI
    have hId := neN (Ne.symm hdI)
    have hlen : kvs.length ≤ 64 := by
      have h1 := congrArg List.length hk
      rw [List.length_map] at h1
      have h2 := scanK_length (fun i => decide (gch G bottom i = 43)) (fun j => right - 1 - j) i
      omega
    clear F' N' R hi'
    walk_at "kf"
    walk_at "go"
    · rename gch _ _ _ = 43 => hc
      rename (_ < _) ∧ _ => lt'
      rename Obj.IsDictOf _ _ (stored _ _ _) => hd'
      rename Fr _ _ _ _ => F''
      rename News _ _ _ _ => N''
      refine turned_put F'' N'' lt' hdI hlI (by intro y h1 h2; simp at h1; simp [h1]) ⟨fun j hj => ?_, _, _, rfl, ?_, List.forall_mem_cons.mpr ⟨Nat.ne_of_gt lt'.2.1, hne⟩⟩
      · by_cases hji : j = i
        · subst hji; exact .inl hc
        · exact hall j (by omega)
      · rw [scanK_succ, if_pos (by simpa using hc), ← hk]
        exact DL.store hd' hv (fun q hq => .tail _ hq) (.head _) (by simp)
    · rename ¬ (gch _ _ _ = 43) => h43
      rename gch _ _ _ ≠ 45 => h45
      refine Back.intro F N ?_
      have e : scanLeft G top left bottom right = none := if_neg fun hh => (hh i hin).elim h43 h45
      rw [e]
    · rename ¬ (gch _ _ _ = 43) => h43
      rename ¬ (gch _ _ _ ≠ 45) => h45
      refine Turned.next F N (fun q hq => not_one.mpr (hoff q hq)) (by intro y h1 h2; simp at h1; simp [h1]) ⟨fun j hj => ?_, _, _, rfl, ?_, hne⟩
      · by_cases hji : j = i
        · subst hji; exact .inr (Decidable.not_not.mp h45)
        · exact hall j (by omega)
      · rw [scanK_succ, if_neg (by simpa using h43)]
        exact ⟨⟨kvs, hd, hk, hv⟩⟩
  · rintro u news₁ h tk ⟨hall, o, lists, rfl, hd, hne⟩ F N
    clear F' N' R hi'
    walk_at "go"
    · rename gch _ _ _ ≠ 43 => h43
      refine Back.intro F N ?_
      have e : scanLeft G top left bottom right = none := (if_pos hall).trans (if_neg h43)
      rw [e]
    · rename ¬ (gch _ _ _ ≠ 43) => h43
      refine Hold.out (wpAny_call (use_call [] ((d, o) :: lists) F N (by simp) (fun g' st hr S' => lv_le (scan_up (X.keeps st) (T.keeps st) S' (inst_up I st) hsb (Y.up st) ht htb (by omega) hl0 (by omega)) rfl (Nat.le_of_ble_eq_true rfl) (Nat.le_of_ble_eq_true rfl)) ?_))
      intro v led h' tk hP F' N' hap
      dsimp only
      have e : scanLeft G top left bottom right = (scanUp G top left bottom).map fun rk => (rk, scanK (fun i => decide (gch G bottom i = 43)) (fun j => right - 1 - j) (right - 1 - left).toNat) := (if_pos hall).trans (if_pos (Decidable.not_not.mp h43))
      cases hU : scanUp G top left bottom with
      | none =>
        rw [hU] at hP e
        dsimp only at hP
        subst hP
        walk_at "go"
        rename Fr _ _ _ _ => F''
        rename News _ _ _ _ => N''
        refine Back.intro F'' N'' ?_
        rw [e]
        rfl
      | some ks =>
        rw [hU] at hP e
        obtain ⟨d', o', lists', rfl, rfl, hd', lo2, hne'⟩ := hP
        walk_at "go"
        rename Fr _ _ _ _ => F''
        rename News _ _ _ _ => N''
        refine Back.intro F'' N'' ?_
        rw [e]
        refine ⟨_, d', d, rfl, .head _, ⟨⟨o', .tail _ (.head _), hd'.mono fun q hq => .tail _ (.tail _ (List.mem_append_left _ hq))⟩, lo2⟩, ⟨⟨o, .tail _ (.tail _ (List.mem_append_right _ (.head _))), hd.mono fun q hq => .tail _ (.tail _ (List.mem_append_right _ (.tail _ hq)))⟩, lo'⟩⟩
end Mine
end L_part
section D_part
open PySem PySem.W PyProof.Rows PySem.Calls
namespace Mine
local macro_rules | `(tactic| k_all) => `(tactic| assumption)
local macro_rules | `(tactic| walk_at "pyIter ref") => `(tactic| refine Hold.of ?_)
local macro_rules | `(tactic| walk_at "call ref") => `(tactic| refine Hold.of ?_)
local macro_rules | `(tactic| walk_at "exec For") => `(tactic| (with_unfolding_all refine' For_run ?_))
local macro_rules | `(tactic| walk_at "exec For Name Call cons nil") => `(tactic| (with_unfolding_all refine' For_run ?_))
local macro_rules | `(tactic| walk_at "exec For Tuple Call cons nil") => `(tactic| (with_unfolding_all refine' For_run ?_))
local macro_rules | `(tactic| walk_at "getAttr ref") => `(tactic| (k_dflt (refine' get_own ?k1 ?k2 (inst_up ?k3 (Fr.keep ?k1)) ?k4 ?k5 ?k6 ?k7 ?k8 ?k9 ?_; (case k1 => k_asm); (case k2 => k_asm); (case k3 => k_asm); (case k4 => k_is); (case k5 => k_is); (case k6 => k_is); (case k7 => k_is); (case k8 => k_asm); (case k9 => k_handed); k_whole)))
local macro_rules | `(tactic| walk_at "eval Name") => `(tactic| (k_dflt (refine' ld ?k1 ?k2 ?_ ?k3 ?k4 ?k5; (case k1 => k_asm); (case k2 => exact rfl); (case k3 => kernel_rfl); (case k4 => kernel_rfl); (case k5 => kernel_rfl); k_whole)))
local macro_rules | `(tactic| walk_at "Turned") => `(tactic| first | refine Turned.ret ?_ | refine Turned.brk ?_)
local macro_rules | `(tactic| walk_at "go") => `(tactic| repeat' (first | (k_unfold; (try dsimp only)) | walk1 | (dsimp only; walk1) | (dsimp only; k_unfold; (try dsimp only))))
local macro_rules | `(tactic| walk_at "kf") => `(tactic| ((with_reducible show wpAny _ _ _ _ _ _); k_fold))
local macro_rules | `(tactic| walk_at "locals") => `(tactic| (intro y h1 h2; simp only [List.mem_cons, List.not_mem_nil, or_false, not_or] at h1 h2; simp [h1, h2]))
theorem scanUp_length {G : List (List Nat)} {top left bottom : Int} {ks : List Int} (h : scanUp G top left bottom = some ks) : ks.length ≤ (bottom - 1 - top).toNat := by
  unfold scanUp at h
  split at h
  · cases h; exact scanK_length _ _ _
  · cases h
theorem scanLeft_length {G : List (List Nat)} {top left bottom right : Int} {rk ck : List Int} (h : scanLeft G top left bottom right = some (rk, ck)) : rk.length ≤ (bottom - 1 - top).toNat ∧ ck.length ≤ (right - 1 - left).toNat := by
  unfold scanLeft at h
  split at h
  · split at h
    · cases hU : scanUp G top left bottom with
      | none => rw [hU] at h; cases h
      | some ks => rw [hU] at h; cases h; exact ⟨scanUp_length hU, scanK_length _ _ _⟩
    · cases h
  · cases h
def scanDownGo (G : List (List Nat)) (top left right : Int) : Nat → Nat → List Int → Option (Int × List Int × List Int)
  | 0, _, _ => none
  | k + 1, i, ks =>
    if gch G (top + 1 + i) right = 43 then
      match scanLeft G top left (top + 1 + i) right with
      | some (rk, ck) => some (top + 1 + i, rk.foldl addKey (addKey ks (top + 1 + i)), ck)
      | none => scanDownGo G top left right k (i + 1) (addKey ks (top + 1 + i))
    else if gch G (top + 1 + i) right = 124 then scanDownGo G top left right k (i + 1) ks else none
def scanDown (G : List (List Nat)) (top left right : Int) : Option (Int × List Int × List Int) := scanDownGo G top left right ((G.length : Int) - 1 - top).toNat 0 []
local macro_rules | `(tactic| walk_at "getMethod ref") => `(tactic| (k_dflt (refine' method_inst ?k1 ?k2 (inst_up ?k3 (Fr.keep ?k1)) ?k4 ?k5 ?k6 ?k7 ?_; (case k1 => k_asm); (case k2 => k_asm); (case k3 => k_asm); (case k4 => k_is); (case k5 => k_is); (case k6 => k_is); (case k7 => k_asm); k_whole)))
local macro_rules | `(tactic| walk_at "subscriptTail Attribute Name Name ref int") => `(tactic| (k_dflt (refine' GridAt.row ?F ?Y ?a ?b ?_; (case F => k_asm); (case Y => k_asm); (case a => omega); (case b => omega); k_whole); intro _))
local macro_rules | `(tactic| walk_at "subscriptTail Name Name str int") => `(tactic| (k_dflt (refine' GridAt.item ?Y ?a ?b ?c ?d ?_; (case Y => k_asm); (case a => omega); (case b => omega); (case c => omega); (case d => omega); k_whole); intro _ _))
local macro_rules | `(tactic| walk_at "subscriptTail Subscript Attribute Name Name str int") => `(tactic| (k_dflt (refine' GridAt.item ?Y ?a ?b ?c ?d ?_; (case Y => k_asm); (case a => omega); (case b => omega); (case c => omega); (case d => omega); k_whole); intro _ _))
local macro_rules | `(tactic| walk_at "compareOp Eq str str") => `(tactic| (refine eq_chrL (by first | exact lit_plus | exact lit_bar | exact lit_minus) ?_))
local macro_rules | `(tactic| walk_at "compareOp NotEq str str") => `(tactic| (refine ne_chrL (by first | exact lit_plus | exact lit_bar | exact lit_minus) ?_))
local macro_rules | `(tactic| walk_at "setItem ref int") => `(tactic| (k_dflt (refine' kda_set (knd := PySem.intKind _ _) ?F ?N ?U ?d (intKind_is _ _ _ _) ?z ?_; (case F => k_asm); (case N => k_asm); (case U => k_updF); (case d => k_asm); (case z => rw [sizeLine_eq]; omega)); intro h' o' F' N' hd'; (try dsimp only at N'); (try k_sweep)))
theorem scan_down {prog : Program} {w : World} {s : Shared} {g : Heap} {mg mb : Str → Option Value} {p : Program} {loose : List Str} {self dx sb : Addr} {es : List DictEntry} {n W : Nat} {G : List (List Nat)}
   {top left right : Int} {t1 t2 t3 tb : Tok}
   (X : (hd.heap_39 w.params).In g) (T : TopRead p loose mg mb g) (S : St g s.heap [])
   (I : InstAt g self (instObj 245 dx) 245 (some (dictOf es n))) (hsb : getL "stripped_block" es = some (some (.ref sb))) (hbot : getL "bottom" es = some (some (.int ((G.length : Int) - 1) tb))) (hmU : getL "scan_up" es = some none) (hmL : getL "scan_left" es = some none)
   (Y : GridAt g sb G W) (ht : 0 ≤ top) (htb : top < G.length) (hl0 : 0 ≤ left) (hlr : left < right) (hrw : right < W) :
   codeAny (model prog w) (lv 880 4800) (.call (.ref 223) ⟨[.ref self, .int top t1, .int left t2, .int right t3], []⟩) (Back g s fun v led => match scanDown G top left right with
     | none => v = .none
     | some (b, rk, ck) => ∃ T dr dc t, v = .ref T ∧ (T, tupOf [.int b t, .ref dr, .ref dc]) ∈ led ∧ DM prog w led dr rk 100 ∧ DM prog w led dc ck 1) s := by
  k_dflt (refine' enter (binds := [("self", .ref self), ("top", .int top t1), ("left", .int left t2), ("right", .int right t3)]) X T S ?k6 ?k7 ?k8 ?k9 ?kB ?_ ?c2 ?c3 ?c4 ?c5; (case k6 => k_is); (case k7 => k_is); (case k8 => decide); (case k9 => exact BindsTo.of_eq rfl); (case kB => exact locs rfl); (case c5 => decide); (case c2 => rfl); (case c3 => rfl); (case c4 => rfl))
  intro L h₁ F N
  have hG := Y.hi
  have hW := Y.wi
  walk_at "kf"
  walk_at "go"
  rename IsRange _ _ _ _ _ _ _ _ => R
  rename_i d _ o lo' _ _ hi' _ _ _ _ _ _ _ _ _ _ F' N' _
  refine Hold.out ?_
  have hsz : Builtin.Range.rangeSize (top + 1) ((G.length : Int) - 1 + 1) 1 = ((((G.length : Int) - 1 - top).toNat : Nat) : Int) := by rw [rangeSize_one]; split <;> omega
  refine range_run (n := ((G.length : Int) - 1 - top).toNat) ["result", "newrowseps", "colseps"] (fun i u led => ∃ ks, scanDown G top left right = scanDownGo G top left right (((G.length : Int) - 1 - top).toNat - i) i ks ∧ ks.length ≤ i ∧ ∃ o lists, led = (d, o) :: lists ∧ DL prog w o lists ks 1 ∧ ∀ q ∈ lists, q.1 ≠ d) rfl R (small_one (by omega) (by omega) (by omega) (by omega)) hsz F' N' ⟨[], rfl, Nat.le_refl _, _, _, rfl, DL.new hi', fun _ h => nomatch h⟩ ?_ ?_
  · rintro i t u news₁ h tk I' ob hin ⟨ks, hgo, hks, o, lists, rfl, ⟨kvs, hd, hk, hv⟩, hne⟩ hoff F N
    obtain ⟨hdI, hlI⟩ := List.forall_mem_cons.mp hoff
    rw [show top + 1 + (i : Int) * 1 = top + 1 + i by omega] at F
    rw [show ((G.length : Int) - 1 - top).toNat - i = (((G.length : Int) - 1 - top).toNat - (i + 1)) + 1 by omega] at hgo
    replace hdI := neN hdI
    have hId := neN (Ne.symm hdI)
    have hlen : kvs.length ≤ 64 := by
      have h1 := congrArg List.length hk
      rw [List.length_map] at h1
      omega
    clear F' N' R hi' hsz
    walk_at "kf"
    walk_at "go"
    · rename gch _ _ _ = 43 => hc
      rename (_ < _) ∧ _ => lt'
      rename Obj.IsDictOf _ _ (stored _ _ _) => hd'
      rename Fr _ _ _ _ => F''
      rename News _ _ _ _ => N''
      rename_i l' _ _ o' 
      refine Hold.out (wpAny_call (use_call [] _ F'' N'' (by simp) (fun g' st hr S' => lv_le (scan_left (X.keeps st) (T.keeps st) S' (inst_up I st) hsb hmU (Y.up st) ht (by omega) (by omega) hl0 hlr hrw) rfl (Nat.le_of_ble_eq_true rfl) (Nat.le_of_ble_eq_true rfl)) ?_))
      intro v led h' tk hP F' N' hap
      have hl'd : l' ≠ d := Nat.ne_of_gt lt'.2.1
      have hl'I : l' ≠ I' := Nat.ne_of_gt lt'.1
      have hdl : DL prog w o' ((l', listOf #[.int right t3] 0) :: lists) (addKey ks (top + 1 + i)) 1 := by
        rw [← hk]; exact DL.store hd' hv (fun q hq => .tail _ hq) (.head _) (by simp)
      have hne' : ∀ q ∈ (l', listOf #[.int right t3] 0) :: lists, q.1 ≠ d := List.forall_mem_cons.mpr ⟨hl'd, hne⟩
      dsimp only
      cases hU : scanLeft G top left (top + 1 + i) right with
      | none =>
        rw [hU] at hP
        dsimp only at hP
        subst hP
        rw [scanDownGo, if_pos hc, hU] at hgo
        walk_at "go"
        rename Fr _ _ _ _ => F'
        rename News _ _ _ _ => N'
        refine Turned.next F' (news' := (d, o') :: (l', listOf #[.int right t3] 0) :: lists) (news_sub N' fun q hq => List.mem_append_right _ ?_) (fun q hq => not_one.mpr ?_) (by walk_at "locals") ⟨addKey ks (top + 1 + i), hgo, ?_, _, _, rfl, hdl, hne'⟩
        · simp only [List.cons_append, List.nil_append, List.mem_cons] at hq ⊢
          rcases hq with h | h | h | h <;> simp only [h, true_or, or_true]
        · rcases List.mem_cons.mp hq with rfl | hq
          · exact hdI
          · rcases List.mem_cons.mp hq with rfl | hq
            · exact hl'I
            · exact hlI q hq
        · have := addKey_length ks (top + 1 + i); omega
      | some rc =>
        obtain ⟨rk, ck⟩ := rc
        rw [hU] at hP
        obtain ⟨TT, dr, dc, rfl, hT, hdr, hdc⟩ := hP
        have N3 : News g _ _ ((TT, tupOf [.ref dr, .ref dc]) :: (I', ob) :: (d, o') :: (l', listOf #[.int right t3] 0) :: (lists ++ led)) := news_sub N' fun q hq => by
          simp only [List.cons_append, List.mem_cons, List.mem_append] at hq ⊢
          rcases hq with h | h | h | h | h | h
          · rw [h]; exact .inl hT
          all_goals simp only [h, true_or, or_true]
        clear N'
        walk_at "go"
        rename Fr _ _ _ _ => F'
        rename News _ _ _ _ => N'
        obtain ⟨hrk, hck⟩ := scanLeft_length hU
        have hkl := addKey_length ks (top + 1 + i)
        refine Hold.out (wpAny_call (use_call ((d, o') :: (l', listOf #[.int right t3] 0) :: lists) ((TT, tupOf [.ref dr, .ref dc]) :: (I', ob) :: led) F' (news_sub N' fun q hq => ?_) ?_ (fun g' st hr S' => lv_le (update_dol (X.keeps st) (T.keeps st) S' hdl hne' lo' (hdr.base fun q hq => hr q (.tail _ (.tail _ hq))) hdr.lo (by omega) (by omega)) rfl (Nat.le_of_ble_eq_true rfl) (Nat.le_of_ble_eq_true rfl)) ?_))
        · simp only [List.cons_append, List.mem_cons, List.mem_append] at hq ⊢
          rcases hq with h | h | h | h | h | h <;> simp only [h, true_or, or_true]
        · intro q hq hm
          obtain ⟨q', hq', e⟩ := List.mem_map.mp hm
          have hq2 : q' ∈ (l', listOf #[.int right t3] 0) :: (I', ob) :: (d, o') :: lists := by
            simp only [List.mem_cons] at hq' ⊢
            rcases hq' with h | h | h <;> simp only [h, true_or, or_true]
          rcases List.mem_cons.mp hq with rfl | hq
          · exact hap _ hT _ hq2 e.symm
          · rcases List.mem_cons.mp hq with rfl | hq
            · rcases List.mem_cons.mp hq' with rfl | hq'
              · exact hdI e
              · rcases List.mem_cons.mp hq' with rfl | hq'
                · exact hl'I e
                · exact hlI q' hq' e
            · exact hap _ hq _ hq2 e.symm
        · rintro v led2 h' tk ⟨rfl, o2, lists2, rfl, hd2, hne2⟩ F' N' _
          dsimp only
          walk_at "go"
          rename Fr _ _ _ _ => F'
          rename News _ _ _ _ => N'
          refine Back.intro F' N' ?_
          rw [hgo, scanDownGo, if_pos hc, hU]
          refine ⟨_, d, dc, _, rfl, .head _, ⟨⟨o2, .tail _ (.head _), hd2.mono (fun q hq => .tail _ (.tail _ (List.mem_append_left _ hq)))⟩, lo'⟩, hdc.mono fun q hq => .tail _ (.tail _ (List.mem_append_right _ (.tail _ (.tail _ hq))))⟩
    · rename ¬ (gch _ _ _ = 43) => h43
      rename gch _ _ _ ≠ 124 => h124
      refine Back.intro F N ?_
      rw [hgo, scanDownGo, if_neg h43, if_neg h124]
    · rename ¬ (gch _ _ _ = 43) => h43
      rename ¬ (gch _ _ _ ≠ 124) => h124
      refine Turned.next F N (fun q hq => not_one.mpr (hoff q hq)) (by walk_at "locals") ⟨ks, ?_, by omega, _, _, rfl, ⟨⟨kvs, hd, hk, hv⟩⟩, hne⟩
      rw [hgo, scanDownGo, if_neg h43, if_pos (Decidable.not_not.mp h124)]
  · rintro u news₁ h tk ⟨ks, hgo, _, o, lists, rfl, hd, hne⟩ F N
    clear F' N' R hi' hsz
    walk_at "go"
    rename Fr _ _ _ _ => F''
    rename News _ _ _ _ => N''
    refine Back.intro F'' N'' ?_
    rw [hgo, Nat.sub_self, scanDownGo]
end Mine
end D_part
section R_part
open PySem PySem.W PyProof.Rows PySem.Calls
namespace Mine
local macro_rules | `(tactic| walk_at "zz0") => `(tactic| fail)
local macro_rules | `(tactic| walk_at "zz1") => `(tactic| fail)
local macro_rules | `(tactic| walk_at "zz2") => `(tactic| fail)
local macro_rules | `(tactic| walk_at "zz3") => `(tactic| fail)
local macro_rules | `(tactic| walk_at "zz4") => `(tactic| fail)
local macro_rules | `(tactic| walk_at "zz5") => `(tactic| fail)
local macro_rules | `(tactic| walk_at "zz6") => `(tactic| fail)
local macro_rules | `(tactic| walk_at "zz7") => `(tactic| fail)
local macro_rules | `(tactic| walk_at "zz8") => `(tactic| fail)
local macro_rules | `(tactic| walk_at "zz9") => `(tactic| fail)
local macro_rules | `(tactic| walk_at "zz10") => `(tactic| fail)
local macro_rules | `(tactic| walk_at "zz11") => `(tactic| fail)
local macro_rules | `(tactic| walk_at "zz12") => `(tactic| fail)
local macro_rules | `(tactic| walk_at "zz13") => `(tactic| fail)
local macro_rules | `(tactic| walk_at "zz14") => `(tactic| fail)
local macro_rules | `(tactic| walk_at "zz15") => `(tactic| fail)
local macro_rules | `(tactic| walk_at "zz16") => `(tactic| fail)
local macro_rules | `(tactic| walk_at "zz17") => `(tactic| fail)
local macro_rules | `(tactic| walk_at "zz18") => `(tactic| fail)
local macro_rules | `(tactic| walk_at "zz19") => `(tactic| fail)
local macro_rules | `(tactic| walk_at "zz20") => `(tactic| fail)
local macro_rules | `(tactic| walk_at "zz21") => `(tactic| fail)
local macro_rules | `(tactic| walk_at "zz22") => `(tactic| fail)
local macro_rules | `(tactic| walk_at "zz23") => `(tactic| fail)
local macro_rules | `(tactic| walk_at "zz24") => `(tactic| fail)
local macro_rules | `(tactic| walk_at "zz25") => `(tactic| fail)
local macro_rules | `(tactic| walk_at "zz26") => `(tactic| fail)
local macro_rules | `(tactic| walk_at "zz27") => `(tactic| fail)
local macro_rules | `(tactic| walk_at "zz28") => `(tactic| fail)
local macro_rules | `(tactic| walk_at "zz29") => `(tactic| fail)
local macro_rules | `(tactic| k_all) => `(tactic| assumption)
local macro_rules | `(tactic| walk_at "pyIter ref") => `(tactic| refine Hold.of ?_)
local macro_rules | `(tactic| walk_at "call ref") => `(tactic| refine Hold.of ?_)
local macro_rules | `(tactic| walk_at "exec For") => `(tactic| (with_unfolding_all refine' For_run ?_))
local macro_rules | `(tactic| walk_at "exec For Name Call cons nil") => `(tactic| (with_unfolding_all refine' For_run ?_))
local macro_rules | `(tactic| walk_at "exec For Tuple Call cons nil") => `(tactic| (with_unfolding_all refine' For_run ?_))
local macro_rules | `(tactic| walk_at "getAttr ref") => `(tactic| (k_dflt (refine' get_own ?k1 ?k2 (inst_up ?k3 (Fr.keep ?k1)) ?k4 ?k5 ?k6 ?k7 ?k8 ?k9 ?_; (case k1 => k_asm); (case k2 => k_asm); (case k3 => k_asm); (case k4 => k_is); (case k5 => k_is); (case k6 => k_is); (case k7 => k_is); (case k8 => k_asm); (case k9 => k_handed); k_whole)))
local macro_rules | `(tactic| walk_at "eval Name") => `(tactic| (k_dflt (refine' ld ?k1 ?k2 ?_ ?k3 ?k4 ?k5; (case k1 => k_asm); (case k2 => exact rfl); (case k3 => kernel_rfl); (case k4 => kernel_rfl); (case k5 => kernel_rfl); k_whole)))
local macro_rules | `(tactic| walk_at "Turned") => `(tactic| first | refine Turned.ret ?_ | refine Turned.brk ?_)
local macro_rules | `(tactic| walk_at "go") => `(tactic| repeat' (first | (k_unfold; (try dsimp only)) | walk1 | (dsimp only; walk1) | (dsimp only; k_unfold; (try dsimp only))))
local macro_rules | `(tactic| walk_at "kf") => `(tactic| ((with_reducible show wpAny _ _ _ _ _ _); k_fold))
local macro_rules | `(tactic| walk_at "locals") => `(tactic| (intro y h1 h2; simp only [List.mem_cons, List.not_mem_nil, or_false, not_or] at h1 h2; simp [h1, h2]))
theorem scanDownGo_length {G : List (List Nat)} {top left right b : Int} {rk ck : List Int} : ∀ (k i : Nat) (ks : List Int), scanDownGo G top left right k i ks = some (b, rk, ck) → ck.length ≤ (right - 1 - left).toNat ∧ rk.length ≤ ks.length + k + (i + k) ∧ b < top + 1 + (i + k) ∧ top < b
  | 0, _, _, h => by simp [scanDownGo] at h
  | k + 1, i, ks, h => by
    unfold scanDownGo at h
    have h1 := addKey_length ks (top + 1 + i)
    split at h
    · split at h
      · rename_i rk' ck' hL
        cases h
        have h2 := scanLeft_length hL
        have h3 := foldl_addKey_length rk' (addKey ks (top + 1 + i))
        refine ⟨h2.2, ?_, ?_, ?_⟩ <;> omega
      · have ih := scanDownGo_length k (i + 1) _ h
        refine ⟨ih.1, ?_, ?_, ?_⟩ <;> omega
    · split at h
      · have ih := scanDownGo_length k (i + 1) _ h
        refine ⟨ih.1, ?_, ?_, ?_⟩ <;> omega
      · cases h
theorem scanDown_length {G : List (List Nat)} {top left right b : Int} {rk ck : List Int} (h : scanDown G top left right = some (b, rk, ck)) (ht : 0 ≤ top) (hG : G.length ≤ 64) : ck.length ≤ (right - 1 - left).toNat ∧ rk.length ≤ 128 ∧ b < G.length ∧ top < b := by
  have := scanDownGo_length _ _ _ h
  refine ⟨this.1, ?_, ?_, this.2.2.2⟩
  · have := this.2.1; simp only [List.length_nil] at this; omega
  · have h1 := this.2.2.1; have h2 := this.2.2.2; omega
def scanRightGo (G : List (List Nat)) (top left : Int) : Nat → Nat → List Int → Option (Int × Int × List Int × List Int)
  | 0, _, _ => none
  | k + 1, i, ks =>
    if gch G top (left + 1 + i) = 43 then
      match scanDown G top left (left + 1 + i) with
      | some (b, rk, ck) => some (b, left + 1 + i, rk, ck.foldl addKey (addKey ks (left + 1 + i)))
      | none => scanRightGo G top left k (i + 1) (addKey ks (left + 1 + i))
    else if gch G top (left + 1 + i) = 45 then scanRightGo G top left k (i + 1) ks else none
def scanRight (G : List (List Nat)) (W : Nat) (top left : Int) : Option (Int × Int × List Int × List Int) := scanRightGo G top left ((W : Int) - 1 - left).toNat 0 []
local macro_rules | `(tactic| walk_at "getMethod ref") => `(tactic| (k_dflt (refine' method_inst ?k1 ?k2 (inst_up ?k3 (Fr.keep ?k1)) ?k4 ?k5 ?k6 ?k7 ?_; (case k1 => k_asm); (case k2 => k_asm); (case k3 => k_asm); (case k4 => k_is); (case k5 => k_is); (case k6 => k_is); (case k7 => k_asm); k_whole)))
local macro_rules | `(tactic| walk_at "subscriptTail Attribute Name Name ref int") => `(tactic| (k_dflt (refine' GridAt.row ?F ?Y ?a ?b ?_; (case F => k_asm); (case Y => k_asm); (case a => omega); (case b => omega); k_whole); intro _))
local macro_rules | `(tactic| walk_at "subscriptTail Name Name str int") => `(tactic| (k_dflt (refine' GridAt.item ?Y ?a ?b ?c ?d ?_; (case Y => k_asm); (case a => omega); (case b => omega); (case c => omega); (case d => omega); k_whole); intro _ _))
local macro_rules | `(tactic| walk_at "subscriptTail Subscript Attribute Name Name str int") => `(tactic| (k_dflt (refine' GridAt.item ?Y ?a ?b ?c ?d ?_; (case Y => k_asm); (case a => omega); (case b => omega); (case c => omega); (case d => omega); k_whole); intro _ _))
local macro_rules | `(tactic| walk_at "compareOp Eq str str") => `(tactic| (refine eq_chrL (by first | exact lit_plus | exact lit_bar | exact lit_minus) ?_))
local macro_rules | `(tactic| walk_at "compareOp NotEq str str") => `(tactic| (refine ne_chrL (by first | exact lit_plus | exact lit_bar | exact lit_minus) ?_))
local macro_rules | `(tactic| walk_at "setItem ref int") => `(tactic| (k_dflt (refine' kda_set (knd := PySem.intKind _ _) ?F ?N ?U ?d (intKind_is _ _ _ _) ?z ?_; (case F => k_asm); (case N => k_asm); (case U => k_updF); (case d => k_asm); (case z => rw [sizeLine_eq]; omega)); intro h' o' F' N' hd'; (try dsimp only at N'); (try k_sweep)))
theorem scan_right {prog : Program} {w : World} {s : Shared} {g : Heap} {mg mb : Str → Option Value} {p : Program} {loose : List Str} {self dx sb : Addr} {es : List DictEntry} {n W : Nat} {G : List (List Nat)}
   {top left : Int} {t1 t2 tb tr : Tok}
   (X : (hd.heap_39 w.params).In g) (T : TopRead p loose mg mb g) (S : St g s.heap [])
   (I : InstAt g self (instObj 245 dx) 245 (some (dictOf es n))) (hsb : getL "stripped_block" es = some (some (.ref sb))) (hbot : getL "bottom" es = some (some (.int ((G.length : Int) - 1) tb))) (hmU : getL "scan_up" es = some none) (hmL : getL "scan_left" es = some none) (hright : getL "right" es = some (some (.int ((W : Int) - 1) tr))) (hmD : getL "scan_down" es = some none)
   (Y : GridAt g sb G W) (ht : 0 ≤ top) (htb : top < G.length) (hl0 : 0 ≤ left) (hlw : left < W) :
   codeAny (model prog w) (lv 870 4700) (.call (.ref 216) ⟨[.ref self, .int top t1, .int left t2], []⟩) (Back g s fun v led => match scanRight G W top left with
     | none => v = .none
     | some (b, r, rk, ck) => ∃ T dr dc t t', v = .ref T ∧ (T, tupOf [.int b t, .int r t', .ref dr, .ref dc]) ∈ led ∧ DM prog w led dr rk 100 ∧ DM prog w led dc ck 100) s := by
  k_dflt (refine' enter (binds := [("self", .ref self), ("top", .int top t1), ("left", .int left t2)]) X T S ?k6 ?k7 ?k8 ?k9 ?kB ?_ ?c2 ?c3 ?c4 ?c5; (case k6 => k_is); (case k7 => k_is); (case k8 => decide); (case k9 => exact BindsTo.of_eq rfl); (case kB => exact locs rfl); (case c5 => decide); (case c2 => rfl); (case c3 => rfl); (case c4 => rfl))
  intro L h₁ F N
  have hG := Y.hi
  have hW := Y.wi
  walk_at "kf"
  walk_at "go"
  rename IsRange _ _ _ _ _ _ _ _ => R
  rename_i d _ o lo' _ _ hi' _ _ _ _ _ _ _ _ _ _ _ _ F' N' _
  refine Hold.out ?_
  have hsz : Builtin.Range.rangeSize (left + 1) ((W : Int) - 1 + 1) 1 = ((((W : Int) - 1 - left).toNat : Nat) : Int) := by rw [rangeSize_one]; split <;> omega
  refine range_run (n := ((W : Int) - 1 - left).toNat) ["result", "bottom", "rowseps", "newcolseps"] (fun i u led => ∃ ks, scanRight G W top left = scanRightGo G top left (((W : Int) - 1 - left).toNat - i) i ks ∧ ks.length ≤ i ∧ ∃ o lists, led = (d, o) :: lists ∧ DL prog w o lists ks 1 ∧ ∀ q ∈ lists, q.1 ≠ d) rfl R (small_one (by omega) (by omega) (by omega) (by omega)) hsz F' N' ⟨[], rfl, Nat.le_refl _, _, _, rfl, DL.new hi', fun _ h => nomatch h⟩ ?_ ?_
  · rintro i t u news₁ h tk I' ob hin ⟨ks, hgo, hks, o, lists, rfl, ⟨kvs, hd, hk, hv⟩, hne⟩ hoff F N
    obtain ⟨hdI, hlI⟩ := List.forall_mem_cons.mp hoff
    rw [show left + 1 + (i : Int) * 1 = left + 1 + i by omega] at F
    rw [show ((W : Int) - 1 - left).toNat - i = (((W : Int) - 1 - left).toNat - (i + 1)) + 1 by omega] at hgo
    replace hdI := neN hdI
    have hId := neN (Ne.symm hdI)
    have hlen : kvs.length ≤ 64 := by
      have h1 := congrArg List.length hk
      rw [List.length_map] at h1
      omega
    clear F' N' R hi' hsz
    walk_at "kf"
    walk_at "go"
    · rename gch _ _ _ = 43 => hc
      rename (_ < _) ∧ _ => lt'
      rename Obj.IsDictOf _ _ (stored _ _ _) => hd'
      rename Fr _ _ _ _ => F''
      rename News _ _ _ _ => N''
      rename_i l' _ _ o' 
      refine Hold.out (wpAny_call (use_call [] _ F'' N'' (by simp) (fun g' st hr S' => lv_le (scan_down (X.keeps st) (T.keeps st) S' (inst_up I st) hsb hbot hmU hmL (Y.up st) ht htb hl0 (by omega) (by omega)) rfl (Nat.le_of_ble_eq_true rfl) (Nat.le_of_ble_eq_true rfl)) ?_))
      intro v led h' tk hP F' N' hap
      have hl'd : l' ≠ d := Nat.ne_of_gt lt'.2.1
      have hl'I : l' ≠ I' := Nat.ne_of_gt lt'.1
      have hdl : DL prog w o' ((l', listOf #[.int top t1] 0) :: lists) (addKey ks (left + 1 + i)) 1 := by
        rw [← hk]; exact DL.store hd' hv (fun q hq => .tail _ hq) (.head _) (by simp)
      have hne' : ∀ q ∈ (l', listOf #[.int top t1] 0) :: lists, q.1 ≠ d := List.forall_mem_cons.mpr ⟨hl'd, hne⟩
      dsimp only
      cases hU : scanDown G top left (left + 1 + i) with
      | none =>
        rw [hU] at hP
        dsimp only at hP
        subst hP
        rw [scanRightGo, if_pos hc, hU] at hgo
        walk_at "go"
        rename Fr _ _ _ _ => F'
        rename News _ _ _ _ => N'
        refine Turned.next F' (news' := (d, o') :: (l', listOf #[.int top t1] 0) :: lists) (news_sub N' fun q hq => List.mem_append_right _ ?_) (fun q hq => not_one.mpr ?_) (by walk_at "locals") ⟨addKey ks (left + 1 + i), hgo, ?_, _, _, rfl, hdl, hne'⟩
        · simp only [List.cons_append, List.nil_append, List.mem_cons] at hq ⊢
          rcases hq with h | h | h | h <;> simp only [h, true_or, or_true]
        · rcases List.mem_cons.mp hq with rfl | hq
          · exact hdI
          · rcases List.mem_cons.mp hq with rfl | hq
            · exact hl'I
            · exact hlI q hq
        · have := addKey_length ks (left + 1 + i); omega
      | some rc =>
        obtain ⟨bb, rk, ck⟩ := rc
        rw [hU] at hP
        obtain ⟨TT, dr, dc, tt, rfl, hT, hdr, hdc⟩ := hP
        have N3 : News g _ _ ((TT, tupOf [.int bb tt, .ref dr, .ref dc]) :: (I', ob) :: (d, o') :: (l', listOf #[.int top t1] 0) :: (lists ++ led)) := news_sub N' fun q hq => by
          simp only [List.cons_append, List.mem_cons, List.mem_append] at hq ⊢
          rcases hq with h | h | h | h | h | h
          · rw [h]; exact .inl hT
          all_goals simp only [h, true_or, or_true]
        clear N'
        walk_at "go"
        rename Fr _ _ _ _ => F'
        rename News _ _ _ _ => N'
        obtain ⟨hck, hrk, _⟩ := scanDown_length hU ht hG
        have hkl := addKey_length ks (left + 1 + i)
        refine Hold.out (wpAny_call (use_call ((d, o') :: (l', listOf #[.int top t1] 0) :: lists) ((TT, tupOf [.int bb tt, .ref dr, .ref dc]) :: (I', ob) :: led) F' (news_sub N' fun q hq => ?_) ?_ (fun g' st hr S' => lv_le (update_dol (X.keeps st) (T.keeps st) S' hdl hne' lo' (hdc.base fun q hq => hr q (.tail _ (.tail _ hq))) hdc.lo (by omega) (by omega)) rfl (Nat.le_of_ble_eq_true rfl) (Nat.le_of_ble_eq_true rfl)) ?_))
        · simp only [List.cons_append, List.mem_cons, List.mem_append] at hq ⊢
          rcases hq with h | h | h | h | h | h <;> simp only [h, true_or, or_true]
        · intro q hq hm
          obtain ⟨q', hq', e⟩ := List.mem_map.mp hm
          have hq2 : q' ∈ (l', listOf #[.int top t1] 0) :: (I', ob) :: (d, o') :: lists := by
            simp only [List.mem_cons] at hq' ⊢
            rcases hq' with h | h | h <;> simp only [h, true_or, or_true]
          rcases List.mem_cons.mp hq with rfl | hq
          · exact hap _ hT _ hq2 e.symm
          · rcases List.mem_cons.mp hq with rfl | hq
            · rcases List.mem_cons.mp hq' with rfl | hq'
              · exact hdI e
              · rcases List.mem_cons.mp hq' with rfl | hq'
                · exact hl'I e
                · exact hlI q' hq' e
            · exact hap _ hq _ hq2 e.symm
        · rintro v led2 h' tk ⟨rfl, o2, lists2, rfl, hd2, hne2⟩ F' N' _
          dsimp only
          walk_at "go"
          rename Fr _ _ _ _ => F'
          rename News _ _ _ _ => N'
          refine Back.intro F' N' ?_
          rw [hgo, scanRightGo, if_pos hc, hU]
          refine ⟨_, dr, d, _, _, rfl, .head _, hdr.mono fun q hq => .tail _ (.tail _ (List.mem_append_right _ (.tail _ (.tail _ hq)))), ⟨⟨o2, .tail _ (.head _), hd2.mono (fun q hq => .tail _ (.tail _ (List.mem_append_left _ hq)))⟩, lo'⟩⟩
    · rename ¬ (gch _ _ _ = 43) => h43
      rename gch _ _ _ ≠ 45 => h124
      refine Back.intro F N ?_
      rw [hgo, scanRightGo, if_neg h43, if_neg h124]
    · rename ¬ (gch _ _ _ = 43) => h43
      rename ¬ (gch _ _ _ ≠ 45) => h124
      refine Turned.next F N (fun q hq => not_one.mpr (hoff q hq)) (by walk_at "locals") ⟨ks, ?_, by omega, _, _, rfl, ⟨⟨kvs, hd, hk, hv⟩⟩, hne⟩
      rw [hgo, scanRightGo, if_neg h43, if_pos (Decidable.not_not.mp h124)]
  · rintro u news₁ h tk ⟨ks, hgo, _, o, lists, rfl, hd, hne⟩ F N
    clear F' N' R hi' hsz
    walk_at "go"
    rename Fr _ _ _ _ => F''
    rename News _ _ _ _ => N''
    refine Back.intro F'' N'' ?_
    rw [hgo, Nat.sub_self, scanRightGo]
theorem scan_cell {prog : Program} {w : World} {s : Shared} {g : Heap} {mg mb : Str → Option Value} {p : Program} {loose : List Str} {self dx sb : Addr} {es : List DictEntry} {n W : Nat} {G : List (List Nat)}
   {top left : Int} {t1 t2 tb tr : Tok}
   (X : (hd.heap_39 w.params).In g) (T : TopRead p loose mg mb g) (S : St g s.heap [])
   (I : InstAt g self (instObj 245 dx) 245 (some (dictOf es n))) (hsb : getL "stripped_block" es = some (some (.ref sb))) (hbot : getL "bottom" es = some (some (.int ((G.length : Int) - 1) tb))) (hmU : getL "scan_up" es = some none) (hmL : getL "scan_left" es = some none) (hright : getL "right" es = some (some (.int ((W : Int) - 1) tr))) (hmD : getL "scan_down" es = some none) (hmR : getL "scan_right" es = some none)
   (Y : GridAt g sb G W) (ht : 0 ≤ top) (htb : top < G.length) (hl0 : 0 ≤ left) (hlw : left < W) (hplus : gch G top left = 43) :
   codeAny (model prog w) (lv 860 4600) (.call (.ref 209) ⟨[.ref self, .int top t1, .int left t2], []⟩) (Back g s fun v led => match scanRight G W top left with
     | none => v = .none
     | some (b, r, rk, ck) => ∃ T dr dc t t', v = .ref T ∧ (T, tupOf [.int b t, .int r t', .ref dr, .ref dc]) ∈ led ∧ DM prog w led dr rk 100 ∧ DM prog w led dc ck 100) s := by
  k_dflt (refine' enter (binds := [("self", .ref self), ("top", .int top t1), ("left", .int left t2)]) X T S ?k6 ?k7 ?k8 ?k9 ?kB ?_ ?c2 ?c3 ?c4 ?c5; (case k6 => k_is); (case k7 => k_is); (case k8 => decide); (case k9 => exact BindsTo.of_eq rfl); (case kB => exact locs rfl); (case c5 => decide); (case c2 => rfl); (case c3 => rfl); (case c4 => rfl))
  intro L h₁ F N
  have hG := Y.hi
  have hW := Y.wi
  walk_at "kf"
  walk_at "go"
  rename Fr _ _ _ _ => F'
  rename News _ _ _ _ => N'
  refine Hold.out (wpAny_call (use_call [] [] F' N' (fun _ h => nomatch h) (fun g' st hr S' => lv_le (scan_right (X.keeps st) (T.keeps st) S' (inst_up I st) hsb hbot hmU hmL hright hmD (Y.up st) ht htb hl0 hlw) rfl (Nat.le_of_ble_eq_true rfl) (Nat.le_of_ble_eq_true rfl)) ?_))
  intro v led h' tk hP F' N' _
  rw [List.append_nil] at N'
  dsimp only
  exact Back.intro F' N' hP
end Mine
end R_part
section M_part
open PySem PySem.W PyProof.Rows PySem.Calls
namespace Mine
local macro_rules | `(tactic| k_all) => `(tactic| assumption)
local macro_rules | `(tactic| walk_at "pyIter ref") => `(tactic| refine Hold.of ?_)
local macro_rules | `(tactic| walk_at "call ref") => `(tactic| refine Hold.of ?_)
local macro_rules | `(tactic| walk_at "exec For") => `(tactic| (with_unfolding_all refine' For_run ?_))
local macro_rules | `(tactic| walk_at "exec For Name Call cons nil") => `(tactic| (with_unfolding_all refine' For_run ?_))
local macro_rules | `(tactic| walk_at "exec For Tuple Call cons nil") => `(tactic| (with_unfolding_all refine' For_run ?_))
local macro_rules | `(tactic| walk_at "getAttr ref") => `(tactic| (k_dflt (refine' get_own ?k1 ?k2 (inst_up ?k3 (Fr.keep ?k1)) ?k4 ?k5 ?k6 ?k7 ?k8 ?k9 ?_; (case k1 => k_asm); (case k2 => k_asm); (case k3 => k_asm); (case k4 => k_is); (case k5 => k_is); (case k6 => k_is); (case k7 => k_is); (case k8 => k_asm); (case k9 => k_handed); k_whole)))
local macro_rules | `(tactic| walk_at "eval Name") => `(tactic| (k_dflt (refine' ld ?k1 ?k2 ?_ ?k3 ?k4 ?k5; (case k1 => k_asm); (case k2 => exact rfl); (case k3 => kernel_rfl); (case k4 => kernel_rfl); (case k5 => kernel_rfl); k_whole)))
local macro_rules | `(tactic| walk_at "Turned") => `(tactic| first | refine Turned.ret ?_ | refine Turned.brk ?_)
local macro_rules | `(tactic| walk_at "go") => `(tactic| repeat' (first | (k_unfold; (try dsimp only)) | walk1 | (dsimp only; walk1) | (dsimp only; k_unfold; (try dsimp only))))
local macro_rules | `(tactic| walk_at "kf") => `(tactic| ((with_reducible show wpAny _ _ _ _ _ _); k_fold))
local macro_rules | `(tactic| walk_at "locals") => `(tactic| (intro y h1 h2; simp only [List.mem_cons, List.not_mem_nil, or_false, not_or] at h1 h2; simp [h1, h2]))
def markDone (ns : List Int) (left after : Int) (n : Nat) : List Int := (List.range n).foldl (fun a j => a.set (left + (j : Nat)).toNat after) ns
theorem markDone_succ (ns : List Int) (left after : Int) (n : Nat) : markDone ns left after (n + 1) = (markDone ns left after n).set (left + n).toNat after := by
  unfold markDone; rw [List.range_succ, List.foldl_append]; rfl
theorem markDone_length (ns : List Int) (left after : Int) (n : Nat) : (markDone ns left after n).length = ns.length := by
  induction n with
  | zero => rfl
  | succ n ih => rw [markDone_succ, List.length_set, ih]
theorem markDone_get {ns : List Int} {left after : Int} (hl : 0 ≤ left) : ∀ (n k : Nat), k < ns.length → (markDone ns left after n).getD k 0 = if left ≤ k ∧ (k : Int) < left + n then after else ns.getD k 0
  | 0, k, hk => by rw [if_neg (by omega)]; rfl
  | n + 1, k, hk => by
    rw [markDone_succ]
    have ih := markDone_get (after := after) hl n k hk
    have hlen := markDone_length ns left after n
    by_cases e : (left + n).toNat = k
    · subst e
      rw [if_pos (by omega)]
      simp [List.getD, hlen, hk]
    · have h1 : ((markDone ns left after n).set (left + ↑n).toNat after).getD k 0 = (markDone ns left after n).getD k 0 := by
        simp only [List.getD]
        rw [List.getElem?_set_ne e]
      rw [h1, ih]
      by_cases h2 : left ≤ k ∧ (k : Int) < left + n
      · rw [if_pos h2, if_pos (by omega)]
      · rw [if_neg h2, if_neg (by omega)]
theorem mark_done {prog : Program} {w : World} {s : Shared} {g : Heap} {mg mb : Str → Option Value} {p : Program} {loose : List Str} {self dx dl : Addr} {es : List DictEntry} {n c : Nat} {vs : List Value} {ns : List Int}
   {top left bottom right : Int} {t1 t2 t3 t4 : Tok}
   (X : (hd.heap_39 w.params).In g) (T : TopRead p loose mg mb g) (S : St g s.heap [(dl, listOf vs.toArray c)])
   (I : InstAt g self (instObj 245 dx) 245 (some (dictOf es n))) (hdone : getL "done" es = some (some (.ref dl)))
   (hi : IntsAre vs ns) (hl0 : 0 ≤ left) (hlr : left ≤ right) (hrn : right ≤ ns.length) (hn : ns.length ≤ 64) (hb : ∀ k : Nat, left ≤ k → (k : Int) < right → ns.getD k 0 = top - 1) :
   codeAny (model prog w) (lv 900 5000) (.call (.ref 195) ⟨[.ref self, .int top t1, .int left t2, .int bottom t3, .int right t4], []⟩) (Back g s fun v led => v = .none ∧ ∃ vs', led = [(dl, listOf vs'.toArray c)] ∧ IntsAre vs' (markDone ns left (bottom - 1) (right - left).toNat)) s := by
  k_dflt (refine' enter (binds := [("self", .ref self), ("top", .int top t1), ("left", .int left t2), ("bottom", .int bottom t3), ("right", .int right t4)]) X T S ?k6 ?k7 ?k8 ?k9 ?kB ?_ ?c2 ?c3 ?c4 ?c5; (case k6 => k_is); (case k7 => k_is); (case k8 => decide); (case k9 => exact BindsTo.of_eq rfl); (case kB => exact locs rfl); (case c5 => decide); (case c2 => rfl); (case c3 => rfl); (case c4 => rfl))
  intro L h₁ F N
  walk_at "kf"
  walk_at "go"
  rename IsRange _ _ _ _ _ _ _ _ => R
  rename Fr _ _ _ _ => F'
  rename News _ _ _ _ => N'
  refine Hold.out ?_
  have hsz : Builtin.Range.rangeSize left right 1 = (((right - left).toNat : Nat) : Int) := by rw [rangeSize_one]; split <;> omega
  refine range_run (n := (right - left).toNat) [] (fun i u led => ∃ vs', led = [(dl, listOf vs'.toArray c)] ∧ IntsAre vs' (markDone ns left (bottom - 1) i)) rfl R (small_one (by omega) (by omega) (by omega) (by omega)) hsz F' N' ⟨vs, rfl, hi⟩ ?_ ?_
  · rintro i t u news₁ h tk I' ob hin ⟨vs', rfl, hi'⟩ hoff F N
    rw [show left + (i : Int) * 1 = left + i by omega] at F
    have hdI := neN (hoff _ (.head _))
    have hId := neN (Ne.symm hdI)
    have hlen := markDone_length ns left (bottom - 1) i
    have hget := markDone_get (ns := ns) (after := bottom - 1) hl0 i (left + i).toNat (by omega)
    rw [if_neg (by omega), hb _ (by omega) (by omega)] at hget
    clear F' N' R hsz hi
    walk_at "kf"
    walk_at "go"
    rename Fr _ _ _ _ => F''
    rename News _ _ _ _ => N''
    rename IntsAre _ _ => hi''
    refine Turned.next F'' (news' := [(dl, _)]) N'' (fun q hq => not_one.mpr ((List.mem_singleton.mp hq) ▸ hdI)) (by walk_at "locals") ⟨_, rfl, ?_⟩
    rw [markDone_succ]
    exact hi''
  · rintro u news₁ h tk ⟨vs', rfl, hi'⟩ F N
    clear F' N' R hsz
    walk_at "go"
    exact Back.intro F N ⟨rfl, vs', rfl, hi'⟩
theorem check_complete {prog : Program} {w : World} {s : Shared} {g : Heap} {mg mb : Str → Option Value} {p : Program} {loose : List Str} {self dx dl : Addr} {es : List DictEntry} {n W H : Nat} {vs : List Value} {ns : List Int} {tb tr : Tok}
   (X : (hd.heap_39 w.params).In g) (T : TopRead p loose mg mb g) (S : St g s.heap [])
   (I : InstAt g self (instObj 245 dx) 245 (some (dictOf es n))) (hdone : getL "done" es = some (some (.ref dl))) (hbot : getL "bottom" es = some (some (.int ((H : Int) - 1) tb))) (hright : getL "right" es = some (some (.int ((W : Int) - 1) tr)))
   (hl : g.IsList dl vs.toArray) (hi : IntsAre vs ns) (hw : 0 < W) (hn : ns.length = W) (hW : W ≤ 64) (hH : H ≤ 64) (hb : ∀ k : Nat, (k : Int) < (W : Int) - 1 → ns.getD k 0 = (H : Int) - 1 - 1) :
   codeAny (model prog w) (lv 900 5000) (.call (.ref 202) ⟨[.ref self], []⟩) (Back g s fun v led => v = .bool true) s := by
  k_dflt (refine' enter (binds := [("self", .ref self)]) X T S ?k6 ?k7 ?k8 ?k9 ?kB ?_ ?c2 ?c3 ?c4 ?c5; (case k6 => k_is); (case k7 => k_is); (case k8 => decide); (case k9 => exact BindsTo.of_eq rfl); (case kB => exact locs rfl); (case c5 => decide); (case c2 => rfl); (case c3 => rfl); (case c4 => rfl))
  intro L h₁ F N
  walk_at "kf"
  walk_at "go"
  rename IsRange _ _ _ _ _ _ _ _ => R
  rename Fr _ _ _ _ => F'
  rename News _ _ _ _ => N'
  refine Hold.out ?_
  have hsz : Builtin.Range.rangeSize 0 ((W : Int) - 1) 1 = (((W - 1 : Nat) : Nat) : Int) := by rw [rangeSize_one]; split <;> omega
  refine range_run (n := W - 1) [] (fun i u led => led = []) rfl R (small_one (by omega) (by omega) (by omega) (by omega)) hsz F' N' rfl ?_ ?_
  · rintro i t u news₁ h tk I' ob hin rfl hoff F N
    rw [show 0 + (i : Int) * 1 = i by omega] at F
    have hget := hb (i : Int).toNat (by omega)
    have hl' := hl.at fun o e => F.keep _ o e
    clear F' N' R hsz
    walk_at "kf"
    walk_at "go"
    · exact absurd hget (by assumption)
    · refine Turned.next F (news' := []) N (fun q hq => nomatch hq) (by walk_at "locals") rfl
  · rintro u news₁ h tk rfl F N
    clear F' N' R hsz
    walk_at "go"
    exact Back.intro F N rfl
end Mine
end M_part
section V_part
open PySem PySem.W PyProof.Rows PySem.Calls
namespace Mine
local macro_rules | `(tactic| walk_at "zz0") => `(tactic| fail)
local macro_rules | `(tactic| walk_at "zz1") => `(tactic| fail)
local macro_rules | `(tactic| walk_at "zz2") => `(tactic| fail)
local macro_rules | `(tactic| walk_at "zz3") => `(tactic| fail)
local macro_rules | `(tactic| walk_at "zz4") => `(tactic| fail)
local macro_rules | `(tactic| walk_at "zz5") => `(tactic| fail)
local macro_rules | `(tactic| walk_at "zz6") => `(tactic| fail)
local macro_rules | `(tactic| walk_at "zz7") => `(tactic| fail)
local macro_rules | `(tactic| walk_at "zz8") => `(tactic| fail)
local macro_rules | `(tactic| walk_at "zz9") => `(tactic| fail)
local macro_rules | `(tactic| walk_at "zz10") => `(tactic| fail)
local macro_rules | `(tactic| walk_at "zz11") => `(tactic| fail)
local macro_rules | `(tactic| walk_at "zz12") => `(tactic| fail)
local macro_rules | `(tactic| walk_at "zz13") => `(tactic| fail)
local macro_rules | `(tactic| walk_at "zz14") => `(tactic| fail)
local macro_rules | `(tactic| walk_at "zz15") => `(tactic| fail)
local macro_rules | `(tactic| walk_at "zz16") => `(tactic| fail)
local macro_rules | `(tactic| walk_at "zz17") => `(tactic| fail)
local macro_rules | `(tactic| walk_at "zz18") => `(tactic| fail)
local macro_rules | `(tactic| walk_at "zz19") => `(tactic| fail)
local macro_rules | `(tactic| walk_at "zz20") => `(tactic| fail)
local macro_rules | `(tactic| walk_at "zz21") => `(tactic| fail)
local macro_rules | `(tactic| walk_at "zz22") => `(tactic| fail)
local macro_rules | `(tactic| walk_at "zz23") => `(tactic| fail)
local macro_rules | `(tactic| walk_at "zz24") => `(tactic| fail)
local macro_rules | `(tactic| walk_at "zz25") => `(tactic| fail)
local macro_rules | `(tactic| walk_at "zz26") => `(tactic| fail)
local macro_rules | `(tactic| walk_at "zz27") => `(tactic| fail)
local macro_rules | `(tactic| walk_at "zz28") => `(tactic| fail)
local macro_rules | `(tactic| walk_at "zz29") => `(tactic| fail)
local macro_rules | `(tactic| k_all) => `(tactic| assumption)
local macro_rules | `(tactic| walk_at "pyIter ref") => `(tactic| refine Hold.of ?_)
local macro_rules | `(tactic| walk_at "call ref") => `(tactic| refine Hold.of ?_)
local macro_rules | `(tactic| walk_at "exec For") => `(tactic| (with_unfolding_all refine' For_run ?_))
local macro_rules | `(tactic| walk_at "exec For Name Call cons nil") => `(tactic| (with_unfolding_all refine' For_run ?_))
local macro_rules | `(tactic| walk_at "exec For Tuple Call cons nil") => `(tactic| (with_unfolding_all refine' For_run ?_))
local macro_rules | `(tactic| walk_at "getAttr ref") => `(tactic| (k_dflt (refine' get_own ?k1 ?k2 (inst_up ?k3 (Fr.keep ?k1)) ?k4 ?k5 ?k6 ?k7 ?k8 ?k9 ?_; (case k1 => k_asm); (case k2 => k_asm); (case k3 => k_asm); (case k4 => k_is); (case k5 => k_is); (case k6 => k_is); (case k7 => k_is); (case k8 => k_asm); (case k9 => k_handed); k_whole)))
local macro_rules | `(tactic| walk_at "eval Name") => `(tactic| ((with_reducible show wpAny _ _ (eval _ (envOfC _ _ _ _ _)) _ _ _); k_dflt (refine' nameX_L ?F ?v ?_ ?a ?b ?d; (case F => k_asm); (case v => rfl); (case a => kernel_rfl); (case b => kernel_rfl); (case d => kernel_rfl); k_whole)))
local macro_rules | `(tactic| walk_at "eval Name") => `(tactic| ((with_reducible show wpAny _ _ (eval _ (envOf _ _ _ _ _)) _ _ _); k_dflt (refine' ld ?k1 ?k2 ?_ ?k3 ?k4 ?k5; (case k1 => k_asm); (case k2 => exact rfl); (case k3 => kernel_rfl); (case k4 => kernel_rfl); (case k5 => kernel_rfl); k_whole)))
local macro_rules | `(tactic| walk_at "Turned") => `(tactic| first | refine Turned.ret ?_ | refine Turned.brk ?_)
local macro_rules | `(tactic| walk_at "go") => `(tactic| repeat' (first | (k_unfold; (try dsimp only)) | walk1 | (dsimp only; walk1) | (dsimp only; k_unfold; (try dsimp only))))
local macro_rules | `(tactic| walk_at "kf") => `(tactic| ((with_reducible show wpAny _ _ _ _ _ _); k_fold))
local macro_rules | `(tactic| walk_at "locals") => `(tactic| (intro y h1 h2; simp only [List.mem_cons, List.not_mem_nil, or_false, not_or] at h1 h2; simp [h1, h2]))
theorem lst_up {g h : Heap} {l : Addr} {items : Array Value} (x : g.IsList l items) (k : ∀ b o, g.get? b = some o → h.get? b = some o) : h.IsList l items := x.at fun o e => k _ o e
theorem lst_news {h₀ h : Heap} {L l : Addr} {news : List (Addr × Obj)} {items : Array Value} {c : Nat} (N : News h₀ L h news) (m : (l, listOf items c) ∈ news) : h.IsList l items := ⟨_, (N _ m).1, rfl, c, rfl⟩
theorem looks_list {M : Model} {h : Heap} {l : Addr} {items : Array Value} (x : h.IsList l items) : Looks M h (typeOf (.ref l)) (.type "list") := by
  obtain ⟨o, ho, hc, _⟩ := x
  exact hc ▸ (Looks.ld ho).andThen .now
theorem cls_list {h : Heap} {l : Addr} {items : Array Value} (x : h.IsList l items) : ∃ o, h.get? l = some o ∧ o.cls = .type "list" := let ⟨o, ho, hc, _⟩ := x; ⟨o, ho, hc⟩
theorem isn_list {prog : Program} {w : World} {A : Around} {E : Value → Shared → Prop} {s : Shared} {K : Frag} {C l : Addr} {items : Array Value} {Q : Value → Shared → Prop} (X : K.In s.heap) (hl : s.heap.IsList l items) (e : isNotIn K "list" C = true) (h : Q (.bool false) { s with toks := s.toks + 1 }) :
    wpAny (model prog w) A (call (.builtin "isinstance") [.ref l, .ref C]) Q E s :=
  isn_call (P := fun h => ∃ o, h.get? l = some o ∧ o.cls = .type "list") X (fun M => looks_list hl) e (fun e => nomatch e) (cls_list hl) list_cls h
local macro_rules | `(tactic| walk_at "lst") => `(tactic| first | exact lst_up (by assumption) (Fr.keep (by k_asm)) | exact lst_news (by k_asm) (by k_mem))
local macro_rules | `(tactic| walk_at "call builtin:isinstance") => `(tactic| (k_dflt (refine' isn_list ?k1 ?k2 ?k3 ?_; (case k1 => k_in); (case k2 => walk_at "lst"); (case k3 => k_not); k_whole)))
theorem truthy_ne {prog : Program} {w : World} {A : Around} {E : Value → Shared → Prop} {s : Shared} {l : Addr} {items : Array Value} {Q : Bool → Shared → Prop} (hl : s.heap.IsList l items) (hne : items.isEmpty = false) (hfit : items.size ≤ 64)
    (h : Q true { s with toks := s.toks + 1 + 1 }) : wpAny (model prog w) A (truthy (.ref l)) Q E s :=
  wpAny_truthy_list hl (by omega) (by rw [hne]; exact h)
local macro_rules | `(tactic| walk_at "truthy ref") => `(tactic| (k_dflt (refine' truthy_ne ?l ?n ?f ?_; (case l => walk_at "lst"); (case n => assumption); (case f => omega); k_whole)))
def slEs (P : Params) (bd bi : Addr) (pa po : Value) (t1 t2 t3 t4 : Tok) : List DictEntry :=
  [⟨PyData.keyHash P "data", .str "data" t1, .ref bd⟩, ⟨PyData.keyHash P "items", .str "items" t2, .ref bi⟩, ⟨PyData.keyHash P "parent", .str "parent" t3, pa⟩, ⟨PyData.keyHash P "parent_offset", .str "parent_offset" t4, po⟩]
local macro_rules | `(tactic| walk_at "call builtin:len") => `(tactic| (k_dflt (refine' len_list ?l ?f ?_; (case l => walk_at "lst"); (case f => omega); k_whole)))
local macro_rules | `(tactic| walk_at "call type:list") => `(tactic| (k_dflt (refine' list_copyK ?k1 ?k2 ?k3 ?_ ?z; (case k1 => k_asm); (case k2 => k_asm); (case k3 => walk_at "lst"); (case z => rw [sizeLine_eq]; omega); k_whole); intro D' c' h' F' N' l1; (try k_lt l1); (try k_sweep)))
theorem vl_back {P : Params} {g h' : Heap} {L : Addr} {m : Str → Option Value} {s : Shared} {news : List (Addr × Obj)} {tk : Nat} {x dx bd li : Addr} {pa po : Value} {t1 t2 t3 t4 : Tok} {vs : Array Value} {c : Nat}
    (F : Fr g L h' m) (N : News g L h' news) (h1 : (x, instObj 557 dx) ∈ news) (h2 : (dx, dictOf (slEs P bd li pa po t1 t2 t3 t4) 4) ∈ news) (h3 : (bd, listOf vs c) ∈ news) (n1 : @Ne Nat bd x) (n2 : @Ne Nat bd dx) :
    Back g s (fun v led => v = .none ∧ ∃ bd c t1 t2 t3 t4, led = [(x, instObj 557 dx), (dx, dictOf (slEs P bd li pa po t1 t2 t3 t4) 4), (bd, listOf vs c)] ∧ @Ne Nat bd x ∧ @Ne Nat bd dx) (.ok (.ret .none)) { s with heap := h', toks := tk } :=
  Back.intro F (news_sub N (List.forall_mem_cons.mpr ⟨h1, List.forall_mem_cons.mpr ⟨h2, List.forall_mem_cons.mpr ⟨h3, List.forall_mem_nil _⟩⟩⟩)) ⟨rfl, _, _, _, _, _, _, rfl, n1, n2⟩
theorem vl_init {prog : Program} {w : World} {s : Shared} {g : Heap} {mg mb : Str → Option Value} {p : Program} {loose : List Str} {x dx l0 li pa : Addr} {vs ws : Array Value} {k : Int} {t : Tok}
   (X : (hd.heap_39 w.params).In g) (T : TopRead p loose mg mb g) (S : St g s.heap [(x, instObj 557 dx), (dx, dictOf [] 0)]) (hxd : dx < x)
   (hl0 : g.IsList l0 vs) (hli : g.IsList li ws) (hsz : vs.size = ws.size) (hpos : 0 < ws.size) (h64 : ws.size ≤ 64) :
   codeAny (model prog w) (lv 900 5000) (.call (.ref 267) ⟨[.ref x, .ref l0], [("items", .ref li), ("parent", .ref pa), ("parent_offset", .int k t)]⟩) (Back g s fun v led => v = .none ∧ ∃ bd c t1 t2 t3 t4, led = [(x, instObj 557 dx), (dx, dictOf (slEs w.params bd li (.ref pa) (.int k t) t1 t2 t3 t4) 4), (bd, listOf vs c)] ∧ @Ne Nat bd x ∧ @Ne Nat bd dx) s := by
  have hne : ws.isEmpty = false := by unfold Array.isEmpty; exact decide_eq_false (by omega)
  k_dflt (refine' enterC (binds := [("self", .ref x), ("initlist", .ref l0), ("source", .none), ("items", .ref li), ("parent", .ref pa), ("parent_offset", .int k t)]) X T S ?k6 ?k7 ?k8 ?k9 ?kB ?kD ?_ ?c2 ?c3 ?c4; (case k6 => k_is); (case k7 => k_is); (case k8 => decide); (case k9 => exact binds_K (X.keeps S.stays) rfl (by k_is) rfl rfl rfl); (case kB => rfl); (case kD => decide); (case c2 => rfl); (case c3 => rfl); (case c4 => rfl))
  intro L h₁ tk cells F N Y lt
  k_cells Y
  dsimp only [List.cons_append, List.nil_append] at N
  replace hxd := ltN hxd
  k_lt lt
  walk_at "kf"
  walk_at "go"
  rename Fr _ _ _ _ => F'
  rename News _ _ _ _ => N'
  rename (_ < _) ∧ (_ < _) ∧ (_ < _) ∧ (_ < _) ∧ (_ < _) => l5
  exact vl_back F' N' (.tail _ (.tail _ (.tail _ (.tail _ (.head _))))) (.tail _ (.tail _ (.tail _ (.tail _ (.tail _ (.head _)))))) (.head _) (Nat.ne_of_gt l5.2.2.2.1) (Nat.ne_of_gt l5.2.2.2.2)
end Mine
end V_part
section Cp_part
open PySem PySem.W PyProof.Rows PySem.Calls
namespace Mine
open PyProof.Rows.LCg (lst NsObj ns_obj lst_snoc)
section
variable {prog : Program} {w : World} {A : Around}
def Tests (ifs : List Expr) (env : Env) : Sem Bool :=
  forIn ifs true fun c r => if r = true then do let ok ← isTrue c env (eval c env); pure (ForInStep.yield ok) else pure (ForInStep.yield r)
theorem compLoop_any {elt target iter : Expr} {ifs : List Expr} {scope : Scope} {pos : Pos} {it acc : Value} {env : Env} {s : Shared} {R : Result → Shared → Prop} (I : Nat → Shared → Prop)
    (turn : ∀ n s, I n s → wpAny (model prog w) A (pyNext it) (fun r s₁ => match r with
      | none => R (.ok .next) s₁
      | some v => wpAny (model prog w) A (letOwnedTupleGo target it v) (fun _ s₀ => wpAny (model prog w) A (assign target env v) (fun _ s₂ =>
          wpAny (model prog w) A (Tests ifs env) (fun ok s₃ => if ok = true then
            wpAny (model prog w) A (eval elt env) (fun x s₄ =>
              wpAny (model prog w) A (call (.builtin "list.append") [acc, x]) (fun _ s₅ => ∃ m, m < n ∧ I m s₅) (notedBy (model prog w) A env fun e s' => R (.error e) s') s₄) (notedBy (model prog w) A env fun e s' => R (.error e) s') s₃
            else ∃ m, m < n ∧ I m s₃) (notedBy (model prog w) A env fun e s' => R (.error e) s') s₂)
          (notedBy (model prog w) A env fun e s' => R (.error e) s') s₀) (notedBy (model prog w) A env fun e s' => R (.error e) s') s₁) (notedBy (model prog w) A env fun e s' => R (.error e) s') s)
    (n : Nat) (h : I n s) : codeAny (model prog w) A (.compLoop (.ListComp elt [⟨target, iter, ifs, 0⟩] scope pos) 0 it acc env) R s := by
  refine codeAny_loop rfl I (fun n s hI => ?_) n h
  show wpAny _ A ((compTurn (.ListComp elt [⟨target, iter, ifs, 0⟩] scope pos) 0 it acc env).onRaise (fun x => do noteFrame x env; theTreesLotGoes x)) _ _ s
  refine wpAny_noted ?_
  rw [compTurn_list]
  refine wpAny_bind (wpAny_standAt (wpAny_bind (wpAny_mono (turn n s hI) (fun r s₁ h₁ => ?_) fun _ _ h' => h')))
  cases r with
  | none => exact wpAny_pure h₁
  | some v =>
    refine wpAny_bind (wpAny_mono h₁ (fun _ s₀ h₀' => ?_) fun _ _ h' => h')
    refine wpAny_bind (wpAny_mono h₀' (fun _ s₂ h₂ => ?_) fun _ _ h' => h')
    refine wpAny_bind (wpAny_mono h₂ (fun ok s₃ h₃ => ?_) fun _ _ h' => h')
    cases ok with
    | false => exact wpAny_pure ⟨rfl, h₃⟩
    | true =>
      exact wpAny_bind (wpAny_bind (wpAny_mono h₃ (fun x s₄ h₄ => wpAny_bind (wpAny_mono h₄ (fun _ s₅ h₅ => wpAny_pure (wpAny_pure ⟨rfl, h₅⟩)) fun _ _ h' => h')) fun _ _ h' => h'))
def CEnd (h₀ : Heap) (L : Addr) (m : Str → Option Value) (s₁ : Shared) (own : List (Addr × Obj)) (off : List Addr) (rest : Value → List (Addr × Obj) → Prop) (y : Value) (s₂ : Shared) : Prop :=
  ∃ h' tk news', s₂ = { s₁ with heap := h', toks := tk } ∧ Fr h₀ L h' m ∧ News h₀ L h' (own ++ news') ∧ (∀ q ∈ news', q.1 ∉ off) ∧ rest y news'
theorem CEnd.intro {h₀ : Heap} {L : Addr} {m : Str → Option Value} {s₁ : Shared} {own news' : List (Addr × Obj)} {off : List Addr} {rest : Value → List (Addr × Obj) → Prop} {y : Value} {h' : Heap} {tk : Nat}
    (F : Fr h₀ L h' m) (N : News h₀ L h' (own ++ news')) (ho : ∀ q ∈ news', q.1 ∉ off) (hr : rest y news') : CEnd h₀ L m s₁ own off rest y { s₁ with heap := h', toks := tk } := ⟨h', tk, news', rfl, F, N, ho, hr⟩
section
variable {h₀ : Heap} {L : Addr} {m : Str → Option Value}
structure Binds (prog : Program) (w : World) (A : Around) (I : Addr) (target : Expr) (cenv : Env) (fo wr ca : List Addr) (n : Nat) (Stt : Nat → Heap → Prop) (OK : List (Addr × Obj) → Prop) (B : Nat → List (Addr × Obj) → Prop) : Prop where
  next : ∀ i (s : Shared) own (R₀ : Shared → Prop) (Q : Unit → Shared → Prop) (E : Value → Shared → Prop), i < n → Stt i s.heap → own.map (·.1) = ca → OK own → (∀ q ∈ own, s.heap.get? q.1 = some q.2) →
    (∀ h' tk own', own'.map (·.1) = ca → OK own' → B i own' → (∀ q ∈ own', h'.get? q.1 = some q.2) → Stt (i + 1) h' → (∀ b o, b ∉ fo → b ∉ ca → s.heap.get? b = some o → h'.get? b = some o) → Q () { s with heap := h', toks := tk }) →
    wpAny (model prog w) A (pyNext (.ref I)) (fun r s₁ => match r with | none => R₀ s₁ | some v => wpAny (model prog w) A (letOwnedTupleGo target (.ref I) v) (fun _ s₀ => wpAny (model prog w) A (assign target cenv v) Q E s₀) E s₁) E s
  done : ∀ (s : Shared) (Q : Option Value → Shared → Prop) (E : Value → Shared → Prop), Stt n s.heap →
    (∀ h' tk, (∀ b o, b ∉ wr → s.heap.get? b = some o → h'.get? b = some o) → Q none { s with heap := h', toks := tk }) → wpAny (model prog w) A (pyNext (.ref I)) Q E s
  sub : ∀ b ∈ wr, b ∈ fo
def CTurn (prog : Program) (w : World) (A : Around) (h₀ : Heap) (L : Addr) (m : Str → Option Value) (elt : Expr) (ifs : List Expr) (cenv : Env) (s : Shared) (D : Addr) (fo ca : List Addr) (n : Nat) (Stt : Nat → Heap → Prop) (B : Nat → List (Addr × Obj) → Prop)
    (J : Nat → List Value → List (Addr × Obj) → Prop) : Prop :=
  ∀ i ys news₁ h tk own ownC (E' : Value → Shared → Prop), i < n → J i ys news₁ → own.map (·.1) = fo → ownC.map (·.1) = ca → B i ownC → (∀ q ∈ news₁, q.1 ∉ fo ++ (ca ++ [D])) → Stt (i + 1) h → Fr h₀ L h m → News h₀ L h ((own ++ (ownC ++ [(D, lst ys)])) ++ news₁) →
    wpAny (model prog w) A (Tests ifs cenv) (fun ok s' => if ok = true then
      wpAny (model prog w) A (eval elt cenv) (CEnd h₀ L m { s with heap := h, toks := tk } (own ++ (ownC ++ [(D, lst ys)])) (fo ++ (ca ++ [D])) (fun y news' => J (i + 1) (ys ++ [y]) news')) E' s'
      else CEnd h₀ L m { s with heap := h, toks := tk } (own ++ (ownC ++ [(D, lst ys)])) (fo ++ (ca ++ [D])) (fun _ news' => J (i + 1) ys news') .none s') E' { s with heap := h, toks := tk }
theorem comp_core {elt target iter : Expr} {ifs : List Expr} {scope : Scope} {pos : Pos} {cenv : Env} {s : Shared} {R : Result → Shared → Prop} {I D : Addr} {fp fo wr ca : List Addr} {n : Nat} {Stt : Nat → Heap → Prop} {OK : List (Addr × Obj) → Prop} {B : Nat → List (Addr × Obj) → Prop} {own₀ news : List (Addr × Obj)}
    (W : Binds prog w A I target cenv fo wr ca n Stt OK B) (frame : ∀ i h h', Stt i h → (∀ b ∈ fp, ∀ o, h.get? b = some o → h'.get? b = some o) → Stt i h') (hsz : n ≤ sizeLine)
    (hfo : ∀ b ∈ fp, b ∈ fo ∨ ∃ o, h₀.get? b = some o) (hfn : ∀ b ∈ fo, b ≠ L ∧ h₀.get? b = none) (ex : ∀ i h, Stt i h → ∀ b ∈ fo, ∃ o, h.get? b = some o)
    (hca : ∀ b ∈ ca, b ≠ L ∧ h₀.get? b = none ∧ b ∉ fo ∧ b ≠ D) (hD : D ≠ L ∧ h₀.get? D = none ∧ D ∉ fo)
    (hst : Stt 0 s.heap) (F : Fr h₀ L s.heap m) (ho₀ : own₀.map (·.1) = ca) (hok : OK own₀) (N : News h₀ L s.heap (own₀ ++ (D, lst []) :: news)) (hoff : ∀ q ∈ news, q.1 ∉ fo ++ (ca ++ [D]))
    (J : Nat → List Value → List (Addr × Obj) → Prop) (h0 : J 0 [] news)
    (turn : CTurn prog w A h₀ L m elt ifs cenv s D fo ca n Stt B J)
    (done : ∀ ys news₁ ownC h h'' tk, Stt n h'' → (∀ b o, b ∉ wr → h''.get? b = some o → h.get? b = some o) → J n ys news₁ → ownC.map (·.1) = ca → OK ownC → (∀ q ∈ news₁, q.1 ∉ fo ++ (ca ++ [D])) → Fr h₀ L h m → News h₀ L h (ownC ++ (D, lst ys) :: news₁) → R (.ok .next) { s with heap := h, toks := tk }) :
    codeAny (model prog w) A (.compLoop (.ListComp elt [⟨target, iter, ifs, 0⟩] scope pos) 0 (.ref I) (.ref D) cenv) R s := by
  have Lnew : h₀.get? L = none := by
    cases e : h₀.get? L with
    | none => rfl
    | some o => exact absurd (Nat.lt_of_lt_of_le (Heap.lt_size e) F.above) (Nat.lt_irrefl _)
  have hcaD : D ∉ ca := fun h => (hca _ h).2.2.2 rfl
  have nil3 : ∀ {b : Addr}, b ∉ fo ++ (ca ++ [D]) ↔ b ∉ fo ∧ b ∉ ca ∧ b ≠ D := by intro b; simp [not_or]
  refine compLoop_any
    (fun k s' => ∃ h' tk i ys own news', s' = { s with heap := h', toks := tk } ∧ i ≤ n ∧ k = n + 1 - i ∧ ys.length ≤ i ∧ Stt i h' ∧ Fr h₀ L h' m ∧ own.map (·.1) = ca ∧ OK own ∧ News h₀ L h' (own ++ (D, lst ys) :: news') ∧
      (∀ q ∈ news', q.1 ∉ fo ++ (ca ++ [D])) ∧ J i ys news') ?_ (n + 1)
    ⟨s.heap, s.toks, 0, [], own₀, news, rfl, Nat.zero_le _, rfl, Nat.le_refl _, hst, F, ho₀, hok, N, hoff, h0⟩
  rintro k s' ⟨h', tk, i, ys, own, news', rfl, hi, rfl, hyl, hst', F', hown, hok', N', hoff', hJ⟩
  by_cases hlt : i < n
  · refine W.next i _ own _ _ _ hlt hst' hown hok' (fun q hq => (N' q (List.mem_append_left _ hq)).1) fun h₁ tk₁ ownC hC₁ hokC hB hgC hst₁ hk₁ => ?_
    have F₁ : Fr h₀ L h₁ m := ⟨F'.ns.at' fun o e => hk₁ _ o (fun h => (hfn _ h).1 rfl) (fun h => (hca _ h).1 rfl) e,
      fun b o e => hk₁ b o (fun h => by rw [(hfn b h).2] at e; cases e) (fun h => by rw [(hca b h).2.1] at e; cases e) (F'.keep b o e), F'.above⟩
    obtain ⟨ownI, hoI, hgI⟩ := own_of fo (ex _ _ hst₁)
    have N₁ : News h₀ L h₁ ((ownI ++ (ownC ++ [(D, lst ys)])) ++ news') := fun q hq => by
      rcases List.mem_append.mp hq with hq | hq
      · rcases List.mem_append.mp hq with hq | hq
        · have : q.1 ∈ fo := hoI ▸ List.mem_map_of_mem hq
          exact ⟨hgI q hq, (hfn _ this).1, (hfn _ this).2⟩
        · rcases List.mem_append.mp hq with hq | hq
          · have : q.1 ∈ ca := hC₁ ▸ List.mem_map_of_mem hq
            exact ⟨hgC q hq, (hca _ this).1, (hca _ this).2.1⟩
          · rw [List.mem_singleton.mp hq]
            have z := N' (D, lst ys) (List.mem_append_right _ (.head _))
            exact ⟨hk₁ _ _ hD.2.2 hcaD z.1, z.2⟩
      · have z := N' q (List.mem_append_right _ (.tail _ hq))
        obtain ⟨u1, u2, _⟩ := nil3.mp (hoff' q hq)
        exact ⟨hk₁ _ _ u1 u2 z.1, z.2⟩
    refine wpAny_mono (turn i ys news' h₁ tk₁ ownI ownC _ hlt hJ hoI hC₁ hB hoff' hst₁ F₁ N₁) (fun ok s₃ h₃ => ?_) fun _ _ e => e
    have fin : ∀ {h₂ : Heap} {news₂ : List (Addr × Obj)}, Fr h₀ L h₂ m → News h₀ L h₂ ((ownI ++ (ownC ++ [(D, lst ys)])) ++ news₂) → Stt (i + 1) h₂ := fun {h₂ news₂} F₂ N₂ => by
      refine frame _ _ _ hst₁ fun b hb o e => ?_
      rcases hfo b hb with h1 | ⟨o₀, h1⟩
      · rw [← hoI] at h1
        obtain ⟨q, hq, rfl⟩ := List.mem_map.mp h1
        have : q.2 = o := Option.some.inj ((hgI q hq).symm.trans e)
        exact this ▸ (N₂ q (List.mem_append_left _ (List.mem_append_left _ hq))).1
      · have : o₀ = o := Option.some.inj ((F₁.keep b o₀ h1).symm.trans e)
        exact this ▸ F₂.keep b o₀ h1
    have rest : ∀ {h₂ : Heap} {news₂ : List (Addr × Obj)}, News h₀ L h₂ ((ownI ++ (ownC ++ [(D, lst ys)])) ++ news₂) → News h₀ L h₂ (ownC ++ (D, lst ys) :: news₂) := fun N₂ =>
      news_sub N₂ fun q hq => by simp only [List.mem_append, List.mem_cons, List.mem_singleton, List.not_mem_nil, or_false] at hq ⊢; rcases hq with h | h | h <;> simp only [h, true_or, or_true]
    cases ok with
    | true =>
      simp only [if_true] at h₃ ⊢
      refine wpAny_mono h₃ (fun y s₄ h₄ => ?_) fun _ _ e => e
      obtain ⟨h₂, tk₂, news₂, rfl, F₂, N₂, off₂, hJ₂⟩ := h₄
      have zD := (N₂ (D, lst ys) (by simp)).1
      refine append_at (hsz := by show ys.toArray.size ≤ sizeLine; rw [List.size_toArray]; exact Nat.le_trans (Nat.le_trans hyl hi) hsz) zD fun h₅ hs₅ hD₅ => ?_
      have hst₅ : Stt (i + 1) h₅ := frame _ _ _ (fin F₂ N₂) fun b hb o e => hs₅.extBut b o (fun q => by
        rcases hfo b hb with h1 | ⟨o₀, h1⟩
        · exact hD.2.2 (q ▸ h1)
        · rw [q, hD.2.1] at h1; cases h1) e
      refine ⟨n + 1 - (i + 1), by omega, h₅, tk₂, i + 1, ys ++ [y], ownC, news₂, rfl, hlt, rfl, by rw [List.length_append, List.length_singleton]; exact Nat.succ_le_succ hyl, hst₅, F₂.change hs₅ hD.1 hD.2.1, hC₁, hokC, fun q hq => ?_, off₂, hJ₂⟩
      rcases List.mem_append.mp hq with hq | hq
      · have z := rest N₂ q (List.mem_append_left _ hq)
        have : q.1 ∈ ca := hC₁ ▸ List.mem_map_of_mem hq
        exact ⟨hs₅.extBut _ _ (fun e => hcaD (e ▸ this)) z.1, z.2⟩
      · rcases List.mem_cons.mp hq with rfl | hq
        · exact ⟨hD₅.trans (congrArg some (lst_snoc ys y)), hD.1, hD.2.1⟩
        · have z := rest N₂ q (List.mem_append_right _ (.tail _ hq))
          exact ⟨hs₅.extBut _ _ (nil3.mp (off₂ q hq)).2.2 z.1, z.2⟩
    | false =>
      simp only [Bool.false_eq_true, if_false] at h₃ ⊢
      obtain ⟨h₂, tk₂, news₂, rfl, F₂, N₂, off₂, hJ₂⟩ := h₃
      exact ⟨n + 1 - (i + 1), by omega, h₂, tk₂, i + 1, ys, ownC, news₂, rfl, hlt, rfl, Nat.le_succ_of_le hyl, fin F₂ N₂, F₂, hC₁, hokC, rest N₂, off₂, hJ₂⟩
  · obtain rfl : i = n := Nat.le_antisymm hi (Nat.not_lt.mp hlt)
    refine W.done _ _ _ hst' fun h₁ tk₁ hk₁' => ?_
    have hk₁ : ∀ b o, b ∉ fo → h'.get? b = some o → h₁.get? b = some o := fun b o hb e => hk₁' b o (fun h => hb (W.sub _ h)) e
    refine done ys news' own h₁ h' tk₁ hst' hk₁' hJ hown hok' hoff' ⟨F'.ns.at' fun o e => hk₁ _ o (fun h => (hfn _ h).1 rfl) e, fun b o e => hk₁ b o (fun h => by rw [(hfn b h).2] at e; cases e) (F'.keep b o e), F'.above⟩ fun q hq => ?_
    refine ⟨hk₁ _ _ (fun h => ?_) (N' q hq).1, (N' q hq).2⟩
    rcases List.mem_append.mp hq with hq | hq
    · exact (hca _ (hown ▸ List.mem_map_of_mem hq)).2.2.1 h
    · rcases List.mem_cons.mp hq with rfl | hq
      · exact hD.2.2 h
      · exact (nil3.mp (hoff' q hq)).1 h
end
end
end Mine
end Cp_part
section Cp2_part
open PySem PySem.W PyProof.Rows PySem.Calls
namespace Mine
open PyProof.Rows.LCg (lst NsObj ns_obj lst_snoc Off1)
section
variable {prog : Program} {w : World} {A : Around} {I : Addr} {fp wr fo : List Addr} {n : Nat} {cenv : Env}
def OkN (C : Addr) (own : List (Addr × Obj)) : Prop := ∃ oC m₂, own = [(C, oC)] ∧ NsObj oC m₂
def BN (C : Addr) (x : Str) (P : Nat → Value → Prop) (i : Nat) (own : List (Addr × Obj)) : Prop := ∃ oC m₂ v, own = [(C, oC)] ∧ NsObj oC m₂ ∧ m₂ x = some v ∧ P i v
def OkC (C c : Addr) (own : List (Addr × Obj)) : Prop := ∃ oC oc m₂ v₀, own = [(C, oC), (c, oc)] ∧ NsObj oC m₂ ∧ oc.data = .cell v₀
def BC (C c : Addr) (P : Nat → Value → Prop) (i : Nat) (own : List (Addr × Obj)) : Prop := ∃ oC oc m₂ v, own = [(C, oC), (c, oc)] ∧ NsObj oC m₂ ∧ oc.data = .cell (some v) ∧ P i v
def BT (C : Addr) (xs : List Str) (Pt : Nat → Array Value → Prop) (i : Nat) (own : List (Addr × Obj)) : Prop := ∃ oC m₂ vals, own = [(C, oC)] ∧ NsObj oC (bindNames (xs.zip vals.toList) m₂) ∧ Pt i vals
theorem binds_name {x : Str} {px : Pos} {P : Nat → Value → Prop} {Stt : Nat → Heap → Prop} (W : Walks prog w A I fp wr n P Stt) (hwr : ∀ b ∈ wr, b ∈ fo) (hC : cenv.locals ∉ fp)
    (hx : cenv.kindOf x = some .local) (hp : (cenv.scope.kind == .class || (cenv.scope.kind == .module && cenv.locals != cenv.globals)) = false) :
    Binds prog w A I (.Name x px) cenv fo wr [cenv.locals] n Stt (OkN cenv.locals) (BN cenv.locals x P) where
  next := fun i s own R₀ Q E hi hst ho hok hg hQ => by
    obtain ⟨oC, m₂, rfl, hns⟩ := hok
    have hCw : cenv.locals ∉ wr := fun h => hC (W.sub _ h)
    refine W.item i _ _ _ hi hst fun v h₁ tk₁ hP hst₁ hk₁ => ?_
    refine wpAny_pure ?_
    refine wpAny_assign_Name (wpAny_storeName_local hx (hns.ns (hk₁ _ _ hCw (hg _ (.head _)))) (fun h₂ hn₂ hs₂ => ?_) hp)
    obtain ⟨oC', hoC', hns'⟩ := ns_obj hn₂
    refine hQ h₂ _ [(cenv.locals, oC')] rfl ⟨oC', _, rfl, hns'⟩ ⟨oC', _, v, rfl, hns', by simp, hP⟩ (fun q hq => by rw [List.mem_singleton.mp hq]; exact hoC') ?_ fun b o hb hb' e => ?_
    · exact W.frame _ _ _ hst₁ fun b hb o e => hs₂.extBut b o (fun q => hC (q ▸ hb)) e
    · exact hs₂.extBut b o (fun q => hb' (q ▸ .head _)) (hk₁ b o (fun q => hb (hwr _ q)) e)
  done := fun s Q E hst hQ => W.done s Q E hst hQ
  sub := hwr
theorem binds_cell {x : Str} {px : Pos} {c : Addr} {P : Nat → Value → Prop} {Stt : Nat → Heap → Prop} (W : Walks prog w A I fp wr n P Stt) (hwr : ∀ b ∈ wr, b ∈ fo) (hC : cenv.locals ∉ fp) (hc : c ∉ fp) (hcC : c ≠ cenv.locals)
    (hk : cenv.scope.kind = .function) (hx : cenv.kindOf x = some .cell) (hl : cenv.cells.lookup x = some c) :
    Binds prog w A I (.Name x px) cenv fo wr [cenv.locals, c] n Stt (OkC cenv.locals c) (BC cenv.locals c P) where
  next := fun i s own R₀ Q E hi hst ho hok hg hQ => by
    obtain ⟨oC, oc, m₂, v₀, rfl, hns, hoc⟩ := hok
    have hCw : cenv.locals ∉ wr := fun h => hC (W.sub _ h)
    have hcw : c ∉ wr := fun h => hc (W.sub _ h)
    refine W.item i _ _ _ hi hst fun v h₁ tk₁ hP hst₁ hk₁ => ?_
    refine wpAny_pure ?_
    refine wpAny_assign_Name (wpAny_storeName_cell hk hx hl ⟨oc, hk₁ _ _ hcw (hg (c, oc) (.tail _ (.head _))), hoc⟩ fun h₂ hc₂ hs₂ => ?_)
    obtain ⟨oc', hoc', hd'⟩ := hc₂
    have hgC : h₂.get? cenv.locals = some oC := hs₂.extBut _ _ (Ne.symm hcC) (hk₁ _ _ hCw (hg (cenv.locals, oC) (.head _)))
    refine hQ h₂ _ [(cenv.locals, oC), (c, oc')] rfl ⟨oC, oc', m₂, some v, rfl, hns, hd'⟩ ⟨oC, oc', m₂, v, rfl, hns, hd', hP⟩ (fun q hq => ?_) ?_ fun b o hb hb' e => ?_
    · rcases List.mem_cons.mp hq with rfl | hq
      · exact hgC
      · rw [List.mem_singleton.mp hq]; exact hoc'
    · exact W.frame _ _ _ hst₁ fun b hb o e => hs₂.extBut b o (fun q => hc (q ▸ hb)) e
    · exact hs₂.extBut b o (fun q => hb' (q ▸ .tail _ (.head _))) (hk₁ b o (fun q => hb (hwr _ q)) e)
  done := fun s Q E hst hQ => W.done s Q E hst hQ
  sub := hwr
theorem names_find {env : Env} : ∀ l : List (Str × Pos), (assignEach (l.map fun x => Expr.Name x.1 x.2) env).findIdx? (·.1) = none ∧ (assignEach (l.map fun x => Expr.Name x.1 x.2) env).length = l.length := by
  intro l
  induction l with
  | nil => exact ⟨rfl, rfl⟩
  | cons x r ih =>
    have e : assignEach ((x :: r).map fun x => Expr.Name x.1 x.2) env = (false, assign (.Name x.1 x.2) env) :: assignEach (r.map fun x => Expr.Name x.1 x.2) env := rfl
    rw [e]
    refine ⟨?_, by simp [ih.2]⟩
    rw [List.findIdx?_cons, ih.1]
    rfl
theorem assign_namesE {env : Env} {h₀ : Heap} (hp : (env.scope.kind == .class || (env.scope.kind == .module && env.locals != env.globals)) = false) : ∀ (xs : List (Str × Pos)) (vs : List Value) {s : Shared} {m : Str → Option Value} {Qu : Unit → Shared → Prop} {E : Value → Shared → Prop}
    (_ : ∀ x ∈ xs, env.kindOf x.1 = some .local) (_ : xs.length = vs.length) (_ : Fr h₀ env.locals s.heap m)
    (_ : ∀ h' tk', Fr h₀ env.locals h' (bindNames ((xs.map (·.1)).zip vs) m) → Heap.SameBut env.locals s.heap h' → Qu () { s with heap := h', toks := tk' }),
    wpAny (model prog w) A (assignInOrder ((assignEach (xs.map fun x => Expr.Name x.1 x.2) env).map (·.2)) vs) Qu E s := fun xs vs {s m Qu E} h1 h2 h3 h4 =>
  wpAny_mono (E := fun _ _ => False) (assign_names (hp := hp) xs vs h1 h2 h3 h4) (fun _ _ h => h) fun _ _ h => h.elim
theorem binds_tuple {xs : List (Str × Pos)} {k : Nat} {pt : Pos} {h₀ : Heap} {Pt : Nat → Array Value → Prop} {Stt : Nat → Heap → Prop} {Mid : Nat → Addr → Heap → Prop} (W : Wk prog w A I fp wr n Pt Stt Mid) (hh : A.handled = none)
    (hlen : ∀ i vals, Pt i vals → vals.size = xs.length) (hwr : ∀ b ∈ wr, b ∈ fo) (hC : cenv.locals ∉ fp)
    (hx : ∀ x ∈ xs, cenv.kindOf x.1 = some .local) (hp : (cenv.scope.kind == .class || (cenv.scope.kind == .module && cenv.locals != cenv.globals)) = false) :
    Binds prog w A I (.Tuple (xs.map fun x => Expr.Name x.1 x.2) k pt) cenv fo wr [cenv.locals] n Stt (OkN cenv.locals) (BT cenv.locals (xs.map (·.1)) Pt) where
  next := fun i s own R₀ Q E hi hst ho hok hg hQ => by
    obtain ⟨oC, m₂, rfl, hns⟩ := hok
    have hCw : cenv.locals ∉ wr := fun h => hC (W.sub _ h)
    refine W.item i _ _ _ hi hst fun T vals h₁ tk₁ hP hT hmid hk₁ => ?_
    have gC := hk₁ _ _ hCw (hg (cenv.locals, oC) (.head _))
    refine W.go _ _ _ i T _ _ _ hmid fun h₂ hst₂ hk₂ => ?_
    have gC₂ := hk₂ _ _ hCw gC
    have hT' : h₂.IsTuple T vals := hT.at fun o e => hk₂ T o (W.apart _ _ _ hmid) e
    refine wpAny_assign_Tuple hh hT' ((names_find xs).2.trans (hlen _ _ hP).symm) (names_find xs).1 fun h₃ hxe => ?_
    have hx' : ∀ b o, h₂.get? b = some o → h₃.get? b = some o := fun b o e => hxe b o (Nat.ne_of_lt (Heap.lt_size e)) e
    have F₃ : Fr ({} : Heap) cenv.locals h₃ m₂ := ⟨hns.ns (hx' _ _ gC₂), fun b o e => absurd (Heap.lt_size e) (Nat.not_lt_zero _), Nat.zero_le _⟩
    refine assign_namesE hp xs vals.toList hx (by simp only [Array.length_toList]; exact (hlen _ _ hP).symm) F₃ fun h₄ tk₄ F₄ hs₄ => ?_
    replace hs₄ : Heap.SameBut cenv.locals h₃ h₄ := hs₄
    obtain ⟨oC', hoC', hns'⟩ := ns_obj F₄.ns
    refine hQ h₄ _ [(cenv.locals, oC')] rfl ⟨oC', _, rfl, hns'⟩ ⟨oC', _, vals, rfl, hns', hP⟩ (fun q hq => by rw [List.mem_singleton.mp hq]; exact hoC') ?_ fun b o hb hb' e => ?_
    · exact W.frame _ _ _ hst₂ fun b hb o e => hs₄.extBut b o (fun q => hC (q ▸ hb)) (hx' _ _ e)
    · exact hs₄.extBut b o (fun q => hb' (q ▸ .head _)) (hx' _ _ (hk₂ b o (fun q => hb (hwr _ q)) (hk₁ b o (fun q => hb (hwr _ q)) e)))
  done := fun s Q E hst hQ => W.done s Q E hst hQ
  sub := hwr
end
section
variable {prog : Program} {w : World} {A : Around} {h₀ : Heap} {L : Addr} {m : Str → Option Value} {env : Env}
def Kept (h₀ : Heap) (L : Addr) (m : Str → Option Value) (s : Shared) (RR : Value → Addr → Result → Shared → Prop) (Fin : List Value → List (Addr × Obj) → Prop) : Prop :=
  ∀ D C h tk m' ys news', Fr h₀ L h m → News h₀ L h ((D, lst ys) :: news') → (∀ q ∈ news', q.1 ≠ D) → h.Ns C m' → h₀.get? C = none → h₀.get? D = none → C ≠ L → D ≠ L → C ≠ D → (∀ p ∈ news', p.1 ≠ C) → Fin ys news' → RR (.ref D) C (.ok .next) { s with heap := h, toks := tk }
def FinE (h₀ : Heap) (L : Addr) (m : Str → Option Value) (s : Shared) (Q : Value → Shared → Prop) (ys : List Value) (news : List (Addr × Obj)) : Prop :=
  ∀ D h tk, Fr h₀ L h m → News h₀ L h ((D, lst ys) :: news) → (∀ q ∈ news, q.1 ≠ D) → Q (.ref D) { s with heap := h, toks := tk }
def FinA (h₀ : Heap) (L : Addr) (m : Str → Option Value) (s : Shared) (y : Str) (Q : Flow → Shared → Prop) (ys : List Value) (news : List (Addr × Obj)) : Prop :=
  ∀ D h tk, Fr h₀ L h (fun z => if z = y then some (.ref D) else m z) → News h₀ L h ((D, lst ys) :: news) → (∀ q ∈ news, q.1 ≠ D) → Q .next { s with heap := h, toks := tk }
theorem kept_E {s : Shared} {E : Value → Shared → Prop} {Q : Value → Shared → Prop} : Kept h₀ L m s (compPost (model prog w) A E none Q) (FinE h₀ L m s Q) := by
  intro D C h tk m' ys news' F' N' o1 hn hC₀ hD₀ hCL hDL hCD offC fin
  refine ⟨m', hn, fun h'' hs'' => fin D h'' tk (F'.change hs'' hCL hC₀) (fun p hp => ?_) o1⟩
  refine ⟨hs''.extBut _ _ ?_ (N' p hp).1, (N' p hp).2⟩
  rcases List.mem_cons.mp hp with rfl | hp
  · exact Ne.symm hCD
  · exact offC p hp
theorem kept_A {s : Shared} {E : Value → Shared → Prop} {y : Str} {py : Pos} {Q : Flow → Shared → Prop} (hLe : env.locals = L) (hy : env.kindOf y = some .local) (hp : (env.scope.kind == .class || (env.scope.kind == .module && env.locals != env.globals)) = false) :
    Kept h₀ L m s (compPost (model prog w) A E (some (assign (.Name y py) env)) (fun _ s' => Q .next s')) (FinA h₀ L m s y Q) := by
  subst hLe
  intro D C h' tk m' ys news' F' N' o1 hn hC₀ hD₀ hCL hDL hCD offC fin
  show wpAny _ A (assign (.Name y py) env (.ref D)) _ _ _
  refine wpAny_assign_Name (wpAny_storeName_local hy F'.ns (fun h₂ hn₂ hs₂ => ?_) hp)
  have hL₀ : h₀.get? env.locals = none := Heap.get?_none_of_le F'.above
  have F₂ : Fr h₀ env.locals h₂ (fun z => if z = y then some (.ref D) else m z) := ⟨hn₂, fun b o e => hs₂.extBut b o (fun q => by rw [q, hL₀] at e; cases e) (F'.keep b o e), F'.above⟩
  refine ⟨m', hn.sameBut hs₂ hCL, fun h'' hs'' => fin D h'' _ (F₂.change hs'' hCL hC₀) (fun p hp => ?_) o1⟩
  have z : h₂.get? p.1 = some p.2 := hs₂.extBut _ _ (N' p hp).2.1 (N' p hp).1
  refine ⟨hs''.extBut _ _ ?_ z, (N' p hp).2⟩
  rcases List.mem_cons.mp hp with rfl | hp
  · exact Ne.symm hCD
  · exact offC p hp
def CompRun (prog : Program) (w : World) (A : Around) (h₀ : Heap) (L : Addr) (m : Str → Option Value) (elt target iter : Expr) (ifs : List Expr) (scope : Scope) (pos : Pos) (cl : List (Str × Addr)) (env : Env) (E : Value → Shared → Prop) (Fin : Shared → List Value → List (Addr × Obj) → Prop) (it : Value) (s₂ : Shared) : Prop :=
  ∀ RR, Kept h₀ L m s₂ RR (Fin s₂) → wpAny (model prog w) A (newList []) (fun acc s₃ => wpAny (model prog w) A (newFunctionEnv scope env.globals cl [] env.qual none .none (some env)) (fun cenv s₄ =>
    codeAny (model prog w) A (.compStart (.ListComp elt [⟨target, iter, ifs, 0⟩] scope pos) 0 it acc { cenv with scope := relabel scope env }) (RR acc cenv.locals) s₄) E s₃) E s₂
theorem ListComp_run {elt target iter : Expr} {ifs : List Expr} {scope : Scope} {cl : List (Str × Addr)} {pos : Pos} {s : Shared} {E : Value → Shared → Prop} {Q : Value → Shared → Prop}
    (hclos : closureFor scope env = pure cl) (hkind : scope.kind = .function) (hnames : ∀ y ∈ scope.names, y.2 = .local → scope.names.lookup y.1 = some .local)
    (h : wpAny (model prog w) A (eval iter env) (fun xv s₁ => wpAny (model prog w) A (pyIter xv) (CompRun prog w A h₀ L m elt target iter ifs scope pos cl env E fun s₂ => FinE h₀ L m s₂ Q) E s₁) E s)
    (hs : ∀ x, foldedSetIterable iter env x = pure x := by intro _; rfl) :
    wpAny (model prog w) A (eval (.ListComp elt [⟨target, iter, ifs, 0⟩] scope pos) env) Q E s := by
  rw [eval_ListComp]
  exact wpAny_comprehension_free (use := none) rfl hs hclos hkind hnames (wpAny_mono h (fun xv s₁ h₁ => wpAny_mono h₁ (fun it s₂ h₂ => h₂ _ kept_E) fun _ _ e => e) fun _ _ e => e)
theorem Assign_ListComp_run {elt target iter : Expr} {ifs : List Expr} {scope : Scope} {cl : List (Str × Addr)} {pos spos py : Pos} {y : Str} {s : Shared} {E : Value → Shared → Prop} {Q : Flow → Shared → Prop}
    (hsw : swapsWith (.ListComp elt [⟨target, iter, ifs, 0⟩] scope pos) (some (.Name y py)) spos.line env = pure true)
    (hclos : closureFor scope env = pure cl) (hkind : scope.kind = .function) (hnames : ∀ y ∈ scope.names, y.2 = .local → scope.names.lookup y.1 = some .local)
    (hLe : env.locals = L) (hy : env.kindOf y = some .local) (hp : (env.scope.kind == .class || (env.scope.kind == .module && env.locals != env.globals)) = false)
    (h : wpAny (model prog w) A (eval iter env) (fun xv s₁ => wpAny (model prog w) A (pyIter xv) (CompRun prog w A h₀ L m elt target iter ifs scope pos cl env E fun s₂ => FinA h₀ L m s₂ y Q) E s₁) E s)
    (hs : ∀ x, foldedSetIterable iter env x = pure x := by intro _; rfl) :
    wpAny (model prog w) A (exec (.Assign [.Name y py] (.ListComp elt [⟨target, iter, ifs, 0⟩] scope pos) spos) env) Q E s := by
  rw [exec_Assign_Name_used _ _ _ _ hsw]
  refine wpAny_bind (wpAny_standAt (wpAny_bind ?_))
  show wpAny _ A (do let _ ← comprehension (.ListComp elt [⟨target, iter, ifs, 0⟩] scope pos) scope env _ (newList []) false (eval iter env) (some (assign (.Name y py) env))) _ _ s
  exact wpAny_bind (wpAny_mono (wpAny_comprehension_free (use := some (assign (.Name y py) env)) (Q := fun _ s' => Q .next s') rfl hs hclos hkind hnames
    (wpAny_mono h (fun xv s₁ h₁ => wpAny_mono h₁ (fun it s₂ h₂ => h₂ _ (kept_A hLe hy hp)) fun _ _ e => e) fun _ _ e => e)) (fun _ s' hq => wpAny_pure (wpAny_pure hq)) fun _ _ e => e)
theorem ListComp_runF {elt target iter : Expr} {ifs : List Expr} {scope : Scope} {cl : List (Str × Addr)} {pos : Pos} {s : Shared} {E : Value → Shared → Prop} {Q : Value → Shared → Prop}
    (_F₀ : Fr h₀ L s.heap m) (hclos : closureFor scope env = pure cl) (hkind : scope.kind = .function) (hnames : ∀ y ∈ scope.names, y.2 = .local → scope.names.lookup y.1 = some .local)
    (h : wpAny (model prog w) A (eval iter env) (fun xv s₁ => wpAny (model prog w) A (pyIter xv) (CompRun prog w A h₀ L m elt target iter ifs scope pos cl env E fun s₂ => FinE h₀ L m s₂ Q) E s₁) E s)
    (hs : ∀ x, foldedSetIterable iter env x = pure x := by intro _; rfl) :
    wpAny (model prog w) A (eval (.ListComp elt [⟨target, iter, ifs, 0⟩] scope pos) env) Q E s :=
  ListComp_run hclos hkind hnames h hs
theorem Assign_ListComp_runF {elt target iter : Expr} {ifs : List Expr} {scope : Scope} {cl : List (Str × Addr)} {pos spos py : Pos} {y : Str} {s : Shared} {E : Value → Shared → Prop} {Q : Flow → Shared → Prop}
    (_F₀ : Fr h₀ L s.heap m) (hsw : swapsWith (.ListComp elt [⟨target, iter, ifs, 0⟩] scope pos) (some (.Name y py)) spos.line env = pure true)
    (hclos : closureFor scope env = pure cl) (hkind : scope.kind = .function) (hnames : ∀ y ∈ scope.names, y.2 = .local → scope.names.lookup y.1 = some .local)
    (hLe : env.locals = L) (hy : env.kindOf y = some .local) (hp : (env.scope.kind == .class || (env.scope.kind == .module && env.locals != env.globals)) = false)
    (h : wpAny (model prog w) A (eval iter env) (fun xv s₁ => wpAny (model prog w) A (pyIter xv) (CompRun prog w A h₀ L m elt target iter ifs scope pos cl env E fun s₂ => FinA h₀ L m s₂ y Q) E s₁) E s)
    (hs : ∀ x, foldedSetIterable iter env x = pure x := by intro _; rfl) :
    wpAny (model prog w) A (exec (.Assign [.Name y py] (.ListComp elt [⟨target, iter, ifs, 0⟩] scope pos) spos) env) Q E s :=
  Assign_ListComp_run hsw hclos hkind hnames hLe hy hp h hs
theorem comp_start {elt target iter : Expr} {ifs : List Expr} {scope : Scope} {pos : Pos} {cl : List (Str × Addr)} {E : Value → Shared → Prop} {it : Value} {s : Shared} {RR : Value → Addr → Result → Shared → Prop} {news : List (Addr × Obj)}
    (hcell : ∀ y ∈ scope.names, y.2 ≠ .cell) (hkind : scope.kind = .function) (F : Fr h₀ L s.heap m) (N : News h₀ L s.heap news)
    (self : ∀ (s' : Shared) (Q : Value → Shared → Prop) (E : Value → Shared → Prop), (∀ b o, s.heap.get? b = some o → s'.heap.get? b = some o) → Q it s' → wpAny (model prog w) A (pyIter it) Q E s')
    (h : ∀ D C oC h₁ tk, (∀ b o, s.heap.get? b = some o → b ≠ D ∧ b ≠ C) → (∀ b o, s.heap.get? b = some o → h₁.get? b = some o) → NsObj oC (fun _ => none) → C ≠ D → C ≠ L ∧ h₀.get? C = none → D ≠ L ∧ h₀.get? D = none →
      Fr h₀ L h₁ m → News h₀ L h₁ ([(C, oC)] ++ (D, lst []) :: news) → (∀ q ∈ news, q.1 ≠ C ∧ q.1 ≠ D) →
      codeAny (model prog w) A (.compLoop (.ListComp elt [⟨target, iter, ifs, 0⟩] scope pos) 0 it (.ref D) (compEnvC scope cl C env)) (RR (.ref D) C) { s with heap := h₁, toks := tk }) :
    wpAny (model prog w) A (newList []) (fun acc s₃ => wpAny (model prog w) A (newFunctionEnv scope env.globals cl [] env.qual none .none (some env)) (fun cenv s₄ =>
      codeAny (model prog w) A (.compStart (.ListComp elt [⟨target, iter, ifs, 0⟩] scope pos) 0 it acc { cenv with scope := relabel scope env }) (RR acc cenv.locals) s₄) E s₃) E s := by
  refine wpAny_newObj_type (wpAny_newFunctionEnv hcell (by intro y hy; simp at hy) (fun h₁ hns₁ hsb₁ => ?_) hkind)
  dsimp only at hns₁ hsb₁ ⊢
  generalize hH2 : s.heap.push { cls := .type "list", dict := none, data := .seq ([] : List Value).toArray } = H2 at hns₁ hsb₁ ⊢
  have hC : H2.objs.size = s.heap.objs.size + 1 := by rw [← hH2, Heap.size_push]
  have hDC : s.heap.objs.size ≠ H2.objs.size := by rw [hC]; exact Nat.ne_of_lt (Nat.lt_succ_self _)
  have below : ∀ b, b < s.heap.objs.size → b ≠ H2.objs.size ∧ b ≠ s.heap.objs.size := fun b hb => ⟨by rw [hC]; exact Nat.ne_of_lt (Nat.lt_succ_of_lt hb), Nat.ne_of_lt hb⟩
  have old : ∀ b o, s.heap.get? b = some o → h₁.get? b = some o := fun b o e => hsb₁.extBut b o (below b (Heap.lt_size e)).1 (Heap.get?_push_of_some _ (hH2 ▸ Heap.get?_push_of_some _ e))
  have hacc : h₁.get? s.heap.objs.size = some (lst []) := hsb₁.extBut _ _ hDC (Heap.get?_push_of_some _ (hH2 ▸ Heap.get?_push_size _ rfl))
  have fresh₀ : ∀ a, s.heap.objs.size ≤ a → h₀.get? a = none := fun a ha => by
    cases e : h₀.get? a with
    | none => rfl
    | some o' => exact absurd (Heap.lt_size (F.keep a o' e)) (Nat.not_lt.mpr ha)
  have hD₀ : h₀.get? s.heap.objs.size = none := fresh₀ _ (Nat.le_refl _)
  have hC₀ : h₀.get? H2.objs.size = none := fresh₀ _ (by rw [hC]; exact Nat.le_succ _)
  have hLlt : L < s.heap.objs.size := F.ns.lt
  have hDL : s.heap.objs.size ≠ L := Ne.symm (below L hLlt).2
  have hCL : H2.objs.size ≠ L := Ne.symm (below L hLlt).1
  obtain ⟨oC, heC, hoC⟩ := ns_obj hns₁
  have go := h s.heap.objs.size H2.objs.size oC h₁ (s.toks + ([] : List (Str × Value)).length) (fun b o e => ⟨(below b (Heap.lt_size e)).2, (below b (Heap.lt_size e)).1⟩) old hoC (Ne.symm hDC) ⟨hCL, hC₀⟩ ⟨hDL, hD₀⟩ (F.keeps old)
    (fun q hq => by
      rcases List.mem_cons.mp hq with rfl | hq
      · exact ⟨heC, hCL, hC₀⟩
      · rcases List.mem_cons.mp hq with rfl | hq
        · exact ⟨hacc, hDL, hD₀⟩
        · exact ⟨old _ _ (N q hq).1, (N q hq).2⟩)
    (fun q hq => below _ (Heap.lt_size (N q hq).1))
  exact codeAny_compStart_list go (self _ _ _ old go)
theorem comp_startC {elt target iter : Expr} {ifs : List Expr} {scope : Scope} {pos : Pos} {cl : List (Str × Addr)} {E : Value → Shared → Prop} {it : Value} {s : Shared} {RR : Value → Addr → Result → Shared → Prop} {news : List (Addr × Obj)} {x : Str}
    (hcell : ∀ k, cellsFrom k scope.names cl = (x, k) :: cl) (hpush : ∀ h, pushCells h scope.names = h.push { cls := .type "cell", data := .cell none }) (F : Fr h₀ L s.heap m) (N : News h₀ L s.heap news)
    (self : ∀ (s' : Shared) (Q : Value → Shared → Prop) (E : Value → Shared → Prop), (∀ b o, s.heap.get? b = some o → s'.heap.get? b = some o) → Q it s' → wpAny (model prog w) A (pyIter it) Q E s')
    (h : ∀ D C c oC oc h₁ tk, (∀ b o, s.heap.get? b = some o → b ≠ D ∧ b ≠ C ∧ b ≠ c) → (∀ b o, s.heap.get? b = some o → h₁.get? b = some o) → NsObj oC (fun _ => none) → oc.data = .cell none → C ≠ D → c ≠ C → c ≠ D → C ≠ L ∧ h₀.get? C = none → c ≠ L ∧ h₀.get? c = none → D ≠ L ∧ h₀.get? D = none →
      Fr h₀ L h₁ m → News h₀ L h₁ ([(C, oC), (c, oc)] ++ (D, lst []) :: news) → (∀ q ∈ news, q.1 ≠ C ∧ q.1 ≠ c ∧ q.1 ≠ D) →
      codeAny (model prog w) A (.compLoop (.ListComp elt [⟨target, iter, ifs, 0⟩] scope pos) 0 it (.ref D) (compEnvC scope ((x, c) :: cl) C env)) (RR (.ref D) C) { s with heap := h₁, toks := tk }) :
    wpAny (model prog w) A (newList []) (fun acc s₃ => wpAny (model prog w) A (newFunctionEnv scope env.globals cl [] env.qual none .none (some env)) (fun cenv s₄ =>
      codeAny (model prog w) A (.compStart (.ListComp elt [⟨target, iter, ifs, 0⟩] scope pos) 0 it acc { cenv with scope := relabel scope env }) (RR acc cenv.locals) s₄) E s₃) E s := by
  refine wpAny_newObj_type ?_
  simp only [newFunctionEnv, Option.isSome_some, if_true]
  refine wpAny_bind (wpAny_alloc ?_)
  refine wpAny_bind (wpAny_layCells _ (fun name kind cells => by cases hkc : kind == NameKind.cell <;> simp [hkc]) _ _ _ _ ?_)
  rw [hcell, hpush]
  refine wpAny_bind (wpAny_pure (wpAny_pure ?_))
  dsimp only
  generalize hH1 : s.heap.push { cls := .type "list", dict := none, data := .seq ([] : List Value).toArray } = H1
  generalize hH2 : H1.push { cls := .type "dict", data := .dict #[] } = H2
  have z1 : H1.objs.size = s.heap.objs.size + 1 := by rw [← hH1, Heap.size_push]
  have z2 : H2.objs.size = s.heap.objs.size + 2 := by rw [← hH2, Heap.size_push, z1]
  have old : ∀ b o, s.heap.get? b = some o → (H2.push { cls := .type "cell", data := .cell none }).get? b = some o := fun b o e => Heap.get?_push_of_some _ (hH2 ▸ Heap.get?_push_of_some _ (hH1 ▸ Heap.get?_push_of_some _ e))
  have gD : (H2.push { cls := .type "cell", data := .cell none }).get? s.heap.objs.size = some (lst []) := Heap.get?_push_of_some _ (hH2 ▸ Heap.get?_push_of_some _ (hH1 ▸ Heap.get?_push_size _ rfl))
  have nC : (H2.push { cls := .type "cell", data := .cell none }).Ns H1.objs.size (fun _ => none) := (hH2 ▸ Heap.Ns.new H1 (.type "dict")).keeps fun b o e => Heap.get?_push_of_some _ e
  have gc : (H2.push { cls := .type "cell", data := .cell none }).get? H2.objs.size = some { cls := .type "cell", data := .cell none } := Heap.get?_push_size _ rfl
  have fresh₀ : ∀ a, s.heap.objs.size ≤ a → h₀.get? a = none := fun a ha => by
    cases e : h₀.get? a with
    | none => rfl
    | some o' => exact absurd (Heap.lt_size (F.keep a o' e)) (Nat.not_lt.mpr ha)
  have hLlt : L < s.heap.objs.size := F.ns.lt
  obtain ⟨oC, heC, hoC⟩ := ns_obj nC
  have below : ∀ b, b < s.heap.objs.size → b ≠ s.heap.objs.size ∧ b ≠ H1.objs.size ∧ b ≠ H2.objs.size := fun b hb => by rw [z1, z2]; exact ⟨Nat.ne_of_lt hb, Nat.ne_of_lt (Nat.lt_succ_of_lt hb), Nat.ne_of_lt (Nat.lt_succ_of_lt (Nat.lt_succ_of_lt hb))⟩
  have go := h s.heap.objs.size H1.objs.size H2.objs.size oC _ _ s.toks (fun b o e => below b (Heap.lt_size e)) old hoC rfl
    (by rw [z1]; exact Nat.ne_of_gt (Nat.lt_succ_self _)) (by rw [z1, z2]; exact Nat.ne_of_gt (Nat.lt_succ_self _)) (by rw [z2]; exact Nat.ne_of_gt (Nat.lt_succ_of_lt (Nat.lt_succ_self _)))
    ⟨Ne.symm (below L hLlt).2.1, fresh₀ _ (by rw [z1]; exact Nat.le_succ _)⟩ ⟨Ne.symm (below L hLlt).2.2, fresh₀ _ (by rw [z2]; exact Nat.le_succ_of_le (Nat.le_succ _))⟩ ⟨Ne.symm (below L hLlt).1, fresh₀ _ (Nat.le_refl _)⟩ (F.keeps old)
    (fun q hq => by
      rcases List.mem_cons.mp hq with rfl | hq
      · exact ⟨heC, Ne.symm (below L hLlt).2.1, fresh₀ _ (by rw [z1]; exact Nat.le_succ _)⟩
      · rcases List.mem_cons.mp hq with rfl | hq
        · exact ⟨gc, Ne.symm (below L hLlt).2.2, fresh₀ _ (by rw [z2]; exact Nat.le_succ_of_le (Nat.le_succ _))⟩
        · rcases List.mem_cons.mp hq with rfl | hq
          · exact ⟨gD, Ne.symm (below L hLlt).1, fresh₀ _ (Nat.le_refl _)⟩
          · exact ⟨old _ _ (N q hq).1, (N q hq).2⟩)
    (fun q hq => by obtain ⟨a, b, c⟩ := below _ (Heap.lt_size (N q hq).1); exact ⟨b, c, a⟩)
  exact codeAny_compStart_list go (self _ _ _ old go)
end
end Mine
end Cp2_part
section Cp3_part
open PySem PySem.W PyProof.Rows PySem.Calls
namespace Mine
open PyProof.Rows.LCg (lst NsObj ns_obj lst_snoc)
def AtL (h₀ : Heap) (held : List (Addr × Obj)) (l : Addr) (items : Array Value) : Prop := h₀.IsList l items ∨ ∃ o, (l, o) ∈ held ∧ o.cls = .type "list" ∧ ∃ n, o.data = .seq items n
def AtT (h₀ : Heap) (held : List (Addr × Obj)) (T : Addr) (vals : Array Value) : Prop := h₀.IsTuple T vals ∨ ∃ o, (T, o) ∈ held ∧ o.cls = .type "tuple" ∧ ∃ n, o.data = .seq vals n
theorem AtL.list {h₀ h : Heap} {held : List (Addr × Obj)} {l : Addr} {items : Array Value} (x : AtL h₀ held l items) (k : ∀ b o, h₀.get? b = some o → h.get? b = some o) (hd : ∀ q ∈ held, h.get? q.1 = some q.2) : h.IsList l items := by
  rcases x with ⟨o, e, r⟩ | ⟨o, hm, r⟩
  · exact ⟨o, k _ _ e, r⟩
  · exact ⟨o, hd _ hm, r⟩
theorem AtT.tup {h₀ h : Heap} {held : List (Addr × Obj)} {l : Addr} {items : Array Value} (x : AtT h₀ held l items) (k : ∀ b o, h₀.get? b = some o → h.get? b = some o) (hd : ∀ q ∈ held, h.get? q.1 = some q.2) : h.IsTuple l items := by
  rcases x with ⟨o, e, r⟩ | ⟨o, hm, r⟩
  · exact ⟨o, k _ _ e, r⟩
  · exact ⟨o, hd _ hm, r⟩
theorem AtL.place {h₀ : Heap} {held : List (Addr × Obj)} {l : Addr} {items : Array Value} (x : AtL h₀ held l items) : l ∈ held.map (·.1) ∨ ∃ o, h₀.get? l = some o := by
  rcases x with ⟨o, e, r⟩ | ⟨o, hm, r⟩
  · exact .inr ⟨o, e⟩
  · exact .inl (List.mem_map.mpr ⟨_, hm, rfl⟩)
theorem AtT.place {h₀ : Heap} {held : List (Addr × Obj)} {l : Addr} {items : Array Value} (x : AtT h₀ held l items) : l ∈ held.map (·.1) ∨ ∃ o, h₀.get? l = some o := by
  rcases x with ⟨o, e, r⟩ | ⟨o, hm, r⟩
  · exact .inr ⟨o, e⟩
  · exact .inl (List.mem_map.mpr ⟨_, hm, rfl⟩)
section
variable {prog : Program} {w : World} {A : Around} {h₀ : Heap}
theorem walks_heldL (hh : A.handled = none) (I l : Addr) (hne : l ≠ I) (items : Array Value) (held : List (Addr × Obj)) (hI : ∀ q ∈ held, q.1 ≠ I) :
    Walks prog w A I (I :: l :: held.map (·.1)) [I] items.size (fun i v => items[i]? = some v) (fun i h => (h.IsListIter I l i ∧ h.IsList l items) ∧ ∀ q ∈ held, h.get? q.1 = some q.2) :=
  let W0 := Walks.list (prog := prog) (w := w) hh I l hne items
  { sub := fun b hb => by simp at hb; simp [hb]
    frame := fun i h h' st hk => ⟨W0.frame i h h' st.1 fun b hb o e => hk b (by simp only [List.mem_cons, List.not_mem_nil, or_false] at hb ⊢; rcases hb with h | h <;> simp only [h, true_or, or_true]) o e,
      fun q hq => hk q.1 (.tail _ (.tail _ (List.mem_map_of_mem hq))) _ (st.2 q hq)⟩
    item := fun i s Q E hi st hQ => W0.item i s Q E hi st.1 fun v h' tk hP hst hk => hQ v h' tk hP ⟨hst, fun q hq => hk _ _ (by simpa using hI q hq) (st.2 q hq)⟩ hk
    done := fun s Q E st hQ => W0.done s Q E st.1 hQ
    self := fun i s Q E st hQ => W0.self i s Q E st.1 hQ }
theorem walks_heldT (hh : A.handled = none) (I l : Addr) (hne : l ≠ I) (items : Array Value) (Ts : Nat → Addr) (vals : Nat → Array Value)
    (hit : ∀ j, j < items.size → items[j]? = some (.ref (Ts j))) (hTI : ∀ j, j < items.size → Ts j ≠ I) (held : List (Addr × Obj)) (hI : ∀ q ∈ held, q.1 ≠ I) :
    Wk prog w A I (I :: l :: (List.range items.size).map Ts ++ held.map (·.1)) [I] items.size (fun j v => j < items.size ∧ v = vals j)
      (fun j h => (h.IsListIter I l j ∧ h.IsList l items ∧ ∀ k, k < items.size → h.IsTuple (Ts k) (vals k)) ∧ ∀ q ∈ held, h.get? q.1 = some q.2)
      (fun j T h => ((j < items.size ∧ T = Ts j) ∧ h.IsListIter I l (j + 1) ∧ h.IsList l items ∧ ∀ k, k < items.size → h.IsTuple (Ts k) (vals k)) ∧ ∀ q ∈ held, h.get? q.1 = some q.2) :=
  let W0 := WalksU.listOfTuples (prog := prog) (w := w) hh I l hne items Ts vals hit hTI
  { sub := fun b hb => by simp at hb; simp [hb]
    frame := fun i h h' st hk => ⟨W0.frame i h h' st.1 fun b hb o e => hk b (List.mem_append_left _ hb) o e, fun q hq => hk q.1 (List.mem_append_right _ (List.mem_map_of_mem hq)) _ (st.2 q hq)⟩
    item := fun i s Q E hi st hQ => W0.item i s Q E hi st.1 fun T vs h' tk hP hT hm hk => hQ T vs h' tk ⟨hi, hP⟩ hT ⟨hm, fun q hq => hk _ _ (by simpa using hI q hq) (st.2 q hq)⟩ hk
    go := fun elts k pos i T s Q E hm hQ => W0.go elts k pos i T s Q E hm.1 fun h' st hk => hQ h' ⟨st, fun q hq => hk _ _ (by simpa using hI q hq) (hm.2 q hq)⟩ hk
    apart := fun i T h hm => W0.apart i T h hm.1
    done := fun s Q E st hQ => W0.done s Q E st.1 hQ }
section
variable {s : Shared} {env : Env} {L : Addr} {m : Str → Option Value} {elt iter : Expr} {ifs : List Expr} {scope : Scope} {pos : Pos} {cl : List (Str × Addr)} {E : Value → Shared → Prop} {Fin : Shared → List Value → List (Addr × Obj) → Prop}
def CBody (prog : Program) (w : World) (A : Around) (h₀ : Heap) (L : Addr) (m : Str → Option Value) (elt : Expr) (ifs : List Expr) (cenv : Env) (s₁ : Shared) (own : List (Addr × Obj)) (off : List Addr) (J1 : Value → List (Addr × Obj) → Prop) (J0 : List (Addr × Obj) → Prop) (E' : Value → Shared → Prop) : Prop :=
  wpAny (model prog w) A (Tests ifs cenv) (fun ok s' => if ok = true then wpAny (model prog w) A (eval elt cenv) (CEnd h₀ L m s₁ own off J1) E' s' else CEnd h₀ L m s₁ own off (fun _ => J0) .none s') E' s₁
theorem CBody.nil {cenv : Env} {s₁ : Shared} {own : List (Addr × Obj)} {off : List Addr} {J1 : Value → List (Addr × Obj) → Prop} {J0 : List (Addr × Obj) → Prop} {E' : Value → Shared → Prop}
    (h : wpAny (model prog w) A (eval elt cenv) (CEnd h₀ L m s₁ own off J1) E' s₁) : CBody prog w A h₀ L m elt [] cenv s₁ own off J1 J0 E' := wpAny_tests_nil (by simp only [if_true]; exact h)
theorem CBody.one {ct : Expr} {cenv : Env} {s₁ : Shared} {own : List (Addr × Obj)} {off : List Addr} {J1 : Value → List (Addr × Obj) → Prop} {J0 : List (Addr × Obj) → Prop} {E' : Value → Shared → Prop}
    (h : wpAny (model prog w) A (isTrue ct cenv (eval ct cenv)) (fun ok s' => if ok = true then wpAny (model prog w) A (eval elt cenv) (CEnd h₀ L m s₁ own off J1) E' s' else CEnd h₀ L m s₁ own off (fun _ => J0) .none s') E' s₁) : CBody prog w A h₀ L m elt [ct] cenv s₁ own off J1 J0 E' := wpAny_tests_one h
theorem held_own {fo : List Addr} {I : Addr} {held own : List (Addr × Obj)} {h : Heap} (ho : own.map (·.1) = I :: held.map (·.1)) (hg : ∀ q ∈ own, h.get? q.1 = some q.2) (hh : ∀ q ∈ held, h.get? q.1 = some q.2) : ∃ ob, own = (I, ob) :: held := by
  cases own with
  | nil => simp at ho
  | cons p r =>
    obtain ⟨a, ob⟩ := p
    rw [List.map_cons] at ho
    injection ho with h1 h2
    have h1' : a = I := h1
    refine ⟨ob, ?_⟩
    have key : ∀ (l r : List (Addr × Obj)), r.map (·.1) = l.map (·.1) → (∀ q ∈ r, h.get? q.1 = some q.2) → (∀ q ∈ l, h.get? q.1 = some q.2) → r = l := by
      intro l
      induction l with
      | nil => intro r e _ _; exact List.map_eq_nil_iff.mp e
      | cons p l ih =>
        intro r e g1 g2
        cases r with
        | nil => simp at e
        | cons p' r =>
          simp only [List.map_cons, List.cons.injEq] at e
          have e1 : p'.1 = p.1 := e.1
          have e2 : p'.2 = p.2 := Option.some.inj ((g1 p' (.head _)).symm.trans (e1 ▸ g2 p (.head _)))
          rw [ih r e.2 (fun q hq => g1 q (.tail _ hq)) fun q hq => g2 q (.tail _ hq), Prod.ext e1 e2]
    rw [h1', key held r h2 (fun q hq => hg q (.tail _ hq)) hh]
theorem range_comp {x : Str} {px : Pos} {r : Addr} {a₀ b₀ c₀ : Int} {t₀ u₀ v₀ : Tok} {n : Nat} {news : List (Addr × Obj)} (J : Nat → List Value → List (Addr × Obj) → Prop)
    (hh : A.handled = none) (hr : IsRange s.heap r a₀ b₀ c₀ t₀ u₀ v₀) (hsmall : Builtin.Range.small a₀ b₀ c₀ = true) (hn : Builtin.Range.rangeSize a₀ b₀ c₀ = (n : Int)) (hsz : n ≤ sizeLine) (F : Fr h₀ L s.heap m) (N : News h₀ L s.heap news) (h0 : J 0 [] news)
    (turn : ∀ i t ys news₁ h tk I ob C oC D m₂ E', i < n → J i ys news₁ → NsObj oC m₂ → m₂ x = some (.int (a₀ + (i : Int) * c₀) t) → @Ne Nat I C → @Ne Nat I D → @Ne Nat C D → (∀ q ∈ news₁, @Ne Nat q.1 I ∧ @Ne Nat q.1 C ∧ @Ne Nat q.1 D) → Fr h₀ L h m → News h₀ L h ((I, ob) :: (C, oC) :: (D, lst ys) :: news₁) →
      CBody prog w A h₀ L m elt ifs (compEnvC scope cl C env) { s with heap := h, toks := tk } [(I, ob), (C, oC), (D, lst ys)] [I, C, D] (fun y news' => J (i + 1) (ys ++ [y]) news') (fun news' => J (i + 1) ys news') E')
    (done : ∀ ys news' h, J n ys news' → Fin { s with heap := h } ys news')
    (hcell : ∀ y ∈ scope.names, y.2 ≠ .cell := by decide) (hkind : scope.kind = .function := by rfl) (hx : scope.names.lookup x = some .local := by rfl) :
    wpAny (model prog w) A (pyIter (.ref r)) (CompRun prog w A h₀ L m elt (.Name x px) iter ifs scope pos cl env E Fin) E s := by
  refine wpAny_pyIter_range hr hsmall fun RR K => ?_
  have W := (Walks.range (prog := prog) (w := w) hh s.heap.objs.size a₀ c₀ n).bound
  obtain ⟨h1, h2⟩ := fr_new F
  have st : IsRangeIter (s.heap.push { cls := .type "range_iterator", data := .fields #[rawInt a₀, rawInt (Builtin.Range.rangeSize a₀ b₀ c₀), rawInt c₀] }) s.heap.objs.size (a₀ + (0 : Nat) * c₀) ((n : Int) - (0 : Nat)) c₀ := by
    rw [hn]
    show _ = _
    simpa using Heap.get?_push_size s.heap (o := { cls := .type "range_iterator", data := .fields #[rawInt a₀, rawInt (n : Int), rawInt c₀] }) rfl
  have hoff : ∀ q ∈ news, q.1 ≠ s.heap.objs.size := fun q hq e => absurd (Heap.lt_size (N q hq).1) (e ▸ Nat.lt_irrefl _)
  generalize hI : s.heap.objs.size = I at *
  have fI := Heap.lt_size st
  refine comp_start (s := { s with heap := s.heap.push _ }) hcell hkind (F.push _) (news := news) (fun p hp => ⟨Heap.get?_push_of_some _ (N p hp).1, (N p hp).2⟩) (fun s' Q E k hQ => W.self 0 _ _ _ (k _ _ st) hQ) ?_
  intro D C oC h₁ tk hne old hoC hCD hC hD F₁ N₁ off₁
  obtain ⟨hID, hIC⟩ := hne _ _ st
  refine comp_core (fo := [I]) (ca := [C]) (fp := [I]) (OK := OkN C) (B := BN C x _) (own₀ := [(C, oC)]) (news := news) (binds_name W (fo := [I]) (cenv := compEnvC scope cl C env) (fun b hb => hb) (by show C ∉ [I]; simpa using Ne.symm hIC) (lookup_relabel_local hx) (by simp [compEnvC, relabel, hkind])) W.frame hsz (fun b hb => .inl hb)
    (fun b hb => (List.mem_singleton.mp hb) ▸ ⟨h1, h2⟩) (fun i h st b hb => ⟨_, (List.mem_singleton.mp hb) ▸ st⟩) (fun b hb => (List.mem_singleton.mp hb) ▸ ⟨hC.1, hC.2, by simpa using Ne.symm hIC, hCD⟩) ⟨hD.1, hD.2, by simpa using Ne.symm hID⟩
    (old _ _ st) F₁ rfl ⟨oC, _, rfl, hoC⟩ N₁ (fun q hq => by have := off₁ q hq; have := hoff q hq; simp_all) J h0 ?_ ?_
  · rintro i ys news₁ h tk₁ own ownC E' hi hJ ho hoC' ⟨oC₁, m₂, v, rfl, hns, hxv, _, t, rfl⟩ hq hst₁ F₂ N₂
    obtain ⟨ob, rfl⟩ := own_one ho
    exact turn i t ys news₁ h tk₁ I ob C oC₁ D m₂ E' hi hJ hns hxv hIC hID hCD (fun q hm => by have := hq q hm; simpa [not_or] using this) F₂ N₂
  · rintro ys news₁ ownC h h'' tk₁ st'' hk'' hJ hoC' ⟨oC₁, m₂, rfl, hns⟩ hq F₂ N₂
    refine K D C h tk₁ m₂ ys news₁ F₂ (fun q hm => N₂ q (.tail _ hm)) (fun q hm => by have := hq q hm; simp_all) (hns.ns (N₂ _ (.head _)).1) hC.2 hD.2 hC.1 hD.1 hCD (fun q hm => by have := hq q hm; simp_all) (done ys news₁ _ hJ)
theorem list_comp {x : Str} {px : Pos} {l : Addr} {items : Array Value} {news : List (Addr × Obj)} (held : List (Addr × Obj)) (J : Nat → List Value → List (Addr × Obj) → Prop)
    (hh : A.handled = none) (hl : AtL h₀ held l items) (hsz : items.size ≤ sizeLine) (F : Fr h₀ L s.heap m) (N : News h₀ L s.heap (held ++ news)) (hap : ∀ q ∈ news, q.1 ∉ held.map (·.1)) (h0 : J 0 [] news)
    (turn : ∀ i v ys news₁ h tk I ob C oC D m₂ E', i < items.size → items[i]? = some v → J i ys news₁ → NsObj oC m₂ → m₂ x = some v → @Ne Nat I C → @Ne Nat I D → @Ne Nat C D → (∀ q ∈ held, @Ne Nat q.1 I ∧ @Ne Nat q.1 C ∧ @Ne Nat q.1 D) → (∀ q ∈ news₁, q.1 ∉ held.map (·.1) ∧ @Ne Nat q.1 I ∧ @Ne Nat q.1 C ∧ @Ne Nat q.1 D) → Fr h₀ L h m → News h₀ L h (((I, ob) :: held ++ [(C, oC), (D, lst ys)]) ++ news₁) →
      CBody prog w A h₀ L m elt ifs (compEnvC scope cl C env) { s with heap := h, toks := tk } ((I, ob) :: held ++ [(C, oC), (D, lst ys)]) (I :: held.map (·.1) ++ [C, D]) (fun y news' => J (i + 1) (ys ++ [y]) news') (fun news' => J (i + 1) ys news') E')
    (done : ∀ ys news' h, J items.size ys news' → Fin { s with heap := h } ys (held ++ news'))
    (hcell : ∀ y ∈ scope.names, y.2 ≠ .cell := by decide) (hkind : scope.kind = .function := by rfl) (hx : scope.names.lookup x = some .local := by rfl) :
    wpAny (model prog w) A (pyIter (.ref l)) (CompRun prog w A h₀ L m elt (.Name x px) iter ifs scope pos cl env E Fin) E s := by
  have hg : ∀ q ∈ held, s.heap.get? q.1 = some q.2 := fun q hq => (N q (List.mem_append_left _ hq)).1
  have hls : s.heap.IsList l items := hl.list F.keep hg
  obtain ⟨ol, hol, _⟩ := id hls
  obtain ⟨h1, h2⟩ := fr_new F
  refine wpAny_pyIter_list hls fun RR K => ?_
  have hne : l ≠ s.heap.objs.size := Nat.ne_of_lt (Heap.lt_size hol)
  have hIn : ∀ q ∈ held, q.1 ≠ s.heap.objs.size := fun q hq => Nat.ne_of_lt (Heap.lt_size (hg q hq))
  have hoff : ∀ q ∈ news, q.1 ≠ s.heap.objs.size := fun q hq => Nat.ne_of_lt (Heap.lt_size (N q (List.mem_append_right _ hq)).1)
  have W := walks_heldL (prog := prog) (w := w) hh s.heap.objs.size l hne items held hIn
  generalize hI : s.heap.objs.size = I at *
  have up : ∀ b o, s.heap.get? b = some o → (s.heap.push { cls := .type "list_iterator", data := .fields #[.ref l, .int 0 0] }).get? b = some o := fun b o e => Heap.get?_push_of_some _ e
  have itI : (s.heap.push { cls := .type "list_iterator", data := .fields #[.ref l, .int 0 0] }).get? I = some { cls := .type "list_iterator", data := .fields #[.ref l, .int 0 0] } := by rw [← hI]; exact Heap.get?_push_size _ rfl
  have st : ((s.heap.push { cls := .type "list_iterator", data := .fields #[.ref l, .int 0 0] }).IsListIter I l 0 ∧ (s.heap.push { cls := .type "list_iterator", data := .fields #[.ref l, .int 0 0] }).IsList l items) ∧ ∀ q ∈ held, (s.heap.push { cls := .type "list_iterator", data := .fields #[.ref l, .int 0 0] }).get? q.1 = some q.2 :=
    ⟨⟨⟨_, itI, rfl, rfl⟩, hls.at fun o e => up _ _ e⟩, fun q hq => up _ _ (hg q hq)⟩
  refine comp_start (s := { s with heap := s.heap.push { cls := .type "list_iterator", data := .fields #[.ref l, .int 0 0] } }) hcell hkind (F.push _) (news := held ++ news) (fun p hp => ⟨up _ _ (N p hp).1, (N p hp).2⟩) (fun s' Q E k hQ => W.self 0 _ _ _ (W.frame _ _ _ st fun b _ o e => k b o e) hQ) ?_
  intro D C oC h₁ tk hne' old hoC hCD hC hD F₁ N₁ off₁
  obtain ⟨hID, hIC⟩ := hne' _ _ itI
  have hdCD : ∀ q ∈ held, q.1 ≠ C ∧ q.1 ≠ D := fun q hq => off₁ q (List.mem_append_left _ hq)
  have hCm : C ∉ held.map (·.1) := fun h => by obtain ⟨q, hq, e⟩ := List.mem_map.mp h; exact (hdCD q hq).1 e
  have hDm : D ∉ held.map (·.1) := fun h => by obtain ⟨q, hq, e⟩ := List.mem_map.mp h; exact (hdCD q hq).2 e
  have hlC : C ≠ l := fun e => (hne' _ _ (up _ _ hol)).2 e.symm
  have a1 : C ∉ I :: l :: held.map (·.1) := fun h => by
    rcases List.mem_cons.mp h with h | h
    · exact hIC h.symm
    · rcases List.mem_cons.mp h with h | h
      · exact hlC h
      · exact hCm h
  have a2 : ∀ b ∈ I :: l :: held.map (·.1), b ∈ I :: held.map (·.1) ∨ ∃ o, h₀.get? b = some o := fun b hb => by
    rcases List.mem_cons.mp hb with rfl | hb
    · exact .inl (.head _)
    · rcases List.mem_cons.mp hb with rfl | hb
      · exact hl.place.imp (.tail _) id
      · exact .inl (.tail _ hb)
  have a3 : ∀ b ∈ I :: held.map (·.1), b ≠ L ∧ h₀.get? b = none := fun b hb => by
    rcases List.mem_cons.mp hb with rfl | hb
    · exact ⟨h1, h2⟩
    · obtain ⟨q, hq, rfl⟩ := List.mem_map.mp hb
      exact (N q (List.mem_append_left _ hq)).2
  have a4 : C ∉ I :: held.map (·.1) := fun h => by
    rcases List.mem_cons.mp h with h | h
    · exact hIC h.symm
    · exact hCm h
  have a5 : D ∉ I :: held.map (·.1) := fun h => by
    rcases List.mem_cons.mp h with h | h
    · exact hID h.symm
    · exact hDm h
  have a6 : News h₀ L h₁ ([(C, oC)] ++ (D, lst []) :: news) := news_sub N₁ fun q hq => by
    simp only [List.mem_append, List.mem_cons, List.not_mem_nil, or_false] at hq ⊢
    rcases hq with h | h | h <;> simp only [h, true_or, or_true]
  have a7 : ∀ q ∈ news, q.1 ∉ I :: held.map (·.1) ++ ([C] ++ [D]) := fun q hq => by
    have z1 := off₁ q (List.mem_append_right _ hq)
    simp only [List.cons_append, List.mem_cons, List.mem_append, List.not_mem_nil, or_false, not_or]
    exact ⟨hoff q hq, hap q hq, z1.1, not_false, z1.2⟩
  refine comp_core (fo := I :: held.map (·.1)) (ca := [C]) (fp := I :: l :: held.map (·.1)) (OK := OkN C) (B := BN C x _) (own₀ := [(C, oC)]) (news := news) (binds_name W (fo := I :: held.map (·.1)) (cenv := compEnvC scope cl C env) (fun b hb => (List.mem_singleton.mp hb) ▸ .head _) a1 (lookup_relabel_local hx) (by simp [compEnvC, relabel, hkind])) W.frame hsz a2 a3 (fun i h st b hb => ?_)
    (fun b hb => (List.mem_singleton.mp hb) ▸ ⟨hC.1, hC.2, a4, hCD⟩) ⟨hD.1, hD.2, a5⟩ (W.frame _ _ _ st fun b _ o e => old b o e) F₁ rfl ⟨oC, _, rfl, hoC⟩ a6 a7 J h0 ?_ ?_
  · rcases List.mem_cons.mp hb with rfl | hb
    · obtain ⟨o, ho, _⟩ := st.1.1; exact ⟨o, ho⟩
    · obtain ⟨q, hq, rfl⟩ := List.mem_map.mp hb
      exact ⟨_, st.2 q hq⟩
  · rintro i ys news₁ h tk₁ own ownC E' hi hJ ho hoC' ⟨oC₁, m₂, v, rfl, hns, hxv, hP⟩ hq hst₁ F₂ N₂
    obtain ⟨ob, rfl⟩ := held_own (fo := []) ho (fun q hq => (N₂ q (List.mem_append_left _ (List.mem_append_left _ hq))).1) hst₁.2
    exact turn i v ys news₁ h tk₁ I ob C oC₁ D m₂ E' hi hP hJ hns hxv hIC hID hCD (fun q hm => ⟨hIn q hm, hdCD q hm⟩) (fun q hm => by have := hq q hm; simp only [List.cons_append, List.nil_append, List.mem_cons, List.mem_append, List.not_mem_nil, or_false, not_or] at this; exact ⟨this.2.1, this.1, this.2.2.1, this.2.2.2⟩) F₂ N₂
  · rintro ys news₁ ownC h h'' tk₁ st'' hk'' hJ hoC' ⟨oC₁, m₂, rfl, hns⟩ hq F₂ N₂
    have z : ∀ q ∈ news₁, q.1 ∉ held.map (·.1) ∧ q.1 ≠ C ∧ q.1 ≠ D := fun q hm => by
      have := hq q hm; simp only [List.cons_append, List.nil_append, List.mem_cons, List.mem_append, List.not_mem_nil, or_false, not_or] at this; exact ⟨this.2.1, this.2.2.1, this.2.2.2⟩
    refine K D C h tk₁ m₂ ys (held ++ news₁) F₂ (fun q hm => ?_) (fun q hm => ?_) (hns.ns (N₂ _ (.head _)).1) hC.2 hD.2 hC.1 hD.1 hCD (fun q hm => ?_) (done ys news₁ _ hJ)
    · rcases List.mem_cons.mp hm with rfl | hm
      · exact N₂ _ (.tail _ (.head _))
      · rcases List.mem_append.mp hm with hm | hm
        · exact ⟨hk'' _ _ (fun h => hIn q hm (List.mem_singleton.mp h)) (st''.2 q hm), (N q (List.mem_append_left _ hm)).2⟩
        · exact N₂ _ (.tail _ (.tail _ hm))
    · rcases List.mem_append.mp hm with hm | hm
      · exact (hdCD q hm).2
      · exact (z q hm).2.2
    · rcases List.mem_append.mp hm with hm | hm
      · exact (hdCD q hm).1
      · exact (z q hm).2.1
end
end
end Mine
end Cp3_part
section Cp4_part
open PySem PySem.W PyProof.Rows PySem.Calls
namespace Mine
open PyProof.Rows.LCg (lst NsObj ns_obj lst_snoc)
section
variable {prog : Program} {w : World} {A : Around} {h₀ : Heap}
section
variable {s : Shared} {env : Env} {L : Addr} {m : Str → Option Value} {elt iter : Expr} {ifs : List Expr} {scope : Scope} {pos : Pos} {cl : List (Str × Addr)} {E : Value → Shared → Prop} {Fin : Shared → List Value → List (Addr × Obj) → Prop}
theorem tuples_comp {xs : List (Str × Pos)} {kk : Nat} {pt : Pos} {Ts : Nat → Addr} {vals : Nat → Array Value} {l : Addr} {items : Array Value} {news : List (Addr × Obj)} (held : List (Addr × Obj)) (J : Nat → List Value → List (Addr × Obj) → Prop)
    (hh : A.handled = none) (hl : AtL h₀ held l items) (hit : ∀ j, j < items.size → items[j]? = some (.ref (Ts j))) (htp : ∀ j, j < items.size → AtT h₀ held (Ts j) (vals j)) (hlen : ∀ j, j < items.size → (vals j).size = xs.length) (hsz : items.size ≤ sizeLine) (F : Fr h₀ L s.heap m) (N : News h₀ L s.heap (held ++ news)) (hap : ∀ q ∈ news, q.1 ∉ held.map (·.1)) (h0 : J 0 [] news)
    (turn : ∀ i ys news₁ h tk I ob C oC D m₂ E', i < items.size → J i ys news₁ → NsObj oC (bindNames ((xs.map (·.1)).zip (vals i).toList) m₂) → @Ne Nat I C → @Ne Nat I D → @Ne Nat C D → (∀ q ∈ held, @Ne Nat q.1 I ∧ @Ne Nat q.1 C ∧ @Ne Nat q.1 D) → (∀ q ∈ news₁, q.1 ∉ held.map (·.1) ∧ @Ne Nat q.1 I ∧ @Ne Nat q.1 C ∧ @Ne Nat q.1 D) → Fr h₀ L h m → News h₀ L h (((I, ob) :: held ++ [(C, oC), (D, lst ys)]) ++ news₁) →
      CBody prog w A h₀ L m elt ifs (compEnvC scope cl C env) { s with heap := h, toks := tk } ((I, ob) :: held ++ [(C, oC), (D, lst ys)]) (I :: held.map (·.1) ++ [C, D]) (fun y news' => J (i + 1) (ys ++ [y]) news') (fun news' => J (i + 1) ys news') E')
    (done : ∀ ys news' h, J items.size ys news' → Fin { s with heap := h } ys (held ++ news'))
    (hcell : ∀ y ∈ scope.names, y.2 ≠ .cell := by decide) (hkind : scope.kind = .function := by rfl) (hx : ∀ x ∈ xs, scope.names.lookup x.1 = some .local := by decide) :
    wpAny (model prog w) A (pyIter (.ref l)) (CompRun prog w A h₀ L m elt (.Tuple (xs.map fun x => Expr.Name x.1 x.2) kk pt) iter ifs scope pos cl env E Fin) E s := by
  have hg : ∀ q ∈ held, s.heap.get? q.1 = some q.2 := fun q hq => (N q (List.mem_append_left _ hq)).1
  have hls : s.heap.IsList l items := hl.list F.keep hg
  obtain ⟨ol, hol, _⟩ := id hls
  obtain ⟨h1, h2⟩ := fr_new F
  refine wpAny_pyIter_list hls fun RR K => ?_
  have hne : l ≠ s.heap.objs.size := Nat.ne_of_lt (Heap.lt_size hol)
  have hIn : ∀ q ∈ held, q.1 ≠ s.heap.objs.size := fun q hq => Nat.ne_of_lt (Heap.lt_size (hg q hq))
  have hoff : ∀ q ∈ news, q.1 ≠ s.heap.objs.size := fun q hq => Nat.ne_of_lt (Heap.lt_size (N q (List.mem_append_right _ hq)).1)
  have hTs : ∀ j, j < items.size → s.heap.IsTuple (Ts j) (vals j) := fun j hj => (htp j hj).tup F.keep hg
  have hTn : ∀ j, j < items.size → Ts j ≠ s.heap.objs.size := fun j hj => by obtain ⟨o, e, _⟩ := hTs j hj; exact Nat.ne_of_lt (Heap.lt_size e)
  have W := walks_heldT (prog := prog) (w := w) hh s.heap.objs.size l hne items Ts vals hit hTn held hIn
  generalize hI : s.heap.objs.size = I at *
  have up : ∀ b o, s.heap.get? b = some o → (s.heap.push { cls := .type "list_iterator", data := .fields #[.ref l, .int 0 0] }).get? b = some o := fun b o e => Heap.get?_push_of_some _ e
  have itI : (s.heap.push { cls := .type "list_iterator", data := .fields #[.ref l, .int 0 0] }).get? I = some { cls := .type "list_iterator", data := .fields #[.ref l, .int 0 0] } := by rw [← hI]; exact Heap.get?_push_size _ rfl
  have st : ((s.heap.push { cls := .type "list_iterator", data := .fields #[.ref l, .int 0 0] }).IsListIter I l 0 ∧ (s.heap.push { cls := .type "list_iterator", data := .fields #[.ref l, .int 0 0] }).IsList l items ∧ ∀ k, k < items.size → (s.heap.push { cls := .type "list_iterator", data := .fields #[.ref l, .int 0 0] }).IsTuple (Ts k) (vals k)) ∧ ∀ q ∈ held, (s.heap.push { cls := .type "list_iterator", data := .fields #[.ref l, .int 0 0] }).get? q.1 = some q.2 :=
    ⟨⟨⟨_, itI, rfl, rfl⟩, hls.at fun o e => up _ _ e, fun k hk => (hTs k hk).at fun o e => up _ _ e⟩, fun q hq => up _ _ (hg q hq)⟩
  refine comp_start (s := { s with heap := s.heap.push { cls := .type "list_iterator", data := .fields #[.ref l, .int 0 0] } }) hcell hkind (F.push _) (news := held ++ news) (fun p hp => ⟨up _ _ (N p hp).1, (N p hp).2⟩) (fun s' Q E k hQ => wpAny_pyIter_listiter (st.1.1.at fun o e => k _ _ e) hQ) ?_
  intro D C oC h₁ tk hne' old hoC hCD hC hD F₁ N₁ off₁
  obtain ⟨hID, hIC⟩ := hne' _ _ itI
  have hdCD : ∀ q ∈ held, q.1 ≠ C ∧ q.1 ≠ D := fun q hq => off₁ q (List.mem_append_left _ hq)
  have hCm : C ∉ held.map (·.1) := fun h => by obtain ⟨q, hq, e⟩ := List.mem_map.mp h; exact (hdCD q hq).1 e
  have hDm : D ∉ held.map (·.1) := fun h => by obtain ⟨q, hq, e⟩ := List.mem_map.mp h; exact (hdCD q hq).2 e
  have hlC : C ≠ l := fun e => (hne' _ _ (up _ _ hol)).2 e.symm
  have a1 : C ∉ I :: l :: (List.range items.size).map Ts ++ held.map (·.1) := fun h => by
    rcases List.mem_cons.mp h with h | h
    · exact hIC h.symm
    · rcases List.mem_cons.mp h with h | h
      · exact hlC h
      · rcases List.mem_append.mp h with h | h
        · obtain ⟨j, hj, e⟩ := List.mem_map.mp h
          obtain ⟨o, eo, _⟩ := hTs j (List.mem_range.mp hj)
          exact (hne' _ _ (up _ _ eo)).2 e
        · exact hCm h
  have a2 : ∀ b ∈ I :: l :: (List.range items.size).map Ts ++ held.map (·.1), b ∈ I :: held.map (·.1) ∨ ∃ o, h₀.get? b = some o := fun b hb => by
    rcases List.mem_cons.mp hb with rfl | hb
    · exact .inl (.head _)
    · rcases List.mem_cons.mp hb with rfl | hb
      · exact hl.place.imp (.tail _) id
      · rcases List.mem_append.mp hb with hb | hb
        · obtain ⟨j, hj, rfl⟩ := List.mem_map.mp hb
          exact (htp j (List.mem_range.mp hj)).place.imp (.tail _) id
        · exact .inl (.tail _ hb)
  have a3 : ∀ b ∈ I :: held.map (·.1), b ≠ L ∧ h₀.get? b = none := fun b hb => by
    rcases List.mem_cons.mp hb with rfl | hb
    · exact ⟨h1, h2⟩
    · obtain ⟨q, hq, rfl⟩ := List.mem_map.mp hb
      exact (N q (List.mem_append_left _ hq)).2
  have a4 : C ∉ I :: held.map (·.1) := fun h => by
    rcases List.mem_cons.mp h with h | h
    · exact hIC h.symm
    · exact hCm h
  have a5 : D ∉ I :: held.map (·.1) := fun h => by
    rcases List.mem_cons.mp h with h | h
    · exact hID h.symm
    · exact hDm h
  have a6 : News h₀ L h₁ ([(C, oC)] ++ (D, lst []) :: news) := news_sub N₁ fun q hq => by
    simp only [List.mem_append, List.mem_cons, List.not_mem_nil, or_false] at hq ⊢
    rcases hq with h | h | h <;> simp only [h, true_or, or_true]
  have a7 : ∀ q ∈ news, q.1 ∉ I :: held.map (·.1) ++ ([C] ++ [D]) := fun q hq => by
    have z1 := off₁ q (List.mem_append_right _ hq)
    simp only [List.cons_append, List.mem_cons, List.mem_append, List.not_mem_nil, or_false, not_or]
    exact ⟨hoff q hq, hap q hq, z1.1, not_false, z1.2⟩
  refine comp_core (fo := I :: held.map (·.1)) (ca := [C]) (fp := I :: l :: (List.range items.size).map Ts ++ held.map (·.1)) (OK := OkN C) (B := BT C (xs.map (·.1)) _) (own₀ := [(C, oC)]) (news := news) (binds_tuple (h₀ := h₀) W hh (fun i vs hv => by obtain ⟨hi, rfl⟩ := hv; exact hlen i hi) (fo := I :: held.map (·.1)) (cenv := compEnvC scope cl C env) (fun b hb => (List.mem_singleton.mp hb) ▸ .head _) a1 (fun x hm => lookup_relabel_local (hx x hm)) (by simp [compEnvC, relabel, hkind])) W.frame hsz a2 a3 (fun i h st b hb => ?_)
    (fun b hb => (List.mem_singleton.mp hb) ▸ ⟨hC.1, hC.2, a4, hCD⟩) ⟨hD.1, hD.2, a5⟩ (W.frame _ _ _ st fun b _ o e => old b o e) F₁ rfl ⟨oC, _, rfl, hoC⟩ a6 a7 J h0 ?_ ?_
  · rcases List.mem_cons.mp hb with rfl | hb
    · obtain ⟨o, ho, _⟩ := st.1.1; exact ⟨o, ho⟩
    · obtain ⟨q, hq, rfl⟩ := List.mem_map.mp hb
      exact ⟨_, st.2 q hq⟩
  · rintro i ys news₁ h tk₁ own ownC E' hi hJ ho hoC' ⟨oC₁, m₂, vs, rfl, hns, _, rfl⟩ hq hst₁ F₂ N₂
    obtain ⟨ob, rfl⟩ := held_own (fo := []) ho (fun q hq => (N₂ q (List.mem_append_left _ (List.mem_append_left _ hq))).1) hst₁.2
    exact turn i ys news₁ h tk₁ I ob C oC₁ D m₂ E' hi hJ hns hIC hID hCD (fun q hm => ⟨hIn q hm, hdCD q hm⟩) (fun q hm => by have := hq q hm; simp only [List.cons_append, List.nil_append, List.mem_cons, List.mem_append, List.not_mem_nil, or_false, not_or] at this; exact ⟨this.2.1, this.1, this.2.2.1, this.2.2.2⟩) F₂ N₂
  · rintro ys news₁ ownC h h'' tk₁ st'' hk'' hJ hoC' ⟨oC₁, m₂, rfl, hns⟩ hq F₂ N₂
    have z : ∀ q ∈ news₁, q.1 ∉ held.map (·.1) ∧ q.1 ≠ C ∧ q.1 ≠ D := fun q hm => by
      have := hq q hm; simp only [List.cons_append, List.nil_append, List.mem_cons, List.mem_append, List.not_mem_nil, or_false, not_or] at this; exact ⟨this.2.1, this.2.2.1, this.2.2.2⟩
    refine K D C h tk₁ m₂ ys (held ++ news₁) F₂ (fun q hm => ?_) (fun q hm => ?_) (hns.ns (N₂ _ (.head _)).1) hC.2 hD.2 hC.1 hD.1 hCD (fun q hm => ?_) (done ys news₁ _ hJ)
    · rcases List.mem_cons.mp hm with rfl | hm
      · exact N₂ _ (.tail _ (.head _))
      · rcases List.mem_append.mp hm with hm | hm
        · exact ⟨hk'' _ _ (fun h => hIn q hm (List.mem_singleton.mp h)) (st''.2 q hm), (N q (List.mem_append_left _ hm)).2⟩
        · exact N₂ _ (.tail _ (.tail _ hm))
    · rcases List.mem_append.mp hm with hm | hm
      · exact (hdCD q hm).2
      · exact (z q hm).2.2
    · rcases List.mem_append.mp hm with hm | hm
      · exact (hdCD q hm).1
      · exact (z q hm).2.1
theorem range_compC {x : Str} {px : Pos} {r : Addr} {a₀ b₀ c₀ : Int} {t₀ u₀ v₀ : Tok} {n : Nat} {news : List (Addr × Obj)} (J : Nat → List Value → List (Addr × Obj) → Prop)
    (hh : A.handled = none) (hr : IsRange s.heap r a₀ b₀ c₀ t₀ u₀ v₀) (hsmall : Builtin.Range.small a₀ b₀ c₀ = true) (hn : Builtin.Range.rangeSize a₀ b₀ c₀ = (n : Int)) (hsz : n ≤ sizeLine) (F : Fr h₀ L s.heap m) (N : News h₀ L s.heap news) (h0 : J 0 [] news)
    (turn : ∀ i t ys news₁ h tk I ob C oC c oc D m₂ E', i < n → J i ys news₁ → NsObj oC m₂ → oc.data = .cell (some (.int (a₀ + (i : Int) * c₀) t)) → @Ne Nat I c → @Ne Nat C c → @Ne Nat c D → @Ne Nat I C → @Ne Nat I D → @Ne Nat C D → (∀ q ∈ news₁, @Ne Nat q.1 I ∧ @Ne Nat q.1 C ∧ @Ne Nat q.1 c ∧ @Ne Nat q.1 D) → Fr h₀ L h m → News h₀ L h ((I, ob) :: (C, oC) :: (c, oc) :: (D, lst ys) :: news₁) →
      CBody prog w A h₀ L m elt ifs (compEnvC scope ((x, c) :: cl) C env) { s with heap := h, toks := tk } [(I, ob), (C, oC), (c, oc), (D, lst ys)] [I, C, c, D] (fun y news' => J (i + 1) (ys ++ [y]) news') (fun news' => J (i + 1) ys news') E')
    (done : ∀ ys news' h, J n ys news' → Fin { s with heap := h } ys news')
    (hcell : ∀ k, cellsFrom k scope.names cl = (x, k) :: cl := by intro _; rfl) (hpush : ∀ h, pushCells h scope.names = h.push { cls := .type "cell", data := .cell none } := by intro _; rfl) (hkind : scope.kind = .function := by rfl) (hx : (relabel scope env).names.lookup x = some .cell := by rfl) :
    wpAny (model prog w) A (pyIter (.ref r)) (CompRun prog w A h₀ L m elt (.Name x px) iter ifs scope pos cl env E Fin) E s := by
  refine wpAny_pyIter_range hr hsmall fun RR K => ?_
  have W := (Walks.range (prog := prog) (w := w) hh s.heap.objs.size a₀ c₀ n).bound
  obtain ⟨h1, h2⟩ := fr_new F
  have st : IsRangeIter (s.heap.push { cls := .type "range_iterator", data := .fields #[rawInt a₀, rawInt (Builtin.Range.rangeSize a₀ b₀ c₀), rawInt c₀] }) s.heap.objs.size (a₀ + (0 : Nat) * c₀) ((n : Int) - (0 : Nat)) c₀ := by
    rw [hn]
    show _ = _
    simpa using Heap.get?_push_size s.heap (o := { cls := .type "range_iterator", data := .fields #[rawInt a₀, rawInt (n : Int), rawInt c₀] }) rfl
  have hoff : ∀ q ∈ news, q.1 ≠ s.heap.objs.size := fun q hq e => absurd (Heap.lt_size (N q hq).1) (e ▸ Nat.lt_irrefl _)
  generalize hI : s.heap.objs.size = I at *
  have fI := Heap.lt_size st
  refine comp_startC (s := { s with heap := s.heap.push _ }) hcell hpush (F.push _) (news := news) (fun p hp => ⟨Heap.get?_push_of_some _ (N p hp).1, (N p hp).2⟩) (fun s' Q E k hQ => W.self 0 _ _ _ (k _ _ st) hQ) ?_
  intro D C c oC oc h₁ tk hne old hoC hoc hCD hcC hcD hC hc hD F₁ N₁ off₁
  obtain ⟨hID, hIC, hIc⟩ := hne _ _ st
  refine comp_core (fo := [I]) (ca := [C, c]) (fp := [I]) (OK := OkC C c) (B := BC C c _) (own₀ := [(C, oC), (c, oc)]) (news := news) (binds_cell W (fo := [I]) (cenv := compEnvC scope ((x, c) :: cl) C env) (fun b hb => hb) (by show C ∉ [I]; simpa using Ne.symm hIC) (by show c ∉ [I]; simpa using Ne.symm hIc) hcC (by simp [compEnvC, relabel, hkind]) hx (by simp [compEnvC])) W.frame hsz (fun b hb => .inl hb)
    (fun b hb => (List.mem_singleton.mp hb) ▸ ⟨h1, h2⟩) (fun i h st b hb => ⟨_, (List.mem_singleton.mp hb) ▸ st⟩) (List.forall_mem_cons.mpr ⟨⟨hC.1, hC.2, by simpa using Ne.symm hIC, hCD⟩, List.forall_mem_cons.mpr ⟨⟨hc.1, hc.2, by simpa using Ne.symm hIc, hcD⟩, List.forall_mem_nil _⟩⟩) ⟨hD.1, hD.2, by simpa using Ne.symm hID⟩
    (old _ _ st) F₁ rfl ⟨oC, oc, _, _, rfl, hoC, hoc⟩ N₁ (fun q hq => by have := off₁ q hq; have := hoff q hq; simp_all) J h0 ?_ ?_
  · rintro i ys news₁ h tk₁ own ownC E' hi hJ ho hoC' ⟨oC₁, oc₁, m₂, v, rfl, hns, hxv, _, t, rfl⟩ hq hst₁ F₂ N₂
    obtain ⟨ob, rfl⟩ := own_one ho
    exact turn i t ys news₁ h tk₁ I ob C oC₁ c oc₁ D m₂ E' hi hJ hns hxv hIc (Ne.symm hcC) hcD hIC hID hCD (fun q hm => by have := hq q hm; simpa [not_or] using this) F₂ N₂
  · rintro ys news₁ ownC h h'' tk₁ st'' hk'' hJ hoC' ⟨oC₁, oc₁, m₂, v₀, rfl, hns, hoc₁⟩ hq F₂ N₂
    refine K D C h tk₁ m₂ ys news₁ F₂ (fun q hm => N₂ q (.tail _ (.tail _ hm))) (fun q hm => by have := hq q hm; simp_all) (hns.ns (N₂ _ (.head _)).1) hC.2 hD.2 hC.1 hD.1 hCD (fun q hm => by have := hq q hm; simp_all) (done ys news₁ _ hJ)
theorem list_compC {x : Str} {px : Pos} {l : Addr} {items : Array Value} {news : List (Addr × Obj)} (held : List (Addr × Obj)) (J : Nat → List Value → List (Addr × Obj) → Prop)
    (hh : A.handled = none) (hl : AtL h₀ held l items) (hsz : items.size ≤ sizeLine) (F : Fr h₀ L s.heap m) (N : News h₀ L s.heap (held ++ news)) (hap : ∀ q ∈ news, q.1 ∉ held.map (·.1)) (h0 : J 0 [] news)
    (turn : ∀ i v ys news₁ h tk I ob C oC c oc D m₂ E', i < items.size → items[i]? = some v → J i ys news₁ → NsObj oC m₂ → oc.data = .cell (some v) → @Ne Nat I c → @Ne Nat C c → @Ne Nat c D → @Ne Nat I C → @Ne Nat I D → @Ne Nat C D → (∀ q ∈ held, @Ne Nat q.1 I ∧ @Ne Nat q.1 C ∧ @Ne Nat q.1 c ∧ @Ne Nat q.1 D) → (∀ q ∈ news₁, q.1 ∉ held.map (·.1) ∧ @Ne Nat q.1 I ∧ @Ne Nat q.1 C ∧ @Ne Nat q.1 c ∧ @Ne Nat q.1 D) → Fr h₀ L h m → News h₀ L h (((I, ob) :: held ++ [(C, oC), (c, oc), (D, lst ys)]) ++ news₁) →
      CBody prog w A h₀ L m elt ifs (compEnvC scope ((x, c) :: cl) C env) { s with heap := h, toks := tk } ((I, ob) :: held ++ [(C, oC), (c, oc), (D, lst ys)]) (I :: held.map (·.1) ++ [C, c, D]) (fun y news' => J (i + 1) (ys ++ [y]) news') (fun news' => J (i + 1) ys news') E')
    (done : ∀ ys news' h, J items.size ys news' → Fin { s with heap := h } ys (held ++ news'))
    (hcell : ∀ k, cellsFrom k scope.names cl = (x, k) :: cl := by intro _; rfl) (hpush : ∀ h, pushCells h scope.names = h.push { cls := .type "cell", data := .cell none } := by intro _; rfl) (hkind : scope.kind = .function := by rfl) (hx : (relabel scope env).names.lookup x = some .cell := by rfl) :
    wpAny (model prog w) A (pyIter (.ref l)) (CompRun prog w A h₀ L m elt (.Name x px) iter ifs scope pos cl env E Fin) E s := by
  have hg : ∀ q ∈ held, s.heap.get? q.1 = some q.2 := fun q hq => (N q (List.mem_append_left _ hq)).1
  have hls : s.heap.IsList l items := hl.list F.keep hg
  obtain ⟨ol, hol, _⟩ := id hls
  obtain ⟨h1, h2⟩ := fr_new F
  refine wpAny_pyIter_list hls fun RR K => ?_
  have hne : l ≠ s.heap.objs.size := Nat.ne_of_lt (Heap.lt_size hol)
  have hIn : ∀ q ∈ held, q.1 ≠ s.heap.objs.size := fun q hq => Nat.ne_of_lt (Heap.lt_size (hg q hq))
  have hoff : ∀ q ∈ news, q.1 ≠ s.heap.objs.size := fun q hq => Nat.ne_of_lt (Heap.lt_size (N q (List.mem_append_right _ hq)).1)
  have W := walks_heldL (prog := prog) (w := w) hh s.heap.objs.size l hne items held hIn
  generalize hI : s.heap.objs.size = I at *
  have up : ∀ b o, s.heap.get? b = some o → (s.heap.push { cls := .type "list_iterator", data := .fields #[.ref l, .int 0 0] }).get? b = some o := fun b o e => Heap.get?_push_of_some _ e
  have itI : (s.heap.push { cls := .type "list_iterator", data := .fields #[.ref l, .int 0 0] }).get? I = some { cls := .type "list_iterator", data := .fields #[.ref l, .int 0 0] } := by rw [← hI]; exact Heap.get?_push_size _ rfl
  have st : ((s.heap.push { cls := .type "list_iterator", data := .fields #[.ref l, .int 0 0] }).IsListIter I l 0 ∧ (s.heap.push { cls := .type "list_iterator", data := .fields #[.ref l, .int 0 0] }).IsList l items) ∧ ∀ q ∈ held, (s.heap.push { cls := .type "list_iterator", data := .fields #[.ref l, .int 0 0] }).get? q.1 = some q.2 :=
    ⟨⟨⟨_, itI, rfl, rfl⟩, hls.at fun o e => up _ _ e⟩, fun q hq => up _ _ (hg q hq)⟩
  refine comp_startC (s := { s with heap := s.heap.push { cls := .type "list_iterator", data := .fields #[.ref l, .int 0 0] } }) hcell hpush (F.push _) (news := held ++ news) (fun p hp => ⟨up _ _ (N p hp).1, (N p hp).2⟩) (fun s' Q E k hQ => W.self 0 _ _ _ (W.frame _ _ _ st fun b _ o e => k b o e) hQ) ?_
  intro D C c oC oc h₁ tk hne' old hoC hoc hCD hcC hcD hC hc hD F₁ N₁ off₁
  obtain ⟨hID, hIC, hIc⟩ := hne' _ _ itI
  have hdCD : ∀ q ∈ held, q.1 ≠ C ∧ q.1 ≠ c ∧ q.1 ≠ D := fun q hq => off₁ q (List.mem_append_left _ hq)
  have hCm : C ∉ held.map (·.1) := fun h => by obtain ⟨q, hq, e⟩ := List.mem_map.mp h; exact (hdCD q hq).1 e
  have hDm : D ∉ held.map (·.1) := fun h => by obtain ⟨q, hq, e⟩ := List.mem_map.mp h; exact (hdCD q hq).2.2 e
  have hcm : c ∉ held.map (·.1) := fun h => by obtain ⟨q, hq, e⟩ := List.mem_map.mp h; exact (hdCD q hq).2.1 e
  have hlC : C ≠ l := fun e => (hne' _ _ (up _ _ hol)).2.1 e.symm
  have hlc : c ≠ l := fun e => (hne' _ _ (up _ _ hol)).2.2 e.symm
  have a1 : C ∉ I :: l :: held.map (·.1) := fun h => by
    rcases List.mem_cons.mp h with h | h
    · exact hIC h.symm
    · rcases List.mem_cons.mp h with h | h
      · exact hlC h
      · exact hCm h
  have b1 : c ∉ I :: l :: held.map (·.1) := fun h => by
    rcases List.mem_cons.mp h with h | h
    · exact hIc h.symm
    · rcases List.mem_cons.mp h with h | h
      · exact hlc h
      · exact hcm h
  have a2 : ∀ b ∈ I :: l :: held.map (·.1), b ∈ I :: held.map (·.1) ∨ ∃ o, h₀.get? b = some o := fun b hb => by
    rcases List.mem_cons.mp hb with rfl | hb
    · exact .inl (.head _)
    · rcases List.mem_cons.mp hb with rfl | hb
      · exact hl.place.imp (.tail _) id
      · exact .inl (.tail _ hb)
  have a3 : ∀ b ∈ I :: held.map (·.1), b ≠ L ∧ h₀.get? b = none := fun b hb => by
    rcases List.mem_cons.mp hb with rfl | hb
    · exact ⟨h1, h2⟩
    · obtain ⟨q, hq, rfl⟩ := List.mem_map.mp hb
      exact (N q (List.mem_append_left _ hq)).2
  have a4 : C ∉ I :: held.map (·.1) := fun h => by
    rcases List.mem_cons.mp h with h | h
    · exact hIC h.symm
    · exact hCm h
  have b4 : c ∉ I :: held.map (·.1) := fun h => by
    rcases List.mem_cons.mp h with h | h
    · exact hIc h.symm
    · exact hcm h
  have a5 : D ∉ I :: held.map (·.1) := fun h => by
    rcases List.mem_cons.mp h with h | h
    · exact hID h.symm
    · exact hDm h
  have a6 : News h₀ L h₁ ([(C, oC), (c, oc)] ++ (D, lst []) :: news) := news_sub N₁ fun q hq => by
    simp only [List.mem_append, List.mem_cons, List.not_mem_nil, or_false] at hq ⊢
    rcases hq with (h | h) | h | h <;> simp only [h, true_or, or_true]
  have a7 : ∀ q ∈ news, q.1 ∉ I :: held.map (·.1) ++ ([C, c] ++ [D]) := fun q hq => by
    have z1 := off₁ q (List.mem_append_right _ hq)
    simp only [List.cons_append, List.mem_cons, List.mem_append, List.not_mem_nil, or_false, not_or]
    exact ⟨hoff q hq, hap q hq, z1.1, z1.2.1, not_false, z1.2.2⟩
  refine comp_core (fo := I :: held.map (·.1)) (ca := [C, c]) (fp := I :: l :: held.map (·.1)) (OK := OkC C c) (B := BC C c _) (own₀ := [(C, oC), (c, oc)]) (news := news) (binds_cell W (fo := I :: held.map (·.1)) (cenv := compEnvC scope ((x, c) :: cl) C env) (fun b hb => (List.mem_singleton.mp hb) ▸ .head _) a1 b1 hcC (by simp [compEnvC, relabel, hkind]) hx (by simp [compEnvC])) W.frame hsz a2 a3 (fun i h st b hb => ?_)
    (List.forall_mem_cons.mpr ⟨⟨hC.1, hC.2, a4, hCD⟩, List.forall_mem_cons.mpr ⟨⟨hc.1, hc.2, b4, hcD⟩, List.forall_mem_nil _⟩⟩) ⟨hD.1, hD.2, a5⟩ (W.frame _ _ _ st fun b _ o e => old b o e) F₁ rfl ⟨oC, oc, _, _, rfl, hoC, hoc⟩ a6 a7 J h0 ?_ ?_
  · rcases List.mem_cons.mp hb with rfl | hb
    · obtain ⟨o, ho, _⟩ := st.1.1; exact ⟨o, ho⟩
    · obtain ⟨q, hq, rfl⟩ := List.mem_map.mp hb
      exact ⟨_, st.2 q hq⟩
  · rintro i ys news₁ h tk₁ own ownC E' hi hJ ho hoC' ⟨oC₁, oc₁, m₂, v, rfl, hns, hxv, hP⟩ hq hst₁ F₂ N₂
    obtain ⟨ob, rfl⟩ := held_own (fo := []) ho (fun q hq => (N₂ q (List.mem_append_left _ (List.mem_append_left _ hq))).1) hst₁.2
    exact turn i v ys news₁ h tk₁ I ob C oC₁ c oc₁ D m₂ E' hi hP hJ hns hxv hIc (Ne.symm hcC) hcD hIC hID hCD (fun q hm => ⟨hIn q hm, hdCD q hm⟩) (fun q hm => by have := hq q hm; simp only [List.cons_append, List.nil_append, List.mem_cons, List.mem_append, List.not_mem_nil, or_false, not_or] at this; exact ⟨this.2.1, this.1, this.2.2.1, this.2.2.2.1, this.2.2.2.2⟩) F₂ N₂
  · rintro ys news₁ ownC h h'' tk₁ st'' hk'' hJ hoC' ⟨oC₁, oc₁, m₂, v₀, rfl, hns, hoc₁⟩ hq F₂ N₂
    have z : ∀ q ∈ news₁, q.1 ∉ held.map (·.1) ∧ q.1 ≠ C ∧ q.1 ≠ D := fun q hm => by
      have := hq q hm; simp only [List.cons_append, List.nil_append, List.mem_cons, List.mem_append, List.not_mem_nil, or_false, not_or] at this; exact ⟨this.2.1, this.2.2.1, this.2.2.2.2⟩
    refine K D C h tk₁ m₂ ys (held ++ news₁) F₂ (fun q hm => ?_) (fun q hm => ?_) (hns.ns (N₂ _ (.head _)).1) hC.2 hD.2 hC.1 hD.1 hCD (fun q hm => ?_) (done ys news₁ _ hJ)
    · rcases List.mem_cons.mp hm with rfl | hm
      · exact N₂ _ (.tail _ (.tail _ (.head _)))
      · rcases List.mem_append.mp hm with hm | hm
        · exact ⟨hk'' _ _ (fun h => hIn q hm (List.mem_singleton.mp h)) (st''.2 q hm), (N q (List.mem_append_left _ hm)).2⟩
        · exact N₂ _ (.tail _ (.tail _ (.tail _ hm)))
    · rcases List.mem_append.mp hm with hm | hm
      · exact (hdCD q hm).2.2
      · exact (z q hm).2.2
    · rcases List.mem_append.mp hm with hm | hm
      · exact (hdCD q hm).1
      · exact (z q hm).2.1
end
end
end Mine
end Cp4_part
section Lp4_part
open PySem PySem.W PyProof.Rows PySem.Calls
namespace Mine
section
variable {prog : Program} {w : World} {A : Around} {s : Shared} {env : Env} {h₀ : Heap} {body : List Stmt} {Q : Flow → Shared → Prop}
theorem tuples_run {xs : List (Str × Pos)} {kk : Nat} {pt : Pos} {Ts : Nat → Addr} {vals : Nat → Array Value} {l : Addr} {items : Array Value} {m₀ : Str → Option Value} {news : List (Addr × Obj)} (stored : List Str) (J : Nat → (Str → Option Value) → List (Addr × Obj) → Prop)
    (hh : A.handled = none) (hl : h₀.IsList l items) (hit : ∀ j, j < items.size → items[j]? = some (.ref (Ts j))) (htp : ∀ j, j < items.size → h₀.IsTuple (Ts j) (vals j)) (hlen : ∀ j, j < items.size → (vals j).size = xs.length)
    (F : Fr h₀ env.locals s.heap m₀) (N : News h₀ env.locals s.heap news) (h0 : J 0 m₀ news)
    (turn : ∀ i u news₁ h tk I ob, i < items.size → J i u news₁ → (∀ q ∈ news₁, @Ne Nat q.1 I) → Fr h₀ env.locals h (bindNames ((xs.map (·.1)).zip (vals i).toList) (fun y => if stored.contains y then u y else m₀ y)) → News h₀ env.locals h ((I, ob) :: news₁) →
      wpAny (model prog w) A (execs body env) (Turned h₀ env.locals [(I, ob)] (xs.map (·.1)) stored m₀ [I] (J (i + 1)) { s with heap := h, toks := tk } Q) (fun _ _ => False) { s with heap := h, toks := tk })
    (done : ∀ u news₁ h tk, J items.size u news₁ → Fr h₀ env.locals h (fun y => if (xs.map (·.1)).contains y then u y else if stored.contains y then u y else m₀ y) → News h₀ env.locals h news₁ → Q .next { s with heap := h, toks := tk })
    (hx : ∀ x ∈ xs, env.kindOf x.1 = some .local := by decide)
    (hp : (env.scope.kind == .class || (env.scope.kind == .module && env.locals != env.globals)) = false := by rfl) :
    wpAny (model prog w) A (pyIter (.ref l)) (fun it s₂ => LoopRun prog w A (.Tuple (xs.map fun x => Expr.Name x.1 x.2) kk pt) env body Q it s₂) (fun _ _ => False) s := by
  have hls : s.heap.IsList l items := hl.at fun o e => F.keep l o e
  have hTs : ∀ j, j < items.size → s.heap.IsTuple (Ts j) (vals j) := fun j hj => (htp j hj).at fun o e => F.keep _ o e
  obtain ⟨ol, hol, _⟩ := id hl
  obtain ⟨h1, h2⟩ := fr_new F
  have hne : l ≠ s.heap.objs.size := Nat.ne_of_lt (Heap.lt_size (F.keep _ _ hol))
  have hTn : ∀ j, j < items.size → Ts j ≠ s.heap.objs.size := fun j hj => by obtain ⟨o, e, _⟩ := hTs j hj; exact Nat.ne_of_lt (Heap.lt_size e)
  refine wpAny_pyIter_list hls ?_
  have W := walks_heldT (prog := prog) (w := w) hh s.heap.objs.size l hne items Ts vals hit hTn [] (fun _ h => nomatch h)
  refine walkU_run (s := { s with heap := s.heap.push _ }) (xs := xs) W hh (fun i vs hv => by obtain ⟨hi, rfl⟩ := hv; exact hlen i hi) [s.heap.objs.size] (fun b hb => ?_) (fun b hb => (List.mem_singleton.mp hb) ▸ ⟨h1, h2⟩) (fun b hb => hb) (fun i h st b hb => ?_) hx hp
    ⟨⟨⟨_, Heap.get?_push_size _ rfl, rfl, rfl⟩, hls.at fun o e => Heap.get?_push_of_some _ e, fun k hk => (hTs k hk).at fun o e => Heap.get?_push_of_some _ e⟩, fun _ h => nomatch h⟩ (F.push _) (fun p hp => ⟨Heap.get?_push_of_some _ (N p hp).1, (N p hp).2⟩) (fun q hq e => absurd (Heap.lt_size (N q hq).1) ((List.mem_singleton.mp e) ▸ Nat.lt_irrefl _)) stored J h0 ?_ done
  · rcases List.mem_cons.mp hb with rfl | hb
    · exact .inl (.head _)
    · rcases List.mem_cons.mp hb with rfl | hb
      · exact .inr ⟨_, hol⟩
      · have hb : b ∈ (List.range items.size).map Ts ++ [] := hb
        rw [List.append_nil] at hb
        obtain ⟨j, hj, rfl⟩ := List.mem_map.mp hb
        obtain ⟨o, e, _⟩ := htp j (List.mem_range.mp hj)
        exact .inr ⟨o, e⟩
  · obtain ⟨o, ho, _⟩ := st.1.1
    exact ⟨o, (List.mem_singleton.mp hb) ▸ ho⟩
  · rintro i vs u news₁ h tk own hi ⟨_, rfl⟩ hJ ho hoff hst F' N'
    obtain ⟨ob, rfl⟩ := own_one ho
    exact turn i u news₁ h tk _ ob hi hJ (fun q hq => not_one.mp (hoff q hq)) F' N'
theorem enum_run {xi xv : Str} {pi pv pt : Pos} {kk : Nat} {l : Addr} {n : Nat} {m₀ : Str → Option Value} {news : List (Addr × Obj)} (stored : List Str) (J : Nat → (Str → Option Value) → List (Addr × Obj) → Prop)
    (hh : A.handled = none) (F : Fr h₀ env.locals s.heap m₀) (N : News h₀ env.locals s.heap news) (h0 : J 0 m₀ news)
    (hJl : ∀ i u news₁, J i u news₁ → ∃ items c, (l, listOf items c) ∈ news₁ ∧ items.size = n)
    (turn : ∀ i t v items c u news₁ h tk e it oe oi, i < n → (l, listOf items c) ∈ news₁ → items.size = n → items[i]? = some v → J i u news₁ → @Ne Nat e it → (∀ q ∈ news₁, @Ne Nat q.1 e ∧ @Ne Nat q.1 it) → Fr h₀ env.locals h (fun y => if y = xv then some v else if y = xi then some (.int i t) else if stored.contains y then u y else m₀ y) → News h₀ env.locals h ((e, oe) :: (it, oi) :: news₁) →
      wpAny (model prog w) A (execs body env) (Turned h₀ env.locals [(e, oe), (it, oi)] [xi, xv] stored m₀ [e, it] (J (i + 1)) { s with heap := h, toks := tk } Q) (fun _ _ => False) { s with heap := h, toks := tk })
    (done : ∀ u news₁ h tk, J n u news₁ → Fr h₀ env.locals h (fun y => if [xi, xv].contains y then u y else if stored.contains y then u y else m₀ y) → News h₀ env.locals h news₁ → Q .next { s with heap := h, toks := tk })
    (hxi : env.kindOf xi = some .local := by rfl) (hxv : env.kindOf xv = some .local := by rfl)
    (hp : (env.scope.kind == .class || (env.scope.kind == .module && env.locals != env.globals)) = false := by rfl) :
    wpAny (model prog w) A (call (.type "enumerate") [.ref l]) (fun xv' s₁ => wpAny (model prog w) A (pyIter xv') (fun it s₂ => LoopRun prog w A (.Tuple [.Name xi pi, .Name xv pv] kk pt) env body Q it s₂) (fun _ _ => False) s₁) (fun _ _ => False) s := by
  obtain ⟨items₀, c₀, hm₀, hsz₀⟩ := hJl _ _ _ h0
  have hls : s.heap.IsList l items₀ := ⟨_, (N _ hm₀).1, rfl, c₀, rfl⟩
  refine call_enumerate_list hls fun h₁ hE hI hsz hk₁ => ?_
  refine wpAny_pyIter_enum hE ?_
  have oldlt : ∀ b o, s.heap.get? b = some o → b ≠ s.heap.objs.size + 1 ∧ b ≠ s.heap.objs.size := fun b o e => ⟨Nat.ne_of_lt (Nat.lt_succ_of_lt (Heap.lt_size e)), Nat.ne_of_lt (Heap.lt_size e)⟩
  have hei : s.heap.objs.size + 1 ≠ s.heap.objs.size := Nat.succ_ne_self _
  have fresh₀ : ∀ a, s.heap.objs.size ≤ a → h₀.get? a = none := fun a ha => by
    cases e : h₀.get? a with
    | none => rfl
    | some o' => exact absurd (Heap.lt_size (F.keep a o' e)) (Nat.not_lt.mpr ha)
  have he₀ := fresh₀ (s.heap.objs.size + 1) (Nat.le_succ _)
  have hi₀ := fresh₀ s.heap.objs.size (Nat.le_refl _)
  have hLlt := F.ns.lt
  have heL : s.heap.objs.size + 1 ≠ env.locals := Nat.ne_of_gt (Nat.lt_succ_of_lt hLlt)
  have hiL : s.heap.objs.size ≠ env.locals := Nat.ne_of_gt hLlt
  have hoff0 : ∀ q ∈ news, q.1 ≠ s.heap.objs.size + 1 ∧ q.1 ≠ s.heap.objs.size := fun q hq => oldlt _ _ (N q hq).1
  have Lnew : h₀.get? env.locals = none := Heap.get?_none_of_le F.above
  generalize hge : s.heap.objs.size + 1 = e at *
  generalize hgi : s.heap.objs.size = it at *
  refine codeAny_forLoop_any
    (fun k s' => ∃ h' tk m' news' i old, s' = { s with heap := h', toks := tk } ∧ IsEnum h' e it (i : Nat) old ∧ h'.IsListIter it l i ∧ Fr h₀ env.locals h' m' ∧ News h₀ env.locals h' news' ∧ (∀ q ∈ news', q.1 ≠ e ∧ q.1 ≠ it) ∧ (∀ y, y ∉ [xi, xv] → y ∉ stored → m' y = m₀ y) ∧ J i m' news' ∧ i ≤ n ∧ k = n + 1 - i) ?_ (n + 1)
    ⟨h₁, s.toks, m₀, news, 0, _, rfl, hE, hI, F.keeps hk₁, N.grown hk₁, hoff0, fun _ _ _ => rfl, h0, Nat.zero_le _, rfl⟩
  rintro k s' ⟨h', tk, m', news', i, old, rfl, hE', hI', F', N', hnw', hloc, hJ, hi, rfl⟩
  obtain ⟨items, c, hm, hsz'⟩ := hJl _ _ _ hJ
  have hl' : h'.IsList l items := ⟨_, (N' _ hm).1, rfl, c, rfl⟩
  have nxt : ∀ {h' h₁ : Heap} {m' : Str → Option Value} {news' : List (Addr × Obj)}, Fr h₀ env.locals h' m' → News h₀ env.locals h' news' → (∀ q ∈ news', q.1 ≠ e ∧ q.1 ≠ it) → (∀ b o, b ≠ e → b ≠ it → h'.get? b = some o → h₁.get? b = some o) → Fr h₀ env.locals h₁ m' ∧ News h₀ env.locals h₁ news' := fun F' N' hnw' hk₁ =>
    ⟨⟨F'.ns.at' fun o x => hk₁ _ o (Ne.symm heL) (Ne.symm hiL) x, fun b o x => hk₁ b o (fun y => by rw [y, he₀] at x; cases x) (fun y => by rw [y, hi₀] at x; cases x) (F'.keep b o x), F'.above⟩, fun p hp => ⟨hk₁ _ _ (hnw' p hp).1 (hnw' p hp).2 (N' p hp).1, (N' p hp).2⟩⟩
  by_cases hlt : i < n
  · have hx : items[i]? = some (items[i]'(hsz' ▸ hlt)) := Array.getElem?_eq_getElem _
    refine wpAny_pyNext_enum_item hE' hI' hl' hx hei fun h₂ ho hit₂ hT hszT hk₂ => ?_
    obtain ⟨F₂, N₂⟩ := nxt F' N' hnw' hk₂
    have helt : e < h'.objs.size := Heap.lt_size hE'
    have hilt : it < h'.objs.size := by obtain ⟨_, x, _⟩ := hI'; exact Heap.lt_size x
    refine wpAny_letOwnedTupleGo_enum ho fun h₃ he₃ hs₃ => ?_
    have hk₃ : ∀ b o, b ≠ e → h₂.get? b = some o → h₃.get? b = some o := fun b o hb x => (hs₃.2 b hb).trans x
    obtain ⟨F₃, N₃⟩ := nxt F₂ N₂ hnw' fun b o hb _ x => hk₃ b o hb x
    have hT₃ : h₃.IsTuple h'.objs.size #[.int i tk, items[i]'(hsz' ▸ hlt)] := ⟨_, hk₃ _ _ (Nat.ne_of_gt helt) hT, rfl, _, rfl⟩
    refine wpAny_mono (E := fun _ _ => False) ?_ (fun _ _ h => h) fun _ _ h => h.elim
    refine wpAny_assign_Tuple hh hT₃ rfl rfl fun h₄ hxe => ?_
    have hk₄ : ∀ b o, h₃.get? b = some o → h₄.get? b = some o := fun b o x => hxe b o (Nat.ne_of_lt (Heap.lt_size x)) x
    refine assign_names (hp := hp) [(xi, pi), (xv, pv)] [_, _] (List.forall_mem_cons.mpr ⟨hxi, List.forall_mem_cons.mpr ⟨hxv, List.forall_mem_nil _⟩⟩) rfl (F₃.keeps hk₄) fun h₅ tk₅ F₅ hs₅ => ?_
    replace hs₅ : Heap.SameBut env.locals h₄ h₅ := hs₅
    have hE₅ : IsEnum h₅ e it (i + 1 : Nat) _ := hs₅.extBut _ _ heL (hk₄ _ _ he₃)
    have hI₅ : h₅.IsListIter it l (i + 1) := ((hit₂.at fun o x => hk₃ _ o (Ne.symm hei) x).at fun o x => hk₄ _ o x).at fun o x => hs₅.extBut _ o hiL x
    obtain ⟨oi, hoi, _⟩ := id hI₅
    obtain ⟨oe, hoe⟩ : ∃ oe, h₅.get? e = some oe := ⟨_, hE₅⟩
    have N₅ : News h₀ env.locals h₅ ((e, oe) :: (it, oi) :: news') := fun q hq => by
      rcases List.mem_cons.mp hq with rfl | hq
      · exact ⟨hoe, heL, he₀⟩
      · rcases List.mem_cons.mp hq with rfl | hq
        · exact ⟨hoi, hiL, hi₀⟩
        · exact ⟨hs₅.extBut _ _ (N₃ q hq).2.1 (hk₄ _ _ (N₃ q hq).1), (N₃ q hq).2⟩
    have e3 : bindNames (([(xi, pi), (xv, pv)].map (·.1)).zip [.int i tk, items[i]'(hsz' ▸ hlt)]) m' = fun y => if y = xv then some (items[i]'(hsz' ▸ hlt)) else if y = xi then some (.int i tk) else if stored.contains y then m' y else m₀ y := by
      funext y
      show (if y = xv then _ else if y = xi then _ else m' y) = _
      by_cases h1 : y = xv
      · simp [h1]
      · by_cases h2 : y = xi
        · simp [h1, h2]
        · simp only [h1, h2, if_false]
          cases h3 : stored.contains y with
          | true => simp
          | false => simp only [Bool.false_eq_true, if_false]; exact hloc y (by simp [h1, h2]) (by simpa using h3)
    rw [e3] at F₅
    refine wpAny_mono (turn i tk _ items c m' news' h₅ tk₅ e it oe oi hlt hm hsz' hx hJ hei hnw' F₅ N₅) (fun f s₃ h₃' => ?_) fun _ _ e => e.elim
    have fin : (∃ h' tk' m' news'', s₃ = { s with heap := h', toks := tk' } ∧ Fr h₀ env.locals h' m' ∧ News h₀ env.locals h' ([(e, oe), (it, oi)] ++ news'') ∧ (∀ q ∈ news'', q.1 ∉ [e, it]) ∧ (∀ y, y ∉ [xi, xv] → y ∉ stored → m' y = m₀ y) ∧ J (i + 1) m' news'') →
        ∃ m, m < n + 1 - i ∧ ∃ h' tk m' news' j old, s₃ = { s with heap := h', toks := tk } ∧ IsEnum h' e it (j : Nat) old ∧ h'.IsListIter it l j ∧ Fr h₀ env.locals h' m' ∧ News h₀ env.locals h' news' ∧ (∀ q ∈ news', q.1 ≠ e ∧ q.1 ≠ it) ∧ (∀ y, y ∉ [xi, xv] → y ∉ stored → m' y = m₀ y) ∧ J j m' news' ∧ j ≤ n ∧ m = n + 1 - j := by
      rintro ⟨h₆, tk₆, m₂, news₂, ee, F₆, N₆, ha₆, hl₆, hJ₆⟩
      refine ⟨n + 1 - (i + 1), by omega, h₆, tk₆, m₂, news₂, i + 1, _, ee, ((N₆ (e, oe) (.head _)).1.trans (hoe.symm.trans hE₅)), ?_, F₆, fun q hq => N₆ q (List.mem_append_right _ hq), fun q hq => by have := ha₆ q hq; simpa [not_or] using this, hl₆, hJ₆, hlt, rfl⟩
      obtain ⟨oi', hoi', r⟩ := hI₅
      have : oi' = oi := Option.some.inj (hoi'.symm.trans hoi)
      subst this
      exact ⟨oi', (N₆ (it, oi') (.tail _ (.head _))).1, r⟩
    cases f with
    | ret v => exact h₃'
    | brk => exact h₃'
    | cont => exact fin h₃'
    | next => exact fin h₃'
  · have hin : i = n := by omega
    subst hin
    refine wpAny_pyNext_enum_end hh hE' hI' hl' (Array.getElem?_eq_none (by omega)) fun h₂ hx₂ => wpAny_execs_nil ?_
    obtain ⟨F₁, N₁⟩ := nxt F' N' hnw' fun b o _ hb x => hx₂ b o hb x
    have e3 : m' = fun y => if [xi, xv].contains y then m' y else if stored.contains y then m' y else m₀ y := by
      funext y
      cases h1 : [xi, xv].contains y with
      | true => simp
      | false =>
        cases h2 : stored.contains y with
        | true => simp
        | false => simp only [Bool.false_eq_true, if_false]; exact hloc y (by simpa using h1) (by simpa using h2)
    rw [e3] at F₁
    exact done m' news' h₂ tk hJ F₁ N₁
end
end Mine
end Lp4_part
section So_part
open PySem PySem.W PyProof.Rows PySem.Calls
namespace Mine
section
variable {N : Nat} {key : Nat → Int} {cmp : Nat → Nat → (Bool → Shared → Prop) → Shared → Prop} {s : Shared}
def kk (key : Nat → Int) (p : Array Nat) (i : Nat) : Int := key (p.getD i 0)
structure OKp (N : Nat) (p : Array Nat) : Prop where
  size : p.size = N
  perm : p.Perm (List.toArray (List.range N))
theorem OKp.lt {p : Array Nat} (h : OKp N p) (i : Nat) (hi : i < N) : p.getD i 0 < N := by
  have hi' : i < p.size := by rw [h.size]; exact hi
  have e : p.getD i 0 = p[i] := by simp [Array.getD, hi']
  rw [e]
  have h1 : p[i] ∈ p.toList := by simp
  have h2 := (Array.perm_iff_toList_perm.mp h.perm).mem_iff.mp h1
  simpa using h2
theorem OKp.rev {p : Array Nat} (h : OKp N p) (i j : Nat) : OKp N (kas_rev p i j) := ⟨(mirror_size _ _ _ _).trans h.size, (mirror_perm _ _ _ _).trans h.perm⟩
theorem OKp.bub {p : Array Nat} (h : OKp N p) (i j : Nat) : OKp N (bubble p i j) := ⟨(bubble_size _ _ _).trans h.size, (bubble_perm _ _ _).trans h.perm⟩
theorem getD_of {p : Array Nat} (k : Nat) : p.getD k 0 = p[k]?.getD 0 := by simp [Array.getD_eq_getD_getElem?]
theorem kk_rev {p : Array Nat} {i j : Nat} (hj : j ≤ p.size) (k : Nat) : kk key (kas_rev p i j) k = if i ≤ k ∧ k < j then kk key p (i + j - 1 - k) else kk key p k := by
  unfold kk kas_rev
  rw [getD_of, getElem?_mirror_all hj]
  split <;> rw [getD_of]
theorem kk_bub {p : Array Nat} {src d : Nat} (hs : src < p.size) (hd : d ≤ src) (k : Nat) : kk key (bubble p src d) k = if k = src - d then kk key p src else if src - d < k ∧ k ≤ src then kk key p (k - 1) else kk key p k := by
  unfold kk
  rw [getD_of, getElem?_bubble hs d hd, getD_of src, getD_of (k - 1), getD_of k]
  by_cases h1 : k = src - d
  · rw [if_pos h1, if_pos h1]
  · rw [if_neg h1, if_neg h1]
    by_cases h2 : src - d < k ∧ k ≤ src
    · rw [if_pos h2, if_pos h2]
    · rw [if_neg h2, if_neg h2]
def Asc (key : Nat → Int) (p : Array Nat) (m : Nat) : Prop := ∀ k, 1 ≤ k → k < m → kk key p (k - 1) ≤ kk key p k
def Desc (key : Nat → Int) (p : Array Nat) (m : Nat) : Prop := ∀ k, 1 ≤ k → k < m → kk key p k ≤ kk key p (k - 1)
theorem Asc.le {p : Array Nat} {m : Nat} (h : Asc key p m) {i j : Nat} (hij : i ≤ j) (hj : j < m) : kk key p i ≤ kk key p j := by
  induction j with
  | zero => rw [Nat.le_zero.mp hij]; exact Int.le_refl _
  | succ j ih =>
    rcases Nat.lt_or_ge j i with h1 | h1
    · rw [show i = j + 1 by omega]; exact Int.le_refl _
    · have a1 := ih h1 (by omega)
      have a2 := h (j + 1) (by omega) hj
      rw [Nat.add_sub_cancel] at a2
      omega
theorem Desc.le {p : Array Nat} {m : Nat} (h : Desc key p m) {i j : Nat} (hij : i ≤ j) (hj : j < m) : kk key p j ≤ kk key p i := by
  induction j with
  | zero => rw [Nat.le_zero.mp hij]; exact Int.le_refl _
  | succ j ih =>
    rcases Nat.lt_or_ge j i with h1 | h1
    · rw [show i = j + 1 by omega]; exact Int.le_refl _
    · have a1 := ih h1 (by omega)
      have a2 := h (j + 1) (by omega) hj
      rw [Nat.add_sub_cancel] at a2
      omega
variable (hc : ∀ i j C, i < N → j < N → C (decide (key i < key j)) s → cmp i j C s)
include hc
theorem asc_wp : ∀ (f n : Nat) (p : Array Nat) (G : Nat → Shared → Prop), OKp N p → 1 ≤ n → n + f ≤ N → Asc key p n →
    (∀ m, n ≤ m → m ≤ n + f → Asc key p m → (m < n + f → kk key p m < kk key p (m - 1)) → G m s) → (kas_asc p f n).kasWp cmp G s
  | 0, n, p, G, ok, h1, hf, ha, hG => hG n (Nat.le_refl _) (Nat.le_refl _) ha fun h => absurd h (Nat.lt_irrefl _)
  | f + 1, n, p, G, ok, h1, hf, ha, hG => by
    refine hc _ _ _ (ok.lt _ (by omega)) (ok.lt _ (by omega)) ?_
    show (if _ = true then _ else _ : KasT Nat).kasWp _ _ _
    by_cases hlt : key (p.getD n 0) < key (p.getD (n - 1) 0)
    · rw [if_pos (by simpa using hlt)]
      exact hG n (Nat.le_refl _) (by omega) ha fun _ => hlt
    · rw [if_neg (by simpa using hlt)]
      refine asc_wp f (n + 1) p G ok (by omega) (by omega) (fun k hk hk' => ?_) fun m hm hm' ha' hl => hG m (by omega) (by omega) ha' fun h => hl (by omega)
      by_cases e : k = n
      · subst e; exact Int.not_lt.mp hlt
      · exact ha k hk (by omega)
theorem desc_wp : ∀ (f : Nat) (p : Array Nat) (n q : Nat) (G : Array Nat × Nat × Nat → Shared → Prop), OKp N p → q + 1 ≤ n → n + f ≤ N → Desc key p n → (∀ k, n - (q + 1) ≤ k → k < n → kk key p k = kk key p (n - 1)) →
    (∀ p' m q', OKp N p' → n ≤ m → m ≤ n + f → q' + 1 ≤ m → Desc key p' m → (∀ k, m - (q' + 1) ≤ k → k < m → kk key p' k = kk key p' (m - 1)) → G (p', m, q') s) → (kas_desc f p n q).kasWp cmp G s
  | 0, p, n, q, G, ok, h1, hf, hd, he, hG => hG p n q ok (Nat.le_refl _) (Nat.le_refl _) h1 hd he
  | f + 1, p, n, q, G, ok, h1, hf, hd, he, hG => by
    refine hc _ _ _ (ok.lt _ (by omega)) (ok.lt _ (by omega)) ?_
    show (if _ = true then _ else _ : KasT _).kasWp _ _ _
    have hsz := ok.size
    by_cases hlt : key (p.getD n 0) < key (p.getD (n - 1) 0)
    · rw [if_pos (by simpa using hlt)]
      have hd' : Desc key p (n + 1) := fun k hk hk' => by
        by_cases e : k = n
        · subst e; exact Int.le_of_lt hlt
        · exact hd k hk (by omega)
      split
      · have same : ∀ k, kk key (kas_rev p (n - (q + 1)) n) k = kk key p k := fun k => by
          rw [kk_rev (by omega)]
          split
          · rename_i hk
            rw [he k hk.1 hk.2, he _ (by omega) (by omega)]
          · rfl
        refine desc_wp f _ (n + 1) 0 G (ok.rev _ _) (by omega) (by omega) (fun k hk hk' => by rw [same, same]; exact hd' k hk hk') (fun k hk hk' => by rw [show k = n + 1 - 1 by omega]) fun p' m q' o1 o2 o3 => hG p' m q' o1 (by omega) (by omega)
      · exact desc_wp f _ (n + 1) 0 G ok (by omega) (by omega) hd' (fun k hk hk' => by rw [show k = n + 1 - 1 by omega]) fun p' m q' o1 o2 o3 => hG p' m q' o1 (by omega) (by omega)
    · rw [if_neg (by simpa using hlt)]
      refine hc _ _ _ (ok.lt _ (by omega)) (ok.lt _ (by omega)) ?_
      show (if _ = true then _ else _ : KasT _).kasWp _ _ _
      by_cases hgt : key (p.getD (n - 1) 0) < key (p.getD n 0)
      · rw [if_pos (by simpa using hgt)]
        exact hG p n q ok (Nat.le_refl _) (by omega) h1 hd he
      · rw [if_neg (by simpa using hgt)]
        have heq : kk key p n = kk key p (n - 1) := Int.le_antisymm (Int.not_lt.mp hgt) (Int.not_lt.mp hlt)
        refine desc_wp f p (n + 1) (q + 1) G ok (by omega) (by omega) (fun k hk hk' => ?_) (fun k hk hk' => ?_) fun p' m q' o1 o2 o3 => hG p' m q' o1 (by omega) (by omega)
        · by_cases e : k = n
          · subst e; exact Int.le_of_eq heq
          · exact hd k hk (by omega)
        · rw [Nat.add_sub_cancel]
          by_cases e : k = n
          · subst e; rfl
          · rw [heq]; exact he k (by omega) (by omega)
theorem tail3_wp {n : Nat} {p : Array Nat} {G : Nat × Array Nat → Shared → Prop} (ok : OKp N p) (h1 : 1 ≤ n) (hn : n ≤ N) (hd : Desc key p n)
    (hG : ∀ m p', OKp N p' → 1 ≤ m → m ≤ N → Asc key p' m → G (m, p') s) : (kas_tail3 n N p).kasWp cmp G s := by
  unfold kas_tail3
  rw [KasT.kasWp_bind]
  have hsz := ok.size
  have ha : Asc key (kas_rev p 0 n) n := fun k hk hk' => by
    rw [kk_rev (by omega), kk_rev (by omega), if_pos (by omega), if_pos (by omega)]
    have := hd (0 + n - 1 - (k - 1)) (by omega) (by omega)
    rw [show 0 + n - 1 - (k - 1) - 1 = 0 + n - 1 - k by omega] at this
    exact this
  refine asc_wp hc (N - n) n _ _ (ok.rev _ _) h1 (by omega) ha fun m hm hm' ha' _ => ?_
  exact hG m _ (ok.rev _ _) (by omega) (by omega) ha'
theorem descPart_wp {n : Nat} {p : Array Nat} {G : Nat × Array Nat → Shared → Prop} (ok : OKp N p) (hn : n + 1 ≤ N) (hd : Desc key p (n + 1))
    (hG : ∀ m p', OKp N p' → 1 ≤ m → m ≤ N → Asc key p' m → G (m, p') s) : (kas_descPart n N p).kasWp cmp G s := by
  unfold kas_descPart
  rw [KasT.kasWp_bind]
  refine desc_wp hc _ p (n + 1) 0 _ ok (by omega) (by omega) hd (fun k hk hk' => by rw [show k = n + 1 - 1 by omega]) fun p' m q' o1 o2 o3 o4 o5 o6 => ?_
  dsimp only
  have hsz := o1.size
  split
  · have same : ∀ k, kk key (kas_rev p' (m - (q' + 1)) m) k = kk key p' k := fun k => by
      rw [kk_rev (by omega)]
      split
      · rename_i hk
        rw [o6 k hk.1 hk.2, o6 _ (by omega) (by omega)]
      · rfl
    exact tail3_wp hc (o1.rev _ _) (by omega) (by omega) (fun k hk hk' => by rw [same, same]; exact o5 k hk hk') hG
  · exact tail3_wp hc o1 (by omega) (by omega) o5 hG
theorem count_wp {p : Array Nat} {G : Nat × Array Nat → Shared → Prop} (ok : OKp N p) (hN : 1 ≤ N)
    (hG : ∀ m p', OKp N p' → 1 ≤ m → m ≤ N → Asc key p' m → G (m, p') s) : (kas_count N p).kasWp cmp G s := by
  unfold kas_count
  rw [KasT.kasWp_bind]
  have hsz := ok.size
  refine asc_wp hc (N - 1) 1 p _ ok (Nat.le_refl _) (by omega) (fun k hk hk' => by omega) fun n hn hn' ha hl => ?_
  split
  · exact hG n p ok hn (by omega) ha
  · rename_i hne
    have hne' : n ≠ N := by simpa using hne
    have hl' := hl (by omega)
    split
    · refine hc _ _ _ (ok.lt _ (by omega)) (ok.lt _ (by omega)) ?_
      show (if _ = true then _ else _ : KasT _).kasWp _ _ _
      by_cases hlt : key (p.getD 0 0) < key (p.getD (n - 1) 0)
      · rw [if_pos (by simpa using hlt)]
        exact hG n p ok hn (by omega) ha
      · rw [if_neg (by simpa using hlt)]
        have eqs : ∀ k, k < n → kk key p k = kk key p 0 := fun k hk => by
          have a1 := ha.le (Nat.zero_le k) hk
          have a2 := ha.le (i := k) (j := n - 1) (by omega) (by omega)
          have a3 : ¬ kk key p 0 < kk key p (n - 1) := hlt
          omega
        refine descPart_wp hc (ok.rev _ _) (by omega) (fun k hk hk' => ?_) hG
        rw [kk_rev (by omega), kk_rev (by omega), if_pos (c := 0 ≤ k - 1 ∧ k - 1 < n) (by omega)]
        have b1 := eqs (0 + n - 1 - (k - 1)) (by omega)
        split
        · have b2 := eqs (0 + n - 1 - k) (by omega)
          omega
        · have e : k = n := by omega
          subst e
          have b2 := eqs (k - 1) (by omega)
          omega
    · have e : n = 1 := by omega
      subst e
      refine descPart_wp hc ok (by omega) (fun k hk hk' => ?_) hG
      have e : k = 1 := by omega
      subst e
      exact Int.le_of_lt hl'
theorem place_wp {p : Array Nat} {k : Nat} (ok : OKp N p) (hk : k < N) (ha : Asc key p k) : ∀ (f l r : Nat) (G : Nat → Shared → Prop), l ≤ r → r ≤ k → r - l ≤ f → (∀ i, i < l → kk key p i ≤ kk key p k) → (∀ i, r ≤ i → i < k → kk key p k < kk key p i) →
    (∀ l', l' ≤ k → (∀ i, i < l' → kk key p i ≤ kk key p k) → (∀ i, l' ≤ i → i < k → kk key p k < kk key p i) → G l' s) → (kas_place p k f l r).kasWp cmp G s
  | 0, l, r, G, h1, h2, h3, h4, h5, hG => hG l (by omega) h4 fun i hi hi' => h5 i (by omega) hi'
  | f + 1, l, r, G, h1, h2, h3, h4, h5, hG => by
    unfold kas_place
    split
    · exact hG l (by omega) h4 fun i hi hi' => h5 i (by omega) hi'
    · refine hc _ _ _ (ok.lt _ hk) (ok.lt _ (by omega)) ?_
      show (if _ = true then _ else _ : KasT _).kasWp _ _ _
      by_cases hlt : key (p.getD k 0) < key (p.getD ((l + r) / 2) 0)
      · rw [if_pos (by simpa using hlt)]
        refine place_wp ok hk ha f l ((l + r) / 2) G (by omega) (by omega) (by omega) h4 (fun i hi hi' => ?_) hG
        have := ha.le hi hi'
        have hlt' : kk key p k < kk key p ((l + r) / 2) := hlt
        omega
      · rw [if_neg (by simpa using hlt)]
        refine place_wp ok hk ha f ((l + r) / 2 + 1) r G (by omega) (by omega) (by omega) (fun i hi => ?_) h5 hG
        have := ha.le (i := i) (j := (l + r) / 2) (by omega) (by omega)
        have hlt' : ¬ kk key p k < kk key p ((l + r) / 2) := hlt
        omega
theorem bin_wp : ∀ (f : Nat) (p : Array Nat) (k : Nat) (G : Array Nat → Shared → Prop), OKp N p → k + f = N → Asc key p k → (∀ p', OKp N p' → Asc key p' N → G p' s) → (kas_bin f p k).kasWp cmp G s
  | 0, p, k, G, ok, hk, ha, hG => hG p ok (by rw [← hk]; exact ha)
  | f + 1, p, k, G, ok, hk, ha, hG => by
    show ((kas_place p k k 0 k).bind fun l => kas_bin f (bubble p k (k - l)) (k + 1)).kasWp cmp G s
    rw [KasT.kasWp_bind]
    have hsz := ok.size
    refine place_wp hc ok (by omega) ha k 0 k _ (Nat.zero_le _) (Nat.le_refl _) (by omega) (fun i hi => by omega) (fun i hi hi' => by omega) fun l hl h1 h2 => ?_
    refine bin_wp f _ (k + 1) G (ok.bub _ _) (by omega) (fun j hj hj' => ?_) hG
    rw [kk_bub (by omega) (by omega), kk_bub (by omega) (by omega), show k - (k - l) = l by omega]
    by_cases e1 : j = l
    · subst e1
      rw [if_pos rfl, if_neg (by omega), if_neg (by omega)]
      exact h1 _ (by omega)
    · rw [if_neg e1]
      by_cases e2 : j - 1 = l
      · rw [if_pos e2, if_pos (by omega)]
        exact Int.le_of_lt (h2 _ (by omega) (by omega))
      · rw [if_neg e2]
        by_cases e3 : l < j
        · rw [if_pos (by omega), if_pos (by omega)]
          exact ha (j - 1) (by omega) (by omega)
        · rw [if_neg (by omega), if_neg (by omega)]
          exact ha j hj (by omega)
theorem sort_wp {G : Array Nat → Shared → Prop} (hN : 2 ≤ N) (hG : ∀ p', OKp N p' → Asc key p' N → G p' s) : (kas_sort N).kasWp cmp G s := by
  unfold kas_sort
  rw [KasT.kasWp_bind]
  refine count_wp hc ⟨by simp, Array.Perm.refl _⟩ (by omega) fun m p ok h1 h2 ha => ?_
  dsimp only
  split
  · rw [Nat.max_eq_left h1]
    exact bin_wp hc _ p m G ok (by omega) ha hG
  · exact hG p ok (by rw [show N = m by omega]; exact ha)
end
end Mine
end So_part
section So2_part
open PySem PySem.W PyProof.Rows PySem.Calls
namespace Mine
def TupN (h₀ : Heap) (held : List (Addr × Obj)) (v : Value) (r : List Int) : Prop := ∃ a xs, v = .ref a ∧ AtT h₀ held a xs ∧ IntsAre xs.toList r
theorem TupN.mono {h₀ : Heap} {held held' : List (Addr × Obj)} {v : Value} {r : List Int} (h : TupN h₀ held v r) (hs : ∀ q ∈ held, q ∈ held') : TupN h₀ held' v r := by
  obtain ⟨a, xs, e, ht, hi⟩ := h
  refine ⟨a, xs, e, ?_, hi⟩
  rcases ht with h | ⟨o, hm, hx⟩
  · exact .inl h
  · exact .inr ⟨o, hs _ hm, hx⟩
theorem TupN.at {h₀ h : Heap} {L : Addr} {m : Str → Option Value} {held : List (Addr × Obj)} {v : Value} {r : List Int} (x : TupN h₀ held v r) (F : Fr h₀ L h m) (N : News h₀ L h held) :
    ∃ a o xs n, v = .ref a ∧ h.get? a = some o ∧ o.cls = .type "tuple" ∧ o.data = .seq xs n ∧ IntsAre xs.toList r := by
  obtain ⟨a, xs, e, ht, hi⟩ := x
  obtain ⟨o, ho, hc, n, hd⟩ := ht.tup F.keep fun q hq => (N q hq).1
  exact ⟨a, o, xs, n, e, ho, hc, hd, hi⟩
def codeFrom : Int → List Int → Int
  | a, [] => a
  | a, x :: r => codeFrom (a * 100 + x) r
def codeOf (r : List Int) : Int := codeFrom 0 r
def Small (r : List Int) : Prop := ∀ x ∈ r, 0 ≤ x ∧ x < 100
theorem codeFrom_lt : ∀ {xs ys : List Int} {a b : Int}, xs.length = ys.length → Small xs → Small ys → a < b → codeFrom a xs < codeFrom b ys
  | [], [], _, _, _, _, _, h => h
  | x :: xs, y :: ys, a, b, hl, hx, hy, h => by
    refine codeFrom_lt (xs := xs) (ys := ys) (a := a * 100 + x) (b := b * 100 + y) (by simpa using hl) (fun z hz => hx z (.tail _ hz)) (fun z hz => hy z (.tail _ hz)) ?_
    have h1 := hx x (.head _)
    have h2 := hy y (.head _)
    omega
  | [], _ :: _, _, _, hl, _, _, _ => by simp at hl
  | _ :: _, [], _, _, hl, _, _, _ => by simp at hl
section
variable {prog : Program} {w : World} {A : Around} {E : Value → Shared → Prop} {s : Shared}
theorem lex_wp {Q : Bool → Shared → Prop} : ∀ {vs ws : List Value} {xs ys : List Int} (i : Nat) (a : Int), IntsAre vs xs → IntsAre ws ys → xs.length = ys.length → Small xs → Small ys → Q (decide (codeFrom a xs < codeFrom a ys)) s →
    KatLex prog w A true false Q (vs.zip ws) i s
  | _, _, _, _, i, a, .nil, .nil, _, _, _, hQ => by
    refine kat_nil ?_
    have : decide (codeFrom a [] < codeFrom a []) = false := by simp
    rw [this] at hQ; exact hQ
  | _, _, _, _, i, a, .cons (vs := vs) (ns := xs) x t hv, .cons (vs := ws) (ns := ys) y u hw, hl, hx, hy, hQ => by
    rw [List.zip_cons_cons]
    refine kat_cons (wpAny_eqBool_int ?_)
    have h1 := hx x (.head _)
    have h2 := hy y (.head _)
    have hl' : xs.length = ys.length := by simpa using hl
    have sx : Small xs := fun z hz => hx z (.tail _ hz)
    have sy : Small ys := fun z hz => hy z (.tail _ hz)
    by_cases e : x = y
    · subst e
      simp only [beq_self_eq_true]
      exact kat_yes (lex_wp (i + 1) (a * 100 + x) hv hw hl' sx sy hQ)
    · rw [show (x == y) = false by simpa using e]
      refine kat_no ?_
      have hd : decide (codeFrom a (x :: xs) < codeFrom a (y :: ys)) = decide (x < y) := by
        show decide (codeFrom (a * 100 + x) xs < codeFrom (a * 100 + y) ys) = _
        rcases Int.lt_or_gt_of_ne e with h | h
        · have := codeFrom_lt (a := a * 100 + x) (b := a * 100 + y) hl' sx sy (by omega)
          simp [this, h]
        · have := codeFrom_lt (a := a * 100 + y) (b := a * 100 + x) hl'.symm sy sx (by omega)
          have h1 : ¬ codeFrom (a * 100 + x) xs < codeFrom (a * 100 + y) ys := by omega
          have h2 : ¬ x < y := by omega
          simp [h1, h2]
      rw [hd] at hQ
      cases i with
      | zero => exact oneLt_int hQ
      | succ i =>
        have : (true && (i + 1 == 0)) = false := by simp
        rw [this]
        exact kat_one _ _ (lt_int hQ)
theorem looks_int {M : Model} {h : Heap} {n : Int} {t : Tok} : Looks M h (typeOf (.int n t)) (.type "int") := Looks.of_pure rfl
theorem ints_head : ∀ {vs : List Value} {ns : List Int}, IntsAre vs ns → 0 < ns.length → ∃ n t r, vs = .int n t :: r
  | _, _, .nil, h => by simp at h
  | _, _, .cons n t h, _ => ⟨n, t, _, rfl⟩
variable {h₀ : Heap} {L : Addr} {m : Str → Option Value} {news : List (Addr × Obj)} {vs : List Value} {rows : List (List Int)} {d : Nat}
def Tups (h₀ : Heap) (held : List (Addr × Obj)) (vs : List Value) (rows : List (List Int)) : Prop := vs.length = rows.length ∧ ∀ i, i < rows.length → TupN h₀ held (vs.getD i Value.none) (rows.getD i [])
theorem tups_kat {h : Heap} (F : Fr h₀ L h m) (N : News h₀ L h news) (ht : Tups h₀ news vs rows) (hd : 0 < d) (hr : ∀ r ∈ rows, r.length = d) : ∃ fs, fs.length = vs.length ∧ KatTups h vs fs ∧ ∀ v ∈ fs, ∃ n t, v = .int n t := by
  obtain ⟨hl, ht⟩ := ht
  induction vs generalizing rows with
  | nil => exact ⟨[], rfl, KatTups.nil, fun _ h => nomatch h⟩
  | cons v vs ih =>
    cases rows with
    | nil => simp at hl
    | cons r rows =>
      obtain ⟨fs, h1, h2, h3⟩ := ih (rows := rows) (fun r hr' => hr r (.tail _ hr')) (by simpa using hl) (fun i hi => ht (i + 1) (by simpa using hi))
      obtain ⟨a, o, xs, n, e, ho, hc, hdat, hi⟩ := (ht 0 (by simp)).at F N
      have e' : v = .ref a := e
      subst e'
      have hlen : r.length = d := hr r (.head _)
      obtain ⟨k, t, rest, hx⟩ := ints_head hi (by show 0 < r.length; omega)
      refine ⟨.int k t :: fs, by simp [h1], KatTups.cons ho hc hdat ?_ h2, fun v hv => ?_⟩
      · rw [← Array.getElem?_toList, hx]; rfl
      · rcases List.mem_cons.mp hv with rfl | hv
        · exact ⟨k, t, rfl⟩
        · exact h3 v hv
theorem tups_kind {Q : SortKind → Shared → Prop} (F : Fr h₀ L s.heap m) (N : News h₀ L s.heap news) (ht : Tups h₀ news vs rows) (hd : 0 < d) (hr : ∀ r ∈ rows, r.length = d) (hne : 0 < vs.length) (h : Q (tuples' true) s) :
    wpAny (model prog w) A (keyKind' vs.toArray) Q E s := by
  obtain ⟨fs, h1, h2, h3⟩ := tups_kat F N ht hd hr
  exact kat_kind h2 (by omega) (T := .type "int") (fun v hv => by obtain ⟨n, t, rfl⟩ := h3 v hv; exact looks_int) (by decide) h
theorem tups_sort {G : Array Nat → Shared → Prop} (F : Fr h₀ L s.heap m) (N : News h₀ L s.heap news) (ht : Tups h₀ news vs rows) (hr : ∀ r ∈ rows, r.length = d) (hs : ∀ r ∈ rows, Small r) (h2 : 2 ≤ vs.length)
    (h : ∀ p, OKp vs.length p → Asc (fun i => codeOf (rows.getD i [])) p vs.length → G p s) : (kas_sort vs.length).kasWp (kas_ask prog w A (tuples' true) vs) G s := by
  refine sort_wp (key := fun i => codeOf (rows.getD i [])) (fun i j C hi hj hC => ?_) h2 h
  obtain ⟨hl, ht⟩ := ht
  obtain ⟨a, o, xs, n, e, ho, hc, hdat, hia⟩ := (ht i (by omega)).at F N
  obtain ⟨b, o', ys, k, e', ho', hc', hdat', hib⟩ := (ht j (by omega)).at F N
  have mi : ∀ i, i < rows.length → rows.getD i [] ∈ rows := fun i hi => by
    rw [List.getD_eq_getElem?_getD, List.getElem?_eq_getElem hi]; exact List.getElem_mem hi
  have hi' := mi i (by omega)
  have hj' := mi j (by omega)
  unfold kas_ask
  rw [e, e']
  have l1 := hr _ hi'
  have l2 := hr _ hj'
  have z1 := IntsAre.length hia
  have z2 := IntsAre.length hib
  rw [Array.length_toList] at z1 z2
  have : decide (xs.size < ys.size) = false := by simp; omega
  refine kat_lt ho hdat ho' hdat' ?_
  rw [this]
  exact lex_wp 0 0 hia hib (by omega) (hs _ hi') (hs _ hj') hC
structure SortedTo (h₀ : Heap) (held : List (Addr × Obj)) (rows : List (List Int)) (out : List Value) (rows' : List (List Int)) : Prop where
  tups : Tups h₀ held out rows'
  perm : rows'.Perm rows
  asc : rows'.Pairwise fun a b => codeOf a ≤ codeOf b
theorem sortedTo_of {p : Array Nat} (ht : Tups h₀ news vs rows) (ok : OKp vs.length p) (ha : Asc (fun i => codeOf (rows.getD i [])) p vs.length) :
    SortedTo h₀ news rows (p.toList.map fun i => vs.getD i Value.none) (p.toList.map fun i => rows.getD i []) := by
  obtain ⟨hl, ht⟩ := ht
  have hsz : p.toList.length = rows.length := by rw [Array.length_toList, ok.size, hl]
  have at' : ∀ i, i < rows.length → p.toList[i]? = some (p.getD i 0) := fun i hi => by
    have : i < p.size := by rw [← Array.length_toList]; omega
    rw [Array.getElem?_toList, Array.getD]; simp [this]
  refine ⟨⟨by simp, fun i hi => ?_⟩, ?_, ?_⟩
  · simp only [List.length_map, hsz] at hi
    simp only [List.getD_eq_getElem?_getD, List.getElem?_map, at' i hi, Option.map_some, Option.getD_some]
    have := ht (p.getD i 0) (by have := ok.lt i (by omega); omega)
    simpa only [List.getD_eq_getElem?_getD] using this
  · have h1 := (Array.perm_iff_toList_perm.mp ok.perm).map fun i => rows.getD i []
    have h2 : (List.range vs.length).map (fun i => rows.getD i []) = rows := by
      refine List.ext_getElem? fun i => ?_
      rw [List.getElem?_map, hl]
      by_cases hi : i < rows.length
      · rw [List.getElem?_range hi, Option.map_some, List.getD_eq_getElem?_getD, List.getElem?_eq_getElem hi]; rfl
      · rw [List.getElem?_eq_none (by simpa using Nat.le_of_not_lt hi), List.getElem?_eq_none (by omega)]; rfl
    rwa [h2] at h1
  · rw [List.pairwise_iff_getElem]
    intro i j hi hj hij
    simp only [List.length_map, hsz] at hi hj
    have e1 : p.toList[i]'(by omega) = p.getD i 0 := Option.some.inj ((List.getElem?_eq_getElem _).symm.trans (at' i hi))
    have e2 : p.toList[j]'(by omega) = p.getD j 0 := Option.some.inj ((List.getElem?_eq_getElem _).symm.trans (at' j hj))
    rw [List.getElem_map, List.getElem_map, e1, e2]
    exact ha.le (Nat.le_of_lt hij) (by omega)
theorem lsort_tups {D : Addr} {its : Array Value} {n : Nat} {Q : Value → Shared → Prop} (F : Fr h₀ L s.heap m) (N : News h₀ L s.heap ((D, listOf its n) :: news)) (hD : ∀ q ∈ news, q.1 ≠ D) (ht : Tups h₀ news its.toList rows) (hd : 0 < d) (hr : ∀ r ∈ rows, r.length = d) (hs : ∀ r ∈ rows, Small r)
    (h2 : 2 ≤ rows.length) (h64 : rows.length < 64)
    (h : ∀ out rows' c h', Fr h₀ L h' m → News h₀ L h' ((D, listOf (List.toArray out) c) :: news) → SortedTo h₀ news rows out rows' → Q .none { s with heap := h' }) :
    wpAny (model prog w) A (call (.builtin "list.sort") [.ref D]) Q E s := by
  have hl := ht.1
  refine kat_lsort F N (.head hD) rfl (by omega) (by omega) fun e1 h' F' N' => ?_
  have N'' : News h₀ L h' news := fun q hq => N' q (.tail _ hq)
  refine tups_kind (s := { s with heap := h' }) F' N'' ht hd hr (by omega) ?_
  refine tups_sort (s := { s with heap := h' }) F' N'' ht hr hs (by omega) fun p ok ha => ?_
  exact KasFin.intro F' N' (.head hD) fun h₂ c F₂ N₂ => h _ _ c h₂ F₂ N₂ (sortedTo_of ht ok ha)
theorem sorted_tups {l : Addr} {Q : Value → Shared → Prop} (F : Fr h₀ L s.heap m) (N : News h₀ L s.heap news) (hl : s.heap.IsList l vs.toArray) (ht : Tups h₀ news vs rows) (hd : 0 < d) (hr : ∀ r ∈ rows, r.length = d) (hs : ∀ r ∈ rows, Small r)
    (h2 : 2 ≤ rows.length) (h64 : rows.length < 64)
    (h : ∀ D out rows' c h', Fr h₀ L h' m → News h₀ L h' ((D, listOf (List.toArray out) c) :: news) → (∀ q ∈ news, q.1 < D) → SortedTo h₀ news rows out rows' → Q (.ref D) { s with heap := h' }) :
    wpAny (model prog w) A (call (.builtin "sorted") [.ref l]) Q E s := by
  have hle := ht.1
  refine kat_sorted F N hl (by omega) (by omega) fun D e1 h' F' N' hlt => ?_
  have N'' : News h₀ L h' news := fun q hq => N' q (.tail _ hq)
  refine tups_kind (s := { s with heap := h' }) F' N'' ht hd hr (by omega) ?_
  refine tups_sort (s := { s with heap := h' }) F' N'' ht hr hs (by omega) fun p ok ha => ?_
  exact KasFin.intro F' N' (.head fun q hq => Nat.ne_of_lt (hlt q hq)) fun h₂ c F₂ N₂ => h D _ _ c h₂ F₂ N₂ hlt (sortedTo_of ht ok ha)
theorem list_sort_short {a : Addr} {n : Nat} {P : PySem.Fin → Shared → Prop} (F : Fr h₀ L s.heap m) (N : News h₀ L s.heap news) (ho : s.heap.get? a = some (seqObj "list" vs.toArray n)) (haL : a ≠ L) (ha0 : h₀.get? a = none) (hna : ∀ p ∈ news, p.1 ≠ a)
    (h2 : vs.length < 2)
    (h : ∀ c h', Fr h₀ L h' m → News h₀ L h' ((a, listOf vs.toArray c) :: news) → P (.done (.ret .none)) { s with heap := h' }) :
    wpAny (model prog w) A (Builtin.«list.sort» ⟨[.ref a], []⟩) P E s := by
  have ha : a < s.heap.objs.size := Heap.lt_size ho
  have s1 := Heap.SameBut.update s.heap a (Obj.mapSeq fun _ => (#[] : Array Value))
  obtain ⟨e1, ho1⟩ : ∃ e1, (s.heap.update a (Obj.mapSeq fun _ => (#[] : Array Value))).get? a = some (seqObj "list" #[] e1) := ⟨_, get?_update_seq ho fun _ => #[]⟩
  have F3 : Fr h₀ L (((s.heap.update a (Obj.mapSeq fun _ => (#[] : Array Value))).push (seqObj "tuple" vs.toArray 0)).push (seqObj "list" #[] 0)) m := ((kas_fr F s1 haL ha0).push _).push _
  have N2 : News h₀ L (((s.heap.update a (Obj.mapSeq fun _ => (#[] : Array Value))).push (seqObj "tuple" vs.toArray 0)).push (seqObj "list" #[] 0)) news :=
    (kas_news N s1 hna).grown fun b x e => Heap.get?_push_of_some _ (Heap.get?_push_of_some _ e)
  have na : (((s.heap.update a (Obj.mapSeq fun _ => (#[] : Array Value))).push (seqObj "tuple" vs.toArray 0)).push (seqObj "list" #[] 0)).get? a = some (seqObj "list" #[] e1) := Heap.get?_push_of_some _ (Heap.get?_push_of_some _ ho1)
  rw [list_sort_plain]
  refine wpAny_bind (listItems_at ho rfl ?_)
  refine wpAny_bind (listUpdate_at ho rfl ?_ (by rw [List.size_toArray, sizeLine_eq]; omega) (Nat.zero_le _))
  refine wpAny_bind (seqEpoch_at ho1 rfl ?_)
  refine wpAny_bind (wpAny_newTuple ?_ (by show vs.length ≤ _; rw [sizeLine_eq]; omega))
  refine wpAny_bind (wpAny_newList ?_ (Nat.zero_le _))
  refine wpAny_holding ?_
  show wpAny (model prog w) A _ P E { s with heap := ((s.heap.update a (Obj.mapSeq fun _ => (#[] : Array Value))).push (seqObj "tuple" vs.toArray 0)).push (seqObj "list" #[] 0) }
  dsimp only
  have hn2 : vs.toArray.size < 2 := by rw [List.size_toArray]; omega
  rw [if_pos hn2, if_pos hn2]
  refine wpAny_bind (wpAny_pure ?_)
  rw [StateT.run_pure]
  refine wpAny_bind (wpAny_pure ?_)
  dsimp only
  have hout : (arrOf (SortSt.mk' general' (vs.toArray.zip vs.toArray) #[] 7 none)).map (·.2) = vs.toArray := by
    show (vs.toArray.zip vs.toArray).map (·.2) = _
    apply Array.ext'
    simp
    rw [List.map_snd_zip (Nat.le_refl _)]
  rw [hout]
  have s2 := Heap.SameBut.update (((s.heap.update a (Obj.mapSeq fun _ => (#[] : Array Value))).push (seqObj "tuple" vs.toArray 0)).push (seqObj "list" #[] 0)) a (Obj.mapSeq fun _ => vs.toArray)
  obtain ⟨c2, hc2⟩ : ∃ c2, ((((s.heap.update a (Obj.mapSeq fun _ => (#[] : Array Value))).push (seqObj "tuple" vs.toArray 0)).push (seqObj "list" #[] 0)).update a (Obj.mapSeq fun _ => vs.toArray)).get? a = some (seqObj "list" vs.toArray c2) := ⟨_, get?_update_seq na fun _ => vs.toArray⟩
  refine wpAny_bind (seqEpoch_at na rfl ?_)
  refine wpAny_bind (listUpdate_at na rfl ?_ (Nat.zero_le _) (by rw [List.size_toArray, sizeLine_eq]; omega))
  show wpAny _ _ (if (e1 != e1) = true then _ else _) _ _ _
  simp only [bne_self_eq_false, Bool.false_eq_true, if_false]
  refine wpAny_pure (h c2 _ (kas_fr F3 s2 haL ha0) fun q hq => ?_)
  rcases List.mem_cons.mp hq with rfl | hq
  · exact ⟨hc2, haL, ha0⟩
  · exact kas_news N2 s2 hna q hq
theorem sorted_short {l : Addr} {Q : Value → Shared → Prop} (F : Fr h₀ L s.heap m) (N : News h₀ L s.heap news) (hl : s.heap.IsList l vs.toArray) (h2 : vs.length < 2)
    (h : ∀ D c h', Fr h₀ L h' m → News h₀ L h' ((D, listOf vs.toArray c) :: news) → (∀ q ∈ news, q.1 < D) → Q (.ref D) { s with heap := h' }) :
    wpAny (model prog w) A (call (.builtin "sorted") [.ref l]) Q E s := by
  refine Calls.call_function_entry kind_sorted plain_sorted entry_sorted (args_sorted1 _) ?_
  unfold Builtin.«sorted»
  refine wpAny_bind (m := checkCount "sorted" 1 1 _) (wpAny_pure ?_)
  refine wpAny_bind (collect_list hl ?_ (by rw [sizeLine_eq]; omega))
  refine wpAny_bind (wpAny_newList ?_ (by rw [sizeLine_eq]; omega))
  have hsz : ((s.heap.push (seqObj "list" #[] 0)).update s.heap.objs.size (Obj.mapSeq (· ++ vs.toArray))).objs.size = s.heap.objs.size + 1 := by
    rw [Heap.size_update, size_push']
  have hoL : (((s.heap.push (seqObj "list" #[] 0)).update s.heap.objs.size (Obj.mapSeq (· ++ vs.toArray))).push (seqObj "list" vs.toArray 0)).get? (s.heap.objs.size + 1) = some (seqObj "list" vs.toArray 0) := by
    rw [← hsz]; exact Heap.get?_push_size _ rfl
  have keep : ∀ b o, s.heap.get? b = some o → (((s.heap.push (seqObj "list" #[] 0)).update s.heap.objs.size (Obj.mapSeq (· ++ vs.toArray))).push (seqObj "list" vs.toArray 0)).get? b = some o := fun b o q => by
    have hlt : b < s.heap.objs.size := Heap.lt_size q
    rw [Heap.get?_push_ne _ _ _ (by rw [hsz]; exact Nat.ne_of_lt (Nat.lt_succ_of_lt hlt)), Heap.get?_update_ne _ _ _ _ (Nat.ne_of_lt hlt), Heap.get?_push_ne _ _ _ (Nat.ne_of_lt hlt)]
    exact q
  have hL : L < s.heap.objs.size := F.ns.lt
  show wpAny _ _ _ _ _ { s with heap := ((s.heap.push (seqObj "list" #[] 0)).update s.heap.objs.size (Obj.mapSeq (· ++ vs.toArray))).push (seqObj "list" vs.toArray 0) }
  rw [hsz]
  refine wpAny_bind (wpAny_holding (wpAny_call_entry slot_list_sort ⟨_, hoL, rfl⟩ entry_list_sort ?body (args_list_sort _)))
  case body =>
    refine list_sort_short (s := { s with heap := ((s.heap.push (seqObj "list" #[] 0)).update s.heap.objs.size (Obj.mapSeq (· ++ vs.toArray))).push (seqObj "list" vs.toArray 0) })
      (F.kept keep) (N.grown keep) hoL (Nat.ne_of_gt (Nat.lt_succ_of_lt hL)) (Heap.get?_none_of_le (Nat.le_trans F.above (Nat.le_succ_of_le (Nat.le_of_lt hL))))
      (fun p hp => Nat.ne_of_lt (Nat.lt_succ_of_lt (Heap.lt_size (N p hp).1))) h2 fun c h' F' N' => ?_
    exact ⟨_, rfl, wpAny_pure ⟨_, rfl, h _ c h' F' N' fun q hq => Nat.lt_succ_of_lt (Heap.lt_size (N q hq).1)⟩⟩
end
end Mine
end So2_part
section Cp5_part
open PySem PySem.W PyProof.Rows PySem.Calls
namespace Mine
open PyProof.Rows.LCg (lst NsObj ns_obj lst_snoc)
section
variable {prog : Program} {w : World} {A : Around} {h₀ : Heap} {s : Shared} {env : Env} {L : Addr} {m : Str → Option Value} {elt iter : Expr} {ifs : List Expr} {scope : Scope} {pos : Pos} {cl : List (Str × Addr)} {E : Value → Shared → Prop} {Fin : Shared → List Value → List (Addr × Obj) → Prop}
theorem CEnd.same {own news big : List (Addr × Obj)} {off : List Addr} {J : Value → Prop} {y : Value} {h' : Heap} {tk : Nat} {s₁ : Shared}
    (F : Fr h₀ L h' m) (N : News h₀ L h' big) (hs : ∀ q ∈ own ++ news, q ∈ big) (ho : ∀ q ∈ news, q.1 ∉ off) (hJ : J y) : CEnd h₀ L m s₁ own off (fun y news' => J y ∧ news' = news) y { s₁ with heap := h', toks := tk } :=
  CEnd.intro F (news_sub N hs) ho ⟨hJ, rfl⟩
theorem range_compS {x : Str} {px : Pos} {r : Addr} {a₀ b₀ c₀ : Int} {t₀ u₀ v₀ : Tok} {n : Nat} {news : List (Addr × Obj)} (J : Nat → List Value → Prop)
    (hh : A.handled = none) (hr : IsRange s.heap r a₀ b₀ c₀ t₀ u₀ v₀) (hsmall : Builtin.Range.small a₀ b₀ c₀ = true) (hn : Builtin.Range.rangeSize a₀ b₀ c₀ = (n : Int)) (hsz : n ≤ sizeLine) (F : Fr h₀ L s.heap m) (N : News h₀ L s.heap news) (h0 : J 0 [])
    (turn : ∀ i t ys h tk I ob C oC D m₂ E', i < n → J i ys → NsObj oC m₂ → m₂ x = some (.int (a₀ + (i : Int) * c₀) t) → @Ne Nat I C → @Ne Nat I D → @Ne Nat C D → (∀ q ∈ news, q.1 ∉ [I, C, D]) → Fr h₀ L h m → News h₀ L h ((I, ob) :: (C, oC) :: (D, lst ys) :: news) →
      CBody prog w A h₀ L m elt ifs (compEnvC scope cl C env) { s with heap := h, toks := tk } [(I, ob), (C, oC), (D, lst ys)] [I, C, D] (fun y news' => J (i + 1) (ys ++ [y]) ∧ news' = news) (fun news' => J (i + 1) ys ∧ news' = news) E')
    (done : ∀ ys h, J n ys → Fin { s with heap := h } ys news)
    (hcell : ∀ y ∈ scope.names, y.2 ≠ .cell := by decide) (hkind : scope.kind = .function := by rfl) (hx : scope.names.lookup x = some .local := by rfl) :
    wpAny (model prog w) A (pyIter (.ref r)) (CompRun prog w A h₀ L m elt (.Name x px) iter ifs scope pos cl env E Fin) E s :=
  range_comp (fun i ys news' => J i ys ∧ news' = news) hh hr hsmall hn hsz F N ⟨h0, rfl⟩
    (fun i t ys news₁ h tk I ob C oC D m₂ E' hi hJ hns hx h1 h2 h3 ho F N => by
      obtain ⟨hJ, e⟩ := hJ
      rw [e] at N ho
      exact turn i t ys h tk I ob C oC D m₂ E' hi hJ hns hx h1 h2 h3 (fun q hq => by have := ho q hq; simp only [List.mem_cons, List.not_mem_nil, or_false, not_or]; exact this) F N)
    (fun ys news' h hJ => by obtain ⟨hJ, e⟩ := hJ; rw [e]; exact done ys h hJ) hcell hkind hx
theorem list_compS {x : Str} {px : Pos} {l : Addr} {items : Array Value} {news : List (Addr × Obj)} (J : Nat → List Value → Prop)
    (hh : A.handled = none) (hl : AtL h₀ news l items) (hsz : items.size ≤ sizeLine) (F : Fr h₀ L s.heap m) (N : News h₀ L s.heap news) (h0 : J 0 [])
    (turn : ∀ i v ys h tk I ob C oC D m₂ E', i < items.size → items[i]? = some v → J i ys → NsObj oC m₂ → m₂ x = some v → @Ne Nat I C → @Ne Nat I D → @Ne Nat C D → (∀ q ∈ news, q.1 ∉ [I, C, D]) → Fr h₀ L h m → News h₀ L h ((I, ob) :: (C, oC) :: (D, lst ys) :: news) →
      CBody prog w A h₀ L m elt ifs (compEnvC scope cl C env) { s with heap := h, toks := tk } ((I, ob) :: (C, oC) :: (D, lst ys) :: news) [] (fun y _ => J (i + 1) (ys ++ [y])) (fun _ => J (i + 1) ys) E')
    (done : ∀ ys h, J items.size ys → Fin { s with heap := h } ys (news ++ []))
    (hcell : ∀ y ∈ scope.names, y.2 ≠ .cell := by decide) (hkind : scope.kind = .function := by rfl) (hx : scope.names.lookup x = some .local := by rfl) :
    wpAny (model prog w) A (pyIter (.ref l)) (CompRun prog w A h₀ L m elt (.Name x px) iter ifs scope pos cl env E Fin) E s := by
  refine list_comp (held := news) (news := []) (fun i ys news' => J i ys ∧ news' = []) hh hl hsz F (by rwa [List.append_nil]) (fun _ h => nomatch h) ⟨h0, rfl⟩ ?_ (fun ys news' h hJ => by obtain ⟨hJ, rfl⟩ := hJ; exact done ys h hJ) hcell hkind hx
  intro i v ys news₁ h tk I ob C oC D m₂ E' hi hv hJ hns hx h1 h2 h3 ho _ F N
  obtain ⟨hJ, rfl⟩ := hJ
  have t := turn i v ys h tk I ob C oC D m₂ E' hi hv hJ hns hx h1 h2 h3 (fun q hq => by have := ho q hq; simp only [List.mem_cons, List.not_mem_nil, or_false, not_or]; exact this) F (news_sub N fun q hq => by
    simp only [List.cons_append, List.append_nil, List.mem_cons, List.mem_append, List.not_mem_nil, or_false] at hq ⊢
    rcases hq with h | h | h | h <;> simp only [h, true_or, or_true])
  have fin : ∀ {J1 : Value → Prop} {y : Value} {s' : Shared}, CEnd h₀ L m { s with heap := h, toks := tk } ((I, ob) :: (C, oC) :: (D, lst ys) :: news) [] (fun y _ => J1 y) y s' → CEnd h₀ L m { s with heap := h, toks := tk } ((I, ob) :: news ++ [(C, oC), (D, lst ys)]) (I :: news.map (·.1) ++ [C, D]) (fun y news' => J1 y ∧ news' = []) y s' := by
    rintro J1 y s' ⟨h', tk', news', e, F', N', _, hJ'⟩
    refine ⟨h', tk', [], e, F', news_sub N' fun q hq => ?_, fun _ h => (nomatch h), ⟨hJ', rfl⟩⟩
    simp only [List.cons_append, List.append_nil, List.mem_cons, List.mem_append, List.not_mem_nil, or_false] at hq ⊢
    rcases hq with h | h | h | h <;> simp only [h, true_or, or_true]
  refine wpAny_mono t (fun ok s' h' => ?_) fun _ _ e => e
  cases ok with
  | true => simp only [if_true] at h' ⊢; exact wpAny_mono h' (fun y s'' hy => fin (J1 := fun y => J (i + 1) (ys ++ [y])) hy) fun _ _ e => e
  | false => simp only [Bool.false_eq_true, if_false] at h' ⊢; exact fin (J1 := fun _ => J (i + 1) ys) h'
theorem off1_of {D : Addr} : ∀ {l : List (Addr × Obj)}, (∀ q ∈ l, q.1 ≠ D) → LCg.Off1 D l
  | [], _ => trivial
  | _ :: _, h => ⟨h _ (.head _), off1_of fun q hq => h q (.tail _ hq)⟩
theorem off3_of {I C D : Addr} : ∀ {l : List (Addr × Obj)}, (∀ q ∈ l, q.1 ∉ [I, C, D]) → LCg.Off3 I C D l
  | [], _ => trivial
  | _ :: _, h => ⟨by have := h _ (.head _); simp only [List.mem_cons, List.not_mem_nil, or_false, not_or] at this; exact this, off3_of fun q hq => h q (.tail _ hq)⟩
end
end Mine
end Cp5_part
section V2_part
open PySem PySem.W PyProof.Rows PySem.Calls
namespace Mine
local macro_rules | `(tactic| k_all) => `(tactic| assumption)
local macro_rules | `(tactic| walk_at "pyIter ref") => `(tactic| refine Hold.of ?_)
local macro_rules | `(tactic| walk_at "call ref") => `(tactic| refine Hold.of ?_)
local macro_rules | `(tactic| walk_at "exec For") => `(tactic| (with_unfolding_all refine' For_run ?_))
local macro_rules | `(tactic| walk_at "exec For Name Call cons nil") => `(tactic| (with_unfolding_all refine' For_run ?_))
local macro_rules | `(tactic| walk_at "exec For Tuple Call cons nil") => `(tactic| (with_unfolding_all refine' For_run ?_))
local macro_rules | `(tactic| walk_at "getAttr ref") => `(tactic| (k_dflt (refine' get_own ?k1 ?k2 (inst_up ?k3 (Fr.keep ?k1)) ?k4 ?k5 ?k6 ?k7 ?k8 ?k9 ?_; (case k1 => k_asm); (case k2 => k_asm); (case k3 => k_asm); (case k4 => k_is); (case k5 => k_is); (case k6 => k_is); (case k7 => k_is); (case k8 => k_asm); (case k9 => k_handed); k_whole)))
local macro_rules | `(tactic| walk_at "eval Name") => `(tactic| ((with_reducible show wpAny _ _ (eval _ (envOfC _ _ _ _ _)) _ _ _); k_dflt (refine' nameX_L ?F ?v ?_ ?a ?b ?d; (case F => k_asm); (case v => rfl); (case a => kernel_rfl); (case b => kernel_rfl); (case d => kernel_rfl); k_whole)))
local macro_rules | `(tactic| walk_at "eval Name") => `(tactic| ((with_reducible show wpAny _ _ (eval _ (envOf _ _ _ _ _)) _ _ _); k_dflt (refine' ld ?k1 ?k2 ?_ ?k3 ?k4 ?k5; (case k1 => k_asm); (case k2 => exact rfl); (case k3 => kernel_rfl); (case k4 => kernel_rfl); (case k5 => kernel_rfl); k_whole)))
local macro_rules | `(tactic| walk_at "Turned") => `(tactic| first | refine Turned.ret ?_ | refine Turned.brk ?_)
local macro_rules | `(tactic| walk_at "go") => `(tactic| repeat' (first | (k_unfold; (try dsimp only)) | walk1 | (dsimp only; walk1) | (dsimp only; k_unfold; (try dsimp only))))
local macro_rules | `(tactic| walk_at "kf") => `(tactic| ((with_reducible show wpAny _ _ _ _ _ _); k_fold))
local macro_rules | `(tactic| walk_at "locals") => `(tactic| (intro y h1 h2; simp only [List.mem_cons, List.not_mem_nil, or_false, not_or] at h1 h2; simp [h1, h2]))
local macro_rules | `(tactic| walk_at "eval ListComp") => `(tactic| (k_dflt (refine ListComp_runF (by k_asm) (by with_unfolding_all rfl) (by rfl) (by decide) ?_)))
local macro_rules | `(tactic| walk_at "exec Assign cons ListComp") => `(tactic| ((with_reducible show wpAny _ _ (exec (Stmt.Assign [Expr.Name _ _] _ _) _) _ _ _); k_dflt (refine Assign_ListComp_runF (by k_asm) (by with_unfolding_all rfl) (by with_unfolding_all rfl) (by rfl) (by decide) (by rfl) (by rfl) (by rfl) ?_)))
local macro_rules | `(tactic| walk_at "exec Assign cons ListComp") => `(tactic| ((with_reducible show wpAny _ _ (exec (Stmt.Assign [Expr.Attribute _ _ _] _ _) _) _ _ _); walk_at "exec Assign"))
local macro_rules | `(tactic| k_in) => `(tactic| exact Frag.In.keeps (by with_reducible assumption) (Fr.keep (by with_reducible assumption)))
local macro_rules | `(tactic| walk_at "sub") => `(tactic| first | exact List.forall_mem_nil _ | refine List.forall_mem_cons.mpr ⟨by k_mem, by walk_at "sub"⟩)
local macro_rules | `(tactic| walk_at "lst") => `(tactic| first | exact lst_up (by assumption) (Fr.keep (by k_asm)) | exact lst_news (by k_asm) (by k_mem))
local macro_rules | `(tactic| walk_at "call builtin:isinstance") => `(tactic| (k_dflt (refine' isn_list ?k1 ?k2 ?k3 ?_; (case k1 => k_in); (case k2 => walk_at "lst"); (case k3 => k_not); k_whole)))
local macro_rules | `(tactic| walk_at "call builtin:len") => `(tactic| (k_dflt (refine' len_list ?l ?f ?_; (case l => walk_at "lst"); (case f => omega); k_whole)))
local macro_rules | `(tactic| walk_at "call type:list") => `(tactic| (k_dflt (refine' list_copyK ?k1 ?k2 ?k3 ?_ ?z; (case k1 => k_asm); (case k2 => k_asm); (case k3 => walk_at "lst"); (case z => rw [sizeLine_eq]; omega); k_whole); intro D' c' h' F' N' l1; (try k_lt l1); (try k_sweep)))
theorem vl_init0 {prog : Program} {w : World} {s : Shared} {g : Heap} {mg mb : Str → Option Value} {p : Program} {loose : List Str} {x dx l0 : Addr} {vs : Array Value} {so : Str} {t : Tok}
   (X : (hd.heap_39 w.params).In g) (T : TopRead p loose mg mb g) (S : St g s.heap [(x, instObj 557 dx), (dx, dictOf [] 0)]) (hxd : dx < x)
   (hl0 : g.IsList l0 vs) (h64 : vs.size ≤ 64) :
   codeAny (model prog w) (lv 900 5000) (.call (.ref 267) ⟨[.ref x, .ref l0], [("source", .str so t)]⟩) (Back g s fun v led => v = .none ∧ ∃ bd c bi its c2 t1 t2 t3 t4, led = [(x, instObj 557 dx), (dx, dictOf (slEs w.params bd bi .none .none t1 t2 t3 t4) 4), (bd, listOf vs c), (bi, listOf its c2)] ∧ its.size = vs.size ∧ @Ne Nat bd x ∧ @Ne Nat bd dx ∧ @Ne Nat bi x ∧ @Ne Nat bi dx ∧ @Ne Nat bd bi) s := by
  k_dflt (refine' enterC (binds := [("self", .ref x), ("initlist", .ref l0), ("source", .str so t), ("items", .none), ("parent", .none), ("parent_offset", .none)]) X T S ?k6 ?k7 ?k8 ?k9 ?kB ?kD ?_ ?c2 ?c3 ?c4; (case k6 => k_is); (case k7 => k_is); (case k8 => decide); (case k9 => exact binds_K (X.keeps S.stays) rfl (by k_is) rfl rfl rfl); (case kB => rfl); (case kD => decide); (case c2 => rfl); (case c3 => rfl); (case c4 => rfl))
  intro L h₁ tk cells F N Y lt
  k_cells Y
  dsimp only [List.cons_append, List.nil_append] at N
  replace hxd := ltN hxd
  k_lt lt
  walk_at "kf"
  walk_at "go"
  rename IsRange _ _ _ _ _ _ _ _ => R
  rename Fr _ _ _ _ => F'
  rename News _ _ _ _ => N'
  refine Hold.out ?_
  have hsz : Builtin.Range.rangeSize 0 (vs.size : Int) 1 = ((vs.size : Nat) : Int) := by rw [rangeSize_one]; split <;> omega
  refine range_compS (fun i ys => ys.length = i) rfl R (small_one (by omega) (by omega) (by omega) (by omega)) hsz (by rw [sizeLine_eq]; omega) F' N' rfl ?_ ?_
  · intro i t' ys h tk' I ob C oC D m₂ E' hi hJ hns hx hIC hID hCD hoff F N
    refine CBody.nil ?_
    clear F' N' R
    walk_at "kf"
    walk_at "go"
    rename Fr _ _ _ _ => F'
    rename News _ _ _ _ => N'
    exact CEnd.same F' N' (by walk_at "sub") hoff (by simp [hJ])
  · intro ys h hJ D h' tk' F N off
    replace off := off1_of off
    simp only [LCg.Off1, and_true] at off
    clear F' N' R
    have hys : ys.toArray.size = vs.size := by simp [hJ]
    change News g L h' ((D, listOf ys.toArray ys.length) :: _) at N
    generalize ys.toArray = its at N hys
    generalize ys.length = c2 at N
    walk_at "kf"
    walk_at "go"
    rename Fr _ _ _ _ => F'
    rename News _ _ _ _ => N'
    rename (_ < _) ∧ (_ < _) ∧ (_ < _) ∧ (_ < _) ∧ (_ < _) => l5
    refine Back.intro F' (news_sub N' (List.forall_mem_cons.mpr ⟨.tail _ (.tail _ (.tail _ (.tail _ (.tail _ (.head _))))), List.forall_mem_cons.mpr ⟨.tail _ (.tail _ (.tail _ (.tail _ (.tail _ (.tail _ (.head _)))))), List.forall_mem_cons.mpr ⟨.tail _ (.head _), List.forall_mem_cons.mpr ⟨.head _, List.forall_mem_nil _⟩⟩⟩⟩)) ⟨rfl, _, _, _, _, _, _, _, _, _, rfl, hys, ?_⟩
    exact ⟨Nat.ne_of_gt l5.2.2.2.1, Nat.ne_of_gt l5.2.2.2.2, Ne.symm off.2.2.2.2.1, Ne.symm off.2.2.2.2.2, off.1⟩
end Mine
end V2_part
section P_part
open PySem PySem.W PyProof.Rows PySem.Calls
namespace Mine
local macro_rules | `(tactic| walk_at "zz0") => `(tactic| fail)
local macro_rules | `(tactic| walk_at "zz1") => `(tactic| fail)
local macro_rules | `(tactic| walk_at "zz2") => `(tactic| fail)
local macro_rules | `(tactic| walk_at "zz3") => `(tactic| fail)
local macro_rules | `(tactic| walk_at "zz4") => `(tactic| fail)
local macro_rules | `(tactic| walk_at "zz5") => `(tactic| fail)
local macro_rules | `(tactic| walk_at "zz6") => `(tactic| fail)
local macro_rules | `(tactic| walk_at "zz7") => `(tactic| fail)
local macro_rules | `(tactic| walk_at "zz8") => `(tactic| fail)
local macro_rules | `(tactic| walk_at "zz9") => `(tactic| fail)
local macro_rules | `(tactic| walk_at "zz10") => `(tactic| fail)
local macro_rules | `(tactic| walk_at "zz11") => `(tactic| fail)
local macro_rules | `(tactic| walk_at "zz12") => `(tactic| fail)
local macro_rules | `(tactic| walk_at "zz13") => `(tactic| fail)
local macro_rules | `(tactic| walk_at "zz14") => `(tactic| fail)
local macro_rules | `(tactic| walk_at "zz15") => `(tactic| fail)
local macro_rules | `(tactic| walk_at "zz16") => `(tactic| fail)
local macro_rules | `(tactic| walk_at "zz17") => `(tactic| fail)
local macro_rules | `(tactic| walk_at "zz18") => `(tactic| fail)
local macro_rules | `(tactic| walk_at "zz19") => `(tactic| fail)
local macro_rules | `(tactic| walk_at "zz20") => `(tactic| fail)
local macro_rules | `(tactic| walk_at "zz21") => `(tactic| fail)
local macro_rules | `(tactic| walk_at "zz22") => `(tactic| fail)
local macro_rules | `(tactic| walk_at "zz23") => `(tactic| fail)
local macro_rules | `(tactic| walk_at "zz24") => `(tactic| fail)
local macro_rules | `(tactic| walk_at "zz25") => `(tactic| fail)
local macro_rules | `(tactic| walk_at "zz26") => `(tactic| fail)
local macro_rules | `(tactic| walk_at "zz27") => `(tactic| fail)
local macro_rules | `(tactic| walk_at "zz28") => `(tactic| fail)
local macro_rules | `(tactic| walk_at "zz29") => `(tactic| fail)
local macro_rules | `(tactic| k_all) => `(tactic| assumption)
local macro_rules | `(tactic| walk_at "pyIter ref") => `(tactic| refine Hold.of ?_)
local macro_rules | `(tactic| walk_at "call ref") => `(tactic| refine Hold.of ?_)
local macro_rules | `(tactic| walk_at "exec For") => `(tactic| (with_unfolding_all refine' For_run ?_))
local macro_rules | `(tactic| walk_at "exec For Name Call cons nil") => `(tactic| (with_unfolding_all refine' For_run ?_))
local macro_rules | `(tactic| walk_at "exec For Tuple Call cons nil") => `(tactic| (with_unfolding_all refine' For_run ?_))
local macro_rules | `(tactic| walk_at "getAttr ref") => `(tactic| (k_dflt (refine' get_own ?k1 ?k2 (inst_up ?k3 (Fr.keep ?k1)) ?k4 ?k5 ?k6 ?k7 ?k8 ?k9 ?_; (case k1 => k_asm); (case k2 => k_asm); (case k3 => k_asm); (case k4 => k_is); (case k5 => k_is); (case k6 => k_is); (case k7 => k_is); (case k8 => k_asm); (case k9 => k_handed); k_whole)))
local macro_rules | `(tactic| walk_at "eval Name") => `(tactic| ((with_reducible show wpAny _ _ (eval _ (envOfC _ _ _ _ _)) _ _ _); k_dflt (refine' nameX_L ?F ?v ?_ ?a ?b ?d; (case F => k_asm); (case v => rfl); (case a => kernel_rfl); (case b => kernel_rfl); (case d => kernel_rfl); k_whole)))
local macro_rules | `(tactic| walk_at "eval Name") => `(tactic| ((with_reducible show wpAny _ _ (eval _ (envOf _ _ _ _ _)) _ _ _); k_dflt (refine' ld ?k1 ?k2 ?_ ?k3 ?k4 ?k5; (case k1 => k_asm); (case k2 => exact rfl); (case k3 => kernel_rfl); (case k4 => kernel_rfl); (case k5 => kernel_rfl); k_whole)))
local macro_rules | `(tactic| walk_at "Turned") => `(tactic| first | refine Turned.ret ?_ | refine Turned.brk ?_)
local macro_rules | `(tactic| walk_at "go") => `(tactic| repeat' (first | (k_unfold; (try dsimp only)) | walk1 | (dsimp only; walk1) | (dsimp only; k_unfold; (try dsimp only))))
local macro_rules | `(tactic| walk_at "kf") => `(tactic| ((with_reducible show wpAny _ _ _ _ _ _); k_fold))
local macro_rules | `(tactic| walk_at "locals") => `(tactic| (intro y h1 h2; simp only [List.mem_cons, List.not_mem_nil, or_false, not_or] at h1 h2; simp [h1, h2]))
local macro_rules | `(tactic| walk_at "eval ListComp") => `(tactic| (k_dflt (refine ListComp_runF (by k_asm) (by with_unfolding_all rfl) (by rfl) (by decide) ?_)))
local macro_rules | `(tactic| walk_at "exec Assign cons ListComp") => `(tactic| (k_dflt (refine Assign_ListComp_runF (by k_asm) (by with_unfolding_all rfl) (by with_unfolding_all rfl) (by rfl) (by decide) (by rfl) (by rfl) (by rfl) ?_)))
local macro_rules | `(tactic| walk_at "sub") => `(tactic| first | exact List.forall_mem_nil _ | refine List.forall_mem_cons.mpr ⟨by k_mem, by walk_at "sub"⟩)
theorem sl_data {P : Params} {bd bi : Addr} {pa po : Value} {t1 t2 t3 t4 : Tok} : getL "data" (slEs P bd bi pa po t1 t2 t3 t4) = some (some (.ref bd)) := by rfl
theorem sl_items {P : Params} {bd bi : Addr} {pa po : Value} {t1 t2 t3 t4 : Tok} : getL "items" (slEs P bd bi pa po t1 t2 t3 t4) = some (some (.ref bi)) := by rfl
def SL (P : Params) (x : Addr) (pa po : Value) (vs : Array Value) (led : List (Addr × Obj)) : Prop :=
  ∃ dx bd bi its c c' t1 t2 t3 t4, led = [(x, instObj 557 dx), (dx, dictOf (slEs P bd bi pa po t1 t2 t3 t4) 4), (bd, listOf vs c), (bi, listOf its c')] ∧ its.size = vs.size ∧ @Ne Nat x dx ∧ @Ne Nat x bd ∧ @Ne Nat x bi ∧ @Ne Nat dx bd ∧ @Ne Nat dx bi ∧ @Ne Nat bd bi
theorem pick_cut {items : Array Value} {a b : Int} (ha : 0 ≤ a) (hab : a ≤ b) (hb : b ≤ items.size) : slicePick items (some a) (some b) none = items.extract a.toNat b.toNat := by
  rw [kmk_pick_nat items (a := a.toNat) (b := b.toNat) (by
    simp only [sliceBounds, Option.getD_none, show (1 : Int) > 0 by decide, if_true, if_neg (show ¬ (a < 0) by omega), if_neg (show ¬ (b < 0) by omega)]
    congr 1
    · omega
    · congr 1
      omega)]
  apply Array.ext'
  simp [List.extract_eq_take_drop]
theorem sl_part {prog : Program} {w : World} {s : Shared} {g : Heap} {mg mb : Str → Option Value} {p : Program} {loose : List Str} {self dx bd bi : Addr} {pa po : Value} {t1 t2 t3 t4 u1 u2 : Tok} {a b : Int} {vs ws : Array Value}
   (X : (hd.heap_39 w.params).In g) (T : TopRead p loose mg mb g) (S : St g s.heap [])
   (I : InstAt g self (instObj 557 dx) 557 (some (dictOf (slEs w.params bd bi pa po t1 t2 t3 t4) 4)))
   (hbd : g.IsList bd vs) (hbi : g.IsList bi ws) (hsz : vs.size = ws.size) (h64 : ws.size ≤ 64) (ha : 0 ≤ a) (hab : a < b) (hb : b ≤ ws.size) :
   codeAny (model prog w) (lv 890 4900) (.call (.ref 517) ⟨[.ref self, .int a u1, .int b u2], []⟩) (Back g s fun v led => ∃ x, v = .ref x ∧ SL w.params x (.ref self) (.int a u1) (vs.extract a.toNat b.toNat) led) s := by
  have hd1 := sl_data (P := w.params) (bd := bd) (bi := bi) (pa := pa) (po := po) (t1 := t1) (t2 := t2) (t3 := t3) (t4 := t4)
  have hd2 := sl_items (P := w.params) (bd := bd) (bi := bi) (pa := pa) (po := po) (t1 := t1) (t2 := t2) (t3 := t3) (t4 := t4)
  k_dflt (refine' enter (binds := [("self", .ref self), ("start", .int a u1), ("stop", .int b u2)]) X T S ?k6 ?k7 ?k8 ?k9 ?kB ?_ ?c2 ?c3 ?c4 ?c5; (case k6 => k_is); (case k7 => k_is); (case k8 => decide); (case k9 => exact BindsTo.of_eq rfl); (case kB => exact locs rfl); (case c5 => decide); (case c2 => rfl); (case c3 => rfl); (case c4 => rfl))
  intro L h₁ F N
  walk_at "kf"
  walk_at "go"
  rename Fr _ _ _ _ => F'
  rename News _ _ _ _ => N'
  refine Hold.out ?_
  have hb' : b ≤ vs.size := by omega
  rw [pick_cut ha (Int.le_of_lt hab) hb, pick_cut ha (Int.le_of_lt hab) hb'] at N'
  have z1 : (vs.extract a.toNat b.toNat).size = (ws.extract a.toNat b.toNat).size := by simp [hsz]
  have z2 : 0 < (ws.extract a.toNat b.toNat).size := by rw [Array.size_extract]; omega
  have z3 : (ws.extract a.toNat b.toNat).size ≤ 64 := by rw [Array.size_extract]; omega
  refine call_cls F' X N' (by k_is) (by k_is) (by k_is) ?_
  intro x dx' h₂ F₂ N₂ l1 l2
  refine use_call [(x, instObj 557 dx'), (dx', dictOf [] 0)] _ F₂ N₂ ?_ (fun g' st hr S' => lv_le (vl_init (X.keeps st) (T.keeps st) S' l2 ⟨_, hr _ (.tail _ (.head _)), rfl, _, rfl⟩ ⟨_, hr _ (.head _), rfl, _, rfl⟩ z1 z2 z3) rfl (Nat.le_of_ble_eq_true rfl) (Nat.le_of_ble_eq_true rfl)) ?_
  · intro q hq hm
    have := l1 q hq
    rcases List.mem_cons.mp hm with h | h
    · rw [h] at this; exact absurd (Nat.lt_trans this l2) (Nat.lt_irrefl _)
    · rw [List.mem_singleton.mp h] at this; exact absurd this (Nat.lt_irrefl _)
  · rintro v led h₃ tk ⟨rfl, bd', c, t1', t2', t3', t4', rfl, n1, n2⟩ F₃ N₃ hap
    refine ⟨rfl, ?_⟩
    walk_at "go"
    have k1 := hap _ (.head _) _ (.head _)
    have k2 := hap _ (.tail _ (.head _)) _ (.head _)
    have k3 := hap _ (.tail _ (.tail _ (.head _))) _ (.head _)
    exact Back.intro F₃ (news_sub N₃ (List.forall_mem_cons.mpr ⟨.head _, List.forall_mem_cons.mpr ⟨.tail _ (.head _), List.forall_mem_cons.mpr ⟨.tail _ (.tail _ (.head _)), List.forall_mem_cons.mpr ⟨.tail _ (.tail _ (.tail _ (.head _))), List.forall_mem_nil _⟩⟩⟩⟩)) ⟨x, rfl, dx', bd', _, _, c, _, t1', t2', t3', t4', rfl, z1.symm, Nat.ne_of_gt l2, Ne.symm n1, k1, Ne.symm n2, k2, k3⟩
end Mine
end P_part
section Gi_part
open PySem PySem.W PyProof.Rows PySem.Calls
namespace Mine
section
variable {prog : Program} {w : World} {A : Around} {E : Value → Shared → Prop} {s : Shared} {K : Frag} {x C f : Addr} {ox : Obj} {od : Option Obj}
theorem entry_subscript : entryFor table "lifetime.subscript" = some Builtin.«lifetime.subscript» := entryFor_of_tree (by kernel_rfl)
theorem inst_item {value slice : Expr} {i : Value} {oc : Value} {odd : Option Addr} {fd : FuncData} {sl : Array (Option Value)} {Q : Value → Shared → Prop} (X : K.In s.heap) (I : InstAt s.heap x ox C od) (hs : findIn K (.ref C) "__getitem__" = some (some (.ref f))) (hf : isFn K (.ref f) = true)
    (hfd : K.lookup f = some ⟨oc, odd, .func fd, sl⟩)
    (h : codeAny (model prog w) (A.under (.builtin "lifetime.subscript" ⟨[.ref x, i], []⟩)) (.call (.ref f) ⟨[.ref x, i], []⟩) (fun r s' => match r with | .ok (.ret v) => Q v s' | .ok _ => False | .error e => E e s') s)
    (hs' : subscripted slice true (.ref x) i = runValue (.builtin "lifetime.subscript" ⟨[.ref x, i], []⟩) := by with_unfolding_all rfl) :
    wpAny (model prog w) A (subscriptTail value slice (.ref x) i) Q E s := by
  unfold subscriptTail
  refine wpAny_bind ?_
  unfold getitemInPython
  refine wpAny_bind (wpAny_bind (I.type.here ((looks_findIn X hs).here ?_)))
  dsimp only
  refine wpAny_bind (wpAny_load (X _ _ hfd) ?_)
  refine wpAny_pure (wpAny_bind ?_)
  dsimp only
  rw [hs']
  refine wpAny_runValue (codeAny_builtin entry_subscript ?_)
  unfold Builtin.«lifetime.subscript»
  show wpAny _ _ (callSpecial? (.ref x) "__getitem__" [i] >>= _) _ _ _
  refine wpAny_bind (special_fn X I hs (beq_iff_eq.mp hf) (wpAny_call (codeAny_mono h fun r s' hr => ?_)))
  cases r with
  | error e => exact hr
  | ok fl =>
    cases fl with
    | ret v => exact wpAny_pure (wpAny_bind (wpAny_letTemporaryGo (wpAny_pure hr)))
    | next => exact hr
    | brk => exact hr
    | cont => exact hr
theorem subTail {value slice : Expr} {o i : Value} {T id : String} {Q : Value → Shared → Prop} (hT : s.TypeIs o T)
    (hl : typeLookup (.type T) "__getitem__" = pure (some (.builtin id))) (h : wpAny (model prog w) A (getItem o i) Q E s)
    (hs : subscripted slice false o i = operate [o, i] (getItem o i) := by with_unfolding_all rfl) :
    wpAny (model prog w) A (subscriptTail value slice o i) Q E s := by
  unfold subscriptTail
  refine wpAny_bind ?_
  rw [getitemInPython_of_ne hT.not_modules]
  refine wpAny_bind (wpAny_specialOf hT hl ?_)
  have fin : wpAny (model prog w) A (subscripted slice false o i) (fun r s₃ => wpAny (model prog w) A (letTemporaryGo value o r >>= fun _ => pure r) Q E s₃) E s := by
    rw [hs]
    exact wpAny_operating (wpAny_mono h (fun r s₃ h₃ => wpAny_bind (wpAny_letTemporaryGo (wpAny_pure h₃))) fun _ _ x => x)
  first
    | exact wpAny_pure (wpAny_bind fin)
    | exact wpAny_bind (wpAny_pure (wpAny_bind fin))
    | exact wpAny_bind fin
theorem item_listT {value slice : Expr} {l : Addr} {items : Array Value} {k : Int} {u : Tok} {x : Value} {Q : Value → Shared → Prop} (hl : s.heap.IsList l items)
    (h0 : 0 ≤ k) (hfit : k < 2 ^ 63) (hx : items[k.toNat]? = some x) (h : Q x s)
    (hs : subscripted slice false (.ref l) (.int k u) = operate [.ref l, .int k u] (getItem (.ref l) (.int k u)) := by with_unfolding_all rfl) :
    wpAny (model prog w) A (subscriptTail value slice (.ref l) (.int k u)) Q E s :=
  subTail hl.typeIs slot_list_getitem.lookup (wpAny_getItem_list hl h0 hfit hx h) hs
end
end Mine
namespace Mine
def Apart (nc rest : List (Addr × Obj)) : Prop := ∀ q ∈ rest, ∀ p ∈ nc, @Ne Nat q.1 p.1
theorem Apart.nd {nc rest : List (Addr × Obj)} (h : Apart nc rest) : ∀ q ∈ rest, q.1 ∉ nc.map (·.1) := fun q hq hm => by
  obtain ⟨p, hp, e⟩ := List.mem_map.mp hm
  exact h q hq p hp e.symm
theorem Apart.nil {nc : List (Addr × Obj)} : Apart nc [] := fun _ h => nomatch h
theorem Apart.cons {nc rest : List (Addr × Obj)} {a : Addr} {o : Obj} (h : ∀ p ∈ nc, @Ne Nat a p.1) (r : Apart nc rest) : Apart nc ((a, o) :: rest) := List.forall_mem_cons.mpr ⟨h, r⟩
theorem apart_nil {a : Addr} : ∀ p ∈ ([] : List (Addr × Obj)), @Ne Nat a p.1 := fun _ h => nomatch h
theorem apart_cons {a b : Addr} {o : Obj} {nc : List (Addr × Obj)} (h : @Ne Nat a b) (r : ∀ p ∈ nc, @Ne Nat a p.1) : ∀ p ∈ (b, o) :: nc, @Ne Nat a p.1 := List.forall_mem_cons.mpr ⟨h, r⟩
end Mine
end Gi_part
section SM_part
open PySem PySem.W PyProof.Rows PySem.Calls
namespace Mine
local macro_rules | `(tactic| k_all) => `(tactic| assumption)
local macro_rules | `(tactic| walk_at "pyIter ref") => `(tactic| refine Hold.of ?_)
local macro_rules | `(tactic| walk_at "call ref") => `(tactic| refine Hold.of ?_)
local macro_rules | `(tactic| walk_at "exec For") => `(tactic| (with_unfolding_all refine' For_run ?_))
local macro_rules | `(tactic| walk_at "exec For Name Call cons nil") => `(tactic| (with_unfolding_all refine' For_run ?_))
local macro_rules | `(tactic| walk_at "exec For Tuple Call cons nil") => `(tactic| (with_unfolding_all refine' For_run ?_))
local macro_rules | `(tactic| walk_at "getAttr ref") => `(tactic| (k_dflt (refine' get_own ?k1 ?k2 (inst_up ?k3 (Fr.keep ?k1)) ?k4 ?k5 ?k6 ?k7 ?k8 ?k9 ?_; (case k1 => k_asm); (case k2 => k_asm); (case k3 => k_asm); (case k4 => k_is); (case k5 => k_is); (case k6 => k_is); (case k7 => k_is); (case k8 => k_asm); (case k9 => k_handed); k_whole)))
local macro_rules | `(tactic| walk_at "eval Name") => `(tactic| ((with_reducible show wpAny _ _ (eval _ (envOfC _ _ _ _ _)) _ _ _); k_dflt (refine' nameX_L ?F ?v ?_ ?a ?b ?d; (case F => k_asm); (case v => rfl); (case a => kernel_rfl); (case b => kernel_rfl); (case d => kernel_rfl); k_whole)))
local macro_rules | `(tactic| walk_at "eval Name") => `(tactic| ((with_reducible show wpAny _ _ (eval _ (envOf _ _ _ _ _)) _ _ _); k_dflt (refine' ld ?k1 ?k2 ?_ ?k3 ?k4 ?k5; (case k1 => k_asm); (case k2 => exact rfl); (case k3 => kernel_rfl); (case k4 => kernel_rfl); (case k5 => kernel_rfl); k_whole)))
local macro_rules | `(tactic| walk_at "Turned") => `(tactic| first | refine Turned.ret ?_ | refine Turned.brk ?_)
local macro_rules | `(tactic| walk_at "go") => `(tactic| repeat' (first | (k_unfold; (try dsimp only)) | walk1 | (dsimp only; walk1) | (dsimp only; k_unfold; (try dsimp only))))
local macro_rules | `(tactic| walk_at "kf") => `(tactic| ((with_reducible show wpAny _ _ _ _ _ _); k_fold))
local macro_rules | `(tactic| walk_at "locals") => `(tactic| (intro y h1 h2; simp only [List.mem_cons, List.not_mem_nil, or_false, not_or] at h1 h2; simp [h1, h2]))
local macro_rules | `(tactic| walk_at "eval ListComp") => `(tactic| (k_dflt (refine ListComp_runF (by k_asm) (by with_unfolding_all rfl) (by rfl) (by decide) ?_)))
local macro_rules | `(tactic| walk_at "exec Assign cons ListComp") => `(tactic| (k_dflt (refine Assign_ListComp_runF (by k_asm) (by with_unfolding_all rfl) (by with_unfolding_all rfl) (by rfl) (by decide) (by rfl) (by rfl) (by rfl) ?_)))
local macro_rules | `(tactic| walk_at "sub") => `(tactic| first | exact List.forall_mem_nil _ | refine List.forall_mem_cons.mpr ⟨by k_mem, by walk_at "sub"⟩)
local macro_rules | `(tactic| walk_at "lst") => `(tactic| first | exact lst_up (by assumption) (Fr.keep (by k_asm)) | exact lst_news (by k_asm) (by k_mem))
local macro_rules | `(tactic| walk_at "call builtin:len") => `(tactic| (k_dflt (refine' len_list ?l ?f ?_; (case l => walk_at "lst"); (case f => omega); k_whole)))
local macro_rules | `(tactic| walk_at "subscriptTail Attribute Name Name ref int") => `(tactic| (k_dflt (refine' item_listT ?l ?a ?b ?c ?_; (case l => walk_at "lst"); (case a => omega); (case b => omega); (case c => assumption); k_whole)))
theorem sl_len {prog : Program} {w : World} {s : Shared} {g : Heap} {mg mb : Str → Option Value} {p : Program} {loose : List Str} {self dx bd bi : Addr} {pa po : Value} {t1 t2 t3 t4 : Tok} {vs : Array Value}
   (X : (hd.heap_39 w.params).In g) (T : TopRead p loose mg mb g) (S : St g s.heap [])
   (I : InstAt g self (instObj 557 dx) 557 (some (dictOf (slEs w.params bd bi pa po t1 t2 t3 t4) 4)))
   (hbd : g.IsList bd vs) (h64 : vs.size ≤ 64) :
   codeAny (model prog w) (lv 900 5000) (.call (.ref 344) ⟨[.ref self], []⟩) (Back g s fun v led => ∃ t, v = .int vs.size t) s := by
  have hd1 := sl_data (P := w.params) (bd := bd) (bi := bi) (pa := pa) (po := po) (t1 := t1) (t2 := t2) (t3 := t3) (t4 := t4)
  k_dflt (refine' enter (binds := [("self", .ref self)]) X T S ?k6 ?k7 ?k8 ?k9 ?kB ?_ ?c2 ?c3 ?c4 ?c5; (case k6 => k_is); (case k7 => k_is); (case k8 => decide); (case k9 => exact BindsTo.of_eq rfl); (case kB => exact locs rfl); (case c5 => decide); (case c2 => rfl); (case c3 => rfl); (case c4 => rfl))
  intro L h₁ F N
  walk_at "kf"
  walk_at "go"
  rename Fr _ _ _ _ => F'
  exact Back.intro F' (led := []) (fun _ h => nomatch h) ⟨_, rfl⟩
theorem sl_item {prog : Program} {w : World} {s : Shared} {g : Heap} {mg mb : Str → Option Value} {p : Program} {loose : List Str} {self dx bd bi : Addr} {pa po : Value} {t1 t2 t3 t4 u : Tok} {vs : Array Value} {i : Int} {v : Value}
   (X : (hd.heap_39 w.params).In g) (T : TopRead p loose mg mb g) (S : St g s.heap [])
   (I : InstAt g self (instObj 557 dx) 557 (some (dictOf (slEs w.params bd bi pa po t1 t2 t3 t4) 4)))
   (hbd : g.IsList bd vs) (h64 : vs.size ≤ 64) (h0 : 0 ≤ i) (hi : i < vs.size) (hv : vs[i.toNat]? = some v) :
   codeAny (model prog w) (lv 900 5000) (.call (.ref 365) ⟨[.ref self, .int i u], []⟩) (Back g s fun r led => r = v) s := by
  have hd1 := sl_data (P := w.params) (bd := bd) (bi := bi) (pa := pa) (po := po) (t1 := t1) (t2 := t2) (t3 := t3) (t4 := t4)
  k_dflt (refine' enter (binds := [("self", .ref self), ("i", .int i u)]) X T S ?k6 ?k7 ?k8 ?k9 ?kB ?_ ?c2 ?c3 ?c4 ?c5; (case k6 => k_is); (case k7 => k_is); (case k8 => decide); (case k9 => exact BindsTo.of_eq rfl); (case kB => exact locs rfl); (case c5 => decide); (case c2 => rfl); (case c3 => rfl); (case c4 => rfl))
  intro L h₁ F N
  walk_at "kf"
  walk_at "go"
  rename Fr _ _ _ _ => F'
  exact Back.intro F' (led := []) (fun _ h => nomatch h) rfl
theorem sl_disc {prog : Program} {w : World} {s : Shared} {g : Heap} {mg mb : Str → Option Value} {p : Program} {loose : List Str} {self dx bd bi : Addr} {pa po : Value} {t1 t2 t3 t4 : Tok}
   (X : (hd.heap_39 w.params).In g) (T : TopRead p loose mg mb g) (S : St g s.heap [(self, instObj 557 dx), (dx, dictOf (slEs w.params bd bi pa po t1 t2 t3 t4) 4)]) (hxd : @Ne Nat self dx) :
   codeAny (model prog w) (lv 900 5000) (.call (.ref 489) ⟨[.ref self], []⟩) (Back g s fun r led => r = .none ∧ led = [(self, instObj 557 dx), (dx, dictOf (slEs w.params bd bi .none po t1 t2 t3 t4) 4)]) s := by
  k_dflt (refine' enter (binds := [("self", .ref self)]) X T S ?k6 ?k7 ?k8 ?k9 ?kB ?_ ?c2 ?c3 ?c4 ?c5; (case k6 => k_is); (case k7 => k_is); (case k8 => decide); (case k9 => exact BindsTo.of_eq rfl); (case kB => exact locs rfl); (case c5 => decide); (case c2 => rfl); (case c3 => rfl); (case c4 => rfl))
  intro L h₁ F N
  walk_at "kf"
  walk_at "go"
  rename Fr _ _ _ _ => F'
  rename News _ _ _ _ => N'
  exact Back.intro F' N' ⟨rfl, rfl⟩
end Mine
end SM_part
section SL2_part
open PySem PySem.W PyProof.Rows PySem.Calls
namespace Mine
local macro_rules | `(tactic| walk_at "zz0") => `(tactic| fail)
local macro_rules | `(tactic| walk_at "zz1") => `(tactic| fail)
local macro_rules | `(tactic| walk_at "zz2") => `(tactic| fail)
local macro_rules | `(tactic| walk_at "zz3") => `(tactic| fail)
local macro_rules | `(tactic| walk_at "zz4") => `(tactic| fail)
local macro_rules | `(tactic| walk_at "zz5") => `(tactic| fail)
local macro_rules | `(tactic| walk_at "zz6") => `(tactic| fail)
local macro_rules | `(tactic| walk_at "zz7") => `(tactic| fail)
local macro_rules | `(tactic| walk_at "zz8") => `(tactic| fail)
local macro_rules | `(tactic| walk_at "zz9") => `(tactic| fail)
local macro_rules | `(tactic| walk_at "zz10") => `(tactic| fail)
local macro_rules | `(tactic| walk_at "zz11") => `(tactic| fail)
local macro_rules | `(tactic| walk_at "zz12") => `(tactic| fail)
local macro_rules | `(tactic| walk_at "zz13") => `(tactic| fail)
local macro_rules | `(tactic| walk_at "zz14") => `(tactic| fail)
local macro_rules | `(tactic| walk_at "zz15") => `(tactic| fail)
local macro_rules | `(tactic| walk_at "zz16") => `(tactic| fail)
local macro_rules | `(tactic| walk_at "zz17") => `(tactic| fail)
local macro_rules | `(tactic| walk_at "zz18") => `(tactic| fail)
local macro_rules | `(tactic| walk_at "zz19") => `(tactic| fail)
local macro_rules | `(tactic| walk_at "zz20") => `(tactic| fail)
local macro_rules | `(tactic| walk_at "zz21") => `(tactic| fail)
local macro_rules | `(tactic| walk_at "zz22") => `(tactic| fail)
local macro_rules | `(tactic| walk_at "zz23") => `(tactic| fail)
local macro_rules | `(tactic| walk_at "zz24") => `(tactic| fail)
local macro_rules | `(tactic| walk_at "zz25") => `(tactic| fail)
local macro_rules | `(tactic| walk_at "zz26") => `(tactic| fail)
local macro_rules | `(tactic| walk_at "zz27") => `(tactic| fail)
local macro_rules | `(tactic| walk_at "zz28") => `(tactic| fail)
local macro_rules | `(tactic| walk_at "zz29") => `(tactic| fail)
local macro_rules | `(tactic| k_all) => `(tactic| assumption)
local macro_rules | `(tactic| walk_at "pyIter ref") => `(tactic| refine Hold.of ?_)
local macro_rules | `(tactic| walk_at "call ref") => `(tactic| refine Hold.of ?_)
local macro_rules | `(tactic| walk_at "exec For") => `(tactic| (with_unfolding_all refine' For_run ?_))
local macro_rules | `(tactic| walk_at "exec For Name Call cons nil") => `(tactic| (with_unfolding_all refine' For_run ?_))
local macro_rules | `(tactic| walk_at "exec For Tuple Call cons nil") => `(tactic| (with_unfolding_all refine' For_run ?_))
local macro_rules | `(tactic| walk_at "getAttr ref") => `(tactic| (k_dflt (refine' get_own ?k1 ?k2 (inst_up ?k3 (Fr.keep ?k1)) ?k4 ?k5 ?k6 ?k7 ?k8 ?k9 ?_; (case k1 => k_asm); (case k2 => k_asm); (case k3 => k_asm); (case k4 => k_is); (case k5 => k_is); (case k6 => k_is); (case k7 => k_is); (case k8 => k_asm); (case k9 => k_handed); k_whole)))
local macro_rules | `(tactic| walk_at "eval Name") => `(tactic| ((with_reducible show wpAny _ _ (eval _ (envOfC _ _ _ _ _)) _ _ _); k_dflt (refine' nameX_L ?F ?v ?_ ?a ?b ?d; (case F => k_asm); (case v => rfl); (case a => kernel_rfl); (case b => kernel_rfl); (case d => kernel_rfl); k_whole)))
local macro_rules | `(tactic| walk_at "eval Name") => `(tactic| ((with_reducible show wpAny _ _ (eval _ (envOf _ _ _ _ _)) _ _ _); k_dflt (refine' ld ?k1 ?k2 ?_ ?k3 ?k4 ?k5; (case k1 => k_asm); (case k2 => exact rfl); (case k3 => kernel_rfl); (case k4 => kernel_rfl); (case k5 => kernel_rfl); k_whole)))
local macro_rules | `(tactic| walk_at "Turned") => `(tactic| first | refine Turned.ret ?_ | refine Turned.brk ?_)
local macro_rules | `(tactic| walk_at "go") => `(tactic| repeat' (first | (k_unfold; (try dsimp only)) | walk1 | (dsimp only; walk1) | (dsimp only; k_unfold; (try dsimp only))))
local macro_rules | `(tactic| walk_at "kf") => `(tactic| ((with_reducible show wpAny _ _ _ _ _ _); k_fold))
local macro_rules | `(tactic| walk_at "locals") => `(tactic| (intro y h1 h2; simp only [List.mem_cons, List.not_mem_nil, or_false, not_or] at h1 h2; simp [h1, h2]))
local macro_rules | `(tactic| walk_at "eval ListComp") => `(tactic| (k_dflt (refine ListComp_runF (by k_asm) (by with_unfolding_all rfl) (by rfl) (by decide) ?_)))
local macro_rules | `(tactic| walk_at "exec Assign cons ListComp") => `(tactic| (k_dflt (refine Assign_ListComp_runF (by k_asm) (by with_unfolding_all rfl) (by with_unfolding_all rfl) (by rfl) (by decide) (by rfl) (by rfl) (by rfl) ?_)))
local macro_rules | `(tactic| walk_at "sub") => `(tactic| first | exact List.forall_mem_nil _ | refine List.forall_mem_cons.mpr ⟨by k_mem, by walk_at "sub"⟩)
local macro_rules | `(tactic| walk_at "hnd1") => `(tactic| first | exact apart_nil | refine apart_cons (by k_ne) (by walk_at "hnd1"))
local macro_rules | `(tactic| walk_at "hnd2") => `(tactic| first | exact Apart.nil | refine Apart.cons (by walk_at "hnd1") (by walk_at "hnd2"))
local macro_rules | `(tactic| walk_at "hnd") => `(tactic| exact Apart.nd (by walk_at "hnd2"))
section
variable {prog : Program} {w : World} {A : Around} {E : Value → Shared → Prop} {s : Shared} {g : Heap} {L : Addr} {m mg mb : Str → Option Value} {p : Program} {loose : List Str} {news : List (Addr × Obj)} {blk dxb bd bi : Addr} {pa po : Value} {t1 t2 t3 t4 : Tok} {vs : Array Value} {Q : Value → Shared → Prop}
theorem len_sl (F : Fr g L s.heap m) (N : News g L s.heap news) (X : (hd.heap_39 w.params).In g) (T : TopRead p loose mg mb g) (I : InstAt g blk (instObj 557 dxb) 557 (some (dictOf (slEs w.params bd bi pa po t1 t2 t3 t4) 4)))
    (hbd : g.IsList bd vs) (h64 : vs.size ≤ 64) (a1 : A.in1.handled = none) (a2 : A.in1.depth ≤ 900) (a3 : A.in1.units ≤ 5000)
    (h : ∀ h' tk t, Fr g L h' m → News g L h' news → Q (.int vs.size t) { s with heap := h', toks := tk }) : wpAny (model prog w) A (call (.builtin "len") [.ref blk]) Q E s := by
  refine len_K F X (inst_up I F.keep) (by k_is) (by k_is) (wpAny_call (use_call [] _ F N (by simp) (fun g' st hr S' => lv_le (sl_len (X.keeps st) (T.keeps st) S' (inst_up I st) (lst_up hbd st) (by omega)) a1 a2 a3) ?_))
  rintro v led h' tk ⟨t, rfl⟩ F' N' hap
  exact ⟨⟨by omega, by omega⟩, h h' (tk + 1) tk F' (news_sub N' fun q hq => List.mem_append_right _ hq)⟩
theorem item_sl {value slice : Expr} {i : Int} {u : Tok} {v : Value} (F : Fr g L s.heap m) (N : News g L s.heap news) (X : (hd.heap_39 w.params).In g) (T : TopRead p loose mg mb g) (I : InstAt g blk (instObj 557 dxb) 557 (some (dictOf (slEs w.params bd bi pa po t1 t2 t3 t4) 4)))
    (hbd : g.IsList bd vs) (h64 : vs.size ≤ 64) (h0 : 0 ≤ i) (hi : i < vs.size) (hv : vs[i.toNat]? = some v) (a1 : (A.under (.builtin "lifetime.subscript" ⟨[.ref blk, .int i u], []⟩)).handled = none) (a2 : (A.under (.builtin "lifetime.subscript" ⟨[.ref blk, .int i u], []⟩)).depth ≤ 900) (a3 : (A.under (.builtin "lifetime.subscript" ⟨[.ref blk, .int i u], []⟩)).units ≤ 5000)
    (h : ∀ h' tk, Fr g L h' m → News g L h' news → Q v { s with heap := h', toks := tk }) (hs' : subscripted slice true (.ref blk) (.int i u) = runValue (.builtin "lifetime.subscript" ⟨[.ref blk, .int i u], []⟩) := by with_unfolding_all rfl) : wpAny (model prog w) A (subscriptTail value slice (.ref blk) (.int i u)) Q E s := by
  refine inst_item (X.keeps F.keep) (inst_up I F.keep) (f := 365) (by k_is) (by k_is) (by k_is) (use_call [] _ F N (by simp) (fun g' st hr S' => lv_le (sl_item (X.keeps st) (T.keeps st) S' (inst_up I st) (lst_up hbd st) h64 h0 hi hv) a1 a2 a3) ?_) hs'
  rintro v' led h' tk rfl F' N' hap
  exact h h' tk F' (news_sub N' fun q hq => List.mem_append_right _ hq)
end
end Mine
end SL2_part
section S_part
open PySem PySem.W PyProof.Rows PySem.Calls
namespace Mine
local macro_rules | `(tactic| k_all) => `(tactic| assumption)
local macro_rules | `(tactic| walk_at "pyIter ref") => `(tactic| refine Hold.of ?_)
local macro_rules | `(tactic| walk_at "call ref") => `(tactic| refine Hold.of ?_)
local macro_rules | `(tactic| walk_at "exec For") => `(tactic| (with_unfolding_all refine' For_run ?_))
local macro_rules | `(tactic| walk_at "exec For Name Call cons nil") => `(tactic| (with_unfolding_all refine' For_run ?_))
local macro_rules | `(tactic| walk_at "exec For Tuple Call cons nil") => `(tactic| (with_unfolding_all refine' For_run ?_))
local macro_rules | `(tactic| walk_at "getAttr ref") => `(tactic| (k_dflt (refine' get_own ?k1 ?k2 (inst_up ?k3 (Fr.keep ?k1)) ?k4 ?k5 ?k6 ?k7 ?k8 ?k9 ?_; (case k1 => k_asm); (case k2 => k_asm); (case k3 => k_asm); (case k4 => k_is); (case k5 => k_is); (case k6 => k_is); (case k7 => k_is); (case k8 => k_asm); (case k9 => k_handed); k_whole)))
local macro_rules | `(tactic| walk_at "eval Name") => `(tactic| ((with_reducible show wpAny _ _ (eval _ (envOfC _ _ _ _ _)) _ _ _); k_dflt (refine' nameX_L ?F ?v ?_ ?a ?b ?d; (case F => k_asm); (case v => rfl); (case a => kernel_rfl); (case b => kernel_rfl); (case d => kernel_rfl); k_whole)))
local macro_rules | `(tactic| walk_at "eval Name") => `(tactic| ((with_reducible show wpAny _ _ (eval _ (envOf _ _ _ _ _)) _ _ _); k_dflt (refine' ld ?k1 ?k2 ?_ ?k3 ?k4 ?k5; (case k1 => k_asm); (case k2 => exact rfl); (case k3 => kernel_rfl); (case k4 => kernel_rfl); (case k5 => kernel_rfl); k_whole)))
local macro_rules | `(tactic| walk_at "Turned") => `(tactic| first | refine Turned.ret ?_ | refine Turned.brk ?_)
local macro_rules | `(tactic| walk_at "go") => `(tactic| repeat' (first | (k_unfold; (try dsimp only)) | walk1 | (dsimp only; walk1) | (dsimp only; k_unfold; (try dsimp only))))
local macro_rules | `(tactic| walk_at "kf") => `(tactic| ((with_reducible show wpAny _ _ _ _ _ _); k_fold))
local macro_rules | `(tactic| walk_at "locals") => `(tactic| (intro y h1 h2; simp only [List.mem_cons, List.not_mem_nil, or_false, not_or] at h1 h2; simp [h1, h2]))
local macro_rules | `(tactic| walk_at "eval ListComp") => `(tactic| (k_dflt (refine ListComp_runF (by k_asm) (by with_unfolding_all rfl) (by rfl) (by decide) ?_)))
local macro_rules | `(tactic| walk_at "exec Assign cons ListComp") => `(tactic| (k_dflt (refine Assign_ListComp_runF (by k_asm) (by with_unfolding_all rfl) (by with_unfolding_all rfl) (by rfl) (by decide) (by rfl) (by rfl) (by rfl) ?_)))
local macro_rules | `(tactic| walk_at "sub") => `(tactic| first | exact List.forall_mem_nil _ | refine List.forall_mem_cons.mpr ⟨by k_mem, by walk_at "sub"⟩)
local macro_rules | `(tactic| walk_at "hnd1") => `(tactic| first | exact apart_nil | refine apart_cons (by k_ne) (by walk_at "hnd1"))
local macro_rules | `(tactic| walk_at "hnd2") => `(tactic| first | exact Apart.nil | refine Apart.cons (by walk_at "hnd1") (by walk_at "hnd2"))
local macro_rules | `(tactic| walk_at "hnd") => `(tactic| exact Apart.nd (by walk_at "hnd2"))
local macro_rules | `(tactic| walk_at "getMethod ref") => `(tactic| (k_dflt (refine' method_inst ?k1 ?k2 (inst_up ?k3 (Fr.keep ?k1)) ?k4 ?k5 ?k6 ?k7 ?_; (case k1 => k_asm); (case k2 => k_asm); (case k3 => k_asm); (case k4 => k_is); (case k5 => k_is); (case k6 => k_is); (case k7 => first | rfl | k_asm); k_whole)))
local macro_rules | `(tactic| walk_at "call builtin:len") => `(tactic| (k_dflt (refine' len_sl ?F ?N ?X ?T ?I ?h ?z rfl (Nat.le_of_ble_eq_true rfl) (Nat.le_of_ble_eq_true rfl) ?_; (case F => k_asm); (case N => k_asm); (case X => k_asm); (case T => k_asm); (case I => assumption); (case h => assumption); (case z => omega)); intro h' tk' t' F' N'))
local macro_rules | `(tactic| walk_at "call builtin:len") => `(tactic| refine len_strR ?_)
local macro_rules | `(tactic| walk_at "subscriptTail Name Constant ref int") => `(tactic| (k_dflt (refine' item_sl ?F ?N ?X ?T ?I ?h ?z ?a ?b ?c rfl (Nat.le_of_ble_eq_true rfl) (Nat.le_of_ble_eq_true rfl) ?_; (case F => k_asm); (case N => k_asm); (case X => k_asm); (case T => k_asm); (case I => assumption); (case h => assumption); (case z => omega); (case a => omega); (case b => omega); (case c => assumption)); intro h' tk' F' N'))
local macro_rules | `(tactic| walk_at "eval Dict") => `(tactic| ((with_reducible refine' kdn_int ?q ?F ?N ?T ?a ?l ?e ?n ?_); k_dflt ((case T => exact TopRead.nolimit (by k_asm)); (case q => rfl); (case F => k_asm); (case N => k_asm); (case a => rfl); (case l => rfl); (case e => exact List.cons_ne_nil _ _); (case n => exact Nat.le_of_ble_eq_true rfl)); intro d' h' o' F' N' l1 lo' hd'; (try k_lt l1)))
theorem inst_news {h₀ h : Heap} {L x dx C : Addr} {news : List (Addr × Obj)} {o : Obj} (N : News h₀ L h news) (h1 : (x, instObj C dx) ∈ news) (h2 : (dx, o) ∈ news) : InstAt h x (instObj C dx) C (some o) := ⟨(N _ h1).1, rfl, rfl, (N _ h2).1⟩
def Sep : List (Addr × Obj) → Prop
  | [] => True
  | q :: r => (∀ p ∈ r, @Ne Nat q.1 p.1) ∧ Sep r
theorem Sep.nil : Sep [] := trivial
theorem Sep.cons {a : Addr} {o : Obj} {r : List (Addr × Obj)} (h : ∀ p ∈ r, @Ne Nat a p.1) (t : Sep r) : Sep ((a, o) :: r) := ⟨h, t⟩
local macro_rules | `(tactic| walk_at "sep") => `(tactic| first | exact Sep.nil | refine Sep.cons (by walk_at "hnd1") (by walk_at "sep"))
def gpEs (P : Params) (blk : Addr) (H W : Int) (dn cl rs cs : Addr) (b1 b2 t1 t2 t3 t4 t5 t6 t7 t8 : Tok) : List DictEntry :=
  [⟨PyData.keyHash P "block", .str "block" t1, .ref blk⟩, ⟨PyData.keyHash P "bottom", .str "bottom" t2, .int (H - 1) b1⟩, ⟨PyData.keyHash P "right", .str "right" t3, .int (W - 1) b2⟩, ⟨PyData.keyHash P "head_body_sep", .str "head_body_sep" t4, .none⟩,
   ⟨PyData.keyHash P "done", .str "done" t5, .ref dn⟩, ⟨PyData.keyHash P "cells", .str "cells" t6, .ref cl⟩, ⟨PyData.keyHash P "rowseps", .str "rowseps" t7, .ref rs⟩, ⟨PyData.keyHash P "colseps", .str "colseps" t8, .ref cs⟩]
def SetUp (prog : Program) (w : World) (self dx : Addr) (vs : Array Value) (W : Nat) (led : List (Addr × Obj)) : Prop :=
  ∃ l2 cs l1 rs cl dn x dx2 bd2 bi2 a1 a2 o1 o2 ds its c c' po u1 u2 u3 u4 b1 b2 t1 t2 t3 t4 t5 t6 t7 t8,
    led = [(l2, listOf #[.int 0 a2] 0), (cs, o2), (l1, listOf #[.int 0 a1] 0), (rs, o1), (cl, listOf #[] 0), (dn, listOf (List.toArray ds) 0), (x, instObj 557 dx2), (dx2, dictOf (slEs w.params bd2 bi2 .none po u1 u2 u3 u4) 4), (bd2, listOf vs c), (bi2, listOf its c'), (self, instObj 245 dx), (dx, dictOf (gpEs w.params x vs.size W dn cl rs cs b1 b2 t1 t2 t3 t4 t5 t6 t7 t8) 8)] ∧
    Sep led ∧ o1.IsDictOf (intKind prog w) [(0, .ref l1)] ∧ o2.IsDictOf (intKind prog w) [(0, .ref l2)] ∧ (rs == sysModules) = false ∧ (cs == sysModules) = false ∧ IntsAre ds (List.replicate W (-1)) ∧ its.size = vs.size
theorem setup_back {prog : Program} {w : World} {g h' : Heap} {L : Addr} {m : Str → Option Value} {s : Shared} {tk W : Nat} {self dx : Addr} {vs : Array Value}
    {l2 cs l1 rs cl dn x dx2 bd2 bi2 : Addr} {a1 a2 : Tok} {o1 o2 : Obj} {ds : List Value} {ns : List Int} {its : Array Value} {c c' : Nat} {po : Value} {u1 u2 u3 u4 b1 b2 t1 t2 t3 t4 t5 t6 t7 t8 : Tok} {junk : Addr × Obj}
    (F : Fr g L h' m) (N : News g L h' [(l2, listOf #[.int 0 a2] 0), (cs, o2), (l1, listOf #[.int 0 a1] 0), (rs, o1), (cl, listOf #[] 0), (dn, listOf (List.toArray ds) 0), junk, (x, instObj 557 dx2), (dx2, dictOf (slEs w.params bd2 bi2 .none po u1 u2 u3 u4) 4), (bd2, listOf vs c), (bi2, listOf its c'), (self, instObj 245 dx), (dx, dictOf (gpEs w.params x vs.size W dn cl rs cs b1 b2 t1 t2 t3 t4 t5 t6 t7 t8) 8)])
    (hs : Sep [(l2, listOf #[.int 0 a2] 0), (cs, o2), (l1, listOf #[.int 0 a1] 0), (rs, o1), (cl, listOf #[] 0), (dn, listOf (List.toArray ds) 0), (x, instObj 557 dx2), (dx2, dictOf (slEs w.params bd2 bi2 .none po u1 u2 u3 u4) 4), (bd2, listOf vs c), (bi2, listOf its c'), (self, instObj 245 dx), (dx, dictOf (gpEs w.params x vs.size W dn cl rs cs b1 b2 t1 t2 t3 t4 t5 t6 t7 t8) 8)])
    (h1 : o1.IsDictOf (intKind prog w) [(0, .ref l1)]) (h2 : o2.IsDictOf (intKind prog w) [(0, .ref l2)]) (m1 : (rs == sysModules) = false) (m2 : (cs == sysModules) = false) (hi : IntsAre ds ns) (hns : ns = List.replicate W (-1)) (hz : its.size = vs.size) :
    Back g s (fun v led => v = .none ∧ SetUp prog w self dx vs W led) (.ok (.ret .none)) { s with heap := h', toks := tk } :=
  Back.intro F (news_sub N fun q hq => by
    simp only [List.mem_cons, List.not_mem_nil, or_false] at hq ⊢
    rcases hq with h | h | h | h | h | h | h | h | h | h | h | h <;> simp only [h, true_or, or_true]) ⟨rfl, _, _, _, _, _, _, _, _, _, _, _, _, _, _, _, _, _, _, _, _, _, _, _, _, _, _, _, _, _, _, _, _, _, rfl, hs, h1, h2, m1, m2, hns ▸ hi, hz⟩
theorem rep_flat (n : Nat) (a : Int) : (List.replicate n [a]).flatten = List.replicate n a := by
  induction n with
  | zero => rfl
  | succ n ih => rw [List.replicate_succ, List.flatten_cons, ih, List.replicate_succ]; rfl
theorem setup_walk {prog : Program} {w : World} {s : Shared} {g : Heap} {mg mb : Str → Option Value} {p : Program} {loose : List Str} {self dx blk dxb bd bi : Addr} {pa po : Value} {t1 t2 t3 t4 : Tok} {vs ws : Array Value} {r0 : Str} {t0 : Tok}
   (X : (hd.heap_39 w.params).In g) (T : TopRead p loose mg mb g) (S : St g s.heap [(self, instObj 245 dx), (dx, dictOf [] 0)]) (hxd : dx < self)
   (I : InstAt g blk (instObj 557 dxb) 557 (some (dictOf (slEs w.params bd bi pa po t1 t2 t3 t4) 4)))
   (hbd : g.IsList bd vs) (hbi : g.IsList bi ws) (hsz : vs.size = ws.size) (h64 : ws.size ≤ 64) (h0 : vs[0]? = some (.str r0 t0)) (hr0 : r0.length ≤ 64) :
   codeAny (model prog w) (lv 880 4800) (.call (.ref 183) ⟨[.ref self, .ref blk], []⟩) (Back g s fun v led => v = .none ∧ SetUp prog w self dx vs r0.length led) s := by
  have hpos : 0 < vs.size := by
    rcases Nat.eq_zero_or_pos vs.size with h | h
    · rw [Array.getElem?_eq_none (by omega)] at h0; cases h0
    · exact h
  k_dflt (refine' enter (binds := [("self", .ref self), ("block", .ref blk)]) X T S ?k6 ?k7 ?k8 ?k9 ?kB ?_ ?c2 ?c3 ?c4 ?c5; (case k6 => k_is); (case k7 => k_is); (case k8 => decide); (case k9 => exact BindsTo.of_eq rfl); (case kB => exact locs rfl); (case c5 => decide); (case c2 => rfl); (case c3 => rfl); (case c4 => rfl))
  intro L h₁ F N
  replace hxd := ltN hxd
  walk_at "kf"
  walk_at "go"
  rename Fr _ _ _ _ => F'
  rename News _ _ _ _ => N'
  refine Hold.out (wpAny_call (use_call [] _ F' N' (by simp) (fun g' st hr S' => lv_le (sl_part (X.keeps st) (T.keeps st) S' (inst_up I st) (lst_up hbd st) (lst_up hbi st) hsz h64 (by omega) (by omega) (by omega)) rfl (Nat.le_of_ble_eq_true rfl) (Nat.le_of_ble_eq_true rfl)) ?_))
  rintro v led h₂ tk₂ ⟨x, rfl, dx2, bd2, bi2, its, c, c', u1, u2, u3, u4, rfl, hits, n1, n2, n3, n4, n5, n6⟩ F₂ N₂ hap₂
  have m1 := neN (hap₂ _ (.head _) _ (.head _))
  have m2 := neN (hap₂ _ (.head _) _ (.tail _ (.head _)))
  have m3 := neN (hap₂ _ (.tail _ (.head _)) _ (.head _))
  have m4 := neN (hap₂ _ (.tail _ (.head _)) _ (.tail _ (.head _)))
  have m5 := neN (hap₂ _ (.tail _ (.tail _ (.head _))) _ (.head _))
  have m6 := neN (hap₂ _ (.tail _ (.tail _ (.head _))) _ (.tail _ (.head _)))
  have m7 := neN (hap₂ _ (.tail _ (.tail _ (.tail _ (.head _)))) _ (.head _))
  have m8 := neN (hap₂ _ (.tail _ (.tail _ (.tail _ (.head _)))) _ (.tail _ (.head _)))
  clear F' N' hap₂
  have ex : vs.extract (Int.toNat 0) (vs.size : Int).toNat = vs := by simp
  rw [ex] at hits N₂
  simp only [List.cons_append, List.nil_append] at N₂
  dsimp only at m1 m2 m3 m4 m5 m6 m7 m8
  walk_at "go"
  rename Fr _ _ _ _ => F'
  rename News _ _ _ _ => N'
  refine Hold.out (wpAny_call (use_call [_, _] _ F' N' (by walk_at "hnd") (fun g' st hr S' => lv_le (sl_disc (X.keeps st) (T.keeps st) S' n1) rfl (Nat.le_of_ble_eq_true rfl) (Nat.le_of_ble_eq_true rfl)) ?_))
  rintro v led h₃ tk₃ ⟨rfl, rfl⟩ F₃ N₃ -
  clear F' N'
  simp only [List.cons_append, List.nil_append] at N₃
  walk_at "go"
  rename Fr _ _ _ _ => F'
  rename News _ _ _ _ => N'
  rename IntsAre _ _ => hI
  refine setup_back F' N' (by walk_at "sep") (by assumption) (by assumption) (by assumption) (by assumption) hI ?_ hits
  rw [rep_flat]
  simp
end Mine
end S_part
section F_part
open PySem PySem.W PyProof.Rows PySem.Calls
namespace Mine
local macro_rules | `(tactic| walk_at "zz0") => `(tactic| fail)
local macro_rules | `(tactic| walk_at "zz1") => `(tactic| fail)
local macro_rules | `(tactic| walk_at "zz2") => `(tactic| fail)
local macro_rules | `(tactic| walk_at "zz3") => `(tactic| fail)
local macro_rules | `(tactic| walk_at "zz4") => `(tactic| fail)
local macro_rules | `(tactic| walk_at "zz5") => `(tactic| fail)
local macro_rules | `(tactic| walk_at "zz6") => `(tactic| fail)
local macro_rules | `(tactic| walk_at "zz7") => `(tactic| fail)
local macro_rules | `(tactic| walk_at "zz8") => `(tactic| fail)
local macro_rules | `(tactic| walk_at "zz9") => `(tactic| fail)
local macro_rules | `(tactic| walk_at "zz10") => `(tactic| fail)
local macro_rules | `(tactic| walk_at "zz11") => `(tactic| fail)
local macro_rules | `(tactic| walk_at "zz12") => `(tactic| fail)
local macro_rules | `(tactic| walk_at "zz13") => `(tactic| fail)
local macro_rules | `(tactic| walk_at "zz14") => `(tactic| fail)
local macro_rules | `(tactic| walk_at "zz15") => `(tactic| fail)
local macro_rules | `(tactic| walk_at "zz16") => `(tactic| fail)
local macro_rules | `(tactic| walk_at "zz17") => `(tactic| fail)
local macro_rules | `(tactic| walk_at "zz18") => `(tactic| fail)
local macro_rules | `(tactic| walk_at "zz19") => `(tactic| fail)
local macro_rules | `(tactic| walk_at "zz20") => `(tactic| fail)
local macro_rules | `(tactic| walk_at "zz21") => `(tactic| fail)
local macro_rules | `(tactic| walk_at "zz22") => `(tactic| fail)
local macro_rules | `(tactic| walk_at "zz23") => `(tactic| fail)
local macro_rules | `(tactic| walk_at "zz24") => `(tactic| fail)
local macro_rules | `(tactic| walk_at "zz25") => `(tactic| fail)
local macro_rules | `(tactic| walk_at "zz26") => `(tactic| fail)
local macro_rules | `(tactic| walk_at "zz27") => `(tactic| fail)
local macro_rules | `(tactic| walk_at "zz28") => `(tactic| fail)
local macro_rules | `(tactic| walk_at "zz29") => `(tactic| fail)
local macro_rules | `(tactic| k_all) => `(tactic| assumption)
local macro_rules | `(tactic| walk_at "pyIter ref") => `(tactic| refine Hold.of ?_)
local macro_rules | `(tactic| walk_at "call ref") => `(tactic| refine Hold.of ?_)
local macro_rules | `(tactic| walk_at "exec For") => `(tactic| (with_unfolding_all refine' For_run ?_))
local macro_rules | `(tactic| walk_at "exec For Name Call cons nil") => `(tactic| (with_unfolding_all refine' For_run ?_))
local macro_rules | `(tactic| walk_at "exec For Tuple Call cons nil") => `(tactic| (with_unfolding_all refine' For_run ?_))
local macro_rules | `(tactic| walk_at "getAttr ref") => `(tactic| (k_dflt (refine' get_own ?k1 ?k2 (inst_up ?k3 (Fr.keep ?k1)) ?k4 ?k5 ?k6 ?k7 ?k8 ?k9 ?_; (case k1 => k_asm); (case k2 => k_asm); (case k3 => k_asm); (case k4 => k_is); (case k5 => k_is); (case k6 => k_is); (case k7 => k_is); (case k8 => k_asm); (case k9 => k_handed); k_whole)))
local macro_rules | `(tactic| walk_at "eval Name") => `(tactic| ((with_reducible show wpAny _ _ (eval _ (envOfC _ _ _ _ _)) _ _ _); k_dflt (refine' nameX_L ?F ?v ?_ ?a ?b ?d; (case F => k_asm); (case v => rfl); (case a => kernel_rfl); (case b => kernel_rfl); (case d => kernel_rfl); k_whole)))
local macro_rules | `(tactic| walk_at "eval Name") => `(tactic| ((with_reducible show wpAny _ _ (eval _ (envOf _ _ _ _ _)) _ _ _); k_dflt (refine' ld ?k1 ?k2 ?_ ?k3 ?k4 ?k5; (case k1 => k_asm); (case k2 => exact rfl); (case k3 => kernel_rfl); (case k4 => kernel_rfl); (case k5 => kernel_rfl); k_whole)))
local macro_rules | `(tactic| walk_at "Turned") => `(tactic| first | refine Turned.ret ?_ | refine Turned.brk ?_)
local macro_rules | `(tactic| walk_at "go") => `(tactic| repeat' (first | (k_unfold; (try dsimp only)) | walk1 | (dsimp only; walk1) | (dsimp only; k_unfold; (try dsimp only))))
local macro_rules | `(tactic| walk_at "kf") => `(tactic| ((with_reducible show wpAny _ _ _ _ _ _); k_fold))
local macro_rules | `(tactic| walk_at "locals") => `(tactic| (intro y h1 h2; simp only [List.mem_cons, List.not_mem_nil, or_false, not_or] at h1 h2; simp [h1, h2]))
local macro_rules | `(tactic| walk_at "eval ListComp") => `(tactic| (k_dflt (refine ListComp_runF (by k_asm) (by with_unfolding_all rfl) (by rfl) (by decide) ?_)))
local macro_rules | `(tactic| walk_at "exec Assign cons ListComp") => `(tactic| (k_dflt (refine Assign_ListComp_runF (by k_asm) (by with_unfolding_all rfl) (by with_unfolding_all rfl) (by rfl) (by decide) (by rfl) (by rfl) (by rfl) ?_)))
local macro_rules | `(tactic| walk_at "sub") => `(tactic| first | exact List.forall_mem_nil _ | refine List.forall_mem_cons.mpr ⟨by k_mem, by walk_at "sub"⟩)
local macro_rules | `(tactic| walk_at "hnd1") => `(tactic| first | exact apart_nil | refine apart_cons (by k_ne) (by walk_at "hnd1"))
local macro_rules | `(tactic| walk_at "hnd2") => `(tactic| first | exact Apart.nil | refine Apart.cons (by walk_at "hnd1") (by walk_at "hnd2"))
local macro_rules | `(tactic| walk_at "hnd") => `(tactic| exact Apart.nd (by walk_at "hnd2"))
local macro_rules | `(tactic| walk_at "call builtin:len") => `(tactic| (k_dflt (refine' len_str ?a ?_; (case a => omega); k_whole)))
theorem sub_mem {x : Str} {i j c : Nat} (h : c ∈ (x.cps.extract i j).toList) : c ∈ x.cps.toList := by
  rw [Array.toList_extract] at h
  simp only [List.extract_eq_take_drop] at h
  first | exact List.mem_of_mem_drop (List.mem_of_mem_take h) | exact List.mem_of_mem_take (List.mem_of_mem_drop h)
theorem strip_mem {goes : Nat → Bool} {l r : Bool} {x : Str} {c : Nat} (h : c ∈ (Txt.stripBy goes l r x).cps.toList) : c ∈ x.cps.toList := by
  unfold Txt.stripBy at h
  split at h
  · exact h
  · exact sub_mem h
theorem slice_mem {x : Str} {l u : Option Int} {c : Nat} (h : c ∈ (Txt.slice x l u).cps.toList) : c ∈ x.cps.toList := by
  unfold Txt.slice at h
  split at h
  · exact h
  · rw [List.toList_toArray] at h
    obtain ⟨i, _, e⟩ := List.mem_filterMap.mp h
    rw [← Array.getElem?_toList] at e
    exact List.mem_of_getElem? e
theorem sep_ne {line z : Str} {l u : Option Int} (hne : ∀ c ∈ line.cps.toList, c ≠ 61) : (Txt.slice (Txt.rstripChars line z) l u != Str.ofString "+=") = true := by
  rw [bne_iff_ne]
  intro e
  have : (61 : Nat) ∈ (Txt.slice (Txt.rstripChars line z) l u).cps.toList := by rw [e]; decide
  exact hne 61 (strip_mem (slice_mem this)) rfl
theorem ne_strT {prog : Program} {w : World} {A : Around} {E : Value → Shared → Prop} {s : Shared} {x y : Str} {t u : Tok} {Q : Value → Shared → Prop} (h : (x != y) = true) (hq : Q (.bool true) s) : wpAny (model prog w) A (compareOp .NotEq (.str x t) (.str y u)) Q E s :=
  ne_str (by rw [h]; exact hq)
local macro_rules | `(tactic| walk_at "compareOp NotEq str str") => `(tactic| (refine ne_strT (by assumption) ?_))
theorem find_sep {prog : Program} {w : World} {s : Shared} {g : Heap} {mg mb : Str → Option Value} {p : Program} {loose : List Str} {line : Str} {t : Tok}
   (X : (hd.heap_39 w.params).In g) (T : TopRead p loose mg mb g) (S : St g s.heap []) (hne : ∀ c ∈ line.cps.toList, c ≠ 61) (h64 : line.length ≤ 64) :
   codeAny (model prog w) (lv 900 5000) (.call (.ref 116) ⟨[.str line t], []⟩) (Back g s fun v led => v = .none) s := by
  k_dflt (refine' enter (binds := [("line", .str line t)]) X T S ?k6 ?k7 ?k8 ?k9 ?kB ?_ ?c2 ?c3 ?c4 ?c5; (case k6 => k_is); (case k7 => k_is); (case k8 => decide); (case k9 => exact BindsTo.of_eq rfl); (case kB => exact locs rfl); (case c5 => decide); (case c2 => rfl); (case c3 => rfl); (case c4 => rfl))
  intro L h₁ F N
  have hs := sep_ne (z := Str.ofString " ") (l := none) (u := some 2) hne
  walk_at "kf"
  walk_at "go"
  · rename Fr _ _ _ _ => F'
    exact Back.intro F' (led := []) (fun _ h => nomatch h) rfl
  · rename Fr _ _ _ _ => F'
    exact Back.intro F' (led := []) (fun _ h => nomatch h) rfl
end Mine
end F_part
section F2_part
open PySem PySem.W PyProof.Rows PySem.Calls
namespace Mine
local macro_rules | `(tactic| k_all) => `(tactic| assumption)
local macro_rules | `(tactic| walk_at "pyIter ref") => `(tactic| refine Hold.of ?_)
local macro_rules | `(tactic| walk_at "call ref") => `(tactic| refine Hold.of ?_)
local macro_rules | `(tactic| walk_at "exec For") => `(tactic| (with_unfolding_all refine' For_run ?_))
local macro_rules | `(tactic| walk_at "exec For Name Call cons nil") => `(tactic| (with_unfolding_all refine' For_run ?_))
local macro_rules | `(tactic| walk_at "exec For Tuple Call cons nil") => `(tactic| (with_unfolding_all refine' For_run ?_))
local macro_rules | `(tactic| walk_at "getAttr ref") => `(tactic| (k_dflt (refine' get_own ?k1 ?k2 (inst_up ?k3 (Fr.keep ?k1)) ?k4 ?k5 ?k6 ?k7 ?k8 ?k9 ?_; (case k1 => k_asm); (case k2 => k_asm); (case k3 => k_asm); (case k4 => k_is); (case k5 => k_is); (case k6 => k_is); (case k7 => k_is); (case k8 => k_asm); (case k9 => k_handed); k_whole)))
local macro_rules | `(tactic| walk_at "eval Name") => `(tactic| ((with_reducible show wpAny _ _ (eval _ (envOfC _ _ _ _ _)) _ _ _); k_dflt (refine' nameX_L ?F ?v ?_ ?a ?b ?d; (case F => k_asm); (case v => rfl); (case a => kernel_rfl); (case b => kernel_rfl); (case d => kernel_rfl); k_whole)))
local macro_rules | `(tactic| walk_at "eval Name") => `(tactic| ((with_reducible show wpAny _ _ (eval _ (envOf _ _ _ _ _)) _ _ _); k_dflt (refine' ld ?k1 ?k2 ?_ ?k3 ?k4 ?k5; (case k1 => k_asm); (case k2 => exact rfl); (case k3 => kernel_rfl); (case k4 => kernel_rfl); (case k5 => kernel_rfl); k_whole)))
local macro_rules | `(tactic| walk_at "Turned") => `(tactic| first | refine Turned.ret ?_ | refine Turned.brk ?_)
local macro_rules | `(tactic| walk_at "go") => `(tactic| repeat' (first | (k_unfold; (try dsimp only)) | walk1 | (dsimp only; walk1) | (dsimp only; k_unfold; (try dsimp only))))
local macro_rules | `(tactic| walk_at "kf") => `(tactic| ((with_reducible show wpAny _ _ _ _ _ _); k_fold))
local macro_rules | `(tactic| walk_at "locals") => `(tactic| (intro y h1 h2; simp only [List.mem_cons, List.not_mem_nil, or_false, not_or] at h1 h2; simp [h1, h2]))
local macro_rules | `(tactic| walk_at "eval ListComp") => `(tactic| (k_dflt (refine ListComp_runF (by k_asm) (by with_unfolding_all rfl) (by rfl) (by decide) ?_)))
local macro_rules | `(tactic| walk_at "exec Assign cons ListComp") => `(tactic| (k_dflt (refine Assign_ListComp_runF (by k_asm) (by with_unfolding_all rfl) (by with_unfolding_all rfl) (by rfl) (by decide) (by rfl) (by rfl) (by rfl) ?_)))
local macro_rules | `(tactic| walk_at "sub") => `(tactic| first | exact List.forall_mem_nil _ | refine List.forall_mem_cons.mpr ⟨by k_mem, by walk_at "sub"⟩)
local macro_rules | `(tactic| walk_at "hnd1") => `(tactic| first | exact apart_nil | refine apart_cons (by k_ne) (by walk_at "hnd1"))
local macro_rules | `(tactic| walk_at "hnd2") => `(tactic| first | exact Apart.nil | refine Apart.cons (by walk_at "hnd1") (by walk_at "hnd2"))
local macro_rules | `(tactic| walk_at "hnd") => `(tactic| exact Apart.nd (by walk_at "hnd2"))
local macro_rules | `(tactic| walk_at "call builtin:len") => `(tactic| (k_dflt (refine' len_sl ?F ?N ?X ?T ?I ?h ?z rfl (Nat.le_of_ble_eq_true rfl) (Nat.le_of_ble_eq_true rfl) ?_; (case F => k_asm); (case N => k_asm); (case X => k_asm); (case T => k_asm); (case I => assumption); (case h => assumption); (case z => omega)); intro h' tk' t' F' N'))
local macro_rules | `(tactic| walk_at "subscriptTail Attribute Name Name ref int") => `(tactic| (k_dflt (refine' item_sl ?F ?N ?X ?T ?I ?h ?z ?a ?b ?c rfl (Nat.le_of_ble_eq_true rfl) (Nat.le_of_ble_eq_true rfl) ?_; (case F => k_asm); (case N => k_asm); (case X => k_asm); (case T => k_asm); (case I => assumption); (case h => assumption); (case z => omega); (case a => omega); (case b => omega); (case c => assumption)); intro h' tk' F' N'))
local macro_rules | `(tactic| walk_at "getAttr ref") => `(tactic| (k_dflt (refine' get_cls ?k1 ?k2 (inst_up ?k3 (Fr.keep ?k1)) ?k4 ?k5 ?k6 ?k7 ?k8 ?k9 ?k10 ?_; (case k1 => k_asm); (case k2 => k_asm); (case k3 => k_asm); (case k4 => k_is); (case k5 => k_is); (case k6 => k_is); (case k7 => k_is); (case k8 => rfl); (case k9 => decide); (case k10 => assumption); k_whole)))
theorem pat_match {prog : Program} {w : World} {s : Shared} {g : Heap} {mg mb : Str → Option Value} {p : Program} {loose : List Str} {line : Str} {t : Tok}
   (X : (hd.heap_39 w.params).In g) (T : TopRead p loose mg mb g) (S : St g s.heap []) (hne : ∀ c ∈ line.cps.toList, c ≠ 61) (h64 : line.length ≤ 64) :
   codeAny (model prog w) (lv 890 4900) (.call (.ref 102) ⟨[.ref 118, .str line t], []⟩) (Back g s fun v led => v = .none) s := by
  k_dflt (refine' enter (binds := [("self", .ref 118), ("line", .str line t)]) X T S ?k6 ?k7 ?k8 ?k9 ?kB ?_ ?c2 ?c3 ?c4 ?c5; (case k6 => k_is); (case k7 => k_is); (case k8 => decide); (case k9 => exact BindsTo.of_eq rfl); (case kB => exact locs rfl); (case c5 => decide); (case c2 => rfl); (case c3 => rfl); (case c4 => rfl))
  intro L h₁ F N
  walk_at "kf"
  walk_at "go"
  rename Fr _ _ _ _ => F'
  rename News _ _ _ _ => N'
  refine Hold.out (wpAny_call (use_call [] _ F' N' (by simp) (fun g' st hr S' => lv_le (find_sep (X.keeps st) (T.keeps st) S' hne h64) rfl (Nat.le_of_ble_eq_true rfl) (Nat.le_of_ble_eq_true rfl)) ?_))
  rintro v led h₂ tk₂ rfl F₂ N₂ -
  dsimp only
  walk_at "go"
  rename Fr _ _ _ _ => F'
  exact Back.intro F' (led := []) (fun _ h => nomatch h) rfl
theorem find_hbs {prog : Program} {w : World} {s : Shared} {g : Heap} {mg mb : Str → Option Value} {p : Program} {loose : List Str} {self dx blk dxb bd bi : Addr} {es : List DictEntry} {n : Nat} {pa po : Value} {t1 t2 t3 t4 : Tok} {vs : Array Value}
   (X : (hd.heap_39 w.params).In g) (T : TopRead p loose mg mb g) (S : St g s.heap [])
   (I : InstAt g self (instObj 245 dx) 245 (some (dictOf es n))) (hb : getL "block" es = some (some (.ref blk))) (hh : getL "head_body_sep" es = some (some .none)) (hpt : getL "head_body_separator_pat" es = some none)
   (I2 : InstAt g blk (instObj 557 dxb) 557 (some (dictOf (slEs w.params bd bi pa po t1 t2 t3 t4) 4)))
   (hbd : g.IsList bd vs) (h64 : vs.size ≤ 64) (hrow : ∀ i : Nat, i < vs.size → ∃ r t, vs[i]? = some (.str r t) ∧ (∀ c ∈ r.cps.toList, c ≠ 61) ∧ r.length ≤ 64) :
   codeAny (model prog w) (lv 880 4800) (.call (.ref 162) ⟨[.ref self], []⟩) (Back g s fun v led => v = .none) s := by
  k_dflt (refine' enter (binds := [("self", .ref self)]) X T S ?k6 ?k7 ?k8 ?k9 ?kB ?_ ?c2 ?c3 ?c4 ?c5; (case k6 => k_is); (case k7 => k_is); (case k8 => decide); (case k9 => exact BindsTo.of_eq rfl); (case kB => exact locs rfl); (case c5 => decide); (case c2 => rfl); (case c3 => rfl); (case c4 => rfl))
  intro L h₁ F N
  walk_at "kf"
  walk_at "go"
  rename IsRange _ _ _ _ _ _ _ _ => R
  rename Fr _ _ _ _ => F'
  rename News _ _ _ _ => N'
  refine Hold.out ?_
  have hsz : Builtin.Range.rangeSize 0 (vs.size : Int) 1 = ((vs.size : Nat) : Int) := by rw [rangeSize_one]; split <;> omega
  refine range_run (n := vs.size) ["line"] (fun i u led => True) rfl R (small_one (by omega) (by omega) (by omega) (by omega)) hsz F' N' trivial ?_ ?_
  · rintro i t u news₁ h tk I' ob hin - hoff F N
    rw [show (0 : Int) + (i : Int) * 1 = i by omega] at F
    obtain ⟨r, tr, hr, hne, hlen⟩ := hrow i hin
    have hr' : vs[((i : Nat) : Int).toNat]? = some (.str r tr) := by simpa using hr
    clear F' N' R hsz hrow
    walk_at "kf"
    walk_at "go"
    rename Fr _ _ _ _ => F'
    rename News _ _ _ _ => N'
    refine Hold.out (wpAny_call (use_call [] _ F' N' (by simp) (fun g' st hr S' => lv_le (pat_match (X.keeps st) (T.keeps st) S' hne hlen) rfl (Nat.le_of_ble_eq_true rfl) (Nat.le_of_ble_eq_true rfl)) ?_))
    rintro v led h₂ tk₂ rfl F₂ N₂ -
    dsimp only
    walk_at "go"
    rename Fr _ _ _ _ => F'
    exact Turned.next F' (news' := []) (news_sub N₂ fun q hq => by simp only [List.append_nil, List.mem_cons, List.not_mem_nil, or_false, List.mem_append] at hq ⊢; simp only [hq, true_or, or_true]) (fun _ h => nomatch h) (by walk_at "locals") trivial
  · intro u news₁ h tk _ F N
    clear F' N' R
    walk_at "go"
    rename Fr _ _ _ _ => F'
    exact Back.intro F' (led := []) (fun _ h => nomatch h) rfl
end Mine
end F2_part
section Gi2_part
open PySem PySem.W PyProof.Rows PySem.Calls
namespace Mine
theorem set_list {prog : Program} {w : World} {A : Around} {E : Value → Shared → Prop} {s : Shared} {h₀ : Heap} {L D : Addr} {m : Str → Option Value} {news : List (Addr × Obj)} {g : Obj → List (Addr × Obj)} {its : Array Value} {n : Nat} {k : Int} {t : Tok} {v : Value} {Q : Unit → Shared → Prop}
    (F : Fr h₀ L s.heap m) (N : News h₀ L s.heap news) (U : UpdF D (listOf its n) news g) (h0 : 0 ≤ k) (hfit : k < 2 ^ 63) (hn : k < its.size)
    (h : ∀ h', Fr h₀ L h' m → News h₀ L h' (g (listOf (its.setIfInBounds k.toNat v) n)) → Q () { s with heap := h' }) : wpAny (model prog w) A (setItem (.ref D) (.int k t) v) Q E s := by
  obtain ⟨pre, post, e0, hg, x1, x2⟩ := U.split
  rw [e0] at N
  have nz := N (D, listOf its n) (List.mem_append_right _ (.head _))
  refine ki_setAt nz.1 h0 hfit hn ?_
  have hs := Heap.SameBut.update s.heap D (Obj.mapSeq (·.setIfInBounds k.toNat v))
  refine h _ (F.change hs nz.2.1 nz.2.2) ?_
  rw [hg]
  exact ki_turn (fun xs => xs.setIfInBounds k.toNat v) N x1 x2 rfl (by simp)
end Mine
end Gi2_part
section B_part
open PySem PySem.W PyProof.Rows PySem.Calls
namespace Mine
structure NEb (a b : Addr) : Prop where
  out : @Ne Nat a b
theorem NEb.flip {a b : Addr} (h : NEb a b) : @Ne Nat b a := Ne.symm h.out
local macro_rules | `(tactic| walk_at "zz0") => `(tactic| fail)
local macro_rules | `(tactic| walk_at "zz1") => `(tactic| fail)
local macro_rules | `(tactic| walk_at "zz2") => `(tactic| fail)
local macro_rules | `(tactic| walk_at "zz3") => `(tactic| fail)
local macro_rules | `(tactic| walk_at "zz4") => `(tactic| fail)
local macro_rules | `(tactic| walk_at "zz5") => `(tactic| fail)
local macro_rules | `(tactic| walk_at "zz6") => `(tactic| fail)
local macro_rules | `(tactic| walk_at "zz7") => `(tactic| fail)
local macro_rules | `(tactic| walk_at "zz8") => `(tactic| fail)
local macro_rules | `(tactic| walk_at "zz9") => `(tactic| fail)
local macro_rules | `(tactic| walk_at "zz10") => `(tactic| fail)
local macro_rules | `(tactic| walk_at "zz11") => `(tactic| fail)
local macro_rules | `(tactic| walk_at "zz12") => `(tactic| fail)
local macro_rules | `(tactic| walk_at "zz13") => `(tactic| fail)
local macro_rules | `(tactic| walk_at "zz14") => `(tactic| fail)
local macro_rules | `(tactic| walk_at "zz15") => `(tactic| fail)
local macro_rules | `(tactic| walk_at "zz16") => `(tactic| fail)
local macro_rules | `(tactic| walk_at "zz17") => `(tactic| fail)
local macro_rules | `(tactic| walk_at "zz18") => `(tactic| fail)
local macro_rules | `(tactic| walk_at "zz19") => `(tactic| fail)
local macro_rules | `(tactic| walk_at "zz20") => `(tactic| fail)
local macro_rules | `(tactic| walk_at "zz21") => `(tactic| fail)
local macro_rules | `(tactic| walk_at "zz22") => `(tactic| fail)
local macro_rules | `(tactic| walk_at "zz23") => `(tactic| fail)
local macro_rules | `(tactic| walk_at "zz24") => `(tactic| fail)
local macro_rules | `(tactic| walk_at "zz25") => `(tactic| fail)
local macro_rules | `(tactic| walk_at "zz26") => `(tactic| fail)
local macro_rules | `(tactic| walk_at "zz27") => `(tactic| fail)
local macro_rules | `(tactic| walk_at "zz28") => `(tactic| fail)
local macro_rules | `(tactic| walk_at "zz29") => `(tactic| fail)
local macro_rules | `(tactic| k_ne) => `(tactic| first | exact NEb.out (by assumption) | exact NEb.flip (by assumption) | (refine neN ?_; (try dsimp only); omega))
local macro_rules | `(tactic| k_all) => `(tactic| assumption)
local macro_rules | `(tactic| walk_at "pyIter ref") => `(tactic| refine Hold.of ?_)
local macro_rules | `(tactic| walk_at "call ref") => `(tactic| refine Hold.of ?_)
local macro_rules | `(tactic| walk_at "exec For") => `(tactic| (with_unfolding_all refine' For_run ?_))
local macro_rules | `(tactic| walk_at "exec For Name Call cons nil") => `(tactic| (with_unfolding_all refine' For_run ?_))
local macro_rules | `(tactic| walk_at "exec For Tuple Call cons nil") => `(tactic| (with_unfolding_all refine' For_run ?_))
local macro_rules | `(tactic| walk_at "getAttr ref") => `(tactic| (k_dflt (refine' get_own ?k1 ?k2 (inst_up ?k3 (Fr.keep ?k1)) ?k4 ?k5 ?k6 ?k7 ?k8 ?k9 ?_; (case k1 => k_asm); (case k2 => k_asm); (case k3 => k_asm); (case k4 => k_is); (case k5 => k_is); (case k6 => k_is); (case k7 => k_is); (case k8 => k_asm); (case k9 => k_handed); k_whole)))
local macro_rules | `(tactic| walk_at "eval Name") => `(tactic| ((with_reducible show wpAny _ _ (eval _ (envOfC _ _ _ _ _)) _ _ _); k_dflt (refine' nameX_L ?F ?v ?_ ?a ?b ?d; (case F => k_asm); (case v => rfl); (case a => kernel_rfl); (case b => kernel_rfl); (case d => kernel_rfl); k_whole)))
local macro_rules | `(tactic| walk_at "eval Name") => `(tactic| ((with_reducible show wpAny _ _ (eval _ (envOf _ _ _ _ _)) _ _ _); k_dflt (refine' ld ?k1 ?k2 ?_ ?k3 ?k4 ?k5; (case k1 => k_asm); (case k2 => exact rfl); (case k3 => kernel_rfl); (case k4 => kernel_rfl); (case k5 => kernel_rfl); k_whole)))
local macro_rules | `(tactic| walk_at "Turned") => `(tactic| first | refine Turned.ret ?_ | refine Turned.brk ?_)
local macro_rules | `(tactic| walk_at "go") => `(tactic| repeat' (first | (k_unfold; (try dsimp only)) | walk1 | (dsimp only; walk1) | (dsimp only; k_unfold; (try dsimp only))))
local macro_rules | `(tactic| walk_at "kf") => `(tactic| ((with_reducible show wpAny _ _ _ _ _ _); k_fold))
local macro_rules | `(tactic| walk_at "locals") => `(tactic| (intro y h1 h2; simp only [List.mem_cons, List.not_mem_nil, or_false, not_or] at h1 h2; simp [h1, h2]))
local macro_rules | `(tactic| walk_at "eval ListComp") => `(tactic| (k_dflt (refine ListComp_runF (by k_asm) (by with_unfolding_all rfl) (by rfl) (by decide) ?_)))
local macro_rules | `(tactic| walk_at "exec Assign cons ListComp") => `(tactic| ((with_reducible show wpAny _ _ (exec (Stmt.Assign [Expr.Name _ _] _ _) _) _ _ _); k_dflt (refine Assign_ListComp_runF (by k_asm) (by with_unfolding_all rfl) (by with_unfolding_all rfl) (by rfl) (by decide) (by rfl) (by rfl) (by rfl) ?_)))
local macro_rules | `(tactic| walk_at "exec Assign cons ListComp") => `(tactic| ((with_reducible show wpAny _ _ (exec (Stmt.Assign [Expr.Attribute _ _ _] _ _) _) _ _ _); walk_at "exec Assign"))
local macro_rules | `(tactic| k_in) => `(tactic| exact Frag.In.keeps (by with_reducible assumption) (Fr.keep (by with_reducible assumption)))
local macro_rules | `(tactic| walk_at "sub") => `(tactic| first | exact List.forall_mem_nil _ | refine List.forall_mem_cons.mpr ⟨by k_mem, by walk_at "sub"⟩)
local macro_rules | `(tactic| walk_at "hnd1") => `(tactic| first | exact apart_nil | refine apart_cons (by k_ne) (by walk_at "hnd1"))
local macro_rules | `(tactic| walk_at "hnd2") => `(tactic| first | exact Apart.nil | refine Apart.cons (by walk_at "hnd1") (by walk_at "hnd2"))
local macro_rules | `(tactic| walk_at "hnd") => `(tactic| exact Apart.nd (by walk_at "hnd2"))
local macro_rules | `(tactic| walk_at "getMethod ref") => `(tactic| (k_dflt (refine' method_inst ?k1 ?k2 (inst_up ?k3 (Fr.keep ?k1)) ?k4 ?k5 ?k6 ?k7 ?_; (case k1 => k_asm); (case k2 => k_asm); (case k3 => k_asm); (case k4 => k_is); (case k5 => k_is); (case k6 => k_is); (case k7 => first | rfl | k_asm); k_whole)))
local macro_rules | `(tactic| walk_at "call type:enumerate") => `(tactic| refine Hold.of ?_)
def Off2 (I C : Addr) : List (Addr × Obj) → Prop
  | [] => True
  | p :: r => ((@Ne Nat p.1 I) ∧ (@Ne Nat p.1 C)) ∧ Off2 I C r
theorem off2_of {I C : Addr} : ∀ {l : List (Addr × Obj)}, (∀ q ∈ l, @Ne Nat q.1 I ∧ @Ne Nat q.1 C) → Off2 I C l
  | [], _ => trivial
  | _ :: _, h => ⟨h _ (.head _), off2_of fun q hq => h q (.tail _ hq)⟩
local macro_rules | `(tactic| walk_at "call builtin:str.rstrip") => `(tactic| (refine KXw.rstrip (by assumption) (by assumption) ?_; intro _ _))
local macro_rules | `(tactic| walk_at "setItem ref int") => `(tactic| (k_dflt (refine' set_list ?F ?N ?U ?a ?b ?c ?_; (case F => k_asm); (case N => k_asm); (case U => k_updF); (case a => omega); (case b => omega); (case c => omega)); intro h' F' N'; (try dsimp only at N'); (try k_sweep)))
def BlankRows (vs : Array Value) (top left bottom right : Int) : Prop := ∀ k : Int, top ≤ k → k < bottom → ∃ r t, vs[k.toNat]? = some (.str r t) ∧ r.length ≤ 64 ∧ Txt.rstrip (Txt.slice r (some left) (some right)) = Str.empty
theorem get_2D {prog : Program} {w : World} {s : Shared} {g : Heap} {mg mb : Str → Option Value} {p : Program} {loose : List Str} {self dx bd bi : Addr} {pa po : Value} {t1 t2 t3 t4 u1 u2 u3 u4 : Tok} {top left bottom right : Int} {vs ws : Array Value}
   (X : (hd.heap_39 w.params).In g) (T : TopRead p loose mg mb g) (S : St g s.heap [])
   (I : InstAt g self (instObj 557 dx) 557 (some (dictOf (slEs w.params bd bi pa po t1 t2 t3 t4) 4)))
   (hbd : g.IsList bd vs) (hbi : g.IsList bi ws) (hsz : vs.size = ws.size) (h64 : ws.size ≤ 64) (ha : 0 ≤ top) (hab : top < bottom) (hb : bottom ≤ ws.size) (hl : 0 ≤ left) (hlr : left < right) (hrow : BlankRows vs top left bottom right) :
   codeAny (model prog w) (lv 880 4800) (.call (.ref 554) ⟨[.ref self, .int top u1, .int left u2, .int bottom u3, .int right u4], []⟩) (Back g s fun v led => ∃ x vs', v = .ref x ∧ SL w.params x (.ref self) (.int top u1) vs' led) s := by
  k_dflt (refine' enterC (binds := [("self", .ref self), ("top", .int top u1), ("left", .int left u2), ("bottom", .int bottom u3), ("right", .int right u4), ("strip_indent", .bool true)]) X T S ?k6 ?k7 ?k8 ?k9 ?kB ?kD ?_ ?c2 ?c3 ?c4; (case k6 => k_is); (case k7 => k_is); (case k8 => decide); (case k9 => exact binds_K (X.keeps S.stays) rfl (by k_is) rfl rfl rfl); (case kB => rfl); (case kD => decide); (case c2 => rfl); (case c3 => rfl); (case c4 => rfl))
  intro L h₁ tk cells F N Y lt
  k_cells Y
  dsimp only [List.cons_append, List.nil_append] at N
  walk_at "kf"
  walk_at "go"
  rename Fr _ _ _ _ => F'
  rename News _ _ _ _ => N'
  refine Hold.out (wpAny_call (use_call [] _ F' N' (by simp) (fun g' st hr S' => lv_le (sl_part (X.keeps st) (T.keeps st) S' (inst_up I st) (lst_up hbd st) (lst_up hbi st) hsz h64 ha hab hb) rfl (Nat.le_of_ble_eq_true rfl) (Nat.le_of_ble_eq_true rfl)) ?_))
  rintro v led h₂ tk₂ ⟨x, rfl, dx2, bd2, bi2, its, c, c', v1, v2, v3, v4, rfl, hits, n1, n2, n3, n4, n5, n6⟩ F₂ N₂ hap₂
  have m1 := NEb.mk (hap₂ _ (.head _) _ (.head _))
  have m2 := NEb.mk (hap₂ _ (.tail _ (.head _)) _ (.head _))
  have m3 := NEb.mk (hap₂ _ (.tail _ (.tail _ (.head _))) _ (.head _))
  have m4 := NEb.mk (hap₂ _ (.tail _ (.tail _ (.tail _ (.head _)))) _ (.head _))
  clear F' N' hap₂
  simp only [List.cons_append, List.nil_append] at N₂
  dsimp only at m1 m2 m3 m4 ⊢
  walk_at "go"
  rename Fr _ _ _ _ => F'
  rename News _ _ _ _ => N'
  rename Obj.data _ = Data.cell (some (Value.int right u4)) => hcell
  refine Hold.out ?_
  have hz : (vs.extract top.toNat bottom.toNat).size = (bottom - top).toNat := by rw [Array.size_extract]; omega
  refine enum_run (l := bd2) (n := (bottom - top).toNat) [] (fun i u led => ∃ items c3 oc, led = [(x, instObj 557 dx2), (dx2, dictOf (slEs w.params bd2 bi2 (Value.ref self) (Value.int top u1) v1 v2 v3 v4) 4), (bd2, listOf items c3), (bi2, listOf its c'), (L + 1, oc)] ∧ oc.data = .cell (some (.int right u4)) ∧ items.size = (bottom - top).toNat ∧ ∀ j : Nat, i ≤ j → j < (bottom - top).toNat → items[j]? = vs[top.toNat + j]?) rfl F' N' ⟨_, _, _, rfl, hcell, hz, fun j _ hj => ?_⟩ ?_ ?_ ?_
  · rw [Array.getElem?_extract]
    rw [if_pos (by omega)]
  · rintro i u news₁ ⟨items, c3, oc, rfl, -, h3, -⟩
    exact ⟨items, c3, .tail _ (.tail _ (.head _)), h3⟩
  · rintro i t v items c4 u news₁ h tk e it oe oi hin hm hisz hiv ⟨items', c3, oc, rfl, hoc, h3, h4⟩ hei hoff F N
    have hmm : items = items' ∧ c4 = c3 := by
      have e1 := (N _ (.tail _ (.tail _ hm))).1
      have e2 := (N _ (.tail _ (.tail _ (.tail _ (.tail _ (.head _)))))).1
      rw [e1] at e2
      injection e2 with e2
      simp only [W.listOf, Obj.mk.injEq, Data.seq.injEq] at e2
      exact ⟨e2.2.2.1.1, e2.2.2.1.2⟩
    obtain ⟨rfl, rfl⟩ := hmm
    have hii : (i : Int) < (bottom - top) := by omega
    obtain ⟨r, tr, hr, hrl, hbl⟩ := hrow (top + i) (by omega) (by omega)
    have hvr : v = .str r tr := by
      have := h4 i (Nat.le_refl _) hin
      rw [hiv, show top.toNat + i = (top + i).toNat by omega, hr] at this
      exact Option.some.inj this
    subst hvr
    have hoff' := off2_of hoff
    simp only [Off2, and_true] at hoff'
    have hi2 : i < items.size := by omega
    have hsl : (Txt.slice r (some left) (some right)).length ≤ sizeLine := Nat.le_trans (Txt.slice_le _ _ _) (by rw [sizeLine_eq]; omega)
    clear F' N' hm hcell hrow
    walk_at "kf"
    walk_at "go"
    rename Fr _ _ _ _ => F'
    rename News _ _ _ _ => N'
    refine Turned.next F' (news' := [(x, instObj 557 dx2), (dx2, dictOf (slEs w.params bd2 bi2 (Value.ref self) (Value.int top u1) v1 v2 v3 v4) 4), (bd2, listOf (items.setIfInBounds i _) c4), (bi2, listOf its c'), (L + 1, oc)]) N' ?_ (by walk_at "locals") ⟨_, _, _, rfl, hoc, by simpa using hisz, fun j hj hj' => ?_⟩
    · intro q hq
      obtain ⟨⟨a1, a2⟩, ⟨a3, a4⟩, ⟨a5, a6⟩, ⟨a7, a8⟩, a9, a10⟩ := hoff'
      simp only [List.mem_cons, List.not_mem_nil, or_false] at hq
      rcases hq with h | h | h | h | h <;> rw [h] <;> simp only [List.mem_cons, List.not_mem_nil, or_false, not_or]
      · exact ⟨a1, a2⟩
      · exact ⟨a3, a4⟩
      · exact ⟨a5, a6⟩
      · exact ⟨a7, a8⟩
      · exact ⟨a9, a10⟩
    · rw [Array.getElem?_setIfInBounds_ne (by omega)]
      exact h4 j (by omega) hj'
  · rintro u news₁ h tk ⟨items, c3, oc, rfl, hoc, h3, -⟩ F N
    clear F' N' hcell
    walk_at "go"
    exact Back.intro F (news_sub N fun q hq => by
      simp only [List.mem_cons, List.not_mem_nil, or_false] at hq ⊢
      rcases hq with h | h | h | h <;> simp only [h, true_or, or_true]) ⟨x, items, rfl, dx2, bd2, bi2, its, c3, c', v1, v2, v3, v4, rfl, by omega, n1, n2, n3, n4, n5, n6⟩
end Mine
end B_part
section Wh_part
open PySem PySem.W PyProof.Rows PySem.Calls
namespace Mine
section
variable {prog : Program} {w : World} {A : Around} {s : Shared} {env : Env} {h₀ : Heap} {body : List Stmt} {Q : Flow → Shared → Prop}
def WTurned (h₀ : Heap) (L : Addr) (stored : List Str) (m₀ : Str → Option Value) (J : List (Addr × Obj) → Prop) (s : Shared) (Q : Flow → Shared → Prop) (f : Flow) (s₂ : Shared) : Prop :=
  match f with
  | .ret v => Q (.ret v) s₂
  | .brk => Q .next s₂
  | _ => ∃ h' tk' m' news', s₂ = { s with heap := h', toks := tk' } ∧ Fr h₀ L h' m' ∧ News h₀ L h' news' ∧ (∀ y, y ∉ stored → m' y = m₀ y) ∧ J news'
theorem WTurned.next {L : Addr} {stored : List Str} {m₀ m' : Str → Option Value} {J : List (Addr × Obj) → Prop} {h' : Heap} {tk' : Nat} {news' : List (Addr × Obj)} (F : Fr h₀ L h' m') (N : News h₀ L h' news') (hm : ∀ y, y ∉ stored → m' y = m₀ y) (hJ : J news') :
    WTurned h₀ L stored m₀ J s Q .next { s with heap := h', toks := tk' } := ⟨h', tk', m', news', rfl, F, N, hm, hJ⟩
theorem WTurned.cont {L : Addr} {stored : List Str} {m₀ m' : Str → Option Value} {J : List (Addr × Obj) → Prop} {h' : Heap} {tk' : Nat} {news' : List (Addr × Obj)} (F : Fr h₀ L h' m') (N : News h₀ L h' news') (hm : ∀ y, y ∉ stored → m' y = m₀ y) (hJ : J news') :
    WTurned h₀ L stored m₀ J s Q .cont { s with heap := h', toks := tk' } := ⟨h', tk', m', news', rfl, F, N, hm, hJ⟩
theorem While_run {test : Expr} {pos : Pos} {m₀ : Str → Option Value} {news : List (Addr × Obj)} {n : Nat} (stored : List Str) (J : Nat → List (Addr × Obj) → Prop)
    (F : Fr h₀ env.locals s.heap m₀) (N : News h₀ env.locals s.heap news) (h0 : J n news)
    (turn : ∀ k (u : Str → Option Value) news₁ h tk, J k news₁ → Fr h₀ env.locals h (fun y => if stored.contains y then u y else m₀ y) → News h₀ env.locals h news₁ →
      wpAny (model prog w) A (isTrue test env (eval test env)) (fun b s₂ => if b = true then
        wpAny (model prog w) A (execs body env) (WTurned h₀ env.locals stored m₀ (fun news' => ∃ k', k' < k ∧ J k' news') { s with heap := h, toks := tk } Q) (fun _ _ => False) s₂ else Q .next s₂) (fun _ _ => False) { s with heap := h, toks := tk }) :
    wpAny (model prog w) A (exec (.While test body [] pos) env) Q (fun _ _ => False) s := by
  refine wpAny_While ?_
  refine codeAny_whileLoop (fun k s' => ∃ h' tk m' news', s' = { s with heap := h', toks := tk } ∧ Fr h₀ env.locals h' m' ∧ News h₀ env.locals h' news' ∧ (∀ y, y ∉ stored → m' y = m₀ y) ∧ J k news') ?_ n
    ⟨s.heap, s.toks, m₀, news, rfl, F, N, fun _ _ => rfl, h0⟩
  rintro k s' ⟨h', tk, m', news', rfl, F', N', hloc, hJ⟩
  have e3 : m' = fun y => if stored.contains y then m' y else m₀ y := by
    funext y
    cases h2 : stored.contains y with
    | true => simp
    | false => simp only [Bool.false_eq_true, if_false]; exact hloc y (by simpa using h2)
  rw [e3] at F'
  refine wpAny_mono (turn k m' news' h' tk hJ F' N') (fun b s₂ h₂ => ?_) fun _ _ e => e.elim
  cases b with
  | false =>
    simp only [Bool.false_eq_true, if_false] at h₂ ⊢
    exact wpAny_execs_nil h₂
  | true =>
    simp only [if_true] at h₂ ⊢
    refine wpAny_mono h₂ (fun f s₃ h₃ => ?_) fun _ _ e => e.elim
    have fin : (∃ h' tk' m' news', s₃ = { s with heap := h', toks := tk' } ∧ Fr h₀ env.locals h' m' ∧ News h₀ env.locals h' news' ∧ (∀ y, y ∉ stored → m' y = m₀ y) ∧ ∃ k', k' < k ∧ J k' news') →
        ∃ m, m < k ∧ ∃ h' tk m' news', s₃ = { s with heap := h', toks := tk } ∧ Fr h₀ env.locals h' m' ∧ News h₀ env.locals h' news' ∧ (∀ y, y ∉ stored → m' y = m₀ y) ∧ J m news' := by
      rintro ⟨h₃', tk₃, m₂, news₂, e, F₃, N₃, hl₃, k', hk, hJ₃⟩
      exact ⟨k', hk, h₃', tk₃, m₂, news₂, e, F₃, N₃, hl₃, hJ₃⟩
    cases f with
    | ret v => exact h₃
    | brk => exact h₃
    | cont => exact fin h₃
    | next => exact fin h₃
end
end Mine
end Wh_part
section Gi3_part
open PySem PySem.W PyProof.Rows PySem.Calls
namespace Mine
structure NE (a b : Addr) : Prop where
  out : @Ne Nat a b
theorem NE.flip {a b : Addr} (h : NE a b) : @Ne Nat b a := Ne.symm h.out
section
variable {prog : Program} {w : World} {A : Around} {E : Value → Shared → Prop} {s : Shared} {h₀ h : Heap} {L D b : Addr} {m : Str → Option Value} {news news' : List (Addr × Obj)} {its its2 : Array Value} {n n2 : Nat} {g : Obj → List (Addr × Obj)} {Q : Value → Shared → Prop}
theorem pop0_U {u : Tok} {y : Value} {q : List Value} (F : Fr h₀ L s.heap m) (N : News h₀ L s.heap news) (U : UpdF D (listOf (List.toArray (y :: q)) n) news g) (hz : (y :: q).length ≤ 1000)
    (h : ∀ h', Fr h₀ L h' m → News h₀ L h' (g (listOf (List.toArray q) (n + 1))) → Q y { s with heap := h' }) : wpAny (model prog w) A (call (.builtin "list.pop") [.ref D, .int 0 u]) Q E s := by
  obtain ⟨pre, post, rfl, hg, a, b⟩ := U.split
  have z := N (D, listOf (List.toArray (y :: q)) n) (List.mem_append.mpr (.inr (.head _)))
  have hz' : (List.toArray (y :: q)).size ≤ sizeLine := by rw [List.size_toArray, sizeLine_eq]; omega
  refine call_meets PySem.F.slot_list_pop ⟨_, z.1, rfl⟩ PySem.F.entry_list_pop (PySem.F.args_list_pop_2 _ _) (PySem.MeetsSeq.list_pop_at D _ n 0 u 0 y rfl (by unfold seqIndex?; simp) (by simp) hz') ⟨z.1, h _ (F.change (Heap.SameBut.update ..) z.2.1 z.2.2) ?_⟩
  rw [hg]
  refine kl_turn _ N a b ?_ ?_
  · exact kl_erase [] q y
  · rw [List.size_toArray, List.size_toArray, List.length_cons]
    omega
theorem append_U {x : Value} (F : Fr h₀ L s.heap m) (N : News h₀ L s.heap news) (U : UpdF D (listOf its n) news g) (hz : its.size ≤ 1000)
    (h : ∀ h', Fr h₀ L h' m → News h₀ L h' (g (listOf (its.push x) (n + 1))) → Q .none { s with heap := h' }) : wpAny (model prog w) A (call (.builtin "list.append") [.ref D, x]) Q E s := by
  obtain ⟨pre, post, rfl, hg, a, b⟩ := U.split
  have z := N (D, listOf its n) (List.mem_append.mpr (.inr (.head _)))
  refine append_at (hsz := by rw [sizeLine_eq]; omega) z.1 fun h' hs hd => ?_
  refine h h' (F.change hs z.2.1 z.2.2) ?_
  rw [hg]
  exact news_set N a b hs hd
theorem extend_U {x y : Value} (F : Fr h₀ L s.heap m) (N : News h₀ L s.heap news) (U : UpdF D (listOf its n) news g) (hb : (b, listOf #[x, y] n2) ∈ news) (hz : its.size ≤ 1000)
    (h : ∀ h', Fr h₀ L h' m → News h₀ L h' (g (listOf (its ++ #[x, y]) (n + 1))) → Q .none { s with heap := h' }) : wpAny (model prog w) A (call (.builtin "list.extend") [.ref D, .ref b]) Q E s := by
  obtain ⟨pre, post, rfl, hg, a, c⟩ := U.split
  have z := N (D, listOf its n) (List.mem_append.mpr (.inr (.head _)))
  have hs : its.size + 2 ≤ sizeLine := by rw [sizeLine_eq]; omega
  refine call_meets PySem.F.slot_list_extend ⟨_, z.1, rfl⟩ PySem.F.entry_list_extend (PySem.F.args_list_extend_2 _ _) (AutoSeq1.list_extend_list_list_0 D its n b #[x, y] n2 (extend_door hs) (by omega) (by show its.size + 2 ≤ _; omega)) ⟨z.1, (N _ hb).1, h _ (F.change (Heap.SameBut.update ..) z.2.1 z.2.2) ?_⟩
  rw [hg]
  exact kl_turn (fun xs => xs ++ #[x, y]) N a c rfl (by simp)
end
end Mine
end Gi3_part
section Ps_part
open PySem PySem.W PyProof.Rows PySem.Calls
namespace Mine
structure PS where
  corners : List (Int × Int)
  done : List Int
  cells : List (List Int)
  rk : List Int
  ck : List Int
def crow (c : Int × Int) : List Int := [c.1, c.2]
def BlankG (G : List (List Nat)) (t l b r : Int) : Prop := ∀ i j : Int, t < i → i < b → l < j → j < r → gch G i j = 32
def PStep (G : List (List Nat)) (W : Nat) (Inv : Nat → PS → Prop) (k : Nat) (st : PS) : Prop :=
  (st.done.length = W ∧ st.corners.length ≤ 60 ∧ (∀ c ∈ st.corners, 0 ≤ c.1 ∧ c.1 < (G.length : Int) ∧ 0 ≤ c.2 ∧ c.2 < (W : Int)) ∧ st.cells.length ≤ 50 ∧ st.rk.length ≤ 300 ∧ st.ck.length ≤ 300) ∧
  (st.corners = [] → ∀ j : Nat, (j : Int) < (W : Int) - 1 → st.done.getD j 0 = (G.length : Int) - 1 - 1) ∧
  (∀ t l cs, st.corners = (t, l) :: cs →
    ((t = (G.length : Int) - 1 ∨ l = (W : Int) - 1 ∨ t ≤ st.done.getD l.toNat 0) → ∃ k', k' < k ∧ Inv k' ⟨cs, st.done, st.cells, st.rk, st.ck⟩) ∧
    (¬ (t = (G.length : Int) - 1 ∨ l = (W : Int) - 1 ∨ t ≤ st.done.getD l.toNat 0) → gch G t l = 43 ∧ ∃ b r rk ck, scanRight G W t l = some (b, r, rk, ck) ∧
      (∀ j : Nat, l ≤ j → (j : Int) < r → st.done.getD j 0 = t - 1) ∧ t + 1 < b ∧ l + 1 < r ∧ b < (G.length : Int) ∧ r < (W : Int) ∧ rk.length ≤ 128 ∧ ck.length ≤ 128 ∧ BlankG G t l b r ∧
      ∀ cs' : List (Int × Int), (cs'.map crow).Perm ((cs ++ [(t, r), (b, l)]).map crow) → (cs'.map crow).Pairwise (fun a b => codeOf a ≤ codeOf b) →
        ∃ k', k' < k ∧ Inv k' ⟨cs', markDone st.done l (b - 1) (r - l).toNat, st.cells ++ [[t, l, b, r]], rk.foldl addKey st.rk, ck.foldl addKey st.ck⟩))
end Mine
end Ps_part
section Bk_part
open PySem PySem.W PyProof.Rows PySem.Calls PySem.Builtin PySem.Builtin.Str
namespace Mine
theorem takeWhile_all {f : Nat → Bool} : ∀ {l : List Nat}, (∀ c ∈ l, f c = true) → l.takeWhile f = l
  | [], _ => rfl
  | a :: l, h => by rw [List.takeWhile_cons, h a (.head _)]; simp [takeWhile_all fun c hc => h c (.tail _ hc)]
theorem rstrip_blank {x : Str} (h : ∀ c ∈ x.cps.toList, Unicode.isSpace c = true) : Txt.rstrip x = Str.empty := by
  have e1 : stripLo Unicode.isSpace false x = 0 := rfl
  have e2 : stripHi Unicode.isSpace true x 0 = 0 := by
    unfold stripHi
    rw [if_pos rfl, List.drop_zero]
    have : (x.cps.toList.reverse.takeWhile Unicode.isSpace) = x.cps.toList.reverse := takeWhile_all fun c hc => h c (List.mem_reverse.mp hc)
    rw [this, List.length_reverse, Array.length_toList]
    exact Nat.sub_self _
  unfold Txt.rstrip Txt.stripBy stripSame PySem.stripped
  rw [e1, e2]
  split
  · rename_i hs
    have : x.length = 0 := (by simpa using hs : 0 = x.length).symm
    obtain ⟨a⟩ := x
    simp only [Str.length] at this
    rw [Array.size_eq_zero_iff.mp this]; rfl
  · unfold strSub
    rw [Array.extract_empty_of_stop_le_start (Nat.le_refl _)]; rfl
theorem slice_blank {L : List Nat} {a b : Int} (h0 : 0 < a) (hab : a ≤ b) (hb : b ≤ L.length) (h : ∀ j : Int, a ≤ j → j < b → L.getD j.toNat 0 = 32) : Txt.rstrip (Txt.slice (tx L) (some a) (some b)) = Str.empty := by
  refine rstrip_blank fun c hc => ?_
  obtain ⟨a, rfl⟩ := Int.eq_ofNat_of_zero_le (Int.le_of_lt h0)
  obtain ⟨b, rfl⟩ := Int.eq_ofNat_of_zero_le (Int.le_trans (Int.le_of_lt h0) hab)
  have hb' : b ≤ (tx L).length := by rw [tx_length]; omega
  have hab' : a ≤ b := by omega
  unfold Txt.slice at hc
  have hn : ¬ (((1 : Int) == 1 && (strSliceIndices (some (a : Int)) (some (b : Int)) 1 (tx L).length).length == (tx L).length) = true) := by
    rw [StrLaws.strSliceIndices_plain hab' hb']
    rw [tx_length] at hb' ⊢
    simp; omega
  rw [if_neg (by simpa using hn)] at hc
  dsimp only at hc
  rw [StrLaws.sliced_plain (tx L) hab' hb'] at hc
  have hc' : c ∈ (L.drop a).take (b - a) := by simpa [tx] using hc
  obtain ⟨i, hi, e⟩ := List.getElem_of_mem hc'
  rw [List.length_take, List.length_drop] at hi
  rw [List.getElem_take, List.getElem_drop] at e
  have := h (a + i : Nat) (by omega) (by omega)
  rw [Int.toNat_natCast, List.getD_eq_getElem?_getD, List.getElem?_eq_getElem (by omega), Option.getD_some, e] at this
  rw [this]; decide +kernel
theorem blank_rows {G : List (List Nat)} {W : Nat} {vs : List Value} {t l b r : Int} (hst : StrsAre vs (G.map tx)) (hwid : ∀ r ∈ G, r.length = W) (hW : W ≤ 64) (ht : 0 ≤ t) (hl : 0 ≤ l) (hlr : l + 1 < r) (hb : b < (G.length : Int)) (hr : r < (W : Int)) (h : BlankG G t l b r) : BlankRows vs.toArray (t + 1) (l + 1) b r := by
  intro k h1 h2
  have hk : k.toNat < G.length := by omega
  have hrow : (G.map tx)[k.toNat]? = some (tx G[k.toNat]) := by rw [List.getElem?_map, List.getElem?_eq_getElem hk]; rfl
  obtain ⟨u, hu⟩ := hst.at hrow
  have hlen := hwid G[k.toNat] (List.getElem_mem _)
  refine ⟨_, u, by simpa using hu, by rw [tx_length]; omega, slice_blank (by omega) (by omega) (by omega) fun j hj1 hj2 => ?_⟩
  have := h k j (by omega) h2 (by omega) hj2
  unfold gch at this
  rwa [show G.getD k.toNat [] = G[k.toNat] by rw [List.getD_eq_getElem?_getD, List.getElem?_eq_getElem hk, Option.getD_some]] at this
end Mine
end Bk_part
section Srt_part
open PySem PySem.W PyProof.Rows PySem.Calls
namespace Mine
section
variable {prog : Program} {w : World} {A : Around} {E : Value → Shared → Prop} {s : Shared} {h₀ h₁ : Heap} {L : Addr} {m : Str → Option Value} {news held : List (Addr × Obj)} {rows : List (List Int)} {d : Nat}
abbrev noH : Heap := ⟨#[], {}⟩
theorem TupN.up {v : Value} {r : List Int} {held' : List (Addr × Obj)} (h : TupN noH held v r) (hs : ∀ q ∈ held, q ∈ held') : TupN h₀ held' v r := by
  obtain ⟨a, xs, e, ht, hi⟩ := h
  refine ⟨a, xs, e, ?_, hi⟩
  rcases ht with ⟨o, ho, _⟩ | ⟨o, hm, hx⟩
  · exact absurd (Heap.lt_size ho) (Nat.not_lt_zero _)
  · exact .inr ⟨o, hs _ hm, hx⟩
theorem Tups.up {vs : List Value} {held' : List (Addr × Obj)} (h : Tups noH held vs rows) (hs : ∀ q ∈ held, q ∈ held') : Tups h₀ held' vs rows := ⟨h.1, fun i hi => (h.2 i hi).up hs⟩
theorem Tups.snoc {vs : List Value} {v : Value} {r : List Int} (h : Tups h₀ held vs rows) (x : TupN h₀ held v r) : Tups h₀ held (vs ++ [v]) (rows ++ [r]) := by
  have hl := h.1
  refine ⟨by simp [hl], fun i hi => ?_⟩
  rw [List.length_append, List.length_singleton] at hi
  by_cases e : i < rows.length
  · have := h.2 i e
    rw [List.getD_eq_getElem?_getD, List.getD_eq_getElem?_getD, List.getElem?_append_left (by omega), List.getElem?_append_left e, ← List.getD_eq_getElem?_getD, ← List.getD_eq_getElem?_getD]
    exact this
  · have e' : i = rows.length := by omega
    subst e'
    rw [List.getD_eq_getElem?_getD, List.getD_eq_getElem?_getD, List.getElem?_append_right (by omega), List.getElem?_append_right (by omega), hl, Nat.sub_self]
    exact x
theorem lsort_tupsH {D : Addr} {its : Array Value} {n : Nat} {Q : Value → Shared → Prop} (F : Fr h₀ L s.heap m) (N : News h₀ L s.heap ((D, listOf its n) :: news)) (hD : ∀ q ∈ news, q.1 ≠ D) (ht : Tups noH held its.toList rows) (hs' : ∀ q ∈ held, q ∈ news) (hd : 0 < d) (hr : ∀ r ∈ rows, r.length = d) (hs : ∀ r ∈ rows, Small r)
    (h2 : 2 ≤ rows.length) (h64 : rows.length < 64)
    (h : ∀ out rows' c h', Fr h₀ L h' m → News h₀ L h' ((D, listOf (List.toArray out) c) :: news) → SortedTo noH held rows out rows' → Q .none { s with heap := h' }) :
    wpAny (model prog w) A (call (.builtin "list.sort") [.ref D]) Q E s := by
  have hl := ht.1
  have ht' : Tups h₀ news its.toList rows := ht.up hs'
  refine kat_lsort F N (.head hD) rfl (by omega) (by omega) fun e1 h' F' N' => ?_
  have N'' : News h₀ L h' news := fun q hq => N' q (.tail _ hq)
  refine tups_kind (s := { s with heap := h' }) F' N'' ht' hd hr (by omega) ?_
  refine tups_sort (s := { s with heap := h' }) F' N'' ht' hr hs (by omega) fun p ok ha => ?_
  exact KasFin.intro F' N' (.head hD) fun h₂ c F₂ N₂ => h _ _ c h₂ F₂ N₂ (sortedTo_of ht ok ha)
end
theorem crows_of {rows : List (List Int)} {cs : List (Int × Int)} (h : rows.Perm (cs.map crow)) : ∃ cs' : List (Int × Int), rows = cs'.map crow := by
  refine ⟨rows.map fun r => (r.getD 0 0, r.getD 1 0), ?_⟩
  rw [List.map_map]
  refine (List.map_congr_left (g := id) fun r hr => ?_).trans (List.map_id _) |>.symm
  obtain ⟨c, _, rfl⟩ := List.mem_map.mp (h.mem_iff.mp hr)
  rfl
end Mine
end Srt_part
section Srt2_part
open PySem PySem.W PyProof.Rows PySem.Calls
namespace Mine
theorem pt_sort {prog : Program} {w : World} {A : Around} {E : Value → Shared → Prop} {s : Shared} {g : Heap} {L : Addr} {m : Str → Option Value} {Q : Value → Shared → Prop} {cl T1 T2 y1 y2 y3 y4 y5 y6 y7 : Addr} {X q5 : Addr × Obj} {p1 p2 p3 p4 p5 p6 p7 : Obj} {R tups : List (Addr × Obj)} {vr : List Value} {c : Nat} {t l b r : Int} {u1 u2 u3 u4 : Tok} {rest : List (Int × Int)}
    (F : Fr g L s.heap m) (N : News g L s.heap (X :: (T2, tupOf [.int b u1, .int l u2]) :: (T1, tupOf [.int t u3, .int r u4]) :: q5 :: (cl, listOf (vr.toArray ++ #[.ref T1, .ref T2]) c) :: (y1, p1) :: (y2, p2) :: (y3, p3) :: (y4, p4) :: (y5, p5) :: (y6, p6) :: (y7, p7) :: R))
    (e1 : @Ne Nat T1 cl) (e2 : @Ne Nat T2 cl) (e5 : @Ne Nat q5.1 cl) (n1 : NE cl y1) (n2 : NE cl y2) (n3 : NE cl y3) (n4 : NE cl y4) (n5 : NE cl y5) (n6 : NE cl y6) (n7 : NE cl y7) (hR : ∀ p ∈ R, @Ne Nat p.1 cl)
    (hcor : Tups noH tups vr (rest.map crow)) (hs : ∀ q ∈ tups, q ∈ R) (hlen : rest.length + 2 < 64) (hsm : ∀ c ∈ rest ++ [(t, r), (b, l)], 0 ≤ c.1 ∧ c.1 < 100 ∧ 0 ≤ c.2 ∧ c.2 < 100)
    (h : ∀ out rows' c h', Fr g L h' m → News g L h' ((cl, listOf (List.toArray out) c) :: (T2, tupOf [.int b u1, .int l u2]) :: (T1, tupOf [.int t u3, .int r u4]) :: q5 :: (y1, p1) :: (y2, p2) :: (y3, p3) :: (y4, p4) :: (y5, p5) :: (y6, p6) :: (y7, p7) :: R) →
      SortedTo noH ((T2, tupOf [.int b u1, .int l u2]) :: (T1, tupOf [.int t u3, .int r u4]) :: tups) ((rest ++ [(t, r), (b, l)]).map crow) out rows' → Q .none { s with heap := h' }) :
    wpAny (model prog w) A (call (.builtin "list.sort") [.ref cl]) Q E s := by
  have hT : Tups noH ((T2, tupOf [.int b u1, .int l u2]) :: (T1, tupOf [.int t u3, .int r u4]) :: tups) (vr ++ [.ref T1] ++ [.ref T2]) (rest.map crow ++ [[t, r]] ++ [[b, l]]) := by
    refine ((hcor.up fun q hq => .tail _ (.tail _ hq)).snoc ⟨T1, _, rfl, .inr ⟨_, .tail _ (.head _), rfl, _, rfl⟩, .cons _ _ (.cons _ _ .nil)⟩).snoc ⟨T2, _, rfl, .inr ⟨_, .head _, rfl, _, rfl⟩, .cons _ _ (.cons _ _ .nil)⟩
  have e : (vr.toArray ++ #[Value.ref T1, Value.ref T2]).toList = vr ++ [.ref T1] ++ [.ref T2] := by simp
  have e' : (rest ++ [(t, r), (b, l)]).map crow = rest.map crow ++ [[t, r]] ++ [[b, l]] := by simp [crow]
  refine lsort_tupsH (n := c) (d := 2) (held := (T2, tupOf [.int b u1, .int l u2]) :: (T1, tupOf [.int t u3, .int r u4]) :: tups) (news := (T2, tupOf [.int b u1, .int l u2]) :: (T1, tupOf [.int t u3, .int r u4]) :: q5 :: (y1, p1) :: (y2, p2) :: (y3, p3) :: (y4, p4) :: (y5, p5) :: (y6, p6) :: (y7, p7) :: R) F (news_sub N fun q hq => ?_) ?_ (by rw [e]; exact hT) (fun q hq => ?_) (by decide) ?_ ?_ ?_ ?_ fun out rows' c h' F' N' hst => h out rows' c h' F' N' (e' ▸ hst)
  · rcases List.mem_cons.mp hq with rfl | hq
    · exact .tail _ (.tail _ (.tail _ (.tail _ (.head _))))
    rcases List.mem_cons.mp hq with rfl | hq
    · exact .tail _ (.head _)
    rcases List.mem_cons.mp hq with rfl | hq
    · exact .tail _ (.tail _ (.head _))
    rcases List.mem_cons.mp hq with rfl | hq
    · exact .tail _ (.tail _ (.tail _ (.head _)))
    exact .tail _ (.tail _ (.tail _ (.tail _ (.tail _ hq))))
  · refine List.forall_mem_cons.mpr ⟨e2, List.forall_mem_cons.mpr ⟨e1, List.forall_mem_cons.mpr ⟨e5, ?_⟩⟩⟩
    exact List.forall_mem_cons.mpr ⟨n1.flip, List.forall_mem_cons.mpr ⟨n2.flip, List.forall_mem_cons.mpr ⟨n3.flip, List.forall_mem_cons.mpr ⟨n4.flip, List.forall_mem_cons.mpr ⟨n5.flip, List.forall_mem_cons.mpr ⟨n6.flip, List.forall_mem_cons.mpr ⟨n7.flip, hR⟩⟩⟩⟩⟩⟩⟩
  · rcases List.mem_cons.mp hq with rfl | hq
    · exact .head _
    rcases List.mem_cons.mp hq with rfl | hq
    · exact .tail _ (.head _)
    exact .tail _ (.tail _ (.tail _ (.tail _ (.tail _ (.tail _ (.tail _ (.tail _ (.tail _ (.tail _ (hs q hq))))))))))
  · rw [← e']; intro x hx
    obtain ⟨c, _, rfl⟩ := List.mem_map.mp hx; rfl
  · rw [← e']; intro x hx
    obtain ⟨c, hc, rfl⟩ := List.mem_map.mp hx
    obtain ⟨a1, a2, a3, a4⟩ := hsm c hc
    intro z hz
    simp only [crow, List.mem_cons, List.not_mem_nil, or_false] at hz
    rcases hz with rfl | rfl
    · exact ⟨a1, a2⟩
    · exact ⟨a3, a4⟩
  · simp
  · simp; omega
end Mine
end Srt2_part
section PTa_part
open PySem PySem.W PyProof.Rows PySem.Calls
namespace Mine
def gp9 (P : Params) (blk : Addr) (H W : Int) (dn cl rs cs sb : Addr) (b1 b2 t1 t2 t3 t4 t5 t6 t7 t8 t9 : Tok) : List DictEntry :=
  gpEs P blk H W dn cl rs cs b1 b2 t1 t2 t3 t4 t5 t6 t7 t8 ++ [⟨PyData.keyHash P "stripped_block", .str "stripped_block" t9, .ref sb⟩]
def CellsL (held : List (Addr × Obj)) (vs : List Value) (cells : List (List Int)) : Prop :=
  vs.length = cells.length ∧ ∀ i, i < cells.length → ∃ T t l b r u1 u2 u3 u4 bl, vs[i]? = some (.ref T) ∧ cells[i]? = some [t, l, b, r] ∧ (T, tupOf [.int t u1, .int l u2, .int b u3, .int r u4, .ref bl]) ∈ held
def Dis (a b : List (Addr × Obj)) : Prop := ∀ p ∈ a, ∀ q ∈ b, @Ne Nat p.1 q.1
structure PLed (prog : Program) (w : World) (dn ce rs cs sf dx : Addr) (es : List DictEntry) (n : Nat) (sb : Addr) (sbo : Obj) (cl : Addr) (st : PS) (vs : List Value) (c : Nat) (ds : List Value) (c2 : Nat) (cv : List Value) (c3 : Nat) (o1 o2 : Obj) (l1 l2 tups : List (Addr × Obj)) : Prop where
  cor : Tups ⟨#[], {}⟩ tups vs (st.corners.map crow)
  don : IntsAre ds st.done
  cel : CellsL tups cv st.cells
  row : DL prog w o1 l1 st.rk (1 + 12800 * st.cells.length)
  col : DL prog w o2 l2 st.ck (1 + 12800 * st.cells.length)
  a1 : Dis [(cl, o1), (dn, o1), (ce, o1), (rs, o1), (cs, o1), (sb, o1), (sf, o1), (dx, o1)] l1
  a2 : Dis [(cl, o1), (dn, o1), (ce, o1), (rs, o1), (cs, o1), (sb, o1), (sf, o1), (dx, o1)] l2
  a3 : Dis [(cl, o1), (dn, o1), (ce, o1), (rs, o1), (cs, o1), (sb, o1), (sf, o1), (dx, o1)] tups
  a4 : Dis l1 l2
  a5 : Dis l1 tups
  a6 : Dis l2 tups
theorem PLed.apart {prog : Program} {w : World} {dn ce rs cs sf dx : Addr} {es : List DictEntry} {n : Nat} {sb : Addr} {sbo : Obj} {cl : Addr} {st : PS} {vs : List Value} {c : Nat} {ds : List Value} {c2 : Nat} {cv : List Value} {c3 : Nat} {o1 o2 : Obj} {l1 l2 tups : List (Addr × Obj)}
    (h : PLed prog w dn ce rs cs sf dx es n sb sbo cl st vs c ds c2 cv c3 o1 o2 l1 l2 tups) : ∀ x ∈ [cl, dn, ce, rs, cs, sb, sf, dx], ∀ p ∈ l1 ++ (l2 ++ tups), p.1 ≠ x := by
  intro x hx p hp
  have key : ∀ {l : List (Addr × Obj)}, Dis [(cl, o1), (dn, o1), (ce, o1), (rs, o1), (cs, o1), (sb, o1), (sf, o1), (dx, o1)] l → p ∈ l → p.1 ≠ x := fun {l} hd hm => by
    have hq : (x, o1) ∈ [(cl, o1), (dn, o1), (ce, o1), (rs, o1), (cs, o1), (sb, o1), (sf, o1), (dx, o1)] := by
      simp only [List.mem_cons, List.not_mem_nil, or_false, Prod.mk.injEq, and_true] at hx ⊢
      exact hx
    exact Ne.symm (hd _ hq _ hm)
  rcases List.mem_append.mp hp with hp | hp
  · exact key h.a1 hp
  · rcases List.mem_append.mp hp with hp | hp
    · exact key h.a2 hp
    · exact key h.a3 hp
theorem pt_news {g h : Heap} {L : Addr} {q1 q2 q3 q4 q5 q6 q7 q8 q9 q10 q11 : Addr × Obj} (N : News g L h [q1, q2, q3, q4, q5, q6, q7, q8, q9, q10, q11]) : News g L h (q1 :: q5 :: q4 :: q6 :: q7 :: q3 :: q8 :: q9 :: ([q10] ++ ([q11] ++ [q2]))) :=
  news_sub N fun q hq => by
    simp only [List.cons_append, List.nil_append, List.mem_cons, List.not_mem_nil, or_false] at hq ⊢
    rcases hq with h | h | h | h | h | h | h | h | h | h | h <;> simp only [h, true_or, or_true]
theorem inst_of {g : Heap} {x dx C : Addr} {o : Obj} (h1 : g.get? x = some (instObj C dx)) (h2 : g.get? dx = some o) : InstAt g x (instObj C dx) C (some o) := ⟨h1, rfl, rfl, h2⟩
theorem take_snoc {l : List Value} {i : Nat} {v : Value} (h : l[i]? = some v) : l.take i ++ [v] = l.take (i + 1) := by
  rw [List.take_add_one, h]; rfl
theorem Dis.nil {b : List (Addr × Obj)} : Dis [] b := fun _ h => nomatch h
theorem Dis.cons {a : Addr} {o : Obj} {r b : List (Addr × Obj)} (h : ∀ p ∈ b, @Ne Nat a p.1) (t : Dis r b) : Dis ((a, o) :: r) b := List.forall_mem_cons.mpr ⟨h, t⟩
theorem PLed.pop {prog : Program} {w : World} {dn ce rs cs sf dx : Addr} {es : List DictEntry} {n : Nat} {sb : Addr} {sbo : Obj} {cl : Addr} {st : PS} {v : Value} {vs : List Value} {c c' : Nat} {ds : List Value} {c2 : Nat} {cv : List Value} {c3 : Nat} {o1 o2 : Obj} {l1 l2 tups : List (Addr × Obj)} {t l : Int} {rest : List (Int × Int)}
    (h : PLed prog w dn ce rs cs sf dx es n sb sbo cl st (v :: vs) c ds c2 cv c3 o1 o2 l1 l2 tups) (hc : st.corners = (t, l) :: rest) : PLed prog w dn ce rs cs sf dx es n sb sbo cl ⟨rest, st.done, st.cells, st.rk, st.ck⟩ vs c' ds c2 cv c3 o1 o2 l1 l2 tups := by
  refine ⟨?_, h.don, h.cel, h.row, h.col, h.a1, h.a2, h.a3, h.a4, h.a5, h.a6⟩
  obtain ⟨h1, h2⟩ := h.cor
  rw [hc] at h1 h2
  refine ⟨by simpa using h1, fun i hi => ?_⟩
  have := h2 (i + 1) (by simpa using hi)
  simpa using this
theorem Dis.nd {nc rest : List (Addr × Obj)} (h : Dis nc rest) : ∀ q ∈ rest, q.1 ∉ nc.map (·.1) := fun q hq hm => by
  obtain ⟨p, hp, e⟩ := List.mem_map.mp hm
  exact h p hp q hq e
theorem Dis.symm {a b : List (Addr × Obj)} (h : Dis a b) : Dis b a := fun p hp q hq e => h q hq p hp e.symm
theorem Dis.app {a b c : List (Addr × Obj)} (h : Dis a b) (h' : Dis a c) : Dis a (b ++ c) := fun p hp q hq => (List.mem_append.mp hq).elim (h p hp q) (h' p hp q)
theorem Dis.cr {a b : List (Addr × Obj)} {x : Addr} {o : Obj} (h : ∀ p ∈ a, @Ne Nat p.1 x) (t : Dis a b) : Dis a ((x, o) :: b) := fun p hp q hq => by
  rcases List.mem_cons.mp hq with rfl | hq
  · exact h p hp
  · exact t p hp q hq
theorem Dis.nr {a : List (Addr × Obj)} : Dis a [] := fun _ _ _ h => nomatch h
theorem Dis.sub {a a' b b' : List (Addr × Obj)} (h : Dis a b) (ha : ∀ q ∈ a', q ∈ a) (hb : ∀ q ∈ b', q ∈ b) : Dis a' b' := fun p hp q hq => h p (ha p hp) q (hb q hq)
theorem nd8 {x y1 y2 y3 y4 y5 y6 y7 : Addr} {o p1 p2 p3 p4 p5 p6 p7 : Obj} {ls tl : List (Addr × Obj)} (n1 : NE x y1) (n2 : NE x y2) (n3 : NE x y3) (n4 : NE x y4) (n5 : NE x y5) (n6 : NE x y6) (n7 : NE x y7)
    (h1 : ∀ p ∈ ls, @Ne Nat p.1 y1 ∧ @Ne Nat p.1 y2 ∧ @Ne Nat p.1 y3 ∧ @Ne Nat p.1 y4 ∧ @Ne Nat p.1 y5 ∧ @Ne Nat p.1 y6 ∧ @Ne Nat p.1 y7) (h2 : ∀ p ∈ tl, @Ne Nat p.1 x) (h3 : Dis ls tl) :
    ∀ q ∈ (y1, p1) :: (y2, p2) :: (y3, p3) :: (y4, p4) :: (y5, p5) :: (y6, p6) :: (y7, p7) :: tl, q.1 ∉ ((x, o) :: ls).map (·.1) := by
  refine Dis.nd (Dis.cons ?_ ?_)
  · exact apart_cons n1.out (apart_cons n2.out (apart_cons n3.out (apart_cons n4.out (apart_cons n5.out (apart_cons n6.out (apart_cons n7.out fun p hp => Ne.symm (h2 p hp)))))))
  · exact Dis.cr (fun p hp => (h1 p hp).1) (Dis.cr (fun p hp => (h1 p hp).2.1) (Dis.cr (fun p hp => (h1 p hp).2.2.1) (Dis.cr (fun p hp => (h1 p hp).2.2.2.1) (Dis.cr (fun p hp => (h1 p hp).2.2.2.2.1) (Dis.cr (fun p hp => (h1 p hp).2.2.2.2.2.1) (Dis.cr (fun p hp => (h1 p hp).2.2.2.2.2.2) h3))))))
theorem new8 {x y1 y2 y3 y4 y5 y6 y7 : Addr} {o p1 p2 p3 p4 p5 p6 p7 : Obj} {ls tl : List (Addr × Obj)} (hap : ∀ q ∈ (x, o) :: ls, ∀ q' ∈ (y1, p1) :: (y2, p2) :: (y3, p3) :: (y4, p4) :: (y5, p5) :: (y6, p6) :: (y7, p7) :: tl, q.1 ≠ q'.1) :
    (∀ p ∈ ls, @Ne Nat p.1 y1 ∧ @Ne Nat p.1 y2 ∧ @Ne Nat p.1 y3 ∧ @Ne Nat p.1 y4 ∧ @Ne Nat p.1 y5 ∧ @Ne Nat p.1 y6 ∧ @Ne Nat p.1 y7) ∧ Dis ls tl := by
  refine ⟨fun p hp => ?_, fun p hp q hq => hap p (.tail _ hp) q (.tail _ (.tail _ (.tail _ (.tail _ (.tail _ (.tail _ (.tail _ hq)))))))⟩
  have h := hap p (.tail _ hp)
  simp only [List.forall_mem_cons] at h
  obtain ⟨h1, h2, h3, h4, h5, h6, h7, _⟩ := h
  exact ⟨h1, h2, h3, h4, h5, h6, h7⟩
def D8 (a b c d e f g h : Addr) (l : List (Addr × Obj)) : Prop := ∀ p ∈ l, @Ne Nat p.1 a ∧ @Ne Nat p.1 b ∧ @Ne Nat p.1 c ∧ @Ne Nat p.1 d ∧ @Ne Nat p.1 e ∧ @Ne Nat p.1 f ∧ @Ne Nat p.1 g ∧ @Ne Nat p.1 h
theorem D8.app {a b c d e f g h : Addr} {l l' : List (Addr × Obj)} (x : D8 a b c d e f g h l) (y : D8 a b c d e f g h l') : D8 a b c d e f g h (l ++ l') := fun p hp => (List.mem_append.mp hp).elim (x p) (y p)
theorem D8.of {a b c d e f g h : Addr} {l : List (Addr × Obj)} (x : ∀ z ∈ [a, b, c, d, e, f, g, h], ∀ p ∈ l, p.1 ≠ z) : D8 a b c d e f g h l := fun p hp =>
  ⟨x a (by simp) p hp, x b (by simp) p hp, x c (by simp) p hp, x d (by simp) p hp, x e (by simp) p hp, x f (by simp) p hp, x g (by simp) p hp, x h (by simp) p hp⟩
def PJ (prog : Program) (w : World) (blk : Addr) (H W : Int) (dn ce rs cs sf dx D cl : Addr) (b1 b2 y1 y2 y3 y4 y5 y6 y7 y8 : Tok) (vs : List Value) (Inv : Nat → PS → Prop) (k : Nat) (led : List (Addr × Obj)) : Prop :=
  ∃ st vc c1 ds' c2 cv c3 o1' o2' ls1 ls2 tups y9, Inv k st ∧
    led = (cl, listOf (List.toArray vc) c1) :: (dn, listOf (List.toArray ds') c2) :: (ce, listOf (List.toArray cv) c3) :: (rs, o1') :: (cs, o2') :: (D, listOf vs.toArray vs.length) :: (sf, instObj 245 dx) :: (dx, dictOf (gp9 w.params blk H W dn ce rs cs D b1 b2 y1 y2 y3 y4 y5 y6 y7 y8 y9) 9) :: (ls1 ++ (ls2 ++ tups)) ∧
    PLed prog w dn ce rs cs sf dx [] 0 D o1' cl st vc c1 ds' c2 cv c3 o1' o2' ls1 ls2 tups
theorem pt_skip {prog : Program} {w : World} {g h' : Heap} {L : Addr} {m' m₀ : Str → Option Value} {s : Shared} {Q : Flow → Shared → Prop} {stored : List Str} {tk : Nat} {blk dn ce rs cs sf dx D cl : Addr} {H W : Int} {b1 b2 y1 y2 y3 y4 y5 y6 y7 y8 y9 : Tok} {vs : List Value} {Inv : Nat → PS → Prop} {k : Nat}
    {st : PS} {v : Value} {vc : List Value} {c1 c1' : Nat} {ds' : List Value} {c2 : Nat} {cv : List Value} {c3 : Nat} {o1' o2' : Obj} {ls1 ls2 tups R : List (Addr × Obj)} {t l : Int} {rest : List (Int × Int)} {q : Addr × Obj}
    (F : Fr g L h' m') (N : News g L h' (q :: (cl, listOf (List.toArray vc) c1) :: (dn, listOf (List.toArray ds') c2) :: (ce, listOf (List.toArray cv) c3) :: (rs, o1') :: (cs, o2') :: (D, listOf vs.toArray vs.length) :: (sf, instObj 245 dx) :: (dx, dictOf (gp9 w.params blk H W dn ce rs cs D b1 b2 y1 y2 y3 y4 y5 y6 y7 y8 y9) 9) :: R))
    (hR : ls1 ++ (ls2 ++ tups) = R) (hP : PLed prog w dn ce rs cs sf dx [] 0 D o1' cl st (v :: vc) c1' ds' c2 cv c3 o1' o2' ls1 ls2 tups) (hc : st.corners = (t, l) :: rest)
    (hs : ∃ k', k' < k ∧ Inv k' ⟨rest, st.done, st.cells, st.rk, st.ck⟩) (hm : ∀ y, y ∉ stored → m' y = m₀ y) :
    WTurned g L stored m₀ (fun led => ∃ k', k' < k ∧ PJ prog w blk H W dn ce rs cs sf dx D cl b1 b2 y1 y2 y3 y4 y5 y6 y7 y8 vs Inv k' led) s Q .cont { s with heap := h', toks := tk } := by
  subst hR
  obtain ⟨k', hk, hI⟩ := hs
  exact WTurned.cont F (news_sub N fun q hq => .tail _ hq) hm ⟨k', hk, _, _, _, _, _, _, _, _, _, _, _, _, _, hI, rfl, hP.pop hc⟩
theorem CellsL.snoc {held held' : List (Addr × Obj)} {vs : List Value} {cells : List (List Int)} (h : CellsL held vs cells) (hs : ∀ q ∈ held, q ∈ held') {T : Addr} {t l b r : Int} {u1 u2 u3 u4 : Tok} {bl : Addr} (hT : (T, tupOf [.int t u1, .int l u2, .int b u3, .int r u4, .ref bl]) ∈ held') :
    CellsL held' (vs ++ [.ref T]) (cells ++ [[t, l, b, r]]) := by
  obtain ⟨h1, h2⟩ := h
  refine ⟨by simp [h1], fun i hi => ?_⟩
  rw [List.length_append, List.length_singleton] at hi
  by_cases e : i < cells.length
  · obtain ⟨T', t', l', b', r', u1', u2', u3', u4', bl', e1, e2, e3⟩ := h2 i e
    exact ⟨T', t', l', b', r', u1', u2', u3', u4', bl', by rw [List.getElem?_append_left (by omega)]; exact e1, by rw [List.getElem?_append_left e]; exact e2, hs _ e3⟩
  · have e' : i = cells.length := by omega
    subst e'
    refine ⟨T, t, l, b, r, u1, u2, u3, u4, bl, ?_, ?_, hT⟩
    · rw [List.getElem?_append_right (by omega), h1, Nat.sub_self]; rfl
    · rw [List.getElem?_append_right (by omega), Nat.sub_self]; rfl
theorem D8.dis {a b c d e f g h : Addr} {o : Obj} {l : List (Addr × Obj)} (x : D8 a b c d e f g h l) : Dis [(a, o), (b, o), (c, o), (d, o), (e, o), (f, o), (g, o), (h, o)] l :=
  Dis.cons (fun p hp => Ne.symm (x p hp).1) (Dis.cons (fun p hp => Ne.symm (x p hp).2.1) (Dis.cons (fun p hp => Ne.symm (x p hp).2.2.1) (Dis.cons (fun p hp => Ne.symm (x p hp).2.2.2.1) (Dis.cons (fun p hp => Ne.symm (x p hp).2.2.2.2.1) (Dis.cons (fun p hp => Ne.symm (x p hp).2.2.2.2.2.1) (Dis.cons (fun p hp => Ne.symm (x p hp).2.2.2.2.2.2.1) (Dis.cons (fun p hp => Ne.symm (x p hp).2.2.2.2.2.2.2) Dis.nil)))))))
theorem D8.sw {a b c d e f g h : Addr} {l : List (Addr × Obj)} (x : D8 a b c d e f g h l) : D8 a b c d e f g h l := x
theorem allLt_to {d : Nat} : ∀ {l : List (Addr × Obj)}, AllLt d l → ∀ p ∈ l, p.1 < d
  | [], _, _, hq => nomatch hq
  | p :: _, h, q, hq => by
    rcases List.mem_cons.mp hq with rfl | hq
    · exact h.1
    · exact allLt_to h.2 q hq
theorem alllt_dis {T : Addr} {o : Obj} {l r : List (Addr × Obj)} (h : AllLt T l) (t : Dis l r) : Dis l ((T, o) :: r) := Dis.cr (fun p hp => Nat.ne_of_lt (allLt_to h p hp)) t
theorem pt_turn {prog : Program} {w : World} {g h' : Heap} {L : Addr} {m' m₀ : Str → Option Value} {s : Shared} {Q : Flow → Shared → Prop} {stored : List Str} {tk : Nat} {blk dn ce rs cs sf dx D cl : Addr} {H W : Int} {b1 b2 y1 y2 y3 y4 y5 y6 y7 y8 y9 : Tok} {vs : List Value} {Inv : Nat → PS → Prop} {k : Nat}
    {st : PS} {v : Value} {vc out : List Value} {rows' : List (List Int)} {c1 c1' : Nat} {ds' ds2 : List Value} {c2 : Nat} {cv : List Value} {c3 : Nat} {o1' o2' o1n o2n : Obj} {ls1 ls2 ls1n ls2n tups R : List (Addr × Obj)} {t l b r : Int} {rest : List (Int × Int)} {rk2 ck2 : List Int} {T5 T1 T2 bl : Addr} {t1o t2o : Obj} {u1 u2 u3 u4 : Tok}
    (F : Fr g L h' m') (N : News g L h' ((cl, listOf (List.toArray out) c1) :: (T2, t2o) :: (T1, t1o) :: (T5, tupOf [.int t u1, .int l u2, .int b u3, .int r u4, .ref bl]) :: (dn, listOf (List.toArray ds2) c2) :: (ce, listOf (cv.toArray.push (.ref T5)) (c3 + 1)) :: (rs, o1n) :: (cs, o2n) :: (D, listOf vs.toArray vs.length) :: (sf, instObj 245 dx) :: (dx, dictOf (gp9 w.params blk H W dn ce rs cs D b1 b2 y1 y2 y3 y4 y5 y6 y7 y8 y9) 9) :: R))
    (hR : ls1n ++ (ls2n ++ tups) = R) (hP : PLed prog w dn ce rs cs sf dx [] 0 D o1' cl st (v :: vc) c1' ds' c2 cv c3 o1' o2' ls1 ls2 tups)
    (hsort : SortedTo noH ((T2, t2o) :: (T1, t1o) :: tups) ((rest ++ [(t, r), (b, l)]).map crow) out rows')
    (hs : ∀ cs' : List (Int × Int), (cs'.map crow).Perm ((rest ++ [(t, r), (b, l)]).map crow) → (cs'.map crow).Pairwise (fun a b => codeOf a ≤ codeOf b) →
        ∃ k', k' < k ∧ Inv k' ⟨cs', markDone st.done l (b - 1) (r - l).toNat, st.cells ++ [[t, l, b, r]], rk2.foldl addKey st.rk, ck2.foldl addKey st.ck⟩)
    (hdon : IntsAre ds2 (markDone st.done l (b - 1) (r - l).toNat))
    (hrow : DL prog w o1n ls1n (rk2.foldl addKey st.rk) (1 + 12800 * st.cells.length + 100 * rk2.length)) (hcol : DL prog w o2n ls2n (ck2.foldl addKey st.ck) (1 + 12800 * st.cells.length + 100 * ck2.length)) (hrk : rk2.length ≤ 128) (hck : ck2.length ≤ 128)
    (d1 : D8 cl dn ce rs cs D sf dx ls1n) (d2 : D8 cl dn ce rs cs D sf dx ls2n) (d3 : D8 cl dn ce rs cs D sf dx tups) (e12 : Dis ls1n ls2n) (e13 : Dis ls1n tups) (e23 : Dis ls2n tups)
    (dT : D8 cl dn ce rs cs D sf dx [(T2, t2o), (T1, t1o), (T5, tupOf [.int t u1, .int l u2, .int b u3, .int r u4, .ref bl])]) (a5 : AllLt T5 R) (a1 : AllLt T1 R) (a2 : AllLt T2 R)
    (hm : ∀ y, y ∉ stored → m' y = m₀ y) :
    WTurned g L stored m₀ (fun led => ∃ k', k' < k ∧ PJ prog w blk H W dn ce rs cs sf dx D cl b1 b2 y1 y2 y3 y4 y5 y6 y7 y8 vs Inv k' led) s Q .next { s with heap := h', toks := tk } := by
  subst hR
  obtain ⟨cs', rfl⟩ := crows_of hsort.perm
  obtain ⟨k', hk, hI⟩ := hs cs' hsort.perm hsort.asc
  have dN : D8 cl dn ce rs cs D sf dx ((T2, t2o) :: (T1, t1o) :: (T5, tupOf [.int t u1, .int l u2, .int b u3, .int r u4, .ref bl]) :: tups) := fun p hp => by
    rcases List.mem_append.mp (show p ∈ [(T2, t2o), (T1, t1o), (T5, tupOf [.int t u1, .int l u2, .int b u3, .int r u4, .ref bl])] ++ tups from hp) with hp | hp
    · exact dT p hp
    · exact d3 p hp
  have sp : ∀ {T : Addr}, AllLt T (ls1n ++ (ls2n ++ tups)) → AllLt T ls1n ∧ AllLt T ls2n := fun h => ⟨allLt_of fun q hq => allLt_to h q (List.mem_append_left _ hq), allLt_of fun q hq => allLt_to h q (List.mem_append_right _ (List.mem_append_left _ hq))⟩
  rw [List.push_toArray] at N
  refine WTurned.next F (news' := (cl, listOf (List.toArray out) c1) :: (dn, listOf (List.toArray ds2) c2) :: (ce, listOf (List.toArray (cv ++ [.ref T5])) (c3 + 1)) :: (rs, o1n) :: (cs, o2n) :: (D, listOf vs.toArray vs.length) :: (sf, instObj 245 dx) :: (dx, dictOf (gp9 w.params blk H W dn ce rs cs D b1 b2 y1 y2 y3 y4 y5 y6 y7 y8 y9) 9) :: (ls1n ++ (ls2n ++ ((T2, t2o) :: (T1, t1o) :: (T5, tupOf [.int t u1, .int l u2, .int b u3, .int r u4, .ref bl]) :: tups)))) (news_sub N fun q hq => ?_) hm ⟨k', hk, _, out, c1, ds2, c2, cv ++ [.ref T5], c3 + 1, o1n, o2n, ls1n, ls2n, _, y9, hI, rfl, ?_⟩
  · have far : q ∈ ls1n ++ (ls2n ++ tups) → q ∈ ((cl, listOf (List.toArray out) c1) :: (T2, t2o) :: (T1, t1o) :: (T5, tupOf [.int t u1, .int l u2, .int b u3, .int r u4, .ref bl]) :: (dn, listOf (List.toArray ds2) c2) :: (ce, listOf (List.toArray (cv ++ [.ref T5])) (c3 + 1)) :: (rs, o1n) :: (cs, o2n) :: (D, listOf vs.toArray vs.length) :: (sf, instObj 245 dx) :: (dx, dictOf (gp9 w.params blk H W dn ce rs cs D b1 b2 y1 y2 y3 y4 y5 y6 y7 y8 y9) 9) :: (ls1n ++ (ls2n ++ tups))) := fun h =>
      .tail _ (.tail _ (.tail _ (.tail _ (.tail _ (.tail _ (.tail _ (.tail _ (.tail _ (.tail _ (.tail _ h))))))))))
    rcases List.mem_cons.mp hq with rfl | hq
    · exact .head _
    rcases List.mem_cons.mp hq with rfl | hq
    · exact .tail _ (.tail _ (.tail _ (.tail _ (.head _))))
    rcases List.mem_cons.mp hq with rfl | hq
    · exact .tail _ (.tail _ (.tail _ (.tail _ (.tail _ (.head _)))))
    rcases List.mem_cons.mp hq with rfl | hq
    · exact .tail _ (.tail _ (.tail _ (.tail _ (.tail _ (.tail _ (.head _))))))
    rcases List.mem_cons.mp hq with rfl | hq
    · exact .tail _ (.tail _ (.tail _ (.tail _ (.tail _ (.tail _ (.tail _ (.head _)))))))
    rcases List.mem_cons.mp hq with rfl | hq
    · exact .tail _ (.tail _ (.tail _ (.tail _ (.tail _ (.tail _ (.tail _ (.tail _ (.head _))))))))
    rcases List.mem_cons.mp hq with rfl | hq
    · exact .tail _ (.tail _ (.tail _ (.tail _ (.tail _ (.tail _ (.tail _ (.tail _ (.tail _ (.head _)))))))))
    rcases List.mem_cons.mp hq with rfl | hq
    · exact .tail _ (.tail _ (.tail _ (.tail _ (.tail _ (.tail _ (.tail _ (.tail _ (.tail _ (.tail _ (.head _))))))))))
    rcases List.mem_append.mp hq with hq | hq
    · exact far (List.mem_append_left _ hq)
    rcases List.mem_append.mp hq with hq | hq
    · exact far (List.mem_append_right _ (List.mem_append_left _ hq))
    rcases List.mem_cons.mp hq with rfl | hq
    · exact .tail _ (.head _)
    rcases List.mem_cons.mp hq with rfl | hq
    · exact .tail _ (.tail _ (.head _))
    rcases List.mem_cons.mp hq with rfl | hq
    · exact .tail _ (.tail _ (.tail _ (.head _)))
    exact far (List.mem_append_right _ (List.mem_append_right _ hq))
  · refine ⟨⟨hsort.tups.1, fun i hi => (hsort.tups.2 i hi).mono fun q hq => ?_⟩, hdon, hP.cel.snoc (fun q hq => .tail _ (.tail _ (.tail _ hq))) (.tail _ (.tail _ (.head _))), hrow.mono (fun _ h => h) ?_, hcol.mono (fun _ h => h) ?_, d1.dis, d2.dis, dN.dis, e12, ?_, ?_⟩
    · rcases List.mem_cons.mp hq with rfl | hq
      · exact .head _
      rcases List.mem_cons.mp hq with rfl | hq
      · exact .tail _ (.head _)
      exact .tail _ (.tail _ (.tail _ hq))
    · dsimp only
      rw [List.length_append, List.length_singleton]; omega
    · dsimp only
      rw [List.length_append, List.length_singleton]; omega
    · exact alllt_dis (sp a2).1 (alllt_dis (sp a1).1 (alllt_dis (sp a5).1 e13))
    · exact alllt_dis (sp a2).2 (alllt_dis (sp a1).2 (alllt_dis (sp a5).2 e23))
def PZ (prog : Program) (w : World) (blk : Addr) (H W : Int) (dn ce rs cs sf dx : Addr) (b1 b2 y1 y2 y3 y4 y5 y6 y7 y8 : Tok) (vs : List Value) (Inv : Nat → PS → Prop) (led : List (Addr × Obj)) : Prop :=
  ∃ cl D k st vc c1 ds' c2 cv c3 o1' o2' ls1 ls2 tups y9, Inv k st ∧ st.corners = [] ∧
    led = (cl, listOf (List.toArray vc) c1) :: (dn, listOf (List.toArray ds') c2) :: (ce, listOf (List.toArray cv) c3) :: (rs, o1') :: (cs, o2') :: (D, listOf vs.toArray vs.length) :: (sf, instObj 245 dx) :: (dx, dictOf (gp9 w.params blk H W dn ce rs cs D b1 b2 y1 y2 y3 y4 y5 y6 y7 y8 y9) 9) :: (ls1 ++ (ls2 ++ tups)) ∧
    PLed prog w dn ce rs cs sf dx [] 0 D o1' cl st vc c1 ds' c2 cv c3 o1' o2' ls1 ls2 tups
end Mine
end PTa_part
section PT_part
open PySem PySem.W PyProof.Rows PySem.Calls
namespace Mine
local macro_rules | `(tactic| k_in) => `(tactic| exact Frag.In.keeps (by with_reducible assumption) (Fr.keep (by with_reducible assumption)))
local macro_rules | `(tactic| k_all) => `(tactic| assumption)
local macro_rules | `(tactic| walk_at "pyIter ref") => `(tactic| refine Hold.of ?_)
local macro_rules | `(tactic| walk_at "call ref") => `(tactic| refine Hold.of ?_)
local macro_rules | `(tactic| walk_at "exec For") => `(tactic| (with_unfolding_all refine' For_run ?_))
local macro_rules | `(tactic| walk_at "exec For Name Call cons nil") => `(tactic| (with_unfolding_all refine' For_run ?_))
local macro_rules | `(tactic| walk_at "exec For Tuple Call cons nil") => `(tactic| (with_unfolding_all refine' For_run ?_))
local macro_rules | `(tactic| walk_at "getAttr ref") => `(tactic| (k_dflt (refine' get_own ?k1 ?k2 (inst_up ?k3 (Fr.keep ?k1)) ?k4 ?k5 ?k6 ?k7 ?k8 ?k9 ?_; (case k1 => k_asm); (case k2 => k_asm); (case k3 => k_asm); (case k4 => k_is); (case k5 => k_is); (case k6 => k_is); (case k7 => k_is); (case k8 => k_asm); (case k9 => k_handed); k_whole)))
local macro_rules | `(tactic| walk_at "eval Name") => `(tactic| ((with_reducible show wpAny _ _ (eval _ (envOfC _ _ _ _ _)) _ _ _); k_dflt (refine' nameX_L ?F ?v ?_ ?a ?b ?d; (case F => k_asm); (case v => rfl); (case a => kernel_rfl); (case b => kernel_rfl); (case d => kernel_rfl); k_whole)))
local macro_rules | `(tactic| walk_at "eval Name") => `(tactic| ((with_reducible show wpAny _ _ (eval _ (envOf _ _ _ _ _)) _ _ _); k_dflt (refine' ld ?k1 ?k2 ?_ ?k3 ?k4 ?k5; (case k1 => k_asm); (case k2 => exact rfl); (case k3 => kernel_rfl); (case k4 => kernel_rfl); (case k5 => kernel_rfl); k_whole)))
local macro_rules | `(tactic| walk_at "Turned") => `(tactic| first | refine Turned.ret ?_ | refine Turned.brk ?_)
local macro_rules | `(tactic| walk_at "go") => `(tactic| repeat' (first | (k_unfold; (try dsimp only)) | walk1 | (dsimp only; walk1) | (dsimp only; k_unfold; (try dsimp only))))
local macro_rules | `(tactic| walk_at "kf") => `(tactic| ((with_reducible show wpAny _ _ _ _ _ _); k_fold))
local macro_rules | `(tactic| walk_at "locals") => `(tactic| (intro y h1 h2; simp only [List.mem_cons, List.not_mem_nil, or_false, not_or] at h1 h2; simp [h1, h2]))
local macro_rules | `(tactic| walk_at "eval ListComp") => `(tactic| (k_dflt (refine ListComp_runF (by k_asm) (by with_unfolding_all rfl) (by rfl) (by decide) ?_)))
local macro_rules | `(tactic| walk_at "exec Assign cons ListComp") => `(tactic| ((with_reducible show wpAny _ _ (exec (Stmt.Assign [Expr.Name _ _] _ _) _) _ _ _); k_dflt (refine Assign_ListComp_runF (by k_asm) (by with_unfolding_all rfl) (by with_unfolding_all rfl) (by rfl) (by decide) (by rfl) (by rfl) (by rfl) ?_)))
local macro_rules | `(tactic| walk_at "exec Assign cons ListComp") => `(tactic| ((with_reducible show wpAny _ _ (exec (Stmt.Assign [Expr.Attribute _ _ _] _ _) _) _ _ _); walk_at "exec Assign"))
local macro_rules | `(tactic| walk_at "sub") => `(tactic| first | exact List.forall_mem_nil _ | refine List.forall_mem_cons.mpr ⟨by k_mem, by walk_at "sub"⟩)
local macro_rules | `(tactic| walk_at "hnd1") => `(tactic| first | exact apart_nil | refine apart_cons (by k_ne) (by walk_at "hnd1"))
local macro_rules | `(tactic| walk_at "hnd2") => `(tactic| first | exact Apart.nil | refine Apart.cons (by walk_at "hnd1") (by walk_at "hnd2"))
local macro_rules | `(tactic| walk_at "hnd") => `(tactic| exact Apart.nd (by walk_at "hnd2"))
local macro_rules | `(tactic| k_ne) => `(tactic| first | exact NE.out (by assumption) | exact NE.flip (by assumption) | (refine neN ?_; (try dsimp only); omega))
local macro_rules | `(tactic| walk_at "mem") => `(tactic| first | exact List.Mem.head _ | (refine List.Mem.tail _ ?_; walk_at "mem"))
local macro_rules | `(tactic| walk_at "dis") => `(tactic| first | exact Dis.nil | refine Dis.cons (by walk_at "hnd1") (by walk_at "dis"))
local macro_rules | `(tactic| walk_at "ne") => `(tactic| first | assumption | exact NE.mk (NE.flip (by assumption)))
local macro_rules | `(tactic| walk_at "wloc") => `(tactic| (intro y hy; simp only [List.mem_cons, List.not_mem_nil, or_false, not_or] at hy; simp [hy]))
local macro_rules | `(tactic| walk_at "exec While") => `(tactic| refine Hold.of ?_)
local macro_rules | `(tactic| walk_at "exec While Name cons nil") => `(tactic| refine Hold.of ?_)
local macro_rules | `(tactic| walk_at "call builtin:list.pop") => `(tactic| (k_dflt (refine' pop0_U ?F ?N ?U ?z ?_; (case F => k_asm); (case N => k_asm); (case U => k_updF); (case z => assumption)); intro h' F' N'; (try dsimp only at N'); (try k_sweep)))
local macro_rules | `(tactic| walk_at "getMethod ref") => `(tactic| (k_dflt (refine' method_inst ?k1 ?k2 (inst_up ?k3 (Fr.keep ?k1)) ?k4 ?k5 ?k6 ?k7 ?_; (case k1 => k_asm); (case k2 => k_asm); (case k3 => exact ‹InstAt _ _ _ 557 _›); (case k4 => k_is); (case k5 => k_is); (case k6 => k_is); (case k7 => first | rfl | k_asm); k_whole)))
theorem SL.ex {P : Params} {x : Addr} {pa po : Value} {vs : Array Value} {led : List (Addr × Obj)} (h : SL P x pa po vs led) : ∃ po', SL P x pa po' vs led := ⟨po, h⟩
local macro_rules | `(tactic| walk_at "call builtin:list.extend") => `(tactic| (k_dflt (refine' extend_U ?F ?N ?U ?b ?z ?_; (case F => k_asm); (case N => k_asm); (case U => k_updF); (case b => k_mem); (case z => (rw [List.size_toArray]; omega))); intro h' F' N'; (try dsimp only at N')))
local macro_rules | `(tactic| walk_at "call builtin:list.sort") => `(tactic| refine Hold.of ?_)
theorem truthy_cons {prog : Program} {w : World} {A : Around} {E : Value → Shared → Prop} {s : Shared} {h₀ : Heap} {L l : Addr} {news : List (Addr × Obj)} {v : Value} {r : List Value} {c : Nat} {Q : Bool → Shared → Prop} (N : News h₀ L s.heap news) (hm : (l, listOf (List.toArray (v :: r)) c) ∈ news) (hz : (v :: r).length ≤ 1000)
    (h : Q true { s with toks := s.toks + 1 + 1 }) : wpAny (model prog w) A (truthy (.ref l)) Q E s :=
  wpAny_truthy_list (lst_news N hm) (by rw [List.size_toArray]; omega) (by rw [show (List.toArray (v :: r)).isEmpty = false by simp]; exact h)
local macro_rules | `(tactic| walk_at "truthy ref") => `(tactic| (k_dflt (refine' truthy_cons ?N ?m ?z ?_; (case N => k_asm); (case m => k_mem); (case z => assumption); k_whole)))
theorem ints_two : ∀ {vs : List Value} {a b : Int}, IntsAre vs [a, b] → ∃ u1 u2, vs = [.int a u1, .int b u2]
  | _, _, _, .cons a u1 (.cons b u2 .nil) => ⟨u1, u2, rfl⟩
theorem tup_of {h₀ h : Heap} {L : Addr} {news : List (Addr × Obj)} {T : Addr} {o : Obj} {xs : Array Value} {n : Nat} (N : News h₀ L h news) (hm : (T, o) ∈ news) (hc : o.cls = .type "tuple") (hd : o.data = .seq xs n) : IsTup h T xs := ⟨o, (N _ hm).1, hc, n, hd⟩
local macro_rules | `(tactic| walk_at "assign Tuple") => `(tactic| (k_dflt (refine' unpackN_ ?k1 ?k2 (tup_of ?k2 ?m ?c ?d) ?k4 ?k5 ?k6 ?_; (case k1 => k_asm); (case k2 => k_asm); (case m => k_mem); (case c => assumption); (case d => assumption); (case k4 => exact rfl); (case k5 => exact rfl); (case k6 => exact rfl); k_whole); intro h' F' N'; (try k_sweep)))
theorem parse_table {prog : Program} {w : World} {s : Shared} {g : Heap} {mg mb : Str → Option Value} {p : Program} {loose : List Str} {self dx blk dxb bd bi dn ce rs cs l1 l2 : Addr} {es : List DictEntry} {n c : Nat} {pa po : Value} {t1 t2 t3 t4 : Tok}
   {vs ds : List Value} {W : Nat} {G : List (List Nat)} {o1 o2 : Obj} {a1 a2 b1 b2 y1 y2 y3 y4 y5 y6 y7 y8 : Tok} (Inv : Nat → PS → Prop) {k₀ : Nat}
   (X : (hd.heap_39 w.params).In g) (T : TopRead p loose mg mb g)
   (S : St g s.heap [(ce, listOf #[] 0), (dn, listOf ds.toArray c), (rs, o1), (cs, o2), (self, instObj 245 dx), (dx, dictOf (gpEs w.params blk G.length W dn ce rs cs b1 b2 y1 y2 y3 y4 y5 y6 y7 y8) 8), (l1, listOf #[.int 0 a1] 0), (l2, listOf #[.int 0 a2] 0)])
   (hsep : Sep [(ce, listOf #[] 0), (dn, listOf ds.toArray c), (rs, o1), (cs, o2), (self, instObj 245 dx), (dx, dictOf (gpEs w.params blk G.length W dn ce rs cs b1 b2 y1 y2 y3 y4 y5 y6 y7 y8) 8), (l1, listOf #[.int 0 a1] 0), (l2, listOf #[.int 0 a2] 0)])
   (I2 : InstAt g blk (instObj 557 dxb) 557 (some (dictOf (slEs w.params bd bi pa po t1 t2 t3 t4) 4)))
   (hbd : g.IsList bd vs.toArray) (hbi : ∃ ws, g.IsList bi ws ∧ ws.size = vs.length) (hst : StrsAre vs (G.map tx)) (hG : G.length ≤ 64) (hW : W ≤ 64) (hwid : ∀ r ∈ G, r.length = W) (hW0 : 0 < W)
   (hd1 : o1.IsDictOf (intKind prog w) [(0, .ref l1)]) (hd2 : o2.IsDictOf (intKind prog w) [(0, .ref l2)]) (m1 : (rs == sysModules) = false) (m2 : (cs == sysModules) = false)
   (hds : IntsAre ds (List.replicate W (-1))) (h0 : Inv k₀ ⟨[(0, 0)], List.replicate W (-1), [], [0], [0]⟩) (hstep : ∀ k st, Inv k st → PStep G W Inv k st) :
   codeAny (model prog w) (lv 850 4500) (.call (.ref 188) ⟨[.ref self], []⟩) (Back g s fun v led => v = .none ∧ PZ prog w blk G.length W dn ce rs cs self dx b1 b2 y1 y2 y3 y4 y5 y6 y7 y8 vs Inv led) s := by
  have e1 := sl_data (P := w.params) (bd := bd) (bi := bi) (pa := pa) (po := po) (t1 := t1) (t2 := t2) (t3 := t3) (t4 := t4)
  have hlen : vs.length = G.length := by have := hst.len_eq; simpa using this
  simp only [Sep, List.forall_mem_cons, List.not_mem_nil, false_implies, implies_true, and_true] at hsep
  obtain ⟨⟨s1, s2, s3, s4, s5, s6, s7⟩, ⟨s8, s9, s10, s11, s12, s13⟩, ⟨s14, s15, s16, s17, s18⟩, ⟨s19, s20, s21, s22⟩, ⟨s23, s24, s25⟩, ⟨s26, s27⟩, s28⟩ := hsep
  replace s1 := NE.mk s1
  replace s2 := NE.mk s2
  replace s3 := NE.mk s3
  replace s4 := NE.mk s4
  replace s5 := NE.mk s5
  replace s6 := NE.mk s6
  replace s7 := NE.mk s7
  replace s8 := NE.mk s8
  replace s9 := NE.mk s9
  replace s10 := NE.mk s10
  replace s11 := NE.mk s11
  replace s12 := NE.mk s12
  replace s13 := NE.mk s13
  replace s14 := NE.mk s14
  replace s15 := NE.mk s15
  replace s16 := NE.mk s16
  replace s17 := NE.mk s17
  replace s18 := NE.mk s18
  replace s19 := NE.mk s19
  replace s20 := NE.mk s20
  replace s21 := NE.mk s21
  replace s22 := NE.mk s22
  replace s23 := NE.mk s23
  replace s24 := NE.mk s24
  replace s25 := NE.mk s25
  replace s26 := NE.mk s26
  replace s27 := NE.mk s27
  replace s28 := NE.mk s28
  k_dflt (refine' enter (binds := [("self", .ref self)]) X T S ?k6 ?k7 ?k8 ?k9 ?kB ?_ ?c2 ?c3 ?c4 ?c5; (case k6 => k_is); (case k7 => k_is); (case k8 => decide); (case k9 => exact BindsTo.of_eq rfl); (case kB => exact locs rfl); (case c5 => decide); (case c2 => rfl); (case c3 => rfl); (case c4 => rfl))
  intro L h₁ F N
  walk_at "kf"
  walk_at "go"
  rename Fr _ _ _ _ => F'
  rename News _ _ _ _ => N'
  refine Hold.out ?_
  refine list_compS (fun i ys => ys = vs.take i) rfl (.inl hbd) (by rw [List.size_toArray, sizeLine_eq]; omega) F' N' rfl ?_ ?_
  · intro i v ys h tk I ob C oC D m₂ E' hi hv hJ hns hx hIC hID hCD hoff F N
    refine CBody.nil ?_
    clear F' N'
    walk_at "kf"
    walk_at "go"
    refine CEnd.intro F (news' := []) (by rwa [List.append_nil]) (fun _ h => nomatch h) ?_
    rw [hJ]
    exact take_snoc (by simpa using hv)
  · intro ys h hJ D h' tk' F N off
    replace off := off1_of off
    simp only [List.cons_append, List.nil_append, List.append_nil, LCg.Off1, and_true] at off N
    obtain ⟨q1, q2, q3, q4, q5, q6, q7, q8⟩ := off
    replace q1 := NE.mk q1
    replace q2 := NE.mk q2
    replace q3 := NE.mk q3
    replace q4 := NE.mk q4
    replace q5 := NE.mk q5
    replace q6 := NE.mk q6
    replace q7 := NE.mk q7
    replace q8 := NE.mk q8
    rw [List.size_toArray, List.take_length] at hJ
    rw [hJ] at N
    clear hJ ys
    change News g L h' ((D, listOf vs.toArray vs.length) :: _) at N
    unfold gpEs at N
    clear F' N'
    walk_at "kf"
    walk_at "go"
    rename Fr _ _ _ _ => F'
    rename News _ _ _ _ => N'
    rename (_ < _) ∧ (_ < _) ∧ (_ < _) ∧ (_ < _) ∧ (_ < _) ∧ (_ < _) ∧ (_ < _) ∧ (_ < _) ∧ (_ < _) ∧ (_ < _) => r1
    rename (_ < _) ∧ (_ < _) ∧ (_ < _) ∧ (_ < _) ∧ (_ < _) ∧ (_ < _) ∧ (_ < _) ∧ (_ < _) ∧ (_ < _) => r2
    rename_i tu _ cl _ _
    refine Hold.out ?_
    refine While_run (n := k₀) ["top", "left", "result", "bottom", "right", "rowseps", "colseps", "cellblock"] (PJ prog w blk G.length W dn ce rs cs self dx D cl b1 b2 y1 y2 y3 y4 y5 y6 y7 y8 vs Inv) F' (pt_news N') ⟨⟨[(0, 0)], List.replicate W (-1), [], [0], [0]⟩, [.ref tu], 0, ds, c, [], 0, o1, o2, [(l1, listOf #[.int 0 a1] 0)], [(l2, listOf #[.int 0 a2] 0)], _, _, h0, rfl, ?_⟩ ?_
    · refine ⟨⟨rfl, fun i hi => ?_⟩, hds, ⟨rfl, fun i hi => absurd hi (Nat.not_lt_zero i)⟩, ⟨⟨[(0, .ref l1)], hd1, rfl, fun kv hkv => ?_⟩⟩, ⟨⟨[(0, .ref l2)], hd2, rfl, fun kv hkv => ?_⟩⟩, ?_, ?_, ?_, ?_, ?_, ?_⟩
      · have e : i = 0 := by simpa using hi
        subst e
        exact ⟨tu, _, rfl, .inr ⟨_, .head _, rfl, _, rfl⟩, .cons 0 _ (.cons 0 _ .nil)⟩
      · rw [List.mem_singleton.mp hkv]
        exact ⟨l1, _, _, rfl, .head _, by simp⟩
      · rw [List.mem_singleton.mp hkv]
        exact ⟨l2, _, _, rfl, .head _, by simp⟩
      · walk_at "dis"
      · walk_at "dis"
      · walk_at "dis"
      · walk_at "dis"
      · walk_at "dis"
      · walk_at "dis"
    · rintro k u led h tk ⟨st, vc, c1, ds', c2, cv, c3, o1', o2', ls1, ls2, tups, y9, hInv, rfl, hP⟩ F N
      obtain ⟨hsize, hnil, hcons⟩ := hstep k st hInv
      have w1 : NE cl D := NE.mk (Nat.ne_of_gt r1.2.1)
      have w2 : NE cl ce := NE.mk (Nat.ne_of_gt r1.2.2.1)
      have w3 : NE cl dn := NE.mk (Nat.ne_of_gt r1.2.2.2.1)
      have w4 : NE cl rs := NE.mk (Nat.ne_of_gt r1.2.2.2.2.1)
      have w5 : NE cl cs := NE.mk (Nat.ne_of_gt r1.2.2.2.2.2.1)
      have w6 : NE cl self := NE.mk (Nat.ne_of_gt r1.2.2.2.2.2.2.1)
      have w7 : NE cl dx := NE.mk (Nat.ne_of_gt r1.2.2.2.2.2.2.2.1)
      clear F' N' r1 r2 hd1 hd2 hds h0
      clear s6 s7 s12 s13 s17 s18 s21 s22 s24 s25 s26 s27 s28 q7 q8
      cases hc : st.corners with
      | nil =>
        have hv : vc = [] := by have := hP.cor.1; rw [hc] at this; exact List.length_eq_zero_iff.mp this
        subst hv
        walk_at "kf"
        walk_at "go"
        rename Fr _ _ _ _ => F'
        rename News _ _ _ _ => N'
        have hdl := hsize.1
        refine Hold.out (wpAny_call (use_call [] _ F' N' (by simp) (fun g' st' hr S' => lv_le (check_complete (H := G.length) (X.keeps st') (T.keeps st') S' (inst_of (hr (self, instObj 245 dx) (by walk_at "mem")) (hr (dx, dictOf (gp9 w.params blk G.length W dn ce rs cs D b1 b2 y1 y2 y3 y4 y5 y6 y7 y8 y9) 9) (by walk_at "mem"))) (dl := dn) (by rfl) (by rfl) (by rfl) ⟨_, hr (dn, listOf (List.toArray ds') c2) (by walk_at "mem"), rfl, _, rfl⟩ hP.don hW0 hdl hW hG (hnil hc)) rfl (Nat.le_of_ble_eq_true rfl) (Nat.le_of_ble_eq_true rfl)) ?_))
        rintro v led h₂ tk₂ rfl F₂ N₂ -
        clear F' N'
        dsimp only
        walk_at "go"
        exact Back.intro F₂ (news_sub N₂ fun q hq => List.mem_append_right _ hq) ⟨rfl, cl, D, k, st, [], c1, ds', c2, cv, c3, o1', o2', ls1, ls2, tups, y9, hInv, hc, rfl, hP⟩
      | cons cc rest =>
        obtain ⟨t, l⟩ := cc
        obtain ⟨hskip, hgo⟩ := hcons t l rest hc
        have hcor := hP.cor
        rw [hc] at hcor
        cases vc with
        | nil => exact absurd hcor.1 (by simp)
        | cons v vr =>
          obtain ⟨T0, xs, e, htup, hxs⟩ := hcor.2 0 (by simp)
          have e : v = .ref T0 := e
          subst e
          rcases htup with ⟨o, ho, _⟩ | ⟨oT, hT0, hcT, nT, hdT⟩
          · exact absurd (Heap.lt_size ho) (Nat.not_lt_zero _)
          have hlenv : (Value.ref T0 :: vr).length ≤ 1000 := by have := hcor.1; have := hsize.2.1; rw [hc] at this; simp at this ⊢; simp at *; omega
          have hap := hP.apart
          simp only [List.forall_mem_cons, List.not_mem_nil, false_implies, implies_true, and_true] at hap
          obtain ⟨g1, g2, g3, g4, g5, g6, g7, g8⟩ := hap
          have hTR : (T0, oT) ∈ ls1 ++ (ls2 ++ tups) := by simp [hT0]
          have f1 : NE T0 cl := NE.mk (g1 _ hTR)
          have f2 : NE T0 dn := NE.mk (g2 _ hTR)
          have f3 : NE T0 ce := NE.mk (g3 _ hTR)
          have f4 : NE T0 rs := NE.mk (g4 _ hTR)
          have f5 : NE T0 cs := NE.mk (g5 _ hTR)
          have f6 : NE T0 D := NE.mk (g6 _ hTR)
          have f7 : NE T0 self := NE.mk (g7 _ hTR)
          have f8 : NE T0 dx := NE.mk (g8 _ hTR)
          have N3 : News g L h ((T0, oT) :: (cl, listOf (List.toArray (.ref T0 :: vr)) c1) :: (dn, listOf (List.toArray ds') c2) :: (ce, listOf (List.toArray cv) c3) :: (rs, o1') :: (cs, o2') :: (D, listOf vs.toArray vs.length) :: (self, instObj 245 dx) :: (dx, dictOf (gp9 w.params blk G.length W dn ce rs cs D b1 b2 y1 y2 y3 y4 y5 y6 y7 y8 y9) 9) :: (ls1 ++ (ls2 ++ tups))) := fun q hq => by
            rcases List.mem_cons.mp hq with rfl | hq
            · exact N _ (by simp [hT0])
            · exact N _ hq
          obtain ⟨x1, x2, hxs'⟩ := ints_two hxs
          have hxe : xs = #[.int t x1, .int l x2] := by rw [← Array.toArray_toList (xs := xs), hxs']
          rw [hxe] at hdT
          generalize hReq : ls1 ++ (ls2 ++ tups) = R at N3 g1 g2 g3 g4 g5 g6 g7 g8
          clear N
          have hdon := hP.don
          have hdl := hdon.length
          have hdW := hsize.1
          obtain ⟨t0, tH, l0, lW⟩ := hsize.2.2.1 (t, l) (by rw [hc]; exact .head _)
          dsimp only at t0 tH l0 lW
          walk_at "kf"
          walk_at "go"
          · rename Fr _ _ _ _ => F'
            rename News _ _ _ _ => N'
            exact pt_skip F' N' hReq hP hc (hskip (.inl (by assumption))) (by walk_at "wloc")
          · rename Fr _ _ _ _ => F'
            rename News _ _ _ _ => N'
            exact pt_skip F' N' hReq hP hc (hskip (.inr (.inl (by assumption)))) (by walk_at "wloc")
          · rename Fr _ _ _ _ => F'
            rename News _ _ _ _ => N'
            exact pt_skip F' N' hReq hP hc (hskip (.inr (.inr (by assumption)))) (by walk_at "wloc")
          · rename Fr _ _ _ _ => F'
            rename News _ _ _ _ => N'
            rename t ≠ _ => hq1
            rename l ≠ _ => hq2
            rename ¬ (t ≤ _) => hq3
            obtain ⟨hplus, b, r, rk2, ck2, hsc, hdn0, hb1, hr1, hbG, hrW, hrk2, hck2, hbl, hnext⟩ := hgo (fun h => h.elim hq1 fun h => h.elim hq2 hq3)
            refine Hold.out (wpAny_call (use_call [] _ F' N' (by simp) (fun g' st' hr S' => lv_le (scan_cell (X.keeps st') (T.keeps st') S' (inst_of (hr (self, instObj 245 dx) (by walk_at "mem")) (hr (dx, dictOf (gp9 w.params blk G.length W dn ce rs cs D b1 b2 y1 y2 y3 y4 y5 y6 y7 y8 y9) 9) (by walk_at "mem"))) (sb := D) (by rfl) (by rfl) (by rfl) (by rfl) (by rfl) (by rfl) (by rfl) ⟨⟨vs, ⟨_, hr (D, listOf vs.toArray vs.length) (by walk_at "mem"), rfl, _, rfl⟩, hst⟩, hwid, hG, hW⟩ t0 tH l0 lW hplus) rfl (Nat.le_of_ble_eq_true rfl) (Nat.le_of_ble_eq_true rfl)) ?_))
            intro v led2 h₂ tk₂ hP2 F₂ N₂ hap2
            rw [hsc] at hP2
            obtain ⟨TT, dr, dc, tt, tt', rfl, hT, hdr, hdc⟩ := hP2
            clear F' N'
            dsimp only
            have N3 : News g L h₂ ((TT, tupOf [.int b tt, .int r tt', .ref dr, .ref dc]) :: (cl, listOf (List.toArray vr) (c1 + 1)) :: (dn, listOf (List.toArray ds') c2) :: (ce, listOf (List.toArray cv) c3) :: (rs, o1') :: (cs, o2') :: (D, listOf vs.toArray vs.length) :: (self, instObj 245 dx) :: (dx, dictOf (gp9 w.params blk G.length W dn ce rs cs D b1 b2 y1 y2 y3 y4 y5 y6 y7 y8 y9) 9) :: (R ++ led2)) := fun q hq => by
              refine N₂ q ?_
              simp only [List.mem_cons, List.mem_append] at hq ⊢
              rcases hq with rfl | hq | hq | hq | hq | hq | hq | hq | hq | hq | hq
              · exact .inl hT
              all_goals simp only [hq, true_or, or_true]
            clear N₂
            walk_at "go"
            rename Fr _ _ _ _ => F'
            rename News _ _ _ _ => N'
            have hA := hP.apart
            have d1 : D8 cl dn ce rs cs D self dx ls1 := D8.of fun z hz p hp => hA z hz p (List.mem_append_left _ hp)
            have d2 : D8 cl dn ce rs cs D self dx ls2 := D8.of fun z hz p hp => hA z hz p (List.mem_append_right _ (List.mem_append_left _ hp))
            have d3 : D8 cl dn ce rs cs D self dx tups := D8.of fun z hz p hp => hA z hz p (List.mem_append_right _ (List.mem_append_right _ hp))
            have d4 : D8 cl dn ce rs cs D self dx led2 := fun p hp => by
              have h := hap2 p hp
              simp only [List.forall_mem_cons] at h
              obtain ⟨_, h1, h2, h3, h4, h5, h6, h7, h8, _⟩ := h
              exact ⟨h1, h2, h3, h4, h5, h6, h7, h8⟩
            have e4 : Dis led2 R := fun p hp q hq => hap2 p hp q (.tail _ (.tail _ (.tail _ (.tail _ (.tail _ (.tail _ (.tail _ (.tail _ (.tail _ hq)))))))))
            rw [← hReq] at e4 N'
            clear hA hap2
            refine Hold.out (wpAny_call (use_call ((rs, o1') :: ls1) ((cl, listOf (List.toArray vr) (c1 + 1)) :: (dn, listOf (List.toArray ds') c2) :: (ce, listOf (List.toArray cv) c3) :: (cs, o2') :: (D, listOf vs.toArray vs.length) :: (self, instObj 245 dx) :: (dx, dictOf (gp9 w.params blk G.length W dn ce rs cs D b1 b2 y1 y2 y3 y4 y5 y6 y7 y8 y9) 9) :: (ls2 ++ (tups ++ led2))) F' (news_sub N' fun q hq => ?_)
              (nd8 (by walk_at "ne") (by walk_at "ne") (by walk_at "ne") (by walk_at "ne") (by walk_at "ne") (by walk_at "ne") (by walk_at "ne") (fun p hp => by obtain ⟨h1, h2, h3, h4, h5, h6, h7, h8⟩ := d1 p hp; exact ⟨h1, h2, h3, h5, h6, h7, h8⟩) (fun p hp => (d2.app (d3.app d4) p hp).2.2.2.1) (hP.a4.app (hP.a5.app (Dis.symm (e4.sub (fun _ h => h) fun q hq => List.mem_append_left _ hq)))))
              (fun g' st' hr S' => lv_le (update_dol (X.keeps st') (T.keeps st') S' hP.row (fun q hq => (d1 q hq).2.2.2.1) m1 (hdr.base fun q hq => hr q (by simp only [List.mem_cons, List.mem_append, hq, or_true])) hdr.lo (by omega) (by omega)) rfl (Nat.le_of_ble_eq_true rfl) (Nat.le_of_ble_eq_true rfl)) ?_))
            · simp only [List.cons_append, List.mem_cons, List.mem_append] at hq ⊢
              rcases hq with h | h | h | h | h | h | h | h | h | h | h | h <;> simp only [h, true_or, or_true]
            rintro v led3 h₃ tk₃ ⟨rfl, o1n, ls1n, rfl, hrow, hne1⟩ F₃ N₃ hap3
            obtain ⟨k1, k2⟩ := new8 hap3
            have d1n : D8 cl dn ce rs cs D self dx ls1n := fun p hp => by obtain ⟨h1, h2, h3, h5, h6, h7, h8⟩ := k1 p hp; exact ⟨h1, h2, h3, hne1 p hp, h5, h6, h7, h8⟩
            clear F' N' hap3 k1 d1 hne1
            have N3 : News g L h₃ ((cl, listOf (List.toArray vr) (c1 + 1)) :: (dn, listOf (List.toArray ds') c2) :: (ce, listOf (List.toArray cv) c3) :: (rs, o1n) :: (cs, o2') :: (D, listOf vs.toArray vs.length) :: (self, instObj 245 dx) :: (dx, dictOf (gp9 w.params blk G.length W dn ce rs cs D b1 b2 y1 y2 y3 y4 y5 y6 y7 y8 y9) 9) :: (ls1n ++ (ls2 ++ (tups ++ led2)))) := news_sub N₃ fun q hq => by
              simp only [List.cons_append, List.mem_cons, List.mem_append] at hq ⊢
              rcases hq with h | h | h | h | h | h | h | h | h | h | h | h <;> simp only [h, true_or, or_true]
            clear N₃
            dsimp only
            walk_at "go"
            rename Fr _ _ _ _ => F'
            rename News _ _ _ _ => N'
            refine Hold.out (wpAny_call (use_call ((cs, o2') :: ls2) ((cl, listOf (List.toArray vr) (c1 + 1)) :: (dn, listOf (List.toArray ds') c2) :: (ce, listOf (List.toArray cv) c3) :: (rs, o1n) :: (D, listOf vs.toArray vs.length) :: (self, instObj 245 dx) :: (dx, dictOf (gp9 w.params blk G.length W dn ce rs cs D b1 b2 y1 y2 y3 y4 y5 y6 y7 y8 y9) 9) :: (ls1n ++ (tups ++ led2))) F' (news_sub N' fun q hq => ?_)
              (nd8 (by walk_at "ne") (by walk_at "ne") (by walk_at "ne") (by walk_at "ne") (by walk_at "ne") (by walk_at "ne") (by walk_at "ne") (fun p hp => by obtain ⟨h1, h2, h3, h4, h5, h6, h7, h8⟩ := d2 p hp; exact ⟨h1, h2, h3, h4, h6, h7, h8⟩) (fun p hp => (d1n.app (d3.app d4) p hp).2.2.2.2.1) ((Dis.symm (k2.sub (fun _ h => h) fun q hq => List.mem_append_left _ hq)).app (hP.a6.app (Dis.symm (e4.sub (fun _ h => h) fun q hq => List.mem_append_right _ (List.mem_append_left _ hq))))))
              (fun g' st' hr S' => lv_le (update_dol (X.keeps st') (T.keeps st') S' hP.col (fun q hq => (d2 q hq).2.2.2.2.1) m2 (hdc.base fun q hq => hr q (by simp only [List.mem_cons, List.mem_append, hq, or_true])) hdc.lo (by omega) (by omega)) rfl (Nat.le_of_ble_eq_true rfl) (Nat.le_of_ble_eq_true rfl)) ?_))
            · simp only [List.cons_append, List.mem_cons, List.mem_append] at hq ⊢
              rcases hq with h | h | h | h | h | h | h | h | h | h | h | h <;> simp only [h, true_or, or_true]
            rintro v led3 h₄ tk₄ ⟨rfl, o2n, ls2n, rfl, hcol, hne2⟩ F₄ N₄ hap4
            obtain ⟨k1, k3⟩ := new8 hap4
            have d2n : D8 cl dn ce rs cs D self dx ls2n := fun p hp => by obtain ⟨h1, h2, h3, h4, h6, h7, h8⟩ := k1 p hp; exact ⟨h1, h2, h3, h4, hne2 p hp, h6, h7, h8⟩
            clear F' N' hap4 k1 d2 hne2
            have e12 : Dis ls1n ls2n := Dis.symm (k3.sub (fun _ h => h) fun q hq => List.mem_append_left _ hq)
            have e13 : Dis ls1n tups := k2.sub (fun _ h => h) fun q hq => List.mem_append_right _ (List.mem_append_left _ hq)
            have e23 : Dis ls2n tups := k3.sub (fun _ h => h) fun q hq => List.mem_append_right _ (List.mem_append_left _ hq)
            have N4 : News g L h₄ ((cl, listOf (List.toArray vr) (c1 + 1)) :: (dn, listOf (List.toArray ds') c2) :: (ce, listOf (List.toArray cv) c3) :: (rs, o1n) :: (cs, o2n) :: (D, listOf vs.toArray vs.length) :: (self, instObj 245 dx) :: (dx, dictOf (gp9 w.params blk G.length W dn ce rs cs D b1 b2 y1 y2 y3 y4 y5 y6 y7 y8 y9) 9) :: (ls1n ++ (ls2n ++ tups))) := news_sub N₄ fun q hq => by
              simp only [List.cons_append, List.mem_cons, List.mem_append] at hq ⊢
              rcases hq with h | h | h | h | h | h | h | h | h | h | h <;> simp only [h, true_or, or_true]
            clear N₄ k2 k3 e4 d4 hdr hdc hT
            dsimp only
            walk_at "go"
            rename Fr _ _ _ _ => F'
            rename News _ _ _ _ => N'
            refine Hold.out (wpAny_call (use_call [(dn, listOf (List.toArray ds') c2)] ((cl, listOf (List.toArray vr) (c1 + 1)) :: (ce, listOf (List.toArray cv) c3) :: (rs, o1n) :: (cs, o2n) :: (D, listOf vs.toArray vs.length) :: (self, instObj 245 dx) :: (dx, dictOf (gp9 w.params blk G.length W dn ce rs cs D b1 b2 y1 y2 y3 y4 y5 y6 y7 y8 y9) 9) :: (ls1n ++ (ls2n ++ tups))) F' (news_sub N' fun q hq => ?_)
              (nd8 (by walk_at "ne") (by walk_at "ne") (by walk_at "ne") (by walk_at "ne") (by walk_at "ne") (by walk_at "ne") (by walk_at "ne") (fun _ h => nomatch h) (fun p hp => (d1n.app (d2n.app d3) p hp).2.1) Dis.nil)
              (fun g' st' hr S' => lv_le (mark_done (X.keeps st') (T.keeps st') S' (inst_of (hr (self, instObj 245 dx) (by walk_at "mem")) (hr (dx, dictOf (gp9 w.params blk G.length W dn ce rs cs D b1 b2 y1 y2 y3 y4 y5 y6 y7 y8 y9) 9) (by walk_at "mem"))) (by rfl) hdon l0 (by omega) (by omega) (by omega) hdn0) rfl (Nat.le_of_ble_eq_true rfl) (Nat.le_of_ble_eq_true rfl)) ?_))
            · simp only [List.cons_append, List.nil_append, List.mem_cons, List.mem_append] at hq ⊢
              rcases hq with h | h | h | h | h | h | h | h | h | h | h <;> simp only [h, true_or, or_true]
            rintro v led3 h₅ tk₅ ⟨rfl, ds2, rfl, hdon2⟩ F₅ N₅ -
            clear F' N'
            simp only [List.cons_append, List.nil_append] at N₅
            dsimp only
            walk_at "go"
            rename Fr _ _ _ _ => F'
            rename News _ _ _ _ => N'
            obtain ⟨ws, hbi1, hbi2⟩ := hbi
            refine Hold.out (wpAny_call (use_call [] _ F' N' (by simp) (fun g' st' hr S' => lv_le (get_2D (X.keeps st') (T.keeps st') S' (inst_up I2 st') (lst_up hbd st') (lst_up hbi1 st') (by rw [List.size_toArray, hbi2]) (by omega) (by omega) (by omega) (by omega) (by omega) (by omega) (blank_rows hst hwid hW t0 l0 hr1 hbG hrW hbl)) rfl (Nat.le_of_ble_eq_true rfl) (Nat.le_of_ble_eq_true rfl)) ?_))
            rintro v led4 h₆ tk₆ ⟨x, vs6, rfl, hSL⟩ F₆ N₆ hap6
            obtain ⟨po6, dx6, bd6, bi6, its6, c6, c6', v1, v2, v3, v4, rfl, hits, n1, n2, n3, n4, n5, n6⟩ := hSL.ex
            clear F' N'
            simp only [List.cons_append, List.nil_append] at N₆
            dsimp only
            walk_at "go"
            rename Fr _ _ _ _ => F'
            rename News _ _ _ _ => N'
            refine Hold.out (wpAny_call (use_call [(x, instObj 557 dx6), (dx6, dictOf (slEs w.params bd6 bi6 (.ref blk) po6 v1 v2 v3 v4) 4)] ((cl, listOf (List.toArray vr) (c1 + 1)) :: (dn, listOf (List.toArray ds2) c2) :: (ce, listOf (List.toArray cv) c3) :: (rs, o1n) :: (cs, o2n) :: (D, listOf vs.toArray vs.length) :: (self, instObj 245 dx) :: (dx, dictOf (gp9 w.params blk G.length W dn ce rs cs D b1 b2 y1 y2 y3 y4 y5 y6 y7 y8 y9) 9) :: (ls1n ++ (ls2n ++ tups))) F' (news_sub N' fun q hq => ?_) (fun q hq hm => ?_)
              (fun g' st' hr S' => lv_le (sl_disc (X.keeps st') (T.keeps st') S' n1) rfl (Nat.le_of_ble_eq_true rfl) (Nat.le_of_ble_eq_true rfl)) ?_))
            · simp only [List.cons_append, List.nil_append, List.mem_cons, List.mem_append] at hq ⊢
              rcases hq with h | h | h | h | h | h | h | h | h | h | h | h | h <;> simp only [h, true_or, or_true]
            · have hq' : q ∈ (dn, listOf (List.toArray ds2) c2) :: (cl, listOf (List.toArray vr) (c1 + 1)) :: (ce, listOf (List.toArray cv) c3) :: (rs, o1n) :: (cs, o2n) :: (D, listOf vs.toArray vs.length) :: (self, instObj 245 dx) :: (dx, dictOf (gp9 w.params blk G.length W dn ce rs cs D b1 b2 y1 y2 y3 y4 y5 y6 y7 y8 y9) 9) :: (ls1n ++ (ls2n ++ tups)) := by
                simp only [List.mem_cons, List.mem_append] at hq ⊢
                rcases hq with h | h | h | h | h | h | h | h | h | h | h <;> simp only [h, true_or, or_true]
              simp only [List.map_cons, List.map_nil, List.mem_cons, List.not_mem_nil, or_false] at hm
              rcases hm with e | e
              · exact hap6 _ (.head _) q hq' e.symm
              · exact hap6 _ (.tail _ (.head _)) q hq' e.symm
            rintro v led3 h₇ tk₇ ⟨rfl, rfl⟩ F₇ N₇ -
            have hD3 : D8 cl dn ce rs cs D self dx (ls1n ++ (ls2n ++ tups)) := d1n.app (d2n.app d3)
            have N8 : News g L h₇ ((cl, listOf (List.toArray vr) (c1 + 1)) :: (dn, listOf (List.toArray ds2) c2) :: (ce, listOf (List.toArray cv) c3) :: (rs, o1n) :: (cs, o2n) :: (D, listOf vs.toArray vs.length) :: (self, instObj 245 dx) :: (dx, dictOf (gp9 w.params blk G.length W dn ce rs cs D b1 b2 y1 y2 y3 y4 y5 y6 y7 y8 y9) 9) :: (ls1n ++ (ls2n ++ tups))) := news_sub N₇ fun q hq => .tail _ (.tail _ hq)
            clear F' N' N₇ hap6 g1 g2 g3 g4 g5 g6 g7 g8
            generalize hR2 : ls1n ++ (ls2n ++ tups) = R2 at N8 hD3
            have g1 : ∀ p ∈ R2, @Ne Nat p.1 cl := fun p hp => (hD3 p hp).1
            have g2 : ∀ p ∈ R2, @Ne Nat p.1 ce := fun p hp => (hD3 p hp).2.2.1
            have hcv : cv.length ≤ 100 := by have := hP.cel.1; omega
            have hvr : vr.length + 1 = st.corners.length := by have := hcor.1; rw [hc]; simpa using this
            dsimp only
            walk_at "go"
            rename Fr _ _ _ _ => F'
            rename News _ _ _ _ => N'
            rename (@LT.lt Nat _ cl _) ∧ _ => q5
            rename _ ∧ (@LT.lt Nat _ cl _) ∧ _ => q1
            rename _ ∧ _ ∧ (@LT.lt Nat _ cl _) ∧ _ => q2
            obtain ⟨q51, q52, q53, q54, q55, q56, q57, q58, q59⟩ := q5
            obtain ⟨_, q11, q12, q13, q14, q15, q16, q17, q18, q19⟩ := q1
            obtain ⟨_, _, q21, q22, q23, q24, q25, q26, q27, q28, q29⟩ := q2
            have htl : ∀ q ∈ tups, q ∈ R2 := fun q hq => by rw [← hR2]; exact List.mem_append_right _ (List.mem_append_right _ hq)
            have hcl60 := hsize.2.1
            have hcr := hsize.2.2.1
            rw [hc] at hcl60 hcr
            rw [List.length_cons] at hcl60
            have htupsr : Tups noH tups vr (rest.map crow) := (PLed.pop (c' := 0) hP hc).cor
            refine Hold.out (pt_sort F' N' (Nat.ne_of_gt q11) (Nat.ne_of_gt q21) (Nat.ne_of_gt q51) (by walk_at "ne") (by walk_at "ne") (by walk_at "ne") (by walk_at "ne") (by walk_at "ne") (by walk_at "ne") (by walk_at "ne") g1 htupsr htl (by omega) (fun c hc' => ?_) ?_)
            · rcases List.mem_append.mp hc' with hc' | hc'
              · have := hcr c (.tail _ hc'); omega
              · simp only [List.mem_cons, List.not_mem_nil, or_false] at hc'
                rcases hc' with rfl | rfl
                · dsimp only; omega
                · dsimp only; omega
            intro out rows' c9 h₉ F₉ N₉ hsort
            clear F' N'
            dsimp only
            walk_at "go"
            refine pt_turn F₉ N₉ hR2 hP hsort hnext hdon2 hrow hcol hrk2 hck2 d1n d2n d3 e12 e13 e23 (fun p hp => ?_) q59 q19 q29 (by walk_at "wloc")
            simp only [List.mem_cons, List.not_mem_nil, or_false] at hp
            rcases hp with rfl | rfl | rfl
            · exact ⟨Nat.ne_of_gt q21, Nat.ne_of_gt q22, Nat.ne_of_gt q23, Nat.ne_of_gt q24, Nat.ne_of_gt q25, Nat.ne_of_gt q26, Nat.ne_of_gt q27, Nat.ne_of_gt q28⟩
            · exact ⟨Nat.ne_of_gt q11, Nat.ne_of_gt q12, Nat.ne_of_gt q13, Nat.ne_of_gt q14, Nat.ne_of_gt q15, Nat.ne_of_gt q16, Nat.ne_of_gt q17, Nat.ne_of_gt q18⟩
            · exact ⟨Nat.ne_of_gt q51, Nat.ne_of_gt q52, Nat.ne_of_gt q53, Nat.ne_of_gt q54, Nat.ne_of_gt q55, Nat.ne_of_gt q56, Nat.ne_of_gt q57, Nat.ne_of_gt q58⟩
end Mine
end PT_part
section Sk_part
open PySem PySem.W PyProof.Rows PySem.Calls
namespace Mine
section
variable {prog : Program} {w : World} {A : Around} {E : Value → Shared → Prop} {s : Shared} {h₀ : Heap} {L d v : Addr} {m : Str → Option Value} {news : List (Addr × Obj)} {kvs : List (Int × Value)}
theorem keys_method {pl : Sem Bool} {Q : Value × List Value → Shared → Prop} (hD : s.heap.DictOf (intKind prog w) d kvs) (h : Q (.builtin "dict.keys", [.ref d]) s) :
    wpAny (model prog w) A (getMethod (.ref d) "keys" pl) Q E s :=
  getMethod_builtin hD.typeIs PySem.F.plainAttrs_dict PySem.F.slot_dict_keys PySem.F.type_dict_keys hD.mapOf.noDict h
theorem keys_call {Q : Value → Shared → Prop} (F : Fr h₀ L s.heap m) (N : News h₀ L s.heap news) (hD : s.heap.DictOf (intKind prog w) d kvs) (lo : (d == sysModules) = false)
    (h : ∀ (D : Addr) h', Fr h₀ L h' m → News h₀ L h' ((D, { cls := .type "dict_keys", data := .fields #[.ref d] }) :: news) → (∀ q ∈ news, q.1 < D) → Q (.ref D) { s with heap := h' }) : wpAny (model prog w) A (call (.builtin "dict.keys") [.ref d]) Q E s :=
  call_meetsIn PySem.F.slot_dict_keys hD.typeIs PySem.F.entry_dict_keys (PySem.F.args_dict_keys_1 _) (kdl_meets_keys (intKind prog w) d lo) ⟨⟨kvs, hD⟩, h _ _ (F.push _) (News.push F N _) fun q hq => Heap.lt_size (N q hq).1⟩
theorem ints_of_keys : ∀ {vs : List Value} {kvs : List (Int × Value)}, vs.length = kvs.length → (∀ (j : Nat) (u : Value), vs[j]? = some u → ∃ k x, kvs[j]? = some (k, x) ∧ (intKind prog w).is k u = true) → IntsAre vs (kvs.map (·.1))
  | [], [], _, _ => .nil
  | u :: vs, (k, x) :: kvs, hl, h => by
    obtain ⟨k', x', e, hk⟩ := h 0 u rfl
    injection e with e
    injection e with e1 e2
    subst e1
    have hk' : ∃ t, u = .int k t := PyProof.V.Flat.int_inv (kdl_flat_int hk)
    obtain ⟨t, rfl⟩ := hk'
    exact .cons k t (ints_of_keys (by simpa using hl) fun j u hu => h (j + 1) u (by simpa using hu))
  | [], _ :: _, hl, _ => by simp at hl
  | _ :: _, [], hl, _ => by simp at hl
theorem sorted_keys {Q : Value → Shared → Prop} (hh : A.handled = none) (F : Fr h₀ L s.heap m) (N : News h₀ L s.heap news) (hv : (v, { cls := .type "dict_keys", data := .fields #[.ref d] }) ∈ news) (hD : s.heap.DictOf (intKind prog w) d kvs) (hn : kvs.length < 64)
    (h : ∀ (D : Addr) vs' ns' c h' tk, Fr h₀ L h' m → News h₀ L h' ((D, listOf (List.toArray vs') c) :: news) → (∀ q ∈ news, q.1 < D) → IntsAre vs' ns' → ns'.Perm (kvs.map (·.1)) → ns'.Pairwise (fun x y => x ≤ y) → Q (.ref D) { s with heap := h', toks := tk }) :
    wpAny (model prog w) A (call (.builtin "sorted") [.ref v]) Q E s := by
  obtain ⟨ep, hat⟩ := hD.dictAt
  refine kdu_sorted (kdl_keys (knd := intKind prog w) (kvs := kvs) (ep := ep)) hh F N ⟨⟨_, (N _ hv).1, rfl, rfl⟩, hat⟩ (by rw [sizeLine_eq]; omega) fun B h' tk vs F' N' l1 hl hvs => ?_
  have hI := ints_of_keys (prog := prog) (w := w) hl hvs
  refine ksk_lsort (news' := fun o => (B, o) :: news) (s := { s with heap := h', toks := tk }) F' N' (fun o => .head (fun q hq => Nat.ne_of_lt (l1 q hq))) rfl hI (by simpa using hn) fun vs' ns' c h₂ F₂ N₂ h1 h2 h3 h4 h5 => ?_
  exact h B vs' ns' c h₂ tk F₂ N₂ l1 h1 h3 h4
end
end Mine
end Sk_part
section Ix_part
open PySem PySem.W PyProof.Rows PySem.Calls
namespace Mine
def IdxD (prog : Program) (w : World) (o : Obj) (RS : List Int) (i : Nat) : Prop :=
  ∃ kvs : List (Int × Value), o.IsDictOf (intKind prog w) kvs ∧ kvs.length = i ∧ ∀ j, j < i → ∃ t, kvs[j]? = some (RS.getD j 0, .int (j : Int) t)
theorem nodup_getD {RS : List Int} (h : RS.Nodup) {i j : Nat} (hi : i < RS.length) (hj : j < RS.length) (e : RS.getD i 0 = RS.getD j 0) : i = j := by
  rw [List.getD_eq_getElem?_getD, List.getD_eq_getElem?_getD, List.getElem?_eq_getElem hi, List.getElem?_eq_getElem hj, Option.getD_some, Option.getD_some] at e
  exact (List.getElem_inj h).mp e
theorem idx_store {kvs : List (Int × Value)} {RS : List Int} {i : Nat} {t : Tok} (hn : RS.Nodup) (hi : i < RS.length) (hl : kvs.length = i) (h : ∀ j, j < i → ∃ t, kvs[j]? = some (RS.getD j 0, .int (j : Int) t)) :
    (stored kvs (RS.getD i 0) (.int (i : Int) t)).length = i + 1 ∧ ∀ j, j < i + 1 → ∃ t', (stored kvs (RS.getD i 0) (.int (i : Int) t))[j]? = some (RS.getD j 0, .int (j : Int) t') := by
  have hs : stored kvs (RS.getD i 0) (.int (i : Int) t) = kvs ++ [(RS.getD i 0, .int (i : Int) t)] := by
    unfold stored
    rw [if_neg]
    rw [List.any_eq_true]
    rintro ⟨kv, hm, he⟩
    obtain ⟨j, hj, e⟩ := List.getElem_of_mem hm
    obtain ⟨t', ht⟩ := h j (by omega)
    rw [List.getElem?_eq_getElem hj, e] at ht
    injection ht with ht
    rw [ht] at he
    have := nodup_getD hn (i := j) (j := i) (by omega) hi (by simpa using he)
    omega
  rw [hs]
  refine ⟨by simp [hl], fun j hj => ?_⟩
  by_cases e : j < i
  · obtain ⟨t', ht⟩ := h j e
    exact ⟨t', by rw [List.getElem?_append_left (by omega)]; exact ht⟩
  · have : j = i := by omega
    subst this
    exact ⟨t, by rw [List.getElem?_append_right (by omega), hl, Nat.sub_self]; rfl⟩
theorem idx_at {kvs : List (Int × Value)} {RS : List Int} {i a : Nat} (hn : RS.Nodup) (hi : i ≤ RS.length) (hl : kvs.length = i) (h : ∀ j, j < i → ∃ t, kvs[j]? = some (RS.getD j 0, .int (j : Int) t)) (ha : a < i) : ∃ t, valueAt kvs (RS.getD a 0) = some (.int (a : Int) t) := by
  obtain ⟨t, ht⟩ := h a ha
  refine ⟨t, ?_⟩
  unfold valueAt
  have : kvs.find? (fun kv => decide (kv.1 = RS.getD a 0)) = some (RS.getD a 0, .int (a : Int) t) := by
    rw [List.find?_eq_some_iff_getElem]
    refine ⟨by simp, a, by omega, ?_, fun j hj => ?_⟩
    · rw [List.getElem?_eq_getElem (by omega)] at ht; exact Option.some.inj ht
    · obtain ⟨t', ht'⟩ := h j (by omega)
      rw [List.getElem?_eq_getElem (by omega)] at ht'
      rw [Option.some.inj ht']
      simp only [decide_eq_true_eq, Bool.not_eq_true', decide_eq_false_iff_not]
      intro e
      have := nodup_getD hn (by omega) (by omega) e
      omega
  rw [this]; rfl
end Mine
end Ix_part
section SFa_part
open PySem PySem.W PyProof.Rows PySem.Calls
namespace Mine
def difs (CS : List Int) (i : Nat) : List Int := (List.range i).map fun j => CS.getD (j + 1) 0 - CS.getD j 0 - 1
theorem difs_succ (CS : List Int) (i : Nat) : difs CS (i + 1) = difs CS i ++ [CS.getD (i + 1) 0 - CS.getD i 0 - 1] := by
  unfold difs; rw [List.range_succ, List.map_append]; rfl
structure BlankR (wd i : Nat) (ys : List Value) (rls : List (Addr × Obj)) : Prop where
  refs : ys = rls.map fun q => .ref q.1
  len : rls.length = i
  obj : ∀ q ∈ rls, ∃ c, q.2 = listOf (List.toArray (List.replicate wd Value.none)) c
  nd : rls.Pairwise fun p q => @Ne Nat p.1 q.1
theorem BlankR.nil {wd : Nat} : BlankR wd 0 [] [] := ⟨rfl, rfl, (fun _ h => nomatch h), List.Pairwise.nil⟩
theorem BlankR.snoc {wd i : Nat} {ys : List Value} {rls : List (Addr × Obj)} (h : BlankR wd i ys rls) {D c : Nat} (hD : AllLt D rls) : BlankR wd (i + 1) (ys ++ [.ref D]) (rls ++ [(D, listOf (List.toArray (List.replicate wd Value.none)) c)]) := by
  refine ⟨by rw [h.refs, List.map_append]; rfl, by simp [h.len], fun q hq => ?_, ?_⟩
  · rcases List.mem_append.mp hq with hq | hq
    · exact h.obj q hq
    · exact ⟨c, by rw [List.mem_singleton.mp hq]⟩
  · rw [List.pairwise_append]
    refine ⟨h.nd, by simp, fun a ha b hb => ?_⟩
    rw [List.mem_singleton.mp hb]
    exact Nat.ne_of_lt (allLt_to hD a ha)
def Off8 (a b c d e f g h : Addr) (l : List (Addr × Obj)) : Prop := D8 a b c d e f g h l
theorem pick_all (items : Array Value) : slicePick items none none none = items := by
  rw [kms_pick_eq]
  have : kms_pick items.toList none none = items.toList := by
    unfold kms_pick kms_lo kms_hi
    simp only [Option.getD_none, List.drop_zero, Nat.sub_zero]
    simp [← Array.length_toList, List.take_length, -Array.length_toList]
  rw [this, Array.toArray_toList]
theorem row_end {g h' : Heap} {L : Addr} {m : Str → Option Value} {s₁ : Shared} {tk : Nat} {I' C DD X a1 a2 a3 a4 a5 a6 a7 a8 : Addr} {ob oC oD p1 p2 p3 p4 p5 p6 p7 p8 : Obj} {rls : List (Addr × Obj)} {ys : List Value} {wd i c : Nat}
    (F : Fr g L h' m) (N : News g L h' ((X, listOf (List.toArray (List.replicate wd Value.none)) c) :: (I', ob) :: (C, oC) :: (DD, oD) :: (a1, p1) :: (a2, p2) :: (a3, p3) :: (a4, p4) :: (a5, p5) :: (a6, p6) :: (a7, p7) :: (a8, p8) :: rls))
    (hX : ∀ q ∈ (I', ob) :: (C, oC) :: (DD, oD) :: (a1, p1) :: (a2, p2) :: (a3, p3) :: (a4, p4) :: (a5, p5) :: (a6, p6) :: (a7, p7) :: (a8, p8) :: rls, q.1 < X)
    (hoff : ∀ q ∈ (a1, p1) :: (a2, p2) :: (a3, p3) :: (a4, p4) :: (a5, p5) :: (a6, p6) :: (a7, p7) :: (a8, p8) :: rls, @Ne Nat q.1 I' ∧ @Ne Nat q.1 C ∧ @Ne Nat q.1 DD) (hbl : BlankR wd i ys rls) (h8 : Off8 a1 a2 a3 a4 a5 a6 a7 a8 rls) :
    CEnd g L m s₁ [(I', ob), (C, oC), (DD, oD)] [I', C, DD] (fun y news' => ∃ rls, news' = (a1, p1) :: (a2, p2) :: (a3, p3) :: (a4, p4) :: (a5, p5) :: (a6, p6) :: (a7, p7) :: (a8, p8) :: rls ∧ BlankR wd (i + 1) (ys ++ [y]) rls ∧ Off8 a1 a2 a3 a4 a5 a6 a7 a8 rls) (.ref X) { s₁ with heap := h', toks := tk } := by
  have hlt : ∀ q ∈ rls, q.1 < X := fun q hq => hX q (.tail _ (.tail _ (.tail _ (.tail _ (.tail _ (.tail _ (.tail _ (.tail _ (.tail _ (.tail _ (.tail _ hq)))))))))))
  simp only [List.forall_mem_cons] at hX
  obtain ⟨x1, x2, x3, x4, x5, x6, x7, x8, x9, x10, x11, x12⟩ := hX
  refine CEnd.intro F (news' := (a1, p1) :: (a2, p2) :: (a3, p3) :: (a4, p4) :: (a5, p5) :: (a6, p6) :: (a7, p7) :: (a8, p8) :: (rls ++ [(X, listOf (List.toArray (List.replicate wd Value.none)) c)])) (news_sub N fun q hq => ?_) (fun q hq => ?_) ⟨rls ++ [(X, _)], rfl, hbl.snoc (allLt_of hlt), fun p hp => ?_⟩
  · have hq' : q ∈ (I', ob) :: (C, oC) :: (DD, oD) :: (a1, p1) :: (a2, p2) :: (a3, p3) :: (a4, p4) :: (a5, p5) :: (a6, p6) :: (a7, p7) :: (a8, p8) :: rls ∨ q = (X, listOf (List.toArray (List.replicate wd Value.none)) c) := by
      rcases List.mem_append.mp (show q ∈ ((I', ob) :: (C, oC) :: (DD, oD) :: (a1, p1) :: (a2, p2) :: (a3, p3) :: (a4, p4) :: (a5, p5) :: (a6, p6) :: (a7, p7) :: (a8, p8) :: rls) ++ [(X, listOf (List.toArray (List.replicate wd Value.none)) c)] from hq) with h | h
      · exact .inl h
      · exact .inr (List.mem_singleton.mp h)
    rcases hq' with h | rfl
    · exact .tail _ h
    · exact .head _
  · have hq' : q ∈ (a1, p1) :: (a2, p2) :: (a3, p3) :: (a4, p4) :: (a5, p5) :: (a6, p6) :: (a7, p7) :: (a8, p8) :: rls ∨ q = (X, listOf (List.toArray (List.replicate wd Value.none)) c) := by
      rcases List.mem_append.mp (show q ∈ ((a1, p1) :: (a2, p2) :: (a3, p3) :: (a4, p4) :: (a5, p5) :: (a6, p6) :: (a7, p7) :: (a8, p8) :: rls) ++ [(X, listOf (List.toArray (List.replicate wd Value.none)) c)] from hq) with h | h
      · exact .inl h
      · exact .inr (List.mem_singleton.mp h)
    simp only [List.mem_cons, List.not_mem_nil, or_false, not_or]
    rcases hq' with h | rfl
    · exact hoff q h
    · exact ⟨Nat.ne_of_gt x1, Nat.ne_of_gt x2, Nat.ne_of_gt x3⟩
  · rcases List.mem_append.mp hp with hp | hp
    · exact h8 p hp
    · rw [List.mem_singleton.mp hp]
      exact ⟨Nat.ne_of_gt x4, Nat.ne_of_gt x5, Nat.ne_of_gt x6, Nat.ne_of_gt x7, Nat.ne_of_gt x8, Nat.ne_of_gt x9, Nat.ne_of_gt x10, Nat.ne_of_gt x11⟩
end Mine
end SFa_part
section SFb_part
open PySem PySem.W PyProof.Rows PySem.Calls
namespace Mine
abbrev Qd := Nat × Nat × Nat × Nat
theorem updF_mid {d : Addr} {o : Obj} {post : List (Addr × Obj)} (h2 : ∀ p ∈ post, @Ne Nat p.1 d) : ∀ {pre : List (Addr × Obj)}, (∀ p ∈ pre, @Ne Nat p.1 d) → UpdF d o (pre ++ (d, o) :: post) (fun o' => pre ++ (d, o') :: post)
  | [], _ => .head h2
  | p :: pre, h => .tail (h p (.head _)) (updF_mid h2 fun q hq => h q (.tail _ hq))
structure MatR (wd : Nat) (ys : List Value) (RS : List Int) (dn : List Qd) (rls tups : List (Addr × Obj)) : Prop where
  refs : ys = rls.map fun q => .ref q.1
  obj : ∀ (a : Nat) (q : Addr × Obj), rls[a]? = some q → ∃ vals c, q.2 = listOf (List.toArray vals) c ∧ vals.length = wd ∧ ∀ k, k < wd →
    ((∀ x ∈ dn, ¬ (x.1 = a ∧ x.2.1 = k)) ∧ vals[k]? = some .none) ∨ ∃ x ∈ dn, x.1 = a ∧ x.2.1 = k ∧ ∃ T u1 u2 u3 bl, vals[k]? = some (.ref T) ∧ (T, tupOf [.int ((x.2.2.1 : Int) - a - 1) u1, .int ((x.2.2.2 : Int) - k - 1) u2, .int (RS.getD a 0 + 1) u3, .ref bl]) ∈ tups
  nd : rls.Pairwise fun p q => @Ne Nat p.1 q.1
theorem MatR.of {wd n : Nat} {ys : List Value} {RS : List Int} {rls : List (Addr × Obj)} (h : BlankR wd n ys rls) : MatR wd ys RS [] rls [] := by
  refine ⟨h.refs, fun a q hq => ?_, h.nd⟩
  obtain ⟨c, hc⟩ := h.obj q (List.mem_of_getElem? hq)
  refine ⟨_, c, hc, by simp, fun k hk => .inl ⟨(fun _ h => nomatch h), ?_⟩⟩
  simp [hk]
theorem MatR.set {wd : Nat} {ys : List Value} {RS : List Int} {dn : List Qd} {rls tups : List (Addr × Obj)} (h : MatR wd ys RS dn rls tups) {x : Qd} {ra T : Addr} {vals : List Value} {c : Nat} {u1 u2 u3 : Tok} {bl : Addr} (hr : rls[x.1]? = some (ra, listOf (List.toArray vals) c)) :
    MatR wd ys RS (dn ++ [x]) (rls.set x.1 (ra, listOf (List.toArray (vals.set x.2.1 (.ref T))) c)) ((T, tupOf [.int ((x.2.2.1 : Int) - x.1 - 1) u1, .int ((x.2.2.2 : Int) - x.2.1 - 1) u2, .int (RS.getD x.1 0 + 1) u3, .ref bl]) :: tups) := by
  obtain ⟨hx, hx'⟩ := List.getElem?_eq_some_iff.mp hr
  have hmap : (rls.set x.1 (ra, listOf (List.toArray (vals.set x.2.1 (.ref T))) c)).map (·.1) = rls.map (·.1) := by
    rw [List.map_set]
    refine List.ext_getElem? fun i => ?_
    by_cases e : x.1 = i
    · subst e; rw [List.getElem?_set_self (by simpa using hx), List.getElem?_map, hr]; rfl
    · rw [List.getElem?_set_ne e]
  refine ⟨?_, fun a q hq => ?_, ?_⟩
  · have : ∀ l : List (Addr × Obj), (l.map fun q => Value.ref q.1) = (l.map (·.1)).map Value.ref := fun l => by rw [List.map_map]; rfl
    rw [h.refs, this, this, hmap]
  · by_cases e : x.1 = a
    · subst e
      rw [List.getElem?_set_self hx] at hq
      obtain rfl := Option.some.inj hq
      obtain ⟨vals', c', e1, e2, e3⟩ := h.obj _ _ hr
      have ev : vals = vals' := by
        simp only [W.listOf, Obj.mk.injEq, Data.seq.injEq] at e1
        have := congrArg Array.toList e1.2.2.1.1
        simpa using this
      subst ev
      refine ⟨_, c, rfl, by rw [List.length_set]; exact e2, fun k hk => ?_⟩
      by_cases ek : x.2.1 = k
      · subst ek
        exact .inr ⟨x, by simp, rfl, rfl, T, u1, u2, u3, bl, by rw [List.getElem?_set_self (by omega)], .head _⟩
      · rw [List.getElem?_set_ne ek]
        rcases e3 k hk with ⟨n1, n2⟩ | ⟨y, hy, y1, y2, T', v1, v2, v3, bl', n1, n2⟩
        · refine .inl ⟨fun y hy => ?_, n2⟩
          rcases List.mem_append.mp hy with hy | hy
          · exact n1 y hy
          · rw [List.mem_singleton.mp hy]; exact fun hh => ek hh.2
        · exact .inr ⟨y, List.mem_append_left _ hy, y1, y2, T', v1, v2, v3, bl', n1, .tail _ n2⟩
    · rw [List.getElem?_set_ne e] at hq
      obtain ⟨vals', c', e1, e2, e3⟩ := h.obj _ _ hq
      refine ⟨vals', c', e1, e2, fun k hk => ?_⟩
      rcases e3 k hk with ⟨n1, n2⟩ | ⟨y, hy, y1, y2, T', v1, v2, v3, bl', n1, n2⟩
      · refine .inl ⟨fun y hy => ?_, n2⟩
        rcases List.mem_append.mp hy with hy | hy
        · exact n1 y hy
        · rw [List.mem_singleton.mp hy]; exact fun hh => e hh.1
      · exact .inr ⟨y, List.mem_append_left _ hy, y1, y2, T', v1, v2, v3, bl', n1, .tail _ n2⟩
  · have : ∀ l : List (Addr × Obj), l.Pairwise (fun p q => @Ne Nat p.1 q.1) ↔ (l.map (·.1)).Pairwise (fun p q => @Ne Nat p q) := fun l => by rw [List.pairwise_map]
    rw [this, hmap, ← this]
    exact h.nd
theorem set_split {α : Type} {l : List α} {i : Nat} {x y : α} (h : l[i]? = some x) : ∃ a b, l = a ++ x :: b ∧ l.set i y = a ++ y :: b ∧ a.length = i := by
  obtain ⟨hi, e⟩ := List.getElem?_eq_some_iff.mp h
  refine ⟨l.take i, l.drop (i + 1), ?_, ?_, by simp; omega⟩
  · rw [← e, List.getElem_cons_drop, List.take_append_drop]
  · exact List.set_eq_take_append_cons_drop ▸ by rw [if_pos hi]
theorem set_row {prog : Program} {w : World} {A : Around} {E : Value → Shared → Prop} {s : Shared} {h₀ : Heap} {L ra : Addr} {m : Str → Option Value} {hs rls tl : List (Addr × Obj)} {vals : List Value} {a k c : Nat} {t : Tok} {v : Value} {Q : Unit → Shared → Prop}
    (F : Fr h₀ L s.heap m) (N : News h₀ L s.heap (hs ++ (rls ++ tl))) (ha : rls[a]? = some (ra, listOf (List.toArray vals) c)) (h1 : ∀ p ∈ hs, @Ne Nat p.1 ra) (h2 : ∀ p ∈ tl, @Ne Nat p.1 ra) (nd : rls.Pairwise fun p q => @Ne Nat p.1 q.1) (hk : k < vals.length) (hv : vals.length ≤ 64)
    (h : ∀ h', Fr h₀ L h' m → News h₀ L h' (hs ++ (rls.set a (ra, listOf (List.toArray (vals.set k v)) c) ++ tl)) → Q () { s with heap := h' }) : wpAny (model prog w) A (setItem (.ref ra) (.int (k : Int) t) v) Q E s := by
  obtain ⟨r1, r2, e1, e2, _⟩ := set_split (y := (ra, listOf (List.toArray (vals.set k v)) c)) ha
  subst e1
  rw [List.pairwise_append, List.pairwise_cons] at nd
  obtain ⟨_, ⟨n2, _⟩, n3⟩ := nd
  have U : UpdF ra (listOf (List.toArray vals) c) ((hs ++ r1) ++ (ra, listOf (List.toArray vals) c) :: (r2 ++ tl)) _ := updF_mid (fun p hp => by
    rcases List.mem_append.mp hp with hp | hp
    · exact Ne.symm (n2 p hp)
    · exact h2 p hp) fun p hp => by
    rcases List.mem_append.mp hp with hp | hp
    · exact h1 p hp
    · exact n3 p hp _ (.head _)
  have N' : News h₀ L s.heap ((hs ++ r1) ++ (ra, listOf (List.toArray vals) c) :: (r2 ++ tl)) := by simpa [List.append_assoc] using N
  refine set_list F N' U (by omega) (by omega) (by rw [List.size_toArray]; omega) fun h' F' N'' => h h' F' ?_
  rw [e2]
  have : (List.toArray vals).setIfInBounds (k : Int).toNat v = List.toArray (vals.set k v) := by simp
  rw [this] at N''
  simpa [List.append_assoc] using N''
def qsum (l : List Qd) : Int := (l.map fun x => ((x.2.2.1 : Int) - x.1) * ((x.2.2.2 : Int) - x.2.1)).sum
theorem qsum_snoc (l : List Qd) (x : Qd) : qsum (l ++ [x]) = qsum l + ((x.2.2.1 : Int) - x.1) * ((x.2.2.2 : Int) - x.2.1) := by
  unfold qsum; rw [List.map_append, List.sum_append]; simp
structure CellAt (g : Heap) (RS CS : List Int) (q : Qd) (v : Value) (T : Addr) (xs : Array Value) : Prop where
  ref : v = .ref T
  tup : g.IsTuple T xs
  xs : ∃ u1 u2 u3 u4 bl, xs = #[.int (RS.getD q.1 0) u1, .int (CS.getD q.2.1 0) u2, .int (RS.getD q.2.2.1 0) u3, .int (CS.getD q.2.2.2 0) u4, .ref bl]
  a : q.1 < q.2.2.1
  b : q.2.1 < q.2.2.2
  c : q.2.2.1 < RS.length
  d : q.2.2.2 < CS.length
theorem cells_choose {g : Heap} {RS CS : List Int} {qs : List Qd} {cv : List Value} (hl : cv.length = qs.length) (h : ∀ (i : Nat) (q : Qd) (v : Value), qs[i]? = some q → cv[i]? = some v → ∃ T xs, CellAt g RS CS q v T xs) :
    ∃ (Ts : Nat → Addr) (vals : Nat → Array Value), ∀ i q, qs[i]? = some q → cv[i]? = some (.ref (Ts i)) ∧ CellAt g RS CS q (.ref (Ts i)) (Ts i) (vals i) := by
  have sk : ∀ i : Nat, ∃ z : Addr × Array Value, ∀ q, qs[i]? = some q → cv[i]? = some (.ref z.1) ∧ CellAt g RS CS q (.ref z.1) z.1 z.2 := fun i => by
    cases hq : qs[i]? with
    | none => exact ⟨(0, #[]), fun q h => by cases h⟩
    | some q =>
      have hi := (List.getElem?_eq_some_iff.mp hq).1
      have hv : cv[i]? = some cv[i] := List.getElem?_eq_getElem (by omega)
      obtain ⟨T, xs, hc⟩ := h i q _ hq hv
      refine ⟨(T, xs), fun q' h => ?_⟩
      obtain rfl := Option.some.inj h
      have := hc.ref
      rw [this] at hv hc
      exact ⟨hv, hc⟩
  obtain ⟨z, hz⟩ := Classical.skolem.mp sk
  exact ⟨fun i => (z i).1, fun i => (z i).2, fun i q hq => hz i q hq⟩
theorem take_snocG {α : Type} {l : List α} {i : Nat} {v : α} (h : l[i]? = some v) : l.take (i + 1) = l.take i ++ [v] := by
  rw [List.take_add_one, h]; rfl
theorem mem_take_at {α : Type} {l : List α} {i : Nat} {v : α} (h : v ∈ l.take i) : ∃ j, j < i ∧ l[j]? = some v := by
  obtain ⟨j, hj, e⟩ := List.getElem_of_mem h
  rw [List.length_take] at hj
  exact ⟨j, by omega, by rw [← e, List.getElem_take, List.getElem?_eq_getElem]⟩
theorem set_row6 {prog : Program} {w : World} {A : Around} {E : Value → Shared → Prop} {s : Shared} {h₀ : Heap} {L ra : Addr} {m : Str → Option Value} {rls tl : List (Addr × Obj)} {t r0 q1 q2 q3 q4 q5 : Addr × Obj} {vals : List Value} {a k c : Nat} {tk : Tok} {v : Value} {Q : Unit → Shared → Prop}
    (F : Fr h₀ L s.heap m) (N : News h₀ L s.heap (t :: r0 :: q1 :: q2 :: q3 :: q4 :: q5 :: (rls ++ tl))) (ha : rls[a]? = some (ra, listOf (List.toArray vals) c)) (h0 : @Ne Nat t.1 ra) (h1 : @Ne Nat q1.1 ra) (h2 : @Ne Nat q2.1 ra) (h3 : @Ne Nat q3.1 ra) (h4 : @Ne Nat q4.1 ra) (h5 : @Ne Nat q5.1 ra)
    (ht : ∀ p ∈ tl, @Ne Nat p.1 ra) (nd : rls.Pairwise fun p q => @Ne Nat p.1 q.1) (hk : k < vals.length) (hv : vals.length ≤ 64)
    (h : ∀ h', Fr h₀ L h' m → News h₀ L h' (q1 :: q2 :: q3 :: q4 :: q5 :: (rls.set a (ra, listOf (List.toArray (vals.set k v)) c) ++ t :: tl)) → Q () { s with heap := h' }) : wpAny (model prog w) A (setItem (.ref ra) (.int (k : Int) tk) v) Q E s := by
  refine set_row (hs := [t, q1, q2, q3, q4, q5]) (a := a) F (news_sub N fun q hq => ?_) ha (fun p hp => ?_) ht nd hk hv fun h' F' N' => h h' F' (news_sub N' fun q hq => ?_)
  · rcases List.mem_cons.mp hq with rfl | hq
    · exact .head _
    · exact .tail _ (.tail _ hq)
  · simp only [List.mem_cons, List.not_mem_nil, or_false] at hp
    rcases hp with rfl | rfl | rfl | rfl | rfl | rfl <;> assumption
  · have hq' : q ∈ [q1, q2, q3, q4, q5] ++ (rls.set a (ra, listOf (List.toArray (vals.set k v)) c) ++ t :: tl) := hq
    rcases List.mem_append.mp hq' with h | h
    · exact .tail _ (List.mem_append_left _ h)
    rcases List.mem_append.mp h with h | h
    · exact List.mem_append_right [t, q1, q2, q3, q4, q5] (List.mem_append_left _ h)
    rcases List.mem_cons.mp h with rfl | h
    · exact .head _
    · exact List.mem_append_right [t, q1, q2, q3, q4, q5] (List.mem_append_right _ h)
theorem set_addr {rls : List (Addr × Obj)} {a : Nat} {ra : Addr} {o o' : Obj} (hr : rls[a]? = some (ra, o)) : ∀ p ∈ rls.set a (ra, o'), ∃ p' ∈ rls, p'.1 = p.1 := fun p hp => by
  rcases List.mem_or_eq_of_mem_set hp with h | rfl
  · exact ⟨p, h, rfl⟩
  · exact ⟨_, List.mem_of_getElem? hr, rfl⟩
theorem d8_set {a1 a2 a3 a4 a5 a6 a7 a8 : Addr} {rls tups : List (Addr × Obj)} {a : Nat} {ra X : Addr} {o o' t : Obj} (h : D8 a1 a2 a3 a4 a5 a6 a7 a8 (rls ++ tups)) (hr : rls[a]? = some (ra, o)) (hX : D8 a1 a2 a3 a4 a5 a6 a7 a8 [(X, t)]) : D8 a1 a2 a3 a4 a5 a6 a7 a8 (rls.set a (ra, o') ++ (X, t) :: tups) := fun p hp => by
  rcases List.mem_append.mp hp with hp | hp
  · obtain ⟨p', hp', e⟩ := set_addr hr p hp
    rw [← e]; exact h p' (List.mem_append_left _ hp')
  · rcases List.mem_cons.mp hp with rfl | hp
    · exact hX _ (.head _)
    · exact h p (List.mem_append_right _ hp)
theorem dis_set {rls tups : List (Addr × Obj)} {a : Nat} {ra X : Addr} {o o' t : Obj} (h : Dis rls tups) (hr : rls[a]? = some (ra, o)) (hX : ∀ p ∈ rls, @Ne Nat p.1 X) : Dis (rls.set a (ra, o')) ((X, t) :: tups) := fun p hp q hq => by
  obtain ⟨p', hp', e⟩ := set_addr hr p hp
  rw [← e]
  rcases List.mem_cons.mp hq with rfl | hq
  · exact hX p' hp'
  · exact h p' hp' q hq
theorem off_set {rls tups : List (Addr × Obj)} {a : Nat} {ra X I : Addr} {o o' t : Obj} {q1 q2 q3 q4 : Addr × Obj} (h : ∀ q ∈ q1 :: q2 :: q3 :: q4 :: (rls ++ tups), q.1 ≠ I) (hr : rls[a]? = some (ra, o)) (hX : @Ne Nat X I) : ∀ q ∈ q1 :: q2 :: q3 :: q4 :: (rls.set a (ra, o') ++ (X, t) :: tups), q.1 ≠ I := fun q hq => by
  rcases List.mem_append.mp (show q ∈ [q1, q2, q3, q4] ++ (rls.set a (ra, o') ++ (X, t) :: tups) from hq) with hq | hq
  · exact h q (List.mem_append_left (as := [q1, q2, q3, q4]) _ hq)
  rcases List.mem_append.mp hq with hq | hq
  · obtain ⟨p', hp', e⟩ := set_addr hr q hq
    rw [← e]; exact h p' (List.mem_append_right [q1, q2, q3, q4] (List.mem_append_left _ hp'))
  rcases List.mem_cons.mp hq with rfl | hq
  · exact hX
  · exact h q (List.mem_append_right [q1, q2, q3, q4] (List.mem_append_right _ hq))
theorem rem_next {tot S a b c d : Int} : tot - S - (a - b - 1 + 1) * (c - d - 1 + 1) = tot - (S + (a - b) * (c - d)) := by
  rw [Int.sub_add_cancel, Int.sub_add_cancel]; omega
def StrOut (RS CS : List Int) (qs : List Qd) (v : Value) (led : List (Addr × Obj)) : Prop :=
  ∃ T spec head body sv c c' ys rls tups, v = .ref T ∧ (T, tupOf [.ref spec, .ref head, .ref body]) ∈ led ∧ (spec, listOf (List.toArray sv) c) ∈ led ∧ IntsAre sv (difs CS (CS.length - 1)) ∧ (head, listOf #[] 0) ∈ led ∧ (body, listOf (List.toArray ys) c') ∈ led ∧
    ys.length = RS.length - 1 ∧ MatR (CS.length - 1) ys RS qs rls tups ∧ (∀ q ∈ rls, q ∈ led) ∧ (∀ q ∈ tups, q ∈ led) ∧ @Ne Nat spec body ∧ @Ne Nat spec head ∧ @Ne Nat body head ∧ (∀ q ∈ rls ++ tups, @Ne Nat q.1 spec ∧ @Ne Nat q.1 body ∧ @Ne Nat q.1 head) ∧ Dis rls tups
end Mine
end SFb_part
section SF_part
open PySem PySem.W PyProof.Rows PySem.Calls
namespace Mine
local macro_rules | `(tactic| walk_at "zz0") => `(tactic| fail)
local macro_rules | `(tactic| walk_at "zz1") => `(tactic| fail)
local macro_rules | `(tactic| walk_at "zz2") => `(tactic| fail)
local macro_rules | `(tactic| walk_at "zz3") => `(tactic| fail)
local macro_rules | `(tactic| walk_at "zz4") => `(tactic| fail)
local macro_rules | `(tactic| walk_at "zz5") => `(tactic| fail)
local macro_rules | `(tactic| walk_at "zz6") => `(tactic| fail)
local macro_rules | `(tactic| walk_at "zz7") => `(tactic| fail)
local macro_rules | `(tactic| walk_at "zz8") => `(tactic| fail)
local macro_rules | `(tactic| walk_at "zz9") => `(tactic| fail)
local macro_rules | `(tactic| walk_at "zz10") => `(tactic| fail)
local macro_rules | `(tactic| walk_at "zz11") => `(tactic| fail)
local macro_rules | `(tactic| walk_at "zz12") => `(tactic| fail)
local macro_rules | `(tactic| walk_at "zz13") => `(tactic| fail)
local macro_rules | `(tactic| walk_at "zz14") => `(tactic| fail)
local macro_rules | `(tactic| walk_at "zz15") => `(tactic| fail)
local macro_rules | `(tactic| walk_at "zz16") => `(tactic| fail)
local macro_rules | `(tactic| walk_at "zz17") => `(tactic| fail)
local macro_rules | `(tactic| walk_at "zz18") => `(tactic| fail)
local macro_rules | `(tactic| walk_at "zz19") => `(tactic| fail)
local macro_rules | `(tactic| walk_at "zz20") => `(tactic| fail)
local macro_rules | `(tactic| walk_at "zz21") => `(tactic| fail)
local macro_rules | `(tactic| walk_at "zz22") => `(tactic| fail)
local macro_rules | `(tactic| walk_at "zz23") => `(tactic| fail)
local macro_rules | `(tactic| walk_at "zz24") => `(tactic| fail)
local macro_rules | `(tactic| walk_at "zz25") => `(tactic| fail)
local macro_rules | `(tactic| walk_at "zz26") => `(tactic| fail)
local macro_rules | `(tactic| walk_at "zz27") => `(tactic| fail)
local macro_rules | `(tactic| walk_at "zz28") => `(tactic| fail)
local macro_rules | `(tactic| walk_at "zz29") => `(tactic| fail)
local macro_rules | `(tactic| k_all) => `(tactic| assumption)
local macro_rules | `(tactic| walk_at "pyIter ref") => `(tactic| refine Hold.of ?_)
local macro_rules | `(tactic| walk_at "call ref") => `(tactic| refine Hold.of ?_)
local macro_rules | `(tactic| walk_at "exec For") => `(tactic| (with_unfolding_all refine' For_run ?_))
local macro_rules | `(tactic| walk_at "exec For Name Call cons nil") => `(tactic| (with_unfolding_all refine' For_run ?_))
local macro_rules | `(tactic| walk_at "exec For Tuple Call cons nil") => `(tactic| (with_unfolding_all refine' For_run ?_))
local macro_rules | `(tactic| walk_at "getAttr ref") => `(tactic| (k_dflt (refine' get_own ?k1 ?k2 (inst_up ?k3 (Fr.keep ?k1)) ?k4 ?k5 ?k6 ?k7 ?k8 ?k9 ?_; (case k1 => k_asm); (case k2 => k_asm); (case k3 => k_asm); (case k4 => k_is); (case k5 => k_is); (case k6 => k_is); (case k7 => k_is); (case k8 => k_asm); (case k9 => k_handed); k_whole)))
local macro_rules | `(tactic| walk_at "eval Name") => `(tactic| ((with_reducible show wpAny _ _ (eval _ (envOfC _ _ _ _ _)) _ _ _); k_dflt (refine' nameX_L ?F ?v ?_ ?a ?b ?d; (case F => k_asm); (case v => rfl); (case a => kernel_rfl); (case b => kernel_rfl); (case d => kernel_rfl); k_whole)))
local macro_rules | `(tactic| walk_at "eval Name") => `(tactic| ((with_reducible show wpAny _ _ (eval _ (envOf _ _ _ _ _)) _ _ _); k_dflt (refine' ld ?k1 ?k2 ?_ ?k3 ?k4 ?k5; (case k1 => k_asm); (case k2 => exact rfl); (case k3 => kernel_rfl); (case k4 => kernel_rfl); (case k5 => kernel_rfl); k_whole)))
local macro_rules | `(tactic| walk_at "Turned") => `(tactic| first | refine Turned.ret ?_ | refine Turned.brk ?_)
local macro_rules | `(tactic| walk_at "go") => `(tactic| repeat' (first | (k_unfold; (try dsimp only)) | walk1 | (dsimp only; walk1) | (dsimp only; k_unfold; (try dsimp only))))
local macro_rules | `(tactic| walk_at "kf") => `(tactic| ((with_reducible show wpAny _ _ _ _ _ _); k_fold))
local macro_rules | `(tactic| walk_at "locals") => `(tactic| (intro y h1 h2; simp only [List.mem_cons, List.not_mem_nil, or_false, not_or] at h1 h2; simp [h1, h2]))
local macro_rules | `(tactic| walk_at "eval ListComp") => `(tactic| (k_dflt (refine ListComp_runF (by k_asm) (by with_unfolding_all rfl) (by rfl) (by decide) ?_)))
local macro_rules | `(tactic| walk_at "exec Assign cons ListComp") => `(tactic| (k_dflt (refine Assign_ListComp_runF (by k_asm) (by with_unfolding_all rfl) (by with_unfolding_all rfl) (by rfl) (by decide) (by rfl) (by rfl) (by rfl) ?_)))
local macro_rules | `(tactic| walk_at "sub") => `(tactic| first | exact List.forall_mem_nil _ | refine List.forall_mem_cons.mpr ⟨by k_mem, by walk_at "sub"⟩)
local macro_rules | `(tactic| walk_at "hnd1") => `(tactic| first | exact apart_nil | refine apart_cons (by k_ne) (by walk_at "hnd1"))
local macro_rules | `(tactic| walk_at "hnd2") => `(tactic| first | exact Apart.nil | refine Apart.cons (by walk_at "hnd1") (by walk_at "hnd2"))
local macro_rules | `(tactic| walk_at "hnd") => `(tactic| exact Apart.nd (by walk_at "hnd2"))
local macro_rules | `(tactic| k_ne) => `(tactic| first | exact NE.out (by assumption) | exact NE.flip (by assumption) | (refine neN ?_; (try dsimp only); omega))
local macro_rules | `(tactic| walk_at "mem") => `(tactic| first | exact List.Mem.head _ | (refine List.Mem.tail _ ?_; walk_at "mem"))
local macro_rules | `(tactic| walk_at "getMethod ref") => `(tactic| (k_dflt (refine' keys_method (dictOf_up ?D (Fr.keep ?F)) ?_; (case F => k_asm); (case D => k_asm); k_whole)))
local macro_rules | `(tactic| walk_at "call builtin:dict.keys") => `(tactic| (k_dflt (refine' keys_call ?F ?N (dictOf_up ?D (Fr.keep ?F)) ?l ?_; (case F => k_asm); (case N => k_asm); (case D => k_asm); (case l => k_asm)); intro v' h' F' N' l1; (try k_lt l1)))
local macro_rules | `(tactic| walk_at "call builtin:sorted") => `(tactic| refine Hold.of ?_)
local macro_rules | `(tactic| walk_at "lst") => `(tactic| first | exact lst_up (by assumption) (Fr.keep (by k_asm)) | exact lst_news (by k_asm) (by k_mem))
local macro_rules | `(tactic| walk_at "call builtin:len") => `(tactic| (k_dflt (refine' len_list ?l ?f ?_; (case l => walk_at "lst"); (case f => (rw [List.size_toArray]; omega)); k_whole); (try rw [List.size_toArray])))
local macro_rules | `(tactic| walk_at "setItem ref int") => `(tactic| refine Hold.of ?_)
local macro_rules | `(tactic| walk_at "subscriptTail Name Name ref int") => `(tactic| first | (k_dflt (refine' kda_item ?N ?p ?d (intKind_is _ _ _ _) ?l ?_; (case N => k_asm); (case p => k_mem); (case d => k_asm); (case l => assumption))) | (k_dflt (refine' item_listT ?l ?a ?b ?x ?_; (case l => walk_at "lst"); (case a => omega); (case b => omega); (case x => assumption))))
local macro_rules | `(tactic| walk_at "subscriptTail Subscript Name Name ref int") => `(tactic| (k_dflt (refine' item_listT ?l ?a ?b ?x ?_; (case l => walk_at "lst"); (case a => omega); (case b => omega); (case x => assumption))))
local macro_rules | `(tactic| walk_at "subscriptTail Subscript Name Name Name ref int") => `(tactic| (k_dflt (refine' item_listT ?l ?a ?b ?x ?_; (case l => walk_at "lst"); (case a => omega); (case b => omega); (case x => assumption))))
local macro_rules | `(tactic| walk_at "setItem ref int") => `(tactic| (k_dflt (refine' kda_set (knd := PySem.intKind _ _) ?F ?N ?U ?d (intKind_is _ _ _ _) ?z ?_; (case F => k_asm); (case N => k_asm); (case U => k_updF); (case d => k_asm); (case z => rw [sizeLine_eq]; omega)); intro h' o' F' N' hd'; (try dsimp only at N')))
local macro_rules | `(tactic| walk_at "localsM") => `(tactic| (intro y h1 h2; simp only [List.map_cons, List.map_nil, List.mem_cons, List.not_mem_nil, or_false, not_or] at h1 h2; simp [h1, h2]))
theorem structure_walk {prog : Program} {w : World} {s : Shared} {g : Heap} {mg mb : Str → Option Value} {p : Program} {loose : List Str} {self dx ce rs cs : Addr} {es : List DictEntry} {n : Nat} {kv1 kv2 : List (Int × Value)} {cv : List Value} {RS CS : List Int} {qs : List Qd}
   (X : (hd.heap_39 w.params).In g) (T : TopRead p loose mg mb g) (S : St g s.heap [])
   (I : InstAt g self (instObj 245 dx) 245 (some (dictOf es n))) (hr1 : getL "rowseps" es = some (some (.ref rs))) (hr2 : getL "colseps" es = some (some (.ref cs))) (hr3 : getL "cells" es = some (some (.ref ce))) (hr4 : getL "head_body_sep" es = some (some .none))
   (D1 : g.DictOf (intKind prog w) rs kv1) (D2 : g.DictOf (intKind prog w) cs kv2) (m1 : (rs == sysModules) = false) (m2 : (cs == sysModules) = false) (hk1 : kv1.length < 64) (hk2 : kv2.length < 64)
   (hRS : ∀ ns : List Int, ns.Perm (kv1.map (·.1)) → ns.Pairwise (fun x y => x ≤ y) → ns = RS) (hCS : ∀ ns : List Int, ns.Perm (kv2.map (·.1)) → ns.Pairwise (fun x y => x ≤ y) → ns = CS) (hR2 : 2 ≤ RS.length) (hC2 : 2 ≤ CS.length) (hRn : RS.Nodup) (hCn : CS.Nodup) (hRz : ∀ x ∈ RS, 0 ≤ x ∧ x < 100) (hCz : ∀ x ∈ CS, 0 ≤ x ∧ x < 100)
   (hce : g.IsList ce cv.toArray) (hcv : cv.length = qs.length) (hq64 : qs.length ≤ 64)
   (hcel : ∀ (i : Nat) (q : Qd) (v : Value), qs[i]? = some q → cv[i]? = some v → ∃ T xs, CellAt g RS CS q v T xs) (hdis : ∀ (i j : Nat) (x q : Qd), i < j → qs[i]? = some x → qs[j]? = some q → ¬ (x.1 = q.1 ∧ x.2.1 = q.2.1)) (hsum : qsum qs = ((RS.length : Int) - 1) * ((CS.length : Int) - 1)) :
   codeAny (model prog w) (lv 850 4500) (.call (.ref 242) ⟨[.ref self], []⟩) (Back g s (StrOut RS CS qs)) s := by
  k_dflt (refine' enterC (binds := [("self", .ref self)]) X T S ?k6 ?k7 ?k8 ?k9 ?kB ?kD ?_ ?c2 ?c3 ?c4; (case k6 => k_is); (case k7 => k_is); (case k8 => decide); (case k9 => exact BindsTo.of_eq rfl); (case kB => rfl); (case kD => decide); (case c2 => rfl))
  intro L h₁ tk cells F N Y lt
  k_cells Y
  rename_i oc2 oc1 oh2 oh1
  dsimp only [List.cons_append, List.nil_append] at N
  walk_at "kf"
  walk_at "go"
  rename Fr _ _ _ _ => F'
  rename News _ _ _ _ => N'
  refine Hold.out (sorted_keys rfl F' N' (.head _) (dictOf_up D1 F'.keep) hk1 ?_)
  intro D vs' ns' c h₂ tk₂ F₂ N₂ l2 hi hp hs
  have e := hRS ns' hp hs
  subst e
  k_lt l2
  clear F' N' hRS hs
  have hlen1 : vs'.length = ns'.length := hi.length
  have hns1 : ns'.length < 64 := by have := hp.length_eq; rw [List.length_map] at this; omega
  clear hp
  dsimp only
  walk_at "go"
  rename IsRange _ _ _ _ _ _ _ _ => Rg
  rename Fr _ _ _ _ => F'
  rename News _ _ _ _ => N'
  rename Obj.IsDictOf (PySem.intKind prog w) _ [] => hdi
  rename (_ < _) ∧ (_ < _) ∧ (_ < _) ∧ (_ < _) => r1
  rename_i d _ o _ _ _ _ _ _ _ _ _ _ _ _ _ _
  refine Hold.out ?_
  have hsz : Builtin.Range.rangeSize 0 (ns'.length : Int) 1 = ((ns'.length : Nat) : Int) := by rw [rangeSize_one]; split <;> omega
  refine range_run (n := ns'.length) [] (fun i u led => ∃ o, led = [(d, o), (D, listOf (List.toArray vs') c), (L + 1 + 1, oc2), (L + 1, oc1)] ∧ IdxD prog w o ns' i) rfl Rg (small_one (by omega) (by omega) (by omega) (by omega)) hsz F' (news_sub N' fun q hq => ?_) ⟨_, rfl, [], hdi, rfl, fun _ h => absurd h (Nat.not_lt_zero _)⟩ ?_ ?_
  · simp only [List.mem_cons, List.not_mem_nil, or_false] at hq ⊢
    rcases hq with h | h | h | h <;> simp only [h, true_or, or_true]
  · rintro i t u news₁ h tk I' ob hin ⟨o, rfl, kvs, hdo, hkl, hkv⟩ hoff F N
    rw [show (0 : Int) + (i : Int) * 1 = i by omega] at F
    have hdI := NE.mk (hoff _ (.head _))
    have hDI := NE.mk (hoff _ (.tail _ (.head _)))
    have hd1 : NE d D := NE.mk (Nat.ne_of_gt r1.1)
    have hd2 : NE d (L + 1 + 1) := NE.mk (Nat.ne_of_gt r1.2.2.1)
    have hd3 : NE d (L + 1) := NE.mk (Nat.ne_of_gt r1.2.2.2)
    clear F' N' Rg hsz
    walk_at "kf"
    walk_at "go"
    rename Fr _ _ _ _ => F'
    rename News _ _ _ _ => N'
    rename Obj.IsDictOf _ _ (stored _ _ _) => hd'
    refine Turned.next F' (news' := [(d, _), (D, listOf (List.toArray vs') c), (L + 1 + 1, oc2), (L + 1, oc1)]) N' (fun q hq => not_one.mpr ?_) (by walk_at "locals") ⟨_, rfl, _, hd', idx_store hRn hin hkl hkv⟩
    simp only [List.mem_cons, List.not_mem_nil, or_false] at hq
    rcases hq with rfl | rfl | rfl | rfl
    · exact hdI.out
    · exact hDI.out
    · exact hoff _ (.tail _ (.tail _ (.head _)))
    · exact hoff _ (.tail _ (.tail _ (.tail _ (.head _))))
  rintro u news₁ h tk ⟨o, rfl, hix1⟩ F N
  have hd1 : NE d D := NE.mk (Nat.ne_of_gt r1.1)
  have hd2 : NE d (L + 1 + 1) := NE.mk (Nat.ne_of_gt r1.2.2.1)
  have hd3 : NE d (L + 1) := NE.mk (Nat.ne_of_gt r1.2.2.2)
  have hd4 : NE D (L + 1 + 1) := NE.mk (Nat.ne_of_gt l2.2.1)
  have hd5 : NE D (L + 1) := NE.mk (Nat.ne_of_gt l2.2.2)
  clear F' N' Rg hsz hdi l2 r1
  walk_at "go"
  rename Fr _ _ _ _ => F'
  rename News _ _ _ _ => N'
  refine Hold.out (sorted_keys rfl F' N' (.head _) (dictOf_up D2 F'.keep) hk2 ?_)
  intro D3 vs3 ns3 c3 h₃ tk₃ F₃ N₃ l3 hi3 hp3 hs3
  have e := hCS ns3 hp3 hs3
  subst e
  k_lt l3
  clear F' N' hCS hs3
  have hlen3 : vs3.length = ns3.length := hi3.length
  have hns3 : ns3.length < 64 := by have := hp3.length_eq; rw [List.length_map] at this; omega
  clear hp3
  dsimp only
  walk_at "go"
  rename IsRange _ _ _ _ _ _ _ _ => Rg
  rename Fr _ _ _ _ => F'
  rename News _ _ _ _ => N'
  rename Obj.IsDictOf (PySem.intKind prog w) _ [] => hdi
  rename (_ < _) ∧ (_ < _) ∧ (_ < _) ∧ (_ < _) ∧ (_ < _) ∧ (_ < _) => r1
  rename_i oc3 hc3 d3 _ o3 _ _ _ _ _ _ _ _ _ _ _ _ _ _
  refine Hold.out ?_
  have hsz : Builtin.Range.rangeSize 0 (ns3.length : Int) 1 = ((ns3.length : Nat) : Int) := by rw [rangeSize_one]; split <;> omega
  refine range_run (n := ns3.length) [] (fun i u led => ∃ o3, led = [(d3, o3), (D3, listOf (List.toArray vs3) c3), (d, o), (D, listOf (List.toArray vs') c), (L + 1 + 1, oc2), (L + 1, oc3)] ∧ IdxD prog w o3 ns3 i) rfl Rg (small_one (by omega) (by omega) (by omega) (by omega)) hsz F' (news_sub N' fun q hq => ?_) ⟨_, rfl, [], hdi, rfl, fun _ h => absurd h (Nat.not_lt_zero _)⟩ ?_ ?_
  · simp only [List.mem_cons, List.not_mem_nil, or_false] at hq ⊢
    rcases hq with h | h | h | h | h | h <;> simp only [h, true_or, or_true]
  · rintro i t u news₁ h tk I' ob hin ⟨o3, rfl, kvs, hdo, hkl, hkv⟩ hoff F N
    rw [show (0 : Int) + (i : Int) * 1 = i by omega] at F
    have hdI := NE.mk (hoff _ (.head _))
    have f1 : NE d3 D3 := NE.mk (Nat.ne_of_gt r1.1)
    have f2 : NE d3 d := NE.mk (Nat.ne_of_gt r1.2.2.1)
    have f3 : NE d3 D := NE.mk (Nat.ne_of_gt r1.2.2.2.1)
    have f4 : NE d3 (L + 1 + 1) := NE.mk (Nat.ne_of_gt r1.2.2.2.2.1)
    have f5 : NE d3 (L + 1) := NE.mk (Nat.ne_of_gt r1.2.2.2.2.2)
    clear F' N' Rg hsz
    walk_at "kf"
    walk_at "go"
    rename Fr _ _ _ _ => F'
    rename News _ _ _ _ => N'
    rename Obj.IsDictOf _ _ (stored _ _ _) => hd'
    refine Turned.next F' (news' := [(d3, _), (D3, listOf (List.toArray vs3) c3), (d, o), (D, listOf (List.toArray vs') c), (L + 1 + 1, oc2), (L + 1, oc3)]) N' (fun q hq => not_one.mpr ?_) (by walk_at "locals") ⟨_, rfl, _, hd', idx_store hCn hin hkl hkv⟩
    simp only [List.mem_cons, List.not_mem_nil, or_false] at hq
    rcases hq with rfl | rfl | rfl | rfl | rfl | rfl
    · exact hdI.out
    · exact hoff _ (.tail _ (.head _))
    · exact hoff _ (.tail _ (.tail _ (.head _)))
    · exact hoff _ (.tail _ (.tail _ (.tail _ (.head _))))
    · exact hoff _ (.tail _ (.tail _ (.tail _ (.tail _ (.head _)))))
    · exact hoff _ (.tail _ (.tail _ (.tail _ (.tail _ (.tail _ (.head _))))))
  rintro u₂ news₁ h tk ⟨o3, rfl, hix3⟩ F N
  have f1 : NE d3 D3 := NE.mk (Nat.ne_of_gt r1.1)
  have f2 : NE d3 d := NE.mk (Nat.ne_of_gt r1.2.2.1)
  have f3 : NE d3 D := NE.mk (Nat.ne_of_gt r1.2.2.2.1)
  have f4 : NE d3 (L + 1 + 1) := NE.mk (Nat.ne_of_gt r1.2.2.2.2.1)
  have f5 : NE d3 (L + 1) := NE.mk (Nat.ne_of_gt r1.2.2.2.2.2)
  have g1 : NE D3 d := NE.mk (Nat.ne_of_gt l3.2.1)
  have g2 : NE D3 D := NE.mk (Nat.ne_of_gt l3.2.2.1)
  have g3 : NE D3 (L + 1 + 1) := NE.mk (Nat.ne_of_gt l3.2.2.2.1)
  have g4 : NE D3 (L + 1) := NE.mk (Nat.ne_of_gt l3.2.2.2.2)
  clear F' N' Rg hsz hdi l3 r1
  walk_at "go"
  rename IsRange _ _ _ _ _ _ _ _ => Rg
  rename Fr _ _ _ _ => F'
  rename News _ _ _ _ => N'
  refine Hold.out ?_
  have hsz : Builtin.Range.rangeSize 1 (ns3.length : Int) 1 = ((ns3.length - 1 : Nat) : Int) := by rw [rangeSize_one]; split <;> omega
  refine range_compS (fun i ys => IntsAre ys (difs ns3 i)) rfl Rg (small_one (by omega) (by omega) (by omega) (by omega)) hsz (by rw [sizeLine_eq]; omega) F' N' .nil ?_ ?_
  · intro i t ys h tk I' ob C oC DD m₂ E' hi hJ hns hx hIC hID hCD hoff F N
    rw [show (1 : Int) + (i : Int) * 1 = i + 1 by omega] at hx
    refine CBody.nil ?_
    clear F' N' Rg hsz
    walk_at "kf"
    walk_at "go"
    rename Fr _ _ _ _ => F'
    rename News _ _ _ _ => N'
    refine CEnd.same F' N' (by walk_at "sub") hoff ?_
    rw [difs_succ]
    have e1 : ((i : Int) + 1).toNat = i + 1 := by omega
    have e2 : ((i : Int) + 1 - 1).toNat = i := by omega
    rw [e1, e2]
    exact ksk_snoc hJ
  · intro ys4 h hJ D4 h' tk' F N off
    replace off := off1_of off
    simp only [LCg.Off1, and_true] at off
    change News g _ h' ((D4, listOf (List.toArray ys4) ys4.length) :: _) at N
    clear F' N' Rg hsz
    walk_at "go"
    rename IsRange _ _ _ _ _ _ _ _ => Rg
    rename Fr _ _ _ _ => F'
    rename News _ _ _ _ => N'
    refine Hold.out ?_
    generalize ys4.length = c4 at N'
    have hsz : Builtin.Range.rangeSize 0 ((vs3.length : Int) - 1) 1 = ((ns3.length - 1 : Nat) : Int) := by rw [rangeSize_one]; split <;> omega
    refine range_compS (fun i ys => ys = List.replicate i Value.none) rfl Rg (small_one (by omega) (by omega) (by omega) (by omega)) hsz (by rw [sizeLine_eq]; omega) F' N' rfl ?_ ?_
    · intro i t ys' h tk I' ob C oC DD m₂ E' hi' hJ' hns hx hIC hID hCD hoff F N
      refine CBody.nil ?_
      clear F' N' Rg hsz
      walk_at "kf"
      walk_at "go"
      exact CEnd.same F N (by walk_at "sub") hoff (by rw [hJ', List.replicate_succ'])
    · intro ys' h hJ' D5 h' tk' F N off5
      replace off5 := off1_of off5
      simp only [LCg.Off1, and_true] at off5
      rw [hJ'] at N
      change News g _ h' ((D5, listOf (List.toArray (List.replicate (ns3.length - 1) Value.none)) _) :: _) at N
      clear F' N' Rg hsz hJ' ys'
      walk_at "go"
      rename IsRange _ _ _ _ _ _ _ _ => Rg
      rename Fr _ _ _ _ => F'
      rename News _ _ _ _ => N'
      rename Obj.data _ = Data.cell (some (Value.ref D5)) => hc5
      refine Hold.out ?_
      generalize (List.replicate (ns3.length - 1) Value.none).length = c5 at N'
      have hsz : Builtin.Range.rangeSize 0 ((vs'.length : Int) - 1) 1 = ((ns'.length - 1 : Nat) : Int) := by rw [rangeSize_one]; split <;> omega
      rename_i oc5 _ _ _ _ _ _ _ _
      refine range_comp (fun i ys led => ∃ rls, led = (D5, listOf (List.toArray (List.replicate (ns3.length - 1) Value.none)) c5) :: (D4, listOf (List.toArray ys4) c4) :: (d3, o3) :: (D3, listOf (List.toArray vs3) c3) :: (d, o) :: (D, listOf (List.toArray vs') c) :: (L + 1 + 1, oc5) :: (L + 1, oc3) :: rls ∧ BlankR (ns3.length - 1) i ys rls ∧ Off8 D5 D4 d3 D3 d D (L + 1 + 1) (L + 1) rls) rfl Rg (small_one (by omega) (by omega) (by omega) (by omega)) hsz (by rw [sizeLine_eq]; omega) F' N' ⟨[], rfl, BlankR.nil, fun _ h => nomatch h⟩ ?_ ?_
      · rintro i t ys news₁ h tk I' ob C oC DD m₂ E' hi' ⟨rls, rfl, hbl, h8⟩ hns hx hIC hID hCD hoff F N
        refine CBody.nil ?_
        clear F' N' Rg hsz
        walk_at "kf"
        walk_at "go"
        rename Fr _ _ _ _ => F'
        rename News _ _ _ _ => N'
        rw [pick_all] at N'
        exact row_end F' N' (fun q hq => Nat.lt_succ_of_lt (Heap.lt_size (N q hq).1)) hoff hbl h8
      · rintro ys news₁ h ⟨rls, rfl, hbl, h8⟩ D6 h' tk' F N off6
        have hlen6 : ys.length = ns'.length - 1 := by rw [hbl.refs, List.length_map, hbl.len]
        change News g _ h' ((D6, listOf (List.toArray ys) ys.length) :: _) at N
        generalize ys.length = c6 at N
        clear F' N' Rg hsz
        walk_at "go"
        rename Fr _ _ _ _ => F'
        rename News _ _ _ _ => N'
        obtain ⟨kv1', hkd1, hkl1, hkv1⟩ := hix1
        obtain ⟨kv3', hkd3, hkl3, hkv3⟩ := hix3
        obtain ⟨Ts, vals, hTs⟩ := cells_choose hcv hcel
        refine Hold.out ?_
        refine tuples_run (xs := [(Str.ofString "top", _), (Str.ofString "left", _), (Str.ofString "bottom", _), (Str.ofString "right", _), (Str.ofString "block", _)]) (Ts := Ts) (vals := vals) ["rownum", "colnum", "morerows", "morecols", "remaining"] (fun i u led => ∃ rls tups rem trem, led = (D6, listOf (List.toArray ys) c6) :: (D4, listOf (List.toArray ys4) c4) :: (d3, o3) :: (d, o) :: (rls ++ tups) ∧ u "remaining" = some (.int rem trem) ∧ rem = ((vs'.length : Int) - 1) * ((vs3.length : Int) - 1) - qsum (qs.take i) ∧ MatR (ns3.length - 1) ys ns' (qs.take i) rls tups ∧ D8 D6 D4 d3 d D6 D4 d3 d (rls ++ tups) ∧ Dis rls tups) rfl hce ?_ ?_ ?_ F' (news_sub N' fun q hq => ?_) ⟨rls, [], _, _, rfl, rfl, ?_, MatR.of hbl, ?_, Dis.nr⟩ ?_ ?_ (hx := List.forall_mem_cons.mpr ⟨rfl, List.forall_mem_cons.mpr ⟨rfl, List.forall_mem_cons.mpr ⟨rfl, List.forall_mem_cons.mpr ⟨rfl, List.forall_mem_cons.mpr ⟨rfl, fun _ h => nomatch h⟩⟩⟩⟩⟩)
        · intro j hj
          rw [List.size_toArray] at hj
          have := (hTs j _ (List.getElem?_eq_getElem (show j < qs.length by omega))).1
          simpa using this
        · intro j hj
          rw [List.size_toArray] at hj
          exact (hTs j _ (List.getElem?_eq_getElem (show j < qs.length by omega))).2.tup
        · intro j hj
          rw [List.size_toArray] at hj
          obtain ⟨u1, u2, u3, u4, bl, hxs⟩ := (hTs j _ (List.getElem?_eq_getElem (show j < qs.length by omega))).2.xs
          rw [hxs]; rfl
        · rw [List.append_nil] at hq
          rcases List.mem_cons.mp hq with rfl | hq
          · exact .head _
          rcases List.mem_cons.mp hq with rfl | hq
          · exact .tail _ (.tail _ (.head _))
          rcases List.mem_cons.mp hq with rfl | hq
          · exact .tail _ (.tail _ (.tail _ (.head _)))
          rcases List.mem_cons.mp hq with rfl | hq
          · exact .tail _ (.tail _ (.tail _ (.tail _ (.tail _ (.head _)))))
          exact .tail _ (.tail _ (.tail _ (.tail _ (.tail _ (.tail _ (.tail _ (.tail _ (.tail _ hq))))))))
        · simp [qsum]
        · rw [List.append_nil]
          intro p hp
          obtain ⟨b1, b2, b3, b4, b5, b6, b7, b8⟩ := h8 p hp
          have b9 : @Ne Nat p.1 D6 := off6 p (.tail _ (.tail _ (.tail _ (.tail _ (.tail _ (.tail _ (.tail _ (.tail _ hp))))))))
          exact ⟨b9, b2, b3, b5, b9, b2, b3, b5⟩
        · rintro i u₃ news₁ h tk I' ob hin ⟨rls₁, tups, rem, trem, rfl, hrem, hrm, hM, h4, hrt⟩ hoff F N
          rw [List.size_toArray] at hin
          obtain ⟨u₄, hu⟩ : ∃ u₄ : Str → Option Value, u₃ = fun y => if y = Str.ofString "remaining" then some (.int rem trem) else u₄ y := ⟨u₃, by
            funext y
            by_cases e : y = Str.ofString "remaining"
            · rw [if_pos e, e]; exact hrem
            · rw [if_neg e]⟩
          subst hu
          clear hrem
          obtain ⟨q, hqi⟩ : ∃ q, qs[i]? = some q := ⟨_, List.getElem?_eq_getElem (show i < qs.length by omega)⟩
          obtain ⟨hcvi, hcell⟩ := hTs i q hqi
          obtain ⟨w1, w2, w3, w4, bl, hxs⟩ := hcell.xs
          have qa := hcell.a
          have qb := hcell.b
          have qc := hcell.c
          have qd := hcell.d
          rw [hxs] at F
          dsimp only [List.map, List.zip, List.zipWith, bindNames] at F
          obtain ⟨x1, hv1⟩ := idx_at hRn (Nat.le_refl _) hkl1 hkv1 (a := q.1) (by omega)
          obtain ⟨x2, hv2⟩ := idx_at hCn (Nat.le_refl _) hkl3 hkv3 (a := q.2.1) (by omega)
          obtain ⟨x3, hv3⟩ := idx_at hRn (Nat.le_refl _) hkl1 hkv1 (a := q.2.2.1) (by omega)
          obtain ⟨x4, hv4⟩ := idx_at hCn (Nat.le_refl _) hkl3 hkv3 (a := q.2.2.2) (by omega)
          have hrl : rls₁.length = ns'.length - 1 := by have := congrArg List.length hM.refs; rw [List.length_map] at this; omega
          have hrr : rls₁[q.1]? = some (rls₁[q.1]'(by omega)) := List.getElem?_eq_getElem _
          obtain ⟨ra, oa, hroa⟩ : ∃ ra oa, rls₁[q.1]? = some (ra, oa) := ⟨_, _, hrr⟩
          obtain ⟨vals', cc, eoa, hvl, hent⟩ := hM.obj q.1 _ hroa
          dsimp only at eoa
          subst eoa
          have hent1 : vals'[q.2.1]? = some Value.none := by
            rcases hent q.2.1 (by omega) with ⟨_, h⟩ | ⟨x, hx, e1, e2, _⟩
            · exact h
            · obtain ⟨j, hj, hjq⟩ := mem_take_at hx
              exact absurd ⟨e1, e2⟩ (hdis j i x q hj hjq hqi)
          have hent2 : (List.toArray vals')[((q.2.1 : Nat) : Int).toNat]? = some Value.none := by simpa using hent1
          have hys : ys.toArray[((q.1 : Nat) : Int).toNat]? = some (Value.ref ra) := by
            have : ys[q.1]? = some (.ref ra) := by rw [hM.refs, List.getElem?_map, hroa]; rfl
            simpa using this
          have hram : (ra, listOf (List.toArray vals') cc) ∈ rls₁ := List.mem_of_getElem? hroa
          have N3 : News g L h ((ra, listOf (List.toArray vals') cc) :: (I', ob) :: (D6, listOf (List.toArray ys) c6) :: (D4, listOf (List.toArray ys4) c4) :: (d3, o3) :: (d, o) :: (rls₁ ++ tups)) := fun q hq => by
            rcases List.mem_cons.mp hq with rfl | hq
            · exact N _ (.tail _ (.tail _ (.tail _ (.tail _ (.tail _ (List.mem_append_left _ hram))))))
            · exact N q hq
          clear N F' N' hcel hTs hkv1 hkv3 hRz hCz
          generalize hRR : rls₁ ++ tups = RR at N3
          walk_at "kf"
          walk_at "go"
          rename Fr _ _ _ _ => F'
          rename News _ _ _ _ => N'
          rename News _ _ _ ((ra, _) :: _) => Np
          subst hRR
          have hd4 := h4 _ (List.mem_append_left _ hram)
          refine Hold.out (set_row6 (a := q.1) F' N' hroa (Nat.ne_of_gt (Heap.lt_size (Np _ (.head _)).1)) (Ne.symm (hoff _ (.tail _ (.tail _ (.tail _ (.tail _ (List.mem_append_left _ hram))))))) (Ne.symm hd4.1) (Ne.symm hd4.2.1) (Ne.symm hd4.2.2.1) (Ne.symm hd4.2.2.2.1) (fun p hp => Ne.symm (hrt _ hram p hp)) hM.nd (by omega) (by omega) ?_)
          intro h₉ F₉ N₉
          clear F' N'
          walk_at "go"
          have hnp := fun p (hp : p ∈ rls₁) => Heap.lt_size (Np p (.tail _ (.tail _ (.tail _ (.tail _ (.tail _ (.tail _ (List.mem_append_left _ hp))))))) ).1
          refine Turned.next F₉ (news' := _) N₉ (fun q hq => not_one.mpr (off_set hoff hroa (Nat.ne_of_gt (Heap.lt_size (Np _ (.tail _ (.head _))).1)) q hq)) (by walk_at "localsM") ⟨_, _, _, _, rfl, rfl, ?_, by rw [take_snocG hqi]; exact hM.set hroa, d8_set h4 hroa ?_, dis_set hrt hroa fun p hp => Nat.ne_of_lt (hnp p hp)⟩
          · rw [hrm, take_snocG hqi, qsum_snoc]
            exact rem_next
          · intro p hp
            rw [List.mem_singleton.mp hp]
            have z1 := Nat.ne_of_gt (Heap.lt_size (Np _ (.tail _ (.tail _ (.head _)))).1)
            have z2 := Nat.ne_of_gt (Heap.lt_size (Np _ (.tail _ (.tail _ (.tail _ (.head _))))).1)
            have z3 := Nat.ne_of_gt (Heap.lt_size (Np _ (.tail _ (.tail _ (.tail _ (.tail _ (.head _)))))).1)
            have z4 := Nat.ne_of_gt (Heap.lt_size (Np _ (.tail _ (.tail _ (.tail _ (.tail _ (.tail _ (.head _))))))).1)
            exact ⟨z1, z2, z3, z4, z1, z2, z3, z4⟩
        · rintro u₃ news₁ h tk ⟨rls₁, tups, rem, trem, rfl, hrem, hrm, hM, h4, hrt⟩ F N
          rw [List.size_toArray, hcv, List.take_length] at hrm hM
          have hz : rem = 0 := by rw [hrm, hsum, hlen1, hlen3]; omega
          obtain ⟨u₄, hu⟩ : ∃ u₄ : Str → Option Value, u₃ = fun y => if y = Str.ofString "remaining" then some (.int 0 trem) else u₄ y := ⟨u₃, by
            funext y
            by_cases e : y = Str.ofString "remaining"
            · rw [if_pos e, e, ← hz]; exact hrem
            · rw [if_neg e]⟩
          subst hu
          clear F' N' hrem
          walk_at "go"
          rename Fr _ _ _ _ => F'
          rename News _ _ _ _ => N'
          rename (@LT.lt Nat _ D6 _) ∧ _ => lH
          obtain ⟨lh1, lh2, _, _, lh3⟩ := lH
          exact Back.intro F' N' ⟨_, D4, _, D6, ys4, c4, c6, ys, rls₁, tups, rfl, .head _, .tail _ (.tail _ (.tail _ (.head _))), hJ, .tail _ (.head _), .tail _ (.tail _ (.head _)), hlen6, hM, fun q hq => .tail _ (.tail _ (.tail _ (.tail _ (.tail _ (.tail _ (List.mem_append_left _ hq)))))), fun q hq => .tail _ (.tail _ (.tail _ (.tail _ (.tail _ (.tail _ (List.mem_append_right _ hq)))))), off6 _ (.tail _ (.head _)), Nat.ne_of_lt lh2, Nat.ne_of_lt lh1, fun q hq => ⟨(h4 q hq).2.1, (h4 q hq).1, Nat.ne_of_lt (allLt_to lh3 q hq)⟩, hrt⟩
end Mine
end SF_part
section Til_part
open PySem PySem.W PyProof.Rows PySem.Calls
namespace Mine
abbrev Pt := Int × Int × Int × Int
def In (p : Pt) (i j : Int) : Prop := p.1 ≤ i ∧ i < p.2.2.1 ∧ p.2.1 ≤ j ∧ j < p.2.2.2
structure Tiling (B R : Int) (ps : List Pt) : Prop where
  box : ∀ p ∈ ps, 0 ≤ p.1 ∧ p.1 + 2 ≤ p.2.2.1 ∧ p.2.2.1 ≤ B ∧ 0 ≤ p.2.1 ∧ p.2.1 + 2 ≤ p.2.2.2 ∧ p.2.2.2 ≤ R
  cover : ∀ i j, 0 ≤ i → i < B → 0 ≤ j → j < R → ∃ p ∈ ps, In p i j
  uniq : ∀ p ∈ ps, ∀ q ∈ ps, ∀ i j, In p i j → In q i j → p = q
  nodup : ps.Nodup
def cornP (p : Pt) (i j : Int) : Bool := (i == p.1 || i == p.2.2.1) && (j == p.2.1 || j == p.2.2.2)
def vertP (p : Pt) (i j : Int) : Bool := (j == p.2.1 || j == p.2.2.2) && (decide (p.1 ≤ i) && decide (i < p.2.2.1))
def horP (p : Pt) (i j : Int) : Bool := (i == p.1 || i == p.2.2.1) && (decide (p.2.1 ≤ j) && decide (j < p.2.2.2))
theorem cornP_iff {p : Pt} {i j : Int} : cornP p i j = true ↔ (i = p.1 ∨ i = p.2.2.1) ∧ (j = p.2.1 ∨ j = p.2.2.2) := by simp [cornP]
theorem vertP_iff {p : Pt} {i j : Int} : vertP p i j = true ↔ (j = p.2.1 ∨ j = p.2.2.2) ∧ p.1 ≤ i ∧ i < p.2.2.1 := by simp [vertP]
theorem horP_iff {p : Pt} {i j : Int} : horP p i j = true ↔ (i = p.1 ∨ i = p.2.2.1) ∧ p.2.1 ≤ j ∧ j < p.2.2.2 := by simp [horP]
def sgn (ps : List Pt) (i j : Int) : Nat :=
  if ps.any (cornP · i j) then 43 else if ps.any (vertP · i j) then 124 else if ps.any (horP · i j) then 45 else 32
structure Drawn (G : List (List Nat)) (B R : Int) (ps : List Pt) : Prop where
  hi : (G.length : Int) = B + 1
  wid : ∀ r ∈ G, (r.length : Int) = R + 1
  sg : ∀ i j, 0 ≤ i → i ≤ B → 0 ≤ j → j ≤ R → gch G i j = sgn ps i j
theorem sgn_plus {ps : List Pt} {i j : Int} : sgn ps i j = 43 ↔ ∃ p ∈ ps, (i = p.1 ∨ i = p.2.2.1) ∧ (j = p.2.1 ∨ j = p.2.2.2) := by
  unfold sgn
  constructor
  · intro h
    split at h
    · rename_i h1
      obtain ⟨p, hp, hc⟩ := List.any_eq_true.mp h1
      exact ⟨p, hp, cornP_iff.mp hc⟩
    · split at h
      · cases h
      · split at h <;> cases h
  · rintro ⟨p, hp, hc⟩
    rw [if_pos (List.any_eq_true.mpr ⟨p, hp, cornP_iff.mpr hc⟩)]
section
variable {B R : Int} {ps : List Pt} (T : Tiling B R ps)
include T
theorem Tiling.same {p q : Pt} (hp : p ∈ ps) (hq : q ∈ ps) (i j : Int) (h1 : p.1 ≤ i) (h2 : i < p.2.2.1) (h3 : p.2.1 ≤ j) (h4 : j < p.2.2.2) (h5 : q.1 ≤ i) (h6 : i < q.2.2.1) (h7 : q.2.1 ≤ j) (h8 : j < q.2.2.2) : p = q :=
  T.uniq p hp q hq i j ⟨h1, h2, h3, h4⟩ ⟨h5, h6, h7, h8⟩
theorem Tiling.inside {p : Pt} (hp : p ∈ ps) {i j : Int} (h1 : p.1 < i) (h2 : i < p.2.2.1) (h3 : p.2.1 < j) (h4 : j < p.2.2.2) : sgn ps i j = 32 := by
  have box := T.box
  have nc : ∀ q ∈ ps, ¬ (cornP q i j = true) := fun q hq h => by
    have hb := box q hq
    obtain ⟨a, b⟩ := cornP_iff.mp h
    have : p = q := by
      rcases a with a | a <;> rcases b with b | b
      · exact T.same hp hq i j (by omega) (by omega) (by omega) (by omega) (by omega) (by omega) (by omega) (by omega)
      · exact T.same hp hq i (j - 1) (by omega) (by omega) (by omega) (by omega) (by omega) (by omega) (by omega) (by omega)
      · exact T.same hp hq (i - 1) j (by omega) (by omega) (by omega) (by omega) (by omega) (by omega) (by omega) (by omega)
      · exact T.same hp hq (i - 1) (j - 1) (by omega) (by omega) (by omega) (by omega) (by omega) (by omega) (by omega) (by omega)
    subst this; omega
  have nv : ∀ q ∈ ps, ¬ (vertP q i j = true) := fun q hq h => by
    have hb := box q hq
    obtain ⟨b, a1, a2⟩ := vertP_iff.mp h
    have : p = q := by
      rcases b with b | b
      · exact T.same hp hq i j (by omega) (by omega) (by omega) (by omega) (by omega) (by omega) (by omega) (by omega)
      · exact T.same hp hq i (j - 1) (by omega) (by omega) (by omega) (by omega) (by omega) (by omega) (by omega) (by omega)
    subst this; omega
  have nh : ∀ q ∈ ps, ¬ (horP q i j = true) := fun q hq h => by
    have hb := box q hq
    obtain ⟨b, a1, a2⟩ := horP_iff.mp h
    have : p = q := by
      rcases b with b | b
      · exact T.same hp hq i j (by omega) (by omega) (by omega) (by omega) (by omega) (by omega) (by omega) (by omega)
      · exact T.same hp hq (i - 1) j (by omega) (by omega) (by omega) (by omega) (by omega) (by omega) (by omega) (by omega)
    subst this; omega
  unfold sgn
  rw [if_neg (fun h => by obtain ⟨q, hq, hc⟩ := List.any_eq_true.mp h; exact nc q hq hc), if_neg (fun h => by obtain ⟨q, hq, hc⟩ := List.any_eq_true.mp h; exact nv q hq hc),
    if_neg (fun h => by obtain ⟨q, hq, hc⟩ := List.any_eq_true.mp h; exact nh q hq hc)]
theorem Tiling.onHor {p : Pt} (hp : p ∈ ps) {i j : Int} (h1 : i = p.1 ∨ i = p.2.2.1) (h3 : p.2.1 < j) (h4 : j < p.2.2.2) : sgn ps i j = 43 ∨ sgn ps i j = 45 := by
  have box := T.box
  have hb := box p hp
  unfold sgn
  by_cases hc : ps.any (cornP · i j) = true
  · exact .inl (by rw [if_pos hc])
  · rw [if_neg hc]
    refine .inr ?_
    rw [if_neg, if_pos (List.any_eq_true.mpr ⟨p, hp, horP_iff.mpr ⟨h1, by omega, by omega⟩⟩)]
    intro h
    obtain ⟨q, hq, hv⟩ := List.any_eq_true.mp h
    have hbq := box q hq
    obtain ⟨b, a1, a2⟩ := vertP_iff.mp hv
    have n1 : i ≠ q.1 := fun e => hc (List.any_eq_true.mpr ⟨q, hq, cornP_iff.mpr ⟨.inl e, b⟩⟩)
    have : p = q := by
      rcases h1 with h1 | h1 <;> rcases b with b | b
      · exact T.same hp hq i j (by omega) (by omega) (by omega) (by omega) (by omega) (by omega) (by omega) (by omega)
      · exact T.same hp hq i (j - 1) (by omega) (by omega) (by omega) (by omega) (by omega) (by omega) (by omega) (by omega)
      · exact T.same hp hq (i - 1) j (by omega) (by omega) (by omega) (by omega) (by omega) (by omega) (by omega) (by omega)
      · exact T.same hp hq (i - 1) (j - 1) (by omega) (by omega) (by omega) (by omega) (by omega) (by omega) (by omega) (by omega)
    subst this
    omega
theorem Tiling.onVert {p : Pt} (hp : p ∈ ps) {i j : Int} (h1 : j = p.2.1 ∨ j = p.2.2.2) (h3 : p.1 < i) (h4 : i < p.2.2.1) : sgn ps i j = 43 ∨ sgn ps i j = 124 := by
  unfold sgn
  by_cases hc : ps.any (cornP · i j) = true
  · exact .inl (by rw [if_pos hc])
  · rw [if_neg hc]
    exact .inr (by rw [if_pos (List.any_eq_true.mpr ⟨p, hp, vertP_iff.mpr ⟨h1, by omega, by omega⟩⟩)])
omit T
theorem sgn_corner {p : Pt} (hp : p ∈ ps) {i j : Int} (h1 : i = p.1 ∨ i = p.2.2.1) (h2 : j = p.2.1 ∨ j = p.2.2.2) : sgn ps i j = 43 := sgn_plus.mpr ⟨p, hp, h1, h2⟩
end
end Mine
end Til_part
section Til2_part
open PySem PySem.W PyProof.Rows PySem.Calls
namespace Mine
theorem mem_addKey {ks : List Int} {k x : Int} : x ∈ addKey ks k ↔ x ∈ ks ∨ x = k := by
  unfold addKey
  split
  · rename_i h
    exact ⟨.inl, fun q => q.elim id fun e => e ▸ h⟩
  · simp
theorem nodup_addKey {ks : List Int} {k : Int} (h : ks.Nodup) : (addKey ks k).Nodup := by
  unfold addKey
  split
  · exact h
  · rename_i hn
    rw [List.nodup_append]
    refine ⟨h, by simp, fun a ha b hb e => ?_⟩
    rw [List.mem_singleton.mp hb] at e
    exact hn (e ▸ ha)
theorem mem_foldl_addKey {x : Int} : ∀ {l ks : List Int}, x ∈ l.foldl addKey ks ↔ x ∈ ks ∨ x ∈ l
  | [], ks => by simp
  | k :: l, ks => by
    rw [List.foldl_cons, mem_foldl_addKey, mem_addKey, List.mem_cons, or_assoc]
theorem nodup_foldl_addKey : ∀ {l ks : List Int}, ks.Nodup → (l.foldl addKey ks).Nodup
  | [], _, h => h
  | k :: l, ks, h => by rw [List.foldl_cons]; exact nodup_foldl_addKey (ks := addKey ks k) (nodup_addKey h)
theorem mem_scanK {pl : Int → Bool} {pos : Nat → Int} {x : Int} : ∀ {n : Nat}, x ∈ scanK pl pos n → ∃ j, j < n ∧ pl (pos j) = true ∧ x = pos j
  | 0, h => by simp [scanK] at h
  | n + 1, h => by
    rw [scanK_succ] at h
    split at h
    · rename_i hp
      rcases mem_addKey.mp h with h | h
      · obtain ⟨j, hj, r⟩ := mem_scanK h; exact ⟨j, by omega, r⟩
      · exact ⟨n, by omega, hp, h⟩
    · obtain ⟨j, hj, r⟩ := mem_scanK h; exact ⟨j, by omega, r⟩
def RB (ps : List Pt) (x : Int) : Prop := ∃ q ∈ ps, x = q.1 ∨ x = q.2.2.1
def CB (ps : List Pt) (x : Int) : Prop := ∃ q ∈ ps, x = q.2.1 ∨ x = q.2.2.2
section
variable {B R : Int} {ps : List Pt} {G : List (List Nat)} (T : Tiling B R ps) (D : Drawn G B R ps) {p : Pt} (hp : p ∈ ps)
include T D hp
theorem rb_of {i j : Int} (h : gch G i j = 43) (h1 : 0 ≤ i) (h2 : i ≤ B) (h3 : 0 ≤ j) (h4 : j ≤ R) : RB ps i ∧ CB ps j := by
  rw [D.sg i j h1 h2 h3 h4] at h
  obtain ⟨q, hq, a, b⟩ := sgn_plus.mp h
  exact ⟨⟨q, hq, a⟩, ⟨q, hq, b⟩⟩
theorem scanUp_part : ∃ rk, scanUp G p.1 p.2.1 p.2.2.1 = some rk ∧ ∀ x ∈ rk, RB ps x ∧ 0 ≤ x ∧ x ≤ B := by
  have hb := T.box p hp
  refine ⟨_, if_pos fun j hj => ?_, fun x hx => ?_⟩
  · rw [D.sg _ _ (by omega) (by omega) (by omega) (by omega)]
    exact T.onVert hp (.inl rfl) (by omega) (by omega)
  · obtain ⟨j, hj, hpl, rfl⟩ := mem_scanK hx
    exact ⟨(rb_of T D hp (of_decide_eq_true hpl) (by omega) (by omega) (by omega) (by omega)).1, by omega, by omega⟩
theorem scanLeft_part : ∃ rk ck, scanLeft G p.1 p.2.1 p.2.2.1 p.2.2.2 = some (rk, ck) ∧ (∀ x ∈ rk, RB ps x ∧ 0 ≤ x ∧ x ≤ B) ∧ ∀ x ∈ ck, CB ps x ∧ 0 ≤ x ∧ x ≤ R := by
  have hb := T.box p hp
  obtain ⟨rk, h1, h2⟩ := scanUp_part T D hp
  unfold scanLeft
  rw [if_pos (fun j hj => ?_), if_pos ?_, h1]
  · refine ⟨rk, _, rfl, h2, fun x hx => ?_⟩
    obtain ⟨j, hj, hpl, rfl⟩ := mem_scanK hx
    exact ⟨(rb_of T D hp (of_decide_eq_true hpl) (by omega) (by omega) (by omega) (by omega)).2, by omega, by omega⟩
  · rw [D.sg _ _ (by omega) (by omega) (by omega) (by omega)]
    exact sgn_corner hp (.inr rfl) (.inl rfl)
  · rw [D.sg _ _ (by omega) (by omega) (by omega) (by omega)]
    exact T.onHor hp (.inr rfl) (by omega) (by omega)
theorem scanLeft_none {x : Int} (h1 : p.1 < x) (h2 : x < p.2.2.1) : scanLeft G p.1 p.2.1 x p.2.2.2 = none := by
  have hb := T.box p hp
  unfold scanLeft
  rw [if_neg]
  intro h
  have := h 0 (by omega)
  rw [D.sg _ _ (by omega) (by omega) (by omega) (by omega), T.inside hp h1 h2 (by omega) (by omega)] at this
  simp at this
theorem scanDownGo_part : ∀ (k i : Nat) (ks : List Int), p.1 + 1 + i ≤ p.2.2.1 → p.2.2.1 < p.1 + 1 + i + k → (∀ x ∈ ks, RB ps x ∧ 0 ≤ x ∧ x ≤ B) →
    ∃ rk ck, scanDownGo G p.1 p.2.1 p.2.2.2 k i ks = some (p.2.2.1, rk, ck) ∧ (∀ x ∈ rk, RB ps x ∧ 0 ≤ x ∧ x ≤ B) ∧ p.2.2.1 ∈ rk ∧ ∀ x ∈ ck, CB ps x ∧ 0 ≤ x ∧ x ≤ R
  | 0, i, ks, h1, h2, _ => by omega
  | k + 1, i, ks, h1, h2, hks => by
    have hb := T.box p hp
    unfold scanDownGo
    by_cases e : p.1 + 1 + (i : Int) = p.2.2.1
    · have hg : gch G p.2.2.1 p.2.2.2 = 43 := by
        rw [D.sg _ _ (by omega) (by omega) (by omega) (by omega)]
        exact sgn_corner hp (.inr rfl) (.inr rfl)
      obtain ⟨rk, ck, h3, h4, h5⟩ := scanLeft_part T D hp
      rw [e, if_pos hg, h3]
      refine ⟨_, ck, rfl, fun x hx => ?_, ?_, h5⟩
      · rcases mem_foldl_addKey.mp hx with hx | hx
        · rcases mem_addKey.mp hx with hx | rfl
          · exact hks x hx
          · exact ⟨⟨p, hp, .inr rfl⟩, by omega, by omega⟩
        · exact h4 x hx
      · exact mem_foldl_addKey.mpr (.inl (mem_addKey.mpr (.inr rfl)))
    · have hs := T.onVert hp (i := p.1 + 1 + i) (.inr rfl) (by omega) (by omega)
      rw [← D.sg _ _ (by omega) (by omega) (by omega) (by omega)] at hs
      have hn := scanLeft_none T D hp (x := p.1 + 1 + i) (by omega) (by omega)
      by_cases hc : gch G (p.1 + 1 + i) p.2.2.2 = 43
      · rw [if_pos hc, hn]
        refine scanDownGo_part k (i + 1) _ (by omega) (by omega) fun x hx => ?_
        rcases mem_addKey.mp hx with hx | rfl
        · exact hks x hx
        · exact ⟨(rb_of T D hp hc (by omega) (by omega) (by omega) (by omega)).1, by omega, by omega⟩
      · rw [if_neg hc, if_pos (hs.resolve_left hc)]
        exact scanDownGo_part k (i + 1) _ (by omega) (by omega) hks
theorem scanDown_part : ∃ rk ck, scanDown G p.1 p.2.1 p.2.2.2 = some (p.2.2.1, rk, ck) ∧ (∀ x ∈ rk, RB ps x ∧ 0 ≤ x ∧ x ≤ B) ∧ p.2.2.1 ∈ rk ∧ ∀ x ∈ ck, CB ps x ∧ 0 ≤ x ∧ x ≤ R := by
  have hb := T.box p hp
  have := D.hi
  exact scanDownGo_part T D hp _ 0 [] (by omega) (by omega) fun _ h => nomatch h
theorem scanDown_none {x : Int} (h1 : p.2.1 < x) (h2 : x < p.2.2.2) : scanDown G p.1 p.2.1 x = none := by
  have hb := T.box p hp
  have := D.hi
  have hg := T.inside hp (i := p.1 + 1) (j := x) (by omega) (by omega) (by omega) (by omega)
  rw [← D.sg _ _ (by omega) (by omega) (by omega) (by omega)] at hg
  unfold scanDown
  rw [show ((G.length : Int) - 1 - p.1).toNat = ((G.length : Int) - 1 - p.1).toNat - 1 + 1 by omega, scanDownGo, if_neg, if_neg]
  · rw [show p.1 + 1 + ((0 : Nat) : Int) = p.1 + 1 by omega, hg]; decide
  · rw [show p.1 + 1 + ((0 : Nat) : Int) = p.1 + 1 by omega, hg]; decide
theorem scanRightGo_part : ∀ (k i : Nat) (ks : List Int), p.2.1 + 1 + i ≤ p.2.2.2 → p.2.2.2 < p.2.1 + 1 + i + k → (∀ x ∈ ks, CB ps x ∧ 0 ≤ x ∧ x ≤ R) → ks.length ≤ i →
    ∃ rk ck, scanRightGo G p.1 p.2.1 k i ks = some (p.2.2.1, p.2.2.2, rk, ck) ∧ (∀ x ∈ rk, RB ps x ∧ 0 ≤ x ∧ x ≤ B) ∧ p.2.2.1 ∈ rk ∧ (∀ x ∈ ck, CB ps x ∧ 0 ≤ x ∧ x ≤ R) ∧ p.2.2.2 ∈ ck ∧ (G.length ≤ 64 → rk.length ≤ 128) ∧ ck.length ≤ (p.2.2.2 - p.2.1).toNat * 2
  | 0, i, ks, h1, h2, _, _ => by omega
  | k + 1, i, ks, h1, h2, hks, hl => by
    have hb := T.box p hp
    unfold scanRightGo
    by_cases e : p.2.1 + 1 + (i : Int) = p.2.2.2
    · have hg : gch G p.1 p.2.2.2 = 43 := by
        rw [D.sg _ _ (by omega) (by omega) (by omega) (by omega)]
        exact sgn_corner hp (.inl rfl) (.inr rfl)
      obtain ⟨rk, ck, h3, h4, h5, h6⟩ := scanDown_part T D hp
      rw [e, if_pos hg, h3]
      refine ⟨rk, _, rfl, h4, h5, fun x hx => ?_, ?_, fun h64 => (scanDown_length h3 (by omega) h64).2.1, ?_⟩
      · rcases mem_foldl_addKey.mp hx with hx | hx
        · rcases mem_addKey.mp hx with hx | rfl
          · exact hks x hx
          · exact ⟨⟨p, hp, .inr rfl⟩, by omega, by omega⟩
        · exact h6 x hx
      · exact mem_foldl_addKey.mpr (.inl (mem_addKey.mpr (.inr rfl)))
      · have h7 := (scanDownGo_length _ _ _ h3).1
        have h8 := foldl_addKey_length ck (addKey ks p.2.2.2)
        have h9 := addKey_length ks p.2.2.2
        omega
    · have hs := T.onHor hp (j := p.2.1 + 1 + i) (.inl rfl) (by omega) (by omega)
      rw [← D.sg _ _ (by omega) (by omega) (by omega) (by omega)] at hs
      have hn := scanDown_none T D hp (x := p.2.1 + 1 + i) (by omega) (by omega)
      by_cases hc : gch G p.1 (p.2.1 + 1 + i) = 43
      · rw [if_pos hc, hn]
        have h9 := addKey_length ks (p.2.1 + 1 + i)
        refine scanRightGo_part k (i + 1) _ (by omega) (by omega) (fun x hx => ?_) (by omega)
        rcases mem_addKey.mp hx with hx | rfl
        · exact hks x hx
        · exact ⟨(rb_of T D hp hc (by omega) (by omega) (by omega) (by omega)).2, by omega, by omega⟩
      · rw [if_neg hc, if_pos (hs.resolve_left hc)]
        exact scanRightGo_part k (i + 1) _ (by omega) (by omega) hks (by omega)
theorem scanRight_part {W : Nat} (hW : (W : Int) = R + 1) : ∃ rk ck, scanRight G W p.1 p.2.1 = some (p.2.2.1, p.2.2.2, rk, ck) ∧ (∀ x ∈ rk, RB ps x ∧ 0 ≤ x ∧ x ≤ B) ∧ p.2.2.1 ∈ rk ∧ (∀ x ∈ ck, CB ps x ∧ 0 ≤ x ∧ x ≤ R) ∧ p.2.2.2 ∈ ck ∧ (G.length ≤ 64 → rk.length ≤ 128) ∧ ck.length ≤ (p.2.2.2 - p.2.1).toNat * 2 := by
  have hb := T.box p hp
  exact scanRightGo_part T D hp _ 0 [] (by omega) (by omega) (fun _ h => nomatch h) (Nat.zero_le _)
end
end Mine
end Til2_part
section Til3_part
open PySem PySem.W PyProof.Rows PySem.Calls
namespace Mine
theorem nodup_length_le {α : Type} [DecidableEq α] : ∀ {l m : List α}, l.Nodup → (∀ x ∈ l, x ∈ m) → l.length ≤ m.length
  | [], _, _, _ => Nat.zero_le _
  | a :: l, m, hn, hs => by
    have ha := hs a (.head _)
    have hn' := List.nodup_cons.mp hn
    have := nodup_length_le (l := l) (m := m.erase a) hn'.2 fun x hx => (List.mem_erase_of_ne (by rintro rfl; exact hn'.1 hx)).mpr (hs x (.tail _ hx))
    have h1 := List.length_erase_of_mem ha
    have h2 := List.length_pos_of_mem ha
    rw [List.length_cons]
    omega
theorem ints_le {l : List Int} {n : Nat} (hn : l.Nodup) (h : ∀ x ∈ l, 0 ≤ x ∧ x < (n : Int)) : l.length ≤ n := by
  have := nodup_length_le (m := (List.range n).map fun (i : Nat) => (i : Int)) hn fun x hx => by
    obtain ⟨h1, h2⟩ := h x hx
    exact List.mem_map.mpr ⟨x.toNat, List.mem_range.mpr (by omega), by omega⟩
  simpa using this
theorem exists_min {α : Type} (f : α → Int) : ∀ {l : List α}, l ≠ [] → ∃ m ∈ l, ∀ q ∈ l, f m ≤ f q
  | [], h => absurd rfl h
  | [a], _ => ⟨a, .head _, fun q hq => by rw [List.mem_singleton.mp hq]; exact Int.le_refl _⟩
  | a :: b :: l, _ => by
    obtain ⟨m, hm, hmin⟩ := exists_min f (l := b :: l) (by simp)
    by_cases h : f a ≤ f m
    · exact ⟨a, .head _, fun q hq => by
        rcases List.mem_cons.mp hq with rfl | hq
        · exact Int.le_refl _
        · exact Int.le_trans h (hmin q hq)⟩
    · exact ⟨m, .tail _ hm, fun q hq => by
        rcases List.mem_cons.mp hq with rfl | hq
        · omega
        · exact hmin q hq⟩
theorem codeOf_crow (c : Int × Int) : codeOf (crow c) = c.1 * 100 + c.2 := by
  simp only [crow, codeOf, codeFrom]; omega
def prow (p : Pt) : List Int := [p.1, p.2.1, p.2.2.1, p.2.2.2]
def pcode (p : Pt) : Int := p.1 * 100 + p.2.1
structure LI (B R : Int) (ps : List Pt) (W : Nat) (S : List Pt) (k : Nat) (st : PS) : Prop where
  cells : st.cells = S.map prow
  sub : ∀ p ∈ S, p ∈ ps
  nd : S.Nodup
  down : ∀ p ∈ S, ∀ q ∈ ps, pcode q < pcode p → q ∈ S
  dlen : st.done.length = W
  done : ∀ i j, 0 ≤ i → i < B → 0 ≤ j → j < R → (i ≤ st.done.getD j.toNat 0 ↔ ∃ p ∈ S, In p i j)
  dran : ∀ j, 0 ≤ j → j < R → -1 ≤ st.done.getD j.toNat 0 ∧ st.done.getD j.toNat 0 < B
  cran : ∀ c ∈ st.corners, 0 ≤ c.1 ∧ c.1 ≤ B ∧ 0 ≤ c.2 ∧ c.2 ≤ R
  gen : ∀ c : Int × Int, (c = (0, 0) ∨ ∃ p ∈ S, c = (p.1, p.2.2.2) ∨ c = (p.2.2.1, p.2.1)) → c ∈ st.corners ∨ c.1 = B ∨ c.2 = R ∨ c.1 ≤ st.done.getD c.2.toNat 0
  srt : (st.corners.map crow).Pairwise (fun a b => codeOf a ≤ codeOf b)
  clen : st.corners.length ≤ 1 + S.length
  rnd : st.rk.Nodup
  rin : ∀ x ∈ st.rk, RB ps x ∧ 0 ≤ x ∧ x ≤ B
  r0 : 0 ∈ st.rk
  rall : ∀ p ∈ S, p.2.2.1 ∈ st.rk
  cnd : st.ck.Nodup
  cin : ∀ x ∈ st.ck, CB ps x ∧ 0 ≤ x ∧ x ≤ R
  c0 : 0 ∈ st.ck
  call : ∀ p ∈ S, p.2.2.2 ∈ st.ck
  meas : k = 2 * (ps.length - S.length) + st.corners.length
def LInv (B R : Int) (ps : List Pt) (W : Nat) (k : Nat) (st : PS) : Prop := ∃ S, LI B R ps W S k st
section
variable {B R : Int} {ps : List Pt} {G : List (List Nat)} {W : Nat} (T : Tiling B R ps)
include T
theorem Tiling.code_inj (hR : R ≤ 62) {p q : Pt} (hp : p ∈ ps) (hq : q ∈ ps) (h : pcode p = pcode q) : p = q := by
  have h1 := T.box p hp
  have h2 := T.box q hq
  unfold pcode at h
  exact T.same hp hq p.1 p.2.1 (by omega) (by omega) (by omega) (by omega) (by omega) (by omega) (by omega) (by omega)
theorem LI.covered {S : List Pt} {k : Nat} {st : PS} (I : LI B R ps W S k st) {m : Pt} (hm : m ∈ ps) (hn : m ∉ S) : ¬ (m.1 = B ∨ m.2.1 = R ∨ m.1 ≤ st.done.getD m.2.1.toNat 0) := by
  have hb := T.box m hm
  rintro (h | h | h)
  · omega
  · omega
  · obtain ⟨p, hp, hi⟩ := (I.done m.1 m.2.1 (by omega) (by omega) (by omega) (by omega)).mp h
    have := T.uniq p (I.sub p hp) m hm _ _ hi ⟨by omega, by omega, by omega, by omega⟩
    exact hn (this ▸ hp)
theorem LI.minCorner {S : List Pt} {k : Nat} {st : PS} (I : LI B R ps W S k st) (hR : R ≤ 62) {m : Pt} (hm : m ∈ ps) (hn : m ∉ S) (hmin : ∀ q ∈ ps, q ∉ S → pcode m ≤ pcode q) : (m.1, m.2.1) ∈ st.corners := by
  have hb := T.box m hm
  have hnot := I.covered T hm hn
  have pr : ∀ q ∈ ps, pcode q < pcode m → q ∈ S := fun q hq h => Classical.byContradiction fun hc => by have := hmin q hq hc; omega
  have use : ((m.1, m.2.1) = ((0, 0) : Int × Int) ∨ ∃ p ∈ S, (m.1, m.2.1) = (p.1, p.2.2.2) ∨ (m.1, m.2.1) = (p.2.2.1, p.2.1)) → (m.1, m.2.1) ∈ st.corners := fun h => (I.gen _ h).resolve_right hnot
  have up : 0 < m.1 → ∃ u ∈ ps, In u (m.1 - 1) m.2.1 ∧ u.2.2.1 = m.1 ∧ u ∈ S := fun h0 => by
    obtain ⟨u, hu, hi⟩ := T.cover (m.1 - 1) m.2.1 (by omega) (by omega) (by omega) (by omega)
    have hi' := hi
    obtain ⟨a, b, c, d⟩ := hi'
    have hub := T.box u hu
    refine ⟨u, hu, hi, ?_, pr u hu (by unfold pcode; omega)⟩
    apply Classical.byContradiction
    intro hne
    have : u = m := T.same hu hm m.1 m.2.1 (by omega) (by omega) (by omega) (by omega) (by omega) (by omega) (by omega) (by omega)
    subst this; omega
  by_cases hl : m.2.1 = 0
  · by_cases ht : m.1 = 0
    · exact use (.inl (by rw [hl, ht]))
    · obtain ⟨u, hu, ⟨a, b, c, d⟩, e, hS⟩ := up (by omega)
      have hub := T.box u hu
      refine use (.inr ⟨u, hS, .inr ?_⟩)
      rw [e, show u.2.1 = m.2.1 by omega]
  · obtain ⟨q, hq, hi⟩ := T.cover m.1 (m.2.1 - 1) (by omega) (by omega) (by omega) (by omega)
    have hqb := T.box q hq
    obtain ⟨a, b, c, d⟩ := hi
    have hqr : q.2.2.2 = m.2.1 := by
      apply Classical.byContradiction
      intro hne
      have : q = m := T.same hq hm m.1 m.2.1 (by omega) (by omega) (by omega) (by omega) (by omega) (by omega) (by omega) (by omega)
      subst this; omega
    have hqS : q ∈ S := pr q hq (by unfold pcode; omega)
    by_cases hqt : q.1 = m.1
    · exact use (.inr ⟨q, hqS, .inl (by rw [hqt, hqr])⟩)
    · obtain ⟨u, hu, ⟨a', b', c', d'⟩, e, hS⟩ := up (by omega)
      have hub := T.box u hu
      by_cases hul : u.2.1 = m.2.1
      · exact use (.inr ⟨u, hS, .inr (by rw [e, hul])⟩)
      · have : u = q := T.same hu hq (m.1 - 1) (m.2.1 - 1) (by omega) (by omega) (by omega) (by omega) (by omega) (by omega) (by omega) (by omega)
        subst this; omega
theorem LI.all {S : List Pt} {k : Nat} {st : PS} (I : LI B R ps W S k st) (hR : R ≤ 62) (hc : st.corners = []) : ∀ p ∈ ps, p ∈ S := by
  intro p hp
  apply Classical.byContradiction
  intro hn
  have hne : ps.filter (fun q => decide (q ∉ S)) ≠ [] := List.ne_nil_of_mem (List.mem_filter.mpr ⟨hp, by simpa using hn⟩)
  obtain ⟨m, hm, hmin⟩ := exists_min pcode hne
  obtain ⟨hm1, hm2⟩ := List.mem_filter.mp hm
  have := I.minCorner T hR hm1 (by simpa using hm2) fun q hq hqS => hmin q (List.mem_filter.mpr ⟨hq, by simpa using hqS⟩)
  rw [hc] at this
  cases this
theorem LI.popped {S : List Pt} {k : Nat} {st : PS} (I : LI B R ps W S k st) (hR : R ≤ 62) {t l : Int} {cs : List (Int × Int)} (hc : st.corners = (t, l) :: cs) (hno : ¬ (t = B ∨ l = R ∨ t ≤ st.done.getD l.toNat 0)) :
    ∃ m ∈ ps, m ∉ S ∧ (∀ q ∈ ps, pcode q < pcode m → q ∈ S) ∧ m.1 = t ∧ m.2.1 = l := by
  have hr := I.cran (t, l) (by rw [hc]; exact .head _)
  dsimp only at hr
  obtain ⟨q, hq, hi⟩ := T.cover t l (by omega) (by omega) (by omega) (by omega)
  have hi' := hi
  obtain ⟨a, b, c, d⟩ := hi'
  have hqn : q ∉ S := fun hS => hno (.inr (.inr ((I.done t l (by omega) (by omega) (by omega) (by omega)).mpr ⟨q, hS, hi⟩)))
  have hne : ps.filter (fun q => decide (q ∉ S)) ≠ [] := List.ne_nil_of_mem (List.mem_filter.mpr ⟨hq, by simpa using hqn⟩)
  obtain ⟨m, hm, hmin⟩ := exists_min pcode hne
  obtain ⟨hm1, hm2⟩ := List.mem_filter.mp hm
  have hm2 : m ∉ S := by simpa using hm2
  have hmin' : ∀ q ∈ ps, q ∉ S → pcode m ≤ pcode q := fun q hq hqS => hmin q (List.mem_filter.mpr ⟨hq, by simpa using hqS⟩)
  have hcor := I.minCorner T hR hm1 hm2 hmin'
  have hle : t * 100 + l ≤ m.1 * 100 + m.2.1 := by
    rw [hc] at hcor
    rcases List.mem_cons.mp hcor with e | h
    · injection e with e1 e2; omega
    · have hs := I.srt
      rw [hc, List.map_cons, List.pairwise_cons] at hs
      have := hs.1 (crow (m.1, m.2.1)) (List.mem_map_of_mem h)
      rw [codeOf_crow, codeOf_crow] at this
      exact this
  have h1 := hmin' q hq hqn
  have hqb := T.box q hq
  have hmb := T.box m hm1
  unfold pcode at h1
  refine ⟨m, hm1, hm2, fun q hq h => Classical.byContradiction fun hc => by have := hmin' q hq hc; omega, ?_, ?_⟩ <;> omega
end
end Mine
end Til3_part
section Til4_part
open PySem PySem.W PyProof.Rows PySem.Calls
namespace Mine
section
variable {B R : Int} {ps : List Pt} {G : List (List Nat)} {W : Nat} (T : Tiling B R ps)
include T
theorem LI.skip {S : List Pt} {k : Nat} {st : PS} (I : LI B R ps W S k st) {t l : Int} {cs : List (Int × Int)} (hc : st.corners = (t, l) :: cs) (hs : t = B ∨ l = R ∨ t ≤ st.done.getD l.toNat 0) :
    LI B R ps W S (2 * (ps.length - S.length) + cs.length) ⟨cs, st.done, st.cells, st.rk, st.ck⟩ := by
  have hcl := I.clen
  have hm := I.meas
  rw [hc, List.length_cons] at hcl
  refine ⟨I.cells, I.sub, I.nd, I.down, I.dlen, I.done, I.dran, fun c hcc => I.cran c (by rw [hc]; exact .tail _ hcc), fun c hg => ?_, ?_, by show cs.length ≤ _; omega, I.rnd, I.rin, I.r0, I.rall, I.cnd, I.cin, I.c0, I.call, rfl⟩
  · rcases I.gen c hg with h | h
    · rw [hc] at h
      rcases List.mem_cons.mp h with rfl | h
      · exact .inr hs
      · exact .inl h
    · exact .inr h
  · have := I.srt
    rw [hc, List.map_cons, List.pairwise_cons] at this
    exact this.2
theorem LI.turn {S : List Pt} {k : Nat} {st : PS} (I : LI B R ps W S k st) (hW : (W : Int) = R + 1) {m : Pt} {cs cs' : List (Int × Int)} {rk ck : List Int} (hc : st.corners = (m.1, m.2.1) :: cs) (hm : m ∈ ps) (hn : m ∉ S) (hmin : ∀ q ∈ ps, pcode q < pcode m → q ∈ S) (hR : R ≤ 62)
    (hd : ∀ j : Int, m.2.1 ≤ j → j < m.2.2.2 → st.done.getD j.toNat 0 = m.1 - 1)
    (hrk : ∀ x ∈ rk, RB ps x ∧ 0 ≤ x ∧ x ≤ B) (hrb : m.2.2.1 ∈ rk) (hck : ∀ x ∈ ck, CB ps x ∧ 0 ≤ x ∧ x ≤ R) (hcr : m.2.2.2 ∈ ck)
    (hp : (cs'.map crow).Perm ((cs ++ [(m.1, m.2.2.2), (m.2.2.1, m.2.1)]).map crow)) (hs : (cs'.map crow).Pairwise fun a b => codeOf a ≤ codeOf b) :
    LI B R ps W (S ++ [m]) (2 * (ps.length - (S ++ [m]).length) + cs'.length) ⟨cs', markDone st.done m.2.1 (m.2.2.1 - 1) (m.2.2.2 - m.2.1).toNat, st.cells ++ [[m.1, m.2.1, m.2.2.1, m.2.2.2]], rk.foldl addKey st.rk, ck.foldl addKey st.ck⟩ := by
  have hb := T.box m hm
  have hmem : ∀ c, c ∈ cs' ↔ c ∈ cs ∨ c = (m.1, m.2.2.2) ∨ c = (m.2.2.1, m.2.1) := fun c => by
    have h1 : c ∈ cs' ↔ crow c ∈ cs'.map crow := ⟨List.mem_map_of_mem, fun h => by
      obtain ⟨x, hx, e⟩ := List.mem_map.mp h
      simp only [crow, List.cons.injEq, and_true] at e
      have : x = c := Prod.ext e.1 e.2
      exact this ▸ hx⟩
    have h2 : c ∈ (cs ++ [(m.1, m.2.2.2), (m.2.2.1, m.2.1)]) ↔ crow c ∈ (cs ++ [(m.1, m.2.2.2), (m.2.2.1, m.2.1)]).map crow := ⟨List.mem_map_of_mem, fun h => by
      obtain ⟨x, hx, e⟩ := List.mem_map.mp h
      simp only [crow, List.cons.injEq, and_true] at e
      have : x = c := Prod.ext e.1 e.2
      exact this ▸ hx⟩
    rw [h1, hp.mem_iff, ← h2]
    simp
  have hlen : cs'.length = cs.length + 2 := by have := hp.length_eq; simpa using this
  have hcl := I.clen
  rw [hc, List.length_cons] at hcl
  have hget : ∀ j : Int, 0 ≤ j → j < R → (markDone st.done m.2.1 (m.2.2.1 - 1) (m.2.2.2 - m.2.1).toNat).getD j.toNat 0 = if m.2.1 ≤ j ∧ j < m.2.2.2 then m.2.2.1 - 1 else st.done.getD j.toNat 0 := fun j h0 h1 => by
    have := I.dlen
    rw [markDone_get (by omega) _ j.toNat (by omega)]
    by_cases h : m.2.1 ≤ j ∧ j < m.2.2.2
    · rw [if_pos h, if_pos (by omega)]
    · rw [if_neg h, if_neg (by omega)]
  have hge : ∀ j : Int, 0 ≤ j → j < R → st.done.getD j.toNat 0 ≤ (markDone st.done m.2.1 (m.2.2.1 - 1) (m.2.2.2 - m.2.1).toNat).getD j.toNat 0 := fun j h0 h1 => by
    rw [hget j h0 h1]
    split
    · rename_i h; rw [hd j h.1 h.2]; omega
    · exact Int.le_refl _
  refine ⟨?_, fun p hp => ?_, ?_, fun p hp q hq hlt => ?_, ?_, fun i j hi0 hi1 hj0 hj1 => ?_, fun j hj0 hj1 => ?_, fun c hcc => ?_, fun c hg => ?_, hs, ?_, nodup_foldl_addKey I.rnd, fun x hx => ?_, ?_, fun p hp => ?_, nodup_foldl_addKey I.cnd, fun x hx => ?_, ?_, fun p hp => ?_, rfl⟩
  · show st.cells ++ [[m.1, m.2.1, m.2.2.1, m.2.2.2]] = (S ++ [m]).map prow
    rw [I.cells, List.map_append]; rfl
  · rcases List.mem_append.mp hp with hp | hp
    · exact I.sub p hp
    · rw [List.mem_singleton.mp hp]; exact hm
  · rw [List.nodup_append]
    refine ⟨I.nd, by simp, fun a ha b hb e => ?_⟩
    rw [List.mem_singleton.mp hb] at e
    exact hn (e ▸ ha)
  · refine List.mem_append.mpr (.inl ?_)
    rcases List.mem_append.mp hp with hp | hp
    · exact I.down p hp q hq hlt
    · rw [List.mem_singleton.mp hp] at hlt
      exact hmin q hq hlt
  · show (markDone _ _ _ _).length = W
    rw [markDone_length]; exact I.dlen
  · show i ≤ (markDone _ _ _ _).getD j.toNat 0 ↔ _
    rw [hget j hj0 hj1]
    have hI := I.done i j hi0 hi1 hj0 hj1
    constructor
    · intro h
      split at h
      · rename_i hj
        by_cases hit : m.1 ≤ i
        · exact ⟨m, List.mem_append.mpr (.inr (.head _)), by unfold In; omega⟩
        · obtain ⟨p, hp, hi⟩ := hI.mp (by rw [hd j hj.1 hj.2]; omega)
          exact ⟨p, List.mem_append.mpr (.inl hp), hi⟩
      · obtain ⟨p, hp, hi⟩ := hI.mp h
        exact ⟨p, List.mem_append.mpr (.inl hp), hi⟩
    · rintro ⟨p, hp, hi⟩
      rcases List.mem_append.mp hp with hp | hp
      · have h1 := hI.mpr ⟨p, hp, hi⟩
        have h2 := hge j hj0 hj1
        rw [hget j hj0 hj1] at h2
        omega
      · rw [List.mem_singleton.mp hp] at hi
        unfold In at hi
        rw [if_pos (by omega)]
        omega
  · show -1 ≤ (markDone _ _ _ _).getD j.toNat 0 ∧ (markDone _ _ _ _).getD j.toNat 0 < B
    rw [hget j hj0 hj1]
    split
    · omega
    · exact I.dran j hj0 hj1
  · rcases (hmem c).mp hcc with h | rfl | rfl
    · exact I.cran c (by rw [hc]; exact .tail _ h)
    · dsimp only; omega
    · dsimp only; omega
  · show c ∈ cs' ∨ c.1 = B ∨ c.2 = R ∨ c.1 ≤ (markDone _ _ _ _).getD c.2.toNat 0
    have old : (c = (0, 0) ∨ ∃ p ∈ S, c = (p.1, p.2.2.2) ∨ c = (p.2.2.1, p.2.1)) → c ∈ cs' ∨ c.1 = B ∨ c.2 = R ∨ c.1 ≤ (markDone st.done m.2.1 (m.2.2.1 - 1) (m.2.2.2 - m.2.1).toNat).getD c.2.toNat 0 := fun h => by
      have hcr2 : 0 ≤ c.2 ∧ c.2 ≤ R := by
        rcases h with rfl | ⟨p, hp, rfl | rfl⟩
        · dsimp only; omega
        · have := T.box p (I.sub p hp); dsimp only; omega
        · have := T.box p (I.sub p hp); dsimp only; omega
      rcases I.gen c h with h | h | h | h
      · rw [hc] at h
        rcases List.mem_cons.mp h with rfl | h
        · refine .inr (.inr (.inr ?_))
          dsimp only
          rw [hget m.2.1 (by omega) (by omega), if_pos (by omega)]; omega
        · exact .inl ((hmem c).mpr (.inl h))
      · exact .inr (.inl h)
      · exact .inr (.inr (.inl h))
      · by_cases e : c.2 = R
        · exact .inr (.inr (.inl e))
        · exact .inr (.inr (.inr (Int.le_trans h (hge c.2 hcr2.1 (by omega)))))
    rcases hg with h | ⟨p, hp, h⟩
    · exact old (.inl h)
    · rcases List.mem_append.mp hp with hp | hp
      · exact old (.inr ⟨p, hp, h⟩)
      · rw [List.mem_singleton.mp hp] at h
        exact .inl ((hmem c).mpr (.inr h))
  · show cs'.length ≤ 1 + (S ++ [m]).length
    rw [hlen, List.length_append, List.length_singleton]; omega
  · rcases mem_foldl_addKey.mp hx with hx | hx
    · exact I.rin x hx
    · exact hrk x hx
  · exact mem_foldl_addKey.mpr (.inl I.r0)
  · rcases List.mem_append.mp hp with hp | hp
    · exact mem_foldl_addKey.mpr (.inl (I.rall p hp))
    · rw [List.mem_singleton.mp hp]; exact mem_foldl_addKey.mpr (.inr hrb)
  · rcases mem_foldl_addKey.mp hx with hx | hx
    · exact I.cin x hx
    · exact hck x hx
  · exact mem_foldl_addKey.mpr (.inl I.c0)
  · rcases List.mem_append.mp hp with hp | hp
    · exact mem_foldl_addKey.mpr (.inl (I.call p hp))
    · rw [List.mem_singleton.mp hp]; exact mem_foldl_addKey.mpr (.inr hcr)
theorem pstep (D : Drawn G B R ps) (hW : (W : Int) = R + 1) (hB0 : 0 < B) (hB : B ≤ 62) (hR : R ≤ 62) (hps : ps.length ≤ 50) {k : Nat} {st : PS} (hI : LInv B R ps W k st) : PStep G W (LInv B R ps W) k st := by
  obtain ⟨S, I⟩ := hI
  have hH := D.hi
  have hSl : S.length ≤ ps.length := nodup_length_le I.nd I.sub
  refine ⟨⟨I.dlen, ?_, fun c hc => ?_, ?_, ?_, ?_⟩, fun hc j hj => ?_, fun t l cs hc => ⟨fun hs => ?_, fun hno => ?_⟩⟩
  · have := I.clen; omega
  · have := I.cran c hc; omega
  · rw [I.cells, List.length_map]; omega
  · have := ints_le (n := 63) I.rnd fun x hx => by have := I.rin x hx; omega
    omega
  · have := ints_le (n := 63) I.cnd fun x hx => by have := I.cin x hx; omega
    omega
  · have hall := I.all T hR hc
    have hr := I.dran (j : Int) (by omega) (by omega)
    obtain ⟨p, hp, hi⟩ := T.cover (B - 1) j (by omega) (by omega) (by omega) (by omega)
    have := (I.done (B - 1) j (by omega) (by omega) (by omega) (by omega)).mpr ⟨p, hall p hp, hi⟩
    rw [Int.toNat_natCast] at hr this
    omega
  · have hm := I.meas
    rw [hc, List.length_cons] at hm
    exact ⟨_, by omega, S, I.skip T hc (by omega)⟩
  · obtain ⟨m, hm, hn, hmin, rfl, rfl⟩ := I.popped T hR hc (by omega)
    have hb := T.box m hm
    obtain ⟨rk, ck, h1, h2, h3, h4, h5, h6, h7⟩ := scanRight_part T D hm hW
    have hd : ∀ j : Int, m.2.1 ≤ j → j < m.2.2.2 → st.done.getD j.toNat 0 = m.1 - 1 := fun j hj0 hj1 => by
      have hr := I.dran j (by omega) (by omega)
      have a : ¬ (m.1 ≤ st.done.getD j.toNat 0) := fun h => by
        obtain ⟨p, hp, hi⟩ := (I.done m.1 j (by omega) (by omega) (by omega) (by omega)).mp h
        have := T.uniq p (I.sub p hp) m hm _ _ hi (by unfold In; omega)
        exact hn (this ▸ hp)
      by_cases e : m.1 = 0
      · omega
      · obtain ⟨q, hq, hi⟩ := T.cover (m.1 - 1) j (by omega) (by omega) (by omega) (by omega)
        have hqb := T.box q hq
        have hi' := hi
        unfold In at hi'
        have := (I.done (m.1 - 1) j (by omega) (by omega) (by omega) (by omega)).mpr ⟨q, hmin q hq (by unfold pcode; omega), hi⟩
        omega
    refine ⟨?_, m.2.2.1, m.2.2.2, rk, ck, h1, fun j hj0 hj1 => by have := hd j hj0 hj1; rwa [Int.toNat_natCast] at this, by omega, by omega, by omega, by omega, h6 (by omega), by omega, fun i j a b c d => ?_, fun cs' hp hs => ?_⟩
    · rw [D.sg _ _ (by omega) (by omega) (by omega) (by omega)]
      exact sgn_corner hm (.inl rfl) (.inl rfl)
    · rw [D.sg _ _ (by omega) (by omega) (by omega) (by omega)]
      exact T.inside hm a b c d
    · have hlen : cs'.length = cs.length + 2 := by have := hp.length_eq; simpa using this
      have hms := I.meas
      rw [hc, List.length_cons] at hms
      have h9 : (S ++ [m]).length ≤ ps.length := nodup_length_le (by
        rw [List.nodup_append]
        refine ⟨I.nd, by simp, fun a ha b hb e => ?_⟩
        rw [List.mem_singleton.mp hb] at e
        exact hn (e ▸ ha)) fun x hx => by
          rcases List.mem_append.mp hx with hx | hx
          · exact I.sub x hx
          · rw [List.mem_singleton.mp hx]; exact hm
      rw [List.length_append, List.length_singleton] at h9
      refine ⟨2 * (ps.length - (S ++ [m]).length) + cs'.length, ?_, S ++ [m], I.turn T hW hc hm hn hmin hR hd h2 h3 h4 h5 hp hs⟩
      rw [List.length_append, List.length_singleton]
      omega
theorem linit (hB0 : 0 < B) (hR0 : 0 < R) (hW : (W : Int) = R + 1) : LInv B R ps W (2 * ps.length + 1) ⟨[(0, 0)], List.replicate W (-1), [], [0], [0]⟩ := by
  have hg : ∀ j : Int, 0 ≤ j → j < R → (List.replicate W (-1 : Int)).getD j.toNat 0 = -1 := fun j h0 h1 => by
    simp [List.getD, List.getElem?_replicate, show j.toNat < W by omega]
  obtain ⟨q, hq, hi⟩ := T.cover 0 0 (by omega) hB0 (by omega) hR0
  have hqb := T.box q hq
  unfold In at hi
  refine ⟨[], rfl, (fun _ h => nomatch h), List.nodup_nil, (fun _ h => nomatch h), by simp, fun i j hi0 hi1 hj0 hj1 => ?_, fun j hj0 hj1 => ?_, fun c hc => ?_, fun c hc => ?_, ?_, by simp, by simp, fun x hx => ?_, by simp, (fun _ h => nomatch h), by simp, fun x hx => ?_, by simp, (fun _ h => nomatch h), by simp⟩
  · dsimp only
    rw [hg j hj0 hj1]
    exact ⟨fun h => by omega, fun ⟨p, hp, _⟩ => nomatch hp⟩
  · dsimp only
    rw [hg j hj0 hj1]; omega
  · rw [List.mem_singleton.mp hc]; dsimp only; omega
  · rcases hc with rfl | ⟨p, hp, _⟩
    · exact .inl (.head _)
    · cases hp
  · simp
  · rw [List.mem_singleton.mp hx]
    exact ⟨⟨q, hq, .inl (by omega)⟩, by omega, by omega⟩
  · rw [List.mem_singleton.mp hx]
    exact ⟨⟨q, hq, .inl (by omega)⟩, by omega, by omega⟩
end
end Mine
end Til4_part
section Til5_part
open PySem PySem.W PyProof.Rows PySem.Calls
namespace Mine
def sumR : Nat → (Nat → Int) → Int
  | 0, _ => 0
  | n + 1, f => sumR n f + f n
def sumL {α : Type} : List α → (α → Int) → Int
  | [], _ => 0
  | x :: l, f => f x + sumL l f
theorem sumR_add (n : Nat) (f g : Nat → Int) : sumR n (fun a => f a + g a) = sumR n f + sumR n g := by
  induction n with
  | zero => rfl
  | succ n ih => simp only [sumR, ih]; omega
theorem sumR_congr {n : Nat} {f g : Nat → Int} (h : ∀ a, a < n → f a = g a) : sumR n f = sumR n g := by
  induction n with
  | zero => rfl
  | succ n ih => simp only [sumR, ih fun a ha => h a (by omega), h n (by omega)]
theorem sumR_zero (n : Nat) : sumR n (fun _ => 0) = 0 := by
  induction n with
  | zero => rfl
  | succ n ih => simp only [sumR, ih]; rfl
theorem sumR_const (n : Nat) (c : Int) : sumR n (fun _ => c) = n * c := by
  induction n with
  | zero => simp [sumR]
  | succ n ih => simp only [sumR, ih]; rw [Int.natCast_add, Int.add_mul]; simp
theorem sumL_congr {α : Type} {l : List α} {f g : α → Int} (h : ∀ a, a ∈ l → f a = g a) : sumL l f = sumL l g := by
  induction l with
  | nil => rfl
  | cons x l ih => simp only [sumL, ih fun a ha => h a (.tail _ ha), h x (.head _)]
theorem sumL_swap {α : Type} (l : List α) (n : Nat) (f : α → Nat → Int) : sumL l (fun p => sumR n (f p)) = sumR n (fun a => sumL l (fun p => f p a)) := by
  induction l with
  | nil => simp only [sumL]; rw [sumR_zero]
  | cons x l ih => simp only [sumL]; rw [sumR_add, ih]
theorem sumL_zero {α : Type} (l : List α) : sumL l (fun _ => 0) = 0 := by
  induction l with
  | nil => rfl
  | cons x l ih => simp only [sumL, ih]; rfl
theorem sumL_perm {α : Type} {l l' : List α} (h : l.Perm l') (f : α → Int) : sumL l f = sumL l' f := by
  induction h with
  | nil => rfl
  | cons x _ ih => simp only [sumL, ih]
  | swap x y l => simp only [sumL]; omega
  | trans _ _ h1 h2 => exact h1.trans h2
theorem sumL_map {α β : Type} (l : List α) (g : α → β) (f : β → Int) : sumL (l.map g) f = sumL l (fun x => f (g x)) := by
  induction l with
  | nil => rfl
  | cons x l ih => simp only [List.map_cons, sumL, ih]
theorem sumL_one {α : Type} {l : List α} {P : α → Prop} [DecidablePred P] (hn : l.Nodup) {x : α} (hx : x ∈ l) (hP : P x) (hu : ∀ y ∈ l, P y → y = x) : sumL l (fun y => if P y then (1 : Int) else 0) = 1 := by
  induction l with
  | nil => cases hx
  | cons z l ih =>
    have hn' := List.nodup_cons.mp hn
    simp only [sumL]
    by_cases hz : P z
    · have e := hu z (.head _) hz
      rw [if_pos hz]
      have : sumL l (fun y => if P y then (1 : Int) else 0) = 0 := by
        refine (sumL_congr (g := fun _ => 0) fun y hy => ?_).trans (sumL_zero l)
        rw [if_neg]
        intro hPy
        have := hu y (.tail _ hy) hPy
        subst e; subst this
        exact hn'.1 hy
      rw [this]; rfl
    · rw [if_neg hz]
      rcases List.mem_cons.mp hx with rfl | hx
      · exact absurd hP hz
      · rw [ih hn'.2 hx fun y hy => hu y (.tail _ hy)]; rfl
theorem sumL_none {α : Type} {l : List α} {P : α → Prop} [DecidablePred P] (hu : ∀ y ∈ l, ¬ P y) : sumL l (fun y => if P y then (1 : Int) else 0) = 0 := by
  exact (sumL_congr (g := fun _ => 0) fun y hy => if_neg (hu y hy)).trans (sumL_zero l)
theorem sumR_between {n c d : Nat} (hcd : c ≤ d) (hd : d ≤ n) (v : Int) : sumR n (fun a => if c ≤ a ∧ a < d then v else 0) = ((d : Int) - c) * v := by
  induction n generalizing d with
  | zero => have : d = 0 := by omega
            have : c = 0 := by omega
            subst_vars; simp [sumR]
  | succ n ih =>
    simp only [sumR]
    by_cases e : d = n + 1
    · subst e
      by_cases ec : c = n + 1
      · subst ec
        rw [if_neg (by omega)]
        have : sumR n (fun a => if n + 1 ≤ a ∧ a < n + 1 then v else 0) = sumR n (fun _ => 0) := sumR_congr fun a ha => if_neg (by omega)
        rw [this, sumR_zero]; simp
      · rw [if_pos (by omega)]
        have : sumR n (fun a => if c ≤ a ∧ a < n + 1 then v else 0) = sumR n (fun a => if c ≤ a ∧ a < n then v else 0) := sumR_congr fun a ha => by
          by_cases h : c ≤ a
          · rw [if_pos (by omega), if_pos (by omega)]
          · rw [if_neg (by omega), if_neg (by omega)]
        rw [this, ih (by omega) (Nat.le_refl _)]
        have : (((n + 1 : Nat) : Int) - c) = ((n : Int) - c) + 1 := by omega
        rw [this, Int.add_mul]; simp
    · rw [ih hcd (by omega), if_neg (by omega)]; simp
theorem asc_lt {l : List Int} (h : l.Pairwise (· < ·)) {a b : Nat} (hb : b < l.length) : a < b → l.getD a 0 < l.getD b 0 := fun hab => by
  have := List.pairwise_iff_getElem.mp h a b (by omega) hb hab
  simpa [List.getD_eq_getElem?_getD, List.getElem?_eq_getElem hb, List.getElem?_eq_getElem (show a < l.length by omega)] using this
theorem asc_le {l : List Int} (h : l.Pairwise (· < ·)) {a b : Nat} (ha : a < l.length) (hb : b < l.length) : l.getD a 0 ≤ l.getD b 0 ↔ a ≤ b := by
  constructor
  · intro hl
    apply Classical.byContradiction
    intro hn
    have := asc_lt h ha (show b < a by omega)
    omega
  · intro hab
    rcases Nat.lt_or_eq_of_le hab with h' | rfl
    · exact Int.le_of_lt (asc_lt h hb h')
    · exact Int.le_refl _
theorem asc_lt_iff {l : List Int} (h : l.Pairwise (· < ·)) {a b : Nat} (ha : a < l.length) (hb : b < l.length) : l.getD a 0 < l.getD b 0 ↔ a < b := by
  have := asc_le h hb ha
  omega
def isrt (l : List Int) : List Int := l.mergeSort (fun a b => decide (a ≤ b))
theorem srt_perm (l : List Int) : (isrt l).Perm l := List.mergeSort_perm l _
theorem srt_le (l : List Int) : (isrt l).Pairwise (· ≤ ·) := by
  have := List.pairwise_mergeSort (le := fun (a b : Int) => decide (a ≤ b)) (fun a b c h1 h2 => by simp only [decide_eq_true_eq] at *; omega) (fun a b => by simp only [Bool.or_eq_true, decide_eq_true_eq]; omega) l
  simpa [isrt] using this
theorem srt_lt {l : List Int} (h : l.Nodup) : (isrt l).Pairwise (· < ·) := by
  have h1 := srt_le l
  have h2 : (isrt l).Nodup := (srt_perm l).nodup_iff.mpr h
  refine (h1.and h2).imp fun ⟨a, b⟩ => by omega
theorem srt_only {l ns : List Int} (hp : ns.Perm l) (hs : ns.Pairwise (fun x y => x ≤ y)) : ns = isrt l :=
  List.Perm.eq_of_pairwise (le := fun x y => x ≤ y) (fun a b _ _ h1 h2 => by omega) hs (srt_le l) (hp.trans (srt_perm l).symm)
theorem getD_mem {l : List Int} {a : Nat} (h : a < l.length) : l.getD a 0 ∈ l := by
  rw [List.getD_eq_getElem?_getD, List.getElem?_eq_getElem h]; exact List.getElem_mem h
theorem mem_getD {l : List Int} {x : Int} (h : x ∈ l) : l.idxOf x < l.length ∧ l.getD (l.idxOf x) 0 = x := by
  have h1 := List.idxOf_lt_length_iff.mpr h
  refine ⟨h1, ?_⟩
  rw [List.getD_eq_getElem?_getD, List.getElem?_eq_getElem h1, Option.getD_some, List.getElem_idxOf]
def toPt (RS CS : List Int) (q : Qd) : Pt := (RS.getD q.1 0, CS.getD q.2.1 0, RS.getD q.2.2.1 0, CS.getD q.2.2.2 0)
def toQd (RS CS : List Int) (p : Pt) : Qd := (RS.idxOf p.1, CS.idxOf p.2.1, RS.idxOf p.2.2.1, CS.idxOf p.2.2.2)
structure Found (B R : Int) (ps : List Pt) (RS CS : List Int) (qs : List Qd) : Prop where
  ra : RS.Pairwise (· < ·)
  ca : CS.Pairwise (· < ·)
  rm : ∀ x, x ∈ RS ↔ RB ps x
  cm : ∀ x, x ∈ CS ↔ CB ps x
  perm : (qs.map (toPt RS CS)).Perm ps
  ok : ∀ q ∈ qs, q.1 < q.2.2.1 ∧ q.2.1 < q.2.2.2 ∧ q.2.2.1 < RS.length ∧ q.2.2.2 < CS.length
section
variable {B R : Int} {ps : List Pt} {W : Nat} (T : Tiling B R ps)
include T
theorem found_qsum {RS CS : List Int} {qs : List Qd} (F : Found B R ps RS CS qs) (hR : 0 < RS.length) (hC : 0 < CS.length) : qsum qs = ((RS.length : Int) - 1) * ((CS.length : Int) - 1) := by
  have e1 : qsum qs = sumL qs (fun q => ((q.2.2.1 : Int) - q.1) * ((q.2.2.2 : Int) - q.2.1)) := by
    unfold qsum
    clear F
    induction qs with
    | nil => rfl
    | cons x l ih => simp only [List.map_cons, List.sum_cons, sumL, ih]
  have e2 : sumL qs (fun q => ((q.2.2.1 : Int) - q.1) * ((q.2.2.2 : Int) - q.2.1)) = sumL qs (fun q => sumR (RS.length - 1) fun a => sumR (CS.length - 1) fun k => if (q.1 ≤ a ∧ a < q.2.2.1) ∧ (q.2.1 ≤ k ∧ k < q.2.2.2) then 1 else 0) := by
    refine sumL_congr fun q hq => ?_
    obtain ⟨h1, h2, h3, h4⟩ := F.ok q hq
    have : ∀ a, sumR (CS.length - 1) (fun k => if (q.1 ≤ a ∧ a < q.2.2.1) ∧ (q.2.1 ≤ k ∧ k < q.2.2.2) then (1 : Int) else 0) = if q.1 ≤ a ∧ a < q.2.2.1 then ((q.2.2.2 : Int) - q.2.1) else 0 := fun a => by
      by_cases h : q.1 ≤ a ∧ a < q.2.2.1
      · rw [if_pos h]
        have := sumR_between (n := CS.length - 1) (c := q.2.1) (d := q.2.2.2) (by omega) (by omega) 1
        rw [Int.mul_one] at this
        rw [← this]
        refine sumR_congr fun k _ => ?_
        by_cases hk : q.2.1 ≤ k ∧ k < q.2.2.2
        · rw [if_pos hk, if_pos ⟨h, hk⟩]
        · rw [if_neg hk, if_neg fun x => hk x.2]
      · rw [if_neg h]
        exact (sumR_congr (g := fun _ => 0) fun k _ => if_neg fun x => h x.1).trans (sumR_zero _)
    rw [sumR_congr fun a _ => this a]
    exact (sumR_between (by omega) (by omega) _).symm
  have hn : qs.Nodup := by
    have := F.perm.nodup_iff.mpr T.nodup
    exact List.Pairwise.of_map (toPt RS CS) (fun a b h e => h (e ▸ rfl)) this
  rw [e1, e2, sumL_swap]
  have e3 : ∀ a, a < RS.length - 1 → sumL qs (fun q => sumR (CS.length - 1) fun k => if (q.1 ≤ a ∧ a < q.2.2.1) ∧ (q.2.1 ≤ k ∧ k < q.2.2.2) then (1 : Int) else 0) = (CS.length : Int) - 1 := fun a ha => by
    rw [sumL_swap]
    have : ∀ k, k < CS.length - 1 → sumL qs (fun q => if (q.1 ≤ a ∧ a < q.2.2.1) ∧ (q.2.1 ≤ k ∧ k < q.2.2.2) then (1 : Int) else 0) = 1 := fun k hk => by
      have hin : ∀ q ∈ qs, In (toPt RS CS q) (RS.getD a 0) (CS.getD k 0) ↔ (q.1 ≤ a ∧ a < q.2.2.1) ∧ (q.2.1 ≤ k ∧ k < q.2.2.2) := fun q hq => by
        obtain ⟨h1, h2, h3, h4⟩ := F.ok q hq
        unfold In toPt
        rw [asc_le F.ra (by omega) (by omega), asc_lt_iff F.ra (by omega) (by omega), asc_le F.ca (by omega) (by omega), asc_lt_iff F.ca (by omega) (by omega)]
        exact ⟨fun ⟨a, b, c, d⟩ => ⟨⟨a, b⟩, c, d⟩, fun ⟨⟨a, b⟩, c, d⟩ => ⟨a, b, c, d⟩⟩
      have ra : ∀ x : Nat, x < RS.length → 0 ≤ RS.getD x 0 ∧ RS.getD x 0 ≤ B := fun x hx => by
        obtain ⟨q, hq, e⟩ := (F.rm _).mp (getD_mem hx)
        have := T.box q hq; omega
      have rc : ∀ x : Nat, x < CS.length → 0 ≤ CS.getD x 0 ∧ CS.getD x 0 ≤ R := fun x hx => by
        obtain ⟨q, hq, e⟩ := (F.cm _).mp (getD_mem hx)
        have := T.box q hq; omega
      have b1 := asc_lt F.ra (show a + 1 < RS.length by omega) (Nat.lt_succ_self a)
      have b2 := asc_lt F.ca (show k + 1 < CS.length by omega) (Nat.lt_succ_self k)
      have r1 := ra a (by omega); have r2 := ra (a + 1) (by omega)
      have c1 := rc k (by omega); have c2 := rc (k + 1) (by omega)
      obtain ⟨p, hp, hi⟩ := T.cover (RS.getD a 0) (CS.getD k 0) (by omega) (by omega) (by omega) (by omega)
      obtain ⟨q, hq, rfl⟩ := List.mem_map.mp (F.perm.mem_iff.mpr hp)
      refine sumL_one hn hq ((hin q hq).mp hi) fun y hy hyp => ?_
      have := T.uniq _ (F.perm.mem_iff.mp (List.mem_map_of_mem hy)) _ hp _ _ ((hin y hy).mpr hyp) hi
      have nd := F.perm.nodup_iff.mpr T.nodup
      obtain ⟨i, hi', ei⟩ := List.getElem_of_mem hy
      obtain ⟨j, hj', ej⟩ := List.getElem_of_mem hq
      have hij : i = j := by
        refine (List.getElem_inj nd (i := i) (j := j) (h₀ := by simpa using hi') (h₁ := by simpa using hj')).mp ?_
        rw [List.getElem_map, List.getElem_map, ei, ej, this]
      subst hij
      rw [← ei, ← ej]
    rw [sumR_congr this, sumR_const, Int.mul_one]; omega
  rw [sumR_congr e3, sumR_const]
  congr 1; omega
theorem found_of {S : List Pt} {k : Nat} {st : PS} (I : LI B R ps W S k st) (hB : 0 < B) (hR0 : 0 < R) (hR : R ≤ 62) (hc : st.corners = []) :
    Found B R ps (isrt st.rk) (isrt st.ck) (S.map (toQd (isrt st.rk) (isrt st.ck))) ∧ ∀ (i : Nat) (q : Qd), (S.map (toQd (isrt st.rk) (isrt st.ck)))[i]? = some q → st.cells[i]? = some [(isrt st.rk).getD q.1 0, (isrt st.ck).getD q.2.1 0, (isrt st.rk).getD q.2.2.1 0, (isrt st.ck).getD q.2.2.2 0] := by
  have hall := I.all T hR hc
  have hperm : S.Perm ps := (List.perm_ext_iff_of_nodup I.nd T.nodup).mpr fun p => ⟨I.sub p, hall p⟩
  have rt : ∀ p ∈ ps, p.2.2.1 ∈ st.rk ∧ p.1 ∈ st.rk := fun p hp => by
    have hb := T.box p hp
    refine ⟨I.rall p (hall p hp), ?_⟩
    by_cases e : p.1 = 0
    · rw [e]; exact I.r0
    · obtain ⟨u, hu, hi⟩ := T.cover (p.1 - 1) p.2.1 (by omega) (by omega) (by omega) (by omega)
      have hub := T.box u hu
      unfold In at hi
      have : u.2.2.1 = p.1 := by
        apply Classical.byContradiction
        intro hne
        have := T.same hu hp p.1 p.2.1 (by omega) (by omega) (by omega) (by omega) (by omega) (by omega) (by omega) (by omega)
        subst this; omega
      rw [← this]; exact I.rall u (hall u hu)
  have ct : ∀ p ∈ ps, p.2.2.2 ∈ st.ck ∧ p.2.1 ∈ st.ck := fun p hp => by
    have hb := T.box p hp
    refine ⟨I.call p (hall p hp), ?_⟩
    by_cases e : p.2.1 = 0
    · rw [e]; exact I.c0
    · obtain ⟨u, hu, hi⟩ := T.cover p.1 (p.2.1 - 1) (by omega) (by omega) (by omega) (by omega)
      have hub := T.box u hu
      unfold In at hi
      have : u.2.2.2 = p.2.1 := by
        apply Classical.byContradiction
        intro hne
        have := T.same hu hp p.1 p.2.1 (by omega) (by omega) (by omega) (by omega) (by omega) (by omega) (by omega) (by omega)
        subst this; omega
      rw [← this]; exact I.call u (hall u hu)
  have rm : ∀ x, x ∈ isrt st.rk ↔ RB ps x := fun x => by
    rw [(srt_perm _).mem_iff]
    refine ⟨fun h => (I.rin x h).1, ?_⟩
    rintro ⟨q, hq, rfl | rfl⟩
    · exact (rt q hq).2
    · exact (rt q hq).1
  have cm : ∀ x, x ∈ isrt st.ck ↔ CB ps x := fun x => by
    rw [(srt_perm _).mem_iff]
    refine ⟨fun h => (I.cin x h).1, ?_⟩
    rintro ⟨q, hq, rfl | rfl⟩
    · exact (ct q hq).2
    · exact (ct q hq).1
  have back : ∀ p ∈ ps, toPt (isrt st.rk) (isrt st.ck) (toQd (isrt st.rk) (isrt st.ck) p) = p := fun p hp => by
    unfold toPt toQd
    dsimp only
    rw [(mem_getD ((rm _).mpr ⟨p, hp, .inl rfl⟩)).2, (mem_getD ((cm _).mpr ⟨p, hp, .inl rfl⟩)).2, (mem_getD ((rm _).mpr ⟨p, hp, .inr rfl⟩)).2, (mem_getD ((cm _).mpr ⟨p, hp, .inr rfl⟩)).2]
  refine ⟨⟨srt_lt I.rnd, srt_lt I.cnd, rm, cm, ?_, fun q hq => ?_⟩, fun i q hq => ?_⟩
  · rw [List.map_map]
    have : S.map (toPt (isrt st.rk) (isrt st.ck) ∘ toQd (isrt st.rk) (isrt st.ck)) = S := by
      refine (List.map_congr_left (g := id) fun p hp => back p (I.sub p hp)).trans (List.map_id _)
    rw [this]; exact hperm
  · obtain ⟨p, hp, rfl⟩ := List.mem_map.mp hq
    have hp := I.sub p hp
    have hb := T.box p hp
    have m1 := mem_getD ((rm _).mpr ⟨p, hp, .inl rfl⟩)
    have m2 := mem_getD ((cm _).mpr ⟨p, hp, .inl rfl⟩)
    have m3 := mem_getD ((rm _).mpr ⟨p, hp, .inr rfl⟩)
    have m4 := mem_getD ((cm _).mpr ⟨p, hp, .inr rfl⟩)
    unfold toQd
    dsimp only
    refine ⟨?_, ?_, m3.1, m4.1⟩
    · rw [← asc_lt_iff (srt_lt I.rnd) m1.1 m3.1, m1.2, m3.2]; omega
    · rw [← asc_lt_iff (srt_lt I.cnd) m2.1 m4.1, m2.2, m4.2]; omega
  · rw [List.getElem?_map] at hq
    cases hS : S[i]? with
    | none => rw [hS] at hq; cases hq
    | some p =>
      rw [hS] at hq
      obtain rfl := Option.some.inj hq
      have hp := I.sub p (List.mem_of_getElem? hS)
      have := back p hp
      unfold toPt at this
      rw [I.cells, List.getElem?_map, hS]
      show some (prow p) = _
      conv => lhs; rw [← this]
      rfl
end
end Mine
end Til5_part
section PAa_part
open PySem PySem.W PyProof.Rows PySem.Calls
namespace Mine
theorem sgn_no61 (ps : List Pt) (i j : Int) : sgn ps i j ≠ 61 := by
  unfold sgn; split
  · decide
  · split
    · decide
    · split <;> decide
theorem rows_ok {G : List (List Nat)} {B R : Int} {ps : List Pt} {vs : List Value} (D : Drawn G B R ps) (hR : R ≤ 62) (hst : StrsAre vs (G.map tx)) : ∀ i : Nat, i < vs.toArray.size → ∃ r t, vs.toArray[i]? = some (.str r t) ∧ (∀ c ∈ r.cps.toList, c ≠ 61) ∧ r.length ≤ 64 := by
  intro i hi
  have hl := hst.len_eq
  rw [List.length_map] at hl
  rw [List.size_toArray] at hi
  have hiG : i < G.length := by omega
  have hrow : (G.map tx)[i]? = some (tx G[i]) := by rw [List.getElem?_map, List.getElem?_eq_getElem hiG]; rfl
  obtain ⟨u, hu⟩ := hst.at hrow
  have hw := D.wid G[i] (List.getElem_mem _)
  have hh := D.hi
  refine ⟨_, u, by simpa using hu, fun c hc => ?_, by rw [tx_length]; omega⟩
  have hc' : c ∈ G[i] := by simpa [tx] using hc
  obtain ⟨j, hj, e⟩ := List.getElem_of_mem hc'
  have := D.sg i j (by omega) (by omega) (by omega) (by omega)
  unfold gch at this
  rw [Int.toNat_natCast, Int.toNat_natCast, show G.getD i [] = G[i] by rw [List.getD_eq_getElem?_getD, List.getElem?_eq_getElem hiG, Option.getD_some], List.getD_eq_getElem?_getD, List.getElem?_eq_getElem hj, Option.getD_some, e] at this
  rw [this]
  exact sgn_no61 ps _ _
theorem sep12 {l2 cs l1 rs cl dn x dx2 bd2 bi2 sf dx : Addr} {p1 p2 p3 p4 p5 p6 p7 p8 p9 p10 p11 p12 : Obj} (h : Sep [(l2, p1), (cs, p2), (l1, p3), (rs, p4), (cl, p5), (dn, p6), (x, p7), (dx2, p8), (bd2, p9), (bi2, p10), (sf, p11), (dx, p12)]) :
    Sep [(cl, p5), (dn, p6), (rs, p4), (cs, p2), (sf, p11), (dx, p12), (l1, p3), (l2, p1)] ∧ ∀ q ∈ [(x, p7), (dx2, p8), (bd2, p9), (bi2, p10)], q.1 ∉ [(cl, p5), (dn, p6), (rs, p4), (cs, p2), (sf, p11), (dx, p12), (l1, p3), (l2, p1)].map (·.1) := by
  simp only [Sep, List.forall_mem_cons, List.not_mem_nil, false_implies, implies_true, and_true] at h
  obtain ⟨⟨a1, a2, a3, a4, a5, a6, a7, a8, a9, a10, a11⟩, ⟨b1, b2, b3, b4, b5, b6, b7, b8, b9, b10⟩, ⟨c1, c2, c3, c4, c5, c6, c7, c8, c9⟩, ⟨d1, d2, d3, d4, d5, d6, d7, d8⟩, ⟨e1, e2, e3, e4, e5, e6, e7⟩, ⟨f1, f2, f3, f4, f5, f6⟩, ⟨g1, g2, g3, g4, g5⟩, ⟨h1, h2, h3, h4⟩, ⟨i1, i2, i3⟩, ⟨j1, j2⟩, k1⟩ := h
  constructor
  · simp only [Sep, List.forall_mem_cons, List.not_mem_nil, false_implies, implies_true, and_true]
    refine ⟨⟨?_, ?_, ?_, ?_, ?_, ?_, ?_⟩, ⟨?_, ?_, ?_, ?_, ?_, ?_⟩, ⟨?_, ?_, ?_, ?_, ?_⟩, ⟨?_, ?_, ?_, ?_⟩, ⟨?_, ?_, ?_⟩, ⟨?_, ?_⟩, ?_⟩ <;> first | assumption | exact Ne.symm (by assumption)
  · simp only [List.forall_mem_cons]
    simp only [List.not_mem_nil, false_implies, implies_true, and_true, List.map_cons, List.map_nil, List.mem_cons, or_false, not_or]
    refine ⟨⟨?_, ?_, ?_, ?_, ?_, ?_, ?_, ?_⟩, ⟨?_, ?_, ?_, ?_, ?_, ?_, ?_, ?_⟩, ⟨?_, ?_, ?_, ?_, ?_, ?_, ?_, ?_⟩, ⟨?_, ?_, ?_, ?_, ?_, ?_, ?_, ?_⟩⟩ <;> first | assumption | exact Ne.symm (by assumption)
theorem nodup_at {α : Type} {l : List α} (h : l.Nodup) {i j : Nat} {a : α} (hi : l[i]? = some a) (hj : l[j]? = some a) : i = j := by
  obtain ⟨hi1, ex⟩ := List.getElem?_eq_some_iff.mp hi
  obtain ⟨hj1, eq⟩ := List.getElem?_eq_some_iff.mp hj
  exact (List.getElem_inj h).mp (ex.trans eq.symm)
structure StrHyp (B R : Int) (ps : List Pt) (ks1 ks2 : List Int) (cells : List (List Int)) (RS CS : List Int) (qs : List Qd) : Prop where
  F : Found B R ps RS CS qs
  hRS : ∀ ns : List Int, ns.Perm ks1 → ns.Pairwise (fun x y => x ≤ y) → ns = RS
  hCS : ∀ ns : List Int, ns.Perm ks2 → ns.Pairwise (fun x y => x ≤ y) → ns = CS
  hR2 : 2 ≤ RS.length
  hC2 : 2 ≤ CS.length
  hRn : RS.Nodup
  hCn : CS.Nodup
  hRz : ∀ x ∈ RS, 0 ≤ x ∧ x < 100
  hCz : ∀ x ∈ CS, 0 ≤ x ∧ x < 100
  k1 : ks1.length < 64
  k2 : ks2.length < 64
  len : cells.length = qs.length
  l64 : qs.length ≤ 64
  cel : ∀ (i : Nat) (q : Qd), qs[i]? = some q → cells[i]? = some [RS.getD q.1 0, CS.getD q.2.1 0, RS.getD q.2.2.1 0, CS.getD q.2.2.2 0]
  dis : ∀ (i j : Nat) (x q : Qd), i < j → qs[i]? = some x → qs[j]? = some q → ¬ (x.1 = q.1 ∧ x.2.1 = q.2.1)
  sum : qsum qs = ((RS.length : Int) - 1) * ((CS.length : Int) - 1)
theorem strHyp {B R : Int} {ps : List Pt} {W k : Nat} {st : PS} (T : Tiling B R ps) (hB : 0 < B) (hB62 : B ≤ 62) (hR : 0 < R) (hR62 : R ≤ 62) (hps : ps.length ≤ 50) (hI : LInv B R ps W k st) (hc : st.corners = []) : ∃ RS CS qs, StrHyp B R ps st.rk st.ck st.cells RS CS qs := by
  obtain ⟨S, I⟩ := hI
  obtain ⟨F, hcel⟩ := found_of T I hB hR hR62 hc
  obtain ⟨p, hp, hi⟩ := T.cover 0 0 (by omega) hB (by omega) hR
  have hpb := T.box p hp
  have two : ∀ {l : List Int} {a b : Int}, l.Nodup → a ∈ l → b ∈ l → a ≠ b → 2 ≤ l.length := fun {l a b} hn ha hb hab => by
    have := nodup_length_le (l := [a, b]) (m := l) (by simp [hab]) fun x hx => by
      rcases List.mem_cons.mp hx with rfl | hx
      · exact ha
      · rw [List.mem_singleton.mp hx]; exact hb
    simpa using this
  have n1 : (isrt st.rk).Nodup := (srt_perm _).nodup_iff.mpr I.rnd
  have n2 : (isrt st.ck).Nodup := (srt_perm _).nodup_iff.mpr I.cnd
  have hR2 : 2 ≤ (isrt st.rk).length := two n1 ((F.rm _).mpr ⟨p, hp, .inl rfl⟩) ((F.rm _).mpr ⟨p, hp, .inr rfl⟩) (by omega)
  have hC2 : 2 ≤ (isrt st.ck).length := two n2 ((F.cm _).mpr ⟨p, hp, .inl rfl⟩) ((F.cm _).mpr ⟨p, hp, .inr rfl⟩) (by omega)
  have hS : S.length ≤ ps.length := nodup_length_le I.nd I.sub
  refine ⟨isrt st.rk, isrt st.ck, _, F, fun ns h1 h2 => srt_only h1 h2, fun ns h1 h2 => srt_only h1 h2, hR2, hC2, n1, n2, fun x hx => ?_, fun x hx => ?_, ?_, ?_, by rw [I.cells, List.length_map, List.length_map], by rw [List.length_map]; omega, hcel, fun i j x q hij hx hq => ?_, found_qsum T F (by omega) (by omega)⟩
  · have := I.rin x ((srt_perm _).mem_iff.mp hx); omega
  · have := I.cin x ((srt_perm _).mem_iff.mp hx); omega
  · have := ints_le (n := 63) I.rnd fun x hx => by have := I.rin x hx; omega
    omega
  · have := ints_le (n := 63) I.cnd fun x hx => by have := I.cin x hx; omega
    omega
  · rintro ⟨e1, e2⟩
    have nd := F.perm.nodup_iff.mpr T.nodup
    have hxi := List.mem_of_getElem? hx
    have hqi := List.mem_of_getElem? hq
    have mx := F.perm.mem_iff.mp (List.mem_map_of_mem hxi)
    have mq := F.perm.mem_iff.mp (List.mem_map_of_mem hqi)
    have := T.code_inj hR62 mx mq (by unfold pcode toPt; dsimp only; rw [e1, e2])
    have hij' : i = j := nodup_at nd (by rw [List.getElem?_map, hx]; rfl) (by rw [List.getElem?_map, hq, this]; rfl)
    omega
end Mine
end PAa_part
section PA_part
open PySem PySem.W PyProof.Rows PySem.Calls
namespace Mine
local macro_rules | `(tactic| k_all) => `(tactic| assumption)
local macro_rules | `(tactic| walk_at "pyIter ref") => `(tactic| refine Hold.of ?_)
local macro_rules | `(tactic| walk_at "call ref") => `(tactic| refine Hold.of ?_)
local macro_rules | `(tactic| walk_at "exec For") => `(tactic| (with_unfolding_all refine' For_run ?_))
local macro_rules | `(tactic| walk_at "exec For Name Call cons nil") => `(tactic| (with_unfolding_all refine' For_run ?_))
local macro_rules | `(tactic| walk_at "exec For Tuple Call cons nil") => `(tactic| (with_unfolding_all refine' For_run ?_))
local macro_rules | `(tactic| walk_at "getAttr ref") => `(tactic| (k_dflt (refine' get_own ?k1 ?k2 (inst_up ?k3 (Fr.keep ?k1)) ?k4 ?k5 ?k6 ?k7 ?k8 ?k9 ?_; (case k1 => k_asm); (case k2 => k_asm); (case k3 => k_asm); (case k4 => k_is); (case k5 => k_is); (case k6 => k_is); (case k7 => k_is); (case k8 => k_asm); (case k9 => k_handed); k_whole)))
local macro_rules | `(tactic| walk_at "eval Name") => `(tactic| ((with_reducible show wpAny _ _ (eval _ (envOfC _ _ _ _ _)) _ _ _); k_dflt (refine' nameX_L ?F ?v ?_ ?a ?b ?d; (case F => k_asm); (case v => rfl); (case a => kernel_rfl); (case b => kernel_rfl); (case d => kernel_rfl); k_whole)))
local macro_rules | `(tactic| walk_at "eval Name") => `(tactic| ((with_reducible show wpAny _ _ (eval _ (envOf _ _ _ _ _)) _ _ _); k_dflt (refine' ld ?k1 ?k2 ?_ ?k3 ?k4 ?k5; (case k1 => k_asm); (case k2 => exact rfl); (case k3 => kernel_rfl); (case k4 => kernel_rfl); (case k5 => kernel_rfl); k_whole)))
local macro_rules | `(tactic| walk_at "Turned") => `(tactic| first | refine Turned.ret ?_ | refine Turned.brk ?_)
local macro_rules | `(tactic| walk_at "go") => `(tactic| repeat' (first | (k_unfold; (try dsimp only)) | walk1 | (dsimp only; walk1) | (dsimp only; k_unfold; (try dsimp only))))
local macro_rules | `(tactic| walk_at "kf") => `(tactic| ((with_reducible show wpAny _ _ _ _ _ _); k_fold))
local macro_rules | `(tactic| walk_at "locals") => `(tactic| (intro y h1 h2; simp only [List.mem_cons, List.not_mem_nil, or_false, not_or] at h1 h2; simp [h1, h2]))
local macro_rules | `(tactic| walk_at "eval ListComp") => `(tactic| (k_dflt (refine ListComp_runF (by k_asm) (by with_unfolding_all rfl) (by rfl) (by decide) ?_)))
local macro_rules | `(tactic| walk_at "exec Assign cons ListComp") => `(tactic| (k_dflt (refine Assign_ListComp_runF (by k_asm) (by with_unfolding_all rfl) (by with_unfolding_all rfl) (by rfl) (by decide) (by rfl) (by rfl) (by rfl) ?_)))
local macro_rules | `(tactic| walk_at "sub") => `(tactic| first | exact List.forall_mem_nil _ | refine List.forall_mem_cons.mpr ⟨by k_mem, by walk_at "sub"⟩)
local macro_rules | `(tactic| walk_at "hnd1") => `(tactic| first | exact apart_nil | refine apart_cons (by k_ne) (by walk_at "hnd1"))
local macro_rules | `(tactic| walk_at "hnd2") => `(tactic| first | exact Apart.nil | refine Apart.cons (by walk_at "hnd1") (by walk_at "hnd2"))
local macro_rules | `(tactic| walk_at "hnd") => `(tactic| exact Apart.nd (by walk_at "hnd2"))
local macro_rules | `(tactic| k_ne) => `(tactic| first | exact NE.out (by assumption) | exact NE.flip (by assumption) | (refine neN ?_; (try dsimp only); omega))
local macro_rules | `(tactic| walk_at "mem") => `(tactic| first | exact List.Mem.head _ | (refine List.Mem.tail _ ?_; walk_at "mem"))
theorem parse_walk {prog : Program} {w : World} {s : Shared} {g : Heap} {mg mb : Str → Option Value} {p : Program} {loose : List Str} {self dx blk dxb bd bi : Addr} {pa po : Value} {t1 t2 t3 t4 : Tok} {vs : List Value} {ws : Array Value} {B R : Int} {ps : List Pt} {G : List (List Nat)}
   (X : (hd.heap_39 w.params).In g) (T : TopRead p loose mg mb g) (S : St g s.heap [(self, instObj 245 dx), (dx, dictOf [] 0)]) (hxd : dx < self)
   (I : InstAt g blk (instObj 557 dxb) 557 (some (dictOf (slEs w.params bd bi pa po t1 t2 t3 t4) 4)))
   (hbd : g.IsList bd vs.toArray) (hbi : g.IsList bi ws) (hsz : vs.length = ws.size) (hst : StrsAre vs (G.map tx)) (TT : Tiling B R ps) (D : Drawn G B R ps) (hB : 0 < B) (hB62 : B ≤ 62) (hR : 0 < R) (hR62 : R ≤ 62) (hps : ps.length ≤ 50) :
   codeAny (model prog w) (lv 840 4400) (.call (.ref 155) ⟨[.ref self, .ref blk], []⟩) (Back g s fun v led => ∃ RS CS qs, Found B R ps RS CS qs ∧ StrOut RS CS qs v led) s := by
  have hl := hst.len_eq
  rw [List.length_map] at hl
  have hh := D.hi
  have h0G : 0 < G.length := by omega
  have hrow0 : (G.map tx)[0]? = some (tx G[0]) := by rw [List.getElem?_map, List.getElem?_eq_getElem h0G]; rfl
  obtain ⟨t0, hu0⟩ := hst.at hrow0
  have hw0 := D.wid G[0] (List.getElem_mem _)
  have hz0 : vs.toArray[0]? = some (.str (tx G[0]) t0) := by simpa using hu0
  have hok := rows_ok D hR62 hst
  k_dflt (refine' enter (binds := [("self", .ref self), ("block", .ref blk)]) X T S ?k6 ?k7 ?k8 ?k9 ?kB ?_ ?c2 ?c3 ?c4 ?c5; (case k6 => k_is); (case k7 => k_is); (case k8 => decide); (case k9 => exact BindsTo.of_eq rfl); (case kB => exact locs rfl); (case c5 => decide); (case c2 => rfl); (case c3 => rfl); (case c4 => rfl))
  intro L h₁ F N
  have hxd' := ltN hxd
  walk_at "kf"
  walk_at "go"
  rename Fr _ _ _ _ => F'
  rename News _ _ _ _ => N'
  refine Hold.out (wpAny_call (use_call [_, _] [] F' N' (fun _ h => nomatch h) (fun g' st hr S' => lv_le (setup_walk (X.keeps st) (T.keeps st) S' hxd (inst_up I st) (lst_up hbd st) (lst_up hbi st) (by rw [List.size_toArray]; omega) (by omega) hz0 (by rw [tx_length]; omega)) rfl (Nat.le_of_ble_eq_true rfl) (Nat.le_of_ble_eq_true rfl)) ?_))
  rintro v led h₂ tk₂ ⟨rfl, l2, cs, l1, rs, cl, dn, x, dx2, bd2, bi2, a1, a2, o1, o2, ds, its, c, c', po2, u1, u2, u3, u4, b1, b2, y1, y2, y3, y4, y5, y6, y7, y8, rfl, hsep, hd1, hd2, m1, m2, hds, hits⟩ F₂ N₂ -
  clear F' N'
  rw [List.append_nil] at N₂
  have e1 : (vs.toArray.size : Int) = G.length := by rw [List.size_toArray]; omega
  have e2 : (tx G[0]).length = G[0].length := tx_length _
  rw [e1, e2] at N₂ hsep
  rw [e2] at hds
  obtain ⟨hsep8, hnd⟩ := sep12 hsep
  generalize hWe : G[0].length = W at N₂ hsep hds hsep8 hnd
  have hWR : (W : Int) = R + 1 := by rw [← hWe]; exact hw0
  have hwid : ∀ r ∈ G, r.length = W := fun r hr => by have := D.wid r hr; omega
  dsimp only
  walk_at "go"
  rename Fr _ _ _ _ => F'
  rename News _ _ _ _ => N'
  have xes : getL "block" (gpEs w.params x G.length W dn cl rs cs b1 b2 y1 y2 y3 y4 y5 y6 y7 y8) = some (some (.ref x)) := by rfl
  refine Hold.out (wpAny_call (use_call [] _ F' N' (by simp) (fun g' st' hr S' => lv_le (find_hbs (vs := vs.toArray) (X.keeps st') (T.keeps st') S' (inst_of (hr (self, instObj 245 dx) (by walk_at "mem")) (hr (dx, dictOf (gpEs w.params x G.length W dn cl rs cs b1 b2 y1 y2 y3 y4 y5 y6 y7 y8) 8) (by walk_at "mem"))) xes (by rfl) (by rfl) (inst_of (hr (x, instObj 557 dx2) (by walk_at "mem")) (hr (dx2, dictOf (slEs w.params bd2 bi2 Value.none po2 u1 u2 u3 u4) 4) (by walk_at "mem"))) ⟨_, hr (bd2, listOf vs.toArray c) (by walk_at "mem"), rfl, _, rfl⟩ (by rw [List.size_toArray]; omega) hok) rfl (Nat.le_of_ble_eq_true rfl) (Nat.le_of_ble_eq_true rfl)) ?_))
  rintro v led h₃ tk₃ rfl F₃ N₃ -
  clear F' N'
  replace N₃ := news_sub N₃ fun q hq => List.mem_append_right _ hq
  dsimp only
  walk_at "go"
  rename Fr _ _ _ _ => F'
  rename News _ _ _ _ => N'
  refine Hold.out (wpAny_call (use_call [(cl, listOf #[] 0), (dn, listOf (List.toArray ds) 0), (rs, o1), (cs, o2), (self, instObj 245 dx), (dx, dictOf (gpEs w.params x G.length W dn cl rs cs b1 b2 y1 y2 y3 y4 y5 y6 y7 y8) 8), (l1, listOf #[.int 0 a1] 0), (l2, listOf #[.int 0 a2] 0)] [(x, instObj 557 dx2), (dx2, dictOf (slEs w.params bd2 bi2 Value.none po2 u1 u2 u3 u4) 4), (bd2, listOf vs.toArray c), (bi2, listOf its c')] F' (news_sub N' fun q hq => ?_) hnd
    (fun g' st' hr S' => lv_le (parse_table (es := []) (n := 0) (LInv B R ps W) (X.keeps st') (T.keeps st') S' hsep8 (inst_of (hr (x, instObj 557 dx2) (by walk_at "mem")) (hr (dx2, dictOf (slEs w.params bd2 bi2 Value.none po2 u1 u2 u3 u4) 4) (by walk_at "mem"))) ⟨_, hr (bd2, listOf vs.toArray c) (by walk_at "mem"), rfl, _, rfl⟩ ⟨its, ⟨_, hr (bi2, listOf its c') (by walk_at "mem"), rfl, _, rfl⟩, by rw [hits, List.size_toArray]⟩ hst (by omega) (by omega) hwid (by omega) hd1 hd2 m1 m2 hds (linit TT hB hR hWR) (fun k st hI => pstep TT D hWR hB hB62 hR62 hps hI)) rfl (Nat.le_of_ble_eq_true rfl) (Nat.le_of_ble_eq_true rfl)) ?_))
  · simp only [List.cons_append, List.nil_append, List.mem_cons, List.not_mem_nil, or_false] at hq ⊢
    rcases hq with h | h | h | h | h | h | h | h | h | h | h | h <;> simp only [h, true_or, or_true]
  rintro v led₄ h₄ tk₄ ⟨rfl, cl4, D4, k4, st4, vc4, c41, ds4, c42, cv4, c43, o14, o24, ls14, ls24, tups4, y9, hI4, hc4, rfl, hP⟩ F₄ N₄ -
  clear F' N'
  obtain ⟨RS, CS, qs, H⟩ := strHyp TT hB hB62 hR hR62 hps hI4 hc4
  obtain ⟨kv1, hk1, hk1e, -⟩ := hP.row.ex
  obtain ⟨kv2, hk2, hk2e, -⟩ := hP.col.ex
  obtain ⟨hcl, hcc⟩ := hP.cel
  dsimp only
  simp only [List.cons_append] at N₄
  walk_at "go"
  rename Fr _ _ _ _ => F'
  rename News _ _ _ _ => N'
  refine Hold.out (wpAny_call (use_call [] _ F' N' (by simp) (fun g' st' hr S' => lv_le (structure_walk (RS := RS) (CS := CS) (qs := qs) (cv := cv4) (X.keeps st') (T.keeps st') S' (inst_of (hr (self, instObj 245 dx) (by walk_at "mem")) (hr (dx, dictOf (gp9 w.params x G.length W dn cl rs cs D4 b1 b2 y1 y2 y3 y4 y5 y6 y7 y8 y9) 9) (by walk_at "mem"))) (by rfl) (by rfl) (by rfl) (by rfl)
    (Heap.dictOf_iff.mpr ⟨o14, hr (rs, o14) (by walk_at "mem"), hk1⟩) (Heap.dictOf_iff.mpr ⟨o24, hr (cs, o24) (by walk_at "mem"), hk2⟩) m1 m2 (by have := H.k1; rw [← hk1e, List.length_map] at this; exact this) (by have := H.k2; rw [← hk2e, List.length_map] at this; exact this) (by rw [hk1e]; exact H.hRS) (by rw [hk2e]; exact H.hCS) H.hR2 H.hC2 H.hRn H.hCn H.hRz H.hCz ⟨_, hr (cl, listOf (List.toArray cv4) c43) (by walk_at "mem"), rfl, _, rfl⟩ (by rw [hcl]; exact H.len) H.l64 (fun i q v hq hv => ?_) H.dis H.sum) rfl (Nat.le_of_ble_eq_true rfl) (Nat.le_of_ble_eq_true rfl)) ?_))
  · obtain ⟨T1, t, l, b, r, u1, u2, u3, u4, bl, z1, z2, z3⟩ := hcc i (by have := (List.getElem?_eq_some_iff.mp hq).1; have := H.len; omega)
    rw [hv] at z1
    obtain rfl := Option.some.inj z1
    have z4 := H.cel i q hq
    rw [z2] at z4
    injection z4 with z4
    injection z4 with z5 z4; injection z4 with z6 z4; injection z4 with z7 z4; injection z4 with z8 z4
    subst z5; subst z6; subst z7; subst z8
    obtain ⟨o1, o2, o3, o4⟩ := H.F.ok q (List.mem_of_getElem? hq)
    refine ⟨T1, _, rfl, ⟨tupOf [.int (RS.getD q.1 0) u1, .int (CS.getD q.2.1 0) u2, .int (RS.getD q.2.2.1 0) u3, .int (CS.getD q.2.2.2 0) u4, .ref bl], hr (T1, tupOf [.int (RS.getD q.1 0) u1, .int (CS.getD q.2.1 0) u2, .int (RS.getD q.2.2.1 0) u3, .int (CS.getD q.2.2.2 0) u4, .ref bl]) ?_, rfl, _, rfl⟩, ⟨u1, u2, u3, u4, bl, rfl⟩, o1, o2, o3, o4⟩
    simp only [List.mem_cons, List.mem_append, z3, true_or, or_true]
  rintro v led₅ h₅ tk₅ hout F₅ N₅ -
  clear F' N'
  dsimp only
  walk_at "go"
  exact Back.intro F₅ (news_sub N₅ fun q hq => List.mem_append_left _ hq) ⟨RS, CS, qs, H.F, hout⟩
end Mine
end PA_part
section LCa_part
open PySem PySem.W PyProof.Rows PySem.Calls
namespace Mine
structure FoundX (B R : Int) (RS CS : List Int) (qs : List Qd) : Prop where
  r2 : 2 ≤ RS.length
  c2 : 2 ≤ CS.length
  r0 : RS.getD 0 0 = 0
  c0 : CS.getD 0 0 = 0
  rl : RS.getD (RS.length - 1) 0 = B
  cl : CS.getD (CS.length - 1) 0 = R
  st : ∀ a, a < RS.length - 1 → ∃ q ∈ qs, q.1 = a
  rz : ∀ a, a < RS.length → 0 ≤ RS.getD a 0 ∧ RS.getD a 0 ≤ B
  cz : ∀ a, a < CS.length → 0 ≤ CS.getD a 0 ∧ CS.getD a 0 ≤ R
  rn : RS.length ≤ 64
  cn : CS.length ≤ 64
theorem asc_first {l : List Int} (h : l.Pairwise (· < ·)) {m : Int} (hm : m ∈ l) (hmin : ∀ x ∈ l, m ≤ x) : l.getD 0 0 = m := by
  obtain ⟨h1, h2⟩ := mem_getD hm
  have a := (asc_le h (show 0 < l.length by omega) h1).mpr (Nat.zero_le _)
  have b := hmin _ (getD_mem (show 0 < l.length by omega))
  omega
theorem asc_last {l : List Int} (h : l.Pairwise (· < ·)) {m : Int} (hm : m ∈ l) (hmax : ∀ x ∈ l, x ≤ m) : l.getD (l.length - 1) 0 = m := by
  obtain ⟨h1, h2⟩ := mem_getD hm
  have a := (asc_le h h1 (show l.length - 1 < l.length by omega)).mpr (by omega)
  have b := hmax _ (getD_mem (show l.length - 1 < l.length by omega))
  omega
theorem asc_nodup {l : List Int} (h : l.Pairwise (· < ·)) : l.Nodup := h.imp fun h => by omega
theorem foundX {B R : Int} {ps : List Pt} {RS CS : List Int} {qs : List Qd} (T : Tiling B R ps) (F : Found B R ps RS CS qs) (hB : 0 < B) (hB62 : B ≤ 62) (hR : 0 < R) (hR62 : R ≤ 62) : FoundX B R RS CS qs := by
  obtain ⟨p, hp, hi⟩ := T.cover 0 0 (by omega) hB (by omega) hR
  obtain ⟨p2, hp2, hi2⟩ := T.cover (B - 1) (R - 1) (by omega) (by omega) (by omega) (by omega)
  have hpb := T.box p hp
  have hpb2 := T.box p2 hp2
  unfold In at hi hi2
  have rz : ∀ x ∈ RS, 0 ≤ x ∧ x ≤ B := fun x hx => by
    obtain ⟨q, hq, e⟩ := (F.rm x).mp hx
    have := T.box q hq; omega
  have cz : ∀ x ∈ CS, 0 ≤ x ∧ x ≤ R := fun x hx => by
    obtain ⟨q, hq, e⟩ := (F.cm x).mp hx
    have := T.box q hq; omega
  have m1 : (0 : Int) ∈ RS := (F.rm 0).mpr ⟨p, hp, .inl (by omega)⟩
  have m2 : (0 : Int) ∈ CS := (F.cm 0).mpr ⟨p, hp, .inl (by omega)⟩
  have m3 : B ∈ RS := (F.rm B).mpr ⟨p2, hp2, .inr (by omega)⟩
  have m4 : R ∈ CS := (F.cm R).mpr ⟨p2, hp2, .inr (by omega)⟩
  have two : ∀ {l : List Int} {a b : Int}, l.Nodup → a ∈ l → b ∈ l → a ≠ b → 2 ≤ l.length := fun {l a b} hn ha hb hab => by
    have := nodup_length_le (l := [a, b]) (m := l) (by simp [hab]) fun x hx => by
      rcases List.mem_cons.mp hx with rfl | hx
      · exact ha
      · rw [List.mem_singleton.mp hx]; exact hb
    simpa using this
  have n1 := asc_nodup F.ra
  have n2 := asc_nodup F.ca
  have r2 := two n1 m1 m3 (by omega)
  have c2 := two n2 m2 m4 (by omega)
  have rl := asc_last F.ra m3 fun x hx => (rz x hx).2
  refine ⟨r2, c2, asc_first F.ra m1 fun x hx => (rz x hx).1, asc_first F.ca m2 fun x hx => (cz x hx).1, rl, asc_last F.ca m4 fun x hx => (cz x hx).2, fun a ha => ?_, fun a ha => rz _ (getD_mem ha), fun a ha => cz _ (getD_mem ha), ?_, ?_⟩
  · have hlt := asc_lt F.ra (show RS.length - 1 < RS.length by omega) ha
    rw [rl] at hlt
    have h0 := (rz _ (getD_mem (show a < RS.length by omega))).1
    have : ∃ p ∈ ps, p.1 = RS.getD a 0 := by
      obtain ⟨q, hq, e | e⟩ := (F.rm _).mp (getD_mem (show a < RS.length by omega))
      · exact ⟨q, hq, e.symm⟩
      · have hqb := T.box q hq
        obtain ⟨u, hu, hi⟩ := T.cover (RS.getD a 0) q.2.1 h0 hlt (by omega) (by omega)
        have hub := T.box u hu
        unfold In at hi
        refine ⟨u, hu, ?_⟩
        apply Classical.byContradiction
        intro hne
        have := T.same hu hq (RS.getD a 0 - 1) q.2.1 (by omega) (by omega) (by omega) (by omega) (by omega) (by omega) (by omega) (by omega)
        subst this; omega
    obtain ⟨p, hp, e⟩ := this
    obtain ⟨q, hq, rfl⟩ := List.mem_map.mp (F.perm.mem_iff.mpr hp)
    obtain ⟨h1, h2, h3, h4⟩ := F.ok q hq
    exact ⟨q, hq, nodup_getD n1 (by omega) (by omega) e⟩
  · have := ints_le (n := 63) n1 fun x hx => by have := rz x hx; omega
    omega
  · have := ints_le (n := 63) n2 fun x hx => by have := cz x hx; omega
    omega
theorem qd_inj {B R : Int} {ps : List Pt} {RS CS : List Int} {qs : List Qd} (T : Tiling B R ps) (F : Found B R ps RS CS qs) (hR62 : R ≤ 62) {x y : Qd} (hx : x ∈ qs) (hy : y ∈ qs) (e1 : x.1 = y.1) (e2 : x.2.1 = y.2.1) : x = y := by
  have mx := F.perm.mem_iff.mp (List.mem_map_of_mem hx)
  have my := F.perm.mem_iff.mp (List.mem_map_of_mem hy)
  have e := T.code_inj hR62 mx my (by unfold pcode toPt; dsimp only; rw [e1, e2])
  have nd := F.perm.nodup_iff.mpr T.nodup
  obtain ⟨i, hi, ei⟩ := List.getElem_of_mem hx
  obtain ⟨j, hj, ej⟩ := List.getElem_of_mem hy
  have := nodup_at nd (i := i) (j := j) (a := toPt RS CS x) (by rw [List.getElem?_map, List.getElem?_eq_getElem hi, ei]; rfl) (by rw [List.getElem?_map, List.getElem?_eq_getElem hj, ej, e]; rfl)
  subst this
  rw [← ei, ej]
section
variable {prog : Program} {w : World} {A : Around} {E : Value → Shared → Prop} {s : Shared} {h₀ : Heap} {L : Addr} {m : Str → Option Value} {news held : List (Addr × Obj)} {rows : List (List Int)} {d : Nat} {vs : List Value}
theorem sorted_tupsH {l : Addr} {Q : Value → Shared → Prop} (F : Fr h₀ L s.heap m) (N : News h₀ L s.heap news) (hl : s.heap.IsList l vs.toArray) (ht : Tups noH held vs rows) (hs' : ∀ q ∈ held, q ∈ news) (hd : 0 < d) (hr : ∀ r ∈ rows, r.length = d) (hs : ∀ r ∈ rows, Small r)
    (h2 : 2 ≤ rows.length) (h64 : rows.length < 64)
    (h : ∀ D out rows' c h', Fr h₀ L h' m → News h₀ L h' ((D, listOf (List.toArray out) c) :: news) → (∀ q ∈ news, q.1 < D) → SortedTo noH held rows out rows' → Q (.ref D) { s with heap := h' }) :
    wpAny (model prog w) A (call (.builtin "sorted") [.ref l]) Q E s := by
  have hle := ht.1
  have ht' : Tups h₀ news vs rows := ht.up hs'
  refine kat_sorted F N hl (by omega) (by omega) fun D e1 h' F' N' hlt => ?_
  have N'' : News h₀ L h' news := fun q hq => N' q (.tail _ hq)
  refine tups_kind (s := { s with heap := h' }) F' N'' ht' hd hr (by omega) ?_
  refine tups_sort (s := { s with heap := h' }) F' N'' ht' hr hs (by omega) fun p ok ha => ?_
  exact KasFin.intro F' N' (.head fun q hq => Nat.ne_of_lt (hlt q hq)) fun h₂ c F₂ N₂ => h D _ _ c h₂ F₂ N₂ hlt (sortedTo_of ht ok ha)
end
end Mine
namespace Mine
open PySem PySem.W PyProof.Rows PySem.Calls
structure CellsTo (RS CS : List Int) (qs : List Qd) (k m : Nat) (dn : List Qd) : Prop where
  nd : dn.Nodup
  mem : ∀ q, q ∈ dn ↔ q ∈ qs ∧ (q.1 < k ∨ q.1 = k ∧ q.2.1 < m)
theorem CellsTo.nil {RS CS : List Int} {qs : List Qd} : CellsTo RS CS qs 0 0 [] := ⟨List.nodup_nil, fun q => ⟨(fun h => nomatch h), fun h => by omega⟩⟩
theorem CellsTo.skip {RS CS : List Int} {qs dn : List Qd} {k m : Nat} (h : CellsTo RS CS qs k m dn) (hno : ∀ x ∈ qs, ¬ (x.1 = k ∧ x.2.1 = m)) : CellsTo RS CS qs k (m + 1) dn :=
  ⟨h.nd, fun q => by
    rw [h.mem]
    constructor
    · rintro ⟨a, b⟩; exact ⟨a, by omega⟩
    · rintro ⟨a, b⟩
      refine ⟨a, ?_⟩
      have := hno q a
      omega⟩
theorem CellsTo.add {RS CS : List Int} {qs dn : List Qd} {k m : Nat} {x : Qd} (h : CellsTo RS CS qs k m dn) (hx : x ∈ qs) (h1 : x.1 = k) (h2 : x.2.1 = m) (hu : ∀ y ∈ qs, y.1 = x.1 → y.2.1 = x.2.1 → y = x) : CellsTo RS CS qs k (m + 1) (dn ++ [x]) := by
  refine ⟨?_, fun q => ?_⟩
  · rw [List.nodup_append]
    refine ⟨h.nd, by simp, fun a ha b hb e => ?_⟩
    rw [List.mem_singleton.mp hb] at e
    subst e
    have := ((h.mem a).mp ha).2
    omega
  · rw [List.mem_append, List.mem_singleton, h.mem]
    constructor
    · rintro (⟨a, b⟩ | rfl)
      · exact ⟨a, by omega⟩
      · exact ⟨hx, by omega⟩
    · rintro ⟨a, b⟩
      by_cases e : q.1 = k ∧ q.2.1 = m
      · exact .inr (hu q a (by omega) (by omega))
      · exact .inl ⟨a, by omega⟩
theorem CellsTo.row {RS CS : List Int} {qs dn : List Qd} {k m : Nat} (h : CellsTo RS CS qs k m dn) (hm : ∀ x ∈ qs, x.2.1 < m) : CellsTo RS CS qs (k + 1) 0 dn :=
  ⟨h.nd, fun q => by
    rw [h.mem]
    constructor
    · rintro ⟨a, b⟩; exact ⟨a, by omega⟩
    · rintro ⟨a, b⟩
      have := hm q a
      exact ⟨a, by omega⟩⟩
theorem CellsTo.all {B R : Int} {ps : List Pt} {RS CS : List Int} {qs dn : List Qd} {k : Nat} (F : Found B R ps RS CS qs) (T : Tiling B R ps) (h : CellsTo RS CS qs k 0 dn) (hk : ∀ x ∈ qs, x.1 < k) : (dn.map fun q => prow (toPt RS CS q)).Perm (ps.map prow) := by
  have hn : qs.Nodup := List.Pairwise.of_map (toPt RS CS) (fun a b h e => h (e ▸ rfl)) (F.perm.nodup_iff.mpr T.nodup)
  have hp : dn.Perm qs := (List.perm_ext_iff_of_nodup h.nd hn).mpr fun q => by
    rw [h.mem]
    exact ⟨fun h => h.1, fun h => ⟨h, .inl (hk q h)⟩⟩
  have h1 : (dn.map fun q => prow (toPt RS CS q)) = (dn.map (toPt RS CS)).map prow := by rw [List.map_map]; rfl
  rw [h1]
  exact ((hp.map _).trans F.perm).map _
end Mine
namespace Mine
open PySem PySem.W PyProof.Rows PySem.Calls
def LJ (cA : Addr) (fix : List (Addr × Obj)) (rls tups : List (Addr × Obj)) (RS CS : List Int) (qs : List Qd) (k m : Nat) (led : List (Addr × Obj)) : Prop :=
  ∃ cl cc dn tps, led = (cA, listOf (List.toArray cl) cc) :: (fix ++ (rls ++ (tups ++ tps))) ∧ Tups noH tps cl (dn.map fun q => prow (toPt RS CS q)) ∧ CellsTo RS CS qs k m dn ∧ ∀ p ∈ tps, @Ne Nat p.1 cA
theorem LJ.len {B R : Int} {ps : List Pt} {RS CS : List Int} {qs dn : List Qd} {k m : Nat} (F : Found B R ps RS CS qs) (h : CellsTo RS CS qs k m dn) : dn.length ≤ ps.length := by
  have h1 := nodup_length_le h.nd fun q hq => ((h.mem q).mp hq).1
  have h2 := F.perm.length_eq
  rw [List.length_map] at h2
  omega
end Mine
namespace Mine
open PySem PySem.W PyProof.Rows PySem.Calls
theorem LJ_add {cA : Addr} {fix rls tups tps : List (Addr × Obj)} {RS CS : List Int} {qs dn : List Qd} {cl : List Value} {cc D' : Nat} {q : Qd} {t1 t2 t3 t4 : Tok} (hT : Tups noH tps cl (dn.map fun q => prow (toPt RS CS q))) (hC : CellsTo RS CS qs q.1 q.2.1 dn) (hne : ∀ p ∈ tps, @Ne Nat p.1 cA)
    (hq : q ∈ qs) (hu : ∀ y ∈ qs, y.1 = q.1 → y.2.1 = q.2.1 → y = q) (n1 : @Ne Nat D' cA) :
    LJ cA fix rls tups RS CS qs q.1 (q.2.1 + 1) ((cA, listOf (List.toArray (cl ++ [.ref D'])) cc) :: (fix ++ (rls ++ (tups ++ (tps ++ [(D', tupOf [.int (RS.getD q.1 0) t1, .int (CS.getD q.2.1 0) t2, .int (RS.getD q.2.2.1 0) t3, .int (CS.getD q.2.2.2 0) t4])]))))) := by
  refine ⟨cl ++ [.ref D'], cc, dn ++ [q], tps ++ [(D', _)], rfl, ?_, hC.add hq rfl rfl hu, fun p hp => ?_⟩
  · rw [List.map_append]
    refine Tups.snoc ⟨hT.1, fun i hi => (hT.2 i hi).mono fun x hx => List.mem_append_left _ hx⟩ ⟨D', _, rfl, .inr ⟨_, List.mem_append_right _ (.head _), rfl, _, rfl⟩, ?_⟩
    exact .cons _ _ (.cons _ _ (.cons _ _ (.cons _ _ .nil)))
  · rcases List.mem_append.mp hp with hp | hp
    · exact hne p hp
    · rw [List.mem_singleton.mp hp]; exact n1
theorem LJ_sub {rls tups tps : List (Addr × Obj)} {T c1 c2 a1 a2 a3 a4 a5 a6 a7 x : Addr × Obj} (hx : x ∈ a1 :: a2 :: a3 :: a4 :: a5 :: a6 :: a7 :: (rls ++ (tups ++ (tps ++ [T])))) : x ∈ T :: c1 :: c2 :: a1 :: a2 :: a3 :: a4 :: a5 :: a6 :: a7 :: (rls ++ (tups ++ tps)) := by
  simp only [List.mem_cons, List.mem_append, List.not_mem_nil, or_false] at hx ⊢
  rcases hx with h | h | h | h | h | h | h | h | h | h | h <;> simp only [h, true_or, or_true]
theorem LJ_off {rls tups tps : List (Addr × Obj)} {T a3 a4 a5 a6 : Addr × Obj} {cA I : Addr} {o o' : Obj} (h : ∀ q ∈ (cA, o) :: a3 :: a4 :: a5 :: a6 :: (rls ++ (tups ++ tps)), q.1 ≠ I) (hT : @Ne Nat T.1 I) : ∀ q ∈ (cA, o') :: a3 :: a4 :: a5 :: a6 :: (rls ++ (tups ++ (tps ++ [T]))), q.1 ≠ I := fun q hq => by
  rcases List.mem_cons.mp hq with rfl | hq
  · exact h (cA, o) (.head _)
  rcases List.mem_append.mp (show q ∈ ([a3, a4, a5, a6] ++ (rls ++ (tups ++ tps))) ++ [T] by simpa [List.append_assoc] using hq) with hq | hq
  · exact h q (.tail _ hq)
  · rw [List.mem_singleton.mp hq]; exact hT
end Mine
namespace Mine
open PySem PySem.W PyProof.Rows PySem.Calls
theorem LJ.row {cA : Addr} {fix rls tups led : List (Addr × Obj)} {RS CS : List Int} {qs : List Qd} {k m : Nat} (h : LJ cA fix rls tups RS CS qs k m led) (hm : ∀ x ∈ qs, x.2.1 < m) : LJ cA fix rls tups RS CS qs (k + 1) 0 led := by
  obtain ⟨cl, cc, dn, tps, e, hT, hC, hne⟩ := h
  exact ⟨cl, cc, dn, tps, e, hT, hC.row hm, hne⟩
def CellsOut (ps : List Pt) (v : Value) (led : List (Addr × Obj)) : Prop :=
  ∃ D out rows' c, v = .ref D ∧ (D, listOf (List.toArray out) c) ∈ led ∧ Tups noH led out rows' ∧ rows'.Perm (ps.map prow) ∧ rows'.Pairwise fun a b => codeOf a ≤ codeOf b
end Mine
end LCa_part
section CTa_part
open PySem PySem.W PyProof.Rows PySem.Calls
namespace Mine
theorem Tups.nil0 {h₀ : Heap} {held : List (Addr × Obj)} : Tups h₀ held [] [] := ⟨rfl, fun i hi => absurd hi (Nat.not_lt_zero i)⟩
theorem Tups.cons0 {h₀ : Heap} {held : List (Addr × Obj)} {v : Value} {r : List Int} {vs : List Value} {rows : List (List Int)} (x : TupN h₀ held v r) (h : Tups h₀ held vs rows) : Tups h₀ held (v :: vs) (r :: rows) :=
  ⟨by simp [h.1], fun i hi => by
    cases i with
    | zero => exact x
    | succ i => exact h.2 i (by simpa using hi)⟩
theorem tupN4 {held : List (Addr × Obj)} {D : Addr} {o : Obj} {a b c d : Int} {u1 u2 u3 u4 : Tok} {n : Nat} (hm : (D, o) ∈ held) (hc : o.cls = .type "tuple") (hd : o.data = .seq #[.int a u1, .int b u2, .int c u3, .int d u4] n) : TupN noH held (.ref D) [a, b, c, d] :=
  ⟨D, _, rfl, .inr ⟨o, hm, hc, n, hd⟩, .cons _ _ (.cons _ _ (.cons _ _ (.cons _ _ .nil)))⟩
def cutP (p : Pt) (kd nm : Int) : List Pt :=
  if kd = 0 ∧ 3 < p.2.2.2 - p.2.1 then
    [(p.1, p.2.1, p.2.2.1, p.2.1 + 2 + nm.fmod (p.2.2.2 - p.2.1 - 3)), (p.1, p.2.1 + 2 + nm.fmod (p.2.2.2 - p.2.1 - 3), p.2.2.1, p.2.2.2)]
  else if kd = 1 ∧ 3 < p.2.2.1 - p.1 then
    [(p.1, p.2.1, p.1 + 2 + nm.fmod (p.2.2.1 - p.1 - 3), p.2.2.2), (p.1 + 2 + nm.fmod (p.2.2.1 - p.1 - 3), p.2.1, p.2.2.1, p.2.2.2)]
  else if kd = 2 ∧ 5 < p.2.2.2 - p.2.1 ∧ 5 < p.2.2.1 - p.1 then
    [(p.1, p.2.1, p.1 + 2 + (nm.fdiv 16).fmod (p.2.2.1 - p.1 - 5), p.2.1 + 2 + nm.fmod (p.2.2.2 - p.2.1 - 5) + 2 + (nm.fdiv 8).fmod (p.2.2.2 - (p.2.1 + 2 + nm.fmod (p.2.2.2 - p.2.1 - 5)) - 3)),
     (p.1, p.2.1 + 2 + nm.fmod (p.2.2.2 - p.2.1 - 5) + 2 + (nm.fdiv 8).fmod (p.2.2.2 - (p.2.1 + 2 + nm.fmod (p.2.2.2 - p.2.1 - 5)) - 3), p.1 + 2 + (nm.fdiv 16).fmod (p.2.2.1 - p.1 - 5) + 2 + (nm.fdiv 32).fmod (p.2.2.1 - (p.1 + 2 + (nm.fdiv 16).fmod (p.2.2.1 - p.1 - 5)) - 3), p.2.2.2),
     (p.1 + 2 + (nm.fdiv 16).fmod (p.2.2.1 - p.1 - 5) + 2 + (nm.fdiv 32).fmod (p.2.2.1 - (p.1 + 2 + (nm.fdiv 16).fmod (p.2.2.1 - p.1 - 5)) - 3), p.2.1 + 2 + nm.fmod (p.2.2.2 - p.2.1 - 5), p.2.2.1, p.2.2.2),
     (p.1 + 2 + (nm.fdiv 16).fmod (p.2.2.1 - p.1 - 5), p.2.1, p.2.2.1, p.2.1 + 2 + nm.fmod (p.2.2.2 - p.2.1 - 5)),
     (p.1 + 2 + (nm.fdiv 16).fmod (p.2.2.1 - p.1 - 5), p.2.1 + 2 + nm.fmod (p.2.2.2 - p.2.1 - 5), p.1 + 2 + (nm.fdiv 16).fmod (p.2.2.1 - p.1 - 5) + 2 + (nm.fdiv 32).fmod (p.2.2.1 - (p.1 + 2 + (nm.fdiv 16).fmod (p.2.2.1 - p.1 - 5)) - 3), p.2.1 + 2 + nm.fmod (p.2.2.2 - p.2.1 - 5) + 2 + (nm.fdiv 8).fmod (p.2.2.2 - (p.2.1 + 2 + nm.fmod (p.2.2.2 - p.2.1 - 5)) - 3))]
  else [p]
theorem fmod_in {a b : Int} (hb : 0 < b) : 0 ≤ a.fmod b ∧ a.fmod b < b := ⟨Int.fmod_nonneg_of_pos a hb, Int.fmod_lt_of_pos a hb⟩
def CutOut (pa : Addr) (oT : Obj) (ps : List Pt) (v : Value) (led : List (Addr × Obj)) : Prop :=
  ∃ D out c, v = .ref D ∧ (D, listOf (List.toArray out) c) ∈ led ∧ Tups noH ((pa, oT) :: led) out (ps.map prow)
theorem CutOut.of {pa : Addr} {oT : Obj} {ps qs : List Pt} {v : Value} {led : List (Addr × Obj)} (e : qs = ps) (h : CutOut pa oT ps v led) : CutOut pa oT qs v led := e ▸ h
theorem cutP_0 {t l b r kd nm : Int} (h : kd = 0) (h1 : 3 < r - l) : cutP (t, l, b, r) kd nm = [(t, l, b, l + 2 + nm.fmod (r - l - 3)), (t, l + 2 + nm.fmod (r - l - 3), b, r)] := if_pos ⟨h, h1⟩
theorem cutP_1 {t l b r kd nm : Int} (h : kd = 1) (h1 : 3 < b - t) : cutP (t, l, b, r) kd nm = [(t, l, t + 2 + nm.fmod (b - t - 3), r), (t + 2 + nm.fmod (b - t - 3), l, b, r)] := (if_neg (fun x => by omega)).trans (if_pos ⟨h, h1⟩)
theorem cutP_2 {t l b r kd nm : Int} (h : kd = 2) (h1 : 5 < r - l) (h2 : 5 < b - t) : cutP (t, l, b, r) kd nm =
    [(t, l, t + 2 + (nm.fdiv 16).fmod (b - t - 5), l + 2 + nm.fmod (r - l - 5) + 2 + (nm.fdiv 8).fmod (r - (l + 2 + nm.fmod (r - l - 5)) - 3)),
     (t, l + 2 + nm.fmod (r - l - 5) + 2 + (nm.fdiv 8).fmod (r - (l + 2 + nm.fmod (r - l - 5)) - 3), t + 2 + (nm.fdiv 16).fmod (b - t - 5) + 2 + (nm.fdiv 32).fmod (b - (t + 2 + (nm.fdiv 16).fmod (b - t - 5)) - 3), r),
     (t + 2 + (nm.fdiv 16).fmod (b - t - 5) + 2 + (nm.fdiv 32).fmod (b - (t + 2 + (nm.fdiv 16).fmod (b - t - 5)) - 3), l + 2 + nm.fmod (r - l - 5), b, r),
     (t + 2 + (nm.fdiv 16).fmod (b - t - 5), l, b, l + 2 + nm.fmod (r - l - 5)),
     (t + 2 + (nm.fdiv 16).fmod (b - t - 5), l + 2 + nm.fmod (r - l - 5), t + 2 + (nm.fdiv 16).fmod (b - t - 5) + 2 + (nm.fdiv 32).fmod (b - (t + 2 + (nm.fdiv 16).fmod (b - t - 5)) - 3), l + 2 + nm.fmod (r - l - 5) + 2 + (nm.fdiv 8).fmod (r - (l + 2 + nm.fmod (r - l - 5)) - 3))] :=
  (if_neg (fun x => by omega)).trans ((if_neg (fun x => by omega)).trans (if_pos ⟨h, h1, h2⟩))
theorem cutP_n {t l b r kd nm : Int} (h0 : ¬ (kd = 0 ∧ 3 < r - l)) (h1 : ¬ (kd = 1 ∧ 3 < b - t)) (h2 : ¬ (kd = 2 ∧ 5 < r - l ∧ 5 < b - t)) : cutP (t, l, b, r) kd nm = [(t, l, b, r)] := (if_neg h0).trans ((if_neg h1).trans (if_neg h2))
end Mine
end CTa_part
section DRa_part
open PySem PySem.W PyProof.Rows PySem.Calls
namespace Mine
structure SigR (wd : Nat) (f : Nat → Nat → Nat) (n : Nat) (ys : List Value) (rls : List (Addr × Obj)) : Prop where
  refs : ys = rls.map fun q => .ref q.1
  len : rls.length = n
  obj : ∀ (i : Nat) (q : Addr × Obj), rls[i]? = some q → ∃ vals c, q.2 = listOf (List.toArray vals) c ∧ vals.length = wd ∧ ∀ j, j < wd → ∃ t, vals[j]? = some (.str (chr (f i j)) t)
  nd : rls.Pairwise fun p q => @Ne Nat p.1 q.1
theorem SigR.nil {wd : Nat} {f : Nat → Nat → Nat} : SigR wd f 0 [] [] := ⟨rfl, rfl, (fun _ _ h => by simp at h), List.Pairwise.nil⟩
theorem SigR.snoc {wd n c : Nat} {f : Nat → Nat → Nat} {ys : List Value} {rls : List (Addr × Obj)} {vals : List Value} (h : SigR wd f n ys rls) {D : Nat} (hD : ∀ q ∈ rls, @LT.lt Nat _ q.1 D) (hl : vals.length = wd) (hv : ∀ j, j < wd → ∃ t, vals[j]? = some (.str (chr (f n j)) t)) : SigR wd f (n + 1) (ys ++ [.ref D]) (rls ++ [(D, listOf (List.toArray vals) c)]) := by
  refine ⟨by rw [h.refs, List.map_append]; rfl, by simp [h.len], fun i q hq => ?_, ?_⟩
  · by_cases e : i < rls.length
    · rw [List.getElem?_append_left e] at hq
      exact h.obj i q hq
    · have hi := (List.getElem?_eq_some_iff.mp hq).1
      rw [List.length_append, List.length_singleton] at hi
      have : i = rls.length := by omega
      subst this
      rw [List.getElem?_append_right (Nat.le_refl _), Nat.sub_self] at hq
      obtain rfl := Option.some.inj hq
      exact ⟨vals, c, rfl, hl, by rw [h.len]; exact hv⟩
  · rw [List.pairwise_append]
    refine ⟨h.nd, by simp, fun a ha b hb => ?_⟩
    rw [List.mem_singleton.mp hb]
    exact Nat.ne_of_lt (hD a ha)
theorem SigR.congr {wd n : Nat} {f f' : Nat → Nat → Nat} {ys : List Value} {rls : List (Addr × Obj)} (h : SigR wd f n ys rls) (e : ∀ i j, i < n → j < wd → f i j = f' i j) : SigR wd f' n ys rls :=
  ⟨h.refs, h.len, fun i q hq => by
    obtain ⟨vals, c, e1, e2, e3⟩ := h.obj i q hq
    have hi := (List.getElem?_eq_some_iff.mp hq).1
    rw [h.len] at hi
    exact ⟨vals, c, e1, e2, fun j hj => by rw [← e i j hi hj]; exact e3 j hj⟩, h.nd⟩
def setF (f : Nat → Nat → Nat) (a k c : Nat) : Nat → Nat → Nat := fun i j => if i = a ∧ j = k then c else f i j
theorem SigR.set {wd n : Nat} {f : Nat → Nat → Nat} {ys : List Value} {rls : List (Addr × Obj)} (h : SigR wd f n ys rls) {a k c c' : Nat} {ra : Addr} {vals : List Value} {t : Tok} (hr : rls[a]? = some (ra, listOf (List.toArray vals) c')) :
    SigR wd (setF f a k c) n ys (rls.set a (ra, listOf (List.toArray (vals.set k (.str (chr c) t))) c')) := by
  obtain ⟨hx, hx'⟩ := List.getElem?_eq_some_iff.mp hr
  have hmap : (rls.set a (ra, listOf (List.toArray (vals.set k (.str (chr c) t))) c')).map (·.1) = rls.map (·.1) := by
    rw [List.map_set]
    refine List.ext_getElem? fun i => ?_
    by_cases e : a = i
    · subst e; rw [List.getElem?_set_self (by simpa using hx), List.getElem?_map, hr]; rfl
    · rw [List.getElem?_set_ne e]
  refine ⟨?_, by rw [List.length_set]; exact h.len, fun i q hq => ?_, ?_⟩
  · have : ∀ l : List (Addr × Obj), (l.map fun q => Value.ref q.1) = (l.map (·.1)).map Value.ref := fun l => by rw [List.map_map]; rfl
    rw [h.refs, this, this, hmap]
  · by_cases e : a = i
    · subst e
      rw [List.getElem?_set_self hx] at hq
      obtain rfl := Option.some.inj hq
      obtain ⟨vals', c2, e1, e2, e3⟩ := h.obj _ _ hr
      have ev : vals = vals' := by
        simp only [W.listOf, Obj.mk.injEq, Data.seq.injEq] at e1
        have := congrArg Array.toList e1.2.2.1.1
        simpa using this
      subst ev
      refine ⟨_, c', rfl, by rw [List.length_set]; exact e2, fun j hj => ?_⟩
      by_cases ek : k = j
      · subst ek
        exact ⟨t, by rw [List.getElem?_set_self (by omega)]; unfold setF; rw [if_pos ⟨rfl, rfl⟩]⟩
      · rw [List.getElem?_set_ne ek]
        unfold setF
        rw [if_neg fun x => ek x.2.symm]
        exact e3 j hj
    · rw [List.getElem?_set_ne e] at hq
      obtain ⟨vals', c2, e1, e2, e3⟩ := h.obj _ _ hq
      refine ⟨vals', c2, e1, e2, fun j hj => ?_⟩
      unfold setF
      rw [if_neg fun x => e x.1.symm]
      exact e3 j hj
  · have : ∀ l : List (Addr × Obj), l.Pairwise (fun p q => @Ne Nat p.1 q.1) ↔ (l.map (·.1)).Pairwise (fun p q => @Ne Nat p q) := fun l => by rw [List.pairwise_map]
    rw [this, hmap, ← this]
    exact h.nd
theorem SigR.row {wd n : Nat} {f : Nat → Nat → Nat} {ys : List Value} {rls : List (Addr × Obj)} (h : SigR wd f n ys rls) {a : Int} (h0 : 0 ≤ a) (ha : a < n) : ∃ ra vals c, rls[a.toNat]? = some (ra, listOf (List.toArray vals) c) ∧ ys.toArray[a.toNat]? = some (.ref ra) ∧ vals.length = wd ∧ (ra, listOf (List.toArray vals) c) ∈ rls ∧ ∀ j, j < wd → ∃ t, vals[j]? = some (.str (chr (f a.toNat j)) t) := by
  have hl := h.len
  obtain ⟨ra, oa, hroa⟩ : ∃ ra oa, rls[a.toNat]? = some (ra, oa) := ⟨_, _, List.getElem?_eq_getElem (show a.toNat < rls.length by omega)⟩
  obtain ⟨vals, c, e1, e2, e3⟩ := h.obj _ _ hroa
  dsimp only at e1
  subst e1
  refine ⟨ra, vals, c, hroa, ?_, e2, List.mem_of_getElem? hroa, e3⟩
  have : ys[a.toNat]? = some (.ref ra) := by rw [h.refs, List.getElem?_map, hroa]; rfl
  simpa using this
theorem SigR.addr {wd n : Nat} {f f' : Nat → Nat → Nat} {ys : List Value} {rls rls' : List (Addr × Obj)} (h : SigR wd f n ys rls) (h' : SigR wd f' n ys rls') : ∀ p ∈ rls', ∃ p' ∈ rls, p'.1 = p.1 := fun p hp => by
  have e : rls.map (·.1) = rls'.map (·.1) := by
    have h1 : (rls.map fun q => Value.ref q.1) = rls'.map fun q => Value.ref q.1 := h.refs.symm.trans h'.refs
    have inj : ∀ {l l' : List (Addr × Obj)}, (l.map fun q => Value.ref q.1) = (l'.map fun q => Value.ref q.1) → l.map (·.1) = l'.map (·.1) := by
      intro l
      induction l with
      | nil => intro l' e; cases l' with
        | nil => rfl
        | cons _ _ => simp at e
      | cons x l ih => intro l' e; cases l' with
        | nil => simp at e
        | cons y l' =>
          simp only [List.map_cons, List.cons.injEq, Value.ref.injEq] at e
          simp only [List.map_cons, e.1, ih e.2]
    exact inj h1
  have : p.1 ∈ rls.map (·.1) := by rw [e]; exact List.mem_map_of_mem hp
  obtain ⟨p', hp', ep⟩ := List.mem_map.mp this
  exact ⟨p', hp', ep⟩
theorem rep_blank {wd : Nat} {t : Tok} : ∀ j, j < wd → ∃ t', (List.replicate wd (Value.str (Str.ofString " ") t))[j]? = some (.str (chr 32) t') := fun j hj => ⟨t, by rw [List.getElem?_replicate, if_pos hj, lit_blank]⟩
theorem dr_row {g h' : Heap} {L : Addr} {m : Str → Option Value} {s₁ : Shared} {tk : Nat} {I' C DD X a1 a2 : Addr} {jk : Addr × Obj} {ob oC oD p1 p2 : Obj} {rls : List (Addr × Obj)} {ys : List Value} {i c wd : Nat} {t : Tok}
    (F : Fr g L h' m) (N : News g L h' ((X, listOf (List.toArray (List.replicate wd (Value.str (Str.ofString " ") t))) c) :: jk :: (I', ob) :: (C, oC) :: (DD, oD) :: (a1, p1) :: (a2, p2) :: rls))
    (l1 : @LT.lt Nat _ I' X) (l2 : @LT.lt Nat _ C X) (l3 : @LT.lt Nat _ DD X) (l4 : @LT.lt Nat _ a1 X) (l5 : @LT.lt Nat _ a2 X) (l6 : AllLt X rls)
    (hoff : ∀ q ∈ (a1, p1) :: (a2, p2) :: rls, @Ne Nat q.1 I' ∧ @Ne Nat q.1 C ∧ @Ne Nat q.1 DD) (hS : SigR wd (fun _ _ => 32) i ys rls) (ho : ∀ p ∈ rls, @Ne Nat a1 p.1 ∧ @Ne Nat a2 p.1) :
    CEnd g L m s₁ [(I', ob), (C, oC), (DD, oD)] [I', C, DD] (fun y news' => ∃ rls, news' = (a1, p1) :: (a2, p2) :: rls ∧ SigR wd (fun _ _ => 32) (i + 1) (ys ++ [y]) rls ∧ ∀ p ∈ rls, @Ne Nat a1 p.1 ∧ @Ne Nat a2 p.1) (.ref X) { s₁ with heap := h', toks := tk } := by
  refine CEnd.intro F (news' := (a1, p1) :: (a2, p2) :: (rls ++ [(X, listOf (List.toArray (List.replicate wd (Value.str (Str.ofString " ") t))) c)])) (news_sub N fun q hq => ?_) (fun q hq => ?_) ⟨rls ++ [(X, _)], rfl, hS.snoc (fun q hq => allLt_to l6 q hq) List.length_replicate rep_blank, fun p hp => ?_⟩
  · have hq' : q ∈ ((I', ob) :: (C, oC) :: (DD, oD) :: (a1, p1) :: (a2, p2) :: rls) ++ [(X, listOf (List.toArray (List.replicate wd (Value.str (Str.ofString " ") t))) c)] := hq
    rcases List.mem_append.mp hq' with hq | hq
    · exact .tail _ (.tail _ hq)
    · rw [List.mem_singleton.mp hq]; exact .head _
  · have hq' : q ∈ ((a1, p1) :: (a2, p2) :: rls) ++ [(X, listOf (List.toArray (List.replicate wd (Value.str (Str.ofString " ") t))) c)] := hq
    simp only [List.mem_cons, List.not_mem_nil, or_false, not_or]
    rcases List.mem_append.mp hq' with hq | hq
    · exact hoff q hq
    · rw [List.mem_singleton.mp hq]; exact ⟨Nat.ne_of_gt l1, Nat.ne_of_gt l2, Nat.ne_of_gt l3⟩
  · rcases List.mem_append.mp hp with hp | hp
    · exact ho p hp
    · rw [List.mem_singleton.mp hp]; exact ⟨Nat.ne_of_lt l4, Nat.ne_of_lt l5⟩
theorem set_sig {prog : Program} {w : World} {A : Around} {E : Value → Shared → Prop} {s : Shared} {h₀ : Heap} {L ra : Addr} {m : Str → Option Value} {hs rls : List (Addr × Obj)} {wd n : Nat} {f : Nat → Nat → Nat} {ys : List Value} {a kk : Int} {k c : Nat} {t tk : Tok} {st : Str} {Q : Unit → Shared → Prop}
    (F : Fr h₀ L s.heap m) (N : News h₀ L s.heap (hs ++ rls)) (hst : st = chr c) (hS : SigR wd f n ys rls) (hoff : ∀ p ∈ rls, ∀ q ∈ hs, @Ne Nat q.1 p.1) (h0 : 0 ≤ a) (ha : a < n) (hra : ys.toArray[a.toNat]? = some (.ref ra)) (hkk : kk = k) (hk : k < wd) (hw : wd ≤ 64)
    (h : ∀ h' rls', Fr h₀ L h' m → News h₀ L h' (hs ++ rls') → SigR wd (setF f a.toNat k c) n ys rls' → (∀ p ∈ rls', ∀ q ∈ hs, @Ne Nat q.1 p.1) → Q () { s with heap := h' }) : wpAny (model prog w) A (setItem (.ref ra) (.int kk tk) (.str st t)) Q E s := by
  subst hst
  subst hkk
  obtain ⟨ra', vals, c', hr, hy, hl, hm, _⟩ := hS.row h0 ha
  rw [hra] at hy
  obtain rfl := Value.ref.inj (Option.some.inj hy)
  refine set_row (hs := hs) (rls := rls) (tl := []) (a := a.toNat) F (by rw [List.append_nil]; exact N) hr (fun p hp => hoff _ hm p hp) (fun _ h => nomatch h) hS.nd (by omega) (by omega) fun h' F' N' => ?_
  rw [List.append_nil] at N'
  have hS' := hS.set (k := k) (c := c) (t := t) hr
  refine h h' _ F' N' hS' fun p hp q hq => ?_
  obtain ⟨p', hp', e⟩ := hS.addr hS' p hp
  rw [← e]; exact hoff p' hp' q hq
theorem tups_choose {g : Heap} {vs : List Value} {ps : List Pt} (h : Tups g [] vs (ps.map prow)) : ∃ (Ts : Nat → Addr) (vals : Nat → Array Value), ∀ i p, ps[i]? = some p → vs[i]? = some (.ref (Ts i)) ∧ g.IsTuple (Ts i) (vals i) ∧ ∃ u1 u2 u3 u4, vals i = #[.int p.1 u1, .int p.2.1 u2, .int p.2.2.1 u3, .int p.2.2.2 u4] := by
  have sk : ∀ i : Nat, ∃ z : Addr × Array Value, ∀ p, ps[i]? = some p → vs[i]? = some (.ref z.1) ∧ g.IsTuple z.1 z.2 ∧ ∃ u1 u2 u3 u4, z.2 = #[.int p.1 u1, .int p.2.1 u2, .int p.2.2.1 u3, .int p.2.2.2 u4] := fun i => by
    cases hq : ps[i]? with
    | none => exact ⟨(0, #[]), fun p h => by cases h⟩
    | some p =>
      have hi := (List.getElem?_eq_some_iff.mp hq).1
      obtain ⟨h1, h2⟩ := h
      rw [List.length_map] at h1
      obtain ⟨a, xs, e, ht, hI⟩ := h2 i (by rw [List.length_map]; exact hi)
      have er : (ps.map prow).getD i [] = prow p := by rw [List.getD_eq_getElem?_getD, List.getElem?_map, hq]; rfl
      rw [er] at hI
      have ht' : g.IsTuple a xs := ht.elim id fun ⟨o, hm, _⟩ => nomatch hm
      have ev : vs[i]? = some (.ref a) := by
        rw [List.getD_eq_getElem?_getD, List.getElem?_eq_getElem (by omega), Option.getD_some] at e
        rw [List.getElem?_eq_getElem (by omega), e]
      refine ⟨(a, xs), fun q h => ?_⟩
      obtain rfl := Option.some.inj h
      refine ⟨ev, ht', ?_⟩
      have : ∃ u1 u2 u3 u4, xs.toList = [.int p.1 u1, .int p.2.1 u2, .int p.2.2.1 u3, .int p.2.2.2 u4] := by
        generalize xs.toList = zs at hI
        unfold prow at hI
        cases hI with
        | cons _ u1 hI =>
          cases hI with
          | cons _ u2 hI =>
            cases hI with
            | cons _ u3 hI =>
              cases hI with
              | cons _ u4 hI =>
                cases hI with
                | nil => exact ⟨u1, u2, u3, u4, rfl⟩
      obtain ⟨u1, u2, u3, u4, e⟩ := this
      exact ⟨u1, u2, u3, u4, by rw [← Array.toArray_toList (xs := xs), e]⟩
  obtain ⟨z, hz⟩ := Classical.skolem.mp sk
  exact ⟨fun i => (z i).1, fun i => (z i).2, fun i q hq => hz i q hq⟩
def f1 (qs : List Pt) : Nat → Nat → Nat := fun i j => if qs.any (horP · i j) then 45 else 32
def f2 (ps qs : List Pt) : Nat → Nat → Nat := fun i j => if qs.any (vertP · i j) then 124 else f1 ps i j
def f3 (ps qs : List Pt) : Nat → Nat → Nat := fun i j => if qs.any (cornP · i j) then 43 else f2 ps ps i j
theorem f3_sgn (ps : List Pt) (i j : Nat) : f3 ps ps i j = sgn ps i j := rfl
def g1 (ps qs : List Pt) (p : Pt) (m : Nat) : Nat → Nat → Nat := fun i j => if ((i : Int) = p.1 ∨ (i : Int) = p.2.2.1) ∧ p.2.1 ≤ j ∧ (j : Int) < p.2.1 + m then 45 else f1 qs i j
def g2 (ps qs : List Pt) (p : Pt) (m : Nat) : Nat → Nat → Nat := fun i j => if ((j : Int) = p.2.1 ∨ (j : Int) = p.2.2.2) ∧ p.1 ≤ i ∧ (i : Int) < p.1 + m then 124 else f2 ps qs i j
theorem g1_0 {ps qs : List Pt} {p : Pt} (i j : Nat) : f1 qs i j = g1 ps qs p 0 i j := by unfold g1; rw [if_neg (by omega)]
theorem g2_0 {ps qs : List Pt} {p : Pt} (i j : Nat) : f2 ps qs i j = g2 ps qs p 0 i j := by unfold g2; rw [if_neg (by omega)]
theorem g1_step {ps qs : List Pt} {p : Pt} {m : Nat} (h0 : 0 ≤ p.1) (h1 : 0 ≤ p.2.2.1) (h2 : 0 ≤ p.2.1) (i j : Nat) : setF (setF (g1 ps qs p m) p.1.toNat (p.2.1 + m).toNat 45) p.2.2.1.toNat (p.2.1 + m).toNat 45 i j = g1 ps qs p (m + 1) i j := by
  unfold setF g1
  by_cases c1 : i = p.2.2.1.toNat ∧ j = (p.2.1 + m).toNat
  · rw [if_pos c1, if_pos (by omega)]
  · rw [if_neg c1]
    by_cases c2 : i = p.1.toNat ∧ j = (p.2.1 + m).toNat
    · rw [if_pos c2, if_pos (by omega)]
    · rw [if_neg c2]
      by_cases c3 : ((i : Int) = p.1 ∨ (i : Int) = p.2.2.1) ∧ p.2.1 ≤ j ∧ (j : Int) < p.2.1 + m
      · rw [if_pos c3, if_pos (by omega)]
      · rw [if_neg c3, if_neg (by omega)]
theorem g2_step {ps qs : List Pt} {p : Pt} {m : Nat} (h0 : 0 ≤ p.1) (h1 : 0 ≤ p.2.2.2) (h2 : 0 ≤ p.2.1) (i j : Nat) : setF (setF (g2 ps qs p m) (p.1 + m).toNat p.2.1.toNat 124) (p.1 + m).toNat p.2.2.2.toNat 124 i j = g2 ps qs p (m + 1) i j := by
  unfold setF g2
  by_cases c1 : i = (p.1 + m).toNat ∧ j = p.2.2.2.toNat
  · rw [if_pos c1, if_pos (by omega)]
  · rw [if_neg c1]
    by_cases c2 : i = (p.1 + m).toNat ∧ j = p.2.1.toNat
    · rw [if_pos c2, if_pos (by omega)]
    · rw [if_neg c2]
      by_cases c3 : ((j : Int) = p.2.1 ∨ (j : Int) = p.2.2.2) ∧ p.1 ≤ i ∧ (i : Int) < p.1 + m
      · rw [if_pos c3, if_pos (by omega)]
      · rw [if_neg c3, if_neg (by omega)]
theorem g1_end {ps qs : List Pt} {p : Pt} (h : p.2.1 ≤ p.2.2.2) (i j : Nat) : g1 ps qs p (p.2.2.2 - p.2.1).toNat i j = f1 (qs ++ [p]) i j := by
  unfold g1 f1
  rw [List.any_append, List.any_cons, List.any_nil, Bool.or_false]
  by_cases c : ((i : Int) = p.1 ∨ (i : Int) = p.2.2.1) ∧ p.2.1 ≤ j ∧ (j : Int) < p.2.1 + ((p.2.2.2 - p.2.1).toNat : Nat)
  · rw [if_pos c, if_pos]
    rw [show horP p i j = true from horP_iff.mpr (by omega), Bool.or_true]
  · rw [if_neg c]
    rw [show horP p i j = false by rw [Bool.eq_false_iff]; intro h'; have := horP_iff.mp h'; omega, Bool.or_false]
theorem g2_end {ps qs : List Pt} {p : Pt} (h : p.1 ≤ p.2.2.1) (i j : Nat) : g2 ps qs p (p.2.2.1 - p.1).toNat i j = f2 ps (qs ++ [p]) i j := by
  unfold g2 f2
  rw [List.any_append, List.any_cons, List.any_nil, Bool.or_false]
  by_cases c : ((j : Int) = p.2.1 ∨ (j : Int) = p.2.2.2) ∧ p.1 ≤ i ∧ (i : Int) < p.1 + ((p.2.2.1 - p.1).toNat : Nat)
  · rw [if_pos c, if_pos]
    rw [show vertP p i j = true from vertP_iff.mpr (by omega), Bool.or_true]
  · rw [if_neg c]
    rw [show vertP p i j = false by rw [Bool.eq_false_iff]; intro h'; have := vertP_iff.mp h'; omega, Bool.or_false]
theorem g3_end {ps qs : List Pt} {p : Pt} (h0 : 0 ≤ p.1) (h1 : 0 ≤ p.2.2.1) (h2 : 0 ≤ p.2.1) (h3 : 0 ≤ p.2.2.2) (i j : Nat) : setF (setF (setF (setF (f3 ps qs) p.1.toNat p.2.1.toNat 43) p.1.toNat p.2.2.2.toNat 43) p.2.2.1.toNat p.2.1.toNat 43) p.2.2.1.toNat p.2.2.2.toNat 43 i j = f3 ps (qs ++ [p]) i j := by
  unfold setF f3
  rw [List.any_append, List.any_cons, List.any_nil, Bool.or_false]
  by_cases c : cornP p i j = true
  · have := cornP_iff.mp c
    rw [c, Bool.or_true, if_pos rfl]
    by_cases c1 : i = p.2.2.1.toNat ∧ j = p.2.2.2.toNat
    · rw [if_pos c1]
    · rw [if_neg c1]
      by_cases c2 : i = p.2.2.1.toNat ∧ j = p.2.1.toNat
      · rw [if_pos c2]
      · rw [if_neg c2]
        by_cases c3 : i = p.1.toNat ∧ j = p.2.2.2.toNat
        · rw [if_pos c3]
        · rw [if_neg c3, if_pos (by omega)]
  · have hn : ¬ (((i : Int) = p.1 ∨ (i : Int) = p.2.2.1) ∧ ((j : Int) = p.2.1 ∨ (j : Int) = p.2.2.2)) := fun h => c (cornP_iff.mpr h)
    rw [if_neg (by omega), if_neg (by omega), if_neg (by omega), if_neg (by omega), show cornP p i j = false by simpa using c, Bool.or_false]
def rowG (ps : List Pt) (i : Nat) : List Nat := (List.range 17).map fun (j : Nat) => sgn ps (i : Int) (j : Int)
def drawnG (ps : List Pt) : List (List Nat) := (List.range 9).map (rowG ps)
theorem SigR.strs {wd n : Nat} {f : Nat → Nat → Nat} {ys : List Value} {rls : List (Addr × Obj)} (h : SigR wd f n ys rls) {a : Nat} (ha : a < n) : ∃ ra vals c, ys.toArray[((a : Nat) : Int).toNat]? = some (.ref ra) ∧ (ra, listOf (List.toArray vals) c) ∈ rls ∧ StrsAre vals (((List.range wd).map (f a)).map chr) := by
  obtain ⟨ra, vals, c, h1, h2, h3, h4, h5⟩ := h.row (a := a) (by omega) (by omega)
  refine ⟨ra, vals, c, h2, h4, kdy_strs (by simp [h3]) fun j v hv => ?_⟩
  have hj : j < wd := by have := (List.getElem?_eq_some_iff.mp hv).1; omega
  obtain ⟨t, ht⟩ := h5 j hj
  rw [ht] at hv
  obtain rfl := Option.some.inj hv
  exact ⟨chr (f a j), by rw [List.getElem?_map, List.getElem?_map, List.getElem?_range hj]; rfl, t, rfl⟩
theorem join_fold (l : List Nat) : ∀ acc : Array Nat, (l.map chr).foldl (fun a p => a ++ (Str.ofString "").cps ++ p.cps) acc = acc ++ l.toArray := by
  induction l with
  | nil => intro acc; simp
  | cons c l ih =>
    intro acc
    have e : (Str.ofString "").cps = #[] := by decide
    rw [List.map_cons, List.foldl_cons, ih, e]
    apply Array.ext'
    simp [chr, tx]
theorem join_chr (l : List Nat) : Txt.join (Str.ofString "") (l.map chr) = tx l := by
  cases l with
  | nil => decide
  | cons c l =>
    show PySem.Builtin.Str.glued (Str.ofString "") ((c :: l).map chr) = tx (c :: l)
    unfold PySem.Builtin.Str.glued tx
    rw [List.map_cons, List.drop_succ_cons, List.drop_zero, List.headD_cons, join_fold]
    congr 1
    apply Array.ext'
    simp [chr, tx]
theorem chrs_fit (l : List Nat) (h : l.length ≤ 64) : ((l.map chr).map (·.length)).sum + (l.map chr).length * (Str.ofString "").length ≤ 16777216 := by
  have e : (Str.ofString "").length = 0 := by decide
  have : ((l.map chr).map (·.length)).sum = l.length := by
    clear h
    induction l with
    | nil => rfl
    | cons c l ih =>
      have e1 : (chr c).length = 1 := rfl
      rw [List.map_cons, List.map_cons, List.sum_cons, ih, e1, List.length_cons]; omega
  rw [this, e]; omega
def RowsOut (G : List (List Nat)) (v : Value) (led : List (Addr × Obj)) : Prop :=
  ∃ D out c, v = .ref D ∧ (D, listOf (List.toArray out) c) ∈ led ∧ StrsAre out (G.map tx)
end Mine
end DRa_part
section ENa_part
open PySem PySem.W PyProof.Rows PySem.Calls
namespace Mine
def inHor (c : Nat) : Bool := decide (c = 45 ∨ c = 43)
def inVert (c : Nat) : Bool := decide (c = 124 ∨ c = 43)
def armsG (G : List (List Nat)) (W : Nat) (k m : Nat) : List Bool :=
  [if m ≠ 0 then inHor (gch G k ((m : Int) - 1)) else false, if m + 1 < W then inHor (gch G k ((m : Int) + 1)) else false,
   if k ≠ 0 then inVert (gch G ((k : Int) - 1) m) else false, if k + 1 < G.length then inVert (gch G ((k : Int) + 1) m) else false]
def endsAt (G : List (List Nat)) (W n : Nat) (k m : Nat) : Int := if gch G k m = 43 ∧ (armsG G W k m).count true = n then 1 else 0
def endsOf (G : List (List Nat)) (W n : Nat) : Int := sumR G.length fun k => sumR W fun m => endsAt G W n k m
theorem two_of {u : Str → Option Value} {a b : Int} {t1 t2 : Tok} (h1 : u "three" = some (.int a t1)) (h2 : u "four" = some (.int b t2)) :
    ∃ u' : Str → Option Value, u = fun y => if y = Str.ofString "three" then some (.int a t1) else if y = Str.ofString "four" then some (.int b t2) else u' y := ⟨u, by
  funext y
  by_cases e : y = Str.ofString "three"
  · rw [if_pos e, e]; exact h1
  · rw [if_neg e]
    by_cases e2 : y = Str.ofString "four"
    · rw [if_pos e2, e2]; exact h2
    · rw [if_neg e2]⟩
theorem if_mid {M : Model} {A : Around} {c : Sem Value} {Q : Value → Shared → Prop} {E : Value → Shared → Prop} {s : Shared} (P : Value → Prop) (h1 : wpAny M A c (fun v s' => P v ∧ ∃ tk, s' = { s with toks := tk }) E s) (h2 : ∀ v tk, P v → Q v { s with toks := tk }) : wpAny M A c Q E s :=
  wpAny_mono h1 (fun v s' ⟨h, tk, e⟩ => e ▸ h2 v tk h) fun _ _ e => e
def Sg (c : Nat) : Prop := c = 32 ∨ c = 43 ∨ c = 45 ∨ c = 124
theorem occ_hor {c : Nat} (h : Sg c) : (!(Builtin.Str.occurrences (Str.ofString "-+") (chr c) 0 (Str.ofString "-+").length 1).isEmpty) = inHor c := by
  rcases h with rfl | rfl | rfl | rfl <;> decide +kernel
theorem occ_vert {c : Nat} (h : Sg c) : (!(Builtin.Str.occurrences (Str.ofString "|+") (chr c) 0 (Str.ofString "|+").length 1).isEmpty) = inVert c := by
  rcases h with rfl | rfl | rfl | rfl <;> decide +kernel
theorem count_four {prog : Program} {w : World} {A : Around} {E : Value → Shared → Prop} {s : Shared} {l : Addr} {a b c d : Bool} {Q : Value → Shared → Prop} (hl : s.heap.IsList l #[.bool a, .bool b, .bool c, .bool d])
    (h : ∀ t k, Q (.int ([a, b, c, d].count true : Nat) t) { s with toks := k }) : wpAny (model prog w) A (call (.builtin "list.count") [.ref l, .bool true]) Q E s := by
  refine count_list_bools (vs := [.bool a, .bool b, .bool c, .bool d]) (xs := [.bool a, .bool b, .bool c, .bool d]) (as := []) (hp := s.heap) hl ?_ rfl ?_
  · exact .cons (as := []) (.bool a) (.cons (as := []) (.bool b) (.cons (as := []) (.bool c) (.cons (as := []) (.bool d) .nil)))
  · have : PySem.Spec.countIn (PyData.bool true) [.bool a, .bool b, .bool c, .bool d] = (([a, b, c, d].count true : Nat) : Int) := by
      cases a <;> cases b <;> cases c <;> cases d <;> rfl
    rw [this]
    exact h _ _
def IntIs (n : Int) (v : Value) : Prop := ∃ t, v = .int n t
theorem endsAt_plus {G : List (List Nat)} {W n k m : Nat} (h : gch G k m = 43) : endsAt G W n k m = if (armsG G W k m).count true = n then 1 else 0 := by
  unfold endsAt
  by_cases c : (armsG G W k m).count true = n
  · rw [if_pos ⟨h, c⟩, if_pos c]
  · rw [if_neg (fun x => c x.2), if_neg c]
theorem endsAt_none {G : List (List Nat)} {W n k m : Nat} (h : ¬ gch G k m = 43) : endsAt G W n k m = 0 := if_neg fun x => h x.1
end Mine
end ENa_part
section EN_part
open PySem PySem.W PyProof.Rows PySem.Calls
namespace Mine
local macro_rules | `(tactic| walk_at "zz0") => `(tactic| fail)
local macro_rules | `(tactic| walk_at "zz1") => `(tactic| fail)
local macro_rules | `(tactic| walk_at "zz2") => `(tactic| fail)
local macro_rules | `(tactic| walk_at "zz3") => `(tactic| fail)
local macro_rules | `(tactic| walk_at "zz4") => `(tactic| fail)
local macro_rules | `(tactic| walk_at "zz5") => `(tactic| fail)
local macro_rules | `(tactic| walk_at "zz6") => `(tactic| fail)
local macro_rules | `(tactic| walk_at "zz7") => `(tactic| fail)
local macro_rules | `(tactic| walk_at "zz8") => `(tactic| fail)
local macro_rules | `(tactic| walk_at "zz9") => `(tactic| fail)
local macro_rules | `(tactic| walk_at "zz10") => `(tactic| fail)
local macro_rules | `(tactic| walk_at "zz11") => `(tactic| fail)
local macro_rules | `(tactic| walk_at "zz12") => `(tactic| fail)
local macro_rules | `(tactic| walk_at "zz13") => `(tactic| fail)
local macro_rules | `(tactic| walk_at "zz14") => `(tactic| fail)
local macro_rules | `(tactic| walk_at "zz15") => `(tactic| fail)
local macro_rules | `(tactic| walk_at "zz16") => `(tactic| fail)
local macro_rules | `(tactic| walk_at "zz17") => `(tactic| fail)
local macro_rules | `(tactic| walk_at "zz18") => `(tactic| fail)
local macro_rules | `(tactic| walk_at "zz19") => `(tactic| fail)
local macro_rules | `(tactic| walk_at "zz20") => `(tactic| fail)
local macro_rules | `(tactic| walk_at "zz21") => `(tactic| fail)
local macro_rules | `(tactic| walk_at "zz22") => `(tactic| fail)
local macro_rules | `(tactic| walk_at "zz23") => `(tactic| fail)
local macro_rules | `(tactic| walk_at "zz24") => `(tactic| fail)
local macro_rules | `(tactic| walk_at "zz25") => `(tactic| fail)
local macro_rules | `(tactic| walk_at "zz26") => `(tactic| fail)
local macro_rules | `(tactic| walk_at "zz27") => `(tactic| fail)
local macro_rules | `(tactic| walk_at "zz28") => `(tactic| fail)
local macro_rules | `(tactic| walk_at "zz29") => `(tactic| fail)
local macro_rules | `(tactic| k_all) => `(tactic| assumption)
local macro_rules | `(tactic| walk_at "pyIter ref") => `(tactic| refine Hold.of ?_)
local macro_rules | `(tactic| walk_at "call ref") => `(tactic| refine Hold.of ?_)
local macro_rules | `(tactic| walk_at "exec For") => `(tactic| (with_unfolding_all refine' For_run ?_))
local macro_rules | `(tactic| walk_at "exec For Name Call cons nil") => `(tactic| (with_unfolding_all refine' For_run ?_))
local macro_rules | `(tactic| walk_at "exec For Tuple Call cons nil") => `(tactic| (with_unfolding_all refine' For_run ?_))
local macro_rules | `(tactic| walk_at "getAttr ref") => `(tactic| (k_dflt (refine' get_own ?k1 ?k2 (inst_up ?k3 (Fr.keep ?k1)) ?k4 ?k5 ?k6 ?k7 ?k8 ?k9 ?_; (case k1 => k_asm); (case k2 => k_asm); (case k3 => k_asm); (case k4 => k_is); (case k5 => k_is); (case k6 => k_is); (case k7 => k_is); (case k8 => k_asm); (case k9 => k_handed); k_whole)))
local macro_rules | `(tactic| walk_at "eval Name") => `(tactic| ((with_reducible show wpAny _ _ (eval _ (envOfC _ _ _ _ _)) _ _ _); k_dflt (refine' nameX_L ?F ?v ?_ ?a ?b ?d; (case F => k_asm); (case v => rfl); (case a => kernel_rfl); (case b => kernel_rfl); (case d => kernel_rfl); k_whole)))
local macro_rules | `(tactic| walk_at "eval Name") => `(tactic| ((with_reducible show wpAny _ _ (eval _ (envOf _ _ _ _ _)) _ _ _); k_dflt (refine' ld ?k1 ?k2 ?_ ?k3 ?k4 ?k5; (case k1 => k_asm); (case k2 => exact rfl); (case k3 => kernel_rfl); (case k4 => kernel_rfl); (case k5 => kernel_rfl); k_whole)))
local macro_rules | `(tactic| walk_at "Turned") => `(tactic| first | refine Turned.ret ?_ | refine Turned.brk ?_)
local macro_rules | `(tactic| walk_at "go") => `(tactic| repeat' (first | (k_unfold; (try dsimp only)) | walk1 | (dsimp only; walk1) | (dsimp only; k_unfold; (try dsimp only))))
local macro_rules | `(tactic| walk_at "kf") => `(tactic| ((with_reducible show wpAny _ _ _ _ _ _); k_fold))
local macro_rules | `(tactic| walk_at "locals") => `(tactic| (intro y h1 h2; simp only [List.mem_cons, List.not_mem_nil, or_false, not_or] at h1 h2; simp [h1, h2]))
local macro_rules | `(tactic| walk_at "eval ListComp") => `(tactic| (k_dflt (refine ListComp_runF (by k_asm) (by with_unfolding_all rfl) (by rfl) (by decide) ?_)))
local macro_rules | `(tactic| walk_at "exec Assign cons ListComp") => `(tactic| (k_dflt (refine Assign_ListComp_runF (by k_asm) (by with_unfolding_all rfl) (by with_unfolding_all rfl) (by rfl) (by decide) (by rfl) (by rfl) (by rfl) ?_)))
local macro_rules | `(tactic| walk_at "sub") => `(tactic| first | exact List.forall_mem_nil _ | refine List.forall_mem_cons.mpr ⟨by k_mem, by walk_at "sub"⟩)
local macro_rules | `(tactic| walk_at "hnd1") => `(tactic| first | exact apart_nil | refine apart_cons (by k_ne) (by walk_at "hnd1"))
local macro_rules | `(tactic| walk_at "hnd2") => `(tactic| first | exact Apart.nil | refine Apart.cons (by walk_at "hnd1") (by walk_at "hnd2"))
local macro_rules | `(tactic| walk_at "hnd") => `(tactic| exact Apart.nd (by walk_at "hnd2"))
local macro_rules | `(tactic| k_ne) => `(tactic| first | exact NE.out (by assumption) | exact NE.flip (by assumption) | (refine neN ?_; (try dsimp only); omega))
local macro_rules | `(tactic| walk_at "mem") => `(tactic| first | exact List.Mem.head _ | (refine List.Mem.tail _ ?_; walk_at "mem"))
local macro_rules | `(tactic| walk_at "lst") => `(tactic| first | exact lst_up (by assumption) (Fr.keep (by k_asm)) | exact lst_news (by k_asm) (by k_mem))
local macro_rules | `(tactic| walk_at "call builtin:len") => `(tactic| (k_dflt (refine' len_list ?l ?f ?_; (case l => walk_at "lst"); (case f => (rw [List.size_toArray]; omega)); k_whole); (try rw [List.size_toArray])))local macro_rules | `(tactic| walk_at "subscriptTail Name Name ref int") => `(tactic| (k_dflt (refine' GridAt.row ?F ?Y ?a ?b ?_; (case F => k_asm); (case Y => k_asm); (case a => omega); (case b => omega); k_whole); intro _))
local macro_rules | `(tactic| walk_at "subscriptTail Subscript Name Name Name str int") => `(tactic| (k_dflt (refine' GridAt.item ?Y ?a ?b ?c ?d ?_; (case Y => k_asm); (case a => omega); (case b => omega); (case c => omega); (case d => omega); k_whole); intro _ _))
local macro_rules | `(tactic| walk_at "compareOp Eq str str") => `(tactic| (refine eq_chrL (by first | exact lit_plus | exact lit_bar | exact lit_minus) ?_))
local macro_rules | `(tactic| walk_at "subscriptTail Name Constant ref int") => `(tactic| (k_dflt (refine' GridAt.row ?F ?Y ?a ?b ?_; (case F => k_asm); (case Y => k_asm); (case a => omega); (case b => omega); k_whole); intro _))
local macro_rules | `(tactic| walk_at "subscriptTail Name BinOp ref int") => `(tactic| (k_dflt (refine' GridAt.row ?F ?Y ?a ?b ?_; (case F => k_asm); (case Y => k_asm); (case a => omega); (case b => omega); k_whole); intro _))
local macro_rules | `(tactic| walk_at "subscriptTail Name BinOp str int") => `(tactic| (k_dflt (refine' GridAt.item ?Y ?a ?b ?c ?d ?_; (case Y => k_asm); (case a => omega); (case b => omega); (case c => omega); (case d => omega); k_whole); intro _ _))
local macro_rules | `(tactic| walk_at "subscriptTail Name Name str int") => `(tactic| (k_dflt (refine' GridAt.item ?Y ?a ?b ?c ?d ?_; (case Y => k_asm); (case a => omega); (case b => omega); (case c => omega); (case d => omega); k_whole); intro _ _))
local macro_rules | `(tactic| walk_at "subscriptTail Subscript Name BinOp Name str int") => `(tactic| (k_dflt (refine' GridAt.item ?Y ?a ?b ?c ?d ?_; (case Y => k_asm); (case a => omega); (case b => omega); (case c => omega); (case d => omega); k_whole); intro _ _))
local macro_rules | `(tactic| walk_at "subscriptTail Subscript Name Name BinOp str int") => `(tactic| (k_dflt (refine' GridAt.item ?Y ?a ?b ?c ?d ?_; (case Y => k_asm); (case a => omega); (case b => omega); (case c => omega); (case d => omega); k_whole); intro _ _))
local macro_rules | `(tactic| walk_at "subscriptTail Subscript Name Name Name str int") => `(tactic| (k_dflt (refine' GridAt.item ?Y ?a ?b ?c ?d ?_; (case Y => k_asm); (case a => omega); (case b => omega); (case c => omega); (case d => omega); k_whole); intro _ _))
local macro_rules | `(tactic| walk_at "eval IfExp") => `(tactic| refine Hold.of ?_)
theorem count_get {h₀ h : Heap} {L a : Addr} {news : List (Addr × Obj)} {o : Obj} (N : News h₀ L h news) (hm : (a, o) ∈ news) : h.get? a = some o := (N _ hm).1
local macro_rules | `(tactic| walk_at "getMethod ref") => `(tactic| ((with_reducible show wpAny _ _ (getMethod (Value.ref _) (Str.ofString "count") _) _ _ _); k_dflt (refine' list_method PySem.F.slot_list_count PySem.F.type_list_count (count_get ?N ?M) ?_; (case N => k_asm); (case M => k_mem))))
local macro_rules | `(tactic| walk_at "call builtin:list.count") => `(tactic| (refine count_four (by walk_at "lst") ?_; intro _ _))
theorem law_ends {prog : Program} {w : World} {s : Shared} {g : Heap} {mg mb : Str → Option Value} {p : Program} {loose : List Str} {rl : Addr} {G : List (List Nat)} {W : Nat}
   (X : (hd.heap_39 w.params).In g) (T : TopRead p loose mg mb g) (S : St g s.heap []) (Y : GridAt g rl G W) (hsg : ∀ i j : Int, 0 ≤ i → i < G.length → 0 ≤ j → j < W → Sg (gch G i j)) (hG : 0 < G.length) (hW : 0 < W) :
   codeAny (model prog w) (lv 900 5000) (.call (.ref 584) ⟨[.ref rl], []⟩) (Back g s fun v led => ∃ T t1 t2, v = .ref T ∧ (T, tupOf [.int (endsOf G W 3) t1, .int (endsOf G W 4) t2]) ∈ led) s := by
  k_dflt (refine' enter (binds := [("rows", .ref rl)]) X T S ?k6 ?k7 ?k8 ?k9 ?kB ?_ ?c2 ?c3 ?c4 ?c5; (case k6 => k_is); (case k7 => k_is); (case k8 => decide); (case k9 => exact BindsTo.of_eq rfl); (case kB => exact locs rfl); (case c5 => decide); (case c2 => rfl); (case c3 => rfl); (case c4 => rfl))
  intro L h₁ F N
  obtain ⟨vs, hl, hi⟩ := id Y.ex
  have hvl : vs.length = G.length := by have := hi.len_eq; rw [List.length_map] at this; exact this
  have hGi := Y.hi
  have hWi := Y.wi
  walk_at "kf"
  walk_at "go"
  rename IsRange _ _ _ _ _ _ _ _ => Rg
  rename Fr _ _ _ _ => F'
  rename News _ _ _ _ => N'
  refine Hold.out ?_
  have hsz : Builtin.Range.rangeSize 0 (vs.length : Int) 1 = ((G.length : Nat) : Int) := by rw [rangeSize_one]; split <;> omega
  refine range_run (n := G.length) ["m", "arms", "three", "four"] (fun k u led => led = [] ∧ ∃ a b t1 t2, u "three" = some (.int a t1) ∧ u "four" = some (.int b t2) ∧ a = sumR k (fun i => sumR W fun m => endsAt G W 3 i m) ∧ b = sumR k (fun i => sumR W fun m => endsAt G W 4 i m)) rfl Rg (small_one (by omega) (by omega) (by omega) (by omega)) hsz F' (news_sub N' (List.forall_mem_nil _)) ⟨rfl, 0, 0, _, _, rfl, rfl, rfl, rfl⟩ ?_ ?_
  · rintro k t u news₁ h₈ tk₈ I' ob hkn ⟨rfl, a, b, t1, t2, hu1, hu2, ha, hb⟩ hoff F₈ N₈
    rw [show (0 : Int) + (k : Int) * 1 = k by omega] at F₈
    obtain ⟨u', rfl⟩ := two_of hu1 hu2
    clear F' N' Rg hsz hu1 hu2 hi
    have e0 : (tx (G.getD (Int.toNat 0) [])).length = W := by
      rw [tx_length, show Int.toNat 0 = 0 from rfl, List.getD_eq_getElem?_getD, List.getElem?_eq_getElem hG, Option.getD_some]
      exact Y.wid _ (List.getElem_mem _)
    walk_at "kf"
    walk_at "go"
    rename IsRange _ _ _ _ _ _ _ _ => Rg
    rename Fr _ _ _ _ => F'
    rename News _ _ _ _ => N'
    refine Hold.out ?_
    rw [e0] at Rg
    have hsz : Builtin.Range.rangeSize 0 (W : Int) 1 = ((W : Nat) : Int) := by rw [rangeSize_one]; split <;> omega
    refine range_run (n := W) ["arms", "three", "four"] (fun m u led => led = [(I', ob)] ∧ ∃ c d t1 t2, u "three" = some (.int c t1) ∧ u "four" = some (.int d t2) ∧ c = a + sumR m (fun m => endsAt G W 3 k m) ∧ d = b + sumR m (fun m => endsAt G W 4 k m)) rfl Rg (small_one (by omega) (by omega) (by omega) (by omega)) hsz F' (news_sub N' fun q hq => hq) ⟨rfl, a, b, _, _, rfl, rfl, by simp [sumR], by simp [sumR]⟩ ?_ ?_
    · rintro m t u₅ news₂ h₉ tk₉ I2 ob2 hm ⟨rfl, c, d, t3, t4, hu3, hu4, hc, hd⟩ hoff2 F₉ N₉
      rw [show (0 : Int) + (m : Int) * 1 = m by omega] at F₉
      obtain ⟨u', rfl⟩ := two_of hu3 hu4
      clear F' N' Rg hsz hu3 hu4
      walk_at "kf"
      walk_at "go"
      · rename gch _ _ _ = 43 => h43
        refine Hold.out (if_mid (fun v => v = .bool (if m ≠ 0 then inHor (gch G k ((m : Int) - 1)) else false)) (IfExp_ ?_) ?_)
        · walk_at "go"
          · exact congrArg Value.bool (by rw [if_pos (by omega)]; exact occ_hor (hsg _ _ (by omega) (by omega) (by omega) (by omega)))
          · exact congrArg Value.bool (by rw [if_neg (by omega)])
        rintro v tk₁ rfl
        dsimp only
        walk_at "go"
        refine Hold.out (if_mid (fun v => v = .bool (if m + 1 < W then inHor (gch G k ((m : Int) + 1)) else false)) (IfExp_ ?_) ?_)
        · walk_at "go"
          · exact congrArg Value.bool (by rw [if_pos (by omega)]; exact occ_hor (hsg _ _ (by omega) (by omega) (by omega) (by omega)))
          · exact congrArg Value.bool (by rw [if_neg (by omega)])
        rintro v tk₂ rfl
        dsimp only
        walk_at "go"
        refine Hold.out (if_mid (fun v => v = .bool (if k ≠ 0 then inVert (gch G ((k : Int) - 1) m) else false)) (IfExp_ ?_) ?_)
        · walk_at "go"
          · exact congrArg Value.bool (by rw [if_pos (by omega)]; exact occ_vert (hsg _ _ (by omega) (by omega) (by omega) (by omega)))
          · exact congrArg Value.bool (by rw [if_neg (by omega)])
        rintro v tk₃ rfl
        dsimp only
        walk_at "go"
        refine Hold.out (if_mid (fun v => v = .bool (if k + 1 < G.length then inVert (gch G ((k : Int) + 1) m) else false)) (IfExp_ ?_) ?_)
        · walk_at "go"
          · exact congrArg Value.bool (by rw [if_pos (by omega)]; exact occ_vert (hsg _ _ (by omega) (by omega) (by omega) (by omega)))
          · exact congrArg Value.bool (by rw [if_neg (by omega)])
        rintro v tk₄ rfl
        dsimp only
        walk_at "go"
        refine Hold.out (if_mid (IntIs (if (armsG G W k m).count true = 3 then 1 else 0)) (IfExp_ ?_) ?_)
        · walk_at "go"
          · exact ⟨_, by rw [if_pos (by have h : (((armsG G W k m).count true : Nat) : Int) = 3 := by assumption
                                        omega)]⟩
          · exact ⟨_, by rw [if_neg (by have h : (((armsG G W k m).count true : Nat) : Int) ≠ 3 := by assumption
                                        omega)]⟩
        rintro v tk₅ ⟨t5, rfl⟩
        dsimp only
        walk_at "go"
        refine Hold.out (if_mid (IntIs (if (armsG G W k m).count true = 4 then 1 else 0)) (IfExp_ ?_) ?_)
        · walk_at "go"
          · exact ⟨_, by rw [if_pos (by have h : (((armsG G W k m).count true : Nat) : Int) = 4 := by assumption
                                        omega)]⟩
          · exact ⟨_, by rw [if_neg (by have h : (((armsG G W k m).count true : Nat) : Int) ≠ 4 := by assumption
                                        omega)]⟩
        rintro v tk₆ ⟨t6, rfl⟩
        dsimp only
        walk_at "go"
        rename Fr _ _ _ _ => F'
        rename News _ _ _ _ => N'
        refine Turned.next F' (news' := [(I', ob)]) (news_sub N' (by walk_at "sub")) (fun q hq => not_one.mpr (hoff2 q hq)) (by walk_at "locals") ⟨rfl, _, _, _, _, rfl, rfl, ?_, ?_⟩
        · rw [hc]; simp only [sumR]; rw [endsAt_plus h43]; omega
        · rw [hd]; simp only [sumR]; rw [endsAt_plus h43]; omega
      · rename ¬ gch _ _ _ = 43 => h43
        refine Turned.next F₉ (news' := [(I', ob)]) N₉ (fun q hq => not_one.mpr (hoff2 q hq)) (by walk_at "locals") ⟨rfl, _, _, _, _, rfl, rfl, ?_, ?_⟩
        · rw [hc]; simp only [sumR]; rw [endsAt_none h43]; omega
        · rw [hd]; simp only [sumR]; rw [endsAt_none h43]; omega
    · rintro u₅ news₂ h₉ tk₉ ⟨rfl, c, d, t3, t4, hu3, hu4, hc, hd⟩ F₉ N₉
      clear F' N' Rg hsz
      walk_at "go"
      refine Turned.next F₉ (news' := []) N₉ (fun _ h => nomatch h) (by walk_at "locals") ⟨rfl, c, d, t3, t4, hu3, hu4, ?_, ?_⟩
      · rw [hc, ha]; simp only [sumR]
      · rw [hd, hb]; simp only [sumR]
  · rintro u news₁ h₈ tk₈ ⟨rfl, a, b, t1, t2, hu1, hu2, ha, hb⟩ F₈ N₈
    obtain ⟨u', rfl⟩ := two_of hu1 hu2
    clear F' N' Rg hsz
    walk_at "go"
    rename Fr _ _ _ _ => F'
    rename News _ _ _ _ => N'
    exact Back.intro F' N' ⟨_, _, _, rfl, by rw [← show a = endsOf G W 3 from ha, ← show b = endsOf G W 4 from hb]; exact .head _⟩
end Mine
end EN_part
section Lp5_part
open PySem PySem.W PyProof.Rows PySem.Calls
namespace Mine
section
variable {prog : Program} {w : World} {A : Around} {s : Shared} {env : Env} {h₀ : Heap} {body : List Stmt} {Q : Flow → Shared → Prop}
theorem list_runW {x : Str} {px : Pos} {l : Addr} {n : Nat} {m₀ : Str → Option Value} {news : List (Addr × Obj)} (stored : List Str) (J : Nat → (Str → Option Value) → List (Addr × Obj) → Prop)
    (hh : A.handled = none) (F : Fr h₀ env.locals s.heap m₀) (N : News h₀ env.locals s.heap news) (h0 : J 0 m₀ news)
    (hJl : ∀ i u news₁, J i u news₁ → ∃ items c, (l, listOf items c) ∈ news₁ ∧ items.size = n)
    (turn : ∀ i v items c u news₁ h tk I ob, i < n → (l, listOf items c) ∈ news₁ → items.size = n → items[i]? = some v → J i u news₁ → (∀ q ∈ news₁, @Ne Nat q.1 I) → Fr h₀ env.locals h (fun y => if y = x then some v else if stored.contains y then u y else m₀ y) → News h₀ env.locals h ((I, ob) :: news₁) →
      wpAny (model prog w) A (execs body env) (Turned h₀ env.locals [(I, ob)] [x] stored m₀ [I] (J (i + 1)) { s with heap := h, toks := tk } Q) (fun _ _ => False) { s with heap := h, toks := tk })
    (done : ∀ u news₁ h tk, J n u news₁ → Fr h₀ env.locals h (fun y => if y = x then u y else if stored.contains y then u y else m₀ y) → News h₀ env.locals h news₁ → Q .next { s with heap := h, toks := tk })
    (hx : env.kindOf x = some .local := by rfl)
    (hp : (env.scope.kind == .class || (env.scope.kind == .module && env.locals != env.globals)) = false := by rfl) :
    wpAny (model prog w) A (pyIter (.ref l)) (fun it s₂ => LoopRun prog w A (.Name x px) env body Q it s₂) (fun _ _ => False) s := by
  obtain ⟨items₀, c₀, hm₀, hsz₀⟩ := hJl _ _ _ h0
  have hls : s.heap.IsList l items₀ := ⟨_, (N _ hm₀).1, rfl, c₀, rfl⟩
  obtain ⟨h1, h2⟩ := fr_new F
  have hne : l ≠ s.heap.objs.size := Nat.ne_of_lt (Heap.lt_size (N _ hm₀).1)
  have hoff0 : ∀ q ∈ news, q.1 ≠ s.heap.objs.size := fun q hq => Nat.ne_of_lt (Heap.lt_size (N q hq).1)
  refine wpAny_pyIter_list hls ?_
  have Lnew : h₀.get? env.locals = none := Heap.get?_none_of_le F.above
  have hst : (s.heap.push { cls := .type "list_iterator", data := .fields #[.ref l, rawInt 0] }).IsListIter s.heap.objs.size l 0 := ⟨_, Heap.get?_push_size _ rfl, rfl, rfl⟩
  have F0 := F.push { cls := .type "list_iterator", data := .fields #[.ref l, rawInt 0] }
  have N0 : News h₀ env.locals (s.heap.push { cls := .type "list_iterator", data := .fields #[.ref l, rawInt 0] }) news := fun p hp => ⟨Heap.get?_push_of_some _ (N p hp).1, (N p hp).2⟩
  generalize hgI : s.heap.objs.size = I at *
  have hLw : env.locals ∉ [I] := fun h => h1 (List.mem_singleton.mp h).symm
  have old : ∀ b o, h₀.get? b = some o → b ∉ [I] := fun b o e hb => by rw [List.mem_singleton.mp hb, h2] at e; cases e
  refine codeAny_forLoop
    (fun k s' => ∃ h' tk m' news' i, s' = { s with heap := h', toks := tk } ∧ h'.IsListIter I l i ∧ Fr h₀ env.locals h' m' ∧ News h₀ env.locals h' news' ∧ (∀ q ∈ news', @Ne Nat q.1 I) ∧ (∀ y, y ∉ [x] → y ∉ stored → m' y = m₀ y) ∧ J i m' news' ∧ i ≤ n ∧ k = n + 1 - i) ?_ (n + 1)
    ⟨_, s.toks, m₀, news, 0, rfl, hst, F0, N0, hoff0, fun _ _ _ => rfl, h0, Nat.zero_le _, rfl⟩
  rintro k s' ⟨h', tk, m', news', i, rfl, hst', F', N', hnw', hloc, hJ, hi, rfl⟩
  obtain ⟨items, c, hm, hsz⟩ := hJl _ _ _ hJ
  have W := Walks.list (prog := prog) (w := w) hh I l hne items
  have hl' : h'.IsList l items := ⟨_, (N' _ hm).1, rfl, c, rfl⟩
  have next : ∀ h₁ : Heap, (∀ b o, b ∉ [I] → h'.get? b = some o → h₁.get? b = some o) → Fr h₀ env.locals h₁ m' ∧ News h₀ env.locals h₁ news' := fun h₁ hk₁ =>
    ⟨⟨F'.ns.at' fun o e => hk₁ _ o hLw e, fun b o e => hk₁ b o (old b o e) (F'.keep b o e), F'.above⟩, fun p hp => ⟨hk₁ _ _ (fun q => hnw' p hp (List.mem_singleton.mp q)) (N' p hp).1, (N' p hp).2⟩⟩
  by_cases hlt : i < n
  · refine W.item i _ _ _ (hsz ▸ hlt) ⟨hst', hl'⟩ fun v h₁ tk₁ hP hst₁ hk₁ => ?_
    obtain ⟨F₁, N₁⟩ := next h₁ hk₁
    refine wpAny_assign_Name (wpAny_storeName_local hx F₁.ns (fun h₂ hn₂ hs₂ => ?_) hp)
    have F₂ := F₁.set hn₂ hs₂
    have hI₂ : h₂.IsListIter I l (i + 1) := hst₁.1.at fun o e => (hs₂.2 _ h1).trans e
    obtain ⟨ob, hob, hor⟩ := id hI₂
    have N₂ : News h₀ env.locals h₂ ((I, ob) :: news') := fun q hq => by
      rcases List.mem_cons.mp hq with rfl | hq
      · exact ⟨hob, h1, h2⟩
      · exact N₁.set hs₂ q hq
    have e2 := names_stored (xs := [x]) (stored := stored) (vs := [v]) rfl hloc
    have e3 : (fun y => if y = x then some v else m' y) = fun y => if y = x then some v else if stored.contains y then m' y else m₀ y := e2
    rw [e3] at F₂
    refine wpAny_mono (turn i v items c m' news' h₂ _ I ob hlt hm hsz hP hJ hnw' F₂ N₂) (fun f s₃ h₃ => ?_) fun _ _ e => e.elim
    have fin : (∃ h' tk' m' news', s₃ = { s with heap := h', toks := tk' } ∧ Fr h₀ env.locals h' m' ∧ News h₀ env.locals h' ([(I, ob)] ++ news') ∧ (∀ q ∈ news', q.1 ∉ [I]) ∧ (∀ y, y ∉ [x] → y ∉ stored → m' y = m₀ y) ∧ J (i + 1) m' news') →
        ∃ m, m < n + 1 - i ∧ ∃ h' tk m' news' j, s₃ = { s with heap := h', toks := tk } ∧ h'.IsListIter I l j ∧ Fr h₀ env.locals h' m' ∧ News h₀ env.locals h' news' ∧ (∀ q ∈ news', @Ne Nat q.1 I) ∧ (∀ y, y ∉ [x] → y ∉ stored → m' y = m₀ y) ∧ J j m' news' ∧ j ≤ n ∧ m = n + 1 - j := by
      rintro ⟨h₃', tk₃, m₂, news₂, e, F₃, N₃, ha₃, hl₃, hJ₃⟩
      exact ⟨n + 1 - (i + 1), by omega, h₃', tk₃, m₂, news₂, i + 1, e, ⟨ob, (N₃ (I, ob) (.head _)).1, hor⟩, F₃, fun q hq => N₃ q (List.mem_append_right _ hq), fun q hq => not_one.mp (ha₃ q hq), hl₃, hJ₃, hlt, rfl⟩
    cases f with
    | ret v => exact h₃
    | brk => exact h₃
    | cont => exact fin h₃
    | next => exact fin h₃
  · have hin : i = n := by omega
    subst hin
    refine W.done _ _ _ ⟨hsz ▸ hst', hl'⟩ fun h₁ tk₁ hk₁ => wpAny_execs_nil ?_
    obtain ⟨F₁, N₁⟩ := next h₁ hk₁
    have e3 : m' = fun y => if y = x then m' y else if stored.contains y then m' y else m₀ y := by
      funext y
      by_cases h3 : y = x
      · simp [h3]
      · simp only [h3, if_false]
        cases h4 : stored.contains y with
        | true => simp
        | false => simp only [Bool.false_eq_true, if_false]; exact hloc y (by simpa using h3) (by simpa using h4)
    rw [e3] at F₁
    exact done m' news' h₁ tk₁ hJ F₁ N₁
end
end Mine
end Lp5_part
section LC_part
open PySem PySem.W PyProof.Rows PySem.Calls
namespace Mine
local macro_rules | `(tactic| k_all) => `(tactic| assumption)
local macro_rules | `(tactic| walk_at "pyIter ref") => `(tactic| refine Hold.of ?_)
local macro_rules | `(tactic| walk_at "call ref") => `(tactic| refine Hold.of ?_)
local macro_rules | `(tactic| walk_at "exec For") => `(tactic| (with_unfolding_all refine' For_run ?_))
local macro_rules | `(tactic| walk_at "exec For Name Call cons nil") => `(tactic| (with_unfolding_all refine' For_run ?_))
local macro_rules | `(tactic| walk_at "exec For Tuple Call cons nil") => `(tactic| (with_unfolding_all refine' For_run ?_))
local macro_rules | `(tactic| walk_at "getAttr ref") => `(tactic| (k_dflt (refine' get_own ?k1 ?k2 (inst_up ?k3 (Fr.keep ?k1)) ?k4 ?k5 ?k6 ?k7 ?k8 ?k9 ?_; (case k1 => k_asm); (case k2 => k_asm); (case k3 => k_asm); (case k4 => k_is); (case k5 => k_is); (case k6 => k_is); (case k7 => k_is); (case k8 => k_asm); (case k9 => k_handed); k_whole)))
local macro_rules | `(tactic| walk_at "eval Name") => `(tactic| ((with_reducible show wpAny _ _ (eval _ (envOfC _ _ _ _ _)) _ _ _); k_dflt (refine' nameX_L ?F ?v ?_ ?a ?b ?d; (case F => k_asm); (case v => rfl); (case a => kernel_rfl); (case b => kernel_rfl); (case d => kernel_rfl); k_whole)))
local macro_rules | `(tactic| walk_at "eval Name") => `(tactic| ((with_reducible show wpAny _ _ (eval _ (envOf _ _ _ _ _)) _ _ _); k_dflt (refine' ld ?k1 ?k2 ?_ ?k3 ?k4 ?k5; (case k1 => k_asm); (case k2 => exact rfl); (case k3 => kernel_rfl); (case k4 => kernel_rfl); (case k5 => kernel_rfl); k_whole)))
local macro_rules | `(tactic| walk_at "Turned") => `(tactic| first | refine Turned.ret ?_ | refine Turned.brk ?_)
local macro_rules | `(tactic| walk_at "go") => `(tactic| repeat' (first | (k_unfold; (try dsimp only)) | walk1 | (dsimp only; walk1) | (dsimp only; k_unfold; (try dsimp only))))
local macro_rules | `(tactic| walk_at "kf") => `(tactic| ((with_reducible show wpAny _ _ _ _ _ _); k_fold))
local macro_rules | `(tactic| walk_at "locals") => `(tactic| (intro y h1 h2; simp only [List.mem_cons, List.not_mem_nil, or_false, not_or] at h1 h2; simp [h1, h2]))
local macro_rules | `(tactic| walk_at "eval ListComp") => `(tactic| (k_dflt (refine ListComp_runF (by k_asm) (by with_unfolding_all rfl) (by rfl) (by decide) ?_)))
local macro_rules | `(tactic| walk_at "exec Assign cons ListComp") => `(tactic| (k_dflt (refine Assign_ListComp_runF (by k_asm) (by with_unfolding_all rfl) (by with_unfolding_all rfl) (by rfl) (by decide) (by rfl) (by rfl) (by rfl) ?_)))
local macro_rules | `(tactic| walk_at "sub") => `(tactic| first | exact List.forall_mem_nil _ | refine List.forall_mem_cons.mpr ⟨by k_mem, by walk_at "sub"⟩)
local macro_rules | `(tactic| walk_at "hnd1") => `(tactic| first | exact apart_nil | refine apart_cons (by k_ne) (by walk_at "hnd1"))
local macro_rules | `(tactic| walk_at "hnd2") => `(tactic| first | exact Apart.nil | refine Apart.cons (by walk_at "hnd1") (by walk_at "hnd2"))
local macro_rules | `(tactic| walk_at "hnd") => `(tactic| exact Apart.nd (by walk_at "hnd2"))
local macro_rules | `(tactic| k_ne) => `(tactic| first | exact NE.out (by assumption) | exact NE.flip (by assumption) | (refine neN ?_; (try dsimp only); omega))
local macro_rules | `(tactic| walk_at "mem") => `(tactic| first | exact List.Mem.head _ | (refine List.Mem.tail _ ?_; walk_at "mem"))
local macro_rules | `(tactic| walk_at "exec For Name Name cons nil") => `(tactic| (with_unfolding_all refine' For_run ?_))
local macro_rules | `(tactic| walk_at "lst") => `(tactic| first | exact lst_up (by assumption) (Fr.keep (by k_asm)) | exact lst_news (by k_asm) (by k_mem))
local macro_rules | `(tactic| walk_at "subscriptTail ListComp Constant ref int") => `(tactic| (k_dflt (refine' item_listT ?l ?a ?b ?x ?_; (case l => walk_at "lst"); (case a => omega); (case b => omega); (case x => assumption))))
local macro_rules | `(tactic| walk_at "call builtin:len") => `(tactic| (k_dflt (refine' len_list ?l ?f ?_; (case l => walk_at "lst"); (case f => (rw [List.size_toArray]; omega)); k_whole); (try rw [List.size_toArray])))
local macro_rules | `(tactic| walk_at "subscriptTail Name Name ref int") => `(tactic| (k_dflt (refine' item_listT ?l ?a ?b ?x ?_; (case l => walk_at "lst"); (case a => omega); (case b => omega); (case x => assumption))))
local macro_rules | `(tactic| walk_at "subscriptTail Subscript Name Name Name ref int") => `(tactic| (k_dflt (refine' item_listT ?l ?a ?b ?x ?_; (case l => walk_at "lst"); (case a => omega); (case b => omega); (case x => assumption))))
local macro_rules | `(tactic| walk_at "subscriptTail Subscript Name Name ref int") => `(tactic| (k_dflt (refine' item_listT ?l ?a ?b ?x ?_; (case l => walk_at "lst"); (case a => omega); (case b => omega); (case x => assumption))))
local macro_rules | `(tactic| walk_at "call builtin:sorted") => `(tactic| refine Hold.of ?_)
theorem law_cells {prog : Program} {w : World} {s : Shared} {g : Heap} {mg mb : Str → Option Value} {p : Program} {loose : List Str} {rl : Addr} {vs : List Value} {B R : Int} {ps : List Pt} {G : List (List Nat)}
   (X : (hd.heap_39 w.params).In g) (T : TopRead p loose mg mb g) (S : St g s.heap []) (hrl : g.IsList rl vs.toArray) (hst : StrsAre vs (G.map tx)) (TT : Tiling B R ps) (D : Drawn G B R ps) (hB : 0 < B) (hB62 : B ≤ 62) (hR : 0 < R) (hR62 : R ≤ 62) (hps : ps.length ≤ 50) (hps2 : 2 ≤ ps.length) :
   codeAny (model prog w) (lv 830 4300) (.call (.ref 577) ⟨[.ref rl], []⟩) (Back g s (CellsOut ps)) s := by
  k_dflt (refine' enter (binds := [("rows", .ref rl)]) X T S ?k6 ?k7 ?k8 ?k9 ?kB ?_ ?c2 ?c3 ?c4 ?c5; (case k6 => k_is); (case k7 => k_is); (case k8 => decide); (case k9 => exact BindsTo.of_eq rfl); (case kB => exact locs rfl); (case c5 => decide); (case c2 => rfl); (case c3 => rfl); (case c4 => rfl))
  intro L h₁ F N
  walk_at "kf"
  walk_at "go"
  rename Fr _ _ _ _ => F'
  rename News _ _ _ _ => N'
  refine Hold.out ?_
  refine call_cls0 F' X N' (by k_is) (by k_is) ?_
  intro x dx h₂ F₂ N₂ l1 l2
  clear F' N'
  dsimp only
  walk_at "go"
  rename Fr _ _ _ _ => F'
  rename News _ _ _ _ => N'
  refine Hold.out ?_
  have hl := hst.len_eq
  rw [List.length_map] at hl
  have hh := D.hi
  have l2' := ltN l2
  refine call_cls F' X N' (by k_is) (by k_is) (by k_is) ?_
  intro y dy h₃ F₃ N₃ l3 l4
  refine use_call [(y, instObj 557 dy), (dy, dictOf [] 0)] [(x, instObj 245 dx), (dx, dictOf [] 0)] F₃ N₃ ?_ (fun g' st hr S' => lv_le (vl_init0 (X.keeps st) (T.keeps st) S' l4 (lst_up hrl st) (by rw [List.size_toArray]; omega)) rfl (Nat.le_of_ble_eq_true rfl) (Nat.le_of_ble_eq_true rfl)) ?_
  · intro q hq hm
    have := l3 q hq
    rcases List.mem_cons.mp hm with h | h
    · rw [h] at this; exact absurd (Nat.lt_trans this l4) (Nat.lt_irrefl _)
    · rw [List.mem_singleton.mp h] at this; exact absurd this (Nat.lt_irrefl _)
  rintro v led h₄ tk₄ ⟨rfl, bd, c, bi, its, c2, t1, t2, t3, t4, rfl, hits, n1, n2, n3, n4, n5⟩ F₄ N₄ hap
  refine ⟨rfl, ?_⟩
  clear F' N' F₃ N₃
  simp only [List.cons_append, List.nil_append] at N₄
  walk_at "go"
  rename Fr _ _ _ _ => F'
  rename News _ _ _ _ => N'
  refine Hold.out (wpAny_call (use_call [(x, instObj 245 dx), (dx, dictOf [] 0)] [(y, instObj 557 dy), (dy, dictOf (slEs w.params bd bi .none .none t1 t2 t3 t4) 4), (bd, listOf vs.toArray c), (bi, listOf its c2)] F' (news_sub N' fun q hq => ?_) (fun q hq hm => ?_) (fun g' st' hr S' => lv_le (parse_walk (X.keeps st') (T.keeps st') S' l2 (inst_of (hr (y, instObj 557 dy) (by walk_at "mem")) (hr (dy, dictOf (slEs w.params bd bi .none .none t1 t2 t3 t4) 4) (by walk_at "mem"))) ⟨_, hr (bd, listOf vs.toArray c) (by walk_at "mem"), rfl, _, rfl⟩ ⟨_, hr (bi, listOf its c2) (by walk_at "mem"), rfl, _, rfl⟩ (by rw [hits, List.size_toArray]) hst TT D hB hB62 hR hR62 hps) rfl (Nat.le_of_ble_eq_true rfl) (Nat.le_of_ble_eq_true rfl)) ?_))
  · simp only [List.cons_append, List.nil_append, List.mem_cons, List.not_mem_nil, or_false] at hq ⊢
    rcases hq with h | h | h | h | h | h <;> simp only [h, true_or, or_true]
  · have hz := fun q' hq' => hap q hq q' hq'
    simp only [List.map_cons, List.map_nil, List.mem_cons, List.not_mem_nil, or_false] at hm
    rcases hm with e | e
    · exact hz _ (.head _) e
    · exact hz _ (.tail _ (.head _)) e
  rintro v led h₅ tk₅ ⟨RS, CS, qs, hF, TX, spec, head, body, sv, c5, c6, ys, rls, tups, rfl, hT, hspec, hsv, hhead, hbody, hysl, hM, hrls, htups, z1, z2, z3, z4, z5⟩ F₅ N₅ -
  clear F' N' hap
  have N6 : News g L h₅ ((TX, tupOf [.ref spec, .ref head, .ref body]) :: (spec, listOf (List.toArray sv) c5) :: (head, listOf #[] 0) :: (body, listOf (List.toArray ys) c6) :: (rls ++ tups)) := fun q hq => by
    rcases List.mem_cons.mp hq with rfl | hq
    · exact N₅ _ (List.mem_append_left _ hT)
    rcases List.mem_cons.mp hq with rfl | hq
    · exact N₅ _ (List.mem_append_left _ hspec)
    rcases List.mem_cons.mp hq with rfl | hq
    · exact N₅ _ (List.mem_append_left _ hhead)
    rcases List.mem_cons.mp hq with rfl | hq
    · exact N₅ _ (List.mem_append_left _ hbody)
    rcases List.mem_append.mp hq with hq | hq
    · exact N₅ _ (List.mem_append_left _ (hrls q hq))
    · exact N₅ _ (List.mem_append_left _ (htups q hq))
  clear N₅
  generalize hRR : rls ++ tups = RR at N6
  dsimp only
  walk_at "go"
  rename Fr _ _ _ _ => F'
  rename News _ _ _ _ => N'
  rename (@LT.lt Nat _ TX _) ∧ _ => r1
  rename _ ∧ (@LT.lt Nat _ TX _) ∧ _ => r2
  rename_i tA cA _ aA _ _ _ _ _ _ _
  have FX := foundX TT hF hB hB62 hR hR62
  have hsvl : sv.length = CS.length - 1 := by have := hsv.length; rw [difs, List.length_map, List.length_range] at this; exact this
  have hCn := FX.cn
  have hRn := FX.rn
  have hC2 := FX.c2
  have hR2 := FX.r2
  obtain ⟨r11, r12, r13, r14, r15⟩ := r1
  obtain ⟨r20, r21, r22, r23, r24, r25⟩ := r2
  have gA : ∀ p ∈ RR, @Ne Nat p.1 aA := fun p hp => Nat.ne_of_lt (allLt_to r25 p hp)
  have gC : ∀ p ∈ RR, @Ne Nat p.1 cA := fun p hp => Nat.ne_of_lt (allLt_to r15 p hp)
  have f1 : NE aA cA := NE.mk (Nat.ne_of_gt r20)
  have f2 : NE aA spec := NE.mk (Nat.ne_of_gt r22)
  have f3 : NE aA head := NE.mk (Nat.ne_of_gt r23)
  have f4 : NE aA body := NE.mk (Nat.ne_of_gt r24)
  have f5 : NE cA spec := NE.mk (Nat.ne_of_gt r12)
  have f6 : NE cA head := NE.mk (Nat.ne_of_gt r13)
  have f7 : NE cA body := NE.mk (Nat.ne_of_gt r14)
  refine Hold.out ?_
  refine list_runW (n := sv.length) [] (fun i u led => ∃ av ca, led = (aA, listOf (List.toArray av) ca) :: (cA, listOf #[] 0) :: (spec, listOf (List.toArray sv) c5) :: (body, listOf (List.toArray ys) c6) :: (head, listOf #[] 0) :: RR ∧ IntsAre av (CS.take (i + 1))) rfl F' (news_sub N' fun q hq => ?_) ⟨[.int 0 tA], 0, rfl, ?_⟩ (fun i u led => by rintro ⟨av, ca, rfl, _⟩; exact ⟨_, _, .tail _ (.tail _ (.head _)), by simp⟩) ?_ ?_
  · rcases List.mem_cons.mp hq with rfl | hq
    · exact .tail _ (.head _)
    rcases List.mem_cons.mp hq with rfl | hq
    · exact .tail _ (.tail _ (.head _))
    rcases List.mem_cons.mp hq with rfl | hq
    · exact .tail _ (.tail _ (.tail _ (.tail _ (.head _))))
    rcases List.mem_cons.mp hq with rfl | hq
    · exact .tail _ (.tail _ (.tail _ (.tail _ (.tail _ (.tail _ (.head _))))))
    rcases List.mem_cons.mp hq with rfl | hq
    · exact .tail _ (.tail _ (.tail _ (.tail _ (.tail _ (.head _)))))
    exact .tail _ (.tail _ (.tail _ (.tail _ (.tail _ (.tail _ (.tail _ hq))))))
  · have : CS.take (0 + 1) = [0] := by
      rw [take_snocG (v := CS.getD 0 0) (by rw [List.getD_eq_getElem?_getD, List.getElem?_eq_getElem (show 0 < CS.length by omega)]; rfl), FX.c0]; rfl
    rw [this]
    exact .cons 0 _ .nil
  · rintro i v items c9 u news₁ h tk I' ob hin hml hisz hiv ⟨av, ca, rfl, hav⟩ hoff F N
    have hmm : items = List.toArray sv := by
      have e1 := (N _ (.tail _ hml)).1
      have e2 := (N _ (.tail _ (.tail _ (.tail _ (.head _))))).1
      rw [e1] at e2
      injection e2 with e2
      simp only [W.listOf, Obj.mk.injEq, Data.seq.injEq] at e2
      exact e2.2.2.1.1
    subst hmm
    obtain ⟨tv, rfl⟩ : ∃ t, v = .int (CS.getD (i + 1) 0 - CS.getD i 0 - 1) t := by
      have := hsv.get i (CS.getD (i + 1) 0 - CS.getD i 0 - 1) (by rw [difs, List.getElem?_map, List.getElem?_range (by omega)]; rfl)
      obtain ⟨t, ht⟩ := this
      have hiv' : sv[i]? = some v := by simpa using hiv
      exact ⟨t, Option.some.inj (hiv'.symm.trans ht)⟩
    have havl := hav.length
    rw [List.length_take] at havl
    have hgi : (CS.take (i + 1)).getD (-1 + ((CS.take (i + 1)).length : Int)).toNat 0 = CS.getD i 0 := by
      rw [List.length_take, List.getD_eq_getElem?_getD, List.getD_eq_getElem?_getD, show (-1 + ((min (i + 1) CS.length : Nat) : Int)).toNat = i by omega, List.getElem?_take_of_lt (by omega)]
    have e1 : NE aA I' := NE.mk (hoff _ (.head _))
    have e2 : NE cA I' := NE.mk (hoff _ (.tail _ (.head _)))
    clear F' N' hml hisz
    walk_at "kf"
    walk_at "go"
    rename Fr _ _ _ _ => F'
    rename News _ _ _ _ => N'
    rw [List.push_toArray] at N'
    refine Turned.next F' (news' := _) N' (fun q hq => not_one.mpr ?_) (by walk_at "locals") ⟨_, _, rfl, ?_⟩
    · rcases List.mem_cons.mp hq with rfl | hq
      · exact e1.out
      · exact hoff q (.tail _ hq)
    · rw [take_snocG (i := i + 1) (v := CS.getD (i + 1) 0) (by rw [List.getD_eq_getElem?_getD, List.getElem?_eq_getElem (show i + 1 < CS.length by omega)]; rfl), hgi]
      rw [show CS.getD (i + 1) 0 = CS.getD i 0 + (CS.getD (i + 1) 0 - CS.getD i 0 - 1) + 1 by omega]
      have e9 : CS.getD i 0 + (CS.getD i 0 + (CS.getD (i + 1) 0 - CS.getD i 0 - 1) + 1 - CS.getD i 0 - 1) + 1 = CS.getD i 0 + (CS.getD (i + 1) 0 - CS.getD i 0 - 1) + 1 := by omega
      rw [e9]
      exact ksk_snoc hav
  · rintro u news₁ h tk ⟨av, ca, rfl, hav⟩ F N
    rw [hsvl, show CS.length - 1 + 1 = CS.length by omega, List.take_length] at hav
    clear F' N'
    walk_at "go"
    rename Fr _ _ _ _ => F'
    rename News _ _ _ _ => N'
    refine Hold.out ?_
    have hrl : rls.length = RS.length - 1 := by have := congrArg List.length hM.refs; rw [List.length_map] at this; omega
    subst hRR
    have hys2 : (List.toArray (((#[] : Array Value)).toList ++ ys.toArray.toList)) = ys.toArray := by simp
    rw [hys2] at N'
    refine list_compS (items := ys.toArray) (fun i ds => IntsAre ds (RS.take i)) rfl (.inr ⟨_, .head _, rfl, _, rfl⟩) (by rw [List.size_toArray, sizeLine_eq]; omega) F' N' .nil ?_ ?_
    · intro i v ds h₆ tk₆ I' ob C oC DD m₂ E' hi hv hJ hns hx hIC hID hCD hoff F₆ N₆
      rw [List.size_toArray] at hi
      obtain ⟨ra, oa, hroa⟩ : ∃ ra oa, rls[i]? = some (ra, oa) := ⟨_, _, List.getElem?_eq_getElem (show i < rls.length by omega)⟩
      have hv' : v = .ref ra := by
        have h1 : ys[i]? = some v := by simpa using hv
        rw [hM.refs, List.getElem?_map, hroa] at h1
        exact (Option.some.inj h1).symm
      subst hv'
      obtain ⟨vals, cc, eoa, hvl, hent⟩ := hM.obj i _ hroa
      dsimp only at eoa
      subst eoa
      refine CBody.nil ?_
      clear F' N'
      walk_at "kf"
      walk_at "go"
      refine Hold.out ?_
      have hraN : (ra, listOf (List.toArray vals) cc) ∈ rls := List.mem_of_getElem? hroa
      refine list_compS (items := List.toArray vals) (fun k zs => (∀ z ∈ zs, ∃ t, z = .int (RS.getD i 0) t) ∧ ((∃ k', k' < k ∧ ∃ T, vals[k']? = some (.ref T)) → zs ≠ [])) rfl (.inr ⟨listOf (List.toArray vals) cc, .tail _ (.tail _ (.tail _ (.tail _ (.tail _ (.tail _ (.tail _ (.tail _ (.tail _ (List.mem_append_left _ hraN))))))))), rfl, _, rfl⟩) (by rw [List.size_toArray, sizeLine_eq]; omega) F₆ N₆ ⟨(fun _ h => nomatch h), fun ⟨_, h, _⟩ => absurd h (Nat.not_lt_zero _)⟩ ?_ ?_
      · intro k cell zs h₇ tk₇ I2 ob2 C2 oC2 DD2 m₃ E2 hk hcell hJz hns2 hx2 hIC2 hID2 hCD2 hoff2 F₇ N₇
        rw [List.size_toArray] at hk
        have hcell' : vals[k]? = some cell := by simpa using hcell
        refine CBody.one ?_
        clear F₆ N₆
        rcases hent k (by omega) with ⟨_, hno⟩ | ⟨q, hq, q1, q2, TQ, v1, v2, v3, bl, hTQ, hTm⟩
        · rw [hno] at hcell'
          obtain rfl := Option.some.inj hcell'
          walk_at "kf"
          walk_at "go"
          refine CEnd.intro F₇ (news' := []) (by rw [List.append_nil]; exact N₇) (fun _ h => nomatch h) ⟨hJz.1, fun ⟨k', hk', T, hT⟩ => hJz.2 ⟨k', ?_, T, hT⟩⟩
          apply Classical.byContradiction
          intro hge
          have : k' = k := by omega
          subst this
          rw [hno] at hT; cases hT
        · rw [hTQ] at hcell'
          obtain rfl := Option.some.inj hcell'
          have N8 : News g _ h₇ ((TQ, tupOf [.int ((q.2.2.1 : Int) - i - 1) v1, .int ((q.2.2.2 : Int) - k - 1) v2, .int (RS.getD i 0 + 1) v3, .ref bl]) :: (I2, ob2) :: (C2, oC2) :: (DD2, LCg.lst zs) :: _) := fun q hq => by
            rcases List.mem_cons.mp hq with rfl | hq
            · exact N₇ _ (by simp only [List.mem_cons, List.mem_append, hTm, or_true])
            · exact N₇ q hq
          clear N₇
          walk_at "kf"
          walk_at "go"
          refine CEnd.intro F₇ (news' := []) (news_sub N8 fun q hq => .tail _ (by rw [List.append_nil] at hq; exact hq)) (fun _ h => nomatch h) ⟨fun z hz => ?_, fun _ => by simp⟩
          rcases List.mem_append.mp hz with hz | hz
          · exact hJz.1 z hz
          · rw [List.mem_singleton.mp hz, Int.add_sub_cancel]
            exact ⟨_, rfl⟩
      · intro zs h₇ hJz D7 h₈ tk₈ F₈ N₈ off8
        obtain ⟨q0, hq0, hq1⟩ := FX.st i (by omega)
        obtain ⟨o1, o2, o3, o4⟩ := hF.ok q0 hq0
        have hzn : zs ≠ [] := by
          refine hJz.2 ?_
          rcases hent q0.2.1 (by omega) with ⟨hno, _⟩ | ⟨q, hq, q1, q2, TQ, v1, v2, v3, bl, hTQ, hTm⟩
          · exact absurd ⟨hq1, rfl⟩ (hno q0 hq0)
          · exact ⟨q0.2.1, by rw [List.size_toArray]; omega, TQ, hTQ⟩
        cases zs with
        | nil => exact absurd rfl hzn
        | cons z0 zr =>
          obtain ⟨tz, rfl⟩ := hJz.1 z0 (.head _)
          change News g _ h₈ ((D7, listOf (List.toArray (.int (RS.getD i 0) tz :: zr)) _) :: _) at N₈
          have hzz : (List.toArray (Value.int (RS.getD i 0) tz :: zr))[(0 : Int).toNat]? = some (.int (RS.getD i 0) tz) := rfl
          clear F₆ N₆
          walk_at "go"
          refine CEnd.intro F₈ (news' := []) (news_sub N₈ fun q hq => .tail _ hq) (fun _ h => nomatch h) ?_
          rw [take_snocG (i := i) (v := RS.getD i 0) (by rw [List.getD_eq_getElem?_getD, List.getElem?_eq_getElem (show i < RS.length by omega)]; rfl)]
          exact ksk_snoc hJ
    · intro ds h₆ hJ D8 h₇ tk₇ F₇ N₇ off7
      rw [List.size_toArray, hysl] at hJ
      change News g _ h₇ ((D8, listOf (List.toArray ds) ds.length) :: _) at N₇
      generalize ds.length = c8 at N₇
      rw [List.append_nil] at N₇
      clear F' N'
      walk_at "go"
      rename IsRange _ _ _ _ _ _ _ _ => Rg
      rename Fr _ _ _ _ => F'
      rename News _ _ _ _ => N'
      rename IntsAre _ (List.take (RS.length - 1) RS ++ _) => hdv
      rename_i dA dv _ _ _ lD _ _ _ _ _ _ _ _ _
      have hRS : List.take (RS.length - 1) RS ++ [(vs.length : Int) - 1] = RS := by
        rw [show (vs.length : Int) - 1 = RS.getD (RS.length - 1) 0 by rw [FX.rl]; omega, ← take_snocG (v := RS.getD (RS.length - 1) 0) (by rw [List.getD_eq_getElem?_getD, List.getElem?_eq_getElem (show RS.length - 1 < RS.length by omega)]; rfl), show RS.length - 1 + 1 = RS.length by omega, List.take_length]
      rw [hRS] at hdv
      obtain ⟨_, _, _, ld1, ld2, ld3, ld4, _, ld5⟩ := lD
      have f8 : NE dA cA := NE.mk (Nat.ne_of_gt ld2)
      have hqk : ∀ x ∈ qs, x.1 < RS.length - 1 ∧ x.2.1 < CS.length - 1 := fun x hx => by have := hF.ok x hx; omega
      refine Hold.out ?_
      have hsz : Builtin.Range.rangeSize 0 (ys.length : Int) 1 = ((ys.length : Nat) : Int) := by rw [rangeSize_one]; split <;> omega
      refine range_run (n := ys.length) ["m"] (fun k u led => LJ cA [(dA, listOf (List.toArray dv) 0), (aA, listOf (List.toArray av) ca), (spec, listOf (List.toArray sv) c5), (body, listOf (List.toArray ys) c6)] rls tups RS CS qs k 0 led) rfl Rg (small_one (by omega) (by omega) (by omega) (by omega)) hsz F' (news_sub N' fun q hq => ?_) ⟨[], 0, [], [], rfl, ⟨rfl, fun i hi => absurd hi (Nat.not_lt_zero i)⟩, CellsTo.nil, fun _ h => nomatch h⟩ ?_ ?_
      · rw [List.append_nil] at hq
        rcases List.mem_cons.mp hq with rfl | hq
        · exact .tail _ (.tail _ (.tail _ (.tail _ (.tail _ (.head _)))))
        rcases List.mem_cons.mp hq with rfl | hq
        · exact .head _
        rcases List.mem_cons.mp hq with rfl | hq
        · exact .tail _ (.tail _ (.tail _ (.tail _ (.head _))))
        rcases List.mem_cons.mp hq with rfl | hq
        · exact .tail _ (.tail _ (.tail _ (.tail _ (.tail _ (.tail _ (.head _))))))
        rcases List.mem_cons.mp hq with rfl | hq
        · exact .tail _ (.tail _ (.tail _ (.tail _ (.tail _ (.tail _ (.tail _ (.head _)))))))
        exact .tail _ (.tail _ (.tail _ (.tail _ (.tail _ (.tail _ (.tail _ (.tail _ (.tail _ hq))))))))
      · rintro k t u₅ news₁ h₈ tk₈ I' ob hkn ⟨cl, cc, dn, tps, rfl, hT, hC, hne⟩ hoff F₈ N₈
        rw [show (0 : Int) + (k : Int) * 1 = k by omega] at F₈
        clear F' N' Rg hsz
        simp only [List.cons_append, List.nil_append] at N₈ hoff
        walk_at "kf"
        walk_at "go"
        rename IsRange _ _ _ _ _ _ _ _ => Rg
        rename Fr _ _ _ _ => F'
        rename News _ _ _ _ => N'
        obtain ⟨ra, oa, hroa⟩ : ∃ ra oa, rls[k]? = some (ra, oa) := ⟨_, _, List.getElem?_eq_getElem (show k < rls.length by omega)⟩
        obtain ⟨vals, cc9, eoa, hvl, hent⟩ := hM.obj k _ hroa
        dsimp only at eoa
        subst eoa
        have hraN : (ra, listOf (List.toArray vals) cc9) ∈ rls := List.mem_of_getElem? hroa
        have hyk : ys.toArray[((k : Nat) : Int).toNat]? = some (Value.ref ra) := by
          have : ys[k]? = some (.ref ra) := by rw [hM.refs, List.getElem?_map, hroa]; rfl
          simpa using this
        refine Hold.out ?_
        have hsz : Builtin.Range.rangeSize 0 (sv.length : Int) 1 = ((sv.length : Nat) : Int) := by rw [rangeSize_one]; split <;> omega
        refine range_run (n := sv.length) [] (fun m u led => ∃ led', led = (I', ob) :: led' ∧ LJ cA [(dA, listOf (List.toArray dv) 0), (aA, listOf (List.toArray av) ca), (spec, listOf (List.toArray sv) c5), (body, listOf (List.toArray ys) c6)] rls tups RS CS qs k m led' ∧ ∀ q ∈ led', q.1 ≠ I') rfl Rg (small_one (by omega) (by omega) (by omega) (by omega)) hsz F' N' ⟨_, rfl, ⟨cl, cc, dn, tps, rfl, hT, hC, hne⟩, hoff⟩ ?_ ?_
        · clear hT hC hne hoff F' N' Rg hsz
          rintro m t u₆ news₂ h₉ tk₉ I2 ob2 hmn ⟨led', rfl, ⟨cl, cc, dn, tps, rfl, hT, hC, hne⟩, hoI⟩ hoff2 F₉ N₉
          rw [show (0 : Int) + (m : Int) * 1 = m by omega] at F₉
          simp only [List.cons_append, List.nil_append] at N₉ hoI hoff2
          rcases hent m (by omega) with ⟨hno, hn1⟩ | ⟨q, hq, q1, q2, TQ, v1, v2, v3, bl, hTQ, hTm⟩
          · have hvm : (List.toArray vals)[((m : Nat) : Int).toNat]? = some Value.none := by simpa using hn1
            have N8 : News g _ h₉ ((ra, listOf (List.toArray vals) cc9) :: (I2, ob2) :: (I', ob) :: _) := fun q hq => by
              rcases List.mem_cons.mp hq with rfl | hq
              · exact N₉ _ (by simp only [List.mem_cons, List.mem_append, hraN, true_or, or_true])
              · exact N₉ q hq
            walk_at "kf"
            walk_at "go"
            exact Turned.next F₉ (news' := _) (news_sub N8 fun q hq => .tail _ hq) (fun q hq => not_one.mpr (hoff2 q hq)) (by walk_at "locals") ⟨_, rfl, ⟨cl, cc, dn, tps, rfl, hT, hC.skip hno, hne⟩, hoI⟩
          · subst q1
            subst q2
            obtain ⟨oo1, oo2, oo3, oo4⟩ := hF.ok q hq
            have hvm : (List.toArray vals)[((q.2.1 : Nat) : Int).toNat]? = some (.ref TQ) := by simpa using hTQ
            have N8 : News g _ h₉ ((TQ, tupOf [.int ((q.2.2.1 : Int) - q.1 - 1) v1, .int ((q.2.2.2 : Int) - q.2.1 - 1) v2, .int (RS.getD q.1 0 + 1) v3, .ref bl]) :: (ra, listOf (List.toArray vals) cc9) :: (I2, ob2) :: (I', ob) :: _) := fun q hq => by
              rcases List.mem_cons.mp hq with rfl | hq
              · exact N₉ _ (by simp only [List.mem_cons, List.mem_append, hTm, true_or, or_true])
              rcases List.mem_cons.mp hq with rfl | hq
              · exact N₉ _ (by simp only [List.mem_cons, List.mem_append, hraN, true_or, or_true])
              · exact N₉ q hq
            clear N₉
            generalize hRR : rls ++ (tups ++ tps) = RR at N8
            have gR : ∀ p ∈ RR, @Ne Nat p.1 cA := fun p hp => by
              rw [← hRR] at hp
              rcases List.mem_append.mp hp with h | h
              · exact gC p (List.mem_append_left _ h)
              · rcases List.mem_append.mp h with h | h
                · exact gC p (List.mem_append_right _ h)
                · exact hne p h
            have nTQ : NE cA TQ := NE.mk (Ne.symm (gC _ (List.mem_append_right _ hTm)))
            have nra : NE cA ra := NE.mk (Ne.symm (gC _ (List.mem_append_left _ hraN)))
            have nI' : NE cA I' := NE.mk (hoI _ (.head _))
            have nI2 : NE cA I2 := NE.mk (hoff2 _ (.tail _ (.head _)))
            have hcl60 : cl.length ≤ 60 := by have := hT.1; rw [List.length_map] at this; have := LJ.len hF hC; omega
            walk_at "kf"
            walk_at "go"
            rename Fr _ _ _ _ => F'
            rename News _ _ _ _ => N'
            rename (@LT.lt Nat _ TQ _) ∧ _ => lT
            obtain ⟨_, _, lI2, lI', lcA, _⟩ := lT
            have e1 : ((q.1 : Int) + ((q.2.2.1 : Int) - q.1 - 1) + 1).toNat = q.2.2.1 := by omega
            have e2 : ((q.2.1 : Int) + ((q.2.2.2 : Int) - q.2.1 - 1) + 1).toNat = q.2.2.2 := by omega
            rw [e1, e2, List.push_toArray] at N'
            subst hRR
            refine Turned.next F' (news' := _) (news_sub N' fun q hq => LJ_sub hq) (fun q hq => not_one.mpr ?_) (by walk_at "locals") ⟨_, rfl, LJ_add hT hC hne hq (fun y hy e e' => qd_inj TT hF hR62 hy hq e e') (Nat.ne_of_gt lcA), LJ_off hoI (Nat.ne_of_gt lI')⟩
            rcases List.mem_cons.mp hq with rfl | hq
            · exact hoff2 _ (.head _)
            · exact LJ_off (fun q hq => hoff2 q (.tail _ hq)) (Nat.ne_of_gt lI2) q hq
        · rintro u₆ news₂ h₉ tk₉ ⟨led', rfl, hLJ, hoI⟩ F₉ N₉
          clear F' N' Rg hsz
          walk_at "go"
          exact Turned.next F₉ (news' := led') N₉ (fun q hq => not_one.mpr (hoI q hq)) (by walk_at "locals") (LJ.row hLJ fun x hx => by have := (hqk x hx).2; omega)
      · rintro u₅ news₁ h₈ tk₈ ⟨cl, cc, dn, tps, rfl, hT, hC, hne⟩ F₈ N₈
        clear F' N' Rg hsz
        simp only [List.cons_append, List.nil_append] at N₈
        walk_at "go"
        rename Fr _ _ _ _ => F'
        rename News _ _ _ _ => N'
        have hperm := hC.all hF TT fun x hx => by have := (hqk x hx).1; omega
        have hpl := hperm.length_eq
        rw [List.length_map] at hpl
        refine Hold.out (sorted_tupsH (d := 4) F' N' (lst_news N' (.head _)) hT (fun q hq => ?_) (by decide) (fun r hr => ?_) (fun r hr => ?_) (by rw [hperm.length_eq, List.length_map]; omega) (by rw [hperm.length_eq, List.length_map]; omega) ?_)
        · exact .tail _ (.tail _ (.tail _ (.tail _ (.tail _ (List.mem_append_right _ (List.mem_append_right _ hq))))))
        · obtain ⟨p, hp, rfl⟩ := List.mem_map.mp (hperm.mem_iff.mp hr); rfl
        · obtain ⟨p, hp, rfl⟩ := List.mem_map.mp (hperm.mem_iff.mp hr)
          have hb := TT.box p hp
          intro z hz
          simp only [prow, List.mem_cons, List.not_mem_nil, or_false] at hz
          rcases hz with rfl | rfl | rfl | rfl <;> omega
        · intro D9 out rows' c9 h₉ F₉ N₉ _ hst9
          clear F' N'
          walk_at "go"
          exact Back.intro F₉ N₉ ⟨D9, out, rows', c9, rfl, .head _, ⟨hst9.tups.1, fun i hi => (hst9.tups.2 i hi).mono fun q hq => .tail _ (.tail _ (.tail _ (.tail _ (.tail _ (.tail _ (List.mem_append_right _ (List.mem_append_right _ hq)))))))⟩, hst9.perm.trans hperm, hst9.asc⟩
end Mine
end LC_part
section CT_part
open PySem PySem.W PyProof.Rows PySem.Calls
namespace Mine
local macro_rules | `(tactic| walk_at "zz0") => `(tactic| fail)
local macro_rules | `(tactic| walk_at "zz1") => `(tactic| fail)
local macro_rules | `(tactic| walk_at "zz2") => `(tactic| fail)
local macro_rules | `(tactic| walk_at "zz3") => `(tactic| fail)
local macro_rules | `(tactic| walk_at "zz4") => `(tactic| fail)
local macro_rules | `(tactic| walk_at "zz5") => `(tactic| fail)
local macro_rules | `(tactic| walk_at "zz6") => `(tactic| fail)
local macro_rules | `(tactic| walk_at "zz7") => `(tactic| fail)
local macro_rules | `(tactic| walk_at "zz8") => `(tactic| fail)
local macro_rules | `(tactic| walk_at "zz9") => `(tactic| fail)
local macro_rules | `(tactic| walk_at "zz10") => `(tactic| fail)
local macro_rules | `(tactic| walk_at "zz11") => `(tactic| fail)
local macro_rules | `(tactic| walk_at "zz12") => `(tactic| fail)
local macro_rules | `(tactic| walk_at "zz13") => `(tactic| fail)
local macro_rules | `(tactic| walk_at "zz14") => `(tactic| fail)
local macro_rules | `(tactic| walk_at "zz15") => `(tactic| fail)
local macro_rules | `(tactic| walk_at "zz16") => `(tactic| fail)
local macro_rules | `(tactic| walk_at "zz17") => `(tactic| fail)
local macro_rules | `(tactic| walk_at "zz18") => `(tactic| fail)
local macro_rules | `(tactic| walk_at "zz19") => `(tactic| fail)
local macro_rules | `(tactic| walk_at "zz20") => `(tactic| fail)
local macro_rules | `(tactic| walk_at "zz21") => `(tactic| fail)
local macro_rules | `(tactic| walk_at "zz22") => `(tactic| fail)
local macro_rules | `(tactic| walk_at "zz23") => `(tactic| fail)
local macro_rules | `(tactic| walk_at "zz24") => `(tactic| fail)
local macro_rules | `(tactic| walk_at "zz25") => `(tactic| fail)
local macro_rules | `(tactic| walk_at "zz26") => `(tactic| fail)
local macro_rules | `(tactic| walk_at "zz27") => `(tactic| fail)
local macro_rules | `(tactic| walk_at "zz28") => `(tactic| fail)
local macro_rules | `(tactic| walk_at "zz29") => `(tactic| fail)
local macro_rules | `(tactic| k_all) => `(tactic| assumption)
local macro_rules | `(tactic| walk_at "pyIter ref") => `(tactic| refine Hold.of ?_)
local macro_rules | `(tactic| walk_at "call ref") => `(tactic| refine Hold.of ?_)
local macro_rules | `(tactic| walk_at "exec For") => `(tactic| (with_unfolding_all refine' For_run ?_))
local macro_rules | `(tactic| walk_at "exec For Name Call cons nil") => `(tactic| (with_unfolding_all refine' For_run ?_))
local macro_rules | `(tactic| walk_at "exec For Tuple Call cons nil") => `(tactic| (with_unfolding_all refine' For_run ?_))
local macro_rules | `(tactic| walk_at "getAttr ref") => `(tactic| (k_dflt (refine' get_own ?k1 ?k2 (inst_up ?k3 (Fr.keep ?k1)) ?k4 ?k5 ?k6 ?k7 ?k8 ?k9 ?_; (case k1 => k_asm); (case k2 => k_asm); (case k3 => k_asm); (case k4 => k_is); (case k5 => k_is); (case k6 => k_is); (case k7 => k_is); (case k8 => k_asm); (case k9 => k_handed); k_whole)))
local macro_rules | `(tactic| walk_at "eval Name") => `(tactic| ((with_reducible show wpAny _ _ (eval _ (envOfC _ _ _ _ _)) _ _ _); k_dflt (refine' nameX_L ?F ?v ?_ ?a ?b ?d; (case F => k_asm); (case v => rfl); (case a => kernel_rfl); (case b => kernel_rfl); (case d => kernel_rfl); k_whole)))
local macro_rules | `(tactic| walk_at "eval Name") => `(tactic| ((with_reducible show wpAny _ _ (eval _ (envOf _ _ _ _ _)) _ _ _); k_dflt (refine' ld ?k1 ?k2 ?_ ?k3 ?k4 ?k5; (case k1 => k_asm); (case k2 => exact rfl); (case k3 => kernel_rfl); (case k4 => kernel_rfl); (case k5 => kernel_rfl); k_whole)))
local macro_rules | `(tactic| walk_at "Turned") => `(tactic| first | refine Turned.ret ?_ | refine Turned.brk ?_)
local macro_rules | `(tactic| walk_at "go") => `(tactic| repeat' (first | (k_unfold; (try dsimp only)) | walk1 | (dsimp only; walk1) | (dsimp only; k_unfold; (try dsimp only))))
local macro_rules | `(tactic| walk_at "kf") => `(tactic| ((with_reducible show wpAny _ _ _ _ _ _); k_fold))
local macro_rules | `(tactic| walk_at "locals") => `(tactic| (intro y h1 h2; simp only [List.mem_cons, List.not_mem_nil, or_false, not_or] at h1 h2; simp [h1, h2]))
local macro_rules | `(tactic| walk_at "eval ListComp") => `(tactic| (k_dflt (refine ListComp_runF (by k_asm) (by with_unfolding_all rfl) (by rfl) (by decide) ?_)))
local macro_rules | `(tactic| walk_at "exec Assign cons ListComp") => `(tactic| (k_dflt (refine Assign_ListComp_runF (by k_asm) (by with_unfolding_all rfl) (by with_unfolding_all rfl) (by rfl) (by decide) (by rfl) (by rfl) (by rfl) ?_)))
local macro_rules | `(tactic| walk_at "sub") => `(tactic| first | exact List.forall_mem_nil _ | refine List.forall_mem_cons.mpr ⟨by k_mem, by walk_at "sub"⟩)
local macro_rules | `(tactic| walk_at "hnd1") => `(tactic| first | exact apart_nil | refine apart_cons (by k_ne) (by walk_at "hnd1"))
local macro_rules | `(tactic| walk_at "hnd2") => `(tactic| first | exact Apart.nil | refine Apart.cons (by walk_at "hnd1") (by walk_at "hnd2"))
local macro_rules | `(tactic| walk_at "hnd") => `(tactic| exact Apart.nd (by walk_at "hnd2"))
local macro_rules | `(tactic| k_ne) => `(tactic| first | exact NE.out (by assumption) | exact NE.flip (by assumption) | (refine neN ?_; (try dsimp only); omega))
local macro_rules | `(tactic| walk_at "mem") => `(tactic| first | exact List.Mem.head _ | (refine List.Mem.tail _ ?_; walk_at "mem"))
local macro_rules | `(tactic| walk_at "assign Tuple") => `(tactic| (k_dflt (refine' unpackN_ ?k1 ?k2 ?k3 ?k4 ?k5 ?k6 ?_; (case k1 => k_asm); (case k2 => k_asm); (case k3 => assumption); (case k4 => exact rfl); (case k5 => exact rfl); (case k6 => exact rfl); k_whole); intro h' F' N'; (try k_sweep)))
local macro_rules | `(tactic| walk_at "DivisorWantsNonzero") => `(tactic| (show False; omega))
local macro_rules | `(tactic| walk_at "tups") => `(tactic| first | exact Tups.nil0 | refine Tups.cons0 (tupN4 (by walk_at "mem") (by first | rfl | assumption) (by first | rfl | assumption)) (by walk_at "tups"))
theorem law_cut {prog : Program} {w : World} {s : Shared} {g : Heap} {mg mb : Str → Option Value} {p : Program} {loose : List Str} {pa : Addr} {oT : Obj} {t l b r kd nm : Int} {u1 u2 u3 u4 u5 u6 : Tok} {n : Nat}
   (X : (hd.heap_39 w.params).In g) (T : TopRead p loose mg mb g) (S : St g s.heap []) (hpa : g.get? pa = some oT) (hc : oT.cls = .type "tuple") (hd' : oT.data = .seq #[.int t u1, .int l u2, .int b u3, .int r u4] n) (hn : 0 ≤ nm) (ht : 0 ≤ t) (hl : 0 ≤ l) (htb : t + 2 ≤ b) (hlr : l + 2 ≤ r) (hb : b ≤ 62) (hr : r ≤ 62) :
   codeAny (model prog w) (lv 900 5000) (.call (.ref 567) ⟨[.ref pa, .int kd u5, .int nm u6], []⟩) (Back g s (CutOut pa oT (cutP (t, l, b, r) kd nm))) s := by
  k_dflt (refine' enter (binds := [("part", .ref pa), ("kind", .int kd u5), ("number", .int nm u6)]) X T S ?k6 ?k7 ?k8 ?k9 ?kB ?_ ?c2 ?c3 ?c4 ?c5; (case k6 => k_is); (case k7 => k_is); (case k8 => decide); (case k9 => exact BindsTo.of_eq rfl); (case kB => exact locs rfl); (case c5 => decide); (case c2 => rfl); (case c3 => rfl); (case c4 => rfl))
  intro L h₁ F N
  have hpT : IsTup h₁ pa #[.int t u1, .int l u2, .int b u3, .int r u4] := ⟨oT, F.keep _ _ hpa, hc, n, hd'⟩
  have hf1 : 5 < r - l → 0 ≤ nm.fmod (r - l - 5) ∧ nm.fmod (r - l - 5) < r - l - 5 := fun h => fmod_in (by omega)
  have hf2 : 5 < b - t → 0 ≤ (nm.fdiv 16).fmod (b - t - 5) ∧ (nm.fdiv 16).fmod (b - t - 5) < b - t - 5 := fun h => fmod_in (by omega)
  walk_at "kf"
  walk_at "go"
  all_goals (rename Fr _ _ _ _ => F'; rename News _ _ _ _ => N')
  all_goals first
    | (exfalso; omega)
    | (refine Back.intro F' N' (CutOut.of (cutP_0 (by assumption) (by assumption)) ⟨_, _, _, rfl, .head _, by walk_at "tups"⟩); done)
    | (refine Back.intro F' N' (CutOut.of (cutP_1 (by assumption) (by assumption)) ⟨_, _, _, rfl, .head _, by walk_at "tups"⟩); done)
    | (refine Back.intro F' N' (CutOut.of (cutP_2 (by assumption) (by assumption) (by assumption)) ⟨_, _, _, rfl, .head _, by walk_at "tups"⟩); done)
    | (refine Back.intro F' N' (CutOut.of (cutP_n (by omega) (by omega) (by omega)) ⟨_, _, _, rfl, .head _, by walk_at "tups"⟩); done)
end Mine
end CT_part
section DR_part
open PySem PySem.W PyProof.Rows PySem.Calls
namespace Mine
local macro_rules | `(tactic| k_all) => `(tactic| assumption)
local macro_rules | `(tactic| walk_at "pyIter ref") => `(tactic| refine Hold.of ?_)
local macro_rules | `(tactic| walk_at "call ref") => `(tactic| refine Hold.of ?_)
local macro_rules | `(tactic| walk_at "exec For") => `(tactic| (with_unfolding_all refine' For_run ?_))
local macro_rules | `(tactic| walk_at "exec For Name Call cons nil") => `(tactic| (with_unfolding_all refine' For_run ?_))
local macro_rules | `(tactic| walk_at "exec For Tuple Call cons nil") => `(tactic| (with_unfolding_all refine' For_run ?_))
local macro_rules | `(tactic| walk_at "getAttr ref") => `(tactic| (k_dflt (refine' get_own ?k1 ?k2 (inst_up ?k3 (Fr.keep ?k1)) ?k4 ?k5 ?k6 ?k7 ?k8 ?k9 ?_; (case k1 => k_asm); (case k2 => k_asm); (case k3 => k_asm); (case k4 => k_is); (case k5 => k_is); (case k6 => k_is); (case k7 => k_is); (case k8 => k_asm); (case k9 => k_handed); k_whole)))
local macro_rules | `(tactic| walk_at "eval Name") => `(tactic| ((with_reducible show wpAny _ _ (eval _ (envOfC _ _ _ _ _)) _ _ _); k_dflt (refine' nameX_L ?F ?v ?_ ?a ?b ?d; (case F => k_asm); (case v => rfl); (case a => kernel_rfl); (case b => kernel_rfl); (case d => kernel_rfl); k_whole)))
local macro_rules | `(tactic| walk_at "eval Name") => `(tactic| ((with_reducible show wpAny _ _ (eval _ (envOf _ _ _ _ _)) _ _ _); k_dflt (refine' ld ?k1 ?k2 ?_ ?k3 ?k4 ?k5; (case k1 => k_asm); (case k2 => exact rfl); (case k3 => kernel_rfl); (case k4 => kernel_rfl); (case k5 => kernel_rfl); k_whole)))
local macro_rules | `(tactic| walk_at "Turned") => `(tactic| first | refine Turned.ret ?_ | refine Turned.brk ?_)
local macro_rules | `(tactic| walk_at "go") => `(tactic| repeat' (first | (k_unfold; (try dsimp only)) | walk1 | (dsimp only; walk1) | (dsimp only; k_unfold; (try dsimp only))))
local macro_rules | `(tactic| walk_at "kf") => `(tactic| ((with_reducible show wpAny _ _ _ _ _ _); k_fold))
local macro_rules | `(tactic| walk_at "locals") => `(tactic| (intro y h1 h2; simp only [List.mem_cons, List.not_mem_nil, or_false, not_or] at h1 h2; simp [h1, h2]))
local macro_rules | `(tactic| walk_at "eval ListComp") => `(tactic| (k_dflt (refine ListComp_runF (by k_asm) (by with_unfolding_all rfl) (by rfl) (by decide) ?_)))
local macro_rules | `(tactic| walk_at "exec Assign cons ListComp") => `(tactic| (k_dflt (refine Assign_ListComp_runF (by k_asm) (by with_unfolding_all rfl) (by with_unfolding_all rfl) (by rfl) (by decide) (by rfl) (by rfl) (by rfl) ?_)))
local macro_rules | `(tactic| walk_at "sub") => `(tactic| first | exact List.forall_mem_nil _ | refine List.forall_mem_cons.mpr ⟨by k_mem, by walk_at "sub"⟩)
local macro_rules | `(tactic| walk_at "hnd1") => `(tactic| first | exact apart_nil | refine apart_cons (by k_ne) (by walk_at "hnd1"))
local macro_rules | `(tactic| walk_at "hnd2") => `(tactic| first | exact Apart.nil | refine Apart.cons (by walk_at "hnd1") (by walk_at "hnd2"))
local macro_rules | `(tactic| walk_at "hnd") => `(tactic| exact Apart.nd (by walk_at "hnd2"))
local macro_rules | `(tactic| k_ne) => `(tactic| first | exact NE.out (by assumption) | exact NE.flip (by assumption) | (refine neN ?_; (try dsimp only); omega))
local macro_rules | `(tactic| walk_at "mem") => `(tactic| first | exact List.Mem.head _ | (refine List.Mem.tail _ ?_; walk_at "mem"))
local macro_rules | `(tactic| walk_at "lst") => `(tactic| first | exact lst_up (by assumption) (Fr.keep (by k_asm)) | exact lst_news (by k_asm) (by k_mem))
local macro_rules | `(tactic| walk_at "binaryOp Mult ref int") => `(tactic| (k_dflt (refine' KMa.mul (x := 16 + 1) (vs := [_]) (ws := List.replicate 17 _) ?F ?N ?l ?lo ?hi ?z ?e ?_; (case F => k_asm); (case N => k_asm); (case l => walk_at "lst"); (case lo => decide); (case hi => decide); (case z => (show _ ≤ _; simp)); (case e => exact rfl); k_whole); intro D' h' F' N' l1; (try k_lt l1); (try k_sweep)))
local macro_rules | `(tactic| walk_at "subscriptTail Name Name ref int") => `(tactic| (k_dflt (refine' item_listT ?l ?a ?b ?x ?_; (case l => walk_at "lst"); (case a => omega); (case b => omega); (case x => assumption))))
local macro_rules | `(tactic| walk_at "setItem ref int") => `(tactic| refine Hold.of ?_)
local macro_rules | `(tactic| walk_at "localsM") => `(tactic| (intro y h1 h2; simp only [List.map_cons, List.map_nil, List.mem_cons, List.not_mem_nil, or_false, not_or] at h1 h2; simp [h1, h2]))
local macro_rules | `(tactic| walk_at "call builtin:str.join") => `(tactic| (refine join_list (by walk_at "lst") (by assumption) (by assumption) ?_; intro _ _))
theorem law_drawn {prog : Program} {w : World} {s : Shared} {g : Heap} {mg mb : Str → Option Value} {p : Program} {loose : List Str} {pl : Addr} {vs : List Value} {u1 u2 : Tok} {held : List (Addr × Obj)} {ps : List Pt}
   (X : (hd.heap_39 w.params).In g) (T : TopRead p loose mg mb g) (S : St g s.heap []) (hpl : g.IsList pl vs.toArray) (hps : Tups g [] vs (ps.map prow)) (hl : ps.length ≤ 50) (hbox : ∀ p ∈ ps, 0 ≤ p.1 ∧ p.1 < p.2.2.1 ∧ p.2.2.1 ≤ 8 ∧ 0 ≤ p.2.1 ∧ p.2.1 < p.2.2.2 ∧ p.2.2.2 ≤ 16) :
   codeAny (model prog w) (lv 900 5000) (.call (.ref 572) ⟨[.ref pl, .int 8 u1, .int 16 u2], []⟩) (Back g s (RowsOut (drawnG ps))) s := by
  k_dflt (refine' enterC (binds := [("parts", .ref pl), ("bottom", .int 8 u1), ("right", .int 16 u2)]) X T S ?k6 ?k7 ?k8 ?k9 ?kB ?kD ?_ ?c2 ?c3 ?c4; (case k6 => k_is); (case k7 => k_is); (case k8 => decide); (case k9 => exact BindsTo.of_eq rfl); (case kB => rfl); (case kD => decide); (case c2 => rfl))
  intro L h₁ tk cells F N Y lt
  k_cells Y
  rename_i oc2 oc1 oh2 oh1
  dsimp only [List.cons_append, List.nil_append] at N
  walk_at "kf"
  walk_at "go"
  rename IsRange _ _ _ _ _ _ _ _ => Rg
  rename Fr _ _ _ _ => F'
  rename News _ _ _ _ => N'
  refine Hold.out ?_
  have hsz : Builtin.Range.rangeSize 0 (8 + 1) 1 = ((9 : Nat) : Int) := by rw [rangeSize_one]; rfl
  refine range_comp (fun i ys led => ∃ rls, led = (L + 1 + 1, oc2) :: (L + 1, oc1) :: rls ∧ SigR 17 (fun _ _ => 32) i ys rls ∧ ∀ p ∈ rls, @Ne Nat (L + 1 + 1) p.1 ∧ @Ne Nat (L + 1) p.1) rfl Rg (small_one (by omega) (by omega) (by omega) (by omega)) hsz (by rw [sizeLine_eq]; omega) F' N' ⟨[], rfl, SigR.nil, fun _ h => nomatch h⟩ ?_ ?_
  · rintro i t ys news₁ h tk I' ob C oC DD m₂ E' hi' ⟨rls, rfl, hS, ho⟩ hns hx hIC hID hCD hoff F N
    refine CBody.nil ?_
    clear F' N' Rg hsz
    walk_at "kf"
    walk_at "go"
    rename Fr _ _ _ _ => F'
    rename News _ _ _ _ => N'
    rename _ ∧ (@LT.lt Nat _ I' _) ∧ _ => lD
    obtain ⟨_, l1, l2, l3, l4, l5, l6⟩ := lD
    exact dr_row F' N' l1 l2 l3 l4 l5 l6 hoff hS ho
  · rintro ys news₁ h ⟨rls, rfl, hS, ho⟩ D h' tk' F N off
    change News g _ h' ((D, listOf (List.toArray ys) ys.length) :: _) at N
    generalize ys.length = c6 at N
    have kk1 : ∀ p ∈ rls, @Ne Nat p.1 (L + 1 + 1) := fun p hp => Ne.symm (ho p hp).1
    have kk2 : ∀ p ∈ rls, @Ne Nat p.1 (L + 1) := fun p hp => Ne.symm (ho p hp).2
    have kk3 : ∀ p ∈ rls, @Ne Nat p.1 D := fun p hp => off p (.tail _ (.tail _ hp))
    have nD1 : NE D (L + 1 + 1) := NE.mk (Ne.symm (off _ (.head _)))
    have nD2 : NE D (L + 1) := NE.mk (Ne.symm (off _ (.tail _ (.head _))))
    clear F' N' Rg hsz
    walk_at "go"
    rename Fr _ _ _ _ => F'
    rename News _ _ _ _ => N'
    rename Obj.data _ = Data.cell (some (Value.ref D)) => hcS
    rename_i oS
    obtain ⟨Ts, vals, hTs⟩ := tups_choose hps
    have hvl : vs.length = ps.length := by have := hps.1; rw [List.length_map] at this; exact this
    have hit : ∀ j, j < vs.toArray.size → vs.toArray[j]? = some (Value.ref (Ts j)) := fun j hj => by
      rw [List.size_toArray] at hj
      have := (hTs j _ (List.getElem?_eq_getElem (show j < ps.length by omega))).1
      simpa using this
    have htp : ∀ j, j < vs.toArray.size → g.IsTuple (Ts j) (vals j) := fun j hj => by
      rw [List.size_toArray] at hj
      exact (hTs j _ (List.getElem?_eq_getElem (show j < ps.length by omega))).2.1
    have hlen4 : ∀ j, j < vs.toArray.size → (vals j).size = 4 := fun j hj => by
      rw [List.size_toArray] at hj
      obtain ⟨u1, u2, u3, u4, hxs⟩ := (hTs j _ (List.getElem?_eq_getElem (show j < ps.length by omega))).2.2
      rw [hxs]; rfl
    refine Hold.out ?_
    refine tuples_run (xs := [(Str.ofString "top", _), (Str.ofString "left", _), (Str.ofString "low", _), (Str.ofString "far", _)]) (Ts := Ts) (vals := vals) ["k"] (fun i u led => ∃ rls, led = [(D, listOf (List.toArray ys) c6), (L + 1 + 1, oS), (L + 1, oc1)] ++ rls ∧ SigR 17 (f1 (ps.take i)) 9 ys rls ∧ ∀ p ∈ rls, ∀ q ∈ [(D, listOf (List.toArray ys) c6), (L + 1 + 1, oS), (L + 1, oc1)], @Ne Nat q.1 p.1) rfl hpl hit htp hlen4 F' N' ⟨rls, rfl, hS, fun p hp q hq => ?_⟩ ?_ ?_ (hx := List.forall_mem_cons.mpr ⟨rfl, List.forall_mem_cons.mpr ⟨rfl, List.forall_mem_cons.mpr ⟨rfl, List.forall_mem_cons.mpr ⟨rfl, fun _ h => nomatch h⟩⟩⟩⟩)
    · simp only [List.mem_cons, List.not_mem_nil, or_false] at hq
      rcases hq with rfl | rfl | rfl
      · exact Ne.symm (kk3 p hp)
      · exact (ho p hp).1
      · exact (ho p hp).2
    · clear hS ho off kk1 kk2 kk3 F' N'
      rintro i u₃ news₁ h tk I' ob hin ⟨rls, rfl, hS, ho⟩ hoff F N
      rw [List.size_toArray] at hin
      obtain ⟨q, hqi⟩ : ∃ q, ps[i]? = some q := ⟨_, List.getElem?_eq_getElem (show i < ps.length by omega)⟩
      obtain ⟨hvi, htu, w1, w2, w3, w4, hxs⟩ := hTs i q hqi
      obtain ⟨b1, b2, b3, b4, b5, b6⟩ := hbox q (List.mem_of_getElem? hqi)
      rw [hxs] at F
      dsimp only [List.map, List.zip, List.zipWith, bindNames] at F
      simp only [List.cons_append, List.nil_append] at N hoff
      walk_at "kf"
      walk_at "go"
      rename IsRange _ _ _ _ _ _ _ _ => Rg
      rename Fr _ _ _ _ => F'
      rename News _ _ _ _ => N'
      refine Hold.out ?_
      have hsz : Builtin.Range.rangeSize q.2.1 q.2.2.2 1 = (((q.2.2.2 - q.2.1).toNat : Nat) : Int) := by rw [rangeSize_one]; split <;> omega
      obtain ⟨ra, va, ca, hra, hya, -, -, -⟩ := hS.row (a := q.1) (by omega) (by omega)
      obtain ⟨rb, vb, cb, hrb, hyb, -, -, -⟩ := hS.row (a := q.2.2.1) (by omega) (by omega)
      have hI1 : ∀ z ∈ [(D, listOf (List.toArray ys) c6), (L + 1 + 1, oS), (L + 1, oc1)], z.1 ≠ I' := fun z hz => hoff z (by
        simp only [List.mem_cons, List.not_mem_nil, or_false] at hz ⊢
        rcases hz with h | h | h <;> simp only [h, true_or, or_true])
      refine range_run (n := (q.2.2.2 - q.2.1).toNat) [] (fun m u led => ∃ rls, led = [(I', ob), (D, listOf (List.toArray ys) c6), (L + 1 + 1, oS), (L + 1, oc1)] ++ rls ∧ SigR 17 (g1 ps (ps.take i) q m) 9 ys rls ∧ ∀ p ∈ rls, ∀ q ∈ [(I', ob), (D, listOf (List.toArray ys) c6), (L + 1 + 1, oS), (L + 1, oc1)], @Ne Nat q.1 p.1) rfl Rg (small_one (by omega) (by omega) (by omega) (by omega)) hsz F' N' ⟨rls, rfl, hS.congr fun i j _ _ => g1_0 i j, fun p hp z hz => ?_⟩ ?_ ?_
      · rcases List.mem_cons.mp hz with rfl | hz
        · exact Ne.symm (hoff p (.tail _ (.tail _ (.tail _ hp))))
        · exact ho p hp z hz
      · clear F' N' Rg hsz hra hrb hS ho hoff
        rintro m t u₅ news₂ h₅ tk₅ I2 ob2 hm ⟨rls, rfl, hS, ho⟩ hoff2 F N
        rw [show q.2.1 + (m : Int) * 1 = q.2.1 + m by omega] at F
        simp only [List.cons_append, List.nil_append] at N
        walk_at "kf"
        walk_at "go"
        rename Fr _ _ _ _ => F'
        rename News _ _ _ _ => N'
        have ho5 : ∀ p ∈ rls, ∀ q ∈ [(I2, ob2), (I', ob), (D, listOf (List.toArray ys) c6), (L + 1 + 1, oS), (L + 1, oc1)], @Ne Nat q.1 p.1 := fun p hp z hz => by
          rcases List.mem_cons.mp hz with rfl | hz
          · exact Ne.symm (hoff2 p (List.mem_append_right _ hp))
          · exact ho p hp z hz
        refine Hold.out (set_sig (hs := [(I2, ob2), (I', ob), (D, listOf (List.toArray ys) c6), (L + 1 + 1, oS), (L + 1, oc1)]) (k := (q.2.1 + m).toNat) F' (news_sub N' fun q hq => .tail _ hq) lit_minus hS ho5 (by omega) (by omega) hya (by omega) (by omega) (by decide) ?_)
        intro h₆ rls₂ F₆ N₆ hS₂ ho₂
        clear F' N' ho5
        simp only [List.cons_append, List.nil_append] at N₆
        walk_at "go"
        rename Fr _ _ _ _ => F'
        rename News _ _ _ _ => N'
        refine Hold.out (set_sig (hs := [(I2, ob2), (I', ob), (D, listOf (List.toArray ys) c6), (L + 1 + 1, oS), (L + 1, oc1)]) (k := (q.2.1 + m).toNat) F' N' lit_minus hS₂ ho₂ (by omega) (by omega) hyb (by omega) (by omega) (by decide) ?_)
        intro h₇ rls₃ F₇ N₇ hS₃ ho₃
        clear F' N'
        simp only [List.cons_append, List.nil_append] at N₇
        walk_at "go"
        refine Turned.next F₇ (news' := [(I', ob), (D, listOf (List.toArray ys) c6), (L + 1 + 1, oS), (L + 1, oc1)] ++ rls₃) N₇ (fun z hz => not_one.mpr ?_) (by walk_at "locals") ⟨rls₃, rfl, hS₃.congr fun i j _ _ => g1_step (by omega) (by omega) (by omega) i j, fun p hp z hz => ho₃ p hp z (.tail _ hz)⟩
        rcases List.mem_append.mp hz with hz | hz
        · exact hoff2 z (List.mem_append_left _ hz)
        · exact Ne.symm (ho₃ z hz _ (.head _))
      · rintro u₅ news₂ h₅ tk₅ ⟨rls, rfl, hS, ho⟩ F N
        clear F' N' Rg hsz
        simp only [List.cons_append, List.nil_append] at N
        walk_at "go"
        refine Turned.next F (news' := [(D, listOf (List.toArray ys) c6), (L + 1 + 1, oS), (L + 1, oc1)] ++ rls) N (fun z hz => not_one.mpr ?_) (by walk_at "localsM") ⟨rls, rfl, hS.congr fun i' j _ _ => by rw [take_snocG hqi]; exact g1_end (by omega) i' j, fun p hp z hz => ho p hp z (.tail _ hz)⟩
        rcases List.mem_append.mp hz with hz | hz
        · exact hI1 z hz
        · exact Ne.symm (ho z hz _ (.head _))
    · rintro u₃ news₁ h₂ tk₂ ⟨rls, rfl, hS, ho⟩ F₂ N₂
      rw [List.size_toArray, hvl, List.take_length] at hS
      clear F' N'
      simp only [List.cons_append, List.nil_append] at N₂
      walk_at "go"
      rename Fr _ _ _ _ => F'
      rename News _ _ _ _ => N'
      refine Hold.out ?_
      refine tuples_run (xs := [(Str.ofString "top", _), (Str.ofString "left", _), (Str.ofString "low", _), (Str.ofString "far", _)]) (Ts := Ts) (vals := vals) ["k"] (fun i u led => ∃ rls, led = [(D, listOf (List.toArray ys) c6), (L + 1 + 1, oS), (L + 1, oc1)] ++ rls ∧ SigR 17 (f2 ps (ps.take i)) 9 ys rls ∧ ∀ p ∈ rls, ∀ q ∈ [(D, listOf (List.toArray ys) c6), (L + 1 + 1, oS), (L + 1, oc1)], @Ne Nat q.1 p.1) rfl hpl hit htp hlen4 F' N' ⟨rls, rfl, hS, ho⟩ ?_ ?_ (hx := List.forall_mem_cons.mpr ⟨rfl, List.forall_mem_cons.mpr ⟨rfl, List.forall_mem_cons.mpr ⟨rfl, List.forall_mem_cons.mpr ⟨rfl, fun _ h => nomatch h⟩⟩⟩⟩)
      · clear hS ho F' N'
        rintro i u₃ news₁ h tk I' ob hin ⟨rls, rfl, hS, ho⟩ hoff F N
        rw [List.size_toArray] at hin
        obtain ⟨q, hqi⟩ : ∃ q, ps[i]? = some q := ⟨_, List.getElem?_eq_getElem (show i < ps.length by omega)⟩
        obtain ⟨hvi, htu, w1, w2, w3, w4, hxs⟩ := hTs i q hqi
        obtain ⟨b1, b2, b3, b4, b5, b6⟩ := hbox q (List.mem_of_getElem? hqi)
        rw [hxs] at F
        dsimp only [List.map, List.zip, List.zipWith, bindNames] at F
        simp only [List.cons_append, List.nil_append] at N hoff
        have hI1 : ∀ z ∈ [(D, listOf (List.toArray ys) c6), (L + 1 + 1, oS), (L + 1, oc1)], z.1 ≠ I' := fun z hz => hoff z (by
          simp only [List.mem_cons, List.not_mem_nil, or_false] at hz ⊢
          rcases hz with h | h | h <;> simp only [h, true_or, or_true])
        have ho4 : ∀ p ∈ rls, ∀ q ∈ [(I', ob), (D, listOf (List.toArray ys) c6), (L + 1 + 1, oS), (L + 1, oc1)], @Ne Nat q.1 p.1 := fun p hp z hz => by
          rcases List.mem_cons.mp hz with rfl | hz
          · exact Ne.symm (hoff p (.tail _ (.tail _ (.tail _ hp))))
          · exact ho p hp z hz
        walk_at "kf"
        walk_at "go"
        rename IsRange _ _ _ _ _ _ _ _ => Rg
        rename Fr _ _ _ _ => F'
        rename News _ _ _ _ => N'
        refine Hold.out ?_
        have hsz : Builtin.Range.rangeSize q.1 q.2.2.1 1 = (((q.2.2.1 - q.1).toNat : Nat) : Int) := by rw [rangeSize_one]; split <;> omega
        refine range_run (n := (q.2.2.1 - q.1).toNat) [] (fun m u led => ∃ rls, led = [(I', ob), (D, listOf (List.toArray ys) c6), (L + 1 + 1, oS), (L + 1, oc1)] ++ rls ∧ SigR 17 (g2 ps (ps.take i) q m) 9 ys rls ∧ ∀ p ∈ rls, ∀ q ∈ [(I', ob), (D, listOf (List.toArray ys) c6), (L + 1 + 1, oS), (L + 1, oc1)], @Ne Nat q.1 p.1) rfl Rg (small_one (by omega) (by omega) (by omega) (by omega)) hsz F' N' ⟨rls, rfl, hS.congr fun i j _ _ => g2_0 i j, ho4⟩ ?_ ?_
        · clear F' N' Rg hsz hS ho hoff ho4
          rintro m t u₅ news₂ h₅ tk₅ I2 ob2 hm ⟨rls, rfl, hS, ho⟩ hoff2 F N
          rw [show q.1 + (m : Int) * 1 = q.1 + m by omega] at F
          simp only [List.cons_append, List.nil_append] at N
          obtain ⟨ra, va, ca, hra, hya, -, -, -⟩ := hS.row (a := q.1 + m) (by omega) (by omega)
          walk_at "kf"
          walk_at "go"
          rename Fr _ _ _ _ => F'
          rename News _ _ _ _ => N'
          have ho5 : ∀ p ∈ rls, ∀ q ∈ [(I2, ob2), (I', ob), (D, listOf (List.toArray ys) c6), (L + 1 + 1, oS), (L + 1, oc1)], @Ne Nat q.1 p.1 := fun p hp z hz => by
            rcases List.mem_cons.mp hz with rfl | hz
            · exact Ne.symm (hoff2 p (List.mem_append_right _ hp))
            · exact ho p hp z hz
          refine Hold.out (set_sig (hs := [(I2, ob2), (I', ob), (D, listOf (List.toArray ys) c6), (L + 1 + 1, oS), (L + 1, oc1)]) (k := q.2.1.toNat) F' (news_sub N' fun q hq => .tail _ hq) lit_bar hS ho5 (by omega) (by omega) hya (by omega) (by omega) (by decide) ?_)
          intro h₆ rls₂ F₆ N₆ hS₂ ho₂
          clear F' N' ho5
          simp only [List.cons_append, List.nil_append] at N₆
          walk_at "go"
          rename Fr _ _ _ _ => F'
          rename News _ _ _ _ => N'
          refine Hold.out (set_sig (hs := [(I2, ob2), (I', ob), (D, listOf (List.toArray ys) c6), (L + 1 + 1, oS), (L + 1, oc1)]) (k := q.2.2.2.toNat) F' N' lit_bar hS₂ ho₂ (by omega) (by omega) hya (by omega) (by omega) (by decide) ?_)
          intro h₇ rls₃ F₇ N₇ hS₃ ho₃
          clear F' N'
          simp only [List.cons_append, List.nil_append] at N₇
          walk_at "go"
          refine Turned.next F₇ (news' := [(I', ob), (D, listOf (List.toArray ys) c6), (L + 1 + 1, oS), (L + 1, oc1)] ++ rls₃) N₇ (fun z hz => not_one.mpr ?_) (by walk_at "locals") ⟨rls₃, rfl, hS₃.congr fun i j _ _ => g2_step (by omega) (by omega) (by omega) i j, fun p hp z hz => ho₃ p hp z (.tail _ hz)⟩
          rcases List.mem_append.mp hz with hz | hz
          · exact hoff2 z (List.mem_append_left _ hz)
          · exact Ne.symm (ho₃ z hz _ (.head _))
        · rintro u₅ news₂ h₅ tk₅ ⟨rls, rfl, hS, ho⟩ F N
          clear F' N' Rg hsz
          simp only [List.cons_append, List.nil_append] at N
          walk_at "go"
          refine Turned.next F (news' := [(D, listOf (List.toArray ys) c6), (L + 1 + 1, oS), (L + 1, oc1)] ++ rls) N (fun z hz => not_one.mpr ?_) (by walk_at "localsM") ⟨rls, rfl, hS.congr fun i' j _ _ => by rw [take_snocG hqi]; exact g2_end (by omega) i' j, fun p hp z hz => ho p hp z (.tail _ hz)⟩
          rcases List.mem_append.mp hz with hz | hz
          · exact hI1 z hz
          · exact Ne.symm (ho z hz _ (.head _))
      · rintro u₃ news₁ h₂ tk₂ ⟨rls, rfl, hS, ho⟩ F₂ N₂
        rw [List.size_toArray, hvl, List.take_length] at hS
        clear F' N'
        simp only [List.cons_append, List.nil_append] at N₂
        walk_at "go"
        rename Fr _ _ _ _ => F'
        rename News _ _ _ _ => N'
        refine Hold.out ?_
        refine tuples_run (xs := [(Str.ofString "top", _), (Str.ofString "left", _), (Str.ofString "low", _), (Str.ofString "far", _)]) (Ts := Ts) (vals := vals) ["k"] (fun i u led => ∃ rls, led = [(D, listOf (List.toArray ys) c6), (L + 1 + 1, oS), (L + 1, oc1)] ++ rls ∧ SigR 17 (f3 ps (ps.take i)) 9 ys rls ∧ ∀ p ∈ rls, ∀ q ∈ [(D, listOf (List.toArray ys) c6), (L + 1 + 1, oS), (L + 1, oc1)], @Ne Nat q.1 p.1) rfl hpl hit htp hlen4 F' N' ⟨rls, rfl, hS, ho⟩ ?_ ?_ (hx := List.forall_mem_cons.mpr ⟨rfl, List.forall_mem_cons.mpr ⟨rfl, List.forall_mem_cons.mpr ⟨rfl, List.forall_mem_cons.mpr ⟨rfl, fun _ h => nomatch h⟩⟩⟩⟩)
        · clear hS ho F' N'
          rintro i u₃ news₁ h tk I' ob hin ⟨rls, rfl, hS, ho⟩ hoff F N
          rw [List.size_toArray] at hin
          obtain ⟨q, hqi⟩ : ∃ q, ps[i]? = some q := ⟨_, List.getElem?_eq_getElem (show i < ps.length by omega)⟩
          obtain ⟨hvi, htu, w1, w2, w3, w4, hxs⟩ := hTs i q hqi
          obtain ⟨b1, b2, b3, b4, b5, b6⟩ := hbox q (List.mem_of_getElem? hqi)
          rw [hxs] at F
          dsimp only [List.map, List.zip, List.zipWith, bindNames] at F
          simp only [List.cons_append, List.nil_append] at N hoff
          have hI1 : ∀ z ∈ [(D, listOf (List.toArray ys) c6), (L + 1 + 1, oS), (L + 1, oc1)], z.1 ≠ I' := fun z hz => hoff z (by
            simp only [List.mem_cons, List.not_mem_nil, or_false] at hz ⊢
            rcases hz with h | h | h <;> simp only [h, true_or, or_true])
          have ho4 : ∀ p ∈ rls, ∀ q ∈ [(I', ob), (D, listOf (List.toArray ys) c6), (L + 1 + 1, oS), (L + 1, oc1)], @Ne Nat q.1 p.1 := fun p hp z hz => by
            rcases List.mem_cons.mp hz with rfl | hz
            · exact Ne.symm (hoff p (.tail _ (.tail _ (.tail _ hp))))
            · exact ho p hp z hz
          obtain ⟨ra, va, ca, hra, hya, -, -, -⟩ := hS.row (a := q.1) (by omega) (by omega)
          obtain ⟨rb, vb, cb, hrb, hyb, -, -, -⟩ := hS.row (a := q.2.2.1) (by omega) (by omega)
          clear hra hrb
          walk_at "kf"
          walk_at "go"
          rename Fr _ _ _ _ => F'
          rename News _ _ _ _ => N'
          refine Hold.out (set_sig (hs := [(I', ob), (D, listOf (List.toArray ys) c6), (L + 1 + 1, oS), (L + 1, oc1)]) (k := q.2.1.toNat) F' (news_sub N' fun q hq => .tail _ hq) lit_plus hS ho4 (by omega) (by omega) hya (by omega) (by omega) (by decide) ?_)
          intro h₆ rls₂ F₆ N₆ hS₂ ho₂
          clear F' N' ho4
          simp only [List.cons_append, List.nil_append] at N₆
          walk_at "go"
          rename Fr _ _ _ _ => F'
          rename News _ _ _ _ => N'
          refine Hold.out (set_sig (hs := [(I', ob), (D, listOf (List.toArray ys) c6), (L + 1 + 1, oS), (L + 1, oc1)]) (k := q.2.2.2.toNat) F' N' lit_plus hS₂ ho₂ (by omega) (by omega) hya (by omega) (by omega) (by decide) ?_)
          intro h₇ rls₃ F₇ N₇ hS₃ ho₃
          clear F' N'
          simp only [List.cons_append, List.nil_append] at N₇
          walk_at "go"
          rename Fr _ _ _ _ => F'
          rename News _ _ _ _ => N'
          refine Hold.out (set_sig (hs := [(I', ob), (D, listOf (List.toArray ys) c6), (L + 1 + 1, oS), (L + 1, oc1)]) (k := q.2.1.toNat) F' N' lit_plus hS₃ ho₃ (by omega) (by omega) hyb (by omega) (by omega) (by decide) ?_)
          intro h₈ rls₄ F₈ N₈ hS₄ ho₄
          clear F' N'
          simp only [List.cons_append, List.nil_append] at N₈
          walk_at "go"
          rename Fr _ _ _ _ => F'
          rename News _ _ _ _ => N'
          refine Hold.out (set_sig (hs := [(I', ob), (D, listOf (List.toArray ys) c6), (L + 1 + 1, oS), (L + 1, oc1)]) (k := q.2.2.2.toNat) F' N' lit_plus hS₄ ho₄ (by omega) (by omega) hyb (by omega) (by omega) (by decide) ?_)
          intro h₉ rls₅ F₉ N₉ hS₅ ho₅
          clear F' N'
          simp only [List.cons_append, List.nil_append] at N₉
          walk_at "go"
          refine Turned.next F₉ (news' := [(D, listOf (List.toArray ys) c6), (L + 1 + 1, oS), (L + 1, oc1)] ++ rls₅) N₉ (fun z hz => not_one.mpr ?_) (by walk_at "localsM") ⟨rls₅, rfl, hS₅.congr fun i' j _ _ => by rw [take_snocG hqi]; exact g3_end (by omega) (by omega) (by omega) (by omega) i' j, fun p hp z hz => ho₅ p hp z (.tail _ hz)⟩
          rcases List.mem_append.mp hz with hz | hz
          · exact hI1 z hz
          · exact Ne.symm (ho₅ z hz _ (.head _))
        · rintro u₃ news₁ h₂ tk₂ ⟨rls, rfl, hS, ho⟩ F₂ N₂
          rw [List.size_toArray, hvl, List.take_length] at hS
          clear F' N'
          simp only [List.cons_append, List.nil_append] at N₂
          walk_at "go"
          rename IsRange _ _ _ _ _ _ _ _ => Rg
          rename Fr _ _ _ _ => F'
          rename News _ _ _ _ => N'
          refine Hold.out ?_
          have hsz : Builtin.Range.rangeSize 0 (8 + 1) 1 = ((9 : Nat) : Int) := by rw [rangeSize_one]; rfl
          refine range_compS (fun i zs => StrsAre zs ((List.range i).map fun i => tx (rowG ps i))) rfl Rg (small_one (by omega) (by omega) (by omega) (by omega)) hsz (by rw [sizeLine_eq]; omega) F' N' .nil ?_ ?_
          · intro i t zs h tk I' ob C oC DD m₂ E' hi hJ hns hx hIC hID hCD hoff F N
            rw [show (0 : Int) + (i : Int) * 1 = i by omega] at hx
            obtain ⟨ra, vals', cc, hra, hmem, hstr⟩ := hS.strs (a := i) (by omega)
            have N3 : News g _ h ((ra, listOf (List.toArray vals') cc) :: (I', ob) :: (C, oC) :: (DD, LCg.lst zs) :: _) := fun q hq => by
              rcases List.mem_cons.mp hq with rfl | hq
              · exact N _ (.tail _ (.tail _ (.tail _ (.tail _ (.tail _ (.tail _ hmem))))))
              · exact N q hq
            refine CBody.nil ?_
            clear F' N' Rg hsz N
            have hfit := chrs_fit ((List.range 17).map (f3 ps ps i)) (by simp)
            walk_at "kf"
            walk_at "go"
            rename Fr _ _ _ _ => F'
            rename News _ _ _ _ => N'
            refine CEnd.same F' N' (fun q hq => .tail _ hq) hoff ?_
            have e : (List.range (i + 1)).map (fun i => tx (rowG ps i)) = (List.range i).map (fun i => tx (rowG ps i)) ++ [tx (rowG ps i)] := by rw [List.range_succ, List.map_append]; rfl
            rw [join_chr, e]
            exact kct_snoc (y := tx (rowG ps i)) hJ
          · intro zs h hJ D4 h' tk' F N off
            change News g _ h' ((D4, listOf (List.toArray zs) zs.length) :: _) at N
            clear F' N' Rg hsz
            walk_at "go"
            have e9 : (drawnG ps).map tx = (List.range 9).map fun i => tx (rowG ps i) := by unfold drawnG; rw [List.map_map]; rfl
            exact Back.intro F N ⟨D4, zs, _, rfl, .head _, by rw [e9]; exact hJ⟩
end Mine
end DR_part
section Tu1_part
open PySem PySem.W PyProof.Rows PySem.Calls
namespace Mine
structure Splits (p : Pt) (qs : List Pt) : Prop where
  box : ∀ q ∈ qs, p.1 ≤ q.1 ∧ q.1 + 2 ≤ q.2.2.1 ∧ q.2.2.1 ≤ p.2.2.1 ∧ p.2.1 ≤ q.2.1 ∧ q.2.1 + 2 ≤ q.2.2.2 ∧ q.2.2.2 ≤ p.2.2.2
  cover : ∀ i j, In p i j → ∃ q ∈ qs, In q i j
  uniq : ∀ q ∈ qs, ∀ q' ∈ qs, ∀ i j, In q i j → In q' i j → q = q'
  nodup : qs.Nodup
theorem Splits.tiling {B R : Int} {a b qs : List Pt} {p : Pt} (T : Tiling B R (a ++ p :: b)) (S : Splits p qs) : Tiling B R (a ++ qs ++ b) := by
  have hp : p ∈ a ++ p :: b := List.mem_append_right _ (.head _)
  have hpb := T.box p hp
  have hnd := T.nodup
  have old : ∀ x, x ∈ a ++ qs ++ b → (x ∈ a ++ p :: b ∧ x ≠ p) ∨ x ∈ qs := fun x hx => by
    rw [List.nodup_append, List.nodup_cons] at hnd
    obtain ⟨_, ⟨n1, _⟩, n2⟩ := hnd
    rcases List.mem_append.mp hx with hx | hx
    · rcases List.mem_append.mp hx with hx | hx
      · exact .inl ⟨List.mem_append_left _ hx, n2 x hx p (.head _)⟩
      · exact .inr hx
    · exact .inl ⟨List.mem_append_right _ (.tail _ hx), fun e => n1 (e ▸ hx)⟩
  have up : ∀ q ∈ qs, ∀ i j, In q i j → In p i j := fun q hq i j h => by
    have := S.box q hq
    unfold In at *
    omega
  refine ⟨fun q hq => ?_, fun i j h1 h2 h3 h4 => ?_, fun q hq q' hq' i j h h' => ?_, ?_⟩
  · rcases old q hq with ⟨hq, _⟩ | hq
    · exact T.box q hq
    · have := S.box q hq; omega
  · obtain ⟨q, hq, hi⟩ := T.cover i j h1 h2 h3 h4
    rcases List.mem_append.mp hq with hq | hq
    · exact ⟨q, List.mem_append_left _ (List.mem_append_left _ hq), hi⟩
    rcases List.mem_cons.mp hq with rfl | hq
    · obtain ⟨q', hq', hi'⟩ := S.cover i j hi
      exact ⟨q', List.mem_append_left _ (List.mem_append_right _ hq'), hi'⟩
    · exact ⟨q, List.mem_append_right _ hq, hi⟩
  · rcases old q hq with ⟨hq, n⟩ | hq <;> rcases old q' hq' with ⟨hq', n'⟩ | hq'
    · exact T.uniq q hq q' hq' i j h h'
    · exact absurd (T.uniq q hq p hp i j h (up q' hq' i j h')) n
    · exact absurd (T.uniq q' hq' p hp i j h' (up q hq i j h)) n'
    · exact S.uniq q hq q' hq' i j h h'
  · have dis : ∀ x ∈ qs, ∀ y, y ∈ a ++ p :: b → y ≠ p → x ≠ y := fun x hx y hy hyp e => by
      subst e
      have hb := S.box x hx
      have h1 : In x x.1 x.2.1 := by unfold In; omega
      exact hyp (T.uniq x hy p hp _ _ h1 (up x hx _ _ h1))
    rw [List.nodup_append, List.nodup_cons] at hnd
    obtain ⟨na, ⟨n1, nb⟩, n2⟩ := hnd
    rw [List.nodup_append, List.nodup_append]
    refine ⟨⟨na, S.nodup, fun x hx y hy => Ne.symm (dis y hy x (List.mem_append_left _ hx) (n2 x hx p (.head _)))⟩, nb, fun x hx y hy => ?_⟩
    rcases List.mem_append.mp hx with hx | hx
    · exact n2 x hx y (.tail _ hy)
    · exact dis x hx y (List.mem_append_right _ (.tail _ hy)) fun e => n1 (e ▸ hy)
theorem splits_one {t l b r : Int} (h1 : t + 2 ≤ b) (h2 : l + 2 ≤ r) : Splits (t, l, b, r) [(t, l, b, r)] := by
  refine ⟨fun q hq => ?_, fun i j h => ⟨_, .head _, h⟩, fun q hq q' hq' i j _ _ => ?_, by simp⟩
  · rw [List.mem_singleton.mp hq]; dsimp only; omega
  · rw [List.mem_singleton.mp hq, List.mem_singleton.mp hq']
theorem splits_v {t l b r x : Int} (h1 : t + 2 ≤ b) (h2 : l + 2 ≤ x) (h3 : x + 2 ≤ r) : Splits (t, l, b, r) [(t, l, b, x), (t, x, b, r)] := by
  refine ⟨fun q hq => ?_, fun i j h => ?_, fun q hq q' hq' i j h h' => ?_, ?_⟩
  · simp only [List.mem_cons, List.not_mem_nil, or_false] at hq
    rcases hq with rfl | rfl <;> dsimp only <;> omega
  · unfold In at h; dsimp only at h
    by_cases hj : j < x
    · exact ⟨_, .head _, by unfold In; dsimp only; omega⟩
    · exact ⟨_, .tail _ (.head _), by unfold In; dsimp only; omega⟩
  · simp only [List.mem_cons, List.not_mem_nil, or_false] at hq hq'
    unfold In at h h'
    rcases hq with rfl | rfl <;> rcases hq' with rfl | rfl <;> dsimp only at h h' <;> first | rfl | (exfalso; omega)
  · simp only [List.nodup_cons, List.mem_cons, List.not_mem_nil, or_false, Prod.mk.injEq, not_false_eq_true, List.nodup_nil, and_true]
    omega
theorem splits_h {t l b r x : Int} (h1 : t + 2 ≤ x) (h2 : l + 2 ≤ r) (h3 : x + 2 ≤ b) : Splits (t, l, b, r) [(t, l, x, r), (x, l, b, r)] := by
  refine ⟨fun q hq => ?_, fun i j h => ?_, fun q hq q' hq' i j h h' => ?_, ?_⟩
  · simp only [List.mem_cons, List.not_mem_nil, or_false] at hq
    rcases hq with rfl | rfl <;> dsimp only <;> omega
  · unfold In at h; dsimp only at h
    by_cases hj : i < x
    · exact ⟨_, .head _, by unfold In; dsimp only; omega⟩
    · exact ⟨_, .tail _ (.head _), by unfold In; dsimp only; omega⟩
  · simp only [List.mem_cons, List.not_mem_nil, or_false] at hq hq'
    unfold In at h h'
    rcases hq with rfl | rfl <;> rcases hq' with rfl | rfl <;> dsimp only at h h' <;> first | rfl | (exfalso; omega)
  · simp only [List.nodup_cons, List.mem_cons, List.not_mem_nil, or_false, Prod.mk.injEq, not_false_eq_true, List.nodup_nil, and_true]
    omega
theorem splits_5 {t l b r one two up lo : Int} (h1 : l + 2 ≤ one) (h2 : one + 2 ≤ two) (h3 : two + 2 ≤ r) (h4 : t + 2 ≤ up) (h5 : up + 2 ≤ lo) (h6 : lo + 2 ≤ b) :
    Splits (t, l, b, r) [(t, l, up, two), (t, two, lo, r), (lo, one, b, r), (up, l, b, one), (up, one, lo, two)] := by
  refine ⟨fun q hq => ?_, fun i j h => ?_, fun q hq q' hq' i j h h' => ?_, ?_⟩
  · simp only [List.mem_cons, List.not_mem_nil, or_false] at hq
    rcases hq with rfl | rfl | rfl | rfl | rfl <;> dsimp only <;> omega
  · unfold In at h; dsimp only at h
    by_cases c1 : i < up ∧ j < two
    · exact ⟨_, .head _, by unfold In; dsimp only; omega⟩
    by_cases c2 : i < lo ∧ two ≤ j
    · exact ⟨_, .tail _ (.head _), by unfold In; dsimp only; omega⟩
    by_cases c3 : lo ≤ i ∧ one ≤ j
    · exact ⟨_, .tail _ (.tail _ (.head _)), by unfold In; dsimp only; omega⟩
    by_cases c4 : up ≤ i ∧ j < one
    · exact ⟨_, .tail _ (.tail _ (.tail _ (.head _))), by unfold In; dsimp only; omega⟩
    · exact ⟨_, .tail _ (.tail _ (.tail _ (.tail _ (.head _)))), by unfold In; dsimp only; omega⟩
  · simp only [List.mem_cons, List.not_mem_nil, or_false] at hq hq'
    unfold In at h h'
    rcases hq with rfl | rfl | rfl | rfl | rfl <;> rcases hq' with rfl | rfl | rfl | rfl | rfl <;> dsimp only at h h' <;> first | rfl | (exfalso; omega)
  · simp only [List.nodup_cons, List.mem_cons, List.not_mem_nil, or_false, Prod.mk.injEq, not_false_eq_true, List.nodup_nil, and_true]
    omega
theorem cutP_splits {p : Pt} {kd nm : Int} (h1 : p.1 + 2 ≤ p.2.2.1) (h2 : p.2.1 + 2 ≤ p.2.2.2) : Splits p (cutP p kd nm) := by
  obtain ⟨t, l, b, r⟩ := p
  dsimp only at h1 h2
  by_cases c0 : kd = 0 ∧ 3 < r - l
  · rw [cutP_0 c0.1 c0.2]
    have := fmod_in (a := nm) (b := r - l - 3) (by omega)
    exact splits_v h1 (by omega) (by omega)
  by_cases c1 : kd = 1 ∧ 3 < b - t
  · rw [cutP_1 c1.1 c1.2]
    have := fmod_in (a := nm) (b := b - t - 3) (by omega)
    exact splits_h (by omega) h2 (by omega)
  by_cases c2 : kd = 2 ∧ 5 < r - l ∧ 5 < b - t
  · rw [cutP_2 c2.1 c2.2.1 c2.2.2]
    have f1 := fmod_in (a := nm) (b := r - l - 5) (by omega)
    have f2 := fmod_in (a := nm.fdiv 16) (b := b - t - 5) (by omega)
    have f3 := fmod_in (a := nm.fdiv 8) (b := r - (l + 2 + nm.fmod (r - l - 5)) - 3) (by omega)
    have f4 := fmod_in (a := nm.fdiv 32) (b := b - (t + 2 + (nm.fdiv 16).fmod (b - t - 5)) - 3) (by omega)
    exact splits_5 (by omega) (by omega) (by omega) (by omega) (by omega) (by omega)
  · rw [cutP_n c0 c1 c2]
    exact splits_one h1 h2
theorem cutP_len (p : Pt) (kd nm : Int) : 1 ≤ (cutP p kd nm).length ∧ (cutP p kd nm).length ≤ 5 := by
  unfold cutP
  split
  · simp
  · split
    · simp
    · split <;> simp
theorem cutP_box {kd nm : Int} (h0 : 0 ≤ kd) (h3 : kd < 3) : 2 ≤ (cutP (0, 0, 8, 16) kd nm).length := by
  have : kd = 0 ∨ kd = 1 ∨ kd = 2 := by omega
  rcases this with rfl | rfl | rfl
  · rw [cutP_0 rfl (by decide)]; simp
  · rw [cutP_1 rfl (by decide)]; simp
  · rw [cutP_2 rfl (by decide) (by decide)]; simp
theorem tiling_box : Tiling 8 16 [(0, 0, 8, 16)] := by
  refine ⟨fun p hp => ?_, fun i j h1 h2 h3 h4 => ⟨_, .head _, by unfold In; dsimp only; omega⟩, fun p hp q hq i j _ _ => by rw [List.mem_singleton.mp hp, List.mem_singleton.mp hq], by simp⟩
  rw [List.mem_singleton.mp hp]; dsimp only; omega
theorem sgn_is (ps : List Pt) (i j : Int) : sgn ps i j = 32 ∨ sgn ps i j = 43 ∨ sgn ps i j = 45 ∨ sgn ps i j = 124 := by
  unfold sgn; split
  · exact .inr (.inl rfl)
  · split
    · exact .inr (.inr (.inr rfl))
    · split
      · exact .inr (.inr (.inl rfl))
      · exact .inl rfl
def gridOf (f : Nat → Nat → Nat) (H W : Nat) : List (List Nat) := (List.range H).map fun i => (List.range W).map (f i)
theorem gridOf_at {f : Nat → Nat → Nat} {H W : Nat} {i j : Int} (h1 : 0 ≤ i) (h2 : i < H) (h3 : 0 ≤ j) (h4 : j < W) : gch (gridOf f H W) i j = f i.toNat j.toNat := by
  unfold gch gridOf
  have e : ((List.range H).map fun i => (List.range W).map (f i)).getD i.toNat [] = (List.range W).map (f i.toNat) := by
    rw [List.getD_eq_getElem?_getD, List.getElem?_map, List.getElem?_range (by omega)]; rfl
  rw [e, List.getD_eq_getElem?_getD, List.getElem?_map, List.getElem?_range (by omega)]; rfl
theorem gridOf_drawn {f : Nat → Nat → Nat} {H W : Nat} {B R : Int} {ps : List Pt} (hH : (H : Int) = B + 1) (hW : (W : Int) = R + 1) (h : ∀ i j : Nat, i < H → j < W → f i j = sgn ps i j) : Drawn (gridOf f H W) B R ps := by
  refine ⟨by unfold gridOf; simp [hH], fun r hr => ?_, fun i j h1 h2 h3 h4 => ?_⟩
  · obtain ⟨i, _, rfl⟩ := List.mem_map.mp hr
    simp [hW]
  · rw [gridOf_at h1 (by omega) h3 (by omega), h _ _ (by omega) (by omega)]
    congr 1 <;> omega
theorem drawnG_drawn (ps : List Pt) : Drawn (drawnG ps) 8 16 ps := gridOf_drawn (f := fun i j => sgn ps i j) (H := 9) (W := 17) rfl rfl fun _ _ _ _ => rfl
end Mine
end Tu1_part
section Tu2_part
open PySem PySem.W PyProof.Rows PySem.Calls
namespace Mine
theorem sumL_add {α : Type} (l : List α) (f g : α → Int) : sumL l (fun x => f x + g x) = sumL l f + sumL l g := by
  induction l with
  | nil => rfl
  | cons x l ih => simp only [sumL, ih]; omega
theorem sumR_ind {n : Nat} {l r : Int} (h0 : 0 ≤ l) (hlr : l ≤ r) (hr : r ≤ n) : sumR n (fun j => if l ≤ (j : Int) ∧ (j : Int) < r then 1 else 0) = r - l := by
  have h := sumR_between (n := n) (c := l.toNat) (d := r.toNat) (by omega) (by omega) 1
  rw [Int.mul_one] at h
  have e : ((r.toNat : Nat) : Int) - (l.toNat : Nat) = r - l := by omega
  rw [← e, ← h]
  refine sumR_congr fun j _ => ?_
  by_cases c : l ≤ (j : Int) ∧ (j : Int) < r
  · rw [if_pos c, if_pos (by omega)]
  · rw [if_neg c, if_neg (by omega)]
theorem sumL_ex {α : Type} {l : List α} {P : α → Prop} [DecidablePred P] (hn : l.Nodup) (hu : ∀ y ∈ l, ∀ z ∈ l, P y → P z → y = z) {b : Bool} (hb : b = true ↔ ∃ x ∈ l, P x) : sumL l (fun y => if P y then (1 : Int) else 0) = if b = true then 1 else 0 := by
  by_cases h : ∃ x ∈ l, P x
  · obtain ⟨x, hx, hP⟩ := h
    rw [if_pos (hb.mpr ⟨x, hx, hP⟩)]
    exact sumL_one hn hx hP fun y hy hPy => hu y hy x hx hPy hP
  · rw [if_neg fun c => h (hb.mp c)]
    exact sumL_none fun y hy hP => h ⟨y, hy, hP⟩
def trP (p : Pt) : Pt := (p.2.1, p.1, p.2.2.2, p.2.2.1)
def lrP (R : Int) (p : Pt) : Pt := (p.1, R - p.2.2.2, p.2.2.1, R - p.2.1)
def udP (B : Int) (p : Pt) : Pt := (B - p.2.2.1, p.2.1, B - p.1, p.2.2.2)
theorem nodup_map {α β : Type} {f : α → β} (hf : ∀ a b, f a = f b → a = b) {l : List α} (h : l.Nodup) : (l.map f).Nodup := List.Pairwise.map f (fun a b hab e => hab (hf a b e)) h
theorem trP_inj (a b : Pt) (h : trP a = trP b) : a = b := by
  obtain ⟨a1, a2, a3, a4⟩ := a
  obtain ⟨b1, b2, b3, b4⟩ := b
  simp only [trP, Prod.mk.injEq] at h ⊢
  omega
theorem lrP_inj (R : Int) (a b : Pt) (h : lrP R a = lrP R b) : a = b := by
  obtain ⟨a1, a2, a3, a4⟩ := a
  obtain ⟨b1, b2, b3, b4⟩ := b
  simp only [lrP, Prod.mk.injEq] at h ⊢
  omega
theorem udP_inj (B : Int) (a b : Pt) (h : udP B a = udP B b) : a = b := by
  obtain ⟨a1, a2, a3, a4⟩ := a
  obtain ⟨b1, b2, b3, b4⟩ := b
  simp only [udP, Prod.mk.injEq] at h ⊢
  omega
section
variable {B R : Int} {ps : List Pt} (T : Tiling B R ps)
include T
theorem Tiling.tr : Tiling R B (ps.map trP) := by
  refine ⟨fun q hq => ?_, fun i j h1 h2 h3 h4 => ?_, fun q hq q' hq' i j h h' => ?_, nodup_map trP_inj T.nodup⟩
  · obtain ⟨p, hp, rfl⟩ := List.mem_map.mp hq
    have := T.box p hp; unfold trP; dsimp only; omega
  · obtain ⟨p, hp, hi⟩ := T.cover j i h3 h4 h1 h2
    exact ⟨trP p, List.mem_map_of_mem hp, by unfold In trP at *; dsimp only; omega⟩
  · obtain ⟨p, hp, rfl⟩ := List.mem_map.mp hq
    obtain ⟨p', hp', rfl⟩ := List.mem_map.mp hq'
    rw [T.uniq p hp p' hp' j i (by unfold In trP at *; dsimp only at *; omega) (by unfold In trP at *; dsimp only at *; omega)]
theorem Tiling.lr : Tiling B R (ps.map (lrP R)) := by
  refine ⟨fun q hq => ?_, fun i j h1 h2 h3 h4 => ?_, fun q hq q' hq' i j h h' => ?_, nodup_map (lrP_inj R) T.nodup⟩
  · obtain ⟨p, hp, rfl⟩ := List.mem_map.mp hq
    have := T.box p hp; unfold lrP; dsimp only; omega
  · obtain ⟨p, hp, hi⟩ := T.cover i (R - 1 - j) h1 h2 (by omega) (by omega)
    exact ⟨lrP R p, List.mem_map_of_mem hp, by unfold In lrP at *; dsimp only; omega⟩
  · obtain ⟨p, hp, rfl⟩ := List.mem_map.mp hq
    obtain ⟨p', hp', rfl⟩ := List.mem_map.mp hq'
    rw [T.uniq p hp p' hp' i (R - 1 - j) (by unfold In lrP at *; dsimp only at *; omega) (by unfold In lrP at *; dsimp only at *; omega)]
theorem Tiling.ud : Tiling B R (ps.map (udP B)) := by
  refine ⟨fun q hq => ?_, fun i j h1 h2 h3 h4 => ?_, fun q hq q' hq' i j h h' => ?_, nodup_map (udP_inj B) T.nodup⟩
  · obtain ⟨p, hp, rfl⟩ := List.mem_map.mp hq
    have := T.box p hp; unfold udP; dsimp only; omega
  · obtain ⟨p, hp, hi⟩ := T.cover (B - 1 - i) j (by omega) (by omega) h3 h4
    exact ⟨udP B p, List.mem_map_of_mem hp, by unfold In udP at *; dsimp only; omega⟩
  · obtain ⟨p, hp, rfl⟩ := List.mem_map.mp hq
    obtain ⟨p', hp', rfl⟩ := List.mem_map.mp hq'
    rw [T.uniq p hp p' hp' (B - 1 - i) j (by unfold In udP at *; dsimp only at *; omega) (by unfold In udP at *; dsimp only at *; omega)]
theorem Tiling.balance {y : Int} (h0 : 0 < y) (hB : y < B) (hR : 0 ≤ R) : sumL ps (fun p => if p.1 = y then p.2.2.2 - p.2.1 else 0) = sumL ps (fun p => if p.2.2.1 = y then p.2.2.2 - p.2.1 else 0) := by
  have e1 : ∀ f : Pt → Int, sumL ps (fun p => if f p = y then p.2.2.2 - p.2.1 else 0) = sumR R.toNat fun j => sumL ps fun p => if f p = y ∧ p.2.1 ≤ (j : Int) ∧ (j : Int) < p.2.2.2 then 1 else 0 := fun f => by
    rw [← sumL_swap]
    refine sumL_congr fun p hp => ?_
    have hb := T.box p hp
    by_cases c : f p = y
    · rw [if_pos c, ← sumR_ind (n := R.toNat) (l := p.2.1) (r := p.2.2.2) (by omega) (by omega) (by omega)]
      refine sumR_congr fun j _ => ?_
      by_cases cj : p.2.1 ≤ (j : Int) ∧ (j : Int) < p.2.2.2
      · rw [if_pos cj, if_pos ⟨c, cj⟩]
      · rw [if_neg cj, if_neg fun x => cj x.2]
    · rw [if_neg c]
      exact ((sumR_congr (g := fun _ => 0) fun j _ => if_neg fun x => c x.1).trans (sumR_zero _)).symm
  rw [e1 (fun p => p.1), e1 (fun p => p.2.2.1)]
  refine sumR_congr fun j hj => ?_
  have key : (∃ p ∈ ps, p.1 = y ∧ p.2.1 ≤ (j : Int) ∧ (j : Int) < p.2.2.2) ↔ ∃ p ∈ ps, p.2.2.1 = y ∧ p.2.1 ≤ (j : Int) ∧ (j : Int) < p.2.2.2 := by
    constructor
    · rintro ⟨p, hp, e, a, b⟩
      have hb := T.box p hp
      obtain ⟨u, hu, hi⟩ := T.cover (y - 1) j (by omega) (by omega) (by omega) (by omega)
      have hub := T.box u hu
      unfold In at hi
      refine ⟨u, hu, ?_, by omega⟩
      apply Classical.byContradiction
      intro hne
      have := T.same hu hp y j (by omega) (by omega) (by omega) (by omega) (by omega) (by omega) (by omega) (by omega)
      subst this; omega
    · rintro ⟨p, hp, e, a, b⟩
      have hb := T.box p hp
      obtain ⟨u, hu, hi⟩ := T.cover y j (by omega) (by omega) (by omega) (by omega)
      have hub := T.box u hu
      unfold In at hi
      refine ⟨u, hu, ?_, by omega⟩
      apply Classical.byContradiction
      intro hne
      have := T.same hu hp (y - 1) j (by omega) (by omega) (by omega) (by omega) (by omega) (by omega) (by omega) (by omega)
      subst this; omega
  have hc : ∃ b : Bool, b = true ↔ ∃ p ∈ ps, p.1 = y ∧ p.2.1 ≤ (j : Int) ∧ (j : Int) < p.2.2.2 := ⟨ps.any fun p => decide (p.1 = y ∧ p.2.1 ≤ (j : Int) ∧ (j : Int) < p.2.2.2), by simp [List.any_eq_true]⟩
  obtain ⟨b, hb⟩ := hc
  rw [sumL_ex (P := fun p : Pt => p.1 = y ∧ p.2.1 ≤ (j : Int) ∧ (j : Int) < p.2.2.2) T.nodup (fun p hp q hq a b => ?_) hb, sumL_ex (P := fun p : Pt => p.2.2.1 = y ∧ p.2.1 ≤ (j : Int) ∧ (j : Int) < p.2.2.2) T.nodup (fun p hp q hq a b => ?_) (hb.trans key)]
  · have h1 := T.box p hp
    have h2 := T.box q hq
    exact T.same hp hq (y - 1) j (by omega) (by omega) (by omega) (by omega) (by omega) (by omega) (by omega) (by omega)
  · have h1 := T.box p hp
    have h2 := T.box q hq
    exact T.same hp hq y j (by omega) (by omega) (by omega) (by omega) (by omega) (by omega) (by omega) (by omega)
end
end Mine
end Tu2_part
section Tu3_part
open PySem PySem.W PyProof.Rows PySem.Calls
namespace Mine
def hw (ps : List Pt) (i j : Int) : Bool := ps.any (horP · i j)
def vw (ps : List Pt) (i j : Int) : Bool := ps.any (vertP · i j)
theorem hw_iff {ps : List Pt} {i j : Int} : hw ps i j = true ↔ ∃ p ∈ ps, (i = p.1 ∨ i = p.2.2.1) ∧ p.2.1 ≤ j ∧ j < p.2.2.2 := by
  unfold hw; rw [List.any_eq_true]
  exact ⟨fun ⟨p, hp, h⟩ => ⟨p, hp, horP_iff.mp h⟩, fun ⟨p, hp, h⟩ => ⟨p, hp, horP_iff.mpr h⟩⟩
theorem vw_iff {ps : List Pt} {i j : Int} : vw ps i j = true ↔ ∃ p ∈ ps, (j = p.2.1 ∨ j = p.2.2.2) ∧ p.1 ≤ i ∧ i < p.2.2.1 := by
  unfold vw; rw [List.any_eq_true]
  exact ⟨fun ⟨p, hp, h⟩ => ⟨p, hp, vertP_iff.mp h⟩, fun ⟨p, hp, h⟩ => ⟨p, hp, vertP_iff.mpr h⟩⟩
section
variable {B R : Int} {ps : List Pt} (T : Tiling B R ps)
include T
theorem Tiling.tl {i j : Int} : (hw ps i j && vw ps i j) = true ↔ ∃ p ∈ ps, p.1 = i ∧ p.2.1 = j := by
  rw [Bool.and_eq_true, hw_iff, vw_iff]
  constructor
  · rintro ⟨⟨p, hp, a, b⟩, ⟨q, hq, c, d⟩⟩
    have hpb := T.box p hp; have hqb := T.box q hq
    obtain ⟨u, hu, hi⟩ := T.cover i j (by omega) (by omega) (by omega) (by omega)
    have hub := T.box u hu
    unfold In at hi
    refine ⟨u, hu, ?_, ?_⟩
    · apply Classical.byContradiction
      intro hne
      rcases a with a | a
      · have := T.same hu hp i j (by omega) (by omega) (by omega) (by omega) (by omega) (by omega) (by omega) (by omega)
        subst this; omega
      · have := T.same hu hp (i - 1) j (by omega) (by omega) (by omega) (by omega) (by omega) (by omega) (by omega) (by omega)
        subst this; omega
    · apply Classical.byContradiction
      intro hne
      rcases c with c | c
      · have := T.same hu hq i j (by omega) (by omega) (by omega) (by omega) (by omega) (by omega) (by omega) (by omega)
        subst this; omega
      · have := T.same hu hq i (j - 1) (by omega) (by omega) (by omega) (by omega) (by omega) (by omega) (by omega) (by omega)
        subst this; omega
  · rintro ⟨p, hp, rfl, rfl⟩
    have hpb := T.box p hp
    exact ⟨⟨p, hp, .inl rfl, by omega⟩, ⟨p, hp, .inl rfl, by omega⟩⟩
theorem Tiling.tr' {i j : Int} : (hw ps i (j - 1) && vw ps i j) = true ↔ ∃ p ∈ ps, p.1 = i ∧ p.2.2.2 = j := by
  rw [Bool.and_eq_true, hw_iff, vw_iff]
  constructor
  · rintro ⟨⟨p, hp, a, b⟩, ⟨q, hq, c, d⟩⟩
    have hpb := T.box p hp; have hqb := T.box q hq
    obtain ⟨u, hu, hi⟩ := T.cover i (j - 1) (by omega) (by omega) (by omega) (by omega)
    have hub := T.box u hu
    unfold In at hi
    refine ⟨u, hu, ?_, ?_⟩
    · apply Classical.byContradiction
      intro hne
      rcases a with a | a
      · have := T.same hu hp i (j - 1) (by omega) (by omega) (by omega) (by omega) (by omega) (by omega) (by omega) (by omega)
        subst this; omega
      · have := T.same hu hp (i - 1) (j - 1) (by omega) (by omega) (by omega) (by omega) (by omega) (by omega) (by omega) (by omega)
        subst this; omega
    · apply Classical.byContradiction
      intro hne
      rcases c with c | c
      · have := T.same hu hq i j (by omega) (by omega) (by omega) (by omega) (by omega) (by omega) (by omega) (by omega)
        subst this; omega
      · have := T.same hu hq i (j - 1) (by omega) (by omega) (by omega) (by omega) (by omega) (by omega) (by omega) (by omega)
        subst this; omega
  · rintro ⟨p, hp, rfl, rfl⟩
    have hpb := T.box p hp
    exact ⟨⟨p, hp, .inl rfl, by omega⟩, ⟨p, hp, .inr rfl, by omega⟩⟩
theorem Tiling.bl {i j : Int} : (hw ps i j && vw ps (i - 1) j) = true ↔ ∃ p ∈ ps, p.2.2.1 = i ∧ p.2.1 = j := by
  rw [Bool.and_eq_true, hw_iff, vw_iff]
  constructor
  · rintro ⟨⟨p, hp, a, b⟩, ⟨q, hq, c, d⟩⟩
    have hpb := T.box p hp; have hqb := T.box q hq
    obtain ⟨u, hu, hi⟩ := T.cover (i - 1) j (by omega) (by omega) (by omega) (by omega)
    have hub := T.box u hu
    unfold In at hi
    refine ⟨u, hu, ?_, ?_⟩
    · apply Classical.byContradiction
      intro hne
      rcases a with a | a
      · have := T.same hu hp i j (by omega) (by omega) (by omega) (by omega) (by omega) (by omega) (by omega) (by omega)
        subst this; omega
      · have := T.same hu hp (i - 1) j (by omega) (by omega) (by omega) (by omega) (by omega) (by omega) (by omega) (by omega)
        subst this; omega
    · apply Classical.byContradiction
      intro hne
      rcases c with c | c
      · have := T.same hu hq (i - 1) j (by omega) (by omega) (by omega) (by omega) (by omega) (by omega) (by omega) (by omega)
        subst this; omega
      · have := T.same hu hq (i - 1) (j - 1) (by omega) (by omega) (by omega) (by omega) (by omega) (by omega) (by omega) (by omega)
        subst this; omega
  · rintro ⟨p, hp, rfl, rfl⟩
    have hpb := T.box p hp
    exact ⟨⟨p, hp, .inr rfl, by omega⟩, ⟨p, hp, .inl rfl, by omega⟩⟩
theorem Tiling.br {i j : Int} : (hw ps i (j - 1) && vw ps (i - 1) j) = true ↔ ∃ p ∈ ps, p.2.2.1 = i ∧ p.2.2.2 = j := by
  rw [Bool.and_eq_true, hw_iff, vw_iff]
  constructor
  · rintro ⟨⟨p, hp, a, b⟩, ⟨q, hq, c, d⟩⟩
    have hpb := T.box p hp; have hqb := T.box q hq
    obtain ⟨u, hu, hi⟩ := T.cover (i - 1) (j - 1) (by omega) (by omega) (by omega) (by omega)
    have hub := T.box u hu
    unfold In at hi
    refine ⟨u, hu, ?_, ?_⟩
    · apply Classical.byContradiction
      intro hne
      rcases a with a | a
      · have := T.same hu hp i (j - 1) (by omega) (by omega) (by omega) (by omega) (by omega) (by omega) (by omega) (by omega)
        subst this; omega
      · have := T.same hu hp (i - 1) (j - 1) (by omega) (by omega) (by omega) (by omega) (by omega) (by omega) (by omega) (by omega)
        subst this; omega
    · apply Classical.byContradiction
      intro hne
      rcases c with c | c
      · have := T.same hu hq (i - 1) j (by omega) (by omega) (by omega) (by omega) (by omega) (by omega) (by omega) (by omega)
        subst this; omega
      · have := T.same hu hq (i - 1) (j - 1) (by omega) (by omega) (by omega) (by omega) (by omega) (by omega) (by omega) (by omega)
        subst this; omega
  · rintro ⟨p, hp, rfl, rfl⟩
    have hpb := T.box p hp
    exact ⟨⟨p, hp, .inr rfl, by omega⟩, ⟨p, hp, .inr rfl, by omega⟩⟩
theorem Tiling.noLeft {i j : Int} (h1 : 0 ≤ i) (h2 : i ≤ B) (h3 : 0 < j) (h4 : j ≤ R) (hB : 0 < B) (h : ¬ (hw ps i (j - 1) = true)) : ∃ u ∈ ps, u.1 < i ∧ i < u.2.2.1 ∧ u.2.1 ≤ j - 1 ∧ j - 1 < u.2.2.2 := by
  rw [hw_iff] at h
  by_cases hi : i < B
  · obtain ⟨u, hu, hin⟩ := T.cover i (j - 1) (by omega) (by omega) (by omega) (by omega)
    unfold In at hin
    refine ⟨u, hu, ?_, by omega, by omega, by omega⟩
    apply Classical.byContradiction
    intro hne
    exact h ⟨u, hu, .inl (by omega), by omega⟩
  · obtain ⟨u, hu, hin⟩ := T.cover (i - 1) (j - 1) (by omega) (by omega) (by omega) (by omega)
    have hub := T.box u hu
    unfold In at hin
    exact absurd ⟨u, hu, .inr (by omega), by omega⟩ h
theorem Tiling.noUp {i j : Int} (h1 : 0 < i) (h2 : i ≤ B) (h3 : 0 ≤ j) (h4 : j ≤ R) (hR : 0 < R) (h : ¬ (vw ps (i - 1) j = true)) : ∃ u ∈ ps, u.2.1 < j ∧ j < u.2.2.2 ∧ u.1 ≤ i - 1 ∧ i - 1 < u.2.2.1 := by
  rw [vw_iff] at h
  by_cases hj : j < R
  · obtain ⟨u, hu, hin⟩ := T.cover (i - 1) j (by omega) (by omega) (by omega) (by omega)
    unfold In at hin
    refine ⟨u, hu, ?_, by omega, by omega, by omega⟩
    apply Classical.byContradiction
    intro hne
    exact h ⟨u, hu, .inl (by omega), by omega⟩
  · obtain ⟨u, hu, hin⟩ := T.cover (i - 1) (j - 1) (by omega) (by omega) (by omega) (by omega)
    have hub := T.box u hu
    unfold In at hin
    exact absurd ⟨u, hu, .inr (by omega), by omega⟩ h
theorem Tiling.cornerL {u q : Pt} {i x : Int} (hu : u ∈ ps) (hq : q ∈ ps) (h1 : u.1 < i) (h2 : i < u.2.2.1) (h3 : u.2.1 ≤ x) (h4 : x < u.2.2.2) (a : i = q.1 ∨ i = q.2.2.1) (b : x = q.2.1 ∨ x = q.2.2.2) : u.2.1 = x := by
  have hub := T.box u hu; have hqb := T.box q hq
  apply Classical.byContradiction
  intro hne
  have : u = q := by
    rcases a with a | a <;> rcases b with b | b
    · exact T.same hu hq i x (by omega) (by omega) (by omega) (by omega) (by omega) (by omega) (by omega) (by omega)
    · exact T.same hu hq i (x - 1) (by omega) (by omega) (by omega) (by omega) (by omega) (by omega) (by omega) (by omega)
    · exact T.same hu hq (i - 1) x (by omega) (by omega) (by omega) (by omega) (by omega) (by omega) (by omega) (by omega)
    · exact T.same hu hq (i - 1) (x - 1) (by omega) (by omega) (by omega) (by omega) (by omega) (by omega) (by omega) (by omega)
  subst this; omega
theorem Tiling.cornerR {u q : Pt} {i x : Int} (hu : u ∈ ps) (hq : q ∈ ps) (h1 : u.1 < i) (h2 : i < u.2.2.1) (h3 : u.2.1 < x) (h4 : x ≤ u.2.2.2) (a : i = q.1 ∨ i = q.2.2.1) (b : x = q.2.1 ∨ x = q.2.2.2) : u.2.2.2 = x := by
  have hub := T.box u hu; have hqb := T.box q hq
  apply Classical.byContradiction
  intro hne
  have : u = q := by
    rcases a with a | a <;> rcases b with b | b
    · exact T.same hu hq i x (by omega) (by omega) (by omega) (by omega) (by omega) (by omega) (by omega) (by omega)
    · exact T.same hu hq i (x - 1) (by omega) (by omega) (by omega) (by omega) (by omega) (by omega) (by omega) (by omega)
    · exact T.same hu hq (i - 1) x (by omega) (by omega) (by omega) (by omega) (by omega) (by omega) (by omega) (by omega)
    · exact T.same hu hq (i - 1) (x - 1) (by omega) (by omega) (by omega) (by omega) (by omega) (by omega) (by omega) (by omega)
  subst this; omega
theorem Tiling.armL {i j : Int} (h1 : 0 ≤ i) (h2 : i ≤ B) (h3 : 0 < j) (h4 : j ≤ R) (hB : 0 < B) (hc : sgn ps i j = 43) : inHor (sgn ps i (j - 1)) = hw ps i (j - 1) := by
  rw [Bool.eq_iff_iff]
  unfold inHor
  rw [decide_eq_true_eq]
  constructor
  · intro h
    apply Classical.byContradiction
    intro hn
    obtain ⟨u, hu, a1, a2, a3, a4⟩ := T.noLeft h1 h2 h3 h4 hB hn
    obtain ⟨p, hp, b1, b2⟩ := sgn_plus.mp hc
    rcases h with h | h
    · unfold sgn at h
      split at h
      · cases h
      · split at h
        · cases h
        · split at h
          · rename_i hh; exact hn hh
          · cases h
    · obtain ⟨q, hq, c1, c2⟩ := sgn_plus.mp h
      have e1 := T.cornerL hu hq a1 a2 a3 a4 c1 c2
      have e2 := T.cornerR hu hp a1 a2 (x := j) (by omega) (by omega) b1 b2
      have := T.box u hu
      omega
  · intro h
    obtain ⟨p, hp, a, b⟩ := hw_iff.mp h
    have hb := T.box p hp
    by_cases e : p.2.1 = j - 1
    · exact .inr (sgn_corner hp a (.inl e.symm))
    · exact (T.onHor hp a (by omega) (by omega)).symm
theorem Tiling.armR {i j : Int} (h1 : 0 ≤ i) (h2 : i ≤ B) (h3 : 0 ≤ j) (h4 : j < R) (hB : 0 < B) (hc : sgn ps i j = 43) : inHor (sgn ps i (j + 1)) = hw ps i j := by
  rw [Bool.eq_iff_iff]
  unfold inHor
  rw [decide_eq_true_eq]
  constructor
  · intro h
    apply Classical.byContradiction
    intro hn
    obtain ⟨u, hu, a1, a2, a3, a4⟩ := T.noLeft (j := j + 1) h1 h2 (by omega) (by omega) hB (by rwa [Int.add_sub_cancel])
    obtain ⟨p, hp, b1, b2⟩ := sgn_plus.mp hc
    rcases h with h | h
    · unfold sgn at h
      split at h
      · cases h
      · split at h
        · cases h
        · split at h
          · rename_i h43 hv hh
            obtain ⟨q, hq, c1, c2, c3⟩ := hw_iff.mp hh
            have hqb := T.box q hq
            by_cases e : q.2.1 = j + 1
            · exact h43 (List.any_eq_true.mpr ⟨q, hq, cornP_iff.mpr ⟨c1, .inl e.symm⟩⟩)
            · exact hn (hw_iff.mpr ⟨q, hq, c1, by omega, by omega⟩)
          · cases h
    · obtain ⟨q, hq, c1, c2⟩ := sgn_plus.mp h
      have e1 := T.cornerL hu hp a1 a2 (x := j) (by omega) (by omega) b1 b2
      have e2 := T.cornerR hu hq a1 a2 (x := j + 1) (by omega) (by omega) c1 c2
      have := T.box u hu
      omega
  · intro h
    obtain ⟨p, hp, a, b⟩ := hw_iff.mp h
    have hb := T.box p hp
    by_cases e : p.2.2.2 = j + 1
    · exact .inr (sgn_corner hp a (.inr e.symm))
    · exact (T.onHor hp a (by omega) (by omega)).symm
end
end Mine
end Tu3_part
section Tu4_part
open PySem PySem.W PyProof.Rows PySem.Calls
namespace Mine
def swapC (c : Nat) : Nat := if c = 45 then 124 else if c = 124 then 45 else c
theorem any_trP {ps : List Pt} {f g : Pt → Bool} (h : ∀ p, f (trP p) = g p) : (ps.map trP).any f = ps.any g := by
  rw [List.any_map]; congr 1; funext p; exact h p
theorem cornP_tr (p : Pt) (i j : Int) : cornP (trP p) j i = cornP p i j := by unfold cornP trP; dsimp only; rw [Bool.and_comm]
theorem vertP_tr (p : Pt) (i j : Int) : vertP (trP p) j i = horP p i j := rfl
theorem horP_tr (p : Pt) (i j : Int) : horP (trP p) j i = vertP p i j := rfl
theorem hw_tr (ps : List Pt) (i j : Int) : hw (ps.map trP) j i = vw ps i j := any_trP fun p => horP_tr p i j
theorem vw_tr (ps : List Pt) (i j : Int) : vw (ps.map trP) j i = hw ps i j := any_trP fun p => vertP_tr p i j
def b2i (b : Bool) : Int := if b = true then 1 else 0
section
variable {B R : Int} {ps : List Pt} (T : Tiling B R ps)
include T
theorem Tiling.sgn_tr (i j : Int) : sgn (ps.map trP) j i = swapC (sgn ps i j) := by
  have e1 : (ps.map trP).any (cornP · j i) = ps.any (cornP · i j) := any_trP fun p => cornP_tr p i j
  have e2 : (ps.map trP).any (vertP · j i) = hw ps i j := any_trP fun p => vertP_tr p i j
  have e3 : (ps.map trP).any (horP · j i) = vw ps i j := any_trP fun p => horP_tr p i j
  unfold sgn
  rw [e1, e2, e3]
  by_cases c : ps.any (cornP · i j) = true
  · rw [if_pos c, if_pos c]; rfl
  · rw [if_neg c, if_neg c]
    have nb : ¬ ((hw ps i j && vw ps i j) = true) := fun h => by
      obtain ⟨p, hp, a, b⟩ := T.tl.mp h
      exact c (List.any_eq_true.mpr ⟨p, hp, cornP_iff.mpr ⟨.inl a.symm, .inl b.symm⟩⟩)
    change (if hw ps i j = true then 124 else if vw ps i j = true then 45 else 32) = swapC (if vw ps i j = true then 124 else if hw ps i j = true then 45 else 32)
    cases h1 : hw ps i j <;> cases h2 : vw ps i j
    · rfl
    · rfl
    · rfl
    · rw [h1, h2] at nb; exact absurd rfl nb
omit T
theorem inHor_swap (ps : List Pt) (i j : Int) : inHor (swapC (sgn ps i j)) = inVert (sgn ps i j) := by
  rcases sgn_is ps i j with h | h | h | h <;> rw [h] <;> decide
include T
theorem Tiling.armU {i j : Int} (h1 : 0 < i) (h2 : i ≤ B) (h3 : 0 ≤ j) (h4 : j ≤ R) (hR : 0 < R) (hc : sgn ps i j = 43) : inVert (sgn ps (i - 1) j) = vw ps (i - 1) j := by
  rw [← inHor_swap, ← T.sgn_tr, ← hw_tr]
  exact T.tr.armL h3 h4 h1 h2 hR (by rw [T.sgn_tr, hc]; rfl)
theorem Tiling.armD {i j : Int} (h1 : 0 ≤ i) (h2 : i < B) (h3 : 0 ≤ j) (h4 : j ≤ R) (hR : 0 < R) (hc : sgn ps i j = 43) : inVert (sgn ps (i + 1) j) = vw ps i j := by
  rw [← inHor_swap, ← T.sgn_tr, ← hw_tr]
  exact T.tr.armR h3 h4 h1 h2 hR (by rw [T.sgn_tr, hc]; rfl)
theorem Tiling.arms {G : List (List Nat)} {W : Nat} (D : Drawn G B R ps) (hW : (W : Int) = R + 1) (hB : 0 < B) (hR : 0 < R) {k m : Nat} (hk : k < G.length) (hm : m < W) (hc : sgn ps k m = 43) :
    armsG G W k m = [hw ps k ((m : Int) - 1), hw ps k m, vw ps ((k : Int) - 1) m, vw ps k m] := by
  have hH := D.hi
  unfold armsG
  congr 1
  · by_cases h : m ≠ 0
    · rw [if_pos h, D.sg _ _ (by omega) (by omega) (by omega) (by omega)]
      exact T.armL (by omega) (by omega) (by omega) (by omega) hB hc
    · rw [if_neg h, eq_comm, Bool.eq_false_iff]
      intro c
      obtain ⟨p, hp, a, b⟩ := hw_iff.mp c
      have := T.box p hp; omega
  congr 1
  · by_cases h : m + 1 < W
    · rw [if_pos h, D.sg _ _ (by omega) (by omega) (by omega) (by omega)]
      exact T.armR (by omega) (by omega) (by omega) (by omega) hB hc
    · rw [if_neg h, eq_comm, Bool.eq_false_iff]
      intro c
      obtain ⟨p, hp, a, b⟩ := hw_iff.mp c
      have := T.box p hp; omega
  congr 1
  · by_cases h : k ≠ 0
    · rw [if_pos h, D.sg _ _ (by omega) (by omega) (by omega) (by omega)]
      exact T.armU (by omega) (by omega) (by omega) (by omega) hR hc
    · rw [if_neg h, eq_comm, Bool.eq_false_iff]
      intro c
      obtain ⟨p, hp, a, b⟩ := vw_iff.mp c
      have := T.box p hp; omega
  congr 1
  · by_cases h : k + 1 < G.length
    · rw [if_pos h, D.sg _ _ (by omega) (by omega) (by omega) (by omega)]
      exact T.armD (by omega) (by omega) (by omega) (by omega) hR hc
    · rw [if_neg h, eq_comm, Bool.eq_false_iff]
      intro c
      obtain ⟨p, hp, a, b⟩ := vw_iff.mp c
      have := T.box p hp; omega
def outer (B R : Int) (k m : Int) : Int := if (k = 0 ∨ k = B) then (if m = 0 ∨ m = R then 1 else 0) else 0
theorem Tiling.outerCorner {k m : Int} (hB : 0 < B) (hR : 0 < R) (hk : k = 0 ∨ k = B) (hm : m = 0 ∨ m = R) : sgn ps k m = 43 := by
  have go : ∀ i j : Int, 0 ≤ i → i < B → 0 ≤ j → j < R → (k = i ∨ k = i + 1) → (k = 0 ∨ k = B) → (m = j ∨ m = j + 1) → (m = 0 ∨ m = R) → sgn ps k m = 43 := fun i j a b c d e f g h => by
    obtain ⟨p, hp, hi⟩ := T.cover i j a b c d
    have := T.box p hp
    unfold In at hi
    exact sgn_corner hp (by omega) (by omega)
  rcases hk with hk | hk <;> rcases hm with hm | hm
  · exact go 0 0 (by omega) (by omega) (by omega) (by omega) (by omega) (by omega) (by omega) (by omega)
  · exact go 0 (R - 1) (by omega) (by omega) (by omega) (by omega) (by omega) (by omega) (by omega) (by omega)
  · exact go (B - 1) 0 (by omega) (by omega) (by omega) (by omega) (by omega) (by omega) (by omega) (by omega)
  · exact go (B - 1) (R - 1) (by omega) (by omega) (by omega) (by omega) (by omega) (by omega) (by omega) (by omega)
theorem Tiling.two {k m : Int} (h1 : 0 ≤ k) (h2 : k ≤ B) (h3 : 0 ≤ m) (h4 : m ≤ R) (hB : 0 < B) (hR : 0 < R) (hc : sgn ps k m = 43) (hh : (hw ps k (m - 1) && hw ps k m) = false) (hv : (vw ps (k - 1) m && vw ps k m) = false) : (k = 0 ∨ k = B) ∧ (m = 0 ∨ m = R) := by
  have H : (m = 0 ∨ m = R) ∨ ∃ u ∈ ps, ∃ c, u.1 < k ∧ k < u.2.2.1 ∧ u.2.1 ≤ c ∧ c < u.2.2.2 ∧ (c = m ∨ c = m - 1) := by
    rw [Bool.and_eq_false_iff] at hh
    rcases hh with hh | hh
    · by_cases e : m = 0
      · exact .inl (.inl e)
      · obtain ⟨u, hu, a, b, c, d⟩ := T.noLeft h1 h2 (by omega) h4 hB (by rw [hh]; simp)
        exact .inr ⟨u, hu, m - 1, a, b, c, d, .inr rfl⟩
    · by_cases e : m = R
      · exact .inl (.inr e)
      · obtain ⟨u, hu, a, b, c, d⟩ := T.noLeft (j := m + 1) h1 h2 (by omega) (by omega) hB (by rw [Int.add_sub_cancel, hh]; simp)
        exact .inr ⟨u, hu, m, a, b, by omega, by omega, .inl rfl⟩
  have V : (k = 0 ∨ k = B) ∨ ∃ v ∈ ps, ∃ c, v.2.1 < m ∧ m < v.2.2.2 ∧ v.1 ≤ c ∧ c < v.2.2.1 ∧ (c = k ∨ c = k - 1) := by
    rw [Bool.and_eq_false_iff] at hv
    rcases hv with hv | hv
    · by_cases e : k = 0
      · exact .inl (.inl e)
      · obtain ⟨u, hu, a, b, c, d⟩ := T.noUp (by omega) h2 h3 h4 hR (by rw [hv]; simp)
        exact .inr ⟨u, hu, k - 1, a, b, c, d, .inr rfl⟩
    · by_cases e : k = B
      · exact .inl (.inr e)
      · obtain ⟨u, hu, a, b, c, d⟩ := T.noUp (i := k + 1) (by omega) (by omega) h3 h4 hR (by rw [Int.add_sub_cancel, hv]; simp)
        exact .inr ⟨u, hu, k, a, b, by omega, by omega, .inl rfl⟩
  rcases H with H | ⟨u, hu, c, a1, a2, a3, a4, a5⟩ <;> rcases V with V | ⟨v, hv', d, b1, b2, b3, b4, b5⟩
  · exact ⟨V, H⟩
  · have := T.box v hv'; omega
  · have := T.box u hu; omega
  · exfalso
    have e := T.same hu hv' d c (by omega) (by omega) a3 a4 b3 b4 (by omega) (by omega)
    subst e
    have := T.inside hu a1 a2 b1 b2
    rw [this] at hc; cases hc
theorem Tiling.point {G : List (List Nat)} {W : Nat} (D : Drawn G B R ps) (hW : (W : Int) = R + 1) (hB : 0 < B) (hR : 0 < R) {k m : Nat} (hk : k < G.length) (hm : m < W) :
    b2i (hw ps k m && vw ps k m) + b2i (hw ps k ((m : Int) - 1) && vw ps k m) + b2i (hw ps k m && vw ps ((k : Int) - 1) m) + b2i (hw ps k ((m : Int) - 1) && vw ps ((k : Int) - 1) m) = 2 * endsAt G W 3 k m + 4 * endsAt G W 4 k m + outer B R k m := by
  have hH := D.hi
  have hg : gch G k m = sgn ps k m := D.sg _ _ (by omega) (by omega) (by omega) (by omega)
  by_cases hc : sgn ps k m = 43
  · have ha := T.arms D hW hB hR hk hm hc
    rw [endsAt_plus (by rw [hg]; exact hc), endsAt_plus (by rw [hg]; exact hc), ha]
    obtain ⟨p, hp, c1, c2⟩ := sgn_plus.mp hc
    have hpb := T.box p hp
    have hor : (hw ps k ((m : Int) - 1) || hw ps k m) = true := by
      rw [Bool.or_eq_true, hw_iff, hw_iff]
      rcases c2 with c2 | c2
      · exact .inr ⟨p, hp, c1, by omega⟩
      · exact .inl ⟨p, hp, c1, by omega⟩
    have hver : (vw ps ((k : Int) - 1) m || vw ps k m) = true := by
      rw [Bool.or_eq_true, vw_iff, vw_iff]
      rcases c1 with c1 | c1
      · exact .inr ⟨p, hp, c2, by omega⟩
      · exact .inl ⟨p, hp, c2, by omega⟩
    have two := T.two (k := k) (m := m) (by omega) (by omega) (by omega) (by omega) hB hR hc
    have out : outer B R k m = if ((hw ps k ((m : Int) - 1) && hw ps k m) = false ∧ (vw ps ((k : Int) - 1) m && vw ps k m) = false) then 1 else 0 := by
      unfold outer
      by_cases h : (hw ps k ((m : Int) - 1) && hw ps k m) = false ∧ (vw ps ((k : Int) - 1) m && vw ps k m) = false
      · obtain ⟨a, b⟩ := two h.1 h.2
        rw [if_pos h, if_pos a, if_pos b]
      · rw [if_neg h]
        by_cases a : (k : Int) = 0 ∨ (k : Int) = B
        · rw [if_pos a]
          by_cases b : (m : Int) = 0 ∨ (m : Int) = R
          · exfalso
            apply h
            constructor
            · rw [Bool.and_eq_false_iff]
              rcases b with b | b
              · left; rw [Bool.eq_false_iff]; intro c
                obtain ⟨q, hq, x, y⟩ := hw_iff.mp c
                have := T.box q hq; omega
              · right; rw [Bool.eq_false_iff]; intro c
                obtain ⟨q, hq, x, y⟩ := hw_iff.mp c
                have := T.box q hq; omega
            · rw [Bool.and_eq_false_iff]
              rcases a with a | a
              · left; rw [Bool.eq_false_iff]; intro c
                obtain ⟨q, hq, x, y⟩ := vw_iff.mp c
                have := T.box q hq; omega
              · right; rw [Bool.eq_false_iff]; intro c
                obtain ⟨q, hq, x, y⟩ := vw_iff.mp c
                have := T.box q hq; omega
          · rw [if_neg b]
        · rw [if_neg a]
    rw [out]
    generalize hw ps k ((m : Int) - 1) = a at *
    generalize hw ps k m = b at *
    generalize vw ps ((k : Int) - 1) m = c at *
    generalize vw ps k m = d at *
    clear two out ha
    revert hor hver
    cases a <;> cases b <;> cases c <;> cases d <;> decide
  · have no : ∀ {x : Bool} (p' : Prop), (x = true → p') → (p' → False) → b2i x = 0 := fun {x} p' h h' => by
      cases x
      · rfl
      · exact (h' (h rfl)).elim
    have nc : ∀ p ∈ ps, ¬ (((k : Int) = p.1 ∨ (k : Int) = p.2.2.1) ∧ ((m : Int) = p.2.1 ∨ (m : Int) = p.2.2.2)) := fun p hp h => hc (sgn_plus.mpr ⟨p, hp, h⟩)
    rw [no _ T.tl.mp (fun ⟨p, hp, a, b⟩ => nc p hp ⟨.inl a.symm, .inl b.symm⟩), no _ T.tr'.mp (fun ⟨p, hp, a, b⟩ => nc p hp ⟨.inl a.symm, .inr b.symm⟩), no _ T.bl.mp (fun ⟨p, hp, a, b⟩ => nc p hp ⟨.inr a.symm, .inl b.symm⟩), no _ T.br.mp (fun ⟨p, hp, a, b⟩ => nc p hp ⟨.inr a.symm, .inr b.symm⟩),
      endsAt_none (by rw [hg]; exact hc), endsAt_none (by rw [hg]; exact hc)]
    have : outer B R k m = 0 := by
      unfold outer
      by_cases a : (k : Int) = 0 ∨ (k : Int) = B
      · rw [if_pos a, if_neg fun b => hc (T.outerCorner hB hR a b)]
      · rw [if_neg a]
    rw [this]; rfl
end
end Mine
end Tu4_part
section Tu5_part
open PySem PySem.W PyProof.Rows PySem.Calls
namespace Mine
theorem sumR_at {n : Nat} {x v : Int} (h0 : 0 ≤ x) (hn : x < n) : sumR n (fun a => if x = (a : Int) then v else 0) = v := by
  have h := sumR_between (n := n) (c := x.toNat) (d := x.toNat + 1) (by omega) (by omega) v
  have e : ((x.toNat + 1 : Nat) : Int) - (x.toNat : Nat) = 1 := by omega
  rw [e, Int.one_mul] at h
  refine Eq.trans (sumR_congr fun a _ => ?_) h
  by_cases c : x = (a : Int)
  · rw [if_pos c, if_pos (by omega)]
  · rw [if_neg c, if_neg (by omega)]
theorem sumR_at2 {n m : Nat} {x y : Int} (h0 : 0 ≤ x) (hn : x < n) (h1 : 0 ≤ y) (hm : y < m) : sumR n (fun a => sumR m fun b => if x = (a : Int) ∧ y = (b : Int) then 1 else 0) = 1 := by
  have : ∀ a : Nat, sumR m (fun b => if x = (a : Int) ∧ y = (b : Int) then (1 : Int) else 0) = if x = (a : Int) then 1 else 0 := fun a => by
    by_cases c : x = (a : Int)
    · rw [if_pos c]
      refine Eq.trans (sumR_congr fun b _ => ?_) (sumR_at (n := m) (x := y) (v := 1) h1 hm)
      by_cases d : y = (b : Int)
      · rw [if_pos d, if_pos ⟨c, d⟩]
      · rw [if_neg d, if_neg fun z => d z.2]
    · rw [if_neg c]
      exact (sumR_congr (g := fun _ => 0) fun b _ => if_neg fun z => c z.1).trans (sumR_zero _)
  rw [sumR_congr fun a _ => this a]
  exact sumR_at h0 hn
theorem sumR_two {n : Nat} {x y v : Int} (h0 : 0 ≤ x) (hn : x < n) (h1 : 0 ≤ y) (hm : y < n) (hxy : x ≠ y) : sumR n (fun a => if (a : Int) = x ∨ (a : Int) = y then v else 0) = 2 * v := by
  have e := sumR_add n (fun a => if x = (a : Int) then v else 0) (fun a => if y = (a : Int) then v else 0)
  rw [sumR_at h0 hn, sumR_at h1 hm] at e
  rw [show 2 * v = v + v by omega, ← e]
  refine sumR_congr fun a _ => ?_
  by_cases c : x = (a : Int)
  · rw [if_pos (.inl c.symm), if_pos c, if_neg (by omega)]; omega
  · by_cases d : y = (a : Int)
    · rw [if_pos (.inr d.symm), if_neg c, if_pos d]; omega
    · rw [if_neg (by omega), if_neg c, if_neg d]; omega
theorem sumR_mul (n : Nat) (c : Int) (f : Nat → Int) : sumR n (fun a => c * f a) = c * sumR n f := by
  induction n with
  | zero => simp [sumR]
  | succ n ih => simp only [sumR, ih]; rw [Int.mul_add]
theorem sumL_one_each {α : Type} (l : List α) (c : Int) : sumL l (fun _ => c) = (l.length : Int) * c := by
  induction l with
  | nil => simp [sumL]
  | cons x l ih => simp only [sumL, ih, List.length_cons]; rw [Int.natCast_add, Int.add_mul]; simp; omega
section
variable {B R : Int} {ps : List Pt} (T : Tiling B R ps)
include T
theorem Tiling.euler {G : List (List Nat)} {W : Nat} (D : Drawn G B R ps) (hW : (W : Int) = R + 1) (hB : 0 < B) (hR : 0 < R) : 2 * (ps.length : Int) = endsOf G W 3 + 2 * endsOf G W 4 + 2 := by
  have hH := D.hi
  have ind : ∀ f h : Pt → Int, (∀ p ∈ ps, 0 ≤ f p ∧ f p < G.length ∧ 0 ≤ h p ∧ h p < W) → sumL ps (fun p => sumR G.length fun k => sumR W fun m => if f p = (k : Int) ∧ h p = (m : Int) then (1 : Int) else 0) = ps.length := fun f h hb => by
    rw [sumL_congr (g := fun _ => 1) fun p hp => sumR_at2 (hb p hp).1 (hb p hp).2.1 (hb p hp).2.2.1 (hb p hp).2.2.2, sumL_one_each, Int.mul_one]
  have sw : ∀ f h : Pt → Int, sumL ps (fun p => sumR G.length fun k => sumR W fun m => if f p = (k : Int) ∧ h p = (m : Int) then (1 : Int) else 0) = sumR G.length fun k => sumR W fun m => sumL ps fun p => if f p = (k : Int) ∧ h p = (m : Int) then (1 : Int) else 0 := fun f h => by
    rw [sumL_swap]
    exact sumR_congr fun k _ => sumL_swap _ _ _
  have one : ∀ (f h : Pt → Int) (b : Nat → Nat → Bool), (∀ p ∈ ps, 0 ≤ f p ∧ f p < G.length ∧ 0 ≤ h p ∧ h p < W) → (∀ k m : Nat, k < G.length → m < W → (b k m = true ↔ ∃ p ∈ ps, f p = (k : Int) ∧ h p = (m : Int))) → (∀ p ∈ ps, ∀ q ∈ ps, f p = f q → h p = h q → p = q) →
      (sumR G.length fun k => sumR W fun m => b2i (b k m)) = ps.length := fun f h b hb hx hu => by
    rw [← ind f h hb, sw f h]
    refine sumR_congr fun k hk => sumR_congr fun m hm => ?_
    rw [sumL_ex (P := fun p : Pt => f p = (k : Int) ∧ h p = (m : Int)) T.nodup (fun p hp q hq a c => hu p hp q hq (a.1.trans c.1.symm) (a.2.trans c.2.symm)) (hx k m hk hm)]
    rfl
  have t1 := one (fun p => p.1) (fun p => p.2.1) (fun k m => hw ps k m && vw ps k m) (fun p hp => by have := T.box p hp; omega) (fun k m _ _ => T.tl) (fun p hp q hq a c => by
    have h1 := T.box p hp; have h2 := T.box q hq
    exact T.same hp hq p.1 p.2.1 (by omega) (by omega) (by omega) (by omega) (by omega) (by omega) (by omega) (by omega))
  have t2 := one (fun p => p.1) (fun p => p.2.2.2) (fun k m => hw ps k ((m : Int) - 1) && vw ps k m) (fun p hp => by have := T.box p hp; omega) (fun k m _ _ => T.tr') (fun p hp q hq a c => by
    have h1 := T.box p hp; have h2 := T.box q hq
    exact T.same hp hq p.1 (p.2.2.2 - 1) (by omega) (by omega) (by omega) (by omega) (by omega) (by omega) (by omega) (by omega))
  have t3 := one (fun p => p.2.2.1) (fun p => p.2.1) (fun k m => hw ps k m && vw ps ((k : Int) - 1) m) (fun p hp => by have := T.box p hp; omega) (fun k m _ _ => T.bl) (fun p hp q hq a c => by
    have h1 := T.box p hp; have h2 := T.box q hq
    exact T.same hp hq (p.2.2.1 - 1) p.2.1 (by omega) (by omega) (by omega) (by omega) (by omega) (by omega) (by omega) (by omega))
  have t4 := one (fun p => p.2.2.1) (fun p => p.2.2.2) (fun k m => hw ps k ((m : Int) - 1) && vw ps ((k : Int) - 1) m) (fun p hp => by have := T.box p hp; omega) (fun k m _ _ => T.br) (fun p hp q hq a c => by
    have h1 := T.box p hp; have h2 := T.box q hq
    exact T.same hp hq (p.2.2.1 - 1) (p.2.2.2 - 1) (by omega) (by omega) (by omega) (by omega) (by omega) (by omega) (by omega) (by omega))
  have ou : (sumR G.length fun k => sumR W fun m => outer B R k m) = 4 := by
    have : ∀ k : Nat, (sumR W fun m => outer B R k m) = if (k : Int) = 0 ∨ (k : Int) = B then 2 else 0 := fun k => by
      unfold outer
      by_cases c : (k : Int) = 0 ∨ (k : Int) = B
      · rw [if_pos c]
        rw [sumR_congr (g := fun m : Nat => if (m : Int) = 0 ∨ (m : Int) = R then (1 : Int) else 0) fun m _ => by rw [if_pos c]]
        exact sumR_two (by omega) (by omega) (by omega) (by omega) (by omega)
      · rw [if_neg c]
        exact (sumR_congr (g := fun _ => 0) fun m _ => if_neg c).trans (sumR_zero _)
    rw [sumR_congr fun k _ => this k]
    exact sumR_two (by omega) (by omega) (by omega) (by omega) (by omega)
  have tot : (sumR G.length fun k => sumR W fun m => b2i (hw ps k m && vw ps k m) + b2i (hw ps k ((m : Int) - 1) && vw ps k m) + b2i (hw ps k m && vw ps ((k : Int) - 1) m) + b2i (hw ps k ((m : Int) - 1) && vw ps ((k : Int) - 1) m))
      = sumR G.length fun k => sumR W fun m => 2 * endsAt G W 3 k m + 4 * endsAt G W 4 k m + outer B R k m := sumR_congr fun k hk => sumR_congr fun m hm => T.point D hW hB hR hk hm
  simp only [sumR_add, sumR_mul] at tot
  unfold endsOf
  have t1' : (sumR G.length fun k => sumR W fun m => b2i (hw ps k m && vw ps k m)) = ps.length := t1
  have t2' : (sumR G.length fun k => sumR W fun m => b2i (hw ps k ((m : Int) - 1) && vw ps k m)) = ps.length := t2
  have t3' : (sumR G.length fun k => sumR W fun m => b2i (hw ps k m && vw ps ((k : Int) - 1) m)) = ps.length := t3
  have t4' : (sumR G.length fun k => sumR W fun m => b2i (hw ps k ((m : Int) - 1) && vw ps ((k : Int) - 1) m)) = ps.length := t4
  rw [t1', t2', t3', t4', ou] at tot
  have tot' : (ps.length : Int) + ps.length + ps.length + ps.length = 2 * (sumR G.length fun k => sumR W fun m => endsAt G W 3 k m) + 4 * (sumR G.length fun k => sumR W fun m => endsAt G W 4 k m) + 4 := tot
  omega
end
theorem any_map_of {ps : List Pt} {F : Pt → Pt} {f g : Pt → Bool} (h : ∀ p ∈ ps, f (F p) = g p) : (ps.map F).any f = ps.any g := by
  rw [List.any_map]
  rw [Bool.eq_iff_iff, List.any_eq_true, List.any_eq_true]
  exact ⟨fun ⟨p, hp, e⟩ => ⟨p, hp, by rw [← h p hp]; exact e⟩, fun ⟨p, hp, e⟩ => ⟨p, hp, by show f (F p) = true; rw [h p hp]; exact e⟩⟩
theorem bool_eq {a b : Bool} (h : a = true ↔ b = true) : a = b := Bool.eq_iff_iff.mpr h
theorem sgn_lr (R : Int) (ps : List Pt) (i j : Int) : sgn (ps.map (lrP R)) i j = sgn ps i (R - j) := by
  have e1 : (ps.map (lrP R)).any (cornP · i j) = ps.any (cornP · i (R - j)) := any_map_of fun p _ => bool_eq (by rw [cornP_iff, cornP_iff]; unfold lrP; dsimp only; omega)
  have e2 : (ps.map (lrP R)).any (vertP · i j) = ps.any (vertP · i (R - j)) := any_map_of fun p _ => bool_eq (by rw [vertP_iff, vertP_iff]; unfold lrP; dsimp only; omega)
  unfold sgn
  rw [e1, e2]
  by_cases c : ps.any (cornP · i (R - j)) = true
  · rw [if_pos c, if_pos c]
  · rw [if_neg c, if_neg c]
    have e3 : (ps.map (lrP R)).any (horP · i j) = ps.any (horP · i (R - j)) := any_map_of fun p hp => bool_eq (by
      have nc : ¬ ((i = p.1 ∨ i = p.2.2.1) ∧ (R - j = p.2.1 ∨ R - j = p.2.2.2)) := fun h => c (List.any_eq_true.mpr ⟨p, hp, cornP_iff.mpr h⟩)
      rw [horP_iff, horP_iff]; unfold lrP; dsimp only; omega)
    rw [e3]
theorem sgn_ud (B : Int) (ps : List Pt) (i j : Int) : sgn (ps.map (udP B)) i j = sgn ps (B - i) j := by
  have e1 : (ps.map (udP B)).any (cornP · i j) = ps.any (cornP · (B - i) j) := any_map_of fun p _ => bool_eq (by rw [cornP_iff, cornP_iff]; unfold udP; dsimp only; omega)
  have e3 : (ps.map (udP B)).any (horP · i j) = ps.any (horP · (B - i) j) := any_map_of fun p _ => bool_eq (by rw [horP_iff, horP_iff]; unfold udP; dsimp only; omega)
  unfold sgn
  rw [e1, e3]
  by_cases c : ps.any (cornP · (B - i) j) = true
  · rw [if_pos c, if_pos c]
  · rw [if_neg c, if_neg c]
    have e2 : (ps.map (udP B)).any (vertP · i j) = ps.any (vertP · (B - i) j) := any_map_of fun p hp => bool_eq (by
      have nc : ¬ ((B - i = p.1 ∨ B - i = p.2.2.1) ∧ (j = p.2.1 ∨ j = p.2.2.2)) := fun h => c (List.any_eq_true.mpr ⟨p, hp, cornP_iff.mpr h⟩)
      rw [vertP_iff, vertP_iff]; unfold udP; dsimp only; omega)
    rw [e2]
theorem Drawn.lr {B R : Int} {ps : List Pt} {G : List (List Nat)} {H W : Nat} (D : Drawn G B R ps) (hH : (H : Int) = B + 1) (hW : (W : Int) = R + 1) : Drawn (gridOf (fun i j => gch G i (R - j)) H W) B R (ps.map (lrP R)) :=
  gridOf_drawn hH hW fun i j hi hj => by rw [D.sg _ _ (by omega) (by omega) (by omega) (by omega), sgn_lr]
theorem Drawn.ud {B R : Int} {ps : List Pt} {G : List (List Nat)} {H W : Nat} (D : Drawn G B R ps) (hH : (H : Int) = B + 1) (hW : (W : Int) = R + 1) : Drawn (gridOf (fun i j => gch G (B - i) j) H W) B R (ps.map (udP B)) :=
  gridOf_drawn hH hW fun i j hi hj => by rw [D.sg _ _ (by omega) (by omega) (by omega) (by omega), sgn_ud]
theorem Drawn.tr {B R : Int} {ps : List Pt} {G : List (List Nat)} {H W : Nat} (T : Tiling B R ps) (D : Drawn G B R ps) (hH : (H : Int) = R + 1) (hW : (W : Int) = B + 1) : Drawn (gridOf (fun i j => swapC (gch G j i)) H W) R B (ps.map trP) :=
  gridOf_drawn hH hW fun i j hi hj => by rw [D.sg _ _ (by omega) (by omega) (by omega) (by omega), T.sgn_tr]
end Mine
end Tu5_part
section LWa_part
open PySem PySem.W PyProof.Rows PySem.Calls
namespace Mine
def lawStmt : Stmt := (PySem.Challenge.pw_sx0025_01.main.body.getLast?).getD (Stmt.Return none ⟨0, 0, 0, 0⟩)
def lawBody : List Stmt := match lawStmt with | .FunctionDef _ _ b .. => b | _ => []
def lawScope : Scope := match lawStmt with | .FunctionDef _ _ _ _ _ _ sc .. => sc | _ => { kind := .module, names := [], isGenerator := false, isCoroutine := false }
def lawEnv (L fa : Addr) (cd : Value) : Env := envOfC (Str.ofString "law") lawScope L fa cd
section
variable {M : Model} {A : Around} {env : Env} {Q : Flow → Shared → Prop} {s : Shared}
theorem seg_step {st : Stmt} {rest : List Stmt} (P : Shared → Prop) (h1 : wpAny M A (exec st env) (fun f s' => f = .next ∧ P s') (fun _ _ => False) s) (h2 : ∀ s', P s' → wpAny M A (execs rest env) Q (fun _ _ => False) s') : wpAny M A (execs (st :: rest) env) Q (fun _ _ => False) s := by
  refine wpAny_execs_cons (wpAny_mono h1 (fun f s' hf => ?_) fun _ _ h => h.elim)
  obtain ⟨rfl, hp⟩ := hf
  exact h2 s' hp
end
theorem map_knows {u : Str → Option Value} {x : Str} {v : Value} (h : u x = some v) : u = fun y => if y = x then some v else u y := by
  funext y
  by_cases e : y = x
  · rw [if_pos e, e]; exact h
  · rw [if_neg e]
structure LawS (g : Heap) (L : Addr) (s : Shared) (s' : Shared) (m : Str → Option Value) (news : List (Addr × Obj)) : Prop where
  st : ∃ h tk, s' = { s with heap := h, toks := tk } ∧ Fr g L h m ∧ News g L h news
def P1 (g : Heap) (L : Addr) (s : Shared) (s' : Shared) : Prop :=
  ∃ m dl dv dd c o1 o2 o3 o4, LawS g L s s' m [(dl, listOf (List.toArray dv) c), (L + 1 + 1 + 1 + 1, o4), (L + 1 + 1 + 1, o3), (L + 1 + 1, o2), (L + 1, o1)] ∧ m "draw" = some (.ref dl) ∧ IntsAre dv dd ∧ dd.length = 4 ∧ (∀ d ∈ dd, 0 ≤ d ∧ d < 10007) ∧ (∃ v, o2.data = .cell v) ∧ (∃ v, o3.data = .cell v) ∧ (∃ v, o4.data = .cell v) ∧ dl ≠ L + 1 + 1 + 1 + 1 ∧ dl ≠ L + 1 + 1 + 1 ∧ dl ≠ L + 1 + 1 ∧ dl ≠ L + 1
theorem nameCG_B {M : Model} {A : Around} {E : Value → Shared → Prop} {s : Shared} {K : Frag} {h₀ : Heap} {L : Addr} {m mg mb : Str → Option Value} {p : Program} {loose : List Str} {env : Env} {x : Str} {pos : Pos} {v : Value} {Q : Value → Shared → Prop}
    (F : Fr h₀ L s.heap m) (X : K.In h₀) (T : TopRead p loose mg mb h₀) (e : nsIn K mainGlobals x = some none) (hv : bootBuiltins x = some v) (hn : x ≠ "__name__") (h : Q v s) (hg : env.globals = mainGlobals) (hb : env.builtins = builtinsNs) (hk : env.scope.kind = .function) (hx : env.kindOf x = some .globalImplicit) (hd : (x == ("__debug__" : Str)) = false) :
    wpAny M A (eval (.Name x pos) env) Q E s :=
  Name_function_global hk hx (loadGlobal_builtin (env := env) (by rw [hg]; exact T.g.keeps F.keep) (mg_none_of X T.g e) (by rw [hb]; exact T.b.keeps F.keep) ((T.builtins x hn).trans hv) h) hd
def P2 (g : Heap) (L : Addr) (s : Shared) (s' : Shared) : Prop :=
  ∃ m dl dv dd c o1 o2 o3 o4 pl T t1 t2 t3 t4, LawS g L s s' m [(pl, listOf #[.ref T] 0), (T, tupOf [.int 0 t1, .int 0 t2, .int 8 t3, .int 16 t4]), (dl, listOf (List.toArray dv) c), (L + 1 + 1 + 1 + 1, o4), (L + 1 + 1 + 1, o3), (L + 1 + 1, o2), (L + 1, o1)] ∧ m "draw" = some (.ref dl) ∧ m "parts" = some (.ref pl) ∧ IntsAre dv dd ∧ dd.length = 4 ∧ (∀ d ∈ dd, 0 ≤ d ∧ d < 10007) ∧ (∃ v, o2.data = .cell v) ∧ (∃ v, o3.data = .cell v) ∧ (∃ v, o4.data = .cell v) ∧ dl ≠ L + 1 + 1 + 1 + 1 ∧ dl ≠ L + 1 + 1 + 1 ∧ dl ≠ L + 1 + 1 ∧ dl ≠ L + 1
def P3 (g : Heap) (L : Addr) (s : Shared) (s' : Shared) : Prop :=
  ∃ m dl dv dd c o1 o2 o3 o4 pl pv pc tps ps, LawS g L s s' m ((pl, listOf (List.toArray pv) pc) :: (dl, listOf (List.toArray dv) c) :: (L + 1 + 1 + 1 + 1, o4) :: (L + 1 + 1 + 1, o3) :: (L + 1 + 1, o2) :: (L + 1, o1) :: tps) ∧ m "draw" = some (.ref dl) ∧ m "parts" = some (.ref pl) ∧ IntsAre dv dd ∧ dd.length = 4 ∧ (∀ d ∈ dd, 0 ≤ d ∧ d < 10007) ∧ (∃ v, o2.data = .cell v) ∧ (∃ v, o3.data = .cell v) ∧ (∃ v, o4.data = .cell v) ∧
    Tups noH tps pv (ps.map prow) ∧ Tiling 8 16 ps ∧ 2 ≤ ps.length ∧ ps.length ≤ 13 ∧ dl ≠ L + 1 + 1 + 1 + 1 ∧ dl ≠ L + 1 + 1 + 1 ∧ dl ≠ L + 1 + 1 ∧ dl ≠ L + 1
def LCut (L D3 dl : Addr) (v3 dv : List Value) (c3 c : Nat) (o1 o2 o3 o4 : Obj) (i : Nat) (u : Str → Option Value) (led : List (Addr × Obj)) : Prop :=
  ∃ pl pv pc tps ps, led = (D3, listOf (List.toArray v3) c3) :: (pl, listOf (List.toArray pv) pc) :: (dl, listOf (List.toArray dv) c) :: (L + 1 + 1 + 1 + 1, o4) :: (L + 1 + 1 + 1, o3) :: (L + 1 + 1, o2) :: (L + 1, o1) :: tps ∧ u "parts" = some (.ref pl) ∧ Tups noH tps pv (ps.map prow) ∧ Tiling 8 16 ps ∧ (i = 0 → ps = [(0, 0, 8, 16)]) ∧ (0 < i → 2 ≤ ps.length) ∧ 1 ≤ ps.length ∧ ps.length ≤ 1 + 4 * i
end Mine
end LWa_part
section LW1_part
open PySem PySem.W PyProof.Rows PySem.Calls
namespace Mine
local macro_rules | `(tactic| walk_at "zz0") => `(tactic| fail)
local macro_rules | `(tactic| walk_at "zz1") => `(tactic| fail)
local macro_rules | `(tactic| walk_at "zz2") => `(tactic| fail)
local macro_rules | `(tactic| walk_at "zz3") => `(tactic| fail)
local macro_rules | `(tactic| walk_at "zz4") => `(tactic| fail)
local macro_rules | `(tactic| walk_at "zz5") => `(tactic| fail)
local macro_rules | `(tactic| walk_at "zz6") => `(tactic| fail)
local macro_rules | `(tactic| walk_at "zz7") => `(tactic| fail)
local macro_rules | `(tactic| walk_at "zz8") => `(tactic| fail)
local macro_rules | `(tactic| walk_at "zz9") => `(tactic| fail)
local macro_rules | `(tactic| walk_at "zz10") => `(tactic| fail)
local macro_rules | `(tactic| walk_at "zz11") => `(tactic| fail)
local macro_rules | `(tactic| walk_at "zz12") => `(tactic| fail)
local macro_rules | `(tactic| walk_at "zz13") => `(tactic| fail)
local macro_rules | `(tactic| walk_at "zz14") => `(tactic| fail)
local macro_rules | `(tactic| walk_at "zz15") => `(tactic| fail)
local macro_rules | `(tactic| walk_at "zz16") => `(tactic| fail)
local macro_rules | `(tactic| walk_at "zz17") => `(tactic| fail)
local macro_rules | `(tactic| walk_at "zz18") => `(tactic| fail)
local macro_rules | `(tactic| walk_at "zz19") => `(tactic| fail)
local macro_rules | `(tactic| walk_at "zz20") => `(tactic| fail)
local macro_rules | `(tactic| walk_at "zz21") => `(tactic| fail)
local macro_rules | `(tactic| walk_at "zz22") => `(tactic| fail)
local macro_rules | `(tactic| walk_at "zz23") => `(tactic| fail)
local macro_rules | `(tactic| walk_at "zz24") => `(tactic| fail)
local macro_rules | `(tactic| walk_at "zz25") => `(tactic| fail)
local macro_rules | `(tactic| walk_at "zz26") => `(tactic| fail)
local macro_rules | `(tactic| walk_at "zz27") => `(tactic| fail)
local macro_rules | `(tactic| walk_at "zz28") => `(tactic| fail)
local macro_rules | `(tactic| walk_at "zz29") => `(tactic| fail)
local macro_rules | `(tactic| k_all) => `(tactic| assumption)
local macro_rules | `(tactic| walk_at "pyIter ref") => `(tactic| refine Hold.of ?_)
local macro_rules | `(tactic| walk_at "call ref") => `(tactic| refine Hold.of ?_)
local macro_rules | `(tactic| walk_at "exec For") => `(tactic| (with_unfolding_all refine' For_run ?_))
local macro_rules | `(tactic| walk_at "exec For Name Call cons nil") => `(tactic| (with_unfolding_all refine' For_run ?_))
local macro_rules | `(tactic| walk_at "exec For Tuple Call cons nil") => `(tactic| (with_unfolding_all refine' For_run ?_))
local macro_rules | `(tactic| walk_at "getAttr ref") => `(tactic| (k_dflt (refine' get_own ?k1 ?k2 (inst_up ?k3 (Fr.keep ?k1)) ?k4 ?k5 ?k6 ?k7 ?k8 ?k9 ?_; (case k1 => k_asm); (case k2 => k_asm); (case k3 => k_asm); (case k4 => k_is); (case k5 => k_is); (case k6 => k_is); (case k7 => k_is); (case k8 => k_asm); (case k9 => k_handed); k_whole)))
local macro_rules | `(tactic| walk_at "eval Name") => `(tactic| ((with_reducible show wpAny _ _ (eval _ (envOfC _ _ _ _ _)) _ _ _); k_dflt (refine' nameX_L ?F ?v ?_ ?a ?b ?d; (case F => k_asm); (case v => rfl); (case a => kernel_rfl); (case b => kernel_rfl); (case d => kernel_rfl); k_whole)))
local macro_rules | `(tactic| walk_at "eval Name") => `(tactic| ((with_reducible show wpAny _ _ (eval _ (envOf _ _ _ _ _)) _ _ _); k_dflt (refine' ld ?k1 ?k2 ?_ ?k3 ?k4 ?k5; (case k1 => k_asm); (case k2 => exact rfl); (case k3 => kernel_rfl); (case k4 => kernel_rfl); (case k5 => kernel_rfl); k_whole)))
local macro_rules | `(tactic| walk_at "Turned") => `(tactic| first | refine Turned.ret ?_ | refine Turned.brk ?_)
local macro_rules | `(tactic| walk_at "go") => `(tactic| repeat' (first | (k_unfold; (try dsimp only)) | walk1 | (dsimp only; walk1) | (dsimp only; k_unfold; (try dsimp only))))
local macro_rules | `(tactic| walk_at "kf") => `(tactic| ((with_reducible show wpAny _ _ _ _ _ _); k_fold))
local macro_rules | `(tactic| walk_at "locals") => `(tactic| (intro y h1 h2; simp only [List.mem_cons, List.not_mem_nil, or_false, not_or] at h1 h2; simp [h1, h2]))
local macro_rules | `(tactic| walk_at "eval ListComp") => `(tactic| (k_dflt (refine ListComp_runF (by k_asm) (by with_unfolding_all rfl) (by rfl) (by decide) ?_)))
local macro_rules | `(tactic| walk_at "exec Assign cons ListComp") => `(tactic| (k_dflt (refine Assign_ListComp_runF (by k_asm) (by with_unfolding_all rfl) (by with_unfolding_all rfl) (by rfl) (by decide) (by rfl) (by rfl) (by rfl) ?_)))
local macro_rules | `(tactic| walk_at "sub") => `(tactic| first | exact List.forall_mem_nil _ | refine List.forall_mem_cons.mpr ⟨by k_mem, by walk_at "sub"⟩)
local macro_rules | `(tactic| walk_at "hnd1") => `(tactic| first | exact apart_nil | refine apart_cons (by k_ne) (by walk_at "hnd1"))
local macro_rules | `(tactic| walk_at "hnd2") => `(tactic| first | exact Apart.nil | refine Apart.cons (by walk_at "hnd1") (by walk_at "hnd2"))
local macro_rules | `(tactic| walk_at "hnd") => `(tactic| exact Apart.nd (by walk_at "hnd2"))
local macro_rules | `(tactic| k_ne) => `(tactic| first | exact NE.out (by assumption) | exact NE.flip (by assumption) | (refine neN ?_; (try dsimp only); omega))
local macro_rules | `(tactic| walk_at "mem") => `(tactic| first | exact List.Mem.head _ | (refine List.Mem.tail _ ?_; walk_at "mem"))
local macro_rules | `(tactic| walk_at "eval Name") => `(tactic| ((with_reducible show wpAny _ _ (eval _ (compEnvC _ _ _ _)) _ _ _); k_dflt (refine' nameCG_B ?F ?X ?T ?e ?v ?n ?_ ?a ?b ?c ?d ?g; (case F => k_asm); (case X => k_asm); (case T => k_asm); (case a => rfl); (case b => rfl); (case c => rfl); (case d => rfl); (case g => decide); (case e => k_is); (case v => boot_fast); (case n => decide); k_whole)))
local macro_rules | `(tactic| walk_at "eval Name") => `(tactic| ((with_reducible show wpAny _ _ (eval _ (compEnvC _ _ _ _)) _ _ _); k_dflt (refine' nameG_K ?F ?X ?T ?e ?_ ?a ?c ?d ?g; (case F => k_asm); (case X => k_asm); (case T => k_asm); (case a => rfl); (case c => rfl); (case d => rfl); (case g => decide); (case e => k_is); k_whole)))
local macro_rules | `(tactic| walk_at "lst") => `(tactic| first | exact lst_up (by assumption) (Fr.keep (by k_asm)) | exact lst_news (by k_asm) (by k_mem))
local macro_rules | `(tactic| walk_at "call builtin:len") => `(tactic| (k_dflt (refine' len_list ?l ?f ?_; (case l => walk_at "lst"); (case f => (rw [List.size_toArray]; omega)); k_whole); (try rw [List.size_toArray])))
theorem st0 {prog : Program} {w : World} {A : Around} {s : Shared} {g : Heap} {L fa : Addr} {cd : Value} {mg mb : Str → Option Value} {p : Program} {loose : List Str} {Q : Flow → Shared → Prop} {sl : Addr} {vs : List Value} {ns : List Int} {o1 o2 o3 o4 : Obj}
   (X : (hd.heap_39 w.params).In g) (T : TopRead p loose mg mb g) (hA : A.handled = none) (F : Fr g L s.heap (fun _ => none)) (N : News g L s.heap [(L + 1 + 1 + 1 + 1, o4), (L + 1 + 1 + 1, o3), (L + 1 + 1, o2), (L + 1, o1)]) (h1 : o1.data = .cell (some (.ref sl))) (h2 : o2.data = .cell none) (h3 : o3.data = .cell none) (h4 : o4.data = .cell none) (hsl : g.IsList sl vs.toArray) (hi : IntsAre vs ns) (h64 : ns.length < 64)
   (k : ∀ s', P1 g L s s' → wpAny (model prog w) A (execs (lawBody.drop 1) (lawEnv L fa cd)) Q (fun _ _ => False) s') :
   wpAny (model prog w) A (execs lawBody (lawEnv L fa cd)) Q (fun _ _ => False) s := by
  refine seg_step (P1 g L s) ?_ k
  unfold lawEnv
  have hvl : vs.length = ns.length := hi.length
  walk_at "go"
  rename IsRange _ _ _ _ _ _ _ _ => Rg
  rename Fr _ _ _ _ => F'
  rename News _ _ _ _ => N'
  refine Hold.out ?_
  have hsz : Builtin.Range.rangeSize 0 4 1 = ((4 : Nat) : Int) := by rw [rangeSize_one]; rfl
  refine range_compS (fun i ys => ∃ dd, IntsAre ys dd ∧ dd.length = i ∧ ∀ d ∈ dd, 0 ≤ d ∧ d < 10007) hA Rg (small_one (by omega) (by omega) (by omega) (by omega)) hsz (by rw [sizeLine_eq]; omega) F' N' ⟨[], .nil, rfl, fun _ h => nomatch h⟩ ?_ ?_
  · rintro i t ys h tk I' ob C oC DD m₂ E' hin ⟨dd, hI, hl, hr⟩ hns hx hIC hID hCD hoff F N
    rw [show (0 : Int) + (i : Int) * 1 = i by omega] at hx
    refine CBody.nil ?_
    clear F' N' Rg hsz
    walk_at "kf"
    walk_at "go"
    all_goals
      rename Fr _ _ _ _ => F'
      rename News _ _ _ _ => N'
      refine CEnd.same F' N' (by walk_at "sub") hoff ⟨dd ++ [_], ksk_snoc hI, by simp [hl], fun d hd => ?_⟩
      rcases List.mem_append.mp hd with hd | hd
      · exact hr d hd
      · rw [List.mem_singleton.mp hd]
        first | exact fmod_in (by decide) | exact ⟨Int.emod_nonneg _ (by decide), Int.emod_lt_of_pos _ (by decide)⟩
  · rintro ys h ⟨dd, hI, hl, hr⟩ D h' tk' F N off
    replace off := off1_of off
    simp only [LCg.Off1, and_true] at off
    change News g _ h' ((D, listOf (List.toArray ys) ys.length) :: _) at N
    clear F' N' Rg hsz
    walk_at "go"
    rename Fr _ _ _ _ => F
    obtain ⟨q1, q2, q3, q4⟩ := off
    exact ⟨_, D, ys, dd, _, o1, o2, o3, o4, ⟨⟨h', _, rfl, F, N⟩⟩, rfl, hI, hl, hr, ⟨_, h2⟩, ⟨_, h3⟩, ⟨_, h4⟩, Ne.symm q1, Ne.symm q2, Ne.symm q3, Ne.symm q4⟩
end Mine
end LW1_part
section LW2_part
open PySem PySem.W PyProof.Rows PySem.Calls
namespace Mine
local macro_rules | `(tactic| k_all) => `(tactic| assumption)
local macro_rules | `(tactic| walk_at "pyIter ref") => `(tactic| refine Hold.of ?_)
local macro_rules | `(tactic| walk_at "call ref") => `(tactic| refine Hold.of ?_)
local macro_rules | `(tactic| walk_at "exec For") => `(tactic| (with_unfolding_all refine' For_run ?_))
local macro_rules | `(tactic| walk_at "exec For Name Call cons nil") => `(tactic| (with_unfolding_all refine' For_run ?_))
local macro_rules | `(tactic| walk_at "exec For Tuple Call cons nil") => `(tactic| (with_unfolding_all refine' For_run ?_))
local macro_rules | `(tactic| walk_at "getAttr ref") => `(tactic| (k_dflt (refine' get_own ?k1 ?k2 (inst_up ?k3 (Fr.keep ?k1)) ?k4 ?k5 ?k6 ?k7 ?k8 ?k9 ?_; (case k1 => k_asm); (case k2 => k_asm); (case k3 => k_asm); (case k4 => k_is); (case k5 => k_is); (case k6 => k_is); (case k7 => k_is); (case k8 => k_asm); (case k9 => k_handed); k_whole)))
local macro_rules | `(tactic| walk_at "eval Name") => `(tactic| ((with_reducible show wpAny _ _ (eval _ (envOfC _ _ _ _ _)) _ _ _); k_dflt (refine' nameX_L ?F ?v ?_ ?a ?b ?d; (case F => k_asm); (case v => rfl); (case a => kernel_rfl); (case b => kernel_rfl); (case d => kernel_rfl); k_whole)))
local macro_rules | `(tactic| walk_at "eval Name") => `(tactic| ((with_reducible show wpAny _ _ (eval _ (envOf _ _ _ _ _)) _ _ _); k_dflt (refine' ld ?k1 ?k2 ?_ ?k3 ?k4 ?k5; (case k1 => k_asm); (case k2 => exact rfl); (case k3 => kernel_rfl); (case k4 => kernel_rfl); (case k5 => kernel_rfl); k_whole)))
local macro_rules | `(tactic| walk_at "Turned") => `(tactic| first | refine Turned.ret ?_ | refine Turned.brk ?_)
local macro_rules | `(tactic| walk_at "go") => `(tactic| repeat' (first | (k_unfold; (try dsimp only)) | walk1 | (dsimp only; walk1) | (dsimp only; k_unfold; (try dsimp only))))
local macro_rules | `(tactic| walk_at "kf") => `(tactic| ((with_reducible show wpAny _ _ _ _ _ _); k_fold))
local macro_rules | `(tactic| walk_at "locals") => `(tactic| (intro y h1 h2; simp only [List.mem_cons, List.not_mem_nil, or_false, not_or] at h1 h2; simp [h1, h2]))
local macro_rules | `(tactic| walk_at "eval ListComp") => `(tactic| (k_dflt (refine ListComp_runF (by k_asm) (by with_unfolding_all rfl) (by rfl) (by decide) ?_)))
local macro_rules | `(tactic| walk_at "exec Assign cons ListComp") => `(tactic| (k_dflt (refine Assign_ListComp_runF (by k_asm) (by with_unfolding_all rfl) (by with_unfolding_all rfl) (by rfl) (by decide) (by rfl) (by rfl) (by rfl) ?_)))
local macro_rules | `(tactic| walk_at "sub") => `(tactic| first | exact List.forall_mem_nil _ | refine List.forall_mem_cons.mpr ⟨by k_mem, by walk_at "sub"⟩)
local macro_rules | `(tactic| walk_at "hnd1") => `(tactic| first | exact apart_nil | refine apart_cons (by k_ne) (by walk_at "hnd1"))
local macro_rules | `(tactic| walk_at "hnd2") => `(tactic| first | exact Apart.nil | refine Apart.cons (by walk_at "hnd1") (by walk_at "hnd2"))
local macro_rules | `(tactic| walk_at "hnd") => `(tactic| exact Apart.nd (by walk_at "hnd2"))
local macro_rules | `(tactic| k_ne) => `(tactic| first | exact NE.out (by assumption) | exact NE.flip (by assumption) | (refine neN ?_; (try dsimp only); omega))
local macro_rules | `(tactic| walk_at "mem") => `(tactic| first | exact List.Mem.head _ | (refine List.Mem.tail _ ?_; walk_at "mem"))
theorem st1 {prog : Program} {w : World} {A : Around} {s s' : Shared} {g : Heap} {L fa : Addr} {cd : Value} {mg mb : Str → Option Value} {p : Program} {loose : List Str} {Q : Flow → Shared → Prop}
   (X : (hd.heap_39 w.params).In g) (T : TopRead p loose mg mb g) (hA : A.handled = none) (hP : P1 g L s s')
   (k : ∀ s', P2 g L s s' → wpAny (model prog w) A (execs (lawBody.drop 2) (lawEnv L fa cd)) Q (fun _ _ => False) s') :
   wpAny (model prog w) A (execs (lawBody.drop 1) (lawEnv L fa cd)) Q (fun _ _ => False) s' := by
  refine seg_step (P2 g L s) ?_ k
  unfold lawEnv
  obtain ⟨m, dl, dv, dd, c, o1, o2, o3, o4, ⟨h, tk, rfl, F, N⟩, hm, hI, hl, hr, h2, h3, h4, n1, n2, n3, n4⟩ := hP
  walk_at "go"
  · trivial
  rename Fr _ _ _ _ => F'
  rename News _ _ _ _ => N'
  exact ⟨_, dl, dv, dd, c, o1, o2, o3, o4, _, _, _, _, _, _, ⟨⟨_, _, rfl, F', N'⟩⟩, (if_neg (by decide)).trans hm, rfl, hI, hl, hr, h2, h3, h4, n1, n2, n3, n4⟩
end Mine
end LW2_part
section LWb_part
open PySem PySem.W PyProof.Rows PySem.Calls
namespace Mine
theorem ints4 {zs : List Value} {p : Pt} (hI : IntsAre zs (prow p)) : ∃ u1 u2 u3 u4, zs = [.int p.1 u1, .int p.2.1 u2, .int p.2.2.1 u3, .int p.2.2.2 u4] := by
  unfold prow at hI
  cases hI with
  | cons _ u1 hI =>
    cases hI with
    | cons _ u2 hI =>
      cases hI with
      | cons _ u3 hI =>
        cases hI with
        | cons _ u4 hI =>
          cases hI with
          | nil => exact ⟨u1, u2, u3, u4, rfl⟩
theorem Tups.app {h₀ : Heap} {held : List (Addr × Obj)} : ∀ {vs vs' : List Value} {rows rows' : List (List Int)}, Tups h₀ held vs rows → Tups h₀ held vs' rows' → Tups h₀ held (vs ++ vs') (rows ++ rows')
  | [], _, [], _, _, h' => h'
  | v :: vs, vs', r :: rows, rows', h, h' => by
    refine Tups.cons0 (vs := vs ++ vs') (rows := rows ++ rows') (h.2 0 (by simp)) (Tups.app ⟨by simpa using h.1, fun i hi => h.2 (i + 1) (by simpa using hi)⟩ h')
  | [], _, _ :: _, _, h, _ => by simpa using h.1
  | _ :: _, _, [], _, h, _ => by simpa using h.1
theorem Tups.take {h₀ : Heap} {held : List (Addr × Obj)} {vs : List Value} {rows : List (List Int)} (h : Tups h₀ held vs rows) (n : Nat) : Tups h₀ held (vs.take n) (rows.take n) := by
  refine ⟨by rw [List.length_take, List.length_take, h.1], fun i hi => ?_⟩
  rw [List.length_take] at hi
  have := h.2 i (by omega)
  rw [List.getD_eq_getElem?_getD, List.getD_eq_getElem?_getD, List.getElem?_take_of_lt (by omega), List.getElem?_take_of_lt (by omega), ← List.getD_eq_getElem?_getD, ← List.getD_eq_getElem?_getD]
  exact this
theorem Tups.drop {h₀ : Heap} {held : List (Addr × Obj)} {vs : List Value} {rows : List (List Int)} (h : Tups h₀ held vs rows) (n : Nat) : Tups h₀ held (vs.drop n) (rows.drop n) := by
  refine ⟨by rw [List.length_drop, List.length_drop, h.1], fun i hi => ?_⟩
  rw [List.length_drop] at hi
  have := h.2 (n + i) (by omega)
  rw [List.getD_eq_getElem?_getD, List.getD_eq_getElem?_getD, List.getElem?_drop, List.getElem?_drop, ← List.getD_eq_getElem?_getD, ← List.getD_eq_getElem?_getD]
  exact this
theorem Tups.mono {h₀ : Heap} {held held' : List (Addr × Obj)} {vs : List Value} {rows : List (List Int)} (h : Tups h₀ held vs rows) (hs : ∀ q ∈ held, q ∈ held') : Tups h₀ held' vs rows := ⟨h.1, fun i hi => (h.2 i hi).mono hs⟩
theorem Tups.tupAt {held : List (Addr × Obj)} {vs : List Value} {ps : List Pt} (h : Tups noH held vs (ps.map prow)) {i : Nat} (hi : i < ps.length) :
    ∃ T o n p u1 u2 u3 u4, vs.toArray[i]? = some (.ref T) ∧ (T, o) ∈ held ∧ o.cls = .type "tuple" ∧ o.data = .seq #[.int p.1 u1, .int p.2.1 u2, .int p.2.2.1 u3, .int p.2.2.2 u4] n ∧ ps[i]? = some p := by
  obtain ⟨h1, h2⟩ := h
  rw [List.length_map] at h1
  obtain ⟨a, xs, e, ht, hI⟩ := h2 i (by rw [List.length_map]; exact hi)
  rcases ht with ⟨o, ho, _⟩ | ⟨o, hm, hc, n, hd⟩
  · exact absurd (Heap.lt_size ho) (Nat.not_lt_zero _)
  have er : (ps.map prow).getD i [] = prow ps[i] := by rw [List.getD_eq_getElem?_getD, List.getElem?_map, List.getElem?_eq_getElem hi]; rfl
  rw [er] at hI
  obtain ⟨u1, u2, u3, u4, ez⟩ := ints4 hI
  have ex : xs = #[.int ps[i].1 u1, .int ps[i].2.1 u2, .int ps[i].2.2.1 u3, .int ps[i].2.2.2 u4] := by rw [← Array.toArray_toList (xs := xs), ez]
  rw [ex] at hd
  have ev : vs[i]? = some (.ref a) := by
    rw [List.getD_eq_getElem?_getD, List.getElem?_eq_getElem (by omega), Option.getD_some] at e
    rw [List.getElem?_eq_getElem (by omega), e]
  exact ⟨a, o, n, ps[i], u1, u2, u3, u4, by simpa using ev, hm, hc, hd, List.getElem?_eq_getElem hi⟩
theorem kms_hi_at {a : Int} {n : Nat} (h0 : 0 ≤ a) (h1 : a ≤ n) : kms_hi (some a) n = a.toNat := by
  show (if a < 0 then n - (-a).toNat else min a.toNat n) = a.toNat
  rw [if_neg (by omega)]; omega
theorem kms_lo_at {a : Int} {n : Nat} (h0 : 0 ≤ a) (h1 : a ≤ n) : kms_lo (some a) n = a.toNat := by
  show (if a < 0 then n - (-a).toNat else min a.toNat n) = a.toNat
  rw [if_neg (by omega)]; omega
theorem pick_take {l : List Value} {a : Int} (h0 : 0 ≤ a) (h1 : a ≤ l.length) : slicePick (List.toArray l) none (some a) none = List.toArray (l.take a.toNat) := by
  rw [kms_pick_eq]
  show List.toArray ((l.drop 0).take (kms_hi (some a) l.length - 0)) = _
  rw [kms_hi_at h0 h1, List.drop_zero, Nat.sub_zero]
theorem pick_drop {l : List Value} {a : Int} (h0 : 0 ≤ a) (h1 : a ≤ l.length) : slicePick (List.toArray l) (some a) none none = List.toArray (l.drop a.toNat) := by
  rw [kms_pick_eq]
  show List.toArray ((l.drop (kms_lo (some a) l.length)).take (l.length - kms_lo (some a) l.length)) = _
  rw [kms_lo_at h0 h1, ← List.length_drop, List.take_length]
theorem cut_place {ps : List Pt} {i : Nat} {p : Pt} (h : ps[i]? = some p) : ps = ps.take i ++ p :: ps.drop (i + 1) := by
  obtain ⟨hi, e⟩ := List.getElem?_eq_some_iff.mp h
  rw [← e, List.getElem_cons_drop, List.take_append_drop]
end Mine
end LWb_part
section LW3_part
open PySem PySem.W PyProof.Rows PySem.Calls
namespace Mine
local macro_rules | `(tactic| walk_at "zz0") => `(tactic| fail)
local macro_rules | `(tactic| walk_at "zz1") => `(tactic| fail)
local macro_rules | `(tactic| walk_at "zz2") => `(tactic| fail)
local macro_rules | `(tactic| walk_at "zz3") => `(tactic| fail)
local macro_rules | `(tactic| walk_at "zz4") => `(tactic| fail)
local macro_rules | `(tactic| walk_at "zz5") => `(tactic| fail)
local macro_rules | `(tactic| walk_at "zz6") => `(tactic| fail)
local macro_rules | `(tactic| walk_at "zz7") => `(tactic| fail)
local macro_rules | `(tactic| walk_at "zz8") => `(tactic| fail)
local macro_rules | `(tactic| walk_at "zz9") => `(tactic| fail)
local macro_rules | `(tactic| walk_at "zz10") => `(tactic| fail)
local macro_rules | `(tactic| walk_at "zz11") => `(tactic| fail)
local macro_rules | `(tactic| walk_at "zz12") => `(tactic| fail)
local macro_rules | `(tactic| walk_at "zz13") => `(tactic| fail)
local macro_rules | `(tactic| walk_at "zz14") => `(tactic| fail)
local macro_rules | `(tactic| walk_at "zz15") => `(tactic| fail)
local macro_rules | `(tactic| walk_at "zz16") => `(tactic| fail)
local macro_rules | `(tactic| walk_at "zz17") => `(tactic| fail)
local macro_rules | `(tactic| walk_at "zz18") => `(tactic| fail)
local macro_rules | `(tactic| walk_at "zz19") => `(tactic| fail)
local macro_rules | `(tactic| walk_at "zz20") => `(tactic| fail)
local macro_rules | `(tactic| walk_at "zz21") => `(tactic| fail)
local macro_rules | `(tactic| walk_at "zz22") => `(tactic| fail)
local macro_rules | `(tactic| walk_at "zz23") => `(tactic| fail)
local macro_rules | `(tactic| walk_at "zz24") => `(tactic| fail)
local macro_rules | `(tactic| walk_at "zz25") => `(tactic| fail)
local macro_rules | `(tactic| walk_at "zz26") => `(tactic| fail)
local macro_rules | `(tactic| walk_at "zz27") => `(tactic| fail)
local macro_rules | `(tactic| walk_at "zz28") => `(tactic| fail)
local macro_rules | `(tactic| walk_at "zz29") => `(tactic| fail)
local macro_rules | `(tactic| k_all) => `(tactic| assumption)
local macro_rules | `(tactic| walk_at "pyIter ref") => `(tactic| refine Hold.of ?_)
local macro_rules | `(tactic| walk_at "call ref") => `(tactic| refine Hold.of ?_)
local macro_rules | `(tactic| walk_at "exec For") => `(tactic| (with_unfolding_all refine' For_run ?_))
local macro_rules | `(tactic| walk_at "exec For Name Call cons nil") => `(tactic| (with_unfolding_all refine' For_run ?_))
local macro_rules | `(tactic| walk_at "exec For Tuple Call cons nil") => `(tactic| (with_unfolding_all refine' For_run ?_))
local macro_rules | `(tactic| walk_at "getAttr ref") => `(tactic| (k_dflt (refine' get_own ?k1 ?k2 (inst_up ?k3 (Fr.keep ?k1)) ?k4 ?k5 ?k6 ?k7 ?k8 ?k9 ?_; (case k1 => k_asm); (case k2 => k_asm); (case k3 => k_asm); (case k4 => k_is); (case k5 => k_is); (case k6 => k_is); (case k7 => k_is); (case k8 => k_asm); (case k9 => k_handed); k_whole)))
local macro_rules | `(tactic| walk_at "eval Name") => `(tactic| ((with_reducible show wpAny _ _ (eval _ (envOfC _ _ _ _ _)) _ _ _); k_dflt (refine' nameX_L ?F ?v ?_ ?a ?b ?d; (case F => k_asm); (case v => rfl); (case a => kernel_rfl); (case b => kernel_rfl); (case d => kernel_rfl); k_whole)))
local macro_rules | `(tactic| walk_at "eval Name") => `(tactic| ((with_reducible show wpAny _ _ (eval _ (envOf _ _ _ _ _)) _ _ _); k_dflt (refine' ld ?k1 ?k2 ?_ ?k3 ?k4 ?k5; (case k1 => k_asm); (case k2 => exact rfl); (case k3 => kernel_rfl); (case k4 => kernel_rfl); (case k5 => kernel_rfl); k_whole)))
local macro_rules | `(tactic| walk_at "Turned") => `(tactic| first | refine Turned.ret ?_ | refine Turned.brk ?_)
local macro_rules | `(tactic| walk_at "go") => `(tactic| repeat' (first | (k_unfold; (try dsimp only)) | walk1 | (dsimp only; walk1) | (dsimp only; k_unfold; (try dsimp only))))
local macro_rules | `(tactic| walk_at "kf") => `(tactic| ((with_reducible show wpAny _ _ _ _ _ _); k_fold))
local macro_rules | `(tactic| walk_at "locals") => `(tactic| (intro y h1 h2; simp only [List.mem_cons, List.not_mem_nil, or_false, not_or] at h1 h2; simp [h1, h2]))
local macro_rules | `(tactic| walk_at "eval ListComp") => `(tactic| (k_dflt (refine ListComp_runF (by k_asm) (by with_unfolding_all rfl) (by rfl) (by decide) ?_)))
local macro_rules | `(tactic| walk_at "exec Assign cons ListComp") => `(tactic| (k_dflt (refine Assign_ListComp_runF (by k_asm) (by with_unfolding_all rfl) (by with_unfolding_all rfl) (by rfl) (by decide) (by rfl) (by rfl) (by rfl) ?_)))
local macro_rules | `(tactic| walk_at "sub") => `(tactic| first | exact List.forall_mem_nil _ | refine List.forall_mem_cons.mpr ⟨by k_mem, by walk_at "sub"⟩)
local macro_rules | `(tactic| walk_at "hnd1") => `(tactic| first | exact apart_nil | refine apart_cons (by k_ne) (by walk_at "hnd1"))
local macro_rules | `(tactic| walk_at "hnd2") => `(tactic| first | exact Apart.nil | refine Apart.cons (by walk_at "hnd1") (by walk_at "hnd2"))
local macro_rules | `(tactic| walk_at "hnd") => `(tactic| exact Apart.nd (by walk_at "hnd2"))
local macro_rules | `(tactic| k_ne) => `(tactic| first | exact NE.out (by assumption) | exact NE.flip (by assumption) | (refine neN ?_; (try dsimp only); omega))
local macro_rules | `(tactic| walk_at "mem") => `(tactic| first | exact List.Mem.head _ | (refine List.Mem.tail _ ?_; walk_at "mem"))
local macro_rules | `(tactic| walk_at "subscriptTail Name Name ref int") => `(tactic| (k_dflt (refine' item_listT ?l ?a ?b ?x ?_; (case l => walk_at "lst"); (case a => omega); (case b => omega); (case x => assumption))))
local macro_rules | `(tactic| walk_at "lst") => `(tactic| first | exact lst_up (by assumption) (Fr.keep (by k_asm)) | exact lst_news (by k_asm) (by k_mem))
local macro_rules | `(tactic| walk_at "call builtin:len") => `(tactic| (k_dflt (refine' len_list ?l ?f ?_; (case l => walk_at "lst"); (case f => (rw [List.size_toArray]; omega)); k_whole); (try rw [List.size_toArray])))
local macro_rules | `(tactic| walk_at "exec For Name Subscript cons nil") => `(tactic| (with_unfolding_all refine' For_run ?_))
local macro_rules | `(tactic| walk_at "exec For Name Name cons nil") => `(tactic| (with_unfolding_all refine' For_run ?_))
local macro_rules | `(tactic| walk_at "binaryOp Add ref ref") => `(tactic| refine Hold.of ?_)
local macro_rules | `(tactic| walk_at "binaryOp Add ref ref") => `(tactic| (k_here; (with_reducible show wpAny _ _ (binaryOp _ (Value.ref _) (Value.ref _)) _ _ _); k_dflt (refine' kmk_add_lit ?F ?N ?a ?b ?e ?_ ?z; (case F => k_asm); (case N => k_asm); (case a => walk_at "lst"); (case b => walk_at "lst"); (case e => exact rfl); (case z => (simp only [sizeLine_eq, List.length_append]; omega))); intro D' h' F' N' l1; (try k_lt l1); (try k_sweep)))
local macro_rules | `(tactic| walk_at "subscriptTail Name Slice ref ref") => `(tactic| (k_here; (with_reducible show wpAny _ _ (subscriptTail _ (PySem.Expr.Slice _ _ none _) (Value.ref _) (Value.ref _)) _ _ _); k_dflt (refine' kmk_slice ?F ?N ?l ?p ?q ?_ ?s ?t ?z; (case F => k_asm); (case N => k_asm); (case l => walk_at "lst"); (case p => kmk_part); (case q => kmk_part); (case s => with_unfolding_all rfl); (case t => kmk_pure); (case z => (simp only [sizeLine_eq, List.size_toArray]; omega))); intro D' h' F' N' l1; (try k_lt l1); (try k_sweep)))
theorem st2 {prog : Program} {w : World} {A : Around} {s s' : Shared} {g : Heap} {L fa : Addr} {cd : Value} {mg mb : Str → Option Value} {p : Program} {loose : List Str} {Q : Flow → Shared → Prop}
   (X : (hd.heap_39 w.params).In g) (T : TopRead p loose mg mb g) (hA : A.handled = none) (hAd : A.depth ≤ 800) (hAu : A.units ≤ 4000) (hP : P2 g L s s')
   (k : ∀ s', P3 g L s s' → wpAny (model prog w) A (execs (lawBody.drop 3) (lawEnv L fa cd)) Q (fun _ _ => False) s') :
   wpAny (model prog w) A (execs (lawBody.drop 2) (lawEnv L fa cd)) Q (fun _ _ => False) s' := by
  refine seg_step (P3 g L s) ?_ k
  unfold lawEnv
  obtain ⟨m, dl, dv, dd, c, o1, o2, o3, o4, pl, T0, t1, t2, t3, t4, ⟨h, tk, rfl, F, N⟩, hm, hmp, hI, hl, hr, h2, h3, h4, n1, n2, n3, n4⟩ := hP
  rw [map_knows hmp, map_knows hm] at F
  walk_at "go"
  rename Fr _ _ _ _ => F'
  rename News _ _ _ _ => N'
  rename IntsAre _ (List.take 3 dd) => hI3
  rename_i D3 v3 _ _ _ _
  refine Hold.out ?_
  have hl3 : v3.length = 3 := by have := hI3.length; rw [List.length_take] at this; omega
  refine list_runW (n := 3) ["spot", "parts"] (LCut L D3 dl v3 dv 0 c o1 o2 o3 o4) hA F' (news_sub N' fun q hq => ?_) ⟨pl, [.ref T0], 0, [(T0, tupOf [.int 0 t1, .int 0 t2, .int 8 t3, .int 16 t4])], [(0, 0, 8, 16)], rfl, rfl, ?_, tiling_box, fun _ => rfl, fun h => absurd h (Nat.lt_irrefl _), by decide, by decide⟩ (fun i u led => by rintro ⟨pl, pv, pc, tps, ps, rfl, _⟩; exact ⟨_, _, .head _, by rw [List.size_toArray, hl3]⟩) ?_ ?_
  · simp only [List.mem_cons, List.not_mem_nil, or_false] at hq ⊢
    rcases hq with h | h | h | h | h | h | h | h <;> simp only [h, true_or, or_true]
  · exact Tups.cons0 (tupN4 (.head _) rfl rfl) Tups.nil0
  · rintro i v items c9 u news₁ h₂ tk₂ I' ob hin hml hisz hiv ⟨pl', pv, pc, tps, ps, rfl, hu, hT, hTl, hi0, hi1, hp1, hp2⟩ hoff F₂ N₂
    have hmm : items = List.toArray v3 := by
      have e1 := (N₂ _ (.tail _ hml)).1
      have e2 := (N₂ _ (.tail _ (.head _))).1
      rw [e1] at e2
      injection e2 with e2
      simp only [W.listOf, Obj.mk.injEq, Data.seq.injEq] at e2
      exact e2.2.2.1.1
    subst hmm
    obtain ⟨d, hd, hdr⟩ : ∃ d, dd[i]? = some d ∧ (0 ≤ d ∧ d < 10007) := ⟨_, List.getElem?_eq_getElem (show i < dd.length by omega), hr _ (List.getElem_mem _)⟩
    obtain ⟨tv, rfl⟩ : ∃ t, v = .int d t := by
      obtain ⟨t, ht⟩ := hI3.get i d (by rw [List.getElem?_take_of_lt hin]; exact hd)
      have hiv' : v3[i]? = some v := by simpa using hiv
      exact ⟨t, Option.some.inj (hiv'.symm.trans ht)⟩
    have hpvl : pv.length = ps.length := by have := hT.1; rw [List.length_map] at this; exact this
    have hsp := fmod_in (a := d.fdiv 3) (b := (pv.length : Int)) (by omega)
    obtain ⟨Ta, oT, nT, q, w1, w2, w3, w4, hTv, hTm, hTc, hTd, hq⟩ := hT.tupAt (i := ((d.fdiv 3).fmod (pv.length : Int)).toNat) (by omega)
    have hqb := hTl.box q (List.mem_of_getElem? hq)
    rw [map_knows hu] at F₂
    clear hml hisz hiv F' N'
    have N3 : News g L h₂ ((Ta, oT) :: (I', ob) :: _) := fun z hz => by
      rcases List.mem_cons.mp hz with rfl | hz
      · exact N₂ _ (.tail _ (.tail _ (.tail _ (.tail _ (.tail _ (.tail _ (.tail _ (.tail _ hTm))))))))
      · exact N₂ z hz
    clear N₂
    walk_at "kf"
    walk_at "go"
    rename Fr _ _ _ _ => F'
    rename News _ _ _ _ => N'
    have hkd := fmod_in (a := d) (b := 3) (by decide)
    have hnm : 0 ≤ d.fdiv 15 := Int.fdiv_nonneg hdr.1 (by decide)
    refine Hold.out (wpAny_call (use_call [] _ F' N' (by simp) (fun g' st' hr' S' => lv_le (law_cut (X.keeps st') (T.keeps st') S' (hr' (Ta, oT) (by walk_at "mem")) hTc hTd hnm (by omega) (by omega) (by omega) (by omega) (by omega) (by omega)) hA (by omega) (by omega)) ?_))
    rintro v led h₄ tk₄ ⟨Dc, out, co, rfl, hDc, hout⟩ F₄ N₄ hap
    have N5 : News g L h₄ ((Dc, listOf (List.toArray out) co) :: (_, listOf (slicePick (List.toArray pv) none (some ((d.fdiv 3).fmod (pv.length : Int))) none) 0) :: (Ta, oT) :: (I', ob) :: (D3, listOf (List.toArray v3) 0) :: (pl', listOf (List.toArray pv) pc) :: (dl, listOf (List.toArray dv) c) :: (L + 1 + 1 + 1 + 1, o4) :: (L + 1 + 1 + 1, o3) :: (L + 1 + 1, o2) :: (L + 1, o1) :: (tps ++ led)) := news_sub N₄ fun z hz => by
      rcases List.mem_cons.mp hz with rfl | hz
      · exact List.mem_append_left _ hDc
      · rw [List.mem_append]
        simp only [List.mem_cons, List.mem_append] at hz ⊢
        rcases hz with e | e | e | e | e | e | e | e | e | e | e | e
        all_goals first | exact Or.inl e | (refine Or.inr ?_; simp only [e, true_or, or_true]; done) | (refine Or.inr ?_; (repeat (first | exact e | exact Or.inl e | refine Or.inr ?_)))
    have hledI : ∀ z ∈ led, @Ne Nat z.1 I' := fun z hz => hap z hz (I', ob) (.tail _ (.tail _ (.head _)))
    have hledN : ∀ z ∈ led, h₄.get? z.1 = some z.2 ∧ z.1 ≠ L ∧ g.get? z.1 = none := fun z hz => N₄ z (List.mem_append_left _ hz)
    clear F' N' N₄ hap
    rw [pick_take hsp.1 (Int.le_of_lt hsp.2)] at N5
    dsimp only at N5 ⊢
    replace N5 : News g L h₄ ((Dc, listOf (List.toArray out) co) :: (_, listOf (List.toArray (List.take ((d.fdiv 3).fmod (pv.length : Int)).toNat pv)) 0) :: _) := N5
    have hol : out.length ≤ 5 := by have := hout.1; rw [List.length_map] at this; rw [this]; exact (cutP_len _ _ _).2
    have hpv9 : pv.length ≤ 9 := by omega
    generalize hsp' : (d.fdiv 3).fmod (pv.length : Int) = sp at *
    have htk : (List.take sp.toNat pv).length ≤ 9 := by rw [List.length_take]; omega
    have hdl : (List.drop (sp + 1).toNat pv).length ≤ 9 := by rw [List.length_drop]; omega
    have hto : (List.take sp.toNat pv ++ out).length ≤ 14 := by rw [List.length_append]; omega
    walk_at "go"
    rename News _ _ _ _ => N6
    rename Fr _ _ _ _ => F6
    rw [pick_drop (by omega) (by omega)] at N6
    replace N6 : News g L _ ((_, listOf (List.toArray (List.drop (sp + 1).toNat pv)) 0) :: (_, listOf (List.toArray (List.take sp.toNat pv ++ out)) 0) :: _) := N6
    refine Hold.out ?_
    walk_at "go"
    rename News _ _ _ _ => N7
    rename Fr _ _ _ _ => F7
    rename @LT.lt Nat _ _ _ ∧ _ => l7
    rename_i D7 _ _
    have e1 : (sp + 1).toNat = sp.toNat + 1 := by omega
    have hTm' : (Ta, oT) ∈ (Ta, oT) :: (tps ++ led) := .head _
    refine Turned.next F7 (news' := (D3, listOf (List.toArray v3) 0) :: (D7, listOf (List.toArray ((List.take sp.toNat pv ++ out) ++ List.drop (sp + 1).toNat pv)) 0) :: (dl, listOf (List.toArray dv) c) :: (L + 1 + 1 + 1 + 1, o4) :: (L + 1 + 1 + 1, o3) :: (L + 1 + 1, o2) :: (L + 1, o1) :: (Ta, oT) :: (tps ++ led)) (news_sub N7 fun z hz => ?_) (fun z hz => not_one.mpr ?_) (by walk_at "locals")
      ⟨D7, _, 0, (Ta, oT) :: (tps ++ led), (ps.take sp.toNat ++ cutP q (d.fmod 3) (d.fdiv 15)) ++ ps.drop (sp + 1).toNat, rfl, rfl, ?_, ?_, fun h => absurd h (Nat.succ_ne_zero i), fun _ => ?_, ?_, ?_⟩
    · simp only [List.cons_append, List.nil_append, List.mem_cons] at hz
      rcases hz with e | e | e | e | e | e | e | e | e | e
      all_goals first | (rw [e]; k_mem) | (repeat (first | exact e | exact .tail _ e | refine .tail _ ?_))
    · simp only [List.mem_cons, List.mem_append] at hz
      rcases hz with e | e | e | e | e | e | e | e | e | e
      · rw [e]; exact hoff (D3, _) (.head _)
      · rw [e]; exact Nat.ne_of_gt (show I' < D7 from l7.2.2.2.2.2.1)
      · rw [e]; exact hoff (dl, _) (.tail _ (.tail _ (.head _)))
      · rw [e]; exact hoff (L + 1 + 1 + 1 + 1, _) (by k_mem)
      · rw [e]; exact hoff (L + 1 + 1 + 1, _) (by k_mem)
      · rw [e]; exact hoff (L + 1 + 1, _) (by k_mem)
      · rw [e]; exact hoff (L + 1, _) (by k_mem)
      · rw [e]; exact hoff (Ta, oT) (.tail _ (.tail _ (.tail _ (.tail _ (.tail _ (.tail _ (.tail _ hTm)))))))
      · exact hoff z (.tail _ (.tail _ (.tail _ (.tail _ (.tail _ (.tail _ (.tail _ e)))))))
      · exact hledI z e
    · rw [List.map_append, List.map_append, List.map_take, List.map_drop]
      refine Tups.app (Tups.app ((hT.take _).mono fun z hz => .tail _ (List.mem_append_left _ hz)) (hout.mono fun z hz => ?_)) ((hT.drop _).mono fun z hz => .tail _ (List.mem_append_left _ hz))
      rcases List.mem_cons.mp hz with rfl | hz
      · exact .head _
      · exact .tail _ (List.mem_append_right _ hz)
    · rw [e1]
      refine Splits.tiling (p := q) (by rw [← cut_place hq]; exact hTl) (cutP_splits (by omega) (by omega))
    · have hc1 := (cutP_len q (d.fmod 3) (d.fdiv 15)).1
      rw [List.length_append, List.length_append, List.length_take, List.length_drop]
      rcases Nat.eq_zero_or_pos i with h0 | h0
      · have hps0 := hi0 h0
        have hl1 : ps.length = 1 := by rw [hps0]; rfl
        have hq0 : q = (0, 0, 8, 16) := by
          rw [hps0, show sp.toNat = 0 by omega] at hq
          exact (Option.some.inj hq).symm
        have := cutP_box (nm := d.fdiv 15) hkd.1 hkd.2
        rw [← hq0] at this
        omega
      · have := hi1 h0
        omega
    · have hc1 := (cutP_len q (d.fmod 3) (d.fdiv 15)).1
      rw [List.length_append, List.length_append, List.length_take, List.length_drop]
      omega
    · have hc1 := (cutP_len q (d.fmod 3) (d.fdiv 15)).2
      rw [List.length_append, List.length_append, List.length_take, List.length_drop]
      omega
  · rintro u led h₄ tk₄ ⟨pl', pv, pc, tps, ps, rfl, hu, hT, hTl, hi0, hi1, hp1, hp2⟩ F₄ N₄
    refine ⟨rfl, _, dl, dv, dd, c, o1, o2, o3, o4, pl', pv, pc, tps, ps, ⟨⟨h₄, _, rfl, F₄, news_sub N₄ fun z hz => .tail _ hz⟩⟩, ?_, ?_, hI, hl, hr, h2, h3, h4, hT, hTl, hi1 (by decide), by omega, n1, n2, n3, n4⟩
    · exact (if_neg (by decide)).trans ((if_neg (by decide)).trans ((if_neg (by decide)).trans (if_pos rfl)))
    · exact (if_neg (by decide)).trans ((if_pos (by decide)).trans hu)
end Mine
end LW3_part
section LWc_part
open PySem PySem.W PyProof.Rows PySem.Calls
namespace Mine
theorem Tups.now {g : Heap} {held : List (Addr × Obj)} {vs : List Value} {rows : List (List Int)} (h : Tups noH held vs rows) (hs : ∀ q ∈ held, g.get? q.1 = some q.2) : Tups g [] vs rows :=
  ⟨h.1, fun i hi => by
    obtain ⟨a, xs, e, ht, hI⟩ := h.2 i hi
    refine ⟨a, xs, e, Or.inl ?_, hI⟩
    rcases ht with ⟨o, ho, _⟩ | ⟨o, hm, hc, n, hd⟩
    · exact absurd (Heap.lt_size ho) (Nat.not_lt_zero _)
    · exact ⟨o, hs _ hm, hc, n, hd⟩⟩
theorem news_lst {g : Heap} {l : Addr} {its : Array Value} {c : Nat} (h : g.get? l = some (listOf its c)) : g.IsList l its := ⟨_, h, rfl, c, rfl⟩
section
variable {M : Model} {A : Around} {E : Value → Shared → Prop} {s : Shared} {h₀ : Heap} {L a : Addr} {m : Str → Option Value} {cn : Str} {cs : Scope} {ccd : Value} {x : Str} {v : Value} {news : List (Addr × Obj)} {g : Obj → List (Addr × Obj)} {c : Addr} {o : Obj} {v₀ : Option Value}
theorem storeC_F {Q : Unit → Shared → Prop} (F : Fr h₀ L s.heap m) (N : News h₀ L s.heap news) (hc : (cellsFrom (L + 1) cs.names []).lookup x = some c) (U : UpdF c o news g) (hd : o.data = .cell v₀)
    (h : ∀ h' o', Fr h₀ L h' m → News h₀ L h' (g o') → o'.data = .cell (some v) → Q () { s with heap := h' })
    (hk : cs.kind = .function := by rfl) (hx : (envOfC cn cs L a ccd).kindOf x = some .cell := by rfl) : wpAny M A (storeName (envOfC cn cs L a ccd) x v) Q E s := by
  obtain ⟨own, rest, rfl, hg, h1, h2⟩ := U.split
  have hmem := N (c, o) (List.mem_append_right _ (.head _))
  refine wpAny_storeName_cell hk hx hc ⟨o, hmem.1, hd⟩ fun h' hv hs => ?_
  obtain ⟨o', ho', hd'⟩ := hv
  refine h h' o' ⟨F.ns.sameBut hs (Ne.symm hmem.2.1), fun b ob e => (hs.2 b (fun q => ?_)).trans (F.keep b ob e), F.above⟩ (hg o' ▸ N.setAt h1 h2 hs ho') hd'
  rw [q, hmem.2.2] at e; cases e
end
structure A4 (L c : Addr) : Prop where
  a1 : c ≠ L + 1
  a2 : c ≠ L + 1 + 1
  a3 : c ≠ L + 1 + 1 + 1
  a4 : c ≠ L + 1 + 1 + 1 + 1
def P4 (g : Heap) (L : Addr) (s : Shared) (s' : Shared) : Prop :=
  ∃ m o1 o2 o3 o4 rl rv rc wy t ps, LawS g L s s' m [(rl, listOf (List.toArray rv) rc), (L + 1 + 1 + 1 + 1, o4), (L + 1 + 1 + 1, o3), (L + 1 + 1, o2), (L + 1, o1)] ∧ m "ways" = some (.int wy t) ∧ 1 ≤ wy ∧ wy ≤ 7 ∧ o3.data = .cell (some (.ref rl)) ∧ StrsAre rv ((drawnG ps).map tx) ∧ (∃ v, o2.data = .cell v) ∧ (∃ v, o4.data = .cell v) ∧
    Tiling 8 16 ps ∧ 2 ≤ ps.length ∧ ps.length ≤ 13 ∧ A4 L rl
def P5 (g : Heap) (L : Addr) (s : Shared) (s' : Shared) : Prop :=
  ∃ m o1 o2 o3 o4 rl rv rc cl cv cc tps rows wy t ps T t1 t2, LawS g L s s' m ((T, tupOf [.int (endsOf (drawnG ps) 17 3) t1, .int (endsOf (drawnG ps) 17 4) t2]) :: (cl, listOf (List.toArray cv) cc) :: (rl, listOf (List.toArray rv) rc) :: (L + 1 + 1 + 1 + 1, o4) :: (L + 1 + 1 + 1, o3) :: (L + 1 + 1, o2) :: (L + 1, o1) :: tps) ∧ m "ways" = some (.int wy t) ∧ m "cells" = some (.ref cl) ∧ m "ends" = some (.ref T) ∧ 1 ≤ wy ∧ wy ≤ 7 ∧ o3.data = .cell (some (.ref rl)) ∧ StrsAre rv ((drawnG ps).map tx) ∧ (∃ v, o2.data = .cell v) ∧ (∃ v, o4.data = .cell v) ∧
    Tups noH tps cv rows ∧ rows.Perm (ps.map prow) ∧ Tiling 8 16 ps ∧ 2 ≤ ps.length ∧ ps.length ≤ 13 ∧ A4 L rl ∧ A4 L cl ∧ ∀ z ∈ tps, A4 L z.1
def PW (B R : Int) (g : Heap) (L : Addr) (s : Shared) (s' : Shared) : Prop :=
  ∃ m o1 o2 o3 o4 rl rv rc cl cv cc tps rows wy t G ps, LawS g L s s' m ((cl, listOf (List.toArray cv) cc) :: (rl, listOf (List.toArray rv) rc) :: (L + 1 + 1 + 1 + 1, o4) :: (L + 1 + 1 + 1, o3) :: (L + 1 + 1, o2) :: (L + 1, o1) :: tps) ∧ m "ways" = some (.int wy t) ∧ m "cells" = some (.ref cl) ∧ 1 ≤ wy ∧ wy ≤ 7 ∧ o3.data = .cell (some (.ref rl)) ∧ StrsAre rv (G.map tx) ∧ (∃ v, o2.data = .cell v) ∧ (∃ v, o4.data = .cell v) ∧
    Tups noH tps cv rows ∧ rows.Perm (ps.map prow) ∧ Tiling B R ps ∧ Drawn G B R ps ∧ 2 ≤ ps.length ∧ ps.length ≤ 13 ∧ A4 L rl ∧ A4 L cl ∧ ∀ z ∈ tps, A4 L z.1
end Mine
end LWc_part
section LW4_part
open PySem PySem.W PyProof.Rows PySem.Calls
namespace Mine
local macro_rules | `(tactic| k_all) => `(tactic| assumption)
local macro_rules | `(tactic| walk_at "pyIter ref") => `(tactic| refine Hold.of ?_)
local macro_rules | `(tactic| walk_at "call ref") => `(tactic| refine Hold.of ?_)
local macro_rules | `(tactic| walk_at "exec For") => `(tactic| (with_unfolding_all refine' For_run ?_))
local macro_rules | `(tactic| walk_at "exec For Name Call cons nil") => `(tactic| (with_unfolding_all refine' For_run ?_))
local macro_rules | `(tactic| walk_at "exec For Tuple Call cons nil") => `(tactic| (with_unfolding_all refine' For_run ?_))
local macro_rules | `(tactic| walk_at "getAttr ref") => `(tactic| (k_dflt (refine' get_own ?k1 ?k2 (inst_up ?k3 (Fr.keep ?k1)) ?k4 ?k5 ?k6 ?k7 ?k8 ?k9 ?_; (case k1 => k_asm); (case k2 => k_asm); (case k3 => k_asm); (case k4 => k_is); (case k5 => k_is); (case k6 => k_is); (case k7 => k_is); (case k8 => k_asm); (case k9 => k_handed); k_whole)))
local macro_rules | `(tactic| walk_at "eval Name") => `(tactic| ((with_reducible show wpAny _ _ (eval _ (envOfC _ _ _ _ _)) _ _ _); k_dflt (refine' nameX_L ?F ?v ?_ ?a ?b ?d; (case F => k_asm); (case v => rfl); (case a => kernel_rfl); (case b => kernel_rfl); (case d => kernel_rfl); k_whole)))
local macro_rules | `(tactic| walk_at "eval Name") => `(tactic| ((with_reducible show wpAny _ _ (eval _ (envOf _ _ _ _ _)) _ _ _); k_dflt (refine' ld ?k1 ?k2 ?_ ?k3 ?k4 ?k5; (case k1 => k_asm); (case k2 => exact rfl); (case k3 => kernel_rfl); (case k4 => kernel_rfl); (case k5 => kernel_rfl); k_whole)))
local macro_rules | `(tactic| walk_at "Turned") => `(tactic| first | refine Turned.ret ?_ | refine Turned.brk ?_)
local macro_rules | `(tactic| walk_at "go") => `(tactic| repeat' (first | (k_unfold; (try dsimp only)) | walk1 | (dsimp only; walk1) | (dsimp only; k_unfold; (try dsimp only))))
local macro_rules | `(tactic| walk_at "kf") => `(tactic| ((with_reducible show wpAny _ _ _ _ _ _); k_fold))
local macro_rules | `(tactic| walk_at "locals") => `(tactic| (intro y h1 h2; simp only [List.mem_cons, List.not_mem_nil, or_false, not_or] at h1 h2; simp [h1, h2]))
local macro_rules | `(tactic| walk_at "eval ListComp") => `(tactic| (k_dflt (refine ListComp_runF (by k_asm) (by with_unfolding_all rfl) (by rfl) (by decide) ?_)))
local macro_rules | `(tactic| walk_at "exec Assign cons ListComp") => `(tactic| (k_dflt (refine Assign_ListComp_runF (by k_asm) (by with_unfolding_all rfl) (by with_unfolding_all rfl) (by rfl) (by decide) (by rfl) (by rfl) (by rfl) ?_)))
local macro_rules | `(tactic| walk_at "sub") => `(tactic| first | exact List.forall_mem_nil _ | refine List.forall_mem_cons.mpr ⟨by k_mem, by walk_at "sub"⟩)
local macro_rules | `(tactic| walk_at "hnd1") => `(tactic| first | exact apart_nil | refine apart_cons (by k_ne) (by walk_at "hnd1"))
local macro_rules | `(tactic| walk_at "hnd2") => `(tactic| first | exact Apart.nil | refine Apart.cons (by walk_at "hnd1") (by walk_at "hnd2"))
local macro_rules | `(tactic| walk_at "hnd") => `(tactic| exact Apart.nd (by walk_at "hnd2"))
local macro_rules | `(tactic| k_ne) => `(tactic| first | exact NE.out (by assumption) | exact NE.flip (by assumption) | (refine neN ?_; (try dsimp only); omega))
local macro_rules | `(tactic| walk_at "mem") => `(tactic| first | exact List.Mem.head _ | (refine List.Mem.tail _ ?_; walk_at "mem"))
local macro_rules | `(tactic| walk_at "lst") => `(tactic| first | exact lst_up (by assumption) (Fr.keep (by k_asm)) | exact lst_news (by k_asm) (by k_mem))
local macro_rules | `(tactic| walk_at "subscriptTail Name Constant ref int") => `(tactic| (k_dflt (refine' item_listT ?l ?a ?b ?x ?_; (case l => walk_at "lst"); (case a => decide); (case b => (rw [List.size_toArray]; omega)); (case x => assumption))))
local macro_rules | `(tactic| walk_at "storeName") => `(tactic| ((with_reducible show wpAny _ _ (storeName (envOfC _ _ _ _) _ _) _ _ _); k_dflt (refine' storeC_F ?F ?N ?c ?U ?d ?_ ?a ?b; (case a => rfl); (case b => rfl); (case F => k_asm); (case N => k_asm); (case c => rfl); (case U => k_updF); (case d => k_asm); k_whole); intro h' o' F' N' d'; (try dsimp only at N'); (try k_sweep)))
local macro_rules | `(tactic| walk_at "assign Tuple") => `(tactic| ((with_reducible show wpAny _ _ (assign (Expr.Tuple _ _ _) _ (Value.ref _)) _ _ _); k_dflt (refine' unpackN_ ?F ?N ?T ?k1 ?k2 ?k3 ?_; (case F => k_asm); (case N => k_asm); (case T => exact News.isTup (by k_asm) (by k_mem)); (case k1 => k_asm); (case k2 => exact rfl); (case k3 => exact rfl)); intro h' F' N'; (try k_sweep)))
theorem st3 {prog : Program} {w : World} {A : Around} {s s' : Shared} {g : Heap} {L fa : Addr} {cd : Value} {mg mb : Str → Option Value} {p : Program} {loose : List Str} {Q : Flow → Shared → Prop}
   (X : (hd.heap_39 w.params).In g) (T : TopRead p loose mg mb g) (hA : A.handled = none) (hAd : A.depth ≤ 800) (hAu : A.units ≤ 4000) (hP : P3 g L s s')
   (k : ∀ s', P4 g L s s' → wpAny (model prog w) A (execs (lawBody.drop 4) (lawEnv L fa cd)) Q (fun _ _ => False) s') :
   wpAny (model prog w) A (execs (lawBody.drop 3) (lawEnv L fa cd)) Q (fun _ _ => False) s' := by
  refine seg_step (P4 g L s) ?_ k
  unfold lawEnv
  obtain ⟨m, dl, dv, dd, c, o1, o2, o3, o4, pl, pv, pc, tps, ps, ⟨h, tk, rfl, F, N⟩, hm, hmp, hI, hl, hr, ⟨x2, h2⟩, ⟨x3, h3⟩, ⟨x4, h4⟩, hT, hTl, hps2, hps13, n1, n2, n3, n4⟩ := hP
  rw [map_knows hmp, map_knows hm] at F
  obtain ⟨d3, hd3, hdr⟩ : ∃ d, dd[3]? = some d ∧ (0 ≤ d ∧ d < 10007) := ⟨_, List.getElem?_eq_getElem (show 3 < dd.length by omega), hr _ (List.getElem_mem _)⟩
  obtain ⟨t3, hdv⟩ := hI.get 3 d3 hd3
  have hdv' : (List.toArray dv)[(3 : Int).toNat]? = some (.int d3 t3) := by simpa using hdv
  have hdvl : dv.length = 4 := by rw [hI.length, hl]
  walk_at "go"
  rename Fr _ _ _ _ => F'
  rename News _ _ _ _ => N'
  refine Hold.out (wpAny_call (use_call [] _ F' N' (by simp) (fun g' st' hr' S' => lv_le (law_drawn (held := []) (X.keeps st') (T.keeps st') S' (news_lst (hr' (pl, _) (by walk_at "mem"))) (hT.now fun q hq => hr' q (by repeat (first | exact hq | refine .tail _ ?_))) (by omega) (fun p hp => by have := hTl.box p hp; omega)) hA (by omega) (by omega)) ?_))
  rintro v led h₄ tk₄ ⟨rl, rv, rc, rfl, hrl, hrv⟩ F₄ N₄ hap
  have hledN : ∀ z ∈ led, h₄.get? z.1 = some z.2 ∧ z.1 ≠ L ∧ g.get? z.1 = none := fun z hz => N₄ z (List.mem_append_left _ hz)
  have N5 : News g L h₄ ((rl, listOf (List.toArray rv) rc) :: (dl, listOf (List.toArray dv) c) :: (L + 1 + 1 + 1 + 1, o4) :: (L + 1 + 1 + 1, o3) :: (L + 1 + 1, o2) :: [(L + 1, o1)]) := news_sub N₄ fun z hz => by
    rcases List.mem_cons.mp hz with rfl | hz
    · exact List.mem_append_left _ hrl
    · refine List.mem_append_right _ (List.mem_cons_of_mem _ ?_)
      simp only [List.mem_cons, List.not_mem_nil, or_false] at hz ⊢
      rcases hz with e | e | e | e | e <;> simp only [e, true_or, or_true]
  have hne : ∀ z ∈ (dl, listOf (List.toArray dv) c) :: (L + 1 + 1 + 1 + 1, o4) :: (L + 1 + 1 + 1, o3) :: (L + 1 + 1, o2) :: [(L + 1, o1)], rl ≠ z.1 := fun z hz => hap _ hrl z (by
      refine List.mem_cons_of_mem _ ?_
      simp only [List.mem_cons, List.not_mem_nil, or_false] at hz ⊢
      rcases hz with e | e | e | e | e <;> simp only [e, true_or, or_true])
  have q1 : NE rl (L + 1 + 1 + 1 + 1) := ⟨hne (L + 1 + 1 + 1 + 1, o4) (by walk_at "mem")⟩
  have q2 : NE rl (L + 1 + 1 + 1) := ⟨hne (L + 1 + 1 + 1, o3) (by walk_at "mem")⟩
  have q3 : NE rl (L + 1 + 1) := ⟨hne (L + 1 + 1, o2) (by walk_at "mem")⟩
  have q4 : NE rl (L + 1) := ⟨hne (L + 1, o1) (by walk_at "mem")⟩
  have q5 : NE rl dl := ⟨hne (dl, _) (by walk_at "mem")⟩
  have q6 : NE dl (L + 1 + 1 + 1 + 1) := ⟨n1⟩
  have q7 : NE dl (L + 1 + 1 + 1) := ⟨n2⟩
  have q8 : NE dl (L + 1 + 1) := ⟨n3⟩
  have q9 : NE dl (L + 1) := ⟨n4⟩
  clear F' N' N₄ hap hne n1 n2 n3 n4
  walk_at "go"
  · trivial
  rename Fr _ _ _ _ => F'
  rename News _ _ _ _ => N'
  rename _ = Data.cell (some (Value.ref rl)) => d'
  have hf := fmod_in (a := dd.getD (Int.toNat 3) 0) (b := 7) (by decide)
  refine ⟨_, o1, o2, _, o4, rl, rv, rc, _, _, ps, ⟨⟨_, _, rfl, F', news_sub N' fun z hz => ?_⟩⟩, rfl, by omega, by omega, d', hrv, ⟨_, h2⟩, ⟨_, h4⟩, hTl, hps2, hps13, ⟨q4.out, q3.out, q2.out, q1.out⟩⟩
  simp only [List.mem_cons, List.not_mem_nil, or_false] at hz ⊢
  rcases hz with e | e | e | e | e <;> simp only [e, true_or, or_true]
end Mine
end LW4_part
section LW5_part
open PySem PySem.W PyProof.Rows PySem.Calls
namespace Mine
local macro_rules | `(tactic| walk_at "zz0") => `(tactic| fail)
local macro_rules | `(tactic| walk_at "zz1") => `(tactic| fail)
local macro_rules | `(tactic| walk_at "zz2") => `(tactic| fail)
local macro_rules | `(tactic| walk_at "zz3") => `(tactic| fail)
local macro_rules | `(tactic| walk_at "zz4") => `(tactic| fail)
local macro_rules | `(tactic| walk_at "zz5") => `(tactic| fail)
local macro_rules | `(tactic| walk_at "zz6") => `(tactic| fail)
local macro_rules | `(tactic| walk_at "zz7") => `(tactic| fail)
local macro_rules | `(tactic| walk_at "zz8") => `(tactic| fail)
local macro_rules | `(tactic| walk_at "zz9") => `(tactic| fail)
local macro_rules | `(tactic| walk_at "zz10") => `(tactic| fail)
local macro_rules | `(tactic| walk_at "zz11") => `(tactic| fail)
local macro_rules | `(tactic| walk_at "zz12") => `(tactic| fail)
local macro_rules | `(tactic| walk_at "zz13") => `(tactic| fail)
local macro_rules | `(tactic| walk_at "zz14") => `(tactic| fail)
local macro_rules | `(tactic| walk_at "zz15") => `(tactic| fail)
local macro_rules | `(tactic| walk_at "zz16") => `(tactic| fail)
local macro_rules | `(tactic| walk_at "zz17") => `(tactic| fail)
local macro_rules | `(tactic| walk_at "zz18") => `(tactic| fail)
local macro_rules | `(tactic| walk_at "zz19") => `(tactic| fail)
local macro_rules | `(tactic| walk_at "zz20") => `(tactic| fail)
local macro_rules | `(tactic| walk_at "zz21") => `(tactic| fail)
local macro_rules | `(tactic| walk_at "zz22") => `(tactic| fail)
local macro_rules | `(tactic| walk_at "zz23") => `(tactic| fail)
local macro_rules | `(tactic| walk_at "zz24") => `(tactic| fail)
local macro_rules | `(tactic| walk_at "zz25") => `(tactic| fail)
local macro_rules | `(tactic| walk_at "zz26") => `(tactic| fail)
local macro_rules | `(tactic| walk_at "zz27") => `(tactic| fail)
local macro_rules | `(tactic| walk_at "zz28") => `(tactic| fail)
local macro_rules | `(tactic| walk_at "zz29") => `(tactic| fail)
local macro_rules | `(tactic| k_all) => `(tactic| assumption)
local macro_rules | `(tactic| walk_at "pyIter ref") => `(tactic| refine Hold.of ?_)
local macro_rules | `(tactic| walk_at "call ref") => `(tactic| refine Hold.of ?_)
local macro_rules | `(tactic| walk_at "exec For") => `(tactic| (with_unfolding_all refine' For_run ?_))
local macro_rules | `(tactic| walk_at "exec For Name Call cons nil") => `(tactic| (with_unfolding_all refine' For_run ?_))
local macro_rules | `(tactic| walk_at "exec For Tuple Call cons nil") => `(tactic| (with_unfolding_all refine' For_run ?_))
local macro_rules | `(tactic| walk_at "getAttr ref") => `(tactic| (k_dflt (refine' get_own ?k1 ?k2 (inst_up ?k3 (Fr.keep ?k1)) ?k4 ?k5 ?k6 ?k7 ?k8 ?k9 ?_; (case k1 => k_asm); (case k2 => k_asm); (case k3 => k_asm); (case k4 => k_is); (case k5 => k_is); (case k6 => k_is); (case k7 => k_is); (case k8 => k_asm); (case k9 => k_handed); k_whole)))
local macro_rules | `(tactic| walk_at "eval Name") => `(tactic| ((with_reducible show wpAny _ _ (eval _ (envOfC _ _ _ _ _)) _ _ _); k_dflt (refine' nameX_L ?F ?v ?_ ?a ?b ?d; (case F => k_asm); (case v => rfl); (case a => kernel_rfl); (case b => kernel_rfl); (case d => kernel_rfl); k_whole)))
local macro_rules | `(tactic| walk_at "eval Name") => `(tactic| ((with_reducible show wpAny _ _ (eval _ (envOf _ _ _ _ _)) _ _ _); k_dflt (refine' ld ?k1 ?k2 ?_ ?k3 ?k4 ?k5; (case k1 => k_asm); (case k2 => exact rfl); (case k3 => kernel_rfl); (case k4 => kernel_rfl); (case k5 => kernel_rfl); k_whole)))
local macro_rules | `(tactic| walk_at "Turned") => `(tactic| first | refine Turned.ret ?_ | refine Turned.brk ?_)
local macro_rules | `(tactic| walk_at "go") => `(tactic| repeat' (first | (k_unfold; (try dsimp only)) | walk1 | (dsimp only; walk1) | (dsimp only; k_unfold; (try dsimp only))))
local macro_rules | `(tactic| walk_at "kf") => `(tactic| ((with_reducible show wpAny _ _ _ _ _ _); k_fold))
local macro_rules | `(tactic| walk_at "locals") => `(tactic| (intro y h1 h2; simp only [List.mem_cons, List.not_mem_nil, or_false, not_or] at h1 h2; simp [h1, h2]))
local macro_rules | `(tactic| walk_at "eval ListComp") => `(tactic| (k_dflt (refine ListComp_runF (by k_asm) (by with_unfolding_all rfl) (by rfl) (by decide) ?_)))
local macro_rules | `(tactic| walk_at "exec Assign cons ListComp") => `(tactic| (k_dflt (refine Assign_ListComp_runF (by k_asm) (by with_unfolding_all rfl) (by with_unfolding_all rfl) (by rfl) (by decide) (by rfl) (by rfl) (by rfl) ?_)))
local macro_rules | `(tactic| walk_at "sub") => `(tactic| first | exact List.forall_mem_nil _ | refine List.forall_mem_cons.mpr ⟨by k_mem, by walk_at "sub"⟩)
local macro_rules | `(tactic| walk_at "hnd1") => `(tactic| first | exact apart_nil | refine apart_cons (by k_ne) (by walk_at "hnd1"))
local macro_rules | `(tactic| walk_at "hnd2") => `(tactic| first | exact Apart.nil | refine Apart.cons (by walk_at "hnd1") (by walk_at "hnd2"))
local macro_rules | `(tactic| walk_at "hnd") => `(tactic| exact Apart.nd (by walk_at "hnd2"))
local macro_rules | `(tactic| k_ne) => `(tactic| first | exact NE.out (by assumption) | exact NE.flip (by assumption) | (refine neN ?_; (try dsimp only); omega))
local macro_rules | `(tactic| walk_at "mem") => `(tactic| first | exact List.Mem.head _ | (refine List.Mem.tail _ ?_; walk_at "mem"))
local macro_rules | `(tactic| walk_at "lst") => `(tactic| first | exact lst_up (by assumption) (Fr.keep (by k_asm)) | exact lst_news (by k_asm) (by k_mem))
local macro_rules | `(tactic| walk_at "assign Tuple") => `(tactic| ((with_reducible show wpAny _ _ (assign (Expr.Tuple _ _ _) _ (Value.ref _)) _ _ _); k_dflt (refine' unpackN_ ?F ?N ?T ?k1 ?k2 ?k3 ?_; (case F => k_asm); (case N => k_asm); (case T => exact News.isTup (by k_asm) (by k_mem)); (case k1 => k_asm); (case k2 => exact rfl); (case k3 => exact rfl)); intro h' F' N'; (try k_sweep)))
local macro_rules | `(tactic| walk_at "unpackItems ref") => `(tactic| (k_dflt (refine' unpackItemsN_ ?F ?N ?T ?k1 ?k2 ?_; (case F => k_asm); (case N => k_asm); (case T => exact News.isTup (by k_asm) (by k_mem)); (case k1 => k_asm); (case k2 => exact rfl)); intro h' F' N'; (try k_sweep)))
theorem st4 {prog : Program} {w : World} {A : Around} {s s' : Shared} {g : Heap} {L fa : Addr} {cd : Value} {mg mb : Str → Option Value} {p : Program} {loose : List Str} {Q : Flow → Shared → Prop}
   (X : (hd.heap_39 w.params).In g) (T : TopRead p loose mg mb g) (hA : A.handled = none) (hAd : A.depth ≤ 800) (hAu : A.units ≤ 4000) (hP : P4 g L s s')
   (k : ∀ s', P5 g L s s' → wpAny (model prog w) A (execs (lawBody.drop 5) (lawEnv L fa cd)) Q (fun _ _ => False) s') :
   wpAny (model prog w) A (execs (lawBody.drop 4) (lawEnv L fa cd)) Q (fun _ _ => False) s' := by
  refine seg_step (P5 g L s) ?_ k
  unfold lawEnv
  obtain ⟨m, o1, o2, o3, o4, rl, rv, rc, wy, t, ps, ⟨h, tk, rfl, F, N⟩, hw, hw1, hw7, h3, hrv, ⟨x2, h2⟩, ⟨x4, h4⟩, hTl, hps2, hps13, hA4⟩ := hP
  have D := drawnG_drawn ps
  walk_at "go"
  rename Fr _ _ _ _ => F'
  rename News _ _ _ _ => N'
  refine Hold.out (wpAny_call (use_call [] _ F' N' (by simp) (fun g' st' hr' S' => lv_le (law_cells (X.keeps st') (T.keeps st') S' (news_lst (hr' (rl, _) (by walk_at "mem"))) hrv hTl D (by decide) (by decide) (by decide) (by decide) (by omega) hps2) hA (by omega) (by omega)) ?_))
  rintro v led h₄ tk₄ ⟨cl, cv, rows, cc, rfl, hcl, hcv, hperm, hpw⟩ F₄ N₄ hap
  have N5 : News g L h₄ ((cl, listOf (List.toArray cv) cc) :: (rl, listOf (List.toArray rv) rc) :: (L + 1 + 1 + 1 + 1, o4) :: (L + 1 + 1 + 1, o3) :: (L + 1 + 1, o2) :: (L + 1, o1) :: led) := news_sub N₄ fun z hz => by
    rcases List.mem_cons.mp hz with rfl | hz
    · exact List.mem_append_left _ hcl
    · rw [List.mem_append]
      simp only [List.mem_cons, List.not_mem_nil, or_false] at hz ⊢
      rcases hz with e | e | e | e | e | e <;> simp only [e, true_or, or_true]
  have hA' : ∀ z ∈ led, A4 L z.1 := fun z hz => ⟨hap z hz (L + 1, o1) (by walk_at "mem"), hap z hz (L + 1 + 1, o2) (by walk_at "mem"), hap z hz (L + 1 + 1 + 1, o3) (by walk_at "mem"), hap z hz (L + 1 + 1 + 1 + 1, o4) (by walk_at "mem")⟩
  have hA2 : A4 L cl := hA' _ hcl
  clear F' N' N₄ hap
  walk_at "go"
  rename Fr _ _ _ _ => F'
  rename News _ _ _ _ => N'
  have hGl : (drawnG ps).length = 9 := by unfold drawnG; rw [List.length_map, List.length_range]
  have hGw : ∀ r ∈ drawnG ps, r.length = 17 := fun r hr => by have := D.wid r hr; omega
  have hsg : ∀ i j : Int, 0 ≤ i → i < (drawnG ps).length → 0 ≤ j → j < (17 : Nat) → Sg (gch (drawnG ps) i j) := fun i j a b c d => by
    rw [D.sg i j a (by omega) c (by omega)]; exact sgn_is ps i j
  refine Hold.out (wpAny_call (use_call [] _ F' N' (by simp) (fun g' st' hr' S' => lv_le (law_ends (G := drawnG ps) (W := 17) (X.keeps st') (T.keeps st') S' ⟨⟨rv, news_lst (hr' (rl, _) (by walk_at "mem")), hrv⟩, hGw, by omega, by omega⟩ hsg (by omega) (by omega)) hA (by omega) (by omega)) ?_))
  rintro v led₂ h₅ tk₅ ⟨Te, t1, t2, rfl, hTe⟩ F₅ N₅ hap
  have N6 : News g L h₅ ((Te, tupOf [.int (endsOf (drawnG ps) 17 3) t1, .int (endsOf (drawnG ps) 17 4) t2]) :: (cl, listOf (List.toArray cv) cc) :: (rl, listOf (List.toArray rv) rc) :: (L + 1 + 1 + 1 + 1, o4) :: (L + 1 + 1 + 1, o3) :: (L + 1 + 1, o2) :: (L + 1, o1) :: led) := news_sub N₅ fun z hz => by
    rcases List.mem_cons.mp hz with rfl | hz
    · exact List.mem_append_left _ hTe
    · exact List.mem_append_right _ hz
  clear F' N' N₅ hap
  walk_at "go"
  · trivial
  rename Fr _ _ _ _ => F'
  rename News _ _ _ _ => N'
  refine ⟨_, o1, o2, o3, o4, rl, rv, rc, cl, cv, cc, led, rows, wy, t, ps, Te, t1, t2, ⟨⟨_, _, rfl, F', news_sub N' fun z hz => ?_⟩⟩, ?_, ?_, ?_, hw1, hw7, h3, hrv, ⟨_, h2⟩, ⟨_, h4⟩, hcv, hperm, hTl, hps2, hps13, hA4, hA2, hA'⟩
  · exact .tail _ hz
  · exact (if_neg (by decide)).trans ((if_neg (by decide)).trans hw)
  · rfl
  · rfl
end Mine
end LW5_part
section LW6_part
open PySem PySem.W PyProof.Rows PySem.Calls
namespace Mine
local macro_rules | `(tactic| k_all) => `(tactic| assumption)
local macro_rules | `(tactic| walk_at "pyIter ref") => `(tactic| refine Hold.of ?_)
local macro_rules | `(tactic| walk_at "call ref") => `(tactic| refine Hold.of ?_)
local macro_rules | `(tactic| walk_at "exec For") => `(tactic| (with_unfolding_all refine' For_run ?_))
local macro_rules | `(tactic| walk_at "exec For Name Call cons nil") => `(tactic| (with_unfolding_all refine' For_run ?_))
local macro_rules | `(tactic| walk_at "exec For Tuple Call cons nil") => `(tactic| (with_unfolding_all refine' For_run ?_))
local macro_rules | `(tactic| walk_at "getAttr ref") => `(tactic| (k_dflt (refine' get_own ?k1 ?k2 (inst_up ?k3 (Fr.keep ?k1)) ?k4 ?k5 ?k6 ?k7 ?k8 ?k9 ?_; (case k1 => k_asm); (case k2 => k_asm); (case k3 => k_asm); (case k4 => k_is); (case k5 => k_is); (case k6 => k_is); (case k7 => k_is); (case k8 => k_asm); (case k9 => k_handed); k_whole)))
local macro_rules | `(tactic| walk_at "eval Name") => `(tactic| ((with_reducible show wpAny _ _ (eval _ (envOfC _ _ _ _ _)) _ _ _); k_dflt (refine' nameX_L ?F ?v ?_ ?a ?b ?d; (case F => k_asm); (case v => rfl); (case a => kernel_rfl); (case b => kernel_rfl); (case d => kernel_rfl); k_whole)))
local macro_rules | `(tactic| walk_at "eval Name") => `(tactic| ((with_reducible show wpAny _ _ (eval _ (envOf _ _ _ _ _)) _ _ _); k_dflt (refine' ld ?k1 ?k2 ?_ ?k3 ?k4 ?k5; (case k1 => k_asm); (case k2 => exact rfl); (case k3 => kernel_rfl); (case k4 => kernel_rfl); (case k5 => kernel_rfl); k_whole)))
local macro_rules | `(tactic| walk_at "Turned") => `(tactic| first | refine Turned.ret ?_ | refine Turned.brk ?_)
local macro_rules | `(tactic| walk_at "go") => `(tactic| repeat' (first | (k_unfold; (try dsimp only)) | walk1 | (dsimp only; walk1) | (dsimp only; k_unfold; (try dsimp only))))
local macro_rules | `(tactic| walk_at "kf") => `(tactic| ((with_reducible show wpAny _ _ _ _ _ _); k_fold))
local macro_rules | `(tactic| walk_at "locals") => `(tactic| (intro y h1 h2; simp only [List.mem_cons, List.not_mem_nil, or_false, not_or] at h1 h2; simp [h1, h2]))
local macro_rules | `(tactic| walk_at "eval ListComp") => `(tactic| (k_dflt (refine ListComp_runF (by k_asm) (by with_unfolding_all rfl) (by rfl) (by decide) ?_)))
local macro_rules | `(tactic| walk_at "exec Assign cons ListComp") => `(tactic| (k_dflt (refine Assign_ListComp_runF (by k_asm) (by with_unfolding_all rfl) (by with_unfolding_all rfl) (by rfl) (by decide) (by rfl) (by rfl) (by rfl) ?_)))
local macro_rules | `(tactic| walk_at "sub") => `(tactic| first | exact List.forall_mem_nil _ | refine List.forall_mem_cons.mpr ⟨by k_mem, by walk_at "sub"⟩)
local macro_rules | `(tactic| walk_at "hnd1") => `(tactic| first | exact apart_nil | refine apart_cons (by k_ne) (by walk_at "hnd1"))
local macro_rules | `(tactic| walk_at "hnd2") => `(tactic| first | exact Apart.nil | refine Apart.cons (by walk_at "hnd1") (by walk_at "hnd2"))
local macro_rules | `(tactic| walk_at "hnd") => `(tactic| exact Apart.nd (by walk_at "hnd2"))
local macro_rules | `(tactic| k_ne) => `(tactic| first | exact NE.out (by assumption) | exact NE.flip (by assumption) | (refine neN ?_; (try dsimp only); omega))
local macro_rules | `(tactic| walk_at "mem") => `(tactic| first | exact List.Mem.head _ | (refine List.Mem.tail _ ?_; walk_at "mem"))
local macro_rules | `(tactic| walk_at "lst") => `(tactic| first | exact lst_up (by assumption) (Fr.keep (by k_asm)) | exact lst_news (by k_asm) (by k_mem))
local macro_rules | `(tactic| walk_at "call builtin:len") => `(tactic| (k_dflt (refine' len_list ?l ?f ?_; (case l => walk_at "lst"); (case f => (rw [List.size_toArray]; omega)); k_whole); (try rw [List.size_toArray])))
theorem st5 {prog : Program} {w : World} {A : Around} {s s' : Shared} {g : Heap} {L fa : Addr} {cd : Value} {mg mb : Str → Option Value} {p : Program} {loose : List Str} {Q : Flow → Shared → Prop}
   (X : (hd.heap_39 w.params).In g) (T : TopRead p loose mg mb g) (hA : A.handled = none) (hAd : A.depth ≤ 800) (hAu : A.units ≤ 4000) (hP : P5 g L s s')
   (k : ∀ s', PW 8 16 g L s s' → wpAny (model prog w) A (execs (lawBody.drop 6) (lawEnv L fa cd)) Q (fun _ _ => False) s') :
   wpAny (model prog w) A (execs (lawBody.drop 5) (lawEnv L fa cd)) Q (fun _ _ => False) s' := by
  refine seg_step (PW 8 16 g L s) ?_ k
  unfold lawEnv
  obtain ⟨m, o1, o2, o3, o4, rl, rv, rc, cl, cv, cc, tps, rows, wy, t, ps, Te, t1, t2, ⟨h, tk, rfl, F, N⟩, hw, hmc, hme, hw1, hw7, h3, hrv, ⟨x2, h2⟩, ⟨x4, h4⟩, hcv, hperm, hTl, hps2, hps13, hA4, hA5, hA6⟩ := hP
  have D := drawnG_drawn ps
  have heu := hTl.euler D (W := 17) rfl (by decide) (by decide)
  have hcl : cv.length = ps.length := by rw [hcv.1, hperm.length_eq, List.length_map]
  rw [map_knows hme, map_knows hmc] at F
  generalize endsOf (drawnG ps) 17 3 = e3 at heu N
  generalize endsOf (drawnG ps) 17 4 = e4 at heu N
  repeat' (first | (k_unfold; (try dsimp only)) | (walk1; (try dsimp only)))
  any_goals (exfalso; omega)
  refine ⟨_, o1, o2, o3, o4, rl, rv, rc, cl, cv, cc, tps, rows, wy, t, drawnG ps, ps, ⟨⟨_, _, rfl, F, news_sub N fun z hz => ?_⟩⟩, ?_, rfl, hw1, hw7, h3, hrv, ⟨_, h2⟩, ⟨_, h4⟩, hcv, hperm, hTl, D, hps2, hps13, hA4, hA5, hA6⟩
  · exact .tail _ hz
  · exact (if_neg (by decide)).trans ((if_neg (by decide)).trans hw)
end Mine
end LW6_part
section LWd_part
open PySem PySem.W PyProof.Rows PySem.Calls
namespace Mine
open PyProof.Rows.LCg (lst NsObj ns_obj lst_snoc)
theorem range_map_snoc {α : Type} (f : Nat → α) (n : Nat) : (List.range (n + 1)).map f = (List.range n).map f ++ [f n] := by rw [List.range_succ, List.map_append]; rfl
def unrow (r : List Int) : Pt := (r.getD 0 0, r.getD 1 0, r.getD 2 0, r.getD 3 0)
theorem unrow_row (p : Pt) : unrow (prow p) = p := rfl
theorem prows_of {rows : List (List Int)} {ps : List Pt} (h : rows.Perm (ps.map prow)) : ∃ cs : List Pt, rows = cs.map prow ∧ cs.Perm ps := by
  refine ⟨rows.map unrow, ?_, ?_⟩
  · rw [List.map_map]
    refine ((List.map_congr_left (g := id) fun r hr => ?_).trans (List.map_id _)).symm
    obtain ⟨p, _, rfl⟩ := List.mem_map.mp (h.mem_iff.mp hr)
    rfl
  · have := h.map unrow
    rw [List.map_map] at this
    refine this.trans ?_
    rw [show (unrow ∘ prow) = id from funext unrow_row, List.map_id]
theorem tups_chooseH {g : Heap} {held : List (Addr × Obj)} {vs : List Value} {cs : List Pt} (h : Tups noH held vs (cs.map prow)) : ∃ (Ts : Nat → Addr) (vals : Nat → Array Value), ∀ (i : Nat) (p : Pt), cs[i]? = some p → vs.toArray[i]? = some (Value.ref (Ts i)) ∧ AtT g held (Ts i) (vals i) ∧ ∃ u1 u2 u3 u4, vals i = #[.int p.1 u1, .int p.2.1 u2, .int p.2.2.1 u3, .int p.2.2.2 u4] := by
  have hx : ∀ i, ∃ (T : Addr) (v : Array Value), ∀ p : Pt, cs[i]? = some p → vs.toArray[i]? = some (Value.ref T) ∧ AtT g held T v ∧ ∃ u1 u2 u3 u4, v = #[.int p.1 u1, .int p.2.1 u2, .int p.2.2.1 u3, .int p.2.2.2 u4] := fun i => by
    by_cases hi : i < cs.length
    · obtain ⟨T, o, n, p, u1, u2, u3, u4, e, hm, hc, hd, hp⟩ := h.tupAt hi
      refine ⟨T, #[.int p.1 u1, .int p.2.1 u2, .int p.2.2.1 u3, .int p.2.2.2 u4], fun p' hp' => ?_⟩
      rw [hp] at hp'
      obtain rfl := Option.some.inj hp'
      exact ⟨e, .inr ⟨o, hm, hc, n, hd⟩, u1, u2, u3, u4, rfl⟩
    · exact ⟨(0 : Nat), #[], fun p hp => by rw [List.getElem?_eq_none (by omega)] at hp; cases hp⟩
  exact ⟨fun i => Classical.choose (hx i), fun i => Classical.choose (Classical.choose_spec (hx i)), fun i => Classical.choose_spec (Classical.choose_spec (hx i))⟩
section
variable {prog : Program} {w : World} {A : Around} {h₀ : Heap} {s : Shared} {env : Env} {L : Addr} {m : Str → Option Value} {elt iter : Expr} {scope : Scope} {pos : Pos} {cl : List (Str × Addr)} {E : Value → Shared → Prop} {Fin : Shared → List Value → List (Addr × Obj) → Prop}
def TupEnd (h₀ : Heap) (L : Addr) (m : Str → Option Value) (s : Shared) (q : Pt) (z1 z2 z3 : Addr × Obj) (rest : List (Addr × Obj)) (y : Value) (s' : Shared) : Prop :=
  ∃ h' tk' T t1 t2 t3 t4, y = .ref T ∧ s' = { s with heap := h', toks := tk' } ∧ Fr h₀ L h' m ∧ News h₀ L h' ((T, tupOf [.int q.1 t1, .int q.2.1 t2, .int q.2.2.1 t3, .int q.2.2.2 t4]) :: z1 :: z2 :: z3 :: rest) ∧ @LT.lt Nat _ z1.1 T ∧ @LT.lt Nat _ z2.1 T ∧ @LT.lt Nat _ z3.1 T ∧ AllLt T rest
theorem cells_comp {x1 x2 x3 x4 : Str} {r1 r2 r3 r4 : Pos} {kk : Nat} {pt : Pos} {c : Addr} {f : Pt → Pt} {cs : List Pt} {cv : List Value} {held tps : List (Addr × Obj)} (hh : A.handled = none)
    (hl : AtL h₀ held c cv.toArray) (hcv : Tups noH tps cv (cs.map prow)) (hs : ∀ q ∈ tps, q ∈ held) (h13 : cs.length ≤ 50) (F : Fr h₀ L s.heap m) (N : News h₀ L s.heap held)
    (turn : ∀ p u1 u2 u3 u4 ys h tk I ob C oC D (m₂ : Str → Option Value) E' rest, p ∈ cs → NsObj oC m₂ → m₂ x1 = some (.int p.1 u1) → m₂ x2 = some (.int p.2.1 u2) → m₂ x3 = some (.int p.2.2.1 u3) → m₂ x4 = some (.int p.2.2.2 u4) → @Ne Nat I C → @Ne Nat I D → @Ne Nat C D → Fr h₀ L h m → News h₀ L h ((I, ob) :: (C, oC) :: (D, lst ys) :: rest) →
      wpAny (model prog w) A (eval elt (compEnvC scope cl C env)) (TupEnd h₀ L m s (f p) (I, ob) (C, oC) (D, lst ys) rest) E' { s with heap := h, toks := tk })
    (done : ∀ ys news' h, Tups noH news' ys ((cs.map f).map prow) → (∀ q ∈ news', ∀ z ∈ held, @Ne Nat q.1 z.1) → Fin { s with heap := h } ys (held ++ news'))
    (hcell : ∀ y ∈ scope.names, y.2 ≠ .cell := by decide) (hkind : scope.kind = .function := by rfl) (hx : ∀ x ∈ [x1, x2, x3, x4], scope.names.lookup x = some .local := by decide) (hxd : x1 ≠ x2 ∧ x1 ≠ x3 ∧ x1 ≠ x4 ∧ x2 ≠ x3 ∧ x2 ≠ x4 ∧ x3 ≠ x4 := by decide) :
    wpAny (model prog w) A (pyIter (.ref c)) (CompRun prog w A h₀ L m elt (.Tuple [.Name x1 r1, .Name x2 r2, .Name x3 r3, .Name x4 r4] kk pt) iter [] scope pos cl env E Fin) E s := by
  obtain ⟨Ts, vals, hc⟩ := tups_chooseH (g := h₀) hcv
  have hlen : cv.length = cs.length := by have := hcv.1; rw [List.length_map] at this; exact this
  have hat : ∀ j, j < cv.toArray.size → ∃ p, cs[j]? = some p := fun j hj => ⟨_, List.getElem?_eq_getElem (show j < cs.length by rw [List.size_toArray] at hj; omega)⟩
  have up : ∀ T v, AtT h₀ tps T v → AtT h₀ held T v := fun T v h => by
    rcases h with h | ⟨o, hm, r⟩
    · exact .inl h
    · exact .inr ⟨o, hs _ hm, r⟩
  refine tuples_comp (xs := [(x1, r1), (x2, r2), (x3, r3), (x4, r4)]) (Ts := Ts) (vals := vals) held (news := []) (fun i ys news' => Tups noH news' ys (((cs.take i).map f).map prow) ∧ ∀ q ∈ news', ∀ z ∈ held, @Ne Nat q.1 z.1) hh hl (fun j hj => by obtain ⟨p, hp⟩ := hat j hj; exact (hc j p hp).1) (fun j hj => by obtain ⟨p, hp⟩ := hat j hj; exact up _ _ (hc j p hp).2.1) (fun j hj => by
    obtain ⟨p, hp⟩ := hat j hj
    obtain ⟨u1, u2, u3, u4, e⟩ := (hc j p hp).2.2
    rw [e]; rfl) (by rw [List.size_toArray, sizeLine_eq]; omega) F (by rw [List.append_nil]; exact N) (fun _ h => nomatch h) ⟨Tups.nil0, fun _ h => nomatch h⟩ ?_ ?_ hcell hkind (fun x hx' => hx x.1 (by
    simp only [List.mem_cons, List.not_mem_nil, or_false] at hx' ⊢
    rcases hx' with e | e | e | e <;> simp only [e, true_or, or_true]))
  · rintro i ys news₁ h tk I ob C oC D m₂ E' hi ⟨hT, hap⟩ hns hIC hID hCD hheld hoff F₁ N₁
    obtain ⟨p, hp⟩ := hat i hi
    obtain ⟨u1, u2, u3, u4, e⟩ := (hc i p hp).2.2
    refine CBody.nil ?_
    rw [e] at hns
    have N2 : News h₀ L h ((I, ob) :: (C, oC) :: (D, lst ys) :: (held ++ news₁)) := news_sub N₁ fun q hq => by
      simp only [List.mem_cons, List.mem_append, List.cons_append, List.not_mem_nil, or_false, or_assoc] at hq ⊢
      rcases hq with e | e | e | e | e <;> simp only [e, true_or, or_true]
    refine wpAny_mono (turn p u1 u2 u3 u4 ys h tk I ob C oC D _ E' (held ++ news₁) (List.mem_of_getElem? hp) hns ?_ ?_ ?_ ?_ hIC hID hCD F₁ N2) (fun y s' hy => ?_) fun _ _ x => x
    · exact (if_neg hxd.2.2.1).trans ((if_neg hxd.2.1).trans ((if_neg hxd.1).trans (if_pos rfl)))
    · exact (if_neg hxd.2.2.2.2.1).trans ((if_neg hxd.2.2.2.1).trans (if_pos rfl))
    · exact (if_neg hxd.2.2.2.2.2).trans (if_pos rfl)
    · exact if_pos rfl
    obtain ⟨h', tk', T, t1, t2, t3, t4, rfl, rfl, F', N', a1, a2, a3, a4⟩ := hy
    have hlt := allLt_to a4
    refine CEnd.intro F' (news' := (T, tupOf [.int (f p).1 t1, .int (f p).2.1 t2, .int (f p).2.2.1 t3, .int (f p).2.2.2 t4]) :: news₁) (news_sub N' fun q hq => ?_) (fun q hq => ?_) ⟨?_, fun q hq z hz => ?_⟩
    · simp only [List.mem_cons, List.mem_append, List.cons_append, List.not_mem_nil, or_false, or_assoc] at hq ⊢
      rcases hq with e | e | e | e | e | e <;> simp only [e, true_or, or_true]
    · simp only [List.mem_cons, List.mem_append, List.not_mem_nil, or_false, not_or]
      rcases List.mem_cons.mp hq with rfl | hq
      · refine ⟨⟨Nat.ne_of_gt a1, fun hm => ?_⟩, Nat.ne_of_gt a2, Nat.ne_of_gt a3⟩
        obtain ⟨z, hz, ez⟩ := List.mem_map.mp hm
        exact absurd ez (Nat.ne_of_lt (hlt z (List.mem_append_left _ hz)))
      · obtain ⟨b1, b2, b3, b4⟩ := hoff q hq
        exact ⟨⟨b2, b1⟩, b3, b4⟩
    · have et : cs.take (i + 1) = cs.take i ++ [p] := take_snocG hp
      rw [et, List.map_append, List.map_append]
      refine Tups.snoc (hT.mono fun q hq => .tail _ hq) ?_
      exact tupN4 (.head _) rfl rfl
    · rcases List.mem_cons.mp hq with rfl | hq
      · exact Nat.ne_of_gt (hlt z (List.mem_append_left _ hz))
      · exact hap q hq z hz
  · rintro ys news' h ⟨hT, hap⟩
    rw [List.size_toArray, hlen, List.take_length] at hT
    exact done ys news' h hT hap
end
section
variable {prog : Program} {w : World} {A : Around} {E : Value → Shared → Prop} {s : Shared} {value slice : Expr} {Q : Value → Shared → Prop}
theorem item_rowN {sb : Addr} {vs : List Value} {G : List (List Nat)} {k : Int} {u : Tok} (hl : s.heap.IsList sb vs.toArray) (hi : StrsAre vs (G.map tx)) (h64 : G.length ≤ 64) (h0 : 0 ≤ k) (hk : k < G.length) (h : ∀ t, Q (.str (tx (G.getD k.toNat [])) t) s)
    (hs : subscripted slice false (.ref sb) (.int k u) = operate [.ref sb, .int k u] (getItem (.ref sb) (.int k u)) := by with_unfolding_all rfl) :
    wpAny (model prog w) A (subscriptTail value slice (.ref sb) (.int k u)) Q E s := by
  refine item_strsR hl hi h0 (by simpa using hk) (by omega) (fun t => ?_) hs
  have e : (G.map tx).getD k.toNat Str.empty = tx (G.getD k.toNat []) := by
    have hlt : k.toNat < G.length := by omega
    simp [List.getD, hlt]
  rw [e]
  exact h t
end
theorem row_again {r : List Nat} {n : Nat} (h : r.length = n) : ((List.range n).map fun (b : Nat) => r.getD (b : Int).toNat 0) = r := by
  apply List.ext_getElem (by simp [h])
  intro i h1 h2
  simp [h2]
end Mine
end LWd_part
section LWe_part
open PySem PySem.W PyProof.Rows PySem.Calls
namespace Mine
def subC (c d k : Nat) : Nat := if k = c then d else k
theorem map_free (c d : Nat) : ∀ l : List Nat, c ∉ l → l.map (subC c d) = l
  | [], _ => rfl
  | k :: r, h => by
    rw [List.map_cons, map_free c d r fun m => h (List.mem_cons_of_mem _ m)]
    have : k ≠ c := fun e => h (e ▸ List.mem_cons_self ..)
    rw [subC, if_neg this]
theorem sub_join (c d : Nat) : ∀ parts : List Str, (∀ p ∈ parts, c ∉ p.cps.toList) → (PySem.Str.join ⟨#[c]⟩ parts).cps.toList.map (subC c d) = (PySem.Str.join ⟨#[d]⟩ parts).cps.toList
  | [], _ => rfl
  | [p], h => map_free c d _ (h p (List.mem_singleton.mpr rfl))
  | p :: q :: r, h => by
    have ih := sub_join c d (q :: r) fun a ha => h a (List.mem_cons_of_mem _ ha)
    show (p ++ ⟨#[c]⟩ ++ PySem.Str.join ⟨#[c]⟩ (q :: r)).cps.toList.map (subC c d) = (p ++ ⟨#[d]⟩ ++ PySem.Str.join ⟨#[d]⟩ (q :: r)).cps.toList
    simp only [Str.cps_append, Array.toList_append, List.map_append]
    rw [ih, map_free c d _ (h p (List.mem_cons_self ..))]
    simp [subC]
theorem replace_one_tx (l : List Nat) (c d : Nat) : Txt.replace (tx l) (chr c) (chr d) = tx (l.map (subC c d)) := by
  have h : (Txt.replace (tx l) ⟨#[c]⟩ ⟨#[d]⟩).cps.toList = (tx l).cps.toList.map (subC c d) := by
    rw [StrLaws.replace_one, ← sub_join c d _ (StrLaws.split_free (tx l) c), StrLaws.join_split]
  have e : Txt.replace (tx l) (chr c) (chr d) = ⟨(Txt.replace (tx l) ⟨#[c]⟩ ⟨#[d]⟩).cps.toList.toArray⟩ := by
    rw [Array.toArray_toList]; rfl
  rw [e, h]
  simp [tx]
section
variable {prog : Program} {w : World} {A : Around} {E : Value → Shared → Prop} {s : Shared} {Q : Value → Shared → Prop}
theorem replace_tx {l : List Nat} {c d : Nat} {y z : Str} {t u v : Tok} (hy : y = chr c) (hz : z = chr d) (hcd : c ≠ d) (hl : l.length ≤ 64) (hu : u ≠ 0) (hv : v ≠ 0) (huv : u ≠ v)
    (h : ∀ t' k, s.toks ≤ k → Q (.str (tx (l.map (subC c d))) t') { s with toks := k }) : wpAny (model prog w) A (call (.builtin "str.replace") [.str (tx l) t, .str y u, .str z v]) Q E s := by
  subst hy; subst hz
  refine wpAny_mono (wpAny_toks_of (E := E) (Q := fun v s' => v.isStr (tx (l.map (subC c d))) = true ∧ ∃ t' k, v = .str (tx (l.map (subC c d))) t' ∧ s' = { s with toks := k }) (Nat.le_refl _) (SC.replaceW hu hv huv (by rw [chr_eq]; exact decide_eq_false hcd) (by rw [tx_length]; omega) (by show (tx [d]).length ≤ 14; rw [tx_length]; exact Nat.le_of_ble_eq_true rfl) fun t' k => ?_)) (fun v s' x => ?_) fun _ _ x => x.2
  · rw [replace_one_tx]
    exact ⟨by simp [Value.isStr], t', k, rfl, rfl⟩
  · obtain ⟨hle, -, t', k, rfl, rfl⟩ := x
    exact h t' k hle
theorem join_chrs {D : Addr} {items : Array Value} {l : List Nat} {t : Tok} (hl : s.heap.IsList D items) (hi : StrsAre items.toList (l.map chr)) (h64 : l.length ≤ 64)
    (h : ∀ t' k, s.toks ≤ k → Q (.str (tx l) t') { s with toks := k }) : wpAny (model prog w) A (call (.builtin "str.join") [.str (Str.ofString "") t, .ref D]) Q E s := by
  refine wpAny_mono (wpAny_toks_of (E := E) (Q := fun v s' => ∃ t' k, v = .str (tx l) t' ∧ s' = { s with toks := k }) (Nat.le_refl _) (join_list hl hi (chrs_fit l h64) fun t' k => ?_)) (fun v s' x => ?_) fun _ _ x => x.2
  · rw [join_chr]
    exact ⟨t', k, rfl, rfl⟩
  · obtain ⟨hle, t', k, rfl, rfl⟩ := x
    exact h t' k hle
end
theorem lit_star : Str.ofString "*" = chr 42 := by decide
theorem sub_swap {l : List Nat} (h : ∀ k ∈ l, k ≠ 42) : ((l.map (subC 45 42)).map (subC 124 45)).map (subC 42 124) = l.map swapC := by
  rw [List.map_map, List.map_map]
  refine List.map_congr_left fun k hk => ?_
  have := h k hk
  show subC 42 124 (subC 124 45 (subC 45 42 k)) = swapC k
  unfold subC swapC
  by_cases e1 : k = 45
  · subst e1; rfl
  · by_cases e2 : k = 124
    · subst e2; rfl
    · simp [e1, e2, this]
def PF (g : Heap) (L : Addr) (s : Shared) (s' : Shared) : Prop := ∃ B R, 0 < B ∧ B ≤ 62 ∧ 0 < R ∧ R ≤ 62 ∧ PW B R g L s s'
end Mine
end LWe_part
section LWf_part
open PySem PySem.W PyProof.Rows PySem.Calls
namespace Mine
open PySem.SeqAt
section
variable {prog : Program} {w : World} {A : Around} {E : Value → Shared → Prop} {s : Shared} {Q : Value → Shared → Prop}
theorem eqAt_int {a : Int} {u v : Tok} : EqAt A s (.int a u) (.int a v) true := fun prog w E Q h => wpAny_eqBool_int (by simpa using h)
theorem eqAt_tups {T1 T2 : Addr} {p : Pt} {u1 u2 u3 u4 v1 v2 v3 v4 : Tok} (h1 : s.heap.IsTuple T1 #[.int p.1 u1, .int p.2.1 u2, .int p.2.2.1 u3, .int p.2.2.2 u4]) (h2 : s.heap.IsTuple T2 #[.int p.1 v1, .int p.2.1 v2, .int p.2.2.1 v3, .int p.2.2.2 v4]) (hu : A.units < cLine) : EqAt A s (.ref T1) (.ref T2) true := by
  by_cases e : T1 = T2
  · subst e; exact EqAt.same _
  · refine EqAt.of_refs e ?_
    have := RcAt.tuples (e := fun _ => true) h1 h2 hu fun j a b => by
      have : j = 0 ∨ j = 1 ∨ j = 2 ∨ j = 3 := by simp at a; omega
      rcases this with rfl | rfl | rfl | rfl <;> exact eqAt_int
    rw [show ((List.range (min (#[Value.int p.1 u1, .int p.2.1 u2, .int p.2.2.1 u3, .int p.2.2.2 u4]).size (#[Value.int p.1 v1, .int p.2.1 v2, .int p.2.2.1 v3, .int p.2.2.2 v4]).size)).all (fun _ => true) && (#[Value.int p.1 u1, .int p.2.1 u2, .int p.2.2.1 u3, .int p.2.2.2 u4]).size == (#[Value.int p.1 v1, .int p.2.1 v2, .int p.2.2.1 v3, .int p.2.2.2 v4]).size) = true from rfl] at this
    exact this
theorem eq_rows {l b : Addr} {vs us : List Value} {cs : List Pt} {held1 held2 : List (Addr × Obj)} (hl : s.heap.IsList l vs.toArray) (hb : s.heap.IsList b us.toArray) (hv : Tups noH held1 vs (cs.map prow)) (hu : Tups noH held2 us (cs.map prow))
    (g1 : ∀ q ∈ held1, s.heap.get? q.1 = some q.2) (g2 : ∀ q ∈ held2, s.heap.get? q.1 = some q.2) (hun : A.units ≤ 5000) (h : Q (.bool true) s) : wpAny (model prog w) A (compareOp .Eq (.ref l) (.ref b)) Q E s := by
  have l1 : vs.length = cs.length := by have := hv.1; rw [List.length_map] at this; exact this
  have l2 : us.length = cs.length := by have := hu.1; rw [List.length_map] at this; exact this
  refine eq_listAt (e := fun _ => true) hl hb (by simp [l1, l2]) (by unfold cLine; omega) (fun j a b => ?_) (by rw [List.all_eq_true.mpr fun _ _ => rfl]; exact h)
  have hj : j < cs.length := by simp at a; omega
  obtain ⟨T1, o1, n1, p1, u1, u2, u3, u4, e1, m1, c1, d1, q1⟩ := hv.tupAt hj
  obtain ⟨T2, o2, n2, p2, v1, v2, v3, v4, e2, m2, c2, d2, q2⟩ := hu.tupAt hj
  rw [q1] at q2
  obtain rfl := Option.some.inj q2
  rw [Array.getElem?_eq_getElem a] at e1
  rw [Array.getElem?_eq_getElem b] at e2
  rw [Option.some.inj e1, Option.some.inj e2]
  exact eqAt_tups ⟨o1, g1 _ m1, c1, n1, d1⟩ ⟨o2, g2 _ m2, c2, n2, d2⟩ (by rw [PySem.Around.in1_units]; unfold cLine; omega)
end
def code4 (p : Pt) : Int := codeOf (prow p)
def InBox (p : Pt) : Prop := 0 ≤ p.1 ∧ p.1 < 100 ∧ 0 ≤ p.2.1 ∧ p.2.1 < 100 ∧ 0 ≤ p.2.2.1 ∧ p.2.2.1 < 100 ∧ 0 ≤ p.2.2.2 ∧ p.2.2.2 < 100
theorem code4_eq (p : Pt) : code4 p = ((p.1 * 100 + p.2.1) * 100 + p.2.2.1) * 100 + p.2.2.2 := by
  unfold code4 codeOf prow
  simp [codeFrom]
theorem code4_inj {p q : Pt} (hp : InBox p) (hq : InBox q) (h : code4 p = code4 q) : p = q := by
  obtain ⟨a, b, c, d⟩ := p
  obtain ⟨a', b', c', d'⟩ := q
  rw [code4_eq, code4_eq] at h
  unfold InBox at hp hq
  simp only at h hp hq
  have h1 : a = a' := by omega
  have h2 : b = b' := by omega
  have h3 : c = c' := by omega
  have h4 : d = d' := by omega
  rw [h1, h2, h3, h4]
theorem same_order {ps c1 c2 : List Pt} (hb : ∀ p ∈ ps, InBox p) (h1 : c1.Perm ps) (h2 : c2.Perm ps) (s1 : (c1.map prow).Pairwise fun a b => codeOf a ≤ codeOf b) (s2 : (c2.map prow).Pairwise fun a b => codeOf a ≤ codeOf b) : c1 = c2 := by
  have t1 : (c1.map code4).Pairwise (fun x y => x ≤ y) := by
    rw [List.pairwise_map] at s1 ⊢
    exact s1
  have t2 : (c2.map code4).Pairwise (fun x y => x ≤ y) := by
    rw [List.pairwise_map] at s2 ⊢
    exact s2
  have e := (srt_only (h1.map code4) t1).trans (srt_only (h2.map code4) t2).symm
  have hl : c1.length = c2.length := h1.length_eq.trans h2.length_eq.symm
  refine List.ext_getElem hl fun i a b => ?_
  refine code4_inj (hb _ (h1.mem_iff.mp (List.getElem_mem a))) (hb _ (h2.mem_iff.mp (List.getElem_mem b))) ?_
  have := congrArg (fun l : List Int => l[i]?) e
  simpa [List.getElem?_eq_getElem a, List.getElem?_eq_getElem b] using this
end Mine
end LWf_part
section Sq0_part
open PySem PySem.W PyProof.Rows PySem.Calls
namespace Mine
theorem below_go {xs : Array Nat} {j : Nat} (h : xs.toList.Pairwise (· < ·)) : ∀ (fuel lo hi : Nat), lo ≤ hi → hi ≤ xs.size → hi - lo ≤ fuel →
    (∀ i, i < lo → xs.getD i 0 < j) → (∀ i, hi ≤ i → i < xs.size → j ≤ xs.getD i 0) →
    SetTable.below.go xs j fuel lo hi ≤ xs.size ∧ (∀ i, i < SetTable.below.go xs j fuel lo hi → xs.getD i 0 < j) ∧ (∀ i, SetTable.below.go xs j fuel lo hi ≤ i → i < xs.size → j ≤ xs.getD i 0) := by
  have hp : ∀ i k, i < k → k < xs.size → xs.getD i 0 < xs.getD k 0 := fun i k hik hk => by
    have := List.pairwise_iff_getElem.mp h i k (by simpa using Nat.lt_trans hik hk) (by simpa using hk) hik
    simpa [Array.getD_eq_getD_getElem?, Array.getElem?_eq_getElem hk, Array.getElem?_eq_getElem (Nat.lt_trans hik hk)] using this
  intro fuel
  induction fuel with
  | zero =>
    intro lo hi h1 h2 h3 h4 h5
    have : lo = hi := by omega
    subst this
    exact ⟨h2, h4, h5⟩
  | succ fuel ih =>
    intro lo hi h1 h2 h3 h4 h5
    unfold SetTable.below.go
    by_cases hl : lo < hi
    · rw [if_pos hl]
      have hm : (lo + hi) / 2 < xs.size := by omega
      have e : xs.getD ((lo + hi) / 2) j = xs.getD ((lo + hi) / 2) 0 := by
        simp [Array.getD_eq_getD_getElem?, Array.getElem?_eq_getElem hm]
      simp only [e]
      by_cases hc : xs.getD ((lo + hi) / 2) 0 < j
      · rw [if_pos hc]
        refine ih _ _ (by omega) h2 (by omega) (fun i hi' => ?_) h5
        by_cases ei : i = (lo + hi) / 2
        · rw [ei]; exact hc
        · exact Nat.lt_trans (hp i ((lo + hi) / 2) (by omega) hm) hc
      · rw [if_neg hc]
        refine ih _ _ (by omega) (by omega) (by omega) h4 fun i h6 h7 => ?_
        by_cases ei : i = (lo + hi) / 2
        · rw [ei]; omega
        · have := hp ((lo + hi) / 2) i (by omega) h7
          omega
    · rw [if_neg hl]
      have : lo = hi := by omega
      subst this
      exact ⟨h2, h4, h5⟩
theorem below_spec {xs : Array Nat} (j : Nat) (h : xs.toList.Pairwise (· < ·)) : SetTable.below xs j ≤ xs.size ∧ (∀ i, i < SetTable.below xs j → xs.getD i 0 < j) ∧ (∀ i, SetTable.below xs j ≤ i → i < xs.size → j ≤ xs.getD i 0) :=
  below_go h xs.size 0 xs.size (Nat.zero_le _) (Nat.le_refl _) (by omega) (fun _ hi => absurd hi (Nat.not_lt_zero _)) fun _ h1 h2 => by omega
theorem below_at {xs : Array Nat} {j k : Nat} (h : xs.toList.Pairwise (· < ·)) (hk : k ≤ xs.size) (h1 : ∀ i, i < k → xs.getD i 0 < j) (h2 : k < xs.size → j ≤ xs.getD k 0) : SetTable.below xs j = k := by
  obtain ⟨a, b, c⟩ := below_spec j h
  rcases Nat.lt_trichotomy (SetTable.below xs j) k with e | e | e
  · have := c _ (Nat.le_refl _) (by omega)
    have := h1 _ e
    omega
  · exact e
  · have := b _ e
    have := h2 (by omega)
    omega
theorem slot_free {t : SetTable} {j : Nat} (hd : t.dummies = #[]) (hj : j ∉ t.place.toList) : t.slot j = .empty := by
  unfold SetTable.slot SetTable.has
  rw [hd]
  have h1 : (t.place[SetTable.below t.place j]? == some j) = false := by
    rw [beq_eq_false_iff_ne]
    intro e
    exact hj (by rw [← Array.getElem?_toList] at e; exact List.mem_of_getElem? e)
  simp only [h1, Bool.false_eq_true, if_false]
  have h2 : ((#[] : Array Nat)[SetTable.below #[] j]? == some j) = false := by simp
  simp only [h2, Bool.false_eq_true, if_false]
theorem slot_in {t : SetTable} (h : t.place.toList.Pairwise (· < ·)) {j : Nat} (hj : j ∈ t.place.toList) : t.slot j = .live (SetTable.below t.place j) := by
  obtain ⟨k, hk, e⟩ := List.getElem_of_mem hj
  have hk' : k < t.place.size := by simpa using hk
  have ek : t.place.getD k 0 = j := by simpa [Array.getD_eq_getD_getElem?, Array.getElem?_eq_getElem hk'] using e
  have hb : SetTable.below t.place j = k := below_at h (Nat.le_of_lt hk') (fun i hi => by
    have := List.pairwise_iff_getElem.mp h i k (by simp; omega) hk hi
    have hi' : i < t.place.size := by omega
    rw [← ek]
    simpa [Array.getD_eq_getD_getElem?, Array.getElem?_eq_getElem hk', Array.getElem?_eq_getElem hi'] using this) fun _ => by rw [ek]; exact Nat.le_refl _
  unfold SetTable.slot
  have e2 : (t.place[SetTable.below t.place j]? == some j) = true := by
    rw [hb, beq_iff_eq, ← Array.getElem?_toList, List.getElem?_eq_getElem hk, e]
  simp only [e2, if_true]
theorem nodup_le {l m : List Nat} (hn : l.Nodup) (hs : ∀ x ∈ l, x ∈ m) : l.length ≤ m.length := by
  induction l generalizing m with
  | nil => exact Nat.zero_le _
  | cons a l ih =>
    have ha : a ∈ m := hs a (.head _)
    have := ih (m := m.erase a) (List.nodup_cons.mp hn).2 fun x hx => (List.mem_erase_of_ne (fun e : x = a => (List.nodup_cons.mp hn).1 (e ▸ hx))).mpr (hs x (.tail _ hx))
    have e := List.length_erase_of_mem ha
    have := List.length_pos_of_mem ha
    rw [List.length_cons]
    omega
theorem bits_small {h : Int} (h0 : 0 ≤ h) (h1 : h < 32) : SetTable.bits h = h.toNat := by
  unfold SetTable.bits
  rw [Int.emod_eq_of_lt h0 (by omega)]
theorem probe_step {t : SetTable} (hd : t.dummies = #[]) (ha : t.place.toList.Pairwise (· < ·)) {f : Nat → Int} {h : Int} (hf : ∀ i, (f i == h) = false) {fuel : Nat} {p : SetTable.Probe} (hp : p.dummy = none) {C : Option SetTable.Met → Prop}
    (h1 : p.j ∉ t.place.toList → C (some (.empty p.j none))) (h2 : p.j ∈ t.place.toList → C (SetTable.probe.go t f h fuel (t.advance p))) : C (SetTable.probe.go t f h (fuel + 1) p) := by
  unfold SetTable.probe.go
  by_cases hj : p.j ∈ t.place.toList
  · rw [slot_in ha hj]
    dsimp only
    rw [hf]
    exact h2 hj
  · rw [slot_free hd hj]
    dsimp only
    rw [hp]
    exact h1 hj
theorem adv7 {t : SetTable} (hm : t.mask = 7) {j : Nat} : t.advance { j := j, more := 0, i := j, perturb := 0, dummy := none } = { j := (5 * j + 1) % 8, more := 0, i := (5 * j + 1) % 8, perturb := 0, dummy := none } := by
  unfold SetTable.advance SetTable.leap SetTable.runEnd
  rw [hm]
  simp only [Nat.lt_irrefl, if_false, gt_iff_lt]
  have e : (j * 5 + 1 + 0 / 32) % (7 + 1) = (5 * j + 1) % 8 := by omega
  rw [e]
  rw [if_neg (by omega)]
  simp
theorem free7 {t : SetTable} (hd : t.dummies = #[]) (ha : t.place.toList.Pairwise (· < ·)) (hm : t.mask = 7) (hs : t.place.size ≤ 4) {h : Int} (h0 : 0 ≤ h) (h1 : h < 32) :
    ∃ j, t.freeSlot h = some (j, false) ∧ j < 8 ∧ j ∉ t.place.toList := by
  have hf : ∀ i : Nat, ((fun _ : Nat => h + 1) i == h) = false := fun i => by rw [beq_eq_false_iff_ne]; show h + 1 ≠ h; omega
  suffices H : ∃ j, t.probe (fun _ => h + 1) h (t.probeStart h) = some (.empty j none) ∧ j < 8 ∧ j ∉ t.place.toList by
    obtain ⟨j, e, h2, h3⟩ := H
    refine ⟨j, ?_, h2, h3⟩
    unfold SetTable.freeSlot
    rw [e]
    rfl
  have e0 : t.probeStart h = { j := h.toNat % 8, more := 0, i := h.toNat % 8, perturb := h.toNat, dummy := none } := by
    unfold SetTable.probeStart SetTable.runEnd
    rw [hm, bits_small h0 h1]
    simp only [show (7 + 1 : Nat) = 8 from rfl]
    rw [if_neg (by omega)]
    simp
  have e1 : t.advance { j := h.toNat % 8, more := 0, i := h.toNat % 8, perturb := h.toNat, dummy := none } = { j := (5 * (h.toNat % 8) + 1) % 8, more := 0, i := (5 * (h.toNat % 8) + 1) % 8, perturb := 0, dummy := none } := by
    unfold SetTable.advance SetTable.leap SetTable.runEnd
    rw [hm]
    simp only [Nat.lt_irrefl, if_false, gt_iff_lt]
    have e' : h.toNat / 32 = 0 := by omega
    rw [e']
    have e : (h.toNat % 8 * 5 + 1 + 0) % (7 + 1) = (5 * (h.toNat % 8) + 1) % 8 := by omega
    rw [e, if_neg (by omega)]
    simp
  unfold SetTable.probe
  rw [e0, hm]
  generalize hj0 : h.toNat % 8 = j0 at e1 ⊢
  have hj08 : j0 < 8 := by omega
  have L := hs
  show ∃ j, SetTable.probe.go t _ h (216 + 1 + 1 + 1 + 1) _ = _ ∧ _
  refine probe_step hd ha hf rfl (C := fun r => ∃ j, r = some (.empty j none) ∧ j < 8 ∧ j ∉ t.place.toList) (fun n => ⟨_, rfl, hj08, n⟩) fun m0 => ?_
  rw [e1]
  generalize hj1 : (5 * j0 + 1) % 8 = j1
  refine probe_step hd ha hf rfl (C := fun r => ∃ j, r = some (.empty j none) ∧ j < 8 ∧ j ∉ t.place.toList) (fun n => ⟨_, rfl, (by dsimp only; omega), n⟩) fun m1 => ?_
  rw [adv7 hm]
  generalize hj2 : (5 * j1 + 1) % 8 = j2
  refine probe_step hd ha hf rfl (C := fun r => ∃ j, r = some (.empty j none) ∧ j < 8 ∧ j ∉ t.place.toList) (fun n => ⟨_, rfl, (by dsimp only; omega), n⟩) fun m2 => ?_
  rw [adv7 hm]
  generalize hj3 : (5 * j2 + 1) % 8 = j3
  refine probe_step hd ha hf rfl (C := fun r => ∃ j, r = some (.empty j none) ∧ j < 8 ∧ j ∉ t.place.toList) (fun n => ⟨_, rfl, (by dsimp only; omega), n⟩) fun m3 => ?_
  rw [adv7 hm]
  generalize hj4 : (5 * j3 + 1) % 8 = j4
  refine probe_step hd ha hf rfl (fuel := 215) (C := fun r => ∃ j, r = some (.empty j none) ∧ j < 8 ∧ j ∉ t.place.toList) (fun n => ⟨_, rfl, (by dsimp only; omega), n⟩) fun m4 => ?_
  exfalso
  have := nodup_le (l := [j0, j1, j2, j3, j4]) (m := t.place.toList) (by
    simp only [List.nodup_cons, List.mem_cons, List.not_mem_nil, or_false, not_or, not_false_eq_true, List.nodup_nil, and_true]
    omega) (by
    intro x hx
    simp only [List.mem_cons, List.not_mem_nil, or_false] at hx
    rcases hx with e | e | e | e | e <;> rw [e] <;> assumption)
  rw [Array.length_toList] at this
  simp at this
  omega
theorem free31 {t : SetTable} (hd : t.dummies = #[]) (ha : t.place.toList.Pairwise (· < ·)) (hm : t.mask = 31) {h : Int} (h0 : 0 ≤ h) (h1 : h < 32) (hn : h.toNat ∉ t.place.toList) :
    t.freeSlot h = some (h.toNat, false) := by
  have hf : ∀ i : Nat, ((fun _ : Nat => h + 1) i == h) = false := fun i => by rw [beq_eq_false_iff_ne]; show h + 1 ≠ h; omega
  have e0 : (t.probeStart h).j = h.toNat ∧ (t.probeStart h).dummy = none := by
    unfold SetTable.probeStart
    rw [hm, bits_small h0 h1]
    exact ⟨Nat.mod_eq_of_lt (by omega), rfl⟩
  have e : t.probe (fun _ => h + 1) h (t.probeStart h) = some (.empty h.toNat none) := by
    unfold SetTable.probe
    rw [hm]
    show SetTable.probe.go t _ h (459 + 1) _ = _
    refine probe_step hd ha hf e0.2 (C := fun r => r = some (.empty h.toNat none)) (fun _ => by rw [e0.1]) fun m => absurd m ?_
    rw [e0.1]; exact hn
  unfold SetTable.freeSlot
  rw [e]
  rfl
theorem insertAt_asc {xs : Array Nat} {j : Nat} (h : xs.toList.Pairwise (· < ·)) (hj : j ∉ xs.toList) : (SetTable.insertAt xs (SetTable.below xs j) j).toList.Pairwise (· < ·) := by
  obtain ⟨a, b, c⟩ := below_spec j h
  generalize SetTable.below xs j = p at a b c
  rw [SetTable.toList_insertAt]
  have hat : ∀ i (hi : i < xs.toList.length), xs.getD i 0 = xs.toList[i] := fun i hi => by
    have hi' : i < xs.size := by simpa using hi
    simp [Array.getD_eq_getD_getElem?, Array.getElem?_eq_getElem hi']
  have ht : ∀ x ∈ xs.toList.take p, x < j := fun x hx => by
    obtain ⟨i, hi, e⟩ := List.getElem_of_mem hx
    rw [List.getElem_take] at e
    rw [List.length_take] at hi
    rw [← e, ← hat]; exact b i (by omega)
  have hdr : ∀ x ∈ xs.toList.drop p, j < x := fun x hx => by
    obtain ⟨i, hi, e⟩ := List.getElem_of_mem hx
    rw [List.getElem_drop] at e
    rw [List.length_drop] at hi
    have h2 := c (p + i) (by omega) (by simp at hi; omega)
    rw [hat (p + i) (by omega), e] at h2
    rcases Nat.lt_or_eq_of_le h2 with h3 | h3
    · exact h3
    · exact absurd (h3 ▸ List.mem_of_mem_drop hx) hj
  rw [List.pairwise_append]
  refine ⟨h.sublist (List.take_sublist _ _), List.pairwise_cons.mpr ⟨fun x hx => hdr x hx, h.sublist (List.drop_sublist _ _)⟩, fun x hx y hy => ?_⟩
  rcases List.mem_cons.mp hy with rfl | hy
  · exact ht x hx
  · exact Nat.lt_trans (ht x hx) (hdr y hy)
end Mine
end Sq0_part
section Sq1_part
open PySem PySem.W PyProof.Rows PySem.Calls
namespace Mine
structure Own (done : List Int) (ow : Array (Option Nat)) : Prop where
  size : ow.size = 32
  at' : ∀ j, j < 32 → ∀ i, ow.getD j none = some i ↔ done[i]? = some (j : Int)
theorem own_free {done : List Int} {ow : Array (Option Nat)} (O : Own done ow) {h : Int} (h0 : 0 ≤ h) (h1 : h < 32) (hn : h ∉ done) :
    SetTable.layClean.free 31 ow (SetTable.turns 31) (SetTable.bits h % (31 + 1)) (SetTable.bits h) = some h.toNat := by
  rw [bits_small h0 h1, Nat.mod_eq_of_lt (by omega)]
  show SetTable.layClean.free 31 ow (45 + 1) h.toNat h.toNat = _
  unfold SetTable.layClean.free
  have hr : ∃ n, SetTable.runEnd 31 h.toNat + 1 - h.toNat = n + 1 := by
    unfold SetTable.runEnd
    split
    · exact ⟨9, by omega⟩
    · exact ⟨0, by omega⟩
  obtain ⟨n, hr⟩ := hr
  have hlt : h.toNat < ow.size := by rw [O.size]; omega
  have hno : ow[h.toNat]? = some none := by
    rw [Array.getElem?_eq_getElem hlt]
    congr 1
    cases e : ow[h.toNat] with
    | none => rfl
    | some i =>
      exfalso
      have := (O.at' h.toNat (by omega) i).mp (by simp [Array.getD_eq_getD_getElem?, Array.getElem?_eq_getElem hlt, e])
      have := List.mem_of_getElem? this
      rw [Int.toNat_of_nonneg h0] at this
      exact hn this
  rw [hr, List.range_succ_eq_map, List.find?_cons]
  have e2 : (ow.getD (h.toNat + 0) (some 0)).isNone = true := by
    rw [Nat.add_zero, Array.getD_eq_getD_getElem?, hno]; rfl
  rw [e2]
  simp
theorem clean_fold : ∀ (rest done : List Int) (ow : Array (Option Nat)), Own done ow → (done ++ rest).Nodup → (∀ h ∈ rest, 0 ≤ h ∧ h < 32) →
    ∃ ow', rest.foldl (init := some (ow, done.length)) (fun acc h => do
      let (owner, k) ← acc
      let j ← SetTable.layClean.free 31 owner (SetTable.turns 31) (SetTable.bits h % (31 + 1)) (SetTable.bits h)
      pure (owner.setIfInBounds j (some k), k + 1)) = some (ow', (done ++ rest).length) ∧ Own (done ++ rest) ow'
  | [], done, ow, O, _, _ => ⟨ow, by simp, by simpa using O⟩
  | h :: rest, done, ow, O, hn, hr => by
    obtain ⟨h0, h1⟩ := hr h (.head _)
    have hnot : h ∉ done := fun hm => (List.nodup_append.mp hn).2.2 h hm h (.head _) rfl
    have O' : Own (done ++ [h]) (ow.setIfInBounds h.toNat (some done.length)) := by
      refine ⟨by rw [Array.size_setIfInBounds, O.size], fun j hj i => ?_⟩
      have hj' : j < ow.size := by rw [O.size]; exact hj
      have e : (ow.setIfInBounds h.toNat (some done.length)).getD j none = if h.toNat = j then some done.length else ow.getD j none := by
        simp only [Array.getD_eq_getD_getElem?, Array.getElem?_setIfInBounds]
        by_cases e : h.toNat = j
        · subst e; simp [hj']
        · simp [e]
      rw [e]
      by_cases ej : h.toNat = j
      · rw [if_pos ej]
        have ej' : (j : Int) = h := by omega
        rw [ej']
        constructor
        · intro x
          cases x
          simp
        · intro x
          rcases Nat.lt_trichotomy i done.length with hlt | heq | hgt
          · rw [List.getElem?_append_left hlt] at x
            exact absurd (List.mem_of_getElem? x) hnot
          · rw [heq]
          · rw [List.getElem?_append_right (Nat.le_of_lt hgt)] at x
            have : i - done.length = (i - done.length - 1) + 1 := by omega
            rw [this] at x
            simp at x
      · rw [if_neg ej, O.at' j hj i]
        constructor
        · intro x
          rw [List.getElem?_append_left (List.getElem?_eq_some_iff.mp x).1]; exact x
        · intro x
          rcases Nat.lt_or_ge i done.length with hlt | hge
          · rw [List.getElem?_append_left hlt] at x; exact x
          · exfalso
            rw [List.getElem?_append_right hge] at x
            have hm := List.mem_of_getElem? x
            rw [List.mem_singleton] at hm
            omega
    have ih := clean_fold rest (done ++ [h]) _ O' (by simpa using hn) fun x hx => hr x (.tail _ hx)
    obtain ⟨ow', e, O''⟩ := ih
    refine ⟨ow', ?_, by simpa using O''⟩
    rw [List.foldl_cons]
    have e1 : (do
      let (owner, k) ← (some (ow, done.length) : Option (Array (Option Nat) × Nat))
      let j ← SetTable.layClean.free 31 owner (SetTable.turns 31) (SetTable.bits h % (31 + 1)) (SetTable.bits h)
      pure (owner.setIfInBounds j (some k), k + 1)) = some (ow.setIfInBounds h.toNat (some done.length), done.length + 1) := by
      show (SetTable.layClean.free 31 ow (SetTable.turns 31) (SetTable.bits h % (31 + 1)) (SetTable.bits h) >>= fun j => pure (ow.setIfInBounds j (some done.length), done.length + 1)) = _
      rw [own_free O h0 h1 hnot]
      rfl
    rw [e1]
    have el : (done ++ [h]).length = done.length + 1 := by simp
    rw [el] at e
    rw [e]
    simp
theorem own_start : Own [] (Array.replicate (31 + 1) none) := by
  refine ⟨by simp, fun j hj i => ?_⟩
  simp [Array.getD_eq_getD_getElem?, Array.getElem?_replicate, hj]
theorem layClean_own {hs : Array Int} (hn : hs.toList.Nodup) (hr : ∀ h ∈ hs.toList, 0 ≤ h ∧ h < 32) : ∃ ow, SetTable.layClean 31 hs = some ow ∧ Own hs.toList ow := by
  obtain ⟨ow, e, O⟩ := clean_fold hs.toList [] _ own_start (by simpa using hn) hr
  refine ⟨ow, ?_, by simpa using O⟩
  unfold SetTable.layClean
  rw [← Array.foldl_toList]
  simp only [List.length_nil] at e
  rw [e]
  rfl
def liveOf (ow : Array (Option Nat)) : List (Nat × Nat) := (List.range (31 + 1)).filterMap fun j => (ow.getD j none).map (j, ·)
theorem live_mem {ow : Array (Option Nat)} {q : Nat × Nat} : q ∈ liveOf ow ↔ q.1 < 32 ∧ ow.getD q.1 none = some q.2 := by
  unfold liveOf
  rw [List.mem_filterMap]
  constructor
  · rintro ⟨j, hj, e⟩
    rw [List.mem_range] at hj
    cases h : ow.getD j none with
    | none => rw [h] at e; simp at e
    | some i => rw [h] at e; simp at e; subst e; exact ⟨hj, h⟩
  · rintro ⟨h1, h2⟩
    exact ⟨q.1, List.mem_range.mpr h1, by rw [h2]; rfl⟩
theorem live_asc {ow : Array (Option Nat)} : (liveOf ow).Pairwise (fun a b => a.1 < b.1) := by
  unfold liveOf
  rw [List.pairwise_filterMap]
  refine List.Pairwise.imp (fun {a b} hab => ?_) List.pairwise_lt_range
  intro x hx y hy
  cases h1 : ow.getD a none <;> rw [h1] at hx <;> simp at hx
  cases h2 : ow.getD b none <;> rw [h2] at hy <;> simp at hy
  subst hx; subst hy
  exact hab
theorem live_order {hs : List Int} {ow : Array (Option Nat)} (O : Own hs ow) (hr : ∀ h ∈ hs, 0 ≤ h ∧ h < 32) : ((liveOf ow).map (·.2)).Perm (List.range hs.length) := by
  refine (List.perm_ext_iff_of_nodup ?_ List.nodup_range).mpr fun i => ?_
  · have h1 : (liveOf ow).Pairwise (fun a b => a.2 ≠ b.2) := by
      refine List.Pairwise.imp_of_mem (fun {a b} ha hb hab e => ?_) live_asc
      obtain ⟨a1, a2⟩ := live_mem.mp ha
      obtain ⟨b1, b2⟩ := live_mem.mp hb
      have x := (O.at' _ a1 _).mp a2
      have y := (O.at' _ b1 _).mp b2
      rw [e, y] at x
      have := Option.some.inj x
      omega
    exact List.Pairwise.map _ (fun a b h => h) h1
  · rw [List.mem_map, List.mem_range]
    constructor
    · rintro ⟨q, hq, rfl⟩
      obtain ⟨a1, a2⟩ := live_mem.mp hq
      exact (List.getElem?_eq_some_iff.mp ((O.at' _ a1 _).mp a2)).1
    · intro hi
      obtain ⟨h0, h1⟩ := hr _ (List.getElem_mem hi)
      refine ⟨(hs[i].toNat, i), live_mem.mpr ⟨by omega, (O.at' _ (by omega) _).mpr ?_⟩, rfl⟩
      rw [List.getElem?_eq_getElem hi, Int.toNat_of_nonneg h0]
end Mine
end Sq1_part
section Sq2_part
open PySem PySem.W PyProof.Rows PySem.Calls
namespace Mine
theorem fm_congr {α β : Type} {f g : α → Option β} : ∀ {l : List α}, (∀ x ∈ l, f x = g x) → l.filterMap f = l.filterMap g
  | [], _ => rfl
  | a :: l, h => by rw [List.filterMap_cons, List.filterMap_cons, h a (.head _), fm_congr fun x hx => h x (.tail _ hx)]
structure TInv (m : Nat) (b : Bool) (es : Array (Int × Value)) (t : SetTable) : Prop where
  plain : t.plain = true
  led : t.led = b
  dum : t.dummies = #[]
  asc : t.place.toList.Pairwise (· < ·)
  size : t.place.size = es.size
  rng : ∀ e ∈ es.toList, 0 ≤ e.1 ∧ e.1 < 32
  nd : (es.toList.map (·.1)).Nodup
  stage : (t.mask = 7 ∧ es.size ≤ m) ∨ (t.mask = 31 ∧ ∀ j ∈ t.place.toList, ∃ e ∈ es.toList, e.1 = (j : Int))
theorem TInv.fits {m : Nat} {b : Bool} {es : Array (Int × Value)} {t : SetTable} (I : TInv m b es t) (hm : m ≤ 7) (h : es.size ≤ 31) : t.fits es.size = true := by
  unfold SetTable.fits SetTable.fill
  rw [I.dum, I.size]
  rcases I.stage with ⟨e, x⟩ | ⟨e, _⟩ <;> rw [e] <;> simp <;> omega
theorem TInv.new (b : Bool) : TInv 4 b #[] (.fresh 0 0 b) := ⟨rfl, rfl, rfl, .nil, rfl, by simp, by simp, .inl ⟨rfl, by simp⟩⟩
theorem sizeAbove_20 : SetTable.sizeAbove 20 = 32 := by decide
theorem TInv.more {b : Bool} {es : Array (Int × Value)} {t : SetTable} (I : TInv 4 b es t) {h : Int} {x : Value} (h0 : 0 ≤ h) (h1 : h < 32) (hn : ∀ e ∈ es.toList, e.1 ≠ h) (hs : es.size ≤ 16) :
    ∃ es1 t1, layNew t es h x = (es1, t1, false, false) ∧ TInv 5 b es1 t1 ∧ es1.size = es.size + 1 := by
  have hfree : ∃ j, t.freeSlot h = some (j, false) ∧ j ∉ t.place.toList ∧ (t.mask = 31 → (j : Int) = h) := by
    rcases I.stage with ⟨e, y⟩ | ⟨e, y⟩
    · obtain ⟨j, a, _, c⟩ := free7 I.dum I.asc e (by rw [I.size]; exact y) h0 h1
      exact ⟨j, a, c, fun x => by omega⟩
    · have hno : h.toNat ∉ t.place.toList := fun hm => by
        obtain ⟨e, he, ee⟩ := y _ hm
        exact hn e he (by omega)
      exact ⟨h.toNat, free31 I.dum I.asc e h0 h1 hno, hno, fun _ => by omega⟩
  obtain ⟨j, hf, hj, hjh⟩ := hfree
  have hput : t.put j = ({ t with place := SetTable.insertAt t.place (SetTable.below t.place j) j }, SetTable.below t.place j) := by
    unfold SetTable.put SetTable.has
    rw [I.dum]
    simp
  have hperm := SetTable.insertAt_perm es (SetTable.below t.place j) (h, x)
  have hpermP := SetTable.insertAt_perm t.place (SetTable.below t.place j) j
  have hsz : (SetTable.insertAt es (SetTable.below t.place j) (h, x)).size = es.size + 1 := by
    rw [← Array.length_toList, hperm.length_eq, Array.length_toList, Array.size_push]
  have hszP : (SetTable.insertAt t.place (SetTable.below t.place j) j).size = t.place.size + 1 := by
    rw [← Array.length_toList, hpermP.length_eq, Array.length_toList, Array.size_push]
  have T : TInv 5 b (SetTable.insertAt es (SetTable.below t.place j) (h, x)) { t with place := SetTable.insertAt t.place (SetTable.below t.place j) j } := by
    refine ⟨I.plain, I.led, I.dum, insertAt_asc I.asc hj, by rw [hsz, hszP, I.size], fun e he => ?_, ?_, ?_⟩
    · have := hperm.mem_iff.mp he
      rw [Array.toList_push, List.mem_append, List.mem_singleton] at this
      rcases this with h2 | rfl
      · exact I.rng e h2
      · exact ⟨h0, h1⟩
    · refine (hperm.map _).nodup_iff.mpr ?_
      rw [Array.toList_push, List.map_append, List.nodup_append]
      refine ⟨I.nd, by simp, fun a ha c hc e => ?_⟩
      obtain ⟨q, hq, rfl⟩ := List.mem_map.mp ha
      simp only [List.map_cons, List.map_nil, List.mem_singleton] at hc
      exact hn q hq (e.trans hc)
    · rcases I.stage with ⟨e, y⟩ | ⟨e, y⟩
      · exact .inl ⟨e, by rw [hsz]; omega⟩
      · refine .inr ⟨e, fun k hk => ?_⟩
        have := hpermP.mem_iff.mp hk
        rw [Array.toList_push, List.mem_append, List.mem_singleton] at this
        rcases this with h2 | rfl
        · obtain ⟨q, hq, eq⟩ := y k h2
          exact ⟨q, hperm.mem_iff.mpr (by rw [Array.toList_push]; exact List.mem_append_left _ hq), eq⟩
        · exact ⟨(h, x), hperm.mem_iff.mpr (by simp), (hjh e).symm⟩
  refine ⟨_, _, ?_, T, hsz⟩
  unfold layNew
  rw [hf]
  dsimp only
  rw [hput]
  dsimp only
  have hfit := T.fits (by omega) (by rw [hsz]; omega)
  unfold SetTable.orStandIn
  rw [hfit]
  simp
theorem TInv.roomy {b : Bool} {es : Array (Int × Value)} {t : SetTable} (I : TInv 5 b es t) (h : t.tooFull = false) : TInv 4 b es t := by
  refine ⟨I.plain, I.led, I.dum, I.asc, I.size, I.rng, I.nd, ?_⟩
  rcases I.stage with ⟨e, y⟩ | y
  · refine .inl ⟨e, ?_⟩
    unfold SetTable.tooFull SetTable.fill at h
    rw [I.dum, I.size, e] at h
    simp at h
    omega
  · exact .inr y
theorem TInv.relay {b : Bool} {es : Array (Int × Value)} {t : SetTable} (I : TInv 5 b es t) (hs : es.size ≤ 17) (h : t.tooFull = true) :
    ∃ es2 t2, relayAll t es (SetTable.grown es.size) = (es2, t2, false) ∧ TInv 4 b es2 t2 ∧ es2.toList.Perm es.toList := by
  have h5 : es.size = 5 := by
    unfold SetTable.tooFull SetTable.fill at h
    rw [I.dum, I.size] at h
    rcases I.stage with ⟨e, y⟩ | ⟨e, y⟩
    · rw [e] at h; simp at h; omega
    · rw [e] at h; simp at h; omega
  have hg : SetTable.grown es.size = 20 := by rw [h5]; rfl
  have hp := relayAll_perm t es (SetTable.grown es.size)
  have hmap : (es.map (·.1)).toList = es.toList.map (·.1) := by simp
  have hr : ∀ h ∈ (es.map (·.1)).toList, 0 ≤ h ∧ h < 32 := fun h hh => by
    rw [hmap] at hh
    obtain ⟨e, he, rfl⟩ := List.mem_map.mp hh
    exact I.rng e he
  obtain ⟨ow, ho, O⟩ := layClean_own (hs := es.map (·.1)) (by rw [hmap]; exact I.nd) hr
  have hord := live_order O hr
  have hlen : (es.map (·.1)).toList.length = es.size := by simp
  rw [hlen] at hord
  have hcov : coversAll ((liveOf ow).map (·.2)).toArray es.size = true := by
    unfold coversAll
    rw [List.isPerm_iff]
    simpa using hord
  have hrel : t.relaid (es.map (·.1)) 20 = some ({ mask := 31, place := ((liveOf ow).map (·.1)).toArray, dummies := #[], finger := t.finger, led := t.led, moves := t.movedTo 31, plain := t.plain }, ((liveOf ow).map (·.2)).toArray) := by
    unfold SetTable.relaid SetTable.laid
    rw [sizeAbove_20]
    show (SetTable.layClean 31 (es.map (·.1)) >>= _) = _
    rw [ho]
    rfl
  have hlive : (liveOf ow).length = es.size := by
    have := hord.length_eq
    simpa using this
  have hes2 : ((((liveOf ow).map (·.2)).toArray).filterMap (es[·]?)).size = es.size := by
    have h1 : ((((liveOf ow).map (·.2)).toArray).filterMap (es[·]?)).toList.Perm ((List.range es.size).filterMap (es[·]?)) := by
      rw [Array.toList_filterMap]
      exact hord.filterMap _
    have h2 : (List.range es.size).filterMap (es[·]?) = es.toList := by
      apply List.ext_getElem?
      intro i
      have : (List.range es.size).filterMap (es[·]?) = (List.range es.size).map (fun i => es.getD i (0, Value.none)) := by
        rw [← List.filterMap_eq_map]
        refine fm_congr fun k hk => ?_
        rw [List.mem_range] at hk
        simp [Array.getD_eq_getD_getElem?, Array.getElem?_eq_getElem hk]
      rw [this]
      rcases Nat.lt_or_ge i es.size with hi | hi
      · rw [List.getElem?_map, List.getElem?_range hi]
        simp [Array.getD_eq_getD_getElem?, Array.getElem?_eq_getElem hi]
      · rw [List.getElem?_eq_none (by simpa using hi), List.getElem?_eq_none (by simpa using hi)]
    rw [h2] at h1
    rw [← Array.length_toList, h1.length_eq, Array.length_toList]
  have hres : relayAll t es (SetTable.grown es.size) = ((((liveOf ow).map (·.2)).toArray).filterMap (es[·]?), { mask := 31, place := ((liveOf ow).map (·.1)).toArray, dummies := #[], finger := t.finger, led := t.led, moves := t.movedTo 31, plain := t.plain }, false) := by
    rw [hg]
    unfold relayAll
    rw [hrel]
    dsimp only
    rw [hcov]
    have hfit : ({ mask := 31, place := ((liveOf ow).map (·.1)).toArray, dummies := #[], finger := t.finger, led := t.led, moves := t.movedTo 31, plain := t.plain } : SetTable).fits ((((liveOf ow).map (·.2)).toArray).filterMap (es[·]?)).size = true := by
      rw [hes2]
      unfold SetTable.fits SetTable.fill
      simp [hlive]
      omega
    rw [hfit]
    rfl
  rw [hres] at hp
  dsimp only at hp
  refine ⟨_, _, hres, ⟨I.plain, I.led, rfl, ?_, by rw [hes2]; simp [hlive], fun e he => I.rng e (hp.mem_iff.mp he), (hp.map _).nodup_iff.mpr I.nd, .inr ⟨rfl, fun j hj => ?_⟩⟩, hp⟩
  · exact List.Pairwise.map _ (fun a b h => h) live_asc
  · obtain ⟨q, hq, rfl⟩ := List.mem_map.mp (by simpa using hj : j ∈ (liveOf ow).map (·.1))
    obtain ⟨a1, a2⟩ := live_mem.mp hq
    have hm := List.mem_of_getElem? ((O.at' _ a1 _).mp a2)
    rw [hmap] at hm
    obtain ⟨e, he, ee⟩ := List.mem_map.mp hm
    exact ⟨e, hp.mem_iff.mpr he, ee⟩
end Mine
end Sq2_part
section Sq3_part
open PySem PySem.W PyProof.Rows PySem.Calls
namespace Mine
section
variable {prog : Program} {w : World} {A : Around} {E : Value → Shared → Prop} {s : Shared}
def byTextW (w : World) : Bool := w.params.followText "set-order"
def IntEs (val : Nat → Int) (k : Nat) (es : Array (Int × Value)) : Prop := es.size ≤ k ∧ ∀ e ∈ es.toList, (∃ j, j < k ∧ e.1 = val j) ∧ ∃ t, e.2 = .int e.1 t
def SAt (b : Bool) (val : Nat → Int) (k : Nat) (h : Heap) (S : Addr) : Prop :=
  ∃ o es ep t, h.get? S = some o ∧ o.ExactSet ∧ o.data = .set es ep t ∧ TInv 4 b es t ∧ IntEs val k es
theorem hashInt_small {k : Int} (h0 : 0 ≤ k) (h1 : k < 32) : hashInt k = k := by
  have : k = 0 ∨ k = 1 ∨ k = 2 ∨ k = 3 ∨ k = 4 ∨ k = 5 ∨ k = 6 ∨ k = 7 ∨ k = 8 ∨ k = 9 ∨ k = 10 ∨ k = 11 ∨ k = 12 ∨ k = 13 ∨ k = 14 ∨ k = 15 ∨ k = 16 ∨ k = 17 ∨ k = 18 ∨ k = 19 ∨ k = 20 ∨ k = 21 ∨ k = 22 ∨ k = 23 ∨ k = 24 ∨ k = 25 ∨ k = 26 ∨ k = 27 ∨ k = 28 ∨ k = 29 ∨ k = 30 ∨ k = 31 := by omega
  rcases this with rfl | rfl | rfl | rfl | rfl | rfl | rfl | rfl | rfl | rfl | rfl | rfl | rfl | rfl | rfl | rfl | rfl | rfl | rfl | rfl | rfl | rfl | rfl | rfl | rfl | rfl | rfl | rfl | rfl | rfl | rfl | rfl <;> decide +kernel
theorem IntEs.elems {val : Nat → Int} {k m : Nat} {b : Bool} {es : Array (Int × Value)} {t : SetTable} (H : IntEs val k es) (I : TInv m b es t) : ElemsOf (intKind prog w) es.toList := fun e he => by
  obtain ⟨_, tk, e2⟩ := H.2 e he
  obtain ⟨h0, h1⟩ := I.rng e he
  refine ⟨⟨e.1, by rw [e2]; exact intKind_is prog w _ _, (hashInt_small h0 h1).symm⟩, by rw [e2]; rfl⟩
theorem add_small {S : Addr} {val : Nat → Int} {k : Nat} {b : Bool} {tk : Tok} {Q : Bool → Shared → Prop} (hS : SAt b val k s.heap S) (h0 : 0 ≤ val k) (h1 : val k < 32) (hk : k ≤ 16)
    (h : ∀ r h', Heap.SameBut S s.heap h' → SAt b val (k + 1) h' S → Q r { s with heap := h' }) :
    wpAny (model prog w) A (setAddHashed S (.int (val k) tk) (val k)) Q E s := by
  obtain ⟨o, es, ep, t, ho, hex, hd, I, H⟩ := hS
  have hel := H.elems (prog := prog) (w := w) I
  have hf := I.fits (by omega) (by have := H.1; omega)
  have hb : es.size < scanBound := by have := H.1; unfold scanBound; omega
  have hkey := intKind_is prog w (val k) tk
  have hup : ∀ e : Int × Value, ((∃ j, j < k ∧ e.1 = val j) ∧ ∃ t, e.2 = .int e.1 t) → (∃ j, j < k + 1 ∧ e.1 = val j) ∧ ∃ t, e.2 = .int e.1 t := fun e ⟨⟨j, hj, x⟩, y⟩ => ⟨⟨j, by omega, x⟩, y⟩
  unfold setAddHashed setAddHashedIn
  refine wpAny_holding (wpAny_bind (wpAny_setState_of ho hd hf ?_))
  dsimp only
  rw [byScan_of (knd := intKind prog w) rfl hb hel]
  simp only [↓reduceIte]
  unfold setAddByScan
  refine wpAny_bind ?_
  refine wpAny_bind (wpAny_rule ?_)
  have hsc := wpAny_setScan_of (A := A) (E := E) (adding := true) (knd := intKind prog w) (Q := fun r s' => s' = s ∧ r = (match es.toList.findIdx? (fun e => (intKind prog w).is (val k) e.2) with | some j => .found (0 + j) | none => .absent)) hkey ho hd hf hel ⟨rfl, rfl⟩
  rw [show (intKind prog w).hash (val k) = val k from hashInt_small h0 h1] at hsc
  refine wpAny_bind (wpAny_mono hsc (fun r s' hr => ?_) fun _ _ x => x)
  obtain ⟨rfl, rfl⟩ := hr
  cases hfi : List.findIdx? (fun e => (intKind prog w).is (val k) e.2) es.toList with
  | some j =>
    dsimp only
    refine wpAny_pure (wpAny_pure ?_)
    exact h false s'.heap (Heap.SameBut.refl S s'.heap) ⟨o, es, ep, t, ho, hex, hd, I, by have := H.1; omega, fun e he => hup e (H.2 e he)⟩
  | none =>
    dsimp only
    have hnew : ∀ e ∈ es.toList, e.1 ≠ val k := fun e he e1 => by
      obtain ⟨_, t2, e2⟩ := H.2 e he
      have := List.findIdx?_eq_none_iff.mp hfi e he
      rw [e2, e1, intKind_is] at this
      exact Bool.noConfusion this
    obtain ⟨es1, t1, hlay, I1, hsz1⟩ := I.more (x := .int (val k) tk) h0 h1 hnew (by have := H.1; omega)
    have hperm := layNew_perm t es (val k) (.int (val k) tk)
    rw [hlay] at hperm ⊢
    dsimp only at hperm ⊢
    rw [Array.toList_push] at hperm
    have H1 : IntEs val (k + 1) es1 := ⟨by rw [hsz1]; have := H.1; omega, fun e he => by
      rcases List.mem_append.mp (hperm.mem_iff.mp he) with h2 | h2
      · exact hup e (H.2 e h2)
      · rw [List.mem_singleton] at h2; subst h2; exact ⟨⟨k, by omega, rfl⟩, tk, rfl⟩⟩
    have hle : es1.size ≤ 17 := by have := H1.1; omega
    refine wpAny_bind ?_
    refine wpAny_pure ?_
    rw [I1.plain]
    simp only [if_true]
    refine wpAny_bind ?_
    rw [hashByValue_scannable 8 rfl]
    refine wpAny_pure ?_
    simp only [plainKind, if_true]
    refine wpAny_bind (wpAny_storeSet_of ho hd ?_ (by rw [sizeLine_eq]; omega))
    have hg : (s'.heap.update S (Obj.putSet es1 t1)).get? S = some { o with data := .set es1 (ep + 1) t1 } := by
      have := Heap.get?_update_self (Obj.putSet es1 t1) ho (by rw [putSet_of es1 t1 hd]; rfl)
      rw [putSet_of es1 t1 hd] at this; exact this
    have hsb1 := Heap.SameBut.update s'.heap S (Obj.putSet es1 t1)
    by_cases hfull : t1.tooFull = true
    · rw [hfull]
      simp only [Bool.not_false, Bool.and_true, if_true]
      obtain ⟨es2, t2, hrel, I2, hp2⟩ := I1.relay hle hfull
      rw [hrel]
      dsimp only
      have hsz2 : es2.size = es1.size := by rw [← Array.length_toList, hp2.length_eq, Array.length_toList]
      have H2 : IntEs val (k + 1) es2 := ⟨by rw [hsz2]; exact H1.1, fun e he => H1.2 e (hp2.mem_iff.mp he)⟩
      refine wpAny_bind (wpAny_pure ?_)
      refine wpAny_bind (wpAny_storeSet_of hg rfl ?_ (by rw [sizeLine_eq]; omega))
      have hg2 : ((s'.heap.update S (Obj.putSet es1 t1)).update S (Obj.putSet es2 t2)).get? S = some { o with data := .set es2 (ep + 1 + 1) t2 } := by
        have := Heap.get?_update_self (Obj.putSet es2 t2) hg (by rfl)
        exact this
      refine wpAny_pure ?_
      dsimp only
      exact wpAny_pure (h true _ (hsb1.trans (Heap.SameBut.update _ S _)) ⟨_, es2, _, t2, hg2, hex, rfl, I2, H2⟩)
    · have hfull' : t1.tooFull = false := by simpa using hfull
      rw [hfull']
      simp only [Bool.and_false, Bool.false_eq_true, if_false]
      refine wpAny_pure ?_
      dsimp only
      exact wpAny_pure (h true _ hsb1 ⟨_, es1, _, t1, hg, hex, rfl, I1.roomy hfull', H1⟩)
end
end Mine
end Sq3_part
section Sq4_part
open PySem PySem.W PyProof.Rows PySem.Calls
namespace Mine
section
variable {prog : Program} {w : World} {A : Around} {E : Value → Shared → Prop} {s : Shared}
theorem SAt.at' {b : Bool} {val : Nat → Int} {k : Nat} {h h' : Heap} {S : Addr} (x : SAt b val k h S) (e : ∀ o, h.get? S = some o → h'.get? S = some o) : SAt b val k h' S :=
  let ⟨o, es, ep, t, ho, r⟩ := x; ⟨o, es, ep, t, e o ho, r⟩
theorem update_small {R : Result → Shared → Prop} {I : Addr} {fp wr : List Addr} {G : Array GenState → Array GenState → Prop} {n : Nat} {P : Nat → Value → Prop} {St : Nat → Shared → Prop} {b : Bool} {val : Nat → Int}
    (W : WalksS prog w A.in1 I fp wr G n P St) (S : Addr) (hSf : S ∉ fp) (hval : ∀ i v, P i v → ∃ t, v = .int (val i) t) (hr : ∀ i, i < n → 0 ≤ val i ∧ val i < 32) (hn : n ≤ 16) :
    ∀ (k i : Nat) (s : Shared), n - i = k → i ≤ n → St i s → SAt b val i s.heap S →
      (∀ s', Moved (S :: wr) G s s' → SAt b val n s'.heap S → R (.ok (.ret .none)) s') →
      codeAny (model prog w) A (.builtin "set.update.loop" ⟨[.ref S, .ref I], []⟩) R s := by
  have hSw : S ∉ wr := fun h => hSf (W.sub _ h)
  have hsub : ∀ b ∈ wr, b ∈ S :: wr := fun b hb => List.mem_cons_of_mem _ hb
  intro k
  induction k with
  | zero =>
    intro i s hk hi hst hS hR
    have hin : i = n := by omega
    subst hin
    refine codeAny_builtin F.entry_set_update_loop ?_
    rw [Around.under_plainId F.plain_set_update_loop _]
    show wpAny _ A.in1 (pyNext (.ref I) >>= _) _ _ s
    refine wpAny_bind (W.done s _ _ hst fun s' hm => ?_)
    show wpAny _ A.in1 (ret Value.none) _ _ s'
    exact wpAny_pure (hR s' (hm.mono hsub) (hS.at' fun o e => hm.heap S _ hSw e))
  | succ k ih =>
    intro i s hk hi hst hS hR
    have hlt : i < n := by omega
    refine codeAny_builtin F.entry_set_update_loop ?_
    rw [Around.under_plainId F.plain_set_update_loop _]
    show wpAny _ A.in1 (pyNext (.ref I) >>= _) _ _ s
    refine wpAny_bind (W.item i s _ _ hlt hst fun v s' hP hst' hm => ?_)
    obtain ⟨t, rfl⟩ := hval i v hP
    have hS' := hS.at' fun o e => hm.heap S _ hSw e
    show wpAny _ A.in1 (holding [Value.int (val i) t] (setAdd S (.int (val i) t)) >>= _) _ _ s'
    refine wpAny_bind (wpAny_holding ?_)
    unfold setAdd
    refine wpAny_holding ?_
    refine wpAny_bind ((intKind prog w).pyHash (k := val i) (intKind_is _ _ _ _) ?_)
    obtain ⟨h0, h1⟩ := hr i hlt
    rw [show (intKind prog w).hash (val i) = val i from hashInt_small h0 h1]
    refine add_small (s := { s' with toks := s'.toks + 1 }) hS' h0 h1 (by omega) fun r h' hsb hS2 => ?_
    refine wpAny_pure ⟨plainId_quiet F.plain_set_update_loop _, ih (i + 1) _ (by omega) hlt (W.frame _ s' _ _ hst' (Nat.le_succ _) fun b hb o e => ?_) hS2 fun s'' hm'' hS'' => ?_⟩
    · rw [hsb.2 b (fun h : b = S => hSf (by rw [← h]; exact hb))]; exact e
    · refine hR s'' (Moved.trans W.gtrans ((hm.mono hsub).then_heap (Nat.le_succ _) fun b o hb e => ?_) hm'') hS''
      rw [hsb.2 b (fun h : b = S => hb (by rw [h]; exact List.mem_cons_self))]; exact e
theorem new_set_led (a : Value) {Q₁ : Value → Shared → Prop}
    (h : Q₁ (.ref s.heap.objs.size) { s with heap := s.heap.push { cls := .type "set", dict := none, data := .set #[] 0 (.fresh 0 0 (!byTextW w)) } }) :
    codeAny (model prog w) A (.call (.builtin "set.__new__") ⟨[.type "set", a], []⟩) (wants Q₁ E) s := by
  refine codeAny_of_tree ?_
  show wpAny _ A.in1 (do checkBuiltinCall "set.__new__" ⟨[.type "set", a], []⟩; again (.builtin "set.__new__" ⟨[.type "set", a], []⟩)) _ _ s
  refine wpAny_bind (wpAny_of_eq (F.newCall_set_1 a) (wpAny_pure ⟨plainId_quiet F.plain_set_new _, codeAny_builtin F.entry_set_new ?_⟩))
  rw [Around.under_plainId F.plain_set_new _]
  unfold Builtin.«set.__new__» Builtin.Frozenset.newClass
  have hsub := sub_set_self
  obtain ⟨hp, g, d, tk, os⟩ := s
  dsimp only
  wp_walk
  refine wpAny_askSetting (wpAny_pure ?_)
  dsimp only
  simp only [newObj]
  refine wpAny_bind (wpAny_alloc (wpAny_pure ?_))
  exact wpAny_pure h
theorem set_small {l : Addr} {items : Array Value} {val : Nat → Int} {Q : Value → Shared → Prop}
    (hh : A.handled = none) (hl : s.heap.IsList l items) (hval : ∀ (i : Nat) (v : Value), items[i]? = some v → ∃ t, v = .int (val i) t) (hr : ∀ i, i < items.size → 0 ≤ val i ∧ val i < 32) (hn : items.size ≤ 16)
    (h : ∀ (h' : Heap) (tk : Nat), SAt (!byTextW w) val items.size h' s.heap.objs.size →
      (∀ b o, b < s.heap.objs.size → s.heap.get? b = some o → h'.get? b = some o) → Q (.ref s.heap.objs.size) { s with heap := h', toks := tk }) :
    wpAny (model prog w) A (call (.type "set") [.ref l]) Q E s := by
  obtain ⟨c, tl, hmro⟩ := F.called_set.mro
  have hmade := F.called_set.made
  have hsub := F.called_set.sub
  refine wpAny_call (codeAny_of_tree ?_)
  show wpAny _ _ (callAny (.type "set") _) _ _ _
  refine wpAny_pure ⟨Code.quiet_builtin _ (by decide +kernel), codeAny_builtin F.entry_type_call ?_⟩
  rw [Around.under_plain (weight_type_call_type "set" [.ref l] []) rfl]
  have h1 := F.called_set.notType
  have h2 := F.called_set.canCreate
  have hct := F.typeCall_set_1 (.ref l)
  repeat (any_goals (first | assumption | wp_step))
  refine codeAny_mono (new_set_led (.ref l) (E := E) (Q₁ := fun obj s₁ => obj = .ref s.heap.objs.size ∧ s₁ = { s with heap := s.heap.push { cls := .type "set", dict := none, data := .set #[] 0 (.fresh 0 0 (!byTextW w)) } }) ⟨rfl, rfl⟩) fun r s₁ hr' => ?_
  cases r with
  | error e => exact hr'
  | ok fl =>
    cases fl with
    | ret obj =>
      obtain ⟨rfl, rfl⟩ := hr'
      have hS : (s.heap.push { cls := .type "set", dict := none, data := .set #[] 0 (.fresh 0 0 (!byTextW w)) }).get? s.heap.objs.size = some { cls := .type "set", dict := none, data := .set #[] 0 (.fresh 0 0 (!byTextW w)) } := Heap.get?_push_size _ rfl
      have hT : Shared.TypeIs { s with heap := s.heap.push { cls := .type "set", dict := none, data := .set #[] 0 (.fresh 0 0 (!byTextW w)) } } (.ref s.heap.objs.size) "set" := ⟨_, hS, rfl⟩
      have hli := F.called_set.init.lookup
      have hbi := F.called_set.init.bind (.ref s.heap.objs.size)
      repeat (any_goals (first | assumption | wp_step))
      refine codeAny_mono (codeAny_call_builtin (R := wants (fun r s₂ => r = .none ∧ ∃ h' tk, s₂ = { s with heap := h', toks := tk } ∧
          SAt (!byTextW w) val items.size h' s.heap.objs.size ∧
          (∀ b o, b < s.heap.objs.size → s.heap.get? b = some o → h'.get? b = some o)) E) F.called_set.init.plain F.entry_set_init (check_set_init_1 hT ?_)) fun r₂ s₂ hr₂ => ?_
      · obtain ⟨ol, hol, hcl, nl, hdl⟩ := hl
        obtain ⟨ocls, odict, odata, oslots⟩ := ol
        simp only at hcl hdl
        subst hcl; subst hdl
        have hol' : (s.heap.push { cls := .type "set", dict := none, data := .set #[] 0 (.fresh 0 0 (!byTextW w)) }).get? l = some { cls := .type "list", dict := odict, data := .seq items nl, slots := oslots } := Heap.get?_push_of_some _ hol
        have hsls := F.sub_list_set
        have hslf := F.sub_list_frozenset
        have hne : (Value.type "list" == Value.type "dict") = false := by decide
        have hl1 : (s.heap.push { cls := .type "set", dict := none, data := .set #[] 0 (.fresh 0 0 (!byTextW w)) }).IsList l items := ⟨_, hol', rfl, nl, rfl⟩
        unfold Builtin.«set.__init__» noKeywords Builtin.Frozenset.updateFrom
        generalize hPI : pyIter = PI
        wp_walk
        subst hPI
        refine wpAny_pyIter_list hl1 ?_
        refine wpAny_bind (wpAny_runValue ?_)
        have hlS : l < s.heap.objs.size := Heap.lt_size hol
        have hh3 : A.in1.in1.in1.handled = none := by simp [hh]
        have hneI : l ≠ (s.heap.push { cls := .type "set", dict := none, data := .set #[] 0 (.fresh 0 0 (!byTextW w)) }).objs.size := by
          rw [Heap.size_push]; exact Nat.ne_of_lt (Nat.lt_succ_of_lt hlS)
        have hSf : s.heap.objs.size ∉ [(s.heap.push { cls := .type "set", dict := none, data := .set #[] 0 (.fresh 0 0 (!byTextW w)) }).objs.size, l] := by
          rw [Heap.size_push]; simp only [List.mem_cons, List.mem_singleton, List.not_mem_nil, or_false, not_or]
          exact ⟨Nat.ne_of_lt (Nat.lt_succ_self _), Nat.ne_of_gt hlS⟩
        refine update_small (b := !byTextW w) (val := val) ((Walks.list hh3 _ l hneI items).toS) s.heap.objs.size
          hSf (fun i v hv => hval i v hv) hr hn (items.size - 0) 0 _ (by omega) (Nat.zero_le _)
          ⟨⟨_, Heap.get?_push_size _ rfl, rfl, rfl⟩, (hl1.push _)⟩ ?hS0 ?hR
        case hS0 =>
          have hget : ((s.heap.push { cls := .type "set", dict := none, data := .set #[] 0 (.fresh 0 0 (!byTextW w)) }).push { cls := .type "list_iterator", data := .fields #[.ref l, .int 0 0] }).get? s.heap.objs.size
              = some { cls := .type "set", dict := none, data := .set #[] 0 (.fresh 0 0 (!byTextW w)) } := Heap.get?_push_of_some _ hS
          exact ⟨_, #[], 0, _, hget, ⟨rfl, rfl, rfl⟩, rfl, TInv.new _, Nat.le_refl _, fun e he => by simp at he⟩
        case hR =>
          intro s' hm hS'
          obtain ⟨h', g', d', tk', os'⟩ := s'
          have eg : g' = s.gens := hm.gens
          have ed : d' = s.drawn := hm.drawn
          have eo : os' = s.os := hm.os
          subst eg; subst ed; subst eo
          show wpAny _ _ _ _ _ _
          refine wpAny_pure ?_
          show wpAny _ _ (ret Value.none) _ _ _
          refine wpAny_pure ⟨rfl, h', tk', rfl, hS', fun b o hb e => ?_⟩
          have hb1 : b ≠ s.heap.objs.size := Nat.ne_of_lt hb
          have hb2 : b ≠ (s.heap.push { cls := .type "set", dict := none, data := .set #[] 0 (.fresh 0 0 (!byTextW w)) }).objs.size := by
            rw [Heap.size_push]; exact Nat.ne_of_lt (Nat.lt_succ_of_lt hb)
          exact hm.heap b o (by simp only [List.mem_cons, List.mem_singleton, List.not_mem_nil, or_false, not_or]; exact ⟨hb1, hb2⟩) (Heap.get?_push_of_some _ (Heap.get?_push_of_some _ e))
      · cases r₂ with
        | error e => exact hr₂
        | ok fl₂ =>
          cases fl₂ with
          | ret r =>
            obtain ⟨rfl, h', tk, rfl, hS', hk'⟩ := hr₂
            repeat (any_goals (first | assumption | wp_step))
            exact h _ _ hS' hk'
          | _ => exact hr₂.elim
    | _ => exact hr'.elim
end
end Mine
end Sq4_part
section Sq5a_part
open PySem PySem.W PyProof.Rows PySem.Calls
namespace Mine
theorem slot_setit_next : Slot "set_iterator" "__next__" "set_iterator.__next__" :=
  .of (owner := "set_iterator") (n := "__next__") (by rw [typeLookup_type, builtinLookup_eq_fast]; kernel_rfl) (by decide +kernel) (by decide +kernel) (by decide +kernel)
    (by first | exact .inl (by decide +kernel) | exact .inr (by decide +kernel)) (by rw [isSubtype_type]; kernel_rfl)
theorem slot_setit_iter : Slot "set_iterator" "__iter__" "set_iterator.__iter__" :=
  .of (owner := "set_iterator") (n := "__iter__") (by rw [typeLookup_type, builtinLookup_eq_fast]; kernel_rfl) (by decide +kernel) (by decide +kernel) (by decide +kernel)
    (by first | exact .inl (by decide +kernel) | exact .inr (by decide +kernel)) (by rw [isSubtype_type]; kernel_rfl)
theorem entry_setit_next : entryFor table "set_iterator.__next__" = some Builtin.«set_iterator.__next__» := entryFor_of_tree (by kernel_rfl)
theorem entry_setit_iter : entryFor table "set_iterator.__iter__" = some Builtin.«dict_keyiterator.__iter__» := entryFor_alias (id' := "dict_keyiterator.__iter__") (by rw [fastTable_eq_tree]; kernel_rfl) rfl (by decide +kernel) (by rw [fastTable_eq_tree]; kernel_rfl)
theorem entry_set_iter' : entryFor table "set.__iter__" = some Builtin.«frozenset.__iter__» := entryFor_alias (id' := "frozenset.__iter__") (by rw [fastTable_eq_tree]; kernel_rfl) rfl (by decide +kernel) (by rw [fastTable_eq_tree]; kernel_rfl)
theorem owner_setit : Manifest.owners.lookup (String.ofList ['r', 'o', 't', 'a', 'r', 'e', 't', 'i', '_', 't', 'e', 's'].reverse) = some Manifest.sig_set_iterator := by kernel_rfl
theorem args_setit_next (a : Value) : argsOk "set_iterator.__next__" ⟨[a], []⟩ := by
  unfold argsOk; rw [signature?_of (id := "set_iterator.__next__") (n := ['_', '_', 't', 'x', 'e', 'n', '_', '_']) (o := ['r', 'o', 't', 'a', 'r', 'e', 't', 'i', '_', 't', 'e', 's']) (by kernel_rfl) owner_setit]; kernel_rfl
theorem args_setit_iter (a : Value) : argsOk "set_iterator.__iter__" ⟨[a], []⟩ := by
  unfold argsOk; rw [signature?_of (id := "set_iterator.__iter__") (n := ['_', '_', 'r', 'e', 't', 'i', '_', '_']) (o := ['r', 'o', 't', 'a', 'r', 'e', 't', 'i', '_', 't', 'e', 's']) (by kernel_rfl) owner_setit]; kernel_rfl
end Mine
end Sq5a_part
section Sq5_part
open PySem PySem.W PyProof.Rows PySem.Calls
namespace Mine
theorem pick_go {α : Type} (next : Nat → Nat) : ∀ (fuel k : Nat) (left : List α) (out : Array α), (∀ x ∈ (pickOrder.go next fuel k left out).toList, x ∈ out.toList ∨ x ∈ left) ∧ (pickOrder.go next fuel k left out).size ≤ out.size + fuel
  | 0, k, left, out => ⟨fun x hx => .inl hx, Nat.le_refl _⟩
  | fuel + 1, k, left, out => by
    unfold pickOrder.go
    cases h : left[next k % left.length]? with
    | none => exact ⟨fun x hx => .inl hx, Nat.le_add_right _ _⟩
    | some y =>
      obtain ⟨a, b⟩ := pick_go next fuel (k + 1) (left.eraseIdx (next k % left.length)) (out.push y)
      refine ⟨fun x hx => ?_, by rw [Array.size_push] at b; dsimp only; omega⟩
      rcases a x hx with h2 | h2
      · rw [Array.toList_push, List.mem_append, List.mem_singleton] at h2
        rcases h2 with h3 | rfl
        · exact .inl h3
        · exact .inr (List.mem_of_getElem? h)
      · exact .inr (List.mem_of_mem_eraseIdx h2)
def ordOf (w : World) (S ep : Nat) (es : Array (Int × Value)) : Array (Int × Value) := if byTextW w then pickOrder (w.params.setOrder S ep) es else es
theorem ordOf_mem {w : World} {S ep : Nat} {es : Array (Int × Value)} {e : Int × Value} (h : e ∈ (ordOf w S ep es).toList) : e ∈ es.toList := by
  unfold ordOf at h
  split at h
  · rcases (pick_go _ _ _ _ _).1 e h with h2 | h2
    · simp at h2
    · exact h2
  · exact h
theorem ordOf_size (w : World) (S ep : Nat) (es : Array (Int × Value)) : (ordOf w S ep es).size ≤ es.size := by
  unfold ordOf
  split
  · have := (pick_go (w.params.setOrder S ep) es.size 0 es.toList #[]).2
    simp only [List.size_toArray, List.length_nil, Nat.zero_add] at this
    exact this
  · exact Nat.le_refl _
def slotAt (t : SetTable) (i : Nat) : Nat := if i = 0 then 0 else t.place.getD (i - 1) 0 + 1
section
variable {prog : Program} {w : World} {A : Around} {E : Value → Shared → Prop} {s : Shared}
theorem below_slot {m : Nat} {b : Bool} {es : Array (Int × Value)} {t : SetTable} (I : TInv m b es t) {i : Nat} (hi : i ≤ es.size) : SetTable.below t.place (slotAt t i) = i := by
  have hlt : ∀ a c, a < c → c < t.place.size → t.place.getD a 0 < t.place.getD c 0 := fun a c hac hc => by
    have := List.pairwise_iff_getElem.mp I.asc a c (by simp; omega) (by simpa using hc) hac
    have ha : a < t.place.size := by omega
    simpa [Array.getD_eq_getD_getElem?, Array.getElem?_eq_getElem hc, Array.getElem?_eq_getElem ha] using this
  have hsz := I.size
  refine below_at I.asc (by omega) (fun k hk => ?_) fun h => ?_
  · unfold slotAt
    rw [if_neg (by omega)]
    by_cases e : k = i - 1
    · rw [e]; exact Nat.lt_succ_self _
    · exact Nat.lt_succ_of_lt (hlt k (i - 1) (by omega) (by omega))
  · unfold slotAt
    by_cases e : i = 0
    · rw [if_pos e]; exact Nat.zero_le _
    · rw [if_neg e]; exact hlt (i - 1) i (by omega) h
theorem setsByText_ {Q : Bool → Shared → Prop} (h : Q (byTextW w) s) : wpAny (model prog w) A setsByText Q E s := by
  unfold setsByText
  exact wpAny_bind (wpAny_askSetting (wpAny_pure h))
theorem setNext_small {S : Addr} {o : Obj} {es : Array (Int × Value)} {ep i sl : Nat} {t : SetTable} {Q : Option (Value × Nat) → Shared → Prop}
    (ho : s.heap.get? S = some o) (hd : o.data = .set es ep t) (I : TInv 4 (!byTextW w) es t) (h31 : es.size ≤ 31) (hi : i ≤ (ordOf w S ep es).size) (hsl : byTextW w = false → sl = slotAt t i)
    (h1 : ∀ e nx, (ordOf w S ep es)[i]? = some e → (byTextW w = false → nx = slotAt t (i + 1)) → Q (some (e.2, nx)) s) (h2 : i = (ordOf w S ep es).size → Q none s) :
    wpAny (model prog w) A (setNext S sl i ep) Q E s := by
  have hf := I.fits (by omega) h31
  unfold setNext
  refine wpAny_bind (wpAny_setState_of ho hd hf ?_)
  dsimp only
  refine wpAny_bind (setsByText_ ?_)
  cases hb : byTextW w with
  | true =>
    simp only [if_true]
    have hord : ordOf w S ep es = pickOrder (w.params.setOrder S ep) es := by unfold ordOf; rw [hb]; rfl
    simp only [bne_self_eq_false, Bool.false_eq_true, if_false]
    refine wpAny_bind ?_
    unfold setWalk
    refine wpAny_bind (wpAny_setState_of ho hd hf ?_)
    dsimp only
    refine wpAny_bind (setsByText_ ?_)
    rw [hb]
    simp only [if_true]
    refine wpAny_bind (wpAny_askSetting ?_)
    refine wpAny_pure ?_
    show wpAny _ _ (pure _) _ _ _
    refine wpAny_pure ?_
    show Q (Option.map (fun e => (e.2, sl)) (pickOrder (w.params.setOrder S ep) es)[i]?) s
    rw [← hord]
    cases hx : (ordOf w S ep es)[i]? with
    | none =>
      have : i = (ordOf w S ep es).size := by
        rw [Array.getElem?_eq_none_iff] at hx; omega
      exact h2 this
    | some e => exact h1 e sl hx fun x => by rw [hb] at x; cases x
  | false =>
    simp only [Bool.false_eq_true, if_false]
    have hord : ordOf w S ep es = es := by unfold ordOf; rw [hb]; rfl
    rw [hord] at h1 h2 hi
    split
    · rename_i hdr
      exfalso
      have hdr' : (!t.plain && decide (es.size > 1)) = true := hdr
      rw [I.plain] at hdr'
      simp at hdr'
    · have hled : t.led = true := by rw [I.led, hb]; rfl
      refine wpAny_bind ?_
      show wpAny _ _ (if (!t.led && !es.isEmpty) = true then _ else _) _ _ _
      rw [hled]
      simp only [Bool.not_true, Bool.false_and, Bool.false_eq_true, if_false]
      refine wpAny_pure ?_
      rw [hsl hb, below_slot I hi]
      rcases Nat.lt_or_ge i es.size with hlt | hge
      · have hp : i < t.place.size := by rw [I.size]; exact hlt
        have he : es[i]? = some es[i] := Array.getElem?_eq_getElem hlt
        have hq : t.place[i]? = some t.place[i] := Array.getElem?_eq_getElem hp
        rw [he, hq]
        dsimp only
        refine wpAny_pure (h1 es[i] (t.place[i] + 1) he fun _ => ?_)
        unfold slotAt
        rw [if_neg (Nat.succ_ne_zero i), Nat.add_sub_cancel]
        simp [Array.getD_eq_getD_getElem?, hq]
      · have he : es[i]? = none := Array.getElem?_eq_none hge
        rw [he]
        dsimp only
        exact wpAny_pure (h2 (by omega))
end
end Mine
end Sq5_part
section Sq6_part
open PySem PySem.W PyProof.Rows PySem.Calls
namespace Mine
def SetIt (h : Heap) (I S sl i n ep : Nat) : Prop :=
  ∃ o, h.get? I = some o ∧ o.cls = .type "set_iterator" ∧ o.data = .fields #[.int sl 0, .int i 0, .ref S, .int n 0, .int ep 0]
theorem SetIt.at' {h h' : Heap} {I S sl i n ep : Nat} (x : SetIt h I S sl i n ep) (e : ∀ o, h.get? I = some o → h'.get? I = some o) : SetIt h' I S sl i n ep := let ⟨o, ho, r⟩ := x; ⟨o, e _ ho, r⟩
def SetSt (b : Bool) (h : Heap) (S : Addr) (es : Array (Int × Value)) (ep : Nat) (t : SetTable) : Prop := ∃ o, h.get? S = some o ∧ o.ExactSet ∧ o.data = .set es ep t ∧ TInv 4 b es t ∧ es.size ≤ 16
theorem SetSt.at' {b : Bool} {h h' : Heap} {S : Addr} {es : Array (Int × Value)} {ep : Nat} {t : SetTable} (x : SetSt b h S es ep t) (e : ∀ o, h.get? S = some o → h'.get? S = some o) : SetSt b h' S es ep t := let ⟨o, ho, r⟩ := x; ⟨o, e _ ho, r⟩
section
variable {prog : Program} {w : World} {A : Around} {E : Value → Shared → Prop} {s : Shared} {S I : Addr} {es : Array (Int × Value)} {ep : Nat} {t : SetTable}
theorem SetIt.typeIs {sl i n : Nat} (x : SetIt s.heap I S sl i n ep) : s.TypeIs (.ref I) "set_iterator" := let ⟨o, ho, hc, _⟩ := x; ⟨o, ho, hc⟩
theorem SetSt.typeIs {b : Bool} (x : SetSt b s.heap S es ep t) : s.TypeIs (.ref S) "set" := let ⟨o, ho, hc, _⟩ := x; ⟨o, ho, hc.1⟩
theorem iter_small {Q : Value → Shared → Prop} (hS : SetSt (!byTextW w) s.heap S es ep t)
    (hQ : Q (.ref s.heap.objs.size) { s with heap := s.heap.push { cls := .type "set_iterator", data := .fields #[.int 0 0, .int 0 0, .ref S, .int es.size 0, .int ep 0] } }) :
    wpAny (model prog w) A (pyIter (.ref S)) Q E s := by
  obtain ⟨o, ho, hex, hd, I0, h16⟩ := id hS
  have hf := I0.fits (by omega) (by omega)
  refine wpAny_pyIter_slot hS.typeIs F.slot_set_iter (wpAny_call_entry F.slot_set_iter hS.typeIs entry_set_iter' ?_ (F.args_set_iter_1 _))
  unfold Builtin.«frozenset.__iter__»
  refine wpAny_bind ?_
  unfold Builtin.Frozenset.slot0
  refine wpAny_bind (wpAny_pure ?_)
  refine wpAny_pure ?_
  refine wpAny_bind ?_
  unfold Builtin.Frozenset.sizeOf
  refine wpAny_bind (wpAny_setEntries_of ho hd hf (wpAny_pure ?_))
  refine wpAny_bind (m := setDrawn S) ?_
  unfold setDrawn
  refine wpAny_bind (wpAny_setState_of ho hd hf ?_)
  dsimp only
  refine wpAny_bind (setsByText_ ?_)
  refine wpAny_pure ?_
  have hdr : (!byTextW w && (!t.plain && decide (es.size > 1))) = false := by rw [I0.plain]; simp
  show wpAny _ _ (if (!byTextW w && (!t.plain && decide (es.size > 1))) = true then _ else _) _ _ _
  rw [hdr]
  simp only [Bool.false_eq_true, if_false]
  refine wpAny_bind (wpAny_pure ?_)
  refine wpAny_bind (wpAny_setEpoch_of ho hd hf ?_)
  refine wpAny_bind ?_
  unfold newFields
  refine wpAny_newObj_type (wpAny_pure ⟨_, rfl, "set_iterator", _, ⟨_, Heap.get?_push_size _ rfl, rfl⟩, slot_setit_next.lookup, ?_⟩)
  simpa [rawInt] using hQ
theorem next_small {sl i : Nat} {Q : Option Value → Shared → Prop} (hh : A.handled = none) (hit : SetIt s.heap I S sl i es.size ep) (hS : SetSt (!byTextW w) s.heap S es ep t) (hi : i ≤ (ordOf w S ep es).size) (hsl : byTextW w = false → sl = slotAt t i)
    (h1 : ∀ e h' nx, (ordOf w S ep es)[i]? = some e → (byTextW w = false → nx = slotAt t (i + 1)) → SetIt h' I S nx (i + 1) es.size ep → Heap.SameBut I s.heap h' → Q (some e.2) { s with heap := h' })
    (h2 : ∀ h', i = (ordOf w S ep es).size → Heap.ExtBut I s.heap h' → Q none { s with heap := h' }) :
    wpAny (model prog w) A (pyNext (.ref I)) Q E s := by
  obtain ⟨o, ho, hc, hd⟩ := id hit
  obtain ⟨oS, hoS, hex, hdS, I0, h16⟩ := id hS
  have hf := I0.fits (by omega) (by omega)
  unfold pyNext
  refine wpAny_bind (wpAny_attempt (wpAny_callSpecial?_slot (name := Str.ofString "__next__") hit.typeIs slot_setit_next
    (wpAny_call_entry slot_setit_next hit.typeIs entry_setit_next ?_ (args_setit_next _))))
  unfold Builtin.«set_iterator.__next__»
  refine wpAny_bind (wpAny_pure ?_)
  refine wpAny_bind (wpAny_fieldsOf ho hd ?_)
  dsimp only
  refine wpAny_bind (wpAny_setEntries_of hoS hdS hf ?_)
  rw [if_neg (by simp)]
  refine wpAny_bind ?_
  rw [Int.toNat_natCast, Int.toNat_natCast, Int.toNat_natCast]
  refine setNext_small hoS hdS I0 (by omega) hi hsl (fun e nx he hnx => ?_) fun he => ?_
  · dsimp only
    refine wpAny_bind (wpAny_setField ho hd (by simp) ?_)
    have ho1 := Heap.get?_update_self (Obj.mapFields (·.setIfInBounds 0 (rawInt ((nx : Nat) : Int)))) ho (Obj.isFreed_of_fields (Obj.data_mapFields hd _))
    have hd1 : (Obj.mapFields (·.setIfInBounds 0 (rawInt ((nx : Nat) : Int))) o).data = .fields _ := Obj.data_mapFields hd _
    refine wpAny_bind (wpAny_setField ho1 hd1 (by simp) ?_)
    have hit' : SetIt ((s.heap.update I (Obj.mapFields (·.setIfInBounds 0 (rawInt ((nx : Nat) : Int))))).update I (Obj.mapFields (·.setIfInBounds 1 (rawInt ((i : Int) + 1))))) I S nx (i + 1) es.size ep :=
      ⟨_, Heap.get?_update_self _ ho1 (Obj.isFreed_of_fields (Obj.data_mapFields hd1 _)), (Obj.cls_mapFields ..).trans ((Obj.cls_mapFields ..).trans hc), by rw [Obj.data_mapFields hd1]; simp [rawInt]⟩
    exact wpAny_pure ⟨_, rfl, wpAny_pure (h1 e _ nx he hnx hit' ((Heap.SameBut.update ..).trans (Heap.SameBut.update ..)))⟩
  · dsimp only
    refine wpAny_bind (wpAny_setField ho hd (by simp) ?_)
    refine wpAny_bind ?_
    simp only [newExc, newTuple]
    refine wpAny_bind (wpAny_newObj_type ?_ (by size_fits))
    refine wpAny_bind (m := firstArgMember _ _) (wpAny_of_eq (a := Value.none) (by first | rfl | (simp only [firstArgMember]; rfl)) ?_)
    refine wpAny_newObj_type ?_ (by size_fits)
    simp only [raiseNew]
    refine wpAny_bind (wpAny_handled ?_)
    rw [show A.in1.handled = none from hh]
    refine wpAny_bind (wpAny_pure (wpAny_throw ?_))
    refine wpAny_bind (wpAny_isInstance (T := "StopIteration") (b := true) ⟨_, Heap.get?_push_size _ rfl, rfl⟩ isSubtype_stop ?_)
    exact wpAny_pure (h2 _ he (((Heap.SameBut.update ..).extBut.push _).push _))
end
end Mine
end Sq6_part
section Sq7_part
open PySem PySem.W PyProof.Rows PySem.Calls
namespace Mine
section
variable {prog : Program} {w : World} {A : Around} {E : Value → Shared → Prop} {s : Shared} {S : Addr} {es : Array (Int × Value)} {ep : Nat} {t : SetTable}
theorem hint_set {r : Addr} {Q : Bool → Shared → Prop} (hT : s.TypeIs (.ref r) "set") (h : Q false s) : wpAny (model prog w) A (Builtin.List.listLengthHint (.ref r)) Q E s := by
  unfold Builtin.List.listLengthHint
  refine wpAny_bind (wpAny_specialOf hT PySem.F.slot_set_len.lookup ?_)
  generalize hid : ("set.__len__" : String) = id0
  wp_delta
  rw [show splitId id0 = some ("set", "__len__") from by subst hid; decide +kernel]
  subst hid
  refine wpAny_bind (wpAny_isInstance (T := "set") (b := true) hT (by rw [isSubtype_type]; kernel_rfl) ?_)
  refine wpAny_ite_split (fun hab => absurd hab (by decide)) (fun _ => ?_)
  refine wpAny_ite_split (fun _ => ?_) (fun hab => absurd (by decide +kernel) hab)
  refine wpAny_bind (wpAny_typeOf hT ?_)
  exact wpAny_pure h
theorem walks_set (hh : A.handled = none) (I : Addr) (hne : S ≠ I) :
    Walks prog w A I [I, S] [I] (ordOf w S ep es).size (fun i v => ∃ e, (ordOf w S ep es)[i]? = some e ∧ v = e.2) (fun i h => i ≤ (ordOf w S ep es).size ∧ (∃ sl, SetIt h I S sl i es.size ep ∧ (byTextW w = false → sl = slotAt t i)) ∧ SetSt (!byTextW w) h S es ep t) where
  sub := fun b hb => by simp at hb; simp [hb]
  frame := fun _ _ _ st hk => ⟨st.1, let ⟨sl, hi, hs⟩ := st.2.1; ⟨sl, hi.at' fun o e => hk I (by simp) o e, hs⟩, st.2.2.at' fun o e => hk S (by simp) o e⟩
  item := fun i s Q E hi st hQ => by
    obtain ⟨hle, ⟨sl, hit, hsl⟩, hS⟩ := st
    refine next_small hh hit hS hle hsl (fun e h' nx he hnx hit' hs' => ?_) fun h' e _ => absurd e (Nat.ne_of_lt hi)
    exact hQ e.2 h' s.toks ⟨e, he, rfl⟩ ⟨hi, ⟨nx, hit', hnx⟩, hS.at' fun o e => hs'.extBut S o hne e⟩ fun b o hb e => hs'.extBut b o (fun h => hb (by simp [h])) e
  done := fun s Q E st hQ => by
    obtain ⟨hle, ⟨sl, hit, hsl⟩, hS⟩ := st
    refine next_small hh hit hS hle hsl (fun e h' nx he hnx hit' hs' => ?_) fun h' e he' => hQ h' s.toks fun b o hb e => he' b o (fun h => hb (by simp [h])) e
    rw [Array.getElem?_eq_none (Nat.le_refl _)] at he; cases he
  self := fun _ _ _ _ st hQ => by
    obtain ⟨_, ⟨sl, hit, _⟩, _⟩ := st
    refine wpAny_pyIter_slot hit.typeIs slot_setit_iter (wpAny_call_entry slot_setit_iter hit.typeIs entry_setit_iter ?_ (args_setit_iter _))
    show wpAny _ _ (ret (.ref I)) _ _ _
    exact wpAny_pure ⟨_, rfl, "set_iterator", _, hit.typeIs, slot_setit_next.lookup, hQ⟩
theorem src_set : KdlSrc prog w "set" S S (ordOf w S ep es).size (fun i v => ∃ e, (ordOf w S ep es)[i]? = some e ∧ v = e.2) (fun h => SetSt (!byTextW w) h S es ep t) where
  type := fun _ hm => hm.typeIs
  there := fun _ hm => let ⟨_, ho, _⟩ := hm; ⟨Heap.lt_size ho, Heap.lt_size ho⟩
  keep := fun _ _ hm hk => hm.at' fun o e => hk S (.inl rfl) o e
  notList := by decide
  notTuple := by decide
  hint := fun _ _ _ _ hm hq => hint_set hm.typeIs hq
  iter := fun _ s hh hm => ⟨_, _, (fun _ _ hq => iter_small hm hq), walks_set (t := t) hh _ (let ⟨_, ho, _⟩ := hm; Nat.ne_of_lt (Heap.lt_size ho)), Nat.zero_le _, ⟨0, ⟨_, Heap.get?_push_size _ rfl, rfl, rfl⟩, fun _ => rfl⟩, hm.at' fun o e => Heap.get?_push_of_some _ e⟩
def SetOb (w : World) (ns : List Int) (o : Obj) : Prop := ∃ es ep t, o.ExactSet ∧ o.data = .set es ep t ∧ TInv 4 (!byTextW w) es t ∧ es.size ≤ 16 ∧ ∀ e ∈ es.toList, e.1 ∈ ns ∧ ∃ tk, e.2 = .int e.1 tk
variable {h₀ : Heap} {L : Addr} {m : Str → Option Value} {news : List (Addr × Obj)} {vs : List Value} {ns : List Int}
theorem ints_at : ∀ {vs : List Value} {ns : List Int}, IntsAre vs ns → ∀ (i : Nat) (v : Value), vs[i]? = some v → ∃ t, v = .int (ns.getD i 0) t
  | _, _, .nil, i, v, h => by simp at h
  | _, _, .cons n t r, 0, v, h => by simp at h; exact ⟨t, by simp [← h]⟩
  | _, _, .cons n t r, i + 1, v, h => by
    obtain ⟨t', e⟩ := ints_at r i v (by simpa using h)
    exact ⟨t', by simpa using e⟩
theorem set_N {l : Addr} {Q : Value → Shared → Prop} (F : Fr h₀ L s.heap m) (N : News h₀ L s.heap news) (hh : A.handled = none) (hl : s.heap.IsList l vs.toArray) (hi : IntsAre vs ns) (hr : ∀ x ∈ ns, 0 ≤ x ∧ x < 32) (hn : ns.length ≤ 16)
    (h : ∀ h' (tk : Nat) o, Fr h₀ L h' m → News h₀ L h' ((s.heap.objs.size, o) :: news) → SetOb w ns o → (∀ q ∈ news, q.1 < s.heap.objs.size) → L < s.heap.objs.size → Q (.ref s.heap.objs.size) { s with heap := h', toks := tk }) :
    wpAny (model prog w) A (call (.type "set") [.ref l]) Q E s := by
  have hvn : vs.length = ns.length := hi.length
  have hmem : ∀ i, i < ns.length → ns.getD i 0 ∈ ns := fun i h => by
    rw [List.getD_eq_getElem?_getD, List.getElem?_eq_getElem h]; exact List.getElem_mem h
  refine set_small (val := fun i => ns.getD i 0) hh hl (fun i v hv => ints_at hi i v (by simpa using hv)) (fun i h => hr _ (hmem i (by simp at h; omega))) (by simp; omega) fun h' tk hS hk => ?_
  obtain ⟨o, es, ep, t, ho, hex, hd, I, H⟩ := hS
  rw [List.size_toArray] at H
  obtain ⟨oL, _, _, hL, _⟩ := F.ns
  have hLlt : L < s.heap.objs.size := Heap.lt_size hL
  refine h h' tk o ⟨F.ns.at' fun o' e => hk L o' hLlt e, fun b o' e => hk b o' (Heap.lt_size (F.keep b o' e)) (F.keep b o' e), F.above⟩ (fun p hp => ?_) ⟨es, ep, t, hex, hd, I, by have := H.1; omega, fun e he => ?_⟩ (fun q hq => Heap.lt_size (N q hq).1) hLlt
  · rcases List.mem_cons.mp hp with rfl | hp
    · refine ⟨ho, Nat.ne_of_gt hLlt, ?_⟩
      cases hq : h₀.get? s.heap.objs.size with
      | none => rfl
      | some o' => exact absurd (Heap.lt_size (F.keep _ _ hq)) (Nat.lt_irrefl _)
    · exact ⟨hk _ _ (Heap.lt_size (N p hp).1) (N p hp).1, (N p hp).2.1, (N p hp).2.2⟩
  · obtain ⟨⟨j, hj, e1⟩, x⟩ := H.2 e he
    exact ⟨e1 ▸ hmem j (by omega), x⟩
theorem ints_of_vals (P : Int → Prop) : ∀ {vs : List Value}, (∀ (j : Nat) (u : Value), vs[j]? = some u → ∃ k t, u = .int k t ∧ P k) → ∃ ns, IntsAre vs ns ∧ (∀ x ∈ ns, P x) ∧ ns.length = vs.length
  | [], _ => ⟨[], .nil, fun _ h => (nomatch h), rfl⟩
  | u :: vs, h => by
    obtain ⟨k, t, rfl, hk⟩ := h 0 u rfl
    obtain ⟨ns, h1, h2, h3⟩ := ints_of_vals P fun j u hu => h (j + 1) u (by simpa using hu)
    refine ⟨k :: ns, .cons k t h1, fun x hx => ?_, by simp [h3]⟩
    rcases List.mem_cons.mp hx with rfl | hx
    · exact hk
    · exact h2 x hx
theorem sorted_set {o : Obj} {Q : Value → Shared → Prop} (hh : A.handled = none) (F : Fr h₀ L s.heap m) (N : News h₀ L s.heap news) (hv : (S, o) ∈ news) (hS : SetOb w ns o)
    (h : ∀ (D : Addr) vs' ns' c h' tk, Fr h₀ L h' m → News h₀ L h' ((D, listOf (List.toArray vs') c) :: news) → (∀ q ∈ news, q.1 < D) → IntsAre vs' ns' → (∀ x ∈ ns', x ∈ ns) → ns'.length ≤ 16 → Q (.ref D) { s with heap := h', toks := tk }) :
    wpAny (model prog w) A (call (.builtin "sorted") [.ref S]) Q E s := by
  obtain ⟨es, ep, t, hex, hd, I, h16, hes⟩ := hS
  have hsz := ordOf_size w S ep es
  refine kdu_sorted (src_set (S := S) (es := es) (ep := ep) (t := t)) hh F N ⟨o, (N _ hv).1, hex, hd, I, h16⟩ (by rw [sizeLine_eq]; omega) fun B h' tk vs F' N' l1 hl hvs => ?_
  obtain ⟨ms, hI, hms, hml⟩ := ints_of_vals (fun k => k ∈ ns) (vs := vs) fun j u hu => by
    obtain ⟨e, he, rfl⟩ := hvs j u hu
    have hm : e ∈ es.toList := ordOf_mem (List.mem_of_getElem? (by rw [Array.getElem?_toList]; exact he))
    obtain ⟨a, tk, b⟩ := hes e hm
    exact ⟨e.1, tk, b, a⟩
  refine ksk_lsort (news' := fun o => (B, o) :: news) (s := { s with heap := h', toks := tk }) F' N' (fun o => .head (fun q hq => Nat.ne_of_lt (l1 q hq))) rfl hI (by omega) fun vs' ns' c h₂ F₂ N₂ h1 h2 h3 h4 h5 => ?_
  exact h B vs' ns' c h₂ tk F₂ N₂ l1 h1 (fun x hx => hms x (h3.mem_iff.mp hx)) (by omega)
end
end Mine
end Sq7_part
section LWh_part
open PySem PySem.W PyProof.Rows PySem.Calls
namespace Mine
section
variable {prog : Program} {w : World} {A : Around} {s : Shared} {h₀ : Heap} {L a : Addr} {cn : Str} {cs : Scope} {ccd : Value} {m : Str → Option Value} {body : List Stmt} {Q : Flow → Shared → Prop} {x : Str} {px : Pos} {I l c : Addr} {n : Nat} {P : Nat → Value → Prop} {Stt : Nat → Heap → Prop} {oc : Obj} {news : List (Addr × Obj)}
def CellTurn (h₀ : Heap) (L : Addr) (m : Str → Option Value) (s : Shared) (c : Addr) (z1 z2 : Addr × Obj) (J : List (Addr × Obj) → Prop) (f : Flow) (s₂ : Shared) : Prop :=
  f = .next ∧ ∃ h' tk' oc' v' news', s₂ = { s with heap := h', toks := tk' } ∧ Fr h₀ L h' m ∧ News h₀ L h' ((c, oc') :: z1 :: z2 :: news') ∧ oc'.data = .cell v' ∧ (∀ q ∈ news', @Ne Nat q.1 z1.1 ∧ @Ne Nat q.1 z2.1 ∧ @Ne Nat q.1 c) ∧ J news'
theorem cell_run (W : Walks prog w A I [I, l] [I] n P Stt) (hfn : ∀ b ∈ [I, l], b ≠ L ∧ h₀.get? b = none) (ex : ∀ i h, Stt i h → ∀ b ∈ [I, l], ∃ o, h.get? b = some o)
    (hc : (cellsFrom (L + 1) cs.names []).lookup x = some c) (hst : Stt 0 s.heap) (F : Fr h₀ L s.heap m) (N : News h₀ L s.heap ((c, oc) :: news)) {v₀ : Option Value} (hcell : oc.data = .cell v₀)
    (hoff : ∀ q ∈ news, @Ne Nat q.1 I ∧ @Ne Nat q.1 l ∧ @Ne Nat q.1 c) (hcI : @Ne Nat c I) (hcl : @Ne Nat c l) (J : Nat → List (Addr × Obj) → Prop) (h0 : J 0 news)
    (turn : ∀ i v oc news₁ h tk ob ol, i < n → P i v → J i news₁ → oc.data = .cell (some v) → (∀ q ∈ news₁, @Ne Nat q.1 I ∧ @Ne Nat q.1 l ∧ @Ne Nat q.1 c) → Fr h₀ L h m → News h₀ L h ((c, oc) :: (I, ob) :: (l, ol) :: news₁) →
      wpAny (model prog w) A (execs body (envOfC cn cs L a ccd)) (CellTurn h₀ L m s c (I, ob) (l, ol) (J (i + 1))) (fun _ _ => False) { s with heap := h, toks := tk })
    (done : ∀ oc v news₁ h tk, oc.data = .cell v → J n news₁ → (∀ q ∈ news₁, @Ne Nat q.1 c) → Fr h₀ L h m → News h₀ L h ((c, oc) :: news₁) → Q .next { s with heap := h, toks := tk })
    (hk : cs.kind = .function := by rfl) (hx : (envOfC cn cs L a ccd).kindOf x = some .cell := by rfl) :
    LoopRun prog w A (.Name x px) (envOfC cn cs L a ccd) body Q (.ref I) s := by
  have Lnew : h₀.get? L = none := by
    cases e : h₀.get? L with
    | none => rfl
    | some o => exact absurd (Nat.lt_of_lt_of_le (Heap.lt_size e) F.above) (Nat.lt_irrefl _)
  have hIL : @Ne Nat L I := fun e => (hfn I (.head _)).1 e.symm
  have old : ∀ b o, h₀.get? b = some o → b ∉ [I] := fun b o e hb => by rw [List.mem_singleton.mp hb, (hfn I (.head _)).2] at e; cases e
  refine codeAny_forLoop
    (fun k s' => ∃ h' tk oc' v' news' i, s' = { s with heap := h', toks := tk } ∧ Stt i h' ∧ Fr h₀ L h' m ∧ News h₀ L h' ((c, oc') :: news') ∧ oc'.data = .cell v' ∧ (∀ q ∈ news', @Ne Nat q.1 I ∧ @Ne Nat q.1 l ∧ @Ne Nat q.1 c) ∧ J i news' ∧ i ≤ n ∧ k = n + 1 - i) ?_ (n + 1)
    ⟨s.heap, s.toks, oc, v₀, news, 0, rfl, hst, F, N, hcell, hoff, h0, Nat.zero_le _, rfl⟩
  rintro k s' ⟨h', tk, oc', v', news', i, rfl, hst', F', N', hcd', hof', hJ, hi, rfl⟩
  have next : ∀ h₁ : Heap, (∀ b o, b ∉ [I] → h'.get? b = some o → h₁.get? b = some o) → Fr h₀ L h₁ m ∧ News h₀ L h₁ ((c, oc') :: news') := fun h₁ hk₁ =>
    ⟨⟨F'.ns.at' fun o e => hk₁ _ o (by rw [List.mem_singleton]; exact hIL) e, fun b o e => hk₁ b o (old b o e) (F'.keep b o e), F'.above⟩, fun p hp => ⟨hk₁ _ _ (by
      rw [List.mem_singleton]
      rcases List.mem_cons.mp hp with rfl | hp
      · exact hcI
      · exact (hof' p hp).1) (N' p hp).1, (N' p hp).2⟩⟩
  by_cases hlt : i < n
  · refine W.item i _ _ _ hlt hst' fun v h₁ tk₁ hP hst₁ hk₁ => ?_
    obtain ⟨F₁, N₁⟩ := next h₁ hk₁
    obtain ⟨ob, hob⟩ := ex _ _ hst₁ I (.head _)
    obtain ⟨ol, hol⟩ := ex _ _ hst₁ l (.tail _ (.head _))
    have N₂ : News h₀ L h₁ ((c, oc') :: (I, ob) :: (l, ol) :: news') := fun q hq => by
      rcases List.mem_cons.mp hq with rfl | hq
      · exact N₁ _ (.head _)
      rcases List.mem_cons.mp hq with rfl | hq
      · exact ⟨hob, (hfn _ (.head _)).1, (hfn _ (.head _)).2⟩
      rcases List.mem_cons.mp hq with rfl | hq
      · exact ⟨hol, (hfn _ (.tail _ (.head _))).1, (hfn _ (.tail _ (.head _))).2⟩
      exact N₁ q (.tail _ hq)
    refine wpAny_assign_Name (storeC_F (s := { s with heap := h₁, toks := tk₁ }) F₁ N₂ hc (UpdF.head ?_) hcd' (fun h₂ oc₂ F₂ N₃ hd₂ => ?_) hk hx)
    · intro q hq
      rcases List.mem_cons.mp hq with rfl | hq
      · exact Ne.symm hcI
      rcases List.mem_cons.mp hq with rfl | hq
      · exact Ne.symm hcl
      exact (hof' q hq).2.2
    have own : ∀ (h₄ : Heap), h₄.get? I = some ob → h₄.get? l = some ol → Stt (i + 1) h₄ := fun h₄ e1 e2 => W.frame _ _ _ hst₁ fun b hb o e => by
      simp only [List.mem_cons, List.not_mem_nil, or_false] at hb
      rcases hb with rfl | rfl
      · rw [hob] at e; rw [← e]; exact e1
      · rw [hol] at e; rw [← e]; exact e2
    refine wpAny_mono (turn i v oc₂ news' h₂ tk₁ ob ol hlt hP hJ hd₂ hof' F₂ N₃) (fun f s₃ h₃ => ?_) fun _ _ e => e.elim
    obtain ⟨rfl, h₄, tk₄, oc₄, v₄, news₄, rfl, F₄, N₄, hd₄, hof₄, hJ₄⟩ := h₃
    exact ⟨n + 1 - (i + 1), by omega, h₄, tk₄, oc₄, v₄, news₄, i + 1, rfl, own h₄ (N₄ (I, ob) (.tail _ (.head _))).1 (N₄ (l, ol) (.tail _ (.tail _ (.head _)))).1, F₄, news_sub N₄ fun q hq => by
      rcases List.mem_cons.mp hq with rfl | hq
      · exact .head _
      · exact .tail _ (.tail _ (.tail _ hq)), hd₄, hof₄, hJ₄, hlt, rfl⟩
  · have hin : i = n := by omega
    subst hin
    refine W.done _ _ _ hst' fun h₁ tk₁ hk₁ => wpAny_execs_nil ?_
    obtain ⟨F₁, N₁⟩ := next h₁ hk₁
    exact done oc' v' news' h₁ tk₁ hcd' hJ (fun q hq => (hof' q hq).2.2) F₁ N₁
end
end Mine
end LWh_part
section LWi_part
open PySem PySem.W PyProof.Rows PySem.Calls
namespace Mine
section
variable {prog : Program} {w : World} {A : Around} {s : Shared} {h₀ : Heap} {L a : Addr} {cn : Str} {cs : Scope} {ccd : Value} {m : Str → Option Value} {body : List Stmt} {Q : Flow → Shared → Prop} {x : Str} {px : Pos} {c D : Addr} {oc oD : Obj} {news : List (Addr × Obj)} {items : Array Value}
theorem cell_list (hh : A.handled = none) (F : Fr h₀ L s.heap m) (N : News h₀ L s.heap ((c, oc) :: (D, oD) :: news)) (hD : s.heap.IsList D items) {v₀ : Option Value} (hcell : oc.data = .cell v₀)
    (hc : (cellsFrom (L + 1) cs.names []).lookup x = some c) (hcD : @Ne Nat c D) (hoff : ∀ q ∈ news, @Ne Nat q.1 D ∧ @Ne Nat q.1 c) (J : Nat → List (Addr × Obj) → Prop) (h0 : J 0 news)
    (turn : ∀ i v oc news₁ h tk I ob ol, i < items.size → items[i]? = some v → J i news₁ → oc.data = .cell (some v) → (∀ q ∈ news₁, @Ne Nat q.1 I ∧ @Ne Nat q.1 D ∧ @Ne Nat q.1 c) → @Ne Nat c I → Fr h₀ L h m → News h₀ L h ((c, oc) :: (I, ob) :: (D, ol) :: news₁) →
      wpAny (model prog w) A (execs body (envOfC cn cs L a ccd)) (CellTurn h₀ L m s c (I, ob) (D, ol) (J (i + 1))) (fun _ _ => False) { s with heap := h, toks := tk })
    (done : ∀ oc v news₁ h tk, oc.data = .cell v → J items.size news₁ → (∀ q ∈ news₁, @Ne Nat q.1 c) → Fr h₀ L h m → News h₀ L h ((c, oc) :: news₁) → Q .next { s with heap := h, toks := tk })
    (hk : cs.kind = .function := by rfl) (hx : (envOfC cn cs L a ccd).kindOf x = some .cell := by rfl) :
    wpAny (model prog w) A (pyIter (.ref D)) (fun it s₂ => LoopRun prog w A (.Name x px) (envOfC cn cs L a ccd) body Q it s₂) (fun _ _ => False) s := by
  refine wpAny_pyIter_list hD ?_
  obtain ⟨h1, h2⟩ := fr_new F
  have hne : D ≠ s.heap.objs.size := Nat.ne_of_lt (Heap.lt_size (N _ (.tail _ (.head _))).1)
  have hlt : ∀ q ∈ (c, oc) :: (D, oD) :: news, @Ne Nat q.1 s.heap.objs.size := fun q hq => Nat.ne_of_lt (Heap.lt_size (N q hq).1)
  refine cell_run (s := { s with heap := s.heap.push { cls := .type "list_iterator", data := .fields #[.ref D, .int 0 0] } }) (Walks.list (prog := prog) (w := w) hh s.heap.objs.size D hne items) (fun b hb => ?_) (fun i h st b hb => ?_) hc ⟨⟨_, Heap.get?_push_size _ rfl, rfl, rfl⟩, hD.push _⟩ (F.push _) (oc := oc) (news := news) (fun q hq => ?_) hcell (fun q hq => ⟨hlt q (.tail _ (.tail _ hq)), hoff q hq⟩) (hlt _ (.head _)) hcD J h0 (fun i v oc news₁ h tk ob ol hi hv hJ hoc hof F₁ N₁ => turn i v oc news₁ h tk _ ob ol hi hv hJ hoc hof (hlt _ (.head _)) F₁ N₁) done hk hx
  · simp only [List.mem_cons, List.not_mem_nil, or_false] at hb
    rcases hb with rfl | rfl
    · exact ⟨h1, h2⟩
    · exact (N _ (.tail _ (.head _))).2
  · simp only [List.mem_cons, List.not_mem_nil, or_false] at hb
    obtain ⟨⟨o1, e1, _⟩, ⟨o2, e2, _⟩⟩ := st
    rcases hb with rfl | rfl
    · exact ⟨o1, e1⟩
    · exact ⟨o2, e2⟩
  · have : q ∈ (c, oc) :: (D, oD) :: news := by
      rcases List.mem_cons.mp hq with rfl | hq
      · exact .head _
      · exact .tail _ (.tail _ hq)
    exact ⟨Heap.get?_push_of_some _ (N q this).1, (N q this).2⟩
theorem cell_tuple (hh : A.handled = none) (F : Fr h₀ L s.heap m) (N : News h₀ L s.heap ((c, oc) :: (D, oD) :: news)) (hD : s.heap.IsTuple D items) {v₀ : Option Value} (hcell : oc.data = .cell v₀)
    (hc : (cellsFrom (L + 1) cs.names []).lookup x = some c) (hcD : @Ne Nat c D) (hoff : ∀ q ∈ news, @Ne Nat q.1 D ∧ @Ne Nat q.1 c) (J : Nat → List (Addr × Obj) → Prop) (h0 : J 0 news)
    (turn : ∀ i v oc news₁ h tk I ob ol, i < items.size → items[i]? = some v → J i news₁ → oc.data = .cell (some v) → (∀ q ∈ news₁, @Ne Nat q.1 I ∧ @Ne Nat q.1 D ∧ @Ne Nat q.1 c) → @Ne Nat c I → Fr h₀ L h m → News h₀ L h ((c, oc) :: (I, ob) :: (D, ol) :: news₁) →
      wpAny (model prog w) A (execs body (envOfC cn cs L a ccd)) (CellTurn h₀ L m s c (I, ob) (D, ol) (J (i + 1))) (fun _ _ => False) { s with heap := h, toks := tk })
    (done : ∀ oc v news₁ h tk, oc.data = .cell v → J items.size news₁ → (∀ q ∈ news₁, @Ne Nat q.1 c) → Fr h₀ L h m → News h₀ L h ((c, oc) :: news₁) → Q .next { s with heap := h, toks := tk })
    (hk : cs.kind = .function := by rfl) (hx : (envOfC cn cs L a ccd).kindOf x = some .cell := by rfl) :
    wpAny (model prog w) A (pyIter (.ref D)) (fun it s₂ => LoopRun prog w A (.Name x px) (envOfC cn cs L a ccd) body Q it s₂) (fun _ _ => False) s := by
  refine wpAny_pyIter_tuple hD ?_
  obtain ⟨h1, h2⟩ := fr_new F
  have hne : D ≠ s.heap.objs.size := Nat.ne_of_lt (Heap.lt_size (N _ (.tail _ (.head _))).1)
  have hlt : ∀ q ∈ (c, oc) :: (D, oD) :: news, @Ne Nat q.1 s.heap.objs.size := fun q hq => Nat.ne_of_lt (Heap.lt_size (N q hq).1)
  refine cell_run (s := { s with heap := s.heap.push { cls := .type "tuple_iterator", data := .fields #[.ref D, .int 0 0] } }) (Walks.tuple (prog := prog) (w := w) hh s.heap.objs.size D hne items) (fun b hb => ?_) (fun i h st b hb => ?_) hc ⟨⟨_, Heap.get?_push_size _ rfl, rfl, rfl⟩, hD.push _⟩ (F.push _) (oc := oc) (news := news) (fun q hq => ?_) hcell (fun q hq => ⟨hlt q (.tail _ (.tail _ hq)), hoff q hq⟩) (hlt _ (.head _)) hcD J h0 (fun i v oc news₁ h tk ob ol hi hv hJ hoc hof F₁ N₁ => turn i v oc news₁ h tk _ ob ol hi hv hJ hoc hof (hlt _ (.head _)) F₁ N₁) done hk hx
  · simp only [List.mem_cons, List.not_mem_nil, or_false] at hb
    rcases hb with rfl | rfl
    · exact ⟨h1, h2⟩
    · exact (N _ (.tail _ (.head _))).2
  · simp only [List.mem_cons, List.not_mem_nil, or_false] at hb
    obtain ⟨⟨o1, e1, _⟩, ⟨o2, e2, _⟩⟩ := st
    rcases hb with rfl | rfl
    · exact ⟨o1, e1⟩
    · exact ⟨o2, e2⟩
  · have : q ∈ (c, oc) :: (D, oD) :: news := by
      rcases List.mem_cons.mp hq with rfl | hq
      · exact .head _
      · exact .tail _ (.tail _ hq)
    exact ⟨Heap.get?_push_of_some _ (N q this).1, (N q this).2⟩
end
def nth (p : Pt) (j : Int) : Int := (prow p).getD j.toNat 0
section
variable {prog : Program} {w : World} {A : Around} {E : Value → Shared → Prop} {s : Shared} {h₀ : Heap} {L : Addr} {m : Str → Option Value} {news : List (Addr × Obj)} {value slice : Expr} {Q : Value → Shared → Prop}
theorem item_nth {T : Addr} {o : Obj} {p : Pt} {u1 u2 u3 u4 u : Tok} {n : Nat} {j : Int} (N : News h₀ L s.heap news) (hm : (T, o) ∈ news) (hc : o.cls = .type "tuple") (hd : o.data = .seq #[.int p.1 u1, .int p.2.1 u2, .int p.2.2.1 u3, .int p.2.2.2 u4] n) (h0 : 0 ≤ j) (h4 : j < 4) (h : ∀ t, Q (.int (nth p j) t) s)
    (hs : subscripted slice false (.ref T) (.int j u) = operate [.ref T, .int j u] (getItem (.ref T) (.int j u)) := by with_unfolding_all rfl) (hg : ∀ r, letTemporaryGo value (.ref T) r = pure () := by intro _; with_unfolding_all rfl) :
    wpAny (model prog w) A (subscriptTail value slice (.ref T) (.int j u)) Q E s :=
  item_tuple_ints (vs := [.int p.1 u1, .int p.2.1 u2, .int p.2.2.1 u3, .int p.2.2.2 u4]) (ns := prow p) ⟨o, (N _ hm).1, hc, n, hd⟩ (.cons _ _ (.cons _ _ (.cons _ _ (.cons _ _ .nil)))) h0 (by show j < 4; exact h4) (by omega) h hs hg
theorem sum_N {l : Addr} {vs : List Value} {ns : List Int} (hh : A.handled = none) (F : Fr h₀ L s.heap m) (N : News h₀ L s.heap news) (hl : s.heap.IsList l vs.toArray) (hi : IntsAre vs ns)
    (h : ∀ h' (tk : Nat) t, Fr h₀ L h' m → News h₀ L h' news → Q (.int ns.sum t) { s with heap := h', toks := tk }) : wpAny (model prog w) A (call (.builtin "sum") [.ref l]) Q E s := by
  obtain ⟨xs, hxs⟩ := (hi.allInts).items
  have hnum := hi.numsOf
  have e1 : vs.toArray.toList = vs := rfl
  rw [← e1, hxs, nums_intItems] at hnum
  rw [hxs] at hl
  refine sum_intListG hh hl fun h' tk t' hk => ?_
  rw [preSum_eq, List.take_of_length_le (by simp), hnum]
  exact h h' tk t' (F.keeps hk) fun p hp => ⟨hk _ _ (N p hp).1, (N p hp).2⟩
end
section
variable {prog : Program} {w : World} {A : Around} {E : Value → Shared → Prop} {s : Shared} {h₀ : Heap} {L : Addr} {m : Str → Option Value} {news : List (Addr × Obj)} {Q : Value → Shared → Prop} {vs : List Value} {ns : List Int}
theorem set_S {l : Addr} (F : Fr h₀ L s.heap m) (N : News h₀ L s.heap news) (hh : A.handled = none) (hl : s.heap.IsList l vs.toArray) (hi : IntsAre vs ns) (hr : ∀ x ∈ ns, 0 ≤ x ∧ x < 32) (hn : ns.length ≤ 16)
    (h : ∀ (S : Addr) h' (tk : Nat) o, Fr h₀ L h' m → News h₀ L h' ((S, o) :: news) → SetOb w ns o → (∀ q ∈ news, @LT.lt Nat _ q.1 S) → Q (.ref S) { s with heap := h', toks := tk }) :
    wpAny (model prog w) A (call (.type "set") [.ref l]) Q E s :=
  set_N F N hh hl hi hr hn fun h' tk o F' N' hS hlt _ => h _ h' tk o F' N' hS hlt
end
theorem CellTurn.mk {h₀ : Heap} {L : Addr} {m : Str → Option Value} {s : Shared} {c : Addr} {z1 z2 : Addr × Obj} {J : List (Addr × Obj) → Prop} {h' : Heap} {tk' : Nat} {oc' : Obj} {v' : Option Value} {news' : List (Addr × Obj)}
    (F : Fr h₀ L h' m) (N : News h₀ L h' ((c, oc') :: z1 :: z2 :: news')) (hd : oc'.data = .cell v') (ho : ∀ q ∈ news', @Ne Nat q.1 z1.1 ∧ @Ne Nat q.1 z2.1 ∧ @Ne Nat q.1 c) (hJ : J news') :
    CellTurn h₀ L m s c z1 z2 J .next { s with heap := h', toks := tk' } := ⟨rfl, h', tk', oc', v', news', rfl, F, N, hd, ho, hJ⟩
theorem sumL_snoc {α : Type} (l : List α) (x : α) (f : α → Int) : sumL (l ++ [x]) f = sumL l f + f x := by
  induction l with
  | nil => show f x + 0 = 0 + f x; omega
  | cons y r ih => show f y + sumL (r ++ [x]) f = f y + sumL r f + f x; rw [ih]; omega
theorem bal {ps cs : List Pt} (T : Tiling 8 16 ps) (hcs : cs.Perm ps) {kk y : Int} (hk : kk = 0 ∨ kk = 1) {p : Pt} (hp : p ∈ cs) (hy : nth p kk = y) (h0 : 0 < y) :
    sumL cs (fun p => if nth p kk = y then nth p (3 - kk) - nth p (1 - kk) else 0) = sumL cs (fun p => if nth p (kk + 2) = y then nth p (3 - kk) - nth p (1 - kk) else 0) := by
  rw [sumL_perm hcs, sumL_perm hcs]
  have hb := T.box p (hcs.mem_iff.mp hp)
  rcases hk with rfl | rfl
  · refine T.balance h0 ?_ (by decide)
    rw [← hy]; show p.1 < 8; omega
  · have := T.tr.balance (y := y) h0 (by rw [← hy]; show p.2.1 < 16; omega) (by decide)
    rw [sumL_map, sumL_map] at this
    exact this
end Mine
end LWi_part
section LWj_part
open PySem PySem.W PyProof.Rows PySem.Calls
namespace Mine
local macro_rules | `(tactic| walk_at "zz0") => `(tactic| fail)
local macro_rules | `(tactic| walk_at "zz1") => `(tactic| fail)
local macro_rules | `(tactic| walk_at "zz2") => `(tactic| fail)
local macro_rules | `(tactic| walk_at "zz3") => `(tactic| fail)
local macro_rules | `(tactic| walk_at "zz4") => `(tactic| fail)
local macro_rules | `(tactic| walk_at "zz5") => `(tactic| fail)
local macro_rules | `(tactic| walk_at "zz6") => `(tactic| fail)
local macro_rules | `(tactic| walk_at "zz7") => `(tactic| fail)
local macro_rules | `(tactic| walk_at "zz8") => `(tactic| fail)
local macro_rules | `(tactic| walk_at "zz9") => `(tactic| fail)
local macro_rules | `(tactic| walk_at "zz10") => `(tactic| fail)
local macro_rules | `(tactic| walk_at "zz11") => `(tactic| fail)
local macro_rules | `(tactic| walk_at "zz12") => `(tactic| fail)
local macro_rules | `(tactic| walk_at "zz13") => `(tactic| fail)
local macro_rules | `(tactic| walk_at "zz14") => `(tactic| fail)
local macro_rules | `(tactic| walk_at "zz15") => `(tactic| fail)
local macro_rules | `(tactic| walk_at "zz16") => `(tactic| fail)
local macro_rules | `(tactic| walk_at "zz17") => `(tactic| fail)
local macro_rules | `(tactic| walk_at "zz18") => `(tactic| fail)
local macro_rules | `(tactic| walk_at "zz19") => `(tactic| fail)
local macro_rules | `(tactic| walk_at "zz20") => `(tactic| fail)
local macro_rules | `(tactic| walk_at "zz21") => `(tactic| fail)
local macro_rules | `(tactic| walk_at "zz22") => `(tactic| fail)
local macro_rules | `(tactic| walk_at "zz23") => `(tactic| fail)
local macro_rules | `(tactic| walk_at "zz24") => `(tactic| fail)
local macro_rules | `(tactic| walk_at "zz25") => `(tactic| fail)
local macro_rules | `(tactic| walk_at "zz26") => `(tactic| fail)
local macro_rules | `(tactic| walk_at "zz27") => `(tactic| fail)
local macro_rules | `(tactic| walk_at "zz28") => `(tactic| fail)
local macro_rules | `(tactic| walk_at "zz29") => `(tactic| fail)
local macro_rules | `(tactic| k_all) => `(tactic| assumption)
local macro_rules | `(tactic| walk_at "pyIter ref") => `(tactic| refine Hold.of ?_)
local macro_rules | `(tactic| walk_at "call ref") => `(tactic| refine Hold.of ?_)
local macro_rules | `(tactic| walk_at "exec For") => `(tactic| (with_unfolding_all refine' For_run ?_))
local macro_rules | `(tactic| walk_at "exec For Name Call cons nil") => `(tactic| (with_unfolding_all refine' For_run ?_))
local macro_rules | `(tactic| walk_at "exec For Tuple Call cons nil") => `(tactic| (with_unfolding_all refine' For_run ?_))
local macro_rules | `(tactic| walk_at "getAttr ref") => `(tactic| (k_dflt (refine' get_own ?k1 ?k2 (inst_up ?k3 (Fr.keep ?k1)) ?k4 ?k5 ?k6 ?k7 ?k8 ?k9 ?_; (case k1 => k_asm); (case k2 => k_asm); (case k3 => k_asm); (case k4 => k_is); (case k5 => k_is); (case k6 => k_is); (case k7 => k_is); (case k8 => k_asm); (case k9 => k_handed); k_whole)))
local macro_rules | `(tactic| walk_at "eval Name") => `(tactic| ((with_reducible show wpAny _ _ (eval _ (envOfC _ _ _ _ _)) _ _ _); k_dflt (refine' nameX_L ?F ?v ?_ ?a ?b ?d; (case F => k_asm); (case v => rfl); (case a => kernel_rfl); (case b => kernel_rfl); (case d => kernel_rfl); k_whole)))
local macro_rules | `(tactic| walk_at "eval Name") => `(tactic| ((with_reducible show wpAny _ _ (eval _ (envOf _ _ _ _ _)) _ _ _); k_dflt (refine' ld ?k1 ?k2 ?_ ?k3 ?k4 ?k5; (case k1 => k_asm); (case k2 => exact rfl); (case k3 => kernel_rfl); (case k4 => kernel_rfl); (case k5 => kernel_rfl); k_whole)))
local macro_rules | `(tactic| walk_at "Turned") => `(tactic| first | refine Turned.ret ?_ | refine Turned.brk ?_)
local macro_rules | `(tactic| walk_at "go") => `(tactic| repeat' (first | (k_unfold; (try dsimp only)) | walk1 | (dsimp only; walk1) | (dsimp only; k_unfold; (try dsimp only))))
local macro_rules | `(tactic| walk_at "kf") => `(tactic| ((with_reducible show wpAny _ _ _ _ _ _); k_fold))
local macro_rules | `(tactic| walk_at "locals") => `(tactic| (intro y h1 h2; simp only [List.mem_cons, List.not_mem_nil, or_false, not_or] at h1 h2; simp [h1, h2]))
local macro_rules | `(tactic| walk_at "eval ListComp") => `(tactic| (k_dflt (refine ListComp_runF (by k_asm) (by with_unfolding_all rfl) (by rfl) (by decide) ?_)))
local macro_rules | `(tactic| walk_at "exec Assign cons ListComp") => `(tactic| (k_dflt (refine Assign_ListComp_runF (by k_asm) (by with_unfolding_all rfl) (by with_unfolding_all rfl) (by rfl) (by decide) (by rfl) (by rfl) (by rfl) ?_)))
local macro_rules | `(tactic| walk_at "sub") => `(tactic| first | exact List.forall_mem_nil _ | refine List.forall_mem_cons.mpr ⟨by k_mem, by walk_at "sub"⟩)
local macro_rules | `(tactic| walk_at "hnd1") => `(tactic| first | exact apart_nil | refine apart_cons (by k_ne) (by walk_at "hnd1"))
local macro_rules | `(tactic| walk_at "hnd2") => `(tactic| first | exact Apart.nil | refine Apart.cons (by walk_at "hnd1") (by walk_at "hnd2"))
local macro_rules | `(tactic| walk_at "hnd") => `(tactic| exact Apart.nd (by walk_at "hnd2"))
local macro_rules | `(tactic| k_ne) => `(tactic| first | exact NE.out (by assumption) | exact NE.flip (by assumption) | (refine neN ?_; (try dsimp only); omega))
local macro_rules | `(tactic| walk_at "mem") => `(tactic| first | exact List.Mem.head _ | (refine List.Mem.tail _ ?_; walk_at "mem"))
local macro_rules | `(tactic| walk_at "exec For Name Tuple cons nil") => `(tactic| (with_unfolding_all refine' For_run ?_))
local macro_rules | `(tactic| walk_at "exec For Name Tuple") => `(tactic| (with_unfolding_all refine' For_run ?_))
local macro_rules | `(tactic| walk_at "eval Name") => `(tactic| ((with_reducible show wpAny _ _ (eval _ (compEnvC _ _ _ _)) _ _ _); k_dflt (refine' nameCG_B ?F ?X ?T ?e ?v ?n ?_ ?a ?b ?c ?d ?g; (case F => k_asm); (case X => k_asm); (case T => k_asm); (case a => rfl); (case b => rfl); (case c => rfl); (case d => rfl); (case g => decide); (case e => k_is); (case v => boot_fast); (case n => decide); k_whole)))
local macro_rules | `(tactic| walk_at "lst") => `(tactic| first | exact lst_up (by assumption) (Fr.keep (by k_asm)) | exact lst_news (by k_asm) (by k_mem))
local macro_rules | `(tactic| walk_at "subscriptTail Name Name ref int") => `(tactic| (k_dflt (refine' item_nth ?N ?m ?c ?d ?a ?b ?_; (case N => k_asm); (case m => k_mem); (case c => assumption); (case d => assumption); (case a => omega); (case b => omega); k_whole); intro _))
local macro_rules | `(tactic| walk_at "subscriptTail Name BinOp ref int") => `(tactic| (k_dflt (refine' item_nth ?N ?m ?c ?d ?a ?b ?_; (case N => k_asm); (case m => k_mem); (case c => assumption); (case d => assumption); (case a => omega); (case b => omega); k_whole); intro _))
local macro_rules | `(tactic| walk_at "call type:set") => `(tactic| refine Hold.of ?_)
local macro_rules | `(tactic| walk_at "call builtin:sorted") => `(tactic| refine Hold.of ?_)
local macro_rules | `(tactic| walk_at "call builtin:sum") => `(tactic| refine Hold.of ?_)
set_option maxHeartbeats 1600000 in
theorem st6 {prog : Program} {w : World} {A : Around} {s s' : Shared} {g : Heap} {L fa : Addr} {cd : Value} {mg mb : Str → Option Value} {p : Program} {loose : List Str} {Q : Flow → Shared → Prop}
   (X : (hd.heap_39 w.params).In g) (T : TopRead p loose mg mb g) (hA : A.handled = none) (hAd : A.depth ≤ 800) (hAu : A.units ≤ 4000) (hP : PW 8 16 g L s s')
   (k : ∀ s', PW 8 16 g L s s' → wpAny (model prog w) A (execs (lawBody.drop 7) (lawEnv L fa cd)) Q (fun _ _ => False) s') :
   wpAny (model prog w) A (execs (lawBody.drop 6) (lawEnv L fa cd)) Q (fun _ _ => False) s' := by
  refine seg_step (PW 8 16 g L s) ?_ k
  unfold lawEnv
  obtain ⟨m, o1, o2, o3, o4, rl, rv, rc, cl, cv, cc, tps, rows, wy, t, G, ps, ⟨h, tk, rfl, F, N⟩, hw, hmc, hw1, hw7, h3, hrv, ⟨x2, h2⟩, ⟨x4, h4⟩, hcv, hperm, hTl, D, hps2, hps13, hA4, hA5, hA6⟩ := hP
  obtain ⟨cs, rfl, hcs⟩ := prows_of hperm
  have hcsl : cs.length = ps.length := hcs.length_eq
  have hcl : cv.length = ps.length := by rw [hcv.1, List.length_map]; exact hcsl
  rw [map_knows hmc] at F
  repeat' (first | (k_unfold; (try dsimp only)) | (walk1; (try dsimp only)))
  rename Fr _ _ _ _ => F'
  rename News _ _ _ _ => N'
  rename (@LT.lt Nat _ _ _) ∧ _ => l7
  rename_i T6 h6
  obtain ⟨l71, l72, l73, l74, l75, l76, l77⟩ := l7
  refine Hold.out ?_
  have hoff : ∀ q ∈ (L + 1 + 1 + 1 + 1, o4) :: (cl, listOf (List.toArray cv) cc) :: (rl, listOf (List.toArray rv) rc) :: (L + 1 + 1 + 1, o3) :: (L + 1, o1) :: tps, @Ne Nat q.1 T6 ∧ @Ne Nat q.1 (L + 1 + 1) := fun q hq => by
    simp only [List.mem_cons] at hq
    rcases hq with e | e | e | e | e | hq
    · rw [e]; exact ⟨Nat.ne_of_lt l73, by show @Ne Nat _ _; simp only; omega⟩
    · rw [e]; exact ⟨Nat.ne_of_lt l71, hA5.a2⟩
    · rw [e]; exact ⟨Nat.ne_of_lt l72, hA4.a2⟩
    · rw [e]; exact ⟨Nat.ne_of_lt l74, by show @Ne Nat _ _; simp only; omega⟩
    · rw [e]; exact ⟨Nat.ne_of_lt l76, by show @Ne Nat _ _; simp only; omega⟩
    · exact ⟨Nat.ne_of_lt (allLt_to l77 q hq), (hA6 q hq).a2⟩
  have N6 : News g L h6 ((L + 1 + 1, o2) :: (T6, tupOf [.int 0 tk, .int 1 (tk + 1)]) :: (L + 1 + 1 + 1 + 1, o4) :: (cl, listOf (List.toArray cv) cc) :: (rl, listOf (List.toArray rv) rc) :: (L + 1 + 1 + 1, o3) :: (L + 1, o1) :: tps) := news_sub N' fun q hq => by
    simp only [List.mem_cons] at hq ⊢
    rcases hq with e | e | e | e | e | e | e | e
    all_goals first | (simp only [e, true_or, or_true]; done) | (rw [e]; exact .inl rfl)
  refine cell_tuple (c := L + 1 + 1) (oc := o2) (D := T6) (news := (L + 1 + 1 + 1 + 1, o4) :: (cl, listOf (List.toArray cv) cc) :: (rl, listOf (List.toArray rv) rc) :: (L + 1 + 1 + 1, o3) :: (L + 1, o1) :: tps) hA F' N6 (News.isTup N6 (.tail _ (.head _))) h2 rfl (Nat.ne_of_lt l75) hoff (fun i news₁ => ∃ o4' x4', o4'.data = .cell x4' ∧ news₁ = (L + 1 + 1 + 1 + 1, o4') :: (cl, listOf (List.toArray cv) cc) :: (rl, listOf (List.toArray rv) rc) :: (L + 1 + 1 + 1, o3) :: (L + 1, o1) :: tps) ⟨o4, x4, h4, rfl⟩ ?_ ?_
  · rintro i v ock news₁ h tk₁ I ob ol hi hv ⟨o4', x4', h4', rfl⟩ hock hof hcI F₁ N₁
    obtain ⟨kk, tkk, rfl, hkk⟩ : ∃ kk t, v = .int kk t ∧ (kk = 0 ∨ kk = 1) := by
      have : i = 0 ∨ i = 1 := by
        have h2 : i < 2 := hi
        omega
      rcases this with rfl | rfl
      · exact ⟨0, _, (Option.some.inj hv).symm, .inl rfl⟩
      · exact ⟨1, _, (Option.some.inj hv).symm, .inr rfl⟩
    have hkk0 : 0 ≤ kk := by omega
    have hkk1 : kk ≤ 1 := by omega
    clear F' N' N6 l71 l72 l73 l74 l75 l76 l77
    walk_at "kf"
    repeat' (first | (k_unfold; (try dsimp only)) | (walk1; (try dsimp only)))
    refine Hold.out ?_
    refine list_compS (items := List.toArray cv) (fun i ys => ∃ ns : List Int, IntsAre ys ns ∧ ns.length ≤ i ∧ ∀ x ∈ ns, 0 < x ∧ ∃ p ∈ cs, nth p kk = x) hA (.inr ⟨_, .tail _ (.tail _ (.tail _ (.tail _ (.head _)))), rfl, _, rfl⟩) (by rw [List.size_toArray, sizeLine_eq]; omega) F₁ N₁ ⟨[], .nil, Nat.le_refl _, fun _ h => nomatch h⟩ ?_ ?_
    · rintro j v zs h tk₂ I3 ob3 C3 oC3 D3 m₃ E3 hj hjv ⟨ns, hI, hnl, hns'⟩ hns hx hIC hID hCD hoff3 F₃ N₃
      rw [List.size_toArray] at hj
      obtain ⟨Ta, oT, nT, q, w1, w2, w3, w4, hTv, hTm, hTc, hTd, hq⟩ := hcv.tupAt (i := j) (by omega)
      obtain rfl : v = .ref Ta := Option.some.inj (hjv.symm.trans hTv)
      have hqc : q ∈ cs := List.mem_of_getElem? hq
      have N8 : News g L h ((Ta, oT) :: (I3, ob3) :: (C3, oC3) :: (D3, LCg.lst zs) :: (L + 1 + 1, ock) :: (I, ob) :: (T6, ol) :: (L + 1 + 1 + 1 + 1, o4') :: (cl, listOf (List.toArray cv) cc) :: (rl, listOf (List.toArray rv) rc) :: (L + 1 + 1 + 1, o3) :: (L + 1, o1) :: tps) := fun z hz => by
        rcases List.mem_cons.mp hz with rfl | hz
        · exact N₃ _ (by simp only [List.mem_cons, hTm, or_true])
        · exact N₃ z hz
      refine CBody.one ?_
      clear F₁ N₁ N₃
      walk_at "kf"
      repeat' (first | (k_unfold; (try dsimp only)) | (walk1; (try dsimp only)))
      · refine CEnd.intro F₃ (news' := []) (news_sub N8 fun z hz => .tail _ (by rw [List.append_nil] at hz; exact hz)) (fun _ h => nomatch h) ⟨ns ++ [nth q kk], ksk_snoc hI, by rw [List.length_append, List.length_singleton]; omega, fun x hx => ?_⟩
        rcases List.mem_append.mp hx with hx | hx
        · exact hns' x hx
        · rw [List.mem_singleton.mp hx]
          exact ⟨by assumption, q, hqc, rfl⟩
      · exact CEnd.intro F₃ (news' := []) (news_sub N8 fun z hz => .tail _ (by rw [List.append_nil] at hz; exact hz)) (fun _ h => nomatch h) ⟨ns, hI, by omega, hns'⟩
    · rintro zs h ⟨ns, hI, hnl, hns'⟩ D3 h' tk' F₃ N₃ off3
      rw [List.size_toArray] at hnl
      change News g _ h' ((D3, listOf (List.toArray zs) zs.length) :: _) at N₃
      rw [List.append_nil] at N₃
      clear F₁ N₁
      repeat' (first | (k_unfold; (try dsimp only)) | (walk1; (try dsimp only)))
      have hnr : ∀ p ∈ cs, nth p kk < 32 := fun p hp => by
        have hb := hTl.box p (hcs.mem_iff.mp hp)
        rcases hkk with rfl | rfl
        · show p.1 < 32; omega
        · show p.2.1 < 32; omega
      refine Hold.out (set_S F₃ N₃ hA (lst_news N₃ (.head _)) hI (fun x hx => ?_) (by omega) fun S5 h5 tk5 oS F₅ N₅ hSO hlt5 => ?_)
      · obtain ⟨hx0, p, hp, rfl⟩ := hns' x hx
        exact ⟨by omega, hnr p hp⟩
      clear F₃ N₃
      repeat' (first | (k_unfold; (try dsimp only)) | (walk1; (try dsimp only)))
      refine Hold.out (sorted_set hA F₅ N₅ (.head _) hSO fun D6 vs6 ns6 c6 h6' tk6 F₆ N₆ hlt6 hI6 hmem6 hlen6 => ?_)
      clear F₅ N₅
      repeat' (first | (k_unfold; (try dsimp only)) | (walk1; (try dsimp only)))
      refine Hold.out ?_
      have hbase : ∀ q ∈ (L + 1 + 1, ock) :: (I, ob) :: (T6, ol) :: (cl, listOf (List.toArray cv) cc) :: (rl, listOf (List.toArray rv) rc) :: (L + 1 + 1 + 1, o3) :: (L + 1, o1) :: tps, @Ne Nat q.1 D6 ∧ @Ne Nat q.1 (L + 1 + 1 + 1 + 1) := fun q hq => by
        refine ⟨Nat.ne_of_lt (hlt6 q (by simp only [List.mem_cons] at hq ⊢; rcases hq with e | e | e | e | e | e | e | e <;> simp only [e, true_or, or_true])), ?_⟩
        have h41 := hof (L + 1 + 1 + 1 + 1, o4') (.head _)
        simp only [List.mem_cons] at hq
        rcases hq with e | e | e | e | e | e | e | hq
        · rw [e]; show @Ne Nat _ _; simp only; omega
        · rw [e]; exact Ne.symm h41.1
        · rw [e]; exact Ne.symm h41.2.1
        · rw [e]; exact hA5.a4
        · rw [e]; exact hA4.a4
        · rw [e]; show @Ne Nat _ _; simp only; omega
        · rw [e]; show @Ne Nat _ _; simp only; omega
        · exact (hA6 q hq).a4
      refine cell_list (c := L + 1 + 1 + 1 + 1) (oc := o4') (D := D6) (oD := listOf (List.toArray vs6) c6) (items := List.toArray vs6) (news := (L + 1 + 1, ock) :: (I, ob) :: (T6, ol) :: (cl, listOf (List.toArray cv) cc) :: (rl, listOf (List.toArray rv) rc) :: (L + 1 + 1 + 1, o3) :: (L + 1, o1) :: tps) hA F₆ (news_sub N₆ fun q hq => ?_) (lst_news N₆ (.head _)) h4' rfl (Nat.ne_of_lt (hlt6 (L + 1 + 1 + 1 + 1, o4') (by walk_at "mem"))) hbase (fun i news₁ => news₁ = (L + 1 + 1, ock) :: (I, ob) :: (T6, ol) :: (cl, listOf (List.toArray cv) cc) :: (rl, listOf (List.toArray rv) rc) :: (L + 1 + 1 + 1, o3) :: (L + 1, o1) :: tps) rfl ?_ ?_
      · simp only [List.mem_cons] at hq ⊢
        rcases hq with e | e | e | e | e | e | e | e | e | e <;> simp only [e, true_or, or_true]
      · rintro i6 v6 oc6 news₂ h7 tk7 I7 ob7 ol7 hi6 hv6 rfl hoc6 hof6 hcI7 F₇ N₇
        rw [List.size_toArray] at hi6
        obtain ⟨ty, rfl⟩ := ints_at hI6 i6 v6 (by simpa using hv6)
        have hym : ns6.getD i6 0 ∈ ns6 := by
          have hl6 := hI6.length
          rw [List.getD_eq_getElem?_getD, List.getElem?_eq_getElem (by omega)]; exact List.getElem_mem _
        obtain ⟨hy0, p0, hp0, hyp⟩ := hns' _ (hmem6 _ hym)
        generalize ns6.getD i6 0 = y at hoc6 hv6 hy0 hyp hym
        have hbal := bal hTl hcs hkk hp0 hyp hy0
        clear F₆ N₆ hlt6
        walk_at "kf"
        repeat' (first | (k_unfold; (try dsimp only)) | (walk1; (try dsimp only)))
        refine Hold.out ?_
        refine list_compS (items := List.toArray cv) (fun i ys => ∃ ns : List Int, IntsAre ys ns ∧ ns.sum = sumL (cs.take i) (fun p : Pt => if nth p kk = y then nth p (3 - kk) - nth p (1 - kk) else 0)) hA (.inr ⟨_, .tail _ (.tail _ (.tail _ (.tail _ (.tail _ (.tail _ (.head _)))))), rfl, _, rfl⟩) (by rw [List.size_toArray, sizeLine_eq]; omega) F₇ N₇ ⟨[], .nil, rfl⟩ ?_ ?_
        · rintro j v zs h tk₂ I3 ob3 C3 oC3 D3 m₃ E3 hj hjv ⟨ns, hI, hsum⟩ hns hx hIC hID hCD hoff3 F₃ N₃
          rw [List.size_toArray] at hj
          obtain ⟨Ta, oT, nT, q, w1, w2, w3, w4, hTv, hTm, hTc, hTd, hq⟩ := hcv.tupAt (i := j) (by omega)
          obtain rfl : v = .ref Ta := Option.some.inj (hjv.symm.trans hTv)
          have N8 : News g L h ((Ta, oT) :: (I3, ob3) :: (C3, oC3) :: (D3, LCg.lst zs) :: (L + 1 + 1 + 1 + 1, oc6) :: (I7, ob7) :: (D6, ol7) :: (L + 1 + 1, ock) :: (I, ob) :: (T6, ol) :: (cl, listOf (List.toArray cv) cc) :: (rl, listOf (List.toArray rv) rc) :: (L + 1 + 1 + 1, o3) :: (L + 1, o1) :: tps) := fun z hz => by
            rcases List.mem_cons.mp hz with rfl | hz
            · exact N₃ _ (by simp only [List.mem_cons, hTm, or_true])
            · exact N₃ z hz
          have htk : cs.take (j + 1) = cs.take j ++ [q] := take_snocG hq
          refine CBody.one ?_
          clear F₇ N₇ N₃
          walk_at "kf"
          repeat' (first | (k_unfold; (try dsimp only)) | (walk1; (try dsimp only)))
          · refine CEnd.intro F₃ (news' := []) (news_sub N8 fun z hz => .tail _ (by rw [List.append_nil] at hz; exact hz)) (fun _ h => nomatch h) ⟨ns ++ [_], ksk_snoc hI, ?_⟩
            rw [List.sum_append, htk, sumL_snoc, hsum, if_pos (by assumption)]
            simp
          · refine CEnd.intro F₃ (news' := []) (news_sub N8 fun z hz => .tail _ (by rw [List.append_nil] at hz; exact hz)) (fun _ h => nomatch h) ⟨ns, hI, ?_⟩
            rw [htk, sumL_snoc, hsum, if_neg (by assumption)]
            omega
        rintro zs1 h ⟨zn1, hI1, hsum1⟩ E1 h' tk' G1 M1 off
        rw [List.size_toArray, show cv.length = cs.length by omega, List.take_length] at hsum1
        change News g _ h' ((E1, listOf (List.toArray zs1) zs1.length) :: _) at M1
        rw [List.append_nil] at M1
        clear F₇ N₇ off
        repeat' (first | (k_unfold; (try dsimp only)) | (walk1; (try dsimp only)))
        refine Hold.out (sum_N hA G1 M1 (lst_news M1 (.head _)) hI1 fun h8 tk8 t8 H1 K1 => ?_)
        rw [hsum1]
        clear G1 M1
        repeat' (first | (k_unfold; (try dsimp only)) | (walk1; (try dsimp only)))
        refine Hold.out ?_
        refine list_compS (items := List.toArray cv) (fun i ys => ∃ ns : List Int, IntsAre ys ns ∧ ns.sum = sumL (cs.take i) (fun p : Pt => if nth p (kk + 2) = y then nth p (3 - kk) - nth p (1 - kk) else 0)) hA (.inr ⟨_, .tail _ (.tail _ (.tail _ (.tail _ (.tail _ (.tail _ (.tail _ (.head _))))))), rfl, _, rfl⟩) (by rw [List.size_toArray, sizeLine_eq]; omega) H1 K1 ⟨[], .nil, rfl⟩ ?_ ?_
        · rintro j v zs h tk₂ I3 ob3 C3 oC3 D3 m₃ E3 hj hjv ⟨ns, hI, hsum⟩ hns hx hIC hID hCD hoff3 F₃ N₃
          rw [List.size_toArray] at hj
          obtain ⟨Ta, oT, nT, q, w1, w2, w3, w4, hTv, hTm, hTc, hTd, hq⟩ := hcv.tupAt (i := j) (by omega)
          obtain rfl : v = .ref Ta := Option.some.inj (hjv.symm.trans hTv)
          have N8 : News g L h ((Ta, oT) :: (I3, ob3) :: (C3, oC3) :: (D3, LCg.lst zs) :: (E1, listOf (List.toArray zs1) zs1.length) :: (L + 1 + 1 + 1 + 1, oc6) :: (I7, ob7) :: (D6, ol7) :: (L + 1 + 1, ock) :: (I, ob) :: (T6, ol) :: (cl, listOf (List.toArray cv) cc) :: (rl, listOf (List.toArray rv) rc) :: (L + 1 + 1 + 1, o3) :: (L + 1, o1) :: tps) := fun z hz => by
            rcases List.mem_cons.mp hz with rfl | hz
            · exact N₃ _ (by simp only [List.mem_cons, hTm, or_true])
            · exact N₃ z hz
          have htk : cs.take (j + 1) = cs.take j ++ [q] := take_snocG hq
          refine CBody.one ?_
          clear H1 K1 N₃
          walk_at "kf"
          repeat' (first | (k_unfold; (try dsimp only)) | (walk1; (try dsimp only)))
          · refine CEnd.intro F₃ (news' := []) (news_sub N8 fun z hz => .tail _ (by rw [List.append_nil] at hz; exact hz)) (fun _ h => nomatch h) ⟨ns ++ [_], ksk_snoc hI, ?_⟩
            rw [List.sum_append, htk, sumL_snoc, hsum, if_pos (by assumption)]
            simp
          · refine CEnd.intro F₃ (news' := []) (news_sub N8 fun z hz => .tail _ (by rw [List.append_nil] at hz; exact hz)) (fun _ h => nomatch h) ⟨ns, hI, ?_⟩
            rw [htk, sumL_snoc, hsum, if_neg (by assumption)]
            omega
        rintro zs2 h ⟨zn2, hI2, hsum2⟩ E2 h' tk' G2 M2 off
        rw [List.size_toArray, show cv.length = cs.length by omega, List.take_length] at hsum2
        change News g _ h' ((E2, listOf (List.toArray zs2) zs2.length) :: _) at M2
        rw [List.append_nil] at M2
        clear H1 K1 off
        repeat' (first | (k_unfold; (try dsimp only)) | (walk1; (try dsimp only)))
        refine Hold.out (sum_N hA G2 M2 (lst_news M2 (.head _)) hI2 fun h8 tk8 t8 H2 K2 => ?_)
        rw [hsum2]
        clear G2 M2
        repeat' (first | (k_unfold; (try dsimp only)) | (walk1; (try dsimp only)))
        · rename _ ≠ _ => hne
          exact absurd hbal hne
        refine CellTurn.mk (news' := (L + 1 + 1, ock) :: (I, ob) :: (T6, ol) :: (cl, listOf (List.toArray cv) cc) :: (rl, listOf (List.toArray rv) rc) :: (L + 1 + 1 + 1, o3) :: (L + 1, o1) :: tps) H2 (news_sub K2 fun z hz => .tail _ (.tail _ hz)) hoc6 (fun z hz => ?_) rfl
        exact hof6 z hz
      · rintro oc6 v6 news₂ h7 tk7 hoc6 rfl - F₇ N₇
        clear F₆ N₆ hlt6
        repeat' (first | (k_unfold; (try dsimp only)) | (walk1; (try dsimp only)))
        have h41 := hof (L + 1 + 1 + 1 + 1, o4') (.head _)
        refine CellTurn.mk (news' := (L + 1 + 1 + 1 + 1, oc6) :: (cl, listOf (List.toArray cv) cc) :: (rl, listOf (List.toArray rv) rc) :: (L + 1 + 1 + 1, o3) :: (L + 1, o1) :: tps) F₇ (news_sub N₇ fun z hz => ?_) hock (fun z hz => ?_) ⟨oc6, v6, hoc6, rfl⟩
        · simp only [List.mem_cons] at hz ⊢
          rcases hz with e | e | e | e | e | e | e | e | e <;> simp only [e, true_or, or_true]
        · rcases List.mem_cons.mp hz with rfl | hz
          · exact h41
          · exact hof z (.tail _ hz)
  · rintro ock vk news₁ h tk₁ hock ⟨o4', x4', h4', rfl⟩ - F₁ N₁
    refine ⟨rfl, _, o1, ock, o3, o4', rl, rv, rc, cl, cv, cc, tps, cs.map prow, wy, t, G, ps, ⟨⟨_, _, rfl, F₁, news_sub N₁ fun z hz => ?_⟩⟩, ?_, rfl, hw1, hw7, h3, hrv, ⟨_, hock⟩, ⟨_, h4'⟩, hcv, hperm, hTl, D, hps2, hps13, hA4, hA5, hA6⟩
    · simp only [List.mem_cons] at hz ⊢
      rcases hz with e | e | e | e | e | e | e <;> simp only [e, true_or, or_true]
    · exact (if_neg (by decide)).trans hw
end Mine
end LWj_part
section LW7_part
open PySem PySem.W PyProof.Rows PySem.Calls
namespace Mine
local macro_rules | `(tactic| k_all) => `(tactic| assumption)
local macro_rules | `(tactic| walk_at "pyIter ref") => `(tactic| refine Hold.of ?_)
local macro_rules | `(tactic| walk_at "call ref") => `(tactic| refine Hold.of ?_)
local macro_rules | `(tactic| walk_at "exec For") => `(tactic| (with_unfolding_all refine' For_run ?_))
local macro_rules | `(tactic| walk_at "exec For Name Call cons nil") => `(tactic| (with_unfolding_all refine' For_run ?_))
local macro_rules | `(tactic| walk_at "exec For Tuple Call cons nil") => `(tactic| (with_unfolding_all refine' For_run ?_))
local macro_rules | `(tactic| walk_at "getAttr ref") => `(tactic| (k_dflt (refine' get_own ?k1 ?k2 (inst_up ?k3 (Fr.keep ?k1)) ?k4 ?k5 ?k6 ?k7 ?k8 ?k9 ?_; (case k1 => k_asm); (case k2 => k_asm); (case k3 => k_asm); (case k4 => k_is); (case k5 => k_is); (case k6 => k_is); (case k7 => k_is); (case k8 => k_asm); (case k9 => k_handed); k_whole)))
local macro_rules | `(tactic| walk_at "eval Name") => `(tactic| ((with_reducible show wpAny _ _ (eval _ (envOfC _ _ _ _ _)) _ _ _); k_dflt (refine' nameX_L ?F ?v ?_ ?a ?b ?d; (case F => k_asm); (case v => rfl); (case a => kernel_rfl); (case b => kernel_rfl); (case d => kernel_rfl); k_whole)))
local macro_rules | `(tactic| walk_at "eval Name") => `(tactic| ((with_reducible show wpAny _ _ (eval _ (envOf _ _ _ _ _)) _ _ _); k_dflt (refine' ld ?k1 ?k2 ?_ ?k3 ?k4 ?k5; (case k1 => k_asm); (case k2 => exact rfl); (case k3 => kernel_rfl); (case k4 => kernel_rfl); (case k5 => kernel_rfl); k_whole)))
local macro_rules | `(tactic| walk_at "Turned") => `(tactic| first | refine Turned.ret ?_ | refine Turned.brk ?_)
local macro_rules | `(tactic| walk_at "go") => `(tactic| repeat' (first | (k_unfold; (try dsimp only)) | walk1 | (dsimp only; walk1) | (dsimp only; k_unfold; (try dsimp only))))
local macro_rules | `(tactic| walk_at "kf") => `(tactic| ((with_reducible show wpAny _ _ _ _ _ _); k_fold))
local macro_rules | `(tactic| walk_at "locals") => `(tactic| (intro y h1 h2; simp only [List.mem_cons, List.not_mem_nil, or_false, not_or] at h1 h2; simp [h1, h2]))
local macro_rules | `(tactic| walk_at "eval ListComp") => `(tactic| (k_dflt (refine ListComp_runF (by k_asm) (by with_unfolding_all rfl) (by rfl) (by decide) ?_)))
local macro_rules | `(tactic| walk_at "exec Assign cons ListComp") => `(tactic| (k_dflt (refine Assign_ListComp_runF (by k_asm) (by with_unfolding_all rfl) (by with_unfolding_all rfl) (by rfl) (by decide) (by rfl) (by rfl) (by rfl) ?_)))
local macro_rules | `(tactic| walk_at "sub") => `(tactic| first | exact List.forall_mem_nil _ | refine List.forall_mem_cons.mpr ⟨by k_mem, by walk_at "sub"⟩)
local macro_rules | `(tactic| walk_at "hnd1") => `(tactic| first | exact apart_nil | refine apart_cons (by k_ne) (by walk_at "hnd1"))
local macro_rules | `(tactic| walk_at "hnd2") => `(tactic| first | exact Apart.nil | refine Apart.cons (by walk_at "hnd1") (by walk_at "hnd2"))
local macro_rules | `(tactic| walk_at "hnd") => `(tactic| exact Apart.nd (by walk_at "hnd2"))
local macro_rules | `(tactic| k_ne) => `(tactic| first | exact NE.out (by assumption) | exact NE.flip (by assumption) | (refine neN ?_; (try dsimp only); omega))
local macro_rules | `(tactic| walk_at "mem") => `(tactic| first | exact List.Mem.head _ | (refine List.Mem.tail _ ?_; walk_at "mem"))
local macro_rules | `(tactic| walk_at "eval Name") => `(tactic| ((with_reducible show wpAny _ _ (eval _ (compEnvC _ _ _ _)) _ _ _); k_dflt (refine' nameCG_B ?F ?X ?T ?e ?v ?n ?_ ?a ?b ?c ?d ?g; (case F => k_asm); (case X => k_asm); (case T => k_asm); (case a => rfl); (case b => rfl); (case c => rfl); (case d => rfl); (case g => decide); (case e => k_is); (case v => boot_fast); (case n => decide); k_whole)))
local macro_rules | `(tactic| walk_at "lst") => `(tactic| first | exact lst_up (by assumption) (Fr.keep (by k_asm)) | exact lst_news (by k_asm) (by k_mem))
local macro_rules | `(tactic| walk_at "call builtin:str.join") => `(tactic| (refine join_list (by walk_at "lst") (by assumption) (by assumption) ?_; intro _ _))
local macro_rules | `(tactic| walk_at "subscriptTail Name BinOp str int") => `(tactic| (k_dflt (refine' item_tx ?a ?b ?c ?_; (case a => omega); (case b => omega); (case c => omega); k_whole); intro _ _))
local macro_rules | `(tactic| walk_at "storeName") => `(tactic| ((with_reducible show wpAny _ _ (storeName (envOfC _ _ _ _) _ _) _ _ _); k_dflt (refine' storeC_F ?F ?N ?c ?U ?d ?_ ?a ?b; (case a => rfl); (case b => rfl); (case F => k_asm); (case N => k_asm); (case c => rfl); (case U => k_updF); (case d => k_asm); k_whole); intro h' o' F' N' d'; (try dsimp only at N'); (try k_sweep)))
local macro_rules | `(tactic| walk_at "assign Tuple") => `(tactic| ((with_reducible show wpAny _ _ (assign (Expr.Tuple _ _ _) _ (Value.ref _)) _ _ _); k_dflt (refine' unpackN_ ?F ?N ?T ?k1 ?k2 ?k3 ?_; (case F => k_asm); (case N => k_asm); (case T => exact News.isTup (by k_asm) (by k_mem)); (case k1 => k_asm); (case k2 => exact rfl); (case k3 => exact rfl)); intro h' F' N'; (try k_sweep)))
set_option maxHeartbeats 800000 in
theorem st7 {prog : Program} {w : World} {A : Around} {s s' : Shared} {g : Heap} {L fa : Addr} {cd : Value} {mg mb : Str → Option Value} {p : Program} {loose : List Str} {Q : Flow → Shared → Prop}
   (X : (hd.heap_39 w.params).In g) (T : TopRead p loose mg mb g) (hA : A.handled = none) (hAd : A.depth ≤ 800) (hAu : A.units ≤ 4000) (hP : PW 8 16 g L s s')
   (k : ∀ s', PW 8 16 g L s s' → wpAny (model prog w) A (execs (lawBody.drop 8) (lawEnv L fa cd)) Q (fun _ _ => False) s') :
   wpAny (model prog w) A (execs (lawBody.drop 7) (lawEnv L fa cd)) Q (fun _ _ => False) s' := by
  refine seg_step (PW 8 16 g L s) ?_ k
  unfold lawEnv
  obtain ⟨m, o1, o2, o3, o4, rl, rv, rc, cl, cv, cc, tps, rows, wy, t, G, ps, ⟨h, tk, rfl, F, N⟩, hw, hmc, hw1, hw7, h3, hrv, ⟨x2, h2⟩, ⟨x4, h4⟩, hcv, hperm, hTl, D, hps2, hps13, hA4, hA5, hA6⟩ := hP
  have hcl : cv.length = ps.length := by rw [hcv.1, hperm.length_eq, List.length_map]
  rw [map_knows hmc, map_knows hw] at F
  repeat' (first | (k_unfold; (try dsimp only)) | (walk1; (try dsimp only)))
  · refine Hold.out ?_
    have hrvl : rv.length = G.length := by have := hrv.len_eq; rw [List.length_map] at this; exact this
    have hGl := D.hi
    refine list_compC (held := (cl, listOf (List.toArray cv) cc) :: (rl, listOf (List.toArray rv) rc) :: (L + 1 + 1 + 1 + 1, o4) :: (L + 1 + 1 + 1, o3) :: (L + 1 + 1, o2) :: (L + 1, o1) :: tps) (news := []) (fun i ys news' => news' = [] ∧ StrsAre ys ((List.range i).map fun (a : Nat) => tx ((List.range 17).map fun (b : Nat) => gch G a (16 - b)))) hA (.inr ⟨_, .tail _ (.head _), rfl, _, rfl⟩) (by rw [sizeLine_eq, List.size_toArray]; omega) F (by rw [List.append_nil]; exact N) (fun _ h => nomatch h) ⟨rfl, .nil⟩ ?_ ?_
    · rintro i v ys news₁ h tk I' ob C oC c oc DD m₂ E' hi hiv ⟨rfl, hJ'⟩ hns hoc hIc hCc hcD hIC hID hCD hoff - F₂ N₂
      rw [List.size_toArray] at hi
      have hin : i < G.length := by omega
      obtain ⟨t', rfl⟩ : ∃ t', v = .str (tx (G.getD i [])) t' := by
        have e : (G.map tx)[i]? = some (tx (G.getD i [])) := by simp [List.getD, hin]
        obtain ⟨t', ht⟩ := hrv.get _ _ e
        have hiv' : rv[i]? = some v := by simpa using hiv
        exact ⟨t', Option.some.inj (hiv'.symm.trans ht)⟩
      have N3 : News g L h ((I', ob) :: (C, oC) :: (c, oc) :: (DD, LCg.lst ys) :: (cl, listOf (List.toArray cv) cc) :: (rl, listOf (List.toArray rv) rc) :: (L + 1 + 1 + 1 + 1, o4) :: (L + 1 + 1 + 1, o3) :: (L + 1 + 1, o2) :: (L + 1, o1) :: tps) := news_sub N₂ fun q hq => by
        simp only [List.mem_append, List.mem_cons, List.cons_append, List.not_mem_nil, or_false] at hq ⊢
        rcases hq with e | e | e | e | e | e | e | e | e | e | e <;> simp only [e, true_or, or_true]
      refine CBody.nil ?_
      have hrl : (G.getD i []).length = 17 := by
        have := D.wid (G.getD i []) (by rw [List.getD_eq_getElem?_getD, List.getElem?_eq_getElem hin]; exact List.getElem_mem _); omega
      clear N₂ F N
      walk_at "kf"
      repeat' (first | (k_unfold; (try dsimp only)) | (walk1; (try dsimp only)))
      rename IsRange _ _ _ _ _ _ _ _ => Rg
      rename Fr _ _ _ _ => F'
      rename News _ _ _ _ => N'
      refine Hold.out ?_
      have hsz : Builtin.Range.rangeSize 0 17 1 = ((17 : Nat) : Int) := by rw [rangeSize_one]; rfl
      refine range_compS (fun j zs => StrsAre zs (((List.range j).map fun (b : Nat) => gch G i (16 - b)).map chr)) hA Rg (small_one (by omega) (by omega) (by omega) (by omega)) hsz (by rw [sizeLine_eq]; omega) F' N' .nil ?_ ?_
      · intro j t zs h tk I2 ob2 C2 oC2 DD2 m₂ E' hj hJ hns hx hIC hID hCD hoff F N
        rw [show (0 : Int) + (j : Int) * 1 = j by omega] at hx
        refine CBody.nil ?_
        clear F' N' Rg hsz
        walk_at "kf"
        repeat' (first | (k_unfold; (try dsimp only)) | (walk1; (try dsimp only)))
        refine CEnd.same F N (fun q hq => hq) hoff ?_
        rw [List.range_succ, List.map_append, List.map_append]
        exact kct_snoc hJ
      · intro zs h hJ DD3 h' tk' F N off
        change News g _ h' ((DD3, listOf (List.toArray zs) zs.length) :: _) at N
        clear F' N' Rg hsz
        have hfit := chrs_fit ((List.range 17).map fun (b : Nat) => gch G i (16 - b)) (by simp)
        repeat' (first | (k_unfold; (try dsimp only)) | (walk1; (try dsimp only)))
        refine CEnd.intro (news' := []) F (news_sub N fun q hq => ?_) (fun _ h => nomatch h) ⟨rfl, ?_⟩
        · simp only [List.mem_append, List.mem_cons, List.cons_append, List.not_mem_nil, or_false] at hq ⊢
          rcases hq with e | e | e | e | e | e | e | e | e | e | e <;> simp only [e, true_or, or_true]
        · rw [join_chr, range_map_snoc _ i]
          exact kct_snoc (y := tx ((List.range 17).map fun (b : Nat) => gch G i (16 - b))) hJ'
    · rintro ys news' h ⟨rfl, hJ⟩ D2 h' tk' F2 N2 off
      rw [List.size_toArray, hrvl] at hJ
      rw [List.append_nil] at N2 off
      change News g _ h' ((D2, listOf (List.toArray ys) ys.length) :: _) at N2
      clear F N
      repeat' (first | (k_unfold; (try dsimp only)) | (walk1; (try dsimp only)))
      refine Hold.out ?_
      obtain ⟨cs, rfl, hcs⟩ := prows_of hperm
      have hcsl : cs.length = ps.length := hcs.length_eq
      refine cells_comp (f := lrP 16) (cs := cs) (held := (D2, listOf (List.toArray ys) ys.length) :: (cl, listOf (List.toArray cv) cc) :: (rl, listOf (List.toArray rv) rc) :: (L + 1 + 1 + 1 + 1, o4) :: (L + 1 + 1 + 1, o3) :: (L + 1 + 1, o2) :: (L + 1, o1) :: tps) hA (.inr ⟨_, .tail _ (.head _), rfl, _, rfl⟩) hcv (fun q hq => by repeat (first | exact hq | refine .tail _ ?_)) (by omega) F2 N2 ?_ ?_
      · intro p u1 u2 u3 u4 zs h tk I3 ob3 C3 oC3 DD3 m₃ E3 rest hp hns hx1 hx2 hx3 hx4 hIC hID hCD F N
        clear F2 N2
        walk_at "kf"
        repeat' (first | (k_unfold; (try dsimp only)) | (walk1; (try dsimp only)))
        rename Fr _ _ _ _ => F'
        rename News _ _ _ _ => N'
        rename (@LT.lt Nat _ _ _) ∧ _ => l7
        exact ⟨_, _, _, _, _, _, _, rfl, rfl, F', N', l7⟩
      · rintro zs news' h hT hap D3 h' tk' F3 N3 off3
        change News g _ h' ((D3, listOf (List.toArray zs) zs.length) :: _) at N3
        have N4 : News g L h' ((D3, listOf (List.toArray zs) zs.length) :: (D2, listOf (List.toArray ys) ys.length) :: (L + 1 + 1 + 1 + 1, o4) :: (L + 1 + 1 + 1, o3) :: (L + 1 + 1, o2) :: (L + 1, o1) :: news') := news_sub N3 fun q hq => by
          simp only [List.mem_append, List.mem_cons, List.cons_append] at hq ⊢
          rcases hq with e | e | e | e | e | e | e <;> simp only [e, true_or, or_true]
        have hA7 : A4 L D3 := ⟨Ne.symm (off3 (L + 1, o1) (by walk_at "mem")), Ne.symm (off3 (L + 1 + 1, o2) (by walk_at "mem")), Ne.symm (off3 (L + 1 + 1 + 1, o3) (by walk_at "mem")), Ne.symm (off3 (L + 1 + 1 + 1 + 1, o4) (by walk_at "mem"))⟩
        have hA8 : A4 L D2 := ⟨Ne.symm (off (L + 1, o1) (by walk_at "mem")), Ne.symm (off (L + 1 + 1, o2) (by walk_at "mem")), Ne.symm (off (L + 1 + 1 + 1, o3) (by walk_at "mem")), Ne.symm (off (L + 1 + 1 + 1 + 1, o4) (by walk_at "mem"))⟩
        have q1 : NE D3 (L + 1 + 1 + 1) := ⟨hA7.a3⟩
        have q2 : NE D2 (L + 1 + 1 + 1) := ⟨hA8.a3⟩
        have hu : ∀ q ∈ (L + 1 + 1, o2) :: (L + 1, o1) :: news', q.1 ≠ L + 1 + 1 + 1 := fun q hq => by
          rcases List.mem_cons.mp hq with rfl | hq
          · show @Ne Nat _ _; simp only; omega
          rcases List.mem_cons.mp hq with rfl | hq
          · show @Ne Nat _ _; simp only; omega
          exact hap q hq (L + 1 + 1 + 1, o3) (by walk_at "mem")
        clear F2 N2 N3 off off3
        repeat' (first | (k_unfold; (try dsimp only)) | (walk1; (try dsimp only)))
        rename Fr _ _ _ _ => F'
        rename News _ _ _ _ => N'
        rename _ = Data.cell (some (Value.ref D2)) => d'
        have hG9 : (gridOf (fun i j => gch G i (16 - j)) 9 17).map tx = (List.range G.length).map fun (a : Nat) => tx ((List.range 17).map fun (b : Nat) => gch G a (16 - b)) := by
          unfold gridOf; rw [List.map_map, show G.length = 9 by omega]; rfl
        refine ⟨_, o1, o2, _, o4, D2, ys, ys.length, D3, zs, zs.length, news', (cs.map (lrP 16)).map prow, wy, t, gridOf (fun i j => gch G i (16 - j)) 9 17, ps.map (lrP 16), ⟨⟨_, _, rfl, F', news_sub N' fun z hz => ?_⟩⟩, rfl, rfl, hw1, hw7, d', by rw [hG9]; exact hJ, ⟨_, h2⟩, ⟨_, h4⟩, hT, (hcs.map _).map _, hTl.lr, D.lr rfl rfl, by rw [List.length_map]; exact hps2, by rw [List.length_map]; exact hps13, hA8, hA7, fun z hz => ?_⟩
        · simp only [List.mem_cons] at hz ⊢
          rcases hz with e | e | e | e | e | e | e <;> simp only [e, true_or, or_true]
        · exact ⟨hap z hz (L + 1, o1) (by walk_at "mem"), hap z hz (L + 1 + 1, o2) (by walk_at "mem"), hap z hz (L + 1 + 1 + 1, o3) (by walk_at "mem"), hap z hz (L + 1 + 1 + 1 + 1, o4) (by walk_at "mem")⟩
  · exact ⟨_, o1, o2, o3, o4, rl, rv, rc, cl, cv, cc, tps, rows, wy, t, G, ps, ⟨⟨_, _, rfl, F, N⟩⟩, rfl, rfl, hw1, hw7, h3, hrv, ⟨_, h2⟩, ⟨_, h4⟩, hcv, hperm, hTl, D, hps2, hps13, hA4, hA5, hA6⟩
end Mine
end LW7_part
section LW8_part
open PySem PySem.W PyProof.Rows PySem.Calls
namespace Mine
local macro_rules | `(tactic| walk_at "zz0") => `(tactic| fail)
local macro_rules | `(tactic| walk_at "zz1") => `(tactic| fail)
local macro_rules | `(tactic| walk_at "zz2") => `(tactic| fail)
local macro_rules | `(tactic| walk_at "zz3") => `(tactic| fail)
local macro_rules | `(tactic| walk_at "zz4") => `(tactic| fail)
local macro_rules | `(tactic| walk_at "zz5") => `(tactic| fail)
local macro_rules | `(tactic| walk_at "zz6") => `(tactic| fail)
local macro_rules | `(tactic| walk_at "zz7") => `(tactic| fail)
local macro_rules | `(tactic| walk_at "zz8") => `(tactic| fail)
local macro_rules | `(tactic| walk_at "zz9") => `(tactic| fail)
local macro_rules | `(tactic| walk_at "zz10") => `(tactic| fail)
local macro_rules | `(tactic| walk_at "zz11") => `(tactic| fail)
local macro_rules | `(tactic| walk_at "zz12") => `(tactic| fail)
local macro_rules | `(tactic| walk_at "zz13") => `(tactic| fail)
local macro_rules | `(tactic| walk_at "zz14") => `(tactic| fail)
local macro_rules | `(tactic| walk_at "zz15") => `(tactic| fail)
local macro_rules | `(tactic| walk_at "zz16") => `(tactic| fail)
local macro_rules | `(tactic| walk_at "zz17") => `(tactic| fail)
local macro_rules | `(tactic| walk_at "zz18") => `(tactic| fail)
local macro_rules | `(tactic| walk_at "zz19") => `(tactic| fail)
local macro_rules | `(tactic| walk_at "zz20") => `(tactic| fail)
local macro_rules | `(tactic| walk_at "zz21") => `(tactic| fail)
local macro_rules | `(tactic| walk_at "zz22") => `(tactic| fail)
local macro_rules | `(tactic| walk_at "zz23") => `(tactic| fail)
local macro_rules | `(tactic| walk_at "zz24") => `(tactic| fail)
local macro_rules | `(tactic| walk_at "zz25") => `(tactic| fail)
local macro_rules | `(tactic| walk_at "zz26") => `(tactic| fail)
local macro_rules | `(tactic| walk_at "zz27") => `(tactic| fail)
local macro_rules | `(tactic| walk_at "zz28") => `(tactic| fail)
local macro_rules | `(tactic| walk_at "zz29") => `(tactic| fail)
local macro_rules | `(tactic| k_all) => `(tactic| assumption)
local macro_rules | `(tactic| walk_at "pyIter ref") => `(tactic| refine Hold.of ?_)
local macro_rules | `(tactic| walk_at "call ref") => `(tactic| refine Hold.of ?_)
local macro_rules | `(tactic| walk_at "exec For") => `(tactic| (with_unfolding_all refine' For_run ?_))
local macro_rules | `(tactic| walk_at "exec For Name Call cons nil") => `(tactic| (with_unfolding_all refine' For_run ?_))
local macro_rules | `(tactic| walk_at "exec For Tuple Call cons nil") => `(tactic| (with_unfolding_all refine' For_run ?_))
local macro_rules | `(tactic| walk_at "getAttr ref") => `(tactic| (k_dflt (refine' get_own ?k1 ?k2 (inst_up ?k3 (Fr.keep ?k1)) ?k4 ?k5 ?k6 ?k7 ?k8 ?k9 ?_; (case k1 => k_asm); (case k2 => k_asm); (case k3 => k_asm); (case k4 => k_is); (case k5 => k_is); (case k6 => k_is); (case k7 => k_is); (case k8 => k_asm); (case k9 => k_handed); k_whole)))
local macro_rules | `(tactic| walk_at "eval Name") => `(tactic| ((with_reducible show wpAny _ _ (eval _ (envOfC _ _ _ _ _)) _ _ _); k_dflt (refine' nameX_L ?F ?v ?_ ?a ?b ?d; (case F => k_asm); (case v => rfl); (case a => kernel_rfl); (case b => kernel_rfl); (case d => kernel_rfl); k_whole)))
local macro_rules | `(tactic| walk_at "eval Name") => `(tactic| ((with_reducible show wpAny _ _ (eval _ (envOf _ _ _ _ _)) _ _ _); k_dflt (refine' ld ?k1 ?k2 ?_ ?k3 ?k4 ?k5; (case k1 => k_asm); (case k2 => exact rfl); (case k3 => kernel_rfl); (case k4 => kernel_rfl); (case k5 => kernel_rfl); k_whole)))
local macro_rules | `(tactic| walk_at "Turned") => `(tactic| first | refine Turned.ret ?_ | refine Turned.brk ?_)
local macro_rules | `(tactic| walk_at "go") => `(tactic| repeat' (first | (k_unfold; (try dsimp only)) | walk1 | (dsimp only; walk1) | (dsimp only; k_unfold; (try dsimp only))))
local macro_rules | `(tactic| walk_at "kf") => `(tactic| ((with_reducible show wpAny _ _ _ _ _ _); k_fold))
local macro_rules | `(tactic| walk_at "locals") => `(tactic| (intro y h1 h2; simp only [List.mem_cons, List.not_mem_nil, or_false, not_or] at h1 h2; simp [h1, h2]))
local macro_rules | `(tactic| walk_at "eval ListComp") => `(tactic| (k_dflt (refine ListComp_runF (by k_asm) (by with_unfolding_all rfl) (by rfl) (by decide) ?_)))
local macro_rules | `(tactic| walk_at "exec Assign cons ListComp") => `(tactic| (k_dflt (refine Assign_ListComp_runF (by k_asm) (by with_unfolding_all rfl) (by with_unfolding_all rfl) (by rfl) (by decide) (by rfl) (by rfl) (by rfl) ?_)))
local macro_rules | `(tactic| walk_at "sub") => `(tactic| first | exact List.forall_mem_nil _ | refine List.forall_mem_cons.mpr ⟨by k_mem, by walk_at "sub"⟩)
local macro_rules | `(tactic| walk_at "hnd1") => `(tactic| first | exact apart_nil | refine apart_cons (by k_ne) (by walk_at "hnd1"))
local macro_rules | `(tactic| walk_at "hnd2") => `(tactic| first | exact Apart.nil | refine Apart.cons (by walk_at "hnd1") (by walk_at "hnd2"))
local macro_rules | `(tactic| walk_at "hnd") => `(tactic| exact Apart.nd (by walk_at "hnd2"))
local macro_rules | `(tactic| k_ne) => `(tactic| first | exact NE.out (by assumption) | exact NE.flip (by assumption) | (refine neN ?_; (try dsimp only); omega))
local macro_rules | `(tactic| walk_at "mem") => `(tactic| first | exact List.Mem.head _ | (refine List.Mem.tail _ ?_; walk_at "mem"))
local macro_rules | `(tactic| walk_at "eval Name") => `(tactic| ((with_reducible show wpAny _ _ (eval _ (compEnvC _ _ _ _)) _ _ _); k_dflt (refine' nameCG_B ?F ?X ?T ?e ?v ?n ?_ ?a ?b ?c ?d ?g; (case F => k_asm); (case X => k_asm); (case T => k_asm); (case a => rfl); (case b => rfl); (case c => rfl); (case d => rfl); (case g => decide); (case e => k_is); (case v => boot_fast); (case n => decide); k_whole)))
local macro_rules | `(tactic| walk_at "lst") => `(tactic| first | exact lst_up (by assumption) (Fr.keep (by k_asm)) | exact lst_news (by k_asm) (by k_mem))
local macro_rules | `(tactic| walk_at "call builtin:str.join") => `(tactic| (refine join_list (by walk_at "lst") (by assumption) (by assumption) ?_; intro _ _))
local macro_rules | `(tactic| walk_at "subscriptTail Name BinOp ref int") => `(tactic| (k_dflt (refine' item_rowN ?l ?i ?a ?b ?c ?_; (case l => walk_at "lst"); (case i => assumption); (case a => omega); (case b => omega); (case c => omega); k_whole); intro _))
local macro_rules | `(tactic| walk_at "storeName") => `(tactic| ((with_reducible show wpAny _ _ (storeName (envOfC _ _ _ _) _ _) _ _ _); k_dflt (refine' storeC_F ?F ?N ?c ?U ?d ?_ ?a ?b; (case a => rfl); (case b => rfl); (case F => k_asm); (case N => k_asm); (case c => rfl); (case U => k_updF); (case d => k_asm); k_whole); intro h' o' F' N' d'; (try dsimp only at N'); (try k_sweep)))
local macro_rules | `(tactic| walk_at "assign Tuple") => `(tactic| ((with_reducible show wpAny _ _ (assign (Expr.Tuple _ _ _) _ (Value.ref _)) _ _ _); k_dflt (refine' unpackN_ ?F ?N ?T ?k1 ?k2 ?k3 ?_; (case F => k_asm); (case N => k_asm); (case T => exact News.isTup (by k_asm) (by k_mem)); (case k1 => k_asm); (case k2 => exact rfl); (case k3 => exact rfl)); intro h' F' N'; (try k_sweep)))
set_option maxHeartbeats 800000 in
theorem st8 {prog : Program} {w : World} {A : Around} {s s' : Shared} {g : Heap} {L fa : Addr} {cd : Value} {mg mb : Str → Option Value} {p : Program} {loose : List Str} {Q : Flow → Shared → Prop}
   (X : (hd.heap_39 w.params).In g) (T : TopRead p loose mg mb g) (hA : A.handled = none) (hAd : A.depth ≤ 800) (hAu : A.units ≤ 4000) (hP : PW 8 16 g L s s')
   (k : ∀ s', PW 8 16 g L s s' → wpAny (model prog w) A (execs (lawBody.drop 9) (lawEnv L fa cd)) Q (fun _ _ => False) s') :
   wpAny (model prog w) A (execs (lawBody.drop 8) (lawEnv L fa cd)) Q (fun _ _ => False) s' := by
  refine seg_step (PW 8 16 g L s) ?_ k
  unfold lawEnv
  obtain ⟨m, o1, o2, o3, o4, rl, rv, rc, cl, cv, cc, tps, rows, wy, t, G, ps, ⟨h, tk, rfl, F, N⟩, hw, hmc, hw1, hw7, h3, hrv, ⟨x2, h2⟩, ⟨x4, h4⟩, hcv, hperm, hTl, D, hps2, hps13, hA4, hA5, hA6⟩ := hP
  have hcl : cv.length = ps.length := by rw [hcv.1, hperm.length_eq, List.length_map]
  rw [map_knows hmc, map_knows hw] at F
  repeat' (first | (k_unfold; (try dsimp only)) | (walk1; (try dsimp only)))
  · refine Hold.out ?_
    have hrvl : rv.length = G.length := by have := hrv.len_eq; rw [List.length_map] at this; exact this
    have hGl := D.hi
    have hsz : Builtin.Range.rangeSize 0 9 1 = ((9 : Nat) : Int) := by rw [rangeSize_one]; rfl
    rename IsRange _ _ _ _ _ _ _ _ => Rg
    rename Fr _ _ _ _ => F'
    rename News _ _ _ _ => N'
    refine range_compS (fun j zs => StrsAre zs ((List.range j).map fun (b : Nat) => tx (G.getD (8 - (b : Int)).toNat []))) hA Rg (small_one (by omega) (by omega) (by omega) (by omega)) hsz (by rw [sizeLine_eq]; omega) F' N' .nil ?_ ?_
    · intro j t zs h tk I2 ob2 C2 oC2 DD2 m₂ E' hj hJ hns hx hIC hID hCD hoff F N
      rw [show (0 : Int) + (j : Int) * 1 = j by omega] at hx
      refine CBody.nil ?_
      clear F' N' Rg hsz
      walk_at "kf"
      repeat' (first | (k_unfold; (try dsimp only)) | (walk1; (try dsimp only)))
      refine CEnd.same F N (fun q hq => hq) hoff ?_
      rw [range_map_snoc _ j]
      exact kct_snoc hJ
    · intro ys h hJ D2 h' tk' F2 N2 off
      change News g _ h' ((D2, listOf (List.toArray ys) ys.length) :: _) at N2
      clear F' N' Rg hsz
      repeat' (first | (k_unfold; (try dsimp only)) | (walk1; (try dsimp only)))
      refine Hold.out ?_
      obtain ⟨cs, rfl, hcs⟩ := prows_of hperm
      have hcsl : cs.length = ps.length := hcs.length_eq
      refine cells_comp (f := udP 8) (cs := cs) (held := (D2, listOf (List.toArray ys) ys.length) :: (cl, listOf (List.toArray cv) cc) :: (rl, listOf (List.toArray rv) rc) :: (L + 1 + 1 + 1 + 1, o4) :: (L + 1 + 1 + 1, o3) :: (L + 1 + 1, o2) :: (L + 1, o1) :: tps) hA (.inr ⟨_, .tail _ (.head _), rfl, _, rfl⟩) hcv (fun q hq => by repeat (first | exact hq | refine .tail _ ?_)) (by omega) F2 N2 ?_ ?_
      · intro p u1 u2 u3 u4 zs h tk I3 ob3 C3 oC3 DD3 m₃ E3 rest hp hns hx1 hx2 hx3 hx4 hIC hID hCD F N
        clear F2 N2
        walk_at "kf"
        repeat' (first | (k_unfold; (try dsimp only)) | (walk1; (try dsimp only)))
        rename Fr _ _ _ _ => F'
        rename News _ _ _ _ => N'
        rename (@LT.lt Nat _ _ _) ∧ _ => l7
        exact ⟨_, _, _, _, _, _, _, rfl, rfl, F', N', l7⟩
      · rintro zs news' h hT hap D3 h' tk' F3 N3 off3
        change News g _ h' ((D3, listOf (List.toArray zs) zs.length) :: _) at N3
        have N4 : News g L h' ((D3, listOf (List.toArray zs) zs.length) :: (D2, listOf (List.toArray ys) ys.length) :: (L + 1 + 1 + 1 + 1, o4) :: (L + 1 + 1 + 1, o3) :: (L + 1 + 1, o2) :: (L + 1, o1) :: news') := news_sub N3 fun q hq => by
          simp only [List.mem_append, List.mem_cons, List.cons_append] at hq ⊢
          rcases hq with e | e | e | e | e | e | e <;> simp only [e, true_or, or_true]
        have hA7 : A4 L D3 := ⟨Ne.symm (off3 (L + 1, o1) (by walk_at "mem")), Ne.symm (off3 (L + 1 + 1, o2) (by walk_at "mem")), Ne.symm (off3 (L + 1 + 1 + 1, o3) (by walk_at "mem")), Ne.symm (off3 (L + 1 + 1 + 1 + 1, o4) (by walk_at "mem"))⟩
        have hA8 : A4 L D2 := ⟨Ne.symm (off (L + 1, o1) (by walk_at "mem")), Ne.symm (off (L + 1 + 1, o2) (by walk_at "mem")), Ne.symm (off (L + 1 + 1 + 1, o3) (by walk_at "mem")), Ne.symm (off (L + 1 + 1 + 1 + 1, o4) (by walk_at "mem"))⟩
        have q1 : NE D3 (L + 1 + 1 + 1) := ⟨hA7.a3⟩
        have q2 : NE D2 (L + 1 + 1 + 1) := ⟨hA8.a3⟩
        have hu : ∀ q ∈ (L + 1 + 1, o2) :: (L + 1, o1) :: news', q.1 ≠ L + 1 + 1 + 1 := fun q hq => by
          rcases List.mem_cons.mp hq with rfl | hq
          · show @Ne Nat _ _; simp only; omega
          rcases List.mem_cons.mp hq with rfl | hq
          · show @Ne Nat _ _; simp only; omega
          exact hap q hq (L + 1 + 1 + 1, o3) (by walk_at "mem")
        clear F2 N2 N3 off off3
        repeat' (first | (k_unfold; (try dsimp only)) | (walk1; (try dsimp only)))
        rename Fr _ _ _ _ => F'
        rename News _ _ _ _ => N'
        rename _ = Data.cell (some (Value.ref D2)) => d'
        have hG9 : (gridOf (fun i j => gch G (8 - i) j) 9 17).map tx = (List.range 9).map fun (a : Nat) => tx (G.getD (8 - (a : Int)).toNat []) := by
          unfold gridOf; rw [List.map_map]
          refine List.map_congr_left fun a ha => ?_
          rw [List.mem_range] at ha
          refine congrArg tx (row_again (r := G.getD (8 - (a : Int)).toNat []) ?_)
          have hlt : (8 - (a : Int)).toNat < G.length := by omega
          have := D.wid (G.getD (8 - (a : Int)).toNat []) (by rw [List.getD_eq_getElem?_getD, List.getElem?_eq_getElem hlt]; exact List.getElem_mem _); omega
        refine ⟨_, o1, o2, _, o4, D2, ys, ys.length, D3, zs, zs.length, news', (cs.map (udP 8)).map prow, wy, t, gridOf (fun i j => gch G (8 - i) j) 9 17, ps.map (udP 8), ⟨⟨_, _, rfl, F', news_sub N' fun z hz => ?_⟩⟩, rfl, rfl, hw1, hw7, d', by rw [hG9]; exact hJ, ⟨_, h2⟩, ⟨_, h4⟩, hT, (hcs.map _).map _, hTl.ud, D.ud rfl rfl, by rw [List.length_map]; exact hps2, by rw [List.length_map]; exact hps13, hA8, hA7, fun z hz => ?_⟩
        · simp only [List.mem_cons] at hz ⊢
          rcases hz with e | e | e | e | e | e | e <;> simp only [e, true_or, or_true]
        · exact ⟨hap z hz (L + 1, o1) (by walk_at "mem"), hap z hz (L + 1 + 1, o2) (by walk_at "mem"), hap z hz (L + 1 + 1 + 1, o3) (by walk_at "mem"), hap z hz (L + 1 + 1 + 1 + 1, o4) (by walk_at "mem")⟩
  · exact ⟨_, o1, o2, o3, o4, rl, rv, rc, cl, cv, cc, tps, rows, wy, t, G, ps, ⟨⟨_, _, rfl, F, N⟩⟩, rfl, rfl, hw1, hw7, h3, hrv, ⟨_, h2⟩, ⟨_, h4⟩, hcv, hperm, hTl, D, hps2, hps13, hA4, hA5, hA6⟩
end Mine
end LW8_part
section LW9_part
open PySem PySem.W PyProof.Rows PySem.Calls
namespace Mine
local macro_rules | `(tactic| k_all) => `(tactic| assumption)
local macro_rules | `(tactic| walk_at "pyIter ref") => `(tactic| refine Hold.of ?_)
local macro_rules | `(tactic| walk_at "call ref") => `(tactic| refine Hold.of ?_)
local macro_rules | `(tactic| walk_at "exec For") => `(tactic| (with_unfolding_all refine' For_run ?_))
local macro_rules | `(tactic| walk_at "exec For Name Call cons nil") => `(tactic| (with_unfolding_all refine' For_run ?_))
local macro_rules | `(tactic| walk_at "exec For Tuple Call cons nil") => `(tactic| (with_unfolding_all refine' For_run ?_))
local macro_rules | `(tactic| walk_at "getAttr ref") => `(tactic| (k_dflt (refine' get_own ?k1 ?k2 (inst_up ?k3 (Fr.keep ?k1)) ?k4 ?k5 ?k6 ?k7 ?k8 ?k9 ?_; (case k1 => k_asm); (case k2 => k_asm); (case k3 => k_asm); (case k4 => k_is); (case k5 => k_is); (case k6 => k_is); (case k7 => k_is); (case k8 => k_asm); (case k9 => k_handed); k_whole)))
local macro_rules | `(tactic| walk_at "eval Name") => `(tactic| ((with_reducible show wpAny _ _ (eval _ (envOfC _ _ _ _ _)) _ _ _); k_dflt (refine' nameX_L ?F ?v ?_ ?a ?b ?d; (case F => k_asm); (case v => rfl); (case a => kernel_rfl); (case b => kernel_rfl); (case d => kernel_rfl); k_whole)))
local macro_rules | `(tactic| walk_at "eval Name") => `(tactic| ((with_reducible show wpAny _ _ (eval _ (envOf _ _ _ _ _)) _ _ _); k_dflt (refine' ld ?k1 ?k2 ?_ ?k3 ?k4 ?k5; (case k1 => k_asm); (case k2 => exact rfl); (case k3 => kernel_rfl); (case k4 => kernel_rfl); (case k5 => kernel_rfl); k_whole)))
local macro_rules | `(tactic| walk_at "Turned") => `(tactic| first | refine Turned.ret ?_ | refine Turned.brk ?_)
local macro_rules | `(tactic| walk_at "go") => `(tactic| repeat' (first | (k_unfold; (try dsimp only)) | walk1 | (dsimp only; walk1) | (dsimp only; k_unfold; (try dsimp only))))
local macro_rules | `(tactic| walk_at "kf") => `(tactic| ((with_reducible show wpAny _ _ _ _ _ _); k_fold))
local macro_rules | `(tactic| walk_at "locals") => `(tactic| (intro y h1 h2; simp only [List.mem_cons, List.not_mem_nil, or_false, not_or] at h1 h2; simp [h1, h2]))
local macro_rules | `(tactic| walk_at "eval ListComp") => `(tactic| (k_dflt (refine ListComp_runF (by k_asm) (by with_unfolding_all rfl) (by rfl) (by decide) ?_)))
local macro_rules | `(tactic| walk_at "exec Assign cons ListComp") => `(tactic| (k_dflt (refine Assign_ListComp_runF (by k_asm) (by with_unfolding_all rfl) (by with_unfolding_all rfl) (by rfl) (by decide) (by rfl) (by rfl) (by rfl) ?_)))
local macro_rules | `(tactic| walk_at "sub") => `(tactic| first | exact List.forall_mem_nil _ | refine List.forall_mem_cons.mpr ⟨by k_mem, by walk_at "sub"⟩)
local macro_rules | `(tactic| walk_at "hnd1") => `(tactic| first | exact apart_nil | refine apart_cons (by k_ne) (by walk_at "hnd1"))
local macro_rules | `(tactic| walk_at "hnd2") => `(tactic| first | exact Apart.nil | refine Apart.cons (by walk_at "hnd1") (by walk_at "hnd2"))
local macro_rules | `(tactic| walk_at "hnd") => `(tactic| exact Apart.nd (by walk_at "hnd2"))
local macro_rules | `(tactic| k_ne) => `(tactic| first | exact NE.out (by assumption) | exact NE.flip (by assumption) | (refine neN ?_; (try dsimp only); omega))
local macro_rules | `(tactic| walk_at "mem") => `(tactic| first | exact List.Mem.head _ | (refine List.Mem.tail _ ?_; walk_at "mem"))
local macro_rules | `(tactic| walk_at "eval Name") => `(tactic| ((with_reducible show wpAny _ _ (eval _ (compEnvC _ _ _ _)) _ _ _); k_dflt (refine' nameCG_B ?F ?X ?T ?e ?v ?n ?_ ?a ?b ?c ?d ?g; (case F => k_asm); (case X => k_asm); (case T => k_asm); (case a => rfl); (case b => rfl); (case c => rfl); (case d => rfl); (case g => decide); (case e => k_is); (case v => boot_fast); (case n => decide); k_whole)))
local macro_rules | `(tactic| walk_at "lst") => `(tactic| first | exact lst_up (by assumption) (Fr.keep (by k_asm)) | exact lst_news (by k_asm) (by k_mem))
local macro_rules | `(tactic| walk_at "subscriptTail Name Name ref int") => `(tactic| (k_dflt (refine' item_rowN ?l ?i ?a ?b ?c ?_; (case l => walk_at "lst"); (case i => assumption); (case a => omega); (case b => omega); (case c => omega); k_whole); intro _))
local macro_rules | `(tactic| walk_at "subscriptTail Subscript Name Name Name str int") => `(tactic| (k_dflt (refine' item_tx ?a ?b ?c ?_; (case a => omega); (case b => omega); (case c => omega); k_whole); intro _ _))
local macro_rules | `(tactic| walk_at "call builtin:str.replace") => `(tactic| (refine replace_tx (by first | exact lit_minus | exact lit_star | exact lit_bar) (by first | exact lit_minus | exact lit_star | exact lit_bar) (by decide) (by simp) (by show @Ne Nat _ _; omega) (by show @Ne Nat _ _; omega) (by show @Ne Nat _ _; omega) ?_; intro t' k' hk'; (try dsimp only at hk')))
local macro_rules | `(tactic| walk_at "forall") => `(tactic| (intro hT'; (try dsimp only at hT')))
local macro_rules | `(tactic| walk_at "eval ListComp") => `(tactic| refine Hold.of ?_)
local macro_rules | `(tactic| walk_at "lcomp") => `(tactic| (refine Hold.out ?_; k_dflt (refine ListComp_runF (by k_asm) (by with_unfolding_all rfl) (by rfl) (by decide) ?_)))
local macro_rules | `(tactic| walk_at "call builtin:str.join") => `(tactic| (refine join_chrs (by walk_at "lst") (by assumption) (by simp) ?_; intro t' k' hk'; (try dsimp only at hk')))
local macro_rules | `(tactic| walk_at "subscriptTail Name BinOp ref int") => `(tactic| (k_dflt (refine' item_rowN ?l ?i ?a ?b ?c ?_; (case l => walk_at "lst"); (case i => assumption); (case a => omega); (case b => omega); (case c => omega); k_whole); intro _))
local macro_rules | `(tactic| walk_at "storeName") => `(tactic| ((with_reducible show wpAny _ _ (storeName (envOfC _ _ _ _) _ _) _ _ _); k_dflt (refine' storeC_F ?F ?N ?c ?U ?d ?_ ?a ?b; (case a => rfl); (case b => rfl); (case F => k_asm); (case N => k_asm); (case c => rfl); (case U => k_updF); (case d => k_asm); k_whole); intro h' o' F' N' d'; (try dsimp only at N'); (try k_sweep)))
local macro_rules | `(tactic| walk_at "assign Tuple") => `(tactic| ((with_reducible show wpAny _ _ (assign (Expr.Tuple _ _ _) _ (Value.ref _)) _ _ _); k_dflt (refine' unpackN_ ?F ?N ?T ?k1 ?k2 ?k3 ?_; (case F => k_asm); (case N => k_asm); (case T => exact News.isTup (by k_asm) (by k_mem)); (case k1 => k_asm); (case k2 => exact rfl); (case k3 => exact rfl)); intro h' F' N'; (try k_sweep)))
set_option maxHeartbeats 800000 in
theorem st9 {prog : Program} {w : World} {A : Around} {s s' : Shared} {g : Heap} {L fa : Addr} {cd : Value} {mg mb : Str → Option Value} {p : Program} {loose : List Str} {Q : Flow → Shared → Prop}
   (X : (hd.heap_39 w.params).In g) (T : TopRead p loose mg mb g) (hA : A.handled = none) (hAd : A.depth ≤ 800) (hAu : A.units ≤ 4000) (hP : PW 8 16 g L s s')
   (k : ∀ s', PF g L s s' → wpAny (model prog w) A (execs (lawBody.drop 10) (lawEnv L fa cd)) Q (fun _ _ => False) s') :
   wpAny (model prog w) A (execs (lawBody.drop 9) (lawEnv L fa cd)) Q (fun _ _ => False) s' := by
  refine seg_step (PF g L s) ?_ k
  unfold lawEnv
  obtain ⟨m, o1, o2, o3, o4, rl, rv, rc, cl, cv, cc, tps, rows, wy, t, G, ps, ⟨h, tk, rfl, F, N⟩, hw, hmc, hw1, hw7, h3, hrv, ⟨x2, h2⟩, ⟨x4, h4⟩, hcv, hperm, hTl, D, hps2, hps13, hA4, hA5, hA6⟩ := hP
  have hcl : cv.length = ps.length := by rw [hcv.1, hperm.length_eq, List.length_map]
  rw [map_knows hmc, map_knows hw] at F
  repeat' (first | (k_unfold; (try dsimp only)) | (walk1; (try dsimp only)))
  · walk_at "lcomp"
    repeat' (first | (k_unfold; (try dsimp only)) | (walk1; (try dsimp only)))
    refine Hold.out ?_
    have hrvl : rv.length = G.length := by have := hrv.len_eq; rw [List.length_map] at this; exact this
    have hGl := D.hi
    have hsz : Builtin.Range.rangeSize 0 17 1 = ((17 : Nat) : Int) := by rw [rangeSize_one]; rfl
    have hwid : ∀ a : Nat, a < 9 → (G.getD a []).length = 17 := fun a ha => by
      have hlt : a < G.length := by omega
      have := D.wid (G.getD a []) (by rw [List.getD_eq_getElem?_getD, List.getElem?_eq_getElem hlt]; exact List.getElem_mem _); omega
    rename IsRange _ _ _ _ _ _ _ _ => Rg
    rename Fr _ _ _ _ => F'
    rename News _ _ _ _ => N'
    refine range_compC (fun i ys news' => news' = (_ : List (Addr × Obj)) ∧ StrsAre ys ((List.range i).map fun (a : Nat) => tx (((((List.range 9).map fun (b : Nat) => gch G b a).map (subC 45 42)).map (subC 124 45)).map (subC 42 124)))) hA Rg (small_one (by omega) (by omega) (by omega) (by omega)) hsz (by rw [sizeLine_eq]; omega) F' N' ⟨rfl, .nil⟩ ?_ ?_
    · rintro i t ys news₁ h tk I' ob C oC c oc DD m₂ E' hi ⟨rfl, hJ'⟩ hns hoc hIc hCc hcD hIC hID hCD hoffi F₂ N₂
      rw [show (0 : Int) + (i : Int) * 1 = i by omega] at hoc
      refine CBody.nil ?_
      clear F' N' Rg hsz
      walk_at "kf"
      repeat' (first | (k_unfold; (try dsimp only)) | (walk1; (try dsimp only)))
      refine Hold.of (wpAny_with_toks (n := 1) (by dsimp only; omega) (Hold.out ?_))
      walk_at "lcomp"
      repeat' (first | (k_unfold; (try dsimp only)) | (walk1; (try dsimp only)))
      rename IsRange _ _ _ _ _ _ _ _ => Rg
      rename Fr _ _ _ _ => F'
      rename News _ _ _ _ => N'
      refine Hold.out ?_
      have hsz9 : Builtin.Range.rangeSize 0 9 1 = ((9 : Nat) : Int) := by rw [rangeSize_one]; rfl
      refine range_compS (fun j zs => StrsAre zs (((List.range j).map fun (b : Nat) => gch G b i).map chr)) hA Rg (small_one (by omega) (by omega) (by omega) (by omega)) hsz9 (by rw [sizeLine_eq]; omega) F' N' .nil ?_ ?_
      · intro j t zs h tk I2 ob2 C2 oC2 DD2 m₂ E' hj hJ hns hx hIC hID hCD hoff F N
        rw [show (0 : Int) + (j : Int) * 1 = j by omega] at hx
        have hr9 : (G.getD (j : Int).toNat []).length = 17 := by rw [Int.toNat_natCast]; exact hwid j hj
        refine CBody.nil ?_
        clear F' N' Rg hwid
        walk_at "kf"
        repeat' (first | (k_unfold; (try dsimp only)) | (walk1; (try dsimp only)))
        refine CEnd.same F N (fun q hq => hq) hoff ?_
        rw [range_map_snoc _ j, List.map_append]
        exact kct_snoc hJ
      · intro zs h hJ DD3 h' tk' F N off
        change News g _ h' ((DD3, listOf (List.toArray zs) zs.length) :: _) at N
        clear F' N' Rg hwid
        repeat' (first | (k_unfold; (try dsimp only)) | (walk1; (try dsimp only)))
        refine CEnd.intro F (news' := (cl, listOf (List.toArray cv) cc) :: (rl, listOf (List.toArray rv) rc) :: (L + 1 + 1 + 1 + 1, o4) :: (L + 1 + 1 + 1, o3) :: (L + 1 + 1, o2) :: (L + 1, o1) :: tps) (news_sub N fun q hq => .tail _ hq) (fun q hq => ?_) ⟨rfl, ?_⟩
        · have := hoffi q hq
          simp only [List.mem_cons, List.not_mem_nil, or_false, not_or]
          exact this
        · rw [range_map_snoc _ i]
          exact kct_snoc (y := tx (((((List.range 9).map fun (b : Nat) => gch G b i).map (subC 45 42)).map (subC 124 45)).map (subC 42 124))) hJ'
    · rintro ys news' h ⟨rfl, hJ⟩ D2 h' tk' F2 N2 off
      change News g _ h' ((D2, listOf (List.toArray ys) ys.length) :: _) at N2
      have hA8 : A4 L D2 := ⟨Ne.symm (off (L + 1, o1) (by walk_at "mem")), Ne.symm (off (L + 1 + 1, o2) (by walk_at "mem")), Ne.symm (off (L + 1 + 1 + 1, o3) (by walk_at "mem")), Ne.symm (off (L + 1 + 1 + 1 + 1, o4) (by walk_at "mem"))⟩
      have hu : ∀ q ∈ (L + 1 + 1, o2) :: [(L + 1, o1)], q.1 ≠ L + 1 + 1 + 1 := fun q hq => by
        rcases List.mem_cons.mp hq with rfl | hq
        · show @Ne Nat _ _; simp only; omega
        rw [List.mem_singleton.mp hq]
        show @Ne Nat _ _; simp only; omega
      have hr9 : (gridOf (fun i j => swapC (gch G j i)) 17 9).map tx = (List.range 17).map fun (a : Nat) => tx (((((List.range 9).map fun (b : Nat) => gch G b a).map (subC 45 42)).map (subC 124 45)).map (subC 42 124)) := by
        unfold gridOf; rw [List.map_map]
        refine List.map_congr_left fun a ha => ?_
        rw [List.mem_range] at ha
        rw [sub_swap, List.map_map]
        · rfl
        · intro k hk
          obtain ⟨b, hb, rfl⟩ := List.mem_map.mp hk
          rw [List.mem_range] at hb
          rw [D.sg b a (by omega) (by omega) (by omega) (by omega)]
          rcases sgn_is ps b a with e | e | e | e <;> rw [e] <;> decide
      obtain ⟨cs, rfl, hcs⟩ := prows_of hperm
      have hcsl : cs.length = ps.length := hcs.length_eq
      have q2 : NE D2 (L + 1 + 1 + 1) := ⟨hA8.a3⟩
      have q3 : NE cl (L + 1 + 1 + 1) := ⟨hA5.a3⟩
      have N5 : News g L h' ((D2, listOf (List.toArray ys) ys.length) :: (cl, listOf (List.toArray cv) cc) :: (L + 1 + 1 + 1 + 1, o4) :: (L + 1 + 1 + 1, o3) :: (L + 1 + 1, o2) :: (L + 1, o1) :: tps) := news_sub N2 fun q hq => by
        simp only [List.mem_cons] at hq ⊢
        rcases hq with e | e | e | e | e | e | e <;> simp only [e, true_or, or_true]
      have hu' : ∀ q ∈ (L + 1 + 1, o2) :: (L + 1, o1) :: tps, q.1 ≠ L + 1 + 1 + 1 := fun q hq => by
        rcases List.mem_cons.mp hq with rfl | hq
        · exact hu _ (.head _)
        rcases List.mem_cons.mp hq with rfl | hq
        · exact hu _ (.tail _ (.head _))
        exact (hA6 q hq).a3
      clear N2
      clear F' N' Rg
      repeat' (first | (k_unfold; (try dsimp only)) | (walk1; (try dsimp only)))
      rename Fr _ _ _ _ => F3
      rename News _ _ _ _ => N3
      rename _ = Data.cell (some (Value.ref D2)) => d'
      rename_i o3'
      refine Hold.out ?_
      refine cells_comp (f := trP) (cs := cs) (held := (D2, listOf (List.toArray ys) ys.length) :: (cl, listOf (List.toArray cv) cc) :: (L + 1 + 1 + 1 + 1, o4) :: (L + 1 + 1 + 1, o3') :: (L + 1 + 1, o2) :: (L + 1, o1) :: tps) hA (.inr ⟨_, .tail _ (.head _), rfl, _, rfl⟩) hcv (fun q hq => by repeat (first | exact hq | refine .tail _ ?_)) (by omega) F3 N3 ?_ ?_
      · intro p u1 u2 u3 u4 zs h tk I3 ob3 C3 oC3 DD3 m₃ E3 rest hp hns hx1 hx2 hx3 hx4 hIC hID hCD F N
        clear F3 N3
        walk_at "kf"
        repeat' (first | (k_unfold; (try dsimp only)) | (walk1; (try dsimp only)))
        rename Fr _ _ _ _ => F'
        rename News _ _ _ _ => N'
        rename (@LT.lt Nat _ _ _) ∧ _ => l7
        exact ⟨_, _, _, _, _, _, _, rfl, rfl, F', N', l7⟩
      · rintro zs news' h hT hap D3 h' tk' F4 N4 off3
        change News g _ h' ((D3, listOf (List.toArray zs) zs.length) :: _) at N4
        have hA7 : A4 L D3 := ⟨Ne.symm (off3 (L + 1, o1) (by walk_at "mem")), Ne.symm (off3 (L + 1 + 1, o2) (by walk_at "mem")), Ne.symm (off3 (L + 1 + 1 + 1, o3') (by walk_at "mem")), Ne.symm (off3 (L + 1 + 1 + 1 + 1, o4) (by walk_at "mem"))⟩
        clear F3 N3 off3
        repeat' (first | (k_unfold; (try dsimp only)) | (walk1; (try dsimp only)))
        have D' := D.tr hTl (H := 17) (W := 9) rfl rfl
        refine ⟨16, 8, by decide, by decide, by decide, by decide, _, o1, o2, o3', o4, D2, ys, ys.length, D3, zs, zs.length, news', (cs.map trP).map prow, wy, t, gridOf (fun i j => swapC (gch G j i)) 17 9, ps.map trP, ⟨⟨_, _, rfl, F4, news_sub N4 fun z hz => ?_⟩⟩, rfl, rfl, hw1, hw7, d', by rw [hr9]; exact hJ, ⟨_, h2⟩, ⟨_, h4⟩, hT, (hcs.map _).map _, hTl.tr, D', by rw [List.length_map]; exact hps2, by rw [List.length_map]; exact hps13, hA8, hA7, fun z hz => ?_⟩
        · simp only [List.mem_append, List.mem_cons, List.cons_append] at hz ⊢
          rcases hz with e | e | e | e | e | e | e <;> simp only [e, true_or, or_true]
        · exact ⟨hap z hz (L + 1, o1) (by walk_at "mem"), hap z hz (L + 1 + 1, o2) (by walk_at "mem"), hap z hz (L + 1 + 1 + 1, o3') (by walk_at "mem"), hap z hz (L + 1 + 1 + 1 + 1, o4) (by walk_at "mem")⟩
  · exact ⟨8, 16, by decide, by decide, by decide, by decide, _, o1, o2, o3, o4, rl, rv, rc, cl, cv, cc, tps, rows, wy, t, G, ps, ⟨⟨_, _, rfl, F, N⟩⟩, rfl, rfl, hw1, hw7, h3, hrv, ⟨_, h2⟩, ⟨_, h4⟩, hcv, hperm, hTl, D, hps2, hps13, hA4, hA5, hA6⟩
end Mine
end LW9_part
section LWG_part
open PySem PySem.W PyProof.Rows PySem.Calls
namespace Mine
local macro_rules | `(tactic| walk_at "zz0") => `(tactic| fail)
local macro_rules | `(tactic| walk_at "zz1") => `(tactic| fail)
local macro_rules | `(tactic| walk_at "zz2") => `(tactic| fail)
local macro_rules | `(tactic| walk_at "zz3") => `(tactic| fail)
local macro_rules | `(tactic| walk_at "zz4") => `(tactic| fail)
local macro_rules | `(tactic| walk_at "zz5") => `(tactic| fail)
local macro_rules | `(tactic| walk_at "zz6") => `(tactic| fail)
local macro_rules | `(tactic| walk_at "zz7") => `(tactic| fail)
local macro_rules | `(tactic| walk_at "zz8") => `(tactic| fail)
local macro_rules | `(tactic| walk_at "zz9") => `(tactic| fail)
local macro_rules | `(tactic| walk_at "zz10") => `(tactic| fail)
local macro_rules | `(tactic| walk_at "zz11") => `(tactic| fail)
local macro_rules | `(tactic| walk_at "zz12") => `(tactic| fail)
local macro_rules | `(tactic| walk_at "zz13") => `(tactic| fail)
local macro_rules | `(tactic| walk_at "zz14") => `(tactic| fail)
local macro_rules | `(tactic| walk_at "zz15") => `(tactic| fail)
local macro_rules | `(tactic| walk_at "zz16") => `(tactic| fail)
local macro_rules | `(tactic| walk_at "zz17") => `(tactic| fail)
local macro_rules | `(tactic| walk_at "zz18") => `(tactic| fail)
local macro_rules | `(tactic| walk_at "zz19") => `(tactic| fail)
local macro_rules | `(tactic| walk_at "zz20") => `(tactic| fail)
local macro_rules | `(tactic| walk_at "zz21") => `(tactic| fail)
local macro_rules | `(tactic| walk_at "zz22") => `(tactic| fail)
local macro_rules | `(tactic| walk_at "zz23") => `(tactic| fail)
local macro_rules | `(tactic| walk_at "zz24") => `(tactic| fail)
local macro_rules | `(tactic| walk_at "zz25") => `(tactic| fail)
local macro_rules | `(tactic| walk_at "zz26") => `(tactic| fail)
local macro_rules | `(tactic| walk_at "zz27") => `(tactic| fail)
local macro_rules | `(tactic| walk_at "zz28") => `(tactic| fail)
local macro_rules | `(tactic| walk_at "zz29") => `(tactic| fail)
local macro_rules | `(tactic| k_all) => `(tactic| assumption)
local macro_rules | `(tactic| walk_at "pyIter ref") => `(tactic| refine Hold.of ?_)
local macro_rules | `(tactic| walk_at "call ref") => `(tactic| refine Hold.of ?_)
local macro_rules | `(tactic| walk_at "exec For") => `(tactic| (with_unfolding_all refine' For_run ?_))
local macro_rules | `(tactic| walk_at "exec For Name Call cons nil") => `(tactic| (with_unfolding_all refine' For_run ?_))
local macro_rules | `(tactic| walk_at "exec For Tuple Call cons nil") => `(tactic| (with_unfolding_all refine' For_run ?_))
local macro_rules | `(tactic| walk_at "getAttr ref") => `(tactic| (k_dflt (refine' get_own ?k1 ?k2 (inst_up ?k3 (Fr.keep ?k1)) ?k4 ?k5 ?k6 ?k7 ?k8 ?k9 ?_; (case k1 => k_asm); (case k2 => k_asm); (case k3 => k_asm); (case k4 => k_is); (case k5 => k_is); (case k6 => k_is); (case k7 => k_is); (case k8 => k_asm); (case k9 => k_handed); k_whole)))
local macro_rules | `(tactic| walk_at "eval Name") => `(tactic| ((with_reducible show wpAny _ _ (eval _ (envOfC _ _ _ _ _)) _ _ _); k_dflt (refine' nameX_L ?F ?v ?_ ?a ?b ?d; (case F => k_asm); (case v => rfl); (case a => kernel_rfl); (case b => kernel_rfl); (case d => kernel_rfl); k_whole)))
local macro_rules | `(tactic| walk_at "eval Name") => `(tactic| ((with_reducible show wpAny _ _ (eval _ (envOf _ _ _ _ _)) _ _ _); k_dflt (refine' ld ?k1 ?k2 ?_ ?k3 ?k4 ?k5; (case k1 => k_asm); (case k2 => exact rfl); (case k3 => kernel_rfl); (case k4 => kernel_rfl); (case k5 => kernel_rfl); k_whole)))
local macro_rules | `(tactic| walk_at "Turned") => `(tactic| first | refine Turned.ret ?_ | refine Turned.brk ?_)
local macro_rules | `(tactic| walk_at "go") => `(tactic| repeat' (first | (k_unfold; (try dsimp only)) | walk1 | (dsimp only; walk1) | (dsimp only; k_unfold; (try dsimp only))))
local macro_rules | `(tactic| walk_at "kf") => `(tactic| ((with_reducible show wpAny _ _ _ _ _ _); k_fold))
local macro_rules | `(tactic| walk_at "locals") => `(tactic| (intro y h1 h2; simp only [List.mem_cons, List.not_mem_nil, or_false, not_or] at h1 h2; simp [h1, h2]))
local macro_rules | `(tactic| walk_at "eval ListComp") => `(tactic| (k_dflt (refine ListComp_runF (by k_asm) (by with_unfolding_all rfl) (by rfl) (by decide) ?_)))
local macro_rules | `(tactic| walk_at "exec Assign cons ListComp") => `(tactic| (k_dflt (refine Assign_ListComp_runF (by k_asm) (by with_unfolding_all rfl) (by with_unfolding_all rfl) (by rfl) (by decide) (by rfl) (by rfl) (by rfl) ?_)))
local macro_rules | `(tactic| walk_at "sub") => `(tactic| first | exact List.forall_mem_nil _ | refine List.forall_mem_cons.mpr ⟨by k_mem, by walk_at "sub"⟩)
local macro_rules | `(tactic| walk_at "hnd1") => `(tactic| first | exact apart_nil | refine apart_cons (by k_ne) (by walk_at "hnd1"))
local macro_rules | `(tactic| walk_at "hnd2") => `(tactic| first | exact Apart.nil | refine Apart.cons (by walk_at "hnd1") (by walk_at "hnd2"))
local macro_rules | `(tactic| walk_at "hnd") => `(tactic| exact Apart.nd (by walk_at "hnd2"))
local macro_rules | `(tactic| k_ne) => `(tactic| first | exact NE.out (by assumption) | exact NE.flip (by assumption) | (refine neN ?_; (try dsimp only); omega))
local macro_rules | `(tactic| walk_at "mem") => `(tactic| first | exact List.Mem.head _ | (refine List.Mem.tail _ ?_; walk_at "mem"))
local macro_rules | `(tactic| walk_at "lst") => `(tactic| first | exact lst_up (by assumption) (Fr.keep (by k_asm)) | exact lst_news (by k_asm) (by k_mem))
local macro_rules | `(tactic| walk_at "call builtin:sorted") => `(tactic| refine Hold.of ?_)
local macro_rules | `(tactic| walk_at "compareOp Eq ref ref") => `(tactic| refine Hold.of ?_)
set_option maxHeartbeats 800000 in
theorem st10 {prog : Program} {w : World} {A : Around} {s s' : Shared} {g : Heap} {L fa : Addr} {cd : Value} {mg mb : Str → Option Value} {p : Program} {loose : List Str} {Q : Flow → Shared → Prop}
   (X : (hd.heap_39 w.params).In g) (T : TopRead p loose mg mb g) (hA : A.handled = none) (hAd : A.depth ≤ 800) (hAu : A.units ≤ 4000) (hP : PF g L s s')
   (k : ∀ h tk m, Fr g L h m → Q (.ret (.bool true)) { s with heap := h, toks := tk }) :
   wpAny (model prog w) A (execs (lawBody.drop 10) (lawEnv L fa cd)) Q (fun _ _ => False) s' := by
  unfold lawEnv
  obtain ⟨B, R, hB, hB62, hR, hR62, m, o1, o2, o3, o4, rl, rv, rc, cl, cv, cc, tps, rows, wy, t, G, ps, ⟨h, tk, rfl, F, N⟩, hw, hmc, hw1, hw7, h3, hrv, ⟨x2, h2⟩, ⟨x4, h4⟩, hcv, hperm, hTl, D, hps2, hps13, hA4, hA5, hA6⟩ := hP
  have hcl : cv.length = ps.length := by rw [hcv.1, hperm.length_eq, List.length_map]
  rw [map_knows hmc] at F
  repeat' (first | (k_unfold; (try dsimp only)) | (walk1; (try dsimp only)))
  refine Hold.out (wpAny_call (use_call [] _ F N (by simp) (fun g' st' hr' S' => lv_le (law_cells (X.keeps st') (T.keeps st') S' (news_lst (hr' (rl, _) (by walk_at "mem"))) hrv hTl D hB hB62 hR hR62 (by omega) hps2) hA (by omega) (by omega)) ?_))
  rintro v led h₄ tk₄ ⟨cl2, cv2, rows2, cc2, rfl, hcl2, hcv2, hperm2, hpw2⟩ F₄ N₄ hap
  obtain ⟨cs, rfl, hcs⟩ := prows_of hperm
  obtain ⟨cs2, rfl, hcs2⟩ := prows_of hperm2
  have hbox : ∀ p ∈ ps, InBox p := fun p hp => by
    have := hTl.box p hp
    unfold InBox; omega
  have hbc : ∀ p ∈ cs, InBox p := fun p hp => hbox p (hcs.mem_iff.mp hp)
  have hcsl : cs.length = ps.length := hcs.length_eq
  clear F N hap
  repeat' (first | (k_unfold; (try dsimp only)) | (walk1; (try dsimp only)))
  refine Hold.out ?_
  refine sorted_tupsH (d := 4) (held := tps) F₄ N₄ (lst_news N₄ (List.mem_append_right _ (.head _))) hcv (fun q hq => List.mem_append_right _ (by repeat (first | exact hq | refine .tail _ ?_))) (by decide) (fun r hr => ?_) (fun r hr => ?_) (by rw [List.length_map]; omega) (by rw [List.length_map]; omega) ?_
  · obtain ⟨p, _, rfl⟩ := List.mem_map.mp hr; rfl
  · obtain ⟨p, hp, rfl⟩ := List.mem_map.mp hr
    have := hbc p hp
    intro x hx
    unfold InBox at this
    simp only [prow, List.mem_cons, List.not_mem_nil, or_false] at hx
    rcases hx with rfl | rfl | rfl | rfl <;> omega
  intro D3 out rows' c3 h₅ F₅ N₅ hlt hst
  obtain ⟨hto, hpo, hao⟩ := hst
  obtain ⟨cs3, rfl, hcs3⟩ := prows_of hpo
  have e3 : cs2 = cs3 := same_order hbox hcs2 (hcs3.trans hcs) hpw2 hao
  subst e3
  clear F₄ N₄
  repeat' (first | (k_unfold; (try dsimp only)) | (walk1; (try dsimp only)))
  exact Hold.out (eq_rows (cs := cs2) (lst_news N₅ (.tail _ (List.mem_append_left _ hcl2))) (lst_news N₅ (.head _)) hcv2 hto (fun q hq => (N₅ q (.tail _ (List.mem_append_left _ hq))).1) (fun q hq => (N₅ q (.tail _ (List.mem_append_right _ (by repeat (first | exact hq | refine .tail _ ?_))))).1) (by omega) (k _ _ _ F₅))
end Mine
end LWG_part
section LWk_part
open PySem PySem.W PyProof.Rows PySem.Calls
namespace Mine
theorem law_run {prog : Program} {w : World} {A : Around} {s : Shared} {g : Heap} {L fa : Addr} {cd : Value} {mg mb : Str → Option Value} {p : Program} {loose : List Str} {Q : Flow → Shared → Prop} {sl : Addr} {vs : List Value} {ns : List Int} {o1 o2 o3 o4 : Obj}
   (X : (hd.heap_39 w.params).In g) (T : TopRead p loose mg mb g) (hA : A.handled = none) (hAd : A.depth ≤ 800) (hAu : A.units ≤ 4000) (F : Fr g L s.heap (fun _ => none)) (N : News g L s.heap [(L + 1 + 1 + 1 + 1, o4), (L + 1 + 1 + 1, o3), (L + 1 + 1, o2), (L + 1, o1)]) (h1 : o1.data = .cell (some (.ref sl))) (h2 : o2.data = .cell none) (h3 : o3.data = .cell none) (h4 : o4.data = .cell none) (hsl : g.IsList sl vs.toArray) (hi : IntsAre vs ns) (h64 : ns.length < 64)
   (k : ∀ h tk m, Fr g L h m → Q (.ret (.bool true)) { s with heap := h, toks := tk }) :
   wpAny (model prog w) A (execs lawBody (lawEnv L fa cd)) Q (fun _ _ => False) s :=
  st0 X T hA F N h1 h2 h3 h4 hsl hi h64 fun _ p1 => st1 X T hA p1 fun _ p2 => st2 X T hA hAd hAu p2 fun _ p3 => st3 X T hA hAd hAu p3 fun _ p4 => st4 X T hA hAd hAu p4 fun _ p5 =>
  st5 X T hA hAd hAu p5 fun _ p6 => st6 X T hA hAd hAu p6 fun _ p7 => st7 X T hA hAd hAu p7 fun _ p8 => st8 X T hA hAd hAu p8 fun _ p9 => st9 X T hA hAd hAu p9 fun _ p10 => st10 X T hA hAd hAu p10 k
end Mine
end LWk_part
section LW_part
open PySem PySem.W PyProof.Rows PySem.Calls
namespace Mine
local macro_rules | `(tactic| k_all) => `(tactic| assumption)
local macro_rules | `(tactic| walk_at "pyIter ref") => `(tactic| refine Hold.of ?_)
local macro_rules | `(tactic| walk_at "call ref") => `(tactic| refine Hold.of ?_)
local macro_rules | `(tactic| walk_at "exec For") => `(tactic| (with_unfolding_all refine' For_run ?_))
local macro_rules | `(tactic| walk_at "exec For Name Call cons nil") => `(tactic| (with_unfolding_all refine' For_run ?_))
local macro_rules | `(tactic| walk_at "exec For Tuple Call cons nil") => `(tactic| (with_unfolding_all refine' For_run ?_))
local macro_rules | `(tactic| walk_at "getAttr ref") => `(tactic| (k_dflt (refine' get_own ?k1 ?k2 (inst_up ?k3 (Fr.keep ?k1)) ?k4 ?k5 ?k6 ?k7 ?k8 ?k9 ?_; (case k1 => k_asm); (case k2 => k_asm); (case k3 => k_asm); (case k4 => k_is); (case k5 => k_is); (case k6 => k_is); (case k7 => k_is); (case k8 => k_asm); (case k9 => k_handed); k_whole)))
local macro_rules | `(tactic| walk_at "eval Name") => `(tactic| ((with_reducible show wpAny _ _ (eval _ (envOfC _ _ _ _ _)) _ _ _); k_dflt (refine' nameX_L ?F ?v ?_ ?a ?b ?d; (case F => k_asm); (case v => rfl); (case a => kernel_rfl); (case b => kernel_rfl); (case d => kernel_rfl); k_whole)))
local macro_rules | `(tactic| walk_at "eval Name") => `(tactic| ((with_reducible show wpAny _ _ (eval _ (envOf _ _ _ _ _)) _ _ _); k_dflt (refine' ld ?k1 ?k2 ?_ ?k3 ?k4 ?k5; (case k1 => k_asm); (case k2 => exact rfl); (case k3 => kernel_rfl); (case k4 => kernel_rfl); (case k5 => kernel_rfl); k_whole)))
local macro_rules | `(tactic| walk_at "Turned") => `(tactic| first | refine Turned.ret ?_ | refine Turned.brk ?_)
local macro_rules | `(tactic| walk_at "go") => `(tactic| repeat' (first | (k_unfold; (try dsimp only)) | walk1 | (dsimp only; walk1) | (dsimp only; k_unfold; (try dsimp only))))
local macro_rules | `(tactic| walk_at "kf") => `(tactic| ((with_reducible show wpAny _ _ _ _ _ _); k_fold))
local macro_rules | `(tactic| walk_at "locals") => `(tactic| (intro y h1 h2; simp only [List.mem_cons, List.not_mem_nil, or_false, not_or] at h1 h2; simp [h1, h2]))
local macro_rules | `(tactic| walk_at "eval ListComp") => `(tactic| (k_dflt (refine ListComp_runF (by k_asm) (by with_unfolding_all rfl) (by rfl) (by decide) ?_)))
local macro_rules | `(tactic| walk_at "exec Assign cons ListComp") => `(tactic| (k_dflt (refine Assign_ListComp_runF (by k_asm) (by with_unfolding_all rfl) (by with_unfolding_all rfl) (by rfl) (by decide) (by rfl) (by rfl) (by rfl) ?_)))
local macro_rules | `(tactic| walk_at "sub") => `(tactic| first | exact List.forall_mem_nil _ | refine List.forall_mem_cons.mpr ⟨by k_mem, by walk_at "sub"⟩)
local macro_rules | `(tactic| walk_at "hnd1") => `(tactic| first | exact apart_nil | refine apart_cons (by k_ne) (by walk_at "hnd1"))
local macro_rules | `(tactic| walk_at "hnd2") => `(tactic| first | exact Apart.nil | refine Apart.cons (by walk_at "hnd1") (by walk_at "hnd2"))
local macro_rules | `(tactic| walk_at "hnd") => `(tactic| exact Apart.nd (by walk_at "hnd2"))
local macro_rules | `(tactic| k_ne) => `(tactic| first | exact NE.out (by assumption) | exact NE.flip (by assumption) | (refine neN ?_; (try dsimp only); omega))
local macro_rules | `(tactic| walk_at "mem") => `(tactic| first | exact List.Mem.head _ | (refine List.Mem.tail _ ?_; walk_at "mem"))
theorem law_all : PySem.Challenge.rw_sx0025_01.Holds := by
  refine hd ?_
  k_go0
  all_goals try k_fold
  rename (hd.heap_39 _).In _ => KX
  rename Top _ _ _ _ _ _ => TT
  rename Fr _ _ _ _ => F
  rename News _ _ _ _ => N
  rename IntsAre _ _ => hI
  rename Heap.IsList _ _ _ => hL
  rename Shared.gens _ = _ => hg
  rename ¬ _ => hlen
  rename_i _ _ h4 h3 h2 h1 _
  refine wpAny_mono (law_run KX (topRead_of TT) rfl (Nat.le_of_ble_eq_true rfl) (Nat.le_of_ble_eq_true rfl) F N h1 h2 h3 h4 hL hI (by omega) fun h tk m F' => ?_) (fun _ _ x => x) (fun _ _ x => x.elim)
  show GoodW _ _ _ _ _ (.ok (.ret (.bool true))) _
  refine goodW_bool F' hg (fun _ => rfl) ?_
  wrow_post
end Mine
end LW_part
theorem PySem.Challenge.cw_sx0025_01_holds : PySem.Challenge.rw_sx0025_01.Holds :=
  Mine.law_all
