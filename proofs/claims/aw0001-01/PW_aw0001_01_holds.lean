import PyProof.Rows.All
import Wide.All
import OpenK.AllK
import Wide.FinOn
import PySem.Challenge.RW_aw0001_01
open PySem PySem.W PySem.Calls PyProof.Rows
set_option Elab.async false
namespace Mine
set_option maxRecDepth 100000 in
set_option maxHeartbeats 8000000 in
open_top hd for PySem.Challenge.rw_aw0001_01
end Mine
namespace Mine

/-- the caller's own objects, out of the walk's sight -/
def OwnIs (h₀ : Heap) (L : Addr) (h : Heap) (own : List (Addr × Obj)) : Prop := News h₀ L h own
/-- what a caller gets back: its own objects stand as they stood -/
def OwnBack (own : List (Addr × Obj)) (R : Result → Shared → Prop) (r : Result) (s' : Shared) : Prop := (∀ p ∈ own, s'.heap.get? p.1 = some p.2) → R r s'
/-- the callee's ground bears the caller's own objects -/
def OwnG (own : List (Addr × Obj)) (g : Heap) : Prop := ∀ q ∈ own, g.get? q.1 = some q.2
theorem own_apart {own n' : List (Addr × Obj)} {g h' : Heap} {L' : Addr} (hg : OwnG own g) (N' : News g L' h' n') : OwnOff own (n'.map (·.1)) := fun q hq b hb e => by
  obtain ⟨r, hr, rfl⟩ := List.mem_map.mp hb
  have h1 := hg q hq
  rw [e, (N' r hr).2.2] at h1
  cases h1

section
variable {prog : Program} {w : World} {A A₀ : Around} {s : Shared} {K : Frag} {L : Addr} {h₀ base : Heap} {m mg mb : Str → Option Value} {news own : List (Addr × Obj)} {p : Program} {loose : List Str} {mean : ExcName → Option Value}
theorem own_off {h : Heap} {as : List Addr} (hn : ∀ q ∈ own, h.get? q.1 = some q.2) (hoff : OwnOff own as) : ∀ q ∈ own, (hideAll h as).get? q.1 = some q.2 := fun q hq =>
  hideAll_get _ (hn q hq) fun hb => hoff q hq _ hb rfl
/-- a def's call that sees the objects of news alone; those of own stay -/
theorem code_own {env : Env} {outer : List Env} {R : Result → Shared → Prop} {name qual : Str} {params : Arguments} {body : List Stmt} {scope : Scope} {dV kV doc pm cdv ct oc : Value} {an od : Option Addr} {osl : Array (Option Value)} {f : Addr} {args : Args} {binds : List (Str × Value)}
    (B : Below A₀ base outer h₀) (F : Fr h₀ L s.heap m) (X₀ : K.In h₀) (N : News h₀ L s.heap news) (No : OwnIs h₀ L s.heap own) (hoff : OwnOff own (news.map (·.1))) (T : Top p loose mean mg mb h₀) (hA : A.frames = some (env :: outer)) (hf : env.frame = some L) (hke : env.scope.kind = .function)
    (ho : K.lookup f = some ⟨oc, od, .func (fnOf name qual params body scope dV kV doc pm an cdv ct), osl⟩) (hcd : codeIn K cdv qual = true) (hroom : A.depth < recursionLimit)
    (hbind : BindsTo s (fnOf name qual params body scope dV kV doc pm an cdv ct) args binds) (hloc : ∀ y ∈ binds, scope.names.lookup y.1 = some .local)
    (h : ∀ g L' h₁, Fr h₀ L g m → Fr g L' h₁ (fun y => binds.reverse.lookup y) → News g L' h₁ news → Below A base (env :: outer) g → K.In g → Top p loose mean mg mb g → OwnG own g →
      wpAny (model prog w) (A.deeper (envOf qual scope L' f cdv)) (execs body (envOf qual scope L' f cdv))
        (fun fl s' => LeaveK h₀ L m g (OwnBack own R) (match fl with | .ret v => v | _ => .none) s')
        (fun e s' => wpAny (model prog w) (A.deeper (envOf qual scope L' f cdv)) (leaving (envOf qual scope L' f cdv) e) (fun _ s'' => R (.error e) s'') (fun e' s'' => R (.error e') s'') s')
        { s with heap := h₁, toks := s.toks + binds.length })
    (hco : scope.isCoroutine = false) (hgen : scope.isGenerator = false) (hk : scope.kind = .function)
    (hcell : ∀ x ∈ scope.names, x.2 ≠ .cell) : codeAny (model prog w) A (.call (.ref f) args) R s := by
  have hst := X₀.keeps F.keep
  obtain ⟨FG, BG, st, lv⟩ := groundX (R := R) B F N hA hf hke
  have hog := own_off (fun q hq => (No q hq).1) hoff
  refine codeAny_call_def (fd := fnOf name qual params body scope dV kV doc pm an cdv ct) (body := body) (binds := binds) hroom (hst _ _ ho) rfl (T.nolimit.keeps F.keep) (codeRec_of hst hcd) rfl hbind hcell hloc (fun h₁ hns hk₁ => ?_) hco hgen hk
  refine wpAny_mono (h _ s.heap.objs.size h₁ FG ⟨hns, fun b o e => hk₁ b o (of_hideAll _ e), Nat.le_of_eq (hideAll_size _ _)⟩
    (fun q hq => ⟨hk₁ _ _ (N q hq).1, Nat.ne_of_lt (Heap.lt_size (N q hq).1), hideAll_none _ (List.mem_map_of_mem hq)⟩) BG (X₀.keeps st) (T.keeps st) hog) (fun fl s' hl => lv _ _ ?_) fun _ _ y => y
  obtain ⟨L', m', news', F', N', k⟩ := hl
  exact ⟨L', m', news', F', N', fun a b => k a b fun q hq => F'.keep _ _ (hog q hq)⟩
theorem news_own {h h' : Heap} {n' : List (Addr × Obj)} (N' : News h₀ L h' n') (No : OwnIs h₀ L h own) (hk : ∀ q ∈ own, h'.get? q.1 = some q.2) : News h₀ L h' (n' ++ own) := fun q hq =>
  (List.mem_append.mp hq).elim (N' q) fun h1 => ⟨hk q h1, (No q h1).2⟩
end

/-- what the pacer holds, name by name -/
abbrev pacerD (P : Params) (k1 k2 k3 k4 k5 : Tok) (size : Int) (u1 : Tok) (bm : Int) (u2 : Tok) (bt : Int) (u3 : Tok) (et : Int) (u4 : Tok) (pt : Value) : Obj :=
  dictOf [⟨PyData.keyHash P (Str.ofString "_max_datagram_size"), .str (Str.ofString "_max_datagram_size") k1, .int size u1⟩,
    ⟨PyData.keyHash P (Str.ofString "bucket_max"), .str (Str.ofString "bucket_max") k2, .int bm u2⟩,
    ⟨PyData.keyHash P (Str.ofString "bucket_time"), .str (Str.ofString "bucket_time") k3, .int bt u3⟩,
    ⟨PyData.keyHash P (Str.ofString "evaluation_time"), .str (Str.ofString "evaluation_time") k4, .int et u4⟩,
    ⟨PyData.keyHash P (Str.ofString "packet_time"), .str (Str.ofString "packet_time") k5, pt⟩] 5
/-- the purse's pairs -/
abbrev purseL (c : Value) (mo : Int) (u2 : Tok) (le : Int) (u3 : Tok) (se : Int) (u4 : Tok) (sl : Addr) (ho : Int) (u6 : Tok) (to : Value) : List (Str × Value) :=
  [(Str.ofString "cost", c), (Str.ofString "most", .int mo u2), (Str.ofString "left", .int le u3), (Str.ofString "seen", .int se u4),
    (Str.ofString "sent", .ref sl), (Str.ofString "hold", .int ho u6), (Str.ofString "told", to)]
end Mine
namespace Mine
def fillL (le se mo now : Int) : Int := if se < now then min (le + (now - se)) mo else le
def fillS (se now : Int) : Int := if se < now then now else se
def payL (lf cost : Int) : Int := if lf < cost then 0 else lf - cost
/-- what each sent datagram is known to have behind it: full ones and short ones -/
def Paid (cost mo le se ho now : Int) (ts : List Int) : Prop :=
  ∀ (k : Nat) (t : Int), ts[k]? = some t → ∃ f s : Int, 0 ≤ f ∧ 0 ≤ s ∧ f + s = (ts.length : Int) - k ∧ cost * f + le ≤ mo + se - t ∧ cost * s ≤ max ho now - t
structure Good (cost mo le se ho now : Int) (ts : List Int) : Prop where
  c1 : 1 ≤ cost
  l0 : 0 ≤ le
  l1 : le ≤ mo
  s0 : 0 ≤ se
  s1 : se ≤ now
  paid : Paid cost mo le se ho now ts
section
variable {cost mo le se ho now : Int} {ts : List Int}
theorem Paid.nil {ho : Int} : Paid cost mo le se ho now [] := fun k t h => by simp at h
theorem Good.start (h : Good cost mo le se ho now []) (ho' : Int) : Good cost mo le se ho' now [] := ⟨h.c1, h.l0, h.l1, h.s0, h.s1, Paid.nil⟩
theorem Good.clear (h : Good cost mo le se ho now ts) : Good cost mo le se ho now [] := ⟨h.c1, h.l0, h.l1, h.s0, h.s1, Paid.nil⟩
theorem Good.pass {now' : Int} (h : Good cost mo le se ho now ts) (hn : now ≤ now') : Good cost mo le se ho now' ts := by
  refine ⟨h.c1, h.l0, h.l1, h.s0, Int.le_trans h.s1 hn, fun k t hk => ?_⟩
  obtain ⟨f, s, h1, h2, h3, h4, h5⟩ := h.paid k t hk
  exact ⟨f, s, h1, h2, h3, h4, by omega⟩
theorem Good.ask {τ lf sf : Int} (h : Good cost mo le se ho now ts) (hn : τ ≤ now) (e1 : lf = fillL le se mo τ) (e2 : sf = fillS se τ) : Good cost mo lf sf ho now ts := by
  obtain ⟨c1, l0, l1, s0, s1, hp⟩ := h
  have key : 0 ≤ lf ∧ lf ≤ mo ∧ 0 ≤ sf ∧ sf ≤ now ∧ lf - sf ≤ le - se := by
    subst e1 e2
    unfold fillL fillS
    split <;> omega
  refine ⟨c1, key.1, key.2.1, key.2.2.1, key.2.2.2.1, fun k t hk => ?_⟩
  obtain ⟨f, s, h1, h2, h3, h4, h5⟩ := hp k t hk
  exact ⟨f, s, h1, h2, h3, by omega, h5⟩
theorem Good.spend {lf sf : Int} (h : Good cost mo le se ho now ts) (e1 : lf = payL (fillL le se mo now) cost) (e2 : sf = fillS se now) : Good cost mo lf sf ho now [] := by
  obtain ⟨c1, l0, l1, s0, s1, hp⟩ := h
  have key : 0 ≤ lf ∧ lf ≤ mo ∧ 0 ≤ sf ∧ sf ≤ now := by
    subst e1 e2
    unfold payL fillL fillS
    repeat' split <;> omega
  exact ⟨c1, key.1, key.2.1, key.2.2.1, key.2.2.2, Paid.nil⟩
/-- a datagram sent when it may be, and asked behind it -/
theorem Good.send {now' lf sf lf2 sf2 ho' : Int} (h : Good cost mo le se ho now ts) (hn : now' = max now ho) (e1 : lf = payL (fillL le se mo now') cost) (e2 : sf = fillS se now')
    (e3 : lf2 = fillL lf sf mo now') (e4 : sf2 = fillS sf now') (hh : (lf2 ≤ 0 ∧ ho' = now' + cost) ∨ (0 < lf2 ∧ ho' = ho)) :
    Good cost mo lf2 sf2 ho' now' (ts ++ [now']) ∧ sf2 = now' ∧ ho' ≤ now' + cost := by
  obtain ⟨c1, l0, l1, s0, s1, hp⟩ := h
  have hs : sf = now' := by rw [e2]; unfold fillS; split <;> omega
  have hs2 : sf2 = now' := by rw [e4, hs]; unfold fillS; split <;> omega
  have hl2 : lf2 = lf := by rw [e3, hs]; unfold fillL; split <;> omega
  have hF : ∃ F, F = fillL le se mo now' ∧ 0 ≤ F ∧ F ≤ mo ∧ F - now' ≤ le - se := by
    refine ⟨_, rfl, ?_⟩
    unfold fillL
    split <;> omega
  obtain ⟨F, eF, F0, F1, F2⟩ := hF
  rw [← eF] at e1
  have hpay : (F < cost ∧ lf = 0) ∨ (cost ≤ F ∧ lf = F - cost) := by
    rw [e1]; unfold payL
    split
    · exact .inl ⟨by assumption, rfl⟩
    · exact .inr ⟨by omega, rfl⟩
  have hho : ho' ≤ now' + cost ∧ ho ≤ max ho' now' := by omega
  refine ⟨⟨c1, by omega, by omega, by omega, by omega, fun k t hk => ?_⟩, hs2, hho.1⟩
  rw [List.length_append, List.length_singleton]
  by_cases hlt : k < ts.length
  · rw [List.getElem?_append_left hlt] at hk
    obtain ⟨f, s, h1, h2, h3, h4, h5⟩ := hp k t hk
    rcases hpay with ⟨p1, p2⟩ | ⟨p1, p2⟩
    · refine ⟨f, s + 1, h1, by omega, by omega, by omega, ?_⟩
      have : cost * (s + 1) = cost * s + cost := by rw [Int.mul_add, Int.mul_one]
      omega
    · refine ⟨f + 1, s, by omega, h2, by omega, ?_, by omega⟩
      have : cost * (f + 1) = cost * f + cost := by rw [Int.mul_add, Int.mul_one]
      omega
  · have hk2 : k = ts.length := by
      have := (List.getElem?_eq_some_iff.mp hk).1
      rw [List.length_append, List.length_singleton] at this
      omega
    subst hk2
    rw [List.getElem?_append_right (Nat.le_refl _), Nat.sub_self] at hk
    have ht : t = now' := by simpa using hk.symm
    subst ht
    rcases hpay with ⟨p1, p2⟩ | ⟨p1, p2⟩
    · exact ⟨0, 1, by omega, by omega, by omega, by omega, by omega⟩
    · exact ⟨1, 0, by omega, by omega, by omega, by omega, by omega⟩
theorem fdiv_bound {a b c : Int} (hc : 1 ≤ c) (h : c * a ≤ b) : a ≤ b.fdiv c := by
  rw [Int.fdiv_eq_ediv_of_nonneg b (by omega)]
  exact Int.le_ediv_of_mul_le (by omega) (by rw [Int.mul_comm]; exact h)
theorem fdiv_add {a b c : Int} (hc : 1 ≤ c) : (a + b).fdiv c ≤ a.fdiv c + b.fdiv c + 1 := by
  rw [Int.fdiv_eq_ediv_of_nonneg _ (by omega), Int.fdiv_eq_ediv_of_nonneg _ (by omega), Int.fdiv_eq_ediv_of_nonneg _ (by omega)]
  have h1 := Int.mul_ediv_add_emod a c
  have h2 := Int.mul_ediv_add_emod b c
  have h3 := Int.emod_lt_of_pos a (show 0 < c by omega)
  have h4 := Int.emod_lt_of_pos b (show 0 < c by omega)
  have h5 : a + b < (a / c + b / c + 2) * c := by
    have e : (a / c + b / c + 2) * c = c * (a / c) + c * (b / c) + 2 * c := by
      rw [Int.add_mul, Int.add_mul, Int.mul_comm (a / c), Int.mul_comm (b / c)]
    omega
  have := Int.ediv_lt_of_lt_mul (show 0 < c by omega) h5
  omega
theorem Good.few (h : Good cost mo le se ho now ts) (hs : se = now) (hh : ho ≤ now + cost) (hl : ts.getD (ts.length - 1) 0 = now) :
    ∀ k : Nat, k < ts.length → (ts.length : Int) - k ≤ mo.fdiv cost + 2 * ((ts.getD (ts.length - 1) 0 - ts.getD k 0).fdiv cost) + 3 := by
  intro k hk
  obtain ⟨f, s, h1, h2, h3, h4, h5⟩ := h.paid k ts[k] (List.getElem?_eq_getElem hk)
  have hg : ts.getD k 0 = ts[k] := by simp [List.getD, hk]
  rw [hl, hg]
  have c1 := h.c1
  have l0 := h.l0
  have a1 : f ≤ (mo + (now - ts[k])).fdiv cost := fdiv_bound c1 (by omega)
  have a2 := fdiv_add (a := mo) (b := now - ts[k]) c1
  have a3 : s - 1 ≤ (now - ts[k]).fdiv cost := fdiv_bound c1 (by rw [Int.mul_sub, Int.mul_one]; omega)
  omega
end
end Mine
namespace Mine
/-- the end of a turn of a loop over a range: any ledger that stands off the loop's own iterator -/
def FreeEnd (h₀ : Heap) (L I : Addr) (o : Obj) (R : (Str → Option Value) → List (Addr × Obj) → Prop) (s₁ s₂ : Shared) : Prop :=
  ∃ h' tk m' nx, s₂ = { s₁ with heap := h', toks := tk } ∧ Fr h₀ L h' m' ∧ News h₀ L h' ((I, o) :: nx) ∧ (∀ p ∈ nx, p.1 ≠ I) ∧ R m' nx
def FreePost (h₀ : Heap) (L I : Addr) (o : Obj) (R : (Str → Option Value) → List (Addr × Obj) → Prop) (s₁ : Shared) (Q : Flow → Shared → Prop) (f : Flow) (s₂ : Shared) : Prop :=
  match f with
  | .ret v => Q (.ret v) s₂
  | .brk => Q .next s₂
  | _ => FreeEnd h₀ L I o R s₁ s₂
theorem FreeEnd.intro {h₀ h' : Heap} {L I : Addr} {o : Obj} {R : (Str → Option Value) → List (Addr × Obj) → Prop} {s₁ : Shared} {tk : Nat} {m' : Str → Option Value} {nx : List (Addr × Obj)}
    (F : Fr h₀ L h' m') (N : News h₀ L h' ((I, o) :: nx)) (hn : ∀ p ∈ nx, p.1 ≠ I) (hR : R m' nx) : FreeEnd h₀ L I o R s₁ { s₁ with heap := h', toks := tk } := ⟨h', tk, m', nx, rfl, F, N, hn, hR⟩
section
variable {prog : Program} {w : World} {A : Around} {E : Value → Shared → Prop} {s : Shared} {env : Env} {h₀ : Heap} {x : Str} {body : List Stmt} {Q : Flow → Shared → Prop}
theorem range_free {r : Addr} {a₀ b₀ c : Int} {t₀ u₀ v₀ : Tok} {n : Nat} {m₀ : Str → Option Value} {news : List (Addr × Obj)} (R : Nat → (Str → Option Value) → List (Addr × Obj) → Prop)
    (hh : A.handled = none) (hr : IsRange s.heap r a₀ b₀ c t₀ u₀ v₀) (hsmall : Builtin.Range.small a₀ b₀ c = true) (hn : Builtin.Range.rangeSize a₀ b₀ c = (n : Int))
    (F : Fr h₀ env.locals s.heap m₀) (N : News h₀ env.locals s.heap news) (h0 : R 0 m₀ news)
    (turn : ∀ i t m₁ nx h tk I o, i < n → R i m₁ nx → (∀ p ∈ news, @LT.lt Nat _ p.1 I) → (∀ p ∈ nx, p.1 ≠ I) → Fr h₀ env.locals h (fun y => if y = x then some (.int (a₀ + (i : Int) * c) t) else m₁ y) → News h₀ env.locals h ((I, o) :: nx) →
      wpAny (model prog w) A (execs body env) (FreePost h₀ env.locals I o (R (i + 1)) { s with heap := h, toks := tk } Q) E { s with heap := h, toks := tk })
    (done : ∀ m₁ nx h tk, R n m₁ nx → Fr h₀ env.locals h m₁ → News h₀ env.locals h nx → Q .next { s with heap := h, toks := tk }) :
    wpAny (model prog w) A (pyIter (.ref r)) (fun it s₂ => LoopAtV prog w A h₀ env x body Q E it s₂) E s := by
  refine wpAny_pyIter_range hr hsmall ?_
  have W := (Walks.range (prog := prog) (w := w) hh s.heap.objs.size a₀ c n).bound
  refine ⟨s.heap.objs.size, _, _, n, _, _, m₀, news, R, rfl, W, ?_, ?_, ?_, ?_, F.push _, fun p hp => ⟨Heap.get?_push_of_some _ (N p hp).1, (N p hp).2⟩, h0, ?_, ?_⟩
  · intro hm
    exact absurd F.ns.lt ((List.mem_singleton.mp hm) ▸ Nat.lt_irrefl _)
  · intro b hb
    rw [List.mem_singleton.mp hb]
    exact next_is_new F
  · intro p hp hI
    exact absurd (Heap.lt_size (N p hp).1) ((List.mem_singleton.mp hI) ▸ Nat.lt_irrefl _)
  · show IsRangeIter _ _ _ _ _
    rw [hn]
    simpa using Heap.get?_push_size _ rfl
  · rintro i v m₁ nx s₁ own ⟨hh', tk', rfl⟩ hin ⟨_, t, rfl⟩ hR hoff hown _ hall hst F₁ N₁
    obtain ⟨o, ho⟩ : ∃ o, hh'.get? s.heap.objs.size = some o := ⟨_, hst⟩
    have hone : ∀ p ∈ own, p = (s.heap.objs.size, o) := fun p hp => by
      have e1 : p.1 = s.heap.objs.size := List.mem_singleton.mp (hown p hp)
      have e2 := (N₁ p (List.mem_append_left _ hp)).1
      rw [e1, ho] at e2
      exact Prod.ext e1 (Option.some.inj e2).symm
    have hio : (s.heap.objs.size, o) ∈ own := hall _ (List.mem_singleton.mpr rfl) (next_is_new F) o ho
    have N₂ : News h₀ env.locals hh' ((s.heap.objs.size, o) :: nx) := fun p hp => by
      rcases List.mem_cons.mp hp with e | hp
      · exact e ▸ N₁ _ (List.mem_append_left _ hio)
      · exact N₁ p (List.mem_append_right _ hp)
    refine wpAny_mono (turn i t m₁ nx hh' tk' _ o hin hR (fun p hp => Heap.lt_size (N p hp).1) (fun p hp e => hoff p hp (List.mem_singleton.mpr e)) F₁ N₂) (fun f s₂ q => ?_) fun _ _ e => e
    have fin : FreeEnd h₀ env.locals s.heap.objs.size o (R (i + 1)) { s with heap := hh', toks := tk' } s₂ → LoopStepU h₀ env.locals [s.heap.objs.size] own (R (i + 1)) { s with heap := hh', toks := tk' } .next s₂ := by
      rintro ⟨h', tk, m', nx', e, F', N', hn', hm⟩
      refine ⟨rfl, h', tk, m', nx', e, F', fun p hp => ?_, fun p hp hq => hn' p hp (List.mem_singleton.mp hq), hm⟩
      rcases List.mem_append.mp hp with hp | hp
      · exact N' p (hone p hp ▸ List.mem_cons_self)
      · exact N' p (List.mem_cons_of_mem _ hp)
    cases f with
    | ret v => exact .ret q
    | brk => exact .brk q
    | next => exact .next (fin q)
    | cont => exact .cont (fin q)
  · rintro h' tk m' nx' F' N' _ hR
    exact done m' nx' h' tk hR F' N'
end
/-- the law's own text -/
def lawDef : List Stmt × Scope := match PySem.Challenge.pw_aw0001_01.main.body.getLast? with
  | some (Stmt.FunctionDef (body := b) (scope := c) ..) => (b, c)
  | _ => ([], default)
def turnBody : List Stmt := match (lawDef.1.drop 6).head? with
  | some (Stmt.For (body := b) ..) => b
  | _ => []
def elseOf : List Stmt → List Stmt
  | [Stmt.If (orelse := e) ..] => e
  | _ => []
def innerBody : List Stmt := match elseOf (elseOf (elseOf (elseOf (turnBody.drop 3)))) with
  | [Stmt.For (body := b) ..] => b
  | _ => []
end Mine
namespace Mine
/-- between two turns: the frame's names, the ledger, what holds of the numbers -/
def LawR (w : World) (x d dx D : Addr) (size : Int) (rest : List (Addr × Obj)) (n : Nat) (m : Str → Option Value) (nx : List (Addr × Obj)) : Prop :=
  ∃ (now : Int) (tn tz : Tok) (sl : Addr) (o : Obj) (svs : List Value) (ts : List Int) (sn : Nat) (k1 k2 k3 k4 k5 u1 u2 u3 u4 v2 v3 v4 v6 : Tok) (mo le se ho : Int) (pt c to : Value),
    m (Str.ofString "now") = some (.int now tn) ∧ m (Str.ofString "size") = some (.int size tz) ∧ m (Str.ofString "pacer") = some (.ref x) ∧ m (Str.ofString "purse") = some (.ref d) ∧ m (Str.ofString "numbers") = some (.ref D) ∧
    nx = (sl, listOf svs.toArray sn) :: (d, o) :: (x, instObj 59 dx) :: (dx, pacerD w.params k1 k2 k3 k4 k5 size u1 mo u2 le u3 se u4 pt) :: rest ∧
    IntsAre svs ts ∧ o.IsDictOf (PySem.strKind PySem.Challenge.rw_aw0001_01.row.prog w) (purseL c mo v2 le v3 se v4 sl ho v6 to) ∧ (@LT.lt Nat _ dx x ∧ @LT.lt Nat _ x d ∧ @LT.lt Nat _ d sl) ∧ OwnOff rest [sl] ∧ ts.length ≤ n ∧ 0 ≤ now ∧
    ((pt = .none ∧ c = .none ∧ ts = [] ∧ 0 ≤ le ∧ 0 ≤ se ∧ se ≤ now) ∨ ∃ (cost : Int) (u v : Tok), pt = .int cost u ∧ c = .int cost v ∧ Good cost mo le se ho now ts)
theorem law_map {z : Str} {v v1 v2 v3 v4 v5 : Value} {m : Str → Option Value} (h1 : m (Str.ofString "now") = some v1) (h2 : m (Str.ofString "size") = some v2) (h3 : m (Str.ofString "pacer") = some v3) (h4 : m (Str.ofString "purse") = some v4) (h5 : m (Str.ofString "numbers") = some v5) :
    (fun y => if y = z then some v else m y) = fun y => if y = z then some v else if y = Str.ofString "now" then some v1 else if y = Str.ofString "size" then some v2 else if y = Str.ofString "pacer" then some v3 else if y = Str.ofString "purse" then some v4 else if y = Str.ofString "numbers" then some v5 else m y := by
  funext y
  by_cases e : y = z
  · rw [if_pos e, if_pos e]
  · rw [if_neg e, if_neg e]
    by_cases e1 : y = Str.ofString "now"
    · rw [if_pos e1, e1]; exact h1
    · rw [if_neg e1]
      by_cases e2 : y = Str.ofString "size"
      · rw [if_pos e2, e2]; exact h2
      · rw [if_neg e2]
        by_cases e3 : y = Str.ofString "pacer"
        · rw [if_pos e3, e3]; exact h3
        · rw [if_neg e3]
          by_cases e4 : y = Str.ofString "purse"
          · rw [if_pos e4, e4]; exact h4
          · rw [if_neg e4]
            by_cases e5 : y = Str.ofString "numbers"
            · rw [if_pos e5, e5]; exact h5
            · rw [if_neg e5]
def offC (a : Nat) : List Addr → Prop
  | [] => True
  | b :: r => a ≠ b ∧ offC a r
def offL : List (Addr × Obj) → List Addr → Prop
  | [], _ => True
  | p :: r, as => offC p.1 as ∧ offL r as
theorem offC_mem {a : Nat} (as : List Addr) (h : offC a as) : ∀ b ∈ as, a ≠ b := by
  induction as with
  | nil => intro b hb; cases hb
  | cons c r ih =>
    intro b hb
    rcases List.mem_cons.mp hb with e | hb
    · rw [e]; exact h.1
    · exact ih h.2 b hb
theorem off_of {as : List Addr} {own : List (Addr × Obj)} (h : offL own as) : OwnOff own as := by
  induction own with
  | nil => intro p hp; cases hp
  | cons c r ih =>
    intro p hp
    rcases List.mem_cons.mp hp with e | hp
    · rw [e]; exact offC_mem as h.1
    · exact ih h.2 p hp
theorem ints_snoc {vs : List Value} {ns : List Int} (h : IntsAre vs ns) (n : Int) (t : Tok) : IntsAre (vs ++ [.int n t]) (ns ++ [n]) := by
  induction h with
  | nil => exact .cons n t .nil
  | cons k u _ ih => exact .cons k u ih
theorem svs_size {svs : List Value} {ts : List Int} {n : Nat} (hI : IntsAre svs ts) (hlen : ts.length ≤ n) (hn : n ≤ 500) : svs.toArray.size ≤ sizeLine := by
  rw [sizeLine_eq, List.size_toArray, hI.length]; omega
theorem max_free {prog : Program} {w : World} {A : Around} {E : Value → Shared → Prop} {s : Shared} {h₀ : Heap} {L : Addr} {m : Str → Option Value} {news : List (Addr × Obj)} {a b : Int} {t u : Tok} {Q : Value → Shared → Prop} (hh : A.handled = none) (F : Fr h₀ L s.heap m) (N : News h₀ L s.heap news)
    (h : ∀ v tv h' tk, v = max a b → Fr h₀ L h' m → News h₀ L h' news → Q (.int v tv) { s with heap := h', toks := tk }) :
    wpAny (model prog w) A (call (.builtin "max") [.int a t, .int b u]) Q E s := max_two_N hh F N fun h' tk F' N' => h _ _ h' tk (by split <;> omega) F' N'
theorem getD_snoc (ts : List Int) (v : Int) : (ts ++ [v]).getD ((ts ++ [v]).length - 1) 0 = v := by
  simp [List.getD]
set_option maxHeartbeats 4000000 in
theorem law_end {w : World} {h₀ h' : Heap} {L J x d dx D : Addr} {oJ : Obj} {size : Int} {rest : List (Addr × Obj)} {n : Nat} {s₁ : Shared} {tk : Nat} {m' : Str → Option Value} {now : Int} {tn tz : Tok} {sl : Addr} {o : Obj} {svs : List Value} {ts : List Int} {sn : Nat} {k1 k2 k3 k4 k5 u1 u2 u3 u4 v2 v3 v4 v6 : Tok} {mo le se ho : Int} {pt c to : Value}
    (F : Fr h₀ L h' m') (N : News h₀ L h' ((J, oJ) :: (sl, listOf svs.toArray sn) :: (d, o) :: (x, instObj 59 dx) :: (dx, pacerD w.params k1 k2 k3 k4 k5 size u1 mo u2 le u3 se u4 pt) :: rest))
    (hd : o.IsDictOf (PySem.strKind PySem.Challenge.rw_aw0001_01.row.prog w) (purseL c mo v2 le v3 se v4 sl ho v6 to))
    (h1 : m' (Str.ofString "now") = some (.int now tn)) (h2 : m' (Str.ofString "size") = some (.int size tz)) (h3 : m' (Str.ofString "pacer") = some (.ref x)) (h4 : m' (Str.ofString "purse") = some (.ref d)) (h5 : m' (Str.ofString "numbers") = some (.ref D))
    (hI : IntsAre svs ts) (hlt : @LT.lt Nat _ dx x ∧ @LT.lt Nat _ x d ∧ @LT.lt Nat _ d sl) (hoff : OwnOff rest [sl]) (hJ : @Ne Nat sl J ∧ @Ne Nat d J ∧ @Ne Nat x J ∧ @Ne Nat dx J) (hJr : ∀ p ∈ rest, p.1 ≠ J) (hn : ts.length ≤ n) (h0 : 0 ≤ now)
    (hp : (pt = .none ∧ c = .none ∧ ts = [] ∧ 0 ≤ le ∧ 0 ≤ se ∧ se ≤ now) ∨ ∃ (cost : Int) (u v : Tok), pt = .int cost u ∧ c = .int cost v ∧ Good cost mo le se ho now ts) :
    FreeEnd h₀ L J oJ (LawR w x d dx D size rest n) s₁ { s₁ with heap := h', toks := tk } := by
  refine FreeEnd.intro F N ?_ ⟨now, tn, tz, sl, o, svs, ts, sn, k1, k2, k3, k4, k5, u1, u2, u3, u4, v2, v3, v4, v6, mo, le, se, ho, pt, c, to, h1, h2, h3, h4, h5, rfl, hI, hd, hlt, hoff, hn, h0, hp⟩
  intro p hp
  rcases List.mem_cons.mp hp with rfl | hp
  · exact hJ.1
  rcases List.mem_cons.mp hp with rfl | hp
  · exact hJ.2.1
  rcases List.mem_cons.mp hp with rfl | hp
  · exact hJ.2.2.1
  rcases List.mem_cons.mp hp with rfl | hp
  · exact hJ.2.2.2
  · exact hJr p hp
end Mine
namespace Mine
local macro_rules | `(tactic| walk_at "mine steps") => `(tactic| repeat' ((fail_if_success (with_reducible show wpAny _ _ (pyIter _) _ _ _)); (fail_if_success (with_reducible show OwnBack _ _ _ _)); first | (k_unfold; (try dsimp only)) | (k_end; wrow_close) | walk1 | (dsimp only; walk1) | (leave1; walk_say "STEP leave1"; try dsimp only) | fail "no step"))
local macro_rules | `(tactic| walk_at "mine enter") => `(tactic| (refine wpAny_call ?_; refine' code_own ?k1 ?k2 ?k3 ?k4 ?no ?off ?k5 ?kA ?kF ?kK ?k6 ?k7 ?k8 ?k9 ?kB ?_ ?c2 ?c3 ?c4 ?c5; (case kA => exact rfl); (case kF => exact rfl); (case kK => assumption); (case k1 => k_asm); (case k2 => k_asm); (case k3 => k_asm); (case k4 => k_asm); (case no => k_asm); (case off => assumption); (case k5 => k_asm); (case k6 => k_is); (case k7 => k_is); (case k8 => k_room); (case k9 => exact BindsTo.of_eq rfl); (case c5 => decide); (case kB => exact locs rfl); (case c2 => exact rfl); (case c3 => exact rfl); (case c4 => exact rfl); k_whole; intro g' L' h' FG' F' N' B' X' T' hog'; (try dsimp only); (try k_lift B'); (try k_fold)))

set_option maxRecDepth 100000 in
set_option maxHeartbeats 8000000 in
theorem asked_none : ∀ {w : World} {mg mb : Str → Option Value} {mean : ExcName → Option Value} {h₀ : Heap} {L a : Addr} {cn : Str} {cs : Scope} {ccd : Value} {m : Str → Option Value} {s : Shared} {E : Value → Shared → Prop} {Q : Value → Shared → Prop}
   {sl d x dx : Addr} {o : Obj} {own : List (Addr × Obj)} {now : Int} {tn : Tok}
   {k1 k2 k3 k4 k5 u1 u2 u3 u4 : Tok} {size bm bt et : Int} {v2 v3 v4 v6 : Tok} {mo le se ho : Int} {to : Value},
   (hd.heap_39 w.params).In h₀ → Glob 0 mg mb (List.map itemOf (recsOf hd.view_39)) (scalarsOf [] ++ constsW hd.view_39) [] (namesW hd.view_39 []) h₀ →
   Top hd.view_39 (looseW hd.view_39 []) mean mg mb h₀ → Below callerA h₀ [] h₀ → cs.kind = .function → Fr h₀ L s.heap m →
   News h₀ L s.heap [(d, o), (x, instObj 59 dx), (dx, pacerD w.params k1 k2 k3 k4 k5 size u1 bm u2 bt u3 et u4 .none)] → OwnIs h₀ L s.heap own →
   o.IsDictOf (PySem.strKind PySem.Challenge.rw_aw0001_01.row.prog w) (purseL .none mo v2 le v3 se v4 sl ho v6 to) →
   (@LT.lt Nat _ dx x ∧ @LT.lt Nat _ x d) → OwnOff own [d, x, dx] →
   (∀ h' o' tk (v2 v3 v4 v6 : Tok), Fr h₀ L h' m → News h₀ L h' ([(d, o'), (x, instObj 59 dx), (dx, pacerD w.params k1 k2 k3 k4 k5 size u1 bm u2 bt u3 et u4 .none)] ++ own) →
      o'.IsDictOf (PySem.strKind PySem.Challenge.rw_aw0001_01.row.prog w) (purseL .none mo v2 le v3 se v4 sl ho v6 .none) → Q (.bool true) { s with heap := h', toks := tk }) →
   wpAny (model PySem.Challenge.rw_aw0001_01.row.prog w) (callerA.deeper (envOf cn cs L a ccd)) (call (.ref 98) [.ref x, .ref d, .int now tn]) Q E s := by
  w_top off
  k_fill
  intro w mg mb mean h₀ L a cn cs ccd m s E Q sl d x dx o own now tn k1 k2 k3 k4 k5 u1 u2 u3 u4 size bm bt et v2 v3 v4 v6 mo le se ho to KX GL T B hk F N No hd' l1 hoff hQ
  walk_at "mine enter"
  walk_at "mine steps"
  all_goals (unfold OwnBack; intro hown; exact hQ _ _ _ _ _ _ _ (by assumption) (news_own (by assumption) No hown) (by assumption))

end Mine
namespace Mine
local macro_rules | `(tactic| walk_at "mine steps") => `(tactic| repeat' ((fail_if_success (with_reducible show wpAny _ _ (pyIter _) _ _ _)); (fail_if_success (with_reducible show OwnBack _ _ _ _)); first | (k_unfold; (try dsimp only)) | (k_end; wrow_close) | walk1 | (dsimp only; walk1) | (leave1; walk_say "STEP leave1"; try dsimp only) | fail "no step"))
local macro_rules | `(tactic| walk_at "mine enter") => `(tactic| (refine wpAny_call ?_; refine' code_own ?k1 ?k2 ?k3 ?k4 ?no ?off ?k5 ?kA ?kF ?kK ?k6 ?k7 ?k8 ?k9 ?kB ?_ ?c2 ?c3 ?c4 ?c5; (case kA => exact rfl); (case kF => exact rfl); (case kK => assumption); (case k1 => k_asm); (case k2 => k_asm); (case k3 => k_asm); (case k4 => k_asm); (case no => k_asm); (case off => assumption); (case k5 => k_asm); (case k6 => k_is); (case k7 => k_is); (case k8 => k_room); (case k9 => exact BindsTo.of_eq rfl); (case c5 => decide); (case kB => exact locs rfl); (case c2 => exact rfl); (case c3 => exact rfl); (case c4 => exact rfl); k_whole; intro g' L' h' FG' F' N' B' X' T' hog'; (try dsimp only); (try k_lift B'); (try k_fold)))

set_option maxRecDepth 100000 in
set_option maxHeartbeats 8000000 in
theorem asked_some : ∀ {w : World} {mg mb : Str → Option Value} {mean : ExcName → Option Value} {h₀ : Heap} {L a : Addr} {cn : Str} {cs : Scope} {ccd : Value} {m : Str → Option Value} {s : Shared} {E : Value → Shared → Prop} {Q : Value → Shared → Prop}
   {sl d x dx : Addr} {o : Obj} {own : List (Addr × Obj)} {now : Int} {tn : Tok}
   {k1 k2 k3 k4 k5 u1 u2 u3 u4 u5 : Tok} {size cost : Int} {v1 v2 v3 v4 v6 : Tok} {mo le se ho : Int} {to : Value},
   (hd.heap_39 w.params).In h₀ → Glob 0 mg mb (List.map itemOf (recsOf hd.view_39)) (scalarsOf [] ++ constsW hd.view_39) [] (namesW hd.view_39 []) h₀ →
   Top hd.view_39 (looseW hd.view_39 []) mean mg mb h₀ → Below callerA h₀ [] h₀ → cs.kind = .function → Fr h₀ L s.heap m →
   News h₀ L s.heap [(d, o), (x, instObj 59 dx), (dx, pacerD w.params k1 k2 k3 k4 k5 size u1 mo u2 le u3 se u4 (.int cost u5))] → OwnIs h₀ L s.heap own →
   o.IsDictOf (PySem.strKind PySem.Challenge.rw_aw0001_01.row.prog w) (purseL (.int cost v1) mo v2 le v3 se v4 sl ho v6 to) →
   (@LT.lt Nat _ dx x ∧ @LT.lt Nat _ x d) → OwnOff own [d, x, dx] →
   (∀ {h' : Heap} {o' : Obj} {tk : Nat} {k1 k2 k3 k4 k5 u1 u2 u3 u4 u5 v1 v2 v3 v4 v6 : Tok} {lf sf : Int} {to' : Value}, lf = fillL le se mo now → sf = fillS se now → ((lf ≤ 0 ∧ ∃ t, to' = .int (now + cost) t) ∨ (0 < lf ∧ to' = .none)) →
      Fr h₀ L h' m → News h₀ L h' ([(d, o'), (x, instObj 59 dx), (dx, pacerD w.params k1 k2 k3 k4 k5 size u1 mo u2 lf u3 sf u4 (.int cost u5))] ++ own) →
      o'.IsDictOf (PySem.strKind PySem.Challenge.rw_aw0001_01.row.prog w) (purseL (.int cost v1) mo v2 lf v3 sf v4 sl ho v6 to') → Q (.bool true) { s with heap := h', toks := tk }) →
   wpAny (model PySem.Challenge.rw_aw0001_01.row.prog w) (callerA.deeper (envOf cn cs L a ccd)) (call (.ref 98) [.ref x, .ref d, .int now tn]) Q E s := by
  w_top off
  k_fill
  intro w mg mb mean h₀ L a cn cs ccd m s E Q sl d x dx o own now tn k1 k2 k3 k4 k5 u1 u2 u3 u4 u5 size cost v1 v2 v3 v4 v6 mo le se ho to KX GL T B hk F N No hd' l1 hoff hQ
  have hQ2 : ∀ {h' : Heap} {o' : Obj} {tk : Nat} {k1 k2 k3 k4 k5 u1 u2 u3 u4 u5 v1 v2 v3 v4 v6 : Tok} {lf sf lf2 sf2 : Int} {to' : Value},
      Fr h₀ L h' m → News h₀ L h' ([(d, o'), (x, instObj 59 dx), (dx, pacerD w.params k1 k2 k3 k4 k5 size u1 mo u2 lf u3 sf u4 (.int cost u5))] ++ own) →
      o'.IsDictOf (PySem.strKind PySem.Challenge.rw_aw0001_01.row.prog w) (purseL (.int cost v1) mo v2 lf2 v3 sf2 v4 sl ho v6 to') → lf = fillL le se mo now → sf = fillS se now → lf2 = lf → sf2 = sf → ((lf ≤ 0 ∧ ∃ t, to' = .int (now + cost) t) ∨ (0 < lf ∧ to' = .none)) →
      Q (.bool true) { s with heap := h', toks := tk } := by
    intros; subst_vars; apply hQ rfl rfl <;> assumption
  walk_at "mine enter"
  walk_at "mine steps"
  all_goals (unfold OwnBack; intro hown; (try simp only [beq_self_eq_true]); exact hQ2 (by assumption) (news_own (by assumption) No hown) (by assumption) (by ((unfold fillL; repeat' split) <;> omega)) (by ((unfold fillS; repeat' split) <;> omega)) (by ((repeat' split) <;> omega)) (by omega) (by first | exact .inl ⟨by omega, _, rfl⟩ | exact .inr ⟨by omega, rfl⟩))
end Mine
namespace Mine
local macro_rules | `(tactic| walk_at "mine steps") => `(tactic| repeat' ((fail_if_success (with_reducible show wpAny _ _ (pyIter _) _ _ _)); (fail_if_success (with_reducible show OwnBack _ _ _ _)); first | (k_unfold; (try dsimp only)) | (k_end; wrow_close) | walk1 | (dsimp only; walk1) | (leave1; walk_say "STEP leave1"; try dsimp only) | fail "no step"))
local macro_rules | `(tactic| walk_at "mine enter") => `(tactic| (refine wpAny_call ?_; refine' code_own ?k1 ?k2 ?k3 ?k4 ?no ?off ?k5 ?kA ?kF ?kK ?k6 ?k7 ?k8 ?k9 ?kB ?_ ?c2 ?c3 ?c4 ?c5; (case kA => exact rfl); (case kF => exact rfl); (case kK => assumption); (case k1 => k_asm); (case k2 => k_asm); (case k3 => k_asm); (case k4 => k_asm); (case no => k_asm); (case off => assumption); (case k5 => k_asm); (case k6 => k_is); (case k7 => k_is); (case k8 => k_room); (case k9 => exact BindsTo.of_eq rfl); (case c5 => decide); (case kB => exact locs rfl); (case c2 => exact rfl); (case c3 => exact rfl); (case c4 => exact rfl); k_whole; intro g' L' h' FG' F' N' B' X' T'; (try dsimp only); (try k_lift B'); (try k_fold)))
set_option maxRecDepth 100000 in
set_option maxHeartbeats 8000000 in
theorem sent_none : ∀ {w : World} {mg mb : Str → Option Value} {mean : ExcName → Option Value} {h₀ : Heap} {L a : Addr} {cn : Str} {cs : Scope} {ccd : Value} {m : Str → Option Value} {s : Shared} {E : Value → Shared → Prop} {Q : Value → Shared → Prop}
   {d x dx sl : Addr} {o : Obj} {own : List (Addr × Obj)} {now : Int} {tn : Tok} {k1 k2 k3 k4 k5 u1 u2 u3 u4 : Tok} {size bm bt et : Int} {v2 v3 v4 v6 : Tok} {mo le se ho : Int} {to : Value},
   (hd.heap_39 w.params).In h₀ → Glob 0 mg mb (List.map itemOf (recsOf hd.view_39)) (scalarsOf [] ++ constsW hd.view_39) [] (namesW hd.view_39 []) h₀ →
   Top hd.view_39 (looseW hd.view_39 []) mean mg mb h₀ → Below callerA h₀ [] h₀ → cs.kind = .function → Fr h₀ L s.heap m →
   News h₀ L s.heap [(d, o), (x, instObj 59 dx), (dx, pacerD w.params k1 k2 k3 k4 k5 size u1 bm u2 bt u3 et u4 .none)] → OwnIs h₀ L s.heap own →
   o.IsDictOf (PySem.strKind PySem.Challenge.rw_aw0001_01.row.prog w) (purseL .none mo v2 le v3 se v4 sl ho v6 to) →
   (@LT.lt Nat _ dx x ∧ @LT.lt Nat _ x d) → OwnOff own [d, x, dx] →
   (∀ {h' : Heap} {tk : Nat}, Fr h₀ L h' m → News h₀ L h' ([(d, o), (x, instObj 59 dx), (dx, pacerD w.params k1 k2 k3 k4 k5 size u1 bm u2 bt u3 et u4 .none)] ++ own) → Q .none { s with heap := h', toks := tk }) →
   wpAny (model PySem.Challenge.rw_aw0001_01.row.prog w) (callerA.deeper (envOf cn cs L a ccd)) (call (.ref 105) [.ref x, .ref d, .int now tn]) Q E s := by
  w_top off
  k_fill
  intro w mg mb mean h₀ L a cn cs ccd m s E Q d x dx sl o own now tn k1 k2 k3 k4 k5 u1 u2 u3 u4 size bm bt et v2 v3 v4 v6 mo le se ho to KX GL T B hk F N No hd' l1 hoff hQ
  walk_at "mine enter"
  walk_at "mine steps"
  all_goals (unfold OwnBack; intro hown; exact hQ (by assumption) (news_own (by assumption) No hown))
set_option maxRecDepth 100000 in
set_option maxHeartbeats 8000000 in
theorem sent_some : ∀ {w : World} {mg mb : Str → Option Value} {mean : ExcName → Option Value} {h₀ : Heap} {L a : Addr} {cn : Str} {cs : Scope} {ccd : Value} {m : Str → Option Value} {s : Shared} {E : Value → Shared → Prop} {Q : Value → Shared → Prop}
   {d x dx sl : Addr} {o : Obj} {own : List (Addr × Obj)} {now : Int} {tn : Tok} {k1 k2 k3 k4 k5 u1 u2 u3 u4 u5 : Tok} {size cost : Int} {v1 v2 v3 v4 v6 : Tok} {mo le se ho : Int} {to : Value},
   (hd.heap_39 w.params).In h₀ → Glob 0 mg mb (List.map itemOf (recsOf hd.view_39)) (scalarsOf [] ++ constsW hd.view_39) [] (namesW hd.view_39 []) h₀ →
   Top hd.view_39 (looseW hd.view_39 []) mean mg mb h₀ → Below callerA h₀ [] h₀ → cs.kind = .function → Fr h₀ L s.heap m →
   News h₀ L s.heap [(d, o), (x, instObj 59 dx), (dx, pacerD w.params k1 k2 k3 k4 k5 size u1 mo u2 le u3 se u4 (.int cost u5))] → OwnIs h₀ L s.heap own →
   o.IsDictOf (PySem.strKind PySem.Challenge.rw_aw0001_01.row.prog w) (purseL (.int cost v1) mo v2 le v3 se v4 sl ho v6 to) →
   (@LT.lt Nat _ dx x ∧ @LT.lt Nat _ x d) → OwnOff own [d, x, dx] →
   (∀ {h' : Heap} {o' : Obj} {tk : Nat} {k1 k2 k3 k4 k5 u1 u2 u3 u4 u5 v1 v2 v3 v4 v6 : Tok} {lf sf : Int}, lf = payL (fillL le se mo now) cost → sf = fillS se now →
      Fr h₀ L h' m → News h₀ L h' ([(d, o'), (x, instObj 59 dx), (dx, pacerD w.params k1 k2 k3 k4 k5 size u1 mo u2 lf u3 sf u4 (.int cost u5))] ++ own) →
      o'.IsDictOf (PySem.strKind PySem.Challenge.rw_aw0001_01.row.prog w) (purseL (.int cost v1) mo v2 lf v3 sf v4 sl ho v6 to) → Q .none { s with heap := h', toks := tk }) →
   wpAny (model PySem.Challenge.rw_aw0001_01.row.prog w) (callerA.deeper (envOf cn cs L a ccd)) (call (.ref 105) [.ref x, .ref d, .int now tn]) Q E s := by
  k_fill
  intro w mg mb mean h₀ L a cn cs ccd m s E Q d x dx sl o own now tn k1 k2 k3 k4 k5 u1 u2 u3 u4 u5 size cost v1 v2 v3 v4 v6 mo le se ho to KX GL T B hk F N No hd' l1 hoff hQ
  have hQ2 : ∀ {h' : Heap} {o' : Obj} {tk : Nat} {k1 k2 k3 k4 k5 u1 u2 u3 u4 u5 v1 v2 v3 v4 v6 : Tok} {lf sf lf2 sf2 : Int}, 
      Fr h₀ L h' m → News h₀ L h' ([(d, o'), (x, instObj 59 dx), (dx, pacerD w.params k1 k2 k3 k4 k5 size u1 mo u2 lf u3 sf u4 (.int cost u5))] ++ own) →
      o'.IsDictOf (PySem.strKind PySem.Challenge.rw_aw0001_01.row.prog w) (purseL (.int cost v1) mo v2 lf2 v3 sf2 v4 sl ho v6 to) → lf = payL (fillL le se mo now) cost → sf = fillS se now → lf2 = lf → sf2 = sf → Q .none { s with heap := h', toks := tk } := by
    intros; subst_vars; apply hQ rfl rfl <;> assumption
  walk_at "mine enter"
  walk_at "mine steps"
  all_goals (unfold OwnBack; intro hown; exact hQ2 (by assumption) (news_own (by assumption) No hown) (by assumption) (by ((unfold payL fillL; repeat' split) <;> omega)) (by ((unfold fillS; repeat' split) <;> omega)) (by ((repeat' split) <;> omega)) (by omega))
end Mine
namespace Mine
local macro_rules | `(tactic| walk_at "mine steps") => `(tactic| repeat' ((fail_if_success (with_reducible show wpAny _ _ (pyIter _) _ _ _)); (fail_if_success (with_reducible show OwnBack _ _ _ _)); first | (k_unfold; (try dsimp only)) | (k_end; wrow_close) | walk1 | (dsimp only; walk1) | (leave1; walk_say "STEP leave1"; try dsimp only) | fail "no step"))
local macro_rules | `(tactic| walk_at "mine enter") => `(tactic| (refine wpAny_call ?_; refine' code_own ?k1 ?k2 ?k3 ?k4 ?no ?off ?k5 ?kA ?kF ?kK ?k6 ?k7 ?k8 ?k9 ?kB ?_ ?c2 ?c3 ?c4 ?c5; (case kA => exact rfl); (case kF => exact rfl); (case kK => assumption); (case k1 => k_asm); (case k2 => k_asm); (case k3 => k_asm); (case k4 => k_asm); (case no => k_asm); (case off => assumption); (case k5 => k_asm); (case k6 => k_is); (case k7 => k_is); (case k8 => k_room); (case k9 => exact BindsTo.of_eq rfl); (case c5 => decide); (case kB => exact locs rfl); (case c2 => exact rfl); (case c3 => exact rfl); (case c4 => exact rfl); k_whole; intro g' L' h' FG' F' N' B' X' T' hog'; (try dsimp only); (try k_lift B'); (try k_fold)))
local macro_rules | `(tactic| walk_at "pyIter ref") => `(tactic| ((with_reducible show wpAny _ _ (pyIter (Value.ref _)) (fun it s₂ => LoopAtV _ _ _ _ _ _ _ _ _ it s₂) _ _); (rename Fr _ _ _ _ => lF'); (rename News _ _ _ _ => lN'); (rename IsRange _ _ _ _ _ _ _ _ => rgX); (with_unfolding_all refine' iter_rangeLawO [] (by rfl) (by exact rgX) (small_one (by omega) (by omega) (by omega) (by omega)) (rangeSize_nat _ _) lF' lN' (fun n' t' u' h' tk' o' hlt' hlo' hhi' F' N' => ?_) (fun u' h' tk' F' N' => ?_)) <;> (clear lF' lN'; (try dsimp only at N'); (try (first | k_lt hlt' | clear hlt')))))
local macro_rules | `(tactic| walk_at "binaryOp FloorDiv int int") => `(tactic| ((try dsimp only); (refine floordiv_int ?kbe ?_); (case kbe => omega)))
theorem few_no {ts : List Int} {mo cost k : Int} (hfew : ∀ k : Nat, k < ts.length → (ts.length : Int) - k ≤ mo.fdiv cost + 2 * ((ts.getD (ts.length - 1) 0 - ts.getD k 0).fdiv cost) + 3)
    (h0 : 0 ≤ k) (h1 : k < 0 + (((ts.length : Int) - 0).toNat : Int)) : ¬ (decide (mo.fdiv cost + 2 * ((ts.getD (-1 + (ts.length : Int)).toNat 0 - ts.getD k.toNat 0).fdiv cost) + 3 < (ts.length : Int) - k) = true) := by
  have h := hfew k.toNat (by omega)
  have e : (-1 + (ts.length : Int)).toNat = ts.length - 1 := by omega
  rw [e, decide_eq_true_eq]
  omega
local macro_rules | `(tactic| walk_at "ite") => `(tactic| refine ite_neg (few_no (by assumption) (by assumption) (by assumption)) ?_)
set_option maxRecDepth 100000 in
set_option maxHeartbeats 8000000 in
theorem few_ok : ∀ {w : World} {mg mb : Str → Option Value} {mean : ExcName → Option Value} {h₀ : Heap} {L a : Addr} {cn : Str} {cs : Scope} {ccd : Value} {m : Str → Option Value} {s : Shared} {E : Value → Shared → Prop} {Q : Value → Shared → Prop}
   {d sl : Addr} {o : Obj} {own : List (Addr × Obj)} {svs : List Value} {ts : List Int} {sn : Nat} {cost : Int} {v1 v2 v3 v4 v6 : Tok} {mo le se ho : Int} {to : Value},
   (hd.heap_39 w.params).In h₀ → Glob 0 mg mb (List.map itemOf (recsOf hd.view_39)) (scalarsOf [] ++ constsW hd.view_39) [] (namesW hd.view_39 []) h₀ →
   Top hd.view_39 (looseW hd.view_39 []) mean mg mb h₀ → Below callerA h₀ [] h₀ → cs.kind = .function → Fr h₀ L s.heap m →
   News h₀ L s.heap [(d, o), (sl, listOf svs.toArray sn)] → OwnIs h₀ L s.heap own → IntsAre svs ts →
   o.IsDictOf (PySem.strKind PySem.Challenge.rw_aw0001_01.row.prog w) (purseL (.int cost v1) mo v2 le v3 se v4 sl ho v6 to) →
   d ≠ sl → OwnOff own [d, sl] → 1 ≤ cost → ts.length ≤ 1000 →
   (∀ k : Nat, k < ts.length → (ts.length : Int) - k ≤ mo.fdiv cost + 2 * ((ts.getD (ts.length - 1) 0 - ts.getD k 0).fdiv cost) + 3) →
   (∀ {h' : Heap} {tk : Nat}, Fr h₀ L h' m → News h₀ L h' ([(d, o), (sl, listOf svs.toArray sn)] ++ own) → Q (.bool true) { s with heap := h', toks := tk }) →
   wpAny (model PySem.Challenge.rw_aw0001_01.row.prog w) (callerA.deeper (envOf cn cs L a ccd)) (call (.ref 112) [.ref d]) Q E s := by
  w_top off
  k_fill
  intro w mg mb mean h₀ L a cn cs ccd m s E Q d sl o own svs ts sn cost v1 v2 v3 v4 v6 mo le se ho to KX GL T B hk F N No hI hd' l1 hoff hc hlen hfew hQ
  walk_at "mine enter"
  repeat' ((fail_if_success (with_reducible show OwnBack _ _ _ _)); first | (k_unfold; (try dsimp only)) | (k_end; wrow_close) | walk1 | (dsimp only; walk1) | (leave1; walk_say "STEP leave1"; try dsimp only) | fail "no step")
  all_goals (unfold OwnBack; intro hown; exact hQ (by assumption) (news_own (by assumption) No hown))
end Mine
namespace Mine
local macro_rules | `(tactic| walk_at "mine steps") => `(tactic| repeat' ((fail_if_success (with_reducible show wpAny _ _ (pyIter _) _ _ _)); (fail_if_success (with_reducible show OwnBack _ _ _ _)); first | (k_unfold; (try dsimp only)) | (k_end; wrow_close) | walk1 | (dsimp only; walk1) | (leave1; walk_say "STEP leave1"; try dsimp only) | fail "no step"))
local macro_rules | `(tactic| walk_at "mine enter") => `(tactic| (refine wpAny_call ?_; refine' code_own ?k1 ?k2 ?k3 ?k4 ?no ?off ?k5 ?kA ?kF ?kK ?k6 ?k7 ?k8 ?k9 ?kB ?_ ?c2 ?c3 ?c4 ?c5; (case kA => exact rfl); (case kF => exact rfl); (case kK => assumption); (case k1 => k_asm); (case k2 => k_asm); (case k3 => k_asm); (case k4 => k_asm); (case no => k_asm); (case off => assumption); (case k5 => k_asm); (case k6 => k_is); (case k7 => k_is); (case k8 => k_room); (case k9 => exact BindsTo.of_eq rfl); (case c5 => decide); (case kB => exact locs rfl); (case c2 => exact rfl); (case c3 => exact rfl); (case c4 => exact rfl); k_whole; intro g' L' h' FG' F' N' B' X' T' hog'; (try dsimp only); (try k_lift B'); (try k_fold)))
/-- a datagram's time, the most that the purse holds -/
def costF (size window trip : Int) : Int := max 1 (min ((size * max trip 1).fdiv window) 1000000)
def mostF (size window trip : Int) : Int := (max (2 * size) (min (window.fdiv 4) (16 * size)) * max trip 1).fdiv window
theorem rtt_eq (trip : Int) : (if 1 > trip then 1 else trip) = max trip 1 := by split <;> omega
theorem in_eq (a b c : Int) : (if (if a < b then a else b) > c then if a < b then a else b else c) = max c (min b a) := by (repeat' split) <;> omega
local macro_rules | `(tactic| walk_at "binaryOp FloorDiv int int") => `(tactic| ((try dsimp only); (refine floordiv_int ?kbe ?_); (case kbe => omega)))
set_option maxRecDepth 100000 in
set_option maxHeartbeats 8000000 in
theorem rate_pacer : ∀ {w : World} {mg mb : Str → Option Value} {mean : ExcName → Option Value} {h₀ : Heap} {L a : Addr} {cn : Str} {cs : Scope} {ccd : Value} {m : Str → Option Value} {s : Shared} {E : Value → Shared → Prop} {Q : Value → Shared → Prop}
   {x dx : Addr} {own : List (Addr × Obj)} {window trip : Int} {tw tt : Tok} {k1 k2 k3 k4 k5 u1 u2 u3 u4 : Tok} {size bm bt et : Int} {pt : Value},
   (hd.heap_39 w.params).In h₀ → Glob 0 mg mb (List.map itemOf (recsOf hd.view_39)) (scalarsOf [] ++ constsW hd.view_39) [] (namesW hd.view_39 []) h₀ →
   Top hd.view_39 (looseW hd.view_39 []) mean mg mb h₀ → Below callerA h₀ [] h₀ → cs.kind = .function → Fr h₀ L s.heap m →
   News h₀ L s.heap [(x, instObj 59 dx), (dx, pacerD w.params k1 k2 k3 k4 k5 size u1 bm u2 bt u3 et u4 pt)] → OwnIs h₀ L s.heap own →
   (@LT.lt Nat _ dx x) → OwnOff own [x, dx] → 1200 ≤ size → size ≤ 1452 → 0 ≤ trip → trip ≤ 5000000 → 1000 ≤ window → window ≤ 2000000000 →
   (∀ {h' : Heap} {tk : Nat} {k1 k2 k3 k4 k5 u1 u2 u3 u4 u5 : Tok} {c mo lf : Int}, c = costF size window trip → mo = mostF size window trip → lf = min bt mo →
      Fr h₀ L h' m → News h₀ L h' ([(x, instObj 59 dx), (dx, pacerD w.params k1 k2 k3 k4 k5 size u1 mo u2 lf u3 et u4 (.int c u5))] ++ own) → Q .none { s with heap := h', toks := tk }) →
   wpAny (model PySem.Challenge.rw_aw0001_01.row.prog w) (callerA.deeper (envOf cn cs L a ccd)) (call (.ref 56) [.ref x] [(Str.ofString "congestion_window", .int window tw), (Str.ofString "smoothed_rtt", .int trip tt)]) Q E s := by
  w_top off
  k_fill
  intro w mg mb mean h₀ L a cn cs ccd m s E Q x dx own window trip tw tt k1 k2 k3 k4 k5 u1 u2 u3 u4 size bm bt et pt KX GL T B hk F N No l1 hoff hs1 hs2 ht1 ht2 hw1 hw2 hQ
  have hQ2 : ∀ {h' : Heap} {tk : Nat} {k1 k2 k3 k4 k5 u1 u2 u3 u4 u5 : Tok} {c mo lf : Int},
      Fr h₀ L h' m → News h₀ L h' ([(x, instObj 59 dx), (dx, pacerD w.params k1 k2 k3 k4 k5 size u1 mo u2 lf u3 et u4 (.int c u5))] ++ own) → c = costF size window trip → mo = mostF size window trip → lf = min bt mo → Q .none { s with heap := h', toks := tk } :=
    fun a b c d e => hQ c d e a b
  walk_at "mine enter"
  walk_at "mine steps"
  all_goals (unfold OwnBack; intro hown; exact hQ2 (by assumption) (news_own (by assumption) No hown) (by (unfold costF; rw [rtt_eq, in_eq])) (by (unfold mostF; rw [rtt_eq, in_eq])) (by omega))
set_option maxRecDepth 100000 in
set_option maxHeartbeats 8000000 in
theorem rate_purse : ∀ {w : World} {mg mb : Str → Option Value} {mean : ExcName → Option Value} {h₀ : Heap} {L a : Addr} {cn : Str} {cs : Scope} {ccd : Value} {m : Str → Option Value} {s : Shared} {E : Value → Shared → Prop} {Q : Value → Shared → Prop}
   {d sl : Addr} {o : Obj} {own : List (Addr × Obj)} {size window trip : Int} {tz tw tt : Tok} {v2 v3 v4 v6 : Tok} {mo le se ho : Int} {c to : Value},
   (hd.heap_39 w.params).In h₀ → Glob 0 mg mb (List.map itemOf (recsOf hd.view_39)) (scalarsOf [] ++ constsW hd.view_39) [] (namesW hd.view_39 []) h₀ →
   Top hd.view_39 (looseW hd.view_39 []) mean mg mb h₀ → Below callerA h₀ [] h₀ → cs.kind = .function → Fr h₀ L s.heap m →
   News h₀ L s.heap [(d, o)] → OwnIs h₀ L s.heap own → o.IsDictOf (PySem.strKind PySem.Challenge.rw_aw0001_01.row.prog w) (purseL c mo v2 le v3 se v4 sl ho v6 to) →
   OwnOff own [d] → 1200 ≤ size → size ≤ 1452 → 0 ≤ trip → trip ≤ 5000000 → 1000 ≤ window → window ≤ 2000000000 →
   (∀ {h' : Heap} {o' : Obj} {sl' : Addr} {tk : Nat} {v1 v2 v3 v4 v6 : Tok} {c mo lf : Int}, c = costF size window trip → mo = mostF size window trip → lf = min le mo →
      @LT.lt Nat _ d sl' → OwnOff own [sl', d] → Fr h₀ L h' m → News h₀ L h' ([(sl', listOf #[] 0), (d, o')] ++ own) →
      o'.IsDictOf (PySem.strKind PySem.Challenge.rw_aw0001_01.row.prog w) (purseL (.int c v1) mo v2 lf v3 se v4 sl' ho v6 to) → Q .none { s with heap := h', toks := tk }) →
   wpAny (model PySem.Challenge.rw_aw0001_01.row.prog w) (callerA.deeper (envOf cn cs L a ccd)) (call (.ref 84) [.ref d, .int size tz, .int window tw, .int trip tt]) Q E s := by
  k_fill
  intro w mg mb mean h₀ L a cn cs ccd m s E Q d sl o own size window trip tz tw tt v2 v3 v4 v6 mo le se ho c to KX GL T B hk F N No hd' hoff hs1 hs2 ht1 ht2 hw1 hw2 hQ
  have hQ2 : ∀ {h' : Heap} {o' : Obj} {sl' : Addr} {tk : Nat} {v1 v2 v3 v4 v6 : Tok} {c mo lf : Int},
      Fr h₀ L h' m → News h₀ L h' ([(sl', listOf #[] 0), (d, o')] ++ own) →
      o'.IsDictOf (PySem.strKind PySem.Challenge.rw_aw0001_01.row.prog w) (purseL (.int c v1) mo v2 lf v3 se v4 sl' ho v6 to) → OwnOff own [sl', d] → @LT.lt Nat _ d sl' → c = costF size window trip → mo = mostF size window trip → lf = min le mo → Q .none { s with heap := h', toks := tk } :=
    fun a b c d e f g i => hQ f g i e d a b c
  walk_at "mine enter"
  walk_at "mine steps"
  all_goals (unfold OwnBack; intro hown; exact hQ2 (by assumption) (news_own (by assumption) No hown) (by assumption) (by ((with_reducible rename OwnG _ _ => hg1); exact own_apart (n' := [(_, _), (_, _)]) hg1 (by assumption))) (by omega) (by (unfold costF; rw [rtt_eq, in_eq])) (by (unfold mostF; rw [rtt_eq, in_eq])) (by (split <;> omega)))
end Mine
namespace Mine
set_option maxRecDepth 100000 in
set_option maxHeartbeats 8000000 in
theorem inner_none : ∀ {w : World} {mg mb : Str → Option Value} {mean : ExcName → Option Value} {h₀ : Heap} {L a : Addr} {cs : Scope} {ccd : Value} {m : Str → Option Value} {s : Shared} {Q : Flow → Shared → Prop} {body : List Stmt}
   {I J D d x dx sl : Addr} {o oI oJ oD : Obj} {n : Nat} {now k size : Int} {tn tk tz : Tok} {k1 k2 k3 k4 k5 u1 u2 u3 u4 v2 v3 v4 v6 : Tok} {sn : Nat} {mo le se ho : Int} {to : Value},
   cs = lawDef.2 → body = innerBody →
   (hd.heap_39 w.params).In h₀ → Glob 0 mg mb (List.map itemOf (recsOf hd.view_39)) (scalarsOf [] ++ constsW hd.view_39) [] (namesW hd.view_39 []) h₀ →
   Top hd.view_39 (looseW hd.view_39 []) mean mg mb h₀ → Below callerA h₀ [] h₀ → cs.kind = .function →
   Fr h₀ L s.heap (fun y => if y = Str.ofString "turn" then some (.int k tk) else if y = Str.ofString "now" then some (.int now tn) else if y = Str.ofString "size" then some (.int size tz) else if y = Str.ofString "pacer" then some (.ref x) else if y = Str.ofString "purse" then some (.ref d) else if y = Str.ofString "numbers" then some (.ref D) else m y) →
   News h₀ L s.heap [(J, oJ), (sl, listOf #[] sn), (d, o), (x, instObj 59 dx), (dx, pacerD w.params k1 k2 k3 k4 k5 size u1 mo u2 le u3 se u4 .none), (D, oD), (I, oI)] →
   o.IsDictOf (PySem.strKind PySem.Challenge.rw_aw0001_01.row.prog w) (purseL .none mo v2 le v3 se v4 sl ho v6 to) →
   (@LT.lt Nat _ dx x ∧ @LT.lt Nat _ x d ∧ @LT.lt Nat _ d sl ∧ @LT.lt Nat _ d D ∧ @LT.lt Nat _ D I ∧ @LT.lt Nat _ I J ∧ @Ne Nat sl D ∧ @Ne Nat sl I ∧ @Ne Nat sl J) → 
   0 ≤ now → 0 ≤ le → 0 ≤ se → se ≤ now →
   wpAny (model PySem.Challenge.rw_aw0001_01.row.prog w) (callerA.deeper (envOf (Str.ofString "law") cs L a ccd)) (execs body (envOf (Str.ofString "law") cs L a ccd))
     (FreePost h₀ L J oJ (LawR w x d dx D size [(D, oD), (I, oI)] (n + 1)) s Q) (fun _ _ => False) s := by
  w_top off
  k_fill
  intro w mg mb mean h₀ L a cs ccd m s Q body I J D d x dx sl o oI oJ oD n now k size tn tk tz k1 k2 k3 k4 k5 u1 u2 u3 u4 v2 v3 v4 v6 sn mo le se ho to hcs hbody KX GL T B hk F N hd' l1 h0n h0l h0s hsn
  conv at hcs => rhs; whnf
  conv at hbody => rhs; whnf
  subst hcs hbody
  have hoff : OwnOff [(J, oJ), (sl, listOf #[] sn), (D, oD), (I, oI)] [d, x, dx] := (off_of (by ((simp only [offL, offC, and_true]); omega)))
  have hoff2 : OwnOff [(D, oD), (I, oI)] [sl] := (off_of (by ((simp only [offL, offC, and_true]); omega)))
  repeat' ((fail_if_success (with_reducible show FreePost _ _ _ _ _ _ _ _ _)); first | ((with_reducible show wpAny _ _ (call (Value.ref 98) _ _) _ _ _); refine' asked_none (own := [(J, oJ), (sl, listOf #[] sn), (D, oD), (I, oI)]) KX GL T B hk ?F ?N ?No ?d ⟨l1.1, l1.2.1⟩ hoff ?_; (case F => k_asm); (case N => ((rename News _ _ _ _ => lN); exact kst_newsOf lN (by k_allIn))); (case No => ((rename News _ _ _ _ => lN); exact kst_newsOf lN (by k_allIn))); (case d => k_asm); intro h' o' tk' v2' v3' v4' v6' F' N' hd'; (try simp only [List.cons_append, List.nil_append] at N')) | ((with_reducible show wpAny _ _ (call (Value.ref 105) _ _) _ _ _); refine' sent_none (own := [(J, oJ), (sl, listOf #[] sn), (D, oD), (I, oI)]) KX GL T B hk ?F ?N ?No ?d ⟨l1.1, l1.2.1⟩ hoff ?_; (case F => k_asm); (case N => ((rename News _ _ _ _ => lN); exact kst_newsOf lN (by k_allIn))); (case No => ((rename News _ _ _ _ => lN); exact kst_newsOf lN (by k_allIn))); (case d => k_asm); intro h' tk' F' N'; (try simp only [List.cons_append, List.nil_append] at N')) | (k_unfold; (try dsimp only)) | (k_end; wrow_close) | walk1 | (dsimp only; walk1) | (leave1; walk_say "STEP leave1"; try dsimp only) | fail "no step")
  all_goals (dsimp only [FreePost]; refine' law_end (svs := []) (ts := []) ?F ?N ?d ?h1 ?h2 ?h3 ?h4 ?h5 .nil ⟨l1.1, l1.2.1, l1.2.2.1⟩ hoff2 ⟨by omega, by omega, by omega, by omega⟩ (by first | k_all | fail) (by simp) ?h0 (.inl ⟨rfl, rfl, rfl, h0l, h0s, ?hs⟩); (case F => k_asm); (case N => ((rename News _ _ _ _ => lN); exact kst_newsOf lN (by k_allIn))); (case d => k_asm); (case h1 => rfl); (case h2 => rfl); (case h3 => rfl); (case h4 => rfl); (case h5 => rfl); (case h0 => (split <;> omega)); (case hs => (split <;> omega)))
end Mine
namespace Mine
set_option maxRecDepth 100000 in
set_option maxHeartbeats 40000000 in
theorem inner_some : ∀ {w : World} {mg mb : Str → Option Value} {mean : ExcName → Option Value} {h₀ : Heap} {L a : Addr} {cs : Scope} {ccd : Value} {m : Str → Option Value} {s : Shared} {Q : Flow → Shared → Prop} {body : List Stmt}
   {I J D d x dx sl : Addr} {o oI oJ oD : Obj} {n : Nat} {now k size cost : Int} {tn tk tz : Tok} {k1 k2 k3 k4 k5 u1 u2 u3 u4 u5 v1 v2 v3 v4 v6 : Tok} {svs : List Value} {ts : List Int} {sn : Nat} {mo le se ho : Int} {to : Value},
   cs = lawDef.2 → body = innerBody →
   (hd.heap_39 w.params).In h₀ → Glob 0 mg mb (List.map itemOf (recsOf hd.view_39)) (scalarsOf [] ++ constsW hd.view_39) [] (namesW hd.view_39 []) h₀ →
   Top hd.view_39 (looseW hd.view_39 []) mean mg mb h₀ → Below callerA h₀ [] h₀ → cs.kind = .function →
   Fr h₀ L s.heap (fun y => if y = Str.ofString "turn" then some (.int k tk) else if y = Str.ofString "now" then some (.int now tn) else if y = Str.ofString "size" then some (.int size tz) else if y = Str.ofString "pacer" then some (.ref x) else if y = Str.ofString "purse" then some (.ref d) else if y = Str.ofString "numbers" then some (.ref D) else m y) →
   News h₀ L s.heap [(J, oJ), (sl, listOf svs.toArray sn), (d, o), (x, instObj 59 dx), (dx, pacerD w.params k1 k2 k3 k4 k5 size u1 mo u2 le u3 se u4 (.int cost u5)), (D, oD), (I, oI)] →
   o.IsDictOf (PySem.strKind PySem.Challenge.rw_aw0001_01.row.prog w) (purseL (.int cost v1) mo v2 le v3 se v4 sl ho v6 to) →
   (@LT.lt Nat _ dx x ∧ @LT.lt Nat _ x d ∧ @LT.lt Nat _ d sl ∧ @LT.lt Nat _ d D ∧ @LT.lt Nat _ D I ∧ @LT.lt Nat _ I J ∧ @Ne Nat sl D ∧ @Ne Nat sl I ∧ @Ne Nat sl J) → 
   0 ≤ now → IntsAre svs ts → ts.length ≤ n → n ≤ 500 → Good cost mo le se ho now ts →
   wpAny (model PySem.Challenge.rw_aw0001_01.row.prog w) (callerA.deeper (envOf (Str.ofString "law") cs L a ccd)) (execs body (envOf (Str.ofString "law") cs L a ccd))
     (FreePost h₀ L J oJ (LawR w x d dx D size [(D, oD), (I, oI)] (n + 1)) s Q) (fun _ _ => False) s := by
  w_top off
  k_fill
  intro w mg mb mean h₀ L a cs ccd m s Q body I J D d x dx sl o oI oJ oD n now k size cost tn tk tz k1 k2 k3 k4 k5 u1 u2 u3 u4 u5 v1 v2 v3 v4 v6 svs ts sn mo le se ho to hcs hbody KX GL T B hk F N hd' l1 h0n hI hlen hn5 hG
  conv at hcs => rhs; whnf
  conv at hbody => rhs; whnf
  subst hcs hbody
  have hoff : OwnOff [(J, oJ), (sl, listOf svs.toArray sn), (D, oD), (I, oI)] [d, x, dx] := (off_of (by ((simp only [offL, offC, and_true]); omega)))
  have hoff2 : OwnOff [(D, oD), (I, oI)] [sl] := (off_of (by ((simp only [offL, offC, and_true]); omega)))
  repeat' ((fail_if_success (with_reducible show FreePost _ _ _ _ _ _ _ _ _)); first | ((with_reducible show wpAny _ _ (call (Value.ref 98) _ _) _ _ _); refine' asked_some (own := [(J, oJ), (sl, listOf svs.toArray sn), (D, oD), (I, oI)]) KX GL T B hk ?F ?N ?No ?d ⟨l1.1, l1.2.1⟩ hoff ?_; (case F => k_asm); (case N => ((rename News _ _ _ _ => lN); exact kst_newsOf lN (by k_allIn))); (case No => ((rename News _ _ _ _ => lN); exact kst_newsOf lN (by k_allIn))); (case d => k_asm); intro h' o' tk' k1' k2' k3' k4' k5' u1' u2' u3' u4' u5' v1' v2' v3' v4' v6' lf sf to' e3 e4 hto F' N' hd'; (try simp only [List.cons_append, List.nil_append] at N'); first | (rcases hto with ⟨hl, t', rfl⟩ | ⟨hl, rfl⟩ <;> first | (have hS := Good.send hG hnw e1 e2 e3 e4 (.inl ⟨hl, rfl⟩); obtain ⟨hS, hs2, hs3⟩ := hS) | (have hS := Good.send hG hnw e1 e2 e3 e4 (.inr ⟨hl, rfl⟩); obtain ⟨hS, hs2, hs3⟩ := hS)) | ((obtain rfl : ts = [] := by simpa using (by assumption : decide (ts = []) = true)); (have hG2 := Good.ask hG (Int.le_refl _) e3 e4); rcases hto with ⟨hl, t', rfl⟩ | ⟨hl, rfl⟩ <;> first | ((have hG := Good.start hG2 (now + cost)); have _ := t') | (have hG := Good.start hG2 now))) | ((with_reducible show wpAny _ _ (call (Value.ref 105) _ _) _ _ _); refine' sent_some (own := [(J, oJ), (sl, listOf svs.toArray sn), (D, oD), (I, oI)]) KX GL T B hk ?F ?N ?No ?d ⟨l1.1, l1.2.1⟩ hoff ?_; (case F => k_asm); (case N => ((rename News _ _ _ _ => lN); exact kst_newsOf lN (by k_allIn))); (case No => ((rename News _ _ _ _ => lN); exact kst_newsOf lN (by k_allIn))); (case d => k_asm); intro h' o' tk' k1' k2' k3' k4' k5' u1' u2' u3' u4' u5' v1' v2' v3' v4' v6' lf1 sf1 e1 e2 F' N' hd'; (try simp only [List.cons_append, List.nil_append] at N')) | ((with_reducible show wpAny _ _ (call (Value.ref 112) _ _) _ _ _); refine' few_ok (own := [(J, oJ), (x, instObj 59 dx), (dx, _), (D, oD), (I, oI)]) KX GL T B hk ?F ?N ?No ?I ?d ?ne ?off hG.c1 ?len ?few ?_; (case F => k_asm); (case N => ((rename News _ _ _ _ => lN); exact kst_newsOf lN (by k_allIn))); (case No => ((rename News _ _ _ _ => lN); exact kst_newsOf lN (by k_allIn))); (case I => exact ints_snoc hI _ _); (case d => k_asm); (case ne => exact Nat.ne_of_lt l1.2.2.1); (case off => exact (off_of (by ((simp only [offL, offC, and_true]); omega)))); (case len => (rw [List.length_append, List.length_singleton]; omega)); (case few => exact Good.few hS hs2 hs3 (getD_snoc _ _)); intro h' tk' F' N'; (try simp only [List.cons_append, List.nil_append] at N')) | ((with_reducible show wpAny _ _ (call (Value.builtin _) [Value.ref _, _]) _ _ _); refine' append_K ?k1 ?k2 ?k3 ?_ ?z; (case k1 => k_asm); (case k2 => k_asm); (case k3 => first | k_upd | fail); (case z => exact svs_size hI hlen hn5); intro h' F' N'; simp only [List.push_toArray] at N') | ((with_reducible show wpAny _ _ (call (Value.builtin _) [Value.int _ _, Value.int _ _]) _ _ _); refine' max_free ?k1 ?k2 ?k3 ?_; (case k1 => rfl); (case k2 => k_asm); (case k3 => k_asm); intro nw tnw h' tk' hnw F' N') | (k_unfold; (try dsimp only)) | (k_end; wrow_close) | walk1 | (dsimp only; walk1) | (leave1; walk_say "STEP leave1"; try dsimp only) | fail "no step")
  all_goals (dsimp only [FreePost]; refine' law_end ?F ?N ?d ?h1 ?h2 ?h3 ?h4 ?h5 (ints_snoc hI _ _) ⟨l1.1, l1.2.1, l1.2.2.1⟩ hoff2 ⟨by omega, by omega, by omega, by omega⟩ (by first | k_all | fail) ?len ?h0 (.inr ⟨cost, _, _, rfl, rfl, hS⟩); (case F => k_asm); (case N => ((rename News _ _ _ _ => lN); exact kst_newsOf lN (by k_allIn))); (case d => k_asm); (case h1 => rfl); (case h2 => rfl); (case h3 => rfl); (case h4 => rfl); (case h5 => rfl); (case h0 => omega); (case len => (rw [List.length_append, List.length_singleton]; omega)))
end Mine
namespace Mine
section
variable {prog : Program} {w : World} {A : Around} {E : Value → Shared → Prop} {s : Shared} {h₀ : Heap} {L : Addr} {news : List (Addr × Obj)}
/-- an item of a written list at a place that is not written: one of its ints -/
theorem item_of {value slice : PySem.Expr} {l : Addr} {arr : Array Value} {n : Nat} {ns : List Int} {k : Int} {u : Tok} {Q : Value → Shared → Prop} (N : News h₀ L s.heap news) (hm : (l, listOf arr n) ∈ news) (hi : IntsAre arr.toList ns)
    (h0 : 0 ≤ k) (h1 : k < ns.length) (hfit : k < 2 ^ 63) (h : ∀ v t, v ∈ ns → Q (.int v t) s)
    (hs : subscripted slice false (.ref l) (.int k u) = operate [.ref l, .int k u] (getItem (.ref l) (.int k u)) := by with_unfolding_all rfl) :
    wpAny (model prog w) A (subscriptTail value slice (.ref l) (.int k u)) Q E s := by
  have hL : s.heap.IsList l arr := N.isList hm
  have hlt : k.toNat < ns.length := by omega
  obtain ⟨t, hx⟩ := hi.get k.toNat ns[k.toNat] (List.getElem?_eq_getElem hlt)
  exact tail_any hL.typeIs PySem.F.slot_list_getitem.lookup (wpAny_getItem_list hL h0 hfit (by rw [← Array.getElem?_toList]; exact hx) (h _ t (List.getElem_mem hlt))) hs
theorem restate {α : Type} {M : Model} {A : Around} {E : Value → Shared → Prop} {s : Shared} {t : Sem α} {Q : α → Shared → Prop} {H : Heap} {T : Nat} (h : ∀ tk, wpAny M A t Q E { s with heap := H, toks := tk }) : wpAny M A t Q E { s with heap := H, toks := T } := h T
def JoinPost (Mid : Shared → Prop) (f : Flow) (s' : Shared) : Prop := f = .next ∧ Mid s'
theorem execs_join {st : Stmt} {rest : List Stmt} {env : Env} {Q : Flow → Shared → Prop} {M : Model} (Mid : Shared → Prop) (h1 : wpAny M A (exec st env) (JoinPost Mid) E s) (h2 : ∀ s', Mid s' → wpAny M A (execs rest env) Q E s') :
    wpAny M A (execs (st :: rest) env) Q E s := wpAny_execs_cons (wpAny_mono h1 (fun f s' h => by obtain ⟨e, hm⟩ := h; subst e; exact h2 s' hm) fun _ _ x => x)
/-- the frame between a turn's statements -/
def MidFr (h₀ : Heap) (L : Addr) (h : Heap) (x d D : Addr) (size now kd mr wh : Int) : Prop :=
  ∃ (t1 t2 t3 t4 t5 : Tok) (m' : Str → Option Value), Fr h₀ L h (fun y => if y = Str.ofString "now" then some (.int now t1) else if y = Str.ofString "where" then some (.int wh t2) else if y = Str.ofString "kind" then some (.int kd t3) else if y = Str.ofString "more" then some (.int mr t4) else if y = Str.ofString "size" then some (.int size t5) else if y = Str.ofString "pacer" then some (.ref x) else if y = Str.ofString "purse" then some (.ref d) else if y = Str.ofString "numbers" then some (.ref D) else m' y)
theorem MidFr.of {h : Heap} {x d D : Addr} {size now kd mr wh : Int} {t1 t2 t3 t4 t5 : Tok} {m' : Str → Option Value} (F : Fr h₀ L h m') (h1 : m' (Str.ofString "now") = some (.int now t1)) (h2 : m' (Str.ofString "where") = some (.int wh t2)) (h3 : m' (Str.ofString "kind") = some (.int kd t3)) (h4 : m' (Str.ofString "more") = some (.int mr t4))
    (h5 : m' (Str.ofString "size") = some (.int size t5)) (h6 : m' (Str.ofString "pacer") = some (.ref x)) (h7 : m' (Str.ofString "purse") = some (.ref d)) (h8 : m' (Str.ofString "numbers") = some (.ref D)) : MidFr h₀ L h x d D size now kd mr wh := by
  refine ⟨t1, t2, t3, t4, t5, m', ?_⟩
  have e : (fun y => if y = Str.ofString "now" then some (.int now t1) else if y = Str.ofString "where" then some (.int wh t2) else if y = Str.ofString "kind" then some (.int kd t3) else if y = Str.ofString "more" then some (.int mr t4) else if y = Str.ofString "size" then some (.int size t5) else if y = Str.ofString "pacer" then some (.ref x) else if y = Str.ofString "purse" then some (.ref d) else if y = Str.ofString "numbers" then some (.ref D) else m' y) = m' := by
    funext y
    repeat' split
    all_goals (first | (subst_vars; first | exact h1.symm | exact h2.symm | exact h3.symm | exact h4.symm | exact h5.symm | exact h6.symm | exact h7.symm | exact h8.symm) | rfl)
  rw [e]
  exact F
theorem pow_lit {a n r : Int} {t u : Tok} {Q : Value → Shared → Prop} (hn : 0 ≤ n) (hn2 : n ≤ 1000000) (ha : a.natAbs < 2 ^ 64) (he : a ^ n.toNat = r) (h : Q (.int r s.toks) { s with toks := s.toks + 1 }) :
    wpAny (model prog w) A (binaryOp .Pow (.int a t) (.int n u)) Q E s := pow_int_small hn hn2 ha (by rw [he]; exact h)
end
theorem rate_good {size window trip le se ho now c mo lf : Int} (hs1 : 1200 ≤ size) (hw1 : 1000 ≤ window) (ht : 0 ≤ trip) (l0 : 0 ≤ le) (s0 : 0 ≤ se) (s1 : se ≤ now)
    (hc : c = costF size window trip) (hm : mo = mostF size window trip) (hl : lf = min le mo) : Good c mo lf se ho now [] := by
  have hm0 : 0 ≤ mo := by
    rw [hm]
    unfold mostF
    rw [Int.fdiv_eq_ediv_of_nonneg _ (by omega)]
    exact Int.ediv_nonneg (Int.mul_nonneg (by omega) (by omega)) (by omega)
  have hc1 : 1 ≤ c := by rw [hc]; unfold costF; omega
  exact ⟨hc1, by omega, by omega, s0, s1, Paid.nil⟩
theorem LawR.mono {w : World} {x d dx D : Addr} {size : Int} {rest : List (Addr × Obj)} {n n' : Nat} {m : Str → Option Value} {nx : List (Addr × Obj)} (h : LawR w x d dx D size rest n m nx) (hn : n ≤ n') : LawR w x d dx D size rest n' m nx := by
  obtain ⟨now, tn, tz, sl, o, svs, ts, sn, k1, k2, k3, k4, k5, u1, u2, u3, u4, v2, v3, v4, v6, mo, le, se, ho, pt, c, to, h1, h2, h3, h4, h5, e, hI, hd, hlt, hoff, hl, h0, hp⟩ := h
  exact ⟨now, tn, tz, sl, o, svs, ts, sn, k1, k2, k3, k4, k5, u1, u2, u3, u4, v2, v3, v4, v6, mo, le, se, ho, pt, c, to, h1, h2, h3, h4, h5, e, hI, hd, hlt, hoff, Nat.le_trans hl hn, h0, hp⟩
end Mine
namespace Mine
theorem inner_turn {w : World} {mg mb : Str → Option Value} {mean : ExcName → Option Value} {h₀ : Heap} {L a : Addr} {cs : Scope} {ccd : Value} {m : Str → Option Value} {s : Shared} {Q : Flow → Shared → Prop} {body : List Stmt}
   {I J D d x dx : Addr} {oI oJ oD : Obj} {n : Nat} {k size : Int} {tk : Tok} {nx : List (Addr × Obj)} (hcs : cs = lawDef.2) (hb : body = innerBody)
   (KX : (hd.heap_39 w.params).In h₀) (GL : Glob 0 mg mb (List.map itemOf (recsOf hd.view_39)) (scalarsOf [] ++ constsW hd.view_39) [] (namesW hd.view_39 []) h₀)
   (T : Top hd.view_39 (looseW hd.view_39 []) mean mg mb h₀) (B : Below callerA h₀ [] h₀) (hk : cs.kind = .function)
   (F : Fr h₀ L s.heap (fun y => if y = Str.ofString "turn" then some (.int k tk) else m y)) (N : News h₀ L s.heap ((J, oJ) :: nx)) (hR : LawR w x d dx D size [(D, oD), (I, oI)] n m nx)
   (hord : @LT.lt Nat _ d D ∧ @LT.lt Nat _ D I ∧ @LT.lt Nat _ I J) (hJ : ∀ p ∈ nx, p.1 ≠ J) (hn : n ≤ 500) :
   wpAny (model PySem.Challenge.rw_aw0001_01.row.prog w) (callerA.deeper (envOf (Str.ofString "law") cs L a ccd)) (execs body (envOf (Str.ofString "law") cs L a ccd))
     (FreePost h₀ L J oJ (LawR w x d dx D size [(D, oD), (I, oI)] (n + 1)) s Q) (fun _ _ => False) s := by
  obtain ⟨now, tn, tz, sl, o, svs, ts, sn, k1, k2, k3, k4, k5, u1, u2, u3, u4, v2, v3, v4, v6, mo, le, se, ho, pt, c, to, h1, h2, h3, h4, h5, e, hI, hd, hlt, hoff, hl, h0, hp⟩ := hR
  subst e
  have a1 : @Ne Nat sl D := Ne.symm (hoff _ (.head _) _ (.head _))
  have a2 : @Ne Nat sl I := Ne.symm (hoff _ (.tail _ (.head _)) _ (.head _))
  have a3 : @Ne Nat sl J := hJ _ (.head _)
  have F' := F
  rw [law_map h1 h2 h3 h4 h5] at F'
  rcases hp with ⟨rfl, rfl, rfl, l0, s0, s1⟩ | ⟨cost, u, v, rfl, rfl, hG⟩
  · cases hI
    exact inner_none hcs hb KX GL T B hk F' N hd ⟨hlt.1, hlt.2.1, hlt.2.2, hord.1, hord.2.1, hord.2.2, a1, a2, a3⟩ h0 l0 s0 s1
  · exact inner_some hcs hb KX GL T B hk F' N hd ⟨hlt.1, hlt.2.1, hlt.2.2, hord.1, hord.2.1, hord.2.2, a1, a2, a3⟩ h0 hI hl hn hG
end Mine
namespace Mine
theorem win_bounds {size mr vi : Int} (h1 : 1200 ≤ size) (h2 : size ≤ 1452) (h : vi ∈ [size * (1 + mr.fmod 40), size * 10 + mr.fmod 100000, 1000000 + mr.fmod 1000000000]) : 1000 ≤ vi ∧ vi ≤ 2000000000 := by
  have a1 := fmod_lo mr (show (0 : Int) < 40 by omega)
  have a2 := fmod_hi mr (show (0 : Int) < 40 by omega)
  have b1 := fmod_lo mr (show (0 : Int) < 100000 by omega)
  have b2 := fmod_hi mr (show (0 : Int) < 100000 by omega)
  have c1 := fmod_lo mr (show (0 : Int) < 1000000000 by omega)
  have c2 := fmod_hi mr (show (0 : Int) < 1000000000 by omega)
  have p1 : 1200 * 1 ≤ size * (1 + mr.fmod 40) := Int.mul_le_mul h1 (by omega) (by omega) (by omega)
  have p2 : size * (1 + mr.fmod 40) ≤ 1452 * 40 := Int.mul_le_mul h2 (by omega) (by omega) (by omega)
  simp only [List.mem_cons, List.not_mem_nil, or_false] at h
  omega
theorem rest_bounds {vi : Int} (h : vi ∈ [0, 1, 40, 900, 12000, 250000, 4000000]) : 0 ≤ vi ∧ vi ≤ 4000000 := by
  simp only [List.mem_cons, List.not_mem_nil, or_false] at h
  omega
theorem trip_bounds {vi : Int} (h : vi ∈ [0, 1, 70, 1000, 25000, 333333, 4000000]) : 0 ≤ vi ∧ vi ≤ 4000000 := by
  simp only [List.mem_cons, List.not_mem_nil, or_false] at h
  omega
theorem trip_all {vi wh : Int} (h : 0 ≤ vi ∧ vi ≤ 4000000) : 0 ≤ vi + (wh.fdiv 21).fmod 50 ∧ vi + (wh.fdiv 21).fmod 50 ≤ 5000000 := by
  have a1 := fmod_lo (wh.fdiv 21) (show (0 : Int) < 50 by omega)
  have a2 := fmod_hi (wh.fdiv 21) (show (0 : Int) < 50 by omega)
  omega
theorem LawR.drop {w : World} {x d dx D I : Addr} {oD oI : Obj} {size : Int} {n : Nat} {m : Str → Option Value} {nx : List (Addr × Obj)} (h : LawR w x d dx D size [(D, oD), (I, oI)] n m nx) (h1 : @LT.lt Nat _ d I) (h2 : @LT.lt Nat _ D I) :
    ∃ nx', LawR w x d dx D size [(D, oD)] n m nx' ∧ (∀ p ∈ (I, oI) :: nx', p ∈ nx) ∧ ∀ p ∈ nx', p.1 ≠ I := by
  obtain ⟨now, tn, tz, sl, o, svs, ts, sn, k1, k2, k3, k4, k5, u1, u2, u3, u4, v2, v3, v4, v6, mo, le, se, ho, pt, c, to, e1, e2, e3, e4, e5, e, hI, hd, hlt, hoff, hl, h0, hp⟩ := h
  refine ⟨_, ⟨now, tn, tz, sl, o, svs, ts, sn, k1, k2, k3, k4, k5, u1, u2, u3, u4, v2, v3, v4, v6, mo, le, se, ho, pt, c, to, e1, e2, e3, e4, e5, rfl, hI, hd, hlt, fun p hp => hoff p (by rw [List.mem_singleton.mp hp]; exact .head _), hl, h0, hp⟩, ?_, ?_⟩
  · subst e
    intro p hp
    simp only [List.mem_cons, List.not_mem_nil, or_false] at hp ⊢
    rcases hp with h | h | h | h | h | h <;> simp [h]
  · have a : @Ne Nat I sl := hoff _ (.tail _ (.head _)) _ (.head _)
    intro p hp
    simp only [List.mem_cons, List.not_mem_nil, or_false] at hp
    rcases hp with h | h | h | h | h <;> (rw [h]; dsimp only; first | exact Ne.symm a | exact Nat.ne_of_lt (by omega))
set_option maxHeartbeats 1000000 in
theorem law_of {w : World} {x d dx D : Addr} {size : Int} {rest : List (Addr × Obj)} {n : Nat} {m' : Str → Option Value} {now : Int} {tn tz : Tok} {sl : Addr} {o : Obj} {svs : List Value} {ts : List Int} {sn : Nat} {k1 k2 k3 k4 k5 u1 u2 u3 u4 v2 v3 v4 v6 : Tok} {mo le se ho : Int} {pt c to : Value}
    (hd : o.IsDictOf (PySem.strKind PySem.Challenge.rw_aw0001_01.row.prog w) (purseL c mo v2 le v3 se v4 sl ho v6 to))
    (h1 : m' (Str.ofString "now") = some (.int now tn)) (h2 : m' (Str.ofString "size") = some (.int size tz)) (h3 : m' (Str.ofString "pacer") = some (.ref x)) (h4 : m' (Str.ofString "purse") = some (.ref d)) (h5 : m' (Str.ofString "numbers") = some (.ref D))
    (hI : IntsAre svs ts) (hlt : @LT.lt Nat _ dx x ∧ @LT.lt Nat _ x d ∧ @LT.lt Nat _ d sl) (hoff : OwnOff rest [sl]) (hn : ts.length ≤ n) (h0 : 0 ≤ now)
    (hp : (pt = .none ∧ c = .none ∧ ts = [] ∧ 0 ≤ le ∧ 0 ≤ se ∧ se ≤ now) ∨ ∃ (cost : Int) (u v : Tok), pt = .int cost u ∧ c = .int cost v ∧ Good cost mo le se ho now ts) :
    LawR w x d dx D size rest n m' ((sl, listOf svs.toArray sn) :: (d, o) :: (x, instObj 59 dx) :: (dx, pacerD w.params k1 k2 k3 k4 k5 size u1 mo u2 le u3 se u4 pt) :: rest) :=
  ⟨now, tn, tz, sl, o, svs, ts, sn, k1, k2, k3, k4, k5, u1, u2, u3, u4, v2, v3, v4, v6, mo, le, se, ho, pt, c, to, h1, h2, h3, h4, h5, rfl, hI, hd, hlt, hoff, hn, h0, hp⟩
end Mine
namespace Mine
set_option maxRecDepth 100000 in
set_option maxHeartbeats 60000000 in
theorem main_none : ∀ {w : World} {mg mb : Str → Option Value} {mean : ExcName → Option Value} {h₀ : Heap} {L a : Addr} {cs : Scope} {ccd : Value} {m : Str → Option Value} {s : Shared} {Q : Flow → Shared → Prop} {body : List Stmt}
   {I D d x dx sl : Addr} {o oI : Obj} {n i : Nat} {now size : Int} {tn ta tz : Tok} {k1 k2 k3 k4 k5 u1 u2 u3 u4 v2 v3 v4 v6 : Tok} {sn : Nat} {mo le se ho : Int} {to : Value} {ws : List Value} {nums : List Int} {dn : Nat} ,
   cs = lawDef.2 → body = turnBody →
   (hd.heap_39 w.params).In h₀ → Glob 0 mg mb (List.map itemOf (recsOf hd.view_39)) (scalarsOf [] ++ constsW hd.view_39) [] (namesW hd.view_39 []) h₀ →
   Top hd.view_39 (looseW hd.view_39 []) mean mg mb h₀ → Below callerA h₀ [] h₀ → cs.kind = .function →
   Fr h₀ L s.heap (fun y => if y = Str.ofString "at" then some (.int (0 + (i : Int) * 2) ta) else if y = Str.ofString "now" then some (.int now tn) else if y = Str.ofString "size" then some (.int size tz) else if y = Str.ofString "pacer" then some (.ref x) else if y = Str.ofString "purse" then some (.ref d) else if y = Str.ofString "numbers" then some (.ref D) else m y) →
   News h₀ L s.heap [(I, oI), (sl, listOf #[] sn), (d, o), (x, instObj 59 dx), (dx, pacerD w.params k1 k2 k3 k4 k5 size u1 mo u2 le u3 se u4 .none), (D, listOf ws.toArray dn)] →
   o.IsDictOf (PySem.strKind PySem.Challenge.rw_aw0001_01.row.prog w) (purseL .none mo v2 le v3 se v4 sl ho v6 to) →
   (@LT.lt Nat _ dx x ∧ @LT.lt Nat _ x d ∧ @LT.lt Nat _ d sl ∧ @LT.lt Nat _ d D ∧ @LT.lt Nat _ D I ∧ @Ne Nat sl D ∧ @Ne Nat sl I) →
   IntsAre ws nums → i * 2 < nums.length → nums.length ≤ 63 → n ≤ 200 → 1200 ≤ size → size ≤ 1452 → 0 ≤ now → 0 ≤ le → 0 ≤ se → se ≤ now →
   wpAny (model PySem.Challenge.rw_aw0001_01.row.prog w) (callerA.deeper (envOf (Str.ofString "law") cs L a ccd)) (execs body (envOf (Str.ofString "law") cs L a ccd))
     (FreePost h₀ L I oI (LawR w x d dx D size [(D, listOf ws.toArray dn)] (n + 4)) s Q) (fun _ _ => False) s := by
  w_top off
  k_fill
  intro w mg mb mean h₀ L a cs ccd m s Q body I D d x dx sl o oI n i now size tn ta tz k1 k2 k3 k4 k5 u1 u2 u3 u4 v2 v3 v4 v6 sn mo le se ho to ws nums dn hcs hbody KX GL T B hk F N hd' l1 hWs hiL hnL hn2 hz1 hz2 h0n h0l h0s hsn
  conv at hcs => rhs; whnf
  conv at hbody => rhs; whnf
  subst hcs hbody
  have hoff : OwnOff [(I, oI), (sl, listOf #[] sn), (D, listOf ws.toArray dn)] [d, x, dx] := (off_of (by ((simp only [offL, offC, and_true]); omega)))
  have hoff2 : OwnOff [(D, listOf ws.toArray dn)] [sl] := (off_of (by ((simp only [offL, offC, and_true]); omega)))
  repeat' ((fail_if_success (with_reducible show wpAny _ _ (execs [_, _, _] _) _ _ _)); first | ((with_reducible show wpAny _ _ (execs (_ :: _) _) _ _ _); refine' restate (s := s) ?_; intro tk'; (try dsimp only); refine wpAny_execs_cons ?_; (try dsimp only)) | ((with_reducible show wpAny _ _ (subscriptTail _ _ (Value.ref _) (Value.int (Int.fmod _ _) _)) _ _ _); first | ((refine' item_of ?N ?hm (.cons _ _ (.cons _ _ (.cons _ _ (.cons _ _ (.cons _ _ (.cons _ _ (.cons _ _ .nil))))))) ?h0 ?h1 ?hf ?_; (case N => k_asm); (case hm => first | k_mem | fail); (case h0 => exact fmod_lo _ (by omega)); (case h1 => (refine Int.lt_of_lt_of_le (fmod_hi _ (by omega)) ?_; simp)); (case hf => (refine Int.lt_of_lt_of_le (fmod_hi _ (by omega)) ?_; omega)); intro vi ti hvi); first | have hrb := rest_bounds hvi | have htb := trip_bounds hvi) | ((refine' item_of ?N ?hm (.cons _ _ (.cons _ _ (.cons _ _ .nil))) ?h0 ?h1 ?hf ?_; (case N => k_asm); (case hm => first | k_mem | fail); (case h0 => exact fmod_lo _ (by omega)); (case h1 => (refine Int.lt_of_lt_of_le (fmod_hi _ (by omega)) ?_; simp)); (case hf => (refine Int.lt_of_lt_of_le (fmod_hi _ (by omega)) ?_; omega)); intro vi ti hvi); have hwb := win_bounds hz1 hz2 hvi)) | ((with_reducible show wpAny _ _ (binaryOp Operator.Pow (Value.int _ _) (Value.int _ _)) _ _ _); first | refine pow_lit (r := 1000000) (by decide) (by decide) (by decide) (by decide) ?_ | refine pow_lit (r := 1000000000) (by decide) (by decide) (by decide) (by decide) ?_) | (k_unfold; (try dsimp only)) | (k_end; wrow_close) | walk1 | (dsimp only; walk1) | (leave1; walk_say "STEP leave1"; try dsimp only) | fail "no step")
  refine execs_join (fun s' => ∃ h' tk kd mr wh, s' = { s with heap := h', toks := tk } ∧ MidFr h₀ L h' x d D size now kd mr wh ∧ News h₀ L h' [(I, oI), (sl, listOf #[] sn), (d, o), (x, instObj 59 dx), (dx, pacerD w.params k1 k2 k3 k4 k5 size u1 mo u2 le u3 se u4 .none), (D, listOf ws.toArray dn)]) ?_ ?_
  · repeat' ((fail_if_success (with_reducible show JoinPost _ _ _)); first | ((with_reducible show wpAny _ _ (execs (_ :: _) _) _ _ _); refine' restate (s := s) ?_; intro tk'; (try dsimp only); refine wpAny_execs_cons ?_; (try dsimp only)) | ((with_reducible show wpAny _ _ (subscriptTail _ _ (Value.ref _) (Value.int (Int.fmod _ _) _)) _ _ _); first | ((refine' item_of ?N ?hm (.cons _ _ (.cons _ _ (.cons _ _ (.cons _ _ (.cons _ _ (.cons _ _ (.cons _ _ .nil))))))) ?h0 ?h1 ?hf ?_; (case N => k_asm); (case hm => first | k_mem | fail); (case h0 => exact fmod_lo _ (by omega)); (case h1 => (refine Int.lt_of_lt_of_le (fmod_hi _ (by omega)) ?_; simp)); (case hf => (refine Int.lt_of_lt_of_le (fmod_hi _ (by omega)) ?_; omega)); intro vi ti hvi); first | have hrb := rest_bounds hvi | have htb := trip_bounds hvi) | ((refine' item_of ?N ?hm (.cons _ _ (.cons _ _ (.cons _ _ .nil))) ?h0 ?h1 ?hf ?_; (case N => k_asm); (case hm => first | k_mem | fail); (case h0 => exact fmod_lo _ (by omega)); (case h1 => (refine Int.lt_of_lt_of_le (fmod_hi _ (by omega)) ?_; simp)); (case hf => (refine Int.lt_of_lt_of_le (fmod_hi _ (by omega)) ?_; omega)); intro vi ti hvi); have hwb := win_bounds hz1 hz2 hvi)) | ((with_reducible show wpAny _ _ (binaryOp Operator.Pow (Value.int _ _) (Value.int _ _)) _ _ _); first | refine pow_lit (r := 1000000) (by decide) (by decide) (by decide) (by decide) ?_ | refine pow_lit (r := 1000000000) (by decide) (by decide) (by decide) (by decide) ?_) | (k_unfold; (try dsimp only)) | (k_end; wrow_close) | walk1 | (dsimp only; walk1) | (leave1; walk_say "STEP leave1"; try dsimp only) | fail "no step")
    all_goals (refine' ⟨rfl, _, _, _, _, _, rfl, MidFr.of ?F ?h1 ?h2 ?h3 ?h4 ?h5 ?h6 ?h7 ?h8, ?N⟩; (case F => k_asm); (case h1 => rfl); (case h2 => rfl); (case h3 => rfl); (case h4 => rfl); (case h5 => rfl); (case h6 => rfl); (case h7 => rfl); (case h8 => rfl); (case N => ((rename News _ _ _ _ => lN); exact kst_newsOf lN (by k_allIn))))
  try clear F
  try clear N
  rintro s2 ⟨h2, tk2, kd, mr, wh, rfl, ⟨t1, t2, t3, t4, t5, m2, F⟩, N⟩
  refine execs_join (fun s' => ∃ h' tk now', s' = { s with heap := h', toks := tk } ∧ now ≤ now' ∧ MidFr h₀ L h' x d D size now' kd mr wh ∧ News h₀ L h' [(I, oI), (sl, listOf #[] sn), (d, o), (x, instObj 59 dx), (dx, pacerD w.params k1 k2 k3 k4 k5 size u1 mo u2 le u3 se u4 .none), (D, listOf ws.toArray dn)]) ?_ ?_
  · repeat' ((fail_if_success (with_reducible show JoinPost _ _ _)); first | ((with_reducible show wpAny _ _ (execs (_ :: _) _) _ _ _); refine' restate (s := s) ?_; intro tk'; (try dsimp only); refine wpAny_execs_cons ?_; (try dsimp only)) | ((with_reducible show wpAny _ _ (subscriptTail _ _ (Value.ref _) (Value.int (Int.fmod _ _) _)) _ _ _); first | ((refine' item_of ?N ?hm (.cons _ _ (.cons _ _ (.cons _ _ (.cons _ _ (.cons _ _ (.cons _ _ (.cons _ _ .nil))))))) ?h0 ?h1 ?hf ?_; (case N => k_asm); (case hm => first | k_mem | fail); (case h0 => exact fmod_lo _ (by omega)); (case h1 => (refine Int.lt_of_lt_of_le (fmod_hi _ (by omega)) ?_; simp)); (case hf => (refine Int.lt_of_lt_of_le (fmod_hi _ (by omega)) ?_; omega)); intro vi ti hvi); first | have hrb := rest_bounds hvi | have htb := trip_bounds hvi) | ((refine' item_of ?N ?hm (.cons _ _ (.cons _ _ (.cons _ _ .nil))) ?h0 ?h1 ?hf ?_; (case N => k_asm); (case hm => first | k_mem | fail); (case h0 => exact fmod_lo _ (by omega)); (case h1 => (refine Int.lt_of_lt_of_le (fmod_hi _ (by omega)) ?_; simp)); (case hf => (refine Int.lt_of_lt_of_le (fmod_hi _ (by omega)) ?_; omega)); intro vi ti hvi); have hwb := win_bounds hz1 hz2 hvi)) | ((with_reducible show wpAny _ _ (binaryOp Operator.Pow (Value.int _ _) (Value.int _ _)) _ _ _); first | refine pow_lit (r := 1000000) (by decide) (by decide) (by decide) (by decide) ?_ | refine pow_lit (r := 1000000000) (by decide) (by decide) (by decide) (by decide) ?_) | (k_unfold; (try dsimp only)) | (k_end; wrow_close) | walk1 | (dsimp only; walk1) | (leave1; walk_say "STEP leave1"; try dsimp only) | fail "no step")
    all_goals (refine' ⟨rfl, _, _, _, rfl, ?hv, MidFr.of ?F ?h1 ?h2 ?h3 ?h4 ?h5 ?h6 ?h7 ?h8, ?N⟩; (case F => k_asm); (case h1 => rfl); (case h2 => rfl); (case h3 => rfl); (case h4 => rfl); (case h5 => rfl); (case h6 => rfl); (case h7 => rfl); (case h8 => rfl); (case N => ((rename News _ _ _ _ => lN); exact kst_newsOf lN (by k_allIn))); (case hv => omega))
  try clear F
  try clear N
  rintro s3 ⟨h3, tk3, now', rfl, hnow, ⟨t1, t2, t3, t4, t5, m2, F⟩, N⟩
  repeat' ((fail_if_success (with_reducible show FreePost _ _ _ _ _ _ _ _ _)); first | ((with_reducible show wpAny _ _ (execs (_ :: _) _) _ _ _); refine' restate (s := s) ?_; intro tk'; (try dsimp only); refine wpAny_execs_cons ?_; (try dsimp only)) | ((with_reducible show wpAny _ _ (subscriptTail _ _ (Value.ref _) (Value.int (Int.fmod _ _) _)) _ _ _); first | ((refine' item_of ?N ?hm (.cons _ _ (.cons _ _ (.cons _ _ (.cons _ _ (.cons _ _ (.cons _ _ (.cons _ _ .nil))))))) ?h0 ?h1 ?hf ?_; (case N => k_asm); (case hm => first | k_mem | fail); (case h0 => exact fmod_lo _ (by omega)); (case h1 => (refine Int.lt_of_lt_of_le (fmod_hi _ (by omega)) ?_; simp)); (case hf => (refine Int.lt_of_lt_of_le (fmod_hi _ (by omega)) ?_; omega)); intro vi ti hvi); first | have hrb := rest_bounds hvi | have htb := trip_bounds hvi) | ((refine' item_of ?N ?hm (.cons _ _ (.cons _ _ (.cons _ _ .nil))) ?h0 ?h1 ?hf ?_; (case N => k_asm); (case hm => first | k_mem | fail); (case h0 => exact fmod_lo _ (by omega)); (case h1 => (refine Int.lt_of_lt_of_le (fmod_hi _ (by omega)) ?_; simp)); (case hf => (refine Int.lt_of_lt_of_le (fmod_hi _ (by omega)) ?_; omega)); intro vi ti hvi); have hwb := win_bounds hz1 hz2 hvi)) | ((with_reducible show wpAny _ _ (binaryOp Operator.Pow (Value.int _ _) (Value.int _ _)) _ _ _); first | refine pow_lit (r := 1000000) (by decide) (by decide) (by decide) (by decide) ?_ | refine pow_lit (r := 1000000000) (by decide) (by decide) (by decide) (by decide) ?_) | ((with_reducible show wpAny _ _ (call (Value.ref 56) _ _) _ _ _); (with_unfolding_all refine' rate_pacer (own := [(I, oI), (sl, listOf #[] sn), (d, o), (D, listOf ws.toArray dn)]) KX GL T B hk ?F ?N ?No l1.1 ?off hz1 hz2 (trip_all htb).1 (trip_all htb).2 hwb.1 hwb.2 ?_); (case F => k_asm); (case N => ((rename News _ _ _ _ => lN); exact kst_newsOf lN (by k_allIn))); (case No => ((rename News _ _ _ _ => lN); exact kst_newsOf lN (by k_allIn))); (case off => exact (off_of (by ((simp only [offL, offC, and_true]); omega)))); intro h' tk' k1' k2' k3' k4' k5' u1' u2' u3' u4' u5' c1 mo1 lf1 ec1 em1 el1 F' N'; (try simp only [List.cons_append, List.nil_append] at N')) | ((with_reducible show wpAny _ _ (call (Value.ref 84) _ _) _ _ _); refine' rate_purse (own := [(I, oI), (x, instObj 59 dx), (dx, _), (D, listOf ws.toArray dn)]) KX GL T B hk ?F ?N ?No ?d ?off hz1 hz2 (trip_all htb).1 (trip_all htb).2 hwb.1 hwb.2 ?_; (case F => k_asm); (case N => ((rename News _ _ _ _ => lN); exact kst_newsOf lN (by k_allIn))); (case No => ((rename News _ _ _ _ => lN); exact kst_newsOf lN (by k_allIn))); (case d => k_asm); (case off => exact (off_of (by ((simp only [offL, offC, and_true]); omega)))); intro h' o' sl2 tk' v1' v2' v3' v4' v6' c2 mo2 lf2 ec2 em2 el2 hsl hof F' N' hd'; (obtain rfl : c2 = c1 := ec2.trans ec1.symm); (obtain rfl : mo2 = mo1 := em2.trans em1.symm); (obtain rfl : lf2 = lf1 := el2.trans el1.symm); (try simp only [List.cons_append, List.nil_append] at N')) | ((with_reducible show wpAny _ _ (call (Value.ref 98) _ _) _ _ _); refine' asked_none (own := [(I, oI), (sl, listOf #[] sn), (D, listOf ws.toArray dn)]) KX GL T B hk ?F ?N ?No ?d ⟨l1.1, l1.2.1⟩ hoff ?_; (case F => k_asm); (case N => ((rename News _ _ _ _ => lN); exact kst_newsOf lN (by k_allIn))); (case No => ((rename News _ _ _ _ => lN); exact kst_newsOf lN (by k_allIn))); (case d => k_asm); intro h' o' tk' v2' v3' v4' v6' F' N' hd'; (try simp only [List.cons_append, List.nil_append] at N')) | ((with_reducible show wpAny _ _ (call (Value.ref 105) _ _) _ _ _); refine' sent_none (own := [(I, oI), (sl, listOf #[] sn), (D, listOf ws.toArray dn)]) KX GL T B hk ?F ?N ?No ?d ⟨l1.1, l1.2.1⟩ hoff ?_; (case F => k_asm); (case N => ((rename News _ _ _ _ => lN); exact kst_newsOf lN (by k_allIn))); (case No => ((rename News _ _ _ _ => lN); exact kst_newsOf lN (by k_allIn))); (case d => k_asm); intro h' tk' F' N'; (try simp only [List.cons_append, List.nil_append] at N')) | ((with_reducible show wpAny _ _ (pyIter (Value.ref _)) _ _ _); (with_reducible rename IsRange _ _ _ _ _ _ _ _ => rgX); (with_unfolding_all refine' range_free (news := (sl, listOf #[] sn) :: (d, o) :: (x, instObj 59 dx) :: (dx, _) :: [(D, listOf ws.toArray dn), (I, oI)]) (fun j => LawR w x d dx D size [(D, listOf ws.toArray dn), (I, oI)] (n + j)) ?hh rgX ?hs ?hn ?F ?N ?h0 ?turn ?_); (case hh => rfl); (case hs => decide); (case hn => exact rangeSize_nat _ _); (case F => k_asm); (case N => ((rename News _ _ _ _ => lN); exact kst_newsOf lN (by k_allIn))); (case h0 => (refine' law_of (svs := []) ?d ?h1 ?h2 ?h3 ?h4 ?h5 ?hI ⟨l1.1, l1.2.1, l1.2.2.1⟩ (off_of (by ((simp only [offL, offC, and_true]); omega))) ?len ?h0 ?hp; (case d => k_asm); (case h1 => rfl); (case h2 => rfl); (case h3 => rfl); (case h4 => rfl); (case h5 => rfl); (case hI => first | exact hI | exact .nil); (case len => first | exact hlen | simp); (case h0 => omega); (case hp => first | exact .inr ⟨_, _, _, rfl, rfl, hG⟩ | exact .inl ⟨rfl, rfl, rfl, h0l, h0s, by omega⟩))); (case turn => (intro i2 t2 m1 nx hp2 tk2 J oJ hi2 hR hlt2 hne2 F N; exact wpAny_mono (inner_turn rfl rfl KX GL T B hk F N hR ⟨l1.2.2.2.1, l1.2.2.2.2.1, hlt2 (I, oI) (by first | k_mem | fail)⟩ hne2 (by omega)) (fun _ _ p => p) (fun _ _ h => h.elim))); intro m1 nx hp2 tk2 hRd Fd Nd) | ((with_reducible show wpAny _ _ (call (Value.builtin _) [Value.int _ _, Value.int _ _]) _ _ _); refine' max_free ?k1 ?k2 ?k3 ?_; (case k1 => rfl); (case k2 => k_asm); (case k3 => k_asm); intro nw tnw h' tk' hnw F' N') | (k_unfold; (try dsimp only)) | (k_end; wrow_close) | walk1 | (dsimp only; walk1) | (leave1; walk_say "STEP leave1"; try dsimp only) | fail "no step")
  all_goals first
    | (dsimp only [FreePost]; obtain ⟨nx', hR', hsub, hne⟩ := LawR.drop hRd (by omega) (by omega); exact FreeEnd.intro Fd (kst_newsOf Nd hsub) hne (hR'.mono (by omega)))
    | (dsimp only [FreePost]; refine' law_end (svs := []) ?F ?N ?d ?h1 ?h2 ?h3 ?h4 ?h5 ?hI ?hlt ?hoff ?hJ ?hJr ?len ?h0 ?hp; (case F => k_asm); (case d => k_asm); (case N => ((rename News _ _ _ _ => lN); exact kst_newsOf lN (by k_allIn))); (case h1 => rfl); (case h2 => rfl); (case h3 => rfl); (case h4 => rfl); (case h5 => rfl); (case hI => exact .nil); (case hlt => exact ⟨l1.1, l1.2.1, hsl⟩); (case hoff => exact (fun p hp b hb => hof p (by rw [List.mem_singleton.mp hp]; first | k_mem | fail) b (by rw [List.mem_singleton.mp hb]; exact .head _))); (case hJ => (refine ⟨Ne.symm (hof (I, oI) (by first | k_mem | fail) _ (.head _)), ?_, ?_, ?_⟩ <;> omega)); (case hJr => first | k_all | fail); (case len => simp); (case h0 => omega); (case hp => exact .inr ⟨_, _, _, rfl, rfl, rate_good hz1 hwb.1 (trip_all htb).1 h0l h0s (by omega) ec1 em1 el1⟩))
    | (dsimp only [FreePost]; refine' law_end (svs := []) ?F ?N ?d ?h1 ?h2 ?h3 ?h4 ?h5 ?hI ?hlt ?hoff ?hJ ?hJr ?len ?h0 ?hp; (case F => k_asm); (case d => k_asm); (case N => ((rename News _ _ _ _ => lN); exact kst_newsOf lN (by k_allIn))); (case h1 => rfl); (case h2 => rfl); (case h3 => rfl); (case h4 => rfl); (case h5 => rfl); (case hI => exact .nil); (case hlt => exact ⟨l1.1, l1.2.1, l1.2.2.1⟩); (case hoff => exact hoff2); (case hJ => (refine ⟨?_, ?_, ?_, ?_⟩ <;> omega)); (case hJr => first | k_all | fail); (case len => simp); (case h0 => omega); (case hp => exact .inl ⟨rfl, rfl, rfl, h0l, h0s, by omega⟩))
    | (dsimp only [FreePost]; refine' law_end (svs := []) ?F ?N ?d ?h1 ?h2 ?h3 ?h4 ?h5 ?hI ?hlt ?hoff ?hJ ?hJr ?len ?h0 ?hp; (case F => k_asm); (case d => k_asm); (case N => ((rename News _ _ _ _ => lN); exact kst_newsOf lN (by k_allIn))); (case h1 => rfl); (case h2 => rfl); (case h3 => rfl); (case h4 => rfl); (case h5 => rfl); (case hI => exact .nil); (case hlt => (refine ⟨l1.1, l1.2.1, ?_⟩; omega)); (case hoff => exact (off_of (by ((simp only [offL, offC, and_true]); omega)))); (case hJ => (refine ⟨?_, ?_, ?_, ?_⟩ <;> omega)); (case hJr => first | k_all | fail); (case len => simp); (case h0 => omega); (case hp => exact .inl ⟨rfl, rfl, rfl, h0l, h0s, by omega⟩))
end Mine
namespace Mine
set_option maxRecDepth 100000 in
set_option maxHeartbeats 60000000 in
theorem main_some : ∀ {w : World} {mg mb : Str → Option Value} {mean : ExcName → Option Value} {h₀ : Heap} {L a : Addr} {cs : Scope} {ccd : Value} {m : Str → Option Value} {s : Shared} {Q : Flow → Shared → Prop} {body : List Stmt}
   {I D d x dx sl : Addr} {o oI : Obj} {n i : Nat} {now size : Int} {tn ta tz : Tok} {k1 k2 k3 k4 k5 u1 u2 u3 u4 v2 v3 v4 v6 : Tok} {sn : Nat} {mo le se ho : Int} {to : Value} {ws : List Value} {nums : List Int} {dn : Nat} {cost : Int} {u5 v1 : Tok} {svs : List Value} {ts : List Int},
   cs = lawDef.2 → body = turnBody →
   (hd.heap_39 w.params).In h₀ → Glob 0 mg mb (List.map itemOf (recsOf hd.view_39)) (scalarsOf [] ++ constsW hd.view_39) [] (namesW hd.view_39 []) h₀ →
   Top hd.view_39 (looseW hd.view_39 []) mean mg mb h₀ → Below callerA h₀ [] h₀ → cs.kind = .function →
   Fr h₀ L s.heap (fun y => if y = Str.ofString "at" then some (.int (0 + (i : Int) * 2) ta) else if y = Str.ofString "now" then some (.int now tn) else if y = Str.ofString "size" then some (.int size tz) else if y = Str.ofString "pacer" then some (.ref x) else if y = Str.ofString "purse" then some (.ref d) else if y = Str.ofString "numbers" then some (.ref D) else m y) →
   News h₀ L s.heap [(I, oI), (sl, listOf svs.toArray sn), (d, o), (x, instObj 59 dx), (dx, pacerD w.params k1 k2 k3 k4 k5 size u1 mo u2 le u3 se u4 (.int cost u5)), (D, listOf ws.toArray dn)] →
   o.IsDictOf (PySem.strKind PySem.Challenge.rw_aw0001_01.row.prog w) (purseL (.int cost v1) mo v2 le v3 se v4 sl ho v6 to) →
   (@LT.lt Nat _ dx x ∧ @LT.lt Nat _ x d ∧ @LT.lt Nat _ d sl ∧ @LT.lt Nat _ d D ∧ @LT.lt Nat _ D I ∧ @Ne Nat sl D ∧ @Ne Nat sl I) →
   IntsAre ws nums → i * 2 < nums.length → nums.length ≤ 63 → n ≤ 200 → 1200 ≤ size → size ≤ 1452 → 0 ≤ now → IntsAre svs ts → ts.length ≤ n → Good cost mo le se ho now ts →
   wpAny (model PySem.Challenge.rw_aw0001_01.row.prog w) (callerA.deeper (envOf (Str.ofString "law") cs L a ccd)) (execs body (envOf (Str.ofString "law") cs L a ccd))
     (FreePost h₀ L I oI (LawR w x d dx D size [(D, listOf ws.toArray dn)] (n + 4)) s Q) (fun _ _ => False) s := by
  w_top off
  k_fill
  intro w mg mb mean h₀ L a cs ccd m s Q body I D d x dx sl o oI n i now size tn ta tz k1 k2 k3 k4 k5 u1 u2 u3 u4 v2 v3 v4 v6 sn mo le se ho to ws nums dn cost u5 v1 svs ts hcs hbody KX GL T B hk F N hd' l1 hWs hiL hnL hn2 hz1 hz2 h0n hI hlen hG
  conv at hcs => rhs; whnf
  conv at hbody => rhs; whnf
  subst hcs hbody
  have hoff : OwnOff [(I, oI), (sl, listOf svs.toArray sn), (D, listOf ws.toArray dn)] [d, x, dx] := (off_of (by ((simp only [offL, offC, and_true]); omega)))
  have hoff2 : OwnOff [(D, listOf ws.toArray dn)] [sl] := (off_of (by ((simp only [offL, offC, and_true]); omega)))
  repeat' ((fail_if_success (with_reducible show wpAny _ _ (execs [_, _, _] _) _ _ _)); first | ((with_reducible show wpAny _ _ (execs (_ :: _) _) _ _ _); refine' restate (s := s) ?_; intro tk'; (try dsimp only); refine wpAny_execs_cons ?_; (try dsimp only)) | ((with_reducible show wpAny _ _ (subscriptTail _ _ (Value.ref _) (Value.int (Int.fmod _ _) _)) _ _ _); first | ((refine' item_of ?N ?hm (.cons _ _ (.cons _ _ (.cons _ _ (.cons _ _ (.cons _ _ (.cons _ _ (.cons _ _ .nil))))))) ?h0 ?h1 ?hf ?_; (case N => k_asm); (case hm => first | k_mem | fail); (case h0 => exact fmod_lo _ (by omega)); (case h1 => (refine Int.lt_of_lt_of_le (fmod_hi _ (by omega)) ?_; simp)); (case hf => (refine Int.lt_of_lt_of_le (fmod_hi _ (by omega)) ?_; omega)); intro vi ti hvi); first | have hrb := rest_bounds hvi | have htb := trip_bounds hvi) | ((refine' item_of ?N ?hm (.cons _ _ (.cons _ _ (.cons _ _ .nil))) ?h0 ?h1 ?hf ?_; (case N => k_asm); (case hm => first | k_mem | fail); (case h0 => exact fmod_lo _ (by omega)); (case h1 => (refine Int.lt_of_lt_of_le (fmod_hi _ (by omega)) ?_; simp)); (case hf => (refine Int.lt_of_lt_of_le (fmod_hi _ (by omega)) ?_; omega)); intro vi ti hvi); have hwb := win_bounds hz1 hz2 hvi)) | ((with_reducible show wpAny _ _ (binaryOp Operator.Pow (Value.int _ _) (Value.int _ _)) _ _ _); first | refine pow_lit (r := 1000000) (by decide) (by decide) (by decide) (by decide) ?_ | refine pow_lit (r := 1000000000) (by decide) (by decide) (by decide) (by decide) ?_) | (k_unfold; (try dsimp only)) | (k_end; wrow_close) | walk1 | (dsimp only; walk1) | (leave1; walk_say "STEP leave1"; try dsimp only) | fail "no step")
  refine execs_join (fun s' => ∃ h' tk kd mr wh, s' = { s with heap := h', toks := tk } ∧ MidFr h₀ L h' x d D size now kd mr wh ∧ News h₀ L h' [(I, oI), (sl, listOf svs.toArray sn), (d, o), (x, instObj 59 dx), (dx, pacerD w.params k1 k2 k3 k4 k5 size u1 mo u2 le u3 se u4 (.int cost u5)), (D, listOf ws.toArray dn)]) ?_ ?_
  · repeat' ((fail_if_success (with_reducible show JoinPost _ _ _)); first | ((with_reducible show wpAny _ _ (execs (_ :: _) _) _ _ _); refine' restate (s := s) ?_; intro tk'; (try dsimp only); refine wpAny_execs_cons ?_; (try dsimp only)) | ((with_reducible show wpAny _ _ (subscriptTail _ _ (Value.ref _) (Value.int (Int.fmod _ _) _)) _ _ _); first | ((refine' item_of ?N ?hm (.cons _ _ (.cons _ _ (.cons _ _ (.cons _ _ (.cons _ _ (.cons _ _ (.cons _ _ .nil))))))) ?h0 ?h1 ?hf ?_; (case N => k_asm); (case hm => first | k_mem | fail); (case h0 => exact fmod_lo _ (by omega)); (case h1 => (refine Int.lt_of_lt_of_le (fmod_hi _ (by omega)) ?_; simp)); (case hf => (refine Int.lt_of_lt_of_le (fmod_hi _ (by omega)) ?_; omega)); intro vi ti hvi); first | have hrb := rest_bounds hvi | have htb := trip_bounds hvi) | ((refine' item_of ?N ?hm (.cons _ _ (.cons _ _ (.cons _ _ .nil))) ?h0 ?h1 ?hf ?_; (case N => k_asm); (case hm => first | k_mem | fail); (case h0 => exact fmod_lo _ (by omega)); (case h1 => (refine Int.lt_of_lt_of_le (fmod_hi _ (by omega)) ?_; simp)); (case hf => (refine Int.lt_of_lt_of_le (fmod_hi _ (by omega)) ?_; omega)); intro vi ti hvi); have hwb := win_bounds hz1 hz2 hvi)) | ((with_reducible show wpAny _ _ (binaryOp Operator.Pow (Value.int _ _) (Value.int _ _)) _ _ _); first | refine pow_lit (r := 1000000) (by decide) (by decide) (by decide) (by decide) ?_ | refine pow_lit (r := 1000000000) (by decide) (by decide) (by decide) (by decide) ?_) | (k_unfold; (try dsimp only)) | (k_end; wrow_close) | walk1 | (dsimp only; walk1) | (leave1; walk_say "STEP leave1"; try dsimp only) | fail "no step")
    all_goals (refine' ⟨rfl, _, _, _, _, _, rfl, MidFr.of ?F ?h1 ?h2 ?h3 ?h4 ?h5 ?h6 ?h7 ?h8, ?N⟩; (case F => k_asm); (case h1 => rfl); (case h2 => rfl); (case h3 => rfl); (case h4 => rfl); (case h5 => rfl); (case h6 => rfl); (case h7 => rfl); (case h8 => rfl); (case N => ((rename News _ _ _ _ => lN); exact kst_newsOf lN (by k_allIn))))
  try clear F
  try clear N
  rintro s2 ⟨h2, tk2, kd, mr, wh, rfl, ⟨t1, t2, t3, t4, t5, m2, F⟩, N⟩
  refine execs_join (fun s' => ∃ h' tk now', s' = { s with heap := h', toks := tk } ∧ now ≤ now' ∧ MidFr h₀ L h' x d D size now' kd mr wh ∧ News h₀ L h' [(I, oI), (sl, listOf svs.toArray sn), (d, o), (x, instObj 59 dx), (dx, pacerD w.params k1 k2 k3 k4 k5 size u1 mo u2 le u3 se u4 (.int cost u5)), (D, listOf ws.toArray dn)]) ?_ ?_
  · repeat' ((fail_if_success (with_reducible show JoinPost _ _ _)); first | ((with_reducible show wpAny _ _ (execs (_ :: _) _) _ _ _); refine' restate (s := s) ?_; intro tk'; (try dsimp only); refine wpAny_execs_cons ?_; (try dsimp only)) | ((with_reducible show wpAny _ _ (subscriptTail _ _ (Value.ref _) (Value.int (Int.fmod _ _) _)) _ _ _); first | ((refine' item_of ?N ?hm (.cons _ _ (.cons _ _ (.cons _ _ (.cons _ _ (.cons _ _ (.cons _ _ (.cons _ _ .nil))))))) ?h0 ?h1 ?hf ?_; (case N => k_asm); (case hm => first | k_mem | fail); (case h0 => exact fmod_lo _ (by omega)); (case h1 => (refine Int.lt_of_lt_of_le (fmod_hi _ (by omega)) ?_; simp)); (case hf => (refine Int.lt_of_lt_of_le (fmod_hi _ (by omega)) ?_; omega)); intro vi ti hvi); first | have hrb := rest_bounds hvi | have htb := trip_bounds hvi) | ((refine' item_of ?N ?hm (.cons _ _ (.cons _ _ (.cons _ _ .nil))) ?h0 ?h1 ?hf ?_; (case N => k_asm); (case hm => first | k_mem | fail); (case h0 => exact fmod_lo _ (by omega)); (case h1 => (refine Int.lt_of_lt_of_le (fmod_hi _ (by omega)) ?_; simp)); (case hf => (refine Int.lt_of_lt_of_le (fmod_hi _ (by omega)) ?_; omega)); intro vi ti hvi); have hwb := win_bounds hz1 hz2 hvi)) | ((with_reducible show wpAny _ _ (binaryOp Operator.Pow (Value.int _ _) (Value.int _ _)) _ _ _); first | refine pow_lit (r := 1000000) (by decide) (by decide) (by decide) (by decide) ?_ | refine pow_lit (r := 1000000000) (by decide) (by decide) (by decide) (by decide) ?_) | (k_unfold; (try dsimp only)) | (k_end; wrow_close) | walk1 | (dsimp only; walk1) | (leave1; walk_say "STEP leave1"; try dsimp only) | fail "no step")
    all_goals (refine' ⟨rfl, _, _, _, rfl, ?hv, MidFr.of ?F ?h1 ?h2 ?h3 ?h4 ?h5 ?h6 ?h7 ?h8, ?N⟩; (case F => k_asm); (case h1 => rfl); (case h2 => rfl); (case h3 => rfl); (case h4 => rfl); (case h5 => rfl); (case h6 => rfl); (case h7 => rfl); (case h8 => rfl); (case N => ((rename News _ _ _ _ => lN); exact kst_newsOf lN (by k_allIn))); (case hv => omega))
  try clear F
  try clear N
  rintro s3 ⟨h3, tk3, now', rfl, hnow, ⟨t1, t2, t3, t4, t5, m2, F⟩, N⟩
  have hG := hG.pass hnow
  repeat' ((fail_if_success (with_reducible show FreePost _ _ _ _ _ _ _ _ _)); first | ((with_reducible show wpAny _ _ (execs (_ :: _) _) _ _ _); refine' restate (s := s) ?_; intro tk'; (try dsimp only); refine wpAny_execs_cons ?_; (try dsimp only)) | ((with_reducible show wpAny _ _ (subscriptTail _ _ (Value.ref _) (Value.int (Int.fmod _ _) _)) _ _ _); first | ((refine' item_of ?N ?hm (.cons _ _ (.cons _ _ (.cons _ _ (.cons _ _ (.cons _ _ (.cons _ _ (.cons _ _ .nil))))))) ?h0 ?h1 ?hf ?_; (case N => k_asm); (case hm => first | k_mem | fail); (case h0 => exact fmod_lo _ (by omega)); (case h1 => (refine Int.lt_of_lt_of_le (fmod_hi _ (by omega)) ?_; simp)); (case hf => (refine Int.lt_of_lt_of_le (fmod_hi _ (by omega)) ?_; omega)); intro vi ti hvi); first | have hrb := rest_bounds hvi | have htb := trip_bounds hvi) | ((refine' item_of ?N ?hm (.cons _ _ (.cons _ _ (.cons _ _ .nil))) ?h0 ?h1 ?hf ?_; (case N => k_asm); (case hm => first | k_mem | fail); (case h0 => exact fmod_lo _ (by omega)); (case h1 => (refine Int.lt_of_lt_of_le (fmod_hi _ (by omega)) ?_; simp)); (case hf => (refine Int.lt_of_lt_of_le (fmod_hi _ (by omega)) ?_; omega)); intro vi ti hvi); have hwb := win_bounds hz1 hz2 hvi)) | ((with_reducible show wpAny _ _ (binaryOp Operator.Pow (Value.int _ _) (Value.int _ _)) _ _ _); first | refine pow_lit (r := 1000000) (by decide) (by decide) (by decide) (by decide) ?_ | refine pow_lit (r := 1000000000) (by decide) (by decide) (by decide) (by decide) ?_) | ((with_reducible show wpAny _ _ (call (Value.ref 56) _ _) _ _ _); (with_unfolding_all refine' rate_pacer (own := [(I, oI), (sl, listOf svs.toArray sn), (d, o), (D, listOf ws.toArray dn)]) KX GL T B hk ?F ?N ?No l1.1 ?off hz1 hz2 (trip_all htb).1 (trip_all htb).2 hwb.1 hwb.2 ?_); (case F => k_asm); (case N => ((rename News _ _ _ _ => lN); exact kst_newsOf lN (by k_allIn))); (case No => ((rename News _ _ _ _ => lN); exact kst_newsOf lN (by k_allIn))); (case off => exact (off_of (by ((simp only [offL, offC, and_true]); omega)))); intro h' tk' k1' k2' k3' k4' k5' u1' u2' u3' u4' u5' c1 mo1 lf1 ec1 em1 el1 F' N'; (try simp only [List.cons_append, List.nil_append] at N')) | ((with_reducible show wpAny _ _ (call (Value.ref 84) _ _) _ _ _); refine' rate_purse (own := [(I, oI), (x, instObj 59 dx), (dx, _), (D, listOf ws.toArray dn)]) KX GL T B hk ?F ?N ?No ?d ?off hz1 hz2 (trip_all htb).1 (trip_all htb).2 hwb.1 hwb.2 ?_; (case F => k_asm); (case N => ((rename News _ _ _ _ => lN); exact kst_newsOf lN (by k_allIn))); (case No => ((rename News _ _ _ _ => lN); exact kst_newsOf lN (by k_allIn))); (case d => k_asm); (case off => exact (off_of (by ((simp only [offL, offC, and_true]); omega)))); intro h' o' sl2 tk' v1' v2' v3' v4' v6' c2 mo2 lf2 ec2 em2 el2 hsl hof F' N' hd'; (obtain rfl : c2 = c1 := ec2.trans ec1.symm); (obtain rfl : mo2 = mo1 := em2.trans em1.symm); (obtain rfl : lf2 = lf1 := el2.trans el1.symm); (try simp only [List.cons_append, List.nil_append] at N')) | ((with_reducible show wpAny _ _ (call (Value.ref 98) _ _) _ _ _); refine' asked_some (own := [(I, oI), (sl, listOf svs.toArray sn), (D, listOf ws.toArray dn)]) KX GL T B hk ?F ?N ?No ?d ⟨l1.1, l1.2.1⟩ hoff ?_; (case F => k_asm); (case N => ((rename News _ _ _ _ => lN); exact kst_newsOf lN (by k_allIn))); (case No => ((rename News _ _ _ _ => lN); exact kst_newsOf lN (by k_allIn))); (case d => k_asm); intro h' o' tk' k1' k2' k3' k4' k5' u1' u2' u3' u4' u5' v1' v2' v3' v4' v6' lf sf to' e3 e4 hto F' N' hd'; (try simp only [List.cons_append, List.nil_append] at N'); first | have hG2 := Good.ask hG (Int.le_refl _) e3 e4 | have hG2 := Good.ask hG (by (have hf9 := fmod_lo mr (show (0 : Int) < 3000 by omega)); omega) e3 e4) | ((with_reducible show wpAny _ _ (call (Value.ref 105) _ _) _ _ _); refine' sent_some (own := [(I, oI), (sl, listOf svs.toArray sn), (D, listOf ws.toArray dn)]) KX GL T B hk ?F ?N ?No ?d ⟨l1.1, l1.2.1⟩ hoff ?_; (case F => k_asm); (case N => ((rename News _ _ _ _ => lN); exact kst_newsOf lN (by k_allIn))); (case No => ((rename News _ _ _ _ => lN); exact kst_newsOf lN (by k_allIn))); (case d => k_asm); intro h' o' tk' k1' k2' k3' k4' k5' u1' u2' u3' u4' u5' v1' v2' v3' v4' v6' lf sf e1 e2 F' N' hd'; (try simp only [List.cons_append, List.nil_append] at N'); have hG3 := Good.spend hG e1 e2) | ((with_reducible show wpAny _ _ (pyIter (Value.ref _)) _ _ _); (with_reducible rename IsRange _ _ _ _ _ _ _ _ => rgX); (with_unfolding_all refine' range_free (news := (sl, listOf svs.toArray sn) :: (d, o) :: (x, instObj 59 dx) :: (dx, _) :: [(D, listOf ws.toArray dn), (I, oI)]) (fun j => LawR w x d dx D size [(D, listOf ws.toArray dn), (I, oI)] (n + j)) ?hh rgX ?hs ?hn ?F ?N ?h0 ?turn ?_); (case hh => rfl); (case hs => decide); (case hn => exact rangeSize_nat _ _); (case F => k_asm); (case N => ((rename News _ _ _ _ => lN); exact kst_newsOf lN (by k_allIn))); (case h0 => (refine' law_of (svs := svs) ?d ?h1 ?h2 ?h3 ?h4 ?h5 ?hI ⟨l1.1, l1.2.1, l1.2.2.1⟩ (off_of (by ((simp only [offL, offC, and_true]); omega))) ?len ?h0 ?hp; (case d => k_asm); (case h1 => rfl); (case h2 => rfl); (case h3 => rfl); (case h4 => rfl); (case h5 => rfl); (case hI => first | exact hI | exact .nil); (case len => first | exact hlen | simp); (case h0 => omega); (case hp => first | exact .inr ⟨_, _, _, rfl, rfl, hG⟩ | exact .inl ⟨rfl, rfl, rfl, h0l, h0s, by omega⟩))); (case turn => (intro i2 t2 m1 nx hp2 tk2 J oJ hi2 hR hlt2 hne2 F N; exact wpAny_mono (inner_turn rfl rfl KX GL T B hk F N hR ⟨l1.2.2.2.1, l1.2.2.2.2.1, hlt2 (I, oI) (by first | k_mem | fail)⟩ hne2 (by omega)) (fun _ _ p => p) (fun _ _ h => h.elim))); intro m1 nx hp2 tk2 hRd Fd Nd) | ((with_reducible show wpAny _ _ (call (Value.builtin _) [Value.int _ _, Value.int _ _]) _ _ _); refine' max_free ?k1 ?k2 ?k3 ?_; (case k1 => rfl); (case k2 => k_asm); (case k3 => k_asm); intro nw tnw h' tk' hnw F' N') | (k_unfold; (try dsimp only)) | (k_end; wrow_close) | walk1 | (dsimp only; walk1) | (leave1; walk_say "STEP leave1"; try dsimp only) | fail "no step")
  all_goals first
    | (dsimp only [FreePost]; obtain ⟨nx', hR', hsub, hne⟩ := LawR.drop hRd (by omega) (by omega); exact FreeEnd.intro Fd (kst_newsOf Nd hsub) hne (hR'.mono (by omega)))
    | (dsimp only [FreePost]; refine' law_end (svs := []) ?F ?N ?d ?h1 ?h2 ?h3 ?h4 ?h5 ?hI ?hlt ?hoff ?hJ ?hJr ?len ?h0 ?hp; (case F => k_asm); (case d => k_asm); (case N => ((rename News _ _ _ _ => lN); exact kst_newsOf lN (by k_allIn))); (case h1 => rfl); (case h2 => rfl); (case h3 => rfl); (case h4 => rfl); (case h5 => rfl); (case hI => exact .nil); (case hlt => exact ⟨l1.1, l1.2.1, hsl⟩); (case hoff => exact (fun p hp b hb => hof p (by rw [List.mem_singleton.mp hp]; first | k_mem | fail) b (by rw [List.mem_singleton.mp hb]; exact .head _))); (case hJ => (refine ⟨Ne.symm (hof (I, oI) (by first | k_mem | fail) _ (.head _)), ?_, ?_, ?_⟩ <;> omega)); (case hJr => first | k_all | fail); (case len => simp); (case h0 => omega); (case hp => exact .inr ⟨_, _, _, rfl, rfl, rate_good hz1 hwb.1 (trip_all htb).1 hG.l0 hG.s0 hG.s1 ec1 em1 el1⟩))
    | (dsimp only [FreePost]; refine' law_end (svs := svs) ?F ?N ?d ?h1 ?h2 ?h3 ?h4 ?h5 ?hI ?hlt ?hoff ?hJ ?hJr ?len ?h0 ?hp; (case F => k_asm); (case d => k_asm); (case N => ((rename News _ _ _ _ => lN); exact kst_newsOf lN (by k_allIn))); (case h1 => rfl); (case h2 => rfl); (case h3 => rfl); (case h4 => rfl); (case h5 => rfl); (case hI => exact hI); (case hlt => exact ⟨l1.1, l1.2.1, l1.2.2.1⟩); (case hoff => exact hoff2); (case hJ => (refine ⟨?_, ?_, ?_, ?_⟩ <;> omega)); (case hJr => first | k_all | fail); (case len => (exact Nat.le_trans hlen (by omega))); (case h0 => omega); (case hp => exact .inr ⟨_, _, _, rfl, rfl, hG2⟩))
    | (dsimp only [FreePost]; refine' law_end (svs := []) ?F ?N ?d ?h1 ?h2 ?h3 ?h4 ?h5 ?hI ?hlt ?hoff ?hJ ?hJr ?len ?h0 ?hp; (case F => k_asm); (case d => k_asm); (case N => ((rename News _ _ _ _ => lN); exact kst_newsOf lN (by k_allIn))); (case h1 => rfl); (case h2 => rfl); (case h3 => rfl); (case h4 => rfl); (case h5 => rfl); (case hI => exact .nil); (case hlt => (refine ⟨l1.1, l1.2.1, ?_⟩; omega)); (case hoff => exact (off_of (by ((simp only [offL, offC, and_true]); omega)))); (case hJ => (refine ⟨?_, ?_, ?_, ?_⟩ <;> omega)); (case hJr => first | k_all | fail); (case len => simp); (case h0 => omega); (case hp => exact .inr ⟨_, _, _, rfl, rfl, hG3⟩))
end Mine
namespace Mine
theorem main_turn {w : World} {mg mb : Str → Option Value} {mean : ExcName → Option Value} {h₀ : Heap} {L a : Addr} {cs : Scope} {ccd : Value} {m : Str → Option Value} {s : Shared} {Q : Flow → Shared → Prop} {body : List Stmt}
   {I D d x dx : Addr} {oI : Obj} {n i : Nat} {size : Int} {ta : Tok} {nx : List (Addr × Obj)} {ws : List Value} {nums : List Int} {dn : Nat} (hcs : cs = lawDef.2) (hb : body = turnBody)
   (KX : (hd.heap_39 w.params).In h₀) (GL : Glob 0 mg mb (List.map itemOf (recsOf hd.view_39)) (scalarsOf [] ++ constsW hd.view_39) [] (namesW hd.view_39 []) h₀)
   (T : Top hd.view_39 (looseW hd.view_39 []) mean mg mb h₀) (B : Below callerA h₀ [] h₀) (hk : cs.kind = .function)
   (F : Fr h₀ L s.heap (fun y => if y = Str.ofString "at" then some (.int (0 + (i : Int) * 2) ta) else m y)) (N : News h₀ L s.heap ((I, oI) :: nx)) (hR : LawR w x d dx D size [(D, listOf ws.toArray dn)] n m nx)
   (hord : @LT.lt Nat _ d D ∧ @LT.lt Nat _ D I) (hJ : ∀ p ∈ nx, p.1 ≠ I) (hWs : IntsAre ws nums) (hi : i * 2 < nums.length) (hnL : nums.length ≤ 63) (hn : n ≤ 200) (hz1 : 1200 ≤ size) (hz2 : size ≤ 1452) :
   wpAny (model PySem.Challenge.rw_aw0001_01.row.prog w) (callerA.deeper (envOf (Str.ofString "law") cs L a ccd)) (execs body (envOf (Str.ofString "law") cs L a ccd))
     (FreePost h₀ L I oI (LawR w x d dx D size [(D, listOf ws.toArray dn)] (n + 4)) s Q) (fun _ _ => False) s := by
  obtain ⟨now, tn, tz, sl, o, svs, ts, sn, k1, k2, k3, k4, k5, u1, u2, u3, u4, v2, v3, v4, v6, mo, le, se, ho, pt, c, to, h1, h2, h3, h4, h5, e, hI, hd, hlt, hoff, hl, h0, hp⟩ := hR
  subst e
  have a1 : @Ne Nat sl D := Ne.symm (hoff _ (.head _) _ (.head _))
  have a2 : @Ne Nat sl I := hJ _ (.head _)
  have F' := F
  rw [law_map h1 h2 h3 h4 h5] at F'
  rcases hp with ⟨rfl, rfl, rfl, l0, s0, s1⟩ | ⟨cost, u, v, rfl, rfl, hG⟩
  · cases hI
    exact main_none hcs hb KX GL T B hk F' N hd ⟨hlt.1, hlt.2.1, hlt.2.2, hord.1, hord.2, a1, a2⟩ hWs hi hnL hn hz1 hz2 h0 l0 s0 s1
  · exact main_some hcs hb KX GL T B hk F' N hd ⟨hlt.1, hlt.2.1, hlt.2.2, hord.1, hord.2, a1, a2⟩ hWs hi hnL hn hz1 hz2 h0 hI hl hG
theorem small_two : ∀ n : Nat, n < 64 → Builtin.Range.small 0 (n : Int) 2 = true := by decide
set_option maxHeartbeats 4000000 in
theorem main_loop {w : World} {mg mb : Str → Option Value} {mean : ExcName → Option Value} {h₀ : Heap} {L a : Addr} {cs : Scope} {ccd : Value} {m : Str → Option Value} {s : Shared} {Q : Flow → Shared → Prop} {E : Value → Shared → Prop} {body : List Stmt}
   {D d x dx sl r : Addr} {o : Obj} {now size : Int} {tn tz t₀ u₀ v₀ : Tok} {k1 k2 k3 k4 k5 u1 u2 u3 u4 v2 v3 v4 v6 : Tok} {sn : Nat} {mo le se ho : Int} {to : Value} {ws : List Value} {nums : List Int} {dn : Nat} (hcs : cs = lawDef.2) (hb : body = turnBody)
   (KX : (hd.heap_39 w.params).In h₀) (GL : Glob 0 mg mb (List.map itemOf (recsOf hd.view_39)) (scalarsOf [] ++ constsW hd.view_39) [] (namesW hd.view_39 []) h₀)
   (T : Top hd.view_39 (looseW hd.view_39 []) mean mg mb h₀) (B : Below callerA h₀ [] h₀) (hk : cs.kind = .function)
   (F : Fr h₀ L s.heap m) (hd : o.IsDictOf (PySem.strKind PySem.Challenge.rw_aw0001_01.row.prog w) (purseL .none mo v2 le v3 se v4 sl ho v6 to))
   (N : News h₀ L s.heap [(sl, listOf #[] sn), (d, o), (x, instObj 59 dx), (dx, pacerD w.params k1 k2 k3 k4 k5 size u1 mo u2 le u3 se u4 .none), (D, listOf ws.toArray dn)])
   (h1 : m (Str.ofString "now") = some (.int now tn)) (h2 : m (Str.ofString "size") = some (.int size tz)) (h3 : m (Str.ofString "pacer") = some (.ref x)) (h4 : m (Str.ofString "purse") = some (.ref d)) (h5 : m (Str.ofString "numbers") = some (.ref D))
   (hr : IsRange s.heap r 0 (nums.length : Int) 2 t₀ u₀ v₀) (hWs : IntsAre ws nums) (hnL : nums.length ≤ 48)
   (hlt : @LT.lt Nat _ dx x ∧ @LT.lt Nat _ x d ∧ @LT.lt Nat _ d sl ∧ @LT.lt Nat _ sl D) (hz1 : 1200 ≤ size) (hz2 : size ≤ 1452) (h0 : 0 ≤ now) (l0 : 0 ≤ le) (s0 : 0 ≤ se) (s1 : se ≤ now)
   (done : ∀ m₁ nx h tk, Fr h₀ L h m₁ → News h₀ L h nx → Q .next { s with heap := h, toks := tk }) :
   wpAny (model PySem.Challenge.rw_aw0001_01.row.prog w) (callerA.deeper (envOf (Str.ofString "law") cs L a ccd)) (pyIter (.ref r)) (fun it s₂ => LoopAtV PySem.Challenge.rw_aw0001_01.row.prog w (callerA.deeper (envOf (Str.ofString "law") cs L a ccd)) h₀ (envOf (Str.ofString "law") cs L a ccd) (Str.ofString "at") body Q E it s₂) E s := by
  have hoff : OwnOff [(D, listOf ws.toArray dn)] [sl] := (off_of (by ((simp only [offL, offC, and_true]); omega)))
  have hsz := rangeSize_pos (len := (nums.length : Int)) (c := 2) (by omega) (by omega)
  refine range_free (env := envOf (Str.ofString "law") cs L a ccd) (fun j => LawR w x d dx D size [(D, listOf ws.toArray dn)] (4 * j)) rfl hr (small_two _ (by omega)) (rangeSize_toNat _ _ _) F N ?_ ?_ ?_
  · exact law_of (svs := []) hd h1 h2 h3 h4 h5 .nil ⟨hlt.1, hlt.2.1, hlt.2.2.1⟩ hoff (by simp) h0 (.inl ⟨rfl, rfl, rfl, l0, s0, s1⟩)
  · intro i t m₁ nx h tk I oI hi hR hlt2 hne F' N'
    have hi2 : i * 2 < nums.length := by omega
    have hDI : @LT.lt Nat _ D I := hlt2 (D, listOf ws.toArray dn) (.tail _ (.tail _ (.tail _ (.tail _ (.head _)))))
    exact wpAny_mono (main_turn hcs hb KX GL T B hk F' N' hR ⟨by omega, hDI⟩ hne hWs hi2 (by omega) (by omega) hz1 hz2) (fun _ _ p => p) (fun _ _ h => h.elim)
  · intro m₁ nx h tk _ F' N'
    exact done m₁ nx h tk F' N'
end Mine
namespace Mine
theorem size_bounds {vi : Int} (h : vi ∈ [1200, 1280, 1452]) : 1200 ≤ vi ∧ vi ≤ 1452 := by
  simp only [List.mem_cons, List.not_mem_nil, or_false] at h
  omega
end Mine
open Mine
set_option maxRecDepth 100000 in
set_option maxHeartbeats 60000000 in
theorem PySem.Challenge.cw_aw0001_01_holds : PySem.Challenge.rw_aw0001_01.Holds := by
  w_top off
  refine Mine.hd ?_
  (k_go0; (all_goals try k_fold))
  repeat' (first | ((with_reducible show wpAny _ _ (subscriptTail _ _ (Value.ref _) (Value.int (Int.fmod _ _) _)) _ _ _); (refine' item_of ?N ?hm (.cons _ _ (.cons _ _ (.cons _ _ .nil))) ?h0 ?h1 ?hf ?_; (case N => k_asm); (case hm => first | k_mem | fail); (case h0 => exact fmod_lo _ (by omega)); (case h1 => (refine Int.lt_of_lt_of_le (fmod_hi _ (by omega)) ?_; simp)); (case hf => (refine Int.lt_of_lt_of_le (fmod_hi _ (by omega)) ?_; omega)); intro vi ti hvi); have hzb := size_bounds hvi) | ((with_reducible show wpAny _ _ (pyIter (Value.ref _)) _ _ _); (with_reducible rename IsRange _ _ _ _ _ _ _ _ => rgX); refine' main_loop rfl rfl ?KX ?GL ?T ?B ?hk ?F ?hd ?N ?h1 ?h2 ?h3 ?h4 ?h5 rgX ?hWs ?hnL ?hlt ?hz1 ?hz2 ?h0 ?l0 ?s0 ?s1 ?_; (case KX => k_asm); (case GL => k_asm); (case T => k_asm); (case B => k_asm); (case hk => rfl); (case F => k_asm); (case hd => k_asm); (case h1 => rfl); (case h2 => rfl); (case h3 => rfl); (case h4 => rfl); (case h5 => rfl); (case N => ((rename News _ _ _ _ => lN); exact kst_newsOf lN (by k_allIn))); (case hWs => k_asm); (case hnL => omega); (case hlt => (refine ⟨?_, ?_, ?_, ?_⟩ <;> omega)); (case hz1 => first | exact hzb.1 | omega | decide); (case hz2 => first | exact hzb.2 | omega | decide); (case h0 => first | exact fmod_lo _ (by omega) | omega | decide); (case l0 => omega); (case s0 => omega); (case s1 => first | exact fmod_lo _ (by omega) | omega | decide); intro m1 nx hp2 tk2 Fd Nd) | (k_unfold; (try dsimp only)) | (k_end; wrow_close) | walk1 | (dsimp only; walk1) | (leave1; walk_say "STEP leave1"; try dsimp only) | fail "no step")
